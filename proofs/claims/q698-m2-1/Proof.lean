import JvmDerived
import JvmDerived.Pilot.@@N@@Statement
import JvmDerived.Pilot.@@N@@Code
set_option linter.unusedVariables false
set_option linter.unusedSimpArgs false
namespace Jvm.Pilot.@@N@@
open Jvm Jvm.ClassFile Sem Op Lib Jvm.Free Jvm.Stand Jvm.LawKit Jvm.RoadKit Bundle Jvm.Pilot.@@N@@.Jvm.D
section OwnKit
open Jvm.FP Jvm.Free.Fl
variable {p : Program} {l : Launch} {e : Env} {R : Room} {s : State} {m : MethodId} {args : Array Value} {below : List Frame} {meth : Method} {c : Code} {T : State} {Z : State} {a0 : Array Value} {h : Heap} {n0 cells slots nc ns pc pc' : Nat} {Ls : Array Slot} {st rest : List Value} {Q : Option Value → Heap → Prop}
/-- a contract: the method returns, what it leaves is Q, and nothing below n0 is written -/
def Con (l : Launch) (Z : State) (n0 : Nat) (y : MethodName) (bytes : ByteArray) (ml : Nat) (ret : Option FieldType) (ws : List Jvm.Cond) (rm : Room) (as : Array Value) (h0 : Heap) (Q : Option Value → Heap → Prop) : Prop :=
  MetFree l y (head1 (Jvm.Cond.code y bytes ml ret :: ws) rm) (fun a U => a = as ∧ Z.Warmed39 U.vm ∧ U.heap = h0) (fun _ _ _ _ _ => True) (fun _ U o U' => ∃ v L, o = .returned v ∧ (Fr n0 L ∧ Q v U'.heap) ∧ FrameEnd U o U' L rm.cells rm.slots)
/-- where a walk stands, the places written kept to themselves -/
def Wk (p : Program) (l : Launch) (e : Env) (R : Room) (s : State) (m : MethodId) (args : Array Value) (below : List Frame) (meth : Method) (c : Code) (n0 : Nat) (T : State) (h : Heap) (cells slots : Nat) : Prop :=
  ∃ locs, Stand p l e R s m args below meth c T locs cells slots ∧ Fr n0 locs ∧ T.heap = h
/-- from t the run ends, and leaves Q -/
def Go (p : Program) (e : Env) (below : List Frame) (s : State) (n0 : Nat) (Q : Option Value → Heap → Prop) (nc ns : Nat) (t : State) : Prop :=
  ∃ s₂ o, Steps p.tables e below t s₂ ∧ s₂.status = .running ∧ Ended s₂ below o ∧ ∃ v L, o = .returned v ∧ (Fr n0 L ∧ Q v s₂.heap) ∧ FrameEnd s o s₂ L nc ns
theorem Wk.here (X : Wk p l e R s m args below meth c n0 T h cells slots) : At T m c below := by obtain ⟨_, X, -⟩ := X; exact X.here
theorem Wk.heap (X : Wk p l e R s m args below meth c n0 T h cells slots) : T.heap = h := by obtain ⟨_, -, -, q⟩ := X; exact q
theorem go_back {t t' : State} (b : ∀ target, Steps p.tables e below t' target → Steps p.tables e below t target) (k : Go p e below s n0 Q nc ns t') : Go p e below s n0 Q nc ns t := by
  obtain ⟨u, o, h1, r⟩ := k
  exact ⟨u, o, b u h1, r⟩
theorem con_start {y : MethodName} {bytes : ByteArray} {ml : Nat} {ret : Option FieldType} {ws : List Jvm.Cond} {rm : Room} {as : Array Value} {h0 : Heap} (hpl : plainFor y = true) {fr0 : MethodId → JFrame} (hfr : ∀ m, entryFrame m as ml = fr0 m)
    (k : ∀ (p : Program) (e : Env) (s : State) (m : MethodId) (below : List Frame) (meth : Method) (c : Code) (s₁ : State), p.tables.exec = Jvm.exec → Z.Warmed39 s.vm → c.code = bytes → c.maxLocals = ml → s.vm.findClass y.cls = some m.cls → meth.name = y.name → meth.sig.returnType = ret → meth.locks = false →
      Wk p l e rm s m as below meth c n0 s₁ h0 0 0 → Go p e below s n0 Q rm.cells rm.slots (s₁.setTop (fr0 m))) : Con l Z n0 y bytes ml ret ws rm as h0 Q := by
  refine MetFree.of_bodySF hpl hisR ?_
  intro p e s m args below meth c s₁ Bd hml0 hP hK
  obtain ⟨rfl, hZ, hh⟩ := hP
  rw [hfr]
  exact k p e s m below meth c s₁ Bd.exec hZ Bd.bytes hml0 (findClass_of_methodNamed Bd.named) (name_of_methodNamed Bd.named Bd.method).1 Bd.returns Bd.notSynchronized ⟨[], Stand.of_body Bd, Fr.nil n0, by rw [← hh, Bd.state]; rfl⟩
/-- what an int branch asks -/
def cP : ClassFile.Cond → Int32 → Int32 → Prop
  | .eq, x, y => x = y
  | .ne, x, y => ¬ x = y
  | .lt, x, y => x < y
  | .ge, x, y => ¬ x < y
  | .gt, x, y => y < x
  | .le, x, y => ¬ y < x
theorem cP_yes {cd : ClassFile.Cond} {x y : Int32} (q : cP cd x y) : if_icmp.holds cd x y = true := by
  cases cd
  · exact (teq q).1
  · exact (feq q).2
  · exact (tlt q).1
  · exact (flt q).2.1
  · exact (tlt q).2.2.1
  · exact (flt q).2.2.2
theorem cP_no {cd : ClassFile.Cond} {x y : Int32} (q : ¬ cP cd x y) : if_icmp.holds cd x y = false := by
  cases cd
  · exact (feq q).1
  · exact (teq (Classical.not_not.mp q)).2
  · exact (flt q).1
  · exact (tlt (Classical.not_not.mp q)).2.1
  · exact (flt q).2.2.1
  · exact (tlt (Classical.not_not.mp q)).2.2.2
theorem g_iload (X : Wk p l e R s m args below meth c n0 T h cells slots) (hx : p.tables.exec = Jvm.exec) {k : Nat} {v : Int32} (hp : pc + 2 = pc') (hd : decode c.code pc = .ok (.iload k, 2)) (hl : Ls[k]? = some (.val (.int v))) (k : Go p e below s n0 Q nc ns (T.setTop (mkF m pc' Ls (.int v :: st)))) : Go p e below s n0 Q nc ns (T.setTop (mkF m pc Ls (st))) := by
  subst hp; exact go_back (fun _ j => XS.iload X.here hx rfl hd hl j) k
theorem g_iloadN (X : Wk p l e R s m args below meth c n0 T h cells slots) (hx : p.tables.exec = Jvm.exec) {k : Fin 4} {v : Int32} (hp : pc + 1 = pc') (hd : decode c.code pc = .ok (.iload_n k, 1)) (hl : Ls[k.val]? = some (.val (.int v))) (k : Go p e below s n0 Q nc ns (T.setTop (mkF m pc' Ls (.int v :: st)))) : Go p e below s n0 Q nc ns (T.setTop (mkF m pc Ls (st))) := by
  subst hp; exact go_back (fun _ j => XS.iloadN X.here hx rfl hd hl j) k
theorem g_istore (X : Wk p l e R s m args below meth c n0 T h cells slots) (hx : p.tables.exec = Jvm.exec) {k : Nat} {x : Int32} {l' : Array Slot} (hp : pc + 2 = pc') (hd : decode c.code pc = .ok (.istore k, 2)) (hl : storeLocals Ls k (.int x) = some l') (k : Go p e below s n0 Q nc ns (T.setTop (mkF m pc' l' (rest)))) : Go p e below s n0 Q nc ns (T.setTop (mkF m pc Ls (.int x :: rest))) := by
  subst hp; exact go_back (fun _ j => XS.istore X.here hx rfl hd rfl hl j) k
theorem g_istoreN (X : Wk p l e R s m args below meth c n0 T h cells slots) (hx : p.tables.exec = Jvm.exec) {k : Fin 4} {x : Int32} {l' : Array Slot} (hp : pc + 1 = pc') (hd : decode c.code pc = .ok (.istore_n k, 1)) (hl : storeLocals Ls k.val (.int x) = some l') (k : Go p e below s n0 Q nc ns (T.setTop (mkF m pc' l' (rest)))) : Go p e below s n0 Q nc ns (T.setTop (mkF m pc Ls (.int x :: rest))) := by
  subst hp; exact go_back (fun _ j => XS.istoreN X.here hx rfl hd rfl hl j) k
theorem g_absI {x : Int32} (k : ∀ z : Int32, z = x → Go p e below s n0 Q nc ns (T.setTop (mkF m pc Ls (.int z :: rest)))) : Go p e below s n0 Q nc ns (T.setTop (mkF m pc Ls (.int x :: rest))) := k x rfl
theorem g_lload (X : Wk p l e R s m args below meth c n0 T h cells slots) (hx : p.tables.exec = Jvm.exec) {k : Nat} {v : Int64} (hp : pc + 2 = pc') (hd : decode c.code pc = .ok (.lload k, 2)) (hl : Ls[k]? = some (.val (.long v))) (k : Go p e below s n0 Q nc ns (T.setTop (mkF m pc' Ls (.long v :: st)))) : Go p e below s n0 Q nc ns (T.setTop (mkF m pc Ls (st))) := by
  subst hp; exact go_back (fun _ j => XS.lload X.here hx rfl hd hl j) k
theorem g_lloadN (X : Wk p l e R s m args below meth c n0 T h cells slots) (hx : p.tables.exec = Jvm.exec) {k : Fin 4} {v : Int64} (hp : pc + 1 = pc') (hd : decode c.code pc = .ok (.lload_n k, 1)) (hl : Ls[k.val]? = some (.val (.long v))) (k : Go p e below s n0 Q nc ns (T.setTop (mkF m pc' Ls (.long v :: st)))) : Go p e below s n0 Q nc ns (T.setTop (mkF m pc Ls (st))) := by
  subst hp; exact go_back (fun _ j => XS.lloadN X.here hx rfl hd hl j) k
theorem g_lstore (X : Wk p l e R s m args below meth c n0 T h cells slots) (hx : p.tables.exec = Jvm.exec) {k : Nat} {x : Int64} {l' : Array Slot} (hp : pc + 2 = pc') (hd : decode c.code pc = .ok (.lstore k, 2)) (hl : storeLocals Ls k (.long x) = some l') (k : Go p e below s n0 Q nc ns (T.setTop (mkF m pc' l' (rest)))) : Go p e below s n0 Q nc ns (T.setTop (mkF m pc Ls (.long x :: rest))) := by
  subst hp; exact go_back (fun _ j => XS.lstore X.here hx rfl hd rfl hl j) k
theorem g_lstoreN (X : Wk p l e R s m args below meth c n0 T h cells slots) (hx : p.tables.exec = Jvm.exec) {k : Fin 4} {x : Int64} {l' : Array Slot} (hp : pc + 1 = pc') (hd : decode c.code pc = .ok (.lstore_n k, 1)) (hl : storeLocals Ls k.val (.long x) = some l') (k : Go p e below s n0 Q nc ns (T.setTop (mkF m pc' l' (rest)))) : Go p e below s n0 Q nc ns (T.setTop (mkF m pc Ls (.long x :: rest))) := by
  subst hp; exact go_back (fun _ j => XS.lstoreN X.here hx rfl hd rfl hl j) k
theorem g_absL {x : Int64} (k : ∀ z : Int64, z = x → Go p e below s n0 Q nc ns (T.setTop (mkF m pc Ls (.long z :: rest)))) : Go p e below s n0 Q nc ns (T.setTop (mkF m pc Ls (.long x :: rest))) := k x rfl
theorem g_dload (X : Wk p l e R s m args below meth c n0 T h cells slots) (hx : p.tables.exec = Jvm.exec) {k : Nat} {v : UInt64} (hp : pc + 2 = pc') (hd : decode c.code pc = .ok (.dload k, 2)) (hl : Ls[k]? = some (.val (.double v))) (k : Go p e below s n0 Q nc ns (T.setTop (mkF m pc' Ls (.double v :: st)))) : Go p e below s n0 Q nc ns (T.setTop (mkF m pc Ls (st))) := by
  subst hp; exact go_back (fun _ j => XS.dload X.here hx rfl hd hl j) k
theorem g_dloadN (X : Wk p l e R s m args below meth c n0 T h cells slots) (hx : p.tables.exec = Jvm.exec) {k : Fin 4} {v : UInt64} (hp : pc + 1 = pc') (hd : decode c.code pc = .ok (.dload_n k, 1)) (hl : Ls[k.val]? = some (.val (.double v))) (k : Go p e below s n0 Q nc ns (T.setTop (mkF m pc' Ls (.double v :: st)))) : Go p e below s n0 Q nc ns (T.setTop (mkF m pc Ls (st))) := by
  subst hp; exact go_back (fun _ j => XS.dloadN X.here hx rfl hd hl j) k
theorem g_dstore (X : Wk p l e R s m args below meth c n0 T h cells slots) (hx : p.tables.exec = Jvm.exec) {k : Nat} {x : UInt64} {l' : Array Slot} (hp : pc + 2 = pc') (hd : decode c.code pc = .ok (.dstore k, 2)) (hl : storeLocals Ls k (.double x) = some l') (k : Go p e below s n0 Q nc ns (T.setTop (mkF m pc' l' (rest)))) : Go p e below s n0 Q nc ns (T.setTop (mkF m pc Ls (.double x :: rest))) := by
  subst hp; exact go_back (fun _ j => XS.dstore X.here hx rfl hd rfl hl j) k
theorem g_dstoreN (X : Wk p l e R s m args below meth c n0 T h cells slots) (hx : p.tables.exec = Jvm.exec) {k : Fin 4} {x : UInt64} {l' : Array Slot} (hp : pc + 1 = pc') (hd : decode c.code pc = .ok (.dstore_n k, 1)) (hl : storeLocals Ls k.val (.double x) = some l') (k : Go p e below s n0 Q nc ns (T.setTop (mkF m pc' l' (rest)))) : Go p e below s n0 Q nc ns (T.setTop (mkF m pc Ls (.double x :: rest))) := by
  subst hp; exact go_back (fun _ j => XS.dstoreN X.here hx rfl hd rfl hl j) k
theorem g_absD {x : UInt64} (k : ∀ z : UInt64, z = x → Go p e below s n0 Q nc ns (T.setTop (mkF m pc Ls (.double z :: rest)))) : Go p e below s n0 Q nc ns (T.setTop (mkF m pc Ls (.double x :: rest))) := k x rfl
theorem g_aload (X : Wk p l e R s m args below meth c n0 T h cells slots) (hx : p.tables.exec = Jvm.exec) {k : Nat} {v : Value} (hp : pc + 2 = pc') (hd : decode c.code pc = .ok (.aload k, 2)) (hl : Ls[k]? = some (.val v)) (hv : v.isRef = true) (k : Go p e below s n0 Q nc ns (T.setTop (mkF m pc' Ls (v :: st)))) : Go p e below s n0 Q nc ns (T.setTop (mkF m pc Ls (st))) := by
  subst hp; exact go_back (fun _ j => XS.aload X.here hx rfl hd hl hv j) k
theorem g_aloadN (X : Wk p l e R s m args below meth c n0 T h cells slots) (hx : p.tables.exec = Jvm.exec) {k : Fin 4} {v : Value} (hp : pc + 1 = pc') (hd : decode c.code pc = .ok (.aload_n k, 1)) (hl : Ls[k.val]? = some (.val v)) (hv : v.isRef = true) (k : Go p e below s n0 Q nc ns (T.setTop (mkF m pc' Ls (v :: st)))) : Go p e below s n0 Q nc ns (T.setTop (mkF m pc Ls (st))) := by
  subst hp; exact go_back (fun _ j => XS.aloadN X.here hx rfl hd hl hv j) k
theorem g_astore (X : Wk p l e R s m args below meth c n0 T h cells slots) (hx : p.tables.exec = Jvm.exec) {k : Nat} {x : Value} {l' : Array Slot} (hp : pc + 2 = pc') (hd : decode c.code pc = .ok (.astore k, 2)) (hv : x.isRef = true) (hl : storeLocals Ls k x = some l') (k : Go p e below s n0 Q nc ns (T.setTop (mkF m pc' l' (rest)))) : Go p e below s n0 Q nc ns (T.setTop (mkF m pc Ls (x :: rest))) := by
  subst hp; exact go_back (fun _ j => XS.astore X.here hx rfl hd rfl hv hl j) k
theorem g_astoreN (X : Wk p l e R s m args below meth c n0 T h cells slots) (hx : p.tables.exec = Jvm.exec) {k : Fin 4} {x : Value} {l' : Array Slot} (hp : pc + 1 = pc') (hd : decode c.code pc = .ok (.astore_n k, 1)) (hv : x.isRef = true) (hl : storeLocals Ls k.val x = some l') (k : Go p e below s n0 Q nc ns (T.setTop (mkF m pc' l' (rest)))) : Go p e below s n0 Q nc ns (T.setTop (mkF m pc Ls (x :: rest))) := by
  subst hp; exact go_back (fun _ j => XS.astoreN X.here hx rfl hd rfl hv hl j) k
theorem g_iconst (X : Wk p l e R s m args below meth c n0 T h cells slots) (hx : p.tables.exec = Jvm.exec) {i : Int} {z : Int32} (hp : pc + 1 = pc') (hd : decode c.code pc = .ok (.iconst i, 1)) (hz : Int32.ofInt i = z) (k : Go p e below s n0 Q nc ns (T.setTop (mkF m pc' Ls (.int z :: st)))) : Go p e below s n0 Q nc ns (T.setTop (mkF m pc Ls (st))) := by
  subst hp; exact go_back (fun _ j => XS.iconst X.here hx rfl hd (show Steps _ _ _ (T.setTop (mkF m (pc + 1) Ls (.int (Int32.ofInt i) :: st))) _ from hz ▸ j)) k
theorem g_bipush (X : Wk p l e R s m args below meth c n0 T h cells slots) (hx : p.tables.exec = Jvm.exec) {i : Int} {z : Int32} (hp : pc + 2 = pc') (hd : decode c.code pc = .ok (.bipush i, 2)) (hz : (Int8.ofInt i).toInt32 = z) (k : Go p e below s n0 Q nc ns (T.setTop (mkF m pc' Ls (.int z :: st)))) : Go p e below s n0 Q nc ns (T.setTop (mkF m pc Ls (st))) := by
  subst hp; exact go_back (fun _ j => XS.bipush X.here hx rfl hd (show Steps _ _ _ (T.setTop (mkF m (pc + 2) Ls (.int (Int8.ofInt i).toInt32 :: st))) _ from hz ▸ j)) k
theorem g_sipush (X : Wk p l e R s m args below meth c n0 T h cells slots) (hx : p.tables.exec = Jvm.exec) {i : Int} {z : Int32} (hp : pc + 3 = pc') (hd : decode c.code pc = .ok (.sipush i, 3)) (hz : (Int16.ofInt i).toInt32 = z) (k : Go p e below s n0 Q nc ns (T.setTop (mkF m pc' Ls (.int z :: st)))) : Go p e below s n0 Q nc ns (T.setTop (mkF m pc Ls (st))) := by
  subst hp; exact go_back (fun _ j => XS.sipush X.here hx rfl hd (show Steps _ _ _ (T.setTop (mkF m (pc + 3) Ls (.int (Int16.ofInt i).toInt32 :: st))) _ from hz ▸ j)) k
theorem g_lconst (X : Wk p l e R s m args below meth c n0 T h cells slots) (hx : p.tables.exec = Jvm.exec) {i : Fin 2} {z : Int64} (hp : pc + 1 = pc') (hd : decode c.code pc = .ok (.lconst i, 1)) (hz : Int64.ofNat i = z) (k : Go p e below s n0 Q nc ns (T.setTop (mkF m pc' Ls (.long z :: st)))) : Go p e below s n0 Q nc ns (T.setTop (mkF m pc Ls (st))) := by
  subst hp; exact go_back (fun _ j => XS.lconst X.here hx rfl hd (show Steps _ _ _ (T.setTop (mkF m (pc + 1) Ls (.long (Int64.ofNat i) :: st))) _ from hz ▸ j)) k
theorem g_dconst0 (X : Wk p l e R s m args below meth c n0 T h cells slots) (hx : p.tables.exec = Jvm.exec)  (hp : pc + 1 = pc') (hd : decode c.code pc = .ok (.dconst 0, 1))  (k : Go p e below s n0 Q nc ns (T.setTop (mkF m pc' Ls (.double 0 :: st)))) : Go p e below s n0 Q nc ns (T.setTop (mkF m pc Ls (st))) := by
  subst hp; exact go_back (fun _ j => XS.dconst0 X.here hx rfl hd rfl j) k
theorem g_dconst1 (X : Wk p l e R s m args below meth c n0 T h cells slots) (hx : p.tables.exec = Jvm.exec)  (hp : pc + 1 = pc') (hd : decode c.code pc = .ok (.dconst 1, 1))  (k : Go p e below s n0 Q nc ns (T.setTop (mkF m pc' Ls (.double 4607182418800017408 :: st)))) : Go p e below s n0 Q nc ns (T.setTop (mkF m pc Ls (st))) := by
  subst hp; exact go_back (fun _ j => XS.dconst1 X.here hx rfl hd rfl j) k
theorem g_aconst_null (X : Wk p l e R s m args below meth c n0 T h cells slots) (hx : p.tables.exec = Jvm.exec)  (hp : pc + 1 = pc') (hd : decode c.code pc = .ok (.aconst_null, 1))  (k : Go p e below s n0 Q nc ns (T.setTop (mkF m pc' Ls (.null :: st)))) : Go p e below s n0 Q nc ns (T.setTop (mkF m pc Ls (st))) := by
  subst hp; exact go_back (fun _ j => XS.aconstNull X.here hx rfl hd j) k
theorem g_iadd (X : Wk p l e R s m args below meth c n0 T h cells slots) (hx : p.tables.exec = Jvm.exec) {x y : Int32} (hp : pc + 1 = pc') (hd : decode c.code pc = .ok (.iadd, 1))  (k : Go p e below s n0 Q nc ns (T.setTop (mkF m pc' Ls (.int (x + y) :: rest)))) : Go p e below s n0 Q nc ns (T.setTop (mkF m pc Ls (.int y :: .int x :: rest))) := by
  subst hp; exact go_back (fun _ j => XS.iadd X.here hx rfl hd rfl j) k
theorem g_ladd (X : Wk p l e R s m args below meth c n0 T h cells slots) (hx : p.tables.exec = Jvm.exec) {x y : Int64} (hp : pc + 1 = pc') (hd : decode c.code pc = .ok (.ladd, 1))  (k : Go p e below s n0 Q nc ns (T.setTop (mkF m pc' Ls (.long (x + y) :: rest)))) : Go p e below s n0 Q nc ns (T.setTop (mkF m pc Ls (.long y :: .long x :: rest))) := by
  subst hp; exact go_back (fun _ j => XS.ladd X.here hx rfl hd rfl j) k
theorem g_isub (X : Wk p l e R s m args below meth c n0 T h cells slots) (hx : p.tables.exec = Jvm.exec) {x y : Int32} (hp : pc + 1 = pc') (hd : decode c.code pc = .ok (.isub, 1))  (k : Go p e below s n0 Q nc ns (T.setTop (mkF m pc' Ls (.int (x - y) :: rest)))) : Go p e below s n0 Q nc ns (T.setTop (mkF m pc Ls (.int y :: .int x :: rest))) := by
  subst hp; exact go_back (fun _ j => XS.isub X.here hx rfl hd rfl j) k
theorem g_lsub (X : Wk p l e R s m args below meth c n0 T h cells slots) (hx : p.tables.exec = Jvm.exec) {x y : Int64} (hp : pc + 1 = pc') (hd : decode c.code pc = .ok (.lsub, 1))  (k : Go p e below s n0 Q nc ns (T.setTop (mkF m pc' Ls (.long (x - y) :: rest)))) : Go p e below s n0 Q nc ns (T.setTop (mkF m pc Ls (.long y :: .long x :: rest))) := by
  subst hp; exact go_back (fun _ j => XS.lsub X.here hx rfl hd rfl j) k
theorem g_imul (X : Wk p l e R s m args below meth c n0 T h cells slots) (hx : p.tables.exec = Jvm.exec) {x y : Int32} (hp : pc + 1 = pc') (hd : decode c.code pc = .ok (.imul, 1))  (k : Go p e below s n0 Q nc ns (T.setTop (mkF m pc' Ls (.int (x * y) :: rest)))) : Go p e below s n0 Q nc ns (T.setTop (mkF m pc Ls (.int y :: .int x :: rest))) := by
  subst hp; exact go_back (fun _ j => XS.imul X.here hx rfl hd rfl j) k
theorem g_lmul (X : Wk p l e R s m args below meth c n0 T h cells slots) (hx : p.tables.exec = Jvm.exec) {x y : Int64} (hp : pc + 1 = pc') (hd : decode c.code pc = .ok (.lmul, 1))  (k : Go p e below s n0 Q nc ns (T.setTop (mkF m pc' Ls (.long (x * y) :: rest)))) : Go p e below s n0 Q nc ns (T.setTop (mkF m pc Ls (.long y :: .long x :: rest))) := by
  subst hp; exact go_back (fun _ j => XS.lmul X.here hx rfl hd rfl j) k
theorem g_iand (X : Wk p l e R s m args below meth c n0 T h cells slots) (hx : p.tables.exec = Jvm.exec) {x y : Int32} (hp : pc + 1 = pc') (hd : decode c.code pc = .ok (.iand, 1))  (k : Go p e below s n0 Q nc ns (T.setTop (mkF m pc' Ls (.int (x &&& y) :: rest)))) : Go p e below s n0 Q nc ns (T.setTop (mkF m pc Ls (.int y :: .int x :: rest))) := by
  subst hp; exact go_back (fun _ j => XS.iand X.here hx rfl hd rfl j) k
theorem g_land (X : Wk p l e R s m args below meth c n0 T h cells slots) (hx : p.tables.exec = Jvm.exec) {x y : Int64} (hp : pc + 1 = pc') (hd : decode c.code pc = .ok (.land, 1))  (k : Go p e below s n0 Q nc ns (T.setTop (mkF m pc' Ls (.long (x &&& y) :: rest)))) : Go p e below s n0 Q nc ns (T.setTop (mkF m pc Ls (.long y :: .long x :: rest))) := by
  subst hp; exact go_back (fun _ j => XS.land X.here hx rfl hd rfl j) k
theorem g_ior (X : Wk p l e R s m args below meth c n0 T h cells slots) (hx : p.tables.exec = Jvm.exec) {x y : Int32} (hp : pc + 1 = pc') (hd : decode c.code pc = .ok (.ior, 1))  (k : Go p e below s n0 Q nc ns (T.setTop (mkF m pc' Ls (.int (x ||| y) :: rest)))) : Go p e below s n0 Q nc ns (T.setTop (mkF m pc Ls (.int y :: .int x :: rest))) := by
  subst hp; exact go_back (fun _ j => XS.ior X.here hx rfl hd rfl j) k
theorem g_lor (X : Wk p l e R s m args below meth c n0 T h cells slots) (hx : p.tables.exec = Jvm.exec) {x y : Int64} (hp : pc + 1 = pc') (hd : decode c.code pc = .ok (.lor, 1))  (k : Go p e below s n0 Q nc ns (T.setTop (mkF m pc' Ls (.long (x ||| y) :: rest)))) : Go p e below s n0 Q nc ns (T.setTop (mkF m pc Ls (.long y :: .long x :: rest))) := by
  subst hp; exact go_back (fun _ j => XS.lor X.here hx rfl hd rfl j) k
theorem g_ixor (X : Wk p l e R s m args below meth c n0 T h cells slots) (hx : p.tables.exec = Jvm.exec) {x y : Int32} (hp : pc + 1 = pc') (hd : decode c.code pc = .ok (.ixor, 1))  (k : Go p e below s n0 Q nc ns (T.setTop (mkF m pc' Ls (.int (x ^^^ y) :: rest)))) : Go p e below s n0 Q nc ns (T.setTop (mkF m pc Ls (.int y :: .int x :: rest))) := by
  subst hp; exact go_back (fun _ j => XS.ixor X.here hx rfl hd rfl j) k
theorem g_lxor (X : Wk p l e R s m args below meth c n0 T h cells slots) (hx : p.tables.exec = Jvm.exec) {x y : Int64} (hp : pc + 1 = pc') (hd : decode c.code pc = .ok (.lxor, 1))  (k : Go p e below s n0 Q nc ns (T.setTop (mkF m pc' Ls (.long (x ^^^ y) :: rest)))) : Go p e below s n0 Q nc ns (T.setTop (mkF m pc Ls (.long y :: .long x :: rest))) := by
  subst hp; exact go_back (fun _ j => XS.lxor X.here hx rfl hd rfl j) k
theorem g_idiv (X : Wk p l e R s m args below meth c n0 T h cells slots) (hx : p.tables.exec = Jvm.exec) {x y : Int32} (hp : pc + 1 = pc') (hd : decode c.code pc = .ok (.idiv, 1)) (hy : y ≠ 0) (k : Go p e below s n0 Q nc ns (T.setTop (mkF m pc' Ls (.int (x / y) :: rest)))) : Go p e below s n0 Q nc ns (T.setTop (mkF m pc Ls (.int y :: .int x :: rest))) := by
  subst hp; exact go_back (fun _ j => XS.idiv X.here hx rfl hd rfl hy j) k
theorem g_irem (X : Wk p l e R s m args below meth c n0 T h cells slots) (hx : p.tables.exec = Jvm.exec) {x y : Int32} (hp : pc + 1 = pc') (hd : decode c.code pc = .ok (.irem, 1)) (hy : y ≠ 0) (k : Go p e below s n0 Q nc ns (T.setTop (mkF m pc' Ls (.int (x % y) :: rest)))) : Go p e below s n0 Q nc ns (T.setTop (mkF m pc Ls (.int y :: .int x :: rest))) := by
  subst hp; obtain ⟨_, X, -⟩ := X; exact go_back (fun _ j => iremM X hx (g := mkF m pc Ls (.int y :: .int x :: rest)) rfl hd rfl hy j) k
theorem g_ldiv (X : Wk p l e R s m args below meth c n0 T h cells slots) (hx : p.tables.exec = Jvm.exec) {x y : Int64} (hp : pc + 1 = pc') (hd : decode c.code pc = .ok (.ldiv, 1)) (hy : y ≠ 0) (k : Go p e below s n0 Q nc ns (T.setTop (mkF m pc' Ls (.long (x / y) :: rest)))) : Go p e below s n0 Q nc ns (T.setTop (mkF m pc Ls (.long y :: .long x :: rest))) := by
  subst hp; exact go_back (fun _ j => XS.ldiv X.here hx rfl hd rfl hy j) k
theorem g_lrem (X : Wk p l e R s m args below meth c n0 T h cells slots) (hx : p.tables.exec = Jvm.exec) {x y : Int64} (hp : pc + 1 = pc') (hd : decode c.code pc = .ok (.lrem, 1)) (hy : y ≠ 0) (k : Go p e below s n0 Q nc ns (T.setTop (mkF m pc' Ls (.long (x - (x / y) * y) :: rest)))) : Go p e below s n0 Q nc ns (T.setTop (mkF m pc Ls (.long y :: .long x :: rest))) := by
  subst hp; exact go_back (fun _ j => XS.lrem X.here hx rfl hd rfl hy j) k
theorem g_ishl (X : Wk p l e R s m args below meth c n0 T h cells slots) (hx : p.tables.exec = Jvm.exec) {x y : Int32} (hp : pc + 1 = pc') (hd : decode c.code pc = .ok (.ishl, 1))  (k : Go p e below s n0 Q nc ns (T.setTop (mkF m pc' Ls (.int (x <<< (y &&& 31)) :: rest)))) : Go p e below s n0 Q nc ns (T.setTop (mkF m pc Ls (.int y :: .int x :: rest))) := by
  subst hp; exact go_back (fun _ j => XS.ishl X.here hx rfl hd rfl j) k
theorem g_ishr (X : Wk p l e R s m args below meth c n0 T h cells slots) (hx : p.tables.exec = Jvm.exec) {x y : Int32} (hp : pc + 1 = pc') (hd : decode c.code pc = .ok (.ishr, 1))  (k : Go p e below s n0 Q nc ns (T.setTop (mkF m pc' Ls (.int (x >>> (y &&& 31)) :: rest)))) : Go p e below s n0 Q nc ns (T.setTop (mkF m pc Ls (.int y :: .int x :: rest))) := by
  subst hp; exact go_back (fun _ j => XS.ishr X.here hx rfl hd rfl j) k
theorem g_iushr (X : Wk p l e R s m args below meth c n0 T h cells slots) (hx : p.tables.exec = Jvm.exec) {x y : Int32} (hp : pc + 1 = pc') (hd : decode c.code pc = .ok (.iushr, 1))  (k : Go p e below s n0 Q nc ns (T.setTop (mkF m pc' Ls (.int ((x.toUInt32 >>> (y &&& 31).toUInt32).toInt32) :: rest)))) : Go p e below s n0 Q nc ns (T.setTop (mkF m pc Ls (.int y :: .int x :: rest))) := by
  subst hp; exact go_back (fun _ j => XS.iushr X.here hx rfl hd rfl j) k
theorem g_lshl (X : Wk p l e R s m args below meth c n0 T h cells slots) (hx : p.tables.exec = Jvm.exec) {x : Int64} {y : Int32} (hp : pc + 1 = pc') (hd : decode c.code pc = .ok (.lshl, 1))  (k : Go p e below s n0 Q nc ns (T.setTop (mkF m pc' Ls (.long (x <<< (y &&& 0x3f).toInt64) :: rest)))) : Go p e below s n0 Q nc ns (T.setTop (mkF m pc Ls (.int y :: .long x :: rest))) := by
  subst hp; exact go_back (fun _ j => XS.lshl X.here hx rfl hd rfl j) k
theorem g_lshr (X : Wk p l e R s m args below meth c n0 T h cells slots) (hx : p.tables.exec = Jvm.exec) {x : Int64} {y : Int32} (hp : pc + 1 = pc') (hd : decode c.code pc = .ok (.lshr, 1))  (k : Go p e below s n0 Q nc ns (T.setTop (mkF m pc' Ls (.long (x >>> (y &&& 0x3f).toInt64) :: rest)))) : Go p e below s n0 Q nc ns (T.setTop (mkF m pc Ls (.int y :: .long x :: rest))) := by
  subst hp; exact go_back (fun _ j => XS.lshr X.here hx rfl hd rfl j) k
theorem g_lushr (X : Wk p l e R s m args below meth c n0 T h cells slots) (hx : p.tables.exec = Jvm.exec) {x : Int64} {y : Int32} (hp : pc + 1 = pc') (hd : decode c.code pc = .ok (.lushr, 1))  (k : Go p e below s n0 Q nc ns (T.setTop (mkF m pc' Ls (.long ((x.toUInt64 >>> (y &&& 0x3f).toInt64.toUInt64).toInt64) :: rest)))) : Go p e below s n0 Q nc ns (T.setTop (mkF m pc Ls (.int y :: .long x :: rest))) := by
  subst hp; exact go_back (fun _ j => XS.lushr X.here hx rfl hd rfl j) k
theorem g_ineg (X : Wk p l e R s m args below meth c n0 T h cells slots) (hx : p.tables.exec = Jvm.exec) {x : Int32} (hp : pc + 1 = pc') (hd : decode c.code pc = .ok (.ineg, 1))  (k : Go p e below s n0 Q nc ns (T.setTop (mkF m pc' Ls (.int (-x) :: rest)))) : Go p e below s n0 Q nc ns (T.setTop (mkF m pc Ls (.int x :: rest))) := by
  subst hp; exact go_back (fun _ j => XS.ineg X.here hx rfl hd rfl j) k
theorem g_lneg (X : Wk p l e R s m args below meth c n0 T h cells slots) (hx : p.tables.exec = Jvm.exec) {x : Int64} (hp : pc + 1 = pc') (hd : decode c.code pc = .ok (.lneg, 1))  (k : Go p e below s n0 Q nc ns (T.setTop (mkF m pc' Ls (.long (-x) :: rest)))) : Go p e below s n0 Q nc ns (T.setTop (mkF m pc Ls (.long x :: rest))) := by
  subst hp; exact go_back (fun _ j => XS.lneg X.here hx rfl hd rfl j) k
theorem g_i2l (X : Wk p l e R s m args below meth c n0 T h cells slots) (hx : p.tables.exec = Jvm.exec) {x : Int32} (hp : pc + 1 = pc') (hd : decode c.code pc = .ok (.i2l, 1))  (k : Go p e below s n0 Q nc ns (T.setTop (mkF m pc' Ls (.long x.toInt64 :: rest)))) : Go p e below s n0 Q nc ns (T.setTop (mkF m pc Ls (.int x :: rest))) := by
  subst hp; exact go_back (fun _ j => XS.i2l X.here hx rfl hd rfl j) k
theorem g_l2i (X : Wk p l e R s m args below meth c n0 T h cells slots) (hx : p.tables.exec = Jvm.exec) {x : Int64} (hp : pc + 1 = pc') (hd : decode c.code pc = .ok (.l2i, 1))  (k : Go p e below s n0 Q nc ns (T.setTop (mkF m pc' Ls (.int x.toInt32 :: rest)))) : Go p e below s n0 Q nc ns (T.setTop (mkF m pc Ls (.long x :: rest))) := by
  subst hp; exact go_back (fun _ j => XS.l2i X.here hx rfl hd rfl j) k
theorem g_i2b (X : Wk p l e R s m args below meth c n0 T h cells slots) (hx : p.tables.exec = Jvm.exec) {x : Int32} (hp : pc + 1 = pc') (hd : decode c.code pc = .ok (.i2b, 1))  (k : Go p e below s n0 Q nc ns (T.setTop (mkF m pc' Ls (.int x.toInt8.toInt32 :: rest)))) : Go p e below s n0 Q nc ns (T.setTop (mkF m pc Ls (.int x :: rest))) := by
  subst hp; exact go_back (fun _ j => XS.i2b X.here hx rfl hd rfl j) k
theorem g_i2s (X : Wk p l e R s m args below meth c n0 T h cells slots) (hx : p.tables.exec = Jvm.exec) {x : Int32} (hp : pc + 1 = pc') (hd : decode c.code pc = .ok (.i2s, 1))  (k : Go p e below s n0 Q nc ns (T.setTop (mkF m pc' Ls (.int x.toInt16.toInt32 :: rest)))) : Go p e below s n0 Q nc ns (T.setTop (mkF m pc Ls (.int x :: rest))) := by
  subst hp; exact go_back (fun _ j => XS.i2s X.here hx rfl hd rfl j) k
theorem g_i2c (X : Wk p l e R s m args below meth c n0 T h cells slots) (hx : p.tables.exec = Jvm.exec) {x : Int32} (hp : pc + 1 = pc') (hd : decode c.code pc = .ok (.i2c, 1))  (k : Go p e below s n0 Q nc ns (T.setTop (mkF m pc' Ls (.int x.toUInt32.toUInt16.toUInt32.toInt32 :: rest)))) : Go p e below s n0 Q nc ns (T.setTop (mkF m pc Ls (.int x :: rest))) := by
  subst hp; exact go_back (fun _ j => XS.i2c X.here hx rfl hd rfl j) k
theorem g_lcmp (X : Wk p l e R s m args below meth c n0 T h cells slots) (hx : p.tables.exec = Jvm.exec) {x y : Int64} (hp : pc + 1 = pc') (hd : decode c.code pc = .ok (.lcmp, 1))  (k : Go p e below s n0 Q nc ns (T.setTop (mkF m pc' Ls (.int (lcmpW x y) :: rest)))) : Go p e below s n0 Q nc ns (T.setTop (mkF m pc Ls (.long y :: .long x :: rest))) := by
  subst hp; exact go_back (fun _ j => XS.lcmp X.here hx rfl hd rfl j) k
theorem g_i2d (X : Wk p l e R s m args below meth c n0 T h cells slots) (hx : p.tables.exec = Jvm.exec) {x : Int32} (hp : pc + 1 = pc') (hd : decode c.code pc = .ok (.i2d, 1))  (k : Go p e below s n0 Q nc ns (T.setTop (mkF m pc' Ls (.double (FP.i2d x) :: rest)))) : Go p e below s n0 Q nc ns (T.setTop (mkF m pc Ls (.int x :: rest))) := by
  subst hp; exact go_back (fun _ j => XS.i2dS X.here hx rfl hd rfl rfl j) k
theorem g_l2d (X : Wk p l e R s m args below meth c n0 T h cells slots) (hx : p.tables.exec = Jvm.exec) {x : Int64} (hp : pc + 1 = pc') (hd : decode c.code pc = .ok (.l2d, 1))  (k : Go p e below s n0 Q nc ns (T.setTop (mkF m pc' Ls (.double (FP.l2d x) :: rest)))) : Go p e below s n0 Q nc ns (T.setTop (mkF m pc Ls (.long x :: rest))) := by
  subst hp; exact go_back (fun _ j => XS.l2dS X.here hx rfl hd rfl rfl j) k
theorem g_dneg (X : Wk p l e R s m args below meth c n0 T h cells slots) (hx : p.tables.exec = Jvm.exec) {x : UInt64} (hp : pc + 1 = pc') (hd : decode c.code pc = .ok (.dneg, 1))  (k : Go p e below s n0 Q nc ns (T.setTop (mkF m pc' Ls (.double (FP.dneg x) :: rest)))) : Go p e below s n0 Q nc ns (T.setTop (mkF m pc Ls (.double x :: rest))) := by
  subst hp; exact go_back (fun _ j => XS.dnegS X.here hx rfl hd rfl rfl j) k
theorem g_dcmp (X : Wk p l e R s m args below meth c n0 T h cells slots) (hx : p.tables.exec = Jvm.exec) {o : CmpOp} {x y : UInt64} {z : Int32} (hp : pc + 1 = pc') (hd : decode c.code pc = .ok (.dcmp o, 1)) (hz : cmpValue (FP.dcmp x y) o = z) (k : Go p e below s n0 Q nc ns (T.setTop (mkF m pc' Ls (.int z :: rest)))) : Go p e below s n0 Q nc ns (T.setTop (mkF m pc Ls (.double y :: .double x :: rest))) := by
  subst hp; exact go_back (fun _ j => XS.dcmpS X.here hx rfl hd rfl hz j) k
theorem g_dadd (X : Wk p l e R s m args below meth c n0 T h cells slots) (hx : p.tables.exec = Jvm.exec) {x y z : UInt64} (hp : pc + 1 = pc') (hd : decode c.code pc = .ok (.dadd, 1)) (hn : NoNaN64 (FP.dadd x y)) (hz : FP.dadd x y = z) (k : Go p e below s n0 Q nc ns (T.setTop (mkF m pc' Ls (.double z :: rest)))) : Go p e below s n0 Q nc ns (T.setTop (mkF m pc Ls (.double y :: .double x :: rest))) := by
  subst hp; exact go_back (fun _ j => XS.daddS X.here hx rfl hd rfl hn hz j) k
theorem g_dsub (X : Wk p l e R s m args below meth c n0 T h cells slots) (hx : p.tables.exec = Jvm.exec) {x y z : UInt64} (hp : pc + 1 = pc') (hd : decode c.code pc = .ok (.dsub, 1)) (hn : NoNaN64 (FP.dsub x y)) (hz : FP.dsub x y = z) (k : Go p e below s n0 Q nc ns (T.setTop (mkF m pc' Ls (.double z :: rest)))) : Go p e below s n0 Q nc ns (T.setTop (mkF m pc Ls (.double y :: .double x :: rest))) := by
  subst hp; exact go_back (fun _ j => XS.dsubS X.here hx rfl hd rfl hn hz j) k
theorem g_dmul (X : Wk p l e R s m args below meth c n0 T h cells slots) (hx : p.tables.exec = Jvm.exec) {x y z : UInt64} (hp : pc + 1 = pc') (hd : decode c.code pc = .ok (.dmul, 1)) (hn : NoNaN64 (FP.dmul x y)) (hz : FP.dmul x y = z) (k : Go p e below s n0 Q nc ns (T.setTop (mkF m pc' Ls (.double z :: rest)))) : Go p e below s n0 Q nc ns (T.setTop (mkF m pc Ls (.double y :: .double x :: rest))) := by
  subst hp; exact go_back (fun _ j => XS.dmulS X.here hx rfl hd rfl hn hz j) k
theorem g_ddiv (X : Wk p l e R s m args below meth c n0 T h cells slots) (hx : p.tables.exec = Jvm.exec) {x y z : UInt64} (hp : pc + 1 = pc') (hd : decode c.code pc = .ok (.ddiv, 1)) (hn : NoNaN64 (FP.ddiv x y)) (hz : FP.ddiv x y = z) (k : Go p e below s n0 Q nc ns (T.setTop (mkF m pc' Ls (.double z :: rest)))) : Go p e below s n0 Q nc ns (T.setTop (mkF m pc Ls (.double y :: .double x :: rest))) := by
  subst hp; exact go_back (fun _ j => XS.ddivS X.here hx rfl hd rfl hn hz j) k
theorem g_dup (X : Wk p l e R s m args below meth c n0 T h cells slots) (hx : p.tables.exec = Jvm.exec) {x : Value} (hp : pc + 1 = pc') (hd : decode c.code pc = .ok (.dup, 1)) (hc : x.category = 1) (k : Go p e below s n0 Q nc ns (T.setTop (mkF m pc' Ls (x :: x :: rest)))) : Go p e below s n0 Q nc ns (T.setTop (mkF m pc Ls (x :: rest))) := by
  subst hp; exact go_back (fun _ j => XS.dup X.here hx rfl hd rfl hc j) k
theorem g_dup_x1 (X : Wk p l e R s m args below meth c n0 T h cells slots) (hx : p.tables.exec = Jvm.exec) {x y : Value} (hp : pc + 1 = pc') (hd : decode c.code pc = .ok (.dup_x1, 1)) (hc : x.category = 1) (hc' : y.category = 1) (k : Go p e below s n0 Q nc ns (T.setTop (mkF m pc' Ls (x :: y :: x :: rest)))) : Go p e below s n0 Q nc ns (T.setTop (mkF m pc Ls (x :: y :: rest))) := by
  subst hp; exact go_back (fun _ j => XS.dupX1 X.here hx rfl hd rfl hc hc' j) k
theorem g_pop (X : Wk p l e R s m args below meth c n0 T h cells slots) (hx : p.tables.exec = Jvm.exec) {x : Value} (hp : pc + 1 = pc') (hd : decode c.code pc = .ok (.pop, 1)) (hc : x.category = 1) (k : Go p e below s n0 Q nc ns (T.setTop (mkF m pc' Ls (rest)))) : Go p e below s n0 Q nc ns (T.setTop (mkF m pc Ls (x :: rest))) := by
  subst hp; exact go_back (fun _ j => XS.pop X.here hx rfl hd rfl hc j) k
theorem g_dup2 (X : Wk p l e R s m args below meth c n0 T h cells slots) (hx : p.tables.exec = Jvm.exec) {x y : Value} (hp : pc + 1 = pc') (hd : decode c.code pc = .ok (.dup2, 1)) (hc : x.category = 1) (hc' : y.category = 1) (k : Go p e below s n0 Q nc ns (T.setTop (mkF m pc' Ls (x :: y :: x :: y :: rest)))) : Go p e below s n0 Q nc ns (T.setTop (mkF m pc Ls (x :: y :: rest))) := by
  subst hp; exact go_back (fun _ j => Jvm.Free.XT.dup2 X.here hx rfl hd rfl hc hc' j) k
theorem g_iinc (X : Wk p l e R s m args below meth c n0 T h cells slots) (hx : p.tables.exec = Jvm.exec) {k : Nat} {cst : Int} {x : Int32} {l' : Array Slot} (hp : pc + 3 = pc') (hd : decode c.code pc = .ok (.iinc k cst, 3)) (hl : Ls[k]? = some (.val (.int x))) (hl' : storeLocals Ls k (.int (x + Int32.ofInt cst)) = some l') (q : Go p e below s n0 Q nc ns (T.setTop (mkF m pc' l' st))) : Go p e below s n0 Q nc ns (T.setTop (mkF m pc Ls st)) := by
  subst hp; exact go_back (fun _ j => XS.iinc X.here hx rfl hd hl hl' j) q
theorem g_goto (X : Wk p l e R s m args below meth c n0 T h cells slots) (hx : p.tables.exec = Jvm.exec) {o : Int} (hd : decode c.code pc = .ok (.goto o, 3)) (ho : 0 ≤ (pc : Int) + o) (hp : ((pc : Int) + o).toNat = pc') (k : Go p e below s n0 Q nc ns (T.setTop (mkF m pc' Ls st))) : Go p e below s n0 Q nc ns (T.setTop (mkF m pc Ls st)) :=
  go_back (fun _ j => XS.goto X.here hx rfl rfl hd ho hp j) k
theorem g_ifY (X : Wk p l e R s m args below meth c n0 T h cells slots) (hx : p.tables.exec = Jvm.exec) {cd : ClassFile.Cond} {o : Int} {x : Int32} {pcY : Nat} (hd : decode c.code pc = .ok (.ifCond cd o, 3)) (ho : 0 ≤ (pc : Int) + o) (hY : ((pc : Int) + o).toNat = pcY) (q : cP cd x 0) (k : Go p e below s n0 Q nc ns (T.setTop (mkF m pcY Ls rest))) : Go p e below s n0 Q nc ns (T.setTop (mkF m pc Ls (.int x :: rest))) :=
  go_back (fun _ j => XS.ifYes X.here hx rfl rfl hd rfl ((if0 _ _).trans (cP_yes q)) ho hY j) k
theorem g_ifN (X : Wk p l e R s m args below meth c n0 T h cells slots) (hx : p.tables.exec = Jvm.exec) {cd : ClassFile.Cond} {o : Int} {x : Int32} {pcN : Nat} (hd : decode c.code pc = .ok (.ifCond cd o, 3)) (hN : pc + 3 = pcN) (q : ¬ cP cd x 0) (k : Go p e below s n0 Q nc ns (T.setTop (mkF m pcN Ls rest))) : Go p e below s n0 Q nc ns (T.setTop (mkF m pc Ls (.int x :: rest))) := by
  subst hN; exact go_back (fun _ j => XS.ifNo X.here hx rfl hd rfl ((if0 _ _).trans (cP_no q)) j) k
theorem g_if (X : Wk p l e R s m args below meth c n0 T h cells slots) (hx : p.tables.exec = Jvm.exec) {cd : ClassFile.Cond} {o : Int} {x : Int32} {pcY pcN : Nat} (hd : decode c.code pc = .ok (.ifCond cd o, 3)) (ho : 0 ≤ (pc : Int) + o) (hY : ((pc : Int) + o).toNat = pcY) (hN : pc + 3 = pcN) (kY : cP cd x 0 → Go p e below s n0 Q nc ns (T.setTop (mkF m pcY Ls rest))) (kN : ¬ cP cd x 0 → Go p e below s n0 Q nc ns (T.setTop (mkF m pcN Ls rest))) : Go p e below s n0 Q nc ns (T.setTop (mkF m pc Ls (.int x :: rest))) := by
  by_cases q : cP cd x 0
  · exact g_ifY X hx hd ho hY q (kY q)
  · exact g_ifN X hx hd hN q (kN q)
theorem g_icmpY (X : Wk p l e R s m args below meth c n0 T h cells slots) (hx : p.tables.exec = Jvm.exec) {cd : ClassFile.Cond} {o : Int} {x y : Int32} {pcY : Nat} (hd : decode c.code pc = .ok (.if_icmp cd o, 3)) (ho : 0 ≤ (pc : Int) + o) (hY : ((pc : Int) + o).toNat = pcY) (q : cP cd x y) (k : Go p e below s n0 Q nc ns (T.setTop (mkF m pcY Ls rest))) : Go p e below s n0 Q nc ns (T.setTop (mkF m pc Ls (.int y :: .int x :: rest))) :=
  go_back (fun _ j => XS.icmpYes X.here hx rfl rfl hd rfl (cP_yes q) ho hY j) k
theorem g_icmpN (X : Wk p l e R s m args below meth c n0 T h cells slots) (hx : p.tables.exec = Jvm.exec) {cd : ClassFile.Cond} {o : Int} {x y : Int32} {pcN : Nat} (hd : decode c.code pc = .ok (.if_icmp cd o, 3)) (hN : pc + 3 = pcN) (q : ¬ cP cd x y) (k : Go p e below s n0 Q nc ns (T.setTop (mkF m pcN Ls rest))) : Go p e below s n0 Q nc ns (T.setTop (mkF m pc Ls (.int y :: .int x :: rest))) := by
  subst hN; exact go_back (fun _ j => XS.icmpNo X.here hx rfl hd rfl (cP_no q) j) k
theorem g_icmp (X : Wk p l e R s m args below meth c n0 T h cells slots) (hx : p.tables.exec = Jvm.exec) {cd : ClassFile.Cond} {o : Int} {x y : Int32} {pcY pcN : Nat} (hd : decode c.code pc = .ok (.if_icmp cd o, 3)) (ho : 0 ≤ (pc : Int) + o) (hY : ((pc : Int) + o).toNat = pcY) (hN : pc + 3 = pcN) (kY : cP cd x y → Go p e below s n0 Q nc ns (T.setTop (mkF m pcY Ls rest))) (kN : ¬ cP cd x y → Go p e below s n0 Q nc ns (T.setTop (mkF m pcN Ls rest))) : Go p e below s n0 Q nc ns (T.setTop (mkF m pc Ls (.int y :: .int x :: rest))) := by
  by_cases q : cP cd x y
  · exact g_icmpY X hx hd ho hY q (kY q)
  · exact g_icmpN X hx hd hN q (kN q)
theorem g_ifnullY (X : Wk p l e R s m args below meth c n0 T h cells slots) (hx : p.tables.exec = Jvm.exec) {o : Int} {pcY : Nat} (hd : decode c.code pc = .ok (.ifnull o, 3)) (ho : 0 ≤ (pc : Int) + o) (hY : ((pc : Int) + o).toNat = pcY) (k : Go p e below s n0 Q nc ns (T.setTop (mkF m pcY Ls rest))) : Go p e below s n0 Q nc ns (T.setTop (mkF m pc Ls (.null :: rest))) :=
  go_back (fun _ j => XS.ifnullYes X.here hx rfl rfl hd rfl ho hY j) k
theorem g_ifnullN (X : Wk p l e R s m args below meth c n0 T h cells slots) (hx : p.tables.exec = Jvm.exec) {o : Int} {b : Addr} {pcN : Nat} (hd : decode c.code pc = .ok (.ifnull o, 3)) (hN : pc + 3 = pcN) (k : Go p e below s n0 Q nc ns (T.setTop (mkF m pcN Ls rest))) : Go p e below s n0 Q nc ns (T.setTop (mkF m pc Ls (.ref b :: rest))) := by
  subst hN; exact go_back (fun _ j => XS.ifnullNo X.here hx rfl hd rfl j) k
theorem g_ifnonnullY (X : Wk p l e R s m args below meth c n0 T h cells slots) (hx : p.tables.exec = Jvm.exec) {o : Int} {b : Addr} {pcY : Nat} (hd : decode c.code pc = .ok (.ifnonnull o, 3)) (ho : 0 ≤ (pc : Int) + o) (hY : ((pc : Int) + o).toNat = pcY) (k : Go p e below s n0 Q nc ns (T.setTop (mkF m pcY Ls rest))) : Go p e below s n0 Q nc ns (T.setTop (mkF m pc Ls (.ref b :: rest))) :=
  go_back (fun _ j => XS.ifnonnullYes X.here hx rfl rfl hd rfl ho hY j) k
theorem g_ifnonnullN (X : Wk p l e R s m args below meth c n0 T h cells slots) (hx : p.tables.exec = Jvm.exec) {o : Int} {pcN : Nat} (hd : decode c.code pc = .ok (.ifnonnull o, 3)) (hN : pc + 3 = pcN) (k : Go p e below s n0 Q nc ns (T.setTop (mkF m pcN Ls rest))) : Go p e below s n0 Q nc ns (T.setTop (mkF m pc Ls (.null :: rest))) := by
  subst hN; exact go_back (fun _ j => XS.ifnonnullNo X.here hx rfl hd rfl j) k
theorem g_normI {x z : Int32} (hz : x = z) (k : Go p e below s n0 Q nc ns (T.setTop (mkF m pc Ls (.int z :: rest)))) : Go p e below s n0 Q nc ns (T.setTop (mkF m pc Ls (.int x :: rest))) := hz ▸ k
theorem g_normD {x z : UInt64} (hz : x = z) (k : Go p e below s n0 Q nc ns (T.setTop (mkF m pc Ls (.double z :: rest)))) : Go p e below s n0 Q nc ns (T.setTop (mkF m pc Ls (.double x :: rest))) := hz ▸ k
theorem g_iincC (X : Wk p l e R s m args below meth c n0 T h cells slots) (hx : p.tables.exec = Jvm.exec) {k : Nat} {cst : Int} {x z : Int32} {l' : Array Slot} (hp : pc + 3 = pc') (hd : decode c.code pc = .ok (.iinc k cst, 3)) (hl : Ls[k]? = some (.val (.int x))) (hz : x + Int32.ofInt cst = z) (hl' : storeLocals Ls k (.int z) = some l') (q : Go p e below s n0 Q nc ns (T.setTop (mkF m pc' l' st))) : Go p e below s n0 Q nc ns (T.setTop (mkF m pc Ls st)) := by
  subst hz; exact g_iinc X hx hp hd hl hl' q
theorem g_ldcI (X : Wk p l e R s m args below meth c n0 T h cells slots) (hx : p.tables.exec = Jvm.exec) (hZ : Z.Warmed39 s.vm) {own : String} {index : Nat} {v : Int32} (hown : s.vm.findClass own = some m.cls) (w : (Jvm.Cond.constant own index v).before a0 Z = true) (hp : pc + 2 = pc') (hd : decode c.code pc = .ok (.ldc index, 2))
    (k : Go p e below s n0 Q nc ns (T.setTop (mkF m pc' Ls (.int v :: st)))) : Go p e below s n0 Q nc ns (T.setTop (mkF m pc Ls st)) := by
  subst hp; obtain ⟨_, X, -⟩ := X
  exact go_back (X.ldcInt hx hown (mvT hZ w) (g := mkF m pc Ls st) rfl hd) k
theorem g_ldc2L (X : Wk p l e R s m args below meth c n0 T h cells slots) (hx : p.tables.exec = Jvm.exec) (hZ : Z.Warmed39 s.vm) {own : String} {index : Nat} {v : Int64} (hown : s.vm.findClass own = some m.cls) (w : (Jvm.Cond.constantLong own index v).before a0 Z = true) (hp : pc + 3 = pc') (hd : decode c.code pc = .ok (.ldc2_w index, 3))
    (k : Go p e below s n0 Q nc ns (T.setTop (mkF m pc' Ls (.long v :: st)))) : Go p e below s n0 Q nc ns (T.setTop (mkF m pc Ls st)) := by
  subst hp; obtain ⟨_, X, -⟩ := X
  exact go_back (X.ldc2Long hx hown (mvT hZ w) (g := mkF m pc Ls st) rfl hd) k
theorem g_ldc2D (X : Wk p l e R s m args below meth c n0 T h cells slots) (hx : p.tables.exec = Jvm.exec) (hZ : Z.Warmed39 s.vm) {own : String} {index : Nat} {v : UInt64} (hown : s.vm.findClass own = some m.cls) (w : (Jvm.Cond.constantDouble own index v).before a0 Z = true) (hp : pc + 3 = pc') (hd : decode c.code pc = .ok (.ldc2_w index, 3))
    (k : Go p e below s n0 Q nc ns (T.setTop (mkF m pc' Ls (.double v :: st)))) : Go p e below s n0 Q nc ns (T.setTop (mkF m pc Ls st)) := by
  subst hp; obtain ⟨_, X, -⟩ := X
  exact go_back (X.ldc2DoubleC hx hown (mvT hZ w) (g := mkF m pc Ls st) rfl hd) k
theorem g_getF (X : Wk p l e R s m args below meth c n0 T h cells slots) (hx : p.tables.exec = Jvm.exec) (hZ : Z.Warmed39 s.vm) {own R0 O n d : String} {index : Nat} (hown : s.vm.findClass own = some m.cls) (w : (Jvm.Cond.fieldLink own index R0 n d).before a0 Z = true) (via : Via Z R0 O n d) {a : Addr} {v : Value} (F : Fld Z h a O n d v) (hp : pc + 3 = pc') (hd : decode c.code pc = .ok (.getfield index, 3))
    (k : ∀ T', Wk p l e R s m args below meth c n0 T' h cells slots → Go p e below s n0 Q nc ns (T'.setTop (mkF m pc' Ls (v :: rest)))) : Go p e below s n0 Q nc ns (T.setTop (mkF m pc Ls (.ref a :: rest))) := by
  subst hp; obtain ⟨locs, X, N, eT⟩ := X
  obtain ⟨T', X', e', b⟩ := getF X hx hZ hown (host := "") (Or.inl w) via eT F (g := mkF m pc Ls (.ref a :: rest)) rfl rfl hd
  exact go_back b (k T' ⟨locs, X', N, e'⟩)
theorem g_getS (X : Wk p l e R s m args below meth c n0 T h cells slots) (hx : p.tables.exec = Jvm.exec) (hZ : Z.Warmed39 s.vm) {own R0 O n d : String} {index : Nat} (hown : s.vm.findClass own = some m.cls) (w : (Jvm.Cond.fieldLink own index R0 n d).before a0 Z = true) (via : Via Z R0 O n d) {v : Value} (F : Sta Z h O n d v) (hp : pc + 3 = pc') (hd : decode c.code pc = .ok (.getstatic index, 3))
    (k : ∀ T', Wk p l e R s m args below meth c n0 T' h cells slots → Go p e below s n0 Q nc ns (T'.setTop (mkF m pc' Ls (v :: st)))) : Go p e below s n0 Q nc ns (T.setTop (mkF m pc Ls st)) := by
  subst hp; obtain ⟨locs, X, N, eT⟩ := X
  obtain ⟨T', X', e', b⟩ := getS X hx hZ hown w via eT F (g := mkF m pc Ls st) rfl hd (host := "")
  exact go_back b (k T' ⟨locs, X', N, e'⟩)
theorem g_putF (X : Wk p l e R s m args below meth c n0 T h cells slots) (hx : p.tables.exec = Jvm.exec) (hZ : Z.Warmed39 s.vm) {own R0 O n d C : String} {index kk : Nat} {ty : FieldType} (hown : s.vm.findClass own = some m.cls) (w : (Jvm.Cond.fieldLink own index R0 n d).before a0 Z = true) (via : Via Z R0 O n d) {a : Addr} {v old : Value} (F : Fld Z h a O n d old) (E : Exa Z h a C)
    (L : (Jvm.Cond.lays C O n d).before a0 Z = true ∨ ((Jvm.Cond.laysFinal C O n d).before a0 Z = true ∧ own = O ∧ meth.name = "<init>")) (wi : (Jvm.Cond.instantiable C kk).before a0 Z = true) (hty : parseFieldDescriptor d = some ty) (hn : narrow ty v = v) (hf : fits ty v = true) (hna : n0 ≤ a) (hp : pc + 3 = pc') (hd : decode c.code pc = .ok (.putfield index, 3))
    (k : ∀ T' h', Wk p l e R s m args below meth c n0 T' h' cells slots → Wr h h' a (Jvm.RoadKit.slotOf Z O n d) v → Go p e below s n0 Q nc ns (T'.setTop (mkF m pc' Ls rest))) : Go p e below s n0 Q nc ns (T.setTop (mkF m pc Ls (v :: .ref a :: rest))) := by
  subst hp; obtain ⟨locs, X, N, eT⟩ := X
  obtain ⟨T', h', X', e', W', b⟩ := putF X hx hZ hown (host := "") (Or.inl w) via eT F E L wi hty hn hf (g := mkF m pc Ls (v :: .ref a :: rest)) rfl rfl hd
  exact go_back b (k T' h' ⟨_, X', Fr.snoc X' N hna, e'⟩ W')
theorem g_newO (X : Wk p l e R s m args below meth c n0 T h cells slots) (hx : p.tables.exec = Jvm.exec) (hZ : Z.Warmed39 s.vm) {own C : String} {index n : Nat} (hown : s.vm.findClass own = some m.cls) (w : (Jvm.Cond.classLink own index C).before a0 Z = true) (wi : (Jvm.Cond.instantiable C n).before a0 Z = true) (wz : (Jvm.Cond.initialized C).before a0 Z = true) (hp : pc + 3 = pc') (hd : decode c.code pc = .ok (.new index, 3)) (hc : cells + 1 ≤ R.cells) (hl : slots + n ≤ R.slots)
    (k : ∀ T' h' a, a = h.size → Wk p l e R s m args below meth c n0 T' h' (cells + 1) (slots + n) → Ext h h' → Exa Z h' a C → (∀ {O nm d : String} {ty : FieldType}, Laid Z a0 C O nm d → parseFieldDescriptor d = some ty → Fld Z h' a O nm d (defaultValue ty)) → Go p e below s n0 Q nc ns (T'.setTop (mkF m pc' Ls (.ref a :: st)))) : Go p e below s n0 Q nc ns (T.setTop (mkF m pc Ls st)) := by
  subst hp; obtain ⟨locs, X, N, eT⟩ := X
  obtain ⟨T', h', X', e', E', A', D', -, b⟩ := newO X hx hZ hown w wi wz eT (g := mkF m pc Ls st) rfl hd hc hl
  exact go_back b (k T' h' h.size rfl ⟨_, X', N, e'⟩ E' A' (fun L q => D' L q))
theorem g_initO (X : Wk p l e R s m args below meth c n0 T h cells slots) (hx : p.tables.exec = Jvm.exec) (hZ : Z.Warmed39 s.vm) {own : String} {index : Nat} (hown : s.vm.findClass own = some m.cls) (w1 : (Jvm.Cond.methodLink own index Lib.objectInit).before a0 Z = true) (w2 : (Jvm.Cond.instanceMethod Lib.objectInit).before a0 Z = true) (w3 : (Jvm.Cond.code Lib.objectInit ⟨#[0xb1]⟩ 1 none).before a0 Z = true) {a : Addr} (hsz : Ls.size = c.maxLocals) (hp : pc + 3 = pc') (hd : decode c.code pc = .ok (.invokespecial index, 3)) (hf : 1 ≤ R.frames) {W : Nat} (hW : 2 * 0 + (rest.map fun v => v.category).sum ≤ W) (hl : W + 12 ≤ R.locals)
    (k : ∀ T', Wk p l e R s m args below meth c n0 T' h cells slots → Go p e below s n0 Q nc ns (T'.setTop (mkF m pc' Ls rest))) : Go p e below s n0 Q nc ns (T.setTop (mkF m pc Ls (.ref a :: rest))) := by
  subst hp; obtain ⟨locs, X, N, eT⟩ := X
  obtain ⟨T', X', e', b⟩ := initO X hx hZ hown w1 w2 w3 eT (g := mkF m pc Ls (.ref a :: rest)) rfl hsz rfl hd hf hW hl
  exact go_back b (k T' ⟨_, X', N, e'⟩)
section Calls
variable {y z : MethodName} {bytes : ByteArray} {maxL : Nat} {ret : Option FieldType} {rm : Room} {as : Array Value} {Qc : Option Value → Heap → Prop} {own : String} {index W : Nat} {argsL : List Value} {ps : List FieldType} {r : Option FieldType}
theorem g_callS (X : Wk p l e R s m args below meth c n0 T h cells slots) (hx : p.tables.exec = Jvm.exec) (hZ : Z.Warmed39 s.vm) (hown : s.vm.findClass own = some m.cls) (w1 : (Jvm.Cond.methodLink own index y).before a0 Z = true) (w2 : (Jvm.Cond.static y).before a0 Z = true) (w3 : (Jvm.Cond.initialized y.cls).before a0 Z = true) (w4 : (Jvm.Cond.code y bytes maxL ret).before a0 Z = true)
    (hy : y.cls ≠ "java/lang/invoke/MethodHandle" ∧ y.cls ≠ "java/lang/invoke/VarHandle") (hM : Con l Z n0 y bytes maxL ret [] rm as h Qc) (hlen : parseMethodDescriptor y.desc = some ⟨ps, r⟩) (hl : argsL.length = ps.length) (has : as = argsL.toArray) (hsz : Ls.size = c.maxLocals) (hp : pc + 3 = pc') (hd : decode c.code pc = .ok (.invokestatic index, 3))
    (hst : st = argsL.reverse ++ rest) (hW : 2 * 0 + (rest.map fun v => v.category).sum ≤ W) (hf : rm.frames + 1 ≤ R.frames) (hlo : W + (maxL + 11) + rm.locals ≤ R.locals) (hc : cells + rm.cells ≤ R.cells) (hs : slots + rm.slots ≤ R.slots)
    (k : ∀ v T' h', Wk p l e R s m args below meth c n0 T' h' (cells + rm.cells) (slots + rm.slots) → Qc v h' → Go p e below s n0 Q nc ns (T'.setTop (mkF m pc' Ls (v.toList ++ rest)))) : Go p e below s n0 Q nc ns (T.setTop (mkF m pc Ls st)) := by
  subst hp; subst has; obtain ⟨locs, X, N, eT⟩ := X
  obtain ⟨v, vm1, ⟨U, L1, c1, s1⟩, -, X', ⟨Lc, hQ, l1, y1, z1⟩, b⟩ := Jvm.LawKit.callS X hx hown (mvT hZ w1) (mvT hZ w2) (mvT hZ w3) (mvT hZ w4) hy (backOf (W := W) (Q := fun v h L => Fr n0 L ∧ Qc v h) hM hZ w4 w3 hf hlo) (g := mkF m pc Ls st) rfl hsz (argsL := argsL) (rest := rest) (lenOf hlen hl) hst hW hd (fun _ _ => ⟨rfl, eT, hc, hs⟩)
  dsimp only [Pt.U, Pt.locs, Pt.cells, Pt.slots] at X' l1 y1 z1 b hQ
  subst l1 y1 z1
  exact go_back b (k v U U.heap ⟨_, X', Fr.app N hQ.1, rfl⟩ hQ.2)
theorem g_callI (X : Wk p l e R s m args below meth c n0 T h cells slots) (hx : p.tables.exec = Jvm.exec) (hZ : Z.Warmed39 s.vm) (hown : s.vm.findClass own = some m.cls) (hy1 : y.name = "<init>") (w1 : (Jvm.Cond.methodLink own index y).before a0 Z = true) (w2 : (Jvm.Cond.instanceMethod y).before a0 Z = true) (w3 : (Jvm.Cond.initialized y.cls).before a0 Z = true) (w4 : (Jvm.Cond.code y bytes maxL none).before a0 Z = true)
    (hy : y.cls ≠ "java/lang/invoke/MethodHandle" ∧ y.cls ≠ "java/lang/invoke/VarHandle") {a : Addr} (hM : Con l Z n0 y bytes maxL none [] rm as h Qc) (hlen : parseMethodDescriptor y.desc = some ⟨ps, r⟩) (hl : argsL.length = ps.length) (has : as = (Value.ref a :: argsL).toArray) (hsz : Ls.size = c.maxLocals) (hp : pc + 3 = pc') (hd : decode c.code pc = .ok (.invokespecial index, 3))
    (hst : st = argsL.reverse ++ .ref a :: rest) (hW : 2 * 0 + (rest.map fun v => v.category).sum ≤ W) (hf : rm.frames + 1 ≤ R.frames) (hlo : W + (maxL + 11) + rm.locals ≤ R.locals) (hc : cells + rm.cells ≤ R.cells) (hs : slots + rm.slots ≤ R.slots)
    (k : ∀ v T' h', Wk p l e R s m args below meth c n0 T' h' (cells + rm.cells) (slots + rm.slots) → Qc v h' → Go p e below s n0 Q nc ns (T'.setTop (mkF m pc' Ls (v.toList ++ rest)))) : Go p e below s n0 Q nc ns (T.setTop (mkF m pc Ls st)) := by
  subst hp; subst has; obtain ⟨locs, X, N, eT⟩ := X
  obtain ⟨v, vm1, ⟨U, L1, c1, s1⟩, -, X', ⟨Lc, hQ, l1, y1, z1⟩, b⟩ := X.specialBack hx hy1 hown (mvT hZ w1) (mvT hZ w2) (mvT hZ w4) hy (backOf (W := W) (Q := fun v h L => Fr n0 L ∧ Qc v h) hM hZ w4 w3 hf hlo) (g := mkF m pc Ls st) rfl hsz (Steps.refl _) (a := a) (argsL := argsL) (rest := rest) (lenOf hlen hl) hst hW hd (fun _ _ => ⟨rfl, eT, hc, hs⟩)
  dsimp only [Pt.U, Pt.locs, Pt.cells, Pt.slots] at X' l1 y1 z1 b hQ
  subst l1 y1 z1
  exact go_back (fun _ j => b.trans j) (k v U U.heap ⟨_, X', Fr.app N hQ.1, rfl⟩ hQ.2)
theorem g_callV (X : Wk p l e R s m args below meth c n0 T h cells slots) (hx : p.tables.exec = Jvm.exec) (hZ : Z.Warmed39 s.vm) (hown : s.vm.findClass own = some m.cls) {C : String} (w1 : (Jvm.Cond.methodLink own index y).before a0 Z = true) (w2 : (Jvm.Cond.declares y).before a0 Z = true) (w5 : (Jvm.Cond.selects C y y).before a0 Z = true) (w6 : (Jvm.Cond.instanceMethod y).before a0 Z = true) (w3 : (Jvm.Cond.initialized y.cls).before a0 Z = true) (w4 : (Jvm.Cond.code y bytes maxL ret).before a0 Z = true)
    (hy : y.cls ≠ "java/lang/invoke/MethodHandle" ∧ y.cls ≠ "java/lang/invoke/VarHandle") {a : Addr} (E : Exa Z h a C) (hM : Con l Z n0 y bytes maxL ret [] rm as h Qc) (hlen : parseMethodDescriptor y.desc = some ⟨ps, r⟩) (hl : argsL.length = ps.length) (has : as = (Value.ref a :: argsL).toArray) (hsz : Ls.size = c.maxLocals) (hp : pc + 3 = pc') (hd : decode c.code pc = .ok (.invokevirtual index, 3))
    (hst : st = argsL.reverse ++ .ref a :: rest) (hW : 2 * 0 + (rest.map fun v => v.category).sum ≤ W) (hf : rm.frames + 1 ≤ R.frames) (hlo : W + (maxL + 11) + rm.locals ≤ R.locals) (hc : cells + rm.cells ≤ R.cells) (hs : slots + rm.slots ≤ R.slots)
    (k : ∀ v T' h', Wk p l e R s m args below meth c n0 T' h' (cells + rm.cells) (slots + rm.slots) → Qc v h' → Go p e below s n0 Q nc ns (T'.setTop (mkF m pc' Ls (v.toList ++ rest)))) : Go p e below s n0 Q nc ns (T.setTop (mkF m pc Ls st)) := by
  subst hp; subst has; obtain ⟨locs, X, N, eT⟩ := X
  obtain ⟨cq, kq, qa, qb, qc⟩ := isOf hZ eT E
  obtain ⟨v, vm1, ⟨U, L1, c1, s1⟩, -, X', ⟨Lc, hQ, l1, y1, z1⟩, b⟩ := X.virtualBack hx (y := y) (z := y) hown (mvT hZ w1) (mvT hZ w2) (notFace_of_selects (args := #[]) (mvT hZ w5)) (mvT hZ w5) (mvT hZ w6) hy (backOf (W := W) (Q := fun v h L => Fr n0 L ∧ Qc v h) hM hZ w4 w3 hf hlo) qa qc (g := mkF m pc Ls st) rfl hsz (Steps.refl _) (argsL := argsL) (rest := rest) (lenOf hlen hl) hst hW hd (fun _ _ => ⟨rfl, eT, hc, hs⟩)
  dsimp only [Pt.U, Pt.locs, Pt.cells, Pt.slots] at X' l1 y1 z1 b hQ
  subst l1 y1 z1
  exact go_back (fun _ j => b.trans j) (k v U U.heap ⟨_, X', Fr.app N hQ.1, rfl⟩ hQ.2)
theorem g_nat (X : Wk p l e R s m args below meth c n0 T h cells slots) (hx : p.tables.exec = Jvm.exec) (hZ : Z.Warmed39 s.vm) (hown : s.vm.findClass own = some m.cls) (w1 : (Jvm.Cond.methodLink own index y).before a0 Z = true) (w2 : (Jvm.Cond.static y).before a0 Z = true) (w3 : (Jvm.Cond.initialized y.cls).before a0 Z = true) (w4 : (Jvm.Cond.code y bytes maxL ret).before a0 Z = true)
    (hy : y.cls ≠ "java/lang/invoke/MethodHandle" ∧ y.cls ≠ "java/lang/invoke/VarHandle") {F : Array Value → Prop} {val : Value} (hK : (Jvm.Cond.code y bytes maxL ret).before args s = true → Back l R p e below s args y 3 W (fun A a' => A.cells ≤ R.cells ∧ A.slots ≤ R.slots ∧ F a') (fun A _ v B => v = some val ∧ B = A)) (hlen : parseMethodDescriptor y.desc = some ⟨ps, r⟩) (hl : argsL.length = ps.length) (hsz : Ls.size = c.maxLocals) (hp : pc + 3 = pc') (hd : decode c.code pc = .ok (.invokestatic index, 3))
    (hst : st = argsL.reverse ++ rest) (hW : 2 * 0 + (rest.map fun v => v.category).sum ≤ W) (hc : cells ≤ R.cells) (hs : slots ≤ R.slots) (hF : F argsL.toArray)
    (k : ∀ T', Wk p l e R s m args below meth c n0 T' h cells slots → Go p e below s n0 Q nc ns (T'.setTop (mkF m pc' Ls (val :: rest)))) : Go p e below s n0 Q nc ns (T.setTop (mkF m pc Ls st)) := by
  subst hp; obtain ⟨locs, X, N, eT⟩ := X
  obtain ⟨T', X', e', b⟩ := natS X hx hZ hown w1 w2 w3 w4 hy eT hK (g := mkF m pc Ls st) rfl hsz (argsL := argsL) (rest := rest) (lenOf hlen hl) hst hW hd hc hs hF rfl
  exact go_back b (k T' ⟨_, X', N, e'⟩)
end Calls
theorem g_absD2 (X : Wk p l e R s m args below meth c n0 T h cells slots) (hx : p.tables.exec = Jvm.exec) (hZ : Z.Warmed39 s.vm) {own : String} {index W : Nat} (hown : s.vm.findClass own = some m.cls) (w1 : (Jvm.Cond.methodLink own index Jvm.Free.Fl.Abs.absDN).before a0 Z = true) (w2 : (Jvm.Cond.static Jvm.Free.Fl.Abs.absDN).before a0 Z = true) (w3 : (Jvm.Cond.initialized Jvm.Free.Fl.Abs.absDN.cls).before a0 Z = true) (w4 : (Jvm.Cond.code Jvm.Free.Fl.Abs.absDN Jvm.Free.Fl.Abs.absDCode 2 (some .double)).before a0 Z = true)
    {x : UInt64} (hn : NoNaN64 x) (hsz : Ls.size = c.maxLocals) (hp : pc + 3 = pc') (hd : decode c.code pc = .ok (.invokestatic index, 3)) (hW : 2 * 0 + (rest.map fun v => v.category).sum ≤ W) (hf : 1 ≤ R.frames) (hlo : W + 13 ≤ R.locals) (hc : cells ≤ R.cells) (hs : slots ≤ R.slots)
    (k : ∀ T', Wk p l e R s m args below meth c n0 T' h cells slots → Go p e below s n0 Q nc ns (T'.setTop (mkF m pc' Ls (.double (x &&& 0x7fffffffffffffff) :: rest)))) : Go p e below s n0 Q nc ns (T.setTop (mkF m pc Ls (.double x :: rest))) :=
  g_nat X hx hZ hown w1 w2 w3 w4 (by decide) (fun q => Jvm.Free.Fl.Abs.absD_pays x q hf hlo) (ps := [.double]) (r := some .double) (by decide +kernel) (argsL := [.double x]) rfl hsz hp hd rfl hW hc hs ⟨rfl, hn⟩ k
theorem g_ret (X : Wk p l e R s m args below meth c n0 T h cells slots) (hx : p.tables.exec = Jvm.exec) (hlk : meth.locks = false) {t : FieldType} {w : Value} {i : Instr} (hret : meth.sig.returnType = some t) (hn : narrow t w = w)
    (hi : (i = .ireturn ∧ (t = .int ∨ t = .boolean ∨ t = .byte ∨ t = .char ∨ t = .short) ∧ ∃ z, w = .int z) ∨ (i = .lreturn ∧ t = .long ∧ ∃ z, w = .long z) ∨ (i = .dreturn ∧ t = .double ∧ ∃ z, w = .double z) ∨ (i = .freturn ∧ t = .float ∧ ∃ z, w = .float z) ∨ (i = .areturn ∧ t.isReference = true ∧ w.isRef = true))
    (hd : decode c.code pc = .ok (i, 1)) (hc : cells ≤ nc) (hs : slots ≤ ns) (hQ : Q (some w) h) : Go p e below s n0 Q nc ns (T.setTop (mkF m pc Ls (w :: rest))) := by
  obtain ⟨locs, X, N, eT⟩ := X
  obtain ⟨fs, hr, hrun, hended, hW, hsame⟩ := X.leave (v := some w) (fun q => by rw [hret] at q; cases q) hlk
  exact ⟨_, _, retOut X hx hret hn hi hd hr, hrun, hended, _, _, rfl, ⟨N, by show Q (some w) T.heap; rw [eT]; exact hQ⟩, ⟨_, rfl⟩, hW, hsame.mono hc hs⟩
theorem g_retI (X : Wk p l e R s m args below meth c n0 T h cells slots) (hx : p.tables.exec = Jvm.exec) (hlk : meth.locks = false) {z : Int32} (hret : meth.sig.returnType = some .int) (hd : decode c.code pc = .ok (.ireturn, 1)) (hc : cells ≤ nc) (hs : slots ≤ ns) (hQ : Q (some (.int z)) h) : Go p e below s n0 Q nc ns (T.setTop (mkF m pc Ls (.int z :: rest))) :=
  g_ret X hx hlk hret rfl (Or.inl ⟨rfl, Or.inl rfl, z, rfl⟩) hd hc hs hQ
theorem g_retZ (X : Wk p l e R s m args below meth c n0 T h cells slots) (hx : p.tables.exec = Jvm.exec) (hlk : meth.locks = false) {z : Int32} (hret : meth.sig.returnType = some .boolean) (hz : z = 0 ∨ z = 1) (hd : decode c.code pc = .ok (.ireturn, 1)) (hc : cells ≤ nc) (hs : slots ≤ ns) (hQ : Q (some (.int z)) h) : Go p e below s n0 Q nc ns (T.setTop (mkF m pc Ls (.int z :: rest))) :=
  g_ret X hx hlk hret (by rcases hz with rfl | rfl <;> rfl) (Or.inl ⟨rfl, Or.inr (Or.inl rfl), z, rfl⟩) hd hc hs hQ
theorem g_retL (X : Wk p l e R s m args below meth c n0 T h cells slots) (hx : p.tables.exec = Jvm.exec) (hlk : meth.locks = false) {z : Int64} (hret : meth.sig.returnType = some .long) (hd : decode c.code pc = .ok (.lreturn, 1)) (hc : cells ≤ nc) (hs : slots ≤ ns) (hQ : Q (some (.long z)) h) : Go p e below s n0 Q nc ns (T.setTop (mkF m pc Ls (.long z :: rest))) :=
  g_ret X hx hlk hret rfl (Or.inr (Or.inl ⟨rfl, rfl, z, rfl⟩)) hd hc hs hQ
theorem g_retD (X : Wk p l e R s m args below meth c n0 T h cells slots) (hx : p.tables.exec = Jvm.exec) (hlk : meth.locks = false) {z : UInt64} (hret : meth.sig.returnType = some .double) (hd : decode c.code pc = .ok (.dreturn, 1)) (hc : cells ≤ nc) (hs : slots ≤ ns) (hQ : Q (some (.double z)) h) : Go p e below s n0 Q nc ns (T.setTop (mkF m pc Ls (.double z :: rest))) :=
  g_ret X hx hlk hret rfl (Or.inr (Or.inr (Or.inl ⟨rfl, rfl, z, rfl⟩))) hd hc hs hQ
theorem g_retV (X : Wk p l e R s m args below meth c n0 T h cells slots) (hx : p.tables.exec = Jvm.exec) (hlk : meth.locks = false) (hret : meth.sig.returnType = none) (hd : decode c.code pc = .ok (.return_, 1)) (hc : cells ≤ nc) (hs : slots ≤ ns) (hQ : Q none h) : Go p e below s n0 Q nc ns (T.setTop (mkF m pc Ls [])) := by
  obtain ⟨locs, X, N, eT⟩ := X
  obtain ⟨fs, hr, hrun, hended, hW, hsame⟩ := X.leave (v := none) (fun _ => rfl) hlk
  exact ⟨_, _, X.returnOut hx hret hd hr, hrun, hended, _, _, rfl, ⟨N, by show Q none T.heap; rw [eT]; exact hQ⟩, ⟨_, rfl⟩, hW, hsame.mono hc hs⟩
end OwnKit
theorem d1_0 : decode method_4_code 0 = .ok (.bipush 16, 2) := by decide +kernel
theorem d1_2 : decode method_4_code 2 = .ok (.newarray .double, 2) := by decide +kernel
theorem d1_4 : decode method_4_code 4 = .ok (.astore_n 2, 1) := by decide +kernel
theorem d1_5 : decode method_4_code 5 = .ok (.aload_n 2, 1) := by decide +kernel
theorem d1_6 : decode method_4_code 6 = .ok (.iconst 0, 1) := by decide +kernel
theorem d1_7 : decode method_4_code 7 = .ok (.lload_n 0, 1) := by decide +kernel
theorem d1_8 : decode method_4_code 8 = .ok (.iconst 0, 1) := by decide +kernel
theorem d1_9 : decode method_4_code 9 = .ok (.invokestatic 11, 3) := by decide +kernel
theorem d1_12 : decode method_4_code 12 = .ok (.dastore, 1) := by decide +kernel
theorem d1_13 : decode method_4_code 13 = .ok (.aload_n 2, 1) := by decide +kernel
theorem d1_14 : decode method_4_code 14 = .ok (.iconst 1, 1) := by decide +kernel
theorem d1_15 : decode method_4_code 15 = .ok (.lload_n 0, 1) := by decide +kernel
theorem d1_16 : decode method_4_code 16 = .ok (.bipush 9, 2) := by decide +kernel
theorem d1_18 : decode method_4_code 18 = .ok (.invokestatic 17, 3) := by decide +kernel
theorem d1_21 : decode method_4_code 21 = .ok (.dastore, 1) := by decide +kernel
theorem d1_22 : decode method_4_code 22 = .ok (.aload_n 2, 1) := by decide +kernel
theorem d1_23 : decode method_4_code 23 = .ok (.iconst 2, 1) := by decide +kernel
theorem d1_24 : decode method_4_code 24 = .ok (.lload_n 0, 1) := by decide +kernel
theorem d1_25 : decode method_4_code 25 = .ok (.bipush 13, 2) := by decide +kernel
theorem d1_27 : decode method_4_code 27 = .ok (.invokestatic 17, 3) := by decide +kernel
theorem d1_30 : decode method_4_code 30 = .ok (.dastore, 1) := by decide +kernel
theorem d1_31 : decode method_4_code 31 = .ok (.aload_n 2, 1) := by decide +kernel
theorem d1_32 : decode method_4_code 32 = .ok (.iconst 3, 1) := by decide +kernel
theorem d1_33 : decode method_4_code 33 = .ok (.lload_n 0, 1) := by decide +kernel
theorem d1_34 : decode method_4_code 34 = .ok (.bipush 33, 2) := by decide +kernel
theorem d1_36 : decode method_4_code 36 = .ok (.invokestatic 17, 3) := by decide +kernel
theorem d1_39 : decode method_4_code 39 = .ok (.dastore, 1) := by decide +kernel
theorem d1_40 : decode method_4_code 40 = .ok (.aload_n 2, 1) := by decide +kernel
theorem d1_41 : decode method_4_code 41 = .ok (.iconst 4, 1) := by decide +kernel
theorem d1_42 : decode method_4_code 42 = .ok (.lload_n 0, 1) := by decide +kernel
theorem d1_43 : decode method_4_code 43 = .ok (.bipush 21, 2) := by decide +kernel
theorem d1_45 : decode method_4_code 45 = .ok (.invokestatic 17, 3) := by decide +kernel
theorem d1_48 : decode method_4_code 48 = .ok (.dastore, 1) := by decide +kernel
theorem d1_49 : decode method_4_code 49 = .ok (.aload_n 2, 1) := by decide +kernel
theorem d1_50 : decode method_4_code 50 = .ok (.iconst 5, 1) := by decide +kernel
theorem d1_51 : decode method_4_code 51 = .ok (.lload_n 0, 1) := by decide +kernel
theorem d1_52 : decode method_4_code 52 = .ok (.iconst 1, 1) := by decide +kernel
theorem d1_53 : decode method_4_code 53 = .ok (.invokestatic 11, 3) := by decide +kernel
theorem d1_56 : decode method_4_code 56 = .ok (.dastore, 1) := by decide +kernel
theorem d1_57 : decode method_4_code 57 = .ok (.aload_n 2, 1) := by decide +kernel
theorem d1_58 : decode method_4_code 58 = .ok (.bipush 6, 2) := by decide +kernel
theorem d1_60 : decode method_4_code 60 = .ok (.lload_n 0, 1) := by decide +kernel
theorem d1_61 : decode method_4_code 61 = .ok (.bipush 17, 2) := by decide +kernel
theorem d1_63 : decode method_4_code 63 = .ok (.invokestatic 17, 3) := by decide +kernel
theorem d1_66 : decode method_4_code 66 = .ok (.dastore, 1) := by decide +kernel
theorem d1_67 : decode method_4_code 67 = .ok (.aload_n 2, 1) := by decide +kernel
theorem d1_68 : decode method_4_code 68 = .ok (.bipush 7, 2) := by decide +kernel
theorem d1_70 : decode method_4_code 70 = .ok (.lload_n 0, 1) := by decide +kernel
theorem d1_71 : decode method_4_code 71 = .ok (.bipush 37, 2) := by decide +kernel
theorem d1_73 : decode method_4_code 73 = .ok (.invokestatic 17, 3) := by decide +kernel
theorem d1_76 : decode method_4_code 76 = .ok (.dastore, 1) := by decide +kernel
theorem d1_77 : decode method_4_code 77 = .ok (.aload_n 2, 1) := by decide +kernel
theorem d1_78 : decode method_4_code 78 = .ok (.bipush 8, 2) := by decide +kernel
theorem d1_80 : decode method_4_code 80 = .ok (.lload_n 0, 1) := by decide +kernel
theorem d1_81 : decode method_4_code 81 = .ok (.bipush 25, 2) := by decide +kernel
theorem d1_83 : decode method_4_code 83 = .ok (.invokestatic 17, 3) := by decide +kernel
theorem d1_86 : decode method_4_code 86 = .ok (.dastore, 1) := by decide +kernel
theorem d1_87 : decode method_4_code 87 = .ok (.aload_n 2, 1) := by decide +kernel
theorem d1_88 : decode method_4_code 88 = .ok (.bipush 9, 2) := by decide +kernel
theorem d1_90 : decode method_4_code 90 = .ok (.lload_n 0, 1) := by decide +kernel
theorem d1_91 : decode method_4_code 91 = .ok (.bipush 29, 2) := by decide +kernel
theorem d1_93 : decode method_4_code 93 = .ok (.invokestatic 17, 3) := by decide +kernel
theorem d1_96 : decode method_4_code 96 = .ok (.dastore, 1) := by decide +kernel
theorem d1_97 : decode method_4_code 97 = .ok (.aload_n 2, 1) := by decide +kernel
theorem d1_98 : decode method_4_code 98 = .ok (.bipush 10, 2) := by decide +kernel
theorem d1_100 : decode method_4_code 100 = .ok (.lload_n 0, 1) := by decide +kernel
theorem d1_101 : decode method_4_code 101 = .ok (.iconst 2, 1) := by decide +kernel
theorem d1_102 : decode method_4_code 102 = .ok (.invokestatic 11, 3) := by decide +kernel
theorem d1_105 : decode method_4_code 105 = .ok (.dastore, 1) := by decide +kernel
theorem d1_106 : decode method_4_code 106 = .ok (.aload_n 2, 1) := by decide +kernel
theorem d1_107 : decode method_4_code 107 = .ok (.bipush 11, 2) := by decide +kernel
theorem d1_109 : decode method_4_code 109 = .ok (.lload_n 0, 1) := by decide +kernel
theorem d1_110 : decode method_4_code 110 = .ok (.bipush 41, 2) := by decide +kernel
theorem d1_112 : decode method_4_code 112 = .ok (.invokestatic 17, 3) := by decide +kernel
theorem d1_115 : decode method_4_code 115 = .ok (.dastore, 1) := by decide +kernel
theorem d1_116 : decode method_4_code 116 = .ok (.aload_n 2, 1) := by decide +kernel
theorem d1_117 : decode method_4_code 117 = .ok (.bipush 12, 2) := by decide +kernel
theorem d1_119 : decode method_4_code 119 = .ok (.lload_n 0, 1) := by decide +kernel
theorem d1_120 : decode method_4_code 120 = .ok (.bipush 45, 2) := by decide +kernel
theorem d1_122 : decode method_4_code 122 = .ok (.invokestatic 17, 3) := by decide +kernel
theorem d1_125 : decode method_4_code 125 = .ok (.dastore, 1) := by decide +kernel
theorem d1_126 : decode method_4_code 126 = .ok (.aload_n 2, 1) := by decide +kernel
theorem d1_127 : decode method_4_code 127 = .ok (.bipush 13, 2) := by decide +kernel
theorem d1_129 : decode method_4_code 129 = .ok (.lload_n 0, 1) := by decide +kernel
theorem d1_130 : decode method_4_code 130 = .ok (.bipush 49, 2) := by decide +kernel
theorem d1_132 : decode method_4_code 132 = .ok (.invokestatic 17, 3) := by decide +kernel
theorem d1_135 : decode method_4_code 135 = .ok (.dastore, 1) := by decide +kernel
theorem d1_136 : decode method_4_code 136 = .ok (.aload_n 2, 1) := by decide +kernel
theorem d1_137 : decode method_4_code 137 = .ok (.bipush 14, 2) := by decide +kernel
theorem d1_139 : decode method_4_code 139 = .ok (.lload_n 0, 1) := by decide +kernel
theorem d1_140 : decode method_4_code 140 = .ok (.bipush 53, 2) := by decide +kernel
theorem d1_142 : decode method_4_code 142 = .ok (.invokestatic 17, 3) := by decide +kernel
theorem d1_145 : decode method_4_code 145 = .ok (.dastore, 1) := by decide +kernel
theorem d1_146 : decode method_4_code 146 = .ok (.aload_n 2, 1) := by decide +kernel
theorem d1_147 : decode method_4_code 147 = .ok (.bipush 15, 2) := by decide +kernel
theorem d1_149 : decode method_4_code 149 = .ok (.lload_n 0, 1) := by decide +kernel
theorem d1_150 : decode method_4_code 150 = .ok (.bipush 57, 2) := by decide +kernel
theorem d1_152 : decode method_4_code 152 = .ok (.invokestatic 17, 3) := by decide +kernel
theorem d1_155 : decode method_4_code 155 = .ok (.dastore, 1) := by decide +kernel
theorem d1_156 : decode method_4_code 156 = .ok (.aload_n 2, 1) := by decide +kernel
theorem d1_157 : decode method_4_code 157 = .ok (.areturn, 1) := by decide +kernel
theorem d2_0 : decode method_2_code 0 = .ok (.lload_n 0, 1) := by decide +kernel
theorem d2_1 : decode method_2_code 1 = .ok (.iconst 3, 1) := by decide +kernel
theorem d2_2 : decode method_2_code 2 = .ok (.iload_n 2, 1) := by decide +kernel
theorem d2_3 : decode method_2_code 3 = .ok (.imul, 1) := by decide +kernel
theorem d2_4 : decode method_2_code 4 = .ok (.lushr, 1) := by decide +kernel
theorem d2_5 : decode method_2_code 5 = .ok (.ldc2_w 7, 3) := by decide +kernel
theorem d2_8 : decode method_2_code 8 = .ok (.land, 1) := by decide +kernel
theorem d2_9 : decode method_2_code 9 = .ok (.l2i, 1) := by decide +kernel
theorem d2_10 : decode method_2_code 10 = .ok (.istore_n 3, 1) := by decide +kernel
theorem d2_11 : decode method_2_code 11 = .ok (.iconst 1, 1) := by decide +kernel
theorem d2_12 : decode method_2_code 12 = .ok (.iload_n 3, 1) := by decide +kernel
theorem d2_13 : decode method_2_code 13 = .ok (.ishl, 1) := by decide +kernel
theorem d2_14 : decode method_2_code 14 = .ok (.istore 4, 2) := by decide +kernel
theorem d2_16 : decode method_2_code 16 = .ok (.lload_n 0, 1) := by decide +kernel
theorem d2_17 : decode method_2_code 17 = .ok (.iconst 3, 1) := by decide +kernel
theorem d2_18 : decode method_2_code 18 = .ok (.iload_n 2, 1) := by decide +kernel
theorem d2_19 : decode method_2_code 19 = .ok (.imul, 1) := by decide +kernel
theorem d2_20 : decode method_2_code 20 = .ok (.iconst 2, 1) := by decide +kernel
theorem d2_21 : decode method_2_code 21 = .ok (.iadd, 1) := by decide +kernel
theorem d2_22 : decode method_2_code 22 = .ok (.lushr, 1) := by decide +kernel
theorem d2_23 : decode method_2_code 23 = .ok (.lconst 1, 1) := by decide +kernel
theorem d2_24 : decode method_2_code 24 = .ok (.land, 1) := by decide +kernel
theorem d2_25 : decode method_2_code 25 = .ok (.lconst 0, 1) := by decide +kernel
theorem d2_26 : decode method_2_code 26 = .ok (.lcmp, 1) := by decide +kernel
theorem d2_27 : decode method_2_code 27 = .ok (.ifCond .eq 8, 3) := by decide +kernel
theorem d2_30 : decode method_2_code 30 = .ok (.iload 4, 2) := by decide +kernel
theorem d2_32 : decode method_2_code 32 = .ok (.ineg, 1) := by decide +kernel
theorem d2_33 : decode method_2_code 33 = .ok (.i2d, 1) := by decide +kernel
theorem d2_34 : decode method_2_code 34 = .ok (.dreturn, 1) := by decide +kernel
theorem d2_35 : decode method_2_code 35 = .ok (.iload 4, 2) := by decide +kernel
theorem d2_37 : decode method_2_code 37 = .ok (.i2d, 1) := by decide +kernel
theorem d2_38 : decode method_2_code 38 = .ok (.dreturn, 1) := by decide +kernel
theorem d3_0 : decode method_3_code 0 = .ok (.lload_n 0, 1) := by decide +kernel
theorem d3_1 : decode method_3_code 1 = .ok (.iload_n 2, 1) := by decide +kernel
theorem d3_2 : decode method_3_code 2 = .ok (.lushr, 1) := by decide +kernel
theorem d3_3 : decode method_3_code 3 = .ok (.ldc2_w 9, 3) := by decide +kernel
theorem d3_6 : decode method_3_code 6 = .ok (.land, 1) := by decide +kernel
theorem d3_7 : decode method_3_code 7 = .ok (.l2i, 1) := by decide +kernel
theorem d3_8 : decode method_3_code 8 = .ok (.bipush 8, 2) := by decide +kernel
theorem d3_10 : decode method_3_code 10 = .ok (.isub, 1) := by decide +kernel
theorem d3_11 : decode method_3_code 11 = .ok (.i2d, 1) := by decide +kernel
theorem d3_12 : decode method_3_code 12 = .ok (.dreturn, 1) := by decide +kernel
theorem d4_0 : decode method_5_code 0 = .ok (.bipush 12, 2) := by decide +kernel
theorem d4_2 : decode method_5_code 2 = .ok (.newarray .double, 2) := by decide +kernel
theorem d4_4 : decode method_5_code 4 = .ok (.astore_n 2, 1) := by decide +kernel
theorem d4_5 : decode method_5_code 5 = .ok (.aload_n 2, 1) := by decide +kernel
theorem d4_6 : decode method_5_code 6 = .ok (.iconst 0, 1) := by decide +kernel
theorem d4_7 : decode method_5_code 7 = .ok (.lload_n 0, 1) := by decide +kernel
theorem d4_8 : decode method_5_code 8 = .ok (.iconst 0, 1) := by decide +kernel
theorem d4_9 : decode method_5_code 9 = .ok (.invokestatic 17, 3) := by decide +kernel
theorem d4_12 : decode method_5_code 12 = .ok (.dastore, 1) := by decide +kernel
theorem d4_13 : decode method_5_code 13 = .ok (.aload_n 2, 1) := by decide +kernel
theorem d4_14 : decode method_5_code 14 = .ok (.iconst 1, 1) := by decide +kernel
theorem d4_15 : decode method_5_code 15 = .ok (.lload_n 0, 1) := by decide +kernel
theorem d4_16 : decode method_5_code 16 = .ok (.iconst 4, 1) := by decide +kernel
theorem d4_17 : decode method_5_code 17 = .ok (.invokestatic 17, 3) := by decide +kernel
theorem d4_20 : decode method_5_code 20 = .ok (.dastore, 1) := by decide +kernel
theorem d4_21 : decode method_5_code 21 = .ok (.aload_n 2, 1) := by decide +kernel
theorem d4_22 : decode method_5_code 22 = .ok (.iconst 2, 1) := by decide +kernel
theorem d4_23 : decode method_5_code 23 = .ok (.lload_n 0, 1) := by decide +kernel
theorem d4_24 : decode method_5_code 24 = .ok (.bipush 8, 2) := by decide +kernel
theorem d4_26 : decode method_5_code 26 = .ok (.invokestatic 17, 3) := by decide +kernel
theorem d4_29 : decode method_5_code 29 = .ok (.dastore, 1) := by decide +kernel
theorem d4_30 : decode method_5_code 30 = .ok (.aload_n 2, 1) := by decide +kernel
theorem d4_31 : decode method_5_code 31 = .ok (.iconst 3, 1) := by decide +kernel
theorem d4_32 : decode method_5_code 32 = .ok (.lload_n 0, 1) := by decide +kernel
theorem d4_33 : decode method_5_code 33 = .ok (.bipush 12, 2) := by decide +kernel
theorem d4_35 : decode method_5_code 35 = .ok (.invokestatic 17, 3) := by decide +kernel
theorem d4_38 : decode method_5_code 38 = .ok (.dastore, 1) := by decide +kernel
theorem d4_39 : decode method_5_code 39 = .ok (.aload_n 2, 1) := by decide +kernel
theorem d4_40 : decode method_5_code 40 = .ok (.iconst 4, 1) := by decide +kernel
theorem d4_41 : decode method_5_code 41 = .ok (.lload_n 0, 1) := by decide +kernel
theorem d4_42 : decode method_5_code 42 = .ok (.bipush 16, 2) := by decide +kernel
theorem d4_44 : decode method_5_code 44 = .ok (.invokestatic 17, 3) := by decide +kernel
theorem d4_47 : decode method_5_code 47 = .ok (.dastore, 1) := by decide +kernel
theorem d4_48 : decode method_5_code 48 = .ok (.aload_n 2, 1) := by decide +kernel
theorem d4_49 : decode method_5_code 49 = .ok (.iconst 5, 1) := by decide +kernel
theorem d4_50 : decode method_5_code 50 = .ok (.lload_n 0, 1) := by decide +kernel
theorem d4_51 : decode method_5_code 51 = .ok (.bipush 20, 2) := by decide +kernel
theorem d4_53 : decode method_5_code 53 = .ok (.invokestatic 17, 3) := by decide +kernel
theorem d4_56 : decode method_5_code 56 = .ok (.dastore, 1) := by decide +kernel
theorem d4_57 : decode method_5_code 57 = .ok (.aload_n 2, 1) := by decide +kernel
theorem d4_58 : decode method_5_code 58 = .ok (.bipush 6, 2) := by decide +kernel
theorem d4_60 : decode method_5_code 60 = .ok (.lload_n 0, 1) := by decide +kernel
theorem d4_61 : decode method_5_code 61 = .ok (.bipush 24, 2) := by decide +kernel
theorem d4_63 : decode method_5_code 63 = .ok (.invokestatic 17, 3) := by decide +kernel
theorem d4_66 : decode method_5_code 66 = .ok (.dastore, 1) := by decide +kernel
theorem d4_67 : decode method_5_code 67 = .ok (.aload_n 2, 1) := by decide +kernel
theorem d4_68 : decode method_5_code 68 = .ok (.bipush 7, 2) := by decide +kernel
theorem d4_70 : decode method_5_code 70 = .ok (.lload_n 0, 1) := by decide +kernel
theorem d4_71 : decode method_5_code 71 = .ok (.bipush 28, 2) := by decide +kernel
theorem d4_73 : decode method_5_code 73 = .ok (.invokestatic 17, 3) := by decide +kernel
theorem d4_76 : decode method_5_code 76 = .ok (.dastore, 1) := by decide +kernel
theorem d4_77 : decode method_5_code 77 = .ok (.aload_n 2, 1) := by decide +kernel
theorem d4_78 : decode method_5_code 78 = .ok (.bipush 8, 2) := by decide +kernel
theorem d4_80 : decode method_5_code 80 = .ok (.lload_n 0, 1) := by decide +kernel
theorem d4_81 : decode method_5_code 81 = .ok (.bipush 32, 2) := by decide +kernel
theorem d4_83 : decode method_5_code 83 = .ok (.invokestatic 17, 3) := by decide +kernel
theorem d4_86 : decode method_5_code 86 = .ok (.dastore, 1) := by decide +kernel
theorem d4_87 : decode method_5_code 87 = .ok (.aload_n 2, 1) := by decide +kernel
theorem d4_88 : decode method_5_code 88 = .ok (.bipush 9, 2) := by decide +kernel
theorem d4_90 : decode method_5_code 90 = .ok (.lload_n 0, 1) := by decide +kernel
theorem d4_91 : decode method_5_code 91 = .ok (.bipush 36, 2) := by decide +kernel
theorem d4_93 : decode method_5_code 93 = .ok (.invokestatic 17, 3) := by decide +kernel
theorem d4_96 : decode method_5_code 96 = .ok (.dastore, 1) := by decide +kernel
theorem d4_97 : decode method_5_code 97 = .ok (.aload_n 2, 1) := by decide +kernel
theorem d4_98 : decode method_5_code 98 = .ok (.bipush 10, 2) := by decide +kernel
theorem d4_100 : decode method_5_code 100 = .ok (.lload_n 0, 1) := by decide +kernel
theorem d4_101 : decode method_5_code 101 = .ok (.bipush 40, 2) := by decide +kernel
theorem d4_103 : decode method_5_code 103 = .ok (.invokestatic 17, 3) := by decide +kernel
theorem d4_106 : decode method_5_code 106 = .ok (.dastore, 1) := by decide +kernel
theorem d4_107 : decode method_5_code 107 = .ok (.aload_n 2, 1) := by decide +kernel
theorem d4_108 : decode method_5_code 108 = .ok (.bipush 11, 2) := by decide +kernel
theorem d4_110 : decode method_5_code 110 = .ok (.lload_n 0, 1) := by decide +kernel
theorem d4_111 : decode method_5_code 111 = .ok (.bipush 44, 2) := by decide +kernel
theorem d4_113 : decode method_5_code 113 = .ok (.invokestatic 17, 3) := by decide +kernel
theorem d4_116 : decode method_5_code 116 = .ok (.dastore, 1) := by decide +kernel
theorem d4_117 : decode method_5_code 117 = .ok (.aload_n 2, 1) := by decide +kernel
theorem d4_118 : decode method_5_code 118 = .ok (.areturn, 1) := by decide +kernel
theorem d5_0 : decode prog_16_method_4_code 0 = .ok (.iconst 0, 1) := by decide +kernel
theorem d5_1 : decode prog_16_method_4_code 1 = .ok (.istore 5, 2) := by decide +kernel
theorem d5_3 : decode prog_16_method_4_code 3 = .ok (.iload 5, 2) := by decide +kernel
theorem d5_5 : decode prog_16_method_4_code 5 = .ok (.iload_n 2, 1) := by decide +kernel
theorem d5_6 : decode prog_16_method_4_code 6 = .ok (.if_icmp .ge 127, 3) := by decide +kernel
theorem d5_9 : decode prog_16_method_4_code 9 = .ok (.iload 5, 2) := by decide +kernel
theorem d5_11 : decode prog_16_method_4_code 11 = .ok (.iload 4, 2) := by decide +kernel
theorem d5_13 : decode prog_16_method_4_code 13 = .ok (.imul, 1) := by decide +kernel
theorem d5_14 : decode prog_16_method_4_code 14 = .ok (.istore 6, 2) := by decide +kernel
theorem d5_16 : decode prog_16_method_4_code 16 = .ok (.aload_n 0, 1) := by decide +kernel
theorem d5_17 : decode prog_16_method_4_code 17 = .ok (.iload 5, 2) := by decide +kernel
theorem d5_19 : decode prog_16_method_4_code 19 = .ok (.iload_n 1, 1) := by decide +kernel
theorem d5_20 : decode prog_16_method_4_code 20 = .ok (.imul, 1) := by decide +kernel
theorem d5_21 : decode prog_16_method_4_code 21 = .ok (.iload 5, 2) := by decide +kernel
theorem d5_23 : decode prog_16_method_4_code 23 = .ok (.iadd, 1) := by decide +kernel
theorem d5_24 : decode prog_16_method_4_code 24 = .ok (.daload, 1) := by decide +kernel
theorem d5_25 : decode prog_16_method_4_code 25 = .ok (.dstore 7, 2) := by decide +kernel
theorem d5_27 : decode prog_16_method_4_code 27 = .ok (.iconst 0, 1) := by decide +kernel
theorem d5_28 : decode prog_16_method_4_code 28 = .ok (.istore 9, 2) := by decide +kernel
theorem d5_30 : decode prog_16_method_4_code 30 = .ok (.iload 9, 2) := by decide +kernel
theorem d5_32 : decode prog_16_method_4_code 32 = .ok (.iload 4, 2) := by decide +kernel
theorem d5_34 : decode prog_16_method_4_code 34 = .ok (.if_icmp .ge 21, 3) := by decide +kernel
theorem d5_37 : decode prog_16_method_4_code 37 = .ok (.aload_n 3, 1) := by decide +kernel
theorem d5_38 : decode prog_16_method_4_code 38 = .ok (.iload 6, 2) := by decide +kernel
theorem d5_40 : decode prog_16_method_4_code 40 = .ok (.iload 9, 2) := by decide +kernel
theorem d5_42 : decode prog_16_method_4_code 42 = .ok (.iadd, 1) := by decide +kernel
theorem d5_43 : decode prog_16_method_4_code 43 = .ok (.dup2, 1) := by decide +kernel
theorem d5_44 : decode prog_16_method_4_code 44 = .ok (.daload, 1) := by decide +kernel
theorem d5_45 : decode prog_16_method_4_code 45 = .ok (.dload 7, 2) := by decide +kernel
theorem d5_47 : decode prog_16_method_4_code 47 = .ok (.ddiv, 1) := by decide +kernel
theorem d5_48 : decode prog_16_method_4_code 48 = .ok (.dastore, 1) := by decide +kernel
theorem d5_49 : decode prog_16_method_4_code 49 = .ok (.iinc 9 1, 3) := by decide +kernel
theorem d5_52 : decode prog_16_method_4_code 52 = .ok (.goto (-22), 3) := by decide +kernel
theorem d5_55 : decode prog_16_method_4_code 55 = .ok (.iload 5, 2) := by decide +kernel
theorem d5_57 : decode prog_16_method_4_code 57 = .ok (.iconst 1, 1) := by decide +kernel
theorem d5_58 : decode prog_16_method_4_code 58 = .ok (.iadd, 1) := by decide +kernel
theorem d5_59 : decode prog_16_method_4_code 59 = .ok (.istore 9, 2) := by decide +kernel
theorem d5_61 : decode prog_16_method_4_code 61 = .ok (.iload 9, 2) := by decide +kernel
theorem d5_63 : decode prog_16_method_4_code 63 = .ok (.iload_n 2, 1) := by decide +kernel
theorem d5_64 : decode prog_16_method_4_code 64 = .ok (.if_icmp .ge 63, 3) := by decide +kernel
theorem d5_67 : decode prog_16_method_4_code 67 = .ok (.aload_n 0, 1) := by decide +kernel
theorem d5_68 : decode prog_16_method_4_code 68 = .ok (.iload 5, 2) := by decide +kernel
theorem d5_70 : decode prog_16_method_4_code 70 = .ok (.iload_n 1, 1) := by decide +kernel
theorem d5_71 : decode prog_16_method_4_code 71 = .ok (.imul, 1) := by decide +kernel
theorem d5_72 : decode prog_16_method_4_code 72 = .ok (.iload 9, 2) := by decide +kernel
theorem d5_74 : decode prog_16_method_4_code 74 = .ok (.iadd, 1) := by decide +kernel
theorem d5_75 : decode prog_16_method_4_code 75 = .ok (.daload, 1) := by decide +kernel
theorem d5_76 : decode prog_16_method_4_code 76 = .ok (.dstore 10, 2) := by decide +kernel
theorem d5_78 : decode prog_16_method_4_code 78 = .ok (.iload 9, 2) := by decide +kernel
theorem d5_80 : decode prog_16_method_4_code 80 = .ok (.iload 4, 2) := by decide +kernel
theorem d5_82 : decode prog_16_method_4_code 82 = .ok (.imul, 1) := by decide +kernel
theorem d5_83 : decode prog_16_method_4_code 83 = .ok (.istore 12, 2) := by decide +kernel
theorem d5_85 : decode prog_16_method_4_code 85 = .ok (.iconst 0, 1) := by decide +kernel
theorem d5_86 : decode prog_16_method_4_code 86 = .ok (.istore 13, 2) := by decide +kernel
theorem d5_88 : decode prog_16_method_4_code 88 = .ok (.iload 13, 2) := by decide +kernel
theorem d5_90 : decode prog_16_method_4_code 90 = .ok (.iload 4, 2) := by decide +kernel
theorem d5_92 : decode prog_16_method_4_code 92 = .ok (.if_icmp .ge 29, 3) := by decide +kernel
theorem d5_95 : decode prog_16_method_4_code 95 = .ok (.aload_n 3, 1) := by decide +kernel
theorem d5_96 : decode prog_16_method_4_code 96 = .ok (.iload 12, 2) := by decide +kernel
theorem d5_98 : decode prog_16_method_4_code 98 = .ok (.iload 13, 2) := by decide +kernel
theorem d5_100 : decode prog_16_method_4_code 100 = .ok (.iadd, 1) := by decide +kernel
theorem d5_101 : decode prog_16_method_4_code 101 = .ok (.dup2, 1) := by decide +kernel
theorem d5_102 : decode prog_16_method_4_code 102 = .ok (.daload, 1) := by decide +kernel
theorem d5_103 : decode prog_16_method_4_code 103 = .ok (.dload 10, 2) := by decide +kernel
theorem d5_105 : decode prog_16_method_4_code 105 = .ok (.aload_n 3, 1) := by decide +kernel
theorem d5_106 : decode prog_16_method_4_code 106 = .ok (.iload 6, 2) := by decide +kernel
theorem d5_108 : decode prog_16_method_4_code 108 = .ok (.iload 13, 2) := by decide +kernel
theorem d5_110 : decode prog_16_method_4_code 110 = .ok (.iadd, 1) := by decide +kernel
theorem d5_111 : decode prog_16_method_4_code 111 = .ok (.daload, 1) := by decide +kernel
theorem d5_112 : decode prog_16_method_4_code 112 = .ok (.dmul, 1) := by decide +kernel
theorem d5_113 : decode prog_16_method_4_code 113 = .ok (.dsub, 1) := by decide +kernel
theorem d5_114 : decode prog_16_method_4_code 114 = .ok (.dastore, 1) := by decide +kernel
theorem d5_115 : decode prog_16_method_4_code 115 = .ok (.iinc 13 1, 3) := by decide +kernel
theorem d5_118 : decode prog_16_method_4_code 118 = .ok (.goto (-30), 3) := by decide +kernel
theorem d5_121 : decode prog_16_method_4_code 121 = .ok (.iinc 9 1, 3) := by decide +kernel
theorem d5_124 : decode prog_16_method_4_code 124 = .ok (.goto (-63), 3) := by decide +kernel
theorem d5_127 : decode prog_16_method_4_code 127 = .ok (.iinc 5 1, 3) := by decide +kernel
theorem d5_130 : decode prog_16_method_4_code 130 = .ok (.goto (-127), 3) := by decide +kernel
theorem d5_133 : decode prog_16_method_4_code 133 = .ok (.return_, 1) := by decide +kernel
theorem d6_0 : decode method_6_code 0 = .ok (.iload 5, 2) := by decide +kernel
theorem d6_2 : decode method_6_code 2 = .ok (.iload 4, 2) := by decide +kernel
theorem d6_4 : decode method_6_code 4 = .ok (.idiv, 1) := by decide +kernel
theorem d6_5 : decode method_6_code 5 = .ok (.istore 6, 2) := by decide +kernel
theorem d6_7 : decode method_6_code 7 = .ok (.iload 5, 2) := by decide +kernel
theorem d6_9 : decode method_6_code 9 = .ok (.iload 4, 2) := by decide +kernel
theorem d6_11 : decode method_6_code 11 = .ok (.irem, 1) := by decide +kernel
theorem d6_12 : decode method_6_code 12 = .ok (.istore 7, 2) := by decide +kernel
theorem d6_14 : decode method_6_code 14 = .ok (.iload 6, 2) := by decide +kernel
theorem d6_16 : decode method_6_code 16 = .ok (.iload_n 3, 1) := by decide +kernel
theorem d6_17 : decode method_6_code 17 = .ok (.if_icmp .lt 21, 3) := by decide +kernel
theorem d6_20 : decode method_6_code 20 = .ok (.aload_n 1, 1) := by decide +kernel
theorem d6_21 : decode method_6_code 21 = .ok (.iload 5, 2) := by decide +kernel
theorem d6_23 : decode method_6_code 23 = .ok (.daload, 1) := by decide +kernel
theorem d6_24 : decode method_6_code 24 = .ok (.aload_n 2, 1) := by decide +kernel
theorem d6_25 : decode method_6_code 25 = .ok (.iload 5, 2) := by decide +kernel
theorem d6_27 : decode method_6_code 27 = .ok (.daload, 1) := by decide +kernel
theorem d6_28 : decode method_6_code 28 = .ok (.dcmp .l, 1) := by decide +kernel
theorem d6_29 : decode method_6_code 29 = .ok (.ifCond .ne 7, 3) := by decide +kernel
theorem d6_32 : decode method_6_code 32 = .ok (.iconst 1, 1) := by decide +kernel
theorem d6_33 : decode method_6_code 33 = .ok (.goto 4, 3) := by decide +kernel
theorem d6_37 : decode method_6_code 37 = .ok (.ireturn, 1) := by decide +kernel
theorem d6_38 : decode method_6_code 38 = .ok (.aload_n 0, 1) := by decide +kernel
theorem d6_39 : decode method_6_code 39 = .ok (.iload 6, 2) := by decide +kernel
theorem d6_41 : decode method_6_code 41 = .ok (.iconst 4, 1) := by decide +kernel
theorem d6_42 : decode method_6_code 42 = .ok (.imul, 1) := by decide +kernel
theorem d6_43 : decode method_6_code 43 = .ok (.iload 6, 2) := by decide +kernel
theorem d6_45 : decode method_6_code 45 = .ok (.iadd, 1) := by decide +kernel
theorem d6_46 : decode method_6_code 46 = .ok (.daload, 1) := by decide +kernel
theorem d6_47 : decode method_6_code 47 = .ok (.aload_n 1, 1) := by decide +kernel
theorem d6_48 : decode method_6_code 48 = .ok (.iload 6, 2) := by decide +kernel
theorem d6_50 : decode method_6_code 50 = .ok (.iload 4, 2) := by decide +kernel
theorem d6_52 : decode method_6_code 52 = .ok (.imul, 1) := by decide +kernel
theorem d6_53 : decode method_6_code 53 = .ok (.iload 7, 2) := by decide +kernel
theorem d6_55 : decode method_6_code 55 = .ok (.iadd, 1) := by decide +kernel
theorem d6_56 : decode method_6_code 56 = .ok (.daload, 1) := by decide +kernel
theorem d6_57 : decode method_6_code 57 = .ok (.dmul, 1) := by decide +kernel
theorem d6_58 : decode method_6_code 58 = .ok (.dstore 8, 2) := by decide +kernel
theorem d6_60 : decode method_6_code 60 = .ok (.iload 6, 2) := by decide +kernel
theorem d6_62 : decode method_6_code 62 = .ok (.iconst 1, 1) := by decide +kernel
theorem d6_63 : decode method_6_code 63 = .ok (.if_icmp .lt 17, 3) := by decide +kernel
theorem d6_66 : decode method_6_code 66 = .ok (.dload 8, 2) := by decide +kernel
theorem d6_68 : decode method_6_code 68 = .ok (.aload_n 0, 1) := by decide +kernel
theorem d6_69 : decode method_6_code 69 = .ok (.iload 6, 2) := by decide +kernel
theorem d6_71 : decode method_6_code 71 = .ok (.daload, 1) := by decide +kernel
theorem d6_72 : decode method_6_code 72 = .ok (.aload_n 1, 1) := by decide +kernel
theorem d6_73 : decode method_6_code 73 = .ok (.iload 7, 2) := by decide +kernel
theorem d6_75 : decode method_6_code 75 = .ok (.daload, 1) := by decide +kernel
theorem d6_76 : decode method_6_code 76 = .ok (.dmul, 1) := by decide +kernel
theorem d6_77 : decode method_6_code 77 = .ok (.dadd, 1) := by decide +kernel
theorem d6_78 : decode method_6_code 78 = .ok (.dstore 8, 2) := by decide +kernel
theorem d6_80 : decode method_6_code 80 = .ok (.iload 6, 2) := by decide +kernel
theorem d6_82 : decode method_6_code 82 = .ok (.iconst 2, 1) := by decide +kernel
theorem d6_83 : decode method_6_code 83 = .ok (.if_icmp .lt 22, 3) := by decide +kernel
theorem d6_86 : decode method_6_code 86 = .ok (.dload 8, 2) := by decide +kernel
theorem d6_88 : decode method_6_code 88 = .ok (.aload_n 0, 1) := by decide +kernel
theorem d6_89 : decode method_6_code 89 = .ok (.iconst 4, 1) := by decide +kernel
theorem d6_90 : decode method_6_code 90 = .ok (.iload 6, 2) := by decide +kernel
theorem d6_92 : decode method_6_code 92 = .ok (.iadd, 1) := by decide +kernel
theorem d6_93 : decode method_6_code 93 = .ok (.daload, 1) := by decide +kernel
theorem d6_94 : decode method_6_code 94 = .ok (.aload_n 1, 1) := by decide +kernel
theorem d6_95 : decode method_6_code 95 = .ok (.iload 4, 2) := by decide +kernel
theorem d6_97 : decode method_6_code 97 = .ok (.iload 7, 2) := by decide +kernel
theorem d6_99 : decode method_6_code 99 = .ok (.iadd, 1) := by decide +kernel
theorem d6_100 : decode method_6_code 100 = .ok (.daload, 1) := by decide +kernel
theorem d6_101 : decode method_6_code 101 = .ok (.dmul, 1) := by decide +kernel
theorem d6_102 : decode method_6_code 102 = .ok (.dadd, 1) := by decide +kernel
theorem d6_103 : decode method_6_code 103 = .ok (.dstore 8, 2) := by decide +kernel
theorem d6_105 : decode method_6_code 105 = .ok (.dload 8, 2) := by decide +kernel
theorem d6_107 : decode method_6_code 107 = .ok (.aload_n 2, 1) := by decide +kernel
theorem d6_108 : decode method_6_code 108 = .ok (.iload 5, 2) := by decide +kernel
theorem d6_110 : decode method_6_code 110 = .ok (.daload, 1) := by decide +kernel
theorem d6_111 : decode method_6_code 111 = .ok (.dcmp .l, 1) := by decide +kernel
theorem d6_112 : decode method_6_code 112 = .ok (.ifCond .ne 7, 3) := by decide +kernel
theorem d6_115 : decode method_6_code 115 = .ok (.iconst 1, 1) := by decide +kernel
theorem d6_116 : decode method_6_code 116 = .ok (.goto 4, 3) := by decide +kernel
theorem d6_120 : decode method_6_code 120 = .ok (.ireturn, 1) := by decide +kernel
theorem pd_0 : parseMethodDescriptor "(JI)D" = some ⟨[.long, .int], some .double⟩ := by decide +kernel
theorem pd_1 : parseMethodDescriptor "(J)[D" = some ⟨[.long], some (.array .double)⟩ := by decide +kernel
theorem pd_2 : parseMethodDescriptor "([DII[DI)V" = some ⟨[(.array .double), .int, .int, (.array .double), .int], none⟩ := by decide +kernel
theorem pd_3 : parseMethodDescriptor "([D[D[DIII)Z" = some ⟨[(.array .double), (.array .double), (.array .double), .int, .int, .int], some .boolean⟩ := by decide +kernel
section OwnFP
open Jvm.FP Jvm.FP.Core Jvm.Free.Fl
/-- a double's value, counted in the format's least numbers (2^-1074) -/
def dv (x : UInt64) : Int := zval b64 (val64 x)
/-- what the whole number 1 counts -/
def oneU : Int := (one64 : Int)
/-- z least numbers are a finite double -/
def Rep (z : Int) : Prop := ∃ V : Datum, FP.Core.fits b64 V ∧ (∃ s c q, V = .fin s c q) ∧ zval b64 V = z
theorem oneU_pos : 0 < oneU := by have := one64_pos; unfold oneU; omega
theorem rep_neg {z : Int} (h : Rep z) : Rep (-z) := by
  obtain ⟨V, h1, ⟨s, c, q, rfl⟩, h3⟩ := h
  exact ⟨negate (.fin s c q), negate_fits h1, ⟨_, _, _, rfl⟩, by rw [zval_negate, h3]⟩
theorem rep_nat {c j : Nat} (hc : c < 2 ^ 53) (hj : j ≤ 2045) : Rep ((c * 2 ^ j : Nat) : Int) := by
  have hm : b64.qmax = 971 := by decide
  obtain ⟨c', q', h1, h2⟩ := round_exact good_b64 false (c := c) (q := -1074 + (j : Int)) hc (by rw [qmin_b64]; omega) (by rw [hm]; omega)
  refine ⟨round b64 (.fin false c (-1074 + (j : Int))), round_fits good_b64 _, ⟨_, _, _, h1⟩, ?_⟩
  rw [h1]
  show signed false (inUnits c' q' b64.qmin) = _
  rw [h2]
  show ((inUnits c (-1074 + (j : Int)) b64.qmin : Nat) : Int) = _
  unfold inUnits
  rw [qmin_b64, show (-1074 + (j : Int) - -1074).toNat = j by omega]
theorem rep_int {z : Int} {c j : Nat} (hc : c < 2 ^ 53) (hj : j ≤ 2045) (h : z.natAbs = c * 2 ^ j) : Rep z := by
  have q := rep_nat hc hj
  rw [← h] at q
  rcases Int.natAbs_eq z with e | e
  · rw [e]; exact q
  · rw [e]; exact rep_neg q
theorem rep_dv {x : UInt64} (h : DFin x) : Rep (dv x) := ⟨val64 x, val64_fits x, h, rfl⟩
theorem squeeze {d : Datum} (hf : FP.Core.fits b64 d) (hn : d ≠ .nan) {z : Int} (hr : Rep z) (h1 : ∀ V, FP.Core.fits b64 V → V ≠ .nan → zval b64 V = z → zval b64 d ≤ zval b64 V) (h2 : ∀ V, FP.Core.fits b64 V → V ≠ .nan → zval b64 V = z → zval b64 V ≤ zval b64 d) :
    (∃ s c q, d = .fin s c q) ∧ zval b64 d = z := by
  obtain ⟨V, v1, ⟨s, c, q, rfl⟩, v3⟩ := hr
  have e1 := h1 _ v1 (by simp) v3
  have e2 := h2 _ v1 (by simp) v3
  have e : zval b64 d = z := by omega
  refine ⟨?_, e⟩
  have ht := zmag_lt_top good_b64 v1
  cases d with
  | nan => exact absurd rfl hn
  | fin s' c' q' => exact ⟨_, _, _, rfl⟩
  | inf t =>
    exfalso
    rw [← v3] at e
    have a1 : (zval b64 (.inf t)).natAbs = b64.tails * 2 ^ (b64.exps - 2) := natAbs_signed _ _
    have a2 : (zval b64 (.fin s c q)).natAbs = inUnits c q b64.qmin := natAbs_signed _ _
    rw [e, a2] at a1
    omega
theorem add_le {x y : UInt64} (hx : DFin x) (hy : DFin y) {V : Datum} (fV : FP.Core.fits b64 V) (hV : V ≠ .nan) (h : dv x + dv y ≤ zval b64 V) : dv (FP.dadd x y) ≤ zval b64 V := by
  unfold dv; rw [val64_dadd]; exact sum_le good_b64 hx hy (val64_fits x) (val64_fits y) fV hV h
theorem add_ge {x y : UInt64} (hx : DFin x) (hy : DFin y) {V : Datum} (fV : FP.Core.fits b64 V) (hV : V ≠ .nan) (h : zval b64 V ≤ dv x + dv y) : zval b64 V ≤ dv (FP.dadd x y) := by
  unfold dv; rw [val64_dadd]; exact sum_ge good_b64 hx hy (val64_fits x) (val64_fits y) fV hV h
theorem add_exact {x y : UInt64} (hx : DFin x) (hy : DFin y) {z : Int} (h : dv x + dv y = z) (hr : Rep z) : DFin (FP.dadd x y) ∧ dv (FP.dadd x y) = z :=
  squeeze (val64_fits _) ((notNaN_iff _).mp (dadd_out hx.notNaN hy)) hr (fun V f n e => add_le hx hy f n (by omega)) (fun V f n e => add_ge hx hy f n (by omega))
theorem neg_fin {x : UInt64} (hx : DFin x) : DFin (FP.dneg x) ∧ dv (FP.dneg x) = -dv x := by
  obtain ⟨s, c, q, h⟩ := hx
  unfold dv DFin; rw [FP.val64_dneg, zval_negate, h]
  exact ⟨⟨_, _, _, rfl⟩, rfl⟩
theorem sub_dneg {x y : UInt64} (hy : DFin y) : FP.dsub x y = FP.dadd x (FP.dneg y) := by
  rw [FP.dneg_core hy.notNaN]; exact dsub_eq x y
theorem sub_exact {x y : UInt64} (hx : DFin x) (hy : DFin y) {z : Int} (h : dv x - dv y = z) (hr : Rep z) : DFin (FP.dsub x y) ∧ dv (FP.dsub x y) = z := by
  rw [sub_dneg hy]
  exact add_exact hx (neg_fin hy).1 (by rw [(neg_fin hy).2]; omega) hr
theorem mul_units {x y : UInt64} (hx : DFin x) (hy : DFin y) : ∃ s c q, exactProduct (val64 x) (val64 y) = .fin s c q ∧ 2 * b64.qmin ≤ q ∧ signed s (inUnits c q (2 * b64.qmin)) = dv x * dv y := by
  obtain ⟨s, c, q, h1⟩ := hx
  obtain ⟨t, d, r, h2⟩ := hy
  have f1 := val64_fits x
  have f2 := val64_fits y
  unfold dv
  rw [h1] at f1 ⊢
  rw [h2] at f2 ⊢
  obtain ⟨p1, p2, p3⟩ := product_units f1 f2
  refine ⟨_, _, _, p1, p2, ?_⟩
  rw [p3, signed_xor]
  rfl
theorem two_qmin : 2 ^ (b64.qmin - 2 * b64.qmin).toNat = one64 := by rw [← pow_qmin64]; congr 1
theorem mul_le {x y : UInt64} (hx : DFin x) (hy : DFin y) {V : Datum} (fV : FP.Core.fits b64 V) (hV : V ≠ .nan) (h : dv x * dv y ≤ zval b64 V * oneU) : dv (FP.dmul x y) ≤ zval b64 V := by
  obtain ⟨s, c, q, h1, h2, h3⟩ := mul_units hx hy
  show zval b64 (val64 (FP.dmul x y)) ≤ _
  rw [val64_dmul, h1]
  refine zval_round_le good_b64 fV hV (e0 := 2 * b64.qmin) (by rw [qmin_b64]; omega) h2 ?_
  rw [h3, two_qmin]; exact h
theorem mul_ge {x y : UInt64} (hx : DFin x) (hy : DFin y) {V : Datum} (fV : FP.Core.fits b64 V) (hV : V ≠ .nan) (h : zval b64 V * oneU ≤ dv x * dv y) : zval b64 V ≤ dv (FP.dmul x y) := by
  obtain ⟨s, c, q, h1, h2, h3⟩ := mul_units hx hy
  show _ ≤ zval b64 (val64 (FP.dmul x y))
  rw [val64_dmul, h1]
  refine zval_round_ge good_b64 fV hV (e0 := 2 * b64.qmin) (by rw [qmin_b64]; omega) h2 ?_
  rw [h3, two_qmin]; exact h
theorem mul_exact {x y : UInt64} (hx : DFin x) (hy : DFin y) {z : Int} (h : dv x * dv y = z * oneU) (hr : Rep z) : DFin (FP.dmul x y) ∧ dv (FP.dmul x y) = z :=
  squeeze (val64_fits _) ((notNaN_iff _).mp (dmul_out hx hy)) hr (fun V f n e => mul_le hx hy f n (by rw [e, h]; exact Int.le_refl _)) (fun V f n e => mul_ge hx hy f n (by rw [e, h]; exact Int.le_refl _))
theorem dv_zero_iff {x : UInt64} (hx : DFin x) : DZero x ↔ dv x = 0 := by
  obtain ⟨s, c, q, h⟩ := hx
  constructor
  · intro hz; exact hz.zval
  · intro hz; exact (zero_bits2 x).mpr ((zval_eq_zero (by rw [h]; simp)).mp hz)
theorem div_units {x y : UInt64} (hx : DFin x) (hy : DFin y) (h0 : dv y ≠ 0) : ∃ (s t : Bool) (c d : Nat) (q r : Int), val64 (FP.ddiv x y) = roundRatio b64 (s != t) c d (q - r) ∧ 0 < d ∧ b64.qmin ≤ q ∧ b64.qmin ≤ r ∧ dv x = signed s (inUnits c q b64.qmin) ∧ dv y = signed t (inUnits d r b64.qmin) := by
  obtain ⟨s, c, q, h1⟩ := hx
  obtain ⟨t, d, r, h2⟩ := hy
  have f1 := val64_fits x
  have f2 := val64_fits y
  have hd : d ≠ 0 := by
    intro e; apply h0; unfold dv; rw [h2, e]; show signed t (inUnits 0 r b64.qmin) = 0; unfold inUnits; rw [Nat.zero_mul, signed_zero]
  refine ⟨s, t, c, d, q, r, ?_, Nat.pos_of_ne_zero hd, ?_, ?_, ?_, ?_⟩
  · rw [val64_ddiv, h1, h2]; show (if d = 0 then _ else _) = _; rw [if_neg hd]
  · rw [h1] at f1; exact f1.2.1
  · rw [h2] at f2; exact f2.2.1
  · unfold dv; rw [h1]; rfl
  · unfold dv; rw [h2]; rfl
theorem div_scale {c d : Nat} {q r : Int} (h1 : b64.qmin ≤ q) (h2 : b64.qmin ≤ r) (v : Nat) :
    inUnits c (q - r) (2 * b64.qmin - r) = inUnits c q b64.qmin * one64 ∧ v * 2 ^ (b64.qmin - (2 * b64.qmin - r)).toNat * d = v * inUnits d r b64.qmin := by
  unfold inUnits
  rw [← pow_qmin64]
  rw [qmin_b64] at h1 h2 ⊢
  constructor
  · rw [show (q - r - (2 * -1074 - r)).toNat = (q - -1074).toNat + (- -1074 : Int).toNat by omega, Nat.pow_add, Nat.mul_assoc]
  · rw [show (-1074 - (2 * -1074 - r)).toNat = (r - -1074).toNat by omega, Nat.mul_assoc, Nat.mul_comm (2 ^ _) d]
/-- a quotient of two that are not below nought, by monotony -/
theorem div_le {x y : UInt64} (hx : DFin x) (hy : DFin y) (px : 0 ≤ dv x) (py : 0 < dv y) {V : Datum} (fV : FP.Core.fits b64 V) (hV : V ≠ .nan) (h : dv x * oneU ≤ zval b64 V * dv y) : dv (FP.ddiv x y) ≤ zval b64 V := by
  obtain ⟨s, t, c, d, q, r, e, hd, hq, hr, ex, ey⟩ := div_units hx hy (by omega)
  show zval b64 (val64 (FP.ddiv x y)) ≤ _
  rw [e]
  have nv : 0 ≤ zval b64 V := by
    rcases Int.lt_or_le (zval b64 V) 0 with g | g
    · have := oneU_pos
      have a1 : 0 ≤ dv x * oneU := Int.mul_nonneg px (by omega)
      have a2 : zval b64 V * dv y < 0 := Int.mul_neg_of_neg_of_pos g py
      omega
    · exact g
  obtain ⟨k1, k2⟩ := div_scale (c := c) (d := d) hq hr (zmag b64 V)
  have ax : dv x = (inUnits c q b64.qmin : Int) := by
    rw [ex] at px ⊢; unfold signed at px ⊢; split <;> rename_i g <;> simp only [g, if_true] at px <;> omega
  have ay : dv y = (inUnits d r b64.qmin : Int) := by
    rw [ey] at py ⊢; unfold signed at py ⊢; split <;> rename_i g <;> simp only [g, if_true] at py <;> omega
  have av : zval b64 V = (zmag b64 V : Int) := by
    unfold zval at nv ⊢; unfold signed at nv ⊢; split <;> rename_i g <;> simp only [g, if_true] at nv <;> omega
  have hz := zmag_roundRatio_le good_b64 (s := (s != t)) (A := c) (B := d) (e := q - r) (e0 := 2 * b64.qmin - r) hd fV hV (by omega) (by rw [qmin_b64] at hq ⊢; omega) (by
    rw [k1, k2]
    rw [ax, ay, av] at h
    unfold oneU at h
    exact_mod_cast h)
  rw [av]
  unfold zval signed
  split <;> omega
theorem div_ge {x y : UInt64} (hx : DFin x) (hy : DFin y) (px : 0 ≤ dv x) (py : 0 < dv y) (hs : ∀ s c q, val64 x = .fin s c q → s = false) (hs' : ∀ s c q, val64 y = .fin s c q → s = false) {V : Datum} (fV : FP.Core.fits b64 V) (h : zval b64 V * dv y ≤ dv x * oneU) : zval b64 V ≤ dv (FP.ddiv x y) := by
  obtain ⟨s, c, q, h1⟩ := hx
  obtain ⟨t, d, r, h2⟩ := hy
  have es := hs _ _ _ h1
  have et := hs' _ _ _ h2
  subst es et
  have f1 := val64_fits x
  have f2 := val64_fits y
  have ax : dv x = (inUnits c q b64.qmin : Int) := by unfold dv; rw [h1]; rfl
  have ay : dv y = (inUnits d r b64.qmin : Int) := by unfold dv; rw [h2]; rfl
  have hd : d ≠ 0 := by
    intro e; rw [ay, e] at py; unfold inUnits at py; rw [Nat.zero_mul] at py; exact absurd py (by decide)
  rw [h1] at f1
  rw [h2] at f2
  show _ ≤ zval b64 (val64 (FP.ddiv x y))
  rw [val64_ddiv, h1, h2]
  show _ ≤ zval b64 (if d = 0 then _ else _)
  rw [if_neg hd]
  obtain ⟨k1, k2⟩ := div_scale (c := c) (d := d) f1.2.1 f2.2.1 (zmag b64 V)
  have hz := fun g => zmag_roundRatio_ge good_b64 (s := (false != false)) (A := c) (B := d) (e := q - r) (e0 := 2 * b64.qmin - r) (V := V) (Nat.pos_of_ne_zero hd) fV (by have := f2.2.1; omega) (by have := f1.2.1; rw [qmin_b64] at this ⊢; omega) g
  have e : zval b64 (roundRatio b64 (false != false) c d (q - r)) = (zmag b64 (roundRatio b64 (false != false) c d (q - r)) : Int) := by
    unfold zval; rw [sgn_roundRatio]; rfl
  rw [e]
  rcases Int.lt_or_le (zval b64 V) 0 with g | g
  · omega
  · have av : zval b64 V = (zmag b64 V : Int) := by
      unfold zval at g ⊢; unfold signed at g ⊢; split <;> rename_i w <;> simp only [w, if_true] at g <;> omega
    rw [av] at h ⊢
    have := hz (by
      rw [k1, k2]
      rw [ax, ay] at h
      unfold oneU at h
      exact_mod_cast h)
    omega
theorem noNaN_of_fin {x : UInt64} (h : DFin x) : NoNaN64 x := (fin64_core.mpr h).noNaN
theorem dint_fin {i : Int} {x : UInt64} (h : DInt i x) : DFin x ∧ dv x = i * oneU := by
  refine ⟨?_, DInt_zval h⟩
  unfold DInt at h
  cases hv : val64 x with
  | nan => rw [hv] at h; exact h.elim
  | inf s => rw [hv] at h; exact h.elim
  | fin s c q => exact ⟨s, c, q, hv⟩
theorem cmp_dv {x y : UInt64} (hx : DFin x) (hy : DFin y) : FP.dcmp x y = some (compare (dv x) (dv y)) := dcmp_zval hx.ne_nan hy.ne_nan
end OwnFP
section OwnDy
open Jvm.FP Jvm.FP.Core Jvm.Free.Fl
/-- 2^j, as an Int -/
def pw (j : Nat) : Int := ((2 ^ j : Nat) : Int)
theorem pw_mul (i j : Nat) : pw i * pw j = pw (i + j) := by unfold pw; rw [Nat.pow_add]; exact (Int.natCast_mul _ _).symm
theorem pw_pos (j : Nat) : 0 < pw j := by unfold pw; have := Nat.two_pow_pos j; omega
theorem pw_abs (j : Nat) : (pw j).natAbs = 2 ^ j := by unfold pw; exact Int.natAbs_natCast _
theorem oneU_pw : oneU = pw 1074 := rfl
/-- the double x is n * 2^j least numbers (n whole: j = 1074) -/
def Dy (n : Int) (j : Nat) (x : UInt64) : Prop := DFin x ∧ dv x = n * pw j
theorem dy_int {i : Int} {x : UInt64} (h : DInt i x) : Dy i 1074 x := by
  have q := dint_fin h
  exact ⟨q.1, by rw [q.2, oneU_pw]⟩
theorem rep_pw {n : Int} {j : Nat} (hn : n.natAbs < 2 ^ 53) (hj : j ≤ 2045) : Rep (n * pw j) := rep_int hn hj (by rw [Int.natAbs_mul, pw_abs])
theorem dy_add {n m : Int} {j : Nat} {x y : UInt64} (hx : Dy n j x) (hy : Dy m j y) (h : (n + m).natAbs < 2 ^ 53) (hj : j ≤ 2045) : Dy (n + m) j (FP.dadd x y) :=
  add_exact hx.1 hy.1 (by rw [hx.2, hy.2, Int.add_mul]) (rep_pw h hj)
theorem dy_sub {n m : Int} {j : Nat} {x y : UInt64} (hx : Dy n j x) (hy : Dy m j y) (h : (n - m).natAbs < 2 ^ 53) (hj : j ≤ 2045) : Dy (n - m) j (FP.dsub x y) :=
  sub_exact hx.1 hy.1 (by rw [hx.2, hy.2, Int.sub_mul]) (rep_pw h hj)
theorem dy_neg {n : Int} {j : Nat} {x : UInt64} (hx : Dy n j x) : Dy (-n) j (FP.dneg x) :=
  ⟨(neg_fin hx.1).1, by rw [(neg_fin hx.1).2, hx.2, Int.neg_mul]⟩
theorem dy_mul {n m : Int} {i j k : Nat} {x y : UInt64} (hx : Dy n i x) (hy : Dy m j y) (hk : i + j = k + 1074) (h : (n * m).natAbs < 2 ^ 53) (hj : k ≤ 2045) : Dy (n * m) k (FP.dmul x y) :=
  mul_exact hx.1 hy.1 (by
    have e : pw i * pw j = pw k * oneU := by rw [oneU_pw, pw_mul, pw_mul, hk]
    rw [hx.2, hy.2, Int.mul_assoc (n * m), ← e]
    ac_rfl) (rep_pw h hj)
theorem dy_shift {n : Int} {j : Nat} {x : UInt64} (t : Nat) (h : Dy n (j + t) x) : Dy (n * pw t) j x := by
  refine ⟨h.1, ?_⟩
  rw [h.2, ← pw_mul]
  ac_rfl
theorem compare_pw (n m : Int) (j : Nat) : compare (n * pw j) (m * pw j) = compare n m := compare_mul_pos _ _ _ (pw_pos j)
theorem dy_cmp {n m : Int} {j : Nat} {x y : UInt64} (hx : Dy n j x) (hy : Dy m j y) : FP.dcmp x y = some (compare n m) := by
  rw [cmp_dv hx.1 hy.1, hx.2, hy.2, compare_pw]
theorem signed_cases (s : Bool) (n : Nat) : signed s n = (n : Int) ∨ signed s n = -(n : Int) := by cases s <;> simp [signed]
/-- an exact quotient -/
theorem div_exact {x y : UInt64} (hx : DFin x) (hy : DFin y) (h0 : dv y ≠ 0) {z : Int} (h : dv x * oneU = z * dv y) (hr : Rep z) : DFin (FP.ddiv x y) ∧ dv (FP.ddiv x y) = z := by
  obtain ⟨s, t, c, d, q, r, e, hd, hq, hr1, ex, ey⟩ := div_units hx hy h0
  obtain ⟨V, fV, ⟨s', c', q', rfl⟩, hz⟩ := hr
  have az : zmag b64 (.fin s' c' q') = z.natAbs := by rw [← hz]; exact (natAbs_signed _ _).symm
  have ax : (dv x).natAbs = inUnits c q b64.qmin := by rw [ex, natAbs_signed]
  have ay : (dv y).natAbs = inUnits d r b64.qmin := by rw [ey, natAbs_signed]
  have ha : inUnits c q b64.qmin * one64 = z.natAbs * inUnits d r b64.qmin := by
    have := congrArg Int.natAbs h
    rw [Int.natAbs_mul, Int.natAbs_mul, ax, ay] at this
    exact this
  obtain ⟨k1, k2⟩ := div_scale (c := c) (d := d) hq hr1 (zmag b64 (.fin s' c' q'))
  have l1 := zmag_roundRatio_le good_b64 (s := (s != t)) (A := c) (B := d) (e := q - r) (e0 := 2 * b64.qmin - r) hd fV (by simp) (by omega) (by rw [qmin_b64] at hq ⊢; omega) (by rw [k1, k2, az, ha]; exact Nat.le_refl _)
  have l2 := zmag_roundRatio_ge good_b64 (s := (s != t)) (A := c) (B := d) (e := q - r) (e0 := 2 * b64.qmin - r) hd fV (by omega) (by rw [qmin_b64] at hq ⊢; omega) (by rw [k1, k2, az, ha]; exact Nat.le_refl _)
  have lz : zmag b64 (roundRatio b64 (s != t) c d (q - r)) = z.natAbs := by omega
  have ez : zval b64 (val64 (FP.ddiv x y)) = signed (s != t) z.natAbs := by
    rw [e]; unfold zval; rw [sgn_roundRatio, lz]
  have es : signed (s != t) z.natAbs = z := by
    by_cases hz0 : z = 0
    · rw [hz0]; exact signed_zero _
    · have hu := oneU_pos
      rw [ex, ey] at h
      have hc : 0 < inUnits c q b64.qmin := by
        rcases Nat.eq_zero_or_pos (inUnits c q b64.qmin) with w | w
        · rw [w, Nat.zero_mul] at ha
          have : 0 < z.natAbs * inUnits d r b64.qmin := Nat.mul_pos (by omega) (by unfold inUnits; exact Nat.mul_pos hd (Nat.two_pow_pos _))
          omega
        · exact w
      have hdd : 0 < inUnits d r b64.qmin := by unfold inUnits; exact Nat.mul_pos hd (Nat.two_pow_pos _)
      generalize inUnits c q b64.qmin = C at *
      generalize inUnits d r b64.qmin = D at *
      have p1 : (0 : Int) < (C : Int) * oneU := Int.mul_pos (by omega) hu
      cases s <;> cases t <;> simp only [signed, bne_self_eq_false, Bool.false_eq_true, if_false, if_true, Bool.true_bne, Bool.false_bne, Bool.not_false] at h ⊢
      · have : 0 < z := by
          rcases Int.lt_or_le 0 z with w | w
          · exact w
          · have := Int.mul_nonpos_of_nonpos_of_nonneg w (show (0 : Int) ≤ (D : Int) by omega); omega
        omega
      · have : z < 0 := by
          rcases Int.lt_or_le z 0 with w | w
          · exact w
          · have := Int.mul_nonneg w (show (0 : Int) ≤ (D : Int) by omega); rw [Int.mul_neg] at h; omega
        omega
      · have : z < 0 := by
          rcases Int.lt_or_le z 0 with w | w
          · exact w
          · have := Int.mul_nonneg w (show (0 : Int) ≤ (D : Int) by omega); rw [Int.neg_mul] at h; omega
        omega
      · have : 0 < z := by
          rcases Int.lt_or_le 0 z with w | w
          · exact w
          · have := Int.mul_nonpos_of_nonpos_of_nonneg w (show (0 : Int) ≤ (D : Int) by omega); rw [Int.neg_mul, Int.mul_neg] at h; omega
        omega
  refine ⟨?_, ez.trans es⟩
  have hn : FP.dIsNaN (FP.ddiv x y) = false := ddiv_out hx.notNaN hy (fun w => h0 ((dv_zero_iff hy).mp w))
  have ht := zmag_lt_top good_b64 fV
  unfold DFin
  cases hv : val64 (FP.ddiv x y) with
  | nan => exact absurd hv ((notNaN_iff _).mp hn)
  | fin s2 c2 q2 => exact ⟨_, _, _, rfl⟩
  | inf t2 =>
    exfalso
    rw [hv] at e
    rw [← e] at lz
    have a1 : zmag b64 (.inf t2) = b64.tails * 2 ^ (b64.exps - 2) := rfl
    have a2 : zmag b64 (.fin s' c' q') = inUnits c' q' b64.qmin := rfl
    rw [a1] at lz
    omega
theorem dy_div {n m q : Int} {i j k : Nat} {x y : UInt64} (hx : Dy n i x) (hy : Dy m j y) (hm : m ≠ 0) (hq : n = q * m) (hk : i + 1074 = k + j) (h : q.natAbs < 2 ^ 53) (hj : k ≤ 2045) : Dy q k (FP.ddiv x y) :=
  div_exact hx.1 hy.1 (by rw [hy.2]; exact Int.mul_ne_zero hm (Int.ne_of_gt (pw_pos j))) (by
    have e : pw i * oneU = pw k * pw j := by rw [oneU_pw, pw_mul, pw_mul, hk]
    rw [hx.2, hy.2, hq, Int.mul_assoc (q * m), e]
    ac_rfl) (rep_pw h hj)
theorem dy_noNaN {n : Int} {j : Nat} {x : UInt64} (h : Dy n j x) : NoNaN64 x := noNaN_of_fin h.1
/-- two quotients of the same ratio are one double -/
theorem div_congr {x y x' y' : UInt64} (hx : DFin x) (hy : DFin y) (hx' : DFin x') (hy' : DFin y') (px : 0 < dv x) (py : 0 < dv y) (px' : 0 < dv x') (py' : 0 < dv y') (h : dv x * dv y' = dv x' * dv y) : FP.ddiv x y = FP.ddiv x' y' := by
  have sg : ∀ {s : Bool} {n : Nat}, 0 < signed s n → s = false ∧ signed s n = (n : Int) := by
    intro s n q; cases s
    · exact ⟨rfl, rfl⟩
    · simp only [signed, if_true] at q; omega
  obtain ⟨s, t, c, d, q, r, e, hd, hq, hr, ex, ey⟩ := div_units hx hy (by omega)
  obtain ⟨s', t', c', d', q', r', e', hd', hq', hr', ex', ey'⟩ := div_units hx' hy' (by omega)
  rw [ex] at px; rw [ey] at py; rw [ex'] at px'; rw [ey'] at py'
  rw [ex, ey, ex', ey', (sg px).2, (sg py).2, (sg px').2, (sg py').2] at h
  have hn : val64 (FP.ddiv x y) ≠ .nan := by rw [e]; exact roundRatio_ne_nan _ _ _ _ _
  refine val64_inj hn ?_
  rw [e, e', (sg px).1, (sg py).1, (sg px').1, (sg py').1]
  refine roundRatio_congr hd hd' ?_
  have hN : inUnits c q b64.qmin * inUnits d' r' b64.qmin = inUnits c' q' b64.qmin * inUnits d r b64.qmin := by exact_mod_cast h
  unfold inUnits at hN
  generalize ha1 : (q - b64.qmin).toNat = a1 at hN
  generalize ha2 : (r' - b64.qmin).toNat = a2 at hN
  generalize ha3 : (q' - b64.qmin).toNat = a3 at hN
  generalize ha4 : (r - b64.qmin).toNat = a4 at hN
  have h1 : c * d' * 2 ^ (a1 + a2) = c' * d * 2 ^ (a3 + a4) := by
    rw [Nat.pow_add, Nat.pow_add]
    calc c * d' * (2 ^ a1 * 2 ^ a2) = c * 2 ^ a1 * (d' * 2 ^ a2) := by ac_rfl
      _ = c' * 2 ^ a3 * (d * 2 ^ a4) := hN
      _ = _ := by ac_rfl
  rcases Nat.le_total (a3 + a4) (a1 + a2) with w | w
  · obtain ⟨k, hk⟩ := Nat.le.dest w
    rw [← hk, Nat.pow_add 2 (a3 + a4) k, Nat.mul_comm (2 ^ (a3 + a4)), ← Nat.mul_assoc] at h1
    have h2 := Nat.eq_of_mul_eq_mul_right (Nat.two_pow_pos _) h1
    rw [show (q - r - (q' - r')).toNat = k by omega, show (q' - r' - (q - r)).toNat = 0 by omega, h2]; omega
  · obtain ⟨k, hk⟩ := Nat.le.dest w
    rw [← hk, Nat.pow_add 2 (a1 + a2) k, Nat.mul_comm (2 ^ (a1 + a2)), ← Nat.mul_assoc] at h1
    have h2 := Nat.eq_of_mul_eq_mul_right (Nat.two_pow_pos _) h1
    rw [show (q - r - (q' - r')).toNat = 0 by omega, show (q' - r' - (q - r)).toNat = k by omega, ← h2]; omega
theorem own_p53 : (2 : Nat) ^ 53 = 9007199254740992 := by decide +kernel
theorem own_mb {a b : Int} {A B : Nat} (ha : a.natAbs ≤ A) (hb : b.natAbs ≤ B) (h : A * B < 9007199254740992) : (a * b).natAbs < 2 ^ 53 := by
  rw [own_p53, Int.natAbs_mul]; exact Nat.lt_of_le_of_lt (Nat.mul_le_mul ha hb) h
theorem own_addl {a b : Int} {A B : Nat} (ha : a.natAbs ≤ A) (hb : b.natAbs ≤ B) : (a + b).natAbs ≤ A + B := by omega
theorem own_subl {a b : Int} {A B : Nat} (ha : a.natAbs ≤ A) (hb : b.natAbs ≤ B) : (a - b).natAbs ≤ A + B := by omega
theorem own_addb {a b : Int} {A B : Nat} (ha : a.natAbs ≤ A) (hb : b.natAbs ≤ B) (h : A + B < 9007199254740992) : (a + b).natAbs < 2 ^ 53 := by rw [own_p53]; omega
theorem own_subb {a b : Int} {A B : Nat} (ha : a.natAbs ≤ A) (hb : b.natAbs ≤ B) (h : A + B < 9007199254740992) : (a - b).natAbs < 2 ^ 53 := by rw [own_p53]; omega
theorem own_shl {a k : Int} {A B : Nat} (ha : a.natAbs ≤ A) (h : A * k.natAbs ≤ B) : (a * k).natAbs ≤ B := by rw [Int.natAbs_mul]; exact Nat.le_trans (Nat.mul_le_mul_right _ ha) h
theorem own_dyeq {n m : Int} {j : Nat} {x y : UInt64} (hx : Dy n j x) (hy : Dy m j y) (h : n = m) {op : CmpOp} : cmpValue (FP.dcmp x y) op = 0 := by
  rw [dy_cmp hx hy, (compare_eq_iff _ _).mpr h]; rfl
end OwnDy
section OwnArr
variable {p : Program} {l : Launch} {e : Env} {R : Room} {s : State} {m : MethodId} {args : Array Value} {below : List Frame} {meth : Method} {c : Code} {T : State} {Z : State} {a0 : Array Value} {h h' : Heap} {n0 cells slots nc ns pc pc' : Nat} {Ls : Array Slot} {st rest : List Value} {Q : Option Value → Heap → Prop} {a b : Addr} {vs : List UInt64}
/-- in heap h, at a, there is a double[] that holds just these -/
def AD (Z : State) (h : Heap) (a : Addr) (vs : List UInt64) : Prop := ∃ c : Cell, Arr Z h a c .double ∧ c.slots.size = vs.length ∧ vs.length < 2147483648 ∧ ∀ i, i < vs.length → c.slots[i]? = some (.double (vs.getD i 0))
theorem AD.lt (F : AD Z h a vs) : a < h.size := by obtain ⟨c, A, -⟩ := F; exact A.lt
theorem AD.ext (F : AD Z h a vs) (E : Ext h h') : AD Z h' a vs := by obtain ⟨c, A, r⟩ := F; exact ⟨c, A.ext E, r⟩
theorem AD.other {sl : Nat} {v : Value} (F : AD Z h b vs) (W : Wr h h' a sl v) (q : b ≠ a) : AD Z h' b vs := by obtain ⟨c, A, r⟩ := F; exact ⟨c, A.other W q, r⟩
theorem AD.keep {ws : List Addr} (F : AD Z h a vs) (K : Keep h h' ws) (q : a ∉ ws) : AD Z h' a vs := by obtain ⟨c, A, r⟩ := F; exact ⟨c, ⟨K.2.1 a c A.1 q, A.2⟩, r⟩
theorem own_idx {j : Int32} {i : Nat} (hj : j.toInt = (i : Int)) : j.toNatClampNeg = i ∧ ¬ j < 0 := by
  constructor
  · unfold Int32.toNatClampNeg; rw [hj]; rfl
  · rw [Int32.lt_iff_toInt_lt, hj]; have : (0 : Int32).toInt = 0 := rfl
    omega
theorem g_daload (X : Wk p l e R s m args below meth c n0 T h cells slots) (hx : p.tables.exec = Jvm.exec) (hZ : Z.Warmed39 s.vm) (F : AD Z h a vs) {j : Int32} {i : Nat} (hj : j.toInt = (i : Int)) (hi : i < vs.length) {v : UInt64} (hv : vs.getD i 0 = v) (hp : pc + 1 = pc') (hd : decode c.code pc = .ok (.daload, 1))
    (k : Go p e below s n0 Q nc ns (T.setTop (mkF m pc' Ls (.double v :: rest)))) : Go p e below s n0 Q nc ns (T.setTop (mkF m pc Ls (.int j :: .ref a :: rest))) := by
  subst hp; subst hv; obtain ⟨locs, X, N, eT⟩ := X
  obtain ⟨cl, A, S, -, H⟩ := F
  obtain ⟨e1, e2⟩ := own_idx hj
  have hin : ¬ (j < 0 ∨ cl.slots.size ≤ j.toNatClampNeg) := by rw [e1, S]; intro q; rcases q with q | q; exact e2 q; omega
  exact go_back (fun t q => X.daload hx (j := j) (v := .double (vs.getD i 0)) (by rw [eT]; exact A.1) (State.isArrayOf_alike hZ.alike A.2.1) A.2.2 hin (by rw [e1]; exact H i hi) (g := mkF m pc Ls (.int j :: .ref a :: rest)) rfl rfl hd t q) k
theorem AD.set {j : Int32} {i : Nat} {x : UInt64} (F : AD Z h a vs) (hj : j.toNatClampNeg = i) (hi : i < vs.length) (W : Wr h h' a j.toNatClampNeg (.double x)) : AD Z h' a (vs.set i x) := by
  obtain ⟨cl, A, S, hl, H⟩ := F
  refine ⟨_, A.same W, by rw [sz_set, S, List.length_set], by rw [List.length_set]; exact hl, fun k hk => ?_⟩
  rw [List.length_set] at hk
  rw [hj]
  by_cases u : i = k
  · subst u; simp [Cell.setSlot, S, hi]
  · have q := H k hk
    simp only [Cell.setSlot, List.getD_eq_getElem?_getD] at q ⊢
    rw [Array.getElem?_setIfInBounds_ne u, List.getElem?_set_ne u]; exact q
theorem g_dastore (X : Wk p l e R s m args below meth c n0 T h cells slots) (hx : p.tables.exec = Jvm.exec) (hZ : Z.Warmed39 s.vm) (F : AD Z h a vs) {j : Int32} {i : Nat} (hj : j.toInt = (i : Int)) (hi : i < vs.length) (hna : n0 ≤ a) {x : UInt64} (hp : pc + 1 = pc') (hd : decode c.code pc = .ok (.dastore, 1))
    (k : ∀ T' h', Wk p l e R s m args below meth c n0 T' h' cells slots → Wr h h' a j.toNatClampNeg (.double x) → AD Z h' a (vs.set i x) → Go p e below s n0 Q nc ns (T'.setTop (mkF m pc' Ls rest))) : Go p e below s n0 Q nc ns (T.setTop (mkF m pc Ls (.double x :: .int j :: .ref a :: rest))) := by
  subst hp; obtain ⟨locs, X, N, eT⟩ := X
  obtain ⟨e1, e2⟩ := own_idx hj
  obtain ⟨cl, A, S, hl, H⟩ := F
  have hin : ¬ (j < 0 ∨ cl.slots.size ≤ j.toNatClampNeg) := by rw [e1, S]; intro q; rcases q with q | q; exact e2 q; omega
  obtain ⟨T', h', X', e', W', b⟩ := stD X hx hZ eT A (x := x) hin (g := mkF m pc Ls (.double x :: .int j :: .ref a :: rest)) rfl rfl hd
  exact go_back b (k T' h' ⟨_, X', Fr.snoc X' N hna, e'⟩ W' (AD.set ⟨cl, A, S, hl, H⟩ e1 hi W'))
theorem g_newD (X : Wk p l e R s m args below meth c n0 T h cells slots) (hx : p.tables.exec = Jvm.exec) (hZ : Z.Warmed39 s.vm) (w : (Jvm.Cond.arrayClass .double).before a0 Z = true) {n : Int32} {N : Nat} (hn : n.toInt = (N : Int)) {cap : Nat} (hcap : N ≤ cap) (hb : cap * 8 ≤ 536870912) (hp : pc + 2 = pc') (hd : decode c.code pc = .ok (.newarray .double, 2)) (hc : cells + 1 ≤ R.cells) (hl : slots + cap ≤ R.slots)
    (k : ∀ T' h' a, a = h.size → Wk p l e R s m args below meth c n0 T' h' (cells + 1) (slots + cap) → Ext h h' → AD Z h' a (List.replicate N 0) → Go p e below s n0 Q nc ns (T'.setTop (mkF m pc' Ls (.ref a :: rest)))) : Go p e below s n0 Q nc ns (T.setTop (mkF m pc Ls (.int n :: rest))) := by
  subst hp; obtain ⟨locs, X, Nf, eT⟩ := X
  obtain ⟨e1, e2⟩ := own_idx hn
  obtain ⟨T', h', cA, X', e', E', A', b⟩ := newP X hx hZ (aty := .double) w eT (g := mkF m pc Ls (.int n :: rest)) rfl hd rfl e2 (cap := cap) (by rw [e1]; exact hcap) hb hc hl
  obtain ⟨cl, A, -, S, -, H, -⟩ := Arv.new A' e2
  refine go_back b (k T' h' h.size rfl ⟨_, X', Nf, e'⟩ E' ⟨cl, A, by rw [S, e1, List.length_replicate], by rw [List.length_replicate]; omega, fun i hi => ?_⟩)
  rw [List.length_replicate] at hi
  rw [H i (by rw [S, e1]; exact hi)]
  simp only [List.getD_eq_getElem?_getD, List.getElem?_replicate, hi, if_true, List.getElem?_nil, Option.getD_none, Option.getD_some]; rfl
theorem g_alenD (X : Wk p l e R s m args below meth c n0 T h cells slots) (hx : p.tables.exec = Jvm.exec) (hZ : Z.Warmed39 s.vm) (F : AD Z h a vs) {z : Int32} (hz : z.toInt = (vs.length : Int)) (hp : pc + 1 = pc') (hd : decode c.code pc = .ok (.arraylength, 1))
    (k : Go p e below s n0 Q nc ns (T.setTop (mkF m pc' Ls (.int z :: rest)))) : Go p e below s n0 Q nc ns (T.setTop (mkF m pc Ls (.ref a :: rest))) := by
  subst hp; obtain ⟨locs, X, N, eT⟩ := X
  obtain ⟨cl, A, S, -, H⟩ := F
  obtain ⟨e1, e2⟩ := own_idx hz
  have e3 : cl.slots.size.toInt32 = z := len_of (by rw [S, e1]) e2
  refine go_back (fun t q => X.arraylength hx (by rw [eT]; exact A.1) (State.isArrayOf_alike hZ.alike A.2.1) (g := mkF m pc Ls (.ref a :: rest)) rfl rfl hd t ?_) k
  rw [e3]; exact q
end OwnArr
theorem own_i2d (x : Int32) : Dy x.toInt 1074 (FP.i2d x) := dy_int (FP.Core.i2d_int x)
theorem own_divq {n d e q : Int} (h : d * e = q) : n * q = n * e * d := by rw [← h]; ac_rfl
theorem own_l2i (z k : Int64) (n : Nat) (hk : k.toInt = n) (hn : n < 2147483648) (h0 : 0 ≤ (z &&& k).toInt ∧ (z &&& k).toInt ≤ n) : 0 ≤ ((z &&& k).toInt32).toInt ∧ ((z &&& k).toInt32).toInt ≤ n := by
  rw [Int64.toInt_toInt32, Int.bmod_eq_of_le (by omega) (by omega)]
  exact h0
theorem own_land (x : Int64) (y : Int64) (hy : 0 ≤ y.toInt) : 0 ≤ (x &&& y).toInt ∧ (x &&& y).toInt ≤ y.toInt := by
  have hyb : y.toBitVec.msb = false := by rw [BitVec.msb_eq_false_iff_two_mul_lt]; have := BitVec.toInt_eq_toNat_cond y.toBitVec; unfold Int64.toInt at hy; split at this <;> omega
  have hm : (x &&& y).toBitVec.msb = false := by rw [Int64.toBitVec_and, BitVec.msb_and, hyb, Bool.and_false]
  unfold Int64.toInt
  rw [BitVec.toInt_eq_toNat_of_msb hm, BitVec.toInt_eq_toNat_of_msb hyb, Int64.toBitVec_and, BitVec.toNat_and]
  exact ⟨Int.natCast_nonneg _, Int.ofNat_le.mpr Nat.and_le_right⟩
def nibV (v : Int64) (k : Int32) : UInt64 := FP.i2d (((((v.toUInt64 >>> (k &&& 0x3f).toInt64.toUInt64).toInt64) &&& (15 : Int64))).toInt32 - (8 : Int32))
def diagK (v : Int64) (k : Int32) : Int32 := ((((v.toUInt64 >>> (((3 : Int32) * k) &&& 0x3f).toInt64.toUInt64).toInt64) &&& (3 : Int64))).toInt32
def diagV (v : Int64) (k : Int32) : UInt64 := if (lcmpW (((v.toUInt64 >>> ((((3 : Int32) * k) + (2 : Int32)) &&& 0x3f).toInt64.toUInt64).toInt64) &&& (1 : Int64)) (0 : Int64)) = 0 then FP.i2d ((1 : Int32) <<< (diagK v k &&& 31)) else FP.i2d (-((1 : Int32) <<< (diagK v k &&& 31)))
def nibN (v : Int64) (k : Int32) : Int := (((((v.toUInt64 >>> (k &&& 0x3f).toInt64.toUInt64).toInt64) &&& (15 : Int64))).toInt32 - (8 : Int32)).toInt
theorem nib_dy (v : Int64) (k : Int32) : Dy (nibN v k) 1074 (nibV v k) := own_i2d _
theorem nib_b (v : Int64) (k : Int32) : (nibN v k).natAbs ≤ 8 := by
  unfold nibN
  have h1 := own_l2i ((v.toUInt64 >>> (k &&& 0x3f).toInt64.toUInt64).toInt64) 15 15 rfl (by decide) (own_land _ 15 (by decide))
  generalize ((((v.toUInt64 >>> (k &&& 0x3f).toInt64.toUInt64).toInt64) &&& (15 : Int64))).toInt32 = t at *
  have h2 := c_isub t 8
  have h3 := rng32 (t - 8)
  have h4 : (8 : Int32).toInt = 8 := rfl
  omega
theorem diag_dy (v : Int64) (k : Int32) : ∃ d e : Int, Dy d 1074 (diagV v k) ∧ d * e = 8 ∧ d ≠ 0 ∧ d.natAbs ≤ 8 ∧ e.natAbs ≤ 8 := by
  have h1 := own_l2i ((v.toUInt64 >>> (((3 : Int32) * k) &&& 0x3f).toInt64.toUInt64).toInt64) 3 3 rfl (by decide) (own_land _ 3 (by decide))
  have hk : diagK v k = 0 ∨ diagK v k = 1 ∨ diagK v k = 2 ∨ diagK v k = 3 := by
    have e0 : (0 : Int32).toInt = 0 := rfl
    have e1 : (1 : Int32).toInt = 1 := rfl
    have e2 : (2 : Int32).toInt = 2 := rfl
    have e3 : (3 : Int32).toInt = 3 := rfl
    rw [← Int32.toInt_inj, ← Int32.toInt_inj, ← Int32.toInt_inj, ← Int32.toInt_inj]
    unfold diagK
    omega
  have d1 := own_i2d ((1 : Int32) <<< (diagK v k &&& 31))
  have d2 := own_i2d (-((1 : Int32) <<< (diagK v k &&& 31)))
  unfold diagV
  split
  · rcases hk with h | h | h | h <;> rw [h] at d1 ⊢
    · exact ⟨1, 8, d1, by decide, by decide, by decide, by decide⟩
    · exact ⟨2, 4, d1, by decide, by decide, by decide, by decide⟩
    · exact ⟨4, 2, d1, by decide, by decide, by decide, by decide⟩
    · exact ⟨8, 1, d1, by decide, by decide, by decide, by decide⟩
  · rcases hk with h | h | h | h <;> rw [h] at d2 ⊢
    · exact ⟨-1, -8, d2, by decide, by decide, by decide, by decide⟩
    · exact ⟨-2, -4, d2, by decide, by decide, by decide, by decide⟩
    · exact ⟨-4, -2, d2, by decide, by decide, by decide, by decide⟩
    · exact ⟨-8, -1, d2, by decide, by decide, by decide, by decide⟩
section OwnChk
open Jvm.FP Jvm.FP.Core Jvm.Free.Fl
def S0 (u x c : UInt64) : Prop := NoNaN64 (FP.dmul u x) ∧ cmpValue (FP.dcmp (FP.dmul u x) c) .l = 0
def S1 (u x u1 x1 c : UInt64) : Prop := NoNaN64 (FP.dmul u x) ∧ NoNaN64 (FP.dmul u1 x1) ∧ NoNaN64 (FP.dadd (FP.dmul u x) (FP.dmul u1 x1)) ∧ cmpValue (FP.dcmp (FP.dadd (FP.dmul u x) (FP.dmul u1 x1)) c) .l = 0
def S2 (u x u1 x1 u2 x2 c : UInt64) : Prop := NoNaN64 (FP.dmul u x) ∧ NoNaN64 (FP.dmul u1 x1) ∧ NoNaN64 (FP.dadd (FP.dmul u x) (FP.dmul u1 x1)) ∧ NoNaN64 (FP.dmul u2 x2) ∧ NoNaN64 (FP.dadd (FP.dadd (FP.dmul u x) (FP.dmul u1 x1)) (FP.dmul u2 x2)) ∧ cmpValue (FP.dcmp (FP.dadd (FP.dadd (FP.dmul u x) (FP.dmul u1 x1)) (FP.dmul u2 x2)) c) .l = 0
/-- what check asks of place k -/
def Chk (us xs cs : List UInt64) (o w k : Nat) : Prop :=
  (o ≤ k / w → cmpValue (FP.dcmp (xs.getD k 0) (cs.getD k 0)) .l = 0) ∧
  (k / w < o → k / w = 0 → S0 (us.getD 0 0) (xs.getD k 0) (cs.getD k 0)) ∧
  (k / w < o → k / w = 1 → S1 (us.getD 5 0) (xs.getD k 0) (us.getD 1 0) (xs.getD (k % w) 0) (cs.getD k 0)) ∧
  (k / w < o → k / w = 2 → S2 (us.getD 10 0) (xs.getD k 0) (us.getD 2 0) (xs.getD (k % w) 0) (us.getD 6 0) (xs.getD (w + k % w) 0) (cs.getD k 0))
theorem Chk.a {us xs cs : List UInt64} {o w k : Nat} (h : o ≤ k / w) (q : cmpValue (FP.dcmp (xs.getD k 0) (cs.getD k 0)) .l = 0) : Chk us xs cs o w k := ⟨fun _ => q, fun z => absurd z (by omega), fun z => absurd z (by omega), fun z => absurd z (by omega)⟩
theorem Chk.b0 {us xs cs : List UInt64} {o w k : Nat} (h : k / w < o) (h' : k / w = 0) (q : S0 (us.getD 0 0) (xs.getD k 0) (cs.getD k 0)) : Chk us xs cs o w k := ⟨fun z => absurd h (by omega), fun _ _ => q, fun _ z => absurd z (by omega), fun _ z => absurd z (by omega)⟩
theorem Chk.b1 {us xs cs : List UInt64} {o w k : Nat} (h : k / w < o) (h' : k / w = 1) (q : S1 (us.getD 5 0) (xs.getD k 0) (us.getD 1 0) (xs.getD (k % w) 0) (cs.getD k 0)) : Chk us xs cs o w k := ⟨fun z => absurd h (by omega), fun _ z => absurd z (by omega), fun _ _ => q, fun _ z => absurd z (by omega)⟩
theorem Chk.b2 {us xs cs : List UInt64} {o w k : Nat} (h : k / w < o) (h' : k / w = 2) (q : S2 (us.getD 10 0) (xs.getD k 0) (us.getD 2 0) (xs.getD (k % w) 0) (us.getD 6 0) (xs.getD (w + k % w) 0) (cs.getD k 0)) : Chk us xs cs o w k := ⟨fun z => absurd h (by omega), fun _ z => absurd z (by omega), fun _ z => absurd z (by omega), fun _ _ => q⟩
theorem own_S0 {d x a : Int} {u v w : UInt64} (hu : Dy d 1074 u) (hx : Dy x 1071 v) (hc : Dy a 1074 w) (bd : d.natAbs ≤ 8) (bx : x.natAbs ≤ 64) (e : d * x = a * 8) : S0 u v w := by
  have q := dy_mul hu hx (k := 1071) rfl (own_mb bd bx (by decide)) (by decide)
  exact ⟨dy_noNaN q, own_dyeq q (dy_shift 3 (j := 1071) hc) e⟩
theorem own_S1 {d x a m y : Int} {u v u1 v1 w : UInt64} (hu : Dy d 1074 u) (hx : Dy x 1068 v) (hu1 : Dy m 1074 u1) (hy : Dy y 1071 v1) (hc : Dy a 1074 w) (bd : d.natAbs ≤ 8) (bx : x.natAbs ≤ 4608) (bm : m.natAbs ≤ 8) (by' : y.natAbs ≤ 64) (e : d * x + m * y * 8 = a * 64) : S1 u v u1 v1 w := by
  have q := dy_mul hu hx (k := 1068) rfl (own_mb bd bx (by decide)) (by decide)
  have r := dy_mul hu1 hy (k := 1071) rfl (own_mb bm by' (by decide)) (by decide)
  have b1 : (d * x).natAbs ≤ 8 * 4608 := by rw [Int.natAbs_mul]; exact Nat.mul_le_mul bd bx
  have b2 : (m * y * 8).natAbs ≤ 4096 := own_shl (A := 8 * 64) (by rw [Int.natAbs_mul]; exact Nat.mul_le_mul bm by') (by decide)
  have t := dy_add q (dy_shift 3 (j := 1068) r) (own_addb b1 b2 (by decide)) (by decide)
  exact ⟨dy_noNaN q, dy_noNaN r, dy_noNaN t, own_dyeq t (dy_shift 6 (j := 1068) hc) e⟩
theorem own_S2 {d x a m y m' z : Int} {u v u1 v1 u2 v2 w : UInt64} (hu : Dy d 1074 u) (hx : Dy x 1065 v) (hu1 : Dy m 1074 u1) (hy : Dy y 1071 v1) (hu2 : Dy m' 1074 u2) (hz : Dy z 1068 v2) (hc : Dy a 1074 w) (bd : d.natAbs ≤ 8) (bx : x.natAbs ≤ 331776) (bm : m.natAbs ≤ 8) (by' : y.natAbs ≤ 64) (bm' : m'.natAbs ≤ 8) (bz : z.natAbs ≤ 4608) (e : d * x + m * y * 64 + m' * z * 8 = a * 512) : S2 u v u1 v1 u2 v2 w := by
  have q := dy_mul hu hx (k := 1065) rfl (own_mb bd bx (by decide)) (by decide)
  have r := dy_mul hu1 hy (k := 1071) rfl (own_mb bm by' (by decide)) (by decide)
  have r' := dy_mul hu2 hz (k := 1068) rfl (own_mb bm' bz (by decide)) (by decide)
  have b1 : (d * x).natAbs ≤ 8 * 331776 := by rw [Int.natAbs_mul]; exact Nat.mul_le_mul bd bx
  have b2 : (m * y * 64).natAbs ≤ 32768 := own_shl (A := 8 * 64) (by rw [Int.natAbs_mul]; exact Nat.mul_le_mul bm by') (by decide)
  have b3 : (m' * z * 8).natAbs ≤ 294912 := own_shl (A := 8 * 4608) (by rw [Int.natAbs_mul]; exact Nat.mul_le_mul bm' bz) (by decide)
  have t := dy_add q (dy_shift 6 (j := 1065) r) (own_addb b1 b2 (by decide)) (by decide)
  have t' := dy_add t (dy_shift 3 (j := 1065) r') (own_addb (own_addl b1 b2) b3 (by decide)) (by decide)
  exact ⟨dy_noNaN q, dy_noNaN r, dy_noNaN t, dy_noNaN r', dy_noNaN t', own_dyeq t' (dy_shift 9 (j := 1065) hc) e⟩
end OwnChk
theorem own_f0 {d e a : Int} (h : d * e = 8) : d * (a * e) = a * 8 := by rw [← h]; ac_rfl
theorem own_f1 {d e a m x : Int} (h : d * e = 8) : d * ((a * 8 - m * x) * e) + m * x * 8 = a * 64 := by grind
theorem own_f2 {d e a m x m' x' : Int} (h : d * e = 8) : d * (((a * 8 - m * x) * 8 - m' * x') * e) + m * x * 64 + m' * x' * 8 = a * 512 := by grind
def ChkAll (us xs cs : List UInt64) (o w : Int32) : Prop := ∀ k, k < 12 → Chk us xs cs o.toInt.toNat w.toInt.toNat k
theorem own_all12 {us xs cs : List UInt64} {o w : Int32} (p0 : Chk us xs cs o.toInt.toNat w.toInt.toNat 0) (p1 : Chk us xs cs o.toInt.toNat w.toInt.toNat 1) (p2 : Chk us xs cs o.toInt.toNat w.toInt.toNat 2) (p3 : Chk us xs cs o.toInt.toNat w.toInt.toNat 3) (p4 : Chk us xs cs o.toInt.toNat w.toInt.toNat 4) (p5 : Chk us xs cs o.toInt.toNat w.toInt.toNat 5) (p6 : Chk us xs cs o.toInt.toNat w.toInt.toNat 6) (p7 : Chk us xs cs o.toInt.toNat w.toInt.toNat 7) (p8 : Chk us xs cs o.toInt.toNat w.toInt.toNat 8) (p9 : Chk us xs cs o.toInt.toNat w.toInt.toNat 9) (p10 : Chk us xs cs o.toInt.toNat w.toInt.toNat 10) (p11 : Chk us xs cs o.toInt.toNat w.toInt.toNat 11) : ChkAll us xs cs o w := by
  intro k hk
  match k, hk with
  | 0, _ => exact p0
  | 1, _ => exact p1
  | 2, _ => exact p2
  | 3, _ => exact p3
  | 4, _ => exact p4
  | 5, _ => exact p5
  | 6, _ => exact p6
  | 7, _ => exact p7
  | 8, _ => exact p8
  | 9, _ => exact p9
  | 10, _ => exact p10
  | 11, _ => exact p11
def tL (v : Int64) : List UInt64 := [diagV v 0, nibV v 9, nibV v 13, nibV v 33, nibV v 21, diagV v 1, nibV v 17, nibV v 37, nibV v 25, nibV v 29, diagV v 2, nibV v 41, nibV v 45, nibV v 49, nibV v 53, nibV v 57]
def cL (v : Int64) : List UInt64 := [nibV v 0, nibV v 4, nibV v 8, nibV v 12, nibV v 16, nibV v 20, nibV v 24, nibV v 28, nibV v 32, nibV v 36, nibV v 40, nibV v 44]
set_option maxRecDepth 65536 in
set_option maxHeartbeats 40000000 in
theorem rm3 (l : Launch) (Z : State) (a0 : Array Value) (hw : ∀ d ∈ tables_1, d.before a0 Z = true) (ws : List Jvm.Cond) (n0 : Nat) (v' : Int64) (k : Int32) (h0 : Heap) (hn0 : n0 ≤ h0.size)  :
    Con l Z n0 (⟨"com/example/orthogon/orthogon/TriangularSolveUpperTransposedPinLaw", "nib", "(JI)D"⟩ : MethodName) method_3_code 3 (some .double) ws ({ frames := 0, cells := 0, slots := 0, locals := 0 } : Room) #[(.long v'), (.int k)] h0 (fun v h => v = some (.double (nibV v' k)) ∧ h = h0) := by
  refine con_start (plainFor_of_name (by first | (simp [plainName, overriddenIn]; done) | decide +kernel)) (fr0 := fun m => mkF m 0 #[.val (.long v'), .second, .val (.int k)] []) (fun m => by first | (simp [entryFrame, mkF, argsToLocals, Value.category]; done) | rfl) ?_
  intro p e s m below meth c T0 hx hZ hby hml hown hnm hret hlk X0
  replace hown : s.vm.findClass "com/example/orthogon/orthogon/TriangularSolveUpperTransposedPinLaw" = some m.cls := hown
  replace hml : c.maxLocals = 3 := hml
  refine g_lloadN X0 hx (pc' := 1) rfl (hb hby d3_0) rfl ?_
  refine g_iloadN X0 hx (pc' := 2) rfl (hb hby d3_1) rfl ?_
  refine g_lushr X0 hx (pc' := 3) rfl (hb hby d3_2) ?_
  refine g_ldc2L X0 hx hZ hown (hw _ (List.mem_of_getElem? (i := 12) rfl)) (pc' := 6) (v := (15 : Int64)) rfl (hb hby d3_3) ?_
  refine g_land X0 hx (pc' := 7) rfl (hb hby d3_6) ?_
  refine g_l2i X0 hx (pc' := 8) rfl (hb hby d3_7) ?_
  refine g_bipush X0 hx (pc' := 10) (z := (8 : Int32)) rfl (hb hby d3_8) rfl ?_
  refine g_isub X0 hx (pc' := 11) rfl (hb hby d3_10) ?_
  refine g_i2d X0 hx (pc' := 12) rfl (hb hby d3_11) ?_
  exact g_retD X0 hx hlk hret (hb hby d3_12) (by decide) (by decide) (⟨rfl, rfl⟩)
set_option maxRecDepth 65536 in
set_option maxHeartbeats 40000000 in
theorem rm2 (l : Launch) (Z : State) (a0 : Array Value) (hw : ∀ d ∈ tables_1, d.before a0 Z = true) (ws : List Jvm.Cond) (n0 : Nat) (v' : Int64) (k : Int32) (h0 : Heap) (hn0 : n0 ≤ h0.size)  :
    Con l Z n0 (⟨"com/example/orthogon/orthogon/TriangularSolveUpperTransposedPinLaw", "diag", "(JI)D"⟩ : MethodName) method_2_code 5 (some .double) ws ({ frames := 0, cells := 0, slots := 0, locals := 0 } : Room) #[(.long v'), (.int k)] h0 (fun v h => v = some (.double (diagV v' k)) ∧ h = h0) := by
  refine con_start (plainFor_of_name (by first | (simp [plainName, overriddenIn]; done) | decide +kernel)) (fr0 := fun m => mkF m 0 #[.val (.long v'), .second, .val (.int k), .unset, .unset] []) (fun m => by first | (simp [entryFrame, mkF, argsToLocals, Value.category]; done) | rfl) ?_
  intro p e s m below meth c T0 hx hZ hby hml hown hnm hret hlk X0
  replace hown : s.vm.findClass "com/example/orthogon/orthogon/TriangularSolveUpperTransposedPinLaw" = some m.cls := hown
  replace hml : c.maxLocals = 5 := hml
  refine g_lloadN X0 hx (pc' := 1) rfl (hb hby d2_0) rfl ?_
  refine g_iconst X0 hx (pc' := 2) (z := (3 : Int32)) rfl (hb hby d2_1) rfl ?_
  refine g_iloadN X0 hx (pc' := 3) rfl (hb hby d2_2) rfl ?_
  refine g_imul X0 hx (pc' := 4) rfl (hb hby d2_3) ?_
  refine g_lushr X0 hx (pc' := 5) rfl (hb hby d2_4) ?_
  refine g_ldc2L X0 hx hZ hown (hw _ (List.mem_of_getElem? (i := 8) rfl)) (pc' := 8) (v := (3 : Int64)) rfl (hb hby d2_5) ?_
  refine g_land X0 hx (pc' := 9) rfl (hb hby d2_8) ?_
  refine g_l2i X0 hx (pc' := 10) rfl (hb hby d2_9) ?_
  refine g_istoreN X0 hx (pc' := 11) rfl (hb hby d2_10) (l' := #[.val (.long v'), .second, .val (.int k), .val (.int ((((v'.toUInt64 >>> (((3 : Int32) * k) &&& 0x3f).toInt64.toUInt64).toInt64) &&& (3 : Int64))).toInt32), .unset]) rfl ?_
  refine g_iconst X0 hx (pc' := 12) (z := (1 : Int32)) rfl (hb hby d2_11) rfl ?_
  refine g_iloadN X0 hx (pc' := 13) rfl (hb hby d2_12) rfl ?_
  refine g_ishl X0 hx (pc' := 14) rfl (hb hby d2_13) ?_
  refine g_istore X0 hx (pc' := 16) rfl (hb hby d2_14) (l' := #[.val (.long v'), .second, .val (.int k), .val (.int ((((v'.toUInt64 >>> (((3 : Int32) * k) &&& 0x3f).toInt64.toUInt64).toInt64) &&& (3 : Int64))).toInt32), .val (.int ((1 : Int32) <<< (((((v'.toUInt64 >>> (((3 : Int32) * k) &&& 0x3f).toInt64.toUInt64).toInt64) &&& (3 : Int64))).toInt32 &&& 31)))]) rfl ?_
  refine g_lloadN X0 hx (pc' := 17) rfl (hb hby d2_16) rfl ?_
  refine g_iconst X0 hx (pc' := 18) (z := (3 : Int32)) rfl (hb hby d2_17) rfl ?_
  refine g_iloadN X0 hx (pc' := 19) rfl (hb hby d2_18) rfl ?_
  refine g_imul X0 hx (pc' := 20) rfl (hb hby d2_19) ?_
  refine g_iconst X0 hx (pc' := 21) (z := (2 : Int32)) rfl (hb hby d2_20) rfl ?_
  refine g_iadd X0 hx (pc' := 22) rfl (hb hby d2_21) ?_
  refine g_lushr X0 hx (pc' := 23) rfl (hb hby d2_22) ?_
  refine g_lconst X0 hx (pc' := 24) (z := (1 : Int64)) rfl (hb hby d2_23) rfl ?_
  refine g_land X0 hx (pc' := 25) rfl (hb hby d2_24) ?_
  refine g_lconst X0 hx (pc' := 26) (z := (0 : Int64)) rfl (hb hby d2_25) rfl ?_
  refine g_lcmp X0 hx (pc' := 27) rfl (hb hby d2_26) ?_
  refine g_if X0 hx (pcY := 35) (pcN := 30) (hb hby d2_27) (by decide) (by decide) rfl (fun hc27 => ?_) (fun hc27 => ?_)
  · replace hc27 : (lcmpW (((v'.toUInt64 >>> ((((3 : Int32) * k) + (2 : Int32)) &&& 0x3f).toInt64.toUInt64).toInt64) &&& (1 : Int64)) (0 : Int64)) = 0 := hc27
    refine g_iload X0 hx (pc' := 37) rfl (hb hby d2_35) rfl ?_
    refine g_i2d X0 hx (pc' := 38) rfl (hb hby d2_37) ?_
    exact g_retD X0 hx hlk hret (hb hby d2_38) (by decide) (by decide) (⟨by unfold diagV; rw [if_pos hc27]; rfl, rfl⟩)
  · replace hc27 : ¬ (lcmpW (((v'.toUInt64 >>> ((((3 : Int32) * k) + (2 : Int32)) &&& 0x3f).toInt64.toUInt64).toInt64) &&& (1 : Int64)) (0 : Int64)) = 0 := hc27
    refine g_iload X0 hx (pc' := 32) rfl (hb hby d2_30) rfl ?_
    refine g_ineg X0 hx (pc' := 33) rfl (hb hby d2_32) ?_
    refine g_i2d X0 hx (pc' := 34) rfl (hb hby d2_33) ?_
    exact g_retD X0 hx hlk hret (hb hby d2_34) (by decide) (by decide) (⟨by unfold diagV; rw [if_neg hc27]; rfl, rfl⟩)
set_option maxRecDepth 65536 in
set_option maxHeartbeats 40000000 in
theorem rm1 (l : Launch) (Z : State) (a0 : Array Value) (hw : ∀ d ∈ tables_1, d.before a0 Z = true) (ws : List Jvm.Cond) (n0 : Nat) (v' : Int64) (h0 : Heap) (hn0 : n0 ≤ h0.size)  :
    Con l Z n0 (⟨"com/example/orthogon/orthogon/TriangularSolveUpperTransposedPinLaw", "makeT", "(J)[D"⟩ : MethodName) method_4_code 3 (some (.array .double)) ws ({ frames := 1, cells := 1, slots := 16, locals := 48 } : Room) #[(.long v')] h0 (fun v h => ∃ aa, v = some (.ref aa) ∧ n0 ≤ aa ∧ h0.size ≤ aa ∧ Keep h0 h [] ∧ AD Z h aa (tL v')) := by
  refine con_start (plainFor_of_name (by first | (simp [plainName, overriddenIn]; done) | decide +kernel)) (fr0 := fun m => mkF m 0 #[.val (.long v'), .second, .unset] []) (fun m => by first | (simp [entryFrame, mkF, argsToLocals, Value.category]; done) | rfl) ?_
  intro p e s m below meth c T0 hx hZ hby hml hown hnm hret hlk X0
  replace hown : s.vm.findClass "com/example/orthogon/orthogon/TriangularSolveUpperTransposedPinLaw" = some m.cls := hown
  replace hml : c.maxLocals = 3 := hml
  refine g_bipush X0 hx (pc' := 2) (z := (16 : Int32)) rfl (hb hby d1_0) rfl ?_
  refine g_newD X0 hx hZ (hw _ (List.mem_of_getElem? (i := 4) rfl)) (N := 16) (by decide) (cap := 16) (Nat.le_refl _) (by decide) (pc' := 4) rfl (hb hby d1_2) (by decide) (by decide) (fun T1 h1 a1 ha1 X1 E1 N1 => ?_)
  have sz1 : h0.size ≤ a1 := by rw [ha1]; exact (Keep.refl h0 []).1
  have f2 := (Keep.refl h0 []).ext E1
  have G_a1 : n0 ≤ a1 := by rw [ha1]; exact hn0
  have Zs1 : n0 ≤ h1.size := Nat.le_trans hn0 E1.1
  have V1 : AD Z h1 a1 [(0 : UInt64), (0 : UInt64), (0 : UInt64), (0 : UInt64), (0 : UInt64), (0 : UInt64), (0 : UInt64), (0 : UInt64), (0 : UInt64), (0 : UInt64), (0 : UInt64), (0 : UInt64), (0 : UInt64), (0 : UInt64), (0 : UInt64), (0 : UInt64)] := N1
  refine g_astoreN X1 hx (pc' := 5) rfl (hb hby d1_4) rfl (l' := #[.val (.long v'), .second, .val (.ref a1)]) rfl ?_
  refine g_aloadN X1 hx (pc' := 6) rfl (hb hby d1_5) rfl rfl ?_
  refine g_iconst X1 hx (pc' := 7) (z := (0 : Int32)) rfl (hb hby d1_6) rfl ?_
  refine g_lloadN X1 hx (pc' := 8) rfl (hb hby d1_7) rfl ?_
  refine g_iconst X1 hx (pc' := 9) (z := (0 : Int32)) rfl (hb hby d1_8) rfl ?_
  refine g_callS X1 hx hZ hown (hw _ (List.mem_of_getElem? (i := 5) rfl)) (hw _ (List.mem_of_getElem? (i := 6) rfl)) (hw _ (List.mem_of_getElem? (i := 2) rfl)) (hw _ (List.mem_of_getElem? (i := 7) rfl)) (by decide) (rm2 l Z a0 hw [] n0 v' (0 : Int32) h1 Zs1) pd_0 rfl rfl (by rw [hml]; rfl) (pc' := 12) rfl (hb hby d1_9) (argsL := [(.long v'), (.int (0 : Int32))]) (rest := [(.int (0 : Int32)), (.ref a1)]) rfl (W := 2) (Nat.le_of_eq rfl) (by decide) (by decide) (by decide) (by decide) (fun v3 T3 h3 X3 hQ3 => ?_)
  obtain ⟨rfl, he3⟩ := hQ3
  rw [he3] at X3
  show Go p e below s n0 _ _ _ (T3.setTop (mkF m 12 #[.val (.long v'), .second, .val (.ref a1)] [(.double (diagV v' (0 : Int32))), (.int (0 : Int32)), (.ref a1)]))
  refine g_dastore X3 hx hZ V1 (i := 0) (by decide) (show (0 : Nat) < 16 by decide) G_a1 (pc' := 13) rfl (hb hby d1_12) (fun T4 h4 X4 W4 N4 => ?_)
  have f5 := (by have q := (Keep.of_wr W4).1; exact Nat.le_trans Zs1 q : n0 ≤ h4.size)
  have f6 := f2.wr W4 (Or.inr sz1)
  have V4 : AD Z h4 a1 [(diagV v' (0 : Int32)), (0 : UInt64), (0 : UInt64), (0 : UInt64), (0 : UInt64), (0 : UInt64), (0 : UInt64), (0 : UInt64), (0 : UInt64), (0 : UInt64), (0 : UInt64), (0 : UInt64), (0 : UInt64), (0 : UInt64), (0 : UInt64), (0 : UInt64)] := N4
  refine g_aloadN X4 hx (pc' := 14) rfl (hb hby d1_13) rfl rfl ?_
  refine g_iconst X4 hx (pc' := 15) (z := (1 : Int32)) rfl (hb hby d1_14) rfl ?_
  refine g_lloadN X4 hx (pc' := 16) rfl (hb hby d1_15) rfl ?_
  refine g_bipush X4 hx (pc' := 18) (z := (9 : Int32)) rfl (hb hby d1_16) rfl ?_
  refine g_callS X4 hx hZ hown (hw _ (List.mem_of_getElem? (i := 9) rfl)) (hw _ (List.mem_of_getElem? (i := 10) rfl)) (hw _ (List.mem_of_getElem? (i := 2) rfl)) (hw _ (List.mem_of_getElem? (i := 11) rfl)) (by decide) (rm3 l Z a0 hw [] n0 v' (9 : Int32) h4 f5) pd_0 rfl rfl (by rw [hml]; rfl) (pc' := 21) rfl (hb hby d1_18) (argsL := [(.long v'), (.int (9 : Int32))]) (rest := [(.int (1 : Int32)), (.ref a1)]) rfl (W := 2) (Nat.le_of_eq rfl) (by decide) (by decide) (by decide) (by decide) (fun v7 T7 h7 X7 hQ7 => ?_)
  obtain ⟨rfl, he7⟩ := hQ7
  rw [he7] at X7
  show Go p e below s n0 _ _ _ (T7.setTop (mkF m 21 #[.val (.long v'), .second, .val (.ref a1)] [(.double (nibV v' (9 : Int32))), (.int (1 : Int32)), (.ref a1)]))
  refine g_dastore X7 hx hZ V4 (i := 1) (by decide) (show (1 : Nat) < 16 by decide) G_a1 (pc' := 22) rfl (hb hby d1_21) (fun T8 h8 X8 W8 N8 => ?_)
  have f9 := (by have q := (Keep.of_wr W8).1; exact Nat.le_trans f5 q : n0 ≤ h8.size)
  have f10 := f6.wr W8 (Or.inr sz1)
  have V8 : AD Z h8 a1 [(diagV v' (0 : Int32)), (nibV v' (9 : Int32)), (0 : UInt64), (0 : UInt64), (0 : UInt64), (0 : UInt64), (0 : UInt64), (0 : UInt64), (0 : UInt64), (0 : UInt64), (0 : UInt64), (0 : UInt64), (0 : UInt64), (0 : UInt64), (0 : UInt64), (0 : UInt64)] := N8
  refine g_aloadN X8 hx (pc' := 23) rfl (hb hby d1_22) rfl rfl ?_
  refine g_iconst X8 hx (pc' := 24) (z := (2 : Int32)) rfl (hb hby d1_23) rfl ?_
  refine g_lloadN X8 hx (pc' := 25) rfl (hb hby d1_24) rfl ?_
  refine g_bipush X8 hx (pc' := 27) (z := (13 : Int32)) rfl (hb hby d1_25) rfl ?_
  refine g_callS X8 hx hZ hown (hw _ (List.mem_of_getElem? (i := 9) rfl)) (hw _ (List.mem_of_getElem? (i := 10) rfl)) (hw _ (List.mem_of_getElem? (i := 2) rfl)) (hw _ (List.mem_of_getElem? (i := 11) rfl)) (by decide) (rm3 l Z a0 hw [] n0 v' (13 : Int32) h8 f9) pd_0 rfl rfl (by rw [hml]; rfl) (pc' := 30) rfl (hb hby d1_27) (argsL := [(.long v'), (.int (13 : Int32))]) (rest := [(.int (2 : Int32)), (.ref a1)]) rfl (W := 2) (Nat.le_of_eq rfl) (by decide) (by decide) (by decide) (by decide) (fun v11 T11 h11 X11 hQ11 => ?_)
  obtain ⟨rfl, he11⟩ := hQ11
  rw [he11] at X11
  show Go p e below s n0 _ _ _ (T11.setTop (mkF m 30 #[.val (.long v'), .second, .val (.ref a1)] [(.double (nibV v' (13 : Int32))), (.int (2 : Int32)), (.ref a1)]))
  refine g_dastore X11 hx hZ V8 (i := 2) (by decide) (show (2 : Nat) < 16 by decide) G_a1 (pc' := 31) rfl (hb hby d1_30) (fun T12 h12 X12 W12 N12 => ?_)
  have f13 := (by have q := (Keep.of_wr W12).1; exact Nat.le_trans f9 q : n0 ≤ h12.size)
  have f14 := f10.wr W12 (Or.inr sz1)
  have V12 : AD Z h12 a1 [(diagV v' (0 : Int32)), (nibV v' (9 : Int32)), (nibV v' (13 : Int32)), (0 : UInt64), (0 : UInt64), (0 : UInt64), (0 : UInt64), (0 : UInt64), (0 : UInt64), (0 : UInt64), (0 : UInt64), (0 : UInt64), (0 : UInt64), (0 : UInt64), (0 : UInt64), (0 : UInt64)] := N12
  refine g_aloadN X12 hx (pc' := 32) rfl (hb hby d1_31) rfl rfl ?_
  refine g_iconst X12 hx (pc' := 33) (z := (3 : Int32)) rfl (hb hby d1_32) rfl ?_
  refine g_lloadN X12 hx (pc' := 34) rfl (hb hby d1_33) rfl ?_
  refine g_bipush X12 hx (pc' := 36) (z := (33 : Int32)) rfl (hb hby d1_34) rfl ?_
  refine g_callS X12 hx hZ hown (hw _ (List.mem_of_getElem? (i := 9) rfl)) (hw _ (List.mem_of_getElem? (i := 10) rfl)) (hw _ (List.mem_of_getElem? (i := 2) rfl)) (hw _ (List.mem_of_getElem? (i := 11) rfl)) (by decide) (rm3 l Z a0 hw [] n0 v' (33 : Int32) h12 f13) pd_0 rfl rfl (by rw [hml]; rfl) (pc' := 39) rfl (hb hby d1_36) (argsL := [(.long v'), (.int (33 : Int32))]) (rest := [(.int (3 : Int32)), (.ref a1)]) rfl (W := 2) (Nat.le_of_eq rfl) (by decide) (by decide) (by decide) (by decide) (fun v15 T15 h15 X15 hQ15 => ?_)
  obtain ⟨rfl, he15⟩ := hQ15
  rw [he15] at X15
  show Go p e below s n0 _ _ _ (T15.setTop (mkF m 39 #[.val (.long v'), .second, .val (.ref a1)] [(.double (nibV v' (33 : Int32))), (.int (3 : Int32)), (.ref a1)]))
  refine g_dastore X15 hx hZ V12 (i := 3) (by decide) (show (3 : Nat) < 16 by decide) G_a1 (pc' := 40) rfl (hb hby d1_39) (fun T16 h16 X16 W16 N16 => ?_)
  have f17 := (by have q := (Keep.of_wr W16).1; exact Nat.le_trans f13 q : n0 ≤ h16.size)
  have f18 := f14.wr W16 (Or.inr sz1)
  have V16 : AD Z h16 a1 [(diagV v' (0 : Int32)), (nibV v' (9 : Int32)), (nibV v' (13 : Int32)), (nibV v' (33 : Int32)), (0 : UInt64), (0 : UInt64), (0 : UInt64), (0 : UInt64), (0 : UInt64), (0 : UInt64), (0 : UInt64), (0 : UInt64), (0 : UInt64), (0 : UInt64), (0 : UInt64), (0 : UInt64)] := N16
  refine g_aloadN X16 hx (pc' := 41) rfl (hb hby d1_40) rfl rfl ?_
  refine g_iconst X16 hx (pc' := 42) (z := (4 : Int32)) rfl (hb hby d1_41) rfl ?_
  refine g_lloadN X16 hx (pc' := 43) rfl (hb hby d1_42) rfl ?_
  refine g_bipush X16 hx (pc' := 45) (z := (21 : Int32)) rfl (hb hby d1_43) rfl ?_
  refine g_callS X16 hx hZ hown (hw _ (List.mem_of_getElem? (i := 9) rfl)) (hw _ (List.mem_of_getElem? (i := 10) rfl)) (hw _ (List.mem_of_getElem? (i := 2) rfl)) (hw _ (List.mem_of_getElem? (i := 11) rfl)) (by decide) (rm3 l Z a0 hw [] n0 v' (21 : Int32) h16 f17) pd_0 rfl rfl (by rw [hml]; rfl) (pc' := 48) rfl (hb hby d1_45) (argsL := [(.long v'), (.int (21 : Int32))]) (rest := [(.int (4 : Int32)), (.ref a1)]) rfl (W := 2) (Nat.le_of_eq rfl) (by decide) (by decide) (by decide) (by decide) (fun v19 T19 h19 X19 hQ19 => ?_)
  obtain ⟨rfl, he19⟩ := hQ19
  rw [he19] at X19
  show Go p e below s n0 _ _ _ (T19.setTop (mkF m 48 #[.val (.long v'), .second, .val (.ref a1)] [(.double (nibV v' (21 : Int32))), (.int (4 : Int32)), (.ref a1)]))
  refine g_dastore X19 hx hZ V16 (i := 4) (by decide) (show (4 : Nat) < 16 by decide) G_a1 (pc' := 49) rfl (hb hby d1_48) (fun T20 h20 X20 W20 N20 => ?_)
  have f21 := (by have q := (Keep.of_wr W20).1; exact Nat.le_trans f17 q : n0 ≤ h20.size)
  have f22 := f18.wr W20 (Or.inr sz1)
  have V20 : AD Z h20 a1 [(diagV v' (0 : Int32)), (nibV v' (9 : Int32)), (nibV v' (13 : Int32)), (nibV v' (33 : Int32)), (nibV v' (21 : Int32)), (0 : UInt64), (0 : UInt64), (0 : UInt64), (0 : UInt64), (0 : UInt64), (0 : UInt64), (0 : UInt64), (0 : UInt64), (0 : UInt64), (0 : UInt64), (0 : UInt64)] := N20
  refine g_aloadN X20 hx (pc' := 50) rfl (hb hby d1_49) rfl rfl ?_
  refine g_iconst X20 hx (pc' := 51) (z := (5 : Int32)) rfl (hb hby d1_50) rfl ?_
  refine g_lloadN X20 hx (pc' := 52) rfl (hb hby d1_51) rfl ?_
  refine g_iconst X20 hx (pc' := 53) (z := (1 : Int32)) rfl (hb hby d1_52) rfl ?_
  refine g_callS X20 hx hZ hown (hw _ (List.mem_of_getElem? (i := 5) rfl)) (hw _ (List.mem_of_getElem? (i := 6) rfl)) (hw _ (List.mem_of_getElem? (i := 2) rfl)) (hw _ (List.mem_of_getElem? (i := 7) rfl)) (by decide) (rm2 l Z a0 hw [] n0 v' (1 : Int32) h20 f21) pd_0 rfl rfl (by rw [hml]; rfl) (pc' := 56) rfl (hb hby d1_53) (argsL := [(.long v'), (.int (1 : Int32))]) (rest := [(.int (5 : Int32)), (.ref a1)]) rfl (W := 2) (Nat.le_of_eq rfl) (by decide) (by decide) (by decide) (by decide) (fun v23 T23 h23 X23 hQ23 => ?_)
  obtain ⟨rfl, he23⟩ := hQ23
  rw [he23] at X23
  show Go p e below s n0 _ _ _ (T23.setTop (mkF m 56 #[.val (.long v'), .second, .val (.ref a1)] [(.double (diagV v' (1 : Int32))), (.int (5 : Int32)), (.ref a1)]))
  refine g_dastore X23 hx hZ V20 (i := 5) (by decide) (show (5 : Nat) < 16 by decide) G_a1 (pc' := 57) rfl (hb hby d1_56) (fun T24 h24 X24 W24 N24 => ?_)
  have f25 := (by have q := (Keep.of_wr W24).1; exact Nat.le_trans f21 q : n0 ≤ h24.size)
  have f26 := f22.wr W24 (Or.inr sz1)
  have V24 : AD Z h24 a1 [(diagV v' (0 : Int32)), (nibV v' (9 : Int32)), (nibV v' (13 : Int32)), (nibV v' (33 : Int32)), (nibV v' (21 : Int32)), (diagV v' (1 : Int32)), (0 : UInt64), (0 : UInt64), (0 : UInt64), (0 : UInt64), (0 : UInt64), (0 : UInt64), (0 : UInt64), (0 : UInt64), (0 : UInt64), (0 : UInt64)] := N24
  refine g_aloadN X24 hx (pc' := 58) rfl (hb hby d1_57) rfl rfl ?_
  refine g_bipush X24 hx (pc' := 60) (z := (6 : Int32)) rfl (hb hby d1_58) rfl ?_
  refine g_lloadN X24 hx (pc' := 61) rfl (hb hby d1_60) rfl ?_
  refine g_bipush X24 hx (pc' := 63) (z := (17 : Int32)) rfl (hb hby d1_61) rfl ?_
  refine g_callS X24 hx hZ hown (hw _ (List.mem_of_getElem? (i := 9) rfl)) (hw _ (List.mem_of_getElem? (i := 10) rfl)) (hw _ (List.mem_of_getElem? (i := 2) rfl)) (hw _ (List.mem_of_getElem? (i := 11) rfl)) (by decide) (rm3 l Z a0 hw [] n0 v' (17 : Int32) h24 f25) pd_0 rfl rfl (by rw [hml]; rfl) (pc' := 66) rfl (hb hby d1_63) (argsL := [(.long v'), (.int (17 : Int32))]) (rest := [(.int (6 : Int32)), (.ref a1)]) rfl (W := 2) (Nat.le_of_eq rfl) (by decide) (by decide) (by decide) (by decide) (fun v27 T27 h27 X27 hQ27 => ?_)
  obtain ⟨rfl, he27⟩ := hQ27
  rw [he27] at X27
  show Go p e below s n0 _ _ _ (T27.setTop (mkF m 66 #[.val (.long v'), .second, .val (.ref a1)] [(.double (nibV v' (17 : Int32))), (.int (6 : Int32)), (.ref a1)]))
  refine g_dastore X27 hx hZ V24 (i := 6) (by decide) (show (6 : Nat) < 16 by decide) G_a1 (pc' := 67) rfl (hb hby d1_66) (fun T28 h28 X28 W28 N28 => ?_)
  have f29 := (by have q := (Keep.of_wr W28).1; exact Nat.le_trans f25 q : n0 ≤ h28.size)
  have f30 := f26.wr W28 (Or.inr sz1)
  have V28 : AD Z h28 a1 [(diagV v' (0 : Int32)), (nibV v' (9 : Int32)), (nibV v' (13 : Int32)), (nibV v' (33 : Int32)), (nibV v' (21 : Int32)), (diagV v' (1 : Int32)), (nibV v' (17 : Int32)), (0 : UInt64), (0 : UInt64), (0 : UInt64), (0 : UInt64), (0 : UInt64), (0 : UInt64), (0 : UInt64), (0 : UInt64), (0 : UInt64)] := N28
  refine g_aloadN X28 hx (pc' := 68) rfl (hb hby d1_67) rfl rfl ?_
  refine g_bipush X28 hx (pc' := 70) (z := (7 : Int32)) rfl (hb hby d1_68) rfl ?_
  refine g_lloadN X28 hx (pc' := 71) rfl (hb hby d1_70) rfl ?_
  refine g_bipush X28 hx (pc' := 73) (z := (37 : Int32)) rfl (hb hby d1_71) rfl ?_
  refine g_callS X28 hx hZ hown (hw _ (List.mem_of_getElem? (i := 9) rfl)) (hw _ (List.mem_of_getElem? (i := 10) rfl)) (hw _ (List.mem_of_getElem? (i := 2) rfl)) (hw _ (List.mem_of_getElem? (i := 11) rfl)) (by decide) (rm3 l Z a0 hw [] n0 v' (37 : Int32) h28 f29) pd_0 rfl rfl (by rw [hml]; rfl) (pc' := 76) rfl (hb hby d1_73) (argsL := [(.long v'), (.int (37 : Int32))]) (rest := [(.int (7 : Int32)), (.ref a1)]) rfl (W := 2) (Nat.le_of_eq rfl) (by decide) (by decide) (by decide) (by decide) (fun v31 T31 h31 X31 hQ31 => ?_)
  obtain ⟨rfl, he31⟩ := hQ31
  rw [he31] at X31
  show Go p e below s n0 _ _ _ (T31.setTop (mkF m 76 #[.val (.long v'), .second, .val (.ref a1)] [(.double (nibV v' (37 : Int32))), (.int (7 : Int32)), (.ref a1)]))
  refine g_dastore X31 hx hZ V28 (i := 7) (by decide) (show (7 : Nat) < 16 by decide) G_a1 (pc' := 77) rfl (hb hby d1_76) (fun T32 h32 X32 W32 N32 => ?_)
  have f33 := (by have q := (Keep.of_wr W32).1; exact Nat.le_trans f29 q : n0 ≤ h32.size)
  have f34 := f30.wr W32 (Or.inr sz1)
  have V32 : AD Z h32 a1 [(diagV v' (0 : Int32)), (nibV v' (9 : Int32)), (nibV v' (13 : Int32)), (nibV v' (33 : Int32)), (nibV v' (21 : Int32)), (diagV v' (1 : Int32)), (nibV v' (17 : Int32)), (nibV v' (37 : Int32)), (0 : UInt64), (0 : UInt64), (0 : UInt64), (0 : UInt64), (0 : UInt64), (0 : UInt64), (0 : UInt64), (0 : UInt64)] := N32
  refine g_aloadN X32 hx (pc' := 78) rfl (hb hby d1_77) rfl rfl ?_
  refine g_bipush X32 hx (pc' := 80) (z := (8 : Int32)) rfl (hb hby d1_78) rfl ?_
  refine g_lloadN X32 hx (pc' := 81) rfl (hb hby d1_80) rfl ?_
  refine g_bipush X32 hx (pc' := 83) (z := (25 : Int32)) rfl (hb hby d1_81) rfl ?_
  refine g_callS X32 hx hZ hown (hw _ (List.mem_of_getElem? (i := 9) rfl)) (hw _ (List.mem_of_getElem? (i := 10) rfl)) (hw _ (List.mem_of_getElem? (i := 2) rfl)) (hw _ (List.mem_of_getElem? (i := 11) rfl)) (by decide) (rm3 l Z a0 hw [] n0 v' (25 : Int32) h32 f33) pd_0 rfl rfl (by rw [hml]; rfl) (pc' := 86) rfl (hb hby d1_83) (argsL := [(.long v'), (.int (25 : Int32))]) (rest := [(.int (8 : Int32)), (.ref a1)]) rfl (W := 2) (Nat.le_of_eq rfl) (by decide) (by decide) (by decide) (by decide) (fun v35 T35 h35 X35 hQ35 => ?_)
  obtain ⟨rfl, he35⟩ := hQ35
  rw [he35] at X35
  show Go p e below s n0 _ _ _ (T35.setTop (mkF m 86 #[.val (.long v'), .second, .val (.ref a1)] [(.double (nibV v' (25 : Int32))), (.int (8 : Int32)), (.ref a1)]))
  refine g_dastore X35 hx hZ V32 (i := 8) (by decide) (show (8 : Nat) < 16 by decide) G_a1 (pc' := 87) rfl (hb hby d1_86) (fun T36 h36 X36 W36 N36 => ?_)
  have f37 := (by have q := (Keep.of_wr W36).1; exact Nat.le_trans f33 q : n0 ≤ h36.size)
  have f38 := f34.wr W36 (Or.inr sz1)
  have V36 : AD Z h36 a1 [(diagV v' (0 : Int32)), (nibV v' (9 : Int32)), (nibV v' (13 : Int32)), (nibV v' (33 : Int32)), (nibV v' (21 : Int32)), (diagV v' (1 : Int32)), (nibV v' (17 : Int32)), (nibV v' (37 : Int32)), (nibV v' (25 : Int32)), (0 : UInt64), (0 : UInt64), (0 : UInt64), (0 : UInt64), (0 : UInt64), (0 : UInt64), (0 : UInt64)] := N36
  refine g_aloadN X36 hx (pc' := 88) rfl (hb hby d1_87) rfl rfl ?_
  refine g_bipush X36 hx (pc' := 90) (z := (9 : Int32)) rfl (hb hby d1_88) rfl ?_
  refine g_lloadN X36 hx (pc' := 91) rfl (hb hby d1_90) rfl ?_
  refine g_bipush X36 hx (pc' := 93) (z := (29 : Int32)) rfl (hb hby d1_91) rfl ?_
  refine g_callS X36 hx hZ hown (hw _ (List.mem_of_getElem? (i := 9) rfl)) (hw _ (List.mem_of_getElem? (i := 10) rfl)) (hw _ (List.mem_of_getElem? (i := 2) rfl)) (hw _ (List.mem_of_getElem? (i := 11) rfl)) (by decide) (rm3 l Z a0 hw [] n0 v' (29 : Int32) h36 f37) pd_0 rfl rfl (by rw [hml]; rfl) (pc' := 96) rfl (hb hby d1_93) (argsL := [(.long v'), (.int (29 : Int32))]) (rest := [(.int (9 : Int32)), (.ref a1)]) rfl (W := 2) (Nat.le_of_eq rfl) (by decide) (by decide) (by decide) (by decide) (fun v39 T39 h39 X39 hQ39 => ?_)
  obtain ⟨rfl, he39⟩ := hQ39
  rw [he39] at X39
  show Go p e below s n0 _ _ _ (T39.setTop (mkF m 96 #[.val (.long v'), .second, .val (.ref a1)] [(.double (nibV v' (29 : Int32))), (.int (9 : Int32)), (.ref a1)]))
  refine g_dastore X39 hx hZ V36 (i := 9) (by decide) (show (9 : Nat) < 16 by decide) G_a1 (pc' := 97) rfl (hb hby d1_96) (fun T40 h40 X40 W40 N40 => ?_)
  have f41 := (by have q := (Keep.of_wr W40).1; exact Nat.le_trans f37 q : n0 ≤ h40.size)
  have f42 := f38.wr W40 (Or.inr sz1)
  have V40 : AD Z h40 a1 [(diagV v' (0 : Int32)), (nibV v' (9 : Int32)), (nibV v' (13 : Int32)), (nibV v' (33 : Int32)), (nibV v' (21 : Int32)), (diagV v' (1 : Int32)), (nibV v' (17 : Int32)), (nibV v' (37 : Int32)), (nibV v' (25 : Int32)), (nibV v' (29 : Int32)), (0 : UInt64), (0 : UInt64), (0 : UInt64), (0 : UInt64), (0 : UInt64), (0 : UInt64)] := N40
  refine g_aloadN X40 hx (pc' := 98) rfl (hb hby d1_97) rfl rfl ?_
  refine g_bipush X40 hx (pc' := 100) (z := (10 : Int32)) rfl (hb hby d1_98) rfl ?_
  refine g_lloadN X40 hx (pc' := 101) rfl (hb hby d1_100) rfl ?_
  refine g_iconst X40 hx (pc' := 102) (z := (2 : Int32)) rfl (hb hby d1_101) rfl ?_
  refine g_callS X40 hx hZ hown (hw _ (List.mem_of_getElem? (i := 5) rfl)) (hw _ (List.mem_of_getElem? (i := 6) rfl)) (hw _ (List.mem_of_getElem? (i := 2) rfl)) (hw _ (List.mem_of_getElem? (i := 7) rfl)) (by decide) (rm2 l Z a0 hw [] n0 v' (2 : Int32) h40 f41) pd_0 rfl rfl (by rw [hml]; rfl) (pc' := 105) rfl (hb hby d1_102) (argsL := [(.long v'), (.int (2 : Int32))]) (rest := [(.int (10 : Int32)), (.ref a1)]) rfl (W := 2) (Nat.le_of_eq rfl) (by decide) (by decide) (by decide) (by decide) (fun v43 T43 h43 X43 hQ43 => ?_)
  obtain ⟨rfl, he43⟩ := hQ43
  rw [he43] at X43
  show Go p e below s n0 _ _ _ (T43.setTop (mkF m 105 #[.val (.long v'), .second, .val (.ref a1)] [(.double (diagV v' (2 : Int32))), (.int (10 : Int32)), (.ref a1)]))
  refine g_dastore X43 hx hZ V40 (i := 10) (by decide) (show (10 : Nat) < 16 by decide) G_a1 (pc' := 106) rfl (hb hby d1_105) (fun T44 h44 X44 W44 N44 => ?_)
  have f45 := (by have q := (Keep.of_wr W44).1; exact Nat.le_trans f41 q : n0 ≤ h44.size)
  have f46 := f42.wr W44 (Or.inr sz1)
  have V44 : AD Z h44 a1 [(diagV v' (0 : Int32)), (nibV v' (9 : Int32)), (nibV v' (13 : Int32)), (nibV v' (33 : Int32)), (nibV v' (21 : Int32)), (diagV v' (1 : Int32)), (nibV v' (17 : Int32)), (nibV v' (37 : Int32)), (nibV v' (25 : Int32)), (nibV v' (29 : Int32)), (diagV v' (2 : Int32)), (0 : UInt64), (0 : UInt64), (0 : UInt64), (0 : UInt64), (0 : UInt64)] := N44
  refine g_aloadN X44 hx (pc' := 107) rfl (hb hby d1_106) rfl rfl ?_
  refine g_bipush X44 hx (pc' := 109) (z := (11 : Int32)) rfl (hb hby d1_107) rfl ?_
  refine g_lloadN X44 hx (pc' := 110) rfl (hb hby d1_109) rfl ?_
  refine g_bipush X44 hx (pc' := 112) (z := (41 : Int32)) rfl (hb hby d1_110) rfl ?_
  refine g_callS X44 hx hZ hown (hw _ (List.mem_of_getElem? (i := 9) rfl)) (hw _ (List.mem_of_getElem? (i := 10) rfl)) (hw _ (List.mem_of_getElem? (i := 2) rfl)) (hw _ (List.mem_of_getElem? (i := 11) rfl)) (by decide) (rm3 l Z a0 hw [] n0 v' (41 : Int32) h44 f45) pd_0 rfl rfl (by rw [hml]; rfl) (pc' := 115) rfl (hb hby d1_112) (argsL := [(.long v'), (.int (41 : Int32))]) (rest := [(.int (11 : Int32)), (.ref a1)]) rfl (W := 2) (Nat.le_of_eq rfl) (by decide) (by decide) (by decide) (by decide) (fun v47 T47 h47 X47 hQ47 => ?_)
  obtain ⟨rfl, he47⟩ := hQ47
  rw [he47] at X47
  show Go p e below s n0 _ _ _ (T47.setTop (mkF m 115 #[.val (.long v'), .second, .val (.ref a1)] [(.double (nibV v' (41 : Int32))), (.int (11 : Int32)), (.ref a1)]))
  refine g_dastore X47 hx hZ V44 (i := 11) (by decide) (show (11 : Nat) < 16 by decide) G_a1 (pc' := 116) rfl (hb hby d1_115) (fun T48 h48 X48 W48 N48 => ?_)
  have f49 := (by have q := (Keep.of_wr W48).1; exact Nat.le_trans f45 q : n0 ≤ h48.size)
  have f50 := f46.wr W48 (Or.inr sz1)
  have V48 : AD Z h48 a1 [(diagV v' (0 : Int32)), (nibV v' (9 : Int32)), (nibV v' (13 : Int32)), (nibV v' (33 : Int32)), (nibV v' (21 : Int32)), (diagV v' (1 : Int32)), (nibV v' (17 : Int32)), (nibV v' (37 : Int32)), (nibV v' (25 : Int32)), (nibV v' (29 : Int32)), (diagV v' (2 : Int32)), (nibV v' (41 : Int32)), (0 : UInt64), (0 : UInt64), (0 : UInt64), (0 : UInt64)] := N48
  refine g_aloadN X48 hx (pc' := 117) rfl (hb hby d1_116) rfl rfl ?_
  refine g_bipush X48 hx (pc' := 119) (z := (12 : Int32)) rfl (hb hby d1_117) rfl ?_
  refine g_lloadN X48 hx (pc' := 120) rfl (hb hby d1_119) rfl ?_
  refine g_bipush X48 hx (pc' := 122) (z := (45 : Int32)) rfl (hb hby d1_120) rfl ?_
  refine g_callS X48 hx hZ hown (hw _ (List.mem_of_getElem? (i := 9) rfl)) (hw _ (List.mem_of_getElem? (i := 10) rfl)) (hw _ (List.mem_of_getElem? (i := 2) rfl)) (hw _ (List.mem_of_getElem? (i := 11) rfl)) (by decide) (rm3 l Z a0 hw [] n0 v' (45 : Int32) h48 f49) pd_0 rfl rfl (by rw [hml]; rfl) (pc' := 125) rfl (hb hby d1_122) (argsL := [(.long v'), (.int (45 : Int32))]) (rest := [(.int (12 : Int32)), (.ref a1)]) rfl (W := 2) (Nat.le_of_eq rfl) (by decide) (by decide) (by decide) (by decide) (fun v51 T51 h51 X51 hQ51 => ?_)
  obtain ⟨rfl, he51⟩ := hQ51
  rw [he51] at X51
  show Go p e below s n0 _ _ _ (T51.setTop (mkF m 125 #[.val (.long v'), .second, .val (.ref a1)] [(.double (nibV v' (45 : Int32))), (.int (12 : Int32)), (.ref a1)]))
  refine g_dastore X51 hx hZ V48 (i := 12) (by decide) (show (12 : Nat) < 16 by decide) G_a1 (pc' := 126) rfl (hb hby d1_125) (fun T52 h52 X52 W52 N52 => ?_)
  have f53 := (by have q := (Keep.of_wr W52).1; exact Nat.le_trans f49 q : n0 ≤ h52.size)
  have f54 := f50.wr W52 (Or.inr sz1)
  have V52 : AD Z h52 a1 [(diagV v' (0 : Int32)), (nibV v' (9 : Int32)), (nibV v' (13 : Int32)), (nibV v' (33 : Int32)), (nibV v' (21 : Int32)), (diagV v' (1 : Int32)), (nibV v' (17 : Int32)), (nibV v' (37 : Int32)), (nibV v' (25 : Int32)), (nibV v' (29 : Int32)), (diagV v' (2 : Int32)), (nibV v' (41 : Int32)), (nibV v' (45 : Int32)), (0 : UInt64), (0 : UInt64), (0 : UInt64)] := N52
  refine g_aloadN X52 hx (pc' := 127) rfl (hb hby d1_126) rfl rfl ?_
  refine g_bipush X52 hx (pc' := 129) (z := (13 : Int32)) rfl (hb hby d1_127) rfl ?_
  refine g_lloadN X52 hx (pc' := 130) rfl (hb hby d1_129) rfl ?_
  refine g_bipush X52 hx (pc' := 132) (z := (49 : Int32)) rfl (hb hby d1_130) rfl ?_
  refine g_callS X52 hx hZ hown (hw _ (List.mem_of_getElem? (i := 9) rfl)) (hw _ (List.mem_of_getElem? (i := 10) rfl)) (hw _ (List.mem_of_getElem? (i := 2) rfl)) (hw _ (List.mem_of_getElem? (i := 11) rfl)) (by decide) (rm3 l Z a0 hw [] n0 v' (49 : Int32) h52 f53) pd_0 rfl rfl (by rw [hml]; rfl) (pc' := 135) rfl (hb hby d1_132) (argsL := [(.long v'), (.int (49 : Int32))]) (rest := [(.int (13 : Int32)), (.ref a1)]) rfl (W := 2) (Nat.le_of_eq rfl) (by decide) (by decide) (by decide) (by decide) (fun v55 T55 h55 X55 hQ55 => ?_)
  obtain ⟨rfl, he55⟩ := hQ55
  rw [he55] at X55
  show Go p e below s n0 _ _ _ (T55.setTop (mkF m 135 #[.val (.long v'), .second, .val (.ref a1)] [(.double (nibV v' (49 : Int32))), (.int (13 : Int32)), (.ref a1)]))
  refine g_dastore X55 hx hZ V52 (i := 13) (by decide) (show (13 : Nat) < 16 by decide) G_a1 (pc' := 136) rfl (hb hby d1_135) (fun T56 h56 X56 W56 N56 => ?_)
  have f57 := (by have q := (Keep.of_wr W56).1; exact Nat.le_trans f53 q : n0 ≤ h56.size)
  have f58 := f54.wr W56 (Or.inr sz1)
  have V56 : AD Z h56 a1 [(diagV v' (0 : Int32)), (nibV v' (9 : Int32)), (nibV v' (13 : Int32)), (nibV v' (33 : Int32)), (nibV v' (21 : Int32)), (diagV v' (1 : Int32)), (nibV v' (17 : Int32)), (nibV v' (37 : Int32)), (nibV v' (25 : Int32)), (nibV v' (29 : Int32)), (diagV v' (2 : Int32)), (nibV v' (41 : Int32)), (nibV v' (45 : Int32)), (nibV v' (49 : Int32)), (0 : UInt64), (0 : UInt64)] := N56
  refine g_aloadN X56 hx (pc' := 137) rfl (hb hby d1_136) rfl rfl ?_
  refine g_bipush X56 hx (pc' := 139) (z := (14 : Int32)) rfl (hb hby d1_137) rfl ?_
  refine g_lloadN X56 hx (pc' := 140) rfl (hb hby d1_139) rfl ?_
  refine g_bipush X56 hx (pc' := 142) (z := (53 : Int32)) rfl (hb hby d1_140) rfl ?_
  refine g_callS X56 hx hZ hown (hw _ (List.mem_of_getElem? (i := 9) rfl)) (hw _ (List.mem_of_getElem? (i := 10) rfl)) (hw _ (List.mem_of_getElem? (i := 2) rfl)) (hw _ (List.mem_of_getElem? (i := 11) rfl)) (by decide) (rm3 l Z a0 hw [] n0 v' (53 : Int32) h56 f57) pd_0 rfl rfl (by rw [hml]; rfl) (pc' := 145) rfl (hb hby d1_142) (argsL := [(.long v'), (.int (53 : Int32))]) (rest := [(.int (14 : Int32)), (.ref a1)]) rfl (W := 2) (Nat.le_of_eq rfl) (by decide) (by decide) (by decide) (by decide) (fun v59 T59 h59 X59 hQ59 => ?_)
  obtain ⟨rfl, he59⟩ := hQ59
  rw [he59] at X59
  show Go p e below s n0 _ _ _ (T59.setTop (mkF m 145 #[.val (.long v'), .second, .val (.ref a1)] [(.double (nibV v' (53 : Int32))), (.int (14 : Int32)), (.ref a1)]))
  refine g_dastore X59 hx hZ V56 (i := 14) (by decide) (show (14 : Nat) < 16 by decide) G_a1 (pc' := 146) rfl (hb hby d1_145) (fun T60 h60 X60 W60 N60 => ?_)
  have f61 := (by have q := (Keep.of_wr W60).1; exact Nat.le_trans f57 q : n0 ≤ h60.size)
  have f62 := f58.wr W60 (Or.inr sz1)
  have V60 : AD Z h60 a1 [(diagV v' (0 : Int32)), (nibV v' (9 : Int32)), (nibV v' (13 : Int32)), (nibV v' (33 : Int32)), (nibV v' (21 : Int32)), (diagV v' (1 : Int32)), (nibV v' (17 : Int32)), (nibV v' (37 : Int32)), (nibV v' (25 : Int32)), (nibV v' (29 : Int32)), (diagV v' (2 : Int32)), (nibV v' (41 : Int32)), (nibV v' (45 : Int32)), (nibV v' (49 : Int32)), (nibV v' (53 : Int32)), (0 : UInt64)] := N60
  refine g_aloadN X60 hx (pc' := 147) rfl (hb hby d1_146) rfl rfl ?_
  refine g_bipush X60 hx (pc' := 149) (z := (15 : Int32)) rfl (hb hby d1_147) rfl ?_
  refine g_lloadN X60 hx (pc' := 150) rfl (hb hby d1_149) rfl ?_
  refine g_bipush X60 hx (pc' := 152) (z := (57 : Int32)) rfl (hb hby d1_150) rfl ?_
  refine g_callS X60 hx hZ hown (hw _ (List.mem_of_getElem? (i := 9) rfl)) (hw _ (List.mem_of_getElem? (i := 10) rfl)) (hw _ (List.mem_of_getElem? (i := 2) rfl)) (hw _ (List.mem_of_getElem? (i := 11) rfl)) (by decide) (rm3 l Z a0 hw [] n0 v' (57 : Int32) h60 f61) pd_0 rfl rfl (by rw [hml]; rfl) (pc' := 155) rfl (hb hby d1_152) (argsL := [(.long v'), (.int (57 : Int32))]) (rest := [(.int (15 : Int32)), (.ref a1)]) rfl (W := 2) (Nat.le_of_eq rfl) (by decide) (by decide) (by decide) (by decide) (fun v63 T63 h63 X63 hQ63 => ?_)
  obtain ⟨rfl, he63⟩ := hQ63
  rw [he63] at X63
  show Go p e below s n0 _ _ _ (T63.setTop (mkF m 155 #[.val (.long v'), .second, .val (.ref a1)] [(.double (nibV v' (57 : Int32))), (.int (15 : Int32)), (.ref a1)]))
  refine g_dastore X63 hx hZ V60 (i := 15) (by decide) (show (15 : Nat) < 16 by decide) G_a1 (pc' := 156) rfl (hb hby d1_155) (fun T64 h64 X64 W64 N64 => ?_)
  have f65 := (by have q := (Keep.of_wr W64).1; exact Nat.le_trans f61 q : n0 ≤ h64.size)
  have f66 := f62.wr W64 (Or.inr sz1)
  have V64 : AD Z h64 a1 [(diagV v' (0 : Int32)), (nibV v' (9 : Int32)), (nibV v' (13 : Int32)), (nibV v' (33 : Int32)), (nibV v' (21 : Int32)), (diagV v' (1 : Int32)), (nibV v' (17 : Int32)), (nibV v' (37 : Int32)), (nibV v' (25 : Int32)), (nibV v' (29 : Int32)), (diagV v' (2 : Int32)), (nibV v' (41 : Int32)), (nibV v' (45 : Int32)), (nibV v' (49 : Int32)), (nibV v' (53 : Int32)), (nibV v' (57 : Int32))] := N64
  refine g_aloadN X64 hx (pc' := 157) rfl (hb hby d1_156) rfl rfl ?_
  exact g_ret X64 hx hlk hret rfl (Or.inr (Or.inr (Or.inr (Or.inr ⟨rfl, rfl, rfl⟩)))) (hb hby d1_157) (by decide) (by decide) (⟨a1, rfl, G_a1, sz1, f66, V64⟩)
set_option maxRecDepth 65536 in
set_option maxHeartbeats 40000000 in
theorem rm4 (l : Launch) (Z : State) (a0 : Array Value) (hw : ∀ d ∈ tables_1, d.before a0 Z = true) (ws : List Jvm.Cond) (n0 : Nat) (v' : Int64) (h0 : Heap) (hn0 : n0 ≤ h0.size)  :
    Con l Z n0 (⟨"com/example/orthogon/orthogon/TriangularSolveUpperTransposedPinLaw", "makeC", "(J)[D"⟩ : MethodName) method_5_code 3 (some (.array .double)) ws ({ frames := 1, cells := 1, slots := 12, locals := 48 } : Room) #[(.long v')] h0 (fun v h => ∃ aa, v = some (.ref aa) ∧ n0 ≤ aa ∧ h0.size ≤ aa ∧ Keep h0 h [] ∧ AD Z h aa (cL v')) := by
  refine con_start (plainFor_of_name (by first | (simp [plainName, overriddenIn]; done) | decide +kernel)) (fr0 := fun m => mkF m 0 #[.val (.long v'), .second, .unset] []) (fun m => by first | (simp [entryFrame, mkF, argsToLocals, Value.category]; done) | rfl) ?_
  intro p e s m below meth c T0 hx hZ hby hml hown hnm hret hlk X0
  replace hown : s.vm.findClass "com/example/orthogon/orthogon/TriangularSolveUpperTransposedPinLaw" = some m.cls := hown
  replace hml : c.maxLocals = 3 := hml
  refine g_bipush X0 hx (pc' := 2) (z := (12 : Int32)) rfl (hb hby d4_0) rfl ?_
  refine g_newD X0 hx hZ (hw _ (List.mem_of_getElem? (i := 4) rfl)) (N := 12) (by decide) (cap := 12) (Nat.le_refl _) (by decide) (pc' := 4) rfl (hb hby d4_2) (by decide) (by decide) (fun T67 h67 a67 ha67 X67 E67 N67 => ?_)
  have sz67 : h0.size ≤ a67 := by rw [ha67]; exact (Keep.refl h0 []).1
  have f68 := (Keep.refl h0 []).ext E67
  have G_a67 : n0 ≤ a67 := by rw [ha67]; exact hn0
  have Zs67 : n0 ≤ h67.size := Nat.le_trans hn0 E67.1
  have V67 : AD Z h67 a67 [(0 : UInt64), (0 : UInt64), (0 : UInt64), (0 : UInt64), (0 : UInt64), (0 : UInt64), (0 : UInt64), (0 : UInt64), (0 : UInt64), (0 : UInt64), (0 : UInt64), (0 : UInt64)] := N67
  refine g_astoreN X67 hx (pc' := 5) rfl (hb hby d4_4) rfl (l' := #[.val (.long v'), .second, .val (.ref a67)]) rfl ?_
  refine g_aloadN X67 hx (pc' := 6) rfl (hb hby d4_5) rfl rfl ?_
  refine g_iconst X67 hx (pc' := 7) (z := (0 : Int32)) rfl (hb hby d4_6) rfl ?_
  refine g_lloadN X67 hx (pc' := 8) rfl (hb hby d4_7) rfl ?_
  refine g_iconst X67 hx (pc' := 9) (z := (0 : Int32)) rfl (hb hby d4_8) rfl ?_
  refine g_callS X67 hx hZ hown (hw _ (List.mem_of_getElem? (i := 9) rfl)) (hw _ (List.mem_of_getElem? (i := 10) rfl)) (hw _ (List.mem_of_getElem? (i := 2) rfl)) (hw _ (List.mem_of_getElem? (i := 11) rfl)) (by decide) (rm3 l Z a0 hw [] n0 v' (0 : Int32) h67 Zs67) pd_0 rfl rfl (by rw [hml]; rfl) (pc' := 12) rfl (hb hby d4_9) (argsL := [(.long v'), (.int (0 : Int32))]) (rest := [(.int (0 : Int32)), (.ref a67)]) rfl (W := 2) (Nat.le_of_eq rfl) (by decide) (by decide) (by decide) (by decide) (fun v69 T69 h69 X69 hQ69 => ?_)
  obtain ⟨rfl, he69⟩ := hQ69
  rw [he69] at X69
  show Go p e below s n0 _ _ _ (T69.setTop (mkF m 12 #[.val (.long v'), .second, .val (.ref a67)] [(.double (nibV v' (0 : Int32))), (.int (0 : Int32)), (.ref a67)]))
  refine g_dastore X69 hx hZ V67 (i := 0) (by decide) (show (0 : Nat) < 12 by decide) G_a67 (pc' := 13) rfl (hb hby d4_12) (fun T70 h70 X70 W70 N70 => ?_)
  have f71 := (by have q := (Keep.of_wr W70).1; exact Nat.le_trans Zs67 q : n0 ≤ h70.size)
  have f72 := f68.wr W70 (Or.inr sz67)
  have V70 : AD Z h70 a67 [(nibV v' (0 : Int32)), (0 : UInt64), (0 : UInt64), (0 : UInt64), (0 : UInt64), (0 : UInt64), (0 : UInt64), (0 : UInt64), (0 : UInt64), (0 : UInt64), (0 : UInt64), (0 : UInt64)] := N70
  refine g_aloadN X70 hx (pc' := 14) rfl (hb hby d4_13) rfl rfl ?_
  refine g_iconst X70 hx (pc' := 15) (z := (1 : Int32)) rfl (hb hby d4_14) rfl ?_
  refine g_lloadN X70 hx (pc' := 16) rfl (hb hby d4_15) rfl ?_
  refine g_iconst X70 hx (pc' := 17) (z := (4 : Int32)) rfl (hb hby d4_16) rfl ?_
  refine g_callS X70 hx hZ hown (hw _ (List.mem_of_getElem? (i := 9) rfl)) (hw _ (List.mem_of_getElem? (i := 10) rfl)) (hw _ (List.mem_of_getElem? (i := 2) rfl)) (hw _ (List.mem_of_getElem? (i := 11) rfl)) (by decide) (rm3 l Z a0 hw [] n0 v' (4 : Int32) h70 f71) pd_0 rfl rfl (by rw [hml]; rfl) (pc' := 20) rfl (hb hby d4_17) (argsL := [(.long v'), (.int (4 : Int32))]) (rest := [(.int (1 : Int32)), (.ref a67)]) rfl (W := 2) (Nat.le_of_eq rfl) (by decide) (by decide) (by decide) (by decide) (fun v73 T73 h73 X73 hQ73 => ?_)
  obtain ⟨rfl, he73⟩ := hQ73
  rw [he73] at X73
  show Go p e below s n0 _ _ _ (T73.setTop (mkF m 20 #[.val (.long v'), .second, .val (.ref a67)] [(.double (nibV v' (4 : Int32))), (.int (1 : Int32)), (.ref a67)]))
  refine g_dastore X73 hx hZ V70 (i := 1) (by decide) (show (1 : Nat) < 12 by decide) G_a67 (pc' := 21) rfl (hb hby d4_20) (fun T74 h74 X74 W74 N74 => ?_)
  have f75 := (by have q := (Keep.of_wr W74).1; exact Nat.le_trans f71 q : n0 ≤ h74.size)
  have f76 := f72.wr W74 (Or.inr sz67)
  have V74 : AD Z h74 a67 [(nibV v' (0 : Int32)), (nibV v' (4 : Int32)), (0 : UInt64), (0 : UInt64), (0 : UInt64), (0 : UInt64), (0 : UInt64), (0 : UInt64), (0 : UInt64), (0 : UInt64), (0 : UInt64), (0 : UInt64)] := N74
  refine g_aloadN X74 hx (pc' := 22) rfl (hb hby d4_21) rfl rfl ?_
  refine g_iconst X74 hx (pc' := 23) (z := (2 : Int32)) rfl (hb hby d4_22) rfl ?_
  refine g_lloadN X74 hx (pc' := 24) rfl (hb hby d4_23) rfl ?_
  refine g_bipush X74 hx (pc' := 26) (z := (8 : Int32)) rfl (hb hby d4_24) rfl ?_
  refine g_callS X74 hx hZ hown (hw _ (List.mem_of_getElem? (i := 9) rfl)) (hw _ (List.mem_of_getElem? (i := 10) rfl)) (hw _ (List.mem_of_getElem? (i := 2) rfl)) (hw _ (List.mem_of_getElem? (i := 11) rfl)) (by decide) (rm3 l Z a0 hw [] n0 v' (8 : Int32) h74 f75) pd_0 rfl rfl (by rw [hml]; rfl) (pc' := 29) rfl (hb hby d4_26) (argsL := [(.long v'), (.int (8 : Int32))]) (rest := [(.int (2 : Int32)), (.ref a67)]) rfl (W := 2) (Nat.le_of_eq rfl) (by decide) (by decide) (by decide) (by decide) (fun v77 T77 h77 X77 hQ77 => ?_)
  obtain ⟨rfl, he77⟩ := hQ77
  rw [he77] at X77
  show Go p e below s n0 _ _ _ (T77.setTop (mkF m 29 #[.val (.long v'), .second, .val (.ref a67)] [(.double (nibV v' (8 : Int32))), (.int (2 : Int32)), (.ref a67)]))
  refine g_dastore X77 hx hZ V74 (i := 2) (by decide) (show (2 : Nat) < 12 by decide) G_a67 (pc' := 30) rfl (hb hby d4_29) (fun T78 h78 X78 W78 N78 => ?_)
  have f79 := (by have q := (Keep.of_wr W78).1; exact Nat.le_trans f75 q : n0 ≤ h78.size)
  have f80 := f76.wr W78 (Or.inr sz67)
  have V78 : AD Z h78 a67 [(nibV v' (0 : Int32)), (nibV v' (4 : Int32)), (nibV v' (8 : Int32)), (0 : UInt64), (0 : UInt64), (0 : UInt64), (0 : UInt64), (0 : UInt64), (0 : UInt64), (0 : UInt64), (0 : UInt64), (0 : UInt64)] := N78
  refine g_aloadN X78 hx (pc' := 31) rfl (hb hby d4_30) rfl rfl ?_
  refine g_iconst X78 hx (pc' := 32) (z := (3 : Int32)) rfl (hb hby d4_31) rfl ?_
  refine g_lloadN X78 hx (pc' := 33) rfl (hb hby d4_32) rfl ?_
  refine g_bipush X78 hx (pc' := 35) (z := (12 : Int32)) rfl (hb hby d4_33) rfl ?_
  refine g_callS X78 hx hZ hown (hw _ (List.mem_of_getElem? (i := 9) rfl)) (hw _ (List.mem_of_getElem? (i := 10) rfl)) (hw _ (List.mem_of_getElem? (i := 2) rfl)) (hw _ (List.mem_of_getElem? (i := 11) rfl)) (by decide) (rm3 l Z a0 hw [] n0 v' (12 : Int32) h78 f79) pd_0 rfl rfl (by rw [hml]; rfl) (pc' := 38) rfl (hb hby d4_35) (argsL := [(.long v'), (.int (12 : Int32))]) (rest := [(.int (3 : Int32)), (.ref a67)]) rfl (W := 2) (Nat.le_of_eq rfl) (by decide) (by decide) (by decide) (by decide) (fun v81 T81 h81 X81 hQ81 => ?_)
  obtain ⟨rfl, he81⟩ := hQ81
  rw [he81] at X81
  show Go p e below s n0 _ _ _ (T81.setTop (mkF m 38 #[.val (.long v'), .second, .val (.ref a67)] [(.double (nibV v' (12 : Int32))), (.int (3 : Int32)), (.ref a67)]))
  refine g_dastore X81 hx hZ V78 (i := 3) (by decide) (show (3 : Nat) < 12 by decide) G_a67 (pc' := 39) rfl (hb hby d4_38) (fun T82 h82 X82 W82 N82 => ?_)
  have f83 := (by have q := (Keep.of_wr W82).1; exact Nat.le_trans f79 q : n0 ≤ h82.size)
  have f84 := f80.wr W82 (Or.inr sz67)
  have V82 : AD Z h82 a67 [(nibV v' (0 : Int32)), (nibV v' (4 : Int32)), (nibV v' (8 : Int32)), (nibV v' (12 : Int32)), (0 : UInt64), (0 : UInt64), (0 : UInt64), (0 : UInt64), (0 : UInt64), (0 : UInt64), (0 : UInt64), (0 : UInt64)] := N82
  refine g_aloadN X82 hx (pc' := 40) rfl (hb hby d4_39) rfl rfl ?_
  refine g_iconst X82 hx (pc' := 41) (z := (4 : Int32)) rfl (hb hby d4_40) rfl ?_
  refine g_lloadN X82 hx (pc' := 42) rfl (hb hby d4_41) rfl ?_
  refine g_bipush X82 hx (pc' := 44) (z := (16 : Int32)) rfl (hb hby d4_42) rfl ?_
  refine g_callS X82 hx hZ hown (hw _ (List.mem_of_getElem? (i := 9) rfl)) (hw _ (List.mem_of_getElem? (i := 10) rfl)) (hw _ (List.mem_of_getElem? (i := 2) rfl)) (hw _ (List.mem_of_getElem? (i := 11) rfl)) (by decide) (rm3 l Z a0 hw [] n0 v' (16 : Int32) h82 f83) pd_0 rfl rfl (by rw [hml]; rfl) (pc' := 47) rfl (hb hby d4_44) (argsL := [(.long v'), (.int (16 : Int32))]) (rest := [(.int (4 : Int32)), (.ref a67)]) rfl (W := 2) (Nat.le_of_eq rfl) (by decide) (by decide) (by decide) (by decide) (fun v85 T85 h85 X85 hQ85 => ?_)
  obtain ⟨rfl, he85⟩ := hQ85
  rw [he85] at X85
  show Go p e below s n0 _ _ _ (T85.setTop (mkF m 47 #[.val (.long v'), .second, .val (.ref a67)] [(.double (nibV v' (16 : Int32))), (.int (4 : Int32)), (.ref a67)]))
  refine g_dastore X85 hx hZ V82 (i := 4) (by decide) (show (4 : Nat) < 12 by decide) G_a67 (pc' := 48) rfl (hb hby d4_47) (fun T86 h86 X86 W86 N86 => ?_)
  have f87 := (by have q := (Keep.of_wr W86).1; exact Nat.le_trans f83 q : n0 ≤ h86.size)
  have f88 := f84.wr W86 (Or.inr sz67)
  have V86 : AD Z h86 a67 [(nibV v' (0 : Int32)), (nibV v' (4 : Int32)), (nibV v' (8 : Int32)), (nibV v' (12 : Int32)), (nibV v' (16 : Int32)), (0 : UInt64), (0 : UInt64), (0 : UInt64), (0 : UInt64), (0 : UInt64), (0 : UInt64), (0 : UInt64)] := N86
  refine g_aloadN X86 hx (pc' := 49) rfl (hb hby d4_48) rfl rfl ?_
  refine g_iconst X86 hx (pc' := 50) (z := (5 : Int32)) rfl (hb hby d4_49) rfl ?_
  refine g_lloadN X86 hx (pc' := 51) rfl (hb hby d4_50) rfl ?_
  refine g_bipush X86 hx (pc' := 53) (z := (20 : Int32)) rfl (hb hby d4_51) rfl ?_
  refine g_callS X86 hx hZ hown (hw _ (List.mem_of_getElem? (i := 9) rfl)) (hw _ (List.mem_of_getElem? (i := 10) rfl)) (hw _ (List.mem_of_getElem? (i := 2) rfl)) (hw _ (List.mem_of_getElem? (i := 11) rfl)) (by decide) (rm3 l Z a0 hw [] n0 v' (20 : Int32) h86 f87) pd_0 rfl rfl (by rw [hml]; rfl) (pc' := 56) rfl (hb hby d4_53) (argsL := [(.long v'), (.int (20 : Int32))]) (rest := [(.int (5 : Int32)), (.ref a67)]) rfl (W := 2) (Nat.le_of_eq rfl) (by decide) (by decide) (by decide) (by decide) (fun v89 T89 h89 X89 hQ89 => ?_)
  obtain ⟨rfl, he89⟩ := hQ89
  rw [he89] at X89
  show Go p e below s n0 _ _ _ (T89.setTop (mkF m 56 #[.val (.long v'), .second, .val (.ref a67)] [(.double (nibV v' (20 : Int32))), (.int (5 : Int32)), (.ref a67)]))
  refine g_dastore X89 hx hZ V86 (i := 5) (by decide) (show (5 : Nat) < 12 by decide) G_a67 (pc' := 57) rfl (hb hby d4_56) (fun T90 h90 X90 W90 N90 => ?_)
  have f91 := (by have q := (Keep.of_wr W90).1; exact Nat.le_trans f87 q : n0 ≤ h90.size)
  have f92 := f88.wr W90 (Or.inr sz67)
  have V90 : AD Z h90 a67 [(nibV v' (0 : Int32)), (nibV v' (4 : Int32)), (nibV v' (8 : Int32)), (nibV v' (12 : Int32)), (nibV v' (16 : Int32)), (nibV v' (20 : Int32)), (0 : UInt64), (0 : UInt64), (0 : UInt64), (0 : UInt64), (0 : UInt64), (0 : UInt64)] := N90
  refine g_aloadN X90 hx (pc' := 58) rfl (hb hby d4_57) rfl rfl ?_
  refine g_bipush X90 hx (pc' := 60) (z := (6 : Int32)) rfl (hb hby d4_58) rfl ?_
  refine g_lloadN X90 hx (pc' := 61) rfl (hb hby d4_60) rfl ?_
  refine g_bipush X90 hx (pc' := 63) (z := (24 : Int32)) rfl (hb hby d4_61) rfl ?_
  refine g_callS X90 hx hZ hown (hw _ (List.mem_of_getElem? (i := 9) rfl)) (hw _ (List.mem_of_getElem? (i := 10) rfl)) (hw _ (List.mem_of_getElem? (i := 2) rfl)) (hw _ (List.mem_of_getElem? (i := 11) rfl)) (by decide) (rm3 l Z a0 hw [] n0 v' (24 : Int32) h90 f91) pd_0 rfl rfl (by rw [hml]; rfl) (pc' := 66) rfl (hb hby d4_63) (argsL := [(.long v'), (.int (24 : Int32))]) (rest := [(.int (6 : Int32)), (.ref a67)]) rfl (W := 2) (Nat.le_of_eq rfl) (by decide) (by decide) (by decide) (by decide) (fun v93 T93 h93 X93 hQ93 => ?_)
  obtain ⟨rfl, he93⟩ := hQ93
  rw [he93] at X93
  show Go p e below s n0 _ _ _ (T93.setTop (mkF m 66 #[.val (.long v'), .second, .val (.ref a67)] [(.double (nibV v' (24 : Int32))), (.int (6 : Int32)), (.ref a67)]))
  refine g_dastore X93 hx hZ V90 (i := 6) (by decide) (show (6 : Nat) < 12 by decide) G_a67 (pc' := 67) rfl (hb hby d4_66) (fun T94 h94 X94 W94 N94 => ?_)
  have f95 := (by have q := (Keep.of_wr W94).1; exact Nat.le_trans f91 q : n0 ≤ h94.size)
  have f96 := f92.wr W94 (Or.inr sz67)
  have V94 : AD Z h94 a67 [(nibV v' (0 : Int32)), (nibV v' (4 : Int32)), (nibV v' (8 : Int32)), (nibV v' (12 : Int32)), (nibV v' (16 : Int32)), (nibV v' (20 : Int32)), (nibV v' (24 : Int32)), (0 : UInt64), (0 : UInt64), (0 : UInt64), (0 : UInt64), (0 : UInt64)] := N94
  refine g_aloadN X94 hx (pc' := 68) rfl (hb hby d4_67) rfl rfl ?_
  refine g_bipush X94 hx (pc' := 70) (z := (7 : Int32)) rfl (hb hby d4_68) rfl ?_
  refine g_lloadN X94 hx (pc' := 71) rfl (hb hby d4_70) rfl ?_
  refine g_bipush X94 hx (pc' := 73) (z := (28 : Int32)) rfl (hb hby d4_71) rfl ?_
  refine g_callS X94 hx hZ hown (hw _ (List.mem_of_getElem? (i := 9) rfl)) (hw _ (List.mem_of_getElem? (i := 10) rfl)) (hw _ (List.mem_of_getElem? (i := 2) rfl)) (hw _ (List.mem_of_getElem? (i := 11) rfl)) (by decide) (rm3 l Z a0 hw [] n0 v' (28 : Int32) h94 f95) pd_0 rfl rfl (by rw [hml]; rfl) (pc' := 76) rfl (hb hby d4_73) (argsL := [(.long v'), (.int (28 : Int32))]) (rest := [(.int (7 : Int32)), (.ref a67)]) rfl (W := 2) (Nat.le_of_eq rfl) (by decide) (by decide) (by decide) (by decide) (fun v97 T97 h97 X97 hQ97 => ?_)
  obtain ⟨rfl, he97⟩ := hQ97
  rw [he97] at X97
  show Go p e below s n0 _ _ _ (T97.setTop (mkF m 76 #[.val (.long v'), .second, .val (.ref a67)] [(.double (nibV v' (28 : Int32))), (.int (7 : Int32)), (.ref a67)]))
  refine g_dastore X97 hx hZ V94 (i := 7) (by decide) (show (7 : Nat) < 12 by decide) G_a67 (pc' := 77) rfl (hb hby d4_76) (fun T98 h98 X98 W98 N98 => ?_)
  have f99 := (by have q := (Keep.of_wr W98).1; exact Nat.le_trans f95 q : n0 ≤ h98.size)
  have f100 := f96.wr W98 (Or.inr sz67)
  have V98 : AD Z h98 a67 [(nibV v' (0 : Int32)), (nibV v' (4 : Int32)), (nibV v' (8 : Int32)), (nibV v' (12 : Int32)), (nibV v' (16 : Int32)), (nibV v' (20 : Int32)), (nibV v' (24 : Int32)), (nibV v' (28 : Int32)), (0 : UInt64), (0 : UInt64), (0 : UInt64), (0 : UInt64)] := N98
  refine g_aloadN X98 hx (pc' := 78) rfl (hb hby d4_77) rfl rfl ?_
  refine g_bipush X98 hx (pc' := 80) (z := (8 : Int32)) rfl (hb hby d4_78) rfl ?_
  refine g_lloadN X98 hx (pc' := 81) rfl (hb hby d4_80) rfl ?_
  refine g_bipush X98 hx (pc' := 83) (z := (32 : Int32)) rfl (hb hby d4_81) rfl ?_
  refine g_callS X98 hx hZ hown (hw _ (List.mem_of_getElem? (i := 9) rfl)) (hw _ (List.mem_of_getElem? (i := 10) rfl)) (hw _ (List.mem_of_getElem? (i := 2) rfl)) (hw _ (List.mem_of_getElem? (i := 11) rfl)) (by decide) (rm3 l Z a0 hw [] n0 v' (32 : Int32) h98 f99) pd_0 rfl rfl (by rw [hml]; rfl) (pc' := 86) rfl (hb hby d4_83) (argsL := [(.long v'), (.int (32 : Int32))]) (rest := [(.int (8 : Int32)), (.ref a67)]) rfl (W := 2) (Nat.le_of_eq rfl) (by decide) (by decide) (by decide) (by decide) (fun v101 T101 h101 X101 hQ101 => ?_)
  obtain ⟨rfl, he101⟩ := hQ101
  rw [he101] at X101
  show Go p e below s n0 _ _ _ (T101.setTop (mkF m 86 #[.val (.long v'), .second, .val (.ref a67)] [(.double (nibV v' (32 : Int32))), (.int (8 : Int32)), (.ref a67)]))
  refine g_dastore X101 hx hZ V98 (i := 8) (by decide) (show (8 : Nat) < 12 by decide) G_a67 (pc' := 87) rfl (hb hby d4_86) (fun T102 h102 X102 W102 N102 => ?_)
  have f103 := (by have q := (Keep.of_wr W102).1; exact Nat.le_trans f99 q : n0 ≤ h102.size)
  have f104 := f100.wr W102 (Or.inr sz67)
  have V102 : AD Z h102 a67 [(nibV v' (0 : Int32)), (nibV v' (4 : Int32)), (nibV v' (8 : Int32)), (nibV v' (12 : Int32)), (nibV v' (16 : Int32)), (nibV v' (20 : Int32)), (nibV v' (24 : Int32)), (nibV v' (28 : Int32)), (nibV v' (32 : Int32)), (0 : UInt64), (0 : UInt64), (0 : UInt64)] := N102
  refine g_aloadN X102 hx (pc' := 88) rfl (hb hby d4_87) rfl rfl ?_
  refine g_bipush X102 hx (pc' := 90) (z := (9 : Int32)) rfl (hb hby d4_88) rfl ?_
  refine g_lloadN X102 hx (pc' := 91) rfl (hb hby d4_90) rfl ?_
  refine g_bipush X102 hx (pc' := 93) (z := (36 : Int32)) rfl (hb hby d4_91) rfl ?_
  refine g_callS X102 hx hZ hown (hw _ (List.mem_of_getElem? (i := 9) rfl)) (hw _ (List.mem_of_getElem? (i := 10) rfl)) (hw _ (List.mem_of_getElem? (i := 2) rfl)) (hw _ (List.mem_of_getElem? (i := 11) rfl)) (by decide) (rm3 l Z a0 hw [] n0 v' (36 : Int32) h102 f103) pd_0 rfl rfl (by rw [hml]; rfl) (pc' := 96) rfl (hb hby d4_93) (argsL := [(.long v'), (.int (36 : Int32))]) (rest := [(.int (9 : Int32)), (.ref a67)]) rfl (W := 2) (Nat.le_of_eq rfl) (by decide) (by decide) (by decide) (by decide) (fun v105 T105 h105 X105 hQ105 => ?_)
  obtain ⟨rfl, he105⟩ := hQ105
  rw [he105] at X105
  show Go p e below s n0 _ _ _ (T105.setTop (mkF m 96 #[.val (.long v'), .second, .val (.ref a67)] [(.double (nibV v' (36 : Int32))), (.int (9 : Int32)), (.ref a67)]))
  refine g_dastore X105 hx hZ V102 (i := 9) (by decide) (show (9 : Nat) < 12 by decide) G_a67 (pc' := 97) rfl (hb hby d4_96) (fun T106 h106 X106 W106 N106 => ?_)
  have f107 := (by have q := (Keep.of_wr W106).1; exact Nat.le_trans f103 q : n0 ≤ h106.size)
  have f108 := f104.wr W106 (Or.inr sz67)
  have V106 : AD Z h106 a67 [(nibV v' (0 : Int32)), (nibV v' (4 : Int32)), (nibV v' (8 : Int32)), (nibV v' (12 : Int32)), (nibV v' (16 : Int32)), (nibV v' (20 : Int32)), (nibV v' (24 : Int32)), (nibV v' (28 : Int32)), (nibV v' (32 : Int32)), (nibV v' (36 : Int32)), (0 : UInt64), (0 : UInt64)] := N106
  refine g_aloadN X106 hx (pc' := 98) rfl (hb hby d4_97) rfl rfl ?_
  refine g_bipush X106 hx (pc' := 100) (z := (10 : Int32)) rfl (hb hby d4_98) rfl ?_
  refine g_lloadN X106 hx (pc' := 101) rfl (hb hby d4_100) rfl ?_
  refine g_bipush X106 hx (pc' := 103) (z := (40 : Int32)) rfl (hb hby d4_101) rfl ?_
  refine g_callS X106 hx hZ hown (hw _ (List.mem_of_getElem? (i := 9) rfl)) (hw _ (List.mem_of_getElem? (i := 10) rfl)) (hw _ (List.mem_of_getElem? (i := 2) rfl)) (hw _ (List.mem_of_getElem? (i := 11) rfl)) (by decide) (rm3 l Z a0 hw [] n0 v' (40 : Int32) h106 f107) pd_0 rfl rfl (by rw [hml]; rfl) (pc' := 106) rfl (hb hby d4_103) (argsL := [(.long v'), (.int (40 : Int32))]) (rest := [(.int (10 : Int32)), (.ref a67)]) rfl (W := 2) (Nat.le_of_eq rfl) (by decide) (by decide) (by decide) (by decide) (fun v109 T109 h109 X109 hQ109 => ?_)
  obtain ⟨rfl, he109⟩ := hQ109
  rw [he109] at X109
  show Go p e below s n0 _ _ _ (T109.setTop (mkF m 106 #[.val (.long v'), .second, .val (.ref a67)] [(.double (nibV v' (40 : Int32))), (.int (10 : Int32)), (.ref a67)]))
  refine g_dastore X109 hx hZ V106 (i := 10) (by decide) (show (10 : Nat) < 12 by decide) G_a67 (pc' := 107) rfl (hb hby d4_106) (fun T110 h110 X110 W110 N110 => ?_)
  have f111 := (by have q := (Keep.of_wr W110).1; exact Nat.le_trans f107 q : n0 ≤ h110.size)
  have f112 := f108.wr W110 (Or.inr sz67)
  have V110 : AD Z h110 a67 [(nibV v' (0 : Int32)), (nibV v' (4 : Int32)), (nibV v' (8 : Int32)), (nibV v' (12 : Int32)), (nibV v' (16 : Int32)), (nibV v' (20 : Int32)), (nibV v' (24 : Int32)), (nibV v' (28 : Int32)), (nibV v' (32 : Int32)), (nibV v' (36 : Int32)), (nibV v' (40 : Int32)), (0 : UInt64)] := N110
  refine g_aloadN X110 hx (pc' := 108) rfl (hb hby d4_107) rfl rfl ?_
  refine g_bipush X110 hx (pc' := 110) (z := (11 : Int32)) rfl (hb hby d4_108) rfl ?_
  refine g_lloadN X110 hx (pc' := 111) rfl (hb hby d4_110) rfl ?_
  refine g_bipush X110 hx (pc' := 113) (z := (44 : Int32)) rfl (hb hby d4_111) rfl ?_
  refine g_callS X110 hx hZ hown (hw _ (List.mem_of_getElem? (i := 9) rfl)) (hw _ (List.mem_of_getElem? (i := 10) rfl)) (hw _ (List.mem_of_getElem? (i := 2) rfl)) (hw _ (List.mem_of_getElem? (i := 11) rfl)) (by decide) (rm3 l Z a0 hw [] n0 v' (44 : Int32) h110 f111) pd_0 rfl rfl (by rw [hml]; rfl) (pc' := 116) rfl (hb hby d4_113) (argsL := [(.long v'), (.int (44 : Int32))]) (rest := [(.int (11 : Int32)), (.ref a67)]) rfl (W := 2) (Nat.le_of_eq rfl) (by decide) (by decide) (by decide) (by decide) (fun v113 T113 h113 X113 hQ113 => ?_)
  obtain ⟨rfl, he113⟩ := hQ113
  rw [he113] at X113
  show Go p e below s n0 _ _ _ (T113.setTop (mkF m 116 #[.val (.long v'), .second, .val (.ref a67)] [(.double (nibV v' (44 : Int32))), (.int (11 : Int32)), (.ref a67)]))
  refine g_dastore X113 hx hZ V110 (i := 11) (by decide) (show (11 : Nat) < 12 by decide) G_a67 (pc' := 117) rfl (hb hby d4_116) (fun T114 h114 X114 W114 N114 => ?_)
  have f115 := (by have q := (Keep.of_wr W114).1; exact Nat.le_trans f111 q : n0 ≤ h114.size)
  have f116 := f112.wr W114 (Or.inr sz67)
  have V114 : AD Z h114 a67 [(nibV v' (0 : Int32)), (nibV v' (4 : Int32)), (nibV v' (8 : Int32)), (nibV v' (12 : Int32)), (nibV v' (16 : Int32)), (nibV v' (20 : Int32)), (nibV v' (24 : Int32)), (nibV v' (28 : Int32)), (nibV v' (32 : Int32)), (nibV v' (36 : Int32)), (nibV v' (40 : Int32)), (nibV v' (44 : Int32))] := N114
  refine g_aloadN X114 hx (pc' := 118) rfl (hb hby d4_117) rfl rfl ?_
  exact g_ret X114 hx hlk hret rfl (Or.inr (Or.inr (Or.inr (Or.inr ⟨rfl, rfl, rfl⟩)))) (hb hby d4_118) (by decide) (by decide) (⟨a67, rfl, G_a67, sz67, f116, V114⟩)
set_option maxRecDepth 65536 in
set_option maxHeartbeats 40000000 in
theorem rm5_0_1 (l : Launch) (Z : State) (a0 : Array Value) (hw : ∀ d ∈ tables_1, d.before a0 Z = true) (ws : List Jvm.Cond) (n0 : Nat) (ta ca : Addr) (t0 : UInt64) (t1 : UInt64) (t2 : UInt64) (t3 : UInt64) (t4 : UInt64) (t5 : UInt64) (t6 : UInt64) (t7 : UInt64) (t8 : UInt64) (t9 : UInt64) (t10 : UInt64) (t11 : UInt64) (t12 : UInt64) (t13 : UInt64) (t14 : UInt64) (t15 : UInt64) (mt0 : Int) (mt1 : Int) (mt2 : Int) (mt5 : Int) (mt6 : Int) (mt10 : Int) (e0 : Int) (e5 : Int) (e10 : Int) (c0 : UInt64) (mc0 : Int) (c1 : UInt64) (mc1 : Int) (c2 : UInt64) (mc2 : Int) (c3 : UInt64) (mc3 : Int) (c4 : UInt64) (mc4 : Int) (c5 : UInt64) (mc5 : Int) (c6 : UInt64) (mc6 : Int) (c7 : UInt64) (mc7 : Int) (c8 : UInt64) (mc8 : Int) (c9 : UInt64) (mc9 : Int) (c10 : UInt64) (mc10 : Int) (c11 : UInt64) (mc11 : Int) (h0 : Heap) (hn0 : n0 ≤ h0.size) (At : AD Z h0 ta [t0, t1, t2, t3, t4, t5, t6, t7, t8, t9, t10, t11, t12, t13, t14, t15]) (Ac : AD Z h0 ca [c0, c1, c2, c3, c4, c5, c6, c7, c8, c9, c10, c11]) (hne : ta ≠ ca) (hg : n0 ≤ ca) (yc0 : Dy mc0 1074 c0) (bc0 : mc0.natAbs ≤ 8) (yc1 : Dy mc1 1074 c1) (bc1 : mc1.natAbs ≤ 8) (yc2 : Dy mc2 1074 c2) (bc2 : mc2.natAbs ≤ 8) (yc3 : Dy mc3 1074 c3) (bc3 : mc3.natAbs ≤ 8) (yc4 : Dy mc4 1074 c4) (bc4 : mc4.natAbs ≤ 8) (yc5 : Dy mc5 1074 c5) (bc5 : mc5.natAbs ≤ 8) (yc6 : Dy mc6 1074 c6) (bc6 : mc6.natAbs ≤ 8) (yc7 : Dy mc7 1074 c7) (bc7 : mc7.natAbs ≤ 8) (yc8 : Dy mc8 1074 c8) (bc8 : mc8.natAbs ≤ 8) (yc9 : Dy mc9 1074 c9) (bc9 : mc9.natAbs ≤ 8) (yc10 : Dy mc10 1074 c10) (bc10 : mc10.natAbs ≤ 8) (yc11 : Dy mc11 1074 c11) (bc11 : mc11.natAbs ≤ 8) (yt0 : Dy mt0 1074 t0) (bt0 : mt0.natAbs ≤ 8) (yt1 : Dy mt1 1074 t1) (bt1 : mt1.natAbs ≤ 8) (yt2 : Dy mt2 1074 t2) (bt2 : mt2.natAbs ≤ 8) (yt5 : Dy mt5 1074 t5) (bt5 : mt5.natAbs ≤ 8) (yt6 : Dy mt6 1074 t6) (bt6 : mt6.natAbs ≤ 8) (yt10 : Dy mt10 1074 t10) (bt10 : mt10.natAbs ≤ 8) (he0 : mt0 * e0 = 8) (hz0 : mt0 ≠ 0) (be0 : e0.natAbs ≤ 8) (he5 : mt5 * e5 = 8) (hz5 : mt5 ≠ 0) (be5 : e5.natAbs ≤ 8) (he10 : mt10 * e10 = 8) (hz10 : mt10 ≠ 0) (be10 : e10.natAbs ≤ 8) :
    Con l Z n0 (⟨"com/example/orthogon/orthogon/Triangular", "solveUpperTransposed", "([DII[DI)V"⟩ : MethodName) prog_16_method_4_code 14 none ws ({ frames := 0, cells := 0, slots := 0, locals := 0 } : Room) #[(.ref ta), (.int (4 : Int32)), (.int (0 : Int32)), (.ref ca), (.int (1 : Int32))] h0 (fun v h => v = none ∧ Keep h0 h [ca] ∧ ∃ xs, AD Z h ca xs ∧ xs.length = 12 ∧ ChkAll [t0, t1, t2, t3, t4, t5, t6, t7, t8, t9, t10, t11, t12, t13, t14, t15] xs [c0, c1, c2, c3, c4, c5, c6, c7, c8, c9, c10, c11] (0 : Int32) (1 : Int32)) := by
  refine con_start (plainFor_of_name (by first | (simp [plainName, overriddenIn]; done) | decide +kernel)) (fr0 := fun m => mkF m 0 #[.val (.ref ta), .val (.int (4 : Int32)), .val (.int (0 : Int32)), .val (.ref ca), .val (.int (1 : Int32)), .unset, .unset, .unset, .unset, .unset, .unset, .unset, .unset, .unset] []) (fun m => by first | (simp [entryFrame, mkF, argsToLocals, Value.category]; done) | rfl) ?_
  intro p e s m below meth c T0 hx hZ hby hml hown hnm hret hlk X0
  replace hown : s.vm.findClass "com/example/orthogon/orthogon/Triangular" = some m.cls := hown
  replace hml : c.maxLocals = 14 := hml
  refine g_iconst X0 hx (pc' := 1) (z := (0 : Int32)) rfl (hb hby d5_0) rfl ?_
  refine g_istore X0 hx (pc' := 3) rfl (hb hby d5_1) (l' := #[.val (.ref ta), .val (.int (4 : Int32)), .val (.int (0 : Int32)), .val (.ref ca), .val (.int (1 : Int32)), .val (.int (0 : Int32)), .unset, .unset, .unset, .unset, .unset, .unset, .unset, .unset]) rfl ?_
  refine g_iload X0 hx (pc' := 5) rfl (hb hby d5_3) rfl ?_
  refine g_iloadN X0 hx (pc' := 6) rfl (hb hby d5_5) rfl ?_
  refine g_icmpY X0 hx (pcY := 133) (hb hby d5_6) (by decide) (by decide) (show ¬ (0 : Int32) < (0 : Int32) from by decide) ?_
  exact g_retV X0 hx hlk hret (hb hby d5_133) (by decide) (by decide) (⟨rfl, (Keep.refl h0 [ca]), _, Ac, rfl, own_all12 (Chk.a (by decide) (own_dyeq yc0 yc0 rfl)) (Chk.a (by decide) (own_dyeq yc1 yc1 rfl)) (Chk.a (by decide) (own_dyeq yc2 yc2 rfl)) (Chk.a (by decide) (own_dyeq yc3 yc3 rfl)) (Chk.a (by decide) (own_dyeq yc4 yc4 rfl)) (Chk.a (by decide) (own_dyeq yc5 yc5 rfl)) (Chk.a (by decide) (own_dyeq yc6 yc6 rfl)) (Chk.a (by decide) (own_dyeq yc7 yc7 rfl)) (Chk.a (by decide) (own_dyeq yc8 yc8 rfl)) (Chk.a (by decide) (own_dyeq yc9 yc9 rfl)) (Chk.a (by decide) (own_dyeq yc10 yc10 rfl)) (Chk.a (by decide) (own_dyeq yc11 yc11 rfl))⟩)
set_option maxRecDepth 65536 in
set_option maxHeartbeats 40000000 in
theorem rm5_0_2 (l : Launch) (Z : State) (a0 : Array Value) (hw : ∀ d ∈ tables_1, d.before a0 Z = true) (ws : List Jvm.Cond) (n0 : Nat) (ta ca : Addr) (t0 : UInt64) (t1 : UInt64) (t2 : UInt64) (t3 : UInt64) (t4 : UInt64) (t5 : UInt64) (t6 : UInt64) (t7 : UInt64) (t8 : UInt64) (t9 : UInt64) (t10 : UInt64) (t11 : UInt64) (t12 : UInt64) (t13 : UInt64) (t14 : UInt64) (t15 : UInt64) (mt0 : Int) (mt1 : Int) (mt2 : Int) (mt5 : Int) (mt6 : Int) (mt10 : Int) (e0 : Int) (e5 : Int) (e10 : Int) (c0 : UInt64) (mc0 : Int) (c1 : UInt64) (mc1 : Int) (c2 : UInt64) (mc2 : Int) (c3 : UInt64) (mc3 : Int) (c4 : UInt64) (mc4 : Int) (c5 : UInt64) (mc5 : Int) (c6 : UInt64) (mc6 : Int) (c7 : UInt64) (mc7 : Int) (c8 : UInt64) (mc8 : Int) (c9 : UInt64) (mc9 : Int) (c10 : UInt64) (mc10 : Int) (c11 : UInt64) (mc11 : Int) (h0 : Heap) (hn0 : n0 ≤ h0.size) (At : AD Z h0 ta [t0, t1, t2, t3, t4, t5, t6, t7, t8, t9, t10, t11, t12, t13, t14, t15]) (Ac : AD Z h0 ca [c0, c1, c2, c3, c4, c5, c6, c7, c8, c9, c10, c11]) (hne : ta ≠ ca) (hg : n0 ≤ ca) (yc0 : Dy mc0 1074 c0) (bc0 : mc0.natAbs ≤ 8) (yc1 : Dy mc1 1074 c1) (bc1 : mc1.natAbs ≤ 8) (yc2 : Dy mc2 1074 c2) (bc2 : mc2.natAbs ≤ 8) (yc3 : Dy mc3 1074 c3) (bc3 : mc3.natAbs ≤ 8) (yc4 : Dy mc4 1074 c4) (bc4 : mc4.natAbs ≤ 8) (yc5 : Dy mc5 1074 c5) (bc5 : mc5.natAbs ≤ 8) (yc6 : Dy mc6 1074 c6) (bc6 : mc6.natAbs ≤ 8) (yc7 : Dy mc7 1074 c7) (bc7 : mc7.natAbs ≤ 8) (yc8 : Dy mc8 1074 c8) (bc8 : mc8.natAbs ≤ 8) (yc9 : Dy mc9 1074 c9) (bc9 : mc9.natAbs ≤ 8) (yc10 : Dy mc10 1074 c10) (bc10 : mc10.natAbs ≤ 8) (yc11 : Dy mc11 1074 c11) (bc11 : mc11.natAbs ≤ 8) (yt0 : Dy mt0 1074 t0) (bt0 : mt0.natAbs ≤ 8) (yt1 : Dy mt1 1074 t1) (bt1 : mt1.natAbs ≤ 8) (yt2 : Dy mt2 1074 t2) (bt2 : mt2.natAbs ≤ 8) (yt5 : Dy mt5 1074 t5) (bt5 : mt5.natAbs ≤ 8) (yt6 : Dy mt6 1074 t6) (bt6 : mt6.natAbs ≤ 8) (yt10 : Dy mt10 1074 t10) (bt10 : mt10.natAbs ≤ 8) (he0 : mt0 * e0 = 8) (hz0 : mt0 ≠ 0) (be0 : e0.natAbs ≤ 8) (he5 : mt5 * e5 = 8) (hz5 : mt5 ≠ 0) (be5 : e5.natAbs ≤ 8) (he10 : mt10 * e10 = 8) (hz10 : mt10 ≠ 0) (be10 : e10.natAbs ≤ 8) :
    Con l Z n0 (⟨"com/example/orthogon/orthogon/Triangular", "solveUpperTransposed", "([DII[DI)V"⟩ : MethodName) prog_16_method_4_code 14 none ws ({ frames := 0, cells := 0, slots := 0, locals := 0 } : Room) #[(.ref ta), (.int (4 : Int32)), (.int (0 : Int32)), (.ref ca), (.int (2 : Int32))] h0 (fun v h => v = none ∧ Keep h0 h [ca] ∧ ∃ xs, AD Z h ca xs ∧ xs.length = 12 ∧ ChkAll [t0, t1, t2, t3, t4, t5, t6, t7, t8, t9, t10, t11, t12, t13, t14, t15] xs [c0, c1, c2, c3, c4, c5, c6, c7, c8, c9, c10, c11] (0 : Int32) (2 : Int32)) := by
  refine con_start (plainFor_of_name (by first | (simp [plainName, overriddenIn]; done) | decide +kernel)) (fr0 := fun m => mkF m 0 #[.val (.ref ta), .val (.int (4 : Int32)), .val (.int (0 : Int32)), .val (.ref ca), .val (.int (2 : Int32)), .unset, .unset, .unset, .unset, .unset, .unset, .unset, .unset, .unset] []) (fun m => by first | (simp [entryFrame, mkF, argsToLocals, Value.category]; done) | rfl) ?_
  intro p e s m below meth c T0 hx hZ hby hml hown hnm hret hlk X0
  replace hown : s.vm.findClass "com/example/orthogon/orthogon/Triangular" = some m.cls := hown
  replace hml : c.maxLocals = 14 := hml
  refine g_iconst X0 hx (pc' := 1) (z := (0 : Int32)) rfl (hb hby d5_0) rfl ?_
  refine g_istore X0 hx (pc' := 3) rfl (hb hby d5_1) (l' := #[.val (.ref ta), .val (.int (4 : Int32)), .val (.int (0 : Int32)), .val (.ref ca), .val (.int (2 : Int32)), .val (.int (0 : Int32)), .unset, .unset, .unset, .unset, .unset, .unset, .unset, .unset]) rfl ?_
  refine g_iload X0 hx (pc' := 5) rfl (hb hby d5_3) rfl ?_
  refine g_iloadN X0 hx (pc' := 6) rfl (hb hby d5_5) rfl ?_
  refine g_icmpY X0 hx (pcY := 133) (hb hby d5_6) (by decide) (by decide) (show ¬ (0 : Int32) < (0 : Int32) from by decide) ?_
  exact g_retV X0 hx hlk hret (hb hby d5_133) (by decide) (by decide) (⟨rfl, (Keep.refl h0 [ca]), _, Ac, rfl, own_all12 (Chk.a (by decide) (own_dyeq yc0 yc0 rfl)) (Chk.a (by decide) (own_dyeq yc1 yc1 rfl)) (Chk.a (by decide) (own_dyeq yc2 yc2 rfl)) (Chk.a (by decide) (own_dyeq yc3 yc3 rfl)) (Chk.a (by decide) (own_dyeq yc4 yc4 rfl)) (Chk.a (by decide) (own_dyeq yc5 yc5 rfl)) (Chk.a (by decide) (own_dyeq yc6 yc6 rfl)) (Chk.a (by decide) (own_dyeq yc7 yc7 rfl)) (Chk.a (by decide) (own_dyeq yc8 yc8 rfl)) (Chk.a (by decide) (own_dyeq yc9 yc9 rfl)) (Chk.a (by decide) (own_dyeq yc10 yc10 rfl)) (Chk.a (by decide) (own_dyeq yc11 yc11 rfl))⟩)
set_option maxRecDepth 65536 in
set_option maxHeartbeats 40000000 in
theorem rm5_0_3 (l : Launch) (Z : State) (a0 : Array Value) (hw : ∀ d ∈ tables_1, d.before a0 Z = true) (ws : List Jvm.Cond) (n0 : Nat) (ta ca : Addr) (t0 : UInt64) (t1 : UInt64) (t2 : UInt64) (t3 : UInt64) (t4 : UInt64) (t5 : UInt64) (t6 : UInt64) (t7 : UInt64) (t8 : UInt64) (t9 : UInt64) (t10 : UInt64) (t11 : UInt64) (t12 : UInt64) (t13 : UInt64) (t14 : UInt64) (t15 : UInt64) (mt0 : Int) (mt1 : Int) (mt2 : Int) (mt5 : Int) (mt6 : Int) (mt10 : Int) (e0 : Int) (e5 : Int) (e10 : Int) (c0 : UInt64) (mc0 : Int) (c1 : UInt64) (mc1 : Int) (c2 : UInt64) (mc2 : Int) (c3 : UInt64) (mc3 : Int) (c4 : UInt64) (mc4 : Int) (c5 : UInt64) (mc5 : Int) (c6 : UInt64) (mc6 : Int) (c7 : UInt64) (mc7 : Int) (c8 : UInt64) (mc8 : Int) (c9 : UInt64) (mc9 : Int) (c10 : UInt64) (mc10 : Int) (c11 : UInt64) (mc11 : Int) (h0 : Heap) (hn0 : n0 ≤ h0.size) (At : AD Z h0 ta [t0, t1, t2, t3, t4, t5, t6, t7, t8, t9, t10, t11, t12, t13, t14, t15]) (Ac : AD Z h0 ca [c0, c1, c2, c3, c4, c5, c6, c7, c8, c9, c10, c11]) (hne : ta ≠ ca) (hg : n0 ≤ ca) (yc0 : Dy mc0 1074 c0) (bc0 : mc0.natAbs ≤ 8) (yc1 : Dy mc1 1074 c1) (bc1 : mc1.natAbs ≤ 8) (yc2 : Dy mc2 1074 c2) (bc2 : mc2.natAbs ≤ 8) (yc3 : Dy mc3 1074 c3) (bc3 : mc3.natAbs ≤ 8) (yc4 : Dy mc4 1074 c4) (bc4 : mc4.natAbs ≤ 8) (yc5 : Dy mc5 1074 c5) (bc5 : mc5.natAbs ≤ 8) (yc6 : Dy mc6 1074 c6) (bc6 : mc6.natAbs ≤ 8) (yc7 : Dy mc7 1074 c7) (bc7 : mc7.natAbs ≤ 8) (yc8 : Dy mc8 1074 c8) (bc8 : mc8.natAbs ≤ 8) (yc9 : Dy mc9 1074 c9) (bc9 : mc9.natAbs ≤ 8) (yc10 : Dy mc10 1074 c10) (bc10 : mc10.natAbs ≤ 8) (yc11 : Dy mc11 1074 c11) (bc11 : mc11.natAbs ≤ 8) (yt0 : Dy mt0 1074 t0) (bt0 : mt0.natAbs ≤ 8) (yt1 : Dy mt1 1074 t1) (bt1 : mt1.natAbs ≤ 8) (yt2 : Dy mt2 1074 t2) (bt2 : mt2.natAbs ≤ 8) (yt5 : Dy mt5 1074 t5) (bt5 : mt5.natAbs ≤ 8) (yt6 : Dy mt6 1074 t6) (bt6 : mt6.natAbs ≤ 8) (yt10 : Dy mt10 1074 t10) (bt10 : mt10.natAbs ≤ 8) (he0 : mt0 * e0 = 8) (hz0 : mt0 ≠ 0) (be0 : e0.natAbs ≤ 8) (he5 : mt5 * e5 = 8) (hz5 : mt5 ≠ 0) (be5 : e5.natAbs ≤ 8) (he10 : mt10 * e10 = 8) (hz10 : mt10 ≠ 0) (be10 : e10.natAbs ≤ 8) :
    Con l Z n0 (⟨"com/example/orthogon/orthogon/Triangular", "solveUpperTransposed", "([DII[DI)V"⟩ : MethodName) prog_16_method_4_code 14 none ws ({ frames := 0, cells := 0, slots := 0, locals := 0 } : Room) #[(.ref ta), (.int (4 : Int32)), (.int (0 : Int32)), (.ref ca), (.int (3 : Int32))] h0 (fun v h => v = none ∧ Keep h0 h [ca] ∧ ∃ xs, AD Z h ca xs ∧ xs.length = 12 ∧ ChkAll [t0, t1, t2, t3, t4, t5, t6, t7, t8, t9, t10, t11, t12, t13, t14, t15] xs [c0, c1, c2, c3, c4, c5, c6, c7, c8, c9, c10, c11] (0 : Int32) (3 : Int32)) := by
  refine con_start (plainFor_of_name (by first | (simp [plainName, overriddenIn]; done) | decide +kernel)) (fr0 := fun m => mkF m 0 #[.val (.ref ta), .val (.int (4 : Int32)), .val (.int (0 : Int32)), .val (.ref ca), .val (.int (3 : Int32)), .unset, .unset, .unset, .unset, .unset, .unset, .unset, .unset, .unset] []) (fun m => by first | (simp [entryFrame, mkF, argsToLocals, Value.category]; done) | rfl) ?_
  intro p e s m below meth c T0 hx hZ hby hml hown hnm hret hlk X0
  replace hown : s.vm.findClass "com/example/orthogon/orthogon/Triangular" = some m.cls := hown
  replace hml : c.maxLocals = 14 := hml
  refine g_iconst X0 hx (pc' := 1) (z := (0 : Int32)) rfl (hb hby d5_0) rfl ?_
  refine g_istore X0 hx (pc' := 3) rfl (hb hby d5_1) (l' := #[.val (.ref ta), .val (.int (4 : Int32)), .val (.int (0 : Int32)), .val (.ref ca), .val (.int (3 : Int32)), .val (.int (0 : Int32)), .unset, .unset, .unset, .unset, .unset, .unset, .unset, .unset]) rfl ?_
  refine g_iload X0 hx (pc' := 5) rfl (hb hby d5_3) rfl ?_
  refine g_iloadN X0 hx (pc' := 6) rfl (hb hby d5_5) rfl ?_
  refine g_icmpY X0 hx (pcY := 133) (hb hby d5_6) (by decide) (by decide) (show ¬ (0 : Int32) < (0 : Int32) from by decide) ?_
  exact g_retV X0 hx hlk hret (hb hby d5_133) (by decide) (by decide) (⟨rfl, (Keep.refl h0 [ca]), _, Ac, rfl, own_all12 (Chk.a (by decide) (own_dyeq yc0 yc0 rfl)) (Chk.a (by decide) (own_dyeq yc1 yc1 rfl)) (Chk.a (by decide) (own_dyeq yc2 yc2 rfl)) (Chk.a (by decide) (own_dyeq yc3 yc3 rfl)) (Chk.a (by decide) (own_dyeq yc4 yc4 rfl)) (Chk.a (by decide) (own_dyeq yc5 yc5 rfl)) (Chk.a (by decide) (own_dyeq yc6 yc6 rfl)) (Chk.a (by decide) (own_dyeq yc7 yc7 rfl)) (Chk.a (by decide) (own_dyeq yc8 yc8 rfl)) (Chk.a (by decide) (own_dyeq yc9 yc9 rfl)) (Chk.a (by decide) (own_dyeq yc10 yc10 rfl)) (Chk.a (by decide) (own_dyeq yc11 yc11 rfl))⟩)
set_option maxRecDepth 65536 in
set_option maxHeartbeats 40000000 in
theorem rm5_1_1 (l : Launch) (Z : State) (a0 : Array Value) (hw : ∀ d ∈ tables_1, d.before a0 Z = true) (ws : List Jvm.Cond) (n0 : Nat) (ta ca : Addr) (t0 : UInt64) (t1 : UInt64) (t2 : UInt64) (t3 : UInt64) (t4 : UInt64) (t5 : UInt64) (t6 : UInt64) (t7 : UInt64) (t8 : UInt64) (t9 : UInt64) (t10 : UInt64) (t11 : UInt64) (t12 : UInt64) (t13 : UInt64) (t14 : UInt64) (t15 : UInt64) (mt0 : Int) (mt1 : Int) (mt2 : Int) (mt5 : Int) (mt6 : Int) (mt10 : Int) (e0 : Int) (e5 : Int) (e10 : Int) (c0 : UInt64) (mc0 : Int) (c1 : UInt64) (mc1 : Int) (c2 : UInt64) (mc2 : Int) (c3 : UInt64) (mc3 : Int) (c4 : UInt64) (mc4 : Int) (c5 : UInt64) (mc5 : Int) (c6 : UInt64) (mc6 : Int) (c7 : UInt64) (mc7 : Int) (c8 : UInt64) (mc8 : Int) (c9 : UInt64) (mc9 : Int) (c10 : UInt64) (mc10 : Int) (c11 : UInt64) (mc11 : Int) (h0 : Heap) (hn0 : n0 ≤ h0.size) (At : AD Z h0 ta [t0, t1, t2, t3, t4, t5, t6, t7, t8, t9, t10, t11, t12, t13, t14, t15]) (Ac : AD Z h0 ca [c0, c1, c2, c3, c4, c5, c6, c7, c8, c9, c10, c11]) (hne : ta ≠ ca) (hg : n0 ≤ ca) (yc0 : Dy mc0 1074 c0) (bc0 : mc0.natAbs ≤ 8) (yc1 : Dy mc1 1074 c1) (bc1 : mc1.natAbs ≤ 8) (yc2 : Dy mc2 1074 c2) (bc2 : mc2.natAbs ≤ 8) (yc3 : Dy mc3 1074 c3) (bc3 : mc3.natAbs ≤ 8) (yc4 : Dy mc4 1074 c4) (bc4 : mc4.natAbs ≤ 8) (yc5 : Dy mc5 1074 c5) (bc5 : mc5.natAbs ≤ 8) (yc6 : Dy mc6 1074 c6) (bc6 : mc6.natAbs ≤ 8) (yc7 : Dy mc7 1074 c7) (bc7 : mc7.natAbs ≤ 8) (yc8 : Dy mc8 1074 c8) (bc8 : mc8.natAbs ≤ 8) (yc9 : Dy mc9 1074 c9) (bc9 : mc9.natAbs ≤ 8) (yc10 : Dy mc10 1074 c10) (bc10 : mc10.natAbs ≤ 8) (yc11 : Dy mc11 1074 c11) (bc11 : mc11.natAbs ≤ 8) (yt0 : Dy mt0 1074 t0) (bt0 : mt0.natAbs ≤ 8) (yt1 : Dy mt1 1074 t1) (bt1 : mt1.natAbs ≤ 8) (yt2 : Dy mt2 1074 t2) (bt2 : mt2.natAbs ≤ 8) (yt5 : Dy mt5 1074 t5) (bt5 : mt5.natAbs ≤ 8) (yt6 : Dy mt6 1074 t6) (bt6 : mt6.natAbs ≤ 8) (yt10 : Dy mt10 1074 t10) (bt10 : mt10.natAbs ≤ 8) (he0 : mt0 * e0 = 8) (hz0 : mt0 ≠ 0) (be0 : e0.natAbs ≤ 8) (he5 : mt5 * e5 = 8) (hz5 : mt5 ≠ 0) (be5 : e5.natAbs ≤ 8) (he10 : mt10 * e10 = 8) (hz10 : mt10 ≠ 0) (be10 : e10.natAbs ≤ 8) :
    Con l Z n0 (⟨"com/example/orthogon/orthogon/Triangular", "solveUpperTransposed", "([DII[DI)V"⟩ : MethodName) prog_16_method_4_code 14 none ws ({ frames := 0, cells := 0, slots := 0, locals := 0 } : Room) #[(.ref ta), (.int (4 : Int32)), (.int (1 : Int32)), (.ref ca), (.int (1 : Int32))] h0 (fun v h => v = none ∧ Keep h0 h [ca] ∧ ∃ xs, AD Z h ca xs ∧ xs.length = 12 ∧ ChkAll [t0, t1, t2, t3, t4, t5, t6, t7, t8, t9, t10, t11, t12, t13, t14, t15] xs [c0, c1, c2, c3, c4, c5, c6, c7, c8, c9, c10, c11] (1 : Int32) (1 : Int32)) := by
  refine con_start (plainFor_of_name (by first | (simp [plainName, overriddenIn]; done) | decide +kernel)) (fr0 := fun m => mkF m 0 #[.val (.ref ta), .val (.int (4 : Int32)), .val (.int (1 : Int32)), .val (.ref ca), .val (.int (1 : Int32)), .unset, .unset, .unset, .unset, .unset, .unset, .unset, .unset, .unset] []) (fun m => by first | (simp [entryFrame, mkF, argsToLocals, Value.category]; done) | rfl) ?_
  intro p e s m below meth c T0 hx hZ hby hml hown hnm hret hlk X0
  replace hown : s.vm.findClass "com/example/orthogon/orthogon/Triangular" = some m.cls := hown
  replace hml : c.maxLocals = 14 := hml
  refine g_iconst X0 hx (pc' := 1) (z := (0 : Int32)) rfl (hb hby d5_0) rfl ?_
  refine g_istore X0 hx (pc' := 3) rfl (hb hby d5_1) (l' := #[.val (.ref ta), .val (.int (4 : Int32)), .val (.int (1 : Int32)), .val (.ref ca), .val (.int (1 : Int32)), .val (.int (0 : Int32)), .unset, .unset, .unset, .unset, .unset, .unset, .unset, .unset]) rfl ?_
  refine g_iload X0 hx (pc' := 5) rfl (hb hby d5_3) rfl ?_
  refine g_iloadN X0 hx (pc' := 6) rfl (hb hby d5_5) rfl ?_
  refine g_icmpN X0 hx (pcN := 9) (hb hby d5_6) rfl (show ¬ (¬ (0 : Int32) < (1 : Int32)) from by decide) ?_
  refine g_iload X0 hx (pc' := 11) rfl (hb hby d5_9) rfl ?_
  refine g_iload X0 hx (pc' := 13) rfl (hb hby d5_11) rfl ?_
  refine g_imul X0 hx (pc' := 14) rfl (hb hby d5_13) ?_
  refine g_normI (z := (0 : Int32)) (by decide) ?_
  refine g_istore X0 hx (pc' := 16) rfl (hb hby d5_14) (l' := #[.val (.ref ta), .val (.int (4 : Int32)), .val (.int (1 : Int32)), .val (.ref ca), .val (.int (1 : Int32)), .val (.int (0 : Int32)), .val (.int (0 : Int32)), .unset, .unset, .unset, .unset, .unset, .unset, .unset]) rfl ?_
  refine g_aloadN X0 hx (pc' := 17) rfl (hb hby d5_16) rfl rfl ?_
  refine g_iload X0 hx (pc' := 19) rfl (hb hby d5_17) rfl ?_
  refine g_iloadN X0 hx (pc' := 20) rfl (hb hby d5_19) rfl ?_
  refine g_imul X0 hx (pc' := 21) rfl (hb hby d5_20) ?_
  refine g_normI (z := (0 : Int32)) (by decide) ?_
  refine g_iload X0 hx (pc' := 23) rfl (hb hby d5_21) rfl ?_
  refine g_iadd X0 hx (pc' := 24) rfl (hb hby d5_23) ?_
  refine g_normI (z := (0 : Int32)) (by decide) ?_
  refine g_daload X0 hx hZ At (i := 0) (by decide) (show (0 : Nat) < 16 by decide) (v := t0) rfl (pc' := 25) rfl (hb hby d5_24) ?_
  refine g_dstore X0 hx (pc' := 27) rfl (hb hby d5_25) (l' := #[.val (.ref ta), .val (.int (4 : Int32)), .val (.int (1 : Int32)), .val (.ref ca), .val (.int (1 : Int32)), .val (.int (0 : Int32)), .val (.int (0 : Int32)), .val (.double t0), .second, .unset, .unset, .unset, .unset, .unset]) rfl ?_
  refine g_iconst X0 hx (pc' := 28) (z := (0 : Int32)) rfl (hb hby d5_27) rfl ?_
  refine g_istore X0 hx (pc' := 30) rfl (hb hby d5_28) (l' := #[.val (.ref ta), .val (.int (4 : Int32)), .val (.int (1 : Int32)), .val (.ref ca), .val (.int (1 : Int32)), .val (.int (0 : Int32)), .val (.int (0 : Int32)), .val (.double t0), .second, .val (.int (0 : Int32)), .unset, .unset, .unset, .unset]) rfl ?_
  refine g_iload X0 hx (pc' := 32) rfl (hb hby d5_30) rfl ?_
  refine g_iload X0 hx (pc' := 34) rfl (hb hby d5_32) rfl ?_
  refine g_icmpN X0 hx (pcN := 37) (hb hby d5_34) rfl (show ¬ (¬ (0 : Int32) < (1 : Int32)) from by decide) ?_
  refine g_aloadN X0 hx (pc' := 38) rfl (hb hby d5_37) rfl rfl ?_
  refine g_iload X0 hx (pc' := 40) rfl (hb hby d5_38) rfl ?_
  refine g_iload X0 hx (pc' := 42) rfl (hb hby d5_40) rfl ?_
  refine g_iadd X0 hx (pc' := 43) rfl (hb hby d5_42) ?_
  refine g_normI (z := (0 : Int32)) (by decide) ?_
  refine g_dup2 X0 hx (pc' := 44) rfl (hb hby d5_43) rfl rfl ?_
  refine g_daload X0 hx hZ Ac (i := 0) (by decide) (show (0 : Nat) < 12 by decide) (v := c0) rfl (pc' := 45) rfl (hb hby d5_44) ?_
  refine g_dload X0 hx (pc' := 47) rfl (hb hby d5_45) rfl ?_
  have q117 : Dy (mc0 * e0) 1071 (FP.ddiv c0 t0) := dy_div (dy_shift 3 (j := 1071) yc0) yt0 hz0 (own_divq he0) rfl (own_mb bc0 be0 (by decide)) (by decide)
  refine g_ddiv X0 hx (pc' := 48) (z := (FP.ddiv c0 t0)) rfl (hb hby d5_47) (dy_noNaN q117) rfl ?_
  refine g_absD (fun d117 hd117 => ?_)
  rw [← hd117] at q117
  obtain ⟨n117, en117⟩ : ∃ z : Int, z = mc0 * e0 := ⟨_, rfl⟩
  rw [← en117] at q117
  have b117 : n117.natAbs ≤ 64 := by rw [en117, Int.natAbs_mul]; exact Nat.le_trans (Nat.mul_le_mul bc0 be0) (by decide)
  refine g_dastore X0 hx hZ Ac (i := 0) (by decide) (show (0 : Nat) < 12 by decide) hg (pc' := 49) rfl (hb hby d5_48) (fun T118 h118 X118 W118 N118 => ?_)
  have f119 := At.other W118 hne
  have f120 := (by have q := (Keep.of_wr W118).1; exact Nat.le_trans hn0 q : n0 ≤ h118.size)
  have f121 := (Keep.refl h0 [ca]).wr W118 (Or.inl (List.mem_of_getElem? (i := 0) rfl))
  have V118 : AD Z h118 ca [d117, c1, c2, c3, c4, c5, c6, c7, c8, c9, c10, c11] := N118
  refine g_iincC X118 hx (pc' := 52) (x := (0 : Int32)) (z := (1 : Int32)) rfl (hb hby d5_49) rfl (by decide) (l' := #[.val (.ref ta), .val (.int (4 : Int32)), .val (.int (1 : Int32)), .val (.ref ca), .val (.int (1 : Int32)), .val (.int (0 : Int32)), .val (.int (0 : Int32)), .val (.double t0), .second, .val (.int (1 : Int32)), .unset, .unset, .unset, .unset]) rfl ?_
  refine g_goto X118 hx (pc' := 30) (hb hby d5_52) (by decide) (by decide) ?_
  refine g_iload X118 hx (pc' := 32) rfl (hb hby d5_30) rfl ?_
  refine g_iload X118 hx (pc' := 34) rfl (hb hby d5_32) rfl ?_
  refine g_icmpY X118 hx (pcY := 55) (hb hby d5_34) (by decide) (by decide) (show ¬ (1 : Int32) < (1 : Int32) from by decide) ?_
  refine g_iload X118 hx (pc' := 57) rfl (hb hby d5_55) rfl ?_
  refine g_iconst X118 hx (pc' := 58) (z := (1 : Int32)) rfl (hb hby d5_57) rfl ?_
  refine g_iadd X118 hx (pc' := 59) rfl (hb hby d5_58) ?_
  refine g_normI (z := (1 : Int32)) (by decide) ?_
  refine g_istore X118 hx (pc' := 61) rfl (hb hby d5_59) (l' := #[.val (.ref ta), .val (.int (4 : Int32)), .val (.int (1 : Int32)), .val (.ref ca), .val (.int (1 : Int32)), .val (.int (0 : Int32)), .val (.int (0 : Int32)), .val (.double t0), .second, .val (.int (1 : Int32)), .unset, .unset, .unset, .unset]) rfl ?_
  refine g_iload X118 hx (pc' := 63) rfl (hb hby d5_61) rfl ?_
  refine g_iloadN X118 hx (pc' := 64) rfl (hb hby d5_63) rfl ?_
  refine g_icmpY X118 hx (pcY := 127) (hb hby d5_64) (by decide) (by decide) (show ¬ (1 : Int32) < (1 : Int32) from by decide) ?_
  refine g_iincC X118 hx (pc' := 130) (x := (0 : Int32)) (z := (1 : Int32)) rfl (hb hby d5_127) rfl (by decide) (l' := #[.val (.ref ta), .val (.int (4 : Int32)), .val (.int (1 : Int32)), .val (.ref ca), .val (.int (1 : Int32)), .val (.int (1 : Int32)), .val (.int (0 : Int32)), .val (.double t0), .second, .val (.int (1 : Int32)), .unset, .unset, .unset, .unset]) rfl ?_
  refine g_goto X118 hx (pc' := 3) (hb hby d5_130) (by decide) (by decide) ?_
  refine g_iload X118 hx (pc' := 5) rfl (hb hby d5_3) rfl ?_
  refine g_iloadN X118 hx (pc' := 6) rfl (hb hby d5_5) rfl ?_
  refine g_icmpY X118 hx (pcY := 133) (hb hby d5_6) (by decide) (by decide) (show ¬ (1 : Int32) < (1 : Int32) from by decide) ?_
  exact g_retV X118 hx hlk hret (hb hby d5_133) (by decide) (by decide) (⟨rfl, f121, _, V118, rfl, own_all12 (Chk.b0 (by decide) (by decide) (own_S0 yt0 q117 yc0 bt0 b117 (by rw [en117]; exact own_f0 he0))) (Chk.a (by decide) (own_dyeq yc1 yc1 rfl)) (Chk.a (by decide) (own_dyeq yc2 yc2 rfl)) (Chk.a (by decide) (own_dyeq yc3 yc3 rfl)) (Chk.a (by decide) (own_dyeq yc4 yc4 rfl)) (Chk.a (by decide) (own_dyeq yc5 yc5 rfl)) (Chk.a (by decide) (own_dyeq yc6 yc6 rfl)) (Chk.a (by decide) (own_dyeq yc7 yc7 rfl)) (Chk.a (by decide) (own_dyeq yc8 yc8 rfl)) (Chk.a (by decide) (own_dyeq yc9 yc9 rfl)) (Chk.a (by decide) (own_dyeq yc10 yc10 rfl)) (Chk.a (by decide) (own_dyeq yc11 yc11 rfl))⟩)
set_option maxRecDepth 65536 in
set_option maxHeartbeats 40000000 in
theorem rm5_1_2 (l : Launch) (Z : State) (a0 : Array Value) (hw : ∀ d ∈ tables_1, d.before a0 Z = true) (ws : List Jvm.Cond) (n0 : Nat) (ta ca : Addr) (t0 : UInt64) (t1 : UInt64) (t2 : UInt64) (t3 : UInt64) (t4 : UInt64) (t5 : UInt64) (t6 : UInt64) (t7 : UInt64) (t8 : UInt64) (t9 : UInt64) (t10 : UInt64) (t11 : UInt64) (t12 : UInt64) (t13 : UInt64) (t14 : UInt64) (t15 : UInt64) (mt0 : Int) (mt1 : Int) (mt2 : Int) (mt5 : Int) (mt6 : Int) (mt10 : Int) (e0 : Int) (e5 : Int) (e10 : Int) (c0 : UInt64) (mc0 : Int) (c1 : UInt64) (mc1 : Int) (c2 : UInt64) (mc2 : Int) (c3 : UInt64) (mc3 : Int) (c4 : UInt64) (mc4 : Int) (c5 : UInt64) (mc5 : Int) (c6 : UInt64) (mc6 : Int) (c7 : UInt64) (mc7 : Int) (c8 : UInt64) (mc8 : Int) (c9 : UInt64) (mc9 : Int) (c10 : UInt64) (mc10 : Int) (c11 : UInt64) (mc11 : Int) (h0 : Heap) (hn0 : n0 ≤ h0.size) (At : AD Z h0 ta [t0, t1, t2, t3, t4, t5, t6, t7, t8, t9, t10, t11, t12, t13, t14, t15]) (Ac : AD Z h0 ca [c0, c1, c2, c3, c4, c5, c6, c7, c8, c9, c10, c11]) (hne : ta ≠ ca) (hg : n0 ≤ ca) (yc0 : Dy mc0 1074 c0) (bc0 : mc0.natAbs ≤ 8) (yc1 : Dy mc1 1074 c1) (bc1 : mc1.natAbs ≤ 8) (yc2 : Dy mc2 1074 c2) (bc2 : mc2.natAbs ≤ 8) (yc3 : Dy mc3 1074 c3) (bc3 : mc3.natAbs ≤ 8) (yc4 : Dy mc4 1074 c4) (bc4 : mc4.natAbs ≤ 8) (yc5 : Dy mc5 1074 c5) (bc5 : mc5.natAbs ≤ 8) (yc6 : Dy mc6 1074 c6) (bc6 : mc6.natAbs ≤ 8) (yc7 : Dy mc7 1074 c7) (bc7 : mc7.natAbs ≤ 8) (yc8 : Dy mc8 1074 c8) (bc8 : mc8.natAbs ≤ 8) (yc9 : Dy mc9 1074 c9) (bc9 : mc9.natAbs ≤ 8) (yc10 : Dy mc10 1074 c10) (bc10 : mc10.natAbs ≤ 8) (yc11 : Dy mc11 1074 c11) (bc11 : mc11.natAbs ≤ 8) (yt0 : Dy mt0 1074 t0) (bt0 : mt0.natAbs ≤ 8) (yt1 : Dy mt1 1074 t1) (bt1 : mt1.natAbs ≤ 8) (yt2 : Dy mt2 1074 t2) (bt2 : mt2.natAbs ≤ 8) (yt5 : Dy mt5 1074 t5) (bt5 : mt5.natAbs ≤ 8) (yt6 : Dy mt6 1074 t6) (bt6 : mt6.natAbs ≤ 8) (yt10 : Dy mt10 1074 t10) (bt10 : mt10.natAbs ≤ 8) (he0 : mt0 * e0 = 8) (hz0 : mt0 ≠ 0) (be0 : e0.natAbs ≤ 8) (he5 : mt5 * e5 = 8) (hz5 : mt5 ≠ 0) (be5 : e5.natAbs ≤ 8) (he10 : mt10 * e10 = 8) (hz10 : mt10 ≠ 0) (be10 : e10.natAbs ≤ 8) :
    Con l Z n0 (⟨"com/example/orthogon/orthogon/Triangular", "solveUpperTransposed", "([DII[DI)V"⟩ : MethodName) prog_16_method_4_code 14 none ws ({ frames := 0, cells := 0, slots := 0, locals := 0 } : Room) #[(.ref ta), (.int (4 : Int32)), (.int (1 : Int32)), (.ref ca), (.int (2 : Int32))] h0 (fun v h => v = none ∧ Keep h0 h [ca] ∧ ∃ xs, AD Z h ca xs ∧ xs.length = 12 ∧ ChkAll [t0, t1, t2, t3, t4, t5, t6, t7, t8, t9, t10, t11, t12, t13, t14, t15] xs [c0, c1, c2, c3, c4, c5, c6, c7, c8, c9, c10, c11] (1 : Int32) (2 : Int32)) := by
  refine con_start (plainFor_of_name (by first | (simp [plainName, overriddenIn]; done) | decide +kernel)) (fr0 := fun m => mkF m 0 #[.val (.ref ta), .val (.int (4 : Int32)), .val (.int (1 : Int32)), .val (.ref ca), .val (.int (2 : Int32)), .unset, .unset, .unset, .unset, .unset, .unset, .unset, .unset, .unset] []) (fun m => by first | (simp [entryFrame, mkF, argsToLocals, Value.category]; done) | rfl) ?_
  intro p e s m below meth c T0 hx hZ hby hml hown hnm hret hlk X0
  replace hown : s.vm.findClass "com/example/orthogon/orthogon/Triangular" = some m.cls := hown
  replace hml : c.maxLocals = 14 := hml
  refine g_iconst X0 hx (pc' := 1) (z := (0 : Int32)) rfl (hb hby d5_0) rfl ?_
  refine g_istore X0 hx (pc' := 3) rfl (hb hby d5_1) (l' := #[.val (.ref ta), .val (.int (4 : Int32)), .val (.int (1 : Int32)), .val (.ref ca), .val (.int (2 : Int32)), .val (.int (0 : Int32)), .unset, .unset, .unset, .unset, .unset, .unset, .unset, .unset]) rfl ?_
  refine g_iload X0 hx (pc' := 5) rfl (hb hby d5_3) rfl ?_
  refine g_iloadN X0 hx (pc' := 6) rfl (hb hby d5_5) rfl ?_
  refine g_icmpN X0 hx (pcN := 9) (hb hby d5_6) rfl (show ¬ (¬ (0 : Int32) < (1 : Int32)) from by decide) ?_
  refine g_iload X0 hx (pc' := 11) rfl (hb hby d5_9) rfl ?_
  refine g_iload X0 hx (pc' := 13) rfl (hb hby d5_11) rfl ?_
  refine g_imul X0 hx (pc' := 14) rfl (hb hby d5_13) ?_
  refine g_normI (z := (0 : Int32)) (by decide) ?_
  refine g_istore X0 hx (pc' := 16) rfl (hb hby d5_14) (l' := #[.val (.ref ta), .val (.int (4 : Int32)), .val (.int (1 : Int32)), .val (.ref ca), .val (.int (2 : Int32)), .val (.int (0 : Int32)), .val (.int (0 : Int32)), .unset, .unset, .unset, .unset, .unset, .unset, .unset]) rfl ?_
  refine g_aloadN X0 hx (pc' := 17) rfl (hb hby d5_16) rfl rfl ?_
  refine g_iload X0 hx (pc' := 19) rfl (hb hby d5_17) rfl ?_
  refine g_iloadN X0 hx (pc' := 20) rfl (hb hby d5_19) rfl ?_
  refine g_imul X0 hx (pc' := 21) rfl (hb hby d5_20) ?_
  refine g_normI (z := (0 : Int32)) (by decide) ?_
  refine g_iload X0 hx (pc' := 23) rfl (hb hby d5_21) rfl ?_
  refine g_iadd X0 hx (pc' := 24) rfl (hb hby d5_23) ?_
  refine g_normI (z := (0 : Int32)) (by decide) ?_
  refine g_daload X0 hx hZ At (i := 0) (by decide) (show (0 : Nat) < 16 by decide) (v := t0) rfl (pc' := 25) rfl (hb hby d5_24) ?_
  refine g_dstore X0 hx (pc' := 27) rfl (hb hby d5_25) (l' := #[.val (.ref ta), .val (.int (4 : Int32)), .val (.int (1 : Int32)), .val (.ref ca), .val (.int (2 : Int32)), .val (.int (0 : Int32)), .val (.int (0 : Int32)), .val (.double t0), .second, .unset, .unset, .unset, .unset, .unset]) rfl ?_
  refine g_iconst X0 hx (pc' := 28) (z := (0 : Int32)) rfl (hb hby d5_27) rfl ?_
  refine g_istore X0 hx (pc' := 30) rfl (hb hby d5_28) (l' := #[.val (.ref ta), .val (.int (4 : Int32)), .val (.int (1 : Int32)), .val (.ref ca), .val (.int (2 : Int32)), .val (.int (0 : Int32)), .val (.int (0 : Int32)), .val (.double t0), .second, .val (.int (0 : Int32)), .unset, .unset, .unset, .unset]) rfl ?_
  refine g_iload X0 hx (pc' := 32) rfl (hb hby d5_30) rfl ?_
  refine g_iload X0 hx (pc' := 34) rfl (hb hby d5_32) rfl ?_
  refine g_icmpN X0 hx (pcN := 37) (hb hby d5_34) rfl (show ¬ (¬ (0 : Int32) < (2 : Int32)) from by decide) ?_
  refine g_aloadN X0 hx (pc' := 38) rfl (hb hby d5_37) rfl rfl ?_
  refine g_iload X0 hx (pc' := 40) rfl (hb hby d5_38) rfl ?_
  refine g_iload X0 hx (pc' := 42) rfl (hb hby d5_40) rfl ?_
  refine g_iadd X0 hx (pc' := 43) rfl (hb hby d5_42) ?_
  refine g_normI (z := (0 : Int32)) (by decide) ?_
  refine g_dup2 X0 hx (pc' := 44) rfl (hb hby d5_43) rfl rfl ?_
  refine g_daload X0 hx hZ Ac (i := 0) (by decide) (show (0 : Nat) < 12 by decide) (v := c0) rfl (pc' := 45) rfl (hb hby d5_44) ?_
  refine g_dload X0 hx (pc' := 47) rfl (hb hby d5_45) rfl ?_
  have q122 : Dy (mc0 * e0) 1071 (FP.ddiv c0 t0) := dy_div (dy_shift 3 (j := 1071) yc0) yt0 hz0 (own_divq he0) rfl (own_mb bc0 be0 (by decide)) (by decide)
  refine g_ddiv X0 hx (pc' := 48) (z := (FP.ddiv c0 t0)) rfl (hb hby d5_47) (dy_noNaN q122) rfl ?_
  refine g_absD (fun d122 hd122 => ?_)
  rw [← hd122] at q122
  obtain ⟨n122, en122⟩ : ∃ z : Int, z = mc0 * e0 := ⟨_, rfl⟩
  rw [← en122] at q122
  have b122 : n122.natAbs ≤ 64 := by rw [en122, Int.natAbs_mul]; exact Nat.le_trans (Nat.mul_le_mul bc0 be0) (by decide)
  refine g_dastore X0 hx hZ Ac (i := 0) (by decide) (show (0 : Nat) < 12 by decide) hg (pc' := 49) rfl (hb hby d5_48) (fun T123 h123 X123 W123 N123 => ?_)
  have f124 := At.other W123 hne
  have f125 := (by have q := (Keep.of_wr W123).1; exact Nat.le_trans hn0 q : n0 ≤ h123.size)
  have f126 := (Keep.refl h0 [ca]).wr W123 (Or.inl (List.mem_of_getElem? (i := 0) rfl))
  have V123 : AD Z h123 ca [d122, c1, c2, c3, c4, c5, c6, c7, c8, c9, c10, c11] := N123
  refine g_iincC X123 hx (pc' := 52) (x := (0 : Int32)) (z := (1 : Int32)) rfl (hb hby d5_49) rfl (by decide) (l' := #[.val (.ref ta), .val (.int (4 : Int32)), .val (.int (1 : Int32)), .val (.ref ca), .val (.int (2 : Int32)), .val (.int (0 : Int32)), .val (.int (0 : Int32)), .val (.double t0), .second, .val (.int (1 : Int32)), .unset, .unset, .unset, .unset]) rfl ?_
  refine g_goto X123 hx (pc' := 30) (hb hby d5_52) (by decide) (by decide) ?_
  refine g_iload X123 hx (pc' := 32) rfl (hb hby d5_30) rfl ?_
  refine g_iload X123 hx (pc' := 34) rfl (hb hby d5_32) rfl ?_
  refine g_icmpN X123 hx (pcN := 37) (hb hby d5_34) rfl (show ¬ (¬ (1 : Int32) < (2 : Int32)) from by decide) ?_
  refine g_aloadN X123 hx (pc' := 38) rfl (hb hby d5_37) rfl rfl ?_
  refine g_iload X123 hx (pc' := 40) rfl (hb hby d5_38) rfl ?_
  refine g_iload X123 hx (pc' := 42) rfl (hb hby d5_40) rfl ?_
  refine g_iadd X123 hx (pc' := 43) rfl (hb hby d5_42) ?_
  refine g_normI (z := (1 : Int32)) (by decide) ?_
  refine g_dup2 X123 hx (pc' := 44) rfl (hb hby d5_43) rfl rfl ?_
  refine g_daload X123 hx hZ V123 (i := 1) (by decide) (show (1 : Nat) < 12 by decide) (v := c1) rfl (pc' := 45) rfl (hb hby d5_44) ?_
  refine g_dload X123 hx (pc' := 47) rfl (hb hby d5_45) rfl ?_
  have q127 : Dy (mc1 * e0) 1071 (FP.ddiv c1 t0) := dy_div (dy_shift 3 (j := 1071) yc1) yt0 hz0 (own_divq he0) rfl (own_mb bc1 be0 (by decide)) (by decide)
  refine g_ddiv X123 hx (pc' := 48) (z := (FP.ddiv c1 t0)) rfl (hb hby d5_47) (dy_noNaN q127) rfl ?_
  refine g_absD (fun d127 hd127 => ?_)
  rw [← hd127] at q127
  obtain ⟨n127, en127⟩ : ∃ z : Int, z = mc1 * e0 := ⟨_, rfl⟩
  rw [← en127] at q127
  have b127 : n127.natAbs ≤ 64 := by rw [en127, Int.natAbs_mul]; exact Nat.le_trans (Nat.mul_le_mul bc1 be0) (by decide)
  refine g_dastore X123 hx hZ V123 (i := 1) (by decide) (show (1 : Nat) < 12 by decide) hg (pc' := 49) rfl (hb hby d5_48) (fun T128 h128 X128 W128 N128 => ?_)
  have f129 := f124.other W128 hne
  have f130 := (by have q := (Keep.of_wr W128).1; exact Nat.le_trans f125 q : n0 ≤ h128.size)
  have f131 := f126.wr W128 (Or.inl (List.mem_of_getElem? (i := 0) rfl))
  have V128 : AD Z h128 ca [d122, d127, c2, c3, c4, c5, c6, c7, c8, c9, c10, c11] := N128
  refine g_iincC X128 hx (pc' := 52) (x := (1 : Int32)) (z := (2 : Int32)) rfl (hb hby d5_49) rfl (by decide) (l' := #[.val (.ref ta), .val (.int (4 : Int32)), .val (.int (1 : Int32)), .val (.ref ca), .val (.int (2 : Int32)), .val (.int (0 : Int32)), .val (.int (0 : Int32)), .val (.double t0), .second, .val (.int (2 : Int32)), .unset, .unset, .unset, .unset]) rfl ?_
  refine g_goto X128 hx (pc' := 30) (hb hby d5_52) (by decide) (by decide) ?_
  refine g_iload X128 hx (pc' := 32) rfl (hb hby d5_30) rfl ?_
  refine g_iload X128 hx (pc' := 34) rfl (hb hby d5_32) rfl ?_
  refine g_icmpY X128 hx (pcY := 55) (hb hby d5_34) (by decide) (by decide) (show ¬ (2 : Int32) < (2 : Int32) from by decide) ?_
  refine g_iload X128 hx (pc' := 57) rfl (hb hby d5_55) rfl ?_
  refine g_iconst X128 hx (pc' := 58) (z := (1 : Int32)) rfl (hb hby d5_57) rfl ?_
  refine g_iadd X128 hx (pc' := 59) rfl (hb hby d5_58) ?_
  refine g_normI (z := (1 : Int32)) (by decide) ?_
  refine g_istore X128 hx (pc' := 61) rfl (hb hby d5_59) (l' := #[.val (.ref ta), .val (.int (4 : Int32)), .val (.int (1 : Int32)), .val (.ref ca), .val (.int (2 : Int32)), .val (.int (0 : Int32)), .val (.int (0 : Int32)), .val (.double t0), .second, .val (.int (1 : Int32)), .unset, .unset, .unset, .unset]) rfl ?_
  refine g_iload X128 hx (pc' := 63) rfl (hb hby d5_61) rfl ?_
  refine g_iloadN X128 hx (pc' := 64) rfl (hb hby d5_63) rfl ?_
  refine g_icmpY X128 hx (pcY := 127) (hb hby d5_64) (by decide) (by decide) (show ¬ (1 : Int32) < (1 : Int32) from by decide) ?_
  refine g_iincC X128 hx (pc' := 130) (x := (0 : Int32)) (z := (1 : Int32)) rfl (hb hby d5_127) rfl (by decide) (l' := #[.val (.ref ta), .val (.int (4 : Int32)), .val (.int (1 : Int32)), .val (.ref ca), .val (.int (2 : Int32)), .val (.int (1 : Int32)), .val (.int (0 : Int32)), .val (.double t0), .second, .val (.int (1 : Int32)), .unset, .unset, .unset, .unset]) rfl ?_
  refine g_goto X128 hx (pc' := 3) (hb hby d5_130) (by decide) (by decide) ?_
  refine g_iload X128 hx (pc' := 5) rfl (hb hby d5_3) rfl ?_
  refine g_iloadN X128 hx (pc' := 6) rfl (hb hby d5_5) rfl ?_
  refine g_icmpY X128 hx (pcY := 133) (hb hby d5_6) (by decide) (by decide) (show ¬ (1 : Int32) < (1 : Int32) from by decide) ?_
  exact g_retV X128 hx hlk hret (hb hby d5_133) (by decide) (by decide) (⟨rfl, f131, _, V128, rfl, own_all12 (Chk.b0 (by decide) (by decide) (own_S0 yt0 q122 yc0 bt0 b122 (by rw [en122]; exact own_f0 he0))) (Chk.b0 (by decide) (by decide) (own_S0 yt0 q127 yc1 bt0 b127 (by rw [en127]; exact own_f0 he0))) (Chk.a (by decide) (own_dyeq yc2 yc2 rfl)) (Chk.a (by decide) (own_dyeq yc3 yc3 rfl)) (Chk.a (by decide) (own_dyeq yc4 yc4 rfl)) (Chk.a (by decide) (own_dyeq yc5 yc5 rfl)) (Chk.a (by decide) (own_dyeq yc6 yc6 rfl)) (Chk.a (by decide) (own_dyeq yc7 yc7 rfl)) (Chk.a (by decide) (own_dyeq yc8 yc8 rfl)) (Chk.a (by decide) (own_dyeq yc9 yc9 rfl)) (Chk.a (by decide) (own_dyeq yc10 yc10 rfl)) (Chk.a (by decide) (own_dyeq yc11 yc11 rfl))⟩)
set_option maxRecDepth 65536 in
set_option maxHeartbeats 40000000 in
theorem rm5_1_3 (l : Launch) (Z : State) (a0 : Array Value) (hw : ∀ d ∈ tables_1, d.before a0 Z = true) (ws : List Jvm.Cond) (n0 : Nat) (ta ca : Addr) (t0 : UInt64) (t1 : UInt64) (t2 : UInt64) (t3 : UInt64) (t4 : UInt64) (t5 : UInt64) (t6 : UInt64) (t7 : UInt64) (t8 : UInt64) (t9 : UInt64) (t10 : UInt64) (t11 : UInt64) (t12 : UInt64) (t13 : UInt64) (t14 : UInt64) (t15 : UInt64) (mt0 : Int) (mt1 : Int) (mt2 : Int) (mt5 : Int) (mt6 : Int) (mt10 : Int) (e0 : Int) (e5 : Int) (e10 : Int) (c0 : UInt64) (mc0 : Int) (c1 : UInt64) (mc1 : Int) (c2 : UInt64) (mc2 : Int) (c3 : UInt64) (mc3 : Int) (c4 : UInt64) (mc4 : Int) (c5 : UInt64) (mc5 : Int) (c6 : UInt64) (mc6 : Int) (c7 : UInt64) (mc7 : Int) (c8 : UInt64) (mc8 : Int) (c9 : UInt64) (mc9 : Int) (c10 : UInt64) (mc10 : Int) (c11 : UInt64) (mc11 : Int) (h0 : Heap) (hn0 : n0 ≤ h0.size) (At : AD Z h0 ta [t0, t1, t2, t3, t4, t5, t6, t7, t8, t9, t10, t11, t12, t13, t14, t15]) (Ac : AD Z h0 ca [c0, c1, c2, c3, c4, c5, c6, c7, c8, c9, c10, c11]) (hne : ta ≠ ca) (hg : n0 ≤ ca) (yc0 : Dy mc0 1074 c0) (bc0 : mc0.natAbs ≤ 8) (yc1 : Dy mc1 1074 c1) (bc1 : mc1.natAbs ≤ 8) (yc2 : Dy mc2 1074 c2) (bc2 : mc2.natAbs ≤ 8) (yc3 : Dy mc3 1074 c3) (bc3 : mc3.natAbs ≤ 8) (yc4 : Dy mc4 1074 c4) (bc4 : mc4.natAbs ≤ 8) (yc5 : Dy mc5 1074 c5) (bc5 : mc5.natAbs ≤ 8) (yc6 : Dy mc6 1074 c6) (bc6 : mc6.natAbs ≤ 8) (yc7 : Dy mc7 1074 c7) (bc7 : mc7.natAbs ≤ 8) (yc8 : Dy mc8 1074 c8) (bc8 : mc8.natAbs ≤ 8) (yc9 : Dy mc9 1074 c9) (bc9 : mc9.natAbs ≤ 8) (yc10 : Dy mc10 1074 c10) (bc10 : mc10.natAbs ≤ 8) (yc11 : Dy mc11 1074 c11) (bc11 : mc11.natAbs ≤ 8) (yt0 : Dy mt0 1074 t0) (bt0 : mt0.natAbs ≤ 8) (yt1 : Dy mt1 1074 t1) (bt1 : mt1.natAbs ≤ 8) (yt2 : Dy mt2 1074 t2) (bt2 : mt2.natAbs ≤ 8) (yt5 : Dy mt5 1074 t5) (bt5 : mt5.natAbs ≤ 8) (yt6 : Dy mt6 1074 t6) (bt6 : mt6.natAbs ≤ 8) (yt10 : Dy mt10 1074 t10) (bt10 : mt10.natAbs ≤ 8) (he0 : mt0 * e0 = 8) (hz0 : mt0 ≠ 0) (be0 : e0.natAbs ≤ 8) (he5 : mt5 * e5 = 8) (hz5 : mt5 ≠ 0) (be5 : e5.natAbs ≤ 8) (he10 : mt10 * e10 = 8) (hz10 : mt10 ≠ 0) (be10 : e10.natAbs ≤ 8) :
    Con l Z n0 (⟨"com/example/orthogon/orthogon/Triangular", "solveUpperTransposed", "([DII[DI)V"⟩ : MethodName) prog_16_method_4_code 14 none ws ({ frames := 0, cells := 0, slots := 0, locals := 0 } : Room) #[(.ref ta), (.int (4 : Int32)), (.int (1 : Int32)), (.ref ca), (.int (3 : Int32))] h0 (fun v h => v = none ∧ Keep h0 h [ca] ∧ ∃ xs, AD Z h ca xs ∧ xs.length = 12 ∧ ChkAll [t0, t1, t2, t3, t4, t5, t6, t7, t8, t9, t10, t11, t12, t13, t14, t15] xs [c0, c1, c2, c3, c4, c5, c6, c7, c8, c9, c10, c11] (1 : Int32) (3 : Int32)) := by
  refine con_start (plainFor_of_name (by first | (simp [plainName, overriddenIn]; done) | decide +kernel)) (fr0 := fun m => mkF m 0 #[.val (.ref ta), .val (.int (4 : Int32)), .val (.int (1 : Int32)), .val (.ref ca), .val (.int (3 : Int32)), .unset, .unset, .unset, .unset, .unset, .unset, .unset, .unset, .unset] []) (fun m => by first | (simp [entryFrame, mkF, argsToLocals, Value.category]; done) | rfl) ?_
  intro p e s m below meth c T0 hx hZ hby hml hown hnm hret hlk X0
  replace hown : s.vm.findClass "com/example/orthogon/orthogon/Triangular" = some m.cls := hown
  replace hml : c.maxLocals = 14 := hml
  refine g_iconst X0 hx (pc' := 1) (z := (0 : Int32)) rfl (hb hby d5_0) rfl ?_
  refine g_istore X0 hx (pc' := 3) rfl (hb hby d5_1) (l' := #[.val (.ref ta), .val (.int (4 : Int32)), .val (.int (1 : Int32)), .val (.ref ca), .val (.int (3 : Int32)), .val (.int (0 : Int32)), .unset, .unset, .unset, .unset, .unset, .unset, .unset, .unset]) rfl ?_
  refine g_iload X0 hx (pc' := 5) rfl (hb hby d5_3) rfl ?_
  refine g_iloadN X0 hx (pc' := 6) rfl (hb hby d5_5) rfl ?_
  refine g_icmpN X0 hx (pcN := 9) (hb hby d5_6) rfl (show ¬ (¬ (0 : Int32) < (1 : Int32)) from by decide) ?_
  refine g_iload X0 hx (pc' := 11) rfl (hb hby d5_9) rfl ?_
  refine g_iload X0 hx (pc' := 13) rfl (hb hby d5_11) rfl ?_
  refine g_imul X0 hx (pc' := 14) rfl (hb hby d5_13) ?_
  refine g_normI (z := (0 : Int32)) (by decide) ?_
  refine g_istore X0 hx (pc' := 16) rfl (hb hby d5_14) (l' := #[.val (.ref ta), .val (.int (4 : Int32)), .val (.int (1 : Int32)), .val (.ref ca), .val (.int (3 : Int32)), .val (.int (0 : Int32)), .val (.int (0 : Int32)), .unset, .unset, .unset, .unset, .unset, .unset, .unset]) rfl ?_
  refine g_aloadN X0 hx (pc' := 17) rfl (hb hby d5_16) rfl rfl ?_
  refine g_iload X0 hx (pc' := 19) rfl (hb hby d5_17) rfl ?_
  refine g_iloadN X0 hx (pc' := 20) rfl (hb hby d5_19) rfl ?_
  refine g_imul X0 hx (pc' := 21) rfl (hb hby d5_20) ?_
  refine g_normI (z := (0 : Int32)) (by decide) ?_
  refine g_iload X0 hx (pc' := 23) rfl (hb hby d5_21) rfl ?_
  refine g_iadd X0 hx (pc' := 24) rfl (hb hby d5_23) ?_
  refine g_normI (z := (0 : Int32)) (by decide) ?_
  refine g_daload X0 hx hZ At (i := 0) (by decide) (show (0 : Nat) < 16 by decide) (v := t0) rfl (pc' := 25) rfl (hb hby d5_24) ?_
  refine g_dstore X0 hx (pc' := 27) rfl (hb hby d5_25) (l' := #[.val (.ref ta), .val (.int (4 : Int32)), .val (.int (1 : Int32)), .val (.ref ca), .val (.int (3 : Int32)), .val (.int (0 : Int32)), .val (.int (0 : Int32)), .val (.double t0), .second, .unset, .unset, .unset, .unset, .unset]) rfl ?_
  refine g_iconst X0 hx (pc' := 28) (z := (0 : Int32)) rfl (hb hby d5_27) rfl ?_
  refine g_istore X0 hx (pc' := 30) rfl (hb hby d5_28) (l' := #[.val (.ref ta), .val (.int (4 : Int32)), .val (.int (1 : Int32)), .val (.ref ca), .val (.int (3 : Int32)), .val (.int (0 : Int32)), .val (.int (0 : Int32)), .val (.double t0), .second, .val (.int (0 : Int32)), .unset, .unset, .unset, .unset]) rfl ?_
  refine g_iload X0 hx (pc' := 32) rfl (hb hby d5_30) rfl ?_
  refine g_iload X0 hx (pc' := 34) rfl (hb hby d5_32) rfl ?_
  refine g_icmpN X0 hx (pcN := 37) (hb hby d5_34) rfl (show ¬ (¬ (0 : Int32) < (3 : Int32)) from by decide) ?_
  refine g_aloadN X0 hx (pc' := 38) rfl (hb hby d5_37) rfl rfl ?_
  refine g_iload X0 hx (pc' := 40) rfl (hb hby d5_38) rfl ?_
  refine g_iload X0 hx (pc' := 42) rfl (hb hby d5_40) rfl ?_
  refine g_iadd X0 hx (pc' := 43) rfl (hb hby d5_42) ?_
  refine g_normI (z := (0 : Int32)) (by decide) ?_
  refine g_dup2 X0 hx (pc' := 44) rfl (hb hby d5_43) rfl rfl ?_
  refine g_daload X0 hx hZ Ac (i := 0) (by decide) (show (0 : Nat) < 12 by decide) (v := c0) rfl (pc' := 45) rfl (hb hby d5_44) ?_
  refine g_dload X0 hx (pc' := 47) rfl (hb hby d5_45) rfl ?_
  have q132 : Dy (mc0 * e0) 1071 (FP.ddiv c0 t0) := dy_div (dy_shift 3 (j := 1071) yc0) yt0 hz0 (own_divq he0) rfl (own_mb bc0 be0 (by decide)) (by decide)
  refine g_ddiv X0 hx (pc' := 48) (z := (FP.ddiv c0 t0)) rfl (hb hby d5_47) (dy_noNaN q132) rfl ?_
  refine g_absD (fun d132 hd132 => ?_)
  rw [← hd132] at q132
  obtain ⟨n132, en132⟩ : ∃ z : Int, z = mc0 * e0 := ⟨_, rfl⟩
  rw [← en132] at q132
  have b132 : n132.natAbs ≤ 64 := by rw [en132, Int.natAbs_mul]; exact Nat.le_trans (Nat.mul_le_mul bc0 be0) (by decide)
  refine g_dastore X0 hx hZ Ac (i := 0) (by decide) (show (0 : Nat) < 12 by decide) hg (pc' := 49) rfl (hb hby d5_48) (fun T133 h133 X133 W133 N133 => ?_)
  have f134 := At.other W133 hne
  have f135 := (by have q := (Keep.of_wr W133).1; exact Nat.le_trans hn0 q : n0 ≤ h133.size)
  have f136 := (Keep.refl h0 [ca]).wr W133 (Or.inl (List.mem_of_getElem? (i := 0) rfl))
  have V133 : AD Z h133 ca [d132, c1, c2, c3, c4, c5, c6, c7, c8, c9, c10, c11] := N133
  refine g_iincC X133 hx (pc' := 52) (x := (0 : Int32)) (z := (1 : Int32)) rfl (hb hby d5_49) rfl (by decide) (l' := #[.val (.ref ta), .val (.int (4 : Int32)), .val (.int (1 : Int32)), .val (.ref ca), .val (.int (3 : Int32)), .val (.int (0 : Int32)), .val (.int (0 : Int32)), .val (.double t0), .second, .val (.int (1 : Int32)), .unset, .unset, .unset, .unset]) rfl ?_
  refine g_goto X133 hx (pc' := 30) (hb hby d5_52) (by decide) (by decide) ?_
  refine g_iload X133 hx (pc' := 32) rfl (hb hby d5_30) rfl ?_
  refine g_iload X133 hx (pc' := 34) rfl (hb hby d5_32) rfl ?_
  refine g_icmpN X133 hx (pcN := 37) (hb hby d5_34) rfl (show ¬ (¬ (1 : Int32) < (3 : Int32)) from by decide) ?_
  refine g_aloadN X133 hx (pc' := 38) rfl (hb hby d5_37) rfl rfl ?_
  refine g_iload X133 hx (pc' := 40) rfl (hb hby d5_38) rfl ?_
  refine g_iload X133 hx (pc' := 42) rfl (hb hby d5_40) rfl ?_
  refine g_iadd X133 hx (pc' := 43) rfl (hb hby d5_42) ?_
  refine g_normI (z := (1 : Int32)) (by decide) ?_
  refine g_dup2 X133 hx (pc' := 44) rfl (hb hby d5_43) rfl rfl ?_
  refine g_daload X133 hx hZ V133 (i := 1) (by decide) (show (1 : Nat) < 12 by decide) (v := c1) rfl (pc' := 45) rfl (hb hby d5_44) ?_
  refine g_dload X133 hx (pc' := 47) rfl (hb hby d5_45) rfl ?_
  have q137 : Dy (mc1 * e0) 1071 (FP.ddiv c1 t0) := dy_div (dy_shift 3 (j := 1071) yc1) yt0 hz0 (own_divq he0) rfl (own_mb bc1 be0 (by decide)) (by decide)
  refine g_ddiv X133 hx (pc' := 48) (z := (FP.ddiv c1 t0)) rfl (hb hby d5_47) (dy_noNaN q137) rfl ?_
  refine g_absD (fun d137 hd137 => ?_)
  rw [← hd137] at q137
  obtain ⟨n137, en137⟩ : ∃ z : Int, z = mc1 * e0 := ⟨_, rfl⟩
  rw [← en137] at q137
  have b137 : n137.natAbs ≤ 64 := by rw [en137, Int.natAbs_mul]; exact Nat.le_trans (Nat.mul_le_mul bc1 be0) (by decide)
  refine g_dastore X133 hx hZ V133 (i := 1) (by decide) (show (1 : Nat) < 12 by decide) hg (pc' := 49) rfl (hb hby d5_48) (fun T138 h138 X138 W138 N138 => ?_)
  have f139 := f134.other W138 hne
  have f140 := (by have q := (Keep.of_wr W138).1; exact Nat.le_trans f135 q : n0 ≤ h138.size)
  have f141 := f136.wr W138 (Or.inl (List.mem_of_getElem? (i := 0) rfl))
  have V138 : AD Z h138 ca [d132, d137, c2, c3, c4, c5, c6, c7, c8, c9, c10, c11] := N138
  refine g_iincC X138 hx (pc' := 52) (x := (1 : Int32)) (z := (2 : Int32)) rfl (hb hby d5_49) rfl (by decide) (l' := #[.val (.ref ta), .val (.int (4 : Int32)), .val (.int (1 : Int32)), .val (.ref ca), .val (.int (3 : Int32)), .val (.int (0 : Int32)), .val (.int (0 : Int32)), .val (.double t0), .second, .val (.int (2 : Int32)), .unset, .unset, .unset, .unset]) rfl ?_
  refine g_goto X138 hx (pc' := 30) (hb hby d5_52) (by decide) (by decide) ?_
  refine g_iload X138 hx (pc' := 32) rfl (hb hby d5_30) rfl ?_
  refine g_iload X138 hx (pc' := 34) rfl (hb hby d5_32) rfl ?_
  refine g_icmpN X138 hx (pcN := 37) (hb hby d5_34) rfl (show ¬ (¬ (2 : Int32) < (3 : Int32)) from by decide) ?_
  refine g_aloadN X138 hx (pc' := 38) rfl (hb hby d5_37) rfl rfl ?_
  refine g_iload X138 hx (pc' := 40) rfl (hb hby d5_38) rfl ?_
  refine g_iload X138 hx (pc' := 42) rfl (hb hby d5_40) rfl ?_
  refine g_iadd X138 hx (pc' := 43) rfl (hb hby d5_42) ?_
  refine g_normI (z := (2 : Int32)) (by decide) ?_
  refine g_dup2 X138 hx (pc' := 44) rfl (hb hby d5_43) rfl rfl ?_
  refine g_daload X138 hx hZ V138 (i := 2) (by decide) (show (2 : Nat) < 12 by decide) (v := c2) rfl (pc' := 45) rfl (hb hby d5_44) ?_
  refine g_dload X138 hx (pc' := 47) rfl (hb hby d5_45) rfl ?_
  have q142 : Dy (mc2 * e0) 1071 (FP.ddiv c2 t0) := dy_div (dy_shift 3 (j := 1071) yc2) yt0 hz0 (own_divq he0) rfl (own_mb bc2 be0 (by decide)) (by decide)
  refine g_ddiv X138 hx (pc' := 48) (z := (FP.ddiv c2 t0)) rfl (hb hby d5_47) (dy_noNaN q142) rfl ?_
  refine g_absD (fun d142 hd142 => ?_)
  rw [← hd142] at q142
  obtain ⟨n142, en142⟩ : ∃ z : Int, z = mc2 * e0 := ⟨_, rfl⟩
  rw [← en142] at q142
  have b142 : n142.natAbs ≤ 64 := by rw [en142, Int.natAbs_mul]; exact Nat.le_trans (Nat.mul_le_mul bc2 be0) (by decide)
  refine g_dastore X138 hx hZ V138 (i := 2) (by decide) (show (2 : Nat) < 12 by decide) hg (pc' := 49) rfl (hb hby d5_48) (fun T143 h143 X143 W143 N143 => ?_)
  have f144 := f139.other W143 hne
  have f145 := (by have q := (Keep.of_wr W143).1; exact Nat.le_trans f140 q : n0 ≤ h143.size)
  have f146 := f141.wr W143 (Or.inl (List.mem_of_getElem? (i := 0) rfl))
  have V143 : AD Z h143 ca [d132, d137, d142, c3, c4, c5, c6, c7, c8, c9, c10, c11] := N143
  refine g_iincC X143 hx (pc' := 52) (x := (2 : Int32)) (z := (3 : Int32)) rfl (hb hby d5_49) rfl (by decide) (l' := #[.val (.ref ta), .val (.int (4 : Int32)), .val (.int (1 : Int32)), .val (.ref ca), .val (.int (3 : Int32)), .val (.int (0 : Int32)), .val (.int (0 : Int32)), .val (.double t0), .second, .val (.int (3 : Int32)), .unset, .unset, .unset, .unset]) rfl ?_
  refine g_goto X143 hx (pc' := 30) (hb hby d5_52) (by decide) (by decide) ?_
  refine g_iload X143 hx (pc' := 32) rfl (hb hby d5_30) rfl ?_
  refine g_iload X143 hx (pc' := 34) rfl (hb hby d5_32) rfl ?_
  refine g_icmpY X143 hx (pcY := 55) (hb hby d5_34) (by decide) (by decide) (show ¬ (3 : Int32) < (3 : Int32) from by decide) ?_
  refine g_iload X143 hx (pc' := 57) rfl (hb hby d5_55) rfl ?_
  refine g_iconst X143 hx (pc' := 58) (z := (1 : Int32)) rfl (hb hby d5_57) rfl ?_
  refine g_iadd X143 hx (pc' := 59) rfl (hb hby d5_58) ?_
  refine g_normI (z := (1 : Int32)) (by decide) ?_
  refine g_istore X143 hx (pc' := 61) rfl (hb hby d5_59) (l' := #[.val (.ref ta), .val (.int (4 : Int32)), .val (.int (1 : Int32)), .val (.ref ca), .val (.int (3 : Int32)), .val (.int (0 : Int32)), .val (.int (0 : Int32)), .val (.double t0), .second, .val (.int (1 : Int32)), .unset, .unset, .unset, .unset]) rfl ?_
  refine g_iload X143 hx (pc' := 63) rfl (hb hby d5_61) rfl ?_
  refine g_iloadN X143 hx (pc' := 64) rfl (hb hby d5_63) rfl ?_
  refine g_icmpY X143 hx (pcY := 127) (hb hby d5_64) (by decide) (by decide) (show ¬ (1 : Int32) < (1 : Int32) from by decide) ?_
  refine g_iincC X143 hx (pc' := 130) (x := (0 : Int32)) (z := (1 : Int32)) rfl (hb hby d5_127) rfl (by decide) (l' := #[.val (.ref ta), .val (.int (4 : Int32)), .val (.int (1 : Int32)), .val (.ref ca), .val (.int (3 : Int32)), .val (.int (1 : Int32)), .val (.int (0 : Int32)), .val (.double t0), .second, .val (.int (1 : Int32)), .unset, .unset, .unset, .unset]) rfl ?_
  refine g_goto X143 hx (pc' := 3) (hb hby d5_130) (by decide) (by decide) ?_
  refine g_iload X143 hx (pc' := 5) rfl (hb hby d5_3) rfl ?_
  refine g_iloadN X143 hx (pc' := 6) rfl (hb hby d5_5) rfl ?_
  refine g_icmpY X143 hx (pcY := 133) (hb hby d5_6) (by decide) (by decide) (show ¬ (1 : Int32) < (1 : Int32) from by decide) ?_
  exact g_retV X143 hx hlk hret (hb hby d5_133) (by decide) (by decide) (⟨rfl, f146, _, V143, rfl, own_all12 (Chk.b0 (by decide) (by decide) (own_S0 yt0 q132 yc0 bt0 b132 (by rw [en132]; exact own_f0 he0))) (Chk.b0 (by decide) (by decide) (own_S0 yt0 q137 yc1 bt0 b137 (by rw [en137]; exact own_f0 he0))) (Chk.b0 (by decide) (by decide) (own_S0 yt0 q142 yc2 bt0 b142 (by rw [en142]; exact own_f0 he0))) (Chk.a (by decide) (own_dyeq yc3 yc3 rfl)) (Chk.a (by decide) (own_dyeq yc4 yc4 rfl)) (Chk.a (by decide) (own_dyeq yc5 yc5 rfl)) (Chk.a (by decide) (own_dyeq yc6 yc6 rfl)) (Chk.a (by decide) (own_dyeq yc7 yc7 rfl)) (Chk.a (by decide) (own_dyeq yc8 yc8 rfl)) (Chk.a (by decide) (own_dyeq yc9 yc9 rfl)) (Chk.a (by decide) (own_dyeq yc10 yc10 rfl)) (Chk.a (by decide) (own_dyeq yc11 yc11 rfl))⟩)
set_option maxRecDepth 65536 in
set_option maxHeartbeats 40000000 in
theorem rm5_2_1 (l : Launch) (Z : State) (a0 : Array Value) (hw : ∀ d ∈ tables_1, d.before a0 Z = true) (ws : List Jvm.Cond) (n0 : Nat) (ta ca : Addr) (t0 : UInt64) (t1 : UInt64) (t2 : UInt64) (t3 : UInt64) (t4 : UInt64) (t5 : UInt64) (t6 : UInt64) (t7 : UInt64) (t8 : UInt64) (t9 : UInt64) (t10 : UInt64) (t11 : UInt64) (t12 : UInt64) (t13 : UInt64) (t14 : UInt64) (t15 : UInt64) (mt0 : Int) (mt1 : Int) (mt2 : Int) (mt5 : Int) (mt6 : Int) (mt10 : Int) (e0 : Int) (e5 : Int) (e10 : Int) (c0 : UInt64) (mc0 : Int) (c1 : UInt64) (mc1 : Int) (c2 : UInt64) (mc2 : Int) (c3 : UInt64) (mc3 : Int) (c4 : UInt64) (mc4 : Int) (c5 : UInt64) (mc5 : Int) (c6 : UInt64) (mc6 : Int) (c7 : UInt64) (mc7 : Int) (c8 : UInt64) (mc8 : Int) (c9 : UInt64) (mc9 : Int) (c10 : UInt64) (mc10 : Int) (c11 : UInt64) (mc11 : Int) (h0 : Heap) (hn0 : n0 ≤ h0.size) (At : AD Z h0 ta [t0, t1, t2, t3, t4, t5, t6, t7, t8, t9, t10, t11, t12, t13, t14, t15]) (Ac : AD Z h0 ca [c0, c1, c2, c3, c4, c5, c6, c7, c8, c9, c10, c11]) (hne : ta ≠ ca) (hg : n0 ≤ ca) (yc0 : Dy mc0 1074 c0) (bc0 : mc0.natAbs ≤ 8) (yc1 : Dy mc1 1074 c1) (bc1 : mc1.natAbs ≤ 8) (yc2 : Dy mc2 1074 c2) (bc2 : mc2.natAbs ≤ 8) (yc3 : Dy mc3 1074 c3) (bc3 : mc3.natAbs ≤ 8) (yc4 : Dy mc4 1074 c4) (bc4 : mc4.natAbs ≤ 8) (yc5 : Dy mc5 1074 c5) (bc5 : mc5.natAbs ≤ 8) (yc6 : Dy mc6 1074 c6) (bc6 : mc6.natAbs ≤ 8) (yc7 : Dy mc7 1074 c7) (bc7 : mc7.natAbs ≤ 8) (yc8 : Dy mc8 1074 c8) (bc8 : mc8.natAbs ≤ 8) (yc9 : Dy mc9 1074 c9) (bc9 : mc9.natAbs ≤ 8) (yc10 : Dy mc10 1074 c10) (bc10 : mc10.natAbs ≤ 8) (yc11 : Dy mc11 1074 c11) (bc11 : mc11.natAbs ≤ 8) (yt0 : Dy mt0 1074 t0) (bt0 : mt0.natAbs ≤ 8) (yt1 : Dy mt1 1074 t1) (bt1 : mt1.natAbs ≤ 8) (yt2 : Dy mt2 1074 t2) (bt2 : mt2.natAbs ≤ 8) (yt5 : Dy mt5 1074 t5) (bt5 : mt5.natAbs ≤ 8) (yt6 : Dy mt6 1074 t6) (bt6 : mt6.natAbs ≤ 8) (yt10 : Dy mt10 1074 t10) (bt10 : mt10.natAbs ≤ 8) (he0 : mt0 * e0 = 8) (hz0 : mt0 ≠ 0) (be0 : e0.natAbs ≤ 8) (he5 : mt5 * e5 = 8) (hz5 : mt5 ≠ 0) (be5 : e5.natAbs ≤ 8) (he10 : mt10 * e10 = 8) (hz10 : mt10 ≠ 0) (be10 : e10.natAbs ≤ 8) :
    Con l Z n0 (⟨"com/example/orthogon/orthogon/Triangular", "solveUpperTransposed", "([DII[DI)V"⟩ : MethodName) prog_16_method_4_code 14 none ws ({ frames := 0, cells := 0, slots := 0, locals := 0 } : Room) #[(.ref ta), (.int (4 : Int32)), (.int (2 : Int32)), (.ref ca), (.int (1 : Int32))] h0 (fun v h => v = none ∧ Keep h0 h [ca] ∧ ∃ xs, AD Z h ca xs ∧ xs.length = 12 ∧ ChkAll [t0, t1, t2, t3, t4, t5, t6, t7, t8, t9, t10, t11, t12, t13, t14, t15] xs [c0, c1, c2, c3, c4, c5, c6, c7, c8, c9, c10, c11] (2 : Int32) (1 : Int32)) := by
  refine con_start (plainFor_of_name (by first | (simp [plainName, overriddenIn]; done) | decide +kernel)) (fr0 := fun m => mkF m 0 #[.val (.ref ta), .val (.int (4 : Int32)), .val (.int (2 : Int32)), .val (.ref ca), .val (.int (1 : Int32)), .unset, .unset, .unset, .unset, .unset, .unset, .unset, .unset, .unset] []) (fun m => by first | (simp [entryFrame, mkF, argsToLocals, Value.category]; done) | rfl) ?_
  intro p e s m below meth c T0 hx hZ hby hml hown hnm hret hlk X0
  replace hown : s.vm.findClass "com/example/orthogon/orthogon/Triangular" = some m.cls := hown
  replace hml : c.maxLocals = 14 := hml
  refine g_iconst X0 hx (pc' := 1) (z := (0 : Int32)) rfl (hb hby d5_0) rfl ?_
  refine g_istore X0 hx (pc' := 3) rfl (hb hby d5_1) (l' := #[.val (.ref ta), .val (.int (4 : Int32)), .val (.int (2 : Int32)), .val (.ref ca), .val (.int (1 : Int32)), .val (.int (0 : Int32)), .unset, .unset, .unset, .unset, .unset, .unset, .unset, .unset]) rfl ?_
  refine g_iload X0 hx (pc' := 5) rfl (hb hby d5_3) rfl ?_
  refine g_iloadN X0 hx (pc' := 6) rfl (hb hby d5_5) rfl ?_
  refine g_icmpN X0 hx (pcN := 9) (hb hby d5_6) rfl (show ¬ (¬ (0 : Int32) < (2 : Int32)) from by decide) ?_
  refine g_iload X0 hx (pc' := 11) rfl (hb hby d5_9) rfl ?_
  refine g_iload X0 hx (pc' := 13) rfl (hb hby d5_11) rfl ?_
  refine g_imul X0 hx (pc' := 14) rfl (hb hby d5_13) ?_
  refine g_normI (z := (0 : Int32)) (by decide) ?_
  refine g_istore X0 hx (pc' := 16) rfl (hb hby d5_14) (l' := #[.val (.ref ta), .val (.int (4 : Int32)), .val (.int (2 : Int32)), .val (.ref ca), .val (.int (1 : Int32)), .val (.int (0 : Int32)), .val (.int (0 : Int32)), .unset, .unset, .unset, .unset, .unset, .unset, .unset]) rfl ?_
  refine g_aloadN X0 hx (pc' := 17) rfl (hb hby d5_16) rfl rfl ?_
  refine g_iload X0 hx (pc' := 19) rfl (hb hby d5_17) rfl ?_
  refine g_iloadN X0 hx (pc' := 20) rfl (hb hby d5_19) rfl ?_
  refine g_imul X0 hx (pc' := 21) rfl (hb hby d5_20) ?_
  refine g_normI (z := (0 : Int32)) (by decide) ?_
  refine g_iload X0 hx (pc' := 23) rfl (hb hby d5_21) rfl ?_
  refine g_iadd X0 hx (pc' := 24) rfl (hb hby d5_23) ?_
  refine g_normI (z := (0 : Int32)) (by decide) ?_
  refine g_daload X0 hx hZ At (i := 0) (by decide) (show (0 : Nat) < 16 by decide) (v := t0) rfl (pc' := 25) rfl (hb hby d5_24) ?_
  refine g_dstore X0 hx (pc' := 27) rfl (hb hby d5_25) (l' := #[.val (.ref ta), .val (.int (4 : Int32)), .val (.int (2 : Int32)), .val (.ref ca), .val (.int (1 : Int32)), .val (.int (0 : Int32)), .val (.int (0 : Int32)), .val (.double t0), .second, .unset, .unset, .unset, .unset, .unset]) rfl ?_
  refine g_iconst X0 hx (pc' := 28) (z := (0 : Int32)) rfl (hb hby d5_27) rfl ?_
  refine g_istore X0 hx (pc' := 30) rfl (hb hby d5_28) (l' := #[.val (.ref ta), .val (.int (4 : Int32)), .val (.int (2 : Int32)), .val (.ref ca), .val (.int (1 : Int32)), .val (.int (0 : Int32)), .val (.int (0 : Int32)), .val (.double t0), .second, .val (.int (0 : Int32)), .unset, .unset, .unset, .unset]) rfl ?_
  refine g_iload X0 hx (pc' := 32) rfl (hb hby d5_30) rfl ?_
  refine g_iload X0 hx (pc' := 34) rfl (hb hby d5_32) rfl ?_
  refine g_icmpN X0 hx (pcN := 37) (hb hby d5_34) rfl (show ¬ (¬ (0 : Int32) < (1 : Int32)) from by decide) ?_
  refine g_aloadN X0 hx (pc' := 38) rfl (hb hby d5_37) rfl rfl ?_
  refine g_iload X0 hx (pc' := 40) rfl (hb hby d5_38) rfl ?_
  refine g_iload X0 hx (pc' := 42) rfl (hb hby d5_40) rfl ?_
  refine g_iadd X0 hx (pc' := 43) rfl (hb hby d5_42) ?_
  refine g_normI (z := (0 : Int32)) (by decide) ?_
  refine g_dup2 X0 hx (pc' := 44) rfl (hb hby d5_43) rfl rfl ?_
  refine g_daload X0 hx hZ Ac (i := 0) (by decide) (show (0 : Nat) < 12 by decide) (v := c0) rfl (pc' := 45) rfl (hb hby d5_44) ?_
  refine g_dload X0 hx (pc' := 47) rfl (hb hby d5_45) rfl ?_
  have q147 : Dy (mc0 * e0) 1071 (FP.ddiv c0 t0) := dy_div (dy_shift 3 (j := 1071) yc0) yt0 hz0 (own_divq he0) rfl (own_mb bc0 be0 (by decide)) (by decide)
  refine g_ddiv X0 hx (pc' := 48) (z := (FP.ddiv c0 t0)) rfl (hb hby d5_47) (dy_noNaN q147) rfl ?_
  refine g_absD (fun d147 hd147 => ?_)
  rw [← hd147] at q147
  obtain ⟨n147, en147⟩ : ∃ z : Int, z = mc0 * e0 := ⟨_, rfl⟩
  rw [← en147] at q147
  have b147 : n147.natAbs ≤ 64 := by rw [en147, Int.natAbs_mul]; exact Nat.le_trans (Nat.mul_le_mul bc0 be0) (by decide)
  refine g_dastore X0 hx hZ Ac (i := 0) (by decide) (show (0 : Nat) < 12 by decide) hg (pc' := 49) rfl (hb hby d5_48) (fun T148 h148 X148 W148 N148 => ?_)
  have f149 := At.other W148 hne
  have f150 := (by have q := (Keep.of_wr W148).1; exact Nat.le_trans hn0 q : n0 ≤ h148.size)
  have f151 := (Keep.refl h0 [ca]).wr W148 (Or.inl (List.mem_of_getElem? (i := 0) rfl))
  have V148 : AD Z h148 ca [d147, c1, c2, c3, c4, c5, c6, c7, c8, c9, c10, c11] := N148
  refine g_iincC X148 hx (pc' := 52) (x := (0 : Int32)) (z := (1 : Int32)) rfl (hb hby d5_49) rfl (by decide) (l' := #[.val (.ref ta), .val (.int (4 : Int32)), .val (.int (2 : Int32)), .val (.ref ca), .val (.int (1 : Int32)), .val (.int (0 : Int32)), .val (.int (0 : Int32)), .val (.double t0), .second, .val (.int (1 : Int32)), .unset, .unset, .unset, .unset]) rfl ?_
  refine g_goto X148 hx (pc' := 30) (hb hby d5_52) (by decide) (by decide) ?_
  refine g_iload X148 hx (pc' := 32) rfl (hb hby d5_30) rfl ?_
  refine g_iload X148 hx (pc' := 34) rfl (hb hby d5_32) rfl ?_
  refine g_icmpY X148 hx (pcY := 55) (hb hby d5_34) (by decide) (by decide) (show ¬ (1 : Int32) < (1 : Int32) from by decide) ?_
  refine g_iload X148 hx (pc' := 57) rfl (hb hby d5_55) rfl ?_
  refine g_iconst X148 hx (pc' := 58) (z := (1 : Int32)) rfl (hb hby d5_57) rfl ?_
  refine g_iadd X148 hx (pc' := 59) rfl (hb hby d5_58) ?_
  refine g_normI (z := (1 : Int32)) (by decide) ?_
  refine g_istore X148 hx (pc' := 61) rfl (hb hby d5_59) (l' := #[.val (.ref ta), .val (.int (4 : Int32)), .val (.int (2 : Int32)), .val (.ref ca), .val (.int (1 : Int32)), .val (.int (0 : Int32)), .val (.int (0 : Int32)), .val (.double t0), .second, .val (.int (1 : Int32)), .unset, .unset, .unset, .unset]) rfl ?_
  refine g_iload X148 hx (pc' := 63) rfl (hb hby d5_61) rfl ?_
  refine g_iloadN X148 hx (pc' := 64) rfl (hb hby d5_63) rfl ?_
  refine g_icmpN X148 hx (pcN := 67) (hb hby d5_64) rfl (show ¬ (¬ (1 : Int32) < (2 : Int32)) from by decide) ?_
  refine g_aloadN X148 hx (pc' := 68) rfl (hb hby d5_67) rfl rfl ?_
  refine g_iload X148 hx (pc' := 70) rfl (hb hby d5_68) rfl ?_
  refine g_iloadN X148 hx (pc' := 71) rfl (hb hby d5_70) rfl ?_
  refine g_imul X148 hx (pc' := 72) rfl (hb hby d5_71) ?_
  refine g_normI (z := (0 : Int32)) (by decide) ?_
  refine g_iload X148 hx (pc' := 74) rfl (hb hby d5_72) rfl ?_
  refine g_iadd X148 hx (pc' := 75) rfl (hb hby d5_74) ?_
  refine g_normI (z := (1 : Int32)) (by decide) ?_
  refine g_daload X148 hx hZ f149 (i := 1) (by decide) (show (1 : Nat) < 16 by decide) (v := t1) rfl (pc' := 76) rfl (hb hby d5_75) ?_
  refine g_dstore X148 hx (pc' := 78) rfl (hb hby d5_76) (l' := #[.val (.ref ta), .val (.int (4 : Int32)), .val (.int (2 : Int32)), .val (.ref ca), .val (.int (1 : Int32)), .val (.int (0 : Int32)), .val (.int (0 : Int32)), .val (.double t0), .second, .val (.int (1 : Int32)), .val (.double t1), .second, .unset, .unset]) rfl ?_
  refine g_iload X148 hx (pc' := 80) rfl (hb hby d5_78) rfl ?_
  refine g_iload X148 hx (pc' := 82) rfl (hb hby d5_80) rfl ?_
  refine g_imul X148 hx (pc' := 83) rfl (hb hby d5_82) ?_
  refine g_normI (z := (1 : Int32)) (by decide) ?_
  refine g_istore X148 hx (pc' := 85) rfl (hb hby d5_83) (l' := #[.val (.ref ta), .val (.int (4 : Int32)), .val (.int (2 : Int32)), .val (.ref ca), .val (.int (1 : Int32)), .val (.int (0 : Int32)), .val (.int (0 : Int32)), .val (.double t0), .second, .val (.int (1 : Int32)), .val (.double t1), .second, .val (.int (1 : Int32)), .unset]) rfl ?_
  refine g_iconst X148 hx (pc' := 86) (z := (0 : Int32)) rfl (hb hby d5_85) rfl ?_
  refine g_istore X148 hx (pc' := 88) rfl (hb hby d5_86) (l' := #[.val (.ref ta), .val (.int (4 : Int32)), .val (.int (2 : Int32)), .val (.ref ca), .val (.int (1 : Int32)), .val (.int (0 : Int32)), .val (.int (0 : Int32)), .val (.double t0), .second, .val (.int (1 : Int32)), .val (.double t1), .second, .val (.int (1 : Int32)), .val (.int (0 : Int32))]) rfl ?_
  refine g_iload X148 hx (pc' := 90) rfl (hb hby d5_88) rfl ?_
  refine g_iload X148 hx (pc' := 92) rfl (hb hby d5_90) rfl ?_
  refine g_icmpN X148 hx (pcN := 95) (hb hby d5_92) rfl (show ¬ (¬ (0 : Int32) < (1 : Int32)) from by decide) ?_
  refine g_aloadN X148 hx (pc' := 96) rfl (hb hby d5_95) rfl rfl ?_
  refine g_iload X148 hx (pc' := 98) rfl (hb hby d5_96) rfl ?_
  refine g_iload X148 hx (pc' := 100) rfl (hb hby d5_98) rfl ?_
  refine g_iadd X148 hx (pc' := 101) rfl (hb hby d5_100) ?_
  refine g_normI (z := (1 : Int32)) (by decide) ?_
  refine g_dup2 X148 hx (pc' := 102) rfl (hb hby d5_101) rfl rfl ?_
  refine g_daload X148 hx hZ V148 (i := 1) (by decide) (show (1 : Nat) < 12 by decide) (v := c1) rfl (pc' := 103) rfl (hb hby d5_102) ?_
  refine g_dload X148 hx (pc' := 105) rfl (hb hby d5_103) rfl ?_
  refine g_aloadN X148 hx (pc' := 106) rfl (hb hby d5_105) rfl rfl ?_
  refine g_iload X148 hx (pc' := 108) rfl (hb hby d5_106) rfl ?_
  refine g_iload X148 hx (pc' := 110) rfl (hb hby d5_108) rfl ?_
  refine g_iadd X148 hx (pc' := 111) rfl (hb hby d5_110) ?_
  refine g_normI (z := (0 : Int32)) (by decide) ?_
  refine g_daload X148 hx hZ V148 (i := 0) (by decide) (show (0 : Nat) < 12 by decide) (v := d147) rfl (pc' := 112) rfl (hb hby d5_111) ?_
  have q152 : Dy (mt1 * n147) 1071 (FP.dmul t1 d147) := dy_mul yt1 q147 (by decide) (own_mb bt1 b147 (by decide)) (by decide)
  refine g_dmul X148 hx (pc' := 113) (z := (FP.dmul t1 d147)) rfl (hb hby d5_112) (dy_noNaN q152) rfl ?_
  refine g_absD (fun d152 hd152 => ?_)
  rw [← hd152] at q152
  obtain ⟨n152, en152⟩ : ∃ z : Int, z = mt1 * n147 := ⟨_, rfl⟩
  rw [← en152] at q152
  have b152 : n152.natAbs ≤ 512 := by rw [en152, Int.natAbs_mul]; exact Nat.le_trans (Nat.mul_le_mul bt1 b147) (by decide)
  obtain ⟨n153, en153⟩ : ∃ z : Int, z = mc1 * 8 := ⟨_, rfl⟩
  have q153 : Dy n153 1071 c1 := by rw [en153]; exact dy_shift 3 (j := 1071) yc1
  have b153 : n153.natAbs ≤ 64 := by rw [en153]; exact own_shl bc1 (by decide)
  have q154 : Dy (n153 - n152) 1071 (FP.dsub c1 d152) := dy_sub q153 q152 (own_subb b153 b152 (by decide)) (by decide)
  refine g_dsub X148 hx (pc' := 114) (z := (FP.dsub c1 d152)) rfl (hb hby d5_113) (dy_noNaN q154) rfl ?_
  refine g_absD (fun d154 hd154 => ?_)
  rw [← hd154] at q154
  obtain ⟨n154, en154⟩ : ∃ z : Int, z = n153 - n152 := ⟨_, rfl⟩
  rw [← en154] at q154
  have b154 : n154.natAbs ≤ 576 := by rw [en154]; exact Nat.le_trans (own_subl b153 b152) (by decide)
  refine g_dastore X148 hx hZ V148 (i := 1) (by decide) (show (1 : Nat) < 12 by decide) hg (pc' := 115) rfl (hb hby d5_114) (fun T155 h155 X155 W155 N155 => ?_)
  have f156 := f149.other W155 hne
  have f157 := (by have q := (Keep.of_wr W155).1; exact Nat.le_trans f150 q : n0 ≤ h155.size)
  have f158 := f151.wr W155 (Or.inl (List.mem_of_getElem? (i := 0) rfl))
  have V155 : AD Z h155 ca [d147, d154, c2, c3, c4, c5, c6, c7, c8, c9, c10, c11] := N155
  refine g_iincC X155 hx (pc' := 118) (x := (0 : Int32)) (z := (1 : Int32)) rfl (hb hby d5_115) rfl (by decide) (l' := #[.val (.ref ta), .val (.int (4 : Int32)), .val (.int (2 : Int32)), .val (.ref ca), .val (.int (1 : Int32)), .val (.int (0 : Int32)), .val (.int (0 : Int32)), .val (.double t0), .second, .val (.int (1 : Int32)), .val (.double t1), .second, .val (.int (1 : Int32)), .val (.int (1 : Int32))]) rfl ?_
  refine g_goto X155 hx (pc' := 88) (hb hby d5_118) (by decide) (by decide) ?_
  refine g_iload X155 hx (pc' := 90) rfl (hb hby d5_88) rfl ?_
  refine g_iload X155 hx (pc' := 92) rfl (hb hby d5_90) rfl ?_
  refine g_icmpY X155 hx (pcY := 121) (hb hby d5_92) (by decide) (by decide) (show ¬ (1 : Int32) < (1 : Int32) from by decide) ?_
  refine g_iincC X155 hx (pc' := 124) (x := (1 : Int32)) (z := (2 : Int32)) rfl (hb hby d5_121) rfl (by decide) (l' := #[.val (.ref ta), .val (.int (4 : Int32)), .val (.int (2 : Int32)), .val (.ref ca), .val (.int (1 : Int32)), .val (.int (0 : Int32)), .val (.int (0 : Int32)), .val (.double t0), .second, .val (.int (2 : Int32)), .val (.double t1), .second, .val (.int (1 : Int32)), .val (.int (1 : Int32))]) rfl ?_
  refine g_goto X155 hx (pc' := 61) (hb hby d5_124) (by decide) (by decide) ?_
  refine g_iload X155 hx (pc' := 63) rfl (hb hby d5_61) rfl ?_
  refine g_iloadN X155 hx (pc' := 64) rfl (hb hby d5_63) rfl ?_
  refine g_icmpY X155 hx (pcY := 127) (hb hby d5_64) (by decide) (by decide) (show ¬ (2 : Int32) < (2 : Int32) from by decide) ?_
  refine g_iincC X155 hx (pc' := 130) (x := (0 : Int32)) (z := (1 : Int32)) rfl (hb hby d5_127) rfl (by decide) (l' := #[.val (.ref ta), .val (.int (4 : Int32)), .val (.int (2 : Int32)), .val (.ref ca), .val (.int (1 : Int32)), .val (.int (1 : Int32)), .val (.int (0 : Int32)), .val (.double t0), .second, .val (.int (2 : Int32)), .val (.double t1), .second, .val (.int (1 : Int32)), .val (.int (1 : Int32))]) rfl ?_
  refine g_goto X155 hx (pc' := 3) (hb hby d5_130) (by decide) (by decide) ?_
  refine g_iload X155 hx (pc' := 5) rfl (hb hby d5_3) rfl ?_
  refine g_iloadN X155 hx (pc' := 6) rfl (hb hby d5_5) rfl ?_
  refine g_icmpN X155 hx (pcN := 9) (hb hby d5_6) rfl (show ¬ (¬ (1 : Int32) < (2 : Int32)) from by decide) ?_
  refine g_iload X155 hx (pc' := 11) rfl (hb hby d5_9) rfl ?_
  refine g_iload X155 hx (pc' := 13) rfl (hb hby d5_11) rfl ?_
  refine g_imul X155 hx (pc' := 14) rfl (hb hby d5_13) ?_
  refine g_normI (z := (1 : Int32)) (by decide) ?_
  refine g_istore X155 hx (pc' := 16) rfl (hb hby d5_14) (l' := #[.val (.ref ta), .val (.int (4 : Int32)), .val (.int (2 : Int32)), .val (.ref ca), .val (.int (1 : Int32)), .val (.int (1 : Int32)), .val (.int (1 : Int32)), .val (.double t0), .second, .val (.int (2 : Int32)), .val (.double t1), .second, .val (.int (1 : Int32)), .val (.int (1 : Int32))]) rfl ?_
  refine g_aloadN X155 hx (pc' := 17) rfl (hb hby d5_16) rfl rfl ?_
  refine g_iload X155 hx (pc' := 19) rfl (hb hby d5_17) rfl ?_
  refine g_iloadN X155 hx (pc' := 20) rfl (hb hby d5_19) rfl ?_
  refine g_imul X155 hx (pc' := 21) rfl (hb hby d5_20) ?_
  refine g_normI (z := (4 : Int32)) (by decide) ?_
  refine g_iload X155 hx (pc' := 23) rfl (hb hby d5_21) rfl ?_
  refine g_iadd X155 hx (pc' := 24) rfl (hb hby d5_23) ?_
  refine g_normI (z := (5 : Int32)) (by decide) ?_
  refine g_daload X155 hx hZ f156 (i := 5) (by decide) (show (5 : Nat) < 16 by decide) (v := t5) rfl (pc' := 25) rfl (hb hby d5_24) ?_
  refine g_dstore X155 hx (pc' := 27) rfl (hb hby d5_25) (l' := #[.val (.ref ta), .val (.int (4 : Int32)), .val (.int (2 : Int32)), .val (.ref ca), .val (.int (1 : Int32)), .val (.int (1 : Int32)), .val (.int (1 : Int32)), .val (.double t5), .second, .val (.int (2 : Int32)), .val (.double t1), .second, .val (.int (1 : Int32)), .val (.int (1 : Int32))]) rfl ?_
  refine g_iconst X155 hx (pc' := 28) (z := (0 : Int32)) rfl (hb hby d5_27) rfl ?_
  refine g_istore X155 hx (pc' := 30) rfl (hb hby d5_28) (l' := #[.val (.ref ta), .val (.int (4 : Int32)), .val (.int (2 : Int32)), .val (.ref ca), .val (.int (1 : Int32)), .val (.int (1 : Int32)), .val (.int (1 : Int32)), .val (.double t5), .second, .val (.int (0 : Int32)), .val (.double t1), .second, .val (.int (1 : Int32)), .val (.int (1 : Int32))]) rfl ?_
  refine g_iload X155 hx (pc' := 32) rfl (hb hby d5_30) rfl ?_
  refine g_iload X155 hx (pc' := 34) rfl (hb hby d5_32) rfl ?_
  refine g_icmpN X155 hx (pcN := 37) (hb hby d5_34) rfl (show ¬ (¬ (0 : Int32) < (1 : Int32)) from by decide) ?_
  refine g_aloadN X155 hx (pc' := 38) rfl (hb hby d5_37) rfl rfl ?_
  refine g_iload X155 hx (pc' := 40) rfl (hb hby d5_38) rfl ?_
  refine g_iload X155 hx (pc' := 42) rfl (hb hby d5_40) rfl ?_
  refine g_iadd X155 hx (pc' := 43) rfl (hb hby d5_42) ?_
  refine g_normI (z := (1 : Int32)) (by decide) ?_
  refine g_dup2 X155 hx (pc' := 44) rfl (hb hby d5_43) rfl rfl ?_
  refine g_daload X155 hx hZ V155 (i := 1) (by decide) (show (1 : Nat) < 12 by decide) (v := d154) rfl (pc' := 45) rfl (hb hby d5_44) ?_
  refine g_dload X155 hx (pc' := 47) rfl (hb hby d5_45) rfl ?_
  have q159 : Dy (n154 * e5) 1068 (FP.ddiv d154 t5) := dy_div (dy_shift 3 (j := 1068) q154) yt5 hz5 (own_divq he5) rfl (own_mb b154 be5 (by decide)) (by decide)
  refine g_ddiv X155 hx (pc' := 48) (z := (FP.ddiv d154 t5)) rfl (hb hby d5_47) (dy_noNaN q159) rfl ?_
  refine g_absD (fun d159 hd159 => ?_)
  rw [← hd159] at q159
  obtain ⟨n159, en159⟩ : ∃ z : Int, z = n154 * e5 := ⟨_, rfl⟩
  rw [← en159] at q159
  have b159 : n159.natAbs ≤ 4608 := by rw [en159, Int.natAbs_mul]; exact Nat.le_trans (Nat.mul_le_mul b154 be5) (by decide)
  refine g_dastore X155 hx hZ V155 (i := 1) (by decide) (show (1 : Nat) < 12 by decide) hg (pc' := 49) rfl (hb hby d5_48) (fun T160 h160 X160 W160 N160 => ?_)
  have f161 := f156.other W160 hne
  have f162 := (by have q := (Keep.of_wr W160).1; exact Nat.le_trans f157 q : n0 ≤ h160.size)
  have f163 := f158.wr W160 (Or.inl (List.mem_of_getElem? (i := 0) rfl))
  have V160 : AD Z h160 ca [d147, d159, c2, c3, c4, c5, c6, c7, c8, c9, c10, c11] := N160
  refine g_iincC X160 hx (pc' := 52) (x := (0 : Int32)) (z := (1 : Int32)) rfl (hb hby d5_49) rfl (by decide) (l' := #[.val (.ref ta), .val (.int (4 : Int32)), .val (.int (2 : Int32)), .val (.ref ca), .val (.int (1 : Int32)), .val (.int (1 : Int32)), .val (.int (1 : Int32)), .val (.double t5), .second, .val (.int (1 : Int32)), .val (.double t1), .second, .val (.int (1 : Int32)), .val (.int (1 : Int32))]) rfl ?_
  refine g_goto X160 hx (pc' := 30) (hb hby d5_52) (by decide) (by decide) ?_
  refine g_iload X160 hx (pc' := 32) rfl (hb hby d5_30) rfl ?_
  refine g_iload X160 hx (pc' := 34) rfl (hb hby d5_32) rfl ?_
  refine g_icmpY X160 hx (pcY := 55) (hb hby d5_34) (by decide) (by decide) (show ¬ (1 : Int32) < (1 : Int32) from by decide) ?_
  refine g_iload X160 hx (pc' := 57) rfl (hb hby d5_55) rfl ?_
  refine g_iconst X160 hx (pc' := 58) (z := (1 : Int32)) rfl (hb hby d5_57) rfl ?_
  refine g_iadd X160 hx (pc' := 59) rfl (hb hby d5_58) ?_
  refine g_normI (z := (2 : Int32)) (by decide) ?_
  refine g_istore X160 hx (pc' := 61) rfl (hb hby d5_59) (l' := #[.val (.ref ta), .val (.int (4 : Int32)), .val (.int (2 : Int32)), .val (.ref ca), .val (.int (1 : Int32)), .val (.int (1 : Int32)), .val (.int (1 : Int32)), .val (.double t5), .second, .val (.int (2 : Int32)), .val (.double t1), .second, .val (.int (1 : Int32)), .val (.int (1 : Int32))]) rfl ?_
  refine g_iload X160 hx (pc' := 63) rfl (hb hby d5_61) rfl ?_
  refine g_iloadN X160 hx (pc' := 64) rfl (hb hby d5_63) rfl ?_
  refine g_icmpY X160 hx (pcY := 127) (hb hby d5_64) (by decide) (by decide) (show ¬ (2 : Int32) < (2 : Int32) from by decide) ?_
  refine g_iincC X160 hx (pc' := 130) (x := (1 : Int32)) (z := (2 : Int32)) rfl (hb hby d5_127) rfl (by decide) (l' := #[.val (.ref ta), .val (.int (4 : Int32)), .val (.int (2 : Int32)), .val (.ref ca), .val (.int (1 : Int32)), .val (.int (2 : Int32)), .val (.int (1 : Int32)), .val (.double t5), .second, .val (.int (2 : Int32)), .val (.double t1), .second, .val (.int (1 : Int32)), .val (.int (1 : Int32))]) rfl ?_
  refine g_goto X160 hx (pc' := 3) (hb hby d5_130) (by decide) (by decide) ?_
  refine g_iload X160 hx (pc' := 5) rfl (hb hby d5_3) rfl ?_
  refine g_iloadN X160 hx (pc' := 6) rfl (hb hby d5_5) rfl ?_
  refine g_icmpY X160 hx (pcY := 133) (hb hby d5_6) (by decide) (by decide) (show ¬ (2 : Int32) < (2 : Int32) from by decide) ?_
  exact g_retV X160 hx hlk hret (hb hby d5_133) (by decide) (by decide) (⟨rfl, f163, _, V160, rfl, own_all12 (Chk.b0 (by decide) (by decide) (own_S0 yt0 q147 yc0 bt0 b147 (by rw [en147]; exact own_f0 he0))) (Chk.b1 (by decide) (by decide) (own_S1 yt5 q159 yt1 q147 yc1 bt5 b159 bt1 b147 (by rw [en159, en154, en153, en152]; exact own_f1 he5))) (Chk.a (by decide) (own_dyeq yc2 yc2 rfl)) (Chk.a (by decide) (own_dyeq yc3 yc3 rfl)) (Chk.a (by decide) (own_dyeq yc4 yc4 rfl)) (Chk.a (by decide) (own_dyeq yc5 yc5 rfl)) (Chk.a (by decide) (own_dyeq yc6 yc6 rfl)) (Chk.a (by decide) (own_dyeq yc7 yc7 rfl)) (Chk.a (by decide) (own_dyeq yc8 yc8 rfl)) (Chk.a (by decide) (own_dyeq yc9 yc9 rfl)) (Chk.a (by decide) (own_dyeq yc10 yc10 rfl)) (Chk.a (by decide) (own_dyeq yc11 yc11 rfl))⟩)
set_option maxRecDepth 65536 in
set_option maxHeartbeats 40000000 in
theorem rm5_2_2 (l : Launch) (Z : State) (a0 : Array Value) (hw : ∀ d ∈ tables_1, d.before a0 Z = true) (ws : List Jvm.Cond) (n0 : Nat) (ta ca : Addr) (t0 : UInt64) (t1 : UInt64) (t2 : UInt64) (t3 : UInt64) (t4 : UInt64) (t5 : UInt64) (t6 : UInt64) (t7 : UInt64) (t8 : UInt64) (t9 : UInt64) (t10 : UInt64) (t11 : UInt64) (t12 : UInt64) (t13 : UInt64) (t14 : UInt64) (t15 : UInt64) (mt0 : Int) (mt1 : Int) (mt2 : Int) (mt5 : Int) (mt6 : Int) (mt10 : Int) (e0 : Int) (e5 : Int) (e10 : Int) (c0 : UInt64) (mc0 : Int) (c1 : UInt64) (mc1 : Int) (c2 : UInt64) (mc2 : Int) (c3 : UInt64) (mc3 : Int) (c4 : UInt64) (mc4 : Int) (c5 : UInt64) (mc5 : Int) (c6 : UInt64) (mc6 : Int) (c7 : UInt64) (mc7 : Int) (c8 : UInt64) (mc8 : Int) (c9 : UInt64) (mc9 : Int) (c10 : UInt64) (mc10 : Int) (c11 : UInt64) (mc11 : Int) (h0 : Heap) (hn0 : n0 ≤ h0.size) (At : AD Z h0 ta [t0, t1, t2, t3, t4, t5, t6, t7, t8, t9, t10, t11, t12, t13, t14, t15]) (Ac : AD Z h0 ca [c0, c1, c2, c3, c4, c5, c6, c7, c8, c9, c10, c11]) (hne : ta ≠ ca) (hg : n0 ≤ ca) (yc0 : Dy mc0 1074 c0) (bc0 : mc0.natAbs ≤ 8) (yc1 : Dy mc1 1074 c1) (bc1 : mc1.natAbs ≤ 8) (yc2 : Dy mc2 1074 c2) (bc2 : mc2.natAbs ≤ 8) (yc3 : Dy mc3 1074 c3) (bc3 : mc3.natAbs ≤ 8) (yc4 : Dy mc4 1074 c4) (bc4 : mc4.natAbs ≤ 8) (yc5 : Dy mc5 1074 c5) (bc5 : mc5.natAbs ≤ 8) (yc6 : Dy mc6 1074 c6) (bc6 : mc6.natAbs ≤ 8) (yc7 : Dy mc7 1074 c7) (bc7 : mc7.natAbs ≤ 8) (yc8 : Dy mc8 1074 c8) (bc8 : mc8.natAbs ≤ 8) (yc9 : Dy mc9 1074 c9) (bc9 : mc9.natAbs ≤ 8) (yc10 : Dy mc10 1074 c10) (bc10 : mc10.natAbs ≤ 8) (yc11 : Dy mc11 1074 c11) (bc11 : mc11.natAbs ≤ 8) (yt0 : Dy mt0 1074 t0) (bt0 : mt0.natAbs ≤ 8) (yt1 : Dy mt1 1074 t1) (bt1 : mt1.natAbs ≤ 8) (yt2 : Dy mt2 1074 t2) (bt2 : mt2.natAbs ≤ 8) (yt5 : Dy mt5 1074 t5) (bt5 : mt5.natAbs ≤ 8) (yt6 : Dy mt6 1074 t6) (bt6 : mt6.natAbs ≤ 8) (yt10 : Dy mt10 1074 t10) (bt10 : mt10.natAbs ≤ 8) (he0 : mt0 * e0 = 8) (hz0 : mt0 ≠ 0) (be0 : e0.natAbs ≤ 8) (he5 : mt5 * e5 = 8) (hz5 : mt5 ≠ 0) (be5 : e5.natAbs ≤ 8) (he10 : mt10 * e10 = 8) (hz10 : mt10 ≠ 0) (be10 : e10.natAbs ≤ 8) :
    Con l Z n0 (⟨"com/example/orthogon/orthogon/Triangular", "solveUpperTransposed", "([DII[DI)V"⟩ : MethodName) prog_16_method_4_code 14 none ws ({ frames := 0, cells := 0, slots := 0, locals := 0 } : Room) #[(.ref ta), (.int (4 : Int32)), (.int (2 : Int32)), (.ref ca), (.int (2 : Int32))] h0 (fun v h => v = none ∧ Keep h0 h [ca] ∧ ∃ xs, AD Z h ca xs ∧ xs.length = 12 ∧ ChkAll [t0, t1, t2, t3, t4, t5, t6, t7, t8, t9, t10, t11, t12, t13, t14, t15] xs [c0, c1, c2, c3, c4, c5, c6, c7, c8, c9, c10, c11] (2 : Int32) (2 : Int32)) := by
  refine con_start (plainFor_of_name (by first | (simp [plainName, overriddenIn]; done) | decide +kernel)) (fr0 := fun m => mkF m 0 #[.val (.ref ta), .val (.int (4 : Int32)), .val (.int (2 : Int32)), .val (.ref ca), .val (.int (2 : Int32)), .unset, .unset, .unset, .unset, .unset, .unset, .unset, .unset, .unset] []) (fun m => by first | (simp [entryFrame, mkF, argsToLocals, Value.category]; done) | rfl) ?_
  intro p e s m below meth c T0 hx hZ hby hml hown hnm hret hlk X0
  replace hown : s.vm.findClass "com/example/orthogon/orthogon/Triangular" = some m.cls := hown
  replace hml : c.maxLocals = 14 := hml
  refine g_iconst X0 hx (pc' := 1) (z := (0 : Int32)) rfl (hb hby d5_0) rfl ?_
  refine g_istore X0 hx (pc' := 3) rfl (hb hby d5_1) (l' := #[.val (.ref ta), .val (.int (4 : Int32)), .val (.int (2 : Int32)), .val (.ref ca), .val (.int (2 : Int32)), .val (.int (0 : Int32)), .unset, .unset, .unset, .unset, .unset, .unset, .unset, .unset]) rfl ?_
  refine g_iload X0 hx (pc' := 5) rfl (hb hby d5_3) rfl ?_
  refine g_iloadN X0 hx (pc' := 6) rfl (hb hby d5_5) rfl ?_
  refine g_icmpN X0 hx (pcN := 9) (hb hby d5_6) rfl (show ¬ (¬ (0 : Int32) < (2 : Int32)) from by decide) ?_
  refine g_iload X0 hx (pc' := 11) rfl (hb hby d5_9) rfl ?_
  refine g_iload X0 hx (pc' := 13) rfl (hb hby d5_11) rfl ?_
  refine g_imul X0 hx (pc' := 14) rfl (hb hby d5_13) ?_
  refine g_normI (z := (0 : Int32)) (by decide) ?_
  refine g_istore X0 hx (pc' := 16) rfl (hb hby d5_14) (l' := #[.val (.ref ta), .val (.int (4 : Int32)), .val (.int (2 : Int32)), .val (.ref ca), .val (.int (2 : Int32)), .val (.int (0 : Int32)), .val (.int (0 : Int32)), .unset, .unset, .unset, .unset, .unset, .unset, .unset]) rfl ?_
  refine g_aloadN X0 hx (pc' := 17) rfl (hb hby d5_16) rfl rfl ?_
  refine g_iload X0 hx (pc' := 19) rfl (hb hby d5_17) rfl ?_
  refine g_iloadN X0 hx (pc' := 20) rfl (hb hby d5_19) rfl ?_
  refine g_imul X0 hx (pc' := 21) rfl (hb hby d5_20) ?_
  refine g_normI (z := (0 : Int32)) (by decide) ?_
  refine g_iload X0 hx (pc' := 23) rfl (hb hby d5_21) rfl ?_
  refine g_iadd X0 hx (pc' := 24) rfl (hb hby d5_23) ?_
  refine g_normI (z := (0 : Int32)) (by decide) ?_
  refine g_daload X0 hx hZ At (i := 0) (by decide) (show (0 : Nat) < 16 by decide) (v := t0) rfl (pc' := 25) rfl (hb hby d5_24) ?_
  refine g_dstore X0 hx (pc' := 27) rfl (hb hby d5_25) (l' := #[.val (.ref ta), .val (.int (4 : Int32)), .val (.int (2 : Int32)), .val (.ref ca), .val (.int (2 : Int32)), .val (.int (0 : Int32)), .val (.int (0 : Int32)), .val (.double t0), .second, .unset, .unset, .unset, .unset, .unset]) rfl ?_
  refine g_iconst X0 hx (pc' := 28) (z := (0 : Int32)) rfl (hb hby d5_27) rfl ?_
  refine g_istore X0 hx (pc' := 30) rfl (hb hby d5_28) (l' := #[.val (.ref ta), .val (.int (4 : Int32)), .val (.int (2 : Int32)), .val (.ref ca), .val (.int (2 : Int32)), .val (.int (0 : Int32)), .val (.int (0 : Int32)), .val (.double t0), .second, .val (.int (0 : Int32)), .unset, .unset, .unset, .unset]) rfl ?_
  refine g_iload X0 hx (pc' := 32) rfl (hb hby d5_30) rfl ?_
  refine g_iload X0 hx (pc' := 34) rfl (hb hby d5_32) rfl ?_
  refine g_icmpN X0 hx (pcN := 37) (hb hby d5_34) rfl (show ¬ (¬ (0 : Int32) < (2 : Int32)) from by decide) ?_
  refine g_aloadN X0 hx (pc' := 38) rfl (hb hby d5_37) rfl rfl ?_
  refine g_iload X0 hx (pc' := 40) rfl (hb hby d5_38) rfl ?_
  refine g_iload X0 hx (pc' := 42) rfl (hb hby d5_40) rfl ?_
  refine g_iadd X0 hx (pc' := 43) rfl (hb hby d5_42) ?_
  refine g_normI (z := (0 : Int32)) (by decide) ?_
  refine g_dup2 X0 hx (pc' := 44) rfl (hb hby d5_43) rfl rfl ?_
  refine g_daload X0 hx hZ Ac (i := 0) (by decide) (show (0 : Nat) < 12 by decide) (v := c0) rfl (pc' := 45) rfl (hb hby d5_44) ?_
  refine g_dload X0 hx (pc' := 47) rfl (hb hby d5_45) rfl ?_
  have q164 : Dy (mc0 * e0) 1071 (FP.ddiv c0 t0) := dy_div (dy_shift 3 (j := 1071) yc0) yt0 hz0 (own_divq he0) rfl (own_mb bc0 be0 (by decide)) (by decide)
  refine g_ddiv X0 hx (pc' := 48) (z := (FP.ddiv c0 t0)) rfl (hb hby d5_47) (dy_noNaN q164) rfl ?_
  refine g_absD (fun d164 hd164 => ?_)
  rw [← hd164] at q164
  obtain ⟨n164, en164⟩ : ∃ z : Int, z = mc0 * e0 := ⟨_, rfl⟩
  rw [← en164] at q164
  have b164 : n164.natAbs ≤ 64 := by rw [en164, Int.natAbs_mul]; exact Nat.le_trans (Nat.mul_le_mul bc0 be0) (by decide)
  refine g_dastore X0 hx hZ Ac (i := 0) (by decide) (show (0 : Nat) < 12 by decide) hg (pc' := 49) rfl (hb hby d5_48) (fun T165 h165 X165 W165 N165 => ?_)
  have f166 := At.other W165 hne
  have f167 := (by have q := (Keep.of_wr W165).1; exact Nat.le_trans hn0 q : n0 ≤ h165.size)
  have f168 := (Keep.refl h0 [ca]).wr W165 (Or.inl (List.mem_of_getElem? (i := 0) rfl))
  have V165 : AD Z h165 ca [d164, c1, c2, c3, c4, c5, c6, c7, c8, c9, c10, c11] := N165
  refine g_iincC X165 hx (pc' := 52) (x := (0 : Int32)) (z := (1 : Int32)) rfl (hb hby d5_49) rfl (by decide) (l' := #[.val (.ref ta), .val (.int (4 : Int32)), .val (.int (2 : Int32)), .val (.ref ca), .val (.int (2 : Int32)), .val (.int (0 : Int32)), .val (.int (0 : Int32)), .val (.double t0), .second, .val (.int (1 : Int32)), .unset, .unset, .unset, .unset]) rfl ?_
  refine g_goto X165 hx (pc' := 30) (hb hby d5_52) (by decide) (by decide) ?_
  refine g_iload X165 hx (pc' := 32) rfl (hb hby d5_30) rfl ?_
  refine g_iload X165 hx (pc' := 34) rfl (hb hby d5_32) rfl ?_
  refine g_icmpN X165 hx (pcN := 37) (hb hby d5_34) rfl (show ¬ (¬ (1 : Int32) < (2 : Int32)) from by decide) ?_
  refine g_aloadN X165 hx (pc' := 38) rfl (hb hby d5_37) rfl rfl ?_
  refine g_iload X165 hx (pc' := 40) rfl (hb hby d5_38) rfl ?_
  refine g_iload X165 hx (pc' := 42) rfl (hb hby d5_40) rfl ?_
  refine g_iadd X165 hx (pc' := 43) rfl (hb hby d5_42) ?_
  refine g_normI (z := (1 : Int32)) (by decide) ?_
  refine g_dup2 X165 hx (pc' := 44) rfl (hb hby d5_43) rfl rfl ?_
  refine g_daload X165 hx hZ V165 (i := 1) (by decide) (show (1 : Nat) < 12 by decide) (v := c1) rfl (pc' := 45) rfl (hb hby d5_44) ?_
  refine g_dload X165 hx (pc' := 47) rfl (hb hby d5_45) rfl ?_
  have q169 : Dy (mc1 * e0) 1071 (FP.ddiv c1 t0) := dy_div (dy_shift 3 (j := 1071) yc1) yt0 hz0 (own_divq he0) rfl (own_mb bc1 be0 (by decide)) (by decide)
  refine g_ddiv X165 hx (pc' := 48) (z := (FP.ddiv c1 t0)) rfl (hb hby d5_47) (dy_noNaN q169) rfl ?_
  refine g_absD (fun d169 hd169 => ?_)
  rw [← hd169] at q169
  obtain ⟨n169, en169⟩ : ∃ z : Int, z = mc1 * e0 := ⟨_, rfl⟩
  rw [← en169] at q169
  have b169 : n169.natAbs ≤ 64 := by rw [en169, Int.natAbs_mul]; exact Nat.le_trans (Nat.mul_le_mul bc1 be0) (by decide)
  refine g_dastore X165 hx hZ V165 (i := 1) (by decide) (show (1 : Nat) < 12 by decide) hg (pc' := 49) rfl (hb hby d5_48) (fun T170 h170 X170 W170 N170 => ?_)
  have f171 := f166.other W170 hne
  have f172 := (by have q := (Keep.of_wr W170).1; exact Nat.le_trans f167 q : n0 ≤ h170.size)
  have f173 := f168.wr W170 (Or.inl (List.mem_of_getElem? (i := 0) rfl))
  have V170 : AD Z h170 ca [d164, d169, c2, c3, c4, c5, c6, c7, c8, c9, c10, c11] := N170
  refine g_iincC X170 hx (pc' := 52) (x := (1 : Int32)) (z := (2 : Int32)) rfl (hb hby d5_49) rfl (by decide) (l' := #[.val (.ref ta), .val (.int (4 : Int32)), .val (.int (2 : Int32)), .val (.ref ca), .val (.int (2 : Int32)), .val (.int (0 : Int32)), .val (.int (0 : Int32)), .val (.double t0), .second, .val (.int (2 : Int32)), .unset, .unset, .unset, .unset]) rfl ?_
  refine g_goto X170 hx (pc' := 30) (hb hby d5_52) (by decide) (by decide) ?_
  refine g_iload X170 hx (pc' := 32) rfl (hb hby d5_30) rfl ?_
  refine g_iload X170 hx (pc' := 34) rfl (hb hby d5_32) rfl ?_
  refine g_icmpY X170 hx (pcY := 55) (hb hby d5_34) (by decide) (by decide) (show ¬ (2 : Int32) < (2 : Int32) from by decide) ?_
  refine g_iload X170 hx (pc' := 57) rfl (hb hby d5_55) rfl ?_
  refine g_iconst X170 hx (pc' := 58) (z := (1 : Int32)) rfl (hb hby d5_57) rfl ?_
  refine g_iadd X170 hx (pc' := 59) rfl (hb hby d5_58) ?_
  refine g_normI (z := (1 : Int32)) (by decide) ?_
  refine g_istore X170 hx (pc' := 61) rfl (hb hby d5_59) (l' := #[.val (.ref ta), .val (.int (4 : Int32)), .val (.int (2 : Int32)), .val (.ref ca), .val (.int (2 : Int32)), .val (.int (0 : Int32)), .val (.int (0 : Int32)), .val (.double t0), .second, .val (.int (1 : Int32)), .unset, .unset, .unset, .unset]) rfl ?_
  refine g_iload X170 hx (pc' := 63) rfl (hb hby d5_61) rfl ?_
  refine g_iloadN X170 hx (pc' := 64) rfl (hb hby d5_63) rfl ?_
  refine g_icmpN X170 hx (pcN := 67) (hb hby d5_64) rfl (show ¬ (¬ (1 : Int32) < (2 : Int32)) from by decide) ?_
  refine g_aloadN X170 hx (pc' := 68) rfl (hb hby d5_67) rfl rfl ?_
  refine g_iload X170 hx (pc' := 70) rfl (hb hby d5_68) rfl ?_
  refine g_iloadN X170 hx (pc' := 71) rfl (hb hby d5_70) rfl ?_
  refine g_imul X170 hx (pc' := 72) rfl (hb hby d5_71) ?_
  refine g_normI (z := (0 : Int32)) (by decide) ?_
  refine g_iload X170 hx (pc' := 74) rfl (hb hby d5_72) rfl ?_
  refine g_iadd X170 hx (pc' := 75) rfl (hb hby d5_74) ?_
  refine g_normI (z := (1 : Int32)) (by decide) ?_
  refine g_daload X170 hx hZ f171 (i := 1) (by decide) (show (1 : Nat) < 16 by decide) (v := t1) rfl (pc' := 76) rfl (hb hby d5_75) ?_
  refine g_dstore X170 hx (pc' := 78) rfl (hb hby d5_76) (l' := #[.val (.ref ta), .val (.int (4 : Int32)), .val (.int (2 : Int32)), .val (.ref ca), .val (.int (2 : Int32)), .val (.int (0 : Int32)), .val (.int (0 : Int32)), .val (.double t0), .second, .val (.int (1 : Int32)), .val (.double t1), .second, .unset, .unset]) rfl ?_
  refine g_iload X170 hx (pc' := 80) rfl (hb hby d5_78) rfl ?_
  refine g_iload X170 hx (pc' := 82) rfl (hb hby d5_80) rfl ?_
  refine g_imul X170 hx (pc' := 83) rfl (hb hby d5_82) ?_
  refine g_normI (z := (2 : Int32)) (by decide) ?_
  refine g_istore X170 hx (pc' := 85) rfl (hb hby d5_83) (l' := #[.val (.ref ta), .val (.int (4 : Int32)), .val (.int (2 : Int32)), .val (.ref ca), .val (.int (2 : Int32)), .val (.int (0 : Int32)), .val (.int (0 : Int32)), .val (.double t0), .second, .val (.int (1 : Int32)), .val (.double t1), .second, .val (.int (2 : Int32)), .unset]) rfl ?_
  refine g_iconst X170 hx (pc' := 86) (z := (0 : Int32)) rfl (hb hby d5_85) rfl ?_
  refine g_istore X170 hx (pc' := 88) rfl (hb hby d5_86) (l' := #[.val (.ref ta), .val (.int (4 : Int32)), .val (.int (2 : Int32)), .val (.ref ca), .val (.int (2 : Int32)), .val (.int (0 : Int32)), .val (.int (0 : Int32)), .val (.double t0), .second, .val (.int (1 : Int32)), .val (.double t1), .second, .val (.int (2 : Int32)), .val (.int (0 : Int32))]) rfl ?_
  refine g_iload X170 hx (pc' := 90) rfl (hb hby d5_88) rfl ?_
  refine g_iload X170 hx (pc' := 92) rfl (hb hby d5_90) rfl ?_
  refine g_icmpN X170 hx (pcN := 95) (hb hby d5_92) rfl (show ¬ (¬ (0 : Int32) < (2 : Int32)) from by decide) ?_
  refine g_aloadN X170 hx (pc' := 96) rfl (hb hby d5_95) rfl rfl ?_
  refine g_iload X170 hx (pc' := 98) rfl (hb hby d5_96) rfl ?_
  refine g_iload X170 hx (pc' := 100) rfl (hb hby d5_98) rfl ?_
  refine g_iadd X170 hx (pc' := 101) rfl (hb hby d5_100) ?_
  refine g_normI (z := (2 : Int32)) (by decide) ?_
  refine g_dup2 X170 hx (pc' := 102) rfl (hb hby d5_101) rfl rfl ?_
  refine g_daload X170 hx hZ V170 (i := 2) (by decide) (show (2 : Nat) < 12 by decide) (v := c2) rfl (pc' := 103) rfl (hb hby d5_102) ?_
  refine g_dload X170 hx (pc' := 105) rfl (hb hby d5_103) rfl ?_
  refine g_aloadN X170 hx (pc' := 106) rfl (hb hby d5_105) rfl rfl ?_
  refine g_iload X170 hx (pc' := 108) rfl (hb hby d5_106) rfl ?_
  refine g_iload X170 hx (pc' := 110) rfl (hb hby d5_108) rfl ?_
  refine g_iadd X170 hx (pc' := 111) rfl (hb hby d5_110) ?_
  refine g_normI (z := (0 : Int32)) (by decide) ?_
  refine g_daload X170 hx hZ V170 (i := 0) (by decide) (show (0 : Nat) < 12 by decide) (v := d164) rfl (pc' := 112) rfl (hb hby d5_111) ?_
  have q174 : Dy (mt1 * n164) 1071 (FP.dmul t1 d164) := dy_mul yt1 q164 (by decide) (own_mb bt1 b164 (by decide)) (by decide)
  refine g_dmul X170 hx (pc' := 113) (z := (FP.dmul t1 d164)) rfl (hb hby d5_112) (dy_noNaN q174) rfl ?_
  refine g_absD (fun d174 hd174 => ?_)
  rw [← hd174] at q174
  obtain ⟨n174, en174⟩ : ∃ z : Int, z = mt1 * n164 := ⟨_, rfl⟩
  rw [← en174] at q174
  have b174 : n174.natAbs ≤ 512 := by rw [en174, Int.natAbs_mul]; exact Nat.le_trans (Nat.mul_le_mul bt1 b164) (by decide)
  obtain ⟨n175, en175⟩ : ∃ z : Int, z = mc2 * 8 := ⟨_, rfl⟩
  have q175 : Dy n175 1071 c2 := by rw [en175]; exact dy_shift 3 (j := 1071) yc2
  have b175 : n175.natAbs ≤ 64 := by rw [en175]; exact own_shl bc2 (by decide)
  have q176 : Dy (n175 - n174) 1071 (FP.dsub c2 d174) := dy_sub q175 q174 (own_subb b175 b174 (by decide)) (by decide)
  refine g_dsub X170 hx (pc' := 114) (z := (FP.dsub c2 d174)) rfl (hb hby d5_113) (dy_noNaN q176) rfl ?_
  refine g_absD (fun d176 hd176 => ?_)
  rw [← hd176] at q176
  obtain ⟨n176, en176⟩ : ∃ z : Int, z = n175 - n174 := ⟨_, rfl⟩
  rw [← en176] at q176
  have b176 : n176.natAbs ≤ 576 := by rw [en176]; exact Nat.le_trans (own_subl b175 b174) (by decide)
  refine g_dastore X170 hx hZ V170 (i := 2) (by decide) (show (2 : Nat) < 12 by decide) hg (pc' := 115) rfl (hb hby d5_114) (fun T177 h177 X177 W177 N177 => ?_)
  have f178 := f171.other W177 hne
  have f179 := (by have q := (Keep.of_wr W177).1; exact Nat.le_trans f172 q : n0 ≤ h177.size)
  have f180 := f173.wr W177 (Or.inl (List.mem_of_getElem? (i := 0) rfl))
  have V177 : AD Z h177 ca [d164, d169, d176, c3, c4, c5, c6, c7, c8, c9, c10, c11] := N177
  refine g_iincC X177 hx (pc' := 118) (x := (0 : Int32)) (z := (1 : Int32)) rfl (hb hby d5_115) rfl (by decide) (l' := #[.val (.ref ta), .val (.int (4 : Int32)), .val (.int (2 : Int32)), .val (.ref ca), .val (.int (2 : Int32)), .val (.int (0 : Int32)), .val (.int (0 : Int32)), .val (.double t0), .second, .val (.int (1 : Int32)), .val (.double t1), .second, .val (.int (2 : Int32)), .val (.int (1 : Int32))]) rfl ?_
  refine g_goto X177 hx (pc' := 88) (hb hby d5_118) (by decide) (by decide) ?_
  refine g_iload X177 hx (pc' := 90) rfl (hb hby d5_88) rfl ?_
  refine g_iload X177 hx (pc' := 92) rfl (hb hby d5_90) rfl ?_
  refine g_icmpN X177 hx (pcN := 95) (hb hby d5_92) rfl (show ¬ (¬ (1 : Int32) < (2 : Int32)) from by decide) ?_
  refine g_aloadN X177 hx (pc' := 96) rfl (hb hby d5_95) rfl rfl ?_
  refine g_iload X177 hx (pc' := 98) rfl (hb hby d5_96) rfl ?_
  refine g_iload X177 hx (pc' := 100) rfl (hb hby d5_98) rfl ?_
  refine g_iadd X177 hx (pc' := 101) rfl (hb hby d5_100) ?_
  refine g_normI (z := (3 : Int32)) (by decide) ?_
  refine g_dup2 X177 hx (pc' := 102) rfl (hb hby d5_101) rfl rfl ?_
  refine g_daload X177 hx hZ V177 (i := 3) (by decide) (show (3 : Nat) < 12 by decide) (v := c3) rfl (pc' := 103) rfl (hb hby d5_102) ?_
  refine g_dload X177 hx (pc' := 105) rfl (hb hby d5_103) rfl ?_
  refine g_aloadN X177 hx (pc' := 106) rfl (hb hby d5_105) rfl rfl ?_
  refine g_iload X177 hx (pc' := 108) rfl (hb hby d5_106) rfl ?_
  refine g_iload X177 hx (pc' := 110) rfl (hb hby d5_108) rfl ?_
  refine g_iadd X177 hx (pc' := 111) rfl (hb hby d5_110) ?_
  refine g_normI (z := (1 : Int32)) (by decide) ?_
  refine g_daload X177 hx hZ V177 (i := 1) (by decide) (show (1 : Nat) < 12 by decide) (v := d169) rfl (pc' := 112) rfl (hb hby d5_111) ?_
  have q181 : Dy (mt1 * n169) 1071 (FP.dmul t1 d169) := dy_mul yt1 q169 (by decide) (own_mb bt1 b169 (by decide)) (by decide)
  refine g_dmul X177 hx (pc' := 113) (z := (FP.dmul t1 d169)) rfl (hb hby d5_112) (dy_noNaN q181) rfl ?_
  refine g_absD (fun d181 hd181 => ?_)
  rw [← hd181] at q181
  obtain ⟨n181, en181⟩ : ∃ z : Int, z = mt1 * n169 := ⟨_, rfl⟩
  rw [← en181] at q181
  have b181 : n181.natAbs ≤ 512 := by rw [en181, Int.natAbs_mul]; exact Nat.le_trans (Nat.mul_le_mul bt1 b169) (by decide)
  obtain ⟨n182, en182⟩ : ∃ z : Int, z = mc3 * 8 := ⟨_, rfl⟩
  have q182 : Dy n182 1071 c3 := by rw [en182]; exact dy_shift 3 (j := 1071) yc3
  have b182 : n182.natAbs ≤ 64 := by rw [en182]; exact own_shl bc3 (by decide)
  have q183 : Dy (n182 - n181) 1071 (FP.dsub c3 d181) := dy_sub q182 q181 (own_subb b182 b181 (by decide)) (by decide)
  refine g_dsub X177 hx (pc' := 114) (z := (FP.dsub c3 d181)) rfl (hb hby d5_113) (dy_noNaN q183) rfl ?_
  refine g_absD (fun d183 hd183 => ?_)
  rw [← hd183] at q183
  obtain ⟨n183, en183⟩ : ∃ z : Int, z = n182 - n181 := ⟨_, rfl⟩
  rw [← en183] at q183
  have b183 : n183.natAbs ≤ 576 := by rw [en183]; exact Nat.le_trans (own_subl b182 b181) (by decide)
  refine g_dastore X177 hx hZ V177 (i := 3) (by decide) (show (3 : Nat) < 12 by decide) hg (pc' := 115) rfl (hb hby d5_114) (fun T184 h184 X184 W184 N184 => ?_)
  have f185 := f178.other W184 hne
  have f186 := (by have q := (Keep.of_wr W184).1; exact Nat.le_trans f179 q : n0 ≤ h184.size)
  have f187 := f180.wr W184 (Or.inl (List.mem_of_getElem? (i := 0) rfl))
  have V184 : AD Z h184 ca [d164, d169, d176, d183, c4, c5, c6, c7, c8, c9, c10, c11] := N184
  refine g_iincC X184 hx (pc' := 118) (x := (1 : Int32)) (z := (2 : Int32)) rfl (hb hby d5_115) rfl (by decide) (l' := #[.val (.ref ta), .val (.int (4 : Int32)), .val (.int (2 : Int32)), .val (.ref ca), .val (.int (2 : Int32)), .val (.int (0 : Int32)), .val (.int (0 : Int32)), .val (.double t0), .second, .val (.int (1 : Int32)), .val (.double t1), .second, .val (.int (2 : Int32)), .val (.int (2 : Int32))]) rfl ?_
  refine g_goto X184 hx (pc' := 88) (hb hby d5_118) (by decide) (by decide) ?_
  refine g_iload X184 hx (pc' := 90) rfl (hb hby d5_88) rfl ?_
  refine g_iload X184 hx (pc' := 92) rfl (hb hby d5_90) rfl ?_
  refine g_icmpY X184 hx (pcY := 121) (hb hby d5_92) (by decide) (by decide) (show ¬ (2 : Int32) < (2 : Int32) from by decide) ?_
  refine g_iincC X184 hx (pc' := 124) (x := (1 : Int32)) (z := (2 : Int32)) rfl (hb hby d5_121) rfl (by decide) (l' := #[.val (.ref ta), .val (.int (4 : Int32)), .val (.int (2 : Int32)), .val (.ref ca), .val (.int (2 : Int32)), .val (.int (0 : Int32)), .val (.int (0 : Int32)), .val (.double t0), .second, .val (.int (2 : Int32)), .val (.double t1), .second, .val (.int (2 : Int32)), .val (.int (2 : Int32))]) rfl ?_
  refine g_goto X184 hx (pc' := 61) (hb hby d5_124) (by decide) (by decide) ?_
  refine g_iload X184 hx (pc' := 63) rfl (hb hby d5_61) rfl ?_
  refine g_iloadN X184 hx (pc' := 64) rfl (hb hby d5_63) rfl ?_
  refine g_icmpY X184 hx (pcY := 127) (hb hby d5_64) (by decide) (by decide) (show ¬ (2 : Int32) < (2 : Int32) from by decide) ?_
  refine g_iincC X184 hx (pc' := 130) (x := (0 : Int32)) (z := (1 : Int32)) rfl (hb hby d5_127) rfl (by decide) (l' := #[.val (.ref ta), .val (.int (4 : Int32)), .val (.int (2 : Int32)), .val (.ref ca), .val (.int (2 : Int32)), .val (.int (1 : Int32)), .val (.int (0 : Int32)), .val (.double t0), .second, .val (.int (2 : Int32)), .val (.double t1), .second, .val (.int (2 : Int32)), .val (.int (2 : Int32))]) rfl ?_
  refine g_goto X184 hx (pc' := 3) (hb hby d5_130) (by decide) (by decide) ?_
  refine g_iload X184 hx (pc' := 5) rfl (hb hby d5_3) rfl ?_
  refine g_iloadN X184 hx (pc' := 6) rfl (hb hby d5_5) rfl ?_
  refine g_icmpN X184 hx (pcN := 9) (hb hby d5_6) rfl (show ¬ (¬ (1 : Int32) < (2 : Int32)) from by decide) ?_
  refine g_iload X184 hx (pc' := 11) rfl (hb hby d5_9) rfl ?_
  refine g_iload X184 hx (pc' := 13) rfl (hb hby d5_11) rfl ?_
  refine g_imul X184 hx (pc' := 14) rfl (hb hby d5_13) ?_
  refine g_normI (z := (2 : Int32)) (by decide) ?_
  refine g_istore X184 hx (pc' := 16) rfl (hb hby d5_14) (l' := #[.val (.ref ta), .val (.int (4 : Int32)), .val (.int (2 : Int32)), .val (.ref ca), .val (.int (2 : Int32)), .val (.int (1 : Int32)), .val (.int (2 : Int32)), .val (.double t0), .second, .val (.int (2 : Int32)), .val (.double t1), .second, .val (.int (2 : Int32)), .val (.int (2 : Int32))]) rfl ?_
  refine g_aloadN X184 hx (pc' := 17) rfl (hb hby d5_16) rfl rfl ?_
  refine g_iload X184 hx (pc' := 19) rfl (hb hby d5_17) rfl ?_
  refine g_iloadN X184 hx (pc' := 20) rfl (hb hby d5_19) rfl ?_
  refine g_imul X184 hx (pc' := 21) rfl (hb hby d5_20) ?_
  refine g_normI (z := (4 : Int32)) (by decide) ?_
  refine g_iload X184 hx (pc' := 23) rfl (hb hby d5_21) rfl ?_
  refine g_iadd X184 hx (pc' := 24) rfl (hb hby d5_23) ?_
  refine g_normI (z := (5 : Int32)) (by decide) ?_
  refine g_daload X184 hx hZ f185 (i := 5) (by decide) (show (5 : Nat) < 16 by decide) (v := t5) rfl (pc' := 25) rfl (hb hby d5_24) ?_
  refine g_dstore X184 hx (pc' := 27) rfl (hb hby d5_25) (l' := #[.val (.ref ta), .val (.int (4 : Int32)), .val (.int (2 : Int32)), .val (.ref ca), .val (.int (2 : Int32)), .val (.int (1 : Int32)), .val (.int (2 : Int32)), .val (.double t5), .second, .val (.int (2 : Int32)), .val (.double t1), .second, .val (.int (2 : Int32)), .val (.int (2 : Int32))]) rfl ?_
  refine g_iconst X184 hx (pc' := 28) (z := (0 : Int32)) rfl (hb hby d5_27) rfl ?_
  refine g_istore X184 hx (pc' := 30) rfl (hb hby d5_28) (l' := #[.val (.ref ta), .val (.int (4 : Int32)), .val (.int (2 : Int32)), .val (.ref ca), .val (.int (2 : Int32)), .val (.int (1 : Int32)), .val (.int (2 : Int32)), .val (.double t5), .second, .val (.int (0 : Int32)), .val (.double t1), .second, .val (.int (2 : Int32)), .val (.int (2 : Int32))]) rfl ?_
  refine g_iload X184 hx (pc' := 32) rfl (hb hby d5_30) rfl ?_
  refine g_iload X184 hx (pc' := 34) rfl (hb hby d5_32) rfl ?_
  refine g_icmpN X184 hx (pcN := 37) (hb hby d5_34) rfl (show ¬ (¬ (0 : Int32) < (2 : Int32)) from by decide) ?_
  refine g_aloadN X184 hx (pc' := 38) rfl (hb hby d5_37) rfl rfl ?_
  refine g_iload X184 hx (pc' := 40) rfl (hb hby d5_38) rfl ?_
  refine g_iload X184 hx (pc' := 42) rfl (hb hby d5_40) rfl ?_
  refine g_iadd X184 hx (pc' := 43) rfl (hb hby d5_42) ?_
  refine g_normI (z := (2 : Int32)) (by decide) ?_
  refine g_dup2 X184 hx (pc' := 44) rfl (hb hby d5_43) rfl rfl ?_
  refine g_daload X184 hx hZ V184 (i := 2) (by decide) (show (2 : Nat) < 12 by decide) (v := d176) rfl (pc' := 45) rfl (hb hby d5_44) ?_
  refine g_dload X184 hx (pc' := 47) rfl (hb hby d5_45) rfl ?_
  have q188 : Dy (n176 * e5) 1068 (FP.ddiv d176 t5) := dy_div (dy_shift 3 (j := 1068) q176) yt5 hz5 (own_divq he5) rfl (own_mb b176 be5 (by decide)) (by decide)
  refine g_ddiv X184 hx (pc' := 48) (z := (FP.ddiv d176 t5)) rfl (hb hby d5_47) (dy_noNaN q188) rfl ?_
  refine g_absD (fun d188 hd188 => ?_)
  rw [← hd188] at q188
  obtain ⟨n188, en188⟩ : ∃ z : Int, z = n176 * e5 := ⟨_, rfl⟩
  rw [← en188] at q188
  have b188 : n188.natAbs ≤ 4608 := by rw [en188, Int.natAbs_mul]; exact Nat.le_trans (Nat.mul_le_mul b176 be5) (by decide)
  refine g_dastore X184 hx hZ V184 (i := 2) (by decide) (show (2 : Nat) < 12 by decide) hg (pc' := 49) rfl (hb hby d5_48) (fun T189 h189 X189 W189 N189 => ?_)
  have f190 := f185.other W189 hne
  have f191 := (by have q := (Keep.of_wr W189).1; exact Nat.le_trans f186 q : n0 ≤ h189.size)
  have f192 := f187.wr W189 (Or.inl (List.mem_of_getElem? (i := 0) rfl))
  have V189 : AD Z h189 ca [d164, d169, d188, d183, c4, c5, c6, c7, c8, c9, c10, c11] := N189
  refine g_iincC X189 hx (pc' := 52) (x := (0 : Int32)) (z := (1 : Int32)) rfl (hb hby d5_49) rfl (by decide) (l' := #[.val (.ref ta), .val (.int (4 : Int32)), .val (.int (2 : Int32)), .val (.ref ca), .val (.int (2 : Int32)), .val (.int (1 : Int32)), .val (.int (2 : Int32)), .val (.double t5), .second, .val (.int (1 : Int32)), .val (.double t1), .second, .val (.int (2 : Int32)), .val (.int (2 : Int32))]) rfl ?_
  refine g_goto X189 hx (pc' := 30) (hb hby d5_52) (by decide) (by decide) ?_
  refine g_iload X189 hx (pc' := 32) rfl (hb hby d5_30) rfl ?_
  refine g_iload X189 hx (pc' := 34) rfl (hb hby d5_32) rfl ?_
  refine g_icmpN X189 hx (pcN := 37) (hb hby d5_34) rfl (show ¬ (¬ (1 : Int32) < (2 : Int32)) from by decide) ?_
  refine g_aloadN X189 hx (pc' := 38) rfl (hb hby d5_37) rfl rfl ?_
  refine g_iload X189 hx (pc' := 40) rfl (hb hby d5_38) rfl ?_
  refine g_iload X189 hx (pc' := 42) rfl (hb hby d5_40) rfl ?_
  refine g_iadd X189 hx (pc' := 43) rfl (hb hby d5_42) ?_
  refine g_normI (z := (3 : Int32)) (by decide) ?_
  refine g_dup2 X189 hx (pc' := 44) rfl (hb hby d5_43) rfl rfl ?_
  refine g_daload X189 hx hZ V189 (i := 3) (by decide) (show (3 : Nat) < 12 by decide) (v := d183) rfl (pc' := 45) rfl (hb hby d5_44) ?_
  refine g_dload X189 hx (pc' := 47) rfl (hb hby d5_45) rfl ?_
  have q193 : Dy (n183 * e5) 1068 (FP.ddiv d183 t5) := dy_div (dy_shift 3 (j := 1068) q183) yt5 hz5 (own_divq he5) rfl (own_mb b183 be5 (by decide)) (by decide)
  refine g_ddiv X189 hx (pc' := 48) (z := (FP.ddiv d183 t5)) rfl (hb hby d5_47) (dy_noNaN q193) rfl ?_
  refine g_absD (fun d193 hd193 => ?_)
  rw [← hd193] at q193
  obtain ⟨n193, en193⟩ : ∃ z : Int, z = n183 * e5 := ⟨_, rfl⟩
  rw [← en193] at q193
  have b193 : n193.natAbs ≤ 4608 := by rw [en193, Int.natAbs_mul]; exact Nat.le_trans (Nat.mul_le_mul b183 be5) (by decide)
  refine g_dastore X189 hx hZ V189 (i := 3) (by decide) (show (3 : Nat) < 12 by decide) hg (pc' := 49) rfl (hb hby d5_48) (fun T194 h194 X194 W194 N194 => ?_)
  have f195 := f190.other W194 hne
  have f196 := (by have q := (Keep.of_wr W194).1; exact Nat.le_trans f191 q : n0 ≤ h194.size)
  have f197 := f192.wr W194 (Or.inl (List.mem_of_getElem? (i := 0) rfl))
  have V194 : AD Z h194 ca [d164, d169, d188, d193, c4, c5, c6, c7, c8, c9, c10, c11] := N194
  refine g_iincC X194 hx (pc' := 52) (x := (1 : Int32)) (z := (2 : Int32)) rfl (hb hby d5_49) rfl (by decide) (l' := #[.val (.ref ta), .val (.int (4 : Int32)), .val (.int (2 : Int32)), .val (.ref ca), .val (.int (2 : Int32)), .val (.int (1 : Int32)), .val (.int (2 : Int32)), .val (.double t5), .second, .val (.int (2 : Int32)), .val (.double t1), .second, .val (.int (2 : Int32)), .val (.int (2 : Int32))]) rfl ?_
  refine g_goto X194 hx (pc' := 30) (hb hby d5_52) (by decide) (by decide) ?_
  refine g_iload X194 hx (pc' := 32) rfl (hb hby d5_30) rfl ?_
  refine g_iload X194 hx (pc' := 34) rfl (hb hby d5_32) rfl ?_
  refine g_icmpY X194 hx (pcY := 55) (hb hby d5_34) (by decide) (by decide) (show ¬ (2 : Int32) < (2 : Int32) from by decide) ?_
  refine g_iload X194 hx (pc' := 57) rfl (hb hby d5_55) rfl ?_
  refine g_iconst X194 hx (pc' := 58) (z := (1 : Int32)) rfl (hb hby d5_57) rfl ?_
  refine g_iadd X194 hx (pc' := 59) rfl (hb hby d5_58) ?_
  refine g_normI (z := (2 : Int32)) (by decide) ?_
  refine g_istore X194 hx (pc' := 61) rfl (hb hby d5_59) (l' := #[.val (.ref ta), .val (.int (4 : Int32)), .val (.int (2 : Int32)), .val (.ref ca), .val (.int (2 : Int32)), .val (.int (1 : Int32)), .val (.int (2 : Int32)), .val (.double t5), .second, .val (.int (2 : Int32)), .val (.double t1), .second, .val (.int (2 : Int32)), .val (.int (2 : Int32))]) rfl ?_
  refine g_iload X194 hx (pc' := 63) rfl (hb hby d5_61) rfl ?_
  refine g_iloadN X194 hx (pc' := 64) rfl (hb hby d5_63) rfl ?_
  refine g_icmpY X194 hx (pcY := 127) (hb hby d5_64) (by decide) (by decide) (show ¬ (2 : Int32) < (2 : Int32) from by decide) ?_
  refine g_iincC X194 hx (pc' := 130) (x := (1 : Int32)) (z := (2 : Int32)) rfl (hb hby d5_127) rfl (by decide) (l' := #[.val (.ref ta), .val (.int (4 : Int32)), .val (.int (2 : Int32)), .val (.ref ca), .val (.int (2 : Int32)), .val (.int (2 : Int32)), .val (.int (2 : Int32)), .val (.double t5), .second, .val (.int (2 : Int32)), .val (.double t1), .second, .val (.int (2 : Int32)), .val (.int (2 : Int32))]) rfl ?_
  refine g_goto X194 hx (pc' := 3) (hb hby d5_130) (by decide) (by decide) ?_
  refine g_iload X194 hx (pc' := 5) rfl (hb hby d5_3) rfl ?_
  refine g_iloadN X194 hx (pc' := 6) rfl (hb hby d5_5) rfl ?_
  refine g_icmpY X194 hx (pcY := 133) (hb hby d5_6) (by decide) (by decide) (show ¬ (2 : Int32) < (2 : Int32) from by decide) ?_
  exact g_retV X194 hx hlk hret (hb hby d5_133) (by decide) (by decide) (⟨rfl, f197, _, V194, rfl, own_all12 (Chk.b0 (by decide) (by decide) (own_S0 yt0 q164 yc0 bt0 b164 (by rw [en164]; exact own_f0 he0))) (Chk.b0 (by decide) (by decide) (own_S0 yt0 q169 yc1 bt0 b169 (by rw [en169]; exact own_f0 he0))) (Chk.b1 (by decide) (by decide) (own_S1 yt5 q188 yt1 q164 yc2 bt5 b188 bt1 b164 (by rw [en188, en176, en175, en174]; exact own_f1 he5))) (Chk.b1 (by decide) (by decide) (own_S1 yt5 q193 yt1 q169 yc3 bt5 b193 bt1 b169 (by rw [en193, en183, en182, en181]; exact own_f1 he5))) (Chk.a (by decide) (own_dyeq yc4 yc4 rfl)) (Chk.a (by decide) (own_dyeq yc5 yc5 rfl)) (Chk.a (by decide) (own_dyeq yc6 yc6 rfl)) (Chk.a (by decide) (own_dyeq yc7 yc7 rfl)) (Chk.a (by decide) (own_dyeq yc8 yc8 rfl)) (Chk.a (by decide) (own_dyeq yc9 yc9 rfl)) (Chk.a (by decide) (own_dyeq yc10 yc10 rfl)) (Chk.a (by decide) (own_dyeq yc11 yc11 rfl))⟩)
set_option maxRecDepth 65536 in
set_option maxHeartbeats 40000000 in
theorem rm5_2_3 (l : Launch) (Z : State) (a0 : Array Value) (hw : ∀ d ∈ tables_1, d.before a0 Z = true) (ws : List Jvm.Cond) (n0 : Nat) (ta ca : Addr) (t0 : UInt64) (t1 : UInt64) (t2 : UInt64) (t3 : UInt64) (t4 : UInt64) (t5 : UInt64) (t6 : UInt64) (t7 : UInt64) (t8 : UInt64) (t9 : UInt64) (t10 : UInt64) (t11 : UInt64) (t12 : UInt64) (t13 : UInt64) (t14 : UInt64) (t15 : UInt64) (mt0 : Int) (mt1 : Int) (mt2 : Int) (mt5 : Int) (mt6 : Int) (mt10 : Int) (e0 : Int) (e5 : Int) (e10 : Int) (c0 : UInt64) (mc0 : Int) (c1 : UInt64) (mc1 : Int) (c2 : UInt64) (mc2 : Int) (c3 : UInt64) (mc3 : Int) (c4 : UInt64) (mc4 : Int) (c5 : UInt64) (mc5 : Int) (c6 : UInt64) (mc6 : Int) (c7 : UInt64) (mc7 : Int) (c8 : UInt64) (mc8 : Int) (c9 : UInt64) (mc9 : Int) (c10 : UInt64) (mc10 : Int) (c11 : UInt64) (mc11 : Int) (h0 : Heap) (hn0 : n0 ≤ h0.size) (At : AD Z h0 ta [t0, t1, t2, t3, t4, t5, t6, t7, t8, t9, t10, t11, t12, t13, t14, t15]) (Ac : AD Z h0 ca [c0, c1, c2, c3, c4, c5, c6, c7, c8, c9, c10, c11]) (hne : ta ≠ ca) (hg : n0 ≤ ca) (yc0 : Dy mc0 1074 c0) (bc0 : mc0.natAbs ≤ 8) (yc1 : Dy mc1 1074 c1) (bc1 : mc1.natAbs ≤ 8) (yc2 : Dy mc2 1074 c2) (bc2 : mc2.natAbs ≤ 8) (yc3 : Dy mc3 1074 c3) (bc3 : mc3.natAbs ≤ 8) (yc4 : Dy mc4 1074 c4) (bc4 : mc4.natAbs ≤ 8) (yc5 : Dy mc5 1074 c5) (bc5 : mc5.natAbs ≤ 8) (yc6 : Dy mc6 1074 c6) (bc6 : mc6.natAbs ≤ 8) (yc7 : Dy mc7 1074 c7) (bc7 : mc7.natAbs ≤ 8) (yc8 : Dy mc8 1074 c8) (bc8 : mc8.natAbs ≤ 8) (yc9 : Dy mc9 1074 c9) (bc9 : mc9.natAbs ≤ 8) (yc10 : Dy mc10 1074 c10) (bc10 : mc10.natAbs ≤ 8) (yc11 : Dy mc11 1074 c11) (bc11 : mc11.natAbs ≤ 8) (yt0 : Dy mt0 1074 t0) (bt0 : mt0.natAbs ≤ 8) (yt1 : Dy mt1 1074 t1) (bt1 : mt1.natAbs ≤ 8) (yt2 : Dy mt2 1074 t2) (bt2 : mt2.natAbs ≤ 8) (yt5 : Dy mt5 1074 t5) (bt5 : mt5.natAbs ≤ 8) (yt6 : Dy mt6 1074 t6) (bt6 : mt6.natAbs ≤ 8) (yt10 : Dy mt10 1074 t10) (bt10 : mt10.natAbs ≤ 8) (he0 : mt0 * e0 = 8) (hz0 : mt0 ≠ 0) (be0 : e0.natAbs ≤ 8) (he5 : mt5 * e5 = 8) (hz5 : mt5 ≠ 0) (be5 : e5.natAbs ≤ 8) (he10 : mt10 * e10 = 8) (hz10 : mt10 ≠ 0) (be10 : e10.natAbs ≤ 8) :
    Con l Z n0 (⟨"com/example/orthogon/orthogon/Triangular", "solveUpperTransposed", "([DII[DI)V"⟩ : MethodName) prog_16_method_4_code 14 none ws ({ frames := 0, cells := 0, slots := 0, locals := 0 } : Room) #[(.ref ta), (.int (4 : Int32)), (.int (2 : Int32)), (.ref ca), (.int (3 : Int32))] h0 (fun v h => v = none ∧ Keep h0 h [ca] ∧ ∃ xs, AD Z h ca xs ∧ xs.length = 12 ∧ ChkAll [t0, t1, t2, t3, t4, t5, t6, t7, t8, t9, t10, t11, t12, t13, t14, t15] xs [c0, c1, c2, c3, c4, c5, c6, c7, c8, c9, c10, c11] (2 : Int32) (3 : Int32)) := by
  refine con_start (plainFor_of_name (by first | (simp [plainName, overriddenIn]; done) | decide +kernel)) (fr0 := fun m => mkF m 0 #[.val (.ref ta), .val (.int (4 : Int32)), .val (.int (2 : Int32)), .val (.ref ca), .val (.int (3 : Int32)), .unset, .unset, .unset, .unset, .unset, .unset, .unset, .unset, .unset] []) (fun m => by first | (simp [entryFrame, mkF, argsToLocals, Value.category]; done) | rfl) ?_
  intro p e s m below meth c T0 hx hZ hby hml hown hnm hret hlk X0
  replace hown : s.vm.findClass "com/example/orthogon/orthogon/Triangular" = some m.cls := hown
  replace hml : c.maxLocals = 14 := hml
  refine g_iconst X0 hx (pc' := 1) (z := (0 : Int32)) rfl (hb hby d5_0) rfl ?_
  refine g_istore X0 hx (pc' := 3) rfl (hb hby d5_1) (l' := #[.val (.ref ta), .val (.int (4 : Int32)), .val (.int (2 : Int32)), .val (.ref ca), .val (.int (3 : Int32)), .val (.int (0 : Int32)), .unset, .unset, .unset, .unset, .unset, .unset, .unset, .unset]) rfl ?_
  refine g_iload X0 hx (pc' := 5) rfl (hb hby d5_3) rfl ?_
  refine g_iloadN X0 hx (pc' := 6) rfl (hb hby d5_5) rfl ?_
  refine g_icmpN X0 hx (pcN := 9) (hb hby d5_6) rfl (show ¬ (¬ (0 : Int32) < (2 : Int32)) from by decide) ?_
  refine g_iload X0 hx (pc' := 11) rfl (hb hby d5_9) rfl ?_
  refine g_iload X0 hx (pc' := 13) rfl (hb hby d5_11) rfl ?_
  refine g_imul X0 hx (pc' := 14) rfl (hb hby d5_13) ?_
  refine g_normI (z := (0 : Int32)) (by decide) ?_
  refine g_istore X0 hx (pc' := 16) rfl (hb hby d5_14) (l' := #[.val (.ref ta), .val (.int (4 : Int32)), .val (.int (2 : Int32)), .val (.ref ca), .val (.int (3 : Int32)), .val (.int (0 : Int32)), .val (.int (0 : Int32)), .unset, .unset, .unset, .unset, .unset, .unset, .unset]) rfl ?_
  refine g_aloadN X0 hx (pc' := 17) rfl (hb hby d5_16) rfl rfl ?_
  refine g_iload X0 hx (pc' := 19) rfl (hb hby d5_17) rfl ?_
  refine g_iloadN X0 hx (pc' := 20) rfl (hb hby d5_19) rfl ?_
  refine g_imul X0 hx (pc' := 21) rfl (hb hby d5_20) ?_
  refine g_normI (z := (0 : Int32)) (by decide) ?_
  refine g_iload X0 hx (pc' := 23) rfl (hb hby d5_21) rfl ?_
  refine g_iadd X0 hx (pc' := 24) rfl (hb hby d5_23) ?_
  refine g_normI (z := (0 : Int32)) (by decide) ?_
  refine g_daload X0 hx hZ At (i := 0) (by decide) (show (0 : Nat) < 16 by decide) (v := t0) rfl (pc' := 25) rfl (hb hby d5_24) ?_
  refine g_dstore X0 hx (pc' := 27) rfl (hb hby d5_25) (l' := #[.val (.ref ta), .val (.int (4 : Int32)), .val (.int (2 : Int32)), .val (.ref ca), .val (.int (3 : Int32)), .val (.int (0 : Int32)), .val (.int (0 : Int32)), .val (.double t0), .second, .unset, .unset, .unset, .unset, .unset]) rfl ?_
  refine g_iconst X0 hx (pc' := 28) (z := (0 : Int32)) rfl (hb hby d5_27) rfl ?_
  refine g_istore X0 hx (pc' := 30) rfl (hb hby d5_28) (l' := #[.val (.ref ta), .val (.int (4 : Int32)), .val (.int (2 : Int32)), .val (.ref ca), .val (.int (3 : Int32)), .val (.int (0 : Int32)), .val (.int (0 : Int32)), .val (.double t0), .second, .val (.int (0 : Int32)), .unset, .unset, .unset, .unset]) rfl ?_
  refine g_iload X0 hx (pc' := 32) rfl (hb hby d5_30) rfl ?_
  refine g_iload X0 hx (pc' := 34) rfl (hb hby d5_32) rfl ?_
  refine g_icmpN X0 hx (pcN := 37) (hb hby d5_34) rfl (show ¬ (¬ (0 : Int32) < (3 : Int32)) from by decide) ?_
  refine g_aloadN X0 hx (pc' := 38) rfl (hb hby d5_37) rfl rfl ?_
  refine g_iload X0 hx (pc' := 40) rfl (hb hby d5_38) rfl ?_
  refine g_iload X0 hx (pc' := 42) rfl (hb hby d5_40) rfl ?_
  refine g_iadd X0 hx (pc' := 43) rfl (hb hby d5_42) ?_
  refine g_normI (z := (0 : Int32)) (by decide) ?_
  refine g_dup2 X0 hx (pc' := 44) rfl (hb hby d5_43) rfl rfl ?_
  refine g_daload X0 hx hZ Ac (i := 0) (by decide) (show (0 : Nat) < 12 by decide) (v := c0) rfl (pc' := 45) rfl (hb hby d5_44) ?_
  refine g_dload X0 hx (pc' := 47) rfl (hb hby d5_45) rfl ?_
  have q198 : Dy (mc0 * e0) 1071 (FP.ddiv c0 t0) := dy_div (dy_shift 3 (j := 1071) yc0) yt0 hz0 (own_divq he0) rfl (own_mb bc0 be0 (by decide)) (by decide)
  refine g_ddiv X0 hx (pc' := 48) (z := (FP.ddiv c0 t0)) rfl (hb hby d5_47) (dy_noNaN q198) rfl ?_
  refine g_absD (fun d198 hd198 => ?_)
  rw [← hd198] at q198
  obtain ⟨n198, en198⟩ : ∃ z : Int, z = mc0 * e0 := ⟨_, rfl⟩
  rw [← en198] at q198
  have b198 : n198.natAbs ≤ 64 := by rw [en198, Int.natAbs_mul]; exact Nat.le_trans (Nat.mul_le_mul bc0 be0) (by decide)
  refine g_dastore X0 hx hZ Ac (i := 0) (by decide) (show (0 : Nat) < 12 by decide) hg (pc' := 49) rfl (hb hby d5_48) (fun T199 h199 X199 W199 N199 => ?_)
  have f200 := At.other W199 hne
  have f201 := (by have q := (Keep.of_wr W199).1; exact Nat.le_trans hn0 q : n0 ≤ h199.size)
  have f202 := (Keep.refl h0 [ca]).wr W199 (Or.inl (List.mem_of_getElem? (i := 0) rfl))
  have V199 : AD Z h199 ca [d198, c1, c2, c3, c4, c5, c6, c7, c8, c9, c10, c11] := N199
  refine g_iincC X199 hx (pc' := 52) (x := (0 : Int32)) (z := (1 : Int32)) rfl (hb hby d5_49) rfl (by decide) (l' := #[.val (.ref ta), .val (.int (4 : Int32)), .val (.int (2 : Int32)), .val (.ref ca), .val (.int (3 : Int32)), .val (.int (0 : Int32)), .val (.int (0 : Int32)), .val (.double t0), .second, .val (.int (1 : Int32)), .unset, .unset, .unset, .unset]) rfl ?_
  refine g_goto X199 hx (pc' := 30) (hb hby d5_52) (by decide) (by decide) ?_
  refine g_iload X199 hx (pc' := 32) rfl (hb hby d5_30) rfl ?_
  refine g_iload X199 hx (pc' := 34) rfl (hb hby d5_32) rfl ?_
  refine g_icmpN X199 hx (pcN := 37) (hb hby d5_34) rfl (show ¬ (¬ (1 : Int32) < (3 : Int32)) from by decide) ?_
  refine g_aloadN X199 hx (pc' := 38) rfl (hb hby d5_37) rfl rfl ?_
  refine g_iload X199 hx (pc' := 40) rfl (hb hby d5_38) rfl ?_
  refine g_iload X199 hx (pc' := 42) rfl (hb hby d5_40) rfl ?_
  refine g_iadd X199 hx (pc' := 43) rfl (hb hby d5_42) ?_
  refine g_normI (z := (1 : Int32)) (by decide) ?_
  refine g_dup2 X199 hx (pc' := 44) rfl (hb hby d5_43) rfl rfl ?_
  refine g_daload X199 hx hZ V199 (i := 1) (by decide) (show (1 : Nat) < 12 by decide) (v := c1) rfl (pc' := 45) rfl (hb hby d5_44) ?_
  refine g_dload X199 hx (pc' := 47) rfl (hb hby d5_45) rfl ?_
  have q203 : Dy (mc1 * e0) 1071 (FP.ddiv c1 t0) := dy_div (dy_shift 3 (j := 1071) yc1) yt0 hz0 (own_divq he0) rfl (own_mb bc1 be0 (by decide)) (by decide)
  refine g_ddiv X199 hx (pc' := 48) (z := (FP.ddiv c1 t0)) rfl (hb hby d5_47) (dy_noNaN q203) rfl ?_
  refine g_absD (fun d203 hd203 => ?_)
  rw [← hd203] at q203
  obtain ⟨n203, en203⟩ : ∃ z : Int, z = mc1 * e0 := ⟨_, rfl⟩
  rw [← en203] at q203
  have b203 : n203.natAbs ≤ 64 := by rw [en203, Int.natAbs_mul]; exact Nat.le_trans (Nat.mul_le_mul bc1 be0) (by decide)
  refine g_dastore X199 hx hZ V199 (i := 1) (by decide) (show (1 : Nat) < 12 by decide) hg (pc' := 49) rfl (hb hby d5_48) (fun T204 h204 X204 W204 N204 => ?_)
  have f205 := f200.other W204 hne
  have f206 := (by have q := (Keep.of_wr W204).1; exact Nat.le_trans f201 q : n0 ≤ h204.size)
  have f207 := f202.wr W204 (Or.inl (List.mem_of_getElem? (i := 0) rfl))
  have V204 : AD Z h204 ca [d198, d203, c2, c3, c4, c5, c6, c7, c8, c9, c10, c11] := N204
  refine g_iincC X204 hx (pc' := 52) (x := (1 : Int32)) (z := (2 : Int32)) rfl (hb hby d5_49) rfl (by decide) (l' := #[.val (.ref ta), .val (.int (4 : Int32)), .val (.int (2 : Int32)), .val (.ref ca), .val (.int (3 : Int32)), .val (.int (0 : Int32)), .val (.int (0 : Int32)), .val (.double t0), .second, .val (.int (2 : Int32)), .unset, .unset, .unset, .unset]) rfl ?_
  refine g_goto X204 hx (pc' := 30) (hb hby d5_52) (by decide) (by decide) ?_
  refine g_iload X204 hx (pc' := 32) rfl (hb hby d5_30) rfl ?_
  refine g_iload X204 hx (pc' := 34) rfl (hb hby d5_32) rfl ?_
  refine g_icmpN X204 hx (pcN := 37) (hb hby d5_34) rfl (show ¬ (¬ (2 : Int32) < (3 : Int32)) from by decide) ?_
  refine g_aloadN X204 hx (pc' := 38) rfl (hb hby d5_37) rfl rfl ?_
  refine g_iload X204 hx (pc' := 40) rfl (hb hby d5_38) rfl ?_
  refine g_iload X204 hx (pc' := 42) rfl (hb hby d5_40) rfl ?_
  refine g_iadd X204 hx (pc' := 43) rfl (hb hby d5_42) ?_
  refine g_normI (z := (2 : Int32)) (by decide) ?_
  refine g_dup2 X204 hx (pc' := 44) rfl (hb hby d5_43) rfl rfl ?_
  refine g_daload X204 hx hZ V204 (i := 2) (by decide) (show (2 : Nat) < 12 by decide) (v := c2) rfl (pc' := 45) rfl (hb hby d5_44) ?_
  refine g_dload X204 hx (pc' := 47) rfl (hb hby d5_45) rfl ?_
  have q208 : Dy (mc2 * e0) 1071 (FP.ddiv c2 t0) := dy_div (dy_shift 3 (j := 1071) yc2) yt0 hz0 (own_divq he0) rfl (own_mb bc2 be0 (by decide)) (by decide)
  refine g_ddiv X204 hx (pc' := 48) (z := (FP.ddiv c2 t0)) rfl (hb hby d5_47) (dy_noNaN q208) rfl ?_
  refine g_absD (fun d208 hd208 => ?_)
  rw [← hd208] at q208
  obtain ⟨n208, en208⟩ : ∃ z : Int, z = mc2 * e0 := ⟨_, rfl⟩
  rw [← en208] at q208
  have b208 : n208.natAbs ≤ 64 := by rw [en208, Int.natAbs_mul]; exact Nat.le_trans (Nat.mul_le_mul bc2 be0) (by decide)
  refine g_dastore X204 hx hZ V204 (i := 2) (by decide) (show (2 : Nat) < 12 by decide) hg (pc' := 49) rfl (hb hby d5_48) (fun T209 h209 X209 W209 N209 => ?_)
  have f210 := f205.other W209 hne
  have f211 := (by have q := (Keep.of_wr W209).1; exact Nat.le_trans f206 q : n0 ≤ h209.size)
  have f212 := f207.wr W209 (Or.inl (List.mem_of_getElem? (i := 0) rfl))
  have V209 : AD Z h209 ca [d198, d203, d208, c3, c4, c5, c6, c7, c8, c9, c10, c11] := N209
  refine g_iincC X209 hx (pc' := 52) (x := (2 : Int32)) (z := (3 : Int32)) rfl (hb hby d5_49) rfl (by decide) (l' := #[.val (.ref ta), .val (.int (4 : Int32)), .val (.int (2 : Int32)), .val (.ref ca), .val (.int (3 : Int32)), .val (.int (0 : Int32)), .val (.int (0 : Int32)), .val (.double t0), .second, .val (.int (3 : Int32)), .unset, .unset, .unset, .unset]) rfl ?_
  refine g_goto X209 hx (pc' := 30) (hb hby d5_52) (by decide) (by decide) ?_
  refine g_iload X209 hx (pc' := 32) rfl (hb hby d5_30) rfl ?_
  refine g_iload X209 hx (pc' := 34) rfl (hb hby d5_32) rfl ?_
  refine g_icmpY X209 hx (pcY := 55) (hb hby d5_34) (by decide) (by decide) (show ¬ (3 : Int32) < (3 : Int32) from by decide) ?_
  refine g_iload X209 hx (pc' := 57) rfl (hb hby d5_55) rfl ?_
  refine g_iconst X209 hx (pc' := 58) (z := (1 : Int32)) rfl (hb hby d5_57) rfl ?_
  refine g_iadd X209 hx (pc' := 59) rfl (hb hby d5_58) ?_
  refine g_normI (z := (1 : Int32)) (by decide) ?_
  refine g_istore X209 hx (pc' := 61) rfl (hb hby d5_59) (l' := #[.val (.ref ta), .val (.int (4 : Int32)), .val (.int (2 : Int32)), .val (.ref ca), .val (.int (3 : Int32)), .val (.int (0 : Int32)), .val (.int (0 : Int32)), .val (.double t0), .second, .val (.int (1 : Int32)), .unset, .unset, .unset, .unset]) rfl ?_
  refine g_iload X209 hx (pc' := 63) rfl (hb hby d5_61) rfl ?_
  refine g_iloadN X209 hx (pc' := 64) rfl (hb hby d5_63) rfl ?_
  refine g_icmpN X209 hx (pcN := 67) (hb hby d5_64) rfl (show ¬ (¬ (1 : Int32) < (2 : Int32)) from by decide) ?_
  refine g_aloadN X209 hx (pc' := 68) rfl (hb hby d5_67) rfl rfl ?_
  refine g_iload X209 hx (pc' := 70) rfl (hb hby d5_68) rfl ?_
  refine g_iloadN X209 hx (pc' := 71) rfl (hb hby d5_70) rfl ?_
  refine g_imul X209 hx (pc' := 72) rfl (hb hby d5_71) ?_
  refine g_normI (z := (0 : Int32)) (by decide) ?_
  refine g_iload X209 hx (pc' := 74) rfl (hb hby d5_72) rfl ?_
  refine g_iadd X209 hx (pc' := 75) rfl (hb hby d5_74) ?_
  refine g_normI (z := (1 : Int32)) (by decide) ?_
  refine g_daload X209 hx hZ f210 (i := 1) (by decide) (show (1 : Nat) < 16 by decide) (v := t1) rfl (pc' := 76) rfl (hb hby d5_75) ?_
  refine g_dstore X209 hx (pc' := 78) rfl (hb hby d5_76) (l' := #[.val (.ref ta), .val (.int (4 : Int32)), .val (.int (2 : Int32)), .val (.ref ca), .val (.int (3 : Int32)), .val (.int (0 : Int32)), .val (.int (0 : Int32)), .val (.double t0), .second, .val (.int (1 : Int32)), .val (.double t1), .second, .unset, .unset]) rfl ?_
  refine g_iload X209 hx (pc' := 80) rfl (hb hby d5_78) rfl ?_
  refine g_iload X209 hx (pc' := 82) rfl (hb hby d5_80) rfl ?_
  refine g_imul X209 hx (pc' := 83) rfl (hb hby d5_82) ?_
  refine g_normI (z := (3 : Int32)) (by decide) ?_
  refine g_istore X209 hx (pc' := 85) rfl (hb hby d5_83) (l' := #[.val (.ref ta), .val (.int (4 : Int32)), .val (.int (2 : Int32)), .val (.ref ca), .val (.int (3 : Int32)), .val (.int (0 : Int32)), .val (.int (0 : Int32)), .val (.double t0), .second, .val (.int (1 : Int32)), .val (.double t1), .second, .val (.int (3 : Int32)), .unset]) rfl ?_
  refine g_iconst X209 hx (pc' := 86) (z := (0 : Int32)) rfl (hb hby d5_85) rfl ?_
  refine g_istore X209 hx (pc' := 88) rfl (hb hby d5_86) (l' := #[.val (.ref ta), .val (.int (4 : Int32)), .val (.int (2 : Int32)), .val (.ref ca), .val (.int (3 : Int32)), .val (.int (0 : Int32)), .val (.int (0 : Int32)), .val (.double t0), .second, .val (.int (1 : Int32)), .val (.double t1), .second, .val (.int (3 : Int32)), .val (.int (0 : Int32))]) rfl ?_
  refine g_iload X209 hx (pc' := 90) rfl (hb hby d5_88) rfl ?_
  refine g_iload X209 hx (pc' := 92) rfl (hb hby d5_90) rfl ?_
  refine g_icmpN X209 hx (pcN := 95) (hb hby d5_92) rfl (show ¬ (¬ (0 : Int32) < (3 : Int32)) from by decide) ?_
  refine g_aloadN X209 hx (pc' := 96) rfl (hb hby d5_95) rfl rfl ?_
  refine g_iload X209 hx (pc' := 98) rfl (hb hby d5_96) rfl ?_
  refine g_iload X209 hx (pc' := 100) rfl (hb hby d5_98) rfl ?_
  refine g_iadd X209 hx (pc' := 101) rfl (hb hby d5_100) ?_
  refine g_normI (z := (3 : Int32)) (by decide) ?_
  refine g_dup2 X209 hx (pc' := 102) rfl (hb hby d5_101) rfl rfl ?_
  refine g_daload X209 hx hZ V209 (i := 3) (by decide) (show (3 : Nat) < 12 by decide) (v := c3) rfl (pc' := 103) rfl (hb hby d5_102) ?_
  refine g_dload X209 hx (pc' := 105) rfl (hb hby d5_103) rfl ?_
  refine g_aloadN X209 hx (pc' := 106) rfl (hb hby d5_105) rfl rfl ?_
  refine g_iload X209 hx (pc' := 108) rfl (hb hby d5_106) rfl ?_
  refine g_iload X209 hx (pc' := 110) rfl (hb hby d5_108) rfl ?_
  refine g_iadd X209 hx (pc' := 111) rfl (hb hby d5_110) ?_
  refine g_normI (z := (0 : Int32)) (by decide) ?_
  refine g_daload X209 hx hZ V209 (i := 0) (by decide) (show (0 : Nat) < 12 by decide) (v := d198) rfl (pc' := 112) rfl (hb hby d5_111) ?_
  have q213 : Dy (mt1 * n198) 1071 (FP.dmul t1 d198) := dy_mul yt1 q198 (by decide) (own_mb bt1 b198 (by decide)) (by decide)
  refine g_dmul X209 hx (pc' := 113) (z := (FP.dmul t1 d198)) rfl (hb hby d5_112) (dy_noNaN q213) rfl ?_
  refine g_absD (fun d213 hd213 => ?_)
  rw [← hd213] at q213
  obtain ⟨n213, en213⟩ : ∃ z : Int, z = mt1 * n198 := ⟨_, rfl⟩
  rw [← en213] at q213
  have b213 : n213.natAbs ≤ 512 := by rw [en213, Int.natAbs_mul]; exact Nat.le_trans (Nat.mul_le_mul bt1 b198) (by decide)
  obtain ⟨n214, en214⟩ : ∃ z : Int, z = mc3 * 8 := ⟨_, rfl⟩
  have q214 : Dy n214 1071 c3 := by rw [en214]; exact dy_shift 3 (j := 1071) yc3
  have b214 : n214.natAbs ≤ 64 := by rw [en214]; exact own_shl bc3 (by decide)
  have q215 : Dy (n214 - n213) 1071 (FP.dsub c3 d213) := dy_sub q214 q213 (own_subb b214 b213 (by decide)) (by decide)
  refine g_dsub X209 hx (pc' := 114) (z := (FP.dsub c3 d213)) rfl (hb hby d5_113) (dy_noNaN q215) rfl ?_
  refine g_absD (fun d215 hd215 => ?_)
  rw [← hd215] at q215
  obtain ⟨n215, en215⟩ : ∃ z : Int, z = n214 - n213 := ⟨_, rfl⟩
  rw [← en215] at q215
  have b215 : n215.natAbs ≤ 576 := by rw [en215]; exact Nat.le_trans (own_subl b214 b213) (by decide)
  refine g_dastore X209 hx hZ V209 (i := 3) (by decide) (show (3 : Nat) < 12 by decide) hg (pc' := 115) rfl (hb hby d5_114) (fun T216 h216 X216 W216 N216 => ?_)
  have f217 := f210.other W216 hne
  have f218 := (by have q := (Keep.of_wr W216).1; exact Nat.le_trans f211 q : n0 ≤ h216.size)
  have f219 := f212.wr W216 (Or.inl (List.mem_of_getElem? (i := 0) rfl))
  have V216 : AD Z h216 ca [d198, d203, d208, d215, c4, c5, c6, c7, c8, c9, c10, c11] := N216
  refine g_iincC X216 hx (pc' := 118) (x := (0 : Int32)) (z := (1 : Int32)) rfl (hb hby d5_115) rfl (by decide) (l' := #[.val (.ref ta), .val (.int (4 : Int32)), .val (.int (2 : Int32)), .val (.ref ca), .val (.int (3 : Int32)), .val (.int (0 : Int32)), .val (.int (0 : Int32)), .val (.double t0), .second, .val (.int (1 : Int32)), .val (.double t1), .second, .val (.int (3 : Int32)), .val (.int (1 : Int32))]) rfl ?_
  refine g_goto X216 hx (pc' := 88) (hb hby d5_118) (by decide) (by decide) ?_
  refine g_iload X216 hx (pc' := 90) rfl (hb hby d5_88) rfl ?_
  refine g_iload X216 hx (pc' := 92) rfl (hb hby d5_90) rfl ?_
  refine g_icmpN X216 hx (pcN := 95) (hb hby d5_92) rfl (show ¬ (¬ (1 : Int32) < (3 : Int32)) from by decide) ?_
  refine g_aloadN X216 hx (pc' := 96) rfl (hb hby d5_95) rfl rfl ?_
  refine g_iload X216 hx (pc' := 98) rfl (hb hby d5_96) rfl ?_
  refine g_iload X216 hx (pc' := 100) rfl (hb hby d5_98) rfl ?_
  refine g_iadd X216 hx (pc' := 101) rfl (hb hby d5_100) ?_
  refine g_normI (z := (4 : Int32)) (by decide) ?_
  refine g_dup2 X216 hx (pc' := 102) rfl (hb hby d5_101) rfl rfl ?_
  refine g_daload X216 hx hZ V216 (i := 4) (by decide) (show (4 : Nat) < 12 by decide) (v := c4) rfl (pc' := 103) rfl (hb hby d5_102) ?_
  refine g_dload X216 hx (pc' := 105) rfl (hb hby d5_103) rfl ?_
  refine g_aloadN X216 hx (pc' := 106) rfl (hb hby d5_105) rfl rfl ?_
  refine g_iload X216 hx (pc' := 108) rfl (hb hby d5_106) rfl ?_
  refine g_iload X216 hx (pc' := 110) rfl (hb hby d5_108) rfl ?_
  refine g_iadd X216 hx (pc' := 111) rfl (hb hby d5_110) ?_
  refine g_normI (z := (1 : Int32)) (by decide) ?_
  refine g_daload X216 hx hZ V216 (i := 1) (by decide) (show (1 : Nat) < 12 by decide) (v := d203) rfl (pc' := 112) rfl (hb hby d5_111) ?_
  have q220 : Dy (mt1 * n203) 1071 (FP.dmul t1 d203) := dy_mul yt1 q203 (by decide) (own_mb bt1 b203 (by decide)) (by decide)
  refine g_dmul X216 hx (pc' := 113) (z := (FP.dmul t1 d203)) rfl (hb hby d5_112) (dy_noNaN q220) rfl ?_
  refine g_absD (fun d220 hd220 => ?_)
  rw [← hd220] at q220
  obtain ⟨n220, en220⟩ : ∃ z : Int, z = mt1 * n203 := ⟨_, rfl⟩
  rw [← en220] at q220
  have b220 : n220.natAbs ≤ 512 := by rw [en220, Int.natAbs_mul]; exact Nat.le_trans (Nat.mul_le_mul bt1 b203) (by decide)
  obtain ⟨n221, en221⟩ : ∃ z : Int, z = mc4 * 8 := ⟨_, rfl⟩
  have q221 : Dy n221 1071 c4 := by rw [en221]; exact dy_shift 3 (j := 1071) yc4
  have b221 : n221.natAbs ≤ 64 := by rw [en221]; exact own_shl bc4 (by decide)
  have q222 : Dy (n221 - n220) 1071 (FP.dsub c4 d220) := dy_sub q221 q220 (own_subb b221 b220 (by decide)) (by decide)
  refine g_dsub X216 hx (pc' := 114) (z := (FP.dsub c4 d220)) rfl (hb hby d5_113) (dy_noNaN q222) rfl ?_
  refine g_absD (fun d222 hd222 => ?_)
  rw [← hd222] at q222
  obtain ⟨n222, en222⟩ : ∃ z : Int, z = n221 - n220 := ⟨_, rfl⟩
  rw [← en222] at q222
  have b222 : n222.natAbs ≤ 576 := by rw [en222]; exact Nat.le_trans (own_subl b221 b220) (by decide)
  refine g_dastore X216 hx hZ V216 (i := 4) (by decide) (show (4 : Nat) < 12 by decide) hg (pc' := 115) rfl (hb hby d5_114) (fun T223 h223 X223 W223 N223 => ?_)
  have f224 := f217.other W223 hne
  have f225 := (by have q := (Keep.of_wr W223).1; exact Nat.le_trans f218 q : n0 ≤ h223.size)
  have f226 := f219.wr W223 (Or.inl (List.mem_of_getElem? (i := 0) rfl))
  have V223 : AD Z h223 ca [d198, d203, d208, d215, d222, c5, c6, c7, c8, c9, c10, c11] := N223
  refine g_iincC X223 hx (pc' := 118) (x := (1 : Int32)) (z := (2 : Int32)) rfl (hb hby d5_115) rfl (by decide) (l' := #[.val (.ref ta), .val (.int (4 : Int32)), .val (.int (2 : Int32)), .val (.ref ca), .val (.int (3 : Int32)), .val (.int (0 : Int32)), .val (.int (0 : Int32)), .val (.double t0), .second, .val (.int (1 : Int32)), .val (.double t1), .second, .val (.int (3 : Int32)), .val (.int (2 : Int32))]) rfl ?_
  refine g_goto X223 hx (pc' := 88) (hb hby d5_118) (by decide) (by decide) ?_
  refine g_iload X223 hx (pc' := 90) rfl (hb hby d5_88) rfl ?_
  refine g_iload X223 hx (pc' := 92) rfl (hb hby d5_90) rfl ?_
  refine g_icmpN X223 hx (pcN := 95) (hb hby d5_92) rfl (show ¬ (¬ (2 : Int32) < (3 : Int32)) from by decide) ?_
  refine g_aloadN X223 hx (pc' := 96) rfl (hb hby d5_95) rfl rfl ?_
  refine g_iload X223 hx (pc' := 98) rfl (hb hby d5_96) rfl ?_
  refine g_iload X223 hx (pc' := 100) rfl (hb hby d5_98) rfl ?_
  refine g_iadd X223 hx (pc' := 101) rfl (hb hby d5_100) ?_
  refine g_normI (z := (5 : Int32)) (by decide) ?_
  refine g_dup2 X223 hx (pc' := 102) rfl (hb hby d5_101) rfl rfl ?_
  refine g_daload X223 hx hZ V223 (i := 5) (by decide) (show (5 : Nat) < 12 by decide) (v := c5) rfl (pc' := 103) rfl (hb hby d5_102) ?_
  refine g_dload X223 hx (pc' := 105) rfl (hb hby d5_103) rfl ?_
  refine g_aloadN X223 hx (pc' := 106) rfl (hb hby d5_105) rfl rfl ?_
  refine g_iload X223 hx (pc' := 108) rfl (hb hby d5_106) rfl ?_
  refine g_iload X223 hx (pc' := 110) rfl (hb hby d5_108) rfl ?_
  refine g_iadd X223 hx (pc' := 111) rfl (hb hby d5_110) ?_
  refine g_normI (z := (2 : Int32)) (by decide) ?_
  refine g_daload X223 hx hZ V223 (i := 2) (by decide) (show (2 : Nat) < 12 by decide) (v := d208) rfl (pc' := 112) rfl (hb hby d5_111) ?_
  have q227 : Dy (mt1 * n208) 1071 (FP.dmul t1 d208) := dy_mul yt1 q208 (by decide) (own_mb bt1 b208 (by decide)) (by decide)
  refine g_dmul X223 hx (pc' := 113) (z := (FP.dmul t1 d208)) rfl (hb hby d5_112) (dy_noNaN q227) rfl ?_
  refine g_absD (fun d227 hd227 => ?_)
  rw [← hd227] at q227
  obtain ⟨n227, en227⟩ : ∃ z : Int, z = mt1 * n208 := ⟨_, rfl⟩
  rw [← en227] at q227
  have b227 : n227.natAbs ≤ 512 := by rw [en227, Int.natAbs_mul]; exact Nat.le_trans (Nat.mul_le_mul bt1 b208) (by decide)
  obtain ⟨n228, en228⟩ : ∃ z : Int, z = mc5 * 8 := ⟨_, rfl⟩
  have q228 : Dy n228 1071 c5 := by rw [en228]; exact dy_shift 3 (j := 1071) yc5
  have b228 : n228.natAbs ≤ 64 := by rw [en228]; exact own_shl bc5 (by decide)
  have q229 : Dy (n228 - n227) 1071 (FP.dsub c5 d227) := dy_sub q228 q227 (own_subb b228 b227 (by decide)) (by decide)
  refine g_dsub X223 hx (pc' := 114) (z := (FP.dsub c5 d227)) rfl (hb hby d5_113) (dy_noNaN q229) rfl ?_
  refine g_absD (fun d229 hd229 => ?_)
  rw [← hd229] at q229
  obtain ⟨n229, en229⟩ : ∃ z : Int, z = n228 - n227 := ⟨_, rfl⟩
  rw [← en229] at q229
  have b229 : n229.natAbs ≤ 576 := by rw [en229]; exact Nat.le_trans (own_subl b228 b227) (by decide)
  refine g_dastore X223 hx hZ V223 (i := 5) (by decide) (show (5 : Nat) < 12 by decide) hg (pc' := 115) rfl (hb hby d5_114) (fun T230 h230 X230 W230 N230 => ?_)
  have f231 := f224.other W230 hne
  have f232 := (by have q := (Keep.of_wr W230).1; exact Nat.le_trans f225 q : n0 ≤ h230.size)
  have f233 := f226.wr W230 (Or.inl (List.mem_of_getElem? (i := 0) rfl))
  have V230 : AD Z h230 ca [d198, d203, d208, d215, d222, d229, c6, c7, c8, c9, c10, c11] := N230
  refine g_iincC X230 hx (pc' := 118) (x := (2 : Int32)) (z := (3 : Int32)) rfl (hb hby d5_115) rfl (by decide) (l' := #[.val (.ref ta), .val (.int (4 : Int32)), .val (.int (2 : Int32)), .val (.ref ca), .val (.int (3 : Int32)), .val (.int (0 : Int32)), .val (.int (0 : Int32)), .val (.double t0), .second, .val (.int (1 : Int32)), .val (.double t1), .second, .val (.int (3 : Int32)), .val (.int (3 : Int32))]) rfl ?_
  refine g_goto X230 hx (pc' := 88) (hb hby d5_118) (by decide) (by decide) ?_
  refine g_iload X230 hx (pc' := 90) rfl (hb hby d5_88) rfl ?_
  refine g_iload X230 hx (pc' := 92) rfl (hb hby d5_90) rfl ?_
  refine g_icmpY X230 hx (pcY := 121) (hb hby d5_92) (by decide) (by decide) (show ¬ (3 : Int32) < (3 : Int32) from by decide) ?_
  refine g_iincC X230 hx (pc' := 124) (x := (1 : Int32)) (z := (2 : Int32)) rfl (hb hby d5_121) rfl (by decide) (l' := #[.val (.ref ta), .val (.int (4 : Int32)), .val (.int (2 : Int32)), .val (.ref ca), .val (.int (3 : Int32)), .val (.int (0 : Int32)), .val (.int (0 : Int32)), .val (.double t0), .second, .val (.int (2 : Int32)), .val (.double t1), .second, .val (.int (3 : Int32)), .val (.int (3 : Int32))]) rfl ?_
  refine g_goto X230 hx (pc' := 61) (hb hby d5_124) (by decide) (by decide) ?_
  refine g_iload X230 hx (pc' := 63) rfl (hb hby d5_61) rfl ?_
  refine g_iloadN X230 hx (pc' := 64) rfl (hb hby d5_63) rfl ?_
  refine g_icmpY X230 hx (pcY := 127) (hb hby d5_64) (by decide) (by decide) (show ¬ (2 : Int32) < (2 : Int32) from by decide) ?_
  refine g_iincC X230 hx (pc' := 130) (x := (0 : Int32)) (z := (1 : Int32)) rfl (hb hby d5_127) rfl (by decide) (l' := #[.val (.ref ta), .val (.int (4 : Int32)), .val (.int (2 : Int32)), .val (.ref ca), .val (.int (3 : Int32)), .val (.int (1 : Int32)), .val (.int (0 : Int32)), .val (.double t0), .second, .val (.int (2 : Int32)), .val (.double t1), .second, .val (.int (3 : Int32)), .val (.int (3 : Int32))]) rfl ?_
  refine g_goto X230 hx (pc' := 3) (hb hby d5_130) (by decide) (by decide) ?_
  refine g_iload X230 hx (pc' := 5) rfl (hb hby d5_3) rfl ?_
  refine g_iloadN X230 hx (pc' := 6) rfl (hb hby d5_5) rfl ?_
  refine g_icmpN X230 hx (pcN := 9) (hb hby d5_6) rfl (show ¬ (¬ (1 : Int32) < (2 : Int32)) from by decide) ?_
  refine g_iload X230 hx (pc' := 11) rfl (hb hby d5_9) rfl ?_
  refine g_iload X230 hx (pc' := 13) rfl (hb hby d5_11) rfl ?_
  refine g_imul X230 hx (pc' := 14) rfl (hb hby d5_13) ?_
  refine g_normI (z := (3 : Int32)) (by decide) ?_
  refine g_istore X230 hx (pc' := 16) rfl (hb hby d5_14) (l' := #[.val (.ref ta), .val (.int (4 : Int32)), .val (.int (2 : Int32)), .val (.ref ca), .val (.int (3 : Int32)), .val (.int (1 : Int32)), .val (.int (3 : Int32)), .val (.double t0), .second, .val (.int (2 : Int32)), .val (.double t1), .second, .val (.int (3 : Int32)), .val (.int (3 : Int32))]) rfl ?_
  refine g_aloadN X230 hx (pc' := 17) rfl (hb hby d5_16) rfl rfl ?_
  refine g_iload X230 hx (pc' := 19) rfl (hb hby d5_17) rfl ?_
  refine g_iloadN X230 hx (pc' := 20) rfl (hb hby d5_19) rfl ?_
  refine g_imul X230 hx (pc' := 21) rfl (hb hby d5_20) ?_
  refine g_normI (z := (4 : Int32)) (by decide) ?_
  refine g_iload X230 hx (pc' := 23) rfl (hb hby d5_21) rfl ?_
  refine g_iadd X230 hx (pc' := 24) rfl (hb hby d5_23) ?_
  refine g_normI (z := (5 : Int32)) (by decide) ?_
  refine g_daload X230 hx hZ f231 (i := 5) (by decide) (show (5 : Nat) < 16 by decide) (v := t5) rfl (pc' := 25) rfl (hb hby d5_24) ?_
  refine g_dstore X230 hx (pc' := 27) rfl (hb hby d5_25) (l' := #[.val (.ref ta), .val (.int (4 : Int32)), .val (.int (2 : Int32)), .val (.ref ca), .val (.int (3 : Int32)), .val (.int (1 : Int32)), .val (.int (3 : Int32)), .val (.double t5), .second, .val (.int (2 : Int32)), .val (.double t1), .second, .val (.int (3 : Int32)), .val (.int (3 : Int32))]) rfl ?_
  refine g_iconst X230 hx (pc' := 28) (z := (0 : Int32)) rfl (hb hby d5_27) rfl ?_
  refine g_istore X230 hx (pc' := 30) rfl (hb hby d5_28) (l' := #[.val (.ref ta), .val (.int (4 : Int32)), .val (.int (2 : Int32)), .val (.ref ca), .val (.int (3 : Int32)), .val (.int (1 : Int32)), .val (.int (3 : Int32)), .val (.double t5), .second, .val (.int (0 : Int32)), .val (.double t1), .second, .val (.int (3 : Int32)), .val (.int (3 : Int32))]) rfl ?_
  refine g_iload X230 hx (pc' := 32) rfl (hb hby d5_30) rfl ?_
  refine g_iload X230 hx (pc' := 34) rfl (hb hby d5_32) rfl ?_
  refine g_icmpN X230 hx (pcN := 37) (hb hby d5_34) rfl (show ¬ (¬ (0 : Int32) < (3 : Int32)) from by decide) ?_
  refine g_aloadN X230 hx (pc' := 38) rfl (hb hby d5_37) rfl rfl ?_
  refine g_iload X230 hx (pc' := 40) rfl (hb hby d5_38) rfl ?_
  refine g_iload X230 hx (pc' := 42) rfl (hb hby d5_40) rfl ?_
  refine g_iadd X230 hx (pc' := 43) rfl (hb hby d5_42) ?_
  refine g_normI (z := (3 : Int32)) (by decide) ?_
  refine g_dup2 X230 hx (pc' := 44) rfl (hb hby d5_43) rfl rfl ?_
  refine g_daload X230 hx hZ V230 (i := 3) (by decide) (show (3 : Nat) < 12 by decide) (v := d215) rfl (pc' := 45) rfl (hb hby d5_44) ?_
  refine g_dload X230 hx (pc' := 47) rfl (hb hby d5_45) rfl ?_
  have q234 : Dy (n215 * e5) 1068 (FP.ddiv d215 t5) := dy_div (dy_shift 3 (j := 1068) q215) yt5 hz5 (own_divq he5) rfl (own_mb b215 be5 (by decide)) (by decide)
  refine g_ddiv X230 hx (pc' := 48) (z := (FP.ddiv d215 t5)) rfl (hb hby d5_47) (dy_noNaN q234) rfl ?_
  refine g_absD (fun d234 hd234 => ?_)
  rw [← hd234] at q234
  obtain ⟨n234, en234⟩ : ∃ z : Int, z = n215 * e5 := ⟨_, rfl⟩
  rw [← en234] at q234
  have b234 : n234.natAbs ≤ 4608 := by rw [en234, Int.natAbs_mul]; exact Nat.le_trans (Nat.mul_le_mul b215 be5) (by decide)
  refine g_dastore X230 hx hZ V230 (i := 3) (by decide) (show (3 : Nat) < 12 by decide) hg (pc' := 49) rfl (hb hby d5_48) (fun T235 h235 X235 W235 N235 => ?_)
  have f236 := f231.other W235 hne
  have f237 := (by have q := (Keep.of_wr W235).1; exact Nat.le_trans f232 q : n0 ≤ h235.size)
  have f238 := f233.wr W235 (Or.inl (List.mem_of_getElem? (i := 0) rfl))
  have V235 : AD Z h235 ca [d198, d203, d208, d234, d222, d229, c6, c7, c8, c9, c10, c11] := N235
  refine g_iincC X235 hx (pc' := 52) (x := (0 : Int32)) (z := (1 : Int32)) rfl (hb hby d5_49) rfl (by decide) (l' := #[.val (.ref ta), .val (.int (4 : Int32)), .val (.int (2 : Int32)), .val (.ref ca), .val (.int (3 : Int32)), .val (.int (1 : Int32)), .val (.int (3 : Int32)), .val (.double t5), .second, .val (.int (1 : Int32)), .val (.double t1), .second, .val (.int (3 : Int32)), .val (.int (3 : Int32))]) rfl ?_
  refine g_goto X235 hx (pc' := 30) (hb hby d5_52) (by decide) (by decide) ?_
  refine g_iload X235 hx (pc' := 32) rfl (hb hby d5_30) rfl ?_
  refine g_iload X235 hx (pc' := 34) rfl (hb hby d5_32) rfl ?_
  refine g_icmpN X235 hx (pcN := 37) (hb hby d5_34) rfl (show ¬ (¬ (1 : Int32) < (3 : Int32)) from by decide) ?_
  refine g_aloadN X235 hx (pc' := 38) rfl (hb hby d5_37) rfl rfl ?_
  refine g_iload X235 hx (pc' := 40) rfl (hb hby d5_38) rfl ?_
  refine g_iload X235 hx (pc' := 42) rfl (hb hby d5_40) rfl ?_
  refine g_iadd X235 hx (pc' := 43) rfl (hb hby d5_42) ?_
  refine g_normI (z := (4 : Int32)) (by decide) ?_
  refine g_dup2 X235 hx (pc' := 44) rfl (hb hby d5_43) rfl rfl ?_
  refine g_daload X235 hx hZ V235 (i := 4) (by decide) (show (4 : Nat) < 12 by decide) (v := d222) rfl (pc' := 45) rfl (hb hby d5_44) ?_
  refine g_dload X235 hx (pc' := 47) rfl (hb hby d5_45) rfl ?_
  have q239 : Dy (n222 * e5) 1068 (FP.ddiv d222 t5) := dy_div (dy_shift 3 (j := 1068) q222) yt5 hz5 (own_divq he5) rfl (own_mb b222 be5 (by decide)) (by decide)
  refine g_ddiv X235 hx (pc' := 48) (z := (FP.ddiv d222 t5)) rfl (hb hby d5_47) (dy_noNaN q239) rfl ?_
  refine g_absD (fun d239 hd239 => ?_)
  rw [← hd239] at q239
  obtain ⟨n239, en239⟩ : ∃ z : Int, z = n222 * e5 := ⟨_, rfl⟩
  rw [← en239] at q239
  have b239 : n239.natAbs ≤ 4608 := by rw [en239, Int.natAbs_mul]; exact Nat.le_trans (Nat.mul_le_mul b222 be5) (by decide)
  refine g_dastore X235 hx hZ V235 (i := 4) (by decide) (show (4 : Nat) < 12 by decide) hg (pc' := 49) rfl (hb hby d5_48) (fun T240 h240 X240 W240 N240 => ?_)
  have f241 := f236.other W240 hne
  have f242 := (by have q := (Keep.of_wr W240).1; exact Nat.le_trans f237 q : n0 ≤ h240.size)
  have f243 := f238.wr W240 (Or.inl (List.mem_of_getElem? (i := 0) rfl))
  have V240 : AD Z h240 ca [d198, d203, d208, d234, d239, d229, c6, c7, c8, c9, c10, c11] := N240
  refine g_iincC X240 hx (pc' := 52) (x := (1 : Int32)) (z := (2 : Int32)) rfl (hb hby d5_49) rfl (by decide) (l' := #[.val (.ref ta), .val (.int (4 : Int32)), .val (.int (2 : Int32)), .val (.ref ca), .val (.int (3 : Int32)), .val (.int (1 : Int32)), .val (.int (3 : Int32)), .val (.double t5), .second, .val (.int (2 : Int32)), .val (.double t1), .second, .val (.int (3 : Int32)), .val (.int (3 : Int32))]) rfl ?_
  refine g_goto X240 hx (pc' := 30) (hb hby d5_52) (by decide) (by decide) ?_
  refine g_iload X240 hx (pc' := 32) rfl (hb hby d5_30) rfl ?_
  refine g_iload X240 hx (pc' := 34) rfl (hb hby d5_32) rfl ?_
  refine g_icmpN X240 hx (pcN := 37) (hb hby d5_34) rfl (show ¬ (¬ (2 : Int32) < (3 : Int32)) from by decide) ?_
  refine g_aloadN X240 hx (pc' := 38) rfl (hb hby d5_37) rfl rfl ?_
  refine g_iload X240 hx (pc' := 40) rfl (hb hby d5_38) rfl ?_
  refine g_iload X240 hx (pc' := 42) rfl (hb hby d5_40) rfl ?_
  refine g_iadd X240 hx (pc' := 43) rfl (hb hby d5_42) ?_
  refine g_normI (z := (5 : Int32)) (by decide) ?_
  refine g_dup2 X240 hx (pc' := 44) rfl (hb hby d5_43) rfl rfl ?_
  refine g_daload X240 hx hZ V240 (i := 5) (by decide) (show (5 : Nat) < 12 by decide) (v := d229) rfl (pc' := 45) rfl (hb hby d5_44) ?_
  refine g_dload X240 hx (pc' := 47) rfl (hb hby d5_45) rfl ?_
  have q244 : Dy (n229 * e5) 1068 (FP.ddiv d229 t5) := dy_div (dy_shift 3 (j := 1068) q229) yt5 hz5 (own_divq he5) rfl (own_mb b229 be5 (by decide)) (by decide)
  refine g_ddiv X240 hx (pc' := 48) (z := (FP.ddiv d229 t5)) rfl (hb hby d5_47) (dy_noNaN q244) rfl ?_
  refine g_absD (fun d244 hd244 => ?_)
  rw [← hd244] at q244
  obtain ⟨n244, en244⟩ : ∃ z : Int, z = n229 * e5 := ⟨_, rfl⟩
  rw [← en244] at q244
  have b244 : n244.natAbs ≤ 4608 := by rw [en244, Int.natAbs_mul]; exact Nat.le_trans (Nat.mul_le_mul b229 be5) (by decide)
  refine g_dastore X240 hx hZ V240 (i := 5) (by decide) (show (5 : Nat) < 12 by decide) hg (pc' := 49) rfl (hb hby d5_48) (fun T245 h245 X245 W245 N245 => ?_)
  have f246 := f241.other W245 hne
  have f247 := (by have q := (Keep.of_wr W245).1; exact Nat.le_trans f242 q : n0 ≤ h245.size)
  have f248 := f243.wr W245 (Or.inl (List.mem_of_getElem? (i := 0) rfl))
  have V245 : AD Z h245 ca [d198, d203, d208, d234, d239, d244, c6, c7, c8, c9, c10, c11] := N245
  refine g_iincC X245 hx (pc' := 52) (x := (2 : Int32)) (z := (3 : Int32)) rfl (hb hby d5_49) rfl (by decide) (l' := #[.val (.ref ta), .val (.int (4 : Int32)), .val (.int (2 : Int32)), .val (.ref ca), .val (.int (3 : Int32)), .val (.int (1 : Int32)), .val (.int (3 : Int32)), .val (.double t5), .second, .val (.int (3 : Int32)), .val (.double t1), .second, .val (.int (3 : Int32)), .val (.int (3 : Int32))]) rfl ?_
  refine g_goto X245 hx (pc' := 30) (hb hby d5_52) (by decide) (by decide) ?_
  refine g_iload X245 hx (pc' := 32) rfl (hb hby d5_30) rfl ?_
  refine g_iload X245 hx (pc' := 34) rfl (hb hby d5_32) rfl ?_
  refine g_icmpY X245 hx (pcY := 55) (hb hby d5_34) (by decide) (by decide) (show ¬ (3 : Int32) < (3 : Int32) from by decide) ?_
  refine g_iload X245 hx (pc' := 57) rfl (hb hby d5_55) rfl ?_
  refine g_iconst X245 hx (pc' := 58) (z := (1 : Int32)) rfl (hb hby d5_57) rfl ?_
  refine g_iadd X245 hx (pc' := 59) rfl (hb hby d5_58) ?_
  refine g_normI (z := (2 : Int32)) (by decide) ?_
  refine g_istore X245 hx (pc' := 61) rfl (hb hby d5_59) (l' := #[.val (.ref ta), .val (.int (4 : Int32)), .val (.int (2 : Int32)), .val (.ref ca), .val (.int (3 : Int32)), .val (.int (1 : Int32)), .val (.int (3 : Int32)), .val (.double t5), .second, .val (.int (2 : Int32)), .val (.double t1), .second, .val (.int (3 : Int32)), .val (.int (3 : Int32))]) rfl ?_
  refine g_iload X245 hx (pc' := 63) rfl (hb hby d5_61) rfl ?_
  refine g_iloadN X245 hx (pc' := 64) rfl (hb hby d5_63) rfl ?_
  refine g_icmpY X245 hx (pcY := 127) (hb hby d5_64) (by decide) (by decide) (show ¬ (2 : Int32) < (2 : Int32) from by decide) ?_
  refine g_iincC X245 hx (pc' := 130) (x := (1 : Int32)) (z := (2 : Int32)) rfl (hb hby d5_127) rfl (by decide) (l' := #[.val (.ref ta), .val (.int (4 : Int32)), .val (.int (2 : Int32)), .val (.ref ca), .val (.int (3 : Int32)), .val (.int (2 : Int32)), .val (.int (3 : Int32)), .val (.double t5), .second, .val (.int (2 : Int32)), .val (.double t1), .second, .val (.int (3 : Int32)), .val (.int (3 : Int32))]) rfl ?_
  refine g_goto X245 hx (pc' := 3) (hb hby d5_130) (by decide) (by decide) ?_
  refine g_iload X245 hx (pc' := 5) rfl (hb hby d5_3) rfl ?_
  refine g_iloadN X245 hx (pc' := 6) rfl (hb hby d5_5) rfl ?_
  refine g_icmpY X245 hx (pcY := 133) (hb hby d5_6) (by decide) (by decide) (show ¬ (2 : Int32) < (2 : Int32) from by decide) ?_
  exact g_retV X245 hx hlk hret (hb hby d5_133) (by decide) (by decide) (⟨rfl, f248, _, V245, rfl, own_all12 (Chk.b0 (by decide) (by decide) (own_S0 yt0 q198 yc0 bt0 b198 (by rw [en198]; exact own_f0 he0))) (Chk.b0 (by decide) (by decide) (own_S0 yt0 q203 yc1 bt0 b203 (by rw [en203]; exact own_f0 he0))) (Chk.b0 (by decide) (by decide) (own_S0 yt0 q208 yc2 bt0 b208 (by rw [en208]; exact own_f0 he0))) (Chk.b1 (by decide) (by decide) (own_S1 yt5 q234 yt1 q198 yc3 bt5 b234 bt1 b198 (by rw [en234, en215, en214, en213]; exact own_f1 he5))) (Chk.b1 (by decide) (by decide) (own_S1 yt5 q239 yt1 q203 yc4 bt5 b239 bt1 b203 (by rw [en239, en222, en221, en220]; exact own_f1 he5))) (Chk.b1 (by decide) (by decide) (own_S1 yt5 q244 yt1 q208 yc5 bt5 b244 bt1 b208 (by rw [en244, en229, en228, en227]; exact own_f1 he5))) (Chk.a (by decide) (own_dyeq yc6 yc6 rfl)) (Chk.a (by decide) (own_dyeq yc7 yc7 rfl)) (Chk.a (by decide) (own_dyeq yc8 yc8 rfl)) (Chk.a (by decide) (own_dyeq yc9 yc9 rfl)) (Chk.a (by decide) (own_dyeq yc10 yc10 rfl)) (Chk.a (by decide) (own_dyeq yc11 yc11 rfl))⟩)
set_option maxRecDepth 65536 in
set_option maxHeartbeats 40000000 in
theorem rm5_3_1 (l : Launch) (Z : State) (a0 : Array Value) (hw : ∀ d ∈ tables_1, d.before a0 Z = true) (ws : List Jvm.Cond) (n0 : Nat) (ta ca : Addr) (t0 : UInt64) (t1 : UInt64) (t2 : UInt64) (t3 : UInt64) (t4 : UInt64) (t5 : UInt64) (t6 : UInt64) (t7 : UInt64) (t8 : UInt64) (t9 : UInt64) (t10 : UInt64) (t11 : UInt64) (t12 : UInt64) (t13 : UInt64) (t14 : UInt64) (t15 : UInt64) (mt0 : Int) (mt1 : Int) (mt2 : Int) (mt5 : Int) (mt6 : Int) (mt10 : Int) (e0 : Int) (e5 : Int) (e10 : Int) (c0 : UInt64) (mc0 : Int) (c1 : UInt64) (mc1 : Int) (c2 : UInt64) (mc2 : Int) (c3 : UInt64) (mc3 : Int) (c4 : UInt64) (mc4 : Int) (c5 : UInt64) (mc5 : Int) (c6 : UInt64) (mc6 : Int) (c7 : UInt64) (mc7 : Int) (c8 : UInt64) (mc8 : Int) (c9 : UInt64) (mc9 : Int) (c10 : UInt64) (mc10 : Int) (c11 : UInt64) (mc11 : Int) (h0 : Heap) (hn0 : n0 ≤ h0.size) (At : AD Z h0 ta [t0, t1, t2, t3, t4, t5, t6, t7, t8, t9, t10, t11, t12, t13, t14, t15]) (Ac : AD Z h0 ca [c0, c1, c2, c3, c4, c5, c6, c7, c8, c9, c10, c11]) (hne : ta ≠ ca) (hg : n0 ≤ ca) (yc0 : Dy mc0 1074 c0) (bc0 : mc0.natAbs ≤ 8) (yc1 : Dy mc1 1074 c1) (bc1 : mc1.natAbs ≤ 8) (yc2 : Dy mc2 1074 c2) (bc2 : mc2.natAbs ≤ 8) (yc3 : Dy mc3 1074 c3) (bc3 : mc3.natAbs ≤ 8) (yc4 : Dy mc4 1074 c4) (bc4 : mc4.natAbs ≤ 8) (yc5 : Dy mc5 1074 c5) (bc5 : mc5.natAbs ≤ 8) (yc6 : Dy mc6 1074 c6) (bc6 : mc6.natAbs ≤ 8) (yc7 : Dy mc7 1074 c7) (bc7 : mc7.natAbs ≤ 8) (yc8 : Dy mc8 1074 c8) (bc8 : mc8.natAbs ≤ 8) (yc9 : Dy mc9 1074 c9) (bc9 : mc9.natAbs ≤ 8) (yc10 : Dy mc10 1074 c10) (bc10 : mc10.natAbs ≤ 8) (yc11 : Dy mc11 1074 c11) (bc11 : mc11.natAbs ≤ 8) (yt0 : Dy mt0 1074 t0) (bt0 : mt0.natAbs ≤ 8) (yt1 : Dy mt1 1074 t1) (bt1 : mt1.natAbs ≤ 8) (yt2 : Dy mt2 1074 t2) (bt2 : mt2.natAbs ≤ 8) (yt5 : Dy mt5 1074 t5) (bt5 : mt5.natAbs ≤ 8) (yt6 : Dy mt6 1074 t6) (bt6 : mt6.natAbs ≤ 8) (yt10 : Dy mt10 1074 t10) (bt10 : mt10.natAbs ≤ 8) (he0 : mt0 * e0 = 8) (hz0 : mt0 ≠ 0) (be0 : e0.natAbs ≤ 8) (he5 : mt5 * e5 = 8) (hz5 : mt5 ≠ 0) (be5 : e5.natAbs ≤ 8) (he10 : mt10 * e10 = 8) (hz10 : mt10 ≠ 0) (be10 : e10.natAbs ≤ 8) :
    Con l Z n0 (⟨"com/example/orthogon/orthogon/Triangular", "solveUpperTransposed", "([DII[DI)V"⟩ : MethodName) prog_16_method_4_code 14 none ws ({ frames := 0, cells := 0, slots := 0, locals := 0 } : Room) #[(.ref ta), (.int (4 : Int32)), (.int (3 : Int32)), (.ref ca), (.int (1 : Int32))] h0 (fun v h => v = none ∧ Keep h0 h [ca] ∧ ∃ xs, AD Z h ca xs ∧ xs.length = 12 ∧ ChkAll [t0, t1, t2, t3, t4, t5, t6, t7, t8, t9, t10, t11, t12, t13, t14, t15] xs [c0, c1, c2, c3, c4, c5, c6, c7, c8, c9, c10, c11] (3 : Int32) (1 : Int32)) := by
  refine con_start (plainFor_of_name (by first | (simp [plainName, overriddenIn]; done) | decide +kernel)) (fr0 := fun m => mkF m 0 #[.val (.ref ta), .val (.int (4 : Int32)), .val (.int (3 : Int32)), .val (.ref ca), .val (.int (1 : Int32)), .unset, .unset, .unset, .unset, .unset, .unset, .unset, .unset, .unset] []) (fun m => by first | (simp [entryFrame, mkF, argsToLocals, Value.category]; done) | rfl) ?_
  intro p e s m below meth c T0 hx hZ hby hml hown hnm hret hlk X0
  replace hown : s.vm.findClass "com/example/orthogon/orthogon/Triangular" = some m.cls := hown
  replace hml : c.maxLocals = 14 := hml
  refine g_iconst X0 hx (pc' := 1) (z := (0 : Int32)) rfl (hb hby d5_0) rfl ?_
  refine g_istore X0 hx (pc' := 3) rfl (hb hby d5_1) (l' := #[.val (.ref ta), .val (.int (4 : Int32)), .val (.int (3 : Int32)), .val (.ref ca), .val (.int (1 : Int32)), .val (.int (0 : Int32)), .unset, .unset, .unset, .unset, .unset, .unset, .unset, .unset]) rfl ?_
  refine g_iload X0 hx (pc' := 5) rfl (hb hby d5_3) rfl ?_
  refine g_iloadN X0 hx (pc' := 6) rfl (hb hby d5_5) rfl ?_
  refine g_icmpN X0 hx (pcN := 9) (hb hby d5_6) rfl (show ¬ (¬ (0 : Int32) < (3 : Int32)) from by decide) ?_
  refine g_iload X0 hx (pc' := 11) rfl (hb hby d5_9) rfl ?_
  refine g_iload X0 hx (pc' := 13) rfl (hb hby d5_11) rfl ?_
  refine g_imul X0 hx (pc' := 14) rfl (hb hby d5_13) ?_
  refine g_normI (z := (0 : Int32)) (by decide) ?_
  refine g_istore X0 hx (pc' := 16) rfl (hb hby d5_14) (l' := #[.val (.ref ta), .val (.int (4 : Int32)), .val (.int (3 : Int32)), .val (.ref ca), .val (.int (1 : Int32)), .val (.int (0 : Int32)), .val (.int (0 : Int32)), .unset, .unset, .unset, .unset, .unset, .unset, .unset]) rfl ?_
  refine g_aloadN X0 hx (pc' := 17) rfl (hb hby d5_16) rfl rfl ?_
  refine g_iload X0 hx (pc' := 19) rfl (hb hby d5_17) rfl ?_
  refine g_iloadN X0 hx (pc' := 20) rfl (hb hby d5_19) rfl ?_
  refine g_imul X0 hx (pc' := 21) rfl (hb hby d5_20) ?_
  refine g_normI (z := (0 : Int32)) (by decide) ?_
  refine g_iload X0 hx (pc' := 23) rfl (hb hby d5_21) rfl ?_
  refine g_iadd X0 hx (pc' := 24) rfl (hb hby d5_23) ?_
  refine g_normI (z := (0 : Int32)) (by decide) ?_
  refine g_daload X0 hx hZ At (i := 0) (by decide) (show (0 : Nat) < 16 by decide) (v := t0) rfl (pc' := 25) rfl (hb hby d5_24) ?_
  refine g_dstore X0 hx (pc' := 27) rfl (hb hby d5_25) (l' := #[.val (.ref ta), .val (.int (4 : Int32)), .val (.int (3 : Int32)), .val (.ref ca), .val (.int (1 : Int32)), .val (.int (0 : Int32)), .val (.int (0 : Int32)), .val (.double t0), .second, .unset, .unset, .unset, .unset, .unset]) rfl ?_
  refine g_iconst X0 hx (pc' := 28) (z := (0 : Int32)) rfl (hb hby d5_27) rfl ?_
  refine g_istore X0 hx (pc' := 30) rfl (hb hby d5_28) (l' := #[.val (.ref ta), .val (.int (4 : Int32)), .val (.int (3 : Int32)), .val (.ref ca), .val (.int (1 : Int32)), .val (.int (0 : Int32)), .val (.int (0 : Int32)), .val (.double t0), .second, .val (.int (0 : Int32)), .unset, .unset, .unset, .unset]) rfl ?_
  refine g_iload X0 hx (pc' := 32) rfl (hb hby d5_30) rfl ?_
  refine g_iload X0 hx (pc' := 34) rfl (hb hby d5_32) rfl ?_
  refine g_icmpN X0 hx (pcN := 37) (hb hby d5_34) rfl (show ¬ (¬ (0 : Int32) < (1 : Int32)) from by decide) ?_
  refine g_aloadN X0 hx (pc' := 38) rfl (hb hby d5_37) rfl rfl ?_
  refine g_iload X0 hx (pc' := 40) rfl (hb hby d5_38) rfl ?_
  refine g_iload X0 hx (pc' := 42) rfl (hb hby d5_40) rfl ?_
  refine g_iadd X0 hx (pc' := 43) rfl (hb hby d5_42) ?_
  refine g_normI (z := (0 : Int32)) (by decide) ?_
  refine g_dup2 X0 hx (pc' := 44) rfl (hb hby d5_43) rfl rfl ?_
  refine g_daload X0 hx hZ Ac (i := 0) (by decide) (show (0 : Nat) < 12 by decide) (v := c0) rfl (pc' := 45) rfl (hb hby d5_44) ?_
  refine g_dload X0 hx (pc' := 47) rfl (hb hby d5_45) rfl ?_
  have q249 : Dy (mc0 * e0) 1071 (FP.ddiv c0 t0) := dy_div (dy_shift 3 (j := 1071) yc0) yt0 hz0 (own_divq he0) rfl (own_mb bc0 be0 (by decide)) (by decide)
  refine g_ddiv X0 hx (pc' := 48) (z := (FP.ddiv c0 t0)) rfl (hb hby d5_47) (dy_noNaN q249) rfl ?_
  refine g_absD (fun d249 hd249 => ?_)
  rw [← hd249] at q249
  obtain ⟨n249, en249⟩ : ∃ z : Int, z = mc0 * e0 := ⟨_, rfl⟩
  rw [← en249] at q249
  have b249 : n249.natAbs ≤ 64 := by rw [en249, Int.natAbs_mul]; exact Nat.le_trans (Nat.mul_le_mul bc0 be0) (by decide)
  refine g_dastore X0 hx hZ Ac (i := 0) (by decide) (show (0 : Nat) < 12 by decide) hg (pc' := 49) rfl (hb hby d5_48) (fun T250 h250 X250 W250 N250 => ?_)
  have f251 := At.other W250 hne
  have f252 := (by have q := (Keep.of_wr W250).1; exact Nat.le_trans hn0 q : n0 ≤ h250.size)
  have f253 := (Keep.refl h0 [ca]).wr W250 (Or.inl (List.mem_of_getElem? (i := 0) rfl))
  have V250 : AD Z h250 ca [d249, c1, c2, c3, c4, c5, c6, c7, c8, c9, c10, c11] := N250
  refine g_iincC X250 hx (pc' := 52) (x := (0 : Int32)) (z := (1 : Int32)) rfl (hb hby d5_49) rfl (by decide) (l' := #[.val (.ref ta), .val (.int (4 : Int32)), .val (.int (3 : Int32)), .val (.ref ca), .val (.int (1 : Int32)), .val (.int (0 : Int32)), .val (.int (0 : Int32)), .val (.double t0), .second, .val (.int (1 : Int32)), .unset, .unset, .unset, .unset]) rfl ?_
  refine g_goto X250 hx (pc' := 30) (hb hby d5_52) (by decide) (by decide) ?_
  refine g_iload X250 hx (pc' := 32) rfl (hb hby d5_30) rfl ?_
  refine g_iload X250 hx (pc' := 34) rfl (hb hby d5_32) rfl ?_
  refine g_icmpY X250 hx (pcY := 55) (hb hby d5_34) (by decide) (by decide) (show ¬ (1 : Int32) < (1 : Int32) from by decide) ?_
  refine g_iload X250 hx (pc' := 57) rfl (hb hby d5_55) rfl ?_
  refine g_iconst X250 hx (pc' := 58) (z := (1 : Int32)) rfl (hb hby d5_57) rfl ?_
  refine g_iadd X250 hx (pc' := 59) rfl (hb hby d5_58) ?_
  refine g_normI (z := (1 : Int32)) (by decide) ?_
  refine g_istore X250 hx (pc' := 61) rfl (hb hby d5_59) (l' := #[.val (.ref ta), .val (.int (4 : Int32)), .val (.int (3 : Int32)), .val (.ref ca), .val (.int (1 : Int32)), .val (.int (0 : Int32)), .val (.int (0 : Int32)), .val (.double t0), .second, .val (.int (1 : Int32)), .unset, .unset, .unset, .unset]) rfl ?_
  refine g_iload X250 hx (pc' := 63) rfl (hb hby d5_61) rfl ?_
  refine g_iloadN X250 hx (pc' := 64) rfl (hb hby d5_63) rfl ?_
  refine g_icmpN X250 hx (pcN := 67) (hb hby d5_64) rfl (show ¬ (¬ (1 : Int32) < (3 : Int32)) from by decide) ?_
  refine g_aloadN X250 hx (pc' := 68) rfl (hb hby d5_67) rfl rfl ?_
  refine g_iload X250 hx (pc' := 70) rfl (hb hby d5_68) rfl ?_
  refine g_iloadN X250 hx (pc' := 71) rfl (hb hby d5_70) rfl ?_
  refine g_imul X250 hx (pc' := 72) rfl (hb hby d5_71) ?_
  refine g_normI (z := (0 : Int32)) (by decide) ?_
  refine g_iload X250 hx (pc' := 74) rfl (hb hby d5_72) rfl ?_
  refine g_iadd X250 hx (pc' := 75) rfl (hb hby d5_74) ?_
  refine g_normI (z := (1 : Int32)) (by decide) ?_
  refine g_daload X250 hx hZ f251 (i := 1) (by decide) (show (1 : Nat) < 16 by decide) (v := t1) rfl (pc' := 76) rfl (hb hby d5_75) ?_
  refine g_dstore X250 hx (pc' := 78) rfl (hb hby d5_76) (l' := #[.val (.ref ta), .val (.int (4 : Int32)), .val (.int (3 : Int32)), .val (.ref ca), .val (.int (1 : Int32)), .val (.int (0 : Int32)), .val (.int (0 : Int32)), .val (.double t0), .second, .val (.int (1 : Int32)), .val (.double t1), .second, .unset, .unset]) rfl ?_
  refine g_iload X250 hx (pc' := 80) rfl (hb hby d5_78) rfl ?_
  refine g_iload X250 hx (pc' := 82) rfl (hb hby d5_80) rfl ?_
  refine g_imul X250 hx (pc' := 83) rfl (hb hby d5_82) ?_
  refine g_normI (z := (1 : Int32)) (by decide) ?_
  refine g_istore X250 hx (pc' := 85) rfl (hb hby d5_83) (l' := #[.val (.ref ta), .val (.int (4 : Int32)), .val (.int (3 : Int32)), .val (.ref ca), .val (.int (1 : Int32)), .val (.int (0 : Int32)), .val (.int (0 : Int32)), .val (.double t0), .second, .val (.int (1 : Int32)), .val (.double t1), .second, .val (.int (1 : Int32)), .unset]) rfl ?_
  refine g_iconst X250 hx (pc' := 86) (z := (0 : Int32)) rfl (hb hby d5_85) rfl ?_
  refine g_istore X250 hx (pc' := 88) rfl (hb hby d5_86) (l' := #[.val (.ref ta), .val (.int (4 : Int32)), .val (.int (3 : Int32)), .val (.ref ca), .val (.int (1 : Int32)), .val (.int (0 : Int32)), .val (.int (0 : Int32)), .val (.double t0), .second, .val (.int (1 : Int32)), .val (.double t1), .second, .val (.int (1 : Int32)), .val (.int (0 : Int32))]) rfl ?_
  refine g_iload X250 hx (pc' := 90) rfl (hb hby d5_88) rfl ?_
  refine g_iload X250 hx (pc' := 92) rfl (hb hby d5_90) rfl ?_
  refine g_icmpN X250 hx (pcN := 95) (hb hby d5_92) rfl (show ¬ (¬ (0 : Int32) < (1 : Int32)) from by decide) ?_
  refine g_aloadN X250 hx (pc' := 96) rfl (hb hby d5_95) rfl rfl ?_
  refine g_iload X250 hx (pc' := 98) rfl (hb hby d5_96) rfl ?_
  refine g_iload X250 hx (pc' := 100) rfl (hb hby d5_98) rfl ?_
  refine g_iadd X250 hx (pc' := 101) rfl (hb hby d5_100) ?_
  refine g_normI (z := (1 : Int32)) (by decide) ?_
  refine g_dup2 X250 hx (pc' := 102) rfl (hb hby d5_101) rfl rfl ?_
  refine g_daload X250 hx hZ V250 (i := 1) (by decide) (show (1 : Nat) < 12 by decide) (v := c1) rfl (pc' := 103) rfl (hb hby d5_102) ?_
  refine g_dload X250 hx (pc' := 105) rfl (hb hby d5_103) rfl ?_
  refine g_aloadN X250 hx (pc' := 106) rfl (hb hby d5_105) rfl rfl ?_
  refine g_iload X250 hx (pc' := 108) rfl (hb hby d5_106) rfl ?_
  refine g_iload X250 hx (pc' := 110) rfl (hb hby d5_108) rfl ?_
  refine g_iadd X250 hx (pc' := 111) rfl (hb hby d5_110) ?_
  refine g_normI (z := (0 : Int32)) (by decide) ?_
  refine g_daload X250 hx hZ V250 (i := 0) (by decide) (show (0 : Nat) < 12 by decide) (v := d249) rfl (pc' := 112) rfl (hb hby d5_111) ?_
  have q254 : Dy (mt1 * n249) 1071 (FP.dmul t1 d249) := dy_mul yt1 q249 (by decide) (own_mb bt1 b249 (by decide)) (by decide)
  refine g_dmul X250 hx (pc' := 113) (z := (FP.dmul t1 d249)) rfl (hb hby d5_112) (dy_noNaN q254) rfl ?_
  refine g_absD (fun d254 hd254 => ?_)
  rw [← hd254] at q254
  obtain ⟨n254, en254⟩ : ∃ z : Int, z = mt1 * n249 := ⟨_, rfl⟩
  rw [← en254] at q254
  have b254 : n254.natAbs ≤ 512 := by rw [en254, Int.natAbs_mul]; exact Nat.le_trans (Nat.mul_le_mul bt1 b249) (by decide)
  obtain ⟨n255, en255⟩ : ∃ z : Int, z = mc1 * 8 := ⟨_, rfl⟩
  have q255 : Dy n255 1071 c1 := by rw [en255]; exact dy_shift 3 (j := 1071) yc1
  have b255 : n255.natAbs ≤ 64 := by rw [en255]; exact own_shl bc1 (by decide)
  have q256 : Dy (n255 - n254) 1071 (FP.dsub c1 d254) := dy_sub q255 q254 (own_subb b255 b254 (by decide)) (by decide)
  refine g_dsub X250 hx (pc' := 114) (z := (FP.dsub c1 d254)) rfl (hb hby d5_113) (dy_noNaN q256) rfl ?_
  refine g_absD (fun d256 hd256 => ?_)
  rw [← hd256] at q256
  obtain ⟨n256, en256⟩ : ∃ z : Int, z = n255 - n254 := ⟨_, rfl⟩
  rw [← en256] at q256
  have b256 : n256.natAbs ≤ 576 := by rw [en256]; exact Nat.le_trans (own_subl b255 b254) (by decide)
  refine g_dastore X250 hx hZ V250 (i := 1) (by decide) (show (1 : Nat) < 12 by decide) hg (pc' := 115) rfl (hb hby d5_114) (fun T257 h257 X257 W257 N257 => ?_)
  have f258 := f251.other W257 hne
  have f259 := (by have q := (Keep.of_wr W257).1; exact Nat.le_trans f252 q : n0 ≤ h257.size)
  have f260 := f253.wr W257 (Or.inl (List.mem_of_getElem? (i := 0) rfl))
  have V257 : AD Z h257 ca [d249, d256, c2, c3, c4, c5, c6, c7, c8, c9, c10, c11] := N257
  refine g_iincC X257 hx (pc' := 118) (x := (0 : Int32)) (z := (1 : Int32)) rfl (hb hby d5_115) rfl (by decide) (l' := #[.val (.ref ta), .val (.int (4 : Int32)), .val (.int (3 : Int32)), .val (.ref ca), .val (.int (1 : Int32)), .val (.int (0 : Int32)), .val (.int (0 : Int32)), .val (.double t0), .second, .val (.int (1 : Int32)), .val (.double t1), .second, .val (.int (1 : Int32)), .val (.int (1 : Int32))]) rfl ?_
  refine g_goto X257 hx (pc' := 88) (hb hby d5_118) (by decide) (by decide) ?_
  refine g_iload X257 hx (pc' := 90) rfl (hb hby d5_88) rfl ?_
  refine g_iload X257 hx (pc' := 92) rfl (hb hby d5_90) rfl ?_
  refine g_icmpY X257 hx (pcY := 121) (hb hby d5_92) (by decide) (by decide) (show ¬ (1 : Int32) < (1 : Int32) from by decide) ?_
  refine g_iincC X257 hx (pc' := 124) (x := (1 : Int32)) (z := (2 : Int32)) rfl (hb hby d5_121) rfl (by decide) (l' := #[.val (.ref ta), .val (.int (4 : Int32)), .val (.int (3 : Int32)), .val (.ref ca), .val (.int (1 : Int32)), .val (.int (0 : Int32)), .val (.int (0 : Int32)), .val (.double t0), .second, .val (.int (2 : Int32)), .val (.double t1), .second, .val (.int (1 : Int32)), .val (.int (1 : Int32))]) rfl ?_
  refine g_goto X257 hx (pc' := 61) (hb hby d5_124) (by decide) (by decide) ?_
  refine g_iload X257 hx (pc' := 63) rfl (hb hby d5_61) rfl ?_
  refine g_iloadN X257 hx (pc' := 64) rfl (hb hby d5_63) rfl ?_
  refine g_icmpN X257 hx (pcN := 67) (hb hby d5_64) rfl (show ¬ (¬ (2 : Int32) < (3 : Int32)) from by decide) ?_
  refine g_aloadN X257 hx (pc' := 68) rfl (hb hby d5_67) rfl rfl ?_
  refine g_iload X257 hx (pc' := 70) rfl (hb hby d5_68) rfl ?_
  refine g_iloadN X257 hx (pc' := 71) rfl (hb hby d5_70) rfl ?_
  refine g_imul X257 hx (pc' := 72) rfl (hb hby d5_71) ?_
  refine g_normI (z := (0 : Int32)) (by decide) ?_
  refine g_iload X257 hx (pc' := 74) rfl (hb hby d5_72) rfl ?_
  refine g_iadd X257 hx (pc' := 75) rfl (hb hby d5_74) ?_
  refine g_normI (z := (2 : Int32)) (by decide) ?_
  refine g_daload X257 hx hZ f258 (i := 2) (by decide) (show (2 : Nat) < 16 by decide) (v := t2) rfl (pc' := 76) rfl (hb hby d5_75) ?_
  refine g_dstore X257 hx (pc' := 78) rfl (hb hby d5_76) (l' := #[.val (.ref ta), .val (.int (4 : Int32)), .val (.int (3 : Int32)), .val (.ref ca), .val (.int (1 : Int32)), .val (.int (0 : Int32)), .val (.int (0 : Int32)), .val (.double t0), .second, .val (.int (2 : Int32)), .val (.double t2), .second, .val (.int (1 : Int32)), .val (.int (1 : Int32))]) rfl ?_
  refine g_iload X257 hx (pc' := 80) rfl (hb hby d5_78) rfl ?_
  refine g_iload X257 hx (pc' := 82) rfl (hb hby d5_80) rfl ?_
  refine g_imul X257 hx (pc' := 83) rfl (hb hby d5_82) ?_
  refine g_normI (z := (2 : Int32)) (by decide) ?_
  refine g_istore X257 hx (pc' := 85) rfl (hb hby d5_83) (l' := #[.val (.ref ta), .val (.int (4 : Int32)), .val (.int (3 : Int32)), .val (.ref ca), .val (.int (1 : Int32)), .val (.int (0 : Int32)), .val (.int (0 : Int32)), .val (.double t0), .second, .val (.int (2 : Int32)), .val (.double t2), .second, .val (.int (2 : Int32)), .val (.int (1 : Int32))]) rfl ?_
  refine g_iconst X257 hx (pc' := 86) (z := (0 : Int32)) rfl (hb hby d5_85) rfl ?_
  refine g_istore X257 hx (pc' := 88) rfl (hb hby d5_86) (l' := #[.val (.ref ta), .val (.int (4 : Int32)), .val (.int (3 : Int32)), .val (.ref ca), .val (.int (1 : Int32)), .val (.int (0 : Int32)), .val (.int (0 : Int32)), .val (.double t0), .second, .val (.int (2 : Int32)), .val (.double t2), .second, .val (.int (2 : Int32)), .val (.int (0 : Int32))]) rfl ?_
  refine g_iload X257 hx (pc' := 90) rfl (hb hby d5_88) rfl ?_
  refine g_iload X257 hx (pc' := 92) rfl (hb hby d5_90) rfl ?_
  refine g_icmpN X257 hx (pcN := 95) (hb hby d5_92) rfl (show ¬ (¬ (0 : Int32) < (1 : Int32)) from by decide) ?_
  refine g_aloadN X257 hx (pc' := 96) rfl (hb hby d5_95) rfl rfl ?_
  refine g_iload X257 hx (pc' := 98) rfl (hb hby d5_96) rfl ?_
  refine g_iload X257 hx (pc' := 100) rfl (hb hby d5_98) rfl ?_
  refine g_iadd X257 hx (pc' := 101) rfl (hb hby d5_100) ?_
  refine g_normI (z := (2 : Int32)) (by decide) ?_
  refine g_dup2 X257 hx (pc' := 102) rfl (hb hby d5_101) rfl rfl ?_
  refine g_daload X257 hx hZ V257 (i := 2) (by decide) (show (2 : Nat) < 12 by decide) (v := c2) rfl (pc' := 103) rfl (hb hby d5_102) ?_
  refine g_dload X257 hx (pc' := 105) rfl (hb hby d5_103) rfl ?_
  refine g_aloadN X257 hx (pc' := 106) rfl (hb hby d5_105) rfl rfl ?_
  refine g_iload X257 hx (pc' := 108) rfl (hb hby d5_106) rfl ?_
  refine g_iload X257 hx (pc' := 110) rfl (hb hby d5_108) rfl ?_
  refine g_iadd X257 hx (pc' := 111) rfl (hb hby d5_110) ?_
  refine g_normI (z := (0 : Int32)) (by decide) ?_
  refine g_daload X257 hx hZ V257 (i := 0) (by decide) (show (0 : Nat) < 12 by decide) (v := d249) rfl (pc' := 112) rfl (hb hby d5_111) ?_
  have q261 : Dy (mt2 * n249) 1071 (FP.dmul t2 d249) := dy_mul yt2 q249 (by decide) (own_mb bt2 b249 (by decide)) (by decide)
  refine g_dmul X257 hx (pc' := 113) (z := (FP.dmul t2 d249)) rfl (hb hby d5_112) (dy_noNaN q261) rfl ?_
  refine g_absD (fun d261 hd261 => ?_)
  rw [← hd261] at q261
  obtain ⟨n261, en261⟩ : ∃ z : Int, z = mt2 * n249 := ⟨_, rfl⟩
  rw [← en261] at q261
  have b261 : n261.natAbs ≤ 512 := by rw [en261, Int.natAbs_mul]; exact Nat.le_trans (Nat.mul_le_mul bt2 b249) (by decide)
  obtain ⟨n262, en262⟩ : ∃ z : Int, z = mc2 * 8 := ⟨_, rfl⟩
  have q262 : Dy n262 1071 c2 := by rw [en262]; exact dy_shift 3 (j := 1071) yc2
  have b262 : n262.natAbs ≤ 64 := by rw [en262]; exact own_shl bc2 (by decide)
  have q263 : Dy (n262 - n261) 1071 (FP.dsub c2 d261) := dy_sub q262 q261 (own_subb b262 b261 (by decide)) (by decide)
  refine g_dsub X257 hx (pc' := 114) (z := (FP.dsub c2 d261)) rfl (hb hby d5_113) (dy_noNaN q263) rfl ?_
  refine g_absD (fun d263 hd263 => ?_)
  rw [← hd263] at q263
  obtain ⟨n263, en263⟩ : ∃ z : Int, z = n262 - n261 := ⟨_, rfl⟩
  rw [← en263] at q263
  have b263 : n263.natAbs ≤ 576 := by rw [en263]; exact Nat.le_trans (own_subl b262 b261) (by decide)
  refine g_dastore X257 hx hZ V257 (i := 2) (by decide) (show (2 : Nat) < 12 by decide) hg (pc' := 115) rfl (hb hby d5_114) (fun T264 h264 X264 W264 N264 => ?_)
  have f265 := f258.other W264 hne
  have f266 := (by have q := (Keep.of_wr W264).1; exact Nat.le_trans f259 q : n0 ≤ h264.size)
  have f267 := f260.wr W264 (Or.inl (List.mem_of_getElem? (i := 0) rfl))
  have V264 : AD Z h264 ca [d249, d256, d263, c3, c4, c5, c6, c7, c8, c9, c10, c11] := N264
  refine g_iincC X264 hx (pc' := 118) (x := (0 : Int32)) (z := (1 : Int32)) rfl (hb hby d5_115) rfl (by decide) (l' := #[.val (.ref ta), .val (.int (4 : Int32)), .val (.int (3 : Int32)), .val (.ref ca), .val (.int (1 : Int32)), .val (.int (0 : Int32)), .val (.int (0 : Int32)), .val (.double t0), .second, .val (.int (2 : Int32)), .val (.double t2), .second, .val (.int (2 : Int32)), .val (.int (1 : Int32))]) rfl ?_
  refine g_goto X264 hx (pc' := 88) (hb hby d5_118) (by decide) (by decide) ?_
  refine g_iload X264 hx (pc' := 90) rfl (hb hby d5_88) rfl ?_
  refine g_iload X264 hx (pc' := 92) rfl (hb hby d5_90) rfl ?_
  refine g_icmpY X264 hx (pcY := 121) (hb hby d5_92) (by decide) (by decide) (show ¬ (1 : Int32) < (1 : Int32) from by decide) ?_
  refine g_iincC X264 hx (pc' := 124) (x := (2 : Int32)) (z := (3 : Int32)) rfl (hb hby d5_121) rfl (by decide) (l' := #[.val (.ref ta), .val (.int (4 : Int32)), .val (.int (3 : Int32)), .val (.ref ca), .val (.int (1 : Int32)), .val (.int (0 : Int32)), .val (.int (0 : Int32)), .val (.double t0), .second, .val (.int (3 : Int32)), .val (.double t2), .second, .val (.int (2 : Int32)), .val (.int (1 : Int32))]) rfl ?_
  refine g_goto X264 hx (pc' := 61) (hb hby d5_124) (by decide) (by decide) ?_
  refine g_iload X264 hx (pc' := 63) rfl (hb hby d5_61) rfl ?_
  refine g_iloadN X264 hx (pc' := 64) rfl (hb hby d5_63) rfl ?_
  refine g_icmpY X264 hx (pcY := 127) (hb hby d5_64) (by decide) (by decide) (show ¬ (3 : Int32) < (3 : Int32) from by decide) ?_
  refine g_iincC X264 hx (pc' := 130) (x := (0 : Int32)) (z := (1 : Int32)) rfl (hb hby d5_127) rfl (by decide) (l' := #[.val (.ref ta), .val (.int (4 : Int32)), .val (.int (3 : Int32)), .val (.ref ca), .val (.int (1 : Int32)), .val (.int (1 : Int32)), .val (.int (0 : Int32)), .val (.double t0), .second, .val (.int (3 : Int32)), .val (.double t2), .second, .val (.int (2 : Int32)), .val (.int (1 : Int32))]) rfl ?_
  refine g_goto X264 hx (pc' := 3) (hb hby d5_130) (by decide) (by decide) ?_
  refine g_iload X264 hx (pc' := 5) rfl (hb hby d5_3) rfl ?_
  refine g_iloadN X264 hx (pc' := 6) rfl (hb hby d5_5) rfl ?_
  refine g_icmpN X264 hx (pcN := 9) (hb hby d5_6) rfl (show ¬ (¬ (1 : Int32) < (3 : Int32)) from by decide) ?_
  refine g_iload X264 hx (pc' := 11) rfl (hb hby d5_9) rfl ?_
  refine g_iload X264 hx (pc' := 13) rfl (hb hby d5_11) rfl ?_
  refine g_imul X264 hx (pc' := 14) rfl (hb hby d5_13) ?_
  refine g_normI (z := (1 : Int32)) (by decide) ?_
  refine g_istore X264 hx (pc' := 16) rfl (hb hby d5_14) (l' := #[.val (.ref ta), .val (.int (4 : Int32)), .val (.int (3 : Int32)), .val (.ref ca), .val (.int (1 : Int32)), .val (.int (1 : Int32)), .val (.int (1 : Int32)), .val (.double t0), .second, .val (.int (3 : Int32)), .val (.double t2), .second, .val (.int (2 : Int32)), .val (.int (1 : Int32))]) rfl ?_
  refine g_aloadN X264 hx (pc' := 17) rfl (hb hby d5_16) rfl rfl ?_
  refine g_iload X264 hx (pc' := 19) rfl (hb hby d5_17) rfl ?_
  refine g_iloadN X264 hx (pc' := 20) rfl (hb hby d5_19) rfl ?_
  refine g_imul X264 hx (pc' := 21) rfl (hb hby d5_20) ?_
  refine g_normI (z := (4 : Int32)) (by decide) ?_
  refine g_iload X264 hx (pc' := 23) rfl (hb hby d5_21) rfl ?_
  refine g_iadd X264 hx (pc' := 24) rfl (hb hby d5_23) ?_
  refine g_normI (z := (5 : Int32)) (by decide) ?_
  refine g_daload X264 hx hZ f265 (i := 5) (by decide) (show (5 : Nat) < 16 by decide) (v := t5) rfl (pc' := 25) rfl (hb hby d5_24) ?_
  refine g_dstore X264 hx (pc' := 27) rfl (hb hby d5_25) (l' := #[.val (.ref ta), .val (.int (4 : Int32)), .val (.int (3 : Int32)), .val (.ref ca), .val (.int (1 : Int32)), .val (.int (1 : Int32)), .val (.int (1 : Int32)), .val (.double t5), .second, .val (.int (3 : Int32)), .val (.double t2), .second, .val (.int (2 : Int32)), .val (.int (1 : Int32))]) rfl ?_
  refine g_iconst X264 hx (pc' := 28) (z := (0 : Int32)) rfl (hb hby d5_27) rfl ?_
  refine g_istore X264 hx (pc' := 30) rfl (hb hby d5_28) (l' := #[.val (.ref ta), .val (.int (4 : Int32)), .val (.int (3 : Int32)), .val (.ref ca), .val (.int (1 : Int32)), .val (.int (1 : Int32)), .val (.int (1 : Int32)), .val (.double t5), .second, .val (.int (0 : Int32)), .val (.double t2), .second, .val (.int (2 : Int32)), .val (.int (1 : Int32))]) rfl ?_
  refine g_iload X264 hx (pc' := 32) rfl (hb hby d5_30) rfl ?_
  refine g_iload X264 hx (pc' := 34) rfl (hb hby d5_32) rfl ?_
  refine g_icmpN X264 hx (pcN := 37) (hb hby d5_34) rfl (show ¬ (¬ (0 : Int32) < (1 : Int32)) from by decide) ?_
  refine g_aloadN X264 hx (pc' := 38) rfl (hb hby d5_37) rfl rfl ?_
  refine g_iload X264 hx (pc' := 40) rfl (hb hby d5_38) rfl ?_
  refine g_iload X264 hx (pc' := 42) rfl (hb hby d5_40) rfl ?_
  refine g_iadd X264 hx (pc' := 43) rfl (hb hby d5_42) ?_
  refine g_normI (z := (1 : Int32)) (by decide) ?_
  refine g_dup2 X264 hx (pc' := 44) rfl (hb hby d5_43) rfl rfl ?_
  refine g_daload X264 hx hZ V264 (i := 1) (by decide) (show (1 : Nat) < 12 by decide) (v := d256) rfl (pc' := 45) rfl (hb hby d5_44) ?_
  refine g_dload X264 hx (pc' := 47) rfl (hb hby d5_45) rfl ?_
  have q268 : Dy (n256 * e5) 1068 (FP.ddiv d256 t5) := dy_div (dy_shift 3 (j := 1068) q256) yt5 hz5 (own_divq he5) rfl (own_mb b256 be5 (by decide)) (by decide)
  refine g_ddiv X264 hx (pc' := 48) (z := (FP.ddiv d256 t5)) rfl (hb hby d5_47) (dy_noNaN q268) rfl ?_
  refine g_absD (fun d268 hd268 => ?_)
  rw [← hd268] at q268
  obtain ⟨n268, en268⟩ : ∃ z : Int, z = n256 * e5 := ⟨_, rfl⟩
  rw [← en268] at q268
  have b268 : n268.natAbs ≤ 4608 := by rw [en268, Int.natAbs_mul]; exact Nat.le_trans (Nat.mul_le_mul b256 be5) (by decide)
  refine g_dastore X264 hx hZ V264 (i := 1) (by decide) (show (1 : Nat) < 12 by decide) hg (pc' := 49) rfl (hb hby d5_48) (fun T269 h269 X269 W269 N269 => ?_)
  have f270 := f265.other W269 hne
  have f271 := (by have q := (Keep.of_wr W269).1; exact Nat.le_trans f266 q : n0 ≤ h269.size)
  have f272 := f267.wr W269 (Or.inl (List.mem_of_getElem? (i := 0) rfl))
  have V269 : AD Z h269 ca [d249, d268, d263, c3, c4, c5, c6, c7, c8, c9, c10, c11] := N269
  refine g_iincC X269 hx (pc' := 52) (x := (0 : Int32)) (z := (1 : Int32)) rfl (hb hby d5_49) rfl (by decide) (l' := #[.val (.ref ta), .val (.int (4 : Int32)), .val (.int (3 : Int32)), .val (.ref ca), .val (.int (1 : Int32)), .val (.int (1 : Int32)), .val (.int (1 : Int32)), .val (.double t5), .second, .val (.int (1 : Int32)), .val (.double t2), .second, .val (.int (2 : Int32)), .val (.int (1 : Int32))]) rfl ?_
  refine g_goto X269 hx (pc' := 30) (hb hby d5_52) (by decide) (by decide) ?_
  refine g_iload X269 hx (pc' := 32) rfl (hb hby d5_30) rfl ?_
  refine g_iload X269 hx (pc' := 34) rfl (hb hby d5_32) rfl ?_
  refine g_icmpY X269 hx (pcY := 55) (hb hby d5_34) (by decide) (by decide) (show ¬ (1 : Int32) < (1 : Int32) from by decide) ?_
  refine g_iload X269 hx (pc' := 57) rfl (hb hby d5_55) rfl ?_
  refine g_iconst X269 hx (pc' := 58) (z := (1 : Int32)) rfl (hb hby d5_57) rfl ?_
  refine g_iadd X269 hx (pc' := 59) rfl (hb hby d5_58) ?_
  refine g_normI (z := (2 : Int32)) (by decide) ?_
  refine g_istore X269 hx (pc' := 61) rfl (hb hby d5_59) (l' := #[.val (.ref ta), .val (.int (4 : Int32)), .val (.int (3 : Int32)), .val (.ref ca), .val (.int (1 : Int32)), .val (.int (1 : Int32)), .val (.int (1 : Int32)), .val (.double t5), .second, .val (.int (2 : Int32)), .val (.double t2), .second, .val (.int (2 : Int32)), .val (.int (1 : Int32))]) rfl ?_
  refine g_iload X269 hx (pc' := 63) rfl (hb hby d5_61) rfl ?_
  refine g_iloadN X269 hx (pc' := 64) rfl (hb hby d5_63) rfl ?_
  refine g_icmpN X269 hx (pcN := 67) (hb hby d5_64) rfl (show ¬ (¬ (2 : Int32) < (3 : Int32)) from by decide) ?_
  refine g_aloadN X269 hx (pc' := 68) rfl (hb hby d5_67) rfl rfl ?_
  refine g_iload X269 hx (pc' := 70) rfl (hb hby d5_68) rfl ?_
  refine g_iloadN X269 hx (pc' := 71) rfl (hb hby d5_70) rfl ?_
  refine g_imul X269 hx (pc' := 72) rfl (hb hby d5_71) ?_
  refine g_normI (z := (4 : Int32)) (by decide) ?_
  refine g_iload X269 hx (pc' := 74) rfl (hb hby d5_72) rfl ?_
  refine g_iadd X269 hx (pc' := 75) rfl (hb hby d5_74) ?_
  refine g_normI (z := (6 : Int32)) (by decide) ?_
  refine g_daload X269 hx hZ f270 (i := 6) (by decide) (show (6 : Nat) < 16 by decide) (v := t6) rfl (pc' := 76) rfl (hb hby d5_75) ?_
  refine g_dstore X269 hx (pc' := 78) rfl (hb hby d5_76) (l' := #[.val (.ref ta), .val (.int (4 : Int32)), .val (.int (3 : Int32)), .val (.ref ca), .val (.int (1 : Int32)), .val (.int (1 : Int32)), .val (.int (1 : Int32)), .val (.double t5), .second, .val (.int (2 : Int32)), .val (.double t6), .second, .val (.int (2 : Int32)), .val (.int (1 : Int32))]) rfl ?_
  refine g_iload X269 hx (pc' := 80) rfl (hb hby d5_78) rfl ?_
  refine g_iload X269 hx (pc' := 82) rfl (hb hby d5_80) rfl ?_
  refine g_imul X269 hx (pc' := 83) rfl (hb hby d5_82) ?_
  refine g_normI (z := (2 : Int32)) (by decide) ?_
  refine g_istore X269 hx (pc' := 85) rfl (hb hby d5_83) (l' := #[.val (.ref ta), .val (.int (4 : Int32)), .val (.int (3 : Int32)), .val (.ref ca), .val (.int (1 : Int32)), .val (.int (1 : Int32)), .val (.int (1 : Int32)), .val (.double t5), .second, .val (.int (2 : Int32)), .val (.double t6), .second, .val (.int (2 : Int32)), .val (.int (1 : Int32))]) rfl ?_
  refine g_iconst X269 hx (pc' := 86) (z := (0 : Int32)) rfl (hb hby d5_85) rfl ?_
  refine g_istore X269 hx (pc' := 88) rfl (hb hby d5_86) (l' := #[.val (.ref ta), .val (.int (4 : Int32)), .val (.int (3 : Int32)), .val (.ref ca), .val (.int (1 : Int32)), .val (.int (1 : Int32)), .val (.int (1 : Int32)), .val (.double t5), .second, .val (.int (2 : Int32)), .val (.double t6), .second, .val (.int (2 : Int32)), .val (.int (0 : Int32))]) rfl ?_
  refine g_iload X269 hx (pc' := 90) rfl (hb hby d5_88) rfl ?_
  refine g_iload X269 hx (pc' := 92) rfl (hb hby d5_90) rfl ?_
  refine g_icmpN X269 hx (pcN := 95) (hb hby d5_92) rfl (show ¬ (¬ (0 : Int32) < (1 : Int32)) from by decide) ?_
  refine g_aloadN X269 hx (pc' := 96) rfl (hb hby d5_95) rfl rfl ?_
  refine g_iload X269 hx (pc' := 98) rfl (hb hby d5_96) rfl ?_
  refine g_iload X269 hx (pc' := 100) rfl (hb hby d5_98) rfl ?_
  refine g_iadd X269 hx (pc' := 101) rfl (hb hby d5_100) ?_
  refine g_normI (z := (2 : Int32)) (by decide) ?_
  refine g_dup2 X269 hx (pc' := 102) rfl (hb hby d5_101) rfl rfl ?_
  refine g_daload X269 hx hZ V269 (i := 2) (by decide) (show (2 : Nat) < 12 by decide) (v := d263) rfl (pc' := 103) rfl (hb hby d5_102) ?_
  refine g_dload X269 hx (pc' := 105) rfl (hb hby d5_103) rfl ?_
  refine g_aloadN X269 hx (pc' := 106) rfl (hb hby d5_105) rfl rfl ?_
  refine g_iload X269 hx (pc' := 108) rfl (hb hby d5_106) rfl ?_
  refine g_iload X269 hx (pc' := 110) rfl (hb hby d5_108) rfl ?_
  refine g_iadd X269 hx (pc' := 111) rfl (hb hby d5_110) ?_
  refine g_normI (z := (1 : Int32)) (by decide) ?_
  refine g_daload X269 hx hZ V269 (i := 1) (by decide) (show (1 : Nat) < 12 by decide) (v := d268) rfl (pc' := 112) rfl (hb hby d5_111) ?_
  have q273 : Dy (mt6 * n268) 1068 (FP.dmul t6 d268) := dy_mul yt6 q268 (by decide) (own_mb bt6 b268 (by decide)) (by decide)
  refine g_dmul X269 hx (pc' := 113) (z := (FP.dmul t6 d268)) rfl (hb hby d5_112) (dy_noNaN q273) rfl ?_
  refine g_absD (fun d273 hd273 => ?_)
  rw [← hd273] at q273
  obtain ⟨n273, en273⟩ : ∃ z : Int, z = mt6 * n268 := ⟨_, rfl⟩
  rw [← en273] at q273
  have b273 : n273.natAbs ≤ 36864 := by rw [en273, Int.natAbs_mul]; exact Nat.le_trans (Nat.mul_le_mul bt6 b268) (by decide)
  obtain ⟨n274, en274⟩ : ∃ z : Int, z = n263 * 8 := ⟨_, rfl⟩
  have q274 : Dy n274 1068 d263 := by rw [en274]; exact dy_shift 3 (j := 1068) q263
  have b274 : n274.natAbs ≤ 4608 := by rw [en274]; exact own_shl b263 (by decide)
  have q275 : Dy (n274 - n273) 1068 (FP.dsub d263 d273) := dy_sub q274 q273 (own_subb b274 b273 (by decide)) (by decide)
  refine g_dsub X269 hx (pc' := 114) (z := (FP.dsub d263 d273)) rfl (hb hby d5_113) (dy_noNaN q275) rfl ?_
  refine g_absD (fun d275 hd275 => ?_)
  rw [← hd275] at q275
  obtain ⟨n275, en275⟩ : ∃ z : Int, z = n274 - n273 := ⟨_, rfl⟩
  rw [← en275] at q275
  have b275 : n275.natAbs ≤ 41472 := by rw [en275]; exact Nat.le_trans (own_subl b274 b273) (by decide)
  refine g_dastore X269 hx hZ V269 (i := 2) (by decide) (show (2 : Nat) < 12 by decide) hg (pc' := 115) rfl (hb hby d5_114) (fun T276 h276 X276 W276 N276 => ?_)
  have f277 := f270.other W276 hne
  have f278 := (by have q := (Keep.of_wr W276).1; exact Nat.le_trans f271 q : n0 ≤ h276.size)
  have f279 := f272.wr W276 (Or.inl (List.mem_of_getElem? (i := 0) rfl))
  have V276 : AD Z h276 ca [d249, d268, d275, c3, c4, c5, c6, c7, c8, c9, c10, c11] := N276
  refine g_iincC X276 hx (pc' := 118) (x := (0 : Int32)) (z := (1 : Int32)) rfl (hb hby d5_115) rfl (by decide) (l' := #[.val (.ref ta), .val (.int (4 : Int32)), .val (.int (3 : Int32)), .val (.ref ca), .val (.int (1 : Int32)), .val (.int (1 : Int32)), .val (.int (1 : Int32)), .val (.double t5), .second, .val (.int (2 : Int32)), .val (.double t6), .second, .val (.int (2 : Int32)), .val (.int (1 : Int32))]) rfl ?_
  refine g_goto X276 hx (pc' := 88) (hb hby d5_118) (by decide) (by decide) ?_
  refine g_iload X276 hx (pc' := 90) rfl (hb hby d5_88) rfl ?_
  refine g_iload X276 hx (pc' := 92) rfl (hb hby d5_90) rfl ?_
  refine g_icmpY X276 hx (pcY := 121) (hb hby d5_92) (by decide) (by decide) (show ¬ (1 : Int32) < (1 : Int32) from by decide) ?_
  refine g_iincC X276 hx (pc' := 124) (x := (2 : Int32)) (z := (3 : Int32)) rfl (hb hby d5_121) rfl (by decide) (l' := #[.val (.ref ta), .val (.int (4 : Int32)), .val (.int (3 : Int32)), .val (.ref ca), .val (.int (1 : Int32)), .val (.int (1 : Int32)), .val (.int (1 : Int32)), .val (.double t5), .second, .val (.int (3 : Int32)), .val (.double t6), .second, .val (.int (2 : Int32)), .val (.int (1 : Int32))]) rfl ?_
  refine g_goto X276 hx (pc' := 61) (hb hby d5_124) (by decide) (by decide) ?_
  refine g_iload X276 hx (pc' := 63) rfl (hb hby d5_61) rfl ?_
  refine g_iloadN X276 hx (pc' := 64) rfl (hb hby d5_63) rfl ?_
  refine g_icmpY X276 hx (pcY := 127) (hb hby d5_64) (by decide) (by decide) (show ¬ (3 : Int32) < (3 : Int32) from by decide) ?_
  refine g_iincC X276 hx (pc' := 130) (x := (1 : Int32)) (z := (2 : Int32)) rfl (hb hby d5_127) rfl (by decide) (l' := #[.val (.ref ta), .val (.int (4 : Int32)), .val (.int (3 : Int32)), .val (.ref ca), .val (.int (1 : Int32)), .val (.int (2 : Int32)), .val (.int (1 : Int32)), .val (.double t5), .second, .val (.int (3 : Int32)), .val (.double t6), .second, .val (.int (2 : Int32)), .val (.int (1 : Int32))]) rfl ?_
  refine g_goto X276 hx (pc' := 3) (hb hby d5_130) (by decide) (by decide) ?_
  refine g_iload X276 hx (pc' := 5) rfl (hb hby d5_3) rfl ?_
  refine g_iloadN X276 hx (pc' := 6) rfl (hb hby d5_5) rfl ?_
  refine g_icmpN X276 hx (pcN := 9) (hb hby d5_6) rfl (show ¬ (¬ (2 : Int32) < (3 : Int32)) from by decide) ?_
  refine g_iload X276 hx (pc' := 11) rfl (hb hby d5_9) rfl ?_
  refine g_iload X276 hx (pc' := 13) rfl (hb hby d5_11) rfl ?_
  refine g_imul X276 hx (pc' := 14) rfl (hb hby d5_13) ?_
  refine g_normI (z := (2 : Int32)) (by decide) ?_
  refine g_istore X276 hx (pc' := 16) rfl (hb hby d5_14) (l' := #[.val (.ref ta), .val (.int (4 : Int32)), .val (.int (3 : Int32)), .val (.ref ca), .val (.int (1 : Int32)), .val (.int (2 : Int32)), .val (.int (2 : Int32)), .val (.double t5), .second, .val (.int (3 : Int32)), .val (.double t6), .second, .val (.int (2 : Int32)), .val (.int (1 : Int32))]) rfl ?_
  refine g_aloadN X276 hx (pc' := 17) rfl (hb hby d5_16) rfl rfl ?_
  refine g_iload X276 hx (pc' := 19) rfl (hb hby d5_17) rfl ?_
  refine g_iloadN X276 hx (pc' := 20) rfl (hb hby d5_19) rfl ?_
  refine g_imul X276 hx (pc' := 21) rfl (hb hby d5_20) ?_
  refine g_normI (z := (8 : Int32)) (by decide) ?_
  refine g_iload X276 hx (pc' := 23) rfl (hb hby d5_21) rfl ?_
  refine g_iadd X276 hx (pc' := 24) rfl (hb hby d5_23) ?_
  refine g_normI (z := (10 : Int32)) (by decide) ?_
  refine g_daload X276 hx hZ f277 (i := 10) (by decide) (show (10 : Nat) < 16 by decide) (v := t10) rfl (pc' := 25) rfl (hb hby d5_24) ?_
  refine g_dstore X276 hx (pc' := 27) rfl (hb hby d5_25) (l' := #[.val (.ref ta), .val (.int (4 : Int32)), .val (.int (3 : Int32)), .val (.ref ca), .val (.int (1 : Int32)), .val (.int (2 : Int32)), .val (.int (2 : Int32)), .val (.double t10), .second, .val (.int (3 : Int32)), .val (.double t6), .second, .val (.int (2 : Int32)), .val (.int (1 : Int32))]) rfl ?_
  refine g_iconst X276 hx (pc' := 28) (z := (0 : Int32)) rfl (hb hby d5_27) rfl ?_
  refine g_istore X276 hx (pc' := 30) rfl (hb hby d5_28) (l' := #[.val (.ref ta), .val (.int (4 : Int32)), .val (.int (3 : Int32)), .val (.ref ca), .val (.int (1 : Int32)), .val (.int (2 : Int32)), .val (.int (2 : Int32)), .val (.double t10), .second, .val (.int (0 : Int32)), .val (.double t6), .second, .val (.int (2 : Int32)), .val (.int (1 : Int32))]) rfl ?_
  refine g_iload X276 hx (pc' := 32) rfl (hb hby d5_30) rfl ?_
  refine g_iload X276 hx (pc' := 34) rfl (hb hby d5_32) rfl ?_
  refine g_icmpN X276 hx (pcN := 37) (hb hby d5_34) rfl (show ¬ (¬ (0 : Int32) < (1 : Int32)) from by decide) ?_
  refine g_aloadN X276 hx (pc' := 38) rfl (hb hby d5_37) rfl rfl ?_
  refine g_iload X276 hx (pc' := 40) rfl (hb hby d5_38) rfl ?_
  refine g_iload X276 hx (pc' := 42) rfl (hb hby d5_40) rfl ?_
  refine g_iadd X276 hx (pc' := 43) rfl (hb hby d5_42) ?_
  refine g_normI (z := (2 : Int32)) (by decide) ?_
  refine g_dup2 X276 hx (pc' := 44) rfl (hb hby d5_43) rfl rfl ?_
  refine g_daload X276 hx hZ V276 (i := 2) (by decide) (show (2 : Nat) < 12 by decide) (v := d275) rfl (pc' := 45) rfl (hb hby d5_44) ?_
  refine g_dload X276 hx (pc' := 47) rfl (hb hby d5_45) rfl ?_
  have q280 : Dy (n275 * e10) 1065 (FP.ddiv d275 t10) := dy_div (dy_shift 3 (j := 1065) q275) yt10 hz10 (own_divq he10) rfl (own_mb b275 be10 (by decide)) (by decide)
  refine g_ddiv X276 hx (pc' := 48) (z := (FP.ddiv d275 t10)) rfl (hb hby d5_47) (dy_noNaN q280) rfl ?_
  refine g_absD (fun d280 hd280 => ?_)
  rw [← hd280] at q280
  obtain ⟨n280, en280⟩ : ∃ z : Int, z = n275 * e10 := ⟨_, rfl⟩
  rw [← en280] at q280
  have b280 : n280.natAbs ≤ 331776 := by rw [en280, Int.natAbs_mul]; exact Nat.le_trans (Nat.mul_le_mul b275 be10) (by decide)
  refine g_dastore X276 hx hZ V276 (i := 2) (by decide) (show (2 : Nat) < 12 by decide) hg (pc' := 49) rfl (hb hby d5_48) (fun T281 h281 X281 W281 N281 => ?_)
  have f282 := f277.other W281 hne
  have f283 := (by have q := (Keep.of_wr W281).1; exact Nat.le_trans f278 q : n0 ≤ h281.size)
  have f284 := f279.wr W281 (Or.inl (List.mem_of_getElem? (i := 0) rfl))
  have V281 : AD Z h281 ca [d249, d268, d280, c3, c4, c5, c6, c7, c8, c9, c10, c11] := N281
  refine g_iincC X281 hx (pc' := 52) (x := (0 : Int32)) (z := (1 : Int32)) rfl (hb hby d5_49) rfl (by decide) (l' := #[.val (.ref ta), .val (.int (4 : Int32)), .val (.int (3 : Int32)), .val (.ref ca), .val (.int (1 : Int32)), .val (.int (2 : Int32)), .val (.int (2 : Int32)), .val (.double t10), .second, .val (.int (1 : Int32)), .val (.double t6), .second, .val (.int (2 : Int32)), .val (.int (1 : Int32))]) rfl ?_
  refine g_goto X281 hx (pc' := 30) (hb hby d5_52) (by decide) (by decide) ?_
  refine g_iload X281 hx (pc' := 32) rfl (hb hby d5_30) rfl ?_
  refine g_iload X281 hx (pc' := 34) rfl (hb hby d5_32) rfl ?_
  refine g_icmpY X281 hx (pcY := 55) (hb hby d5_34) (by decide) (by decide) (show ¬ (1 : Int32) < (1 : Int32) from by decide) ?_
  refine g_iload X281 hx (pc' := 57) rfl (hb hby d5_55) rfl ?_
  refine g_iconst X281 hx (pc' := 58) (z := (1 : Int32)) rfl (hb hby d5_57) rfl ?_
  refine g_iadd X281 hx (pc' := 59) rfl (hb hby d5_58) ?_
  refine g_normI (z := (3 : Int32)) (by decide) ?_
  refine g_istore X281 hx (pc' := 61) rfl (hb hby d5_59) (l' := #[.val (.ref ta), .val (.int (4 : Int32)), .val (.int (3 : Int32)), .val (.ref ca), .val (.int (1 : Int32)), .val (.int (2 : Int32)), .val (.int (2 : Int32)), .val (.double t10), .second, .val (.int (3 : Int32)), .val (.double t6), .second, .val (.int (2 : Int32)), .val (.int (1 : Int32))]) rfl ?_
  refine g_iload X281 hx (pc' := 63) rfl (hb hby d5_61) rfl ?_
  refine g_iloadN X281 hx (pc' := 64) rfl (hb hby d5_63) rfl ?_
  refine g_icmpY X281 hx (pcY := 127) (hb hby d5_64) (by decide) (by decide) (show ¬ (3 : Int32) < (3 : Int32) from by decide) ?_
  refine g_iincC X281 hx (pc' := 130) (x := (2 : Int32)) (z := (3 : Int32)) rfl (hb hby d5_127) rfl (by decide) (l' := #[.val (.ref ta), .val (.int (4 : Int32)), .val (.int (3 : Int32)), .val (.ref ca), .val (.int (1 : Int32)), .val (.int (3 : Int32)), .val (.int (2 : Int32)), .val (.double t10), .second, .val (.int (3 : Int32)), .val (.double t6), .second, .val (.int (2 : Int32)), .val (.int (1 : Int32))]) rfl ?_
  refine g_goto X281 hx (pc' := 3) (hb hby d5_130) (by decide) (by decide) ?_
  refine g_iload X281 hx (pc' := 5) rfl (hb hby d5_3) rfl ?_
  refine g_iloadN X281 hx (pc' := 6) rfl (hb hby d5_5) rfl ?_
  refine g_icmpY X281 hx (pcY := 133) (hb hby d5_6) (by decide) (by decide) (show ¬ (3 : Int32) < (3 : Int32) from by decide) ?_
  exact g_retV X281 hx hlk hret (hb hby d5_133) (by decide) (by decide) (⟨rfl, f284, _, V281, rfl, own_all12 (Chk.b0 (by decide) (by decide) (own_S0 yt0 q249 yc0 bt0 b249 (by rw [en249]; exact own_f0 he0))) (Chk.b1 (by decide) (by decide) (own_S1 yt5 q268 yt1 q249 yc1 bt5 b268 bt1 b249 (by rw [en268, en256, en255, en254]; exact own_f1 he5))) (Chk.b2 (by decide) (by decide) (own_S2 yt10 q280 yt2 q249 yt6 q268 yc2 bt10 b280 bt2 b249 bt6 b268 (by rw [en280, en275, en274, en263, en262, en261, en273]; exact own_f2 he10))) (Chk.a (by decide) (own_dyeq yc3 yc3 rfl)) (Chk.a (by decide) (own_dyeq yc4 yc4 rfl)) (Chk.a (by decide) (own_dyeq yc5 yc5 rfl)) (Chk.a (by decide) (own_dyeq yc6 yc6 rfl)) (Chk.a (by decide) (own_dyeq yc7 yc7 rfl)) (Chk.a (by decide) (own_dyeq yc8 yc8 rfl)) (Chk.a (by decide) (own_dyeq yc9 yc9 rfl)) (Chk.a (by decide) (own_dyeq yc10 yc10 rfl)) (Chk.a (by decide) (own_dyeq yc11 yc11 rfl))⟩)
set_option maxRecDepth 65536 in
set_option maxHeartbeats 40000000 in
theorem rm5_3_2 (l : Launch) (Z : State) (a0 : Array Value) (hw : ∀ d ∈ tables_1, d.before a0 Z = true) (ws : List Jvm.Cond) (n0 : Nat) (ta ca : Addr) (t0 : UInt64) (t1 : UInt64) (t2 : UInt64) (t3 : UInt64) (t4 : UInt64) (t5 : UInt64) (t6 : UInt64) (t7 : UInt64) (t8 : UInt64) (t9 : UInt64) (t10 : UInt64) (t11 : UInt64) (t12 : UInt64) (t13 : UInt64) (t14 : UInt64) (t15 : UInt64) (mt0 : Int) (mt1 : Int) (mt2 : Int) (mt5 : Int) (mt6 : Int) (mt10 : Int) (e0 : Int) (e5 : Int) (e10 : Int) (c0 : UInt64) (mc0 : Int) (c1 : UInt64) (mc1 : Int) (c2 : UInt64) (mc2 : Int) (c3 : UInt64) (mc3 : Int) (c4 : UInt64) (mc4 : Int) (c5 : UInt64) (mc5 : Int) (c6 : UInt64) (mc6 : Int) (c7 : UInt64) (mc7 : Int) (c8 : UInt64) (mc8 : Int) (c9 : UInt64) (mc9 : Int) (c10 : UInt64) (mc10 : Int) (c11 : UInt64) (mc11 : Int) (h0 : Heap) (hn0 : n0 ≤ h0.size) (At : AD Z h0 ta [t0, t1, t2, t3, t4, t5, t6, t7, t8, t9, t10, t11, t12, t13, t14, t15]) (Ac : AD Z h0 ca [c0, c1, c2, c3, c4, c5, c6, c7, c8, c9, c10, c11]) (hne : ta ≠ ca) (hg : n0 ≤ ca) (yc0 : Dy mc0 1074 c0) (bc0 : mc0.natAbs ≤ 8) (yc1 : Dy mc1 1074 c1) (bc1 : mc1.natAbs ≤ 8) (yc2 : Dy mc2 1074 c2) (bc2 : mc2.natAbs ≤ 8) (yc3 : Dy mc3 1074 c3) (bc3 : mc3.natAbs ≤ 8) (yc4 : Dy mc4 1074 c4) (bc4 : mc4.natAbs ≤ 8) (yc5 : Dy mc5 1074 c5) (bc5 : mc5.natAbs ≤ 8) (yc6 : Dy mc6 1074 c6) (bc6 : mc6.natAbs ≤ 8) (yc7 : Dy mc7 1074 c7) (bc7 : mc7.natAbs ≤ 8) (yc8 : Dy mc8 1074 c8) (bc8 : mc8.natAbs ≤ 8) (yc9 : Dy mc9 1074 c9) (bc9 : mc9.natAbs ≤ 8) (yc10 : Dy mc10 1074 c10) (bc10 : mc10.natAbs ≤ 8) (yc11 : Dy mc11 1074 c11) (bc11 : mc11.natAbs ≤ 8) (yt0 : Dy mt0 1074 t0) (bt0 : mt0.natAbs ≤ 8) (yt1 : Dy mt1 1074 t1) (bt1 : mt1.natAbs ≤ 8) (yt2 : Dy mt2 1074 t2) (bt2 : mt2.natAbs ≤ 8) (yt5 : Dy mt5 1074 t5) (bt5 : mt5.natAbs ≤ 8) (yt6 : Dy mt6 1074 t6) (bt6 : mt6.natAbs ≤ 8) (yt10 : Dy mt10 1074 t10) (bt10 : mt10.natAbs ≤ 8) (he0 : mt0 * e0 = 8) (hz0 : mt0 ≠ 0) (be0 : e0.natAbs ≤ 8) (he5 : mt5 * e5 = 8) (hz5 : mt5 ≠ 0) (be5 : e5.natAbs ≤ 8) (he10 : mt10 * e10 = 8) (hz10 : mt10 ≠ 0) (be10 : e10.natAbs ≤ 8) :
    Con l Z n0 (⟨"com/example/orthogon/orthogon/Triangular", "solveUpperTransposed", "([DII[DI)V"⟩ : MethodName) prog_16_method_4_code 14 none ws ({ frames := 0, cells := 0, slots := 0, locals := 0 } : Room) #[(.ref ta), (.int (4 : Int32)), (.int (3 : Int32)), (.ref ca), (.int (2 : Int32))] h0 (fun v h => v = none ∧ Keep h0 h [ca] ∧ ∃ xs, AD Z h ca xs ∧ xs.length = 12 ∧ ChkAll [t0, t1, t2, t3, t4, t5, t6, t7, t8, t9, t10, t11, t12, t13, t14, t15] xs [c0, c1, c2, c3, c4, c5, c6, c7, c8, c9, c10, c11] (3 : Int32) (2 : Int32)) := by
  refine con_start (plainFor_of_name (by first | (simp [plainName, overriddenIn]; done) | decide +kernel)) (fr0 := fun m => mkF m 0 #[.val (.ref ta), .val (.int (4 : Int32)), .val (.int (3 : Int32)), .val (.ref ca), .val (.int (2 : Int32)), .unset, .unset, .unset, .unset, .unset, .unset, .unset, .unset, .unset] []) (fun m => by first | (simp [entryFrame, mkF, argsToLocals, Value.category]; done) | rfl) ?_
  intro p e s m below meth c T0 hx hZ hby hml hown hnm hret hlk X0
  replace hown : s.vm.findClass "com/example/orthogon/orthogon/Triangular" = some m.cls := hown
  replace hml : c.maxLocals = 14 := hml
  refine g_iconst X0 hx (pc' := 1) (z := (0 : Int32)) rfl (hb hby d5_0) rfl ?_
  refine g_istore X0 hx (pc' := 3) rfl (hb hby d5_1) (l' := #[.val (.ref ta), .val (.int (4 : Int32)), .val (.int (3 : Int32)), .val (.ref ca), .val (.int (2 : Int32)), .val (.int (0 : Int32)), .unset, .unset, .unset, .unset, .unset, .unset, .unset, .unset]) rfl ?_
  refine g_iload X0 hx (pc' := 5) rfl (hb hby d5_3) rfl ?_
  refine g_iloadN X0 hx (pc' := 6) rfl (hb hby d5_5) rfl ?_
  refine g_icmpN X0 hx (pcN := 9) (hb hby d5_6) rfl (show ¬ (¬ (0 : Int32) < (3 : Int32)) from by decide) ?_
  refine g_iload X0 hx (pc' := 11) rfl (hb hby d5_9) rfl ?_
  refine g_iload X0 hx (pc' := 13) rfl (hb hby d5_11) rfl ?_
  refine g_imul X0 hx (pc' := 14) rfl (hb hby d5_13) ?_
  refine g_normI (z := (0 : Int32)) (by decide) ?_
  refine g_istore X0 hx (pc' := 16) rfl (hb hby d5_14) (l' := #[.val (.ref ta), .val (.int (4 : Int32)), .val (.int (3 : Int32)), .val (.ref ca), .val (.int (2 : Int32)), .val (.int (0 : Int32)), .val (.int (0 : Int32)), .unset, .unset, .unset, .unset, .unset, .unset, .unset]) rfl ?_
  refine g_aloadN X0 hx (pc' := 17) rfl (hb hby d5_16) rfl rfl ?_
  refine g_iload X0 hx (pc' := 19) rfl (hb hby d5_17) rfl ?_
  refine g_iloadN X0 hx (pc' := 20) rfl (hb hby d5_19) rfl ?_
  refine g_imul X0 hx (pc' := 21) rfl (hb hby d5_20) ?_
  refine g_normI (z := (0 : Int32)) (by decide) ?_
  refine g_iload X0 hx (pc' := 23) rfl (hb hby d5_21) rfl ?_
  refine g_iadd X0 hx (pc' := 24) rfl (hb hby d5_23) ?_
  refine g_normI (z := (0 : Int32)) (by decide) ?_
  refine g_daload X0 hx hZ At (i := 0) (by decide) (show (0 : Nat) < 16 by decide) (v := t0) rfl (pc' := 25) rfl (hb hby d5_24) ?_
  refine g_dstore X0 hx (pc' := 27) rfl (hb hby d5_25) (l' := #[.val (.ref ta), .val (.int (4 : Int32)), .val (.int (3 : Int32)), .val (.ref ca), .val (.int (2 : Int32)), .val (.int (0 : Int32)), .val (.int (0 : Int32)), .val (.double t0), .second, .unset, .unset, .unset, .unset, .unset]) rfl ?_
  refine g_iconst X0 hx (pc' := 28) (z := (0 : Int32)) rfl (hb hby d5_27) rfl ?_
  refine g_istore X0 hx (pc' := 30) rfl (hb hby d5_28) (l' := #[.val (.ref ta), .val (.int (4 : Int32)), .val (.int (3 : Int32)), .val (.ref ca), .val (.int (2 : Int32)), .val (.int (0 : Int32)), .val (.int (0 : Int32)), .val (.double t0), .second, .val (.int (0 : Int32)), .unset, .unset, .unset, .unset]) rfl ?_
  refine g_iload X0 hx (pc' := 32) rfl (hb hby d5_30) rfl ?_
  refine g_iload X0 hx (pc' := 34) rfl (hb hby d5_32) rfl ?_
  refine g_icmpN X0 hx (pcN := 37) (hb hby d5_34) rfl (show ¬ (¬ (0 : Int32) < (2 : Int32)) from by decide) ?_
  refine g_aloadN X0 hx (pc' := 38) rfl (hb hby d5_37) rfl rfl ?_
  refine g_iload X0 hx (pc' := 40) rfl (hb hby d5_38) rfl ?_
  refine g_iload X0 hx (pc' := 42) rfl (hb hby d5_40) rfl ?_
  refine g_iadd X0 hx (pc' := 43) rfl (hb hby d5_42) ?_
  refine g_normI (z := (0 : Int32)) (by decide) ?_
  refine g_dup2 X0 hx (pc' := 44) rfl (hb hby d5_43) rfl rfl ?_
  refine g_daload X0 hx hZ Ac (i := 0) (by decide) (show (0 : Nat) < 12 by decide) (v := c0) rfl (pc' := 45) rfl (hb hby d5_44) ?_
  refine g_dload X0 hx (pc' := 47) rfl (hb hby d5_45) rfl ?_
  have q285 : Dy (mc0 * e0) 1071 (FP.ddiv c0 t0) := dy_div (dy_shift 3 (j := 1071) yc0) yt0 hz0 (own_divq he0) rfl (own_mb bc0 be0 (by decide)) (by decide)
  refine g_ddiv X0 hx (pc' := 48) (z := (FP.ddiv c0 t0)) rfl (hb hby d5_47) (dy_noNaN q285) rfl ?_
  refine g_absD (fun d285 hd285 => ?_)
  rw [← hd285] at q285
  obtain ⟨n285, en285⟩ : ∃ z : Int, z = mc0 * e0 := ⟨_, rfl⟩
  rw [← en285] at q285
  have b285 : n285.natAbs ≤ 64 := by rw [en285, Int.natAbs_mul]; exact Nat.le_trans (Nat.mul_le_mul bc0 be0) (by decide)
  refine g_dastore X0 hx hZ Ac (i := 0) (by decide) (show (0 : Nat) < 12 by decide) hg (pc' := 49) rfl (hb hby d5_48) (fun T286 h286 X286 W286 N286 => ?_)
  have f287 := At.other W286 hne
  have f288 := (by have q := (Keep.of_wr W286).1; exact Nat.le_trans hn0 q : n0 ≤ h286.size)
  have f289 := (Keep.refl h0 [ca]).wr W286 (Or.inl (List.mem_of_getElem? (i := 0) rfl))
  have V286 : AD Z h286 ca [d285, c1, c2, c3, c4, c5, c6, c7, c8, c9, c10, c11] := N286
  refine g_iincC X286 hx (pc' := 52) (x := (0 : Int32)) (z := (1 : Int32)) rfl (hb hby d5_49) rfl (by decide) (l' := #[.val (.ref ta), .val (.int (4 : Int32)), .val (.int (3 : Int32)), .val (.ref ca), .val (.int (2 : Int32)), .val (.int (0 : Int32)), .val (.int (0 : Int32)), .val (.double t0), .second, .val (.int (1 : Int32)), .unset, .unset, .unset, .unset]) rfl ?_
  refine g_goto X286 hx (pc' := 30) (hb hby d5_52) (by decide) (by decide) ?_
  refine g_iload X286 hx (pc' := 32) rfl (hb hby d5_30) rfl ?_
  refine g_iload X286 hx (pc' := 34) rfl (hb hby d5_32) rfl ?_
  refine g_icmpN X286 hx (pcN := 37) (hb hby d5_34) rfl (show ¬ (¬ (1 : Int32) < (2 : Int32)) from by decide) ?_
  refine g_aloadN X286 hx (pc' := 38) rfl (hb hby d5_37) rfl rfl ?_
  refine g_iload X286 hx (pc' := 40) rfl (hb hby d5_38) rfl ?_
  refine g_iload X286 hx (pc' := 42) rfl (hb hby d5_40) rfl ?_
  refine g_iadd X286 hx (pc' := 43) rfl (hb hby d5_42) ?_
  refine g_normI (z := (1 : Int32)) (by decide) ?_
  refine g_dup2 X286 hx (pc' := 44) rfl (hb hby d5_43) rfl rfl ?_
  refine g_daload X286 hx hZ V286 (i := 1) (by decide) (show (1 : Nat) < 12 by decide) (v := c1) rfl (pc' := 45) rfl (hb hby d5_44) ?_
  refine g_dload X286 hx (pc' := 47) rfl (hb hby d5_45) rfl ?_
  have q290 : Dy (mc1 * e0) 1071 (FP.ddiv c1 t0) := dy_div (dy_shift 3 (j := 1071) yc1) yt0 hz0 (own_divq he0) rfl (own_mb bc1 be0 (by decide)) (by decide)
  refine g_ddiv X286 hx (pc' := 48) (z := (FP.ddiv c1 t0)) rfl (hb hby d5_47) (dy_noNaN q290) rfl ?_
  refine g_absD (fun d290 hd290 => ?_)
  rw [← hd290] at q290
  obtain ⟨n290, en290⟩ : ∃ z : Int, z = mc1 * e0 := ⟨_, rfl⟩
  rw [← en290] at q290
  have b290 : n290.natAbs ≤ 64 := by rw [en290, Int.natAbs_mul]; exact Nat.le_trans (Nat.mul_le_mul bc1 be0) (by decide)
  refine g_dastore X286 hx hZ V286 (i := 1) (by decide) (show (1 : Nat) < 12 by decide) hg (pc' := 49) rfl (hb hby d5_48) (fun T291 h291 X291 W291 N291 => ?_)
  have f292 := f287.other W291 hne
  have f293 := (by have q := (Keep.of_wr W291).1; exact Nat.le_trans f288 q : n0 ≤ h291.size)
  have f294 := f289.wr W291 (Or.inl (List.mem_of_getElem? (i := 0) rfl))
  have V291 : AD Z h291 ca [d285, d290, c2, c3, c4, c5, c6, c7, c8, c9, c10, c11] := N291
  refine g_iincC X291 hx (pc' := 52) (x := (1 : Int32)) (z := (2 : Int32)) rfl (hb hby d5_49) rfl (by decide) (l' := #[.val (.ref ta), .val (.int (4 : Int32)), .val (.int (3 : Int32)), .val (.ref ca), .val (.int (2 : Int32)), .val (.int (0 : Int32)), .val (.int (0 : Int32)), .val (.double t0), .second, .val (.int (2 : Int32)), .unset, .unset, .unset, .unset]) rfl ?_
  refine g_goto X291 hx (pc' := 30) (hb hby d5_52) (by decide) (by decide) ?_
  refine g_iload X291 hx (pc' := 32) rfl (hb hby d5_30) rfl ?_
  refine g_iload X291 hx (pc' := 34) rfl (hb hby d5_32) rfl ?_
  refine g_icmpY X291 hx (pcY := 55) (hb hby d5_34) (by decide) (by decide) (show ¬ (2 : Int32) < (2 : Int32) from by decide) ?_
  refine g_iload X291 hx (pc' := 57) rfl (hb hby d5_55) rfl ?_
  refine g_iconst X291 hx (pc' := 58) (z := (1 : Int32)) rfl (hb hby d5_57) rfl ?_
  refine g_iadd X291 hx (pc' := 59) rfl (hb hby d5_58) ?_
  refine g_normI (z := (1 : Int32)) (by decide) ?_
  refine g_istore X291 hx (pc' := 61) rfl (hb hby d5_59) (l' := #[.val (.ref ta), .val (.int (4 : Int32)), .val (.int (3 : Int32)), .val (.ref ca), .val (.int (2 : Int32)), .val (.int (0 : Int32)), .val (.int (0 : Int32)), .val (.double t0), .second, .val (.int (1 : Int32)), .unset, .unset, .unset, .unset]) rfl ?_
  refine g_iload X291 hx (pc' := 63) rfl (hb hby d5_61) rfl ?_
  refine g_iloadN X291 hx (pc' := 64) rfl (hb hby d5_63) rfl ?_
  refine g_icmpN X291 hx (pcN := 67) (hb hby d5_64) rfl (show ¬ (¬ (1 : Int32) < (3 : Int32)) from by decide) ?_
  refine g_aloadN X291 hx (pc' := 68) rfl (hb hby d5_67) rfl rfl ?_
  refine g_iload X291 hx (pc' := 70) rfl (hb hby d5_68) rfl ?_
  refine g_iloadN X291 hx (pc' := 71) rfl (hb hby d5_70) rfl ?_
  refine g_imul X291 hx (pc' := 72) rfl (hb hby d5_71) ?_
  refine g_normI (z := (0 : Int32)) (by decide) ?_
  refine g_iload X291 hx (pc' := 74) rfl (hb hby d5_72) rfl ?_
  refine g_iadd X291 hx (pc' := 75) rfl (hb hby d5_74) ?_
  refine g_normI (z := (1 : Int32)) (by decide) ?_
  refine g_daload X291 hx hZ f292 (i := 1) (by decide) (show (1 : Nat) < 16 by decide) (v := t1) rfl (pc' := 76) rfl (hb hby d5_75) ?_
  refine g_dstore X291 hx (pc' := 78) rfl (hb hby d5_76) (l' := #[.val (.ref ta), .val (.int (4 : Int32)), .val (.int (3 : Int32)), .val (.ref ca), .val (.int (2 : Int32)), .val (.int (0 : Int32)), .val (.int (0 : Int32)), .val (.double t0), .second, .val (.int (1 : Int32)), .val (.double t1), .second, .unset, .unset]) rfl ?_
  refine g_iload X291 hx (pc' := 80) rfl (hb hby d5_78) rfl ?_
  refine g_iload X291 hx (pc' := 82) rfl (hb hby d5_80) rfl ?_
  refine g_imul X291 hx (pc' := 83) rfl (hb hby d5_82) ?_
  refine g_normI (z := (2 : Int32)) (by decide) ?_
  refine g_istore X291 hx (pc' := 85) rfl (hb hby d5_83) (l' := #[.val (.ref ta), .val (.int (4 : Int32)), .val (.int (3 : Int32)), .val (.ref ca), .val (.int (2 : Int32)), .val (.int (0 : Int32)), .val (.int (0 : Int32)), .val (.double t0), .second, .val (.int (1 : Int32)), .val (.double t1), .second, .val (.int (2 : Int32)), .unset]) rfl ?_
  refine g_iconst X291 hx (pc' := 86) (z := (0 : Int32)) rfl (hb hby d5_85) rfl ?_
  refine g_istore X291 hx (pc' := 88) rfl (hb hby d5_86) (l' := #[.val (.ref ta), .val (.int (4 : Int32)), .val (.int (3 : Int32)), .val (.ref ca), .val (.int (2 : Int32)), .val (.int (0 : Int32)), .val (.int (0 : Int32)), .val (.double t0), .second, .val (.int (1 : Int32)), .val (.double t1), .second, .val (.int (2 : Int32)), .val (.int (0 : Int32))]) rfl ?_
  refine g_iload X291 hx (pc' := 90) rfl (hb hby d5_88) rfl ?_
  refine g_iload X291 hx (pc' := 92) rfl (hb hby d5_90) rfl ?_
  refine g_icmpN X291 hx (pcN := 95) (hb hby d5_92) rfl (show ¬ (¬ (0 : Int32) < (2 : Int32)) from by decide) ?_
  refine g_aloadN X291 hx (pc' := 96) rfl (hb hby d5_95) rfl rfl ?_
  refine g_iload X291 hx (pc' := 98) rfl (hb hby d5_96) rfl ?_
  refine g_iload X291 hx (pc' := 100) rfl (hb hby d5_98) rfl ?_
  refine g_iadd X291 hx (pc' := 101) rfl (hb hby d5_100) ?_
  refine g_normI (z := (2 : Int32)) (by decide) ?_
  refine g_dup2 X291 hx (pc' := 102) rfl (hb hby d5_101) rfl rfl ?_
  refine g_daload X291 hx hZ V291 (i := 2) (by decide) (show (2 : Nat) < 12 by decide) (v := c2) rfl (pc' := 103) rfl (hb hby d5_102) ?_
  refine g_dload X291 hx (pc' := 105) rfl (hb hby d5_103) rfl ?_
  refine g_aloadN X291 hx (pc' := 106) rfl (hb hby d5_105) rfl rfl ?_
  refine g_iload X291 hx (pc' := 108) rfl (hb hby d5_106) rfl ?_
  refine g_iload X291 hx (pc' := 110) rfl (hb hby d5_108) rfl ?_
  refine g_iadd X291 hx (pc' := 111) rfl (hb hby d5_110) ?_
  refine g_normI (z := (0 : Int32)) (by decide) ?_
  refine g_daload X291 hx hZ V291 (i := 0) (by decide) (show (0 : Nat) < 12 by decide) (v := d285) rfl (pc' := 112) rfl (hb hby d5_111) ?_
  have q295 : Dy (mt1 * n285) 1071 (FP.dmul t1 d285) := dy_mul yt1 q285 (by decide) (own_mb bt1 b285 (by decide)) (by decide)
  refine g_dmul X291 hx (pc' := 113) (z := (FP.dmul t1 d285)) rfl (hb hby d5_112) (dy_noNaN q295) rfl ?_
  refine g_absD (fun d295 hd295 => ?_)
  rw [← hd295] at q295
  obtain ⟨n295, en295⟩ : ∃ z : Int, z = mt1 * n285 := ⟨_, rfl⟩
  rw [← en295] at q295
  have b295 : n295.natAbs ≤ 512 := by rw [en295, Int.natAbs_mul]; exact Nat.le_trans (Nat.mul_le_mul bt1 b285) (by decide)
  obtain ⟨n296, en296⟩ : ∃ z : Int, z = mc2 * 8 := ⟨_, rfl⟩
  have q296 : Dy n296 1071 c2 := by rw [en296]; exact dy_shift 3 (j := 1071) yc2
  have b296 : n296.natAbs ≤ 64 := by rw [en296]; exact own_shl bc2 (by decide)
  have q297 : Dy (n296 - n295) 1071 (FP.dsub c2 d295) := dy_sub q296 q295 (own_subb b296 b295 (by decide)) (by decide)
  refine g_dsub X291 hx (pc' := 114) (z := (FP.dsub c2 d295)) rfl (hb hby d5_113) (dy_noNaN q297) rfl ?_
  refine g_absD (fun d297 hd297 => ?_)
  rw [← hd297] at q297
  obtain ⟨n297, en297⟩ : ∃ z : Int, z = n296 - n295 := ⟨_, rfl⟩
  rw [← en297] at q297
  have b297 : n297.natAbs ≤ 576 := by rw [en297]; exact Nat.le_trans (own_subl b296 b295) (by decide)
  refine g_dastore X291 hx hZ V291 (i := 2) (by decide) (show (2 : Nat) < 12 by decide) hg (pc' := 115) rfl (hb hby d5_114) (fun T298 h298 X298 W298 N298 => ?_)
  have f299 := f292.other W298 hne
  have f300 := (by have q := (Keep.of_wr W298).1; exact Nat.le_trans f293 q : n0 ≤ h298.size)
  have f301 := f294.wr W298 (Or.inl (List.mem_of_getElem? (i := 0) rfl))
  have V298 : AD Z h298 ca [d285, d290, d297, c3, c4, c5, c6, c7, c8, c9, c10, c11] := N298
  refine g_iincC X298 hx (pc' := 118) (x := (0 : Int32)) (z := (1 : Int32)) rfl (hb hby d5_115) rfl (by decide) (l' := #[.val (.ref ta), .val (.int (4 : Int32)), .val (.int (3 : Int32)), .val (.ref ca), .val (.int (2 : Int32)), .val (.int (0 : Int32)), .val (.int (0 : Int32)), .val (.double t0), .second, .val (.int (1 : Int32)), .val (.double t1), .second, .val (.int (2 : Int32)), .val (.int (1 : Int32))]) rfl ?_
  refine g_goto X298 hx (pc' := 88) (hb hby d5_118) (by decide) (by decide) ?_
  refine g_iload X298 hx (pc' := 90) rfl (hb hby d5_88) rfl ?_
  refine g_iload X298 hx (pc' := 92) rfl (hb hby d5_90) rfl ?_
  refine g_icmpN X298 hx (pcN := 95) (hb hby d5_92) rfl (show ¬ (¬ (1 : Int32) < (2 : Int32)) from by decide) ?_
  refine g_aloadN X298 hx (pc' := 96) rfl (hb hby d5_95) rfl rfl ?_
  refine g_iload X298 hx (pc' := 98) rfl (hb hby d5_96) rfl ?_
  refine g_iload X298 hx (pc' := 100) rfl (hb hby d5_98) rfl ?_
  refine g_iadd X298 hx (pc' := 101) rfl (hb hby d5_100) ?_
  refine g_normI (z := (3 : Int32)) (by decide) ?_
  refine g_dup2 X298 hx (pc' := 102) rfl (hb hby d5_101) rfl rfl ?_
  refine g_daload X298 hx hZ V298 (i := 3) (by decide) (show (3 : Nat) < 12 by decide) (v := c3) rfl (pc' := 103) rfl (hb hby d5_102) ?_
  refine g_dload X298 hx (pc' := 105) rfl (hb hby d5_103) rfl ?_
  refine g_aloadN X298 hx (pc' := 106) rfl (hb hby d5_105) rfl rfl ?_
  refine g_iload X298 hx (pc' := 108) rfl (hb hby d5_106) rfl ?_
  refine g_iload X298 hx (pc' := 110) rfl (hb hby d5_108) rfl ?_
  refine g_iadd X298 hx (pc' := 111) rfl (hb hby d5_110) ?_
  refine g_normI (z := (1 : Int32)) (by decide) ?_
  refine g_daload X298 hx hZ V298 (i := 1) (by decide) (show (1 : Nat) < 12 by decide) (v := d290) rfl (pc' := 112) rfl (hb hby d5_111) ?_
  have q302 : Dy (mt1 * n290) 1071 (FP.dmul t1 d290) := dy_mul yt1 q290 (by decide) (own_mb bt1 b290 (by decide)) (by decide)
  refine g_dmul X298 hx (pc' := 113) (z := (FP.dmul t1 d290)) rfl (hb hby d5_112) (dy_noNaN q302) rfl ?_
  refine g_absD (fun d302 hd302 => ?_)
  rw [← hd302] at q302
  obtain ⟨n302, en302⟩ : ∃ z : Int, z = mt1 * n290 := ⟨_, rfl⟩
  rw [← en302] at q302
  have b302 : n302.natAbs ≤ 512 := by rw [en302, Int.natAbs_mul]; exact Nat.le_trans (Nat.mul_le_mul bt1 b290) (by decide)
  obtain ⟨n303, en303⟩ : ∃ z : Int, z = mc3 * 8 := ⟨_, rfl⟩
  have q303 : Dy n303 1071 c3 := by rw [en303]; exact dy_shift 3 (j := 1071) yc3
  have b303 : n303.natAbs ≤ 64 := by rw [en303]; exact own_shl bc3 (by decide)
  have q304 : Dy (n303 - n302) 1071 (FP.dsub c3 d302) := dy_sub q303 q302 (own_subb b303 b302 (by decide)) (by decide)
  refine g_dsub X298 hx (pc' := 114) (z := (FP.dsub c3 d302)) rfl (hb hby d5_113) (dy_noNaN q304) rfl ?_
  refine g_absD (fun d304 hd304 => ?_)
  rw [← hd304] at q304
  obtain ⟨n304, en304⟩ : ∃ z : Int, z = n303 - n302 := ⟨_, rfl⟩
  rw [← en304] at q304
  have b304 : n304.natAbs ≤ 576 := by rw [en304]; exact Nat.le_trans (own_subl b303 b302) (by decide)
  refine g_dastore X298 hx hZ V298 (i := 3) (by decide) (show (3 : Nat) < 12 by decide) hg (pc' := 115) rfl (hb hby d5_114) (fun T305 h305 X305 W305 N305 => ?_)
  have f306 := f299.other W305 hne
  have f307 := (by have q := (Keep.of_wr W305).1; exact Nat.le_trans f300 q : n0 ≤ h305.size)
  have f308 := f301.wr W305 (Or.inl (List.mem_of_getElem? (i := 0) rfl))
  have V305 : AD Z h305 ca [d285, d290, d297, d304, c4, c5, c6, c7, c8, c9, c10, c11] := N305
  refine g_iincC X305 hx (pc' := 118) (x := (1 : Int32)) (z := (2 : Int32)) rfl (hb hby d5_115) rfl (by decide) (l' := #[.val (.ref ta), .val (.int (4 : Int32)), .val (.int (3 : Int32)), .val (.ref ca), .val (.int (2 : Int32)), .val (.int (0 : Int32)), .val (.int (0 : Int32)), .val (.double t0), .second, .val (.int (1 : Int32)), .val (.double t1), .second, .val (.int (2 : Int32)), .val (.int (2 : Int32))]) rfl ?_
  refine g_goto X305 hx (pc' := 88) (hb hby d5_118) (by decide) (by decide) ?_
  refine g_iload X305 hx (pc' := 90) rfl (hb hby d5_88) rfl ?_
  refine g_iload X305 hx (pc' := 92) rfl (hb hby d5_90) rfl ?_
  refine g_icmpY X305 hx (pcY := 121) (hb hby d5_92) (by decide) (by decide) (show ¬ (2 : Int32) < (2 : Int32) from by decide) ?_
  refine g_iincC X305 hx (pc' := 124) (x := (1 : Int32)) (z := (2 : Int32)) rfl (hb hby d5_121) rfl (by decide) (l' := #[.val (.ref ta), .val (.int (4 : Int32)), .val (.int (3 : Int32)), .val (.ref ca), .val (.int (2 : Int32)), .val (.int (0 : Int32)), .val (.int (0 : Int32)), .val (.double t0), .second, .val (.int (2 : Int32)), .val (.double t1), .second, .val (.int (2 : Int32)), .val (.int (2 : Int32))]) rfl ?_
  refine g_goto X305 hx (pc' := 61) (hb hby d5_124) (by decide) (by decide) ?_
  refine g_iload X305 hx (pc' := 63) rfl (hb hby d5_61) rfl ?_
  refine g_iloadN X305 hx (pc' := 64) rfl (hb hby d5_63) rfl ?_
  refine g_icmpN X305 hx (pcN := 67) (hb hby d5_64) rfl (show ¬ (¬ (2 : Int32) < (3 : Int32)) from by decide) ?_
  refine g_aloadN X305 hx (pc' := 68) rfl (hb hby d5_67) rfl rfl ?_
  refine g_iload X305 hx (pc' := 70) rfl (hb hby d5_68) rfl ?_
  refine g_iloadN X305 hx (pc' := 71) rfl (hb hby d5_70) rfl ?_
  refine g_imul X305 hx (pc' := 72) rfl (hb hby d5_71) ?_
  refine g_normI (z := (0 : Int32)) (by decide) ?_
  refine g_iload X305 hx (pc' := 74) rfl (hb hby d5_72) rfl ?_
  refine g_iadd X305 hx (pc' := 75) rfl (hb hby d5_74) ?_
  refine g_normI (z := (2 : Int32)) (by decide) ?_
  refine g_daload X305 hx hZ f306 (i := 2) (by decide) (show (2 : Nat) < 16 by decide) (v := t2) rfl (pc' := 76) rfl (hb hby d5_75) ?_
  refine g_dstore X305 hx (pc' := 78) rfl (hb hby d5_76) (l' := #[.val (.ref ta), .val (.int (4 : Int32)), .val (.int (3 : Int32)), .val (.ref ca), .val (.int (2 : Int32)), .val (.int (0 : Int32)), .val (.int (0 : Int32)), .val (.double t0), .second, .val (.int (2 : Int32)), .val (.double t2), .second, .val (.int (2 : Int32)), .val (.int (2 : Int32))]) rfl ?_
  refine g_iload X305 hx (pc' := 80) rfl (hb hby d5_78) rfl ?_
  refine g_iload X305 hx (pc' := 82) rfl (hb hby d5_80) rfl ?_
  refine g_imul X305 hx (pc' := 83) rfl (hb hby d5_82) ?_
  refine g_normI (z := (4 : Int32)) (by decide) ?_
  refine g_istore X305 hx (pc' := 85) rfl (hb hby d5_83) (l' := #[.val (.ref ta), .val (.int (4 : Int32)), .val (.int (3 : Int32)), .val (.ref ca), .val (.int (2 : Int32)), .val (.int (0 : Int32)), .val (.int (0 : Int32)), .val (.double t0), .second, .val (.int (2 : Int32)), .val (.double t2), .second, .val (.int (4 : Int32)), .val (.int (2 : Int32))]) rfl ?_
  refine g_iconst X305 hx (pc' := 86) (z := (0 : Int32)) rfl (hb hby d5_85) rfl ?_
  refine g_istore X305 hx (pc' := 88) rfl (hb hby d5_86) (l' := #[.val (.ref ta), .val (.int (4 : Int32)), .val (.int (3 : Int32)), .val (.ref ca), .val (.int (2 : Int32)), .val (.int (0 : Int32)), .val (.int (0 : Int32)), .val (.double t0), .second, .val (.int (2 : Int32)), .val (.double t2), .second, .val (.int (4 : Int32)), .val (.int (0 : Int32))]) rfl ?_
  refine g_iload X305 hx (pc' := 90) rfl (hb hby d5_88) rfl ?_
  refine g_iload X305 hx (pc' := 92) rfl (hb hby d5_90) rfl ?_
  refine g_icmpN X305 hx (pcN := 95) (hb hby d5_92) rfl (show ¬ (¬ (0 : Int32) < (2 : Int32)) from by decide) ?_
  refine g_aloadN X305 hx (pc' := 96) rfl (hb hby d5_95) rfl rfl ?_
  refine g_iload X305 hx (pc' := 98) rfl (hb hby d5_96) rfl ?_
  refine g_iload X305 hx (pc' := 100) rfl (hb hby d5_98) rfl ?_
  refine g_iadd X305 hx (pc' := 101) rfl (hb hby d5_100) ?_
  refine g_normI (z := (4 : Int32)) (by decide) ?_
  refine g_dup2 X305 hx (pc' := 102) rfl (hb hby d5_101) rfl rfl ?_
  refine g_daload X305 hx hZ V305 (i := 4) (by decide) (show (4 : Nat) < 12 by decide) (v := c4) rfl (pc' := 103) rfl (hb hby d5_102) ?_
  refine g_dload X305 hx (pc' := 105) rfl (hb hby d5_103) rfl ?_
  refine g_aloadN X305 hx (pc' := 106) rfl (hb hby d5_105) rfl rfl ?_
  refine g_iload X305 hx (pc' := 108) rfl (hb hby d5_106) rfl ?_
  refine g_iload X305 hx (pc' := 110) rfl (hb hby d5_108) rfl ?_
  refine g_iadd X305 hx (pc' := 111) rfl (hb hby d5_110) ?_
  refine g_normI (z := (0 : Int32)) (by decide) ?_
  refine g_daload X305 hx hZ V305 (i := 0) (by decide) (show (0 : Nat) < 12 by decide) (v := d285) rfl (pc' := 112) rfl (hb hby d5_111) ?_
  have q309 : Dy (mt2 * n285) 1071 (FP.dmul t2 d285) := dy_mul yt2 q285 (by decide) (own_mb bt2 b285 (by decide)) (by decide)
  refine g_dmul X305 hx (pc' := 113) (z := (FP.dmul t2 d285)) rfl (hb hby d5_112) (dy_noNaN q309) rfl ?_
  refine g_absD (fun d309 hd309 => ?_)
  rw [← hd309] at q309
  obtain ⟨n309, en309⟩ : ∃ z : Int, z = mt2 * n285 := ⟨_, rfl⟩
  rw [← en309] at q309
  have b309 : n309.natAbs ≤ 512 := by rw [en309, Int.natAbs_mul]; exact Nat.le_trans (Nat.mul_le_mul bt2 b285) (by decide)
  obtain ⟨n310, en310⟩ : ∃ z : Int, z = mc4 * 8 := ⟨_, rfl⟩
  have q310 : Dy n310 1071 c4 := by rw [en310]; exact dy_shift 3 (j := 1071) yc4
  have b310 : n310.natAbs ≤ 64 := by rw [en310]; exact own_shl bc4 (by decide)
  have q311 : Dy (n310 - n309) 1071 (FP.dsub c4 d309) := dy_sub q310 q309 (own_subb b310 b309 (by decide)) (by decide)
  refine g_dsub X305 hx (pc' := 114) (z := (FP.dsub c4 d309)) rfl (hb hby d5_113) (dy_noNaN q311) rfl ?_
  refine g_absD (fun d311 hd311 => ?_)
  rw [← hd311] at q311
  obtain ⟨n311, en311⟩ : ∃ z : Int, z = n310 - n309 := ⟨_, rfl⟩
  rw [← en311] at q311
  have b311 : n311.natAbs ≤ 576 := by rw [en311]; exact Nat.le_trans (own_subl b310 b309) (by decide)
  refine g_dastore X305 hx hZ V305 (i := 4) (by decide) (show (4 : Nat) < 12 by decide) hg (pc' := 115) rfl (hb hby d5_114) (fun T312 h312 X312 W312 N312 => ?_)
  have f313 := f306.other W312 hne
  have f314 := (by have q := (Keep.of_wr W312).1; exact Nat.le_trans f307 q : n0 ≤ h312.size)
  have f315 := f308.wr W312 (Or.inl (List.mem_of_getElem? (i := 0) rfl))
  have V312 : AD Z h312 ca [d285, d290, d297, d304, d311, c5, c6, c7, c8, c9, c10, c11] := N312
  refine g_iincC X312 hx (pc' := 118) (x := (0 : Int32)) (z := (1 : Int32)) rfl (hb hby d5_115) rfl (by decide) (l' := #[.val (.ref ta), .val (.int (4 : Int32)), .val (.int (3 : Int32)), .val (.ref ca), .val (.int (2 : Int32)), .val (.int (0 : Int32)), .val (.int (0 : Int32)), .val (.double t0), .second, .val (.int (2 : Int32)), .val (.double t2), .second, .val (.int (4 : Int32)), .val (.int (1 : Int32))]) rfl ?_
  refine g_goto X312 hx (pc' := 88) (hb hby d5_118) (by decide) (by decide) ?_
  refine g_iload X312 hx (pc' := 90) rfl (hb hby d5_88) rfl ?_
  refine g_iload X312 hx (pc' := 92) rfl (hb hby d5_90) rfl ?_
  refine g_icmpN X312 hx (pcN := 95) (hb hby d5_92) rfl (show ¬ (¬ (1 : Int32) < (2 : Int32)) from by decide) ?_
  refine g_aloadN X312 hx (pc' := 96) rfl (hb hby d5_95) rfl rfl ?_
  refine g_iload X312 hx (pc' := 98) rfl (hb hby d5_96) rfl ?_
  refine g_iload X312 hx (pc' := 100) rfl (hb hby d5_98) rfl ?_
  refine g_iadd X312 hx (pc' := 101) rfl (hb hby d5_100) ?_
  refine g_normI (z := (5 : Int32)) (by decide) ?_
  refine g_dup2 X312 hx (pc' := 102) rfl (hb hby d5_101) rfl rfl ?_
  refine g_daload X312 hx hZ V312 (i := 5) (by decide) (show (5 : Nat) < 12 by decide) (v := c5) rfl (pc' := 103) rfl (hb hby d5_102) ?_
  refine g_dload X312 hx (pc' := 105) rfl (hb hby d5_103) rfl ?_
  refine g_aloadN X312 hx (pc' := 106) rfl (hb hby d5_105) rfl rfl ?_
  refine g_iload X312 hx (pc' := 108) rfl (hb hby d5_106) rfl ?_
  refine g_iload X312 hx (pc' := 110) rfl (hb hby d5_108) rfl ?_
  refine g_iadd X312 hx (pc' := 111) rfl (hb hby d5_110) ?_
  refine g_normI (z := (1 : Int32)) (by decide) ?_
  refine g_daload X312 hx hZ V312 (i := 1) (by decide) (show (1 : Nat) < 12 by decide) (v := d290) rfl (pc' := 112) rfl (hb hby d5_111) ?_
  have q316 : Dy (mt2 * n290) 1071 (FP.dmul t2 d290) := dy_mul yt2 q290 (by decide) (own_mb bt2 b290 (by decide)) (by decide)
  refine g_dmul X312 hx (pc' := 113) (z := (FP.dmul t2 d290)) rfl (hb hby d5_112) (dy_noNaN q316) rfl ?_
  refine g_absD (fun d316 hd316 => ?_)
  rw [← hd316] at q316
  obtain ⟨n316, en316⟩ : ∃ z : Int, z = mt2 * n290 := ⟨_, rfl⟩
  rw [← en316] at q316
  have b316 : n316.natAbs ≤ 512 := by rw [en316, Int.natAbs_mul]; exact Nat.le_trans (Nat.mul_le_mul bt2 b290) (by decide)
  obtain ⟨n317, en317⟩ : ∃ z : Int, z = mc5 * 8 := ⟨_, rfl⟩
  have q317 : Dy n317 1071 c5 := by rw [en317]; exact dy_shift 3 (j := 1071) yc5
  have b317 : n317.natAbs ≤ 64 := by rw [en317]; exact own_shl bc5 (by decide)
  have q318 : Dy (n317 - n316) 1071 (FP.dsub c5 d316) := dy_sub q317 q316 (own_subb b317 b316 (by decide)) (by decide)
  refine g_dsub X312 hx (pc' := 114) (z := (FP.dsub c5 d316)) rfl (hb hby d5_113) (dy_noNaN q318) rfl ?_
  refine g_absD (fun d318 hd318 => ?_)
  rw [← hd318] at q318
  obtain ⟨n318, en318⟩ : ∃ z : Int, z = n317 - n316 := ⟨_, rfl⟩
  rw [← en318] at q318
  have b318 : n318.natAbs ≤ 576 := by rw [en318]; exact Nat.le_trans (own_subl b317 b316) (by decide)
  refine g_dastore X312 hx hZ V312 (i := 5) (by decide) (show (5 : Nat) < 12 by decide) hg (pc' := 115) rfl (hb hby d5_114) (fun T319 h319 X319 W319 N319 => ?_)
  have f320 := f313.other W319 hne
  have f321 := (by have q := (Keep.of_wr W319).1; exact Nat.le_trans f314 q : n0 ≤ h319.size)
  have f322 := f315.wr W319 (Or.inl (List.mem_of_getElem? (i := 0) rfl))
  have V319 : AD Z h319 ca [d285, d290, d297, d304, d311, d318, c6, c7, c8, c9, c10, c11] := N319
  refine g_iincC X319 hx (pc' := 118) (x := (1 : Int32)) (z := (2 : Int32)) rfl (hb hby d5_115) rfl (by decide) (l' := #[.val (.ref ta), .val (.int (4 : Int32)), .val (.int (3 : Int32)), .val (.ref ca), .val (.int (2 : Int32)), .val (.int (0 : Int32)), .val (.int (0 : Int32)), .val (.double t0), .second, .val (.int (2 : Int32)), .val (.double t2), .second, .val (.int (4 : Int32)), .val (.int (2 : Int32))]) rfl ?_
  refine g_goto X319 hx (pc' := 88) (hb hby d5_118) (by decide) (by decide) ?_
  refine g_iload X319 hx (pc' := 90) rfl (hb hby d5_88) rfl ?_
  refine g_iload X319 hx (pc' := 92) rfl (hb hby d5_90) rfl ?_
  refine g_icmpY X319 hx (pcY := 121) (hb hby d5_92) (by decide) (by decide) (show ¬ (2 : Int32) < (2 : Int32) from by decide) ?_
  refine g_iincC X319 hx (pc' := 124) (x := (2 : Int32)) (z := (3 : Int32)) rfl (hb hby d5_121) rfl (by decide) (l' := #[.val (.ref ta), .val (.int (4 : Int32)), .val (.int (3 : Int32)), .val (.ref ca), .val (.int (2 : Int32)), .val (.int (0 : Int32)), .val (.int (0 : Int32)), .val (.double t0), .second, .val (.int (3 : Int32)), .val (.double t2), .second, .val (.int (4 : Int32)), .val (.int (2 : Int32))]) rfl ?_
  refine g_goto X319 hx (pc' := 61) (hb hby d5_124) (by decide) (by decide) ?_
  refine g_iload X319 hx (pc' := 63) rfl (hb hby d5_61) rfl ?_
  refine g_iloadN X319 hx (pc' := 64) rfl (hb hby d5_63) rfl ?_
  refine g_icmpY X319 hx (pcY := 127) (hb hby d5_64) (by decide) (by decide) (show ¬ (3 : Int32) < (3 : Int32) from by decide) ?_
  refine g_iincC X319 hx (pc' := 130) (x := (0 : Int32)) (z := (1 : Int32)) rfl (hb hby d5_127) rfl (by decide) (l' := #[.val (.ref ta), .val (.int (4 : Int32)), .val (.int (3 : Int32)), .val (.ref ca), .val (.int (2 : Int32)), .val (.int (1 : Int32)), .val (.int (0 : Int32)), .val (.double t0), .second, .val (.int (3 : Int32)), .val (.double t2), .second, .val (.int (4 : Int32)), .val (.int (2 : Int32))]) rfl ?_
  refine g_goto X319 hx (pc' := 3) (hb hby d5_130) (by decide) (by decide) ?_
  refine g_iload X319 hx (pc' := 5) rfl (hb hby d5_3) rfl ?_
  refine g_iloadN X319 hx (pc' := 6) rfl (hb hby d5_5) rfl ?_
  refine g_icmpN X319 hx (pcN := 9) (hb hby d5_6) rfl (show ¬ (¬ (1 : Int32) < (3 : Int32)) from by decide) ?_
  refine g_iload X319 hx (pc' := 11) rfl (hb hby d5_9) rfl ?_
  refine g_iload X319 hx (pc' := 13) rfl (hb hby d5_11) rfl ?_
  refine g_imul X319 hx (pc' := 14) rfl (hb hby d5_13) ?_
  refine g_normI (z := (2 : Int32)) (by decide) ?_
  refine g_istore X319 hx (pc' := 16) rfl (hb hby d5_14) (l' := #[.val (.ref ta), .val (.int (4 : Int32)), .val (.int (3 : Int32)), .val (.ref ca), .val (.int (2 : Int32)), .val (.int (1 : Int32)), .val (.int (2 : Int32)), .val (.double t0), .second, .val (.int (3 : Int32)), .val (.double t2), .second, .val (.int (4 : Int32)), .val (.int (2 : Int32))]) rfl ?_
  refine g_aloadN X319 hx (pc' := 17) rfl (hb hby d5_16) rfl rfl ?_
  refine g_iload X319 hx (pc' := 19) rfl (hb hby d5_17) rfl ?_
  refine g_iloadN X319 hx (pc' := 20) rfl (hb hby d5_19) rfl ?_
  refine g_imul X319 hx (pc' := 21) rfl (hb hby d5_20) ?_
  refine g_normI (z := (4 : Int32)) (by decide) ?_
  refine g_iload X319 hx (pc' := 23) rfl (hb hby d5_21) rfl ?_
  refine g_iadd X319 hx (pc' := 24) rfl (hb hby d5_23) ?_
  refine g_normI (z := (5 : Int32)) (by decide) ?_
  refine g_daload X319 hx hZ f320 (i := 5) (by decide) (show (5 : Nat) < 16 by decide) (v := t5) rfl (pc' := 25) rfl (hb hby d5_24) ?_
  refine g_dstore X319 hx (pc' := 27) rfl (hb hby d5_25) (l' := #[.val (.ref ta), .val (.int (4 : Int32)), .val (.int (3 : Int32)), .val (.ref ca), .val (.int (2 : Int32)), .val (.int (1 : Int32)), .val (.int (2 : Int32)), .val (.double t5), .second, .val (.int (3 : Int32)), .val (.double t2), .second, .val (.int (4 : Int32)), .val (.int (2 : Int32))]) rfl ?_
  refine g_iconst X319 hx (pc' := 28) (z := (0 : Int32)) rfl (hb hby d5_27) rfl ?_
  refine g_istore X319 hx (pc' := 30) rfl (hb hby d5_28) (l' := #[.val (.ref ta), .val (.int (4 : Int32)), .val (.int (3 : Int32)), .val (.ref ca), .val (.int (2 : Int32)), .val (.int (1 : Int32)), .val (.int (2 : Int32)), .val (.double t5), .second, .val (.int (0 : Int32)), .val (.double t2), .second, .val (.int (4 : Int32)), .val (.int (2 : Int32))]) rfl ?_
  refine g_iload X319 hx (pc' := 32) rfl (hb hby d5_30) rfl ?_
  refine g_iload X319 hx (pc' := 34) rfl (hb hby d5_32) rfl ?_
  refine g_icmpN X319 hx (pcN := 37) (hb hby d5_34) rfl (show ¬ (¬ (0 : Int32) < (2 : Int32)) from by decide) ?_
  refine g_aloadN X319 hx (pc' := 38) rfl (hb hby d5_37) rfl rfl ?_
  refine g_iload X319 hx (pc' := 40) rfl (hb hby d5_38) rfl ?_
  refine g_iload X319 hx (pc' := 42) rfl (hb hby d5_40) rfl ?_
  refine g_iadd X319 hx (pc' := 43) rfl (hb hby d5_42) ?_
  refine g_normI (z := (2 : Int32)) (by decide) ?_
  refine g_dup2 X319 hx (pc' := 44) rfl (hb hby d5_43) rfl rfl ?_
  refine g_daload X319 hx hZ V319 (i := 2) (by decide) (show (2 : Nat) < 12 by decide) (v := d297) rfl (pc' := 45) rfl (hb hby d5_44) ?_
  refine g_dload X319 hx (pc' := 47) rfl (hb hby d5_45) rfl ?_
  have q323 : Dy (n297 * e5) 1068 (FP.ddiv d297 t5) := dy_div (dy_shift 3 (j := 1068) q297) yt5 hz5 (own_divq he5) rfl (own_mb b297 be5 (by decide)) (by decide)
  refine g_ddiv X319 hx (pc' := 48) (z := (FP.ddiv d297 t5)) rfl (hb hby d5_47) (dy_noNaN q323) rfl ?_
  refine g_absD (fun d323 hd323 => ?_)
  rw [← hd323] at q323
  obtain ⟨n323, en323⟩ : ∃ z : Int, z = n297 * e5 := ⟨_, rfl⟩
  rw [← en323] at q323
  have b323 : n323.natAbs ≤ 4608 := by rw [en323, Int.natAbs_mul]; exact Nat.le_trans (Nat.mul_le_mul b297 be5) (by decide)
  refine g_dastore X319 hx hZ V319 (i := 2) (by decide) (show (2 : Nat) < 12 by decide) hg (pc' := 49) rfl (hb hby d5_48) (fun T324 h324 X324 W324 N324 => ?_)
  have f325 := f320.other W324 hne
  have f326 := (by have q := (Keep.of_wr W324).1; exact Nat.le_trans f321 q : n0 ≤ h324.size)
  have f327 := f322.wr W324 (Or.inl (List.mem_of_getElem? (i := 0) rfl))
  have V324 : AD Z h324 ca [d285, d290, d323, d304, d311, d318, c6, c7, c8, c9, c10, c11] := N324
  refine g_iincC X324 hx (pc' := 52) (x := (0 : Int32)) (z := (1 : Int32)) rfl (hb hby d5_49) rfl (by decide) (l' := #[.val (.ref ta), .val (.int (4 : Int32)), .val (.int (3 : Int32)), .val (.ref ca), .val (.int (2 : Int32)), .val (.int (1 : Int32)), .val (.int (2 : Int32)), .val (.double t5), .second, .val (.int (1 : Int32)), .val (.double t2), .second, .val (.int (4 : Int32)), .val (.int (2 : Int32))]) rfl ?_
  refine g_goto X324 hx (pc' := 30) (hb hby d5_52) (by decide) (by decide) ?_
  refine g_iload X324 hx (pc' := 32) rfl (hb hby d5_30) rfl ?_
  refine g_iload X324 hx (pc' := 34) rfl (hb hby d5_32) rfl ?_
  refine g_icmpN X324 hx (pcN := 37) (hb hby d5_34) rfl (show ¬ (¬ (1 : Int32) < (2 : Int32)) from by decide) ?_
  refine g_aloadN X324 hx (pc' := 38) rfl (hb hby d5_37) rfl rfl ?_
  refine g_iload X324 hx (pc' := 40) rfl (hb hby d5_38) rfl ?_
  refine g_iload X324 hx (pc' := 42) rfl (hb hby d5_40) rfl ?_
  refine g_iadd X324 hx (pc' := 43) rfl (hb hby d5_42) ?_
  refine g_normI (z := (3 : Int32)) (by decide) ?_
  refine g_dup2 X324 hx (pc' := 44) rfl (hb hby d5_43) rfl rfl ?_
  refine g_daload X324 hx hZ V324 (i := 3) (by decide) (show (3 : Nat) < 12 by decide) (v := d304) rfl (pc' := 45) rfl (hb hby d5_44) ?_
  refine g_dload X324 hx (pc' := 47) rfl (hb hby d5_45) rfl ?_
  have q328 : Dy (n304 * e5) 1068 (FP.ddiv d304 t5) := dy_div (dy_shift 3 (j := 1068) q304) yt5 hz5 (own_divq he5) rfl (own_mb b304 be5 (by decide)) (by decide)
  refine g_ddiv X324 hx (pc' := 48) (z := (FP.ddiv d304 t5)) rfl (hb hby d5_47) (dy_noNaN q328) rfl ?_
  refine g_absD (fun d328 hd328 => ?_)
  rw [← hd328] at q328
  obtain ⟨n328, en328⟩ : ∃ z : Int, z = n304 * e5 := ⟨_, rfl⟩
  rw [← en328] at q328
  have b328 : n328.natAbs ≤ 4608 := by rw [en328, Int.natAbs_mul]; exact Nat.le_trans (Nat.mul_le_mul b304 be5) (by decide)
  refine g_dastore X324 hx hZ V324 (i := 3) (by decide) (show (3 : Nat) < 12 by decide) hg (pc' := 49) rfl (hb hby d5_48) (fun T329 h329 X329 W329 N329 => ?_)
  have f330 := f325.other W329 hne
  have f331 := (by have q := (Keep.of_wr W329).1; exact Nat.le_trans f326 q : n0 ≤ h329.size)
  have f332 := f327.wr W329 (Or.inl (List.mem_of_getElem? (i := 0) rfl))
  have V329 : AD Z h329 ca [d285, d290, d323, d328, d311, d318, c6, c7, c8, c9, c10, c11] := N329
  refine g_iincC X329 hx (pc' := 52) (x := (1 : Int32)) (z := (2 : Int32)) rfl (hb hby d5_49) rfl (by decide) (l' := #[.val (.ref ta), .val (.int (4 : Int32)), .val (.int (3 : Int32)), .val (.ref ca), .val (.int (2 : Int32)), .val (.int (1 : Int32)), .val (.int (2 : Int32)), .val (.double t5), .second, .val (.int (2 : Int32)), .val (.double t2), .second, .val (.int (4 : Int32)), .val (.int (2 : Int32))]) rfl ?_
  refine g_goto X329 hx (pc' := 30) (hb hby d5_52) (by decide) (by decide) ?_
  refine g_iload X329 hx (pc' := 32) rfl (hb hby d5_30) rfl ?_
  refine g_iload X329 hx (pc' := 34) rfl (hb hby d5_32) rfl ?_
  refine g_icmpY X329 hx (pcY := 55) (hb hby d5_34) (by decide) (by decide) (show ¬ (2 : Int32) < (2 : Int32) from by decide) ?_
  refine g_iload X329 hx (pc' := 57) rfl (hb hby d5_55) rfl ?_
  refine g_iconst X329 hx (pc' := 58) (z := (1 : Int32)) rfl (hb hby d5_57) rfl ?_
  refine g_iadd X329 hx (pc' := 59) rfl (hb hby d5_58) ?_
  refine g_normI (z := (2 : Int32)) (by decide) ?_
  refine g_istore X329 hx (pc' := 61) rfl (hb hby d5_59) (l' := #[.val (.ref ta), .val (.int (4 : Int32)), .val (.int (3 : Int32)), .val (.ref ca), .val (.int (2 : Int32)), .val (.int (1 : Int32)), .val (.int (2 : Int32)), .val (.double t5), .second, .val (.int (2 : Int32)), .val (.double t2), .second, .val (.int (4 : Int32)), .val (.int (2 : Int32))]) rfl ?_
  refine g_iload X329 hx (pc' := 63) rfl (hb hby d5_61) rfl ?_
  refine g_iloadN X329 hx (pc' := 64) rfl (hb hby d5_63) rfl ?_
  refine g_icmpN X329 hx (pcN := 67) (hb hby d5_64) rfl (show ¬ (¬ (2 : Int32) < (3 : Int32)) from by decide) ?_
  refine g_aloadN X329 hx (pc' := 68) rfl (hb hby d5_67) rfl rfl ?_
  refine g_iload X329 hx (pc' := 70) rfl (hb hby d5_68) rfl ?_
  refine g_iloadN X329 hx (pc' := 71) rfl (hb hby d5_70) rfl ?_
  refine g_imul X329 hx (pc' := 72) rfl (hb hby d5_71) ?_
  refine g_normI (z := (4 : Int32)) (by decide) ?_
  refine g_iload X329 hx (pc' := 74) rfl (hb hby d5_72) rfl ?_
  refine g_iadd X329 hx (pc' := 75) rfl (hb hby d5_74) ?_
  refine g_normI (z := (6 : Int32)) (by decide) ?_
  refine g_daload X329 hx hZ f330 (i := 6) (by decide) (show (6 : Nat) < 16 by decide) (v := t6) rfl (pc' := 76) rfl (hb hby d5_75) ?_
  refine g_dstore X329 hx (pc' := 78) rfl (hb hby d5_76) (l' := #[.val (.ref ta), .val (.int (4 : Int32)), .val (.int (3 : Int32)), .val (.ref ca), .val (.int (2 : Int32)), .val (.int (1 : Int32)), .val (.int (2 : Int32)), .val (.double t5), .second, .val (.int (2 : Int32)), .val (.double t6), .second, .val (.int (4 : Int32)), .val (.int (2 : Int32))]) rfl ?_
  refine g_iload X329 hx (pc' := 80) rfl (hb hby d5_78) rfl ?_
  refine g_iload X329 hx (pc' := 82) rfl (hb hby d5_80) rfl ?_
  refine g_imul X329 hx (pc' := 83) rfl (hb hby d5_82) ?_
  refine g_normI (z := (4 : Int32)) (by decide) ?_
  refine g_istore X329 hx (pc' := 85) rfl (hb hby d5_83) (l' := #[.val (.ref ta), .val (.int (4 : Int32)), .val (.int (3 : Int32)), .val (.ref ca), .val (.int (2 : Int32)), .val (.int (1 : Int32)), .val (.int (2 : Int32)), .val (.double t5), .second, .val (.int (2 : Int32)), .val (.double t6), .second, .val (.int (4 : Int32)), .val (.int (2 : Int32))]) rfl ?_
  refine g_iconst X329 hx (pc' := 86) (z := (0 : Int32)) rfl (hb hby d5_85) rfl ?_
  refine g_istore X329 hx (pc' := 88) rfl (hb hby d5_86) (l' := #[.val (.ref ta), .val (.int (4 : Int32)), .val (.int (3 : Int32)), .val (.ref ca), .val (.int (2 : Int32)), .val (.int (1 : Int32)), .val (.int (2 : Int32)), .val (.double t5), .second, .val (.int (2 : Int32)), .val (.double t6), .second, .val (.int (4 : Int32)), .val (.int (0 : Int32))]) rfl ?_
  refine g_iload X329 hx (pc' := 90) rfl (hb hby d5_88) rfl ?_
  refine g_iload X329 hx (pc' := 92) rfl (hb hby d5_90) rfl ?_
  refine g_icmpN X329 hx (pcN := 95) (hb hby d5_92) rfl (show ¬ (¬ (0 : Int32) < (2 : Int32)) from by decide) ?_
  refine g_aloadN X329 hx (pc' := 96) rfl (hb hby d5_95) rfl rfl ?_
  refine g_iload X329 hx (pc' := 98) rfl (hb hby d5_96) rfl ?_
  refine g_iload X329 hx (pc' := 100) rfl (hb hby d5_98) rfl ?_
  refine g_iadd X329 hx (pc' := 101) rfl (hb hby d5_100) ?_
  refine g_normI (z := (4 : Int32)) (by decide) ?_
  refine g_dup2 X329 hx (pc' := 102) rfl (hb hby d5_101) rfl rfl ?_
  refine g_daload X329 hx hZ V329 (i := 4) (by decide) (show (4 : Nat) < 12 by decide) (v := d311) rfl (pc' := 103) rfl (hb hby d5_102) ?_
  refine g_dload X329 hx (pc' := 105) rfl (hb hby d5_103) rfl ?_
  refine g_aloadN X329 hx (pc' := 106) rfl (hb hby d5_105) rfl rfl ?_
  refine g_iload X329 hx (pc' := 108) rfl (hb hby d5_106) rfl ?_
  refine g_iload X329 hx (pc' := 110) rfl (hb hby d5_108) rfl ?_
  refine g_iadd X329 hx (pc' := 111) rfl (hb hby d5_110) ?_
  refine g_normI (z := (2 : Int32)) (by decide) ?_
  refine g_daload X329 hx hZ V329 (i := 2) (by decide) (show (2 : Nat) < 12 by decide) (v := d323) rfl (pc' := 112) rfl (hb hby d5_111) ?_
  have q333 : Dy (mt6 * n323) 1068 (FP.dmul t6 d323) := dy_mul yt6 q323 (by decide) (own_mb bt6 b323 (by decide)) (by decide)
  refine g_dmul X329 hx (pc' := 113) (z := (FP.dmul t6 d323)) rfl (hb hby d5_112) (dy_noNaN q333) rfl ?_
  refine g_absD (fun d333 hd333 => ?_)
  rw [← hd333] at q333
  obtain ⟨n333, en333⟩ : ∃ z : Int, z = mt6 * n323 := ⟨_, rfl⟩
  rw [← en333] at q333
  have b333 : n333.natAbs ≤ 36864 := by rw [en333, Int.natAbs_mul]; exact Nat.le_trans (Nat.mul_le_mul bt6 b323) (by decide)
  obtain ⟨n334, en334⟩ : ∃ z : Int, z = n311 * 8 := ⟨_, rfl⟩
  have q334 : Dy n334 1068 d311 := by rw [en334]; exact dy_shift 3 (j := 1068) q311
  have b334 : n334.natAbs ≤ 4608 := by rw [en334]; exact own_shl b311 (by decide)
  have q335 : Dy (n334 - n333) 1068 (FP.dsub d311 d333) := dy_sub q334 q333 (own_subb b334 b333 (by decide)) (by decide)
  refine g_dsub X329 hx (pc' := 114) (z := (FP.dsub d311 d333)) rfl (hb hby d5_113) (dy_noNaN q335) rfl ?_
  refine g_absD (fun d335 hd335 => ?_)
  rw [← hd335] at q335
  obtain ⟨n335, en335⟩ : ∃ z : Int, z = n334 - n333 := ⟨_, rfl⟩
  rw [← en335] at q335
  have b335 : n335.natAbs ≤ 41472 := by rw [en335]; exact Nat.le_trans (own_subl b334 b333) (by decide)
  refine g_dastore X329 hx hZ V329 (i := 4) (by decide) (show (4 : Nat) < 12 by decide) hg (pc' := 115) rfl (hb hby d5_114) (fun T336 h336 X336 W336 N336 => ?_)
  have f337 := f330.other W336 hne
  have f338 := (by have q := (Keep.of_wr W336).1; exact Nat.le_trans f331 q : n0 ≤ h336.size)
  have f339 := f332.wr W336 (Or.inl (List.mem_of_getElem? (i := 0) rfl))
  have V336 : AD Z h336 ca [d285, d290, d323, d328, d335, d318, c6, c7, c8, c9, c10, c11] := N336
  refine g_iincC X336 hx (pc' := 118) (x := (0 : Int32)) (z := (1 : Int32)) rfl (hb hby d5_115) rfl (by decide) (l' := #[.val (.ref ta), .val (.int (4 : Int32)), .val (.int (3 : Int32)), .val (.ref ca), .val (.int (2 : Int32)), .val (.int (1 : Int32)), .val (.int (2 : Int32)), .val (.double t5), .second, .val (.int (2 : Int32)), .val (.double t6), .second, .val (.int (4 : Int32)), .val (.int (1 : Int32))]) rfl ?_
  refine g_goto X336 hx (pc' := 88) (hb hby d5_118) (by decide) (by decide) ?_
  refine g_iload X336 hx (pc' := 90) rfl (hb hby d5_88) rfl ?_
  refine g_iload X336 hx (pc' := 92) rfl (hb hby d5_90) rfl ?_
  refine g_icmpN X336 hx (pcN := 95) (hb hby d5_92) rfl (show ¬ (¬ (1 : Int32) < (2 : Int32)) from by decide) ?_
  refine g_aloadN X336 hx (pc' := 96) rfl (hb hby d5_95) rfl rfl ?_
  refine g_iload X336 hx (pc' := 98) rfl (hb hby d5_96) rfl ?_
  refine g_iload X336 hx (pc' := 100) rfl (hb hby d5_98) rfl ?_
  refine g_iadd X336 hx (pc' := 101) rfl (hb hby d5_100) ?_
  refine g_normI (z := (5 : Int32)) (by decide) ?_
  refine g_dup2 X336 hx (pc' := 102) rfl (hb hby d5_101) rfl rfl ?_
  refine g_daload X336 hx hZ V336 (i := 5) (by decide) (show (5 : Nat) < 12 by decide) (v := d318) rfl (pc' := 103) rfl (hb hby d5_102) ?_
  refine g_dload X336 hx (pc' := 105) rfl (hb hby d5_103) rfl ?_
  refine g_aloadN X336 hx (pc' := 106) rfl (hb hby d5_105) rfl rfl ?_
  refine g_iload X336 hx (pc' := 108) rfl (hb hby d5_106) rfl ?_
  refine g_iload X336 hx (pc' := 110) rfl (hb hby d5_108) rfl ?_
  refine g_iadd X336 hx (pc' := 111) rfl (hb hby d5_110) ?_
  refine g_normI (z := (3 : Int32)) (by decide) ?_
  refine g_daload X336 hx hZ V336 (i := 3) (by decide) (show (3 : Nat) < 12 by decide) (v := d328) rfl (pc' := 112) rfl (hb hby d5_111) ?_
  have q340 : Dy (mt6 * n328) 1068 (FP.dmul t6 d328) := dy_mul yt6 q328 (by decide) (own_mb bt6 b328 (by decide)) (by decide)
  refine g_dmul X336 hx (pc' := 113) (z := (FP.dmul t6 d328)) rfl (hb hby d5_112) (dy_noNaN q340) rfl ?_
  refine g_absD (fun d340 hd340 => ?_)
  rw [← hd340] at q340
  obtain ⟨n340, en340⟩ : ∃ z : Int, z = mt6 * n328 := ⟨_, rfl⟩
  rw [← en340] at q340
  have b340 : n340.natAbs ≤ 36864 := by rw [en340, Int.natAbs_mul]; exact Nat.le_trans (Nat.mul_le_mul bt6 b328) (by decide)
  obtain ⟨n341, en341⟩ : ∃ z : Int, z = n318 * 8 := ⟨_, rfl⟩
  have q341 : Dy n341 1068 d318 := by rw [en341]; exact dy_shift 3 (j := 1068) q318
  have b341 : n341.natAbs ≤ 4608 := by rw [en341]; exact own_shl b318 (by decide)
  have q342 : Dy (n341 - n340) 1068 (FP.dsub d318 d340) := dy_sub q341 q340 (own_subb b341 b340 (by decide)) (by decide)
  refine g_dsub X336 hx (pc' := 114) (z := (FP.dsub d318 d340)) rfl (hb hby d5_113) (dy_noNaN q342) rfl ?_
  refine g_absD (fun d342 hd342 => ?_)
  rw [← hd342] at q342
  obtain ⟨n342, en342⟩ : ∃ z : Int, z = n341 - n340 := ⟨_, rfl⟩
  rw [← en342] at q342
  have b342 : n342.natAbs ≤ 41472 := by rw [en342]; exact Nat.le_trans (own_subl b341 b340) (by decide)
  refine g_dastore X336 hx hZ V336 (i := 5) (by decide) (show (5 : Nat) < 12 by decide) hg (pc' := 115) rfl (hb hby d5_114) (fun T343 h343 X343 W343 N343 => ?_)
  have f344 := f337.other W343 hne
  have f345 := (by have q := (Keep.of_wr W343).1; exact Nat.le_trans f338 q : n0 ≤ h343.size)
  have f346 := f339.wr W343 (Or.inl (List.mem_of_getElem? (i := 0) rfl))
  have V343 : AD Z h343 ca [d285, d290, d323, d328, d335, d342, c6, c7, c8, c9, c10, c11] := N343
  refine g_iincC X343 hx (pc' := 118) (x := (1 : Int32)) (z := (2 : Int32)) rfl (hb hby d5_115) rfl (by decide) (l' := #[.val (.ref ta), .val (.int (4 : Int32)), .val (.int (3 : Int32)), .val (.ref ca), .val (.int (2 : Int32)), .val (.int (1 : Int32)), .val (.int (2 : Int32)), .val (.double t5), .second, .val (.int (2 : Int32)), .val (.double t6), .second, .val (.int (4 : Int32)), .val (.int (2 : Int32))]) rfl ?_
  refine g_goto X343 hx (pc' := 88) (hb hby d5_118) (by decide) (by decide) ?_
  refine g_iload X343 hx (pc' := 90) rfl (hb hby d5_88) rfl ?_
  refine g_iload X343 hx (pc' := 92) rfl (hb hby d5_90) rfl ?_
  refine g_icmpY X343 hx (pcY := 121) (hb hby d5_92) (by decide) (by decide) (show ¬ (2 : Int32) < (2 : Int32) from by decide) ?_
  refine g_iincC X343 hx (pc' := 124) (x := (2 : Int32)) (z := (3 : Int32)) rfl (hb hby d5_121) rfl (by decide) (l' := #[.val (.ref ta), .val (.int (4 : Int32)), .val (.int (3 : Int32)), .val (.ref ca), .val (.int (2 : Int32)), .val (.int (1 : Int32)), .val (.int (2 : Int32)), .val (.double t5), .second, .val (.int (3 : Int32)), .val (.double t6), .second, .val (.int (4 : Int32)), .val (.int (2 : Int32))]) rfl ?_
  refine g_goto X343 hx (pc' := 61) (hb hby d5_124) (by decide) (by decide) ?_
  refine g_iload X343 hx (pc' := 63) rfl (hb hby d5_61) rfl ?_
  refine g_iloadN X343 hx (pc' := 64) rfl (hb hby d5_63) rfl ?_
  refine g_icmpY X343 hx (pcY := 127) (hb hby d5_64) (by decide) (by decide) (show ¬ (3 : Int32) < (3 : Int32) from by decide) ?_
  refine g_iincC X343 hx (pc' := 130) (x := (1 : Int32)) (z := (2 : Int32)) rfl (hb hby d5_127) rfl (by decide) (l' := #[.val (.ref ta), .val (.int (4 : Int32)), .val (.int (3 : Int32)), .val (.ref ca), .val (.int (2 : Int32)), .val (.int (2 : Int32)), .val (.int (2 : Int32)), .val (.double t5), .second, .val (.int (3 : Int32)), .val (.double t6), .second, .val (.int (4 : Int32)), .val (.int (2 : Int32))]) rfl ?_
  refine g_goto X343 hx (pc' := 3) (hb hby d5_130) (by decide) (by decide) ?_
  refine g_iload X343 hx (pc' := 5) rfl (hb hby d5_3) rfl ?_
  refine g_iloadN X343 hx (pc' := 6) rfl (hb hby d5_5) rfl ?_
  refine g_icmpN X343 hx (pcN := 9) (hb hby d5_6) rfl (show ¬ (¬ (2 : Int32) < (3 : Int32)) from by decide) ?_
  refine g_iload X343 hx (pc' := 11) rfl (hb hby d5_9) rfl ?_
  refine g_iload X343 hx (pc' := 13) rfl (hb hby d5_11) rfl ?_
  refine g_imul X343 hx (pc' := 14) rfl (hb hby d5_13) ?_
  refine g_normI (z := (4 : Int32)) (by decide) ?_
  refine g_istore X343 hx (pc' := 16) rfl (hb hby d5_14) (l' := #[.val (.ref ta), .val (.int (4 : Int32)), .val (.int (3 : Int32)), .val (.ref ca), .val (.int (2 : Int32)), .val (.int (2 : Int32)), .val (.int (4 : Int32)), .val (.double t5), .second, .val (.int (3 : Int32)), .val (.double t6), .second, .val (.int (4 : Int32)), .val (.int (2 : Int32))]) rfl ?_
  refine g_aloadN X343 hx (pc' := 17) rfl (hb hby d5_16) rfl rfl ?_
  refine g_iload X343 hx (pc' := 19) rfl (hb hby d5_17) rfl ?_
  refine g_iloadN X343 hx (pc' := 20) rfl (hb hby d5_19) rfl ?_
  refine g_imul X343 hx (pc' := 21) rfl (hb hby d5_20) ?_
  refine g_normI (z := (8 : Int32)) (by decide) ?_
  refine g_iload X343 hx (pc' := 23) rfl (hb hby d5_21) rfl ?_
  refine g_iadd X343 hx (pc' := 24) rfl (hb hby d5_23) ?_
  refine g_normI (z := (10 : Int32)) (by decide) ?_
  refine g_daload X343 hx hZ f344 (i := 10) (by decide) (show (10 : Nat) < 16 by decide) (v := t10) rfl (pc' := 25) rfl (hb hby d5_24) ?_
  refine g_dstore X343 hx (pc' := 27) rfl (hb hby d5_25) (l' := #[.val (.ref ta), .val (.int (4 : Int32)), .val (.int (3 : Int32)), .val (.ref ca), .val (.int (2 : Int32)), .val (.int (2 : Int32)), .val (.int (4 : Int32)), .val (.double t10), .second, .val (.int (3 : Int32)), .val (.double t6), .second, .val (.int (4 : Int32)), .val (.int (2 : Int32))]) rfl ?_
  refine g_iconst X343 hx (pc' := 28) (z := (0 : Int32)) rfl (hb hby d5_27) rfl ?_
  refine g_istore X343 hx (pc' := 30) rfl (hb hby d5_28) (l' := #[.val (.ref ta), .val (.int (4 : Int32)), .val (.int (3 : Int32)), .val (.ref ca), .val (.int (2 : Int32)), .val (.int (2 : Int32)), .val (.int (4 : Int32)), .val (.double t10), .second, .val (.int (0 : Int32)), .val (.double t6), .second, .val (.int (4 : Int32)), .val (.int (2 : Int32))]) rfl ?_
  refine g_iload X343 hx (pc' := 32) rfl (hb hby d5_30) rfl ?_
  refine g_iload X343 hx (pc' := 34) rfl (hb hby d5_32) rfl ?_
  refine g_icmpN X343 hx (pcN := 37) (hb hby d5_34) rfl (show ¬ (¬ (0 : Int32) < (2 : Int32)) from by decide) ?_
  refine g_aloadN X343 hx (pc' := 38) rfl (hb hby d5_37) rfl rfl ?_
  refine g_iload X343 hx (pc' := 40) rfl (hb hby d5_38) rfl ?_
  refine g_iload X343 hx (pc' := 42) rfl (hb hby d5_40) rfl ?_
  refine g_iadd X343 hx (pc' := 43) rfl (hb hby d5_42) ?_
  refine g_normI (z := (4 : Int32)) (by decide) ?_
  refine g_dup2 X343 hx (pc' := 44) rfl (hb hby d5_43) rfl rfl ?_
  refine g_daload X343 hx hZ V343 (i := 4) (by decide) (show (4 : Nat) < 12 by decide) (v := d335) rfl (pc' := 45) rfl (hb hby d5_44) ?_
  refine g_dload X343 hx (pc' := 47) rfl (hb hby d5_45) rfl ?_
  have q347 : Dy (n335 * e10) 1065 (FP.ddiv d335 t10) := dy_div (dy_shift 3 (j := 1065) q335) yt10 hz10 (own_divq he10) rfl (own_mb b335 be10 (by decide)) (by decide)
  refine g_ddiv X343 hx (pc' := 48) (z := (FP.ddiv d335 t10)) rfl (hb hby d5_47) (dy_noNaN q347) rfl ?_
  refine g_absD (fun d347 hd347 => ?_)
  rw [← hd347] at q347
  obtain ⟨n347, en347⟩ : ∃ z : Int, z = n335 * e10 := ⟨_, rfl⟩
  rw [← en347] at q347
  have b347 : n347.natAbs ≤ 331776 := by rw [en347, Int.natAbs_mul]; exact Nat.le_trans (Nat.mul_le_mul b335 be10) (by decide)
  refine g_dastore X343 hx hZ V343 (i := 4) (by decide) (show (4 : Nat) < 12 by decide) hg (pc' := 49) rfl (hb hby d5_48) (fun T348 h348 X348 W348 N348 => ?_)
  have f349 := f344.other W348 hne
  have f350 := (by have q := (Keep.of_wr W348).1; exact Nat.le_trans f345 q : n0 ≤ h348.size)
  have f351 := f346.wr W348 (Or.inl (List.mem_of_getElem? (i := 0) rfl))
  have V348 : AD Z h348 ca [d285, d290, d323, d328, d347, d342, c6, c7, c8, c9, c10, c11] := N348
  refine g_iincC X348 hx (pc' := 52) (x := (0 : Int32)) (z := (1 : Int32)) rfl (hb hby d5_49) rfl (by decide) (l' := #[.val (.ref ta), .val (.int (4 : Int32)), .val (.int (3 : Int32)), .val (.ref ca), .val (.int (2 : Int32)), .val (.int (2 : Int32)), .val (.int (4 : Int32)), .val (.double t10), .second, .val (.int (1 : Int32)), .val (.double t6), .second, .val (.int (4 : Int32)), .val (.int (2 : Int32))]) rfl ?_
  refine g_goto X348 hx (pc' := 30) (hb hby d5_52) (by decide) (by decide) ?_
  refine g_iload X348 hx (pc' := 32) rfl (hb hby d5_30) rfl ?_
  refine g_iload X348 hx (pc' := 34) rfl (hb hby d5_32) rfl ?_
  refine g_icmpN X348 hx (pcN := 37) (hb hby d5_34) rfl (show ¬ (¬ (1 : Int32) < (2 : Int32)) from by decide) ?_
  refine g_aloadN X348 hx (pc' := 38) rfl (hb hby d5_37) rfl rfl ?_
  refine g_iload X348 hx (pc' := 40) rfl (hb hby d5_38) rfl ?_
  refine g_iload X348 hx (pc' := 42) rfl (hb hby d5_40) rfl ?_
  refine g_iadd X348 hx (pc' := 43) rfl (hb hby d5_42) ?_
  refine g_normI (z := (5 : Int32)) (by decide) ?_
  refine g_dup2 X348 hx (pc' := 44) rfl (hb hby d5_43) rfl rfl ?_
  refine g_daload X348 hx hZ V348 (i := 5) (by decide) (show (5 : Nat) < 12 by decide) (v := d342) rfl (pc' := 45) rfl (hb hby d5_44) ?_
  refine g_dload X348 hx (pc' := 47) rfl (hb hby d5_45) rfl ?_
  have q352 : Dy (n342 * e10) 1065 (FP.ddiv d342 t10) := dy_div (dy_shift 3 (j := 1065) q342) yt10 hz10 (own_divq he10) rfl (own_mb b342 be10 (by decide)) (by decide)
  refine g_ddiv X348 hx (pc' := 48) (z := (FP.ddiv d342 t10)) rfl (hb hby d5_47) (dy_noNaN q352) rfl ?_
  refine g_absD (fun d352 hd352 => ?_)
  rw [← hd352] at q352
  obtain ⟨n352, en352⟩ : ∃ z : Int, z = n342 * e10 := ⟨_, rfl⟩
  rw [← en352] at q352
  have b352 : n352.natAbs ≤ 331776 := by rw [en352, Int.natAbs_mul]; exact Nat.le_trans (Nat.mul_le_mul b342 be10) (by decide)
  refine g_dastore X348 hx hZ V348 (i := 5) (by decide) (show (5 : Nat) < 12 by decide) hg (pc' := 49) rfl (hb hby d5_48) (fun T353 h353 X353 W353 N353 => ?_)
  have f354 := f349.other W353 hne
  have f355 := (by have q := (Keep.of_wr W353).1; exact Nat.le_trans f350 q : n0 ≤ h353.size)
  have f356 := f351.wr W353 (Or.inl (List.mem_of_getElem? (i := 0) rfl))
  have V353 : AD Z h353 ca [d285, d290, d323, d328, d347, d352, c6, c7, c8, c9, c10, c11] := N353
  refine g_iincC X353 hx (pc' := 52) (x := (1 : Int32)) (z := (2 : Int32)) rfl (hb hby d5_49) rfl (by decide) (l' := #[.val (.ref ta), .val (.int (4 : Int32)), .val (.int (3 : Int32)), .val (.ref ca), .val (.int (2 : Int32)), .val (.int (2 : Int32)), .val (.int (4 : Int32)), .val (.double t10), .second, .val (.int (2 : Int32)), .val (.double t6), .second, .val (.int (4 : Int32)), .val (.int (2 : Int32))]) rfl ?_
  refine g_goto X353 hx (pc' := 30) (hb hby d5_52) (by decide) (by decide) ?_
  refine g_iload X353 hx (pc' := 32) rfl (hb hby d5_30) rfl ?_
  refine g_iload X353 hx (pc' := 34) rfl (hb hby d5_32) rfl ?_
  refine g_icmpY X353 hx (pcY := 55) (hb hby d5_34) (by decide) (by decide) (show ¬ (2 : Int32) < (2 : Int32) from by decide) ?_
  refine g_iload X353 hx (pc' := 57) rfl (hb hby d5_55) rfl ?_
  refine g_iconst X353 hx (pc' := 58) (z := (1 : Int32)) rfl (hb hby d5_57) rfl ?_
  refine g_iadd X353 hx (pc' := 59) rfl (hb hby d5_58) ?_
  refine g_normI (z := (3 : Int32)) (by decide) ?_
  refine g_istore X353 hx (pc' := 61) rfl (hb hby d5_59) (l' := #[.val (.ref ta), .val (.int (4 : Int32)), .val (.int (3 : Int32)), .val (.ref ca), .val (.int (2 : Int32)), .val (.int (2 : Int32)), .val (.int (4 : Int32)), .val (.double t10), .second, .val (.int (3 : Int32)), .val (.double t6), .second, .val (.int (4 : Int32)), .val (.int (2 : Int32))]) rfl ?_
  refine g_iload X353 hx (pc' := 63) rfl (hb hby d5_61) rfl ?_
  refine g_iloadN X353 hx (pc' := 64) rfl (hb hby d5_63) rfl ?_
  refine g_icmpY X353 hx (pcY := 127) (hb hby d5_64) (by decide) (by decide) (show ¬ (3 : Int32) < (3 : Int32) from by decide) ?_
  refine g_iincC X353 hx (pc' := 130) (x := (2 : Int32)) (z := (3 : Int32)) rfl (hb hby d5_127) rfl (by decide) (l' := #[.val (.ref ta), .val (.int (4 : Int32)), .val (.int (3 : Int32)), .val (.ref ca), .val (.int (2 : Int32)), .val (.int (3 : Int32)), .val (.int (4 : Int32)), .val (.double t10), .second, .val (.int (3 : Int32)), .val (.double t6), .second, .val (.int (4 : Int32)), .val (.int (2 : Int32))]) rfl ?_
  refine g_goto X353 hx (pc' := 3) (hb hby d5_130) (by decide) (by decide) ?_
  refine g_iload X353 hx (pc' := 5) rfl (hb hby d5_3) rfl ?_
  refine g_iloadN X353 hx (pc' := 6) rfl (hb hby d5_5) rfl ?_
  refine g_icmpY X353 hx (pcY := 133) (hb hby d5_6) (by decide) (by decide) (show ¬ (3 : Int32) < (3 : Int32) from by decide) ?_
  exact g_retV X353 hx hlk hret (hb hby d5_133) (by decide) (by decide) (⟨rfl, f356, _, V353, rfl, own_all12 (Chk.b0 (by decide) (by decide) (own_S0 yt0 q285 yc0 bt0 b285 (by rw [en285]; exact own_f0 he0))) (Chk.b0 (by decide) (by decide) (own_S0 yt0 q290 yc1 bt0 b290 (by rw [en290]; exact own_f0 he0))) (Chk.b1 (by decide) (by decide) (own_S1 yt5 q323 yt1 q285 yc2 bt5 b323 bt1 b285 (by rw [en323, en297, en296, en295]; exact own_f1 he5))) (Chk.b1 (by decide) (by decide) (own_S1 yt5 q328 yt1 q290 yc3 bt5 b328 bt1 b290 (by rw [en328, en304, en303, en302]; exact own_f1 he5))) (Chk.b2 (by decide) (by decide) (own_S2 yt10 q347 yt2 q285 yt6 q323 yc4 bt10 b347 bt2 b285 bt6 b323 (by rw [en347, en335, en334, en311, en310, en309, en333]; exact own_f2 he10))) (Chk.b2 (by decide) (by decide) (own_S2 yt10 q352 yt2 q290 yt6 q328 yc5 bt10 b352 bt2 b290 bt6 b328 (by rw [en352, en342, en341, en318, en317, en316, en340]; exact own_f2 he10))) (Chk.a (by decide) (own_dyeq yc6 yc6 rfl)) (Chk.a (by decide) (own_dyeq yc7 yc7 rfl)) (Chk.a (by decide) (own_dyeq yc8 yc8 rfl)) (Chk.a (by decide) (own_dyeq yc9 yc9 rfl)) (Chk.a (by decide) (own_dyeq yc10 yc10 rfl)) (Chk.a (by decide) (own_dyeq yc11 yc11 rfl))⟩)
set_option maxRecDepth 65536 in
set_option maxHeartbeats 40000000 in
theorem rm5_3_3 (l : Launch) (Z : State) (a0 : Array Value) (hw : ∀ d ∈ tables_1, d.before a0 Z = true) (ws : List Jvm.Cond) (n0 : Nat) (ta ca : Addr) (t0 : UInt64) (t1 : UInt64) (t2 : UInt64) (t3 : UInt64) (t4 : UInt64) (t5 : UInt64) (t6 : UInt64) (t7 : UInt64) (t8 : UInt64) (t9 : UInt64) (t10 : UInt64) (t11 : UInt64) (t12 : UInt64) (t13 : UInt64) (t14 : UInt64) (t15 : UInt64) (mt0 : Int) (mt1 : Int) (mt2 : Int) (mt5 : Int) (mt6 : Int) (mt10 : Int) (e0 : Int) (e5 : Int) (e10 : Int) (c0 : UInt64) (mc0 : Int) (c1 : UInt64) (mc1 : Int) (c2 : UInt64) (mc2 : Int) (c3 : UInt64) (mc3 : Int) (c4 : UInt64) (mc4 : Int) (c5 : UInt64) (mc5 : Int) (c6 : UInt64) (mc6 : Int) (c7 : UInt64) (mc7 : Int) (c8 : UInt64) (mc8 : Int) (c9 : UInt64) (mc9 : Int) (c10 : UInt64) (mc10 : Int) (c11 : UInt64) (mc11 : Int) (h0 : Heap) (hn0 : n0 ≤ h0.size) (At : AD Z h0 ta [t0, t1, t2, t3, t4, t5, t6, t7, t8, t9, t10, t11, t12, t13, t14, t15]) (Ac : AD Z h0 ca [c0, c1, c2, c3, c4, c5, c6, c7, c8, c9, c10, c11]) (hne : ta ≠ ca) (hg : n0 ≤ ca) (yc0 : Dy mc0 1074 c0) (bc0 : mc0.natAbs ≤ 8) (yc1 : Dy mc1 1074 c1) (bc1 : mc1.natAbs ≤ 8) (yc2 : Dy mc2 1074 c2) (bc2 : mc2.natAbs ≤ 8) (yc3 : Dy mc3 1074 c3) (bc3 : mc3.natAbs ≤ 8) (yc4 : Dy mc4 1074 c4) (bc4 : mc4.natAbs ≤ 8) (yc5 : Dy mc5 1074 c5) (bc5 : mc5.natAbs ≤ 8) (yc6 : Dy mc6 1074 c6) (bc6 : mc6.natAbs ≤ 8) (yc7 : Dy mc7 1074 c7) (bc7 : mc7.natAbs ≤ 8) (yc8 : Dy mc8 1074 c8) (bc8 : mc8.natAbs ≤ 8) (yc9 : Dy mc9 1074 c9) (bc9 : mc9.natAbs ≤ 8) (yc10 : Dy mc10 1074 c10) (bc10 : mc10.natAbs ≤ 8) (yc11 : Dy mc11 1074 c11) (bc11 : mc11.natAbs ≤ 8) (yt0 : Dy mt0 1074 t0) (bt0 : mt0.natAbs ≤ 8) (yt1 : Dy mt1 1074 t1) (bt1 : mt1.natAbs ≤ 8) (yt2 : Dy mt2 1074 t2) (bt2 : mt2.natAbs ≤ 8) (yt5 : Dy mt5 1074 t5) (bt5 : mt5.natAbs ≤ 8) (yt6 : Dy mt6 1074 t6) (bt6 : mt6.natAbs ≤ 8) (yt10 : Dy mt10 1074 t10) (bt10 : mt10.natAbs ≤ 8) (he0 : mt0 * e0 = 8) (hz0 : mt0 ≠ 0) (be0 : e0.natAbs ≤ 8) (he5 : mt5 * e5 = 8) (hz5 : mt5 ≠ 0) (be5 : e5.natAbs ≤ 8) (he10 : mt10 * e10 = 8) (hz10 : mt10 ≠ 0) (be10 : e10.natAbs ≤ 8) :
    Con l Z n0 (⟨"com/example/orthogon/orthogon/Triangular", "solveUpperTransposed", "([DII[DI)V"⟩ : MethodName) prog_16_method_4_code 14 none ws ({ frames := 0, cells := 0, slots := 0, locals := 0 } : Room) #[(.ref ta), (.int (4 : Int32)), (.int (3 : Int32)), (.ref ca), (.int (3 : Int32))] h0 (fun v h => v = none ∧ Keep h0 h [ca] ∧ ∃ xs, AD Z h ca xs ∧ xs.length = 12 ∧ ChkAll [t0, t1, t2, t3, t4, t5, t6, t7, t8, t9, t10, t11, t12, t13, t14, t15] xs [c0, c1, c2, c3, c4, c5, c6, c7, c8, c9, c10, c11] (3 : Int32) (3 : Int32)) := by
  refine con_start (plainFor_of_name (by first | (simp [plainName, overriddenIn]; done) | decide +kernel)) (fr0 := fun m => mkF m 0 #[.val (.ref ta), .val (.int (4 : Int32)), .val (.int (3 : Int32)), .val (.ref ca), .val (.int (3 : Int32)), .unset, .unset, .unset, .unset, .unset, .unset, .unset, .unset, .unset] []) (fun m => by first | (simp [entryFrame, mkF, argsToLocals, Value.category]; done) | rfl) ?_
  intro p e s m below meth c T0 hx hZ hby hml hown hnm hret hlk X0
  replace hown : s.vm.findClass "com/example/orthogon/orthogon/Triangular" = some m.cls := hown
  replace hml : c.maxLocals = 14 := hml
  refine g_iconst X0 hx (pc' := 1) (z := (0 : Int32)) rfl (hb hby d5_0) rfl ?_
  refine g_istore X0 hx (pc' := 3) rfl (hb hby d5_1) (l' := #[.val (.ref ta), .val (.int (4 : Int32)), .val (.int (3 : Int32)), .val (.ref ca), .val (.int (3 : Int32)), .val (.int (0 : Int32)), .unset, .unset, .unset, .unset, .unset, .unset, .unset, .unset]) rfl ?_
  refine g_iload X0 hx (pc' := 5) rfl (hb hby d5_3) rfl ?_
  refine g_iloadN X0 hx (pc' := 6) rfl (hb hby d5_5) rfl ?_
  refine g_icmpN X0 hx (pcN := 9) (hb hby d5_6) rfl (show ¬ (¬ (0 : Int32) < (3 : Int32)) from by decide) ?_
  refine g_iload X0 hx (pc' := 11) rfl (hb hby d5_9) rfl ?_
  refine g_iload X0 hx (pc' := 13) rfl (hb hby d5_11) rfl ?_
  refine g_imul X0 hx (pc' := 14) rfl (hb hby d5_13) ?_
  refine g_normI (z := (0 : Int32)) (by decide) ?_
  refine g_istore X0 hx (pc' := 16) rfl (hb hby d5_14) (l' := #[.val (.ref ta), .val (.int (4 : Int32)), .val (.int (3 : Int32)), .val (.ref ca), .val (.int (3 : Int32)), .val (.int (0 : Int32)), .val (.int (0 : Int32)), .unset, .unset, .unset, .unset, .unset, .unset, .unset]) rfl ?_
  refine g_aloadN X0 hx (pc' := 17) rfl (hb hby d5_16) rfl rfl ?_
  refine g_iload X0 hx (pc' := 19) rfl (hb hby d5_17) rfl ?_
  refine g_iloadN X0 hx (pc' := 20) rfl (hb hby d5_19) rfl ?_
  refine g_imul X0 hx (pc' := 21) rfl (hb hby d5_20) ?_
  refine g_normI (z := (0 : Int32)) (by decide) ?_
  refine g_iload X0 hx (pc' := 23) rfl (hb hby d5_21) rfl ?_
  refine g_iadd X0 hx (pc' := 24) rfl (hb hby d5_23) ?_
  refine g_normI (z := (0 : Int32)) (by decide) ?_
  refine g_daload X0 hx hZ At (i := 0) (by decide) (show (0 : Nat) < 16 by decide) (v := t0) rfl (pc' := 25) rfl (hb hby d5_24) ?_
  refine g_dstore X0 hx (pc' := 27) rfl (hb hby d5_25) (l' := #[.val (.ref ta), .val (.int (4 : Int32)), .val (.int (3 : Int32)), .val (.ref ca), .val (.int (3 : Int32)), .val (.int (0 : Int32)), .val (.int (0 : Int32)), .val (.double t0), .second, .unset, .unset, .unset, .unset, .unset]) rfl ?_
  refine g_iconst X0 hx (pc' := 28) (z := (0 : Int32)) rfl (hb hby d5_27) rfl ?_
  refine g_istore X0 hx (pc' := 30) rfl (hb hby d5_28) (l' := #[.val (.ref ta), .val (.int (4 : Int32)), .val (.int (3 : Int32)), .val (.ref ca), .val (.int (3 : Int32)), .val (.int (0 : Int32)), .val (.int (0 : Int32)), .val (.double t0), .second, .val (.int (0 : Int32)), .unset, .unset, .unset, .unset]) rfl ?_
  refine g_iload X0 hx (pc' := 32) rfl (hb hby d5_30) rfl ?_
  refine g_iload X0 hx (pc' := 34) rfl (hb hby d5_32) rfl ?_
  refine g_icmpN X0 hx (pcN := 37) (hb hby d5_34) rfl (show ¬ (¬ (0 : Int32) < (3 : Int32)) from by decide) ?_
  refine g_aloadN X0 hx (pc' := 38) rfl (hb hby d5_37) rfl rfl ?_
  refine g_iload X0 hx (pc' := 40) rfl (hb hby d5_38) rfl ?_
  refine g_iload X0 hx (pc' := 42) rfl (hb hby d5_40) rfl ?_
  refine g_iadd X0 hx (pc' := 43) rfl (hb hby d5_42) ?_
  refine g_normI (z := (0 : Int32)) (by decide) ?_
  refine g_dup2 X0 hx (pc' := 44) rfl (hb hby d5_43) rfl rfl ?_
  refine g_daload X0 hx hZ Ac (i := 0) (by decide) (show (0 : Nat) < 12 by decide) (v := c0) rfl (pc' := 45) rfl (hb hby d5_44) ?_
  refine g_dload X0 hx (pc' := 47) rfl (hb hby d5_45) rfl ?_
  have q357 : Dy (mc0 * e0) 1071 (FP.ddiv c0 t0) := dy_div (dy_shift 3 (j := 1071) yc0) yt0 hz0 (own_divq he0) rfl (own_mb bc0 be0 (by decide)) (by decide)
  refine g_ddiv X0 hx (pc' := 48) (z := (FP.ddiv c0 t0)) rfl (hb hby d5_47) (dy_noNaN q357) rfl ?_
  refine g_absD (fun d357 hd357 => ?_)
  rw [← hd357] at q357
  obtain ⟨n357, en357⟩ : ∃ z : Int, z = mc0 * e0 := ⟨_, rfl⟩
  rw [← en357] at q357
  have b357 : n357.natAbs ≤ 64 := by rw [en357, Int.natAbs_mul]; exact Nat.le_trans (Nat.mul_le_mul bc0 be0) (by decide)
  refine g_dastore X0 hx hZ Ac (i := 0) (by decide) (show (0 : Nat) < 12 by decide) hg (pc' := 49) rfl (hb hby d5_48) (fun T358 h358 X358 W358 N358 => ?_)
  have f359 := At.other W358 hne
  have f360 := (by have q := (Keep.of_wr W358).1; exact Nat.le_trans hn0 q : n0 ≤ h358.size)
  have f361 := (Keep.refl h0 [ca]).wr W358 (Or.inl (List.mem_of_getElem? (i := 0) rfl))
  have V358 : AD Z h358 ca [d357, c1, c2, c3, c4, c5, c6, c7, c8, c9, c10, c11] := N358
  refine g_iincC X358 hx (pc' := 52) (x := (0 : Int32)) (z := (1 : Int32)) rfl (hb hby d5_49) rfl (by decide) (l' := #[.val (.ref ta), .val (.int (4 : Int32)), .val (.int (3 : Int32)), .val (.ref ca), .val (.int (3 : Int32)), .val (.int (0 : Int32)), .val (.int (0 : Int32)), .val (.double t0), .second, .val (.int (1 : Int32)), .unset, .unset, .unset, .unset]) rfl ?_
  refine g_goto X358 hx (pc' := 30) (hb hby d5_52) (by decide) (by decide) ?_
  refine g_iload X358 hx (pc' := 32) rfl (hb hby d5_30) rfl ?_
  refine g_iload X358 hx (pc' := 34) rfl (hb hby d5_32) rfl ?_
  refine g_icmpN X358 hx (pcN := 37) (hb hby d5_34) rfl (show ¬ (¬ (1 : Int32) < (3 : Int32)) from by decide) ?_
  refine g_aloadN X358 hx (pc' := 38) rfl (hb hby d5_37) rfl rfl ?_
  refine g_iload X358 hx (pc' := 40) rfl (hb hby d5_38) rfl ?_
  refine g_iload X358 hx (pc' := 42) rfl (hb hby d5_40) rfl ?_
  refine g_iadd X358 hx (pc' := 43) rfl (hb hby d5_42) ?_
  refine g_normI (z := (1 : Int32)) (by decide) ?_
  refine g_dup2 X358 hx (pc' := 44) rfl (hb hby d5_43) rfl rfl ?_
  refine g_daload X358 hx hZ V358 (i := 1) (by decide) (show (1 : Nat) < 12 by decide) (v := c1) rfl (pc' := 45) rfl (hb hby d5_44) ?_
  refine g_dload X358 hx (pc' := 47) rfl (hb hby d5_45) rfl ?_
  have q362 : Dy (mc1 * e0) 1071 (FP.ddiv c1 t0) := dy_div (dy_shift 3 (j := 1071) yc1) yt0 hz0 (own_divq he0) rfl (own_mb bc1 be0 (by decide)) (by decide)
  refine g_ddiv X358 hx (pc' := 48) (z := (FP.ddiv c1 t0)) rfl (hb hby d5_47) (dy_noNaN q362) rfl ?_
  refine g_absD (fun d362 hd362 => ?_)
  rw [← hd362] at q362
  obtain ⟨n362, en362⟩ : ∃ z : Int, z = mc1 * e0 := ⟨_, rfl⟩
  rw [← en362] at q362
  have b362 : n362.natAbs ≤ 64 := by rw [en362, Int.natAbs_mul]; exact Nat.le_trans (Nat.mul_le_mul bc1 be0) (by decide)
  refine g_dastore X358 hx hZ V358 (i := 1) (by decide) (show (1 : Nat) < 12 by decide) hg (pc' := 49) rfl (hb hby d5_48) (fun T363 h363 X363 W363 N363 => ?_)
  have f364 := f359.other W363 hne
  have f365 := (by have q := (Keep.of_wr W363).1; exact Nat.le_trans f360 q : n0 ≤ h363.size)
  have f366 := f361.wr W363 (Or.inl (List.mem_of_getElem? (i := 0) rfl))
  have V363 : AD Z h363 ca [d357, d362, c2, c3, c4, c5, c6, c7, c8, c9, c10, c11] := N363
  refine g_iincC X363 hx (pc' := 52) (x := (1 : Int32)) (z := (2 : Int32)) rfl (hb hby d5_49) rfl (by decide) (l' := #[.val (.ref ta), .val (.int (4 : Int32)), .val (.int (3 : Int32)), .val (.ref ca), .val (.int (3 : Int32)), .val (.int (0 : Int32)), .val (.int (0 : Int32)), .val (.double t0), .second, .val (.int (2 : Int32)), .unset, .unset, .unset, .unset]) rfl ?_
  refine g_goto X363 hx (pc' := 30) (hb hby d5_52) (by decide) (by decide) ?_
  refine g_iload X363 hx (pc' := 32) rfl (hb hby d5_30) rfl ?_
  refine g_iload X363 hx (pc' := 34) rfl (hb hby d5_32) rfl ?_
  refine g_icmpN X363 hx (pcN := 37) (hb hby d5_34) rfl (show ¬ (¬ (2 : Int32) < (3 : Int32)) from by decide) ?_
  refine g_aloadN X363 hx (pc' := 38) rfl (hb hby d5_37) rfl rfl ?_
  refine g_iload X363 hx (pc' := 40) rfl (hb hby d5_38) rfl ?_
  refine g_iload X363 hx (pc' := 42) rfl (hb hby d5_40) rfl ?_
  refine g_iadd X363 hx (pc' := 43) rfl (hb hby d5_42) ?_
  refine g_normI (z := (2 : Int32)) (by decide) ?_
  refine g_dup2 X363 hx (pc' := 44) rfl (hb hby d5_43) rfl rfl ?_
  refine g_daload X363 hx hZ V363 (i := 2) (by decide) (show (2 : Nat) < 12 by decide) (v := c2) rfl (pc' := 45) rfl (hb hby d5_44) ?_
  refine g_dload X363 hx (pc' := 47) rfl (hb hby d5_45) rfl ?_
  have q367 : Dy (mc2 * e0) 1071 (FP.ddiv c2 t0) := dy_div (dy_shift 3 (j := 1071) yc2) yt0 hz0 (own_divq he0) rfl (own_mb bc2 be0 (by decide)) (by decide)
  refine g_ddiv X363 hx (pc' := 48) (z := (FP.ddiv c2 t0)) rfl (hb hby d5_47) (dy_noNaN q367) rfl ?_
  refine g_absD (fun d367 hd367 => ?_)
  rw [← hd367] at q367
  obtain ⟨n367, en367⟩ : ∃ z : Int, z = mc2 * e0 := ⟨_, rfl⟩
  rw [← en367] at q367
  have b367 : n367.natAbs ≤ 64 := by rw [en367, Int.natAbs_mul]; exact Nat.le_trans (Nat.mul_le_mul bc2 be0) (by decide)
  refine g_dastore X363 hx hZ V363 (i := 2) (by decide) (show (2 : Nat) < 12 by decide) hg (pc' := 49) rfl (hb hby d5_48) (fun T368 h368 X368 W368 N368 => ?_)
  have f369 := f364.other W368 hne
  have f370 := (by have q := (Keep.of_wr W368).1; exact Nat.le_trans f365 q : n0 ≤ h368.size)
  have f371 := f366.wr W368 (Or.inl (List.mem_of_getElem? (i := 0) rfl))
  have V368 : AD Z h368 ca [d357, d362, d367, c3, c4, c5, c6, c7, c8, c9, c10, c11] := N368
  refine g_iincC X368 hx (pc' := 52) (x := (2 : Int32)) (z := (3 : Int32)) rfl (hb hby d5_49) rfl (by decide) (l' := #[.val (.ref ta), .val (.int (4 : Int32)), .val (.int (3 : Int32)), .val (.ref ca), .val (.int (3 : Int32)), .val (.int (0 : Int32)), .val (.int (0 : Int32)), .val (.double t0), .second, .val (.int (3 : Int32)), .unset, .unset, .unset, .unset]) rfl ?_
  refine g_goto X368 hx (pc' := 30) (hb hby d5_52) (by decide) (by decide) ?_
  refine g_iload X368 hx (pc' := 32) rfl (hb hby d5_30) rfl ?_
  refine g_iload X368 hx (pc' := 34) rfl (hb hby d5_32) rfl ?_
  refine g_icmpY X368 hx (pcY := 55) (hb hby d5_34) (by decide) (by decide) (show ¬ (3 : Int32) < (3 : Int32) from by decide) ?_
  refine g_iload X368 hx (pc' := 57) rfl (hb hby d5_55) rfl ?_
  refine g_iconst X368 hx (pc' := 58) (z := (1 : Int32)) rfl (hb hby d5_57) rfl ?_
  refine g_iadd X368 hx (pc' := 59) rfl (hb hby d5_58) ?_
  refine g_normI (z := (1 : Int32)) (by decide) ?_
  refine g_istore X368 hx (pc' := 61) rfl (hb hby d5_59) (l' := #[.val (.ref ta), .val (.int (4 : Int32)), .val (.int (3 : Int32)), .val (.ref ca), .val (.int (3 : Int32)), .val (.int (0 : Int32)), .val (.int (0 : Int32)), .val (.double t0), .second, .val (.int (1 : Int32)), .unset, .unset, .unset, .unset]) rfl ?_
  refine g_iload X368 hx (pc' := 63) rfl (hb hby d5_61) rfl ?_
  refine g_iloadN X368 hx (pc' := 64) rfl (hb hby d5_63) rfl ?_
  refine g_icmpN X368 hx (pcN := 67) (hb hby d5_64) rfl (show ¬ (¬ (1 : Int32) < (3 : Int32)) from by decide) ?_
  refine g_aloadN X368 hx (pc' := 68) rfl (hb hby d5_67) rfl rfl ?_
  refine g_iload X368 hx (pc' := 70) rfl (hb hby d5_68) rfl ?_
  refine g_iloadN X368 hx (pc' := 71) rfl (hb hby d5_70) rfl ?_
  refine g_imul X368 hx (pc' := 72) rfl (hb hby d5_71) ?_
  refine g_normI (z := (0 : Int32)) (by decide) ?_
  refine g_iload X368 hx (pc' := 74) rfl (hb hby d5_72) rfl ?_
  refine g_iadd X368 hx (pc' := 75) rfl (hb hby d5_74) ?_
  refine g_normI (z := (1 : Int32)) (by decide) ?_
  refine g_daload X368 hx hZ f369 (i := 1) (by decide) (show (1 : Nat) < 16 by decide) (v := t1) rfl (pc' := 76) rfl (hb hby d5_75) ?_
  refine g_dstore X368 hx (pc' := 78) rfl (hb hby d5_76) (l' := #[.val (.ref ta), .val (.int (4 : Int32)), .val (.int (3 : Int32)), .val (.ref ca), .val (.int (3 : Int32)), .val (.int (0 : Int32)), .val (.int (0 : Int32)), .val (.double t0), .second, .val (.int (1 : Int32)), .val (.double t1), .second, .unset, .unset]) rfl ?_
  refine g_iload X368 hx (pc' := 80) rfl (hb hby d5_78) rfl ?_
  refine g_iload X368 hx (pc' := 82) rfl (hb hby d5_80) rfl ?_
  refine g_imul X368 hx (pc' := 83) rfl (hb hby d5_82) ?_
  refine g_normI (z := (3 : Int32)) (by decide) ?_
  refine g_istore X368 hx (pc' := 85) rfl (hb hby d5_83) (l' := #[.val (.ref ta), .val (.int (4 : Int32)), .val (.int (3 : Int32)), .val (.ref ca), .val (.int (3 : Int32)), .val (.int (0 : Int32)), .val (.int (0 : Int32)), .val (.double t0), .second, .val (.int (1 : Int32)), .val (.double t1), .second, .val (.int (3 : Int32)), .unset]) rfl ?_
  refine g_iconst X368 hx (pc' := 86) (z := (0 : Int32)) rfl (hb hby d5_85) rfl ?_
  refine g_istore X368 hx (pc' := 88) rfl (hb hby d5_86) (l' := #[.val (.ref ta), .val (.int (4 : Int32)), .val (.int (3 : Int32)), .val (.ref ca), .val (.int (3 : Int32)), .val (.int (0 : Int32)), .val (.int (0 : Int32)), .val (.double t0), .second, .val (.int (1 : Int32)), .val (.double t1), .second, .val (.int (3 : Int32)), .val (.int (0 : Int32))]) rfl ?_
  refine g_iload X368 hx (pc' := 90) rfl (hb hby d5_88) rfl ?_
  refine g_iload X368 hx (pc' := 92) rfl (hb hby d5_90) rfl ?_
  refine g_icmpN X368 hx (pcN := 95) (hb hby d5_92) rfl (show ¬ (¬ (0 : Int32) < (3 : Int32)) from by decide) ?_
  refine g_aloadN X368 hx (pc' := 96) rfl (hb hby d5_95) rfl rfl ?_
  refine g_iload X368 hx (pc' := 98) rfl (hb hby d5_96) rfl ?_
  refine g_iload X368 hx (pc' := 100) rfl (hb hby d5_98) rfl ?_
  refine g_iadd X368 hx (pc' := 101) rfl (hb hby d5_100) ?_
  refine g_normI (z := (3 : Int32)) (by decide) ?_
  refine g_dup2 X368 hx (pc' := 102) rfl (hb hby d5_101) rfl rfl ?_
  refine g_daload X368 hx hZ V368 (i := 3) (by decide) (show (3 : Nat) < 12 by decide) (v := c3) rfl (pc' := 103) rfl (hb hby d5_102) ?_
  refine g_dload X368 hx (pc' := 105) rfl (hb hby d5_103) rfl ?_
  refine g_aloadN X368 hx (pc' := 106) rfl (hb hby d5_105) rfl rfl ?_
  refine g_iload X368 hx (pc' := 108) rfl (hb hby d5_106) rfl ?_
  refine g_iload X368 hx (pc' := 110) rfl (hb hby d5_108) rfl ?_
  refine g_iadd X368 hx (pc' := 111) rfl (hb hby d5_110) ?_
  refine g_normI (z := (0 : Int32)) (by decide) ?_
  refine g_daload X368 hx hZ V368 (i := 0) (by decide) (show (0 : Nat) < 12 by decide) (v := d357) rfl (pc' := 112) rfl (hb hby d5_111) ?_
  have q372 : Dy (mt1 * n357) 1071 (FP.dmul t1 d357) := dy_mul yt1 q357 (by decide) (own_mb bt1 b357 (by decide)) (by decide)
  refine g_dmul X368 hx (pc' := 113) (z := (FP.dmul t1 d357)) rfl (hb hby d5_112) (dy_noNaN q372) rfl ?_
  refine g_absD (fun d372 hd372 => ?_)
  rw [← hd372] at q372
  obtain ⟨n372, en372⟩ : ∃ z : Int, z = mt1 * n357 := ⟨_, rfl⟩
  rw [← en372] at q372
  have b372 : n372.natAbs ≤ 512 := by rw [en372, Int.natAbs_mul]; exact Nat.le_trans (Nat.mul_le_mul bt1 b357) (by decide)
  obtain ⟨n373, en373⟩ : ∃ z : Int, z = mc3 * 8 := ⟨_, rfl⟩
  have q373 : Dy n373 1071 c3 := by rw [en373]; exact dy_shift 3 (j := 1071) yc3
  have b373 : n373.natAbs ≤ 64 := by rw [en373]; exact own_shl bc3 (by decide)
  have q374 : Dy (n373 - n372) 1071 (FP.dsub c3 d372) := dy_sub q373 q372 (own_subb b373 b372 (by decide)) (by decide)
  refine g_dsub X368 hx (pc' := 114) (z := (FP.dsub c3 d372)) rfl (hb hby d5_113) (dy_noNaN q374) rfl ?_
  refine g_absD (fun d374 hd374 => ?_)
  rw [← hd374] at q374
  obtain ⟨n374, en374⟩ : ∃ z : Int, z = n373 - n372 := ⟨_, rfl⟩
  rw [← en374] at q374
  have b374 : n374.natAbs ≤ 576 := by rw [en374]; exact Nat.le_trans (own_subl b373 b372) (by decide)
  refine g_dastore X368 hx hZ V368 (i := 3) (by decide) (show (3 : Nat) < 12 by decide) hg (pc' := 115) rfl (hb hby d5_114) (fun T375 h375 X375 W375 N375 => ?_)
  have f376 := f369.other W375 hne
  have f377 := (by have q := (Keep.of_wr W375).1; exact Nat.le_trans f370 q : n0 ≤ h375.size)
  have f378 := f371.wr W375 (Or.inl (List.mem_of_getElem? (i := 0) rfl))
  have V375 : AD Z h375 ca [d357, d362, d367, d374, c4, c5, c6, c7, c8, c9, c10, c11] := N375
  refine g_iincC X375 hx (pc' := 118) (x := (0 : Int32)) (z := (1 : Int32)) rfl (hb hby d5_115) rfl (by decide) (l' := #[.val (.ref ta), .val (.int (4 : Int32)), .val (.int (3 : Int32)), .val (.ref ca), .val (.int (3 : Int32)), .val (.int (0 : Int32)), .val (.int (0 : Int32)), .val (.double t0), .second, .val (.int (1 : Int32)), .val (.double t1), .second, .val (.int (3 : Int32)), .val (.int (1 : Int32))]) rfl ?_
  refine g_goto X375 hx (pc' := 88) (hb hby d5_118) (by decide) (by decide) ?_
  refine g_iload X375 hx (pc' := 90) rfl (hb hby d5_88) rfl ?_
  refine g_iload X375 hx (pc' := 92) rfl (hb hby d5_90) rfl ?_
  refine g_icmpN X375 hx (pcN := 95) (hb hby d5_92) rfl (show ¬ (¬ (1 : Int32) < (3 : Int32)) from by decide) ?_
  refine g_aloadN X375 hx (pc' := 96) rfl (hb hby d5_95) rfl rfl ?_
  refine g_iload X375 hx (pc' := 98) rfl (hb hby d5_96) rfl ?_
  refine g_iload X375 hx (pc' := 100) rfl (hb hby d5_98) rfl ?_
  refine g_iadd X375 hx (pc' := 101) rfl (hb hby d5_100) ?_
  refine g_normI (z := (4 : Int32)) (by decide) ?_
  refine g_dup2 X375 hx (pc' := 102) rfl (hb hby d5_101) rfl rfl ?_
  refine g_daload X375 hx hZ V375 (i := 4) (by decide) (show (4 : Nat) < 12 by decide) (v := c4) rfl (pc' := 103) rfl (hb hby d5_102) ?_
  refine g_dload X375 hx (pc' := 105) rfl (hb hby d5_103) rfl ?_
  refine g_aloadN X375 hx (pc' := 106) rfl (hb hby d5_105) rfl rfl ?_
  refine g_iload X375 hx (pc' := 108) rfl (hb hby d5_106) rfl ?_
  refine g_iload X375 hx (pc' := 110) rfl (hb hby d5_108) rfl ?_
  refine g_iadd X375 hx (pc' := 111) rfl (hb hby d5_110) ?_
  refine g_normI (z := (1 : Int32)) (by decide) ?_
  refine g_daload X375 hx hZ V375 (i := 1) (by decide) (show (1 : Nat) < 12 by decide) (v := d362) rfl (pc' := 112) rfl (hb hby d5_111) ?_
  have q379 : Dy (mt1 * n362) 1071 (FP.dmul t1 d362) := dy_mul yt1 q362 (by decide) (own_mb bt1 b362 (by decide)) (by decide)
  refine g_dmul X375 hx (pc' := 113) (z := (FP.dmul t1 d362)) rfl (hb hby d5_112) (dy_noNaN q379) rfl ?_
  refine g_absD (fun d379 hd379 => ?_)
  rw [← hd379] at q379
  obtain ⟨n379, en379⟩ : ∃ z : Int, z = mt1 * n362 := ⟨_, rfl⟩
  rw [← en379] at q379
  have b379 : n379.natAbs ≤ 512 := by rw [en379, Int.natAbs_mul]; exact Nat.le_trans (Nat.mul_le_mul bt1 b362) (by decide)
  obtain ⟨n380, en380⟩ : ∃ z : Int, z = mc4 * 8 := ⟨_, rfl⟩
  have q380 : Dy n380 1071 c4 := by rw [en380]; exact dy_shift 3 (j := 1071) yc4
  have b380 : n380.natAbs ≤ 64 := by rw [en380]; exact own_shl bc4 (by decide)
  have q381 : Dy (n380 - n379) 1071 (FP.dsub c4 d379) := dy_sub q380 q379 (own_subb b380 b379 (by decide)) (by decide)
  refine g_dsub X375 hx (pc' := 114) (z := (FP.dsub c4 d379)) rfl (hb hby d5_113) (dy_noNaN q381) rfl ?_
  refine g_absD (fun d381 hd381 => ?_)
  rw [← hd381] at q381
  obtain ⟨n381, en381⟩ : ∃ z : Int, z = n380 - n379 := ⟨_, rfl⟩
  rw [← en381] at q381
  have b381 : n381.natAbs ≤ 576 := by rw [en381]; exact Nat.le_trans (own_subl b380 b379) (by decide)
  refine g_dastore X375 hx hZ V375 (i := 4) (by decide) (show (4 : Nat) < 12 by decide) hg (pc' := 115) rfl (hb hby d5_114) (fun T382 h382 X382 W382 N382 => ?_)
  have f383 := f376.other W382 hne
  have f384 := (by have q := (Keep.of_wr W382).1; exact Nat.le_trans f377 q : n0 ≤ h382.size)
  have f385 := f378.wr W382 (Or.inl (List.mem_of_getElem? (i := 0) rfl))
  have V382 : AD Z h382 ca [d357, d362, d367, d374, d381, c5, c6, c7, c8, c9, c10, c11] := N382
  refine g_iincC X382 hx (pc' := 118) (x := (1 : Int32)) (z := (2 : Int32)) rfl (hb hby d5_115) rfl (by decide) (l' := #[.val (.ref ta), .val (.int (4 : Int32)), .val (.int (3 : Int32)), .val (.ref ca), .val (.int (3 : Int32)), .val (.int (0 : Int32)), .val (.int (0 : Int32)), .val (.double t0), .second, .val (.int (1 : Int32)), .val (.double t1), .second, .val (.int (3 : Int32)), .val (.int (2 : Int32))]) rfl ?_
  refine g_goto X382 hx (pc' := 88) (hb hby d5_118) (by decide) (by decide) ?_
  refine g_iload X382 hx (pc' := 90) rfl (hb hby d5_88) rfl ?_
  refine g_iload X382 hx (pc' := 92) rfl (hb hby d5_90) rfl ?_
  refine g_icmpN X382 hx (pcN := 95) (hb hby d5_92) rfl (show ¬ (¬ (2 : Int32) < (3 : Int32)) from by decide) ?_
  refine g_aloadN X382 hx (pc' := 96) rfl (hb hby d5_95) rfl rfl ?_
  refine g_iload X382 hx (pc' := 98) rfl (hb hby d5_96) rfl ?_
  refine g_iload X382 hx (pc' := 100) rfl (hb hby d5_98) rfl ?_
  refine g_iadd X382 hx (pc' := 101) rfl (hb hby d5_100) ?_
  refine g_normI (z := (5 : Int32)) (by decide) ?_
  refine g_dup2 X382 hx (pc' := 102) rfl (hb hby d5_101) rfl rfl ?_
  refine g_daload X382 hx hZ V382 (i := 5) (by decide) (show (5 : Nat) < 12 by decide) (v := c5) rfl (pc' := 103) rfl (hb hby d5_102) ?_
  refine g_dload X382 hx (pc' := 105) rfl (hb hby d5_103) rfl ?_
  refine g_aloadN X382 hx (pc' := 106) rfl (hb hby d5_105) rfl rfl ?_
  refine g_iload X382 hx (pc' := 108) rfl (hb hby d5_106) rfl ?_
  refine g_iload X382 hx (pc' := 110) rfl (hb hby d5_108) rfl ?_
  refine g_iadd X382 hx (pc' := 111) rfl (hb hby d5_110) ?_
  refine g_normI (z := (2 : Int32)) (by decide) ?_
  refine g_daload X382 hx hZ V382 (i := 2) (by decide) (show (2 : Nat) < 12 by decide) (v := d367) rfl (pc' := 112) rfl (hb hby d5_111) ?_
  have q386 : Dy (mt1 * n367) 1071 (FP.dmul t1 d367) := dy_mul yt1 q367 (by decide) (own_mb bt1 b367 (by decide)) (by decide)
  refine g_dmul X382 hx (pc' := 113) (z := (FP.dmul t1 d367)) rfl (hb hby d5_112) (dy_noNaN q386) rfl ?_
  refine g_absD (fun d386 hd386 => ?_)
  rw [← hd386] at q386
  obtain ⟨n386, en386⟩ : ∃ z : Int, z = mt1 * n367 := ⟨_, rfl⟩
  rw [← en386] at q386
  have b386 : n386.natAbs ≤ 512 := by rw [en386, Int.natAbs_mul]; exact Nat.le_trans (Nat.mul_le_mul bt1 b367) (by decide)
  obtain ⟨n387, en387⟩ : ∃ z : Int, z = mc5 * 8 := ⟨_, rfl⟩
  have q387 : Dy n387 1071 c5 := by rw [en387]; exact dy_shift 3 (j := 1071) yc5
  have b387 : n387.natAbs ≤ 64 := by rw [en387]; exact own_shl bc5 (by decide)
  have q388 : Dy (n387 - n386) 1071 (FP.dsub c5 d386) := dy_sub q387 q386 (own_subb b387 b386 (by decide)) (by decide)
  refine g_dsub X382 hx (pc' := 114) (z := (FP.dsub c5 d386)) rfl (hb hby d5_113) (dy_noNaN q388) rfl ?_
  refine g_absD (fun d388 hd388 => ?_)
  rw [← hd388] at q388
  obtain ⟨n388, en388⟩ : ∃ z : Int, z = n387 - n386 := ⟨_, rfl⟩
  rw [← en388] at q388
  have b388 : n388.natAbs ≤ 576 := by rw [en388]; exact Nat.le_trans (own_subl b387 b386) (by decide)
  refine g_dastore X382 hx hZ V382 (i := 5) (by decide) (show (5 : Nat) < 12 by decide) hg (pc' := 115) rfl (hb hby d5_114) (fun T389 h389 X389 W389 N389 => ?_)
  have f390 := f383.other W389 hne
  have f391 := (by have q := (Keep.of_wr W389).1; exact Nat.le_trans f384 q : n0 ≤ h389.size)
  have f392 := f385.wr W389 (Or.inl (List.mem_of_getElem? (i := 0) rfl))
  have V389 : AD Z h389 ca [d357, d362, d367, d374, d381, d388, c6, c7, c8, c9, c10, c11] := N389
  refine g_iincC X389 hx (pc' := 118) (x := (2 : Int32)) (z := (3 : Int32)) rfl (hb hby d5_115) rfl (by decide) (l' := #[.val (.ref ta), .val (.int (4 : Int32)), .val (.int (3 : Int32)), .val (.ref ca), .val (.int (3 : Int32)), .val (.int (0 : Int32)), .val (.int (0 : Int32)), .val (.double t0), .second, .val (.int (1 : Int32)), .val (.double t1), .second, .val (.int (3 : Int32)), .val (.int (3 : Int32))]) rfl ?_
  refine g_goto X389 hx (pc' := 88) (hb hby d5_118) (by decide) (by decide) ?_
  refine g_iload X389 hx (pc' := 90) rfl (hb hby d5_88) rfl ?_
  refine g_iload X389 hx (pc' := 92) rfl (hb hby d5_90) rfl ?_
  refine g_icmpY X389 hx (pcY := 121) (hb hby d5_92) (by decide) (by decide) (show ¬ (3 : Int32) < (3 : Int32) from by decide) ?_
  refine g_iincC X389 hx (pc' := 124) (x := (1 : Int32)) (z := (2 : Int32)) rfl (hb hby d5_121) rfl (by decide) (l' := #[.val (.ref ta), .val (.int (4 : Int32)), .val (.int (3 : Int32)), .val (.ref ca), .val (.int (3 : Int32)), .val (.int (0 : Int32)), .val (.int (0 : Int32)), .val (.double t0), .second, .val (.int (2 : Int32)), .val (.double t1), .second, .val (.int (3 : Int32)), .val (.int (3 : Int32))]) rfl ?_
  refine g_goto X389 hx (pc' := 61) (hb hby d5_124) (by decide) (by decide) ?_
  refine g_iload X389 hx (pc' := 63) rfl (hb hby d5_61) rfl ?_
  refine g_iloadN X389 hx (pc' := 64) rfl (hb hby d5_63) rfl ?_
  refine g_icmpN X389 hx (pcN := 67) (hb hby d5_64) rfl (show ¬ (¬ (2 : Int32) < (3 : Int32)) from by decide) ?_
  refine g_aloadN X389 hx (pc' := 68) rfl (hb hby d5_67) rfl rfl ?_
  refine g_iload X389 hx (pc' := 70) rfl (hb hby d5_68) rfl ?_
  refine g_iloadN X389 hx (pc' := 71) rfl (hb hby d5_70) rfl ?_
  refine g_imul X389 hx (pc' := 72) rfl (hb hby d5_71) ?_
  refine g_normI (z := (0 : Int32)) (by decide) ?_
  refine g_iload X389 hx (pc' := 74) rfl (hb hby d5_72) rfl ?_
  refine g_iadd X389 hx (pc' := 75) rfl (hb hby d5_74) ?_
  refine g_normI (z := (2 : Int32)) (by decide) ?_
  refine g_daload X389 hx hZ f390 (i := 2) (by decide) (show (2 : Nat) < 16 by decide) (v := t2) rfl (pc' := 76) rfl (hb hby d5_75) ?_
  refine g_dstore X389 hx (pc' := 78) rfl (hb hby d5_76) (l' := #[.val (.ref ta), .val (.int (4 : Int32)), .val (.int (3 : Int32)), .val (.ref ca), .val (.int (3 : Int32)), .val (.int (0 : Int32)), .val (.int (0 : Int32)), .val (.double t0), .second, .val (.int (2 : Int32)), .val (.double t2), .second, .val (.int (3 : Int32)), .val (.int (3 : Int32))]) rfl ?_
  refine g_iload X389 hx (pc' := 80) rfl (hb hby d5_78) rfl ?_
  refine g_iload X389 hx (pc' := 82) rfl (hb hby d5_80) rfl ?_
  refine g_imul X389 hx (pc' := 83) rfl (hb hby d5_82) ?_
  refine g_normI (z := (6 : Int32)) (by decide) ?_
  refine g_istore X389 hx (pc' := 85) rfl (hb hby d5_83) (l' := #[.val (.ref ta), .val (.int (4 : Int32)), .val (.int (3 : Int32)), .val (.ref ca), .val (.int (3 : Int32)), .val (.int (0 : Int32)), .val (.int (0 : Int32)), .val (.double t0), .second, .val (.int (2 : Int32)), .val (.double t2), .second, .val (.int (6 : Int32)), .val (.int (3 : Int32))]) rfl ?_
  refine g_iconst X389 hx (pc' := 86) (z := (0 : Int32)) rfl (hb hby d5_85) rfl ?_
  refine g_istore X389 hx (pc' := 88) rfl (hb hby d5_86) (l' := #[.val (.ref ta), .val (.int (4 : Int32)), .val (.int (3 : Int32)), .val (.ref ca), .val (.int (3 : Int32)), .val (.int (0 : Int32)), .val (.int (0 : Int32)), .val (.double t0), .second, .val (.int (2 : Int32)), .val (.double t2), .second, .val (.int (6 : Int32)), .val (.int (0 : Int32))]) rfl ?_
  refine g_iload X389 hx (pc' := 90) rfl (hb hby d5_88) rfl ?_
  refine g_iload X389 hx (pc' := 92) rfl (hb hby d5_90) rfl ?_
  refine g_icmpN X389 hx (pcN := 95) (hb hby d5_92) rfl (show ¬ (¬ (0 : Int32) < (3 : Int32)) from by decide) ?_
  refine g_aloadN X389 hx (pc' := 96) rfl (hb hby d5_95) rfl rfl ?_
  refine g_iload X389 hx (pc' := 98) rfl (hb hby d5_96) rfl ?_
  refine g_iload X389 hx (pc' := 100) rfl (hb hby d5_98) rfl ?_
  refine g_iadd X389 hx (pc' := 101) rfl (hb hby d5_100) ?_
  refine g_normI (z := (6 : Int32)) (by decide) ?_
  refine g_dup2 X389 hx (pc' := 102) rfl (hb hby d5_101) rfl rfl ?_
  refine g_daload X389 hx hZ V389 (i := 6) (by decide) (show (6 : Nat) < 12 by decide) (v := c6) rfl (pc' := 103) rfl (hb hby d5_102) ?_
  refine g_dload X389 hx (pc' := 105) rfl (hb hby d5_103) rfl ?_
  refine g_aloadN X389 hx (pc' := 106) rfl (hb hby d5_105) rfl rfl ?_
  refine g_iload X389 hx (pc' := 108) rfl (hb hby d5_106) rfl ?_
  refine g_iload X389 hx (pc' := 110) rfl (hb hby d5_108) rfl ?_
  refine g_iadd X389 hx (pc' := 111) rfl (hb hby d5_110) ?_
  refine g_normI (z := (0 : Int32)) (by decide) ?_
  refine g_daload X389 hx hZ V389 (i := 0) (by decide) (show (0 : Nat) < 12 by decide) (v := d357) rfl (pc' := 112) rfl (hb hby d5_111) ?_
  have q393 : Dy (mt2 * n357) 1071 (FP.dmul t2 d357) := dy_mul yt2 q357 (by decide) (own_mb bt2 b357 (by decide)) (by decide)
  refine g_dmul X389 hx (pc' := 113) (z := (FP.dmul t2 d357)) rfl (hb hby d5_112) (dy_noNaN q393) rfl ?_
  refine g_absD (fun d393 hd393 => ?_)
  rw [← hd393] at q393
  obtain ⟨n393, en393⟩ : ∃ z : Int, z = mt2 * n357 := ⟨_, rfl⟩
  rw [← en393] at q393
  have b393 : n393.natAbs ≤ 512 := by rw [en393, Int.natAbs_mul]; exact Nat.le_trans (Nat.mul_le_mul bt2 b357) (by decide)
  obtain ⟨n394, en394⟩ : ∃ z : Int, z = mc6 * 8 := ⟨_, rfl⟩
  have q394 : Dy n394 1071 c6 := by rw [en394]; exact dy_shift 3 (j := 1071) yc6
  have b394 : n394.natAbs ≤ 64 := by rw [en394]; exact own_shl bc6 (by decide)
  have q395 : Dy (n394 - n393) 1071 (FP.dsub c6 d393) := dy_sub q394 q393 (own_subb b394 b393 (by decide)) (by decide)
  refine g_dsub X389 hx (pc' := 114) (z := (FP.dsub c6 d393)) rfl (hb hby d5_113) (dy_noNaN q395) rfl ?_
  refine g_absD (fun d395 hd395 => ?_)
  rw [← hd395] at q395
  obtain ⟨n395, en395⟩ : ∃ z : Int, z = n394 - n393 := ⟨_, rfl⟩
  rw [← en395] at q395
  have b395 : n395.natAbs ≤ 576 := by rw [en395]; exact Nat.le_trans (own_subl b394 b393) (by decide)
  refine g_dastore X389 hx hZ V389 (i := 6) (by decide) (show (6 : Nat) < 12 by decide) hg (pc' := 115) rfl (hb hby d5_114) (fun T396 h396 X396 W396 N396 => ?_)
  have f397 := f390.other W396 hne
  have f398 := (by have q := (Keep.of_wr W396).1; exact Nat.le_trans f391 q : n0 ≤ h396.size)
  have f399 := f392.wr W396 (Or.inl (List.mem_of_getElem? (i := 0) rfl))
  have V396 : AD Z h396 ca [d357, d362, d367, d374, d381, d388, d395, c7, c8, c9, c10, c11] := N396
  refine g_iincC X396 hx (pc' := 118) (x := (0 : Int32)) (z := (1 : Int32)) rfl (hb hby d5_115) rfl (by decide) (l' := #[.val (.ref ta), .val (.int (4 : Int32)), .val (.int (3 : Int32)), .val (.ref ca), .val (.int (3 : Int32)), .val (.int (0 : Int32)), .val (.int (0 : Int32)), .val (.double t0), .second, .val (.int (2 : Int32)), .val (.double t2), .second, .val (.int (6 : Int32)), .val (.int (1 : Int32))]) rfl ?_
  refine g_goto X396 hx (pc' := 88) (hb hby d5_118) (by decide) (by decide) ?_
  refine g_iload X396 hx (pc' := 90) rfl (hb hby d5_88) rfl ?_
  refine g_iload X396 hx (pc' := 92) rfl (hb hby d5_90) rfl ?_
  refine g_icmpN X396 hx (pcN := 95) (hb hby d5_92) rfl (show ¬ (¬ (1 : Int32) < (3 : Int32)) from by decide) ?_
  refine g_aloadN X396 hx (pc' := 96) rfl (hb hby d5_95) rfl rfl ?_
  refine g_iload X396 hx (pc' := 98) rfl (hb hby d5_96) rfl ?_
  refine g_iload X396 hx (pc' := 100) rfl (hb hby d5_98) rfl ?_
  refine g_iadd X396 hx (pc' := 101) rfl (hb hby d5_100) ?_
  refine g_normI (z := (7 : Int32)) (by decide) ?_
  refine g_dup2 X396 hx (pc' := 102) rfl (hb hby d5_101) rfl rfl ?_
  refine g_daload X396 hx hZ V396 (i := 7) (by decide) (show (7 : Nat) < 12 by decide) (v := c7) rfl (pc' := 103) rfl (hb hby d5_102) ?_
  refine g_dload X396 hx (pc' := 105) rfl (hb hby d5_103) rfl ?_
  refine g_aloadN X396 hx (pc' := 106) rfl (hb hby d5_105) rfl rfl ?_
  refine g_iload X396 hx (pc' := 108) rfl (hb hby d5_106) rfl ?_
  refine g_iload X396 hx (pc' := 110) rfl (hb hby d5_108) rfl ?_
  refine g_iadd X396 hx (pc' := 111) rfl (hb hby d5_110) ?_
  refine g_normI (z := (1 : Int32)) (by decide) ?_
  refine g_daload X396 hx hZ V396 (i := 1) (by decide) (show (1 : Nat) < 12 by decide) (v := d362) rfl (pc' := 112) rfl (hb hby d5_111) ?_
  have q400 : Dy (mt2 * n362) 1071 (FP.dmul t2 d362) := dy_mul yt2 q362 (by decide) (own_mb bt2 b362 (by decide)) (by decide)
  refine g_dmul X396 hx (pc' := 113) (z := (FP.dmul t2 d362)) rfl (hb hby d5_112) (dy_noNaN q400) rfl ?_
  refine g_absD (fun d400 hd400 => ?_)
  rw [← hd400] at q400
  obtain ⟨n400, en400⟩ : ∃ z : Int, z = mt2 * n362 := ⟨_, rfl⟩
  rw [← en400] at q400
  have b400 : n400.natAbs ≤ 512 := by rw [en400, Int.natAbs_mul]; exact Nat.le_trans (Nat.mul_le_mul bt2 b362) (by decide)
  obtain ⟨n401, en401⟩ : ∃ z : Int, z = mc7 * 8 := ⟨_, rfl⟩
  have q401 : Dy n401 1071 c7 := by rw [en401]; exact dy_shift 3 (j := 1071) yc7
  have b401 : n401.natAbs ≤ 64 := by rw [en401]; exact own_shl bc7 (by decide)
  have q402 : Dy (n401 - n400) 1071 (FP.dsub c7 d400) := dy_sub q401 q400 (own_subb b401 b400 (by decide)) (by decide)
  refine g_dsub X396 hx (pc' := 114) (z := (FP.dsub c7 d400)) rfl (hb hby d5_113) (dy_noNaN q402) rfl ?_
  refine g_absD (fun d402 hd402 => ?_)
  rw [← hd402] at q402
  obtain ⟨n402, en402⟩ : ∃ z : Int, z = n401 - n400 := ⟨_, rfl⟩
  rw [← en402] at q402
  have b402 : n402.natAbs ≤ 576 := by rw [en402]; exact Nat.le_trans (own_subl b401 b400) (by decide)
  refine g_dastore X396 hx hZ V396 (i := 7) (by decide) (show (7 : Nat) < 12 by decide) hg (pc' := 115) rfl (hb hby d5_114) (fun T403 h403 X403 W403 N403 => ?_)
  have f404 := f397.other W403 hne
  have f405 := (by have q := (Keep.of_wr W403).1; exact Nat.le_trans f398 q : n0 ≤ h403.size)
  have f406 := f399.wr W403 (Or.inl (List.mem_of_getElem? (i := 0) rfl))
  have V403 : AD Z h403 ca [d357, d362, d367, d374, d381, d388, d395, d402, c8, c9, c10, c11] := N403
  refine g_iincC X403 hx (pc' := 118) (x := (1 : Int32)) (z := (2 : Int32)) rfl (hb hby d5_115) rfl (by decide) (l' := #[.val (.ref ta), .val (.int (4 : Int32)), .val (.int (3 : Int32)), .val (.ref ca), .val (.int (3 : Int32)), .val (.int (0 : Int32)), .val (.int (0 : Int32)), .val (.double t0), .second, .val (.int (2 : Int32)), .val (.double t2), .second, .val (.int (6 : Int32)), .val (.int (2 : Int32))]) rfl ?_
  refine g_goto X403 hx (pc' := 88) (hb hby d5_118) (by decide) (by decide) ?_
  refine g_iload X403 hx (pc' := 90) rfl (hb hby d5_88) rfl ?_
  refine g_iload X403 hx (pc' := 92) rfl (hb hby d5_90) rfl ?_
  refine g_icmpN X403 hx (pcN := 95) (hb hby d5_92) rfl (show ¬ (¬ (2 : Int32) < (3 : Int32)) from by decide) ?_
  refine g_aloadN X403 hx (pc' := 96) rfl (hb hby d5_95) rfl rfl ?_
  refine g_iload X403 hx (pc' := 98) rfl (hb hby d5_96) rfl ?_
  refine g_iload X403 hx (pc' := 100) rfl (hb hby d5_98) rfl ?_
  refine g_iadd X403 hx (pc' := 101) rfl (hb hby d5_100) ?_
  refine g_normI (z := (8 : Int32)) (by decide) ?_
  refine g_dup2 X403 hx (pc' := 102) rfl (hb hby d5_101) rfl rfl ?_
  refine g_daload X403 hx hZ V403 (i := 8) (by decide) (show (8 : Nat) < 12 by decide) (v := c8) rfl (pc' := 103) rfl (hb hby d5_102) ?_
  refine g_dload X403 hx (pc' := 105) rfl (hb hby d5_103) rfl ?_
  refine g_aloadN X403 hx (pc' := 106) rfl (hb hby d5_105) rfl rfl ?_
  refine g_iload X403 hx (pc' := 108) rfl (hb hby d5_106) rfl ?_
  refine g_iload X403 hx (pc' := 110) rfl (hb hby d5_108) rfl ?_
  refine g_iadd X403 hx (pc' := 111) rfl (hb hby d5_110) ?_
  refine g_normI (z := (2 : Int32)) (by decide) ?_
  refine g_daload X403 hx hZ V403 (i := 2) (by decide) (show (2 : Nat) < 12 by decide) (v := d367) rfl (pc' := 112) rfl (hb hby d5_111) ?_
  have q407 : Dy (mt2 * n367) 1071 (FP.dmul t2 d367) := dy_mul yt2 q367 (by decide) (own_mb bt2 b367 (by decide)) (by decide)
  refine g_dmul X403 hx (pc' := 113) (z := (FP.dmul t2 d367)) rfl (hb hby d5_112) (dy_noNaN q407) rfl ?_
  refine g_absD (fun d407 hd407 => ?_)
  rw [← hd407] at q407
  obtain ⟨n407, en407⟩ : ∃ z : Int, z = mt2 * n367 := ⟨_, rfl⟩
  rw [← en407] at q407
  have b407 : n407.natAbs ≤ 512 := by rw [en407, Int.natAbs_mul]; exact Nat.le_trans (Nat.mul_le_mul bt2 b367) (by decide)
  obtain ⟨n408, en408⟩ : ∃ z : Int, z = mc8 * 8 := ⟨_, rfl⟩
  have q408 : Dy n408 1071 c8 := by rw [en408]; exact dy_shift 3 (j := 1071) yc8
  have b408 : n408.natAbs ≤ 64 := by rw [en408]; exact own_shl bc8 (by decide)
  have q409 : Dy (n408 - n407) 1071 (FP.dsub c8 d407) := dy_sub q408 q407 (own_subb b408 b407 (by decide)) (by decide)
  refine g_dsub X403 hx (pc' := 114) (z := (FP.dsub c8 d407)) rfl (hb hby d5_113) (dy_noNaN q409) rfl ?_
  refine g_absD (fun d409 hd409 => ?_)
  rw [← hd409] at q409
  obtain ⟨n409, en409⟩ : ∃ z : Int, z = n408 - n407 := ⟨_, rfl⟩
  rw [← en409] at q409
  have b409 : n409.natAbs ≤ 576 := by rw [en409]; exact Nat.le_trans (own_subl b408 b407) (by decide)
  refine g_dastore X403 hx hZ V403 (i := 8) (by decide) (show (8 : Nat) < 12 by decide) hg (pc' := 115) rfl (hb hby d5_114) (fun T410 h410 X410 W410 N410 => ?_)
  have f411 := f404.other W410 hne
  have f412 := (by have q := (Keep.of_wr W410).1; exact Nat.le_trans f405 q : n0 ≤ h410.size)
  have f413 := f406.wr W410 (Or.inl (List.mem_of_getElem? (i := 0) rfl))
  have V410 : AD Z h410 ca [d357, d362, d367, d374, d381, d388, d395, d402, d409, c9, c10, c11] := N410
  refine g_iincC X410 hx (pc' := 118) (x := (2 : Int32)) (z := (3 : Int32)) rfl (hb hby d5_115) rfl (by decide) (l' := #[.val (.ref ta), .val (.int (4 : Int32)), .val (.int (3 : Int32)), .val (.ref ca), .val (.int (3 : Int32)), .val (.int (0 : Int32)), .val (.int (0 : Int32)), .val (.double t0), .second, .val (.int (2 : Int32)), .val (.double t2), .second, .val (.int (6 : Int32)), .val (.int (3 : Int32))]) rfl ?_
  refine g_goto X410 hx (pc' := 88) (hb hby d5_118) (by decide) (by decide) ?_
  refine g_iload X410 hx (pc' := 90) rfl (hb hby d5_88) rfl ?_
  refine g_iload X410 hx (pc' := 92) rfl (hb hby d5_90) rfl ?_
  refine g_icmpY X410 hx (pcY := 121) (hb hby d5_92) (by decide) (by decide) (show ¬ (3 : Int32) < (3 : Int32) from by decide) ?_
  refine g_iincC X410 hx (pc' := 124) (x := (2 : Int32)) (z := (3 : Int32)) rfl (hb hby d5_121) rfl (by decide) (l' := #[.val (.ref ta), .val (.int (4 : Int32)), .val (.int (3 : Int32)), .val (.ref ca), .val (.int (3 : Int32)), .val (.int (0 : Int32)), .val (.int (0 : Int32)), .val (.double t0), .second, .val (.int (3 : Int32)), .val (.double t2), .second, .val (.int (6 : Int32)), .val (.int (3 : Int32))]) rfl ?_
  refine g_goto X410 hx (pc' := 61) (hb hby d5_124) (by decide) (by decide) ?_
  refine g_iload X410 hx (pc' := 63) rfl (hb hby d5_61) rfl ?_
  refine g_iloadN X410 hx (pc' := 64) rfl (hb hby d5_63) rfl ?_
  refine g_icmpY X410 hx (pcY := 127) (hb hby d5_64) (by decide) (by decide) (show ¬ (3 : Int32) < (3 : Int32) from by decide) ?_
  refine g_iincC X410 hx (pc' := 130) (x := (0 : Int32)) (z := (1 : Int32)) rfl (hb hby d5_127) rfl (by decide) (l' := #[.val (.ref ta), .val (.int (4 : Int32)), .val (.int (3 : Int32)), .val (.ref ca), .val (.int (3 : Int32)), .val (.int (1 : Int32)), .val (.int (0 : Int32)), .val (.double t0), .second, .val (.int (3 : Int32)), .val (.double t2), .second, .val (.int (6 : Int32)), .val (.int (3 : Int32))]) rfl ?_
  refine g_goto X410 hx (pc' := 3) (hb hby d5_130) (by decide) (by decide) ?_
  refine g_iload X410 hx (pc' := 5) rfl (hb hby d5_3) rfl ?_
  refine g_iloadN X410 hx (pc' := 6) rfl (hb hby d5_5) rfl ?_
  refine g_icmpN X410 hx (pcN := 9) (hb hby d5_6) rfl (show ¬ (¬ (1 : Int32) < (3 : Int32)) from by decide) ?_
  refine g_iload X410 hx (pc' := 11) rfl (hb hby d5_9) rfl ?_
  refine g_iload X410 hx (pc' := 13) rfl (hb hby d5_11) rfl ?_
  refine g_imul X410 hx (pc' := 14) rfl (hb hby d5_13) ?_
  refine g_normI (z := (3 : Int32)) (by decide) ?_
  refine g_istore X410 hx (pc' := 16) rfl (hb hby d5_14) (l' := #[.val (.ref ta), .val (.int (4 : Int32)), .val (.int (3 : Int32)), .val (.ref ca), .val (.int (3 : Int32)), .val (.int (1 : Int32)), .val (.int (3 : Int32)), .val (.double t0), .second, .val (.int (3 : Int32)), .val (.double t2), .second, .val (.int (6 : Int32)), .val (.int (3 : Int32))]) rfl ?_
  refine g_aloadN X410 hx (pc' := 17) rfl (hb hby d5_16) rfl rfl ?_
  refine g_iload X410 hx (pc' := 19) rfl (hb hby d5_17) rfl ?_
  refine g_iloadN X410 hx (pc' := 20) rfl (hb hby d5_19) rfl ?_
  refine g_imul X410 hx (pc' := 21) rfl (hb hby d5_20) ?_
  refine g_normI (z := (4 : Int32)) (by decide) ?_
  refine g_iload X410 hx (pc' := 23) rfl (hb hby d5_21) rfl ?_
  refine g_iadd X410 hx (pc' := 24) rfl (hb hby d5_23) ?_
  refine g_normI (z := (5 : Int32)) (by decide) ?_
  refine g_daload X410 hx hZ f411 (i := 5) (by decide) (show (5 : Nat) < 16 by decide) (v := t5) rfl (pc' := 25) rfl (hb hby d5_24) ?_
  refine g_dstore X410 hx (pc' := 27) rfl (hb hby d5_25) (l' := #[.val (.ref ta), .val (.int (4 : Int32)), .val (.int (3 : Int32)), .val (.ref ca), .val (.int (3 : Int32)), .val (.int (1 : Int32)), .val (.int (3 : Int32)), .val (.double t5), .second, .val (.int (3 : Int32)), .val (.double t2), .second, .val (.int (6 : Int32)), .val (.int (3 : Int32))]) rfl ?_
  refine g_iconst X410 hx (pc' := 28) (z := (0 : Int32)) rfl (hb hby d5_27) rfl ?_
  refine g_istore X410 hx (pc' := 30) rfl (hb hby d5_28) (l' := #[.val (.ref ta), .val (.int (4 : Int32)), .val (.int (3 : Int32)), .val (.ref ca), .val (.int (3 : Int32)), .val (.int (1 : Int32)), .val (.int (3 : Int32)), .val (.double t5), .second, .val (.int (0 : Int32)), .val (.double t2), .second, .val (.int (6 : Int32)), .val (.int (3 : Int32))]) rfl ?_
  refine g_iload X410 hx (pc' := 32) rfl (hb hby d5_30) rfl ?_
  refine g_iload X410 hx (pc' := 34) rfl (hb hby d5_32) rfl ?_
  refine g_icmpN X410 hx (pcN := 37) (hb hby d5_34) rfl (show ¬ (¬ (0 : Int32) < (3 : Int32)) from by decide) ?_
  refine g_aloadN X410 hx (pc' := 38) rfl (hb hby d5_37) rfl rfl ?_
  refine g_iload X410 hx (pc' := 40) rfl (hb hby d5_38) rfl ?_
  refine g_iload X410 hx (pc' := 42) rfl (hb hby d5_40) rfl ?_
  refine g_iadd X410 hx (pc' := 43) rfl (hb hby d5_42) ?_
  refine g_normI (z := (3 : Int32)) (by decide) ?_
  refine g_dup2 X410 hx (pc' := 44) rfl (hb hby d5_43) rfl rfl ?_
  refine g_daload X410 hx hZ V410 (i := 3) (by decide) (show (3 : Nat) < 12 by decide) (v := d374) rfl (pc' := 45) rfl (hb hby d5_44) ?_
  refine g_dload X410 hx (pc' := 47) rfl (hb hby d5_45) rfl ?_
  have q414 : Dy (n374 * e5) 1068 (FP.ddiv d374 t5) := dy_div (dy_shift 3 (j := 1068) q374) yt5 hz5 (own_divq he5) rfl (own_mb b374 be5 (by decide)) (by decide)
  refine g_ddiv X410 hx (pc' := 48) (z := (FP.ddiv d374 t5)) rfl (hb hby d5_47) (dy_noNaN q414) rfl ?_
  refine g_absD (fun d414 hd414 => ?_)
  rw [← hd414] at q414
  obtain ⟨n414, en414⟩ : ∃ z : Int, z = n374 * e5 := ⟨_, rfl⟩
  rw [← en414] at q414
  have b414 : n414.natAbs ≤ 4608 := by rw [en414, Int.natAbs_mul]; exact Nat.le_trans (Nat.mul_le_mul b374 be5) (by decide)
  refine g_dastore X410 hx hZ V410 (i := 3) (by decide) (show (3 : Nat) < 12 by decide) hg (pc' := 49) rfl (hb hby d5_48) (fun T415 h415 X415 W415 N415 => ?_)
  have f416 := f411.other W415 hne
  have f417 := (by have q := (Keep.of_wr W415).1; exact Nat.le_trans f412 q : n0 ≤ h415.size)
  have f418 := f413.wr W415 (Or.inl (List.mem_of_getElem? (i := 0) rfl))
  have V415 : AD Z h415 ca [d357, d362, d367, d414, d381, d388, d395, d402, d409, c9, c10, c11] := N415
  refine g_iincC X415 hx (pc' := 52) (x := (0 : Int32)) (z := (1 : Int32)) rfl (hb hby d5_49) rfl (by decide) (l' := #[.val (.ref ta), .val (.int (4 : Int32)), .val (.int (3 : Int32)), .val (.ref ca), .val (.int (3 : Int32)), .val (.int (1 : Int32)), .val (.int (3 : Int32)), .val (.double t5), .second, .val (.int (1 : Int32)), .val (.double t2), .second, .val (.int (6 : Int32)), .val (.int (3 : Int32))]) rfl ?_
  refine g_goto X415 hx (pc' := 30) (hb hby d5_52) (by decide) (by decide) ?_
  refine g_iload X415 hx (pc' := 32) rfl (hb hby d5_30) rfl ?_
  refine g_iload X415 hx (pc' := 34) rfl (hb hby d5_32) rfl ?_
  refine g_icmpN X415 hx (pcN := 37) (hb hby d5_34) rfl (show ¬ (¬ (1 : Int32) < (3 : Int32)) from by decide) ?_
  refine g_aloadN X415 hx (pc' := 38) rfl (hb hby d5_37) rfl rfl ?_
  refine g_iload X415 hx (pc' := 40) rfl (hb hby d5_38) rfl ?_
  refine g_iload X415 hx (pc' := 42) rfl (hb hby d5_40) rfl ?_
  refine g_iadd X415 hx (pc' := 43) rfl (hb hby d5_42) ?_
  refine g_normI (z := (4 : Int32)) (by decide) ?_
  refine g_dup2 X415 hx (pc' := 44) rfl (hb hby d5_43) rfl rfl ?_
  refine g_daload X415 hx hZ V415 (i := 4) (by decide) (show (4 : Nat) < 12 by decide) (v := d381) rfl (pc' := 45) rfl (hb hby d5_44) ?_
  refine g_dload X415 hx (pc' := 47) rfl (hb hby d5_45) rfl ?_
  have q419 : Dy (n381 * e5) 1068 (FP.ddiv d381 t5) := dy_div (dy_shift 3 (j := 1068) q381) yt5 hz5 (own_divq he5) rfl (own_mb b381 be5 (by decide)) (by decide)
  refine g_ddiv X415 hx (pc' := 48) (z := (FP.ddiv d381 t5)) rfl (hb hby d5_47) (dy_noNaN q419) rfl ?_
  refine g_absD (fun d419 hd419 => ?_)
  rw [← hd419] at q419
  obtain ⟨n419, en419⟩ : ∃ z : Int, z = n381 * e5 := ⟨_, rfl⟩
  rw [← en419] at q419
  have b419 : n419.natAbs ≤ 4608 := by rw [en419, Int.natAbs_mul]; exact Nat.le_trans (Nat.mul_le_mul b381 be5) (by decide)
  refine g_dastore X415 hx hZ V415 (i := 4) (by decide) (show (4 : Nat) < 12 by decide) hg (pc' := 49) rfl (hb hby d5_48) (fun T420 h420 X420 W420 N420 => ?_)
  have f421 := f416.other W420 hne
  have f422 := (by have q := (Keep.of_wr W420).1; exact Nat.le_trans f417 q : n0 ≤ h420.size)
  have f423 := f418.wr W420 (Or.inl (List.mem_of_getElem? (i := 0) rfl))
  have V420 : AD Z h420 ca [d357, d362, d367, d414, d419, d388, d395, d402, d409, c9, c10, c11] := N420
  refine g_iincC X420 hx (pc' := 52) (x := (1 : Int32)) (z := (2 : Int32)) rfl (hb hby d5_49) rfl (by decide) (l' := #[.val (.ref ta), .val (.int (4 : Int32)), .val (.int (3 : Int32)), .val (.ref ca), .val (.int (3 : Int32)), .val (.int (1 : Int32)), .val (.int (3 : Int32)), .val (.double t5), .second, .val (.int (2 : Int32)), .val (.double t2), .second, .val (.int (6 : Int32)), .val (.int (3 : Int32))]) rfl ?_
  refine g_goto X420 hx (pc' := 30) (hb hby d5_52) (by decide) (by decide) ?_
  refine g_iload X420 hx (pc' := 32) rfl (hb hby d5_30) rfl ?_
  refine g_iload X420 hx (pc' := 34) rfl (hb hby d5_32) rfl ?_
  refine g_icmpN X420 hx (pcN := 37) (hb hby d5_34) rfl (show ¬ (¬ (2 : Int32) < (3 : Int32)) from by decide) ?_
  refine g_aloadN X420 hx (pc' := 38) rfl (hb hby d5_37) rfl rfl ?_
  refine g_iload X420 hx (pc' := 40) rfl (hb hby d5_38) rfl ?_
  refine g_iload X420 hx (pc' := 42) rfl (hb hby d5_40) rfl ?_
  refine g_iadd X420 hx (pc' := 43) rfl (hb hby d5_42) ?_
  refine g_normI (z := (5 : Int32)) (by decide) ?_
  refine g_dup2 X420 hx (pc' := 44) rfl (hb hby d5_43) rfl rfl ?_
  refine g_daload X420 hx hZ V420 (i := 5) (by decide) (show (5 : Nat) < 12 by decide) (v := d388) rfl (pc' := 45) rfl (hb hby d5_44) ?_
  refine g_dload X420 hx (pc' := 47) rfl (hb hby d5_45) rfl ?_
  have q424 : Dy (n388 * e5) 1068 (FP.ddiv d388 t5) := dy_div (dy_shift 3 (j := 1068) q388) yt5 hz5 (own_divq he5) rfl (own_mb b388 be5 (by decide)) (by decide)
  refine g_ddiv X420 hx (pc' := 48) (z := (FP.ddiv d388 t5)) rfl (hb hby d5_47) (dy_noNaN q424) rfl ?_
  refine g_absD (fun d424 hd424 => ?_)
  rw [← hd424] at q424
  obtain ⟨n424, en424⟩ : ∃ z : Int, z = n388 * e5 := ⟨_, rfl⟩
  rw [← en424] at q424
  have b424 : n424.natAbs ≤ 4608 := by rw [en424, Int.natAbs_mul]; exact Nat.le_trans (Nat.mul_le_mul b388 be5) (by decide)
  refine g_dastore X420 hx hZ V420 (i := 5) (by decide) (show (5 : Nat) < 12 by decide) hg (pc' := 49) rfl (hb hby d5_48) (fun T425 h425 X425 W425 N425 => ?_)
  have f426 := f421.other W425 hne
  have f427 := (by have q := (Keep.of_wr W425).1; exact Nat.le_trans f422 q : n0 ≤ h425.size)
  have f428 := f423.wr W425 (Or.inl (List.mem_of_getElem? (i := 0) rfl))
  have V425 : AD Z h425 ca [d357, d362, d367, d414, d419, d424, d395, d402, d409, c9, c10, c11] := N425
  refine g_iincC X425 hx (pc' := 52) (x := (2 : Int32)) (z := (3 : Int32)) rfl (hb hby d5_49) rfl (by decide) (l' := #[.val (.ref ta), .val (.int (4 : Int32)), .val (.int (3 : Int32)), .val (.ref ca), .val (.int (3 : Int32)), .val (.int (1 : Int32)), .val (.int (3 : Int32)), .val (.double t5), .second, .val (.int (3 : Int32)), .val (.double t2), .second, .val (.int (6 : Int32)), .val (.int (3 : Int32))]) rfl ?_
  refine g_goto X425 hx (pc' := 30) (hb hby d5_52) (by decide) (by decide) ?_
  refine g_iload X425 hx (pc' := 32) rfl (hb hby d5_30) rfl ?_
  refine g_iload X425 hx (pc' := 34) rfl (hb hby d5_32) rfl ?_
  refine g_icmpY X425 hx (pcY := 55) (hb hby d5_34) (by decide) (by decide) (show ¬ (3 : Int32) < (3 : Int32) from by decide) ?_
  refine g_iload X425 hx (pc' := 57) rfl (hb hby d5_55) rfl ?_
  refine g_iconst X425 hx (pc' := 58) (z := (1 : Int32)) rfl (hb hby d5_57) rfl ?_
  refine g_iadd X425 hx (pc' := 59) rfl (hb hby d5_58) ?_
  refine g_normI (z := (2 : Int32)) (by decide) ?_
  refine g_istore X425 hx (pc' := 61) rfl (hb hby d5_59) (l' := #[.val (.ref ta), .val (.int (4 : Int32)), .val (.int (3 : Int32)), .val (.ref ca), .val (.int (3 : Int32)), .val (.int (1 : Int32)), .val (.int (3 : Int32)), .val (.double t5), .second, .val (.int (2 : Int32)), .val (.double t2), .second, .val (.int (6 : Int32)), .val (.int (3 : Int32))]) rfl ?_
  refine g_iload X425 hx (pc' := 63) rfl (hb hby d5_61) rfl ?_
  refine g_iloadN X425 hx (pc' := 64) rfl (hb hby d5_63) rfl ?_
  refine g_icmpN X425 hx (pcN := 67) (hb hby d5_64) rfl (show ¬ (¬ (2 : Int32) < (3 : Int32)) from by decide) ?_
  refine g_aloadN X425 hx (pc' := 68) rfl (hb hby d5_67) rfl rfl ?_
  refine g_iload X425 hx (pc' := 70) rfl (hb hby d5_68) rfl ?_
  refine g_iloadN X425 hx (pc' := 71) rfl (hb hby d5_70) rfl ?_
  refine g_imul X425 hx (pc' := 72) rfl (hb hby d5_71) ?_
  refine g_normI (z := (4 : Int32)) (by decide) ?_
  refine g_iload X425 hx (pc' := 74) rfl (hb hby d5_72) rfl ?_
  refine g_iadd X425 hx (pc' := 75) rfl (hb hby d5_74) ?_
  refine g_normI (z := (6 : Int32)) (by decide) ?_
  refine g_daload X425 hx hZ f426 (i := 6) (by decide) (show (6 : Nat) < 16 by decide) (v := t6) rfl (pc' := 76) rfl (hb hby d5_75) ?_
  refine g_dstore X425 hx (pc' := 78) rfl (hb hby d5_76) (l' := #[.val (.ref ta), .val (.int (4 : Int32)), .val (.int (3 : Int32)), .val (.ref ca), .val (.int (3 : Int32)), .val (.int (1 : Int32)), .val (.int (3 : Int32)), .val (.double t5), .second, .val (.int (2 : Int32)), .val (.double t6), .second, .val (.int (6 : Int32)), .val (.int (3 : Int32))]) rfl ?_
  refine g_iload X425 hx (pc' := 80) rfl (hb hby d5_78) rfl ?_
  refine g_iload X425 hx (pc' := 82) rfl (hb hby d5_80) rfl ?_
  refine g_imul X425 hx (pc' := 83) rfl (hb hby d5_82) ?_
  refine g_normI (z := (6 : Int32)) (by decide) ?_
  refine g_istore X425 hx (pc' := 85) rfl (hb hby d5_83) (l' := #[.val (.ref ta), .val (.int (4 : Int32)), .val (.int (3 : Int32)), .val (.ref ca), .val (.int (3 : Int32)), .val (.int (1 : Int32)), .val (.int (3 : Int32)), .val (.double t5), .second, .val (.int (2 : Int32)), .val (.double t6), .second, .val (.int (6 : Int32)), .val (.int (3 : Int32))]) rfl ?_
  refine g_iconst X425 hx (pc' := 86) (z := (0 : Int32)) rfl (hb hby d5_85) rfl ?_
  refine g_istore X425 hx (pc' := 88) rfl (hb hby d5_86) (l' := #[.val (.ref ta), .val (.int (4 : Int32)), .val (.int (3 : Int32)), .val (.ref ca), .val (.int (3 : Int32)), .val (.int (1 : Int32)), .val (.int (3 : Int32)), .val (.double t5), .second, .val (.int (2 : Int32)), .val (.double t6), .second, .val (.int (6 : Int32)), .val (.int (0 : Int32))]) rfl ?_
  refine g_iload X425 hx (pc' := 90) rfl (hb hby d5_88) rfl ?_
  refine g_iload X425 hx (pc' := 92) rfl (hb hby d5_90) rfl ?_
  refine g_icmpN X425 hx (pcN := 95) (hb hby d5_92) rfl (show ¬ (¬ (0 : Int32) < (3 : Int32)) from by decide) ?_
  refine g_aloadN X425 hx (pc' := 96) rfl (hb hby d5_95) rfl rfl ?_
  refine g_iload X425 hx (pc' := 98) rfl (hb hby d5_96) rfl ?_
  refine g_iload X425 hx (pc' := 100) rfl (hb hby d5_98) rfl ?_
  refine g_iadd X425 hx (pc' := 101) rfl (hb hby d5_100) ?_
  refine g_normI (z := (6 : Int32)) (by decide) ?_
  refine g_dup2 X425 hx (pc' := 102) rfl (hb hby d5_101) rfl rfl ?_
  refine g_daload X425 hx hZ V425 (i := 6) (by decide) (show (6 : Nat) < 12 by decide) (v := d395) rfl (pc' := 103) rfl (hb hby d5_102) ?_
  refine g_dload X425 hx (pc' := 105) rfl (hb hby d5_103) rfl ?_
  refine g_aloadN X425 hx (pc' := 106) rfl (hb hby d5_105) rfl rfl ?_
  refine g_iload X425 hx (pc' := 108) rfl (hb hby d5_106) rfl ?_
  refine g_iload X425 hx (pc' := 110) rfl (hb hby d5_108) rfl ?_
  refine g_iadd X425 hx (pc' := 111) rfl (hb hby d5_110) ?_
  refine g_normI (z := (3 : Int32)) (by decide) ?_
  refine g_daload X425 hx hZ V425 (i := 3) (by decide) (show (3 : Nat) < 12 by decide) (v := d414) rfl (pc' := 112) rfl (hb hby d5_111) ?_
  have q429 : Dy (mt6 * n414) 1068 (FP.dmul t6 d414) := dy_mul yt6 q414 (by decide) (own_mb bt6 b414 (by decide)) (by decide)
  refine g_dmul X425 hx (pc' := 113) (z := (FP.dmul t6 d414)) rfl (hb hby d5_112) (dy_noNaN q429) rfl ?_
  refine g_absD (fun d429 hd429 => ?_)
  rw [← hd429] at q429
  obtain ⟨n429, en429⟩ : ∃ z : Int, z = mt6 * n414 := ⟨_, rfl⟩
  rw [← en429] at q429
  have b429 : n429.natAbs ≤ 36864 := by rw [en429, Int.natAbs_mul]; exact Nat.le_trans (Nat.mul_le_mul bt6 b414) (by decide)
  obtain ⟨n430, en430⟩ : ∃ z : Int, z = n395 * 8 := ⟨_, rfl⟩
  have q430 : Dy n430 1068 d395 := by rw [en430]; exact dy_shift 3 (j := 1068) q395
  have b430 : n430.natAbs ≤ 4608 := by rw [en430]; exact own_shl b395 (by decide)
  have q431 : Dy (n430 - n429) 1068 (FP.dsub d395 d429) := dy_sub q430 q429 (own_subb b430 b429 (by decide)) (by decide)
  refine g_dsub X425 hx (pc' := 114) (z := (FP.dsub d395 d429)) rfl (hb hby d5_113) (dy_noNaN q431) rfl ?_
  refine g_absD (fun d431 hd431 => ?_)
  rw [← hd431] at q431
  obtain ⟨n431, en431⟩ : ∃ z : Int, z = n430 - n429 := ⟨_, rfl⟩
  rw [← en431] at q431
  have b431 : n431.natAbs ≤ 41472 := by rw [en431]; exact Nat.le_trans (own_subl b430 b429) (by decide)
  refine g_dastore X425 hx hZ V425 (i := 6) (by decide) (show (6 : Nat) < 12 by decide) hg (pc' := 115) rfl (hb hby d5_114) (fun T432 h432 X432 W432 N432 => ?_)
  have f433 := f426.other W432 hne
  have f434 := (by have q := (Keep.of_wr W432).1; exact Nat.le_trans f427 q : n0 ≤ h432.size)
  have f435 := f428.wr W432 (Or.inl (List.mem_of_getElem? (i := 0) rfl))
  have V432 : AD Z h432 ca [d357, d362, d367, d414, d419, d424, d431, d402, d409, c9, c10, c11] := N432
  refine g_iincC X432 hx (pc' := 118) (x := (0 : Int32)) (z := (1 : Int32)) rfl (hb hby d5_115) rfl (by decide) (l' := #[.val (.ref ta), .val (.int (4 : Int32)), .val (.int (3 : Int32)), .val (.ref ca), .val (.int (3 : Int32)), .val (.int (1 : Int32)), .val (.int (3 : Int32)), .val (.double t5), .second, .val (.int (2 : Int32)), .val (.double t6), .second, .val (.int (6 : Int32)), .val (.int (1 : Int32))]) rfl ?_
  refine g_goto X432 hx (pc' := 88) (hb hby d5_118) (by decide) (by decide) ?_
  refine g_iload X432 hx (pc' := 90) rfl (hb hby d5_88) rfl ?_
  refine g_iload X432 hx (pc' := 92) rfl (hb hby d5_90) rfl ?_
  refine g_icmpN X432 hx (pcN := 95) (hb hby d5_92) rfl (show ¬ (¬ (1 : Int32) < (3 : Int32)) from by decide) ?_
  refine g_aloadN X432 hx (pc' := 96) rfl (hb hby d5_95) rfl rfl ?_
  refine g_iload X432 hx (pc' := 98) rfl (hb hby d5_96) rfl ?_
  refine g_iload X432 hx (pc' := 100) rfl (hb hby d5_98) rfl ?_
  refine g_iadd X432 hx (pc' := 101) rfl (hb hby d5_100) ?_
  refine g_normI (z := (7 : Int32)) (by decide) ?_
  refine g_dup2 X432 hx (pc' := 102) rfl (hb hby d5_101) rfl rfl ?_
  refine g_daload X432 hx hZ V432 (i := 7) (by decide) (show (7 : Nat) < 12 by decide) (v := d402) rfl (pc' := 103) rfl (hb hby d5_102) ?_
  refine g_dload X432 hx (pc' := 105) rfl (hb hby d5_103) rfl ?_
  refine g_aloadN X432 hx (pc' := 106) rfl (hb hby d5_105) rfl rfl ?_
  refine g_iload X432 hx (pc' := 108) rfl (hb hby d5_106) rfl ?_
  refine g_iload X432 hx (pc' := 110) rfl (hb hby d5_108) rfl ?_
  refine g_iadd X432 hx (pc' := 111) rfl (hb hby d5_110) ?_
  refine g_normI (z := (4 : Int32)) (by decide) ?_
  refine g_daload X432 hx hZ V432 (i := 4) (by decide) (show (4 : Nat) < 12 by decide) (v := d419) rfl (pc' := 112) rfl (hb hby d5_111) ?_
  have q436 : Dy (mt6 * n419) 1068 (FP.dmul t6 d419) := dy_mul yt6 q419 (by decide) (own_mb bt6 b419 (by decide)) (by decide)
  refine g_dmul X432 hx (pc' := 113) (z := (FP.dmul t6 d419)) rfl (hb hby d5_112) (dy_noNaN q436) rfl ?_
  refine g_absD (fun d436 hd436 => ?_)
  rw [← hd436] at q436
  obtain ⟨n436, en436⟩ : ∃ z : Int, z = mt6 * n419 := ⟨_, rfl⟩
  rw [← en436] at q436
  have b436 : n436.natAbs ≤ 36864 := by rw [en436, Int.natAbs_mul]; exact Nat.le_trans (Nat.mul_le_mul bt6 b419) (by decide)
  obtain ⟨n437, en437⟩ : ∃ z : Int, z = n402 * 8 := ⟨_, rfl⟩
  have q437 : Dy n437 1068 d402 := by rw [en437]; exact dy_shift 3 (j := 1068) q402
  have b437 : n437.natAbs ≤ 4608 := by rw [en437]; exact own_shl b402 (by decide)
  have q438 : Dy (n437 - n436) 1068 (FP.dsub d402 d436) := dy_sub q437 q436 (own_subb b437 b436 (by decide)) (by decide)
  refine g_dsub X432 hx (pc' := 114) (z := (FP.dsub d402 d436)) rfl (hb hby d5_113) (dy_noNaN q438) rfl ?_
  refine g_absD (fun d438 hd438 => ?_)
  rw [← hd438] at q438
  obtain ⟨n438, en438⟩ : ∃ z : Int, z = n437 - n436 := ⟨_, rfl⟩
  rw [← en438] at q438
  have b438 : n438.natAbs ≤ 41472 := by rw [en438]; exact Nat.le_trans (own_subl b437 b436) (by decide)
  refine g_dastore X432 hx hZ V432 (i := 7) (by decide) (show (7 : Nat) < 12 by decide) hg (pc' := 115) rfl (hb hby d5_114) (fun T439 h439 X439 W439 N439 => ?_)
  have f440 := f433.other W439 hne
  have f441 := (by have q := (Keep.of_wr W439).1; exact Nat.le_trans f434 q : n0 ≤ h439.size)
  have f442 := f435.wr W439 (Or.inl (List.mem_of_getElem? (i := 0) rfl))
  have V439 : AD Z h439 ca [d357, d362, d367, d414, d419, d424, d431, d438, d409, c9, c10, c11] := N439
  refine g_iincC X439 hx (pc' := 118) (x := (1 : Int32)) (z := (2 : Int32)) rfl (hb hby d5_115) rfl (by decide) (l' := #[.val (.ref ta), .val (.int (4 : Int32)), .val (.int (3 : Int32)), .val (.ref ca), .val (.int (3 : Int32)), .val (.int (1 : Int32)), .val (.int (3 : Int32)), .val (.double t5), .second, .val (.int (2 : Int32)), .val (.double t6), .second, .val (.int (6 : Int32)), .val (.int (2 : Int32))]) rfl ?_
  refine g_goto X439 hx (pc' := 88) (hb hby d5_118) (by decide) (by decide) ?_
  refine g_iload X439 hx (pc' := 90) rfl (hb hby d5_88) rfl ?_
  refine g_iload X439 hx (pc' := 92) rfl (hb hby d5_90) rfl ?_
  refine g_icmpN X439 hx (pcN := 95) (hb hby d5_92) rfl (show ¬ (¬ (2 : Int32) < (3 : Int32)) from by decide) ?_
  refine g_aloadN X439 hx (pc' := 96) rfl (hb hby d5_95) rfl rfl ?_
  refine g_iload X439 hx (pc' := 98) rfl (hb hby d5_96) rfl ?_
  refine g_iload X439 hx (pc' := 100) rfl (hb hby d5_98) rfl ?_
  refine g_iadd X439 hx (pc' := 101) rfl (hb hby d5_100) ?_
  refine g_normI (z := (8 : Int32)) (by decide) ?_
  refine g_dup2 X439 hx (pc' := 102) rfl (hb hby d5_101) rfl rfl ?_
  refine g_daload X439 hx hZ V439 (i := 8) (by decide) (show (8 : Nat) < 12 by decide) (v := d409) rfl (pc' := 103) rfl (hb hby d5_102) ?_
  refine g_dload X439 hx (pc' := 105) rfl (hb hby d5_103) rfl ?_
  refine g_aloadN X439 hx (pc' := 106) rfl (hb hby d5_105) rfl rfl ?_
  refine g_iload X439 hx (pc' := 108) rfl (hb hby d5_106) rfl ?_
  refine g_iload X439 hx (pc' := 110) rfl (hb hby d5_108) rfl ?_
  refine g_iadd X439 hx (pc' := 111) rfl (hb hby d5_110) ?_
  refine g_normI (z := (5 : Int32)) (by decide) ?_
  refine g_daload X439 hx hZ V439 (i := 5) (by decide) (show (5 : Nat) < 12 by decide) (v := d424) rfl (pc' := 112) rfl (hb hby d5_111) ?_
  have q443 : Dy (mt6 * n424) 1068 (FP.dmul t6 d424) := dy_mul yt6 q424 (by decide) (own_mb bt6 b424 (by decide)) (by decide)
  refine g_dmul X439 hx (pc' := 113) (z := (FP.dmul t6 d424)) rfl (hb hby d5_112) (dy_noNaN q443) rfl ?_
  refine g_absD (fun d443 hd443 => ?_)
  rw [← hd443] at q443
  obtain ⟨n443, en443⟩ : ∃ z : Int, z = mt6 * n424 := ⟨_, rfl⟩
  rw [← en443] at q443
  have b443 : n443.natAbs ≤ 36864 := by rw [en443, Int.natAbs_mul]; exact Nat.le_trans (Nat.mul_le_mul bt6 b424) (by decide)
  obtain ⟨n444, en444⟩ : ∃ z : Int, z = n409 * 8 := ⟨_, rfl⟩
  have q444 : Dy n444 1068 d409 := by rw [en444]; exact dy_shift 3 (j := 1068) q409
  have b444 : n444.natAbs ≤ 4608 := by rw [en444]; exact own_shl b409 (by decide)
  have q445 : Dy (n444 - n443) 1068 (FP.dsub d409 d443) := dy_sub q444 q443 (own_subb b444 b443 (by decide)) (by decide)
  refine g_dsub X439 hx (pc' := 114) (z := (FP.dsub d409 d443)) rfl (hb hby d5_113) (dy_noNaN q445) rfl ?_
  refine g_absD (fun d445 hd445 => ?_)
  rw [← hd445] at q445
  obtain ⟨n445, en445⟩ : ∃ z : Int, z = n444 - n443 := ⟨_, rfl⟩
  rw [← en445] at q445
  have b445 : n445.natAbs ≤ 41472 := by rw [en445]; exact Nat.le_trans (own_subl b444 b443) (by decide)
  refine g_dastore X439 hx hZ V439 (i := 8) (by decide) (show (8 : Nat) < 12 by decide) hg (pc' := 115) rfl (hb hby d5_114) (fun T446 h446 X446 W446 N446 => ?_)
  have f447 := f440.other W446 hne
  have f448 := (by have q := (Keep.of_wr W446).1; exact Nat.le_trans f441 q : n0 ≤ h446.size)
  have f449 := f442.wr W446 (Or.inl (List.mem_of_getElem? (i := 0) rfl))
  have V446 : AD Z h446 ca [d357, d362, d367, d414, d419, d424, d431, d438, d445, c9, c10, c11] := N446
  refine g_iincC X446 hx (pc' := 118) (x := (2 : Int32)) (z := (3 : Int32)) rfl (hb hby d5_115) rfl (by decide) (l' := #[.val (.ref ta), .val (.int (4 : Int32)), .val (.int (3 : Int32)), .val (.ref ca), .val (.int (3 : Int32)), .val (.int (1 : Int32)), .val (.int (3 : Int32)), .val (.double t5), .second, .val (.int (2 : Int32)), .val (.double t6), .second, .val (.int (6 : Int32)), .val (.int (3 : Int32))]) rfl ?_
  refine g_goto X446 hx (pc' := 88) (hb hby d5_118) (by decide) (by decide) ?_
  refine g_iload X446 hx (pc' := 90) rfl (hb hby d5_88) rfl ?_
  refine g_iload X446 hx (pc' := 92) rfl (hb hby d5_90) rfl ?_
  refine g_icmpY X446 hx (pcY := 121) (hb hby d5_92) (by decide) (by decide) (show ¬ (3 : Int32) < (3 : Int32) from by decide) ?_
  refine g_iincC X446 hx (pc' := 124) (x := (2 : Int32)) (z := (3 : Int32)) rfl (hb hby d5_121) rfl (by decide) (l' := #[.val (.ref ta), .val (.int (4 : Int32)), .val (.int (3 : Int32)), .val (.ref ca), .val (.int (3 : Int32)), .val (.int (1 : Int32)), .val (.int (3 : Int32)), .val (.double t5), .second, .val (.int (3 : Int32)), .val (.double t6), .second, .val (.int (6 : Int32)), .val (.int (3 : Int32))]) rfl ?_
  refine g_goto X446 hx (pc' := 61) (hb hby d5_124) (by decide) (by decide) ?_
  refine g_iload X446 hx (pc' := 63) rfl (hb hby d5_61) rfl ?_
  refine g_iloadN X446 hx (pc' := 64) rfl (hb hby d5_63) rfl ?_
  refine g_icmpY X446 hx (pcY := 127) (hb hby d5_64) (by decide) (by decide) (show ¬ (3 : Int32) < (3 : Int32) from by decide) ?_
  refine g_iincC X446 hx (pc' := 130) (x := (1 : Int32)) (z := (2 : Int32)) rfl (hb hby d5_127) rfl (by decide) (l' := #[.val (.ref ta), .val (.int (4 : Int32)), .val (.int (3 : Int32)), .val (.ref ca), .val (.int (3 : Int32)), .val (.int (2 : Int32)), .val (.int (3 : Int32)), .val (.double t5), .second, .val (.int (3 : Int32)), .val (.double t6), .second, .val (.int (6 : Int32)), .val (.int (3 : Int32))]) rfl ?_
  refine g_goto X446 hx (pc' := 3) (hb hby d5_130) (by decide) (by decide) ?_
  refine g_iload X446 hx (pc' := 5) rfl (hb hby d5_3) rfl ?_
  refine g_iloadN X446 hx (pc' := 6) rfl (hb hby d5_5) rfl ?_
  refine g_icmpN X446 hx (pcN := 9) (hb hby d5_6) rfl (show ¬ (¬ (2 : Int32) < (3 : Int32)) from by decide) ?_
  refine g_iload X446 hx (pc' := 11) rfl (hb hby d5_9) rfl ?_
  refine g_iload X446 hx (pc' := 13) rfl (hb hby d5_11) rfl ?_
  refine g_imul X446 hx (pc' := 14) rfl (hb hby d5_13) ?_
  refine g_normI (z := (6 : Int32)) (by decide) ?_
  refine g_istore X446 hx (pc' := 16) rfl (hb hby d5_14) (l' := #[.val (.ref ta), .val (.int (4 : Int32)), .val (.int (3 : Int32)), .val (.ref ca), .val (.int (3 : Int32)), .val (.int (2 : Int32)), .val (.int (6 : Int32)), .val (.double t5), .second, .val (.int (3 : Int32)), .val (.double t6), .second, .val (.int (6 : Int32)), .val (.int (3 : Int32))]) rfl ?_
  refine g_aloadN X446 hx (pc' := 17) rfl (hb hby d5_16) rfl rfl ?_
  refine g_iload X446 hx (pc' := 19) rfl (hb hby d5_17) rfl ?_
  refine g_iloadN X446 hx (pc' := 20) rfl (hb hby d5_19) rfl ?_
  refine g_imul X446 hx (pc' := 21) rfl (hb hby d5_20) ?_
  refine g_normI (z := (8 : Int32)) (by decide) ?_
  refine g_iload X446 hx (pc' := 23) rfl (hb hby d5_21) rfl ?_
  refine g_iadd X446 hx (pc' := 24) rfl (hb hby d5_23) ?_
  refine g_normI (z := (10 : Int32)) (by decide) ?_
  refine g_daload X446 hx hZ f447 (i := 10) (by decide) (show (10 : Nat) < 16 by decide) (v := t10) rfl (pc' := 25) rfl (hb hby d5_24) ?_
  refine g_dstore X446 hx (pc' := 27) rfl (hb hby d5_25) (l' := #[.val (.ref ta), .val (.int (4 : Int32)), .val (.int (3 : Int32)), .val (.ref ca), .val (.int (3 : Int32)), .val (.int (2 : Int32)), .val (.int (6 : Int32)), .val (.double t10), .second, .val (.int (3 : Int32)), .val (.double t6), .second, .val (.int (6 : Int32)), .val (.int (3 : Int32))]) rfl ?_
  refine g_iconst X446 hx (pc' := 28) (z := (0 : Int32)) rfl (hb hby d5_27) rfl ?_
  refine g_istore X446 hx (pc' := 30) rfl (hb hby d5_28) (l' := #[.val (.ref ta), .val (.int (4 : Int32)), .val (.int (3 : Int32)), .val (.ref ca), .val (.int (3 : Int32)), .val (.int (2 : Int32)), .val (.int (6 : Int32)), .val (.double t10), .second, .val (.int (0 : Int32)), .val (.double t6), .second, .val (.int (6 : Int32)), .val (.int (3 : Int32))]) rfl ?_
  refine g_iload X446 hx (pc' := 32) rfl (hb hby d5_30) rfl ?_
  refine g_iload X446 hx (pc' := 34) rfl (hb hby d5_32) rfl ?_
  refine g_icmpN X446 hx (pcN := 37) (hb hby d5_34) rfl (show ¬ (¬ (0 : Int32) < (3 : Int32)) from by decide) ?_
  refine g_aloadN X446 hx (pc' := 38) rfl (hb hby d5_37) rfl rfl ?_
  refine g_iload X446 hx (pc' := 40) rfl (hb hby d5_38) rfl ?_
  refine g_iload X446 hx (pc' := 42) rfl (hb hby d5_40) rfl ?_
  refine g_iadd X446 hx (pc' := 43) rfl (hb hby d5_42) ?_
  refine g_normI (z := (6 : Int32)) (by decide) ?_
  refine g_dup2 X446 hx (pc' := 44) rfl (hb hby d5_43) rfl rfl ?_
  refine g_daload X446 hx hZ V446 (i := 6) (by decide) (show (6 : Nat) < 12 by decide) (v := d431) rfl (pc' := 45) rfl (hb hby d5_44) ?_
  refine g_dload X446 hx (pc' := 47) rfl (hb hby d5_45) rfl ?_
  have q450 : Dy (n431 * e10) 1065 (FP.ddiv d431 t10) := dy_div (dy_shift 3 (j := 1065) q431) yt10 hz10 (own_divq he10) rfl (own_mb b431 be10 (by decide)) (by decide)
  refine g_ddiv X446 hx (pc' := 48) (z := (FP.ddiv d431 t10)) rfl (hb hby d5_47) (dy_noNaN q450) rfl ?_
  refine g_absD (fun d450 hd450 => ?_)
  rw [← hd450] at q450
  obtain ⟨n450, en450⟩ : ∃ z : Int, z = n431 * e10 := ⟨_, rfl⟩
  rw [← en450] at q450
  have b450 : n450.natAbs ≤ 331776 := by rw [en450, Int.natAbs_mul]; exact Nat.le_trans (Nat.mul_le_mul b431 be10) (by decide)
  refine g_dastore X446 hx hZ V446 (i := 6) (by decide) (show (6 : Nat) < 12 by decide) hg (pc' := 49) rfl (hb hby d5_48) (fun T451 h451 X451 W451 N451 => ?_)
  have f452 := f447.other W451 hne
  have f453 := (by have q := (Keep.of_wr W451).1; exact Nat.le_trans f448 q : n0 ≤ h451.size)
  have f454 := f449.wr W451 (Or.inl (List.mem_of_getElem? (i := 0) rfl))
  have V451 : AD Z h451 ca [d357, d362, d367, d414, d419, d424, d450, d438, d445, c9, c10, c11] := N451
  refine g_iincC X451 hx (pc' := 52) (x := (0 : Int32)) (z := (1 : Int32)) rfl (hb hby d5_49) rfl (by decide) (l' := #[.val (.ref ta), .val (.int (4 : Int32)), .val (.int (3 : Int32)), .val (.ref ca), .val (.int (3 : Int32)), .val (.int (2 : Int32)), .val (.int (6 : Int32)), .val (.double t10), .second, .val (.int (1 : Int32)), .val (.double t6), .second, .val (.int (6 : Int32)), .val (.int (3 : Int32))]) rfl ?_
  refine g_goto X451 hx (pc' := 30) (hb hby d5_52) (by decide) (by decide) ?_
  refine g_iload X451 hx (pc' := 32) rfl (hb hby d5_30) rfl ?_
  refine g_iload X451 hx (pc' := 34) rfl (hb hby d5_32) rfl ?_
  refine g_icmpN X451 hx (pcN := 37) (hb hby d5_34) rfl (show ¬ (¬ (1 : Int32) < (3 : Int32)) from by decide) ?_
  refine g_aloadN X451 hx (pc' := 38) rfl (hb hby d5_37) rfl rfl ?_
  refine g_iload X451 hx (pc' := 40) rfl (hb hby d5_38) rfl ?_
  refine g_iload X451 hx (pc' := 42) rfl (hb hby d5_40) rfl ?_
  refine g_iadd X451 hx (pc' := 43) rfl (hb hby d5_42) ?_
  refine g_normI (z := (7 : Int32)) (by decide) ?_
  refine g_dup2 X451 hx (pc' := 44) rfl (hb hby d5_43) rfl rfl ?_
  refine g_daload X451 hx hZ V451 (i := 7) (by decide) (show (7 : Nat) < 12 by decide) (v := d438) rfl (pc' := 45) rfl (hb hby d5_44) ?_
  refine g_dload X451 hx (pc' := 47) rfl (hb hby d5_45) rfl ?_
  have q455 : Dy (n438 * e10) 1065 (FP.ddiv d438 t10) := dy_div (dy_shift 3 (j := 1065) q438) yt10 hz10 (own_divq he10) rfl (own_mb b438 be10 (by decide)) (by decide)
  refine g_ddiv X451 hx (pc' := 48) (z := (FP.ddiv d438 t10)) rfl (hb hby d5_47) (dy_noNaN q455) rfl ?_
  refine g_absD (fun d455 hd455 => ?_)
  rw [← hd455] at q455
  obtain ⟨n455, en455⟩ : ∃ z : Int, z = n438 * e10 := ⟨_, rfl⟩
  rw [← en455] at q455
  have b455 : n455.natAbs ≤ 331776 := by rw [en455, Int.natAbs_mul]; exact Nat.le_trans (Nat.mul_le_mul b438 be10) (by decide)
  refine g_dastore X451 hx hZ V451 (i := 7) (by decide) (show (7 : Nat) < 12 by decide) hg (pc' := 49) rfl (hb hby d5_48) (fun T456 h456 X456 W456 N456 => ?_)
  have f457 := f452.other W456 hne
  have f458 := (by have q := (Keep.of_wr W456).1; exact Nat.le_trans f453 q : n0 ≤ h456.size)
  have f459 := f454.wr W456 (Or.inl (List.mem_of_getElem? (i := 0) rfl))
  have V456 : AD Z h456 ca [d357, d362, d367, d414, d419, d424, d450, d455, d445, c9, c10, c11] := N456
  refine g_iincC X456 hx (pc' := 52) (x := (1 : Int32)) (z := (2 : Int32)) rfl (hb hby d5_49) rfl (by decide) (l' := #[.val (.ref ta), .val (.int (4 : Int32)), .val (.int (3 : Int32)), .val (.ref ca), .val (.int (3 : Int32)), .val (.int (2 : Int32)), .val (.int (6 : Int32)), .val (.double t10), .second, .val (.int (2 : Int32)), .val (.double t6), .second, .val (.int (6 : Int32)), .val (.int (3 : Int32))]) rfl ?_
  refine g_goto X456 hx (pc' := 30) (hb hby d5_52) (by decide) (by decide) ?_
  refine g_iload X456 hx (pc' := 32) rfl (hb hby d5_30) rfl ?_
  refine g_iload X456 hx (pc' := 34) rfl (hb hby d5_32) rfl ?_
  refine g_icmpN X456 hx (pcN := 37) (hb hby d5_34) rfl (show ¬ (¬ (2 : Int32) < (3 : Int32)) from by decide) ?_
  refine g_aloadN X456 hx (pc' := 38) rfl (hb hby d5_37) rfl rfl ?_
  refine g_iload X456 hx (pc' := 40) rfl (hb hby d5_38) rfl ?_
  refine g_iload X456 hx (pc' := 42) rfl (hb hby d5_40) rfl ?_
  refine g_iadd X456 hx (pc' := 43) rfl (hb hby d5_42) ?_
  refine g_normI (z := (8 : Int32)) (by decide) ?_
  refine g_dup2 X456 hx (pc' := 44) rfl (hb hby d5_43) rfl rfl ?_
  refine g_daload X456 hx hZ V456 (i := 8) (by decide) (show (8 : Nat) < 12 by decide) (v := d445) rfl (pc' := 45) rfl (hb hby d5_44) ?_
  refine g_dload X456 hx (pc' := 47) rfl (hb hby d5_45) rfl ?_
  have q460 : Dy (n445 * e10) 1065 (FP.ddiv d445 t10) := dy_div (dy_shift 3 (j := 1065) q445) yt10 hz10 (own_divq he10) rfl (own_mb b445 be10 (by decide)) (by decide)
  refine g_ddiv X456 hx (pc' := 48) (z := (FP.ddiv d445 t10)) rfl (hb hby d5_47) (dy_noNaN q460) rfl ?_
  refine g_absD (fun d460 hd460 => ?_)
  rw [← hd460] at q460
  obtain ⟨n460, en460⟩ : ∃ z : Int, z = n445 * e10 := ⟨_, rfl⟩
  rw [← en460] at q460
  have b460 : n460.natAbs ≤ 331776 := by rw [en460, Int.natAbs_mul]; exact Nat.le_trans (Nat.mul_le_mul b445 be10) (by decide)
  refine g_dastore X456 hx hZ V456 (i := 8) (by decide) (show (8 : Nat) < 12 by decide) hg (pc' := 49) rfl (hb hby d5_48) (fun T461 h461 X461 W461 N461 => ?_)
  have f462 := f457.other W461 hne
  have f463 := (by have q := (Keep.of_wr W461).1; exact Nat.le_trans f458 q : n0 ≤ h461.size)
  have f464 := f459.wr W461 (Or.inl (List.mem_of_getElem? (i := 0) rfl))
  have V461 : AD Z h461 ca [d357, d362, d367, d414, d419, d424, d450, d455, d460, c9, c10, c11] := N461
  refine g_iincC X461 hx (pc' := 52) (x := (2 : Int32)) (z := (3 : Int32)) rfl (hb hby d5_49) rfl (by decide) (l' := #[.val (.ref ta), .val (.int (4 : Int32)), .val (.int (3 : Int32)), .val (.ref ca), .val (.int (3 : Int32)), .val (.int (2 : Int32)), .val (.int (6 : Int32)), .val (.double t10), .second, .val (.int (3 : Int32)), .val (.double t6), .second, .val (.int (6 : Int32)), .val (.int (3 : Int32))]) rfl ?_
  refine g_goto X461 hx (pc' := 30) (hb hby d5_52) (by decide) (by decide) ?_
  refine g_iload X461 hx (pc' := 32) rfl (hb hby d5_30) rfl ?_
  refine g_iload X461 hx (pc' := 34) rfl (hb hby d5_32) rfl ?_
  refine g_icmpY X461 hx (pcY := 55) (hb hby d5_34) (by decide) (by decide) (show ¬ (3 : Int32) < (3 : Int32) from by decide) ?_
  refine g_iload X461 hx (pc' := 57) rfl (hb hby d5_55) rfl ?_
  refine g_iconst X461 hx (pc' := 58) (z := (1 : Int32)) rfl (hb hby d5_57) rfl ?_
  refine g_iadd X461 hx (pc' := 59) rfl (hb hby d5_58) ?_
  refine g_normI (z := (3 : Int32)) (by decide) ?_
  refine g_istore X461 hx (pc' := 61) rfl (hb hby d5_59) (l' := #[.val (.ref ta), .val (.int (4 : Int32)), .val (.int (3 : Int32)), .val (.ref ca), .val (.int (3 : Int32)), .val (.int (2 : Int32)), .val (.int (6 : Int32)), .val (.double t10), .second, .val (.int (3 : Int32)), .val (.double t6), .second, .val (.int (6 : Int32)), .val (.int (3 : Int32))]) rfl ?_
  refine g_iload X461 hx (pc' := 63) rfl (hb hby d5_61) rfl ?_
  refine g_iloadN X461 hx (pc' := 64) rfl (hb hby d5_63) rfl ?_
  refine g_icmpY X461 hx (pcY := 127) (hb hby d5_64) (by decide) (by decide) (show ¬ (3 : Int32) < (3 : Int32) from by decide) ?_
  refine g_iincC X461 hx (pc' := 130) (x := (2 : Int32)) (z := (3 : Int32)) rfl (hb hby d5_127) rfl (by decide) (l' := #[.val (.ref ta), .val (.int (4 : Int32)), .val (.int (3 : Int32)), .val (.ref ca), .val (.int (3 : Int32)), .val (.int (3 : Int32)), .val (.int (6 : Int32)), .val (.double t10), .second, .val (.int (3 : Int32)), .val (.double t6), .second, .val (.int (6 : Int32)), .val (.int (3 : Int32))]) rfl ?_
  refine g_goto X461 hx (pc' := 3) (hb hby d5_130) (by decide) (by decide) ?_
  refine g_iload X461 hx (pc' := 5) rfl (hb hby d5_3) rfl ?_
  refine g_iloadN X461 hx (pc' := 6) rfl (hb hby d5_5) rfl ?_
  refine g_icmpY X461 hx (pcY := 133) (hb hby d5_6) (by decide) (by decide) (show ¬ (3 : Int32) < (3 : Int32) from by decide) ?_
  exact g_retV X461 hx hlk hret (hb hby d5_133) (by decide) (by decide) (⟨rfl, f464, _, V461, rfl, own_all12 (Chk.b0 (by decide) (by decide) (own_S0 yt0 q357 yc0 bt0 b357 (by rw [en357]; exact own_f0 he0))) (Chk.b0 (by decide) (by decide) (own_S0 yt0 q362 yc1 bt0 b362 (by rw [en362]; exact own_f0 he0))) (Chk.b0 (by decide) (by decide) (own_S0 yt0 q367 yc2 bt0 b367 (by rw [en367]; exact own_f0 he0))) (Chk.b1 (by decide) (by decide) (own_S1 yt5 q414 yt1 q357 yc3 bt5 b414 bt1 b357 (by rw [en414, en374, en373, en372]; exact own_f1 he5))) (Chk.b1 (by decide) (by decide) (own_S1 yt5 q419 yt1 q362 yc4 bt5 b419 bt1 b362 (by rw [en419, en381, en380, en379]; exact own_f1 he5))) (Chk.b1 (by decide) (by decide) (own_S1 yt5 q424 yt1 q367 yc5 bt5 b424 bt1 b367 (by rw [en424, en388, en387, en386]; exact own_f1 he5))) (Chk.b2 (by decide) (by decide) (own_S2 yt10 q450 yt2 q357 yt6 q414 yc6 bt10 b450 bt2 b357 bt6 b414 (by rw [en450, en431, en430, en395, en394, en393, en429]; exact own_f2 he10))) (Chk.b2 (by decide) (by decide) (own_S2 yt10 q455 yt2 q362 yt6 q419 yc7 bt10 b455 bt2 b362 bt6 b419 (by rw [en455, en438, en437, en402, en401, en400, en436]; exact own_f2 he10))) (Chk.b2 (by decide) (by decide) (own_S2 yt10 q460 yt2 q367 yt6 q424 yc8 bt10 b460 bt2 b367 bt6 b424 (by rw [en460, en445, en444, en409, en408, en407, en443]; exact own_f2 he10))) (Chk.a (by decide) (own_dyeq yc9 yc9 rfl)) (Chk.a (by decide) (own_dyeq yc10 yc10 rfl)) (Chk.a (by decide) (own_dyeq yc11 yc11 rfl))⟩)
set_option maxRecDepth 65536 in
set_option maxHeartbeats 40000000 in
theorem rm5 (l : Launch) (Z : State) (a0 : Array Value) (hw : ∀ d ∈ tables_1, d.before a0 Z = true) (ws : List Jvm.Cond) (n0 : Nat) (ta ca : Addr) (p' q' : Int64) (order width : Int32) (h0 : Heap) (hn0 : n0 ≤ h0.size) (ho : order = 0 ∨ order = 1 ∨ order = 2 ∨ order = 3) (hwd : width = 1 ∨ width = 2 ∨ width = 3) (At : AD Z h0 ta (tL p')) (Ac : AD Z h0 ca (cL q')) (hne : ta ≠ ca) (hg : n0 ≤ ca) :
    Con l Z n0 (⟨"com/example/orthogon/orthogon/Triangular", "solveUpperTransposed", "([DII[DI)V"⟩ : MethodName) prog_16_method_4_code 14 none ws ({ frames := 0, cells := 0, slots := 0, locals := 0 } : Room) #[.ref ta, .int 4, .int order, .ref ca, .int width] h0 (fun v h => v = none ∧ Keep h0 h [ca] ∧ ∃ xs, AD Z h ca xs ∧ xs.length = 12 ∧ ChkAll (tL p') xs (cL q') order width) := by
  obtain ⟨d0, e0, y0, he0, hz0, b0, be0⟩ := diag_dy p' 0
  obtain ⟨d5, e5, y5, he5, hz5, b5, be5⟩ := diag_dy p' 1
  obtain ⟨d10, e10, y10, he10, hz10, b10, be10⟩ := diag_dy p' 2
  rcases ho with rfl | rfl | rfl | rfl <;> rcases hwd with rfl | rfl | rfl
  · exact rm5_0_1 l Z a0 hw ws n0 ta ca _ _ _ _ _ _ _ _ _ _ _ _ _ _ _ _ d0 (nibN p' 9) (nibN p' 13) d5 (nibN p' 17) d10 e0 e5 e10 _ (nibN q' 0) _ (nibN q' 4) _ (nibN q' 8) _ (nibN q' 12) _ (nibN q' 16) _ (nibN q' 20) _ (nibN q' 24) _ (nibN q' 28) _ (nibN q' 32) _ (nibN q' 36) _ (nibN q' 40) _ (nibN q' 44) h0 hn0 At Ac hne hg (nib_dy q' 0) (nib_b q' 0) (nib_dy q' 4) (nib_b q' 4) (nib_dy q' 8) (nib_b q' 8) (nib_dy q' 12) (nib_b q' 12) (nib_dy q' 16) (nib_b q' 16) (nib_dy q' 20) (nib_b q' 20) (nib_dy q' 24) (nib_b q' 24) (nib_dy q' 28) (nib_b q' 28) (nib_dy q' 32) (nib_b q' 32) (nib_dy q' 36) (nib_b q' 36) (nib_dy q' 40) (nib_b q' 40) (nib_dy q' 44) (nib_b q' 44) y0 b0 (nib_dy p' 9) (nib_b p' 9) (nib_dy p' 13) (nib_b p' 13) y5 b5 (nib_dy p' 17) (nib_b p' 17) y10 b10 he0 hz0 be0 he5 hz5 be5 he10 hz10 be10
  · exact rm5_0_2 l Z a0 hw ws n0 ta ca _ _ _ _ _ _ _ _ _ _ _ _ _ _ _ _ d0 (nibN p' 9) (nibN p' 13) d5 (nibN p' 17) d10 e0 e5 e10 _ (nibN q' 0) _ (nibN q' 4) _ (nibN q' 8) _ (nibN q' 12) _ (nibN q' 16) _ (nibN q' 20) _ (nibN q' 24) _ (nibN q' 28) _ (nibN q' 32) _ (nibN q' 36) _ (nibN q' 40) _ (nibN q' 44) h0 hn0 At Ac hne hg (nib_dy q' 0) (nib_b q' 0) (nib_dy q' 4) (nib_b q' 4) (nib_dy q' 8) (nib_b q' 8) (nib_dy q' 12) (nib_b q' 12) (nib_dy q' 16) (nib_b q' 16) (nib_dy q' 20) (nib_b q' 20) (nib_dy q' 24) (nib_b q' 24) (nib_dy q' 28) (nib_b q' 28) (nib_dy q' 32) (nib_b q' 32) (nib_dy q' 36) (nib_b q' 36) (nib_dy q' 40) (nib_b q' 40) (nib_dy q' 44) (nib_b q' 44) y0 b0 (nib_dy p' 9) (nib_b p' 9) (nib_dy p' 13) (nib_b p' 13) y5 b5 (nib_dy p' 17) (nib_b p' 17) y10 b10 he0 hz0 be0 he5 hz5 be5 he10 hz10 be10
  · exact rm5_0_3 l Z a0 hw ws n0 ta ca _ _ _ _ _ _ _ _ _ _ _ _ _ _ _ _ d0 (nibN p' 9) (nibN p' 13) d5 (nibN p' 17) d10 e0 e5 e10 _ (nibN q' 0) _ (nibN q' 4) _ (nibN q' 8) _ (nibN q' 12) _ (nibN q' 16) _ (nibN q' 20) _ (nibN q' 24) _ (nibN q' 28) _ (nibN q' 32) _ (nibN q' 36) _ (nibN q' 40) _ (nibN q' 44) h0 hn0 At Ac hne hg (nib_dy q' 0) (nib_b q' 0) (nib_dy q' 4) (nib_b q' 4) (nib_dy q' 8) (nib_b q' 8) (nib_dy q' 12) (nib_b q' 12) (nib_dy q' 16) (nib_b q' 16) (nib_dy q' 20) (nib_b q' 20) (nib_dy q' 24) (nib_b q' 24) (nib_dy q' 28) (nib_b q' 28) (nib_dy q' 32) (nib_b q' 32) (nib_dy q' 36) (nib_b q' 36) (nib_dy q' 40) (nib_b q' 40) (nib_dy q' 44) (nib_b q' 44) y0 b0 (nib_dy p' 9) (nib_b p' 9) (nib_dy p' 13) (nib_b p' 13) y5 b5 (nib_dy p' 17) (nib_b p' 17) y10 b10 he0 hz0 be0 he5 hz5 be5 he10 hz10 be10
  · exact rm5_1_1 l Z a0 hw ws n0 ta ca _ _ _ _ _ _ _ _ _ _ _ _ _ _ _ _ d0 (nibN p' 9) (nibN p' 13) d5 (nibN p' 17) d10 e0 e5 e10 _ (nibN q' 0) _ (nibN q' 4) _ (nibN q' 8) _ (nibN q' 12) _ (nibN q' 16) _ (nibN q' 20) _ (nibN q' 24) _ (nibN q' 28) _ (nibN q' 32) _ (nibN q' 36) _ (nibN q' 40) _ (nibN q' 44) h0 hn0 At Ac hne hg (nib_dy q' 0) (nib_b q' 0) (nib_dy q' 4) (nib_b q' 4) (nib_dy q' 8) (nib_b q' 8) (nib_dy q' 12) (nib_b q' 12) (nib_dy q' 16) (nib_b q' 16) (nib_dy q' 20) (nib_b q' 20) (nib_dy q' 24) (nib_b q' 24) (nib_dy q' 28) (nib_b q' 28) (nib_dy q' 32) (nib_b q' 32) (nib_dy q' 36) (nib_b q' 36) (nib_dy q' 40) (nib_b q' 40) (nib_dy q' 44) (nib_b q' 44) y0 b0 (nib_dy p' 9) (nib_b p' 9) (nib_dy p' 13) (nib_b p' 13) y5 b5 (nib_dy p' 17) (nib_b p' 17) y10 b10 he0 hz0 be0 he5 hz5 be5 he10 hz10 be10
  · exact rm5_1_2 l Z a0 hw ws n0 ta ca _ _ _ _ _ _ _ _ _ _ _ _ _ _ _ _ d0 (nibN p' 9) (nibN p' 13) d5 (nibN p' 17) d10 e0 e5 e10 _ (nibN q' 0) _ (nibN q' 4) _ (nibN q' 8) _ (nibN q' 12) _ (nibN q' 16) _ (nibN q' 20) _ (nibN q' 24) _ (nibN q' 28) _ (nibN q' 32) _ (nibN q' 36) _ (nibN q' 40) _ (nibN q' 44) h0 hn0 At Ac hne hg (nib_dy q' 0) (nib_b q' 0) (nib_dy q' 4) (nib_b q' 4) (nib_dy q' 8) (nib_b q' 8) (nib_dy q' 12) (nib_b q' 12) (nib_dy q' 16) (nib_b q' 16) (nib_dy q' 20) (nib_b q' 20) (nib_dy q' 24) (nib_b q' 24) (nib_dy q' 28) (nib_b q' 28) (nib_dy q' 32) (nib_b q' 32) (nib_dy q' 36) (nib_b q' 36) (nib_dy q' 40) (nib_b q' 40) (nib_dy q' 44) (nib_b q' 44) y0 b0 (nib_dy p' 9) (nib_b p' 9) (nib_dy p' 13) (nib_b p' 13) y5 b5 (nib_dy p' 17) (nib_b p' 17) y10 b10 he0 hz0 be0 he5 hz5 be5 he10 hz10 be10
  · exact rm5_1_3 l Z a0 hw ws n0 ta ca _ _ _ _ _ _ _ _ _ _ _ _ _ _ _ _ d0 (nibN p' 9) (nibN p' 13) d5 (nibN p' 17) d10 e0 e5 e10 _ (nibN q' 0) _ (nibN q' 4) _ (nibN q' 8) _ (nibN q' 12) _ (nibN q' 16) _ (nibN q' 20) _ (nibN q' 24) _ (nibN q' 28) _ (nibN q' 32) _ (nibN q' 36) _ (nibN q' 40) _ (nibN q' 44) h0 hn0 At Ac hne hg (nib_dy q' 0) (nib_b q' 0) (nib_dy q' 4) (nib_b q' 4) (nib_dy q' 8) (nib_b q' 8) (nib_dy q' 12) (nib_b q' 12) (nib_dy q' 16) (nib_b q' 16) (nib_dy q' 20) (nib_b q' 20) (nib_dy q' 24) (nib_b q' 24) (nib_dy q' 28) (nib_b q' 28) (nib_dy q' 32) (nib_b q' 32) (nib_dy q' 36) (nib_b q' 36) (nib_dy q' 40) (nib_b q' 40) (nib_dy q' 44) (nib_b q' 44) y0 b0 (nib_dy p' 9) (nib_b p' 9) (nib_dy p' 13) (nib_b p' 13) y5 b5 (nib_dy p' 17) (nib_b p' 17) y10 b10 he0 hz0 be0 he5 hz5 be5 he10 hz10 be10
  · exact rm5_2_1 l Z a0 hw ws n0 ta ca _ _ _ _ _ _ _ _ _ _ _ _ _ _ _ _ d0 (nibN p' 9) (nibN p' 13) d5 (nibN p' 17) d10 e0 e5 e10 _ (nibN q' 0) _ (nibN q' 4) _ (nibN q' 8) _ (nibN q' 12) _ (nibN q' 16) _ (nibN q' 20) _ (nibN q' 24) _ (nibN q' 28) _ (nibN q' 32) _ (nibN q' 36) _ (nibN q' 40) _ (nibN q' 44) h0 hn0 At Ac hne hg (nib_dy q' 0) (nib_b q' 0) (nib_dy q' 4) (nib_b q' 4) (nib_dy q' 8) (nib_b q' 8) (nib_dy q' 12) (nib_b q' 12) (nib_dy q' 16) (nib_b q' 16) (nib_dy q' 20) (nib_b q' 20) (nib_dy q' 24) (nib_b q' 24) (nib_dy q' 28) (nib_b q' 28) (nib_dy q' 32) (nib_b q' 32) (nib_dy q' 36) (nib_b q' 36) (nib_dy q' 40) (nib_b q' 40) (nib_dy q' 44) (nib_b q' 44) y0 b0 (nib_dy p' 9) (nib_b p' 9) (nib_dy p' 13) (nib_b p' 13) y5 b5 (nib_dy p' 17) (nib_b p' 17) y10 b10 he0 hz0 be0 he5 hz5 be5 he10 hz10 be10
  · exact rm5_2_2 l Z a0 hw ws n0 ta ca _ _ _ _ _ _ _ _ _ _ _ _ _ _ _ _ d0 (nibN p' 9) (nibN p' 13) d5 (nibN p' 17) d10 e0 e5 e10 _ (nibN q' 0) _ (nibN q' 4) _ (nibN q' 8) _ (nibN q' 12) _ (nibN q' 16) _ (nibN q' 20) _ (nibN q' 24) _ (nibN q' 28) _ (nibN q' 32) _ (nibN q' 36) _ (nibN q' 40) _ (nibN q' 44) h0 hn0 At Ac hne hg (nib_dy q' 0) (nib_b q' 0) (nib_dy q' 4) (nib_b q' 4) (nib_dy q' 8) (nib_b q' 8) (nib_dy q' 12) (nib_b q' 12) (nib_dy q' 16) (nib_b q' 16) (nib_dy q' 20) (nib_b q' 20) (nib_dy q' 24) (nib_b q' 24) (nib_dy q' 28) (nib_b q' 28) (nib_dy q' 32) (nib_b q' 32) (nib_dy q' 36) (nib_b q' 36) (nib_dy q' 40) (nib_b q' 40) (nib_dy q' 44) (nib_b q' 44) y0 b0 (nib_dy p' 9) (nib_b p' 9) (nib_dy p' 13) (nib_b p' 13) y5 b5 (nib_dy p' 17) (nib_b p' 17) y10 b10 he0 hz0 be0 he5 hz5 be5 he10 hz10 be10
  · exact rm5_2_3 l Z a0 hw ws n0 ta ca _ _ _ _ _ _ _ _ _ _ _ _ _ _ _ _ d0 (nibN p' 9) (nibN p' 13) d5 (nibN p' 17) d10 e0 e5 e10 _ (nibN q' 0) _ (nibN q' 4) _ (nibN q' 8) _ (nibN q' 12) _ (nibN q' 16) _ (nibN q' 20) _ (nibN q' 24) _ (nibN q' 28) _ (nibN q' 32) _ (nibN q' 36) _ (nibN q' 40) _ (nibN q' 44) h0 hn0 At Ac hne hg (nib_dy q' 0) (nib_b q' 0) (nib_dy q' 4) (nib_b q' 4) (nib_dy q' 8) (nib_b q' 8) (nib_dy q' 12) (nib_b q' 12) (nib_dy q' 16) (nib_b q' 16) (nib_dy q' 20) (nib_b q' 20) (nib_dy q' 24) (nib_b q' 24) (nib_dy q' 28) (nib_b q' 28) (nib_dy q' 32) (nib_b q' 32) (nib_dy q' 36) (nib_b q' 36) (nib_dy q' 40) (nib_b q' 40) (nib_dy q' 44) (nib_b q' 44) y0 b0 (nib_dy p' 9) (nib_b p' 9) (nib_dy p' 13) (nib_b p' 13) y5 b5 (nib_dy p' 17) (nib_b p' 17) y10 b10 he0 hz0 be0 he5 hz5 be5 he10 hz10 be10
  · exact rm5_3_1 l Z a0 hw ws n0 ta ca _ _ _ _ _ _ _ _ _ _ _ _ _ _ _ _ d0 (nibN p' 9) (nibN p' 13) d5 (nibN p' 17) d10 e0 e5 e10 _ (nibN q' 0) _ (nibN q' 4) _ (nibN q' 8) _ (nibN q' 12) _ (nibN q' 16) _ (nibN q' 20) _ (nibN q' 24) _ (nibN q' 28) _ (nibN q' 32) _ (nibN q' 36) _ (nibN q' 40) _ (nibN q' 44) h0 hn0 At Ac hne hg (nib_dy q' 0) (nib_b q' 0) (nib_dy q' 4) (nib_b q' 4) (nib_dy q' 8) (nib_b q' 8) (nib_dy q' 12) (nib_b q' 12) (nib_dy q' 16) (nib_b q' 16) (nib_dy q' 20) (nib_b q' 20) (nib_dy q' 24) (nib_b q' 24) (nib_dy q' 28) (nib_b q' 28) (nib_dy q' 32) (nib_b q' 32) (nib_dy q' 36) (nib_b q' 36) (nib_dy q' 40) (nib_b q' 40) (nib_dy q' 44) (nib_b q' 44) y0 b0 (nib_dy p' 9) (nib_b p' 9) (nib_dy p' 13) (nib_b p' 13) y5 b5 (nib_dy p' 17) (nib_b p' 17) y10 b10 he0 hz0 be0 he5 hz5 be5 he10 hz10 be10
  · exact rm5_3_2 l Z a0 hw ws n0 ta ca _ _ _ _ _ _ _ _ _ _ _ _ _ _ _ _ d0 (nibN p' 9) (nibN p' 13) d5 (nibN p' 17) d10 e0 e5 e10 _ (nibN q' 0) _ (nibN q' 4) _ (nibN q' 8) _ (nibN q' 12) _ (nibN q' 16) _ (nibN q' 20) _ (nibN q' 24) _ (nibN q' 28) _ (nibN q' 32) _ (nibN q' 36) _ (nibN q' 40) _ (nibN q' 44) h0 hn0 At Ac hne hg (nib_dy q' 0) (nib_b q' 0) (nib_dy q' 4) (nib_b q' 4) (nib_dy q' 8) (nib_b q' 8) (nib_dy q' 12) (nib_b q' 12) (nib_dy q' 16) (nib_b q' 16) (nib_dy q' 20) (nib_b q' 20) (nib_dy q' 24) (nib_b q' 24) (nib_dy q' 28) (nib_b q' 28) (nib_dy q' 32) (nib_b q' 32) (nib_dy q' 36) (nib_b q' 36) (nib_dy q' 40) (nib_b q' 40) (nib_dy q' 44) (nib_b q' 44) y0 b0 (nib_dy p' 9) (nib_b p' 9) (nib_dy p' 13) (nib_b p' 13) y5 b5 (nib_dy p' 17) (nib_b p' 17) y10 b10 he0 hz0 be0 he5 hz5 be5 he10 hz10 be10
  · exact rm5_3_3 l Z a0 hw ws n0 ta ca _ _ _ _ _ _ _ _ _ _ _ _ _ _ _ _ d0 (nibN p' 9) (nibN p' 13) d5 (nibN p' 17) d10 e0 e5 e10 _ (nibN q' 0) _ (nibN q' 4) _ (nibN q' 8) _ (nibN q' 12) _ (nibN q' 16) _ (nibN q' 20) _ (nibN q' 24) _ (nibN q' 28) _ (nibN q' 32) _ (nibN q' 36) _ (nibN q' 40) _ (nibN q' 44) h0 hn0 At Ac hne hg (nib_dy q' 0) (nib_b q' 0) (nib_dy q' 4) (nib_b q' 4) (nib_dy q' 8) (nib_b q' 8) (nib_dy q' 12) (nib_b q' 12) (nib_dy q' 16) (nib_b q' 16) (nib_dy q' 20) (nib_b q' 20) (nib_dy q' 24) (nib_b q' 24) (nib_dy q' 28) (nib_b q' 28) (nib_dy q' 32) (nib_b q' 32) (nib_dy q' 36) (nib_b q' 36) (nib_dy q' 40) (nib_b q' 40) (nib_dy q' 44) (nib_b q' 44) y0 b0 (nib_dy p' 9) (nib_b p' 9) (nib_dy p' 13) (nib_b p' 13) y5 b5 (nib_dy p' 17) (nib_b p' 17) y10 b10 he0 hz0 be0 he5 hz5 be5 he10 hz10 be10
theorem own_12 {k : Int32} {i : Nat} (hk : k.toInt = i) (hi : i < 12) : k = 0 ∨ k = 1 ∨ k = 2 ∨ k = 3 ∨ k = 4 ∨ k = 5 ∨ k = 6 ∨ k = 7 ∨ k = 8 ∨ k = 9 ∨ k = 10 ∨ k = 11 := by
  have e : ∀ j : Int32, k.toInt = j.toInt → k = j := fun j => Int32.toInt_inj.mp
  have h : i = 0 ∨ i = 1 ∨ i = 2 ∨ i = 3 ∨ i = 4 ∨ i = 5 ∨ i = 6 ∨ i = 7 ∨ i = 8 ∨ i = 9 ∨ i = 10 ∨ i = 11 := by omega
  rcases h with rfl | rfl | rfl | rfl | rfl | rfl | rfl | rfl | rfl | rfl | rfl | rfl
  · exact Or.inl (e 0 (hk.trans rfl))
  · exact Or.inr (Or.inl (e 1 (hk.trans rfl)))
  · exact Or.inr (Or.inr (Or.inl (e 2 (hk.trans rfl))))
  · exact Or.inr (Or.inr (Or.inr (Or.inl (e 3 (hk.trans rfl)))))
  · exact Or.inr (Or.inr (Or.inr (Or.inr (Or.inl (e 4 (hk.trans rfl))))))
  · exact Or.inr (Or.inr (Or.inr (Or.inr (Or.inr (Or.inl (e 5 (hk.trans rfl)))))))
  · exact Or.inr (Or.inr (Or.inr (Or.inr (Or.inr (Or.inr (Or.inl (e 6 (hk.trans rfl))))))))
  · exact Or.inr (Or.inr (Or.inr (Or.inr (Or.inr (Or.inr (Or.inr (Or.inl (e 7 (hk.trans rfl)))))))))
  · exact Or.inr (Or.inr (Or.inr (Or.inr (Or.inr (Or.inr (Or.inr (Or.inr (Or.inl (e 8 (hk.trans rfl))))))))))
  · exact Or.inr (Or.inr (Or.inr (Or.inr (Or.inr (Or.inr (Or.inr (Or.inr (Or.inr (Or.inl (e 9 (hk.trans rfl)))))))))))
  · exact Or.inr (Or.inr (Or.inr (Or.inr (Or.inr (Or.inr (Or.inr (Or.inr (Or.inr (Or.inr (Or.inl (e 10 (hk.trans rfl))))))))))))
  · exact Or.inr (Or.inr (Or.inr (Or.inr (Or.inr (Or.inr (Or.inr (Or.inr (Or.inr (Or.inr (Or.inr ((e 11 (hk.trans rfl)))))))))))))
theorem own_ix {k w : Int32} {i : Nat} (hk : k.toInt = i) (hi : i < 12) (hw : w = 1 ∨ w = 2 ∨ w = 3) :
    (k / w).toInt = ((i / w.toInt.toNat : Nat) : Int) ∧ (k % w).toInt = ((i % w.toInt.toNat : Nat) : Int) ∧ ((k / w) * w + k % w).toInt = i ∧ (w + k % w).toInt = ((w.toInt.toNat + i % w.toInt.toNat : Nat) : Int) ∧ w ≠ 0 ∧ i % w.toInt.toNat < 12 ∧ w.toInt.toNat + i % w.toInt.toNat < 12 := by
  have h := own_12 hk hi
  have hi' : i = k.toInt.toNat := by omega
  rw [hi']
  rcases h with rfl | rfl | rfl | rfl | rfl | rfl | rfl | rfl | rfl | rfl | rfl | rfl <;> rcases hw with rfl | rfl | rfl <;> decide
set_option maxRecDepth 65536 in
set_option maxHeartbeats 40000000 in
theorem rm6 (l : Launch) (Z : State) (a0 : Array Value) (hw : ∀ d ∈ tables_1, d.before a0 Z = true) (ws : List Jvm.Cond) (n0 : Nat) (ua xa ca : Addr) (us xs cs : List UInt64) (order width k : Int32) (ik' : Nat) (h0 : Heap) (hn0 : n0 ≤ h0.size) (Au : AD Z h0 ua us) (Ax : AD Z h0 xa xs) (Ac : AD Z h0 ca cs) (lu : us.length = 16) (lx : xs.length = 12) (lc : cs.length = 12) (ho : 0 ≤ order.toInt ∧ order.toInt ≤ 3) (hwd : width = 1 ∨ width = 2 ∨ width = 3) (hw0 : width ≠ 0) (hk : k.toInt = ik') (hi : ik' < 12) (hC : Chk us xs cs order.toInt.toNat width.toInt.toNat ik') :
    Con l Z n0 (⟨"com/example/orthogon/orthogon/TriangularSolveUpperTransposedPinLaw", "check", "([D[D[DIII)Z"⟩ : MethodName) method_6_code 10 (some .boolean) ws ({ frames := 0, cells := 0, slots := 0, locals := 0 } : Room) #[(.ref ua), (.ref xa), (.ref ca), (.int order), (.int width), (.int k)] h0 (fun v h => v = some (.int 1) ∧ h = h0) := by
  refine con_start (plainFor_of_name (by first | (simp [plainName, overriddenIn]; done) | decide +kernel)) (fr0 := fun m => mkF m 0 #[.val (.ref ua), .val (.ref xa), .val (.ref ca), .val (.int order), .val (.int width), .val (.int k), .unset, .unset, .unset, .unset] []) (fun m => by first | (simp [entryFrame, mkF, argsToLocals, Value.category]; done) | rfl) ?_
  intro p e s m below meth c T0 hx hZ hby hml hown hnm hret hlk X0
  replace hown : s.vm.findClass "com/example/orthogon/orthogon/TriangularSolveUpperTransposedPinLaw" = some m.cls := hown
  replace hml : c.maxLocals = 10 := hml
  refine g_iload X0 hx (pc' := 2) rfl (hb hby d6_0) rfl ?_
  refine g_iload X0 hx (pc' := 4) rfl (hb hby d6_2) rfl ?_
  refine g_idiv X0 hx (pc' := 5) rfl (hb hby d6_4) hw0 ?_
  refine g_absI (fun j h_j => ?_)
  refine g_istore X0 hx (pc' := 7) rfl (hb hby d6_5) (l' := #[.val (.ref ua), .val (.ref xa), .val (.ref ca), .val (.int order), .val (.int width), .val (.int k), .val (.int j), .unset, .unset, .unset]) rfl ?_
  refine g_iload X0 hx (pc' := 9) rfl (hb hby d6_7) rfl ?_
  refine g_iload X0 hx (pc' := 11) rfl (hb hby d6_9) rfl ?_
  refine g_irem X0 hx (pc' := 12) rfl (hb hby d6_11) hw0 ?_
  refine g_absI (fun hh h_hh => ?_)
  refine g_istore X0 hx (pc' := 14) rfl (hb hby d6_12) (l' := #[.val (.ref ua), .val (.ref xa), .val (.ref ca), .val (.int order), .val (.int width), .val (.int k), .val (.int j), .val (.int hh), .unset, .unset]) rfl ?_
  obtain ⟨ij, ih, ik, iwh, -, lh, lwh⟩ := own_ix hk hi hwd
  rw [← h_j] at ij ik
  rw [← h_hh] at ih ik iwh
  refine g_iload X0 hx (pc' := 16) rfl (hb hby d6_14) rfl ?_
  refine g_iloadN X0 hx (pc' := 17) rfl (hb hby d6_16) rfl ?_
  refine g_icmp X0 hx (pcY := 38) (pcN := 20) (hb hby d6_17) (by decide) (by decide) rfl (fun hc17 => ?_) (fun hc17 => ?_)
  · replace hc17 : j < order := hc17
    have hlt : ik' / width.toInt.toNat < order.toInt.toNat := by rw [Int32.lt_iff_toInt_lt] at hc17; omega
    have jn : 0 ≤ j.toInt := by rw [ij]; exact Int.natCast_nonneg _
    have hj3 : j = 0 ∨ j = 1 ∨ j = 2 := by
      have e0 : (0 : Int32).toInt = 0 := rfl
      have e1 : (1 : Int32).toInt = 1 := rfl
      have e2 : (2 : Int32).toInt = 2 := rfl
      rw [← Int32.toInt_inj, ← Int32.toInt_inj, ← Int32.toInt_inj]
      rw [Int32.lt_iff_toInt_lt] at hc17
      omega
    rcases hj3 with qj | qj | qj
    · subst qj
      have hjz : ik' / width.toInt.toNat = 0 := Int.ofNat_inj.mp (ij.symm.trans (rfl : Int32.toInt 0 = ((0 : Nat) : Int)))
      obtain ⟨z0, z1⟩ := hC.2.1 hlt hjz
      refine g_aloadN X0 hx (pc' := 39) rfl (hb hby d6_38) rfl rfl ?_
      refine g_iload X0 hx (pc' := 41) rfl (hb hby d6_39) rfl ?_
      refine g_iconst X0 hx (pc' := 42) (z := (4 : Int32)) rfl (hb hby d6_41) rfl ?_
      refine g_imul X0 hx (pc' := 43) rfl (hb hby d6_42) ?_
      refine g_normI (z := (0 : Int32)) (by decide) ?_
      refine g_iload X0 hx (pc' := 45) rfl (hb hby d6_43) rfl ?_
      refine g_iadd X0 hx (pc' := 46) rfl (hb hby d6_45) ?_
      refine g_normI (z := (0 : Int32)) (by decide) ?_
      refine g_daload X0 hx hZ Au (i := 0) rfl (by rw [lu]; decide) (v := us.getD (0) 0) rfl (pc' := 47) rfl (hb hby d6_46) ?_
      refine g_aloadN X0 hx (pc' := 48) rfl (hb hby d6_47) rfl rfl ?_
      refine g_iload X0 hx (pc' := 50) rfl (hb hby d6_48) rfl ?_
      refine g_iload X0 hx (pc' := 52) rfl (hb hby d6_50) rfl ?_
      refine g_imul X0 hx (pc' := 53) rfl (hb hby d6_52) ?_
      refine g_iload X0 hx (pc' := 55) rfl (hb hby d6_53) rfl ?_
      refine g_iadd X0 hx (pc' := 56) rfl (hb hby d6_55) ?_
      refine g_daload X0 hx hZ Ax (i := ik') ik (by rw [lx]; exact hi) (v := xs.getD (ik') 0) rfl (pc' := 57) rfl (hb hby d6_56) ?_
      refine g_dmul X0 hx (pc' := 58) (z := (FP.dmul (us.getD (0) 0) (xs.getD (ik') 0))) rfl (hb hby d6_57) z0 rfl ?_
      refine g_dstore X0 hx (pc' := 60) rfl (hb hby d6_58) (l' := #[.val (.ref ua), .val (.ref xa), .val (.ref ca), .val (.int order), .val (.int width), .val (.int k), .val (.int (0 : Int32)), .val (.int hh), .val (.double (FP.dmul (us.getD (0) 0) (xs.getD (ik') 0))), .second]) rfl ?_
      refine g_iload X0 hx (pc' := 62) rfl (hb hby d6_60) rfl ?_
      refine g_iconst X0 hx (pc' := 63) (z := (1 : Int32)) rfl (hb hby d6_62) rfl ?_
      refine g_icmpY X0 hx (pcY := 80) (hb hby d6_63) (by decide) (by decide) (show (0 : Int32) < (1 : Int32) from by decide) ?_
      refine g_iload X0 hx (pc' := 82) rfl (hb hby d6_80) rfl ?_
      refine g_iconst X0 hx (pc' := 83) (z := (2 : Int32)) rfl (hb hby d6_82) rfl ?_
      refine g_icmpY X0 hx (pcY := 105) (hb hby d6_83) (by decide) (by decide) (show (0 : Int32) < (2 : Int32) from by decide) ?_
      refine g_dload X0 hx (pc' := 107) rfl (hb hby d6_105) rfl ?_
      refine g_aloadN X0 hx (pc' := 108) rfl (hb hby d6_107) rfl rfl ?_
      refine g_iload X0 hx (pc' := 110) rfl (hb hby d6_108) rfl ?_
      refine g_daload X0 hx hZ Ac (i := ik') hk (by rw [lc]; exact hi) (v := cs.getD (ik') 0) rfl (pc' := 111) rfl (hb hby d6_110) ?_
      refine g_dcmp X0 hx (pc' := 112) (z := (0 : Int32)) rfl (hb hby d6_111) z1 ?_
      refine g_ifN X0 hx (pcN := 115) (hb hby d6_112) rfl (show ¬ (¬ (0 : Int32) = 0) from by decide) ?_
      refine g_iconst X0 hx (pc' := 116) (z := (1 : Int32)) rfl (hb hby d6_115) rfl ?_
      refine g_goto X0 hx (pc' := 120) (hb hby d6_116) (by decide) (by decide) ?_
      exact g_retZ X0 hx hlk hret (by first | exact Or.inl rfl | exact Or.inr rfl) (hb hby d6_120) (by decide) (by decide) (⟨rfl, rfl⟩)
    · subst qj
      have hjz : ik' / width.toInt.toNat = 1 := Int.ofNat_inj.mp (ij.symm.trans (rfl : Int32.toInt 1 = ((1 : Nat) : Int)))
      obtain ⟨z0, z1, z2, z3⟩ := hC.2.2.1 hlt hjz
      refine g_aloadN X0 hx (pc' := 39) rfl (hb hby d6_38) rfl rfl ?_
      refine g_iload X0 hx (pc' := 41) rfl (hb hby d6_39) rfl ?_
      refine g_iconst X0 hx (pc' := 42) (z := (4 : Int32)) rfl (hb hby d6_41) rfl ?_
      refine g_imul X0 hx (pc' := 43) rfl (hb hby d6_42) ?_
      refine g_normI (z := (4 : Int32)) (by decide) ?_
      refine g_iload X0 hx (pc' := 45) rfl (hb hby d6_43) rfl ?_
      refine g_iadd X0 hx (pc' := 46) rfl (hb hby d6_45) ?_
      refine g_normI (z := (5 : Int32)) (by decide) ?_
      refine g_daload X0 hx hZ Au (i := 5) rfl (by rw [lu]; decide) (v := us.getD (5) 0) rfl (pc' := 47) rfl (hb hby d6_46) ?_
      refine g_aloadN X0 hx (pc' := 48) rfl (hb hby d6_47) rfl rfl ?_
      refine g_iload X0 hx (pc' := 50) rfl (hb hby d6_48) rfl ?_
      refine g_iload X0 hx (pc' := 52) rfl (hb hby d6_50) rfl ?_
      refine g_imul X0 hx (pc' := 53) rfl (hb hby d6_52) ?_
      refine g_iload X0 hx (pc' := 55) rfl (hb hby d6_53) rfl ?_
      refine g_iadd X0 hx (pc' := 56) rfl (hb hby d6_55) ?_
      refine g_daload X0 hx hZ Ax (i := ik') ik (by rw [lx]; exact hi) (v := xs.getD (ik') 0) rfl (pc' := 57) rfl (hb hby d6_56) ?_
      refine g_dmul X0 hx (pc' := 58) (z := (FP.dmul (us.getD (5) 0) (xs.getD (ik') 0))) rfl (hb hby d6_57) z0 rfl ?_
      refine g_dstore X0 hx (pc' := 60) rfl (hb hby d6_58) (l' := #[.val (.ref ua), .val (.ref xa), .val (.ref ca), .val (.int order), .val (.int width), .val (.int k), .val (.int (1 : Int32)), .val (.int hh), .val (.double (FP.dmul (us.getD (5) 0) (xs.getD (ik') 0))), .second]) rfl ?_
      refine g_iload X0 hx (pc' := 62) rfl (hb hby d6_60) rfl ?_
      refine g_iconst X0 hx (pc' := 63) (z := (1 : Int32)) rfl (hb hby d6_62) rfl ?_
      refine g_icmpN X0 hx (pcN := 66) (hb hby d6_63) rfl (show ¬ ((1 : Int32) < (1 : Int32)) from by decide) ?_
      refine g_dload X0 hx (pc' := 68) rfl (hb hby d6_66) rfl ?_
      refine g_aloadN X0 hx (pc' := 69) rfl (hb hby d6_68) rfl rfl ?_
      refine g_iload X0 hx (pc' := 71) rfl (hb hby d6_69) rfl ?_
      refine g_daload X0 hx hZ Au (i := 1) rfl (by rw [lu]; decide) (v := us.getD (1) 0) rfl (pc' := 72) rfl (hb hby d6_71) ?_
      refine g_aloadN X0 hx (pc' := 73) rfl (hb hby d6_72) rfl rfl ?_
      refine g_iload X0 hx (pc' := 75) rfl (hb hby d6_73) rfl ?_
      refine g_daload X0 hx hZ Ax (i := ik' % width.toInt.toNat) ih (by rw [lx]; exact lh) (v := xs.getD (ik' % width.toInt.toNat) 0) rfl (pc' := 76) rfl (hb hby d6_75) ?_
      refine g_dmul X0 hx (pc' := 77) (z := (FP.dmul (us.getD (1) 0) (xs.getD (ik' % width.toInt.toNat) 0))) rfl (hb hby d6_76) z1 rfl ?_
      refine g_dadd X0 hx (pc' := 78) (z := (FP.dadd (FP.dmul (us.getD (5) 0) (xs.getD (ik') 0)) (FP.dmul (us.getD (1) 0) (xs.getD (ik' % width.toInt.toNat) 0)))) rfl (hb hby d6_77) z2 rfl ?_
      refine g_dstore X0 hx (pc' := 80) rfl (hb hby d6_78) (l' := #[.val (.ref ua), .val (.ref xa), .val (.ref ca), .val (.int order), .val (.int width), .val (.int k), .val (.int (1 : Int32)), .val (.int hh), .val (.double (FP.dadd (FP.dmul (us.getD (5) 0) (xs.getD (ik') 0)) (FP.dmul (us.getD (1) 0) (xs.getD (ik' % width.toInt.toNat) 0)))), .second]) rfl ?_
      refine g_iload X0 hx (pc' := 82) rfl (hb hby d6_80) rfl ?_
      refine g_iconst X0 hx (pc' := 83) (z := (2 : Int32)) rfl (hb hby d6_82) rfl ?_
      refine g_icmpY X0 hx (pcY := 105) (hb hby d6_83) (by decide) (by decide) (show (1 : Int32) < (2 : Int32) from by decide) ?_
      refine g_dload X0 hx (pc' := 107) rfl (hb hby d6_105) rfl ?_
      refine g_aloadN X0 hx (pc' := 108) rfl (hb hby d6_107) rfl rfl ?_
      refine g_iload X0 hx (pc' := 110) rfl (hb hby d6_108) rfl ?_
      refine g_daload X0 hx hZ Ac (i := ik') hk (by rw [lc]; exact hi) (v := cs.getD (ik') 0) rfl (pc' := 111) rfl (hb hby d6_110) ?_
      refine g_dcmp X0 hx (pc' := 112) (z := (0 : Int32)) rfl (hb hby d6_111) z3 ?_
      refine g_ifN X0 hx (pcN := 115) (hb hby d6_112) rfl (show ¬ (¬ (0 : Int32) = 0) from by decide) ?_
      refine g_iconst X0 hx (pc' := 116) (z := (1 : Int32)) rfl (hb hby d6_115) rfl ?_
      refine g_goto X0 hx (pc' := 120) (hb hby d6_116) (by decide) (by decide) ?_
      exact g_retZ X0 hx hlk hret (by first | exact Or.inl rfl | exact Or.inr rfl) (hb hby d6_120) (by decide) (by decide) (⟨rfl, rfl⟩)
    · subst qj
      have hjz : ik' / width.toInt.toNat = 2 := Int.ofNat_inj.mp (ij.symm.trans (rfl : Int32.toInt 2 = ((2 : Nat) : Int)))
      obtain ⟨z0, z1, z2, z3, z4, z5⟩ := hC.2.2.2 hlt hjz
      refine g_aloadN X0 hx (pc' := 39) rfl (hb hby d6_38) rfl rfl ?_
      refine g_iload X0 hx (pc' := 41) rfl (hb hby d6_39) rfl ?_
      refine g_iconst X0 hx (pc' := 42) (z := (4 : Int32)) rfl (hb hby d6_41) rfl ?_
      refine g_imul X0 hx (pc' := 43) rfl (hb hby d6_42) ?_
      refine g_normI (z := (8 : Int32)) (by decide) ?_
      refine g_iload X0 hx (pc' := 45) rfl (hb hby d6_43) rfl ?_
      refine g_iadd X0 hx (pc' := 46) rfl (hb hby d6_45) ?_
      refine g_normI (z := (10 : Int32)) (by decide) ?_
      refine g_daload X0 hx hZ Au (i := 10) rfl (by rw [lu]; decide) (v := us.getD (10) 0) rfl (pc' := 47) rfl (hb hby d6_46) ?_
      refine g_aloadN X0 hx (pc' := 48) rfl (hb hby d6_47) rfl rfl ?_
      refine g_iload X0 hx (pc' := 50) rfl (hb hby d6_48) rfl ?_
      refine g_iload X0 hx (pc' := 52) rfl (hb hby d6_50) rfl ?_
      refine g_imul X0 hx (pc' := 53) rfl (hb hby d6_52) ?_
      refine g_iload X0 hx (pc' := 55) rfl (hb hby d6_53) rfl ?_
      refine g_iadd X0 hx (pc' := 56) rfl (hb hby d6_55) ?_
      refine g_daload X0 hx hZ Ax (i := ik') ik (by rw [lx]; exact hi) (v := xs.getD (ik') 0) rfl (pc' := 57) rfl (hb hby d6_56) ?_
      refine g_dmul X0 hx (pc' := 58) (z := (FP.dmul (us.getD (10) 0) (xs.getD (ik') 0))) rfl (hb hby d6_57) z0 rfl ?_
      refine g_dstore X0 hx (pc' := 60) rfl (hb hby d6_58) (l' := #[.val (.ref ua), .val (.ref xa), .val (.ref ca), .val (.int order), .val (.int width), .val (.int k), .val (.int (2 : Int32)), .val (.int hh), .val (.double (FP.dmul (us.getD (10) 0) (xs.getD (ik') 0))), .second]) rfl ?_
      refine g_iload X0 hx (pc' := 62) rfl (hb hby d6_60) rfl ?_
      refine g_iconst X0 hx (pc' := 63) (z := (1 : Int32)) rfl (hb hby d6_62) rfl ?_
      refine g_icmpN X0 hx (pcN := 66) (hb hby d6_63) rfl (show ¬ ((2 : Int32) < (1 : Int32)) from by decide) ?_
      refine g_dload X0 hx (pc' := 68) rfl (hb hby d6_66) rfl ?_
      refine g_aloadN X0 hx (pc' := 69) rfl (hb hby d6_68) rfl rfl ?_
      refine g_iload X0 hx (pc' := 71) rfl (hb hby d6_69) rfl ?_
      refine g_daload X0 hx hZ Au (i := 2) rfl (by rw [lu]; decide) (v := us.getD (2) 0) rfl (pc' := 72) rfl (hb hby d6_71) ?_
      refine g_aloadN X0 hx (pc' := 73) rfl (hb hby d6_72) rfl rfl ?_
      refine g_iload X0 hx (pc' := 75) rfl (hb hby d6_73) rfl ?_
      refine g_daload X0 hx hZ Ax (i := ik' % width.toInt.toNat) ih (by rw [lx]; exact lh) (v := xs.getD (ik' % width.toInt.toNat) 0) rfl (pc' := 76) rfl (hb hby d6_75) ?_
      refine g_dmul X0 hx (pc' := 77) (z := (FP.dmul (us.getD (2) 0) (xs.getD (ik' % width.toInt.toNat) 0))) rfl (hb hby d6_76) z1 rfl ?_
      refine g_dadd X0 hx (pc' := 78) (z := (FP.dadd (FP.dmul (us.getD (10) 0) (xs.getD (ik') 0)) (FP.dmul (us.getD (2) 0) (xs.getD (ik' % width.toInt.toNat) 0)))) rfl (hb hby d6_77) z2 rfl ?_
      refine g_dstore X0 hx (pc' := 80) rfl (hb hby d6_78) (l' := #[.val (.ref ua), .val (.ref xa), .val (.ref ca), .val (.int order), .val (.int width), .val (.int k), .val (.int (2 : Int32)), .val (.int hh), .val (.double (FP.dadd (FP.dmul (us.getD (10) 0) (xs.getD (ik') 0)) (FP.dmul (us.getD (2) 0) (xs.getD (ik' % width.toInt.toNat) 0)))), .second]) rfl ?_
      refine g_iload X0 hx (pc' := 82) rfl (hb hby d6_80) rfl ?_
      refine g_iconst X0 hx (pc' := 83) (z := (2 : Int32)) rfl (hb hby d6_82) rfl ?_
      refine g_icmpN X0 hx (pcN := 86) (hb hby d6_83) rfl (show ¬ ((2 : Int32) < (2 : Int32)) from by decide) ?_
      refine g_dload X0 hx (pc' := 88) rfl (hb hby d6_86) rfl ?_
      refine g_aloadN X0 hx (pc' := 89) rfl (hb hby d6_88) rfl rfl ?_
      refine g_iconst X0 hx (pc' := 90) (z := (4 : Int32)) rfl (hb hby d6_89) rfl ?_
      refine g_iload X0 hx (pc' := 92) rfl (hb hby d6_90) rfl ?_
      refine g_iadd X0 hx (pc' := 93) rfl (hb hby d6_92) ?_
      refine g_normI (z := (6 : Int32)) (by decide) ?_
      refine g_daload X0 hx hZ Au (i := 6) rfl (by rw [lu]; decide) (v := us.getD (6) 0) rfl (pc' := 94) rfl (hb hby d6_93) ?_
      refine g_aloadN X0 hx (pc' := 95) rfl (hb hby d6_94) rfl rfl ?_
      refine g_iload X0 hx (pc' := 97) rfl (hb hby d6_95) rfl ?_
      refine g_iload X0 hx (pc' := 99) rfl (hb hby d6_97) rfl ?_
      refine g_iadd X0 hx (pc' := 100) rfl (hb hby d6_99) ?_
      refine g_daload X0 hx hZ Ax (i := width.toInt.toNat + ik' % width.toInt.toNat) iwh (by rw [lx]; exact lwh) (v := xs.getD (width.toInt.toNat + ik' % width.toInt.toNat) 0) rfl (pc' := 101) rfl (hb hby d6_100) ?_
      refine g_dmul X0 hx (pc' := 102) (z := (FP.dmul (us.getD (6) 0) (xs.getD (width.toInt.toNat + ik' % width.toInt.toNat) 0))) rfl (hb hby d6_101) z3 rfl ?_
      refine g_dadd X0 hx (pc' := 103) (z := (FP.dadd (FP.dadd (FP.dmul (us.getD (10) 0) (xs.getD (ik') 0)) (FP.dmul (us.getD (2) 0) (xs.getD (ik' % width.toInt.toNat) 0))) (FP.dmul (us.getD (6) 0) (xs.getD (width.toInt.toNat + ik' % width.toInt.toNat) 0)))) rfl (hb hby d6_102) z4 rfl ?_
      refine g_dstore X0 hx (pc' := 105) rfl (hb hby d6_103) (l' := #[.val (.ref ua), .val (.ref xa), .val (.ref ca), .val (.int order), .val (.int width), .val (.int k), .val (.int (2 : Int32)), .val (.int hh), .val (.double (FP.dadd (FP.dadd (FP.dmul (us.getD (10) 0) (xs.getD (ik') 0)) (FP.dmul (us.getD (2) 0) (xs.getD (ik' % width.toInt.toNat) 0))) (FP.dmul (us.getD (6) 0) (xs.getD (width.toInt.toNat + ik' % width.toInt.toNat) 0)))), .second]) rfl ?_
      refine g_dload X0 hx (pc' := 107) rfl (hb hby d6_105) rfl ?_
      refine g_aloadN X0 hx (pc' := 108) rfl (hb hby d6_107) rfl rfl ?_
      refine g_iload X0 hx (pc' := 110) rfl (hb hby d6_108) rfl ?_
      refine g_daload X0 hx hZ Ac (i := ik') hk (by rw [lc]; exact hi) (v := cs.getD (ik') 0) rfl (pc' := 111) rfl (hb hby d6_110) ?_
      refine g_dcmp X0 hx (pc' := 112) (z := (0 : Int32)) rfl (hb hby d6_111) z5 ?_
      refine g_ifN X0 hx (pcN := 115) (hb hby d6_112) rfl (show ¬ (¬ (0 : Int32) = 0) from by decide) ?_
      refine g_iconst X0 hx (pc' := 116) (z := (1 : Int32)) rfl (hb hby d6_115) rfl ?_
      refine g_goto X0 hx (pc' := 120) (hb hby d6_116) (by decide) (by decide) ?_
      exact g_retZ X0 hx hlk hret (by first | exact Or.inl rfl | exact Or.inr rfl) (hb hby d6_120) (by decide) (by decide) (⟨rfl, rfl⟩)
  · replace hc17 : ¬ j < order := hc17
    have hge : order.toInt.toNat ≤ ik' / width.toInt.toNat := by rw [Int32.lt_iff_toInt_lt] at hc17; omega
    refine g_aloadN X0 hx (pc' := 21) rfl (hb hby d6_20) rfl rfl ?_
    refine g_iload X0 hx (pc' := 23) rfl (hb hby d6_21) rfl ?_
    refine g_daload X0 hx hZ Ax (i := ik') hk (by rw [lx]; exact hi) (v := xs.getD (ik') 0) rfl (pc' := 24) rfl (hb hby d6_23) ?_
    refine g_aloadN X0 hx (pc' := 25) rfl (hb hby d6_24) rfl rfl ?_
    refine g_iload X0 hx (pc' := 27) rfl (hb hby d6_25) rfl ?_
    refine g_daload X0 hx hZ Ac (i := ik') hk (by rw [lc]; exact hi) (v := cs.getD (ik') 0) rfl (pc' := 28) rfl (hb hby d6_27) ?_
    refine g_dcmp X0 hx (pc' := 29) (z := (0 : Int32)) rfl (hb hby d6_28) (hC.1 hge) ?_
    refine g_ifN X0 hx (pcN := 32) (hb hby d6_29) rfl (show ¬ (¬ (0 : Int32) = 0) from by decide) ?_
    refine g_iconst X0 hx (pc' := 33) (z := (1 : Int32)) rfl (hb hby d6_32) rfl ?_
    refine g_goto X0 hx (pc' := 37) (hb hby d6_33) (by decide) (by decide) ?_
    exact g_retZ X0 hx hlk hret (by first | exact Or.inl rfl | exact Or.inr rfl) (hb hby d6_37) (by decide) (by decide) (⟨rfl, rfl⟩)
theorem own_and3 (x : Int32) : x &&& 3 = 0 ∨ x &&& 3 = 1 ∨ x &&& 3 = 2 ∨ x &&& 3 = 3 := by
  have h : 0 ≤ (x &&& 3).toInt ∧ (x &&& 3).toInt ≤ 3 := c_and x 3 (by decide)
  have e0 : (0 : Int32).toInt = 0 := rfl
  have e1 : (1 : Int32).toInt = 1 := rfl
  have e2 : (2 : Int32).toInt = 2 := rfl
  have e3 : (3 : Int32).toInt = 3 := rfl
  rw [← Int32.toInt_inj, ← Int32.toInt_inj, ← Int32.toInt_inj, ← Int32.toInt_inj]
  omega
set_option maxRecDepth 65536 in
set_option maxHeartbeats 40000000 in
theorem rm0 (l : Launch) (Z : State) (a0 : Array Value) (hw : ∀ d ∈ tables_1, d.before a0 Z = true) (ws : List Jvm.Cond) (n0 : Nat) (x0 x1 : Int64) (x2 : Int32) (h0 : Heap) (hn0 : n0 ≤ h0.size)  :
    Con l Z n0 x code maxLocals ret ws room_1 #[(.long x0), (.long x1), (.int x2)] h0 (fun v h => v = some (.int 1)) := by
  refine con_start (plainFor_of_name (by first | (simp [plainName, overriddenIn]; done) | decide +kernel)) (fr0 := fun m => mkF m 0 #[.val (.long x0), .second, .val (.long x1), .second, .val (.int x2), .unset, .unset, .unset, .unset, .unset, .unset] []) (fun m => by first | (simp [entryFrame, mkF, argsToLocals, Value.category, maxLocals]; done) | rfl) ?_
  intro p e s m below meth c T0 hx hZ hby hml hown hnm hret hlk X0
  replace hown : s.vm.findClass "com/example/orthogon/orthogon/TriangularSolveUpperTransposedPinLaw" = some m.cls := hown
  replace hml : c.maxLocals = 11 := hml
  refine g_iload X0 hx (pc' := 2) rfl (hb hby at_0) rfl ?_
  refine g_iconst X0 hx (pc' := 3) (z := (3 : Int32)) rfl (hb hby at_2) rfl ?_
  refine g_iand X0 hx (pc' := 4) rfl (hb hby at_3) ?_
  refine g_absI (fun order h_order => ?_)
  refine g_istore X0 hx (pc' := 6) rfl (hb hby at_4) (l' := #[.val (.long x0), .second, .val (.long x1), .second, .val (.int x2), .val (.int order), .unset, .unset, .unset, .unset, .unset]) rfl ?_
  refine g_iload X0 hx (pc' := 8) rfl (hb hby at_6) rfl ?_
  refine g_iconst X0 hx (pc' := 9) (z := (2 : Int32)) rfl (hb hby at_8) rfl ?_
  refine g_iushr X0 hx (pc' := 10) rfl (hb hby at_9) ?_
  refine g_iconst X0 hx (pc' := 11) (z := (3 : Int32)) rfl (hb hby at_10) rfl ?_
  refine g_iand X0 hx (pc' := 12) rfl (hb hby at_11) ?_
  refine g_iconst X0 hx (pc' := 13) (z := (3 : Int32)) rfl (hb hby at_12) rfl ?_
  refine g_irem X0 hx (pc' := 14) rfl (hb hby at_13) (by decide) ?_
  refine g_iconst X0 hx (pc' := 15) (z := (1 : Int32)) rfl (hb hby at_14) rfl ?_
  refine g_iadd X0 hx (pc' := 16) rfl (hb hby at_15) ?_
  refine g_absI (fun width h_width => ?_)
  refine g_istore X0 hx (pc' := 18) rfl (hb hby at_16) (l' := #[.val (.long x0), .second, .val (.long x1), .second, .val (.int x2), .val (.int order), .val (.int width), .unset, .unset, .unset, .unset]) rfl ?_
  have ho : order = 0 ∨ order = 1 ∨ order = 2 ∨ order = 3 := by rw [h_order]; exact own_and3 _
  have ho' : 0 ≤ order.toInt ∧ order.toInt ≤ 3 := by rcases ho with q | q | q | q <;> rw [q] <;> decide
  have hwd : width = 1 ∨ width = 2 ∨ width = 3 := by
    rw [h_width]
    rcases own_and3 ((x2.toUInt32 >>> ((2 : Int32) &&& 31).toUInt32).toInt32) with q | q | q | q <;> rw [q] <;> decide
  have hw0 : width ≠ 0 := by rcases hwd with q | q | q <;> rw [q] <;> decide
  clear h_order h_width
  refine g_lloadN X0 hx (pc' := 19) rfl (hb hby at_18) rfl ?_
  refine g_callS X0 hx hZ hown (hw _ (List.mem_of_getElem? (i := 0) rfl)) (hw _ (List.mem_of_getElem? (i := 1) rfl)) (hw _ (List.mem_of_getElem? (i := 2) rfl)) (hw _ (List.mem_of_getElem? (i := 3) rfl)) (by decide) (rm1 l Z a0 hw [] n0 x0 h0 hn0) pd_1 rfl rfl (by rw [hml]; rfl) (pc' := 22) rfl (hb hby at_19) (argsL := [(.long x0)]) (rest := []) rfl (W := 0) (Nat.le_of_eq rfl) (by decide) (by decide) (by decide) (by decide) (fun v465 T465 h465 X465 hQ465 => ?_)
  obtain ⟨a465, rfl, G465, S465, K465, V465⟩ := hQ465
  have zs465 : n0 ≤ h465.size := Nat.le_trans hn0 K465.1
  show Go p e below s n0 _ _ _ (T465.setTop (mkF m 22 #[.val (.long x0), .second, .val (.long x1), .second, .val (.int x2), .val (.int order), .val (.int width), .unset, .unset, .unset, .unset] [(.ref a465)]))
  refine g_astore X465 hx (pc' := 24) rfl (hb hby at_22) rfl (l' := #[.val (.long x0), .second, .val (.long x1), .second, .val (.int x2), .val (.int order), .val (.int width), .val (.ref a465), .unset, .unset, .unset]) rfl ?_
  refine g_lloadN X465 hx (pc' := 25) rfl (hb hby at_24) rfl ?_
  refine g_callS X465 hx hZ hown (hw _ (List.mem_of_getElem? (i := 0) rfl)) (hw _ (List.mem_of_getElem? (i := 1) rfl)) (hw _ (List.mem_of_getElem? (i := 2) rfl)) (hw _ (List.mem_of_getElem? (i := 3) rfl)) (by decide) (rm1 l Z a0 hw [] n0 x0 h465 zs465) pd_1 rfl rfl (by rw [hml]; rfl) (pc' := 28) rfl (hb hby at_25) (argsL := [(.long x0)]) (rest := []) rfl (W := 0) (Nat.le_of_eq rfl) (by decide) (by decide) (by decide) (by decide) (fun v466 T466 h466 X466 hQ466 => ?_)
  obtain ⟨a466, rfl, G466, S466, K466, V466⟩ := hQ466
  have ne466_a465 : a465 ≠ a466 := Nat.ne_of_lt (Nat.lt_of_lt_of_le V465.lt S466)
  have f467 := V465.keep K466 nin0
  have zs466 : n0 ≤ h466.size := Nat.le_trans zs465 K466.1
  show Go p e below s n0 _ _ _ (T466.setTop (mkF m 28 #[.val (.long x0), .second, .val (.long x1), .second, .val (.int x2), .val (.int order), .val (.int width), .val (.ref a465), .unset, .unset, .unset] [(.ref a466)]))
  refine g_astore X466 hx (pc' := 30) rfl (hb hby at_28) rfl (l' := #[.val (.long x0), .second, .val (.long x1), .second, .val (.int x2), .val (.int order), .val (.int width), .val (.ref a465), .val (.ref a466), .unset, .unset]) rfl ?_
  refine g_lloadN X466 hx (pc' := 31) rfl (hb hby at_30) rfl ?_
  refine g_callS X466 hx hZ hown (hw _ (List.mem_of_getElem? (i := 13) rfl)) (hw _ (List.mem_of_getElem? (i := 14) rfl)) (hw _ (List.mem_of_getElem? (i := 2) rfl)) (hw _ (List.mem_of_getElem? (i := 15) rfl)) (by decide) (rm4 l Z a0 hw [] n0 x1 h466 zs466) pd_1 rfl rfl (by rw [hml]; rfl) (pc' := 34) rfl (hb hby at_31) (argsL := [(.long x1)]) (rest := []) rfl (W := 0) (Nat.le_of_eq rfl) (by decide) (by decide) (by decide) (by decide) (fun v468 T468 h468 X468 hQ468 => ?_)
  obtain ⟨a468, rfl, G468, S468, K468, V468⟩ := hQ468
  have ne468_a465 : a465 ≠ a468 := Nat.ne_of_lt (Nat.lt_of_lt_of_le f467.lt S468)
  have f469 := f467.keep K468 nin0
  have ne468_a466 : a466 ≠ a468 := Nat.ne_of_lt (Nat.lt_of_lt_of_le V466.lt S468)
  have f470 := V466.keep K468 nin0
  have zs468 : n0 ≤ h468.size := Nat.le_trans zs466 K468.1
  show Go p e below s n0 _ _ _ (T468.setTop (mkF m 34 #[.val (.long x0), .second, .val (.long x1), .second, .val (.int x2), .val (.int order), .val (.int width), .val (.ref a465), .val (.ref a466), .unset, .unset] [(.ref a468)]))
  refine g_astore X468 hx (pc' := 36) rfl (hb hby at_34) rfl (l' := #[.val (.long x0), .second, .val (.long x1), .second, .val (.int x2), .val (.int order), .val (.int width), .val (.ref a465), .val (.ref a466), .val (.ref a468), .unset]) rfl ?_
  refine g_lloadN X468 hx (pc' := 37) rfl (hb hby at_36) rfl ?_
  refine g_callS X468 hx hZ hown (hw _ (List.mem_of_getElem? (i := 13) rfl)) (hw _ (List.mem_of_getElem? (i := 14) rfl)) (hw _ (List.mem_of_getElem? (i := 2) rfl)) (hw _ (List.mem_of_getElem? (i := 15) rfl)) (by decide) (rm4 l Z a0 hw [] n0 x1 h468 zs468) pd_1 rfl rfl (by rw [hml]; rfl) (pc' := 40) rfl (hb hby at_37) (argsL := [(.long x1)]) (rest := []) rfl (W := 0) (Nat.le_of_eq rfl) (by decide) (by decide) (by decide) (by decide) (fun v471 T471 h471 X471 hQ471 => ?_)
  obtain ⟨a471, rfl, G471, S471, K471, V471⟩ := hQ471
  have ne471_a465 : a465 ≠ a471 := Nat.ne_of_lt (Nat.lt_of_lt_of_le f469.lt S471)
  have f472 := f469.keep K471 nin0
  have ne471_a466 : a466 ≠ a471 := Nat.ne_of_lt (Nat.lt_of_lt_of_le f470.lt S471)
  have f473 := f470.keep K471 nin0
  have ne471_a468 : a468 ≠ a471 := Nat.ne_of_lt (Nat.lt_of_lt_of_le V468.lt S471)
  have f474 := V468.keep K471 nin0
  have zs471 : n0 ≤ h471.size := Nat.le_trans zs468 K471.1
  show Go p e below s n0 _ _ _ (T471.setTop (mkF m 40 #[.val (.long x0), .second, .val (.long x1), .second, .val (.int x2), .val (.int order), .val (.int width), .val (.ref a465), .val (.ref a466), .val (.ref a468), .unset] [(.ref a471)]))
  refine g_astore X471 hx (pc' := 42) rfl (hb hby at_40) rfl (l' := #[.val (.long x0), .second, .val (.long x1), .second, .val (.int x2), .val (.int order), .val (.int width), .val (.ref a465), .val (.ref a466), .val (.ref a468), .val (.ref a471)]) rfl ?_
  refine g_aload X471 hx (pc' := 44) rfl (hb hby at_42) rfl rfl ?_
  refine g_iconst X471 hx (pc' := 45) (z := (4 : Int32)) rfl (hb hby at_44) rfl ?_
  refine g_iload X471 hx (pc' := 47) rfl (hb hby at_45) rfl ?_
  refine g_aload X471 hx (pc' := 49) rfl (hb hby at_47) rfl rfl ?_
  refine g_iload X471 hx (pc' := 51) rfl (hb hby at_49) rfl ?_
  refine g_callS X471 hx hZ hown (hw _ (List.mem_of_getElem? (i := 16) rfl)) (hw _ (List.mem_of_getElem? (i := 17) rfl)) (hw _ (List.mem_of_getElem? (i := 18) rfl)) (hw _ (List.mem_of_getElem? (i := 19) rfl)) (by decide) (rm5 l Z a0 hw [] n0 a465 a468 x0 x1 order width h471 zs471 ho hwd f472 f474 ne468_a465 G468) pd_2 rfl rfl (by rw [hml]; rfl) (pc' := 54) rfl (hb hby at_51) (argsL := [(.ref a465), (.int (4 : Int32)), (.int order), (.ref a468), (.int width)]) (rest := []) rfl (W := 0) (Nat.le_of_eq rfl) (by decide) (by decide) (by decide) (by decide) (fun v475 T475 h475 X475 hQ475 => ?_)
  obtain ⟨rfl, K475, xs, A475, L475, C475⟩ := hQ475
  have f476 := f472.keep K475 (ninS ne468_a465 nin0)
  have f477 := f473.keep K475 (ninS ne468_a466 nin0)
  have f478 := V471.keep K475 (ninS ne471_a468.symm nin0)
  have zs475 : n0 ≤ h475.size := Nat.le_trans zs471 K475.1
  show Go p e below s n0 _ _ _ (T475.setTop (mkF m 54 #[.val (.long x0), .second, .val (.long x1), .second, .val (.int x2), .val (.int order), .val (.int width), .val (.ref a465), .val (.ref a466), .val (.ref a468), .val (.ref a471)] []))
  refine g_aload X475 hx (pc' := 56) rfl (hb hby at_54) rfl rfl ?_
  refine g_aload X475 hx (pc' := 58) rfl (hb hby at_56) rfl rfl ?_
  refine g_aload X475 hx (pc' := 60) rfl (hb hby at_58) rfl rfl ?_
  refine g_iload X475 hx (pc' := 62) rfl (hb hby at_60) rfl ?_
  refine g_iload X475 hx (pc' := 64) rfl (hb hby at_62) rfl ?_
  refine g_iconst X475 hx (pc' := 65) (z := (0 : Int32)) rfl (hb hby at_64) rfl ?_
  refine g_callS X475 hx hZ hown (hw _ (List.mem_of_getElem? (i := 20) rfl)) (hw _ (List.mem_of_getElem? (i := 21) rfl)) (hw _ (List.mem_of_getElem? (i := 2) rfl)) (hw _ (List.mem_of_getElem? (i := 22) rfl)) (by decide) (rm6 l Z a0 hw [] n0 a466 a468 a471 (tL x0) xs (cL x1) order width (0 : Int32) 0 h475 zs475 f477 A475 f478 rfl L475 rfl ho' hwd hw0 rfl (by decide) (C475 0 (by decide))) pd_3 rfl rfl (by rw [hml]; rfl) (pc' := 68) rfl (hb hby at_65) (argsL := [(.ref a466), (.ref a468), (.ref a471), (.int order), (.int width), (.int (0 : Int32))]) (rest := []) rfl (W := 0) (Nat.le_of_eq rfl) (by decide) (by decide) (by decide) (by decide) (fun v479 T479 h479 X479 hQ479 => ?_)
  obtain ⟨rfl, he479⟩ := hQ479
  rw [he479] at X479
  show Go p e below s n0 _ _ _ (T479.setTop (mkF m 68 #[.val (.long x0), .second, .val (.long x1), .second, .val (.int x2), .val (.int order), .val (.int width), .val (.ref a465), .val (.ref a466), .val (.ref a468), .val (.ref a471)] [(.int (1 : Int32))]))
  refine g_ifN X479 hx (pcN := 71) (hb hby at_68) rfl (show ¬ ((1 : Int32) = 0) from by decide) ?_
  refine g_aload X479 hx (pc' := 73) rfl (hb hby at_71) rfl rfl ?_
  refine g_aload X479 hx (pc' := 75) rfl (hb hby at_73) rfl rfl ?_
  refine g_aload X479 hx (pc' := 77) rfl (hb hby at_75) rfl rfl ?_
  refine g_iload X479 hx (pc' := 79) rfl (hb hby at_77) rfl ?_
  refine g_iload X479 hx (pc' := 81) rfl (hb hby at_79) rfl ?_
  refine g_iconst X479 hx (pc' := 82) (z := (1 : Int32)) rfl (hb hby at_81) rfl ?_
  refine g_callS X479 hx hZ hown (hw _ (List.mem_of_getElem? (i := 20) rfl)) (hw _ (List.mem_of_getElem? (i := 21) rfl)) (hw _ (List.mem_of_getElem? (i := 2) rfl)) (hw _ (List.mem_of_getElem? (i := 22) rfl)) (by decide) (rm6 l Z a0 hw [] n0 a466 a468 a471 (tL x0) xs (cL x1) order width (1 : Int32) 1 h475 zs475 f477 A475 f478 rfl L475 rfl ho' hwd hw0 rfl (by decide) (C475 1 (by decide))) pd_3 rfl rfl (by rw [hml]; rfl) (pc' := 85) rfl (hb hby at_82) (argsL := [(.ref a466), (.ref a468), (.ref a471), (.int order), (.int width), (.int (1 : Int32))]) (rest := []) rfl (W := 0) (Nat.le_of_eq rfl) (by decide) (by decide) (by decide) (by decide) (fun v480 T480 h480 X480 hQ480 => ?_)
  obtain ⟨rfl, he480⟩ := hQ480
  rw [he480] at X480
  show Go p e below s n0 _ _ _ (T480.setTop (mkF m 85 #[.val (.long x0), .second, .val (.long x1), .second, .val (.int x2), .val (.int order), .val (.int width), .val (.ref a465), .val (.ref a466), .val (.ref a468), .val (.ref a471)] [(.int (1 : Int32))]))
  refine g_ifN X480 hx (pcN := 88) (hb hby at_85) rfl (show ¬ ((1 : Int32) = 0) from by decide) ?_
  refine g_aload X480 hx (pc' := 90) rfl (hb hby at_88) rfl rfl ?_
  refine g_aload X480 hx (pc' := 92) rfl (hb hby at_90) rfl rfl ?_
  refine g_aload X480 hx (pc' := 94) rfl (hb hby at_92) rfl rfl ?_
  refine g_iload X480 hx (pc' := 96) rfl (hb hby at_94) rfl ?_
  refine g_iload X480 hx (pc' := 98) rfl (hb hby at_96) rfl ?_
  refine g_iconst X480 hx (pc' := 99) (z := (2 : Int32)) rfl (hb hby at_98) rfl ?_
  refine g_callS X480 hx hZ hown (hw _ (List.mem_of_getElem? (i := 20) rfl)) (hw _ (List.mem_of_getElem? (i := 21) rfl)) (hw _ (List.mem_of_getElem? (i := 2) rfl)) (hw _ (List.mem_of_getElem? (i := 22) rfl)) (by decide) (rm6 l Z a0 hw [] n0 a466 a468 a471 (tL x0) xs (cL x1) order width (2 : Int32) 2 h475 zs475 f477 A475 f478 rfl L475 rfl ho' hwd hw0 rfl (by decide) (C475 2 (by decide))) pd_3 rfl rfl (by rw [hml]; rfl) (pc' := 102) rfl (hb hby at_99) (argsL := [(.ref a466), (.ref a468), (.ref a471), (.int order), (.int width), (.int (2 : Int32))]) (rest := []) rfl (W := 0) (Nat.le_of_eq rfl) (by decide) (by decide) (by decide) (by decide) (fun v481 T481 h481 X481 hQ481 => ?_)
  obtain ⟨rfl, he481⟩ := hQ481
  rw [he481] at X481
  show Go p e below s n0 _ _ _ (T481.setTop (mkF m 102 #[.val (.long x0), .second, .val (.long x1), .second, .val (.int x2), .val (.int order), .val (.int width), .val (.ref a465), .val (.ref a466), .val (.ref a468), .val (.ref a471)] [(.int (1 : Int32))]))
  refine g_ifN X481 hx (pcN := 105) (hb hby at_102) rfl (show ¬ ((1 : Int32) = 0) from by decide) ?_
  refine g_aload X481 hx (pc' := 107) rfl (hb hby at_105) rfl rfl ?_
  refine g_aload X481 hx (pc' := 109) rfl (hb hby at_107) rfl rfl ?_
  refine g_aload X481 hx (pc' := 111) rfl (hb hby at_109) rfl rfl ?_
  refine g_iload X481 hx (pc' := 113) rfl (hb hby at_111) rfl ?_
  refine g_iload X481 hx (pc' := 115) rfl (hb hby at_113) rfl ?_
  refine g_iconst X481 hx (pc' := 116) (z := (3 : Int32)) rfl (hb hby at_115) rfl ?_
  refine g_callS X481 hx hZ hown (hw _ (List.mem_of_getElem? (i := 20) rfl)) (hw _ (List.mem_of_getElem? (i := 21) rfl)) (hw _ (List.mem_of_getElem? (i := 2) rfl)) (hw _ (List.mem_of_getElem? (i := 22) rfl)) (by decide) (rm6 l Z a0 hw [] n0 a466 a468 a471 (tL x0) xs (cL x1) order width (3 : Int32) 3 h475 zs475 f477 A475 f478 rfl L475 rfl ho' hwd hw0 rfl (by decide) (C475 3 (by decide))) pd_3 rfl rfl (by rw [hml]; rfl) (pc' := 119) rfl (hb hby at_116) (argsL := [(.ref a466), (.ref a468), (.ref a471), (.int order), (.int width), (.int (3 : Int32))]) (rest := []) rfl (W := 0) (Nat.le_of_eq rfl) (by decide) (by decide) (by decide) (by decide) (fun v482 T482 h482 X482 hQ482 => ?_)
  obtain ⟨rfl, he482⟩ := hQ482
  rw [he482] at X482
  show Go p e below s n0 _ _ _ (T482.setTop (mkF m 119 #[.val (.long x0), .second, .val (.long x1), .second, .val (.int x2), .val (.int order), .val (.int width), .val (.ref a465), .val (.ref a466), .val (.ref a468), .val (.ref a471)] [(.int (1 : Int32))]))
  refine g_ifN X482 hx (pcN := 122) (hb hby at_119) rfl (show ¬ ((1 : Int32) = 0) from by decide) ?_
  refine g_aload X482 hx (pc' := 124) rfl (hb hby at_122) rfl rfl ?_
  refine g_aload X482 hx (pc' := 126) rfl (hb hby at_124) rfl rfl ?_
  refine g_aload X482 hx (pc' := 128) rfl (hb hby at_126) rfl rfl ?_
  refine g_iload X482 hx (pc' := 130) rfl (hb hby at_128) rfl ?_
  refine g_iload X482 hx (pc' := 132) rfl (hb hby at_130) rfl ?_
  refine g_iconst X482 hx (pc' := 133) (z := (4 : Int32)) rfl (hb hby at_132) rfl ?_
  refine g_callS X482 hx hZ hown (hw _ (List.mem_of_getElem? (i := 20) rfl)) (hw _ (List.mem_of_getElem? (i := 21) rfl)) (hw _ (List.mem_of_getElem? (i := 2) rfl)) (hw _ (List.mem_of_getElem? (i := 22) rfl)) (by decide) (rm6 l Z a0 hw [] n0 a466 a468 a471 (tL x0) xs (cL x1) order width (4 : Int32) 4 h475 zs475 f477 A475 f478 rfl L475 rfl ho' hwd hw0 rfl (by decide) (C475 4 (by decide))) pd_3 rfl rfl (by rw [hml]; rfl) (pc' := 136) rfl (hb hby at_133) (argsL := [(.ref a466), (.ref a468), (.ref a471), (.int order), (.int width), (.int (4 : Int32))]) (rest := []) rfl (W := 0) (Nat.le_of_eq rfl) (by decide) (by decide) (by decide) (by decide) (fun v483 T483 h483 X483 hQ483 => ?_)
  obtain ⟨rfl, he483⟩ := hQ483
  rw [he483] at X483
  show Go p e below s n0 _ _ _ (T483.setTop (mkF m 136 #[.val (.long x0), .second, .val (.long x1), .second, .val (.int x2), .val (.int order), .val (.int width), .val (.ref a465), .val (.ref a466), .val (.ref a468), .val (.ref a471)] [(.int (1 : Int32))]))
  refine g_ifN X483 hx (pcN := 139) (hb hby at_136) rfl (show ¬ ((1 : Int32) = 0) from by decide) ?_
  refine g_aload X483 hx (pc' := 141) rfl (hb hby at_139) rfl rfl ?_
  refine g_aload X483 hx (pc' := 143) rfl (hb hby at_141) rfl rfl ?_
  refine g_aload X483 hx (pc' := 145) rfl (hb hby at_143) rfl rfl ?_
  refine g_iload X483 hx (pc' := 147) rfl (hb hby at_145) rfl ?_
  refine g_iload X483 hx (pc' := 149) rfl (hb hby at_147) rfl ?_
  refine g_iconst X483 hx (pc' := 150) (z := (5 : Int32)) rfl (hb hby at_149) rfl ?_
  refine g_callS X483 hx hZ hown (hw _ (List.mem_of_getElem? (i := 20) rfl)) (hw _ (List.mem_of_getElem? (i := 21) rfl)) (hw _ (List.mem_of_getElem? (i := 2) rfl)) (hw _ (List.mem_of_getElem? (i := 22) rfl)) (by decide) (rm6 l Z a0 hw [] n0 a466 a468 a471 (tL x0) xs (cL x1) order width (5 : Int32) 5 h475 zs475 f477 A475 f478 rfl L475 rfl ho' hwd hw0 rfl (by decide) (C475 5 (by decide))) pd_3 rfl rfl (by rw [hml]; rfl) (pc' := 153) rfl (hb hby at_150) (argsL := [(.ref a466), (.ref a468), (.ref a471), (.int order), (.int width), (.int (5 : Int32))]) (rest := []) rfl (W := 0) (Nat.le_of_eq rfl) (by decide) (by decide) (by decide) (by decide) (fun v484 T484 h484 X484 hQ484 => ?_)
  obtain ⟨rfl, he484⟩ := hQ484
  rw [he484] at X484
  show Go p e below s n0 _ _ _ (T484.setTop (mkF m 153 #[.val (.long x0), .second, .val (.long x1), .second, .val (.int x2), .val (.int order), .val (.int width), .val (.ref a465), .val (.ref a466), .val (.ref a468), .val (.ref a471)] [(.int (1 : Int32))]))
  refine g_ifN X484 hx (pcN := 156) (hb hby at_153) rfl (show ¬ ((1 : Int32) = 0) from by decide) ?_
  refine g_aload X484 hx (pc' := 158) rfl (hb hby at_156) rfl rfl ?_
  refine g_aload X484 hx (pc' := 160) rfl (hb hby at_158) rfl rfl ?_
  refine g_aload X484 hx (pc' := 162) rfl (hb hby at_160) rfl rfl ?_
  refine g_iload X484 hx (pc' := 164) rfl (hb hby at_162) rfl ?_
  refine g_iload X484 hx (pc' := 166) rfl (hb hby at_164) rfl ?_
  refine g_bipush X484 hx (pc' := 168) (z := (6 : Int32)) rfl (hb hby at_166) rfl ?_
  refine g_callS X484 hx hZ hown (hw _ (List.mem_of_getElem? (i := 20) rfl)) (hw _ (List.mem_of_getElem? (i := 21) rfl)) (hw _ (List.mem_of_getElem? (i := 2) rfl)) (hw _ (List.mem_of_getElem? (i := 22) rfl)) (by decide) (rm6 l Z a0 hw [] n0 a466 a468 a471 (tL x0) xs (cL x1) order width (6 : Int32) 6 h475 zs475 f477 A475 f478 rfl L475 rfl ho' hwd hw0 rfl (by decide) (C475 6 (by decide))) pd_3 rfl rfl (by rw [hml]; rfl) (pc' := 171) rfl (hb hby at_168) (argsL := [(.ref a466), (.ref a468), (.ref a471), (.int order), (.int width), (.int (6 : Int32))]) (rest := []) rfl (W := 0) (Nat.le_of_eq rfl) (by decide) (by decide) (by decide) (by decide) (fun v485 T485 h485 X485 hQ485 => ?_)
  obtain ⟨rfl, he485⟩ := hQ485
  rw [he485] at X485
  show Go p e below s n0 _ _ _ (T485.setTop (mkF m 171 #[.val (.long x0), .second, .val (.long x1), .second, .val (.int x2), .val (.int order), .val (.int width), .val (.ref a465), .val (.ref a466), .val (.ref a468), .val (.ref a471)] [(.int (1 : Int32))]))
  refine g_ifN X485 hx (pcN := 174) (hb hby at_171) rfl (show ¬ ((1 : Int32) = 0) from by decide) ?_
  refine g_aload X485 hx (pc' := 176) rfl (hb hby at_174) rfl rfl ?_
  refine g_aload X485 hx (pc' := 178) rfl (hb hby at_176) rfl rfl ?_
  refine g_aload X485 hx (pc' := 180) rfl (hb hby at_178) rfl rfl ?_
  refine g_iload X485 hx (pc' := 182) rfl (hb hby at_180) rfl ?_
  refine g_iload X485 hx (pc' := 184) rfl (hb hby at_182) rfl ?_
  refine g_bipush X485 hx (pc' := 186) (z := (7 : Int32)) rfl (hb hby at_184) rfl ?_
  refine g_callS X485 hx hZ hown (hw _ (List.mem_of_getElem? (i := 20) rfl)) (hw _ (List.mem_of_getElem? (i := 21) rfl)) (hw _ (List.mem_of_getElem? (i := 2) rfl)) (hw _ (List.mem_of_getElem? (i := 22) rfl)) (by decide) (rm6 l Z a0 hw [] n0 a466 a468 a471 (tL x0) xs (cL x1) order width (7 : Int32) 7 h475 zs475 f477 A475 f478 rfl L475 rfl ho' hwd hw0 rfl (by decide) (C475 7 (by decide))) pd_3 rfl rfl (by rw [hml]; rfl) (pc' := 189) rfl (hb hby at_186) (argsL := [(.ref a466), (.ref a468), (.ref a471), (.int order), (.int width), (.int (7 : Int32))]) (rest := []) rfl (W := 0) (Nat.le_of_eq rfl) (by decide) (by decide) (by decide) (by decide) (fun v486 T486 h486 X486 hQ486 => ?_)
  obtain ⟨rfl, he486⟩ := hQ486
  rw [he486] at X486
  show Go p e below s n0 _ _ _ (T486.setTop (mkF m 189 #[.val (.long x0), .second, .val (.long x1), .second, .val (.int x2), .val (.int order), .val (.int width), .val (.ref a465), .val (.ref a466), .val (.ref a468), .val (.ref a471)] [(.int (1 : Int32))]))
  refine g_ifN X486 hx (pcN := 192) (hb hby at_189) rfl (show ¬ ((1 : Int32) = 0) from by decide) ?_
  refine g_aload X486 hx (pc' := 194) rfl (hb hby at_192) rfl rfl ?_
  refine g_aload X486 hx (pc' := 196) rfl (hb hby at_194) rfl rfl ?_
  refine g_aload X486 hx (pc' := 198) rfl (hb hby at_196) rfl rfl ?_
  refine g_iload X486 hx (pc' := 200) rfl (hb hby at_198) rfl ?_
  refine g_iload X486 hx (pc' := 202) rfl (hb hby at_200) rfl ?_
  refine g_bipush X486 hx (pc' := 204) (z := (8 : Int32)) rfl (hb hby at_202) rfl ?_
  refine g_callS X486 hx hZ hown (hw _ (List.mem_of_getElem? (i := 20) rfl)) (hw _ (List.mem_of_getElem? (i := 21) rfl)) (hw _ (List.mem_of_getElem? (i := 2) rfl)) (hw _ (List.mem_of_getElem? (i := 22) rfl)) (by decide) (rm6 l Z a0 hw [] n0 a466 a468 a471 (tL x0) xs (cL x1) order width (8 : Int32) 8 h475 zs475 f477 A475 f478 rfl L475 rfl ho' hwd hw0 rfl (by decide) (C475 8 (by decide))) pd_3 rfl rfl (by rw [hml]; rfl) (pc' := 207) rfl (hb hby at_204) (argsL := [(.ref a466), (.ref a468), (.ref a471), (.int order), (.int width), (.int (8 : Int32))]) (rest := []) rfl (W := 0) (Nat.le_of_eq rfl) (by decide) (by decide) (by decide) (by decide) (fun v487 T487 h487 X487 hQ487 => ?_)
  obtain ⟨rfl, he487⟩ := hQ487
  rw [he487] at X487
  show Go p e below s n0 _ _ _ (T487.setTop (mkF m 207 #[.val (.long x0), .second, .val (.long x1), .second, .val (.int x2), .val (.int order), .val (.int width), .val (.ref a465), .val (.ref a466), .val (.ref a468), .val (.ref a471)] [(.int (1 : Int32))]))
  refine g_ifN X487 hx (pcN := 210) (hb hby at_207) rfl (show ¬ ((1 : Int32) = 0) from by decide) ?_
  refine g_aload X487 hx (pc' := 212) rfl (hb hby at_210) rfl rfl ?_
  refine g_aload X487 hx (pc' := 214) rfl (hb hby at_212) rfl rfl ?_
  refine g_aload X487 hx (pc' := 216) rfl (hb hby at_214) rfl rfl ?_
  refine g_iload X487 hx (pc' := 218) rfl (hb hby at_216) rfl ?_
  refine g_iload X487 hx (pc' := 220) rfl (hb hby at_218) rfl ?_
  refine g_bipush X487 hx (pc' := 222) (z := (9 : Int32)) rfl (hb hby at_220) rfl ?_
  refine g_callS X487 hx hZ hown (hw _ (List.mem_of_getElem? (i := 20) rfl)) (hw _ (List.mem_of_getElem? (i := 21) rfl)) (hw _ (List.mem_of_getElem? (i := 2) rfl)) (hw _ (List.mem_of_getElem? (i := 22) rfl)) (by decide) (rm6 l Z a0 hw [] n0 a466 a468 a471 (tL x0) xs (cL x1) order width (9 : Int32) 9 h475 zs475 f477 A475 f478 rfl L475 rfl ho' hwd hw0 rfl (by decide) (C475 9 (by decide))) pd_3 rfl rfl (by rw [hml]; rfl) (pc' := 225) rfl (hb hby at_222) (argsL := [(.ref a466), (.ref a468), (.ref a471), (.int order), (.int width), (.int (9 : Int32))]) (rest := []) rfl (W := 0) (Nat.le_of_eq rfl) (by decide) (by decide) (by decide) (by decide) (fun v488 T488 h488 X488 hQ488 => ?_)
  obtain ⟨rfl, he488⟩ := hQ488
  rw [he488] at X488
  show Go p e below s n0 _ _ _ (T488.setTop (mkF m 225 #[.val (.long x0), .second, .val (.long x1), .second, .val (.int x2), .val (.int order), .val (.int width), .val (.ref a465), .val (.ref a466), .val (.ref a468), .val (.ref a471)] [(.int (1 : Int32))]))
  refine g_ifN X488 hx (pcN := 228) (hb hby at_225) rfl (show ¬ ((1 : Int32) = 0) from by decide) ?_
  refine g_aload X488 hx (pc' := 230) rfl (hb hby at_228) rfl rfl ?_
  refine g_aload X488 hx (pc' := 232) rfl (hb hby at_230) rfl rfl ?_
  refine g_aload X488 hx (pc' := 234) rfl (hb hby at_232) rfl rfl ?_
  refine g_iload X488 hx (pc' := 236) rfl (hb hby at_234) rfl ?_
  refine g_iload X488 hx (pc' := 238) rfl (hb hby at_236) rfl ?_
  refine g_bipush X488 hx (pc' := 240) (z := (10 : Int32)) rfl (hb hby at_238) rfl ?_
  refine g_callS X488 hx hZ hown (hw _ (List.mem_of_getElem? (i := 20) rfl)) (hw _ (List.mem_of_getElem? (i := 21) rfl)) (hw _ (List.mem_of_getElem? (i := 2) rfl)) (hw _ (List.mem_of_getElem? (i := 22) rfl)) (by decide) (rm6 l Z a0 hw [] n0 a466 a468 a471 (tL x0) xs (cL x1) order width (10 : Int32) 10 h475 zs475 f477 A475 f478 rfl L475 rfl ho' hwd hw0 rfl (by decide) (C475 10 (by decide))) pd_3 rfl rfl (by rw [hml]; rfl) (pc' := 243) rfl (hb hby at_240) (argsL := [(.ref a466), (.ref a468), (.ref a471), (.int order), (.int width), (.int (10 : Int32))]) (rest := []) rfl (W := 0) (Nat.le_of_eq rfl) (by decide) (by decide) (by decide) (by decide) (fun v489 T489 h489 X489 hQ489 => ?_)
  obtain ⟨rfl, he489⟩ := hQ489
  rw [he489] at X489
  show Go p e below s n0 _ _ _ (T489.setTop (mkF m 243 #[.val (.long x0), .second, .val (.long x1), .second, .val (.int x2), .val (.int order), .val (.int width), .val (.ref a465), .val (.ref a466), .val (.ref a468), .val (.ref a471)] [(.int (1 : Int32))]))
  refine g_ifN X489 hx (pcN := 246) (hb hby at_243) rfl (show ¬ ((1 : Int32) = 0) from by decide) ?_
  refine g_aload X489 hx (pc' := 248) rfl (hb hby at_246) rfl rfl ?_
  refine g_aload X489 hx (pc' := 250) rfl (hb hby at_248) rfl rfl ?_
  refine g_aload X489 hx (pc' := 252) rfl (hb hby at_250) rfl rfl ?_
  refine g_iload X489 hx (pc' := 254) rfl (hb hby at_252) rfl ?_
  refine g_iload X489 hx (pc' := 256) rfl (hb hby at_254) rfl ?_
  refine g_bipush X489 hx (pc' := 258) (z := (11 : Int32)) rfl (hb hby at_256) rfl ?_
  refine g_callS X489 hx hZ hown (hw _ (List.mem_of_getElem? (i := 20) rfl)) (hw _ (List.mem_of_getElem? (i := 21) rfl)) (hw _ (List.mem_of_getElem? (i := 2) rfl)) (hw _ (List.mem_of_getElem? (i := 22) rfl)) (by decide) (rm6 l Z a0 hw [] n0 a466 a468 a471 (tL x0) xs (cL x1) order width (11 : Int32) 11 h475 zs475 f477 A475 f478 rfl L475 rfl ho' hwd hw0 rfl (by decide) (C475 11 (by decide))) pd_3 rfl rfl (by rw [hml]; rfl) (pc' := 261) rfl (hb hby at_258) (argsL := [(.ref a466), (.ref a468), (.ref a471), (.int order), (.int width), (.int (11 : Int32))]) (rest := []) rfl (W := 0) (Nat.le_of_eq rfl) (by decide) (by decide) (by decide) (by decide) (fun v490 T490 h490 X490 hQ490 => ?_)
  obtain ⟨rfl, he490⟩ := hQ490
  rw [he490] at X490
  show Go p e below s n0 _ _ _ (T490.setTop (mkF m 261 #[.val (.long x0), .second, .val (.long x1), .second, .val (.int x2), .val (.int order), .val (.int width), .val (.ref a465), .val (.ref a466), .val (.ref a468), .val (.ref a471)] [(.int (1 : Int32))]))
  refine g_ifN X490 hx (pcN := 264) (hb hby at_261) rfl (show ¬ ((1 : Int32) = 0) from by decide) ?_
  refine g_iconst X490 hx (pc' := 265) (z := (1 : Int32)) rfl (hb hby at_264) rfl ?_
  refine g_goto X490 hx (pc' := 269) (hb hby at_265) (by decide) (by decide) ?_
  exact g_retZ X490 hx hlk hret (Or.inr rfl) (hb hby at_269) (by decide) (by decide) (rfl)
set_option maxRecDepth 65536 in
set_option maxHeartbeats 40000000 in
theorem comes_1 {Post : Tables → Env → Array Value → State → Outcome → State → Prop} (hpost : ∀ tb e args s v u, (limb_1_1.after args s (.returned v) u = true ∧ limb_1_2.after args s (.returned v) u = true ∧ True) → FrameEnd s (.returned v) u (Jvm.fieldLocs frame_1_writes args s ++ Jvm.arrayLocs frame_1_arrays args s ++ Jvm.staticLocs frame_1_statics s) 16 192 → Post tb e args s (.returned v) u) :
    ArmFor flags0 classFile x code maxLocals ret World_1 tables_1 room_1 Calls_1 rest_1 Pre_1 Post := by
  intro l hfl _ _ p e ha hc hk s m args below hf hA hF happ hP
  obtain ⟨hcalls, hrest, hpre⟩ := hP
  obtain ⟨-, -, -, hnamed, -, -, -, hat⟩ := (Spec.applies_iff hf).mp happ
  obtain ⟨hg, hn⟩ := and_e (Cond.before_iff.mp (show (Jvm.Cond.and given_1 narrow_1).before args s = true from hpre))
  obtain ⟨hcount, hg0⟩ := and_e hg
  obtain ⟨ha0, hg1⟩ := and_e hg0
  obtain ⟨ha1, hg2⟩ := and_e hg1
  have ha2 := hg2
  obtain ⟨w0, w1, w2, rfl⟩ : ∃ w0 w1 w2 : Value, args = #[w0, w1, w2] := by
    have hs : args.size = 3 := by simpa [Cond.value, given_1] using hcount
    obtain ⟨L⟩ := args
    match L, hs with
    | [w0, w1, w2], _ => exact ⟨w0, w1, w2, rfl⟩
  have hw := fun d (hd : d ∈ tables_1) => atoms_spec (ws := Jvm.Cond.code x code maxLocals ret :: tables_1) hat d (List.mem_cons_of_mem _ hd)
  obtain ⟨i0, ei0⟩ := isL_v ha0
  obtain rfl : w0 = (.long i0) := Option.some.inj ei0
  obtain ⟨i1, ei1⟩ := isL_v ha1
  obtain rfl : w1 = (.long i1) := Option.some.inj ei1
  obtain ⟨i2, ei2⟩ := is_v ha2
  obtain rfl : w2 = (.int i2) := Option.some.inj ei2
  obtain ⟨n, o, h1, h2, h3, _, L, rfl, ⟨N, rfl⟩, hq⟩ := rm0 l s _ hw tables_1 s.heap.size i0 i1 i2 s.heap (Nat.le_refl _)  p e ha hc hk s m _ below hf ((Spec.applies_iff_loose hf).mp happ).1 ⟨rfl, State.Warmed39.refl s, rfl⟩ trivial
  refine ⟨n, _, h1, h2, h3, hpost _ _ _ _ _ _ ⟨Cond.after_iff.mpr rfl, Cond.after_iff.mpr (eq_i res_at (Term.int_eval (1)) rfl), trivial⟩ ⟨hq.1, hq.2.1, (hq.2.2.sift fun y hy => Or.inr (N y hy)).mono (by decide) (by decide)⟩⟩
theorem main_1_1 : Claimed_1_1 := comes_1 fun _ _ _ _ _ _ h hF => ⟨h.1, hF⟩
theorem main_1_2 : Claimed_1_2 := comes_1 fun _ _ _ _ _ _ h hF => ⟨h.2.1, hF⟩
end Jvm.Pilot.@@N@@
-- WITNESS
namespace Jvm.Pilot.@@N@@
open Jvm Jvm.ClassFile Sem Op Lib Jvm.Free Jvm.Stand Jvm.Pilot.@@N@@.Jvm.D
/-! MADE BY PROGRAM (witnessworld.py) out of the Statement's table words and the real class files: 11 classes; the members and pool entries that the words name. The judged class is class 1, her method 6. -/
namespace start1
open Jvm.ClassFile
def u (s : String) : CpInfo := .utf8 (stringToUtf16 s)
/-- a pool by its gaps: so many unusable entries, then the entry; so many at the end -/
def gap : Nat → List CpInfo → List CpInfo
  | 0, r => r
  | n + 1, r => .unusable :: gap n r
def poolList (es : List (Nat × CpInfo)) (last : Nat) : List CpInfo := es.foldr (fun e r => gap e.1 (e.2 :: r)) (gap last [])
def pool (es : List (Nat × CpInfo)) (last : Nat) : Array CpInfo := ⟨poolList es last⟩
def fileOf (pool : Array CpInfo) (this : Nat) (attrs : Array Attribute := #[]) (ms : Array MethodInfo := #[]) (fl : Nat := 33) (sup : Nat := 0) (ifs : Array Nat := #[]) (fds : Array FieldInfo := #[]) : ClassFile where
  minorVersion := 0
  majorVersion := 65
  constantPool := pool
  accessFlags := fl
  thisClass := this
  superClass := sup
  interfaces := ifs
  fields := fds
  methods := ms
  attributes := attrs
def plain (name : String) (sup : Option ClassId) : Class where
  name := name
  kind := .ordinary
  loader := none
  accessFlags := 33
  super := sup
  interfaces := #[]
  cf := none
  fields := #[]
  methods := #[]
  instanceTypes := #[]
  staticTypes := #[]
  resolved := #[]
  callSites := []
  init := .initialized
  statics := none
  mirror := none

def pool0 : Array CpInfo := pool [(5, u "<init>"), (0, u "()V"), (1, .class_ 10), (1, u "java/lang/Object")] 113

def k0m0 : Method := { name := "<init>", desc := "()V", sig := { parameters := [], returnType := none }, accessFlags := 1, code := none }
/-- java/lang/Object -/
def k0 : Class := { plain "java/lang/Object" none with
  accessFlags := 33
  interfaces := #[]
  cf := some (fileOf pool0 8 #[] #[{ accessFlags := 1, nameIndex := 5, descriptorIndex := 6, attributes := #[] }] 33 0 #[] #[])
  fields := #[]
  methods := #[k0m0]
  instanceTypes := #[]
  staticTypes := #[]
  resolved := Array.replicate 124 none
  statics := none }

def pool1 : Array CpInfo := pool [(2, .class_ 4), (1, u "java/lang/Object"), (0, u "<init>"), (0, u "()V"), (0, .long 3), (1, .long 15), (1, .methodref 12 13), (0, .class_ 14), (0, .nameAndType 15 16), (0, u "com/example/orthogon/orthogon/TriangularSolveUpperTransposedPinLaw"), (0, u "diag"), (0, u "(JI)D"), (0, .methodref 12 18), (0, .nameAndType 19 16), (0, u "nib"), (0, .methodref 12 21), (0, .nameAndType 22 23), (0, u "makeT"), (0, u "(J)[D"), (0, .methodref 12 25), (0, .nameAndType 26 23), (0, u "makeC"), (0, .methodref 28 29), (0, .class_ 30), (0, .nameAndType 31 32), (0, u "com/example/orthogon/orthogon/Triangular"), (0, u "solveUpperTransposed"), (0, u "([DII[DI)V"), (0, .methodref 12 34), (0, .nameAndType 35 36), (0, u "check"), (0, u "([D[D[DIII)Z"), (3, u "law"), (0, u "(JJI)Z")] 4

def k1m0 : Method := { name := "<init>", desc := "()V", sig := { parameters := [], returnType := none }, accessFlags := 2, code := none }
def k1c1 : Code := { maxStack := 4, maxLocals := 5, code := method_2_code, exceptionTable := #[], attributes := #[] }
def k1m1 : Method := { name := "diag", desc := "(JI)D", sig := { parameters := [.long, .int], returnType := some .double }, accessFlags := 10, code := some k1c1 }
def k1c2 : Code := { maxStack := 4, maxLocals := 3, code := method_3_code, exceptionTable := #[], attributes := #[] }
def k1m2 : Method := { name := "nib", desc := "(JI)D", sig := { parameters := [.long, .int], returnType := some .double }, accessFlags := 10, code := some k1c2 }
def k1c3 : Code := { maxStack := 5, maxLocals := 3, code := method_4_code, exceptionTable := #[], attributes := #[] }
def k1m3 : Method := { name := "makeT", desc := "(J)[D", sig := { parameters := [.long], returnType := some (.array .double) }, accessFlags := 10, code := some k1c3 }
def k1c4 : Code := { maxStack := 5, maxLocals := 3, code := method_5_code, exceptionTable := #[], attributes := #[] }
def k1m4 : Method := { name := "makeC", desc := "(J)[D", sig := { parameters := [.long], returnType := some (.array .double) }, accessFlags := 10, code := some k1c4 }
def k1c5 : Code := { maxStack := 7, maxLocals := 10, code := method_6_code, exceptionTable := #[], attributes := #[] }
def k1m5 : Method := { name := "check", desc := "([D[D[DIII)Z", sig := { parameters := [(.array .double), (.array .double), (.array .double), .int, .int, .int], returnType := some .boolean }, accessFlags := 10, code := some k1c5 }
def k1c6 : Code := { maxStack := 6, maxLocals := 11, code := code, exceptionTable := #[], attributes := #[] }
def k1m6 : Method := { name := "law", desc := "(JJI)Z", sig := { parameters := [.long, .long, .int], returnType := some .boolean }, accessFlags := 9, code := some k1c6 }
/-- com/example/orthogon/orthogon/TriangularSolveUpperTransposedPinLaw -/
def k1 : Class := { plain "com/example/orthogon/orthogon/TriangularSolveUpperTransposedPinLaw" (some 0) with
  accessFlags := 49
  interfaces := #[]
  cf := some (fileOf pool1 12 #[] #[{ accessFlags := 2, nameIndex := 5, descriptorIndex := 6, attributes := #[] }, { accessFlags := 10, nameIndex := 15, descriptorIndex := 16, attributes := #[] }, { accessFlags := 10, nameIndex := 19, descriptorIndex := 16, attributes := #[] }, { accessFlags := 10, nameIndex := 22, descriptorIndex := 23, attributes := #[] }, { accessFlags := 10, nameIndex := 26, descriptorIndex := 23, attributes := #[] }, { accessFlags := 10, nameIndex := 35, descriptorIndex := 36, attributes := #[] }, { accessFlags := 9, nameIndex := 40, descriptorIndex := 41, attributes := #[] }] 49 2 #[] #[])
  fields := #[]
  methods := #[k1m0, k1m1, k1m2, k1m3, k1m4, k1m5, k1m6]
  instanceTypes := #[]
  staticTypes := #[]
  resolved := Array.replicate 46 none
  statics := none }

def pool2 : Array CpInfo := pool [(2, .class_ 4), (1, u "java/lang/Object"), (0, u "<init>"), (0, u "()V"), (0, .class_ 8), (0, u "com/example/orthogon/orthogon/Triangular"), (3, u "([DII[DI)V"), (2, u "solveUpperTransposed")] 2

def k2m0 : Method := { name := "<init>", desc := "()V", sig := { parameters := [], returnType := none }, accessFlags := 2, code := none }
def k2c1 : Code := { maxStack := 9, maxLocals := 14, code := prog_16_method_4_code, exceptionTable := #[], attributes := #[] }
def k2m1 : Method := { name := "solveUpperTransposed", desc := "([DII[DI)V", sig := { parameters := [(.array .double), .int, .int, (.array .double), .int], returnType := none }, accessFlags := 8, code := some k2c1 }
/-- com/example/orthogon/orthogon/Triangular -/
def k2 : Class := { plain "com/example/orthogon/orthogon/Triangular" (some 0) with
  accessFlags := 48
  interfaces := #[]
  cf := some (fileOf pool2 7 #[] #[{ accessFlags := 2, nameIndex := 5, descriptorIndex := 6, attributes := #[] }, { accessFlags := 8, nameIndex := 15, descriptorIndex := 12, attributes := #[] }] 48 2 #[] #[])
  fields := #[]
  methods := #[k2m0, k2m1]
  instanceTypes := #[]
  staticTypes := #[]
  resolved := Array.replicate 18 none
  statics := none }

def pool3 : Array CpInfo := pool [(1, u "java/lang/Cloneable"), (0, .class_ 1), (0, u "java/lang/Object"), (0, .class_ 3)] 3

/-- java/lang/Cloneable -/
def k3 : Class := { plain "java/lang/Cloneable" (some 0) with
  accessFlags := 1537
  interfaces := #[]
  cf := some (fileOf pool3 2 #[] #[] 1537 4 #[] #[])
  fields := #[]
  methods := #[]
  instanceTypes := #[]
  staticTypes := #[]
  resolved := Array.replicate 8 none
  statics := none }

def pool4 : Array CpInfo := pool [(1, u "java/io/Serializable"), (0, .class_ 1), (0, u "java/lang/Object"), (0, .class_ 3)] 3

/-- java/io/Serializable -/
def k4 : Class := { plain "java/io/Serializable" (some 0) with
  accessFlags := 1537
  interfaces := #[]
  cf := some (fileOf pool4 2 #[] #[] 1537 4 #[] #[])
  fields := #[]
  methods := #[]
  instanceTypes := #[]
  staticTypes := #[]
  resolved := Array.replicate 8 none
  statics := none }

/-- the primitive byte -/
def k5 : Class := { plain "byte" none with kind := .primitive 'B', accessFlags := 0x411 }
/-- [B -/
def k6 : Class := { plain "[B" (some 0) with kind := .array 5 .byte, interfaces := #[3, 4], accessFlags := 1041 }

/-- the primitive int -/
def k7 : Class := { plain "int" none with kind := .primitive 'I', accessFlags := 0x411 }
/-- [I -/
def k8 : Class := { plain "[I" (some 0) with kind := .array 7 .int, interfaces := #[3, 4], accessFlags := 1041 }

/-- the primitive short -/
def k9 : Class := { plain "double" none with kind := .primitive 'D', accessFlags := 0x411 }
/-- [S -/
def k10 : Class := { plain "[D" (some 0) with kind := .array 9 .double, interfaces := #[3, 4], accessFlags := 1041 }

def heap : Heap := #[]
def classes : Array Class := #[k0, k1, k2, k3, k4, k5, k6, k7, k8, k9, k10]
def interned : List (Array UInt16 × Addr) := []
def slotsUsed : Nat := 0
def theMethod : MethodId := ⟨1, 6⟩
def args0 : Array Value := #[.long 5, .long 3, .int 2]
def aboutOver (below : List Frame) : State where
  vm := { classes := classes, interned := interned.toArray }
  heap := heap
  slotsUsed := slotsUsed
  threads := #[{ frames := .invoking theMethod args0 :: below }]
def below0 : List Frame := [.native { method := ⟨0, 0⟩, args := #[] }]
def about1 : State := aboutOver below0
def p0 : Program := .bare "" "" ""
def e0 : Env := launch0.env 0 0 0
theorem w_frames : about1.frames = Frame.invoking theMethod args0 :: below0 := rfl
set_option maxRecDepth 65536 in
theorem w_args : argsFit about1.vm theMethod args0 = true := by decide +kernel
set_option maxRecDepth 65536 in
theorem w_heap : heapFits about1 = true := by decide +kernel
set_option maxRecDepth 65536 in
theorem w_runnable : about1.curStatus? = some .runnable := by decide +kernel
set_option maxRecDepth 65536 in
theorem w_alone : about1.alone = true := by decide +kernel
set_option maxRecDepth 65536 in
theorem w_named : about1.methodNamed? x = some theMethod := by decide +kernel
set_option maxRecDepth 65536 in
theorem w_hears : about1.hears theMethod below0 = true := by decide +kernel
set_option maxRecDepth 65536 in
theorem w_ripe : about1.ripe theMethod args0 below0 = true := by decide +kernel
theorem w_running : about1.status = .running := rfl
set_option maxRecDepth 65536 in
theorem w_room : about1.hasRoom e0.platform room_1 = true :=
  launch0.hasRoom_least _ room_1 (by decide +kernel) (by decide +kernel) (by decide +kernel) (by decide +kernel) (by decide +kernel) (by decide +kernel)
theorem allAtoms_all (ts : List Jvm.Cond) (a : Array Jvm.Value) (st : Jvm.State) : (allAtoms ts).before a st = ts.all (fun c => c.before a st) := by
  induction ts with
  | nil => rfl
  | cons c t ih =>
    show (Jvm.Cond.and c (allAtoms t)).before a st = _
    rw [Jvm.Cond.before_and, ih, List.all_cons]
def words1 : List Jvm.Cond := Jvm.Cond.code x code maxLocals ret :: tables_1
/-- a 'code' word, met by the world's own term for the bytes: nothing is compared byte by byte -/
theorem code_word {y : MethodName} {bytes : ByteArray} {mx : Nat} {rt : Option FieldType} {a : Array Value} {s : State} {m : MethodId} {meth : Method} {c : Code} (h1 : s.methodNamed? y = some m) (h2 : s.vm.method? m = some meth) (h3 : meth.code = some c) (h4 : c.code = bytes)
    (h5 : (c.maxLocals == mx && c.exceptionTable.isEmpty && decide (c.maxStack ≤ mostOperands) && decide (meth.sig.returnType = rt) && !meth.locks && decide (parseMethodDescriptor y.desc = some meth.sig)) = true) : (Jvm.Cond.code y bytes mx rt).before a s = true := by
  simp only [Bool.and_eq_true, beq_iff_eq, Bool.not_eq_true', decide_eq_true_eq] at h5
  obtain ⟨⟨⟨⟨⟨g1, g2⟩, g3⟩, g4⟩, g5⟩, g6⟩ := h5
  simp [Cond.before, Cond.holds, Cond.value, h1, h2, h3, h4, g1, g2, g3, g4, g5, g6]
def isCode : Jvm.Cond → Bool
  | .code _ _ _ _ => true
  | _ => false
theorem all_split {L : List Jvm.Cond} {P : Jvm.Cond → Bool} (h1 : L.all (fun c => isCode c || P c) = true) (h2 : ∀ c ∈ L.filter isCode, P c = true) : L.all P = true := by
  refine List.all_eq_true.mpr fun c hc => ?_
  have h := List.all_eq_true.mp h1 c hc
  rcases Bool.eq_false_or_eq_true (isCode c) with hi | hi
  · exact h2 c (List.mem_filter.mpr ⟨hc, hi⟩)
  · simpa [hi] using h
set_option maxRecDepth 65536 in
theorem w_c0 : (Jvm.Cond.code x code maxLocals ret).before args0 about1 = true := code_word (m := ⟨1, 6⟩) (meth := k1m6) (c := k1c6) (by decide +kernel) rfl rfl rfl (by decide +kernel)
set_option maxRecDepth 65536 in
theorem w_c1 : (Jvm.Cond.code ({ cls := "com/example/orthogon/orthogon/TriangularSolveUpperTransposedPinLaw", name := "makeT", desc := "(J)[D" } : Jvm.MethodName) method_4_code (3 : Nat) (Option.some (Jvm.ClassFile.FieldType.array Jvm.ClassFile.FieldType.double))).before args0 about1 = true := code_word (m := ⟨1, 3⟩) (meth := k1m3) (c := k1c3) (by decide +kernel) rfl rfl rfl (by decide +kernel)
set_option maxRecDepth 65536 in
theorem w_c2 : (Jvm.Cond.code ({ cls := "com/example/orthogon/orthogon/TriangularSolveUpperTransposedPinLaw", name := "diag", desc := "(JI)D" } : Jvm.MethodName) method_2_code (5 : Nat) (Option.some Jvm.ClassFile.FieldType.double)).before args0 about1 = true := code_word (m := ⟨1, 1⟩) (meth := k1m1) (c := k1c1) (by decide +kernel) rfl rfl rfl (by decide +kernel)
set_option maxRecDepth 65536 in
theorem w_c3 : (Jvm.Cond.code ({ cls := "com/example/orthogon/orthogon/TriangularSolveUpperTransposedPinLaw", name := "nib", desc := "(JI)D" } : Jvm.MethodName) method_3_code (3 : Nat) (Option.some Jvm.ClassFile.FieldType.double)).before args0 about1 = true := code_word (m := ⟨1, 2⟩) (meth := k1m2) (c := k1c2) (by decide +kernel) rfl rfl rfl (by decide +kernel)
set_option maxRecDepth 65536 in
theorem w_c4 : (Jvm.Cond.code ({ cls := "com/example/orthogon/orthogon/TriangularSolveUpperTransposedPinLaw", name := "makeC", desc := "(J)[D" } : Jvm.MethodName) method_5_code (3 : Nat) (Option.some (Jvm.ClassFile.FieldType.array Jvm.ClassFile.FieldType.double))).before args0 about1 = true := code_word (m := ⟨1, 4⟩) (meth := k1m4) (c := k1c4) (by decide +kernel) rfl rfl rfl (by decide +kernel)
set_option maxRecDepth 65536 in
theorem w_c5 : (Jvm.Cond.code ({ cls := "com/example/orthogon/orthogon/Triangular", name := "solveUpperTransposed", desc := "([DII[DI)V" } : Jvm.MethodName) prog_16_method_4_code (14 : Nat) (Option.none : Option Jvm.ClassFile.FieldType)).before args0 about1 = true := code_word (m := ⟨2, 1⟩) (meth := k2m1) (c := k2c1) (by decide +kernel) rfl rfl rfl (by decide +kernel)
set_option maxRecDepth 65536 in
theorem w_c6 : (Jvm.Cond.code ({ cls := "com/example/orthogon/orthogon/TriangularSolveUpperTransposedPinLaw", name := "check", desc := "([D[D[DIII)Z" } : Jvm.MethodName) method_6_code (10 : Nat) (Option.some Jvm.ClassFile.FieldType.boolean)).before args0 about1 = true := code_word (m := ⟨1, 5⟩) (meth := k1m5) (c := k1c5) (by decide +kernel) rfl rfl rfl (by decide +kernel)
def codes1 : List Jvm.Cond := [Jvm.Cond.code x code maxLocals ret, Jvm.Cond.code ({ cls := "com/example/orthogon/orthogon/TriangularSolveUpperTransposedPinLaw", name := "makeT", desc := "(J)[D" } : Jvm.MethodName) method_4_code (3 : Nat) (Option.some (Jvm.ClassFile.FieldType.array Jvm.ClassFile.FieldType.double)), Jvm.Cond.code ({ cls := "com/example/orthogon/orthogon/TriangularSolveUpperTransposedPinLaw", name := "diag", desc := "(JI)D" } : Jvm.MethodName) method_2_code (5 : Nat) (Option.some Jvm.ClassFile.FieldType.double), Jvm.Cond.code ({ cls := "com/example/orthogon/orthogon/TriangularSolveUpperTransposedPinLaw", name := "nib", desc := "(JI)D" } : Jvm.MethodName) method_3_code (3 : Nat) (Option.some Jvm.ClassFile.FieldType.double), Jvm.Cond.code ({ cls := "com/example/orthogon/orthogon/TriangularSolveUpperTransposedPinLaw", name := "makeC", desc := "(J)[D" } : Jvm.MethodName) method_5_code (3 : Nat) (Option.some (Jvm.ClassFile.FieldType.array Jvm.ClassFile.FieldType.double)), Jvm.Cond.code ({ cls := "com/example/orthogon/orthogon/Triangular", name := "solveUpperTransposed", desc := "([DII[DI)V" } : Jvm.MethodName) prog_16_method_4_code (14 : Nat) (Option.none : Option Jvm.ClassFile.FieldType), Jvm.Cond.code ({ cls := "com/example/orthogon/orthogon/TriangularSolveUpperTransposedPinLaw", name := "check", desc := "([D[D[DIII)Z" } : Jvm.MethodName) method_6_code (10 : Nat) (Option.some Jvm.ClassFile.FieldType.boolean)]
set_option maxRecDepth 65536 in
theorem codes_eq : words1.filter isCode = codes1 := rfl
theorem w_codes : ∀ c ∈ words1.filter isCode, c.before args0 about1 = true := by
  rw [codes_eq]
  intro c hc
  simp only [codes1, List.mem_cons, List.not_mem_nil, or_false] at hc
  rcases hc with rfl | rfl | rfl | rfl | rfl | rfl | rfl
  · exact w_c0
  · exact w_c1
  · exact w_c2
  · exact w_c3
  · exact w_c4
  · exact w_c5
  · exact w_c6
set_option maxRecDepth 65536 in
theorem w_t1 : words1.all (fun c => isCode c || c.before args0 about1) = true := by decide +kernel
theorem w_tables : (allAtoms (Jvm.Cond.code x code maxLocals ret :: tables_1)).before args0 about1 = true := by
  rw [allAtoms_all]
  show words1.all (fun c => c.before args0 about1) = true
  refine all_split ?_ w_codes
  rw [w_t1]
set_option maxRecDepth 65536 in
theorem w_case : (Jvm.Cond.and given_1 narrow_1).before args0 about1 = true := by decide +kernel
theorem w_applies : (headSpec (Jvm.Cond.code x code maxLocals ret :: tables_1) room_1).applies x e0.platform about1 = true :=
  (Spec.applies_iff w_frames).mpr ⟨w_running, w_runnable, w_alone, w_named, w_hears, w_ripe, w_room, w_tables⟩
theorem atStart : AtStart classFile x code maxLocals ret World_1 tables_1 room_1 Calls_1 rest_1 Pre_1 launch0 p0 e0 about1 theMethod args0 below0 :=
  ⟨lists_1, trivial, launch0.admits_env _ _ _, launch0.least_env, fairChoices_fair.cas, fairChoices_fair.clock, w_frames, w_args, w_heap, w_applies, trivial, trivial, w_case⟩
end start1
theorem witness_1 : WitnessClaimed_1 := ⟨start1.p0, start1.e0, start1.about1, start1.theMethod, start1.args0, start1.below0, start1.atStart⟩
end Jvm.Pilot.@@N@@
