import JvmDerived
import JvmDerived.Pilot.@@N@@Statement
import JvmDerived.Pilot.@@N@@Code
set_option linter.unusedVariables false
set_option linter.unusedSimpArgs false
namespace Jvm.Pilot.@@N@@
open Jvm Jvm.ClassFile Sem Op Lib Jvm.Free Jvm.Stand Jvm.LawKit Jvm.RoadKit Bundle Jvm.Pilot.@@N@@.Jvm.D
section OwnKit
open Jvm.FP Jvm.Free.Fl
variable {p : Program} {l : Launch} {e : Env} {R : Room} {s : State} {m : MethodId} {args : Array Value} {below : List Frame} {meth : Method} {c : Code} {T : State} {Z : State} {a0 : Array Value} {h : Heap} {n0 cells slots nc ns pc pc' : Nat} {Ls : Array Slot} {st rest : List Value} {Q : Option Value → Heap → Prop}
/-- a contract: the method returns, what it leaves is Q, and nothing below n0 is written -/
def Con (l : Launch) (Z : State) (n0 : Nat) (y : MethodName) (bytes : ByteArray) (ml : Nat) (ret : Option FieldType) (ws : List Jvm.Cond) (rm : Room) (as : Array Value) (h0 : Heap) (Q : Option Value → Heap → Prop) : Prop :=
  MetFree l y (head1 (Jvm.Cond.code y bytes ml ret :: ws) rm) (fun a U => a = as ∧ Z.Warmed39 U.vm ∧ U.heap = h0) (fun _ _ _ _ _ => True) (fun _ U o U' => ∃ v L, o = .returned v ∧ (Fr n0 L ∧ Q v U'.heap) ∧ FrameEnd U o U' L rm.cells rm.slots)
/-- where a walk stands, the places written kept to themselves -/
def Wk (p : Program) (l : Launch) (e : Env) (R : Room) (s : State) (m : MethodId) (args : Array Value) (below : List Frame) (meth : Method) (c : Code) (n0 : Nat) (T : State) (h : Heap) (cells slots : Nat) : Prop :=
  ∃ locs, Stand p l e R s m args below meth c T locs cells slots ∧ Fr n0 locs ∧ T.heap = h
/-- from t the run ends, and leaves Q -/
def Go (p : Program) (e : Env) (below : List Frame) (s : State) (n0 : Nat) (Q : Option Value → Heap → Prop) (nc ns : Nat) (t : State) : Prop :=
  ∃ s₂ o, Steps p.tables e below t s₂ ∧ s₂.status = .running ∧ Ended s₂ below o ∧ ∃ v L, o = .returned v ∧ (Fr n0 L ∧ Q v s₂.heap) ∧ FrameEnd s o s₂ L nc ns
theorem Wk.here (X : Wk p l e R s m args below meth c n0 T h cells slots) : At T m c below := by obtain ⟨_, X, -⟩ := X; exact X.here
theorem Wk.heap (X : Wk p l e R s m args below meth c n0 T h cells slots) : T.heap = h := by obtain ⟨_, -, -, q⟩ := X; exact q
theorem go_back {t t' : State} (b : ∀ target, Steps p.tables e below t' target → Steps p.tables e below t target) (k : Go p e below s n0 Q nc ns t') : Go p e below s n0 Q nc ns t := by
  obtain ⟨u, o, h1, r⟩ := k
  exact ⟨u, o, b u h1, r⟩
theorem con_start {y : MethodName} {bytes : ByteArray} {ml : Nat} {ret : Option FieldType} {ws : List Jvm.Cond} {rm : Room} {as : Array Value} {h0 : Heap} (hpl : plainFor y = true) {fr0 : MethodId → JFrame} (hfr : ∀ m, entryFrame m as ml = fr0 m)
    (k : ∀ (p : Program) (e : Env) (s : State) (m : MethodId) (below : List Frame) (meth : Method) (c : Code) (s₁ : State), p.tables.exec = Jvm.exec → Z.Warmed39 s.vm → c.code = bytes → c.maxLocals = ml → s.vm.findClass y.cls = some m.cls → meth.name = y.name → meth.sig.returnType = ret → meth.locks = false →
      Wk p l e rm s m as below meth c n0 s₁ h0 0 0 → Go p e below s n0 Q rm.cells rm.slots (s₁.setTop (fr0 m))) : Con l Z n0 y bytes ml ret ws rm as h0 Q := by
  refine MetFree.of_bodySF hpl hisR ?_
  intro p e s m args below meth c s₁ Bd hml0 hP hK
  obtain ⟨rfl, hZ, hh⟩ := hP
  rw [hfr]
  exact k p e s m below meth c s₁ Bd.exec hZ Bd.bytes hml0 (findClass_of_methodNamed Bd.named) (name_of_methodNamed Bd.named Bd.method).1 Bd.returns Bd.notSynchronized ⟨[], Stand.of_body Bd, Fr.nil n0, by rw [← hh, Bd.state]; rfl⟩
/-- what an int branch asks -/
def cP : ClassFile.Cond → Int32 → Int32 → Prop
  | .eq, x, y => x = y
  | .ne, x, y => ¬ x = y
  | .lt, x, y => x < y
  | .ge, x, y => ¬ x < y
  | .gt, x, y => y < x
  | .le, x, y => ¬ y < x
theorem cP_yes {cd : ClassFile.Cond} {x y : Int32} (q : cP cd x y) : if_icmp.holds cd x y = true := by
  cases cd
  · exact (teq q).1
  · exact (feq q).2
  · exact (tlt q).1
  · exact (flt q).2.1
  · exact (tlt q).2.2.1
  · exact (flt q).2.2.2
theorem cP_no {cd : ClassFile.Cond} {x y : Int32} (q : ¬ cP cd x y) : if_icmp.holds cd x y = false := by
  cases cd
  · exact (feq q).1
  · exact (teq (Classical.not_not.mp q)).2
  · exact (flt q).1
  · exact (tlt (Classical.not_not.mp q)).2.1
  · exact (flt q).2.2.1
  · exact (tlt (Classical.not_not.mp q)).2.2.2
theorem g_iload (X : Wk p l e R s m args below meth c n0 T h cells slots) (hx : p.tables.exec = Jvm.exec) {k : Nat} {v : Int32} (hp : pc + 2 = pc') (hd : decode c.code pc = .ok (.iload k, 2)) (hl : Ls[k]? = some (.val (.int v))) (k : Go p e below s n0 Q nc ns (T.setTop (mkF m pc' Ls (.int v :: st)))) : Go p e below s n0 Q nc ns (T.setTop (mkF m pc Ls (st))) := by
  subst hp; exact go_back (fun _ j => XS.iload X.here hx rfl hd hl j) k
theorem g_iloadN (X : Wk p l e R s m args below meth c n0 T h cells slots) (hx : p.tables.exec = Jvm.exec) {k : Fin 4} {v : Int32} (hp : pc + 1 = pc') (hd : decode c.code pc = .ok (.iload_n k, 1)) (hl : Ls[k.val]? = some (.val (.int v))) (k : Go p e below s n0 Q nc ns (T.setTop (mkF m pc' Ls (.int v :: st)))) : Go p e below s n0 Q nc ns (T.setTop (mkF m pc Ls (st))) := by
  subst hp; exact go_back (fun _ j => XS.iloadN X.here hx rfl hd hl j) k
theorem g_istore (X : Wk p l e R s m args below meth c n0 T h cells slots) (hx : p.tables.exec = Jvm.exec) {k : Nat} {x : Int32} {l' : Array Slot} (hp : pc + 2 = pc') (hd : decode c.code pc = .ok (.istore k, 2)) (hl : storeLocals Ls k (.int x) = some l') (k : Go p e below s n0 Q nc ns (T.setTop (mkF m pc' l' (rest)))) : Go p e below s n0 Q nc ns (T.setTop (mkF m pc Ls (.int x :: rest))) := by
  subst hp; exact go_back (fun _ j => XS.istore X.here hx rfl hd rfl hl j) k
theorem g_istoreN (X : Wk p l e R s m args below meth c n0 T h cells slots) (hx : p.tables.exec = Jvm.exec) {k : Fin 4} {x : Int32} {l' : Array Slot} (hp : pc + 1 = pc') (hd : decode c.code pc = .ok (.istore_n k, 1)) (hl : storeLocals Ls k.val (.int x) = some l') (k : Go p e below s n0 Q nc ns (T.setTop (mkF m pc' l' (rest)))) : Go p e below s n0 Q nc ns (T.setTop (mkF m pc Ls (.int x :: rest))) := by
  subst hp; exact go_back (fun _ j => XS.istoreN X.here hx rfl hd rfl hl j) k
theorem g_absI {x : Int32} (k : ∀ z : Int32, z = x → Go p e below s n0 Q nc ns (T.setTop (mkF m pc Ls (.int z :: rest)))) : Go p e below s n0 Q nc ns (T.setTop (mkF m pc Ls (.int x :: rest))) := k x rfl
theorem g_lload (X : Wk p l e R s m args below meth c n0 T h cells slots) (hx : p.tables.exec = Jvm.exec) {k : Nat} {v : Int64} (hp : pc + 2 = pc') (hd : decode c.code pc = .ok (.lload k, 2)) (hl : Ls[k]? = some (.val (.long v))) (k : Go p e below s n0 Q nc ns (T.setTop (mkF m pc' Ls (.long v :: st)))) : Go p e below s n0 Q nc ns (T.setTop (mkF m pc Ls (st))) := by
  subst hp; exact go_back (fun _ j => XS.lload X.here hx rfl hd hl j) k
theorem g_lloadN (X : Wk p l e R s m args below meth c n0 T h cells slots) (hx : p.tables.exec = Jvm.exec) {k : Fin 4} {v : Int64} (hp : pc + 1 = pc') (hd : decode c.code pc = .ok (.lload_n k, 1)) (hl : Ls[k.val]? = some (.val (.long v))) (k : Go p e below s n0 Q nc ns (T.setTop (mkF m pc' Ls (.long v :: st)))) : Go p e below s n0 Q nc ns (T.setTop (mkF m pc Ls (st))) := by
  subst hp; exact go_back (fun _ j => XS.lloadN X.here hx rfl hd hl j) k
theorem g_lstore (X : Wk p l e R s m args below meth c n0 T h cells slots) (hx : p.tables.exec = Jvm.exec) {k : Nat} {x : Int64} {l' : Array Slot} (hp : pc + 2 = pc') (hd : decode c.code pc = .ok (.lstore k, 2)) (hl : storeLocals Ls k (.long x) = some l') (k : Go p e below s n0 Q nc ns (T.setTop (mkF m pc' l' (rest)))) : Go p e below s n0 Q nc ns (T.setTop (mkF m pc Ls (.long x :: rest))) := by
  subst hp; exact go_back (fun _ j => XS.lstore X.here hx rfl hd rfl hl j) k
theorem g_lstoreN (X : Wk p l e R s m args below meth c n0 T h cells slots) (hx : p.tables.exec = Jvm.exec) {k : Fin 4} {x : Int64} {l' : Array Slot} (hp : pc + 1 = pc') (hd : decode c.code pc = .ok (.lstore_n k, 1)) (hl : storeLocals Ls k.val (.long x) = some l') (k : Go p e below s n0 Q nc ns (T.setTop (mkF m pc' l' (rest)))) : Go p e below s n0 Q nc ns (T.setTop (mkF m pc Ls (.long x :: rest))) := by
  subst hp; exact go_back (fun _ j => XS.lstoreN X.here hx rfl hd rfl hl j) k
theorem g_absL {x : Int64} (k : ∀ z : Int64, z = x → Go p e below s n0 Q nc ns (T.setTop (mkF m pc Ls (.long z :: rest)))) : Go p e below s n0 Q nc ns (T.setTop (mkF m pc Ls (.long x :: rest))) := k x rfl
theorem g_dload (X : Wk p l e R s m args below meth c n0 T h cells slots) (hx : p.tables.exec = Jvm.exec) {k : Nat} {v : UInt64} (hp : pc + 2 = pc') (hd : decode c.code pc = .ok (.dload k, 2)) (hl : Ls[k]? = some (.val (.double v))) (k : Go p e below s n0 Q nc ns (T.setTop (mkF m pc' Ls (.double v :: st)))) : Go p e below s n0 Q nc ns (T.setTop (mkF m pc Ls (st))) := by
  subst hp; exact go_back (fun _ j => XS.dload X.here hx rfl hd hl j) k
theorem g_dloadN (X : Wk p l e R s m args below meth c n0 T h cells slots) (hx : p.tables.exec = Jvm.exec) {k : Fin 4} {v : UInt64} (hp : pc + 1 = pc') (hd : decode c.code pc = .ok (.dload_n k, 1)) (hl : Ls[k.val]? = some (.val (.double v))) (k : Go p e below s n0 Q nc ns (T.setTop (mkF m pc' Ls (.double v :: st)))) : Go p e below s n0 Q nc ns (T.setTop (mkF m pc Ls (st))) := by
  subst hp; exact go_back (fun _ j => XS.dloadN X.here hx rfl hd hl j) k
theorem g_dstore (X : Wk p l e R s m args below meth c n0 T h cells slots) (hx : p.tables.exec = Jvm.exec) {k : Nat} {x : UInt64} {l' : Array Slot} (hp : pc + 2 = pc') (hd : decode c.code pc = .ok (.dstore k, 2)) (hl : storeLocals Ls k (.double x) = some l') (k : Go p e below s n0 Q nc ns (T.setTop (mkF m pc' l' (rest)))) : Go p e below s n0 Q nc ns (T.setTop (mkF m pc Ls (.double x :: rest))) := by
  subst hp; exact go_back (fun _ j => XS.dstore X.here hx rfl hd rfl hl j) k
theorem g_dstoreN (X : Wk p l e R s m args below meth c n0 T h cells slots) (hx : p.tables.exec = Jvm.exec) {k : Fin 4} {x : UInt64} {l' : Array Slot} (hp : pc + 1 = pc') (hd : decode c.code pc = .ok (.dstore_n k, 1)) (hl : storeLocals Ls k.val (.double x) = some l') (k : Go p e below s n0 Q nc ns (T.setTop (mkF m pc' l' (rest)))) : Go p e below s n0 Q nc ns (T.setTop (mkF m pc Ls (.double x :: rest))) := by
  subst hp; exact go_back (fun _ j => XS.dstoreN X.here hx rfl hd rfl hl j) k
theorem g_absD {x : UInt64} (k : ∀ z : UInt64, z = x → Go p e below s n0 Q nc ns (T.setTop (mkF m pc Ls (.double z :: rest)))) : Go p e below s n0 Q nc ns (T.setTop (mkF m pc Ls (.double x :: rest))) := k x rfl
theorem g_aload (X : Wk p l e R s m args below meth c n0 T h cells slots) (hx : p.tables.exec = Jvm.exec) {k : Nat} {v : Value} (hp : pc + 2 = pc') (hd : decode c.code pc = .ok (.aload k, 2)) (hl : Ls[k]? = some (.val v)) (hv : v.isRef = true) (k : Go p e below s n0 Q nc ns (T.setTop (mkF m pc' Ls (v :: st)))) : Go p e below s n0 Q nc ns (T.setTop (mkF m pc Ls (st))) := by
  subst hp; exact go_back (fun _ j => XS.aload X.here hx rfl hd hl hv j) k
theorem g_aloadN (X : Wk p l e R s m args below meth c n0 T h cells slots) (hx : p.tables.exec = Jvm.exec) {k : Fin 4} {v : Value} (hp : pc + 1 = pc') (hd : decode c.code pc = .ok (.aload_n k, 1)) (hl : Ls[k.val]? = some (.val v)) (hv : v.isRef = true) (k : Go p e below s n0 Q nc ns (T.setTop (mkF m pc' Ls (v :: st)))) : Go p e below s n0 Q nc ns (T.setTop (mkF m pc Ls (st))) := by
  subst hp; exact go_back (fun _ j => XS.aloadN X.here hx rfl hd hl hv j) k
theorem g_astore (X : Wk p l e R s m args below meth c n0 T h cells slots) (hx : p.tables.exec = Jvm.exec) {k : Nat} {x : Value} {l' : Array Slot} (hp : pc + 2 = pc') (hd : decode c.code pc = .ok (.astore k, 2)) (hv : x.isRef = true) (hl : storeLocals Ls k x = some l') (k : Go p e below s n0 Q nc ns (T.setTop (mkF m pc' l' (rest)))) : Go p e below s n0 Q nc ns (T.setTop (mkF m pc Ls (x :: rest))) := by
  subst hp; exact go_back (fun _ j => XS.astore X.here hx rfl hd rfl hv hl j) k
theorem g_astoreN (X : Wk p l e R s m args below meth c n0 T h cells slots) (hx : p.tables.exec = Jvm.exec) {k : Fin 4} {x : Value} {l' : Array Slot} (hp : pc + 1 = pc') (hd : decode c.code pc = .ok (.astore_n k, 1)) (hv : x.isRef = true) (hl : storeLocals Ls k.val x = some l') (k : Go p e below s n0 Q nc ns (T.setTop (mkF m pc' l' (rest)))) : Go p e below s n0 Q nc ns (T.setTop (mkF m pc Ls (x :: rest))) := by
  subst hp; exact go_back (fun _ j => XS.astoreN X.here hx rfl hd rfl hv hl j) k
theorem g_iconst (X : Wk p l e R s m args below meth c n0 T h cells slots) (hx : p.tables.exec = Jvm.exec) {i : Int} {z : Int32} (hp : pc + 1 = pc') (hd : decode c.code pc = .ok (.iconst i, 1)) (hz : Int32.ofInt i = z) (k : Go p e below s n0 Q nc ns (T.setTop (mkF m pc' Ls (.int z :: st)))) : Go p e below s n0 Q nc ns (T.setTop (mkF m pc Ls (st))) := by
  subst hp; exact go_back (fun _ j => XS.iconst X.here hx rfl hd (show Steps _ _ _ (T.setTop (mkF m (pc + 1) Ls (.int (Int32.ofInt i) :: st))) _ from hz ▸ j)) k
theorem g_bipush (X : Wk p l e R s m args below meth c n0 T h cells slots) (hx : p.tables.exec = Jvm.exec) {i : Int} {z : Int32} (hp : pc + 2 = pc') (hd : decode c.code pc = .ok (.bipush i, 2)) (hz : (Int8.ofInt i).toInt32 = z) (k : Go p e below s n0 Q nc ns (T.setTop (mkF m pc' Ls (.int z :: st)))) : Go p e below s n0 Q nc ns (T.setTop (mkF m pc Ls (st))) := by
  subst hp; exact go_back (fun _ j => XS.bipush X.here hx rfl hd (show Steps _ _ _ (T.setTop (mkF m (pc + 2) Ls (.int (Int8.ofInt i).toInt32 :: st))) _ from hz ▸ j)) k
theorem g_sipush (X : Wk p l e R s m args below meth c n0 T h cells slots) (hx : p.tables.exec = Jvm.exec) {i : Int} {z : Int32} (hp : pc + 3 = pc') (hd : decode c.code pc = .ok (.sipush i, 3)) (hz : (Int16.ofInt i).toInt32 = z) (k : Go p e below s n0 Q nc ns (T.setTop (mkF m pc' Ls (.int z :: st)))) : Go p e below s n0 Q nc ns (T.setTop (mkF m pc Ls (st))) := by
  subst hp; exact go_back (fun _ j => XS.sipush X.here hx rfl hd (show Steps _ _ _ (T.setTop (mkF m (pc + 3) Ls (.int (Int16.ofInt i).toInt32 :: st))) _ from hz ▸ j)) k
theorem g_lconst (X : Wk p l e R s m args below meth c n0 T h cells slots) (hx : p.tables.exec = Jvm.exec) {i : Fin 2} {z : Int64} (hp : pc + 1 = pc') (hd : decode c.code pc = .ok (.lconst i, 1)) (hz : Int64.ofNat i = z) (k : Go p e below s n0 Q nc ns (T.setTop (mkF m pc' Ls (.long z :: st)))) : Go p e below s n0 Q nc ns (T.setTop (mkF m pc Ls (st))) := by
  subst hp; exact go_back (fun _ j => XS.lconst X.here hx rfl hd (show Steps _ _ _ (T.setTop (mkF m (pc + 1) Ls (.long (Int64.ofNat i) :: st))) _ from hz ▸ j)) k
theorem g_dconst0 (X : Wk p l e R s m args below meth c n0 T h cells slots) (hx : p.tables.exec = Jvm.exec)  (hp : pc + 1 = pc') (hd : decode c.code pc = .ok (.dconst 0, 1))  (k : Go p e below s n0 Q nc ns (T.setTop (mkF m pc' Ls (.double 0 :: st)))) : Go p e below s n0 Q nc ns (T.setTop (mkF m pc Ls (st))) := by
  subst hp; exact go_back (fun _ j => XS.dconst0 X.here hx rfl hd rfl j) k
theorem g_dconst1 (X : Wk p l e R s m args below meth c n0 T h cells slots) (hx : p.tables.exec = Jvm.exec)  (hp : pc + 1 = pc') (hd : decode c.code pc = .ok (.dconst 1, 1))  (k : Go p e below s n0 Q nc ns (T.setTop (mkF m pc' Ls (.double 4607182418800017408 :: st)))) : Go p e below s n0 Q nc ns (T.setTop (mkF m pc Ls (st))) := by
  subst hp; exact go_back (fun _ j => XS.dconst1 X.here hx rfl hd rfl j) k
theorem g_aconst_null (X : Wk p l e R s m args below meth c n0 T h cells slots) (hx : p.tables.exec = Jvm.exec)  (hp : pc + 1 = pc') (hd : decode c.code pc = .ok (.aconst_null, 1))  (k : Go p e below s n0 Q nc ns (T.setTop (mkF m pc' Ls (.null :: st)))) : Go p e below s n0 Q nc ns (T.setTop (mkF m pc Ls (st))) := by
  subst hp; exact go_back (fun _ j => XS.aconstNull X.here hx rfl hd j) k
theorem g_iadd (X : Wk p l e R s m args below meth c n0 T h cells slots) (hx : p.tables.exec = Jvm.exec) {x y : Int32} (hp : pc + 1 = pc') (hd : decode c.code pc = .ok (.iadd, 1))  (k : Go p e below s n0 Q nc ns (T.setTop (mkF m pc' Ls (.int (x + y) :: rest)))) : Go p e below s n0 Q nc ns (T.setTop (mkF m pc Ls (.int y :: .int x :: rest))) := by
  subst hp; exact go_back (fun _ j => XS.iadd X.here hx rfl hd rfl j) k
theorem g_ladd (X : Wk p l e R s m args below meth c n0 T h cells slots) (hx : p.tables.exec = Jvm.exec) {x y : Int64} (hp : pc + 1 = pc') (hd : decode c.code pc = .ok (.ladd, 1))  (k : Go p e below s n0 Q nc ns (T.setTop (mkF m pc' Ls (.long (x + y) :: rest)))) : Go p e below s n0 Q nc ns (T.setTop (mkF m pc Ls (.long y :: .long x :: rest))) := by
  subst hp; exact go_back (fun _ j => XS.ladd X.here hx rfl hd rfl j) k
theorem g_isub (X : Wk p l e R s m args below meth c n0 T h cells slots) (hx : p.tables.exec = Jvm.exec) {x y : Int32} (hp : pc + 1 = pc') (hd : decode c.code pc = .ok (.isub, 1))  (k : Go p e below s n0 Q nc ns (T.setTop (mkF m pc' Ls (.int (x - y) :: rest)))) : Go p e below s n0 Q nc ns (T.setTop (mkF m pc Ls (.int y :: .int x :: rest))) := by
  subst hp; exact go_back (fun _ j => XS.isub X.here hx rfl hd rfl j) k
theorem g_lsub (X : Wk p l e R s m args below meth c n0 T h cells slots) (hx : p.tables.exec = Jvm.exec) {x y : Int64} (hp : pc + 1 = pc') (hd : decode c.code pc = .ok (.lsub, 1))  (k : Go p e below s n0 Q nc ns (T.setTop (mkF m pc' Ls (.long (x - y) :: rest)))) : Go p e below s n0 Q nc ns (T.setTop (mkF m pc Ls (.long y :: .long x :: rest))) := by
  subst hp; exact go_back (fun _ j => XS.lsub X.here hx rfl hd rfl j) k
theorem g_imul (X : Wk p l e R s m args below meth c n0 T h cells slots) (hx : p.tables.exec = Jvm.exec) {x y : Int32} (hp : pc + 1 = pc') (hd : decode c.code pc = .ok (.imul, 1))  (k : Go p e below s n0 Q nc ns (T.setTop (mkF m pc' Ls (.int (x * y) :: rest)))) : Go p e below s n0 Q nc ns (T.setTop (mkF m pc Ls (.int y :: .int x :: rest))) := by
  subst hp; exact go_back (fun _ j => XS.imul X.here hx rfl hd rfl j) k
theorem g_lmul (X : Wk p l e R s m args below meth c n0 T h cells slots) (hx : p.tables.exec = Jvm.exec) {x y : Int64} (hp : pc + 1 = pc') (hd : decode c.code pc = .ok (.lmul, 1))  (k : Go p e below s n0 Q nc ns (T.setTop (mkF m pc' Ls (.long (x * y) :: rest)))) : Go p e below s n0 Q nc ns (T.setTop (mkF m pc Ls (.long y :: .long x :: rest))) := by
  subst hp; exact go_back (fun _ j => XS.lmul X.here hx rfl hd rfl j) k
theorem g_iand (X : Wk p l e R s m args below meth c n0 T h cells slots) (hx : p.tables.exec = Jvm.exec) {x y : Int32} (hp : pc + 1 = pc') (hd : decode c.code pc = .ok (.iand, 1))  (k : Go p e below s n0 Q nc ns (T.setTop (mkF m pc' Ls (.int (x &&& y) :: rest)))) : Go p e below s n0 Q nc ns (T.setTop (mkF m pc Ls (.int y :: .int x :: rest))) := by
  subst hp; exact go_back (fun _ j => XS.iand X.here hx rfl hd rfl j) k
theorem g_land (X : Wk p l e R s m args below meth c n0 T h cells slots) (hx : p.tables.exec = Jvm.exec) {x y : Int64} (hp : pc + 1 = pc') (hd : decode c.code pc = .ok (.land, 1))  (k : Go p e below s n0 Q nc ns (T.setTop (mkF m pc' Ls (.long (x &&& y) :: rest)))) : Go p e below s n0 Q nc ns (T.setTop (mkF m pc Ls (.long y :: .long x :: rest))) := by
  subst hp; exact go_back (fun _ j => XS.land X.here hx rfl hd rfl j) k
theorem g_ior (X : Wk p l e R s m args below meth c n0 T h cells slots) (hx : p.tables.exec = Jvm.exec) {x y : Int32} (hp : pc + 1 = pc') (hd : decode c.code pc = .ok (.ior, 1))  (k : Go p e below s n0 Q nc ns (T.setTop (mkF m pc' Ls (.int (x ||| y) :: rest)))) : Go p e below s n0 Q nc ns (T.setTop (mkF m pc Ls (.int y :: .int x :: rest))) := by
  subst hp; exact go_back (fun _ j => XS.ior X.here hx rfl hd rfl j) k
theorem g_lor (X : Wk p l e R s m args below meth c n0 T h cells slots) (hx : p.tables.exec = Jvm.exec) {x y : Int64} (hp : pc + 1 = pc') (hd : decode c.code pc = .ok (.lor, 1))  (k : Go p e below s n0 Q nc ns (T.setTop (mkF m pc' Ls (.long (x ||| y) :: rest)))) : Go p e below s n0 Q nc ns (T.setTop (mkF m pc Ls (.long y :: .long x :: rest))) := by
  subst hp; exact go_back (fun _ j => XS.lor X.here hx rfl hd rfl j) k
theorem g_ixor (X : Wk p l e R s m args below meth c n0 T h cells slots) (hx : p.tables.exec = Jvm.exec) {x y : Int32} (hp : pc + 1 = pc') (hd : decode c.code pc = .ok (.ixor, 1))  (k : Go p e below s n0 Q nc ns (T.setTop (mkF m pc' Ls (.int (x ^^^ y) :: rest)))) : Go p e below s n0 Q nc ns (T.setTop (mkF m pc Ls (.int y :: .int x :: rest))) := by
  subst hp; exact go_back (fun _ j => XS.ixor X.here hx rfl hd rfl j) k
theorem g_lxor (X : Wk p l e R s m args below meth c n0 T h cells slots) (hx : p.tables.exec = Jvm.exec) {x y : Int64} (hp : pc + 1 = pc') (hd : decode c.code pc = .ok (.lxor, 1))  (k : Go p e below s n0 Q nc ns (T.setTop (mkF m pc' Ls (.long (x ^^^ y) :: rest)))) : Go p e below s n0 Q nc ns (T.setTop (mkF m pc Ls (.long y :: .long x :: rest))) := by
  subst hp; exact go_back (fun _ j => XS.lxor X.here hx rfl hd rfl j) k
theorem g_idiv (X : Wk p l e R s m args below meth c n0 T h cells slots) (hx : p.tables.exec = Jvm.exec) {x y : Int32} (hp : pc + 1 = pc') (hd : decode c.code pc = .ok (.idiv, 1)) (hy : y ≠ 0) (k : Go p e below s n0 Q nc ns (T.setTop (mkF m pc' Ls (.int (x / y) :: rest)))) : Go p e below s n0 Q nc ns (T.setTop (mkF m pc Ls (.int y :: .int x :: rest))) := by
  subst hp; exact go_back (fun _ j => XS.idiv X.here hx rfl hd rfl hy j) k
theorem g_irem (X : Wk p l e R s m args below meth c n0 T h cells slots) (hx : p.tables.exec = Jvm.exec) {x y : Int32} (hp : pc + 1 = pc') (hd : decode c.code pc = .ok (.irem, 1)) (hy : y ≠ 0) (k : Go p e below s n0 Q nc ns (T.setTop (mkF m pc' Ls (.int (x % y) :: rest)))) : Go p e below s n0 Q nc ns (T.setTop (mkF m pc Ls (.int y :: .int x :: rest))) := by
  subst hp; obtain ⟨_, X, -⟩ := X; exact go_back (fun _ j => iremM X hx (g := mkF m pc Ls (.int y :: .int x :: rest)) rfl hd rfl hy j) k
theorem g_ldiv (X : Wk p l e R s m args below meth c n0 T h cells slots) (hx : p.tables.exec = Jvm.exec) {x y : Int64} (hp : pc + 1 = pc') (hd : decode c.code pc = .ok (.ldiv, 1)) (hy : y ≠ 0) (k : Go p e below s n0 Q nc ns (T.setTop (mkF m pc' Ls (.long (x / y) :: rest)))) : Go p e below s n0 Q nc ns (T.setTop (mkF m pc Ls (.long y :: .long x :: rest))) := by
  subst hp; exact go_back (fun _ j => XS.ldiv X.here hx rfl hd rfl hy j) k
theorem g_lrem (X : Wk p l e R s m args below meth c n0 T h cells slots) (hx : p.tables.exec = Jvm.exec) {x y : Int64} (hp : pc + 1 = pc') (hd : decode c.code pc = .ok (.lrem, 1)) (hy : y ≠ 0) (k : Go p e below s n0 Q nc ns (T.setTop (mkF m pc' Ls (.long (x - (x / y) * y) :: rest)))) : Go p e below s n0 Q nc ns (T.setTop (mkF m pc Ls (.long y :: .long x :: rest))) := by
  subst hp; exact go_back (fun _ j => XS.lrem X.here hx rfl hd rfl hy j) k
theorem g_ishl (X : Wk p l e R s m args below meth c n0 T h cells slots) (hx : p.tables.exec = Jvm.exec) {x y : Int32} (hp : pc + 1 = pc') (hd : decode c.code pc = .ok (.ishl, 1))  (k : Go p e below s n0 Q nc ns (T.setTop (mkF m pc' Ls (.int (x <<< (y &&& 31)) :: rest)))) : Go p e below s n0 Q nc ns (T.setTop (mkF m pc Ls (.int y :: .int x :: rest))) := by
  subst hp; exact go_back (fun _ j => XS.ishl X.here hx rfl hd rfl j) k
theorem g_ishr (X : Wk p l e R s m args below meth c n0 T h cells slots) (hx : p.tables.exec = Jvm.exec) {x y : Int32} (hp : pc + 1 = pc') (hd : decode c.code pc = .ok (.ishr, 1))  (k : Go p e below s n0 Q nc ns (T.setTop (mkF m pc' Ls (.int (x >>> (y &&& 31)) :: rest)))) : Go p e below s n0 Q nc ns (T.setTop (mkF m pc Ls (.int y :: .int x :: rest))) := by
  subst hp; exact go_back (fun _ j => XS.ishr X.here hx rfl hd rfl j) k
theorem g_iushr (X : Wk p l e R s m args below meth c n0 T h cells slots) (hx : p.tables.exec = Jvm.exec) {x y : Int32} (hp : pc + 1 = pc') (hd : decode c.code pc = .ok (.iushr, 1))  (k : Go p e below s n0 Q nc ns (T.setTop (mkF m pc' Ls (.int ((x.toUInt32 >>> (y &&& 31).toUInt32).toInt32) :: rest)))) : Go p e below s n0 Q nc ns (T.setTop (mkF m pc Ls (.int y :: .int x :: rest))) := by
  subst hp; exact go_back (fun _ j => XS.iushr X.here hx rfl hd rfl j) k
theorem g_lshl (X : Wk p l e R s m args below meth c n0 T h cells slots) (hx : p.tables.exec = Jvm.exec) {x : Int64} {y : Int32} (hp : pc + 1 = pc') (hd : decode c.code pc = .ok (.lshl, 1))  (k : Go p e below s n0 Q nc ns (T.setTop (mkF m pc' Ls (.long (x <<< (y &&& 0x3f).toInt64) :: rest)))) : Go p e below s n0 Q nc ns (T.setTop (mkF m pc Ls (.int y :: .long x :: rest))) := by
  subst hp; exact go_back (fun _ j => XS.lshl X.here hx rfl hd rfl j) k
theorem g_lshr (X : Wk p l e R s m args below meth c n0 T h cells slots) (hx : p.tables.exec = Jvm.exec) {x : Int64} {y : Int32} (hp : pc + 1 = pc') (hd : decode c.code pc = .ok (.lshr, 1))  (k : Go p e below s n0 Q nc ns (T.setTop (mkF m pc' Ls (.long (x >>> (y &&& 0x3f).toInt64) :: rest)))) : Go p e below s n0 Q nc ns (T.setTop (mkF m pc Ls (.int y :: .long x :: rest))) := by
  subst hp; exact go_back (fun _ j => XS.lshr X.here hx rfl hd rfl j) k
theorem g_lushr (X : Wk p l e R s m args below meth c n0 T h cells slots) (hx : p.tables.exec = Jvm.exec) {x : Int64} {y : Int32} (hp : pc + 1 = pc') (hd : decode c.code pc = .ok (.lushr, 1))  (k : Go p e below s n0 Q nc ns (T.setTop (mkF m pc' Ls (.long ((x.toUInt64 >>> (y &&& 0x3f).toInt64.toUInt64).toInt64) :: rest)))) : Go p e below s n0 Q nc ns (T.setTop (mkF m pc Ls (.int y :: .long x :: rest))) := by
  subst hp; exact go_back (fun _ j => XS.lushr X.here hx rfl hd rfl j) k
theorem g_ineg (X : Wk p l e R s m args below meth c n0 T h cells slots) (hx : p.tables.exec = Jvm.exec) {x : Int32} (hp : pc + 1 = pc') (hd : decode c.code pc = .ok (.ineg, 1))  (k : Go p e below s n0 Q nc ns (T.setTop (mkF m pc' Ls (.int (-x) :: rest)))) : Go p e below s n0 Q nc ns (T.setTop (mkF m pc Ls (.int x :: rest))) := by
  subst hp; exact go_back (fun _ j => XS.ineg X.here hx rfl hd rfl j) k
theorem g_lneg (X : Wk p l e R s m args below meth c n0 T h cells slots) (hx : p.tables.exec = Jvm.exec) {x : Int64} (hp : pc + 1 = pc') (hd : decode c.code pc = .ok (.lneg, 1))  (k : Go p e below s n0 Q nc ns (T.setTop (mkF m pc' Ls (.long (-x) :: rest)))) : Go p e below s n0 Q nc ns (T.setTop (mkF m pc Ls (.long x :: rest))) := by
  subst hp; exact go_back (fun _ j => XS.lneg X.here hx rfl hd rfl j) k
theorem g_i2l (X : Wk p l e R s m args below meth c n0 T h cells slots) (hx : p.tables.exec = Jvm.exec) {x : Int32} (hp : pc + 1 = pc') (hd : decode c.code pc = .ok (.i2l, 1))  (k : Go p e below s n0 Q nc ns (T.setTop (mkF m pc' Ls (.long x.toInt64 :: rest)))) : Go p e below s n0 Q nc ns (T.setTop (mkF m pc Ls (.int x :: rest))) := by
  subst hp; exact go_back (fun _ j => XS.i2l X.here hx rfl hd rfl j) k
theorem g_l2i (X : Wk p l e R s m args below meth c n0 T h cells slots) (hx : p.tables.exec = Jvm.exec) {x : Int64} (hp : pc + 1 = pc') (hd : decode c.code pc = .ok (.l2i, 1))  (k : Go p e below s n0 Q nc ns (T.setTop (mkF m pc' Ls (.int x.toInt32 :: rest)))) : Go p e below s n0 Q nc ns (T.setTop (mkF m pc Ls (.long x :: rest))) := by
  subst hp; exact go_back (fun _ j => XS.l2i X.here hx rfl hd rfl j) k
theorem g_i2b (X : Wk p l e R s m args below meth c n0 T h cells slots) (hx : p.tables.exec = Jvm.exec) {x : Int32} (hp : pc + 1 = pc') (hd : decode c.code pc = .ok (.i2b, 1))  (k : Go p e below s n0 Q nc ns (T.setTop (mkF m pc' Ls (.int x.toInt8.toInt32 :: rest)))) : Go p e below s n0 Q nc ns (T.setTop (mkF m pc Ls (.int x :: rest))) := by
  subst hp; exact go_back (fun _ j => XS.i2b X.here hx rfl hd rfl j) k
theorem g_i2s (X : Wk p l e R s m args below meth c n0 T h cells slots) (hx : p.tables.exec = Jvm.exec) {x : Int32} (hp : pc + 1 = pc') (hd : decode c.code pc = .ok (.i2s, 1))  (k : Go p e below s n0 Q nc ns (T.setTop (mkF m pc' Ls (.int x.toInt16.toInt32 :: rest)))) : Go p e below s n0 Q nc ns (T.setTop (mkF m pc Ls (.int x :: rest))) := by
  subst hp; exact go_back (fun _ j => XS.i2s X.here hx rfl hd rfl j) k
theorem g_i2c (X : Wk p l e R s m args below meth c n0 T h cells slots) (hx : p.tables.exec = Jvm.exec) {x : Int32} (hp : pc + 1 = pc') (hd : decode c.code pc = .ok (.i2c, 1))  (k : Go p e below s n0 Q nc ns (T.setTop (mkF m pc' Ls (.int x.toUInt32.toUInt16.toUInt32.toInt32 :: rest)))) : Go p e below s n0 Q nc ns (T.setTop (mkF m pc Ls (.int x :: rest))) := by
  subst hp; exact go_back (fun _ j => XS.i2c X.here hx rfl hd rfl j) k
theorem g_lcmp (X : Wk p l e R s m args below meth c n0 T h cells slots) (hx : p.tables.exec = Jvm.exec) {x y : Int64} (hp : pc + 1 = pc') (hd : decode c.code pc = .ok (.lcmp, 1))  (k : Go p e below s n0 Q nc ns (T.setTop (mkF m pc' Ls (.int (lcmpW x y) :: rest)))) : Go p e below s n0 Q nc ns (T.setTop (mkF m pc Ls (.long y :: .long x :: rest))) := by
  subst hp; exact go_back (fun _ j => XS.lcmp X.here hx rfl hd rfl j) k
theorem g_i2d (X : Wk p l e R s m args below meth c n0 T h cells slots) (hx : p.tables.exec = Jvm.exec) {x : Int32} (hp : pc + 1 = pc') (hd : decode c.code pc = .ok (.i2d, 1))  (k : Go p e below s n0 Q nc ns (T.setTop (mkF m pc' Ls (.double (FP.i2d x) :: rest)))) : Go p e below s n0 Q nc ns (T.setTop (mkF m pc Ls (.int x :: rest))) := by
  subst hp; exact go_back (fun _ j => XS.i2dS X.here hx rfl hd rfl rfl j) k
theorem g_l2d (X : Wk p l e R s m args below meth c n0 T h cells slots) (hx : p.tables.exec = Jvm.exec) {x : Int64} (hp : pc + 1 = pc') (hd : decode c.code pc = .ok (.l2d, 1))  (k : Go p e below s n0 Q nc ns (T.setTop (mkF m pc' Ls (.double (FP.l2d x) :: rest)))) : Go p e below s n0 Q nc ns (T.setTop (mkF m pc Ls (.long x :: rest))) := by
  subst hp; exact go_back (fun _ j => XS.l2dS X.here hx rfl hd rfl rfl j) k
theorem g_dneg (X : Wk p l e R s m args below meth c n0 T h cells slots) (hx : p.tables.exec = Jvm.exec) {x : UInt64} (hp : pc + 1 = pc') (hd : decode c.code pc = .ok (.dneg, 1))  (k : Go p e below s n0 Q nc ns (T.setTop (mkF m pc' Ls (.double (FP.dneg x) :: rest)))) : Go p e below s n0 Q nc ns (T.setTop (mkF m pc Ls (.double x :: rest))) := by
  subst hp; exact go_back (fun _ j => XS.dnegS X.here hx rfl hd rfl rfl j) k
theorem g_dcmp (X : Wk p l e R s m args below meth c n0 T h cells slots) (hx : p.tables.exec = Jvm.exec) {o : CmpOp} {x y : UInt64} {z : Int32} (hp : pc + 1 = pc') (hd : decode c.code pc = .ok (.dcmp o, 1)) (hz : cmpValue (FP.dcmp x y) o = z) (k : Go p e below s n0 Q nc ns (T.setTop (mkF m pc' Ls (.int z :: rest)))) : Go p e below s n0 Q nc ns (T.setTop (mkF m pc Ls (.double y :: .double x :: rest))) := by
  subst hp; exact go_back (fun _ j => XS.dcmpS X.here hx rfl hd rfl hz j) k
theorem g_dadd (X : Wk p l e R s m args below meth c n0 T h cells slots) (hx : p.tables.exec = Jvm.exec) {x y z : UInt64} (hp : pc + 1 = pc') (hd : decode c.code pc = .ok (.dadd, 1)) (hn : NoNaN64 (FP.dadd x y)) (hz : FP.dadd x y = z) (k : Go p e below s n0 Q nc ns (T.setTop (mkF m pc' Ls (.double z :: rest)))) : Go p e below s n0 Q nc ns (T.setTop (mkF m pc Ls (.double y :: .double x :: rest))) := by
  subst hp; exact go_back (fun _ j => XS.daddS X.here hx rfl hd rfl hn hz j) k
theorem g_dsub (X : Wk p l e R s m args below meth c n0 T h cells slots) (hx : p.tables.exec = Jvm.exec) {x y z : UInt64} (hp : pc + 1 = pc') (hd : decode c.code pc = .ok (.dsub, 1)) (hn : NoNaN64 (FP.dsub x y)) (hz : FP.dsub x y = z) (k : Go p e below s n0 Q nc ns (T.setTop (mkF m pc' Ls (.double z :: rest)))) : Go p e below s n0 Q nc ns (T.setTop (mkF m pc Ls (.double y :: .double x :: rest))) := by
  subst hp; exact go_back (fun _ j => XS.dsubS X.here hx rfl hd rfl hn hz j) k
theorem g_dmul (X : Wk p l e R s m args below meth c n0 T h cells slots) (hx : p.tables.exec = Jvm.exec) {x y z : UInt64} (hp : pc + 1 = pc') (hd : decode c.code pc = .ok (.dmul, 1)) (hn : NoNaN64 (FP.dmul x y)) (hz : FP.dmul x y = z) (k : Go p e below s n0 Q nc ns (T.setTop (mkF m pc' Ls (.double z :: rest)))) : Go p e below s n0 Q nc ns (T.setTop (mkF m pc Ls (.double y :: .double x :: rest))) := by
  subst hp; exact go_back (fun _ j => XS.dmulS X.here hx rfl hd rfl hn hz j) k
theorem g_ddiv (X : Wk p l e R s m args below meth c n0 T h cells slots) (hx : p.tables.exec = Jvm.exec) {x y z : UInt64} (hp : pc + 1 = pc') (hd : decode c.code pc = .ok (.ddiv, 1)) (hn : NoNaN64 (FP.ddiv x y)) (hz : FP.ddiv x y = z) (k : Go p e below s n0 Q nc ns (T.setTop (mkF m pc' Ls (.double z :: rest)))) : Go p e below s n0 Q nc ns (T.setTop (mkF m pc Ls (.double y :: .double x :: rest))) := by
  subst hp; exact go_back (fun _ j => XS.ddivS X.here hx rfl hd rfl hn hz j) k
theorem g_dup (X : Wk p l e R s m args below meth c n0 T h cells slots) (hx : p.tables.exec = Jvm.exec) {x : Value} (hp : pc + 1 = pc') (hd : decode c.code pc = .ok (.dup, 1)) (hc : x.category = 1) (k : Go p e below s n0 Q nc ns (T.setTop (mkF m pc' Ls (x :: x :: rest)))) : Go p e below s n0 Q nc ns (T.setTop (mkF m pc Ls (x :: rest))) := by
  subst hp; exact go_back (fun _ j => XS.dup X.here hx rfl hd rfl hc j) k
theorem g_dup_x1 (X : Wk p l e R s m args below meth c n0 T h cells slots) (hx : p.tables.exec = Jvm.exec) {x y : Value} (hp : pc + 1 = pc') (hd : decode c.code pc = .ok (.dup_x1, 1)) (hc : x.category = 1) (hc' : y.category = 1) (k : Go p e below s n0 Q nc ns (T.setTop (mkF m pc' Ls (x :: y :: x :: rest)))) : Go p e below s n0 Q nc ns (T.setTop (mkF m pc Ls (x :: y :: rest))) := by
  subst hp; exact go_back (fun _ j => XS.dupX1 X.here hx rfl hd rfl hc hc' j) k
theorem g_pop (X : Wk p l e R s m args below meth c n0 T h cells slots) (hx : p.tables.exec = Jvm.exec) {x : Value} (hp : pc + 1 = pc') (hd : decode c.code pc = .ok (.pop, 1)) (hc : x.category = 1) (k : Go p e below s n0 Q nc ns (T.setTop (mkF m pc' Ls (rest)))) : Go p e below s n0 Q nc ns (T.setTop (mkF m pc Ls (x :: rest))) := by
  subst hp; exact go_back (fun _ j => XS.pop X.here hx rfl hd rfl hc j) k
theorem g_dup2 (X : Wk p l e R s m args below meth c n0 T h cells slots) (hx : p.tables.exec = Jvm.exec) {x y : Value} (hp : pc + 1 = pc') (hd : decode c.code pc = .ok (.dup2, 1)) (hc : x.category = 1) (hc' : y.category = 1) (k : Go p e below s n0 Q nc ns (T.setTop (mkF m pc' Ls (x :: y :: x :: y :: rest)))) : Go p e below s n0 Q nc ns (T.setTop (mkF m pc Ls (x :: y :: rest))) := by
  subst hp; exact go_back (fun _ j => Jvm.Free.XT.dup2 X.here hx rfl hd rfl hc hc' j) k
theorem g_iinc (X : Wk p l e R s m args below meth c n0 T h cells slots) (hx : p.tables.exec = Jvm.exec) {k : Nat} {cst : Int} {x : Int32} {l' : Array Slot} (hp : pc + 3 = pc') (hd : decode c.code pc = .ok (.iinc k cst, 3)) (hl : Ls[k]? = some (.val (.int x))) (hl' : storeLocals Ls k (.int (x + Int32.ofInt cst)) = some l') (q : Go p e below s n0 Q nc ns (T.setTop (mkF m pc' l' st))) : Go p e below s n0 Q nc ns (T.setTop (mkF m pc Ls st)) := by
  subst hp; exact go_back (fun _ j => XS.iinc X.here hx rfl hd hl hl' j) q
theorem g_goto (X : Wk p l e R s m args below meth c n0 T h cells slots) (hx : p.tables.exec = Jvm.exec) {o : Int} (hd : decode c.code pc = .ok (.goto o, 3)) (ho : 0 ≤ (pc : Int) + o) (hp : ((pc : Int) + o).toNat = pc') (k : Go p e below s n0 Q nc ns (T.setTop (mkF m pc' Ls st))) : Go p e below s n0 Q nc ns (T.setTop (mkF m pc Ls st)) :=
  go_back (fun _ j => XS.goto X.here hx rfl rfl hd ho hp j) k
theorem g_ifY (X : Wk p l e R s m args below meth c n0 T h cells slots) (hx : p.tables.exec = Jvm.exec) {cd : ClassFile.Cond} {o : Int} {x : Int32} {pcY : Nat} (hd : decode c.code pc = .ok (.ifCond cd o, 3)) (ho : 0 ≤ (pc : Int) + o) (hY : ((pc : Int) + o).toNat = pcY) (q : cP cd x 0) (k : Go p e below s n0 Q nc ns (T.setTop (mkF m pcY Ls rest))) : Go p e below s n0 Q nc ns (T.setTop (mkF m pc Ls (.int x :: rest))) :=
  go_back (fun _ j => XS.ifYes X.here hx rfl rfl hd rfl ((if0 _ _).trans (cP_yes q)) ho hY j) k
theorem g_ifN (X : Wk p l e R s m args below meth c n0 T h cells slots) (hx : p.tables.exec = Jvm.exec) {cd : ClassFile.Cond} {o : Int} {x : Int32} {pcN : Nat} (hd : decode c.code pc = .ok (.ifCond cd o, 3)) (hN : pc + 3 = pcN) (q : ¬ cP cd x 0) (k : Go p e below s n0 Q nc ns (T.setTop (mkF m pcN Ls rest))) : Go p e below s n0 Q nc ns (T.setTop (mkF m pc Ls (.int x :: rest))) := by
  subst hN; exact go_back (fun _ j => XS.ifNo X.here hx rfl hd rfl ((if0 _ _).trans (cP_no q)) j) k
theorem g_if (X : Wk p l e R s m args below meth c n0 T h cells slots) (hx : p.tables.exec = Jvm.exec) {cd : ClassFile.Cond} {o : Int} {x : Int32} {pcY pcN : Nat} (hd : decode c.code pc = .ok (.ifCond cd o, 3)) (ho : 0 ≤ (pc : Int) + o) (hY : ((pc : Int) + o).toNat = pcY) (hN : pc + 3 = pcN) (kY : cP cd x 0 → Go p e below s n0 Q nc ns (T.setTop (mkF m pcY Ls rest))) (kN : ¬ cP cd x 0 → Go p e below s n0 Q nc ns (T.setTop (mkF m pcN Ls rest))) : Go p e below s n0 Q nc ns (T.setTop (mkF m pc Ls (.int x :: rest))) := by
  by_cases q : cP cd x 0
  · exact g_ifY X hx hd ho hY q (kY q)
  · exact g_ifN X hx hd hN q (kN q)
theorem g_icmpY (X : Wk p l e R s m args below meth c n0 T h cells slots) (hx : p.tables.exec = Jvm.exec) {cd : ClassFile.Cond} {o : Int} {x y : Int32} {pcY : Nat} (hd : decode c.code pc = .ok (.if_icmp cd o, 3)) (ho : 0 ≤ (pc : Int) + o) (hY : ((pc : Int) + o).toNat = pcY) (q : cP cd x y) (k : Go p e below s n0 Q nc ns (T.setTop (mkF m pcY Ls rest))) : Go p e below s n0 Q nc ns (T.setTop (mkF m pc Ls (.int y :: .int x :: rest))) :=
  go_back (fun _ j => XS.icmpYes X.here hx rfl rfl hd rfl (cP_yes q) ho hY j) k
theorem g_icmpN (X : Wk p l e R s m args below meth c n0 T h cells slots) (hx : p.tables.exec = Jvm.exec) {cd : ClassFile.Cond} {o : Int} {x y : Int32} {pcN : Nat} (hd : decode c.code pc = .ok (.if_icmp cd o, 3)) (hN : pc + 3 = pcN) (q : ¬ cP cd x y) (k : Go p e below s n0 Q nc ns (T.setTop (mkF m pcN Ls rest))) : Go p e below s n0 Q nc ns (T.setTop (mkF m pc Ls (.int y :: .int x :: rest))) := by
  subst hN; exact go_back (fun _ j => XS.icmpNo X.here hx rfl hd rfl (cP_no q) j) k
theorem g_icmp (X : Wk p l e R s m args below meth c n0 T h cells slots) (hx : p.tables.exec = Jvm.exec) {cd : ClassFile.Cond} {o : Int} {x y : Int32} {pcY pcN : Nat} (hd : decode c.code pc = .ok (.if_icmp cd o, 3)) (ho : 0 ≤ (pc : Int) + o) (hY : ((pc : Int) + o).toNat = pcY) (hN : pc + 3 = pcN) (kY : cP cd x y → Go p e below s n0 Q nc ns (T.setTop (mkF m pcY Ls rest))) (kN : ¬ cP cd x y → Go p e below s n0 Q nc ns (T.setTop (mkF m pcN Ls rest))) : Go p e below s n0 Q nc ns (T.setTop (mkF m pc Ls (.int y :: .int x :: rest))) := by
  by_cases q : cP cd x y
  · exact g_icmpY X hx hd ho hY q (kY q)
  · exact g_icmpN X hx hd hN q (kN q)
theorem g_ifnullY (X : Wk p l e R s m args below meth c n0 T h cells slots) (hx : p.tables.exec = Jvm.exec) {o : Int} {pcY : Nat} (hd : decode c.code pc = .ok (.ifnull o, 3)) (ho : 0 ≤ (pc : Int) + o) (hY : ((pc : Int) + o).toNat = pcY) (k : Go p e below s n0 Q nc ns (T.setTop (mkF m pcY Ls rest))) : Go p e below s n0 Q nc ns (T.setTop (mkF m pc Ls (.null :: rest))) :=
  go_back (fun _ j => XS.ifnullYes X.here hx rfl rfl hd rfl ho hY j) k
theorem g_ifnullN (X : Wk p l e R s m args below meth c n0 T h cells slots) (hx : p.tables.exec = Jvm.exec) {o : Int} {b : Addr} {pcN : Nat} (hd : decode c.code pc = .ok (.ifnull o, 3)) (hN : pc + 3 = pcN) (k : Go p e below s n0 Q nc ns (T.setTop (mkF m pcN Ls rest))) : Go p e below s n0 Q nc ns (T.setTop (mkF m pc Ls (.ref b :: rest))) := by
  subst hN; exact go_back (fun _ j => XS.ifnullNo X.here hx rfl hd rfl j) k
theorem g_ifnonnullY (X : Wk p l e R s m args below meth c n0 T h cells slots) (hx : p.tables.exec = Jvm.exec) {o : Int} {b : Addr} {pcY : Nat} (hd : decode c.code pc = .ok (.ifnonnull o, 3)) (ho : 0 ≤ (pc : Int) + o) (hY : ((pc : Int) + o).toNat = pcY) (k : Go p e below s n0 Q nc ns (T.setTop (mkF m pcY Ls rest))) : Go p e below s n0 Q nc ns (T.setTop (mkF m pc Ls (.ref b :: rest))) :=
  go_back (fun _ j => XS.ifnonnullYes X.here hx rfl rfl hd rfl ho hY j) k
theorem g_ifnonnullN (X : Wk p l e R s m args below meth c n0 T h cells slots) (hx : p.tables.exec = Jvm.exec) {o : Int} {pcN : Nat} (hd : decode c.code pc = .ok (.ifnonnull o, 3)) (hN : pc + 3 = pcN) (k : Go p e below s n0 Q nc ns (T.setTop (mkF m pcN Ls rest))) : Go p e below s n0 Q nc ns (T.setTop (mkF m pc Ls (.null :: rest))) := by
  subst hN; exact go_back (fun _ j => XS.ifnonnullNo X.here hx rfl hd rfl j) k
theorem g_normI {x z : Int32} (hz : x = z) (k : Go p e below s n0 Q nc ns (T.setTop (mkF m pc Ls (.int z :: rest)))) : Go p e below s n0 Q nc ns (T.setTop (mkF m pc Ls (.int x :: rest))) := hz ▸ k
theorem g_normD {x z : UInt64} (hz : x = z) (k : Go p e below s n0 Q nc ns (T.setTop (mkF m pc Ls (.double z :: rest)))) : Go p e below s n0 Q nc ns (T.setTop (mkF m pc Ls (.double x :: rest))) := hz ▸ k
theorem g_iincC (X : Wk p l e R s m args below meth c n0 T h cells slots) (hx : p.tables.exec = Jvm.exec) {k : Nat} {cst : Int} {x z : Int32} {l' : Array Slot} (hp : pc + 3 = pc') (hd : decode c.code pc = .ok (.iinc k cst, 3)) (hl : Ls[k]? = some (.val (.int x))) (hz : x + Int32.ofInt cst = z) (hl' : storeLocals Ls k (.int z) = some l') (q : Go p e below s n0 Q nc ns (T.setTop (mkF m pc' l' st))) : Go p e below s n0 Q nc ns (T.setTop (mkF m pc Ls st)) := by
  subst hz; exact g_iinc X hx hp hd hl hl' q
theorem g_ldcI (X : Wk p l e R s m args below meth c n0 T h cells slots) (hx : p.tables.exec = Jvm.exec) (hZ : Z.Warmed39 s.vm) {own : String} {index : Nat} {v : Int32} (hown : s.vm.findClass own = some m.cls) (w : (Jvm.Cond.constant own index v).before a0 Z = true) (hp : pc + 2 = pc') (hd : decode c.code pc = .ok (.ldc index, 2))
    (k : Go p e below s n0 Q nc ns (T.setTop (mkF m pc' Ls (.int v :: st)))) : Go p e below s n0 Q nc ns (T.setTop (mkF m pc Ls st)) := by
  subst hp; obtain ⟨_, X, -⟩ := X
  exact go_back (X.ldcInt hx hown (mvT hZ w) (g := mkF m pc Ls st) rfl hd) k
theorem g_ldc2L (X : Wk p l e R s m args below meth c n0 T h cells slots) (hx : p.tables.exec = Jvm.exec) (hZ : Z.Warmed39 s.vm) {own : String} {index : Nat} {v : Int64} (hown : s.vm.findClass own = some m.cls) (w : (Jvm.Cond.constantLong own index v).before a0 Z = true) (hp : pc + 3 = pc') (hd : decode c.code pc = .ok (.ldc2_w index, 3))
    (k : Go p e below s n0 Q nc ns (T.setTop (mkF m pc' Ls (.long v :: st)))) : Go p e below s n0 Q nc ns (T.setTop (mkF m pc Ls st)) := by
  subst hp; obtain ⟨_, X, -⟩ := X
  exact go_back (X.ldc2Long hx hown (mvT hZ w) (g := mkF m pc Ls st) rfl hd) k
theorem g_ldc2D (X : Wk p l e R s m args below meth c n0 T h cells slots) (hx : p.tables.exec = Jvm.exec) (hZ : Z.Warmed39 s.vm) {own : String} {index : Nat} {v : UInt64} (hown : s.vm.findClass own = some m.cls) (w : (Jvm.Cond.constantDouble own index v).before a0 Z = true) (hp : pc + 3 = pc') (hd : decode c.code pc = .ok (.ldc2_w index, 3))
    (k : Go p e below s n0 Q nc ns (T.setTop (mkF m pc' Ls (.double v :: st)))) : Go p e below s n0 Q nc ns (T.setTop (mkF m pc Ls st)) := by
  subst hp; obtain ⟨_, X, -⟩ := X
  exact go_back (X.ldc2DoubleC hx hown (mvT hZ w) (g := mkF m pc Ls st) rfl hd) k
theorem g_getF (X : Wk p l e R s m args below meth c n0 T h cells slots) (hx : p.tables.exec = Jvm.exec) (hZ : Z.Warmed39 s.vm) {own R0 O n d : String} {index : Nat} (hown : s.vm.findClass own = some m.cls) (w : (Jvm.Cond.fieldLink own index R0 n d).before a0 Z = true) (via : Via Z R0 O n d) {a : Addr} {v : Value} (F : Fld Z h a O n d v) (hp : pc + 3 = pc') (hd : decode c.code pc = .ok (.getfield index, 3))
    (k : ∀ T', Wk p l e R s m args below meth c n0 T' h cells slots → Go p e below s n0 Q nc ns (T'.setTop (mkF m pc' Ls (v :: rest)))) : Go p e below s n0 Q nc ns (T.setTop (mkF m pc Ls (.ref a :: rest))) := by
  subst hp; obtain ⟨locs, X, N, eT⟩ := X
  obtain ⟨T', X', e', b⟩ := getF X hx hZ hown (host := "") (Or.inl w) via eT F (g := mkF m pc Ls (.ref a :: rest)) rfl rfl hd
  exact go_back b (k T' ⟨locs, X', N, e'⟩)
theorem g_getS (X : Wk p l e R s m args below meth c n0 T h cells slots) (hx : p.tables.exec = Jvm.exec) (hZ : Z.Warmed39 s.vm) {own R0 O n d : String} {index : Nat} (hown : s.vm.findClass own = some m.cls) (w : (Jvm.Cond.fieldLink own index R0 n d).before a0 Z = true) (via : Via Z R0 O n d) {v : Value} (F : Sta Z h O n d v) (hp : pc + 3 = pc') (hd : decode c.code pc = .ok (.getstatic index, 3))
    (k : ∀ T', Wk p l e R s m args below meth c n0 T' h cells slots → Go p e below s n0 Q nc ns (T'.setTop (mkF m pc' Ls (v :: st)))) : Go p e below s n0 Q nc ns (T.setTop (mkF m pc Ls st)) := by
  subst hp; obtain ⟨locs, X, N, eT⟩ := X
  obtain ⟨T', X', e', b⟩ := getS X hx hZ hown w via eT F (g := mkF m pc Ls st) rfl hd (host := "")
  exact go_back b (k T' ⟨locs, X', N, e'⟩)
theorem g_putF (X : Wk p l e R s m args below meth c n0 T h cells slots) (hx : p.tables.exec = Jvm.exec) (hZ : Z.Warmed39 s.vm) {own R0 O n d C : String} {index kk : Nat} {ty : FieldType} (hown : s.vm.findClass own = some m.cls) (w : (Jvm.Cond.fieldLink own index R0 n d).before a0 Z = true) (via : Via Z R0 O n d) {a : Addr} {v old : Value} (F : Fld Z h a O n d old) (E : Exa Z h a C)
    (L : (Jvm.Cond.lays C O n d).before a0 Z = true ∨ ((Jvm.Cond.laysFinal C O n d).before a0 Z = true ∧ own = O ∧ meth.name = "<init>")) (wi : (Jvm.Cond.instantiable C kk).before a0 Z = true) (hty : parseFieldDescriptor d = some ty) (hn : narrow ty v = v) (hf : fits ty v = true) (hna : n0 ≤ a) (hp : pc + 3 = pc') (hd : decode c.code pc = .ok (.putfield index, 3))
    (k : ∀ T' h', Wk p l e R s m args below meth c n0 T' h' cells slots → Wr h h' a (Jvm.RoadKit.slotOf Z O n d) v → Go p e below s n0 Q nc ns (T'.setTop (mkF m pc' Ls rest))) : Go p e below s n0 Q nc ns (T.setTop (mkF m pc Ls (v :: .ref a :: rest))) := by
  subst hp; obtain ⟨locs, X, N, eT⟩ := X
  obtain ⟨T', h', X', e', W', b⟩ := putF X hx hZ hown (host := "") (Or.inl w) via eT F E L wi hty hn hf (g := mkF m pc Ls (v :: .ref a :: rest)) rfl rfl hd
  exact go_back b (k T' h' ⟨_, X', Fr.snoc X' N hna, e'⟩ W')
theorem g_newO (X : Wk p l e R s m args below meth c n0 T h cells slots) (hx : p.tables.exec = Jvm.exec) (hZ : Z.Warmed39 s.vm) {own C : String} {index n : Nat} (hown : s.vm.findClass own = some m.cls) (w : (Jvm.Cond.classLink own index C).before a0 Z = true) (wi : (Jvm.Cond.instantiable C n).before a0 Z = true) (wz : (Jvm.Cond.initialized C).before a0 Z = true) (hp : pc + 3 = pc') (hd : decode c.code pc = .ok (.new index, 3)) (hc : cells + 1 ≤ R.cells) (hl : slots + n ≤ R.slots)
    (k : ∀ T' h' a, a = h.size → Wk p l e R s m args below meth c n0 T' h' (cells + 1) (slots + n) → Ext h h' → Exa Z h' a C → (∀ {O nm d : String} {ty : FieldType}, Laid Z a0 C O nm d → parseFieldDescriptor d = some ty → Fld Z h' a O nm d (defaultValue ty)) → Go p e below s n0 Q nc ns (T'.setTop (mkF m pc' Ls (.ref a :: st)))) : Go p e below s n0 Q nc ns (T.setTop (mkF m pc Ls st)) := by
  subst hp; obtain ⟨locs, X, N, eT⟩ := X
  obtain ⟨T', h', X', e', E', A', D', -, b⟩ := newO X hx hZ hown w wi wz eT (g := mkF m pc Ls st) rfl hd hc hl
  exact go_back b (k T' h' h.size rfl ⟨_, X', N, e'⟩ E' A' (fun L q => D' L q))
theorem g_initO (X : Wk p l e R s m args below meth c n0 T h cells slots) (hx : p.tables.exec = Jvm.exec) (hZ : Z.Warmed39 s.vm) {own : String} {index : Nat} (hown : s.vm.findClass own = some m.cls) (w1 : (Jvm.Cond.methodLink own index Lib.objectInit).before a0 Z = true) (w2 : (Jvm.Cond.instanceMethod Lib.objectInit).before a0 Z = true) (w3 : (Jvm.Cond.code Lib.objectInit ⟨#[0xb1]⟩ 1 none).before a0 Z = true) {a : Addr} (hsz : Ls.size = c.maxLocals) (hp : pc + 3 = pc') (hd : decode c.code pc = .ok (.invokespecial index, 3)) (hf : 1 ≤ R.frames) {W : Nat} (hW : 2 * 0 + (rest.map fun v => v.category).sum ≤ W) (hl : W + 12 ≤ R.locals)
    (k : ∀ T', Wk p l e R s m args below meth c n0 T' h cells slots → Go p e below s n0 Q nc ns (T'.setTop (mkF m pc' Ls rest))) : Go p e below s n0 Q nc ns (T.setTop (mkF m pc Ls (.ref a :: rest))) := by
  subst hp; obtain ⟨locs, X, N, eT⟩ := X
  obtain ⟨T', X', e', b⟩ := initO X hx hZ hown w1 w2 w3 eT (g := mkF m pc Ls (.ref a :: rest)) rfl hsz rfl hd hf hW hl
  exact go_back b (k T' ⟨_, X', N, e'⟩)
section Calls
variable {y z : MethodName} {bytes : ByteArray} {maxL : Nat} {ret : Option FieldType} {rm : Room} {as : Array Value} {Qc : Option Value → Heap → Prop} {own : String} {index W : Nat} {argsL : List Value} {ps : List FieldType} {r : Option FieldType}
theorem g_callS (X : Wk p l e R s m args below meth c n0 T h cells slots) (hx : p.tables.exec = Jvm.exec) (hZ : Z.Warmed39 s.vm) (hown : s.vm.findClass own = some m.cls) (w1 : (Jvm.Cond.methodLink own index y).before a0 Z = true) (w2 : (Jvm.Cond.static y).before a0 Z = true) (w3 : (Jvm.Cond.initialized y.cls).before a0 Z = true) (w4 : (Jvm.Cond.code y bytes maxL ret).before a0 Z = true)
    (hy : y.cls ≠ "java/lang/invoke/MethodHandle" ∧ y.cls ≠ "java/lang/invoke/VarHandle") (hM : Con l Z n0 y bytes maxL ret [] rm as h Qc) (hlen : parseMethodDescriptor y.desc = some ⟨ps, r⟩) (hl : argsL.length = ps.length) (has : as = argsL.toArray) (hsz : Ls.size = c.maxLocals) (hp : pc + 3 = pc') (hd : decode c.code pc = .ok (.invokestatic index, 3))
    (hst : st = argsL.reverse ++ rest) (hW : 2 * 0 + (rest.map fun v => v.category).sum ≤ W) (hf : rm.frames + 1 ≤ R.frames) (hlo : W + (maxL + 11) + rm.locals ≤ R.locals) (hc : cells + rm.cells ≤ R.cells) (hs : slots + rm.slots ≤ R.slots)
    (k : ∀ v T' h', Wk p l e R s m args below meth c n0 T' h' (cells + rm.cells) (slots + rm.slots) → Qc v h' → Go p e below s n0 Q nc ns (T'.setTop (mkF m pc' Ls (v.toList ++ rest)))) : Go p e below s n0 Q nc ns (T.setTop (mkF m pc Ls st)) := by
  subst hp; subst has; obtain ⟨locs, X, N, eT⟩ := X
  obtain ⟨v, vm1, ⟨U, L1, c1, s1⟩, -, X', ⟨Lc, hQ, l1, y1, z1⟩, b⟩ := Jvm.LawKit.callS X hx hown (mvT hZ w1) (mvT hZ w2) (mvT hZ w3) (mvT hZ w4) hy (backOf (W := W) (Q := fun v h L => Fr n0 L ∧ Qc v h) hM hZ w4 w3 hf hlo) (g := mkF m pc Ls st) rfl hsz (argsL := argsL) (rest := rest) (lenOf hlen hl) hst hW hd (fun _ _ => ⟨rfl, eT, hc, hs⟩)
  dsimp only [Pt.U, Pt.locs, Pt.cells, Pt.slots] at X' l1 y1 z1 b hQ
  subst l1 y1 z1
  exact go_back b (k v U U.heap ⟨_, X', Fr.app N hQ.1, rfl⟩ hQ.2)
theorem g_callI (X : Wk p l e R s m args below meth c n0 T h cells slots) (hx : p.tables.exec = Jvm.exec) (hZ : Z.Warmed39 s.vm) (hown : s.vm.findClass own = some m.cls) (hy1 : y.name = "<init>") (w1 : (Jvm.Cond.methodLink own index y).before a0 Z = true) (w2 : (Jvm.Cond.instanceMethod y).before a0 Z = true) (w3 : (Jvm.Cond.initialized y.cls).before a0 Z = true) (w4 : (Jvm.Cond.code y bytes maxL none).before a0 Z = true)
    (hy : y.cls ≠ "java/lang/invoke/MethodHandle" ∧ y.cls ≠ "java/lang/invoke/VarHandle") {a : Addr} (hM : Con l Z n0 y bytes maxL none [] rm as h Qc) (hlen : parseMethodDescriptor y.desc = some ⟨ps, r⟩) (hl : argsL.length = ps.length) (has : as = (Value.ref a :: argsL).toArray) (hsz : Ls.size = c.maxLocals) (hp : pc + 3 = pc') (hd : decode c.code pc = .ok (.invokespecial index, 3))
    (hst : st = argsL.reverse ++ .ref a :: rest) (hW : 2 * 0 + (rest.map fun v => v.category).sum ≤ W) (hf : rm.frames + 1 ≤ R.frames) (hlo : W + (maxL + 11) + rm.locals ≤ R.locals) (hc : cells + rm.cells ≤ R.cells) (hs : slots + rm.slots ≤ R.slots)
    (k : ∀ v T' h', Wk p l e R s m args below meth c n0 T' h' (cells + rm.cells) (slots + rm.slots) → Qc v h' → Go p e below s n0 Q nc ns (T'.setTop (mkF m pc' Ls (v.toList ++ rest)))) : Go p e below s n0 Q nc ns (T.setTop (mkF m pc Ls st)) := by
  subst hp; subst has; obtain ⟨locs, X, N, eT⟩ := X
  obtain ⟨v, vm1, ⟨U, L1, c1, s1⟩, -, X', ⟨Lc, hQ, l1, y1, z1⟩, b⟩ := X.specialBack hx hy1 hown (mvT hZ w1) (mvT hZ w2) (mvT hZ w4) hy (backOf (W := W) (Q := fun v h L => Fr n0 L ∧ Qc v h) hM hZ w4 w3 hf hlo) (g := mkF m pc Ls st) rfl hsz (Steps.refl _) (a := a) (argsL := argsL) (rest := rest) (lenOf hlen hl) hst hW hd (fun _ _ => ⟨rfl, eT, hc, hs⟩)
  dsimp only [Pt.U, Pt.locs, Pt.cells, Pt.slots] at X' l1 y1 z1 b hQ
  subst l1 y1 z1
  exact go_back (fun _ j => b.trans j) (k v U U.heap ⟨_, X', Fr.app N hQ.1, rfl⟩ hQ.2)
theorem g_callV (X : Wk p l e R s m args below meth c n0 T h cells slots) (hx : p.tables.exec = Jvm.exec) (hZ : Z.Warmed39 s.vm) (hown : s.vm.findClass own = some m.cls) {C : String} (w1 : (Jvm.Cond.methodLink own index y).before a0 Z = true) (w2 : (Jvm.Cond.declares y).before a0 Z = true) (w5 : (Jvm.Cond.selects C y y).before a0 Z = true) (w6 : (Jvm.Cond.instanceMethod y).before a0 Z = true) (w3 : (Jvm.Cond.initialized y.cls).before a0 Z = true) (w4 : (Jvm.Cond.code y bytes maxL ret).before a0 Z = true)
    (hy : y.cls ≠ "java/lang/invoke/MethodHandle" ∧ y.cls ≠ "java/lang/invoke/VarHandle") {a : Addr} (E : Exa Z h a C) (hM : Con l Z n0 y bytes maxL ret [] rm as h Qc) (hlen : parseMethodDescriptor y.desc = some ⟨ps, r⟩) (hl : argsL.length = ps.length) (has : as = (Value.ref a :: argsL).toArray) (hsz : Ls.size = c.maxLocals) (hp : pc + 3 = pc') (hd : decode c.code pc = .ok (.invokevirtual index, 3))
    (hst : st = argsL.reverse ++ .ref a :: rest) (hW : 2 * 0 + (rest.map fun v => v.category).sum ≤ W) (hf : rm.frames + 1 ≤ R.frames) (hlo : W + (maxL + 11) + rm.locals ≤ R.locals) (hc : cells + rm.cells ≤ R.cells) (hs : slots + rm.slots ≤ R.slots)
    (k : ∀ v T' h', Wk p l e R s m args below meth c n0 T' h' (cells + rm.cells) (slots + rm.slots) → Qc v h' → Go p e below s n0 Q nc ns (T'.setTop (mkF m pc' Ls (v.toList ++ rest)))) : Go p e below s n0 Q nc ns (T.setTop (mkF m pc Ls st)) := by
  subst hp; subst has; obtain ⟨locs, X, N, eT⟩ := X
  obtain ⟨cq, kq, qa, qb, qc⟩ := isOf hZ eT E
  obtain ⟨v, vm1, ⟨U, L1, c1, s1⟩, -, X', ⟨Lc, hQ, l1, y1, z1⟩, b⟩ := X.virtualBack hx (y := y) (z := y) hown (mvT hZ w1) (mvT hZ w2) (notFace_of_selects (args := #[]) (mvT hZ w5)) (mvT hZ w5) (mvT hZ w6) hy (backOf (W := W) (Q := fun v h L => Fr n0 L ∧ Qc v h) hM hZ w4 w3 hf hlo) qa qc (g := mkF m pc Ls st) rfl hsz (Steps.refl _) (argsL := argsL) (rest := rest) (lenOf hlen hl) hst hW hd (fun _ _ => ⟨rfl, eT, hc, hs⟩)
  dsimp only [Pt.U, Pt.locs, Pt.cells, Pt.slots] at X' l1 y1 z1 b hQ
  subst l1 y1 z1
  exact go_back (fun _ j => b.trans j) (k v U U.heap ⟨_, X', Fr.app N hQ.1, rfl⟩ hQ.2)
theorem g_nat (X : Wk p l e R s m args below meth c n0 T h cells slots) (hx : p.tables.exec = Jvm.exec) (hZ : Z.Warmed39 s.vm) (hown : s.vm.findClass own = some m.cls) (w1 : (Jvm.Cond.methodLink own index y).before a0 Z = true) (w2 : (Jvm.Cond.static y).before a0 Z = true) (w3 : (Jvm.Cond.initialized y.cls).before a0 Z = true) (w4 : (Jvm.Cond.code y bytes maxL ret).before a0 Z = true)
    (hy : y.cls ≠ "java/lang/invoke/MethodHandle" ∧ y.cls ≠ "java/lang/invoke/VarHandle") {F : Array Value → Prop} {val : Value} (hK : (Jvm.Cond.code y bytes maxL ret).before args s = true → Back l R p e below s args y 3 W (fun A a' => A.cells ≤ R.cells ∧ A.slots ≤ R.slots ∧ F a') (fun A _ v B => v = some val ∧ B = A)) (hlen : parseMethodDescriptor y.desc = some ⟨ps, r⟩) (hl : argsL.length = ps.length) (hsz : Ls.size = c.maxLocals) (hp : pc + 3 = pc') (hd : decode c.code pc = .ok (.invokestatic index, 3))
    (hst : st = argsL.reverse ++ rest) (hW : 2 * 0 + (rest.map fun v => v.category).sum ≤ W) (hc : cells ≤ R.cells) (hs : slots ≤ R.slots) (hF : F argsL.toArray)
    (k : ∀ T', Wk p l e R s m args below meth c n0 T' h cells slots → Go p e below s n0 Q nc ns (T'.setTop (mkF m pc' Ls (val :: rest)))) : Go p e below s n0 Q nc ns (T.setTop (mkF m pc Ls st)) := by
  subst hp; obtain ⟨locs, X, N, eT⟩ := X
  obtain ⟨T', X', e', b⟩ := natS X hx hZ hown w1 w2 w3 w4 hy eT hK (g := mkF m pc Ls st) rfl hsz (argsL := argsL) (rest := rest) (lenOf hlen hl) hst hW hd hc hs hF rfl
  exact go_back b (k T' ⟨_, X', N, e'⟩)
end Calls
theorem g_absD2 (X : Wk p l e R s m args below meth c n0 T h cells slots) (hx : p.tables.exec = Jvm.exec) (hZ : Z.Warmed39 s.vm) {own : String} {index W : Nat} (hown : s.vm.findClass own = some m.cls) (w1 : (Jvm.Cond.methodLink own index Jvm.Free.Fl.Abs.absDN).before a0 Z = true) (w2 : (Jvm.Cond.static Jvm.Free.Fl.Abs.absDN).before a0 Z = true) (w3 : (Jvm.Cond.initialized Jvm.Free.Fl.Abs.absDN.cls).before a0 Z = true) (w4 : (Jvm.Cond.code Jvm.Free.Fl.Abs.absDN Jvm.Free.Fl.Abs.absDCode 2 (some .double)).before a0 Z = true)
    {x : UInt64} (hn : NoNaN64 x) (hsz : Ls.size = c.maxLocals) (hp : pc + 3 = pc') (hd : decode c.code pc = .ok (.invokestatic index, 3)) (hW : 2 * 0 + (rest.map fun v => v.category).sum ≤ W) (hf : 1 ≤ R.frames) (hlo : W + 13 ≤ R.locals) (hc : cells ≤ R.cells) (hs : slots ≤ R.slots)
    (k : ∀ T', Wk p l e R s m args below meth c n0 T' h cells slots → Go p e below s n0 Q nc ns (T'.setTop (mkF m pc' Ls (.double (x &&& 0x7fffffffffffffff) :: rest)))) : Go p e below s n0 Q nc ns (T.setTop (mkF m pc Ls (.double x :: rest))) :=
  g_nat X hx hZ hown w1 w2 w3 w4 (by decide) (fun q => Jvm.Free.Fl.Abs.absD_pays x q hf hlo) (ps := [.double]) (r := some .double) (by decide +kernel) (argsL := [.double x]) rfl hsz hp hd rfl hW hc hs ⟨rfl, hn⟩ k
theorem g_ret (X : Wk p l e R s m args below meth c n0 T h cells slots) (hx : p.tables.exec = Jvm.exec) (hlk : meth.locks = false) {t : FieldType} {w : Value} {i : Instr} (hret : meth.sig.returnType = some t) (hn : narrow t w = w)
    (hi : (i = .ireturn ∧ (t = .int ∨ t = .boolean ∨ t = .byte ∨ t = .char ∨ t = .short) ∧ ∃ z, w = .int z) ∨ (i = .lreturn ∧ t = .long ∧ ∃ z, w = .long z) ∨ (i = .dreturn ∧ t = .double ∧ ∃ z, w = .double z) ∨ (i = .freturn ∧ t = .float ∧ ∃ z, w = .float z) ∨ (i = .areturn ∧ t.isReference = true ∧ w.isRef = true))
    (hd : decode c.code pc = .ok (i, 1)) (hc : cells ≤ nc) (hs : slots ≤ ns) (hQ : Q (some w) h) : Go p e below s n0 Q nc ns (T.setTop (mkF m pc Ls (w :: rest))) := by
  obtain ⟨locs, X, N, eT⟩ := X
  obtain ⟨fs, hr, hrun, hended, hW, hsame⟩ := X.leave (v := some w) (fun q => by rw [hret] at q; cases q) hlk
  exact ⟨_, _, retOut X hx hret hn hi hd hr, hrun, hended, _, _, rfl, ⟨N, by show Q (some w) T.heap; rw [eT]; exact hQ⟩, ⟨_, rfl⟩, hW, hsame.mono hc hs⟩
theorem g_retI (X : Wk p l e R s m args below meth c n0 T h cells slots) (hx : p.tables.exec = Jvm.exec) (hlk : meth.locks = false) {z : Int32} (hret : meth.sig.returnType = some .int) (hd : decode c.code pc = .ok (.ireturn, 1)) (hc : cells ≤ nc) (hs : slots ≤ ns) (hQ : Q (some (.int z)) h) : Go p e below s n0 Q nc ns (T.setTop (mkF m pc Ls (.int z :: rest))) :=
  g_ret X hx hlk hret rfl (Or.inl ⟨rfl, Or.inl rfl, z, rfl⟩) hd hc hs hQ
theorem g_retZ (X : Wk p l e R s m args below meth c n0 T h cells slots) (hx : p.tables.exec = Jvm.exec) (hlk : meth.locks = false) {z : Int32} (hret : meth.sig.returnType = some .boolean) (hz : z = 0 ∨ z = 1) (hd : decode c.code pc = .ok (.ireturn, 1)) (hc : cells ≤ nc) (hs : slots ≤ ns) (hQ : Q (some (.int z)) h) : Go p e below s n0 Q nc ns (T.setTop (mkF m pc Ls (.int z :: rest))) :=
  g_ret X hx hlk hret (by rcases hz with rfl | rfl <;> rfl) (Or.inl ⟨rfl, Or.inr (Or.inl rfl), z, rfl⟩) hd hc hs hQ
theorem g_retL (X : Wk p l e R s m args below meth c n0 T h cells slots) (hx : p.tables.exec = Jvm.exec) (hlk : meth.locks = false) {z : Int64} (hret : meth.sig.returnType = some .long) (hd : decode c.code pc = .ok (.lreturn, 1)) (hc : cells ≤ nc) (hs : slots ≤ ns) (hQ : Q (some (.long z)) h) : Go p e below s n0 Q nc ns (T.setTop (mkF m pc Ls (.long z :: rest))) :=
  g_ret X hx hlk hret rfl (Or.inr (Or.inl ⟨rfl, rfl, z, rfl⟩)) hd hc hs hQ
theorem g_retD (X : Wk p l e R s m args below meth c n0 T h cells slots) (hx : p.tables.exec = Jvm.exec) (hlk : meth.locks = false) {z : UInt64} (hret : meth.sig.returnType = some .double) (hd : decode c.code pc = .ok (.dreturn, 1)) (hc : cells ≤ nc) (hs : slots ≤ ns) (hQ : Q (some (.double z)) h) : Go p e below s n0 Q nc ns (T.setTop (mkF m pc Ls (.double z :: rest))) :=
  g_ret X hx hlk hret rfl (Or.inr (Or.inr (Or.inl ⟨rfl, rfl, z, rfl⟩))) hd hc hs hQ
theorem g_retV (X : Wk p l e R s m args below meth c n0 T h cells slots) (hx : p.tables.exec = Jvm.exec) (hlk : meth.locks = false) (hret : meth.sig.returnType = none) (hd : decode c.code pc = .ok (.return_, 1)) (hc : cells ≤ nc) (hs : slots ≤ ns) (hQ : Q none h) : Go p e below s n0 Q nc ns (T.setTop (mkF m pc Ls [])) := by
  obtain ⟨locs, X, N, eT⟩ := X
  obtain ⟨fs, hr, hrun, hended, hW, hsame⟩ := X.leave (v := none) (fun _ => rfl) hlk
  exact ⟨_, _, X.returnOut hx hret hd hr, hrun, hended, _, _, rfl, ⟨N, by show Q none T.heap; rw [eT]; exact hQ⟩, ⟨_, rfl⟩, hW, hsame.mono hc hs⟩
end OwnKit
theorem d1_0 : decode method_2_code 0 = .ok (.iload_n 0, 1) := by decide +kernel
theorem d1_1 : decode method_2_code 1 = .ok (.iconst 4, 1) := by decide +kernel
theorem d1_2 : decode method_2_code 2 = .ok (.iload_n 1, 1) := by decide +kernel
theorem d1_3 : decode method_2_code 3 = .ok (.imul, 1) := by decide +kernel
theorem d1_4 : decode method_2_code 4 = .ok (.ishr, 1) := by decide +kernel
theorem d1_5 : decode method_2_code 5 = .ok (.bipush 15, 2) := by decide +kernel
theorem d1_7 : decode method_2_code 7 = .ok (.iand, 1) := by decide +kernel
theorem d1_8 : decode method_2_code 8 = .ok (.bipush 8, 2) := by decide +kernel
theorem d1_10 : decode method_2_code 10 = .ok (.isub, 1) := by decide +kernel
theorem d1_11 : decode method_2_code 11 = .ok (.i2d, 1) := by decide +kernel
theorem d1_12 : decode method_2_code 12 = .ok (.dreturn, 1) := by decide +kernel
theorem d2_0 : decode prog_16_method_2_code 0 = .ok (.iconst 1, 1) := by decide +kernel
theorem d2_1 : decode prog_16_method_2_code 1 = .ok (.istore 5, 2) := by decide +kernel
theorem d2_3 : decode prog_16_method_2_code 3 = .ok (.iload 5, 2) := by decide +kernel
theorem d2_5 : decode prog_16_method_2_code 5 = .ok (.iload_n 2, 1) := by decide +kernel
theorem d2_6 : decode prog_16_method_2_code 6 = .ok (.if_icmp .ge 86, 3) := by decide +kernel
theorem d2_9 : decode prog_16_method_2_code 9 = .ok (.iload 5, 2) := by decide +kernel
theorem d2_11 : decode prog_16_method_2_code 11 = .ok (.iload 4, 2) := by decide +kernel
theorem d2_13 : decode prog_16_method_2_code 13 = .ok (.imul, 1) := by decide +kernel
theorem d2_14 : decode prog_16_method_2_code 14 = .ok (.istore 6, 2) := by decide +kernel
theorem d2_16 : decode prog_16_method_2_code 16 = .ok (.iconst 0, 1) := by decide +kernel
theorem d2_17 : decode prog_16_method_2_code 17 = .ok (.istore 7, 2) := by decide +kernel
theorem d2_19 : decode prog_16_method_2_code 19 = .ok (.iload 7, 2) := by decide +kernel
theorem d2_21 : decode prog_16_method_2_code 21 = .ok (.iload 5, 2) := by decide +kernel
theorem d2_23 : decode prog_16_method_2_code 23 = .ok (.if_icmp .ge 63, 3) := by decide +kernel
theorem d2_26 : decode prog_16_method_2_code 26 = .ok (.aload_n 0, 1) := by decide +kernel
theorem d2_27 : decode prog_16_method_2_code 27 = .ok (.iload 5, 2) := by decide +kernel
theorem d2_29 : decode prog_16_method_2_code 29 = .ok (.iload_n 1, 1) := by decide +kernel
theorem d2_30 : decode prog_16_method_2_code 30 = .ok (.imul, 1) := by decide +kernel
theorem d2_31 : decode prog_16_method_2_code 31 = .ok (.iload 7, 2) := by decide +kernel
theorem d2_33 : decode prog_16_method_2_code 33 = .ok (.iadd, 1) := by decide +kernel
theorem d2_34 : decode prog_16_method_2_code 34 = .ok (.daload, 1) := by decide +kernel
theorem d2_35 : decode prog_16_method_2_code 35 = .ok (.dstore 8, 2) := by decide +kernel
theorem d2_37 : decode prog_16_method_2_code 37 = .ok (.iload 7, 2) := by decide +kernel
theorem d2_39 : decode prog_16_method_2_code 39 = .ok (.iload 4, 2) := by decide +kernel
theorem d2_41 : decode prog_16_method_2_code 41 = .ok (.imul, 1) := by decide +kernel
theorem d2_42 : decode prog_16_method_2_code 42 = .ok (.istore 10, 2) := by decide +kernel
theorem d2_44 : decode prog_16_method_2_code 44 = .ok (.iconst 0, 1) := by decide +kernel
theorem d2_45 : decode prog_16_method_2_code 45 = .ok (.istore 11, 2) := by decide +kernel
theorem d2_47 : decode prog_16_method_2_code 47 = .ok (.iload 11, 2) := by decide +kernel
theorem d2_49 : decode prog_16_method_2_code 49 = .ok (.iload 4, 2) := by decide +kernel
theorem d2_51 : decode prog_16_method_2_code 51 = .ok (.if_icmp .ge 29, 3) := by decide +kernel
theorem d2_54 : decode prog_16_method_2_code 54 = .ok (.aload_n 3, 1) := by decide +kernel
theorem d2_55 : decode prog_16_method_2_code 55 = .ok (.iload 6, 2) := by decide +kernel
theorem d2_57 : decode prog_16_method_2_code 57 = .ok (.iload 11, 2) := by decide +kernel
theorem d2_59 : decode prog_16_method_2_code 59 = .ok (.iadd, 1) := by decide +kernel
theorem d2_60 : decode prog_16_method_2_code 60 = .ok (.dup2, 1) := by decide +kernel
theorem d2_61 : decode prog_16_method_2_code 61 = .ok (.daload, 1) := by decide +kernel
theorem d2_62 : decode prog_16_method_2_code 62 = .ok (.dload 8, 2) := by decide +kernel
theorem d2_64 : decode prog_16_method_2_code 64 = .ok (.aload_n 3, 1) := by decide +kernel
theorem d2_65 : decode prog_16_method_2_code 65 = .ok (.iload 10, 2) := by decide +kernel
theorem d2_67 : decode prog_16_method_2_code 67 = .ok (.iload 11, 2) := by decide +kernel
theorem d2_69 : decode prog_16_method_2_code 69 = .ok (.iadd, 1) := by decide +kernel
theorem d2_70 : decode prog_16_method_2_code 70 = .ok (.daload, 1) := by decide +kernel
theorem d2_71 : decode prog_16_method_2_code 71 = .ok (.dmul, 1) := by decide +kernel
theorem d2_72 : decode prog_16_method_2_code 72 = .ok (.dsub, 1) := by decide +kernel
theorem d2_73 : decode prog_16_method_2_code 73 = .ok (.dastore, 1) := by decide +kernel
theorem d2_74 : decode prog_16_method_2_code 74 = .ok (.iinc 11 1, 3) := by decide +kernel
theorem d2_77 : decode prog_16_method_2_code 77 = .ok (.goto (-30), 3) := by decide +kernel
theorem d2_80 : decode prog_16_method_2_code 80 = .ok (.iinc 7 1, 3) := by decide +kernel
theorem d2_83 : decode prog_16_method_2_code 83 = .ok (.goto (-64), 3) := by decide +kernel
theorem d2_86 : decode prog_16_method_2_code 86 = .ok (.iinc 5 1, 3) := by decide +kernel
theorem d2_89 : decode prog_16_method_2_code 89 = .ok (.goto (-86), 3) := by decide +kernel
theorem d2_92 : decode prog_16_method_2_code 92 = .ok (.return_, 1) := by decide +kernel
theorem d3_0 : decode method_3_code 0 = .ok (.aload_n 0, 1) := by decide +kernel
theorem d3_1 : decode method_3_code 1 = .ok (.iload_n 3, 1) := by decide +kernel
theorem d3_2 : decode method_3_code 2 = .ok (.daload, 1) := by decide +kernel
theorem d3_3 : decode method_3_code 3 = .ok (.dstore 11, 2) := by decide +kernel
theorem d3_5 : decode method_3_code 5 = .ok (.aload_n 0, 1) := by decide +kernel
theorem d3_6 : decode method_3_code 6 = .ok (.iload_n 2, 1) := by decide +kernel
theorem d3_7 : decode method_3_code 7 = .ok (.iload_n 3, 1) := by decide +kernel
theorem d3_8 : decode method_3_code 8 = .ok (.iadd, 1) := by decide +kernel
theorem d3_9 : decode method_3_code 9 = .ok (.daload, 1) := by decide +kernel
theorem d3_10 : decode method_3_code 10 = .ok (.dstore 13, 2) := by decide +kernel
theorem d3_12 : decode method_3_code 12 = .ok (.aload_n 0, 1) := by decide +kernel
theorem d3_13 : decode method_3_code 13 = .ok (.iconst 2, 1) := by decide +kernel
theorem d3_14 : decode method_3_code 14 = .ok (.iload_n 2, 1) := by decide +kernel
theorem d3_15 : decode method_3_code 15 = .ok (.imul, 1) := by decide +kernel
theorem d3_16 : decode method_3_code 16 = .ok (.iload_n 3, 1) := by decide +kernel
theorem d3_17 : decode method_3_code 17 = .ok (.iadd, 1) := by decide +kernel
theorem d3_18 : decode method_3_code 18 = .ok (.daload, 1) := by decide +kernel
theorem d3_19 : decode method_3_code 19 = .ok (.dstore 15, 2) := by decide +kernel
theorem d3_21 : decode method_3_code 21 = .ok (.aload_n 0, 1) := by decide +kernel
theorem d3_22 : decode method_3_code 22 = .ok (.iconst 3, 1) := by decide +kernel
theorem d3_23 : decode method_3_code 23 = .ok (.iload_n 2, 1) := by decide +kernel
theorem d3_24 : decode method_3_code 24 = .ok (.imul, 1) := by decide +kernel
theorem d3_25 : decode method_3_code 25 = .ok (.iload_n 3, 1) := by decide +kernel
theorem d3_26 : decode method_3_code 26 = .ok (.iadd, 1) := by decide +kernel
theorem d3_27 : decode method_3_code 27 = .ok (.daload, 1) := by decide +kernel
theorem d3_28 : decode method_3_code 28 = .ok (.dstore 17, 2) := by decide +kernel
theorem d3_30 : decode method_3_code 30 = .ok (.dload 11, 2) := by decide +kernel
theorem d3_32 : decode method_3_code 32 = .ok (.aload_n 1, 1) := by decide +kernel
theorem d3_33 : decode method_3_code 33 = .ok (.iload_n 3, 1) := by decide +kernel
theorem d3_34 : decode method_3_code 34 = .ok (.daload, 1) := by decide +kernel
theorem d3_35 : decode method_3_code 35 = .ok (.dcmp .l, 1) := by decide +kernel
theorem d3_36 : decode method_3_code 36 = .ok (.ifCond .ne 7, 3) := by decide +kernel
theorem d3_39 : decode method_3_code 39 = .ok (.iconst 1, 1) := by decide +kernel
theorem d3_40 : decode method_3_code 40 = .ok (.goto 4, 3) := by decide +kernel
theorem d3_44 : decode method_3_code 44 = .ok (.istore 19, 2) := by decide +kernel
theorem d3_46 : decode method_3_code 46 = .ok (.iload 4, 2) := by decide +kernel
theorem d3_48 : decode method_3_code 48 = .ok (.iconst 1, 1) := by decide +kernel
theorem d3_49 : decode method_3_code 49 = .ok (.if_icmp .le 28, 3) := by decide +kernel
theorem d3_52 : decode method_3_code 52 = .ok (.dload 5, 2) := by decide +kernel
theorem d3_54 : decode method_3_code 54 = .ok (.dload 11, 2) := by decide +kernel
theorem d3_56 : decode method_3_code 56 = .ok (.dmul, 1) := by decide +kernel
theorem d3_57 : decode method_3_code 57 = .ok (.dload 13, 2) := by decide +kernel
theorem d3_59 : decode method_3_code 59 = .ok (.dadd, 1) := by decide +kernel
theorem d3_60 : decode method_3_code 60 = .ok (.aload_n 1, 1) := by decide +kernel
theorem d3_61 : decode method_3_code 61 = .ok (.iload_n 2, 1) := by decide +kernel
theorem d3_62 : decode method_3_code 62 = .ok (.iload_n 3, 1) := by decide +kernel
theorem d3_63 : decode method_3_code 63 = .ok (.iadd, 1) := by decide +kernel
theorem d3_64 : decode method_3_code 64 = .ok (.daload, 1) := by decide +kernel
theorem d3_65 : decode method_3_code 65 = .ok (.dcmp .l, 1) := by decide +kernel
theorem d3_66 : decode method_3_code 66 = .ok (.ifCond .ne 7, 3) := by decide +kernel
theorem d3_69 : decode method_3_code 69 = .ok (.iconst 1, 1) := by decide +kernel
theorem d3_70 : decode method_3_code 70 = .ok (.goto 23, 3) := by decide +kernel
theorem d3_77 : decode method_3_code 77 = .ok (.dload 13, 2) := by decide +kernel
theorem d3_79 : decode method_3_code 79 = .ok (.aload_n 1, 1) := by decide +kernel
theorem d3_80 : decode method_3_code 80 = .ok (.iload_n 2, 1) := by decide +kernel
theorem d3_81 : decode method_3_code 81 = .ok (.iload_n 3, 1) := by decide +kernel
theorem d3_82 : decode method_3_code 82 = .ok (.iadd, 1) := by decide +kernel
theorem d3_83 : decode method_3_code 83 = .ok (.daload, 1) := by decide +kernel
theorem d3_84 : decode method_3_code 84 = .ok (.dcmp .l, 1) := by decide +kernel
theorem d3_85 : decode method_3_code 85 = .ok (.ifCond .ne 7, 3) := by decide +kernel
theorem d3_88 : decode method_3_code 88 = .ok (.iconst 1, 1) := by decide +kernel
theorem d3_89 : decode method_3_code 89 = .ok (.goto 4, 3) := by decide +kernel
theorem d3_93 : decode method_3_code 93 = .ok (.istore 20, 2) := by decide +kernel
theorem d3_95 : decode method_3_code 95 = .ok (.iload 4, 2) := by decide +kernel
theorem d3_97 : decode method_3_code 97 = .ok (.iconst 2, 1) := by decide +kernel
theorem d3_98 : decode method_3_code 98 = .ok (.if_icmp .le 36, 3) := by decide +kernel
theorem d3_101 : decode method_3_code 101 = .ok (.dload 7, 2) := by decide +kernel
theorem d3_103 : decode method_3_code 103 = .ok (.dload 11, 2) := by decide +kernel
theorem d3_105 : decode method_3_code 105 = .ok (.dmul, 1) := by decide +kernel
theorem d3_106 : decode method_3_code 106 = .ok (.dload 9, 2) := by decide +kernel
theorem d3_108 : decode method_3_code 108 = .ok (.dload 13, 2) := by decide +kernel
theorem d3_110 : decode method_3_code 110 = .ok (.dmul, 1) := by decide +kernel
theorem d3_111 : decode method_3_code 111 = .ok (.dadd, 1) := by decide +kernel
theorem d3_112 : decode method_3_code 112 = .ok (.dload 15, 2) := by decide +kernel
theorem d3_114 : decode method_3_code 114 = .ok (.dadd, 1) := by decide +kernel
theorem d3_115 : decode method_3_code 115 = .ok (.aload_n 1, 1) := by decide +kernel
theorem d3_116 : decode method_3_code 116 = .ok (.iconst 2, 1) := by decide +kernel
theorem d3_117 : decode method_3_code 117 = .ok (.iload_n 2, 1) := by decide +kernel
theorem d3_118 : decode method_3_code 118 = .ok (.imul, 1) := by decide +kernel
theorem d3_119 : decode method_3_code 119 = .ok (.iload_n 3, 1) := by decide +kernel
theorem d3_120 : decode method_3_code 120 = .ok (.iadd, 1) := by decide +kernel
theorem d3_121 : decode method_3_code 121 = .ok (.daload, 1) := by decide +kernel
theorem d3_122 : decode method_3_code 122 = .ok (.dcmp .l, 1) := by decide +kernel
theorem d3_123 : decode method_3_code 123 = .ok (.ifCond .ne 7, 3) := by decide +kernel
theorem d3_126 : decode method_3_code 126 = .ok (.iconst 1, 1) := by decide +kernel
theorem d3_127 : decode method_3_code 127 = .ok (.goto 25, 3) := by decide +kernel
theorem d3_134 : decode method_3_code 134 = .ok (.dload 15, 2) := by decide +kernel
theorem d3_136 : decode method_3_code 136 = .ok (.aload_n 1, 1) := by decide +kernel
theorem d3_137 : decode method_3_code 137 = .ok (.iconst 2, 1) := by decide +kernel
theorem d3_138 : decode method_3_code 138 = .ok (.iload_n 2, 1) := by decide +kernel
theorem d3_139 : decode method_3_code 139 = .ok (.imul, 1) := by decide +kernel
theorem d3_140 : decode method_3_code 140 = .ok (.iload_n 3, 1) := by decide +kernel
theorem d3_141 : decode method_3_code 141 = .ok (.iadd, 1) := by decide +kernel
theorem d3_142 : decode method_3_code 142 = .ok (.daload, 1) := by decide +kernel
theorem d3_143 : decode method_3_code 143 = .ok (.dcmp .l, 1) := by decide +kernel
theorem d3_144 : decode method_3_code 144 = .ok (.ifCond .ne 7, 3) := by decide +kernel
theorem d3_147 : decode method_3_code 147 = .ok (.iconst 1, 1) := by decide +kernel
theorem d3_148 : decode method_3_code 148 = .ok (.goto 4, 3) := by decide +kernel
theorem d3_152 : decode method_3_code 152 = .ok (.istore 21, 2) := by decide +kernel
theorem d3_154 : decode method_3_code 154 = .ok (.dload 17, 2) := by decide +kernel
theorem d3_156 : decode method_3_code 156 = .ok (.aload_n 1, 1) := by decide +kernel
theorem d3_157 : decode method_3_code 157 = .ok (.iconst 3, 1) := by decide +kernel
theorem d3_158 : decode method_3_code 158 = .ok (.iload_n 2, 1) := by decide +kernel
theorem d3_159 : decode method_3_code 159 = .ok (.imul, 1) := by decide +kernel
theorem d3_160 : decode method_3_code 160 = .ok (.iload_n 3, 1) := by decide +kernel
theorem d3_161 : decode method_3_code 161 = .ok (.iadd, 1) := by decide +kernel
theorem d3_162 : decode method_3_code 162 = .ok (.daload, 1) := by decide +kernel
theorem d3_163 : decode method_3_code 163 = .ok (.dcmp .l, 1) := by decide +kernel
theorem d3_164 : decode method_3_code 164 = .ok (.ifCond .ne 7, 3) := by decide +kernel
theorem d3_167 : decode method_3_code 167 = .ok (.iconst 1, 1) := by decide +kernel
theorem d3_168 : decode method_3_code 168 = .ok (.goto 4, 3) := by decide +kernel
theorem d3_172 : decode method_3_code 172 = .ok (.istore 22, 2) := by decide +kernel
theorem d3_174 : decode method_3_code 174 = .ok (.iload 19, 2) := by decide +kernel
theorem d3_176 : decode method_3_code 176 = .ok (.ifCond .eq 22, 3) := by decide +kernel
theorem d3_179 : decode method_3_code 179 = .ok (.iload 20, 2) := by decide +kernel
theorem d3_181 : decode method_3_code 181 = .ok (.ifCond .eq 17, 3) := by decide +kernel
theorem d3_184 : decode method_3_code 184 = .ok (.iload 21, 2) := by decide +kernel
theorem d3_186 : decode method_3_code 186 = .ok (.ifCond .eq 12, 3) := by decide +kernel
theorem d3_189 : decode method_3_code 189 = .ok (.iload 22, 2) := by decide +kernel
theorem d3_191 : decode method_3_code 191 = .ok (.ifCond .eq 7, 3) := by decide +kernel
theorem d3_194 : decode method_3_code 194 = .ok (.iconst 1, 1) := by decide +kernel
theorem d3_195 : decode method_3_code 195 = .ok (.goto 4, 3) := by decide +kernel
theorem d3_199 : decode method_3_code 199 = .ok (.ireturn, 1) := by decide +kernel
theorem pd_0 : parseMethodDescriptor "(II)D" = some ⟨[.int, .int], some .double⟩ := by decide +kernel
theorem pd_1 : parseMethodDescriptor "([DII[DI)V" = some ⟨[(.array .double), .int, .int, (.array .double), .int], none⟩ := by decide +kernel
theorem pd_2 : parseMethodDescriptor "([D[DIIIDDD)Z" = some ⟨[(.array .double), (.array .double), .int, .int, .int, .double, .double, .double], some .boolean⟩ := by decide +kernel
section OwnFP
open Jvm.FP Jvm.FP.Core Jvm.Free.Fl
/-- a double's value, counted in the format's least numbers (2^-1074) -/
def dv (x : UInt64) : Int := zval b64 (val64 x)
/-- what the whole number 1 counts -/
def oneU : Int := (one64 : Int)
/-- z least numbers are a finite double -/
def Rep (z : Int) : Prop := ∃ V : Datum, FP.Core.fits b64 V ∧ (∃ s c q, V = .fin s c q) ∧ zval b64 V = z
theorem oneU_pos : 0 < oneU := by have := one64_pos; unfold oneU; omega
theorem rep_neg {z : Int} (h : Rep z) : Rep (-z) := by
  obtain ⟨V, h1, ⟨s, c, q, rfl⟩, h3⟩ := h
  exact ⟨negate (.fin s c q), negate_fits h1, ⟨_, _, _, rfl⟩, by rw [zval_negate, h3]⟩
theorem rep_nat {c j : Nat} (hc : c < 2 ^ 53) (hj : j ≤ 2045) : Rep ((c * 2 ^ j : Nat) : Int) := by
  have hm : b64.qmax = 971 := by decide
  obtain ⟨c', q', h1, h2⟩ := round_exact good_b64 false (c := c) (q := -1074 + (j : Int)) hc (by rw [qmin_b64]; omega) (by rw [hm]; omega)
  refine ⟨round b64 (.fin false c (-1074 + (j : Int))), round_fits good_b64 _, ⟨_, _, _, h1⟩, ?_⟩
  rw [h1]
  show signed false (inUnits c' q' b64.qmin) = _
  rw [h2]
  show ((inUnits c (-1074 + (j : Int)) b64.qmin : Nat) : Int) = _
  unfold inUnits
  rw [qmin_b64, show (-1074 + (j : Int) - -1074).toNat = j by omega]
theorem rep_int {z : Int} {c j : Nat} (hc : c < 2 ^ 53) (hj : j ≤ 2045) (h : z.natAbs = c * 2 ^ j) : Rep z := by
  have q := rep_nat hc hj
  rw [← h] at q
  rcases Int.natAbs_eq z with e | e
  · rw [e]; exact q
  · rw [e]; exact rep_neg q
theorem rep_dv {x : UInt64} (h : DFin x) : Rep (dv x) := ⟨val64 x, val64_fits x, h, rfl⟩
theorem squeeze {d : Datum} (hf : FP.Core.fits b64 d) (hn : d ≠ .nan) {z : Int} (hr : Rep z) (h1 : ∀ V, FP.Core.fits b64 V → V ≠ .nan → zval b64 V = z → zval b64 d ≤ zval b64 V) (h2 : ∀ V, FP.Core.fits b64 V → V ≠ .nan → zval b64 V = z → zval b64 V ≤ zval b64 d) :
    (∃ s c q, d = .fin s c q) ∧ zval b64 d = z := by
  obtain ⟨V, v1, ⟨s, c, q, rfl⟩, v3⟩ := hr
  have e1 := h1 _ v1 (by simp) v3
  have e2 := h2 _ v1 (by simp) v3
  have e : zval b64 d = z := by omega
  refine ⟨?_, e⟩
  have ht := zmag_lt_top good_b64 v1
  cases d with
  | nan => exact absurd rfl hn
  | fin s' c' q' => exact ⟨_, _, _, rfl⟩
  | inf t =>
    exfalso
    rw [← v3] at e
    have a1 : (zval b64 (.inf t)).natAbs = b64.tails * 2 ^ (b64.exps - 2) := natAbs_signed _ _
    have a2 : (zval b64 (.fin s c q)).natAbs = inUnits c q b64.qmin := natAbs_signed _ _
    rw [e, a2] at a1
    omega
theorem add_le {x y : UInt64} (hx : DFin x) (hy : DFin y) {V : Datum} (fV : FP.Core.fits b64 V) (hV : V ≠ .nan) (h : dv x + dv y ≤ zval b64 V) : dv (FP.dadd x y) ≤ zval b64 V := by
  unfold dv; rw [val64_dadd]; exact sum_le good_b64 hx hy (val64_fits x) (val64_fits y) fV hV h
theorem add_ge {x y : UInt64} (hx : DFin x) (hy : DFin y) {V : Datum} (fV : FP.Core.fits b64 V) (hV : V ≠ .nan) (h : zval b64 V ≤ dv x + dv y) : zval b64 V ≤ dv (FP.dadd x y) := by
  unfold dv; rw [val64_dadd]; exact sum_ge good_b64 hx hy (val64_fits x) (val64_fits y) fV hV h
theorem add_exact {x y : UInt64} (hx : DFin x) (hy : DFin y) {z : Int} (h : dv x + dv y = z) (hr : Rep z) : DFin (FP.dadd x y) ∧ dv (FP.dadd x y) = z :=
  squeeze (val64_fits _) ((notNaN_iff _).mp (dadd_out hx.notNaN hy)) hr (fun V f n e => add_le hx hy f n (by omega)) (fun V f n e => add_ge hx hy f n (by omega))
theorem neg_fin {x : UInt64} (hx : DFin x) : DFin (FP.dneg x) ∧ dv (FP.dneg x) = -dv x := by
  obtain ⟨s, c, q, h⟩ := hx
  unfold dv DFin; rw [FP.val64_dneg, zval_negate, h]
  exact ⟨⟨_, _, _, rfl⟩, rfl⟩
theorem sub_dneg {x y : UInt64} (hy : DFin y) : FP.dsub x y = FP.dadd x (FP.dneg y) := by
  rw [FP.dneg_core hy.notNaN]; exact dsub_eq x y
theorem sub_exact {x y : UInt64} (hx : DFin x) (hy : DFin y) {z : Int} (h : dv x - dv y = z) (hr : Rep z) : DFin (FP.dsub x y) ∧ dv (FP.dsub x y) = z := by
  rw [sub_dneg hy]
  exact add_exact hx (neg_fin hy).1 (by rw [(neg_fin hy).2]; omega) hr
theorem mul_units {x y : UInt64} (hx : DFin x) (hy : DFin y) : ∃ s c q, exactProduct (val64 x) (val64 y) = .fin s c q ∧ 2 * b64.qmin ≤ q ∧ signed s (inUnits c q (2 * b64.qmin)) = dv x * dv y := by
  obtain ⟨s, c, q, h1⟩ := hx
  obtain ⟨t, d, r, h2⟩ := hy
  have f1 := val64_fits x
  have f2 := val64_fits y
  unfold dv
  rw [h1] at f1 ⊢
  rw [h2] at f2 ⊢
  obtain ⟨p1, p2, p3⟩ := product_units f1 f2
  refine ⟨_, _, _, p1, p2, ?_⟩
  rw [p3, signed_xor]
  rfl
theorem two_qmin : 2 ^ (b64.qmin - 2 * b64.qmin).toNat = one64 := by rw [← pow_qmin64]; congr 1
theorem mul_le {x y : UInt64} (hx : DFin x) (hy : DFin y) {V : Datum} (fV : FP.Core.fits b64 V) (hV : V ≠ .nan) (h : dv x * dv y ≤ zval b64 V * oneU) : dv (FP.dmul x y) ≤ zval b64 V := by
  obtain ⟨s, c, q, h1, h2, h3⟩ := mul_units hx hy
  show zval b64 (val64 (FP.dmul x y)) ≤ _
  rw [val64_dmul, h1]
  refine zval_round_le good_b64 fV hV (e0 := 2 * b64.qmin) (by rw [qmin_b64]; omega) h2 ?_
  rw [h3, two_qmin]; exact h
theorem mul_ge {x y : UInt64} (hx : DFin x) (hy : DFin y) {V : Datum} (fV : FP.Core.fits b64 V) (hV : V ≠ .nan) (h : zval b64 V * oneU ≤ dv x * dv y) : zval b64 V ≤ dv (FP.dmul x y) := by
  obtain ⟨s, c, q, h1, h2, h3⟩ := mul_units hx hy
  show _ ≤ zval b64 (val64 (FP.dmul x y))
  rw [val64_dmul, h1]
  refine zval_round_ge good_b64 fV hV (e0 := 2 * b64.qmin) (by rw [qmin_b64]; omega) h2 ?_
  rw [h3, two_qmin]; exact h
theorem mul_exact {x y : UInt64} (hx : DFin x) (hy : DFin y) {z : Int} (h : dv x * dv y = z * oneU) (hr : Rep z) : DFin (FP.dmul x y) ∧ dv (FP.dmul x y) = z :=
  squeeze (val64_fits _) ((notNaN_iff _).mp (dmul_out hx hy)) hr (fun V f n e => mul_le hx hy f n (by rw [e, h]; exact Int.le_refl _)) (fun V f n e => mul_ge hx hy f n (by rw [e, h]; exact Int.le_refl _))
theorem dv_zero_iff {x : UInt64} (hx : DFin x) : DZero x ↔ dv x = 0 := by
  obtain ⟨s, c, q, h⟩ := hx
  constructor
  · intro hz; exact hz.zval
  · intro hz; exact (zero_bits2 x).mpr ((zval_eq_zero (by rw [h]; simp)).mp hz)
theorem div_units {x y : UInt64} (hx : DFin x) (hy : DFin y) (h0 : dv y ≠ 0) : ∃ (s t : Bool) (c d : Nat) (q r : Int), val64 (FP.ddiv x y) = roundRatio b64 (s != t) c d (q - r) ∧ 0 < d ∧ b64.qmin ≤ q ∧ b64.qmin ≤ r ∧ dv x = signed s (inUnits c q b64.qmin) ∧ dv y = signed t (inUnits d r b64.qmin) := by
  obtain ⟨s, c, q, h1⟩ := hx
  obtain ⟨t, d, r, h2⟩ := hy
  have f1 := val64_fits x
  have f2 := val64_fits y
  have hd : d ≠ 0 := by
    intro e; apply h0; unfold dv; rw [h2, e]; show signed t (inUnits 0 r b64.qmin) = 0; unfold inUnits; rw [Nat.zero_mul, signed_zero]
  refine ⟨s, t, c, d, q, r, ?_, Nat.pos_of_ne_zero hd, ?_, ?_, ?_, ?_⟩
  · rw [val64_ddiv, h1, h2]; show (if d = 0 then _ else _) = _; rw [if_neg hd]
  · rw [h1] at f1; exact f1.2.1
  · rw [h2] at f2; exact f2.2.1
  · unfold dv; rw [h1]; rfl
  · unfold dv; rw [h2]; rfl
theorem div_scale {c d : Nat} {q r : Int} (h1 : b64.qmin ≤ q) (h2 : b64.qmin ≤ r) (v : Nat) :
    inUnits c (q - r) (2 * b64.qmin - r) = inUnits c q b64.qmin * one64 ∧ v * 2 ^ (b64.qmin - (2 * b64.qmin - r)).toNat * d = v * inUnits d r b64.qmin := by
  unfold inUnits
  rw [← pow_qmin64]
  rw [qmin_b64] at h1 h2 ⊢
  constructor
  · rw [show (q - r - (2 * -1074 - r)).toNat = (q - -1074).toNat + (- -1074 : Int).toNat by omega, Nat.pow_add, Nat.mul_assoc]
  · rw [show (-1074 - (2 * -1074 - r)).toNat = (r - -1074).toNat by omega, Nat.mul_assoc, Nat.mul_comm (2 ^ _) d]
/-- a quotient of two that are not below nought, by monotony -/
theorem div_le {x y : UInt64} (hx : DFin x) (hy : DFin y) (px : 0 ≤ dv x) (py : 0 < dv y) {V : Datum} (fV : FP.Core.fits b64 V) (hV : V ≠ .nan) (h : dv x * oneU ≤ zval b64 V * dv y) : dv (FP.ddiv x y) ≤ zval b64 V := by
  obtain ⟨s, t, c, d, q, r, e, hd, hq, hr, ex, ey⟩ := div_units hx hy (by omega)
  show zval b64 (val64 (FP.ddiv x y)) ≤ _
  rw [e]
  have nv : 0 ≤ zval b64 V := by
    rcases Int.lt_or_le (zval b64 V) 0 with g | g
    · have := oneU_pos
      have a1 : 0 ≤ dv x * oneU := Int.mul_nonneg px (by omega)
      have a2 : zval b64 V * dv y < 0 := Int.mul_neg_of_neg_of_pos g py
      omega
    · exact g
  obtain ⟨k1, k2⟩ := div_scale (c := c) (d := d) hq hr (zmag b64 V)
  have ax : dv x = (inUnits c q b64.qmin : Int) := by
    rw [ex] at px ⊢; unfold signed at px ⊢; split <;> rename_i g <;> simp only [g, if_true] at px <;> omega
  have ay : dv y = (inUnits d r b64.qmin : Int) := by
    rw [ey] at py ⊢; unfold signed at py ⊢; split <;> rename_i g <;> simp only [g, if_true] at py <;> omega
  have av : zval b64 V = (zmag b64 V : Int) := by
    unfold zval at nv ⊢; unfold signed at nv ⊢; split <;> rename_i g <;> simp only [g, if_true] at nv <;> omega
  have hz := zmag_roundRatio_le good_b64 (s := (s != t)) (A := c) (B := d) (e := q - r) (e0 := 2 * b64.qmin - r) hd fV hV (by omega) (by rw [qmin_b64] at hq ⊢; omega) (by
    rw [k1, k2]
    rw [ax, ay, av] at h
    unfold oneU at h
    exact_mod_cast h)
  rw [av]
  unfold zval signed
  split <;> omega
theorem div_ge {x y : UInt64} (hx : DFin x) (hy : DFin y) (px : 0 ≤ dv x) (py : 0 < dv y) (hs : ∀ s c q, val64 x = .fin s c q → s = false) (hs' : ∀ s c q, val64 y = .fin s c q → s = false) {V : Datum} (fV : FP.Core.fits b64 V) (h : zval b64 V * dv y ≤ dv x * oneU) : zval b64 V ≤ dv (FP.ddiv x y) := by
  obtain ⟨s, c, q, h1⟩ := hx
  obtain ⟨t, d, r, h2⟩ := hy
  have es := hs _ _ _ h1
  have et := hs' _ _ _ h2
  subst es et
  have f1 := val64_fits x
  have f2 := val64_fits y
  have ax : dv x = (inUnits c q b64.qmin : Int) := by unfold dv; rw [h1]; rfl
  have ay : dv y = (inUnits d r b64.qmin : Int) := by unfold dv; rw [h2]; rfl
  have hd : d ≠ 0 := by
    intro e; rw [ay, e] at py; unfold inUnits at py; rw [Nat.zero_mul] at py; exact absurd py (by decide)
  rw [h1] at f1
  rw [h2] at f2
  show _ ≤ zval b64 (val64 (FP.ddiv x y))
  rw [val64_ddiv, h1, h2]
  show _ ≤ zval b64 (if d = 0 then _ else _)
  rw [if_neg hd]
  obtain ⟨k1, k2⟩ := div_scale (c := c) (d := d) f1.2.1 f2.2.1 (zmag b64 V)
  have hz := fun g => zmag_roundRatio_ge good_b64 (s := (false != false)) (A := c) (B := d) (e := q - r) (e0 := 2 * b64.qmin - r) (V := V) (Nat.pos_of_ne_zero hd) fV (by have := f2.2.1; omega) (by have := f1.2.1; rw [qmin_b64] at this ⊢; omega) g
  have e : zval b64 (roundRatio b64 (false != false) c d (q - r)) = (zmag b64 (roundRatio b64 (false != false) c d (q - r)) : Int) := by
    unfold zval; rw [sgn_roundRatio]; rfl
  rw [e]
  rcases Int.lt_or_le (zval b64 V) 0 with g | g
  · omega
  · have av : zval b64 V = (zmag b64 V : Int) := by
      unfold zval at g ⊢; unfold signed at g ⊢; split <;> rename_i w <;> simp only [w, if_true] at g <;> omega
    rw [av] at h ⊢
    have := hz (by
      rw [k1, k2]
      rw [ax, ay] at h
      unfold oneU at h
      exact_mod_cast h)
    omega
theorem noNaN_of_fin {x : UInt64} (h : DFin x) : NoNaN64 x := (fin64_core.mpr h).noNaN
theorem dint_fin {i : Int} {x : UInt64} (h : DInt i x) : DFin x ∧ dv x = i * oneU := by
  refine ⟨?_, DInt_zval h⟩
  unfold DInt at h
  cases hv : val64 x with
  | nan => rw [hv] at h; exact h.elim
  | inf s => rw [hv] at h; exact h.elim
  | fin s c q => exact ⟨s, c, q, hv⟩
theorem cmp_dv {x y : UInt64} (hx : DFin x) (hy : DFin y) : FP.dcmp x y = some (compare (dv x) (dv y)) := dcmp_zval hx.ne_nan hy.ne_nan
end OwnFP
section OwnDy
open Jvm.FP Jvm.FP.Core Jvm.Free.Fl
/-- 2^j, as an Int -/
def pw (j : Nat) : Int := ((2 ^ j : Nat) : Int)
theorem pw_mul (i j : Nat) : pw i * pw j = pw (i + j) := by unfold pw; rw [Nat.pow_add]; exact (Int.natCast_mul _ _).symm
theorem pw_pos (j : Nat) : 0 < pw j := by unfold pw; have := Nat.two_pow_pos j; omega
theorem pw_abs (j : Nat) : (pw j).natAbs = 2 ^ j := by unfold pw; exact Int.natAbs_natCast _
theorem oneU_pw : oneU = pw 1074 := rfl
/-- the double x is n * 2^j least numbers (n whole: j = 1074) -/
def Dy (n : Int) (j : Nat) (x : UInt64) : Prop := DFin x ∧ dv x = n * pw j
theorem dy_int {i : Int} {x : UInt64} (h : DInt i x) : Dy i 1074 x := by
  have q := dint_fin h
  exact ⟨q.1, by rw [q.2, oneU_pw]⟩
theorem rep_pw {n : Int} {j : Nat} (hn : n.natAbs < 2 ^ 53) (hj : j ≤ 2045) : Rep (n * pw j) := rep_int hn hj (by rw [Int.natAbs_mul, pw_abs])
theorem dy_add {n m : Int} {j : Nat} {x y : UInt64} (hx : Dy n j x) (hy : Dy m j y) (h : (n + m).natAbs < 2 ^ 53) (hj : j ≤ 2045) : Dy (n + m) j (FP.dadd x y) :=
  add_exact hx.1 hy.1 (by rw [hx.2, hy.2, Int.add_mul]) (rep_pw h hj)
theorem dy_sub {n m : Int} {j : Nat} {x y : UInt64} (hx : Dy n j x) (hy : Dy m j y) (h : (n - m).natAbs < 2 ^ 53) (hj : j ≤ 2045) : Dy (n - m) j (FP.dsub x y) :=
  sub_exact hx.1 hy.1 (by rw [hx.2, hy.2, Int.sub_mul]) (rep_pw h hj)
theorem dy_neg {n : Int} {j : Nat} {x : UInt64} (hx : Dy n j x) : Dy (-n) j (FP.dneg x) :=
  ⟨(neg_fin hx.1).1, by rw [(neg_fin hx.1).2, hx.2, Int.neg_mul]⟩
theorem dy_mul {n m : Int} {i j k : Nat} {x y : UInt64} (hx : Dy n i x) (hy : Dy m j y) (hk : i + j = k + 1074) (h : (n * m).natAbs < 2 ^ 53) (hj : k ≤ 2045) : Dy (n * m) k (FP.dmul x y) :=
  mul_exact hx.1 hy.1 (by
    have e : pw i * pw j = pw k * oneU := by rw [oneU_pw, pw_mul, pw_mul, hk]
    rw [hx.2, hy.2, Int.mul_assoc (n * m), ← e]
    ac_rfl) (rep_pw h hj)
theorem dy_shift {n : Int} {j : Nat} {x : UInt64} (t : Nat) (h : Dy n (j + t) x) : Dy (n * pw t) j x := by
  refine ⟨h.1, ?_⟩
  rw [h.2, ← pw_mul]
  ac_rfl
theorem compare_pw (n m : Int) (j : Nat) : compare (n * pw j) (m * pw j) = compare n m := compare_mul_pos _ _ _ (pw_pos j)
theorem dy_cmp {n m : Int} {j : Nat} {x y : UInt64} (hx : Dy n j x) (hy : Dy m j y) : FP.dcmp x y = some (compare n m) := by
  rw [cmp_dv hx.1 hy.1, hx.2, hy.2, compare_pw]
theorem signed_cases (s : Bool) (n : Nat) : signed s n = (n : Int) ∨ signed s n = -(n : Int) := by cases s <;> simp [signed]
/-- an exact quotient -/
theorem div_exact {x y : UInt64} (hx : DFin x) (hy : DFin y) (h0 : dv y ≠ 0) {z : Int} (h : dv x * oneU = z * dv y) (hr : Rep z) : DFin (FP.ddiv x y) ∧ dv (FP.ddiv x y) = z := by
  obtain ⟨s, t, c, d, q, r, e, hd, hq, hr1, ex, ey⟩ := div_units hx hy h0
  obtain ⟨V, fV, ⟨s', c', q', rfl⟩, hz⟩ := hr
  have az : zmag b64 (.fin s' c' q') = z.natAbs := by rw [← hz]; exact (natAbs_signed _ _).symm
  have ax : (dv x).natAbs = inUnits c q b64.qmin := by rw [ex, natAbs_signed]
  have ay : (dv y).natAbs = inUnits d r b64.qmin := by rw [ey, natAbs_signed]
  have ha : inUnits c q b64.qmin * one64 = z.natAbs * inUnits d r b64.qmin := by
    have := congrArg Int.natAbs h
    rw [Int.natAbs_mul, Int.natAbs_mul, ax, ay] at this
    exact this
  obtain ⟨k1, k2⟩ := div_scale (c := c) (d := d) hq hr1 (zmag b64 (.fin s' c' q'))
  have l1 := zmag_roundRatio_le good_b64 (s := (s != t)) (A := c) (B := d) (e := q - r) (e0 := 2 * b64.qmin - r) hd fV (by simp) (by omega) (by rw [qmin_b64] at hq ⊢; omega) (by rw [k1, k2, az, ha]; exact Nat.le_refl _)
  have l2 := zmag_roundRatio_ge good_b64 (s := (s != t)) (A := c) (B := d) (e := q - r) (e0 := 2 * b64.qmin - r) hd fV (by omega) (by rw [qmin_b64] at hq ⊢; omega) (by rw [k1, k2, az, ha]; exact Nat.le_refl _)
  have lz : zmag b64 (roundRatio b64 (s != t) c d (q - r)) = z.natAbs := by omega
  have ez : zval b64 (val64 (FP.ddiv x y)) = signed (s != t) z.natAbs := by
    rw [e]; unfold zval; rw [sgn_roundRatio, lz]
  have es : signed (s != t) z.natAbs = z := by
    by_cases hz0 : z = 0
    · rw [hz0]; exact signed_zero _
    · have hu := oneU_pos
      rw [ex, ey] at h
      have hc : 0 < inUnits c q b64.qmin := by
        rcases Nat.eq_zero_or_pos (inUnits c q b64.qmin) with w | w
        · rw [w, Nat.zero_mul] at ha
          have : 0 < z.natAbs * inUnits d r b64.qmin := Nat.mul_pos (by omega) (by unfold inUnits; exact Nat.mul_pos hd (Nat.two_pow_pos _))
          omega
        · exact w
      have hdd : 0 < inUnits d r b64.qmin := by unfold inUnits; exact Nat.mul_pos hd (Nat.two_pow_pos _)
      generalize inUnits c q b64.qmin = C at *
      generalize inUnits d r b64.qmin = D at *
      have p1 : (0 : Int) < (C : Int) * oneU := Int.mul_pos (by omega) hu
      cases s <;> cases t <;> simp only [signed, bne_self_eq_false, Bool.false_eq_true, if_false, if_true, Bool.true_bne, Bool.false_bne, Bool.not_false] at h ⊢
      · have : 0 < z := by
          rcases Int.lt_or_le 0 z with w | w
          · exact w
          · have := Int.mul_nonpos_of_nonpos_of_nonneg w (show (0 : Int) ≤ (D : Int) by omega); omega
        omega
      · have : z < 0 := by
          rcases Int.lt_or_le z 0 with w | w
          · exact w
          · have := Int.mul_nonneg w (show (0 : Int) ≤ (D : Int) by omega); rw [Int.mul_neg] at h; omega
        omega
      · have : z < 0 := by
          rcases Int.lt_or_le z 0 with w | w
          · exact w
          · have := Int.mul_nonneg w (show (0 : Int) ≤ (D : Int) by omega); rw [Int.neg_mul] at h; omega
        omega
      · have : 0 < z := by
          rcases Int.lt_or_le 0 z with w | w
          · exact w
          · have := Int.mul_nonpos_of_nonpos_of_nonneg w (show (0 : Int) ≤ (D : Int) by omega); rw [Int.neg_mul, Int.mul_neg] at h; omega
        omega
  refine ⟨?_, ez.trans es⟩
  have hn : FP.dIsNaN (FP.ddiv x y) = false := ddiv_out hx.notNaN hy (fun w => h0 ((dv_zero_iff hy).mp w))
  have ht := zmag_lt_top good_b64 fV
  unfold DFin
  cases hv : val64 (FP.ddiv x y) with
  | nan => exact absurd hv ((notNaN_iff _).mp hn)
  | fin s2 c2 q2 => exact ⟨_, _, _, rfl⟩
  | inf t2 =>
    exfalso
    rw [hv] at e
    rw [← e] at lz
    have a1 : zmag b64 (.inf t2) = b64.tails * 2 ^ (b64.exps - 2) := rfl
    have a2 : zmag b64 (.fin s' c' q') = inUnits c' q' b64.qmin := rfl
    rw [a1] at lz
    omega
theorem dy_div {n m q : Int} {i j k : Nat} {x y : UInt64} (hx : Dy n i x) (hy : Dy m j y) (hm : m ≠ 0) (hq : n = q * m) (hk : i + 1074 = k + j) (h : q.natAbs < 2 ^ 53) (hj : k ≤ 2045) : Dy q k (FP.ddiv x y) :=
  div_exact hx.1 hy.1 (by rw [hy.2]; exact Int.mul_ne_zero hm (Int.ne_of_gt (pw_pos j))) (by
    have e : pw i * oneU = pw k * pw j := by rw [oneU_pw, pw_mul, pw_mul, hk]
    rw [hx.2, hy.2, hq, Int.mul_assoc (q * m), e]
    ac_rfl) (rep_pw h hj)
theorem dy_noNaN {n : Int} {j : Nat} {x : UInt64} (h : Dy n j x) : NoNaN64 x := noNaN_of_fin h.1
/-- two quotients of the same ratio are one double -/
theorem div_congr {x y x' y' : UInt64} (hx : DFin x) (hy : DFin y) (hx' : DFin x') (hy' : DFin y') (px : 0 < dv x) (py : 0 < dv y) (px' : 0 < dv x') (py' : 0 < dv y') (h : dv x * dv y' = dv x' * dv y) : FP.ddiv x y = FP.ddiv x' y' := by
  have sg : ∀ {s : Bool} {n : Nat}, 0 < signed s n → s = false ∧ signed s n = (n : Int) := by
    intro s n q; cases s
    · exact ⟨rfl, rfl⟩
    · simp only [signed, if_true] at q; omega
  obtain ⟨s, t, c, d, q, r, e, hd, hq, hr, ex, ey⟩ := div_units hx hy (by omega)
  obtain ⟨s', t', c', d', q', r', e', hd', hq', hr', ex', ey'⟩ := div_units hx' hy' (by omega)
  rw [ex] at px; rw [ey] at py; rw [ex'] at px'; rw [ey'] at py'
  rw [ex, ey, ex', ey', (sg px).2, (sg py).2, (sg px').2, (sg py').2] at h
  have hn : val64 (FP.ddiv x y) ≠ .nan := by rw [e]; exact roundRatio_ne_nan _ _ _ _ _
  refine val64_inj hn ?_
  rw [e, e', (sg px).1, (sg py).1, (sg px').1, (sg py').1]
  refine roundRatio_congr hd hd' ?_
  have hN : inUnits c q b64.qmin * inUnits d' r' b64.qmin = inUnits c' q' b64.qmin * inUnits d r b64.qmin := by exact_mod_cast h
  unfold inUnits at hN
  generalize ha1 : (q - b64.qmin).toNat = a1 at hN
  generalize ha2 : (r' - b64.qmin).toNat = a2 at hN
  generalize ha3 : (q' - b64.qmin).toNat = a3 at hN
  generalize ha4 : (r - b64.qmin).toNat = a4 at hN
  have h1 : c * d' * 2 ^ (a1 + a2) = c' * d * 2 ^ (a3 + a4) := by
    rw [Nat.pow_add, Nat.pow_add]
    calc c * d' * (2 ^ a1 * 2 ^ a2) = c * 2 ^ a1 * (d' * 2 ^ a2) := by ac_rfl
      _ = c' * 2 ^ a3 * (d * 2 ^ a4) := hN
      _ = _ := by ac_rfl
  rcases Nat.le_total (a3 + a4) (a1 + a2) with w | w
  · obtain ⟨k, hk⟩ := Nat.le.dest w
    rw [← hk, Nat.pow_add 2 (a3 + a4) k, Nat.mul_comm (2 ^ (a3 + a4)), ← Nat.mul_assoc] at h1
    have h2 := Nat.eq_of_mul_eq_mul_right (Nat.two_pow_pos _) h1
    rw [show (q - r - (q' - r')).toNat = k by omega, show (q' - r' - (q - r)).toNat = 0 by omega, h2]; omega
  · obtain ⟨k, hk⟩ := Nat.le.dest w
    rw [← hk, Nat.pow_add 2 (a1 + a2) k, Nat.mul_comm (2 ^ (a1 + a2)), ← Nat.mul_assoc] at h1
    have h2 := Nat.eq_of_mul_eq_mul_right (Nat.two_pow_pos _) h1
    rw [show (q - r - (q' - r')).toNat = 0 by omega, show (q' - r' - (q - r)).toNat = k by omega, ← h2]; omega
theorem own_p53 : (2 : Nat) ^ 53 = 9007199254740992 := by decide +kernel
theorem own_mb {a b : Int} {A B : Nat} (ha : a.natAbs ≤ A) (hb : b.natAbs ≤ B) (h : A * B < 9007199254740992) : (a * b).natAbs < 2 ^ 53 := by
  rw [own_p53, Int.natAbs_mul]; exact Nat.lt_of_le_of_lt (Nat.mul_le_mul ha hb) h
theorem own_addl {a b : Int} {A B : Nat} (ha : a.natAbs ≤ A) (hb : b.natAbs ≤ B) : (a + b).natAbs ≤ A + B := by omega
theorem own_subl {a b : Int} {A B : Nat} (ha : a.natAbs ≤ A) (hb : b.natAbs ≤ B) : (a - b).natAbs ≤ A + B := by omega
theorem own_addb {a b : Int} {A B : Nat} (ha : a.natAbs ≤ A) (hb : b.natAbs ≤ B) (h : A + B < 9007199254740992) : (a + b).natAbs < 2 ^ 53 := by rw [own_p53]; omega
theorem own_subb {a b : Int} {A B : Nat} (ha : a.natAbs ≤ A) (hb : b.natAbs ≤ B) (h : A + B < 9007199254740992) : (a - b).natAbs < 2 ^ 53 := by rw [own_p53]; omega
theorem own_shl {a k : Int} {A B : Nat} (ha : a.natAbs ≤ A) (h : A * k.natAbs ≤ B) : (a * k).natAbs ≤ B := by rw [Int.natAbs_mul]; exact Nat.le_trans (Nat.mul_le_mul_right _ ha) h
theorem own_dyeq {n m : Int} {j : Nat} {x y : UInt64} (hx : Dy n j x) (hy : Dy m j y) (h : n = m) {op : CmpOp} : cmpValue (FP.dcmp x y) op = 0 := by
  rw [dy_cmp hx hy, (compare_eq_iff _ _).mpr h]; rfl
end OwnDy
section OwnArr
variable {p : Program} {l : Launch} {e : Env} {R : Room} {s : State} {m : MethodId} {args : Array Value} {below : List Frame} {meth : Method} {c : Code} {T : State} {Z : State} {a0 : Array Value} {h h' : Heap} {n0 cells slots nc ns pc pc' : Nat} {Ls : Array Slot} {st rest : List Value} {Q : Option Value → Heap → Prop} {a b : Addr} {vs : List UInt64}
/-- in heap h, at a, there is a double[] that holds just these -/
def AD (Z : State) (h : Heap) (a : Addr) (vs : List UInt64) : Prop := ∃ c : Cell, Arr Z h a c .double ∧ c.slots.size = vs.length ∧ vs.length < 2147483648 ∧ ∀ i, i < vs.length → c.slots[i]? = some (.double (vs.getD i 0))
theorem AD.lt (F : AD Z h a vs) : a < h.size := by obtain ⟨c, A, -⟩ := F; exact A.lt
theorem AD.ext (F : AD Z h a vs) (E : Ext h h') : AD Z h' a vs := by obtain ⟨c, A, r⟩ := F; exact ⟨c, A.ext E, r⟩
theorem AD.other {sl : Nat} {v : Value} (F : AD Z h b vs) (W : Wr h h' a sl v) (q : b ≠ a) : AD Z h' b vs := by obtain ⟨c, A, r⟩ := F; exact ⟨c, A.other W q, r⟩
theorem AD.keep {ws : List Addr} (F : AD Z h a vs) (K : Keep h h' ws) (q : a ∉ ws) : AD Z h' a vs := by obtain ⟨c, A, r⟩ := F; exact ⟨c, ⟨K.2.1 a c A.1 q, A.2⟩, r⟩
theorem own_idx {j : Int32} {i : Nat} (hj : j.toInt = (i : Int)) : j.toNatClampNeg = i ∧ ¬ j < 0 := by
  constructor
  · unfold Int32.toNatClampNeg; rw [hj]; rfl
  · rw [Int32.lt_iff_toInt_lt, hj]; have : (0 : Int32).toInt = 0 := rfl
    omega
theorem g_daload (X : Wk p l e R s m args below meth c n0 T h cells slots) (hx : p.tables.exec = Jvm.exec) (hZ : Z.Warmed39 s.vm) (F : AD Z h a vs) {j : Int32} {i : Nat} (hj : j.toInt = (i : Int)) (hi : i < vs.length) {v : UInt64} (hv : vs.getD i 0 = v) (hp : pc + 1 = pc') (hd : decode c.code pc = .ok (.daload, 1))
    (k : Go p e below s n0 Q nc ns (T.setTop (mkF m pc' Ls (.double v :: rest)))) : Go p e below s n0 Q nc ns (T.setTop (mkF m pc Ls (.int j :: .ref a :: rest))) := by
  subst hp; subst hv; obtain ⟨locs, X, N, eT⟩ := X
  obtain ⟨cl, A, S, -, H⟩ := F
  obtain ⟨e1, e2⟩ := own_idx hj
  have hin : ¬ (j < 0 ∨ cl.slots.size ≤ j.toNatClampNeg) := by rw [e1, S]; intro q; rcases q with q | q; exact e2 q; omega
  exact go_back (fun t q => X.daload hx (j := j) (v := .double (vs.getD i 0)) (by rw [eT]; exact A.1) (State.isArrayOf_alike hZ.alike A.2.1) A.2.2 hin (by rw [e1]; exact H i hi) (g := mkF m pc Ls (.int j :: .ref a :: rest)) rfl rfl hd t q) k
theorem AD.set {j : Int32} {i : Nat} {x : UInt64} (F : AD Z h a vs) (hj : j.toNatClampNeg = i) (hi : i < vs.length) (W : Wr h h' a j.toNatClampNeg (.double x)) : AD Z h' a (vs.set i x) := by
  obtain ⟨cl, A, S, hl, H⟩ := F
  refine ⟨_, A.same W, by rw [sz_set, S, List.length_set], by rw [List.length_set]; exact hl, fun k hk => ?_⟩
  rw [List.length_set] at hk
  rw [hj]
  by_cases u : i = k
  · subst u; simp [Cell.setSlot, S, hi]
  · have q := H k hk
    simp only [Cell.setSlot, List.getD_eq_getElem?_getD] at q ⊢
    rw [Array.getElem?_setIfInBounds_ne u, List.getElem?_set_ne u]; exact q
theorem g_dastore (X : Wk p l e R s m args below meth c n0 T h cells slots) (hx : p.tables.exec = Jvm.exec) (hZ : Z.Warmed39 s.vm) (F : AD Z h a vs) {j : Int32} {i : Nat} (hj : j.toInt = (i : Int)) (hi : i < vs.length) (hna : n0 ≤ a) {x : UInt64} (hp : pc + 1 = pc') (hd : decode c.code pc = .ok (.dastore, 1))
    (k : ∀ T' h', Wk p l e R s m args below meth c n0 T' h' cells slots → Wr h h' a j.toNatClampNeg (.double x) → AD Z h' a (vs.set i x) → Go p e below s n0 Q nc ns (T'.setTop (mkF m pc' Ls rest))) : Go p e below s n0 Q nc ns (T.setTop (mkF m pc Ls (.double x :: .int j :: .ref a :: rest))) := by
  subst hp; obtain ⟨locs, X, N, eT⟩ := X
  obtain ⟨e1, e2⟩ := own_idx hj
  obtain ⟨cl, A, S, hl, H⟩ := F
  have hin : ¬ (j < 0 ∨ cl.slots.size ≤ j.toNatClampNeg) := by rw [e1, S]; intro q; rcases q with q | q; exact e2 q; omega
  obtain ⟨T', h', X', e', W', b⟩ := stD X hx hZ eT A (x := x) hin (g := mkF m pc Ls (.double x :: .int j :: .ref a :: rest)) rfl rfl hd
  exact go_back b (k T' h' ⟨_, X', Fr.snoc X' N hna, e'⟩ W' (AD.set ⟨cl, A, S, hl, H⟩ e1 hi W'))
theorem g_newD (X : Wk p l e R s m args below meth c n0 T h cells slots) (hx : p.tables.exec = Jvm.exec) (hZ : Z.Warmed39 s.vm) (w : (Jvm.Cond.arrayClass .double).before a0 Z = true) {n : Int32} {N : Nat} (hn : n.toInt = (N : Int)) {cap : Nat} (hcap : N ≤ cap) (hb : cap * 8 ≤ 536870912) (hp : pc + 2 = pc') (hd : decode c.code pc = .ok (.newarray .double, 2)) (hc : cells + 1 ≤ R.cells) (hl : slots + cap ≤ R.slots)
    (k : ∀ T' h' a, a = h.size → Wk p l e R s m args below meth c n0 T' h' (cells + 1) (slots + cap) → Ext h h' → AD Z h' a (List.replicate N 0) → Go p e below s n0 Q nc ns (T'.setTop (mkF m pc' Ls (.ref a :: rest)))) : Go p e below s n0 Q nc ns (T.setTop (mkF m pc Ls (.int n :: rest))) := by
  subst hp; obtain ⟨locs, X, Nf, eT⟩ := X
  obtain ⟨e1, e2⟩ := own_idx hn
  obtain ⟨T', h', cA, X', e', E', A', b⟩ := newP X hx hZ (aty := .double) w eT (g := mkF m pc Ls (.int n :: rest)) rfl hd rfl e2 (cap := cap) (by rw [e1]; exact hcap) hb hc hl
  obtain ⟨cl, A, -, S, -, H, -⟩ := Arv.new A' e2
  refine go_back b (k T' h' h.size rfl ⟨_, X', Nf, e'⟩ E' ⟨cl, A, by rw [S, e1, List.length_replicate], by rw [List.length_replicate]; omega, fun i hi => ?_⟩)
  rw [List.length_replicate] at hi
  rw [H i (by rw [S, e1]; exact hi)]
  simp only [List.getD_eq_getElem?_getD, List.getElem?_replicate, hi, if_true, List.getElem?_nil, Option.getD_none, Option.getD_some]; rfl
theorem g_alenD (X : Wk p l e R s m args below meth c n0 T h cells slots) (hx : p.tables.exec = Jvm.exec) (hZ : Z.Warmed39 s.vm) (F : AD Z h a vs) {z : Int32} (hz : z.toInt = (vs.length : Int)) (hp : pc + 1 = pc') (hd : decode c.code pc = .ok (.arraylength, 1))
    (k : Go p e below s n0 Q nc ns (T.setTop (mkF m pc' Ls (.int z :: rest)))) : Go p e below s n0 Q nc ns (T.setTop (mkF m pc Ls (.ref a :: rest))) := by
  subst hp; obtain ⟨locs, X, N, eT⟩ := X
  obtain ⟨cl, A, S, -, H⟩ := F
  obtain ⟨e1, e2⟩ := own_idx hz
  have e3 : cl.slots.size.toInt32 = z := len_of (by rw [S, e1]) e2
  refine go_back (fun t q => X.arraylength hx (by rw [eT]; exact A.1) (State.isArrayOf_alike hZ.alike A.2.1) (g := mkF m pc Ls (.ref a :: rest)) rfl rfl hd t ?_) k
  rw [e3]; exact q
end OwnArr
theorem own_nib (v k : Int32) : (((v >>> ((4 * k) &&& 31)) &&& 15) - 8).toInt.natAbs ≤ 8 := by
  have h1 : 0 ≤ ((v >>> ((4 * k) &&& 31)) &&& 15).toInt ∧ ((v >>> ((4 * k) &&& 31)) &&& 15).toInt ≤ 15 := c_and _ 15 (by decide)
  have h2 := c_isub ((v >>> ((4 * k) &&& 31)) &&& 15) 8
  have h3 := rng32 (((v >>> ((4 * k) &&& 31)) &&& 15) - 8)
  have h4 : (8 : Int32).toInt = 8 := rfl
  omega
theorem own_i2d (x : Int32) : Dy x.toInt 1074 (FP.i2d x) := dy_int (FP.Core.i2d_int x)
theorem own_and3 (x : Int32) : x &&& 3 = 0 ∨ x &&& 3 = 1 ∨ x &&& 3 = 2 ∨ x &&& 3 = 3 := by
  have h : 0 ≤ (x &&& 3).toInt ∧ (x &&& 3).toInt ≤ 3 := c_and x 3 (by decide)
  have e0 : (0 : Int32).toInt = 0 := rfl
  have e1 : (1 : Int32).toInt = 1 := rfl
  have e2 : (2 : Int32).toInt = 2 := rfl
  have e3 : (3 : Int32).toInt = 3 := rfl
  rw [← Int32.toInt_inj, ← Int32.toInt_inj, ← Int32.toInt_inj, ← Int32.toInt_inj]
  omega
theorem own_and1 (x : Int32) : x &&& 1 = 0 ∨ x &&& 1 = 1 := by
  have h : 0 ≤ (x &&& 1).toInt ∧ (x &&& 1).toInt ≤ 1 := c_and x 1 (by decide)
  have e0 : (0 : Int32).toInt = 0 := rfl
  have e1 : (1 : Int32).toInt = 1 := rfl
  rw [← Int32.toInt_inj, ← Int32.toInt_inj]
  omega
set_option maxRecDepth 65536 in
set_option maxHeartbeats 40000000 in
theorem rm1 (l : Launch) (Z : State) (a0 : Array Value) (hw : ∀ d ∈ tables_1, d.before a0 Z = true) (ws : List Jvm.Cond) (n0 : Nat) (x k : Int32) (h0 : Heap) (hn0 : n0 ≤ h0.size)  :
    Con l Z n0 (⟨"com/example/orthogon/orthogon/TriangularSolveUnitLowerPinLaw", "nib", "(II)D"⟩ : MethodName) method_2_code 2 (some .double) ws ({ frames := 0, cells := 0, slots := 0, locals := 0 } : Room) #[(.int x), (.int k)] h0 (fun v h => v = some (.double (FP.i2d (((x >>> (((4 : Int32) * k) &&& 31)) &&& (15 : Int32)) - (8 : Int32)))) ∧ h = h0) := by
  refine con_start (plainFor_of_name (by first | (simp [plainName, overriddenIn]; done) | decide +kernel)) (fr0 := fun m => mkF m 0 #[.val (.int x), .val (.int k)] []) (fun m => by first | (simp [entryFrame, mkF, argsToLocals, Value.category]; done) | rfl) ?_
  intro p e s m below meth c T0 hx hZ hby hml hown hnm hret hlk X0
  replace hown : s.vm.findClass "com/example/orthogon/orthogon/TriangularSolveUnitLowerPinLaw" = some m.cls := hown
  replace hml : c.maxLocals = 2 := hml
  refine g_iloadN X0 hx (pc' := 1) rfl (hb hby d1_0) rfl ?_
  refine g_iconst X0 hx (pc' := 2) (z := (4 : Int32)) rfl (hb hby d1_1) rfl ?_
  refine g_iloadN X0 hx (pc' := 3) rfl (hb hby d1_2) rfl ?_
  refine g_imul X0 hx (pc' := 4) rfl (hb hby d1_3) ?_
  refine g_ishr X0 hx (pc' := 5) rfl (hb hby d1_4) ?_
  refine g_bipush X0 hx (pc' := 7) (z := (15 : Int32)) rfl (hb hby d1_5) rfl ?_
  refine g_iand X0 hx (pc' := 8) rfl (hb hby d1_7) ?_
  refine g_bipush X0 hx (pc' := 10) (z := (8 : Int32)) rfl (hb hby d1_8) rfl ?_
  refine g_isub X0 hx (pc' := 11) rfl (hb hby d1_10) ?_
  refine g_i2d X0 hx (pc' := 12) rfl (hb hby d1_11) ?_
  exact g_retD X0 hx hlk hret (hb hby d1_12) (by decide) (by decide) (⟨rfl, rfl⟩)
set_option maxRecDepth 65536 in
set_option maxHeartbeats 40000000 in
theorem rm2_0_1_3 (l : Launch) (Z : State) (a0 : Array Value) (hw : ∀ d ∈ tables_1, d.before a0 Z = true) (ws : List Jvm.Cond) (n0 : Nat) (ta ca : Addr) (t0 : UInt64) (t1 : UInt64) (t2 : UInt64) (t3 : UInt64) (t4 : UInt64) (t5 : UInt64) (t6 : UInt64) (t7 : UInt64) (t8 : UInt64) (t9 : UInt64) (t10 : UInt64) (t11 : UInt64) (mt3 : Int) (mt6 : Int) (mt7 : Int) (c0 : UInt64) (mc0 : Int) (c1 : UInt64) (mc1 : Int) (c2 : UInt64) (mc2 : Int) (c3 : UInt64) (mc3 : Int) (c4 : UInt64) (mc4 : Int) (c5 : UInt64) (mc5 : Int) (c6 : UInt64) (mc6 : Int) (c7 : UInt64) (mc7 : Int) (h0 : Heap) (hn0 : n0 ≤ h0.size) (At : AD Z h0 ta [t0, t1, t2, t3, t4, t5, t6, t7, t8, t9, t10, t11]) (Ac : AD Z h0 ca [c0, c1, c2, c3, c4, c5, c6, c7]) (hne : ta ≠ ca) (hg : n0 ≤ ca) (yc0 : Dy mc0 1074 c0) (bc0 : mc0.natAbs ≤ 8) (yc1 : Dy mc1 1074 c1) (bc1 : mc1.natAbs ≤ 8) (yc2 : Dy mc2 1074 c2) (bc2 : mc2.natAbs ≤ 8) (yc3 : Dy mc3 1074 c3) (bc3 : mc3.natAbs ≤ 8) (yc4 : Dy mc4 1074 c4) (bc4 : mc4.natAbs ≤ 8) (yc5 : Dy mc5 1074 c5) (bc5 : mc5.natAbs ≤ 8) (yc6 : Dy mc6 1074 c6) (bc6 : mc6.natAbs ≤ 8) (yc7 : Dy mc7 1074 c7) (bc7 : mc7.natAbs ≤ 8) (yt3 : Dy mt3 1074 t3) (bt3 : mt3.natAbs ≤ 8) (yt6 : Dy mt6 1074 t6) (bt6 : mt6.natAbs ≤ 8) (yt7 : Dy mt7 1074 t7) (bt7 : mt7.natAbs ≤ 8) :
    Con l Z n0 (⟨"com/example/orthogon/orthogon/Triangular", "solveUnitLower", "([DII[DI)V"⟩ : MethodName) prog_16_method_2_code 12 none ws ({ frames := 0, cells := 0, slots := 0, locals := 0 } : Room) #[(.ref ta), (.int (3 : Int32)), (.int (0 : Int32)), (.ref ca), (.int (1 : Int32))] h0 (fun v h => v = none ∧ Keep h0 h [ca] ∧ AD Z h ca [c0, c1, c2, c3, c4, c5, c6, c7]) := by
  refine con_start (plainFor_of_name (by first | (simp [plainName, overriddenIn]; done) | decide +kernel)) (fr0 := fun m => mkF m 0 #[.val (.ref ta), .val (.int (3 : Int32)), .val (.int (0 : Int32)), .val (.ref ca), .val (.int (1 : Int32)), .unset, .unset, .unset, .unset, .unset, .unset, .unset] []) (fun m => by first | (simp [entryFrame, mkF, argsToLocals, Value.category]; done) | rfl) ?_
  intro p e s m below meth c T0 hx hZ hby hml hown hnm hret hlk X0
  replace hown : s.vm.findClass "com/example/orthogon/orthogon/Triangular" = some m.cls := hown
  replace hml : c.maxLocals = 12 := hml
  refine g_iconst X0 hx (pc' := 1) (z := (1 : Int32)) rfl (hb hby d2_0) rfl ?_
  refine g_istore X0 hx (pc' := 3) rfl (hb hby d2_1) (l' := #[.val (.ref ta), .val (.int (3 : Int32)), .val (.int (0 : Int32)), .val (.ref ca), .val (.int (1 : Int32)), .val (.int (1 : Int32)), .unset, .unset, .unset, .unset, .unset, .unset]) rfl ?_
  refine g_iload X0 hx (pc' := 5) rfl (hb hby d2_3) rfl ?_
  refine g_iloadN X0 hx (pc' := 6) rfl (hb hby d2_5) rfl ?_
  refine g_icmpY X0 hx (pcY := 92) (hb hby d2_6) (by decide) (by decide) (show ¬ (1 : Int32) < (0 : Int32) from by decide) ?_
  exact g_retV X0 hx hlk hret (hb hby d2_92) (by decide) (by decide) (⟨rfl, (Keep.refl h0 [ca]), Ac⟩)
set_option maxRecDepth 65536 in
set_option maxHeartbeats 40000000 in
theorem rm2_0_1_4 (l : Launch) (Z : State) (a0 : Array Value) (hw : ∀ d ∈ tables_1, d.before a0 Z = true) (ws : List Jvm.Cond) (n0 : Nat) (ta ca : Addr) (t0 : UInt64) (t1 : UInt64) (t2 : UInt64) (t3 : UInt64) (t4 : UInt64) (t5 : UInt64) (t6 : UInt64) (t7 : UInt64) (t8 : UInt64) (t9 : UInt64) (t10 : UInt64) (t11 : UInt64) (mt4 : Int) (mt8 : Int) (mt9 : Int) (c0 : UInt64) (mc0 : Int) (c1 : UInt64) (mc1 : Int) (c2 : UInt64) (mc2 : Int) (c3 : UInt64) (mc3 : Int) (c4 : UInt64) (mc4 : Int) (c5 : UInt64) (mc5 : Int) (c6 : UInt64) (mc6 : Int) (c7 : UInt64) (mc7 : Int) (h0 : Heap) (hn0 : n0 ≤ h0.size) (At : AD Z h0 ta [t0, t1, t2, t3, t4, t5, t6, t7, t8, t9, t10, t11]) (Ac : AD Z h0 ca [c0, c1, c2, c3, c4, c5, c6, c7]) (hne : ta ≠ ca) (hg : n0 ≤ ca) (yc0 : Dy mc0 1074 c0) (bc0 : mc0.natAbs ≤ 8) (yc1 : Dy mc1 1074 c1) (bc1 : mc1.natAbs ≤ 8) (yc2 : Dy mc2 1074 c2) (bc2 : mc2.natAbs ≤ 8) (yc3 : Dy mc3 1074 c3) (bc3 : mc3.natAbs ≤ 8) (yc4 : Dy mc4 1074 c4) (bc4 : mc4.natAbs ≤ 8) (yc5 : Dy mc5 1074 c5) (bc5 : mc5.natAbs ≤ 8) (yc6 : Dy mc6 1074 c6) (bc6 : mc6.natAbs ≤ 8) (yc7 : Dy mc7 1074 c7) (bc7 : mc7.natAbs ≤ 8) (yt4 : Dy mt4 1074 t4) (bt4 : mt4.natAbs ≤ 8) (yt8 : Dy mt8 1074 t8) (bt8 : mt8.natAbs ≤ 8) (yt9 : Dy mt9 1074 t9) (bt9 : mt9.natAbs ≤ 8) :
    Con l Z n0 (⟨"com/example/orthogon/orthogon/Triangular", "solveUnitLower", "([DII[DI)V"⟩ : MethodName) prog_16_method_2_code 12 none ws ({ frames := 0, cells := 0, slots := 0, locals := 0 } : Room) #[(.ref ta), (.int (4 : Int32)), (.int (0 : Int32)), (.ref ca), (.int (1 : Int32))] h0 (fun v h => v = none ∧ Keep h0 h [ca] ∧ AD Z h ca [c0, c1, c2, c3, c4, c5, c6, c7]) := by
  refine con_start (plainFor_of_name (by first | (simp [plainName, overriddenIn]; done) | decide +kernel)) (fr0 := fun m => mkF m 0 #[.val (.ref ta), .val (.int (4 : Int32)), .val (.int (0 : Int32)), .val (.ref ca), .val (.int (1 : Int32)), .unset, .unset, .unset, .unset, .unset, .unset, .unset] []) (fun m => by first | (simp [entryFrame, mkF, argsToLocals, Value.category]; done) | rfl) ?_
  intro p e s m below meth c T0 hx hZ hby hml hown hnm hret hlk X0
  replace hown : s.vm.findClass "com/example/orthogon/orthogon/Triangular" = some m.cls := hown
  replace hml : c.maxLocals = 12 := hml
  refine g_iconst X0 hx (pc' := 1) (z := (1 : Int32)) rfl (hb hby d2_0) rfl ?_
  refine g_istore X0 hx (pc' := 3) rfl (hb hby d2_1) (l' := #[.val (.ref ta), .val (.int (4 : Int32)), .val (.int (0 : Int32)), .val (.ref ca), .val (.int (1 : Int32)), .val (.int (1 : Int32)), .unset, .unset, .unset, .unset, .unset, .unset]) rfl ?_
  refine g_iload X0 hx (pc' := 5) rfl (hb hby d2_3) rfl ?_
  refine g_iloadN X0 hx (pc' := 6) rfl (hb hby d2_5) rfl ?_
  refine g_icmpY X0 hx (pcY := 92) (hb hby d2_6) (by decide) (by decide) (show ¬ (1 : Int32) < (0 : Int32) from by decide) ?_
  exact g_retV X0 hx hlk hret (hb hby d2_92) (by decide) (by decide) (⟨rfl, (Keep.refl h0 [ca]), Ac⟩)
set_option maxRecDepth 65536 in
set_option maxHeartbeats 40000000 in
theorem rm2_0_2_3 (l : Launch) (Z : State) (a0 : Array Value) (hw : ∀ d ∈ tables_1, d.before a0 Z = true) (ws : List Jvm.Cond) (n0 : Nat) (ta ca : Addr) (t0 : UInt64) (t1 : UInt64) (t2 : UInt64) (t3 : UInt64) (t4 : UInt64) (t5 : UInt64) (t6 : UInt64) (t7 : UInt64) (t8 : UInt64) (t9 : UInt64) (t10 : UInt64) (t11 : UInt64) (mt3 : Int) (mt6 : Int) (mt7 : Int) (c0 : UInt64) (mc0 : Int) (c1 : UInt64) (mc1 : Int) (c2 : UInt64) (mc2 : Int) (c3 : UInt64) (mc3 : Int) (c4 : UInt64) (mc4 : Int) (c5 : UInt64) (mc5 : Int) (c6 : UInt64) (mc6 : Int) (c7 : UInt64) (mc7 : Int) (h0 : Heap) (hn0 : n0 ≤ h0.size) (At : AD Z h0 ta [t0, t1, t2, t3, t4, t5, t6, t7, t8, t9, t10, t11]) (Ac : AD Z h0 ca [c0, c1, c2, c3, c4, c5, c6, c7]) (hne : ta ≠ ca) (hg : n0 ≤ ca) (yc0 : Dy mc0 1074 c0) (bc0 : mc0.natAbs ≤ 8) (yc1 : Dy mc1 1074 c1) (bc1 : mc1.natAbs ≤ 8) (yc2 : Dy mc2 1074 c2) (bc2 : mc2.natAbs ≤ 8) (yc3 : Dy mc3 1074 c3) (bc3 : mc3.natAbs ≤ 8) (yc4 : Dy mc4 1074 c4) (bc4 : mc4.natAbs ≤ 8) (yc5 : Dy mc5 1074 c5) (bc5 : mc5.natAbs ≤ 8) (yc6 : Dy mc6 1074 c6) (bc6 : mc6.natAbs ≤ 8) (yc7 : Dy mc7 1074 c7) (bc7 : mc7.natAbs ≤ 8) (yt3 : Dy mt3 1074 t3) (bt3 : mt3.natAbs ≤ 8) (yt6 : Dy mt6 1074 t6) (bt6 : mt6.natAbs ≤ 8) (yt7 : Dy mt7 1074 t7) (bt7 : mt7.natAbs ≤ 8) :
    Con l Z n0 (⟨"com/example/orthogon/orthogon/Triangular", "solveUnitLower", "([DII[DI)V"⟩ : MethodName) prog_16_method_2_code 12 none ws ({ frames := 0, cells := 0, slots := 0, locals := 0 } : Room) #[(.ref ta), (.int (3 : Int32)), (.int (0 : Int32)), (.ref ca), (.int (2 : Int32))] h0 (fun v h => v = none ∧ Keep h0 h [ca] ∧ AD Z h ca [c0, c1, c2, c3, c4, c5, c6, c7]) := by
  refine con_start (plainFor_of_name (by first | (simp [plainName, overriddenIn]; done) | decide +kernel)) (fr0 := fun m => mkF m 0 #[.val (.ref ta), .val (.int (3 : Int32)), .val (.int (0 : Int32)), .val (.ref ca), .val (.int (2 : Int32)), .unset, .unset, .unset, .unset, .unset, .unset, .unset] []) (fun m => by first | (simp [entryFrame, mkF, argsToLocals, Value.category]; done) | rfl) ?_
  intro p e s m below meth c T0 hx hZ hby hml hown hnm hret hlk X0
  replace hown : s.vm.findClass "com/example/orthogon/orthogon/Triangular" = some m.cls := hown
  replace hml : c.maxLocals = 12 := hml
  refine g_iconst X0 hx (pc' := 1) (z := (1 : Int32)) rfl (hb hby d2_0) rfl ?_
  refine g_istore X0 hx (pc' := 3) rfl (hb hby d2_1) (l' := #[.val (.ref ta), .val (.int (3 : Int32)), .val (.int (0 : Int32)), .val (.ref ca), .val (.int (2 : Int32)), .val (.int (1 : Int32)), .unset, .unset, .unset, .unset, .unset, .unset]) rfl ?_
  refine g_iload X0 hx (pc' := 5) rfl (hb hby d2_3) rfl ?_
  refine g_iloadN X0 hx (pc' := 6) rfl (hb hby d2_5) rfl ?_
  refine g_icmpY X0 hx (pcY := 92) (hb hby d2_6) (by decide) (by decide) (show ¬ (1 : Int32) < (0 : Int32) from by decide) ?_
  exact g_retV X0 hx hlk hret (hb hby d2_92) (by decide) (by decide) (⟨rfl, (Keep.refl h0 [ca]), Ac⟩)
set_option maxRecDepth 65536 in
set_option maxHeartbeats 40000000 in
theorem rm2_0_2_4 (l : Launch) (Z : State) (a0 : Array Value) (hw : ∀ d ∈ tables_1, d.before a0 Z = true) (ws : List Jvm.Cond) (n0 : Nat) (ta ca : Addr) (t0 : UInt64) (t1 : UInt64) (t2 : UInt64) (t3 : UInt64) (t4 : UInt64) (t5 : UInt64) (t6 : UInt64) (t7 : UInt64) (t8 : UInt64) (t9 : UInt64) (t10 : UInt64) (t11 : UInt64) (mt4 : Int) (mt8 : Int) (mt9 : Int) (c0 : UInt64) (mc0 : Int) (c1 : UInt64) (mc1 : Int) (c2 : UInt64) (mc2 : Int) (c3 : UInt64) (mc3 : Int) (c4 : UInt64) (mc4 : Int) (c5 : UInt64) (mc5 : Int) (c6 : UInt64) (mc6 : Int) (c7 : UInt64) (mc7 : Int) (h0 : Heap) (hn0 : n0 ≤ h0.size) (At : AD Z h0 ta [t0, t1, t2, t3, t4, t5, t6, t7, t8, t9, t10, t11]) (Ac : AD Z h0 ca [c0, c1, c2, c3, c4, c5, c6, c7]) (hne : ta ≠ ca) (hg : n0 ≤ ca) (yc0 : Dy mc0 1074 c0) (bc0 : mc0.natAbs ≤ 8) (yc1 : Dy mc1 1074 c1) (bc1 : mc1.natAbs ≤ 8) (yc2 : Dy mc2 1074 c2) (bc2 : mc2.natAbs ≤ 8) (yc3 : Dy mc3 1074 c3) (bc3 : mc3.natAbs ≤ 8) (yc4 : Dy mc4 1074 c4) (bc4 : mc4.natAbs ≤ 8) (yc5 : Dy mc5 1074 c5) (bc5 : mc5.natAbs ≤ 8) (yc6 : Dy mc6 1074 c6) (bc6 : mc6.natAbs ≤ 8) (yc7 : Dy mc7 1074 c7) (bc7 : mc7.natAbs ≤ 8) (yt4 : Dy mt4 1074 t4) (bt4 : mt4.natAbs ≤ 8) (yt8 : Dy mt8 1074 t8) (bt8 : mt8.natAbs ≤ 8) (yt9 : Dy mt9 1074 t9) (bt9 : mt9.natAbs ≤ 8) :
    Con l Z n0 (⟨"com/example/orthogon/orthogon/Triangular", "solveUnitLower", "([DII[DI)V"⟩ : MethodName) prog_16_method_2_code 12 none ws ({ frames := 0, cells := 0, slots := 0, locals := 0 } : Room) #[(.ref ta), (.int (4 : Int32)), (.int (0 : Int32)), (.ref ca), (.int (2 : Int32))] h0 (fun v h => v = none ∧ Keep h0 h [ca] ∧ AD Z h ca [c0, c1, c2, c3, c4, c5, c6, c7]) := by
  refine con_start (plainFor_of_name (by first | (simp [plainName, overriddenIn]; done) | decide +kernel)) (fr0 := fun m => mkF m 0 #[.val (.ref ta), .val (.int (4 : Int32)), .val (.int (0 : Int32)), .val (.ref ca), .val (.int (2 : Int32)), .unset, .unset, .unset, .unset, .unset, .unset, .unset] []) (fun m => by first | (simp [entryFrame, mkF, argsToLocals, Value.category]; done) | rfl) ?_
  intro p e s m below meth c T0 hx hZ hby hml hown hnm hret hlk X0
  replace hown : s.vm.findClass "com/example/orthogon/orthogon/Triangular" = some m.cls := hown
  replace hml : c.maxLocals = 12 := hml
  refine g_iconst X0 hx (pc' := 1) (z := (1 : Int32)) rfl (hb hby d2_0) rfl ?_
  refine g_istore X0 hx (pc' := 3) rfl (hb hby d2_1) (l' := #[.val (.ref ta), .val (.int (4 : Int32)), .val (.int (0 : Int32)), .val (.ref ca), .val (.int (2 : Int32)), .val (.int (1 : Int32)), .unset, .unset, .unset, .unset, .unset, .unset]) rfl ?_
  refine g_iload X0 hx (pc' := 5) rfl (hb hby d2_3) rfl ?_
  refine g_iloadN X0 hx (pc' := 6) rfl (hb hby d2_5) rfl ?_
  refine g_icmpY X0 hx (pcY := 92) (hb hby d2_6) (by decide) (by decide) (show ¬ (1 : Int32) < (0 : Int32) from by decide) ?_
  exact g_retV X0 hx hlk hret (hb hby d2_92) (by decide) (by decide) (⟨rfl, (Keep.refl h0 [ca]), Ac⟩)
set_option maxRecDepth 65536 in
set_option maxHeartbeats 40000000 in
theorem rm2_1_1_3 (l : Launch) (Z : State) (a0 : Array Value) (hw : ∀ d ∈ tables_1, d.before a0 Z = true) (ws : List Jvm.Cond) (n0 : Nat) (ta ca : Addr) (t0 : UInt64) (t1 : UInt64) (t2 : UInt64) (t3 : UInt64) (t4 : UInt64) (t5 : UInt64) (t6 : UInt64) (t7 : UInt64) (t8 : UInt64) (t9 : UInt64) (t10 : UInt64) (t11 : UInt64) (mt3 : Int) (mt6 : Int) (mt7 : Int) (c0 : UInt64) (mc0 : Int) (c1 : UInt64) (mc1 : Int) (c2 : UInt64) (mc2 : Int) (c3 : UInt64) (mc3 : Int) (c4 : UInt64) (mc4 : Int) (c5 : UInt64) (mc5 : Int) (c6 : UInt64) (mc6 : Int) (c7 : UInt64) (mc7 : Int) (h0 : Heap) (hn0 : n0 ≤ h0.size) (At : AD Z h0 ta [t0, t1, t2, t3, t4, t5, t6, t7, t8, t9, t10, t11]) (Ac : AD Z h0 ca [c0, c1, c2, c3, c4, c5, c6, c7]) (hne : ta ≠ ca) (hg : n0 ≤ ca) (yc0 : Dy mc0 1074 c0) (bc0 : mc0.natAbs ≤ 8) (yc1 : Dy mc1 1074 c1) (bc1 : mc1.natAbs ≤ 8) (yc2 : Dy mc2 1074 c2) (bc2 : mc2.natAbs ≤ 8) (yc3 : Dy mc3 1074 c3) (bc3 : mc3.natAbs ≤ 8) (yc4 : Dy mc4 1074 c4) (bc4 : mc4.natAbs ≤ 8) (yc5 : Dy mc5 1074 c5) (bc5 : mc5.natAbs ≤ 8) (yc6 : Dy mc6 1074 c6) (bc6 : mc6.natAbs ≤ 8) (yc7 : Dy mc7 1074 c7) (bc7 : mc7.natAbs ≤ 8) (yt3 : Dy mt3 1074 t3) (bt3 : mt3.natAbs ≤ 8) (yt6 : Dy mt6 1074 t6) (bt6 : mt6.natAbs ≤ 8) (yt7 : Dy mt7 1074 t7) (bt7 : mt7.natAbs ≤ 8) :
    Con l Z n0 (⟨"com/example/orthogon/orthogon/Triangular", "solveUnitLower", "([DII[DI)V"⟩ : MethodName) prog_16_method_2_code 12 none ws ({ frames := 0, cells := 0, slots := 0, locals := 0 } : Room) #[(.ref ta), (.int (3 : Int32)), (.int (1 : Int32)), (.ref ca), (.int (1 : Int32))] h0 (fun v h => v = none ∧ Keep h0 h [ca] ∧ AD Z h ca [c0, c1, c2, c3, c4, c5, c6, c7]) := by
  refine con_start (plainFor_of_name (by first | (simp [plainName, overriddenIn]; done) | decide +kernel)) (fr0 := fun m => mkF m 0 #[.val (.ref ta), .val (.int (3 : Int32)), .val (.int (1 : Int32)), .val (.ref ca), .val (.int (1 : Int32)), .unset, .unset, .unset, .unset, .unset, .unset, .unset] []) (fun m => by first | (simp [entryFrame, mkF, argsToLocals, Value.category]; done) | rfl) ?_
  intro p e s m below meth c T0 hx hZ hby hml hown hnm hret hlk X0
  replace hown : s.vm.findClass "com/example/orthogon/orthogon/Triangular" = some m.cls := hown
  replace hml : c.maxLocals = 12 := hml
  refine g_iconst X0 hx (pc' := 1) (z := (1 : Int32)) rfl (hb hby d2_0) rfl ?_
  refine g_istore X0 hx (pc' := 3) rfl (hb hby d2_1) (l' := #[.val (.ref ta), .val (.int (3 : Int32)), .val (.int (1 : Int32)), .val (.ref ca), .val (.int (1 : Int32)), .val (.int (1 : Int32)), .unset, .unset, .unset, .unset, .unset, .unset]) rfl ?_
  refine g_iload X0 hx (pc' := 5) rfl (hb hby d2_3) rfl ?_
  refine g_iloadN X0 hx (pc' := 6) rfl (hb hby d2_5) rfl ?_
  refine g_icmpY X0 hx (pcY := 92) (hb hby d2_6) (by decide) (by decide) (show ¬ (1 : Int32) < (1 : Int32) from by decide) ?_
  exact g_retV X0 hx hlk hret (hb hby d2_92) (by decide) (by decide) (⟨rfl, (Keep.refl h0 [ca]), Ac⟩)
set_option maxRecDepth 65536 in
set_option maxHeartbeats 40000000 in
theorem rm2_1_1_4 (l : Launch) (Z : State) (a0 : Array Value) (hw : ∀ d ∈ tables_1, d.before a0 Z = true) (ws : List Jvm.Cond) (n0 : Nat) (ta ca : Addr) (t0 : UInt64) (t1 : UInt64) (t2 : UInt64) (t3 : UInt64) (t4 : UInt64) (t5 : UInt64) (t6 : UInt64) (t7 : UInt64) (t8 : UInt64) (t9 : UInt64) (t10 : UInt64) (t11 : UInt64) (mt4 : Int) (mt8 : Int) (mt9 : Int) (c0 : UInt64) (mc0 : Int) (c1 : UInt64) (mc1 : Int) (c2 : UInt64) (mc2 : Int) (c3 : UInt64) (mc3 : Int) (c4 : UInt64) (mc4 : Int) (c5 : UInt64) (mc5 : Int) (c6 : UInt64) (mc6 : Int) (c7 : UInt64) (mc7 : Int) (h0 : Heap) (hn0 : n0 ≤ h0.size) (At : AD Z h0 ta [t0, t1, t2, t3, t4, t5, t6, t7, t8, t9, t10, t11]) (Ac : AD Z h0 ca [c0, c1, c2, c3, c4, c5, c6, c7]) (hne : ta ≠ ca) (hg : n0 ≤ ca) (yc0 : Dy mc0 1074 c0) (bc0 : mc0.natAbs ≤ 8) (yc1 : Dy mc1 1074 c1) (bc1 : mc1.natAbs ≤ 8) (yc2 : Dy mc2 1074 c2) (bc2 : mc2.natAbs ≤ 8) (yc3 : Dy mc3 1074 c3) (bc3 : mc3.natAbs ≤ 8) (yc4 : Dy mc4 1074 c4) (bc4 : mc4.natAbs ≤ 8) (yc5 : Dy mc5 1074 c5) (bc5 : mc5.natAbs ≤ 8) (yc6 : Dy mc6 1074 c6) (bc6 : mc6.natAbs ≤ 8) (yc7 : Dy mc7 1074 c7) (bc7 : mc7.natAbs ≤ 8) (yt4 : Dy mt4 1074 t4) (bt4 : mt4.natAbs ≤ 8) (yt8 : Dy mt8 1074 t8) (bt8 : mt8.natAbs ≤ 8) (yt9 : Dy mt9 1074 t9) (bt9 : mt9.natAbs ≤ 8) :
    Con l Z n0 (⟨"com/example/orthogon/orthogon/Triangular", "solveUnitLower", "([DII[DI)V"⟩ : MethodName) prog_16_method_2_code 12 none ws ({ frames := 0, cells := 0, slots := 0, locals := 0 } : Room) #[(.ref ta), (.int (4 : Int32)), (.int (1 : Int32)), (.ref ca), (.int (1 : Int32))] h0 (fun v h => v = none ∧ Keep h0 h [ca] ∧ AD Z h ca [c0, c1, c2, c3, c4, c5, c6, c7]) := by
  refine con_start (plainFor_of_name (by first | (simp [plainName, overriddenIn]; done) | decide +kernel)) (fr0 := fun m => mkF m 0 #[.val (.ref ta), .val (.int (4 : Int32)), .val (.int (1 : Int32)), .val (.ref ca), .val (.int (1 : Int32)), .unset, .unset, .unset, .unset, .unset, .unset, .unset] []) (fun m => by first | (simp [entryFrame, mkF, argsToLocals, Value.category]; done) | rfl) ?_
  intro p e s m below meth c T0 hx hZ hby hml hown hnm hret hlk X0
  replace hown : s.vm.findClass "com/example/orthogon/orthogon/Triangular" = some m.cls := hown
  replace hml : c.maxLocals = 12 := hml
  refine g_iconst X0 hx (pc' := 1) (z := (1 : Int32)) rfl (hb hby d2_0) rfl ?_
  refine g_istore X0 hx (pc' := 3) rfl (hb hby d2_1) (l' := #[.val (.ref ta), .val (.int (4 : Int32)), .val (.int (1 : Int32)), .val (.ref ca), .val (.int (1 : Int32)), .val (.int (1 : Int32)), .unset, .unset, .unset, .unset, .unset, .unset]) rfl ?_
  refine g_iload X0 hx (pc' := 5) rfl (hb hby d2_3) rfl ?_
  refine g_iloadN X0 hx (pc' := 6) rfl (hb hby d2_5) rfl ?_
  refine g_icmpY X0 hx (pcY := 92) (hb hby d2_6) (by decide) (by decide) (show ¬ (1 : Int32) < (1 : Int32) from by decide) ?_
  exact g_retV X0 hx hlk hret (hb hby d2_92) (by decide) (by decide) (⟨rfl, (Keep.refl h0 [ca]), Ac⟩)
set_option maxRecDepth 65536 in
set_option maxHeartbeats 40000000 in
theorem rm2_1_2_3 (l : Launch) (Z : State) (a0 : Array Value) (hw : ∀ d ∈ tables_1, d.before a0 Z = true) (ws : List Jvm.Cond) (n0 : Nat) (ta ca : Addr) (t0 : UInt64) (t1 : UInt64) (t2 : UInt64) (t3 : UInt64) (t4 : UInt64) (t5 : UInt64) (t6 : UInt64) (t7 : UInt64) (t8 : UInt64) (t9 : UInt64) (t10 : UInt64) (t11 : UInt64) (mt3 : Int) (mt6 : Int) (mt7 : Int) (c0 : UInt64) (mc0 : Int) (c1 : UInt64) (mc1 : Int) (c2 : UInt64) (mc2 : Int) (c3 : UInt64) (mc3 : Int) (c4 : UInt64) (mc4 : Int) (c5 : UInt64) (mc5 : Int) (c6 : UInt64) (mc6 : Int) (c7 : UInt64) (mc7 : Int) (h0 : Heap) (hn0 : n0 ≤ h0.size) (At : AD Z h0 ta [t0, t1, t2, t3, t4, t5, t6, t7, t8, t9, t10, t11]) (Ac : AD Z h0 ca [c0, c1, c2, c3, c4, c5, c6, c7]) (hne : ta ≠ ca) (hg : n0 ≤ ca) (yc0 : Dy mc0 1074 c0) (bc0 : mc0.natAbs ≤ 8) (yc1 : Dy mc1 1074 c1) (bc1 : mc1.natAbs ≤ 8) (yc2 : Dy mc2 1074 c2) (bc2 : mc2.natAbs ≤ 8) (yc3 : Dy mc3 1074 c3) (bc3 : mc3.natAbs ≤ 8) (yc4 : Dy mc4 1074 c4) (bc4 : mc4.natAbs ≤ 8) (yc5 : Dy mc5 1074 c5) (bc5 : mc5.natAbs ≤ 8) (yc6 : Dy mc6 1074 c6) (bc6 : mc6.natAbs ≤ 8) (yc7 : Dy mc7 1074 c7) (bc7 : mc7.natAbs ≤ 8) (yt3 : Dy mt3 1074 t3) (bt3 : mt3.natAbs ≤ 8) (yt6 : Dy mt6 1074 t6) (bt6 : mt6.natAbs ≤ 8) (yt7 : Dy mt7 1074 t7) (bt7 : mt7.natAbs ≤ 8) :
    Con l Z n0 (⟨"com/example/orthogon/orthogon/Triangular", "solveUnitLower", "([DII[DI)V"⟩ : MethodName) prog_16_method_2_code 12 none ws ({ frames := 0, cells := 0, slots := 0, locals := 0 } : Room) #[(.ref ta), (.int (3 : Int32)), (.int (1 : Int32)), (.ref ca), (.int (2 : Int32))] h0 (fun v h => v = none ∧ Keep h0 h [ca] ∧ AD Z h ca [c0, c1, c2, c3, c4, c5, c6, c7]) := by
  refine con_start (plainFor_of_name (by first | (simp [plainName, overriddenIn]; done) | decide +kernel)) (fr0 := fun m => mkF m 0 #[.val (.ref ta), .val (.int (3 : Int32)), .val (.int (1 : Int32)), .val (.ref ca), .val (.int (2 : Int32)), .unset, .unset, .unset, .unset, .unset, .unset, .unset] []) (fun m => by first | (simp [entryFrame, mkF, argsToLocals, Value.category]; done) | rfl) ?_
  intro p e s m below meth c T0 hx hZ hby hml hown hnm hret hlk X0
  replace hown : s.vm.findClass "com/example/orthogon/orthogon/Triangular" = some m.cls := hown
  replace hml : c.maxLocals = 12 := hml
  refine g_iconst X0 hx (pc' := 1) (z := (1 : Int32)) rfl (hb hby d2_0) rfl ?_
  refine g_istore X0 hx (pc' := 3) rfl (hb hby d2_1) (l' := #[.val (.ref ta), .val (.int (3 : Int32)), .val (.int (1 : Int32)), .val (.ref ca), .val (.int (2 : Int32)), .val (.int (1 : Int32)), .unset, .unset, .unset, .unset, .unset, .unset]) rfl ?_
  refine g_iload X0 hx (pc' := 5) rfl (hb hby d2_3) rfl ?_
  refine g_iloadN X0 hx (pc' := 6) rfl (hb hby d2_5) rfl ?_
  refine g_icmpY X0 hx (pcY := 92) (hb hby d2_6) (by decide) (by decide) (show ¬ (1 : Int32) < (1 : Int32) from by decide) ?_
  exact g_retV X0 hx hlk hret (hb hby d2_92) (by decide) (by decide) (⟨rfl, (Keep.refl h0 [ca]), Ac⟩)
set_option maxRecDepth 65536 in
set_option maxHeartbeats 40000000 in
theorem rm2_1_2_4 (l : Launch) (Z : State) (a0 : Array Value) (hw : ∀ d ∈ tables_1, d.before a0 Z = true) (ws : List Jvm.Cond) (n0 : Nat) (ta ca : Addr) (t0 : UInt64) (t1 : UInt64) (t2 : UInt64) (t3 : UInt64) (t4 : UInt64) (t5 : UInt64) (t6 : UInt64) (t7 : UInt64) (t8 : UInt64) (t9 : UInt64) (t10 : UInt64) (t11 : UInt64) (mt4 : Int) (mt8 : Int) (mt9 : Int) (c0 : UInt64) (mc0 : Int) (c1 : UInt64) (mc1 : Int) (c2 : UInt64) (mc2 : Int) (c3 : UInt64) (mc3 : Int) (c4 : UInt64) (mc4 : Int) (c5 : UInt64) (mc5 : Int) (c6 : UInt64) (mc6 : Int) (c7 : UInt64) (mc7 : Int) (h0 : Heap) (hn0 : n0 ≤ h0.size) (At : AD Z h0 ta [t0, t1, t2, t3, t4, t5, t6, t7, t8, t9, t10, t11]) (Ac : AD Z h0 ca [c0, c1, c2, c3, c4, c5, c6, c7]) (hne : ta ≠ ca) (hg : n0 ≤ ca) (yc0 : Dy mc0 1074 c0) (bc0 : mc0.natAbs ≤ 8) (yc1 : Dy mc1 1074 c1) (bc1 : mc1.natAbs ≤ 8) (yc2 : Dy mc2 1074 c2) (bc2 : mc2.natAbs ≤ 8) (yc3 : Dy mc3 1074 c3) (bc3 : mc3.natAbs ≤ 8) (yc4 : Dy mc4 1074 c4) (bc4 : mc4.natAbs ≤ 8) (yc5 : Dy mc5 1074 c5) (bc5 : mc5.natAbs ≤ 8) (yc6 : Dy mc6 1074 c6) (bc6 : mc6.natAbs ≤ 8) (yc7 : Dy mc7 1074 c7) (bc7 : mc7.natAbs ≤ 8) (yt4 : Dy mt4 1074 t4) (bt4 : mt4.natAbs ≤ 8) (yt8 : Dy mt8 1074 t8) (bt8 : mt8.natAbs ≤ 8) (yt9 : Dy mt9 1074 t9) (bt9 : mt9.natAbs ≤ 8) :
    Con l Z n0 (⟨"com/example/orthogon/orthogon/Triangular", "solveUnitLower", "([DII[DI)V"⟩ : MethodName) prog_16_method_2_code 12 none ws ({ frames := 0, cells := 0, slots := 0, locals := 0 } : Room) #[(.ref ta), (.int (4 : Int32)), (.int (1 : Int32)), (.ref ca), (.int (2 : Int32))] h0 (fun v h => v = none ∧ Keep h0 h [ca] ∧ AD Z h ca [c0, c1, c2, c3, c4, c5, c6, c7]) := by
  refine con_start (plainFor_of_name (by first | (simp [plainName, overriddenIn]; done) | decide +kernel)) (fr0 := fun m => mkF m 0 #[.val (.ref ta), .val (.int (4 : Int32)), .val (.int (1 : Int32)), .val (.ref ca), .val (.int (2 : Int32)), .unset, .unset, .unset, .unset, .unset, .unset, .unset] []) (fun m => by first | (simp [entryFrame, mkF, argsToLocals, Value.category]; done) | rfl) ?_
  intro p e s m below meth c T0 hx hZ hby hml hown hnm hret hlk X0
  replace hown : s.vm.findClass "com/example/orthogon/orthogon/Triangular" = some m.cls := hown
  replace hml : c.maxLocals = 12 := hml
  refine g_iconst X0 hx (pc' := 1) (z := (1 : Int32)) rfl (hb hby d2_0) rfl ?_
  refine g_istore X0 hx (pc' := 3) rfl (hb hby d2_1) (l' := #[.val (.ref ta), .val (.int (4 : Int32)), .val (.int (1 : Int32)), .val (.ref ca), .val (.int (2 : Int32)), .val (.int (1 : Int32)), .unset, .unset, .unset, .unset, .unset, .unset]) rfl ?_
  refine g_iload X0 hx (pc' := 5) rfl (hb hby d2_3) rfl ?_
  refine g_iloadN X0 hx (pc' := 6) rfl (hb hby d2_5) rfl ?_
  refine g_icmpY X0 hx (pcY := 92) (hb hby d2_6) (by decide) (by decide) (show ¬ (1 : Int32) < (1 : Int32) from by decide) ?_
  exact g_retV X0 hx hlk hret (hb hby d2_92) (by decide) (by decide) (⟨rfl, (Keep.refl h0 [ca]), Ac⟩)
set_option maxRecDepth 65536 in
set_option maxHeartbeats 40000000 in
theorem rm2_2_1_3 (l : Launch) (Z : State) (a0 : Array Value) (hw : ∀ d ∈ tables_1, d.before a0 Z = true) (ws : List Jvm.Cond) (n0 : Nat) (ta ca : Addr) (t0 : UInt64) (t1 : UInt64) (t2 : UInt64) (t3 : UInt64) (t4 : UInt64) (t5 : UInt64) (t6 : UInt64) (t7 : UInt64) (t8 : UInt64) (t9 : UInt64) (t10 : UInt64) (t11 : UInt64) (mt3 : Int) (mt6 : Int) (mt7 : Int) (c0 : UInt64) (mc0 : Int) (c1 : UInt64) (mc1 : Int) (c2 : UInt64) (mc2 : Int) (c3 : UInt64) (mc3 : Int) (c4 : UInt64) (mc4 : Int) (c5 : UInt64) (mc5 : Int) (c6 : UInt64) (mc6 : Int) (c7 : UInt64) (mc7 : Int) (h0 : Heap) (hn0 : n0 ≤ h0.size) (At : AD Z h0 ta [t0, t1, t2, t3, t4, t5, t6, t7, t8, t9, t10, t11]) (Ac : AD Z h0 ca [c0, c1, c2, c3, c4, c5, c6, c7]) (hne : ta ≠ ca) (hg : n0 ≤ ca) (yc0 : Dy mc0 1074 c0) (bc0 : mc0.natAbs ≤ 8) (yc1 : Dy mc1 1074 c1) (bc1 : mc1.natAbs ≤ 8) (yc2 : Dy mc2 1074 c2) (bc2 : mc2.natAbs ≤ 8) (yc3 : Dy mc3 1074 c3) (bc3 : mc3.natAbs ≤ 8) (yc4 : Dy mc4 1074 c4) (bc4 : mc4.natAbs ≤ 8) (yc5 : Dy mc5 1074 c5) (bc5 : mc5.natAbs ≤ 8) (yc6 : Dy mc6 1074 c6) (bc6 : mc6.natAbs ≤ 8) (yc7 : Dy mc7 1074 c7) (bc7 : mc7.natAbs ≤ 8) (yt3 : Dy mt3 1074 t3) (bt3 : mt3.natAbs ≤ 8) (yt6 : Dy mt6 1074 t6) (bt6 : mt6.natAbs ≤ 8) (yt7 : Dy mt7 1074 t7) (bt7 : mt7.natAbs ≤ 8) :
    Con l Z n0 (⟨"com/example/orthogon/orthogon/Triangular", "solveUnitLower", "([DII[DI)V"⟩ : MethodName) prog_16_method_2_code 12 none ws ({ frames := 0, cells := 0, slots := 0, locals := 0 } : Room) #[(.ref ta), (.int (3 : Int32)), (.int (2 : Int32)), (.ref ca), (.int (1 : Int32))] h0 (fun v h => v = none ∧ Keep h0 h [ca] ∧ ∃ y1 : UInt64, Dy (mc1 - mt3 * mc0) 1074 y1 ∧ AD Z h ca [c0, y1, c2, c3, c4, c5, c6, c7]) := by
  refine con_start (plainFor_of_name (by first | (simp [plainName, overriddenIn]; done) | decide +kernel)) (fr0 := fun m => mkF m 0 #[.val (.ref ta), .val (.int (3 : Int32)), .val (.int (2 : Int32)), .val (.ref ca), .val (.int (1 : Int32)), .unset, .unset, .unset, .unset, .unset, .unset, .unset] []) (fun m => by first | (simp [entryFrame, mkF, argsToLocals, Value.category]; done) | rfl) ?_
  intro p e s m below meth c T0 hx hZ hby hml hown hnm hret hlk X0
  replace hown : s.vm.findClass "com/example/orthogon/orthogon/Triangular" = some m.cls := hown
  replace hml : c.maxLocals = 12 := hml
  refine g_iconst X0 hx (pc' := 1) (z := (1 : Int32)) rfl (hb hby d2_0) rfl ?_
  refine g_istore X0 hx (pc' := 3) rfl (hb hby d2_1) (l' := #[.val (.ref ta), .val (.int (3 : Int32)), .val (.int (2 : Int32)), .val (.ref ca), .val (.int (1 : Int32)), .val (.int (1 : Int32)), .unset, .unset, .unset, .unset, .unset, .unset]) rfl ?_
  refine g_iload X0 hx (pc' := 5) rfl (hb hby d2_3) rfl ?_
  refine g_iloadN X0 hx (pc' := 6) rfl (hb hby d2_5) rfl ?_
  refine g_icmpN X0 hx (pcN := 9) (hb hby d2_6) rfl (show ¬ (¬ (1 : Int32) < (2 : Int32)) from by decide) ?_
  refine g_iload X0 hx (pc' := 11) rfl (hb hby d2_9) rfl ?_
  refine g_iload X0 hx (pc' := 13) rfl (hb hby d2_11) rfl ?_
  refine g_imul X0 hx (pc' := 14) rfl (hb hby d2_13) ?_
  refine g_normI (z := (1 : Int32)) (by decide) ?_
  refine g_istore X0 hx (pc' := 16) rfl (hb hby d2_14) (l' := #[.val (.ref ta), .val (.int (3 : Int32)), .val (.int (2 : Int32)), .val (.ref ca), .val (.int (1 : Int32)), .val (.int (1 : Int32)), .val (.int (1 : Int32)), .unset, .unset, .unset, .unset, .unset]) rfl ?_
  refine g_iconst X0 hx (pc' := 17) (z := (0 : Int32)) rfl (hb hby d2_16) rfl ?_
  refine g_istore X0 hx (pc' := 19) rfl (hb hby d2_17) (l' := #[.val (.ref ta), .val (.int (3 : Int32)), .val (.int (2 : Int32)), .val (.ref ca), .val (.int (1 : Int32)), .val (.int (1 : Int32)), .val (.int (1 : Int32)), .val (.int (0 : Int32)), .unset, .unset, .unset, .unset]) rfl ?_
  refine g_iload X0 hx (pc' := 21) rfl (hb hby d2_19) rfl ?_
  refine g_iload X0 hx (pc' := 23) rfl (hb hby d2_21) rfl ?_
  refine g_icmpN X0 hx (pcN := 26) (hb hby d2_23) rfl (show ¬ (¬ (0 : Int32) < (1 : Int32)) from by decide) ?_
  refine g_aloadN X0 hx (pc' := 27) rfl (hb hby d2_26) rfl rfl ?_
  refine g_iload X0 hx (pc' := 29) rfl (hb hby d2_27) rfl ?_
  refine g_iloadN X0 hx (pc' := 30) rfl (hb hby d2_29) rfl ?_
  refine g_imul X0 hx (pc' := 31) rfl (hb hby d2_30) ?_
  refine g_normI (z := (3 : Int32)) (by decide) ?_
  refine g_iload X0 hx (pc' := 33) rfl (hb hby d2_31) rfl ?_
  refine g_iadd X0 hx (pc' := 34) rfl (hb hby d2_33) ?_
  refine g_normI (z := (3 : Int32)) (by decide) ?_
  refine g_daload X0 hx hZ At (i := 3) (by decide) (show (3 : Nat) < 12 by decide) (v := t3) rfl (pc' := 35) rfl (hb hby d2_34) ?_
  refine g_dstore X0 hx (pc' := 37) rfl (hb hby d2_35) (l' := #[.val (.ref ta), .val (.int (3 : Int32)), .val (.int (2 : Int32)), .val (.ref ca), .val (.int (1 : Int32)), .val (.int (1 : Int32)), .val (.int (1 : Int32)), .val (.int (0 : Int32)), .val (.double t3), .second, .unset, .unset]) rfl ?_
  refine g_iload X0 hx (pc' := 39) rfl (hb hby d2_37) rfl ?_
  refine g_iload X0 hx (pc' := 41) rfl (hb hby d2_39) rfl ?_
  refine g_imul X0 hx (pc' := 42) rfl (hb hby d2_41) ?_
  refine g_normI (z := (0 : Int32)) (by decide) ?_
  refine g_istore X0 hx (pc' := 44) rfl (hb hby d2_42) (l' := #[.val (.ref ta), .val (.int (3 : Int32)), .val (.int (2 : Int32)), .val (.ref ca), .val (.int (1 : Int32)), .val (.int (1 : Int32)), .val (.int (1 : Int32)), .val (.int (0 : Int32)), .val (.double t3), .second, .val (.int (0 : Int32)), .unset]) rfl ?_
  refine g_iconst X0 hx (pc' := 45) (z := (0 : Int32)) rfl (hb hby d2_44) rfl ?_
  refine g_istore X0 hx (pc' := 47) rfl (hb hby d2_45) (l' := #[.val (.ref ta), .val (.int (3 : Int32)), .val (.int (2 : Int32)), .val (.ref ca), .val (.int (1 : Int32)), .val (.int (1 : Int32)), .val (.int (1 : Int32)), .val (.int (0 : Int32)), .val (.double t3), .second, .val (.int (0 : Int32)), .val (.int (0 : Int32))]) rfl ?_
  refine g_iload X0 hx (pc' := 49) rfl (hb hby d2_47) rfl ?_
  refine g_iload X0 hx (pc' := 51) rfl (hb hby d2_49) rfl ?_
  refine g_icmpN X0 hx (pcN := 54) (hb hby d2_51) rfl (show ¬ (¬ (0 : Int32) < (1 : Int32)) from by decide) ?_
  refine g_aloadN X0 hx (pc' := 55) rfl (hb hby d2_54) rfl rfl ?_
  refine g_iload X0 hx (pc' := 57) rfl (hb hby d2_55) rfl ?_
  refine g_iload X0 hx (pc' := 59) rfl (hb hby d2_57) rfl ?_
  refine g_iadd X0 hx (pc' := 60) rfl (hb hby d2_59) ?_
  refine g_normI (z := (1 : Int32)) (by decide) ?_
  refine g_dup2 X0 hx (pc' := 61) rfl (hb hby d2_60) rfl rfl ?_
  refine g_daload X0 hx hZ Ac (i := 1) (by decide) (show (1 : Nat) < 8 by decide) (v := c1) rfl (pc' := 62) rfl (hb hby d2_61) ?_
  refine g_dload X0 hx (pc' := 64) rfl (hb hby d2_62) rfl ?_
  refine g_aloadN X0 hx (pc' := 65) rfl (hb hby d2_64) rfl rfl ?_
  refine g_iload X0 hx (pc' := 67) rfl (hb hby d2_65) rfl ?_
  refine g_iload X0 hx (pc' := 69) rfl (hb hby d2_67) rfl ?_
  refine g_iadd X0 hx (pc' := 70) rfl (hb hby d2_69) ?_
  refine g_normI (z := (0 : Int32)) (by decide) ?_
  refine g_daload X0 hx hZ Ac (i := 0) (by decide) (show (0 : Nat) < 8 by decide) (v := c0) rfl (pc' := 71) rfl (hb hby d2_70) ?_
  have q7 : Dy (mt3 * mc0) 1074 (FP.dmul t3 c0) := dy_mul yt3 yc0 (by decide) (own_mb bt3 bc0 (by decide)) (by decide)
  refine g_dmul X0 hx (pc' := 72) (z := (FP.dmul t3 c0)) rfl (hb hby d2_71) (dy_noNaN q7) rfl ?_
  refine g_absD (fun d7 hd7 => ?_)
  rw [← hd7] at q7
  obtain ⟨n7, en7⟩ : ∃ z : Int, z = mt3 * mc0 := ⟨_, rfl⟩
  rw [← en7] at q7
  have b7 : n7.natAbs ≤ 64 := by rw [en7, Int.natAbs_mul]; exact Nat.le_trans (Nat.mul_le_mul bt3 bc0) (by decide)
  have q8 : Dy (mc1 - n7) 1074 (FP.dsub c1 d7) := dy_sub yc1 q7 (own_subb bc1 b7 (by decide)) (by decide)
  refine g_dsub X0 hx (pc' := 73) (z := (FP.dsub c1 d7)) rfl (hb hby d2_72) (dy_noNaN q8) rfl ?_
  refine g_absD (fun d8 hd8 => ?_)
  rw [← hd8] at q8
  obtain ⟨n8, en8⟩ : ∃ z : Int, z = mc1 - n7 := ⟨_, rfl⟩
  rw [← en8] at q8
  have b8 : n8.natAbs ≤ 72 := by rw [en8]; exact Nat.le_trans (own_subl bc1 b7) (by decide)
  refine g_dastore X0 hx hZ Ac (i := 1) (by decide) (show (1 : Nat) < 8 by decide) hg (pc' := 74) rfl (hb hby d2_73) (fun T9 h9 X9 W9 N9 => ?_)
  have f10 := At.other W9 hne
  have f11 := (by have q := (Keep.of_wr W9).1; exact Nat.le_trans hn0 q : n0 ≤ h9.size)
  have f12 := (Keep.refl h0 [ca]).wr W9 (Or.inl (List.mem_of_getElem? (i := 0) rfl))
  have V9 : AD Z h9 ca [c0, d8, c2, c3, c4, c5, c6, c7] := N9
  refine g_iincC X9 hx (pc' := 77) (x := (0 : Int32)) (z := (1 : Int32)) rfl (hb hby d2_74) rfl (by decide) (l' := #[.val (.ref ta), .val (.int (3 : Int32)), .val (.int (2 : Int32)), .val (.ref ca), .val (.int (1 : Int32)), .val (.int (1 : Int32)), .val (.int (1 : Int32)), .val (.int (0 : Int32)), .val (.double t3), .second, .val (.int (0 : Int32)), .val (.int (1 : Int32))]) rfl ?_
  refine g_goto X9 hx (pc' := 47) (hb hby d2_77) (by decide) (by decide) ?_
  refine g_iload X9 hx (pc' := 49) rfl (hb hby d2_47) rfl ?_
  refine g_iload X9 hx (pc' := 51) rfl (hb hby d2_49) rfl ?_
  refine g_icmpY X9 hx (pcY := 80) (hb hby d2_51) (by decide) (by decide) (show ¬ (1 : Int32) < (1 : Int32) from by decide) ?_
  refine g_iincC X9 hx (pc' := 83) (x := (0 : Int32)) (z := (1 : Int32)) rfl (hb hby d2_80) rfl (by decide) (l' := #[.val (.ref ta), .val (.int (3 : Int32)), .val (.int (2 : Int32)), .val (.ref ca), .val (.int (1 : Int32)), .val (.int (1 : Int32)), .val (.int (1 : Int32)), .val (.int (1 : Int32)), .val (.double t3), .second, .val (.int (0 : Int32)), .val (.int (1 : Int32))]) rfl ?_
  refine g_goto X9 hx (pc' := 19) (hb hby d2_83) (by decide) (by decide) ?_
  refine g_iload X9 hx (pc' := 21) rfl (hb hby d2_19) rfl ?_
  refine g_iload X9 hx (pc' := 23) rfl (hb hby d2_21) rfl ?_
  refine g_icmpY X9 hx (pcY := 86) (hb hby d2_23) (by decide) (by decide) (show ¬ (1 : Int32) < (1 : Int32) from by decide) ?_
  refine g_iincC X9 hx (pc' := 89) (x := (1 : Int32)) (z := (2 : Int32)) rfl (hb hby d2_86) rfl (by decide) (l' := #[.val (.ref ta), .val (.int (3 : Int32)), .val (.int (2 : Int32)), .val (.ref ca), .val (.int (1 : Int32)), .val (.int (2 : Int32)), .val (.int (1 : Int32)), .val (.int (1 : Int32)), .val (.double t3), .second, .val (.int (0 : Int32)), .val (.int (1 : Int32))]) rfl ?_
  refine g_goto X9 hx (pc' := 3) (hb hby d2_89) (by decide) (by decide) ?_
  refine g_iload X9 hx (pc' := 5) rfl (hb hby d2_3) rfl ?_
  refine g_iloadN X9 hx (pc' := 6) rfl (hb hby d2_5) rfl ?_
  refine g_icmpY X9 hx (pcY := 92) (hb hby d2_6) (by decide) (by decide) (show ¬ (2 : Int32) < (2 : Int32) from by decide) ?_
  exact g_retV X9 hx hlk hret (hb hby d2_92) (by decide) (by decide) (⟨rfl, f12, d8, (show (mc1 - mt3 * mc0) = n8 by rw [en8, en7]) ▸ q8, V9⟩)
set_option maxRecDepth 65536 in
set_option maxHeartbeats 40000000 in
theorem rm2_2_1_4 (l : Launch) (Z : State) (a0 : Array Value) (hw : ∀ d ∈ tables_1, d.before a0 Z = true) (ws : List Jvm.Cond) (n0 : Nat) (ta ca : Addr) (t0 : UInt64) (t1 : UInt64) (t2 : UInt64) (t3 : UInt64) (t4 : UInt64) (t5 : UInt64) (t6 : UInt64) (t7 : UInt64) (t8 : UInt64) (t9 : UInt64) (t10 : UInt64) (t11 : UInt64) (mt4 : Int) (mt8 : Int) (mt9 : Int) (c0 : UInt64) (mc0 : Int) (c1 : UInt64) (mc1 : Int) (c2 : UInt64) (mc2 : Int) (c3 : UInt64) (mc3 : Int) (c4 : UInt64) (mc4 : Int) (c5 : UInt64) (mc5 : Int) (c6 : UInt64) (mc6 : Int) (c7 : UInt64) (mc7 : Int) (h0 : Heap) (hn0 : n0 ≤ h0.size) (At : AD Z h0 ta [t0, t1, t2, t3, t4, t5, t6, t7, t8, t9, t10, t11]) (Ac : AD Z h0 ca [c0, c1, c2, c3, c4, c5, c6, c7]) (hne : ta ≠ ca) (hg : n0 ≤ ca) (yc0 : Dy mc0 1074 c0) (bc0 : mc0.natAbs ≤ 8) (yc1 : Dy mc1 1074 c1) (bc1 : mc1.natAbs ≤ 8) (yc2 : Dy mc2 1074 c2) (bc2 : mc2.natAbs ≤ 8) (yc3 : Dy mc3 1074 c3) (bc3 : mc3.natAbs ≤ 8) (yc4 : Dy mc4 1074 c4) (bc4 : mc4.natAbs ≤ 8) (yc5 : Dy mc5 1074 c5) (bc5 : mc5.natAbs ≤ 8) (yc6 : Dy mc6 1074 c6) (bc6 : mc6.natAbs ≤ 8) (yc7 : Dy mc7 1074 c7) (bc7 : mc7.natAbs ≤ 8) (yt4 : Dy mt4 1074 t4) (bt4 : mt4.natAbs ≤ 8) (yt8 : Dy mt8 1074 t8) (bt8 : mt8.natAbs ≤ 8) (yt9 : Dy mt9 1074 t9) (bt9 : mt9.natAbs ≤ 8) :
    Con l Z n0 (⟨"com/example/orthogon/orthogon/Triangular", "solveUnitLower", "([DII[DI)V"⟩ : MethodName) prog_16_method_2_code 12 none ws ({ frames := 0, cells := 0, slots := 0, locals := 0 } : Room) #[(.ref ta), (.int (4 : Int32)), (.int (2 : Int32)), (.ref ca), (.int (1 : Int32))] h0 (fun v h => v = none ∧ Keep h0 h [ca] ∧ ∃ y1 : UInt64, Dy (mc1 - mt4 * mc0) 1074 y1 ∧ AD Z h ca [c0, y1, c2, c3, c4, c5, c6, c7]) := by
  refine con_start (plainFor_of_name (by first | (simp [plainName, overriddenIn]; done) | decide +kernel)) (fr0 := fun m => mkF m 0 #[.val (.ref ta), .val (.int (4 : Int32)), .val (.int (2 : Int32)), .val (.ref ca), .val (.int (1 : Int32)), .unset, .unset, .unset, .unset, .unset, .unset, .unset] []) (fun m => by first | (simp [entryFrame, mkF, argsToLocals, Value.category]; done) | rfl) ?_
  intro p e s m below meth c T0 hx hZ hby hml hown hnm hret hlk X0
  replace hown : s.vm.findClass "com/example/orthogon/orthogon/Triangular" = some m.cls := hown
  replace hml : c.maxLocals = 12 := hml
  refine g_iconst X0 hx (pc' := 1) (z := (1 : Int32)) rfl (hb hby d2_0) rfl ?_
  refine g_istore X0 hx (pc' := 3) rfl (hb hby d2_1) (l' := #[.val (.ref ta), .val (.int (4 : Int32)), .val (.int (2 : Int32)), .val (.ref ca), .val (.int (1 : Int32)), .val (.int (1 : Int32)), .unset, .unset, .unset, .unset, .unset, .unset]) rfl ?_
  refine g_iload X0 hx (pc' := 5) rfl (hb hby d2_3) rfl ?_
  refine g_iloadN X0 hx (pc' := 6) rfl (hb hby d2_5) rfl ?_
  refine g_icmpN X0 hx (pcN := 9) (hb hby d2_6) rfl (show ¬ (¬ (1 : Int32) < (2 : Int32)) from by decide) ?_
  refine g_iload X0 hx (pc' := 11) rfl (hb hby d2_9) rfl ?_
  refine g_iload X0 hx (pc' := 13) rfl (hb hby d2_11) rfl ?_
  refine g_imul X0 hx (pc' := 14) rfl (hb hby d2_13) ?_
  refine g_normI (z := (1 : Int32)) (by decide) ?_
  refine g_istore X0 hx (pc' := 16) rfl (hb hby d2_14) (l' := #[.val (.ref ta), .val (.int (4 : Int32)), .val (.int (2 : Int32)), .val (.ref ca), .val (.int (1 : Int32)), .val (.int (1 : Int32)), .val (.int (1 : Int32)), .unset, .unset, .unset, .unset, .unset]) rfl ?_
  refine g_iconst X0 hx (pc' := 17) (z := (0 : Int32)) rfl (hb hby d2_16) rfl ?_
  refine g_istore X0 hx (pc' := 19) rfl (hb hby d2_17) (l' := #[.val (.ref ta), .val (.int (4 : Int32)), .val (.int (2 : Int32)), .val (.ref ca), .val (.int (1 : Int32)), .val (.int (1 : Int32)), .val (.int (1 : Int32)), .val (.int (0 : Int32)), .unset, .unset, .unset, .unset]) rfl ?_
  refine g_iload X0 hx (pc' := 21) rfl (hb hby d2_19) rfl ?_
  refine g_iload X0 hx (pc' := 23) rfl (hb hby d2_21) rfl ?_
  refine g_icmpN X0 hx (pcN := 26) (hb hby d2_23) rfl (show ¬ (¬ (0 : Int32) < (1 : Int32)) from by decide) ?_
  refine g_aloadN X0 hx (pc' := 27) rfl (hb hby d2_26) rfl rfl ?_
  refine g_iload X0 hx (pc' := 29) rfl (hb hby d2_27) rfl ?_
  refine g_iloadN X0 hx (pc' := 30) rfl (hb hby d2_29) rfl ?_
  refine g_imul X0 hx (pc' := 31) rfl (hb hby d2_30) ?_
  refine g_normI (z := (4 : Int32)) (by decide) ?_
  refine g_iload X0 hx (pc' := 33) rfl (hb hby d2_31) rfl ?_
  refine g_iadd X0 hx (pc' := 34) rfl (hb hby d2_33) ?_
  refine g_normI (z := (4 : Int32)) (by decide) ?_
  refine g_daload X0 hx hZ At (i := 4) (by decide) (show (4 : Nat) < 12 by decide) (v := t4) rfl (pc' := 35) rfl (hb hby d2_34) ?_
  refine g_dstore X0 hx (pc' := 37) rfl (hb hby d2_35) (l' := #[.val (.ref ta), .val (.int (4 : Int32)), .val (.int (2 : Int32)), .val (.ref ca), .val (.int (1 : Int32)), .val (.int (1 : Int32)), .val (.int (1 : Int32)), .val (.int (0 : Int32)), .val (.double t4), .second, .unset, .unset]) rfl ?_
  refine g_iload X0 hx (pc' := 39) rfl (hb hby d2_37) rfl ?_
  refine g_iload X0 hx (pc' := 41) rfl (hb hby d2_39) rfl ?_
  refine g_imul X0 hx (pc' := 42) rfl (hb hby d2_41) ?_
  refine g_normI (z := (0 : Int32)) (by decide) ?_
  refine g_istore X0 hx (pc' := 44) rfl (hb hby d2_42) (l' := #[.val (.ref ta), .val (.int (4 : Int32)), .val (.int (2 : Int32)), .val (.ref ca), .val (.int (1 : Int32)), .val (.int (1 : Int32)), .val (.int (1 : Int32)), .val (.int (0 : Int32)), .val (.double t4), .second, .val (.int (0 : Int32)), .unset]) rfl ?_
  refine g_iconst X0 hx (pc' := 45) (z := (0 : Int32)) rfl (hb hby d2_44) rfl ?_
  refine g_istore X0 hx (pc' := 47) rfl (hb hby d2_45) (l' := #[.val (.ref ta), .val (.int (4 : Int32)), .val (.int (2 : Int32)), .val (.ref ca), .val (.int (1 : Int32)), .val (.int (1 : Int32)), .val (.int (1 : Int32)), .val (.int (0 : Int32)), .val (.double t4), .second, .val (.int (0 : Int32)), .val (.int (0 : Int32))]) rfl ?_
  refine g_iload X0 hx (pc' := 49) rfl (hb hby d2_47) rfl ?_
  refine g_iload X0 hx (pc' := 51) rfl (hb hby d2_49) rfl ?_
  refine g_icmpN X0 hx (pcN := 54) (hb hby d2_51) rfl (show ¬ (¬ (0 : Int32) < (1 : Int32)) from by decide) ?_
  refine g_aloadN X0 hx (pc' := 55) rfl (hb hby d2_54) rfl rfl ?_
  refine g_iload X0 hx (pc' := 57) rfl (hb hby d2_55) rfl ?_
  refine g_iload X0 hx (pc' := 59) rfl (hb hby d2_57) rfl ?_
  refine g_iadd X0 hx (pc' := 60) rfl (hb hby d2_59) ?_
  refine g_normI (z := (1 : Int32)) (by decide) ?_
  refine g_dup2 X0 hx (pc' := 61) rfl (hb hby d2_60) rfl rfl ?_
  refine g_daload X0 hx hZ Ac (i := 1) (by decide) (show (1 : Nat) < 8 by decide) (v := c1) rfl (pc' := 62) rfl (hb hby d2_61) ?_
  refine g_dload X0 hx (pc' := 64) rfl (hb hby d2_62) rfl ?_
  refine g_aloadN X0 hx (pc' := 65) rfl (hb hby d2_64) rfl rfl ?_
  refine g_iload X0 hx (pc' := 67) rfl (hb hby d2_65) rfl ?_
  refine g_iload X0 hx (pc' := 69) rfl (hb hby d2_67) rfl ?_
  refine g_iadd X0 hx (pc' := 70) rfl (hb hby d2_69) ?_
  refine g_normI (z := (0 : Int32)) (by decide) ?_
  refine g_daload X0 hx hZ Ac (i := 0) (by decide) (show (0 : Nat) < 8 by decide) (v := c0) rfl (pc' := 71) rfl (hb hby d2_70) ?_
  have q19 : Dy (mt4 * mc0) 1074 (FP.dmul t4 c0) := dy_mul yt4 yc0 (by decide) (own_mb bt4 bc0 (by decide)) (by decide)
  refine g_dmul X0 hx (pc' := 72) (z := (FP.dmul t4 c0)) rfl (hb hby d2_71) (dy_noNaN q19) rfl ?_
  refine g_absD (fun d19 hd19 => ?_)
  rw [← hd19] at q19
  obtain ⟨n19, en19⟩ : ∃ z : Int, z = mt4 * mc0 := ⟨_, rfl⟩
  rw [← en19] at q19
  have b19 : n19.natAbs ≤ 64 := by rw [en19, Int.natAbs_mul]; exact Nat.le_trans (Nat.mul_le_mul bt4 bc0) (by decide)
  have q20 : Dy (mc1 - n19) 1074 (FP.dsub c1 d19) := dy_sub yc1 q19 (own_subb bc1 b19 (by decide)) (by decide)
  refine g_dsub X0 hx (pc' := 73) (z := (FP.dsub c1 d19)) rfl (hb hby d2_72) (dy_noNaN q20) rfl ?_
  refine g_absD (fun d20 hd20 => ?_)
  rw [← hd20] at q20
  obtain ⟨n20, en20⟩ : ∃ z : Int, z = mc1 - n19 := ⟨_, rfl⟩
  rw [← en20] at q20
  have b20 : n20.natAbs ≤ 72 := by rw [en20]; exact Nat.le_trans (own_subl bc1 b19) (by decide)
  refine g_dastore X0 hx hZ Ac (i := 1) (by decide) (show (1 : Nat) < 8 by decide) hg (pc' := 74) rfl (hb hby d2_73) (fun T21 h21 X21 W21 N21 => ?_)
  have f22 := At.other W21 hne
  have f23 := (by have q := (Keep.of_wr W21).1; exact Nat.le_trans hn0 q : n0 ≤ h21.size)
  have f24 := (Keep.refl h0 [ca]).wr W21 (Or.inl (List.mem_of_getElem? (i := 0) rfl))
  have V21 : AD Z h21 ca [c0, d20, c2, c3, c4, c5, c6, c7] := N21
  refine g_iincC X21 hx (pc' := 77) (x := (0 : Int32)) (z := (1 : Int32)) rfl (hb hby d2_74) rfl (by decide) (l' := #[.val (.ref ta), .val (.int (4 : Int32)), .val (.int (2 : Int32)), .val (.ref ca), .val (.int (1 : Int32)), .val (.int (1 : Int32)), .val (.int (1 : Int32)), .val (.int (0 : Int32)), .val (.double t4), .second, .val (.int (0 : Int32)), .val (.int (1 : Int32))]) rfl ?_
  refine g_goto X21 hx (pc' := 47) (hb hby d2_77) (by decide) (by decide) ?_
  refine g_iload X21 hx (pc' := 49) rfl (hb hby d2_47) rfl ?_
  refine g_iload X21 hx (pc' := 51) rfl (hb hby d2_49) rfl ?_
  refine g_icmpY X21 hx (pcY := 80) (hb hby d2_51) (by decide) (by decide) (show ¬ (1 : Int32) < (1 : Int32) from by decide) ?_
  refine g_iincC X21 hx (pc' := 83) (x := (0 : Int32)) (z := (1 : Int32)) rfl (hb hby d2_80) rfl (by decide) (l' := #[.val (.ref ta), .val (.int (4 : Int32)), .val (.int (2 : Int32)), .val (.ref ca), .val (.int (1 : Int32)), .val (.int (1 : Int32)), .val (.int (1 : Int32)), .val (.int (1 : Int32)), .val (.double t4), .second, .val (.int (0 : Int32)), .val (.int (1 : Int32))]) rfl ?_
  refine g_goto X21 hx (pc' := 19) (hb hby d2_83) (by decide) (by decide) ?_
  refine g_iload X21 hx (pc' := 21) rfl (hb hby d2_19) rfl ?_
  refine g_iload X21 hx (pc' := 23) rfl (hb hby d2_21) rfl ?_
  refine g_icmpY X21 hx (pcY := 86) (hb hby d2_23) (by decide) (by decide) (show ¬ (1 : Int32) < (1 : Int32) from by decide) ?_
  refine g_iincC X21 hx (pc' := 89) (x := (1 : Int32)) (z := (2 : Int32)) rfl (hb hby d2_86) rfl (by decide) (l' := #[.val (.ref ta), .val (.int (4 : Int32)), .val (.int (2 : Int32)), .val (.ref ca), .val (.int (1 : Int32)), .val (.int (2 : Int32)), .val (.int (1 : Int32)), .val (.int (1 : Int32)), .val (.double t4), .second, .val (.int (0 : Int32)), .val (.int (1 : Int32))]) rfl ?_
  refine g_goto X21 hx (pc' := 3) (hb hby d2_89) (by decide) (by decide) ?_
  refine g_iload X21 hx (pc' := 5) rfl (hb hby d2_3) rfl ?_
  refine g_iloadN X21 hx (pc' := 6) rfl (hb hby d2_5) rfl ?_
  refine g_icmpY X21 hx (pcY := 92) (hb hby d2_6) (by decide) (by decide) (show ¬ (2 : Int32) < (2 : Int32) from by decide) ?_
  exact g_retV X21 hx hlk hret (hb hby d2_92) (by decide) (by decide) (⟨rfl, f24, d20, (show (mc1 - mt4 * mc0) = n20 by rw [en20, en19]) ▸ q20, V21⟩)
set_option maxRecDepth 65536 in
set_option maxHeartbeats 40000000 in
theorem rm2_2_2_3 (l : Launch) (Z : State) (a0 : Array Value) (hw : ∀ d ∈ tables_1, d.before a0 Z = true) (ws : List Jvm.Cond) (n0 : Nat) (ta ca : Addr) (t0 : UInt64) (t1 : UInt64) (t2 : UInt64) (t3 : UInt64) (t4 : UInt64) (t5 : UInt64) (t6 : UInt64) (t7 : UInt64) (t8 : UInt64) (t9 : UInt64) (t10 : UInt64) (t11 : UInt64) (mt3 : Int) (mt6 : Int) (mt7 : Int) (c0 : UInt64) (mc0 : Int) (c1 : UInt64) (mc1 : Int) (c2 : UInt64) (mc2 : Int) (c3 : UInt64) (mc3 : Int) (c4 : UInt64) (mc4 : Int) (c5 : UInt64) (mc5 : Int) (c6 : UInt64) (mc6 : Int) (c7 : UInt64) (mc7 : Int) (h0 : Heap) (hn0 : n0 ≤ h0.size) (At : AD Z h0 ta [t0, t1, t2, t3, t4, t5, t6, t7, t8, t9, t10, t11]) (Ac : AD Z h0 ca [c0, c1, c2, c3, c4, c5, c6, c7]) (hne : ta ≠ ca) (hg : n0 ≤ ca) (yc0 : Dy mc0 1074 c0) (bc0 : mc0.natAbs ≤ 8) (yc1 : Dy mc1 1074 c1) (bc1 : mc1.natAbs ≤ 8) (yc2 : Dy mc2 1074 c2) (bc2 : mc2.natAbs ≤ 8) (yc3 : Dy mc3 1074 c3) (bc3 : mc3.natAbs ≤ 8) (yc4 : Dy mc4 1074 c4) (bc4 : mc4.natAbs ≤ 8) (yc5 : Dy mc5 1074 c5) (bc5 : mc5.natAbs ≤ 8) (yc6 : Dy mc6 1074 c6) (bc6 : mc6.natAbs ≤ 8) (yc7 : Dy mc7 1074 c7) (bc7 : mc7.natAbs ≤ 8) (yt3 : Dy mt3 1074 t3) (bt3 : mt3.natAbs ≤ 8) (yt6 : Dy mt6 1074 t6) (bt6 : mt6.natAbs ≤ 8) (yt7 : Dy mt7 1074 t7) (bt7 : mt7.natAbs ≤ 8) :
    Con l Z n0 (⟨"com/example/orthogon/orthogon/Triangular", "solveUnitLower", "([DII[DI)V"⟩ : MethodName) prog_16_method_2_code 12 none ws ({ frames := 0, cells := 0, slots := 0, locals := 0 } : Room) #[(.ref ta), (.int (3 : Int32)), (.int (2 : Int32)), (.ref ca), (.int (2 : Int32))] h0 (fun v h => v = none ∧ Keep h0 h [ca] ∧ ∃ y2 : UInt64, Dy (mc2 - mt3 * mc0) 1074 y2 ∧ ∃ y3 : UInt64, Dy (mc3 - mt3 * mc1) 1074 y3 ∧ AD Z h ca [c0, c1, y2, y3, c4, c5, c6, c7]) := by
  refine con_start (plainFor_of_name (by first | (simp [plainName, overriddenIn]; done) | decide +kernel)) (fr0 := fun m => mkF m 0 #[.val (.ref ta), .val (.int (3 : Int32)), .val (.int (2 : Int32)), .val (.ref ca), .val (.int (2 : Int32)), .unset, .unset, .unset, .unset, .unset, .unset, .unset] []) (fun m => by first | (simp [entryFrame, mkF, argsToLocals, Value.category]; done) | rfl) ?_
  intro p e s m below meth c T0 hx hZ hby hml hown hnm hret hlk X0
  replace hown : s.vm.findClass "com/example/orthogon/orthogon/Triangular" = some m.cls := hown
  replace hml : c.maxLocals = 12 := hml
  refine g_iconst X0 hx (pc' := 1) (z := (1 : Int32)) rfl (hb hby d2_0) rfl ?_
  refine g_istore X0 hx (pc' := 3) rfl (hb hby d2_1) (l' := #[.val (.ref ta), .val (.int (3 : Int32)), .val (.int (2 : Int32)), .val (.ref ca), .val (.int (2 : Int32)), .val (.int (1 : Int32)), .unset, .unset, .unset, .unset, .unset, .unset]) rfl ?_
  refine g_iload X0 hx (pc' := 5) rfl (hb hby d2_3) rfl ?_
  refine g_iloadN X0 hx (pc' := 6) rfl (hb hby d2_5) rfl ?_
  refine g_icmpN X0 hx (pcN := 9) (hb hby d2_6) rfl (show ¬ (¬ (1 : Int32) < (2 : Int32)) from by decide) ?_
  refine g_iload X0 hx (pc' := 11) rfl (hb hby d2_9) rfl ?_
  refine g_iload X0 hx (pc' := 13) rfl (hb hby d2_11) rfl ?_
  refine g_imul X0 hx (pc' := 14) rfl (hb hby d2_13) ?_
  refine g_normI (z := (2 : Int32)) (by decide) ?_
  refine g_istore X0 hx (pc' := 16) rfl (hb hby d2_14) (l' := #[.val (.ref ta), .val (.int (3 : Int32)), .val (.int (2 : Int32)), .val (.ref ca), .val (.int (2 : Int32)), .val (.int (1 : Int32)), .val (.int (2 : Int32)), .unset, .unset, .unset, .unset, .unset]) rfl ?_
  refine g_iconst X0 hx (pc' := 17) (z := (0 : Int32)) rfl (hb hby d2_16) rfl ?_
  refine g_istore X0 hx (pc' := 19) rfl (hb hby d2_17) (l' := #[.val (.ref ta), .val (.int (3 : Int32)), .val (.int (2 : Int32)), .val (.ref ca), .val (.int (2 : Int32)), .val (.int (1 : Int32)), .val (.int (2 : Int32)), .val (.int (0 : Int32)), .unset, .unset, .unset, .unset]) rfl ?_
  refine g_iload X0 hx (pc' := 21) rfl (hb hby d2_19) rfl ?_
  refine g_iload X0 hx (pc' := 23) rfl (hb hby d2_21) rfl ?_
  refine g_icmpN X0 hx (pcN := 26) (hb hby d2_23) rfl (show ¬ (¬ (0 : Int32) < (1 : Int32)) from by decide) ?_
  refine g_aloadN X0 hx (pc' := 27) rfl (hb hby d2_26) rfl rfl ?_
  refine g_iload X0 hx (pc' := 29) rfl (hb hby d2_27) rfl ?_
  refine g_iloadN X0 hx (pc' := 30) rfl (hb hby d2_29) rfl ?_
  refine g_imul X0 hx (pc' := 31) rfl (hb hby d2_30) ?_
  refine g_normI (z := (3 : Int32)) (by decide) ?_
  refine g_iload X0 hx (pc' := 33) rfl (hb hby d2_31) rfl ?_
  refine g_iadd X0 hx (pc' := 34) rfl (hb hby d2_33) ?_
  refine g_normI (z := (3 : Int32)) (by decide) ?_
  refine g_daload X0 hx hZ At (i := 3) (by decide) (show (3 : Nat) < 12 by decide) (v := t3) rfl (pc' := 35) rfl (hb hby d2_34) ?_
  refine g_dstore X0 hx (pc' := 37) rfl (hb hby d2_35) (l' := #[.val (.ref ta), .val (.int (3 : Int32)), .val (.int (2 : Int32)), .val (.ref ca), .val (.int (2 : Int32)), .val (.int (1 : Int32)), .val (.int (2 : Int32)), .val (.int (0 : Int32)), .val (.double t3), .second, .unset, .unset]) rfl ?_
  refine g_iload X0 hx (pc' := 39) rfl (hb hby d2_37) rfl ?_
  refine g_iload X0 hx (pc' := 41) rfl (hb hby d2_39) rfl ?_
  refine g_imul X0 hx (pc' := 42) rfl (hb hby d2_41) ?_
  refine g_normI (z := (0 : Int32)) (by decide) ?_
  refine g_istore X0 hx (pc' := 44) rfl (hb hby d2_42) (l' := #[.val (.ref ta), .val (.int (3 : Int32)), .val (.int (2 : Int32)), .val (.ref ca), .val (.int (2 : Int32)), .val (.int (1 : Int32)), .val (.int (2 : Int32)), .val (.int (0 : Int32)), .val (.double t3), .second, .val (.int (0 : Int32)), .unset]) rfl ?_
  refine g_iconst X0 hx (pc' := 45) (z := (0 : Int32)) rfl (hb hby d2_44) rfl ?_
  refine g_istore X0 hx (pc' := 47) rfl (hb hby d2_45) (l' := #[.val (.ref ta), .val (.int (3 : Int32)), .val (.int (2 : Int32)), .val (.ref ca), .val (.int (2 : Int32)), .val (.int (1 : Int32)), .val (.int (2 : Int32)), .val (.int (0 : Int32)), .val (.double t3), .second, .val (.int (0 : Int32)), .val (.int (0 : Int32))]) rfl ?_
  refine g_iload X0 hx (pc' := 49) rfl (hb hby d2_47) rfl ?_
  refine g_iload X0 hx (pc' := 51) rfl (hb hby d2_49) rfl ?_
  refine g_icmpN X0 hx (pcN := 54) (hb hby d2_51) rfl (show ¬ (¬ (0 : Int32) < (2 : Int32)) from by decide) ?_
  refine g_aloadN X0 hx (pc' := 55) rfl (hb hby d2_54) rfl rfl ?_
  refine g_iload X0 hx (pc' := 57) rfl (hb hby d2_55) rfl ?_
  refine g_iload X0 hx (pc' := 59) rfl (hb hby d2_57) rfl ?_
  refine g_iadd X0 hx (pc' := 60) rfl (hb hby d2_59) ?_
  refine g_normI (z := (2 : Int32)) (by decide) ?_
  refine g_dup2 X0 hx (pc' := 61) rfl (hb hby d2_60) rfl rfl ?_
  refine g_daload X0 hx hZ Ac (i := 2) (by decide) (show (2 : Nat) < 8 by decide) (v := c2) rfl (pc' := 62) rfl (hb hby d2_61) ?_
  refine g_dload X0 hx (pc' := 64) rfl (hb hby d2_62) rfl ?_
  refine g_aloadN X0 hx (pc' := 65) rfl (hb hby d2_64) rfl rfl ?_
  refine g_iload X0 hx (pc' := 67) rfl (hb hby d2_65) rfl ?_
  refine g_iload X0 hx (pc' := 69) rfl (hb hby d2_67) rfl ?_
  refine g_iadd X0 hx (pc' := 70) rfl (hb hby d2_69) ?_
  refine g_normI (z := (0 : Int32)) (by decide) ?_
  refine g_daload X0 hx hZ Ac (i := 0) (by decide) (show (0 : Nat) < 8 by decide) (v := c0) rfl (pc' := 71) rfl (hb hby d2_70) ?_
  have q37 : Dy (mt3 * mc0) 1074 (FP.dmul t3 c0) := dy_mul yt3 yc0 (by decide) (own_mb bt3 bc0 (by decide)) (by decide)
  refine g_dmul X0 hx (pc' := 72) (z := (FP.dmul t3 c0)) rfl (hb hby d2_71) (dy_noNaN q37) rfl ?_
  refine g_absD (fun d37 hd37 => ?_)
  rw [← hd37] at q37
  obtain ⟨n37, en37⟩ : ∃ z : Int, z = mt3 * mc0 := ⟨_, rfl⟩
  rw [← en37] at q37
  have b37 : n37.natAbs ≤ 64 := by rw [en37, Int.natAbs_mul]; exact Nat.le_trans (Nat.mul_le_mul bt3 bc0) (by decide)
  have q38 : Dy (mc2 - n37) 1074 (FP.dsub c2 d37) := dy_sub yc2 q37 (own_subb bc2 b37 (by decide)) (by decide)
  refine g_dsub X0 hx (pc' := 73) (z := (FP.dsub c2 d37)) rfl (hb hby d2_72) (dy_noNaN q38) rfl ?_
  refine g_absD (fun d38 hd38 => ?_)
  rw [← hd38] at q38
  obtain ⟨n38, en38⟩ : ∃ z : Int, z = mc2 - n37 := ⟨_, rfl⟩
  rw [← en38] at q38
  have b38 : n38.natAbs ≤ 72 := by rw [en38]; exact Nat.le_trans (own_subl bc2 b37) (by decide)
  refine g_dastore X0 hx hZ Ac (i := 2) (by decide) (show (2 : Nat) < 8 by decide) hg (pc' := 74) rfl (hb hby d2_73) (fun T39 h39 X39 W39 N39 => ?_)
  have f40 := At.other W39 hne
  have f41 := (by have q := (Keep.of_wr W39).1; exact Nat.le_trans hn0 q : n0 ≤ h39.size)
  have f42 := (Keep.refl h0 [ca]).wr W39 (Or.inl (List.mem_of_getElem? (i := 0) rfl))
  have V39 : AD Z h39 ca [c0, c1, d38, c3, c4, c5, c6, c7] := N39
  refine g_iincC X39 hx (pc' := 77) (x := (0 : Int32)) (z := (1 : Int32)) rfl (hb hby d2_74) rfl (by decide) (l' := #[.val (.ref ta), .val (.int (3 : Int32)), .val (.int (2 : Int32)), .val (.ref ca), .val (.int (2 : Int32)), .val (.int (1 : Int32)), .val (.int (2 : Int32)), .val (.int (0 : Int32)), .val (.double t3), .second, .val (.int (0 : Int32)), .val (.int (1 : Int32))]) rfl ?_
  refine g_goto X39 hx (pc' := 47) (hb hby d2_77) (by decide) (by decide) ?_
  refine g_iload X39 hx (pc' := 49) rfl (hb hby d2_47) rfl ?_
  refine g_iload X39 hx (pc' := 51) rfl (hb hby d2_49) rfl ?_
  refine g_icmpN X39 hx (pcN := 54) (hb hby d2_51) rfl (show ¬ (¬ (1 : Int32) < (2 : Int32)) from by decide) ?_
  refine g_aloadN X39 hx (pc' := 55) rfl (hb hby d2_54) rfl rfl ?_
  refine g_iload X39 hx (pc' := 57) rfl (hb hby d2_55) rfl ?_
  refine g_iload X39 hx (pc' := 59) rfl (hb hby d2_57) rfl ?_
  refine g_iadd X39 hx (pc' := 60) rfl (hb hby d2_59) ?_
  refine g_normI (z := (3 : Int32)) (by decide) ?_
  refine g_dup2 X39 hx (pc' := 61) rfl (hb hby d2_60) rfl rfl ?_
  refine g_daload X39 hx hZ V39 (i := 3) (by decide) (show (3 : Nat) < 8 by decide) (v := c3) rfl (pc' := 62) rfl (hb hby d2_61) ?_
  refine g_dload X39 hx (pc' := 64) rfl (hb hby d2_62) rfl ?_
  refine g_aloadN X39 hx (pc' := 65) rfl (hb hby d2_64) rfl rfl ?_
  refine g_iload X39 hx (pc' := 67) rfl (hb hby d2_65) rfl ?_
  refine g_iload X39 hx (pc' := 69) rfl (hb hby d2_67) rfl ?_
  refine g_iadd X39 hx (pc' := 70) rfl (hb hby d2_69) ?_
  refine g_normI (z := (1 : Int32)) (by decide) ?_
  refine g_daload X39 hx hZ V39 (i := 1) (by decide) (show (1 : Nat) < 8 by decide) (v := c1) rfl (pc' := 71) rfl (hb hby d2_70) ?_
  have q43 : Dy (mt3 * mc1) 1074 (FP.dmul t3 c1) := dy_mul yt3 yc1 (by decide) (own_mb bt3 bc1 (by decide)) (by decide)
  refine g_dmul X39 hx (pc' := 72) (z := (FP.dmul t3 c1)) rfl (hb hby d2_71) (dy_noNaN q43) rfl ?_
  refine g_absD (fun d43 hd43 => ?_)
  rw [← hd43] at q43
  obtain ⟨n43, en43⟩ : ∃ z : Int, z = mt3 * mc1 := ⟨_, rfl⟩
  rw [← en43] at q43
  have b43 : n43.natAbs ≤ 64 := by rw [en43, Int.natAbs_mul]; exact Nat.le_trans (Nat.mul_le_mul bt3 bc1) (by decide)
  have q44 : Dy (mc3 - n43) 1074 (FP.dsub c3 d43) := dy_sub yc3 q43 (own_subb bc3 b43 (by decide)) (by decide)
  refine g_dsub X39 hx (pc' := 73) (z := (FP.dsub c3 d43)) rfl (hb hby d2_72) (dy_noNaN q44) rfl ?_
  refine g_absD (fun d44 hd44 => ?_)
  rw [← hd44] at q44
  obtain ⟨n44, en44⟩ : ∃ z : Int, z = mc3 - n43 := ⟨_, rfl⟩
  rw [← en44] at q44
  have b44 : n44.natAbs ≤ 72 := by rw [en44]; exact Nat.le_trans (own_subl bc3 b43) (by decide)
  refine g_dastore X39 hx hZ V39 (i := 3) (by decide) (show (3 : Nat) < 8 by decide) hg (pc' := 74) rfl (hb hby d2_73) (fun T45 h45 X45 W45 N45 => ?_)
  have f46 := f40.other W45 hne
  have f47 := (by have q := (Keep.of_wr W45).1; exact Nat.le_trans f41 q : n0 ≤ h45.size)
  have f48 := f42.wr W45 (Or.inl (List.mem_of_getElem? (i := 0) rfl))
  have V45 : AD Z h45 ca [c0, c1, d38, d44, c4, c5, c6, c7] := N45
  refine g_iincC X45 hx (pc' := 77) (x := (1 : Int32)) (z := (2 : Int32)) rfl (hb hby d2_74) rfl (by decide) (l' := #[.val (.ref ta), .val (.int (3 : Int32)), .val (.int (2 : Int32)), .val (.ref ca), .val (.int (2 : Int32)), .val (.int (1 : Int32)), .val (.int (2 : Int32)), .val (.int (0 : Int32)), .val (.double t3), .second, .val (.int (0 : Int32)), .val (.int (2 : Int32))]) rfl ?_
  refine g_goto X45 hx (pc' := 47) (hb hby d2_77) (by decide) (by decide) ?_
  refine g_iload X45 hx (pc' := 49) rfl (hb hby d2_47) rfl ?_
  refine g_iload X45 hx (pc' := 51) rfl (hb hby d2_49) rfl ?_
  refine g_icmpY X45 hx (pcY := 80) (hb hby d2_51) (by decide) (by decide) (show ¬ (2 : Int32) < (2 : Int32) from by decide) ?_
  refine g_iincC X45 hx (pc' := 83) (x := (0 : Int32)) (z := (1 : Int32)) rfl (hb hby d2_80) rfl (by decide) (l' := #[.val (.ref ta), .val (.int (3 : Int32)), .val (.int (2 : Int32)), .val (.ref ca), .val (.int (2 : Int32)), .val (.int (1 : Int32)), .val (.int (2 : Int32)), .val (.int (1 : Int32)), .val (.double t3), .second, .val (.int (0 : Int32)), .val (.int (2 : Int32))]) rfl ?_
  refine g_goto X45 hx (pc' := 19) (hb hby d2_83) (by decide) (by decide) ?_
  refine g_iload X45 hx (pc' := 21) rfl (hb hby d2_19) rfl ?_
  refine g_iload X45 hx (pc' := 23) rfl (hb hby d2_21) rfl ?_
  refine g_icmpY X45 hx (pcY := 86) (hb hby d2_23) (by decide) (by decide) (show ¬ (1 : Int32) < (1 : Int32) from by decide) ?_
  refine g_iincC X45 hx (pc' := 89) (x := (1 : Int32)) (z := (2 : Int32)) rfl (hb hby d2_86) rfl (by decide) (l' := #[.val (.ref ta), .val (.int (3 : Int32)), .val (.int (2 : Int32)), .val (.ref ca), .val (.int (2 : Int32)), .val (.int (2 : Int32)), .val (.int (2 : Int32)), .val (.int (1 : Int32)), .val (.double t3), .second, .val (.int (0 : Int32)), .val (.int (2 : Int32))]) rfl ?_
  refine g_goto X45 hx (pc' := 3) (hb hby d2_89) (by decide) (by decide) ?_
  refine g_iload X45 hx (pc' := 5) rfl (hb hby d2_3) rfl ?_
  refine g_iloadN X45 hx (pc' := 6) rfl (hb hby d2_5) rfl ?_
  refine g_icmpY X45 hx (pcY := 92) (hb hby d2_6) (by decide) (by decide) (show ¬ (2 : Int32) < (2 : Int32) from by decide) ?_
  exact g_retV X45 hx hlk hret (hb hby d2_92) (by decide) (by decide) (⟨rfl, f48, d38, (show (mc2 - mt3 * mc0) = n38 by rw [en38, en37]) ▸ q38, d44, (show (mc3 - mt3 * mc1) = n44 by rw [en44, en43]) ▸ q44, V45⟩)
set_option maxRecDepth 65536 in
set_option maxHeartbeats 40000000 in
theorem rm2_2_2_4 (l : Launch) (Z : State) (a0 : Array Value) (hw : ∀ d ∈ tables_1, d.before a0 Z = true) (ws : List Jvm.Cond) (n0 : Nat) (ta ca : Addr) (t0 : UInt64) (t1 : UInt64) (t2 : UInt64) (t3 : UInt64) (t4 : UInt64) (t5 : UInt64) (t6 : UInt64) (t7 : UInt64) (t8 : UInt64) (t9 : UInt64) (t10 : UInt64) (t11 : UInt64) (mt4 : Int) (mt8 : Int) (mt9 : Int) (c0 : UInt64) (mc0 : Int) (c1 : UInt64) (mc1 : Int) (c2 : UInt64) (mc2 : Int) (c3 : UInt64) (mc3 : Int) (c4 : UInt64) (mc4 : Int) (c5 : UInt64) (mc5 : Int) (c6 : UInt64) (mc6 : Int) (c7 : UInt64) (mc7 : Int) (h0 : Heap) (hn0 : n0 ≤ h0.size) (At : AD Z h0 ta [t0, t1, t2, t3, t4, t5, t6, t7, t8, t9, t10, t11]) (Ac : AD Z h0 ca [c0, c1, c2, c3, c4, c5, c6, c7]) (hne : ta ≠ ca) (hg : n0 ≤ ca) (yc0 : Dy mc0 1074 c0) (bc0 : mc0.natAbs ≤ 8) (yc1 : Dy mc1 1074 c1) (bc1 : mc1.natAbs ≤ 8) (yc2 : Dy mc2 1074 c2) (bc2 : mc2.natAbs ≤ 8) (yc3 : Dy mc3 1074 c3) (bc3 : mc3.natAbs ≤ 8) (yc4 : Dy mc4 1074 c4) (bc4 : mc4.natAbs ≤ 8) (yc5 : Dy mc5 1074 c5) (bc5 : mc5.natAbs ≤ 8) (yc6 : Dy mc6 1074 c6) (bc6 : mc6.natAbs ≤ 8) (yc7 : Dy mc7 1074 c7) (bc7 : mc7.natAbs ≤ 8) (yt4 : Dy mt4 1074 t4) (bt4 : mt4.natAbs ≤ 8) (yt8 : Dy mt8 1074 t8) (bt8 : mt8.natAbs ≤ 8) (yt9 : Dy mt9 1074 t9) (bt9 : mt9.natAbs ≤ 8) :
    Con l Z n0 (⟨"com/example/orthogon/orthogon/Triangular", "solveUnitLower", "([DII[DI)V"⟩ : MethodName) prog_16_method_2_code 12 none ws ({ frames := 0, cells := 0, slots := 0, locals := 0 } : Room) #[(.ref ta), (.int (4 : Int32)), (.int (2 : Int32)), (.ref ca), (.int (2 : Int32))] h0 (fun v h => v = none ∧ Keep h0 h [ca] ∧ ∃ y2 : UInt64, Dy (mc2 - mt4 * mc0) 1074 y2 ∧ ∃ y3 : UInt64, Dy (mc3 - mt4 * mc1) 1074 y3 ∧ AD Z h ca [c0, c1, y2, y3, c4, c5, c6, c7]) := by
  refine con_start (plainFor_of_name (by first | (simp [plainName, overriddenIn]; done) | decide +kernel)) (fr0 := fun m => mkF m 0 #[.val (.ref ta), .val (.int (4 : Int32)), .val (.int (2 : Int32)), .val (.ref ca), .val (.int (2 : Int32)), .unset, .unset, .unset, .unset, .unset, .unset, .unset] []) (fun m => by first | (simp [entryFrame, mkF, argsToLocals, Value.category]; done) | rfl) ?_
  intro p e s m below meth c T0 hx hZ hby hml hown hnm hret hlk X0
  replace hown : s.vm.findClass "com/example/orthogon/orthogon/Triangular" = some m.cls := hown
  replace hml : c.maxLocals = 12 := hml
  refine g_iconst X0 hx (pc' := 1) (z := (1 : Int32)) rfl (hb hby d2_0) rfl ?_
  refine g_istore X0 hx (pc' := 3) rfl (hb hby d2_1) (l' := #[.val (.ref ta), .val (.int (4 : Int32)), .val (.int (2 : Int32)), .val (.ref ca), .val (.int (2 : Int32)), .val (.int (1 : Int32)), .unset, .unset, .unset, .unset, .unset, .unset]) rfl ?_
  refine g_iload X0 hx (pc' := 5) rfl (hb hby d2_3) rfl ?_
  refine g_iloadN X0 hx (pc' := 6) rfl (hb hby d2_5) rfl ?_
  refine g_icmpN X0 hx (pcN := 9) (hb hby d2_6) rfl (show ¬ (¬ (1 : Int32) < (2 : Int32)) from by decide) ?_
  refine g_iload X0 hx (pc' := 11) rfl (hb hby d2_9) rfl ?_
  refine g_iload X0 hx (pc' := 13) rfl (hb hby d2_11) rfl ?_
  refine g_imul X0 hx (pc' := 14) rfl (hb hby d2_13) ?_
  refine g_normI (z := (2 : Int32)) (by decide) ?_
  refine g_istore X0 hx (pc' := 16) rfl (hb hby d2_14) (l' := #[.val (.ref ta), .val (.int (4 : Int32)), .val (.int (2 : Int32)), .val (.ref ca), .val (.int (2 : Int32)), .val (.int (1 : Int32)), .val (.int (2 : Int32)), .unset, .unset, .unset, .unset, .unset]) rfl ?_
  refine g_iconst X0 hx (pc' := 17) (z := (0 : Int32)) rfl (hb hby d2_16) rfl ?_
  refine g_istore X0 hx (pc' := 19) rfl (hb hby d2_17) (l' := #[.val (.ref ta), .val (.int (4 : Int32)), .val (.int (2 : Int32)), .val (.ref ca), .val (.int (2 : Int32)), .val (.int (1 : Int32)), .val (.int (2 : Int32)), .val (.int (0 : Int32)), .unset, .unset, .unset, .unset]) rfl ?_
  refine g_iload X0 hx (pc' := 21) rfl (hb hby d2_19) rfl ?_
  refine g_iload X0 hx (pc' := 23) rfl (hb hby d2_21) rfl ?_
  refine g_icmpN X0 hx (pcN := 26) (hb hby d2_23) rfl (show ¬ (¬ (0 : Int32) < (1 : Int32)) from by decide) ?_
  refine g_aloadN X0 hx (pc' := 27) rfl (hb hby d2_26) rfl rfl ?_
  refine g_iload X0 hx (pc' := 29) rfl (hb hby d2_27) rfl ?_
  refine g_iloadN X0 hx (pc' := 30) rfl (hb hby d2_29) rfl ?_
  refine g_imul X0 hx (pc' := 31) rfl (hb hby d2_30) ?_
  refine g_normI (z := (4 : Int32)) (by decide) ?_
  refine g_iload X0 hx (pc' := 33) rfl (hb hby d2_31) rfl ?_
  refine g_iadd X0 hx (pc' := 34) rfl (hb hby d2_33) ?_
  refine g_normI (z := (4 : Int32)) (by decide) ?_
  refine g_daload X0 hx hZ At (i := 4) (by decide) (show (4 : Nat) < 12 by decide) (v := t4) rfl (pc' := 35) rfl (hb hby d2_34) ?_
  refine g_dstore X0 hx (pc' := 37) rfl (hb hby d2_35) (l' := #[.val (.ref ta), .val (.int (4 : Int32)), .val (.int (2 : Int32)), .val (.ref ca), .val (.int (2 : Int32)), .val (.int (1 : Int32)), .val (.int (2 : Int32)), .val (.int (0 : Int32)), .val (.double t4), .second, .unset, .unset]) rfl ?_
  refine g_iload X0 hx (pc' := 39) rfl (hb hby d2_37) rfl ?_
  refine g_iload X0 hx (pc' := 41) rfl (hb hby d2_39) rfl ?_
  refine g_imul X0 hx (pc' := 42) rfl (hb hby d2_41) ?_
  refine g_normI (z := (0 : Int32)) (by decide) ?_
  refine g_istore X0 hx (pc' := 44) rfl (hb hby d2_42) (l' := #[.val (.ref ta), .val (.int (4 : Int32)), .val (.int (2 : Int32)), .val (.ref ca), .val (.int (2 : Int32)), .val (.int (1 : Int32)), .val (.int (2 : Int32)), .val (.int (0 : Int32)), .val (.double t4), .second, .val (.int (0 : Int32)), .unset]) rfl ?_
  refine g_iconst X0 hx (pc' := 45) (z := (0 : Int32)) rfl (hb hby d2_44) rfl ?_
  refine g_istore X0 hx (pc' := 47) rfl (hb hby d2_45) (l' := #[.val (.ref ta), .val (.int (4 : Int32)), .val (.int (2 : Int32)), .val (.ref ca), .val (.int (2 : Int32)), .val (.int (1 : Int32)), .val (.int (2 : Int32)), .val (.int (0 : Int32)), .val (.double t4), .second, .val (.int (0 : Int32)), .val (.int (0 : Int32))]) rfl ?_
  refine g_iload X0 hx (pc' := 49) rfl (hb hby d2_47) rfl ?_
  refine g_iload X0 hx (pc' := 51) rfl (hb hby d2_49) rfl ?_
  refine g_icmpN X0 hx (pcN := 54) (hb hby d2_51) rfl (show ¬ (¬ (0 : Int32) < (2 : Int32)) from by decide) ?_
  refine g_aloadN X0 hx (pc' := 55) rfl (hb hby d2_54) rfl rfl ?_
  refine g_iload X0 hx (pc' := 57) rfl (hb hby d2_55) rfl ?_
  refine g_iload X0 hx (pc' := 59) rfl (hb hby d2_57) rfl ?_
  refine g_iadd X0 hx (pc' := 60) rfl (hb hby d2_59) ?_
  refine g_normI (z := (2 : Int32)) (by decide) ?_
  refine g_dup2 X0 hx (pc' := 61) rfl (hb hby d2_60) rfl rfl ?_
  refine g_daload X0 hx hZ Ac (i := 2) (by decide) (show (2 : Nat) < 8 by decide) (v := c2) rfl (pc' := 62) rfl (hb hby d2_61) ?_
  refine g_dload X0 hx (pc' := 64) rfl (hb hby d2_62) rfl ?_
  refine g_aloadN X0 hx (pc' := 65) rfl (hb hby d2_64) rfl rfl ?_
  refine g_iload X0 hx (pc' := 67) rfl (hb hby d2_65) rfl ?_
  refine g_iload X0 hx (pc' := 69) rfl (hb hby d2_67) rfl ?_
  refine g_iadd X0 hx (pc' := 70) rfl (hb hby d2_69) ?_
  refine g_normI (z := (0 : Int32)) (by decide) ?_
  refine g_daload X0 hx hZ Ac (i := 0) (by decide) (show (0 : Nat) < 8 by decide) (v := c0) rfl (pc' := 71) rfl (hb hby d2_70) ?_
  have q61 : Dy (mt4 * mc0) 1074 (FP.dmul t4 c0) := dy_mul yt4 yc0 (by decide) (own_mb bt4 bc0 (by decide)) (by decide)
  refine g_dmul X0 hx (pc' := 72) (z := (FP.dmul t4 c0)) rfl (hb hby d2_71) (dy_noNaN q61) rfl ?_
  refine g_absD (fun d61 hd61 => ?_)
  rw [← hd61] at q61
  obtain ⟨n61, en61⟩ : ∃ z : Int, z = mt4 * mc0 := ⟨_, rfl⟩
  rw [← en61] at q61
  have b61 : n61.natAbs ≤ 64 := by rw [en61, Int.natAbs_mul]; exact Nat.le_trans (Nat.mul_le_mul bt4 bc0) (by decide)
  have q62 : Dy (mc2 - n61) 1074 (FP.dsub c2 d61) := dy_sub yc2 q61 (own_subb bc2 b61 (by decide)) (by decide)
  refine g_dsub X0 hx (pc' := 73) (z := (FP.dsub c2 d61)) rfl (hb hby d2_72) (dy_noNaN q62) rfl ?_
  refine g_absD (fun d62 hd62 => ?_)
  rw [← hd62] at q62
  obtain ⟨n62, en62⟩ : ∃ z : Int, z = mc2 - n61 := ⟨_, rfl⟩
  rw [← en62] at q62
  have b62 : n62.natAbs ≤ 72 := by rw [en62]; exact Nat.le_trans (own_subl bc2 b61) (by decide)
  refine g_dastore X0 hx hZ Ac (i := 2) (by decide) (show (2 : Nat) < 8 by decide) hg (pc' := 74) rfl (hb hby d2_73) (fun T63 h63 X63 W63 N63 => ?_)
  have f64 := At.other W63 hne
  have f65 := (by have q := (Keep.of_wr W63).1; exact Nat.le_trans hn0 q : n0 ≤ h63.size)
  have f66 := (Keep.refl h0 [ca]).wr W63 (Or.inl (List.mem_of_getElem? (i := 0) rfl))
  have V63 : AD Z h63 ca [c0, c1, d62, c3, c4, c5, c6, c7] := N63
  refine g_iincC X63 hx (pc' := 77) (x := (0 : Int32)) (z := (1 : Int32)) rfl (hb hby d2_74) rfl (by decide) (l' := #[.val (.ref ta), .val (.int (4 : Int32)), .val (.int (2 : Int32)), .val (.ref ca), .val (.int (2 : Int32)), .val (.int (1 : Int32)), .val (.int (2 : Int32)), .val (.int (0 : Int32)), .val (.double t4), .second, .val (.int (0 : Int32)), .val (.int (1 : Int32))]) rfl ?_
  refine g_goto X63 hx (pc' := 47) (hb hby d2_77) (by decide) (by decide) ?_
  refine g_iload X63 hx (pc' := 49) rfl (hb hby d2_47) rfl ?_
  refine g_iload X63 hx (pc' := 51) rfl (hb hby d2_49) rfl ?_
  refine g_icmpN X63 hx (pcN := 54) (hb hby d2_51) rfl (show ¬ (¬ (1 : Int32) < (2 : Int32)) from by decide) ?_
  refine g_aloadN X63 hx (pc' := 55) rfl (hb hby d2_54) rfl rfl ?_
  refine g_iload X63 hx (pc' := 57) rfl (hb hby d2_55) rfl ?_
  refine g_iload X63 hx (pc' := 59) rfl (hb hby d2_57) rfl ?_
  refine g_iadd X63 hx (pc' := 60) rfl (hb hby d2_59) ?_
  refine g_normI (z := (3 : Int32)) (by decide) ?_
  refine g_dup2 X63 hx (pc' := 61) rfl (hb hby d2_60) rfl rfl ?_
  refine g_daload X63 hx hZ V63 (i := 3) (by decide) (show (3 : Nat) < 8 by decide) (v := c3) rfl (pc' := 62) rfl (hb hby d2_61) ?_
  refine g_dload X63 hx (pc' := 64) rfl (hb hby d2_62) rfl ?_
  refine g_aloadN X63 hx (pc' := 65) rfl (hb hby d2_64) rfl rfl ?_
  refine g_iload X63 hx (pc' := 67) rfl (hb hby d2_65) rfl ?_
  refine g_iload X63 hx (pc' := 69) rfl (hb hby d2_67) rfl ?_
  refine g_iadd X63 hx (pc' := 70) rfl (hb hby d2_69) ?_
  refine g_normI (z := (1 : Int32)) (by decide) ?_
  refine g_daload X63 hx hZ V63 (i := 1) (by decide) (show (1 : Nat) < 8 by decide) (v := c1) rfl (pc' := 71) rfl (hb hby d2_70) ?_
  have q67 : Dy (mt4 * mc1) 1074 (FP.dmul t4 c1) := dy_mul yt4 yc1 (by decide) (own_mb bt4 bc1 (by decide)) (by decide)
  refine g_dmul X63 hx (pc' := 72) (z := (FP.dmul t4 c1)) rfl (hb hby d2_71) (dy_noNaN q67) rfl ?_
  refine g_absD (fun d67 hd67 => ?_)
  rw [← hd67] at q67
  obtain ⟨n67, en67⟩ : ∃ z : Int, z = mt4 * mc1 := ⟨_, rfl⟩
  rw [← en67] at q67
  have b67 : n67.natAbs ≤ 64 := by rw [en67, Int.natAbs_mul]; exact Nat.le_trans (Nat.mul_le_mul bt4 bc1) (by decide)
  have q68 : Dy (mc3 - n67) 1074 (FP.dsub c3 d67) := dy_sub yc3 q67 (own_subb bc3 b67 (by decide)) (by decide)
  refine g_dsub X63 hx (pc' := 73) (z := (FP.dsub c3 d67)) rfl (hb hby d2_72) (dy_noNaN q68) rfl ?_
  refine g_absD (fun d68 hd68 => ?_)
  rw [← hd68] at q68
  obtain ⟨n68, en68⟩ : ∃ z : Int, z = mc3 - n67 := ⟨_, rfl⟩
  rw [← en68] at q68
  have b68 : n68.natAbs ≤ 72 := by rw [en68]; exact Nat.le_trans (own_subl bc3 b67) (by decide)
  refine g_dastore X63 hx hZ V63 (i := 3) (by decide) (show (3 : Nat) < 8 by decide) hg (pc' := 74) rfl (hb hby d2_73) (fun T69 h69 X69 W69 N69 => ?_)
  have f70 := f64.other W69 hne
  have f71 := (by have q := (Keep.of_wr W69).1; exact Nat.le_trans f65 q : n0 ≤ h69.size)
  have f72 := f66.wr W69 (Or.inl (List.mem_of_getElem? (i := 0) rfl))
  have V69 : AD Z h69 ca [c0, c1, d62, d68, c4, c5, c6, c7] := N69
  refine g_iincC X69 hx (pc' := 77) (x := (1 : Int32)) (z := (2 : Int32)) rfl (hb hby d2_74) rfl (by decide) (l' := #[.val (.ref ta), .val (.int (4 : Int32)), .val (.int (2 : Int32)), .val (.ref ca), .val (.int (2 : Int32)), .val (.int (1 : Int32)), .val (.int (2 : Int32)), .val (.int (0 : Int32)), .val (.double t4), .second, .val (.int (0 : Int32)), .val (.int (2 : Int32))]) rfl ?_
  refine g_goto X69 hx (pc' := 47) (hb hby d2_77) (by decide) (by decide) ?_
  refine g_iload X69 hx (pc' := 49) rfl (hb hby d2_47) rfl ?_
  refine g_iload X69 hx (pc' := 51) rfl (hb hby d2_49) rfl ?_
  refine g_icmpY X69 hx (pcY := 80) (hb hby d2_51) (by decide) (by decide) (show ¬ (2 : Int32) < (2 : Int32) from by decide) ?_
  refine g_iincC X69 hx (pc' := 83) (x := (0 : Int32)) (z := (1 : Int32)) rfl (hb hby d2_80) rfl (by decide) (l' := #[.val (.ref ta), .val (.int (4 : Int32)), .val (.int (2 : Int32)), .val (.ref ca), .val (.int (2 : Int32)), .val (.int (1 : Int32)), .val (.int (2 : Int32)), .val (.int (1 : Int32)), .val (.double t4), .second, .val (.int (0 : Int32)), .val (.int (2 : Int32))]) rfl ?_
  refine g_goto X69 hx (pc' := 19) (hb hby d2_83) (by decide) (by decide) ?_
  refine g_iload X69 hx (pc' := 21) rfl (hb hby d2_19) rfl ?_
  refine g_iload X69 hx (pc' := 23) rfl (hb hby d2_21) rfl ?_
  refine g_icmpY X69 hx (pcY := 86) (hb hby d2_23) (by decide) (by decide) (show ¬ (1 : Int32) < (1 : Int32) from by decide) ?_
  refine g_iincC X69 hx (pc' := 89) (x := (1 : Int32)) (z := (2 : Int32)) rfl (hb hby d2_86) rfl (by decide) (l' := #[.val (.ref ta), .val (.int (4 : Int32)), .val (.int (2 : Int32)), .val (.ref ca), .val (.int (2 : Int32)), .val (.int (2 : Int32)), .val (.int (2 : Int32)), .val (.int (1 : Int32)), .val (.double t4), .second, .val (.int (0 : Int32)), .val (.int (2 : Int32))]) rfl ?_
  refine g_goto X69 hx (pc' := 3) (hb hby d2_89) (by decide) (by decide) ?_
  refine g_iload X69 hx (pc' := 5) rfl (hb hby d2_3) rfl ?_
  refine g_iloadN X69 hx (pc' := 6) rfl (hb hby d2_5) rfl ?_
  refine g_icmpY X69 hx (pcY := 92) (hb hby d2_6) (by decide) (by decide) (show ¬ (2 : Int32) < (2 : Int32) from by decide) ?_
  exact g_retV X69 hx hlk hret (hb hby d2_92) (by decide) (by decide) (⟨rfl, f72, d62, (show (mc2 - mt4 * mc0) = n62 by rw [en62, en61]) ▸ q62, d68, (show (mc3 - mt4 * mc1) = n68 by rw [en68, en67]) ▸ q68, V69⟩)
set_option maxRecDepth 65536 in
set_option maxHeartbeats 40000000 in
theorem rm2_3_1_3 (l : Launch) (Z : State) (a0 : Array Value) (hw : ∀ d ∈ tables_1, d.before a0 Z = true) (ws : List Jvm.Cond) (n0 : Nat) (ta ca : Addr) (t0 : UInt64) (t1 : UInt64) (t2 : UInt64) (t3 : UInt64) (t4 : UInt64) (t5 : UInt64) (t6 : UInt64) (t7 : UInt64) (t8 : UInt64) (t9 : UInt64) (t10 : UInt64) (t11 : UInt64) (mt3 : Int) (mt6 : Int) (mt7 : Int) (c0 : UInt64) (mc0 : Int) (c1 : UInt64) (mc1 : Int) (c2 : UInt64) (mc2 : Int) (c3 : UInt64) (mc3 : Int) (c4 : UInt64) (mc4 : Int) (c5 : UInt64) (mc5 : Int) (c6 : UInt64) (mc6 : Int) (c7 : UInt64) (mc7 : Int) (h0 : Heap) (hn0 : n0 ≤ h0.size) (At : AD Z h0 ta [t0, t1, t2, t3, t4, t5, t6, t7, t8, t9, t10, t11]) (Ac : AD Z h0 ca [c0, c1, c2, c3, c4, c5, c6, c7]) (hne : ta ≠ ca) (hg : n0 ≤ ca) (yc0 : Dy mc0 1074 c0) (bc0 : mc0.natAbs ≤ 8) (yc1 : Dy mc1 1074 c1) (bc1 : mc1.natAbs ≤ 8) (yc2 : Dy mc2 1074 c2) (bc2 : mc2.natAbs ≤ 8) (yc3 : Dy mc3 1074 c3) (bc3 : mc3.natAbs ≤ 8) (yc4 : Dy mc4 1074 c4) (bc4 : mc4.natAbs ≤ 8) (yc5 : Dy mc5 1074 c5) (bc5 : mc5.natAbs ≤ 8) (yc6 : Dy mc6 1074 c6) (bc6 : mc6.natAbs ≤ 8) (yc7 : Dy mc7 1074 c7) (bc7 : mc7.natAbs ≤ 8) (yt3 : Dy mt3 1074 t3) (bt3 : mt3.natAbs ≤ 8) (yt6 : Dy mt6 1074 t6) (bt6 : mt6.natAbs ≤ 8) (yt7 : Dy mt7 1074 t7) (bt7 : mt7.natAbs ≤ 8) :
    Con l Z n0 (⟨"com/example/orthogon/orthogon/Triangular", "solveUnitLower", "([DII[DI)V"⟩ : MethodName) prog_16_method_2_code 12 none ws ({ frames := 0, cells := 0, slots := 0, locals := 0 } : Room) #[(.ref ta), (.int (3 : Int32)), (.int (3 : Int32)), (.ref ca), (.int (1 : Int32))] h0 (fun v h => v = none ∧ Keep h0 h [ca] ∧ ∃ y1 : UInt64, Dy (mc1 - mt3 * mc0) 1074 y1 ∧ ∃ y2 : UInt64, Dy (mc2 - mt6 * mc0 - mt7 * (mc1 - mt3 * mc0)) 1074 y2 ∧ AD Z h ca [c0, y1, y2, c3, c4, c5, c6, c7]) := by
  refine con_start (plainFor_of_name (by first | (simp [plainName, overriddenIn]; done) | decide +kernel)) (fr0 := fun m => mkF m 0 #[.val (.ref ta), .val (.int (3 : Int32)), .val (.int (3 : Int32)), .val (.ref ca), .val (.int (1 : Int32)), .unset, .unset, .unset, .unset, .unset, .unset, .unset] []) (fun m => by first | (simp [entryFrame, mkF, argsToLocals, Value.category]; done) | rfl) ?_
  intro p e s m below meth c T0 hx hZ hby hml hown hnm hret hlk X0
  replace hown : s.vm.findClass "com/example/orthogon/orthogon/Triangular" = some m.cls := hown
  replace hml : c.maxLocals = 12 := hml
  refine g_iconst X0 hx (pc' := 1) (z := (1 : Int32)) rfl (hb hby d2_0) rfl ?_
  refine g_istore X0 hx (pc' := 3) rfl (hb hby d2_1) (l' := #[.val (.ref ta), .val (.int (3 : Int32)), .val (.int (3 : Int32)), .val (.ref ca), .val (.int (1 : Int32)), .val (.int (1 : Int32)), .unset, .unset, .unset, .unset, .unset, .unset]) rfl ?_
  refine g_iload X0 hx (pc' := 5) rfl (hb hby d2_3) rfl ?_
  refine g_iloadN X0 hx (pc' := 6) rfl (hb hby d2_5) rfl ?_
  refine g_icmpN X0 hx (pcN := 9) (hb hby d2_6) rfl (show ¬ (¬ (1 : Int32) < (3 : Int32)) from by decide) ?_
  refine g_iload X0 hx (pc' := 11) rfl (hb hby d2_9) rfl ?_
  refine g_iload X0 hx (pc' := 13) rfl (hb hby d2_11) rfl ?_
  refine g_imul X0 hx (pc' := 14) rfl (hb hby d2_13) ?_
  refine g_normI (z := (1 : Int32)) (by decide) ?_
  refine g_istore X0 hx (pc' := 16) rfl (hb hby d2_14) (l' := #[.val (.ref ta), .val (.int (3 : Int32)), .val (.int (3 : Int32)), .val (.ref ca), .val (.int (1 : Int32)), .val (.int (1 : Int32)), .val (.int (1 : Int32)), .unset, .unset, .unset, .unset, .unset]) rfl ?_
  refine g_iconst X0 hx (pc' := 17) (z := (0 : Int32)) rfl (hb hby d2_16) rfl ?_
  refine g_istore X0 hx (pc' := 19) rfl (hb hby d2_17) (l' := #[.val (.ref ta), .val (.int (3 : Int32)), .val (.int (3 : Int32)), .val (.ref ca), .val (.int (1 : Int32)), .val (.int (1 : Int32)), .val (.int (1 : Int32)), .val (.int (0 : Int32)), .unset, .unset, .unset, .unset]) rfl ?_
  refine g_iload X0 hx (pc' := 21) rfl (hb hby d2_19) rfl ?_
  refine g_iload X0 hx (pc' := 23) rfl (hb hby d2_21) rfl ?_
  refine g_icmpN X0 hx (pcN := 26) (hb hby d2_23) rfl (show ¬ (¬ (0 : Int32) < (1 : Int32)) from by decide) ?_
  refine g_aloadN X0 hx (pc' := 27) rfl (hb hby d2_26) rfl rfl ?_
  refine g_iload X0 hx (pc' := 29) rfl (hb hby d2_27) rfl ?_
  refine g_iloadN X0 hx (pc' := 30) rfl (hb hby d2_29) rfl ?_
  refine g_imul X0 hx (pc' := 31) rfl (hb hby d2_30) ?_
  refine g_normI (z := (3 : Int32)) (by decide) ?_
  refine g_iload X0 hx (pc' := 33) rfl (hb hby d2_31) rfl ?_
  refine g_iadd X0 hx (pc' := 34) rfl (hb hby d2_33) ?_
  refine g_normI (z := (3 : Int32)) (by decide) ?_
  refine g_daload X0 hx hZ At (i := 3) (by decide) (show (3 : Nat) < 12 by decide) (v := t3) rfl (pc' := 35) rfl (hb hby d2_34) ?_
  refine g_dstore X0 hx (pc' := 37) rfl (hb hby d2_35) (l' := #[.val (.ref ta), .val (.int (3 : Int32)), .val (.int (3 : Int32)), .val (.ref ca), .val (.int (1 : Int32)), .val (.int (1 : Int32)), .val (.int (1 : Int32)), .val (.int (0 : Int32)), .val (.double t3), .second, .unset, .unset]) rfl ?_
  refine g_iload X0 hx (pc' := 39) rfl (hb hby d2_37) rfl ?_
  refine g_iload X0 hx (pc' := 41) rfl (hb hby d2_39) rfl ?_
  refine g_imul X0 hx (pc' := 42) rfl (hb hby d2_41) ?_
  refine g_normI (z := (0 : Int32)) (by decide) ?_
  refine g_istore X0 hx (pc' := 44) rfl (hb hby d2_42) (l' := #[.val (.ref ta), .val (.int (3 : Int32)), .val (.int (3 : Int32)), .val (.ref ca), .val (.int (1 : Int32)), .val (.int (1 : Int32)), .val (.int (1 : Int32)), .val (.int (0 : Int32)), .val (.double t3), .second, .val (.int (0 : Int32)), .unset]) rfl ?_
  refine g_iconst X0 hx (pc' := 45) (z := (0 : Int32)) rfl (hb hby d2_44) rfl ?_
  refine g_istore X0 hx (pc' := 47) rfl (hb hby d2_45) (l' := #[.val (.ref ta), .val (.int (3 : Int32)), .val (.int (3 : Int32)), .val (.ref ca), .val (.int (1 : Int32)), .val (.int (1 : Int32)), .val (.int (1 : Int32)), .val (.int (0 : Int32)), .val (.double t3), .second, .val (.int (0 : Int32)), .val (.int (0 : Int32))]) rfl ?_
  refine g_iload X0 hx (pc' := 49) rfl (hb hby d2_47) rfl ?_
  refine g_iload X0 hx (pc' := 51) rfl (hb hby d2_49) rfl ?_
  refine g_icmpN X0 hx (pcN := 54) (hb hby d2_51) rfl (show ¬ (¬ (0 : Int32) < (1 : Int32)) from by decide) ?_
  refine g_aloadN X0 hx (pc' := 55) rfl (hb hby d2_54) rfl rfl ?_
  refine g_iload X0 hx (pc' := 57) rfl (hb hby d2_55) rfl ?_
  refine g_iload X0 hx (pc' := 59) rfl (hb hby d2_57) rfl ?_
  refine g_iadd X0 hx (pc' := 60) rfl (hb hby d2_59) ?_
  refine g_normI (z := (1 : Int32)) (by decide) ?_
  refine g_dup2 X0 hx (pc' := 61) rfl (hb hby d2_60) rfl rfl ?_
  refine g_daload X0 hx hZ Ac (i := 1) (by decide) (show (1 : Nat) < 8 by decide) (v := c1) rfl (pc' := 62) rfl (hb hby d2_61) ?_
  refine g_dload X0 hx (pc' := 64) rfl (hb hby d2_62) rfl ?_
  refine g_aloadN X0 hx (pc' := 65) rfl (hb hby d2_64) rfl rfl ?_
  refine g_iload X0 hx (pc' := 67) rfl (hb hby d2_65) rfl ?_
  refine g_iload X0 hx (pc' := 69) rfl (hb hby d2_67) rfl ?_
  refine g_iadd X0 hx (pc' := 70) rfl (hb hby d2_69) ?_
  refine g_normI (z := (0 : Int32)) (by decide) ?_
  refine g_daload X0 hx hZ Ac (i := 0) (by decide) (show (0 : Nat) < 8 by decide) (v := c0) rfl (pc' := 71) rfl (hb hby d2_70) ?_
  have q91 : Dy (mt3 * mc0) 1074 (FP.dmul t3 c0) := dy_mul yt3 yc0 (by decide) (own_mb bt3 bc0 (by decide)) (by decide)
  refine g_dmul X0 hx (pc' := 72) (z := (FP.dmul t3 c0)) rfl (hb hby d2_71) (dy_noNaN q91) rfl ?_
  refine g_absD (fun d91 hd91 => ?_)
  rw [← hd91] at q91
  obtain ⟨n91, en91⟩ : ∃ z : Int, z = mt3 * mc0 := ⟨_, rfl⟩
  rw [← en91] at q91
  have b91 : n91.natAbs ≤ 64 := by rw [en91, Int.natAbs_mul]; exact Nat.le_trans (Nat.mul_le_mul bt3 bc0) (by decide)
  have q92 : Dy (mc1 - n91) 1074 (FP.dsub c1 d91) := dy_sub yc1 q91 (own_subb bc1 b91 (by decide)) (by decide)
  refine g_dsub X0 hx (pc' := 73) (z := (FP.dsub c1 d91)) rfl (hb hby d2_72) (dy_noNaN q92) rfl ?_
  refine g_absD (fun d92 hd92 => ?_)
  rw [← hd92] at q92
  obtain ⟨n92, en92⟩ : ∃ z : Int, z = mc1 - n91 := ⟨_, rfl⟩
  rw [← en92] at q92
  have b92 : n92.natAbs ≤ 72 := by rw [en92]; exact Nat.le_trans (own_subl bc1 b91) (by decide)
  refine g_dastore X0 hx hZ Ac (i := 1) (by decide) (show (1 : Nat) < 8 by decide) hg (pc' := 74) rfl (hb hby d2_73) (fun T93 h93 X93 W93 N93 => ?_)
  have f94 := At.other W93 hne
  have f95 := (by have q := (Keep.of_wr W93).1; exact Nat.le_trans hn0 q : n0 ≤ h93.size)
  have f96 := (Keep.refl h0 [ca]).wr W93 (Or.inl (List.mem_of_getElem? (i := 0) rfl))
  have V93 : AD Z h93 ca [c0, d92, c2, c3, c4, c5, c6, c7] := N93
  refine g_iincC X93 hx (pc' := 77) (x := (0 : Int32)) (z := (1 : Int32)) rfl (hb hby d2_74) rfl (by decide) (l' := #[.val (.ref ta), .val (.int (3 : Int32)), .val (.int (3 : Int32)), .val (.ref ca), .val (.int (1 : Int32)), .val (.int (1 : Int32)), .val (.int (1 : Int32)), .val (.int (0 : Int32)), .val (.double t3), .second, .val (.int (0 : Int32)), .val (.int (1 : Int32))]) rfl ?_
  refine g_goto X93 hx (pc' := 47) (hb hby d2_77) (by decide) (by decide) ?_
  refine g_iload X93 hx (pc' := 49) rfl (hb hby d2_47) rfl ?_
  refine g_iload X93 hx (pc' := 51) rfl (hb hby d2_49) rfl ?_
  refine g_icmpY X93 hx (pcY := 80) (hb hby d2_51) (by decide) (by decide) (show ¬ (1 : Int32) < (1 : Int32) from by decide) ?_
  refine g_iincC X93 hx (pc' := 83) (x := (0 : Int32)) (z := (1 : Int32)) rfl (hb hby d2_80) rfl (by decide) (l' := #[.val (.ref ta), .val (.int (3 : Int32)), .val (.int (3 : Int32)), .val (.ref ca), .val (.int (1 : Int32)), .val (.int (1 : Int32)), .val (.int (1 : Int32)), .val (.int (1 : Int32)), .val (.double t3), .second, .val (.int (0 : Int32)), .val (.int (1 : Int32))]) rfl ?_
  refine g_goto X93 hx (pc' := 19) (hb hby d2_83) (by decide) (by decide) ?_
  refine g_iload X93 hx (pc' := 21) rfl (hb hby d2_19) rfl ?_
  refine g_iload X93 hx (pc' := 23) rfl (hb hby d2_21) rfl ?_
  refine g_icmpY X93 hx (pcY := 86) (hb hby d2_23) (by decide) (by decide) (show ¬ (1 : Int32) < (1 : Int32) from by decide) ?_
  refine g_iincC X93 hx (pc' := 89) (x := (1 : Int32)) (z := (2 : Int32)) rfl (hb hby d2_86) rfl (by decide) (l' := #[.val (.ref ta), .val (.int (3 : Int32)), .val (.int (3 : Int32)), .val (.ref ca), .val (.int (1 : Int32)), .val (.int (2 : Int32)), .val (.int (1 : Int32)), .val (.int (1 : Int32)), .val (.double t3), .second, .val (.int (0 : Int32)), .val (.int (1 : Int32))]) rfl ?_
  refine g_goto X93 hx (pc' := 3) (hb hby d2_89) (by decide) (by decide) ?_
  refine g_iload X93 hx (pc' := 5) rfl (hb hby d2_3) rfl ?_
  refine g_iloadN X93 hx (pc' := 6) rfl (hb hby d2_5) rfl ?_
  refine g_icmpN X93 hx (pcN := 9) (hb hby d2_6) rfl (show ¬ (¬ (2 : Int32) < (3 : Int32)) from by decide) ?_
  refine g_iload X93 hx (pc' := 11) rfl (hb hby d2_9) rfl ?_
  refine g_iload X93 hx (pc' := 13) rfl (hb hby d2_11) rfl ?_
  refine g_imul X93 hx (pc' := 14) rfl (hb hby d2_13) ?_
  refine g_normI (z := (2 : Int32)) (by decide) ?_
  refine g_istore X93 hx (pc' := 16) rfl (hb hby d2_14) (l' := #[.val (.ref ta), .val (.int (3 : Int32)), .val (.int (3 : Int32)), .val (.ref ca), .val (.int (1 : Int32)), .val (.int (2 : Int32)), .val (.int (2 : Int32)), .val (.int (1 : Int32)), .val (.double t3), .second, .val (.int (0 : Int32)), .val (.int (1 : Int32))]) rfl ?_
  refine g_iconst X93 hx (pc' := 17) (z := (0 : Int32)) rfl (hb hby d2_16) rfl ?_
  refine g_istore X93 hx (pc' := 19) rfl (hb hby d2_17) (l' := #[.val (.ref ta), .val (.int (3 : Int32)), .val (.int (3 : Int32)), .val (.ref ca), .val (.int (1 : Int32)), .val (.int (2 : Int32)), .val (.int (2 : Int32)), .val (.int (0 : Int32)), .val (.double t3), .second, .val (.int (0 : Int32)), .val (.int (1 : Int32))]) rfl ?_
  refine g_iload X93 hx (pc' := 21) rfl (hb hby d2_19) rfl ?_
  refine g_iload X93 hx (pc' := 23) rfl (hb hby d2_21) rfl ?_
  refine g_icmpN X93 hx (pcN := 26) (hb hby d2_23) rfl (show ¬ (¬ (0 : Int32) < (2 : Int32)) from by decide) ?_
  refine g_aloadN X93 hx (pc' := 27) rfl (hb hby d2_26) rfl rfl ?_
  refine g_iload X93 hx (pc' := 29) rfl (hb hby d2_27) rfl ?_
  refine g_iloadN X93 hx (pc' := 30) rfl (hb hby d2_29) rfl ?_
  refine g_imul X93 hx (pc' := 31) rfl (hb hby d2_30) ?_
  refine g_normI (z := (6 : Int32)) (by decide) ?_
  refine g_iload X93 hx (pc' := 33) rfl (hb hby d2_31) rfl ?_
  refine g_iadd X93 hx (pc' := 34) rfl (hb hby d2_33) ?_
  refine g_normI (z := (6 : Int32)) (by decide) ?_
  refine g_daload X93 hx hZ f94 (i := 6) (by decide) (show (6 : Nat) < 12 by decide) (v := t6) rfl (pc' := 35) rfl (hb hby d2_34) ?_
  refine g_dstore X93 hx (pc' := 37) rfl (hb hby d2_35) (l' := #[.val (.ref ta), .val (.int (3 : Int32)), .val (.int (3 : Int32)), .val (.ref ca), .val (.int (1 : Int32)), .val (.int (2 : Int32)), .val (.int (2 : Int32)), .val (.int (0 : Int32)), .val (.double t6), .second, .val (.int (0 : Int32)), .val (.int (1 : Int32))]) rfl ?_
  refine g_iload X93 hx (pc' := 39) rfl (hb hby d2_37) rfl ?_
  refine g_iload X93 hx (pc' := 41) rfl (hb hby d2_39) rfl ?_
  refine g_imul X93 hx (pc' := 42) rfl (hb hby d2_41) ?_
  refine g_normI (z := (0 : Int32)) (by decide) ?_
  refine g_istore X93 hx (pc' := 44) rfl (hb hby d2_42) (l' := #[.val (.ref ta), .val (.int (3 : Int32)), .val (.int (3 : Int32)), .val (.ref ca), .val (.int (1 : Int32)), .val (.int (2 : Int32)), .val (.int (2 : Int32)), .val (.int (0 : Int32)), .val (.double t6), .second, .val (.int (0 : Int32)), .val (.int (1 : Int32))]) rfl ?_
  refine g_iconst X93 hx (pc' := 45) (z := (0 : Int32)) rfl (hb hby d2_44) rfl ?_
  refine g_istore X93 hx (pc' := 47) rfl (hb hby d2_45) (l' := #[.val (.ref ta), .val (.int (3 : Int32)), .val (.int (3 : Int32)), .val (.ref ca), .val (.int (1 : Int32)), .val (.int (2 : Int32)), .val (.int (2 : Int32)), .val (.int (0 : Int32)), .val (.double t6), .second, .val (.int (0 : Int32)), .val (.int (0 : Int32))]) rfl ?_
  refine g_iload X93 hx (pc' := 49) rfl (hb hby d2_47) rfl ?_
  refine g_iload X93 hx (pc' := 51) rfl (hb hby d2_49) rfl ?_
  refine g_icmpN X93 hx (pcN := 54) (hb hby d2_51) rfl (show ¬ (¬ (0 : Int32) < (1 : Int32)) from by decide) ?_
  refine g_aloadN X93 hx (pc' := 55) rfl (hb hby d2_54) rfl rfl ?_
  refine g_iload X93 hx (pc' := 57) rfl (hb hby d2_55) rfl ?_
  refine g_iload X93 hx (pc' := 59) rfl (hb hby d2_57) rfl ?_
  refine g_iadd X93 hx (pc' := 60) rfl (hb hby d2_59) ?_
  refine g_normI (z := (2 : Int32)) (by decide) ?_
  refine g_dup2 X93 hx (pc' := 61) rfl (hb hby d2_60) rfl rfl ?_
  refine g_daload X93 hx hZ V93 (i := 2) (by decide) (show (2 : Nat) < 8 by decide) (v := c2) rfl (pc' := 62) rfl (hb hby d2_61) ?_
  refine g_dload X93 hx (pc' := 64) rfl (hb hby d2_62) rfl ?_
  refine g_aloadN X93 hx (pc' := 65) rfl (hb hby d2_64) rfl rfl ?_
  refine g_iload X93 hx (pc' := 67) rfl (hb hby d2_65) rfl ?_
  refine g_iload X93 hx (pc' := 69) rfl (hb hby d2_67) rfl ?_
  refine g_iadd X93 hx (pc' := 70) rfl (hb hby d2_69) ?_
  refine g_normI (z := (0 : Int32)) (by decide) ?_
  refine g_daload X93 hx hZ V93 (i := 0) (by decide) (show (0 : Nat) < 8 by decide) (v := c0) rfl (pc' := 71) rfl (hb hby d2_70) ?_
  have q97 : Dy (mt6 * mc0) 1074 (FP.dmul t6 c0) := dy_mul yt6 yc0 (by decide) (own_mb bt6 bc0 (by decide)) (by decide)
  refine g_dmul X93 hx (pc' := 72) (z := (FP.dmul t6 c0)) rfl (hb hby d2_71) (dy_noNaN q97) rfl ?_
  refine g_absD (fun d97 hd97 => ?_)
  rw [← hd97] at q97
  obtain ⟨n97, en97⟩ : ∃ z : Int, z = mt6 * mc0 := ⟨_, rfl⟩
  rw [← en97] at q97
  have b97 : n97.natAbs ≤ 64 := by rw [en97, Int.natAbs_mul]; exact Nat.le_trans (Nat.mul_le_mul bt6 bc0) (by decide)
  have q98 : Dy (mc2 - n97) 1074 (FP.dsub c2 d97) := dy_sub yc2 q97 (own_subb bc2 b97 (by decide)) (by decide)
  refine g_dsub X93 hx (pc' := 73) (z := (FP.dsub c2 d97)) rfl (hb hby d2_72) (dy_noNaN q98) rfl ?_
  refine g_absD (fun d98 hd98 => ?_)
  rw [← hd98] at q98
  obtain ⟨n98, en98⟩ : ∃ z : Int, z = mc2 - n97 := ⟨_, rfl⟩
  rw [← en98] at q98
  have b98 : n98.natAbs ≤ 72 := by rw [en98]; exact Nat.le_trans (own_subl bc2 b97) (by decide)
  refine g_dastore X93 hx hZ V93 (i := 2) (by decide) (show (2 : Nat) < 8 by decide) hg (pc' := 74) rfl (hb hby d2_73) (fun T99 h99 X99 W99 N99 => ?_)
  have f100 := f94.other W99 hne
  have f101 := (by have q := (Keep.of_wr W99).1; exact Nat.le_trans f95 q : n0 ≤ h99.size)
  have f102 := f96.wr W99 (Or.inl (List.mem_of_getElem? (i := 0) rfl))
  have V99 : AD Z h99 ca [c0, d92, d98, c3, c4, c5, c6, c7] := N99
  refine g_iincC X99 hx (pc' := 77) (x := (0 : Int32)) (z := (1 : Int32)) rfl (hb hby d2_74) rfl (by decide) (l' := #[.val (.ref ta), .val (.int (3 : Int32)), .val (.int (3 : Int32)), .val (.ref ca), .val (.int (1 : Int32)), .val (.int (2 : Int32)), .val (.int (2 : Int32)), .val (.int (0 : Int32)), .val (.double t6), .second, .val (.int (0 : Int32)), .val (.int (1 : Int32))]) rfl ?_
  refine g_goto X99 hx (pc' := 47) (hb hby d2_77) (by decide) (by decide) ?_
  refine g_iload X99 hx (pc' := 49) rfl (hb hby d2_47) rfl ?_
  refine g_iload X99 hx (pc' := 51) rfl (hb hby d2_49) rfl ?_
  refine g_icmpY X99 hx (pcY := 80) (hb hby d2_51) (by decide) (by decide) (show ¬ (1 : Int32) < (1 : Int32) from by decide) ?_
  refine g_iincC X99 hx (pc' := 83) (x := (0 : Int32)) (z := (1 : Int32)) rfl (hb hby d2_80) rfl (by decide) (l' := #[.val (.ref ta), .val (.int (3 : Int32)), .val (.int (3 : Int32)), .val (.ref ca), .val (.int (1 : Int32)), .val (.int (2 : Int32)), .val (.int (2 : Int32)), .val (.int (1 : Int32)), .val (.double t6), .second, .val (.int (0 : Int32)), .val (.int (1 : Int32))]) rfl ?_
  refine g_goto X99 hx (pc' := 19) (hb hby d2_83) (by decide) (by decide) ?_
  refine g_iload X99 hx (pc' := 21) rfl (hb hby d2_19) rfl ?_
  refine g_iload X99 hx (pc' := 23) rfl (hb hby d2_21) rfl ?_
  refine g_icmpN X99 hx (pcN := 26) (hb hby d2_23) rfl (show ¬ (¬ (1 : Int32) < (2 : Int32)) from by decide) ?_
  refine g_aloadN X99 hx (pc' := 27) rfl (hb hby d2_26) rfl rfl ?_
  refine g_iload X99 hx (pc' := 29) rfl (hb hby d2_27) rfl ?_
  refine g_iloadN X99 hx (pc' := 30) rfl (hb hby d2_29) rfl ?_
  refine g_imul X99 hx (pc' := 31) rfl (hb hby d2_30) ?_
  refine g_normI (z := (6 : Int32)) (by decide) ?_
  refine g_iload X99 hx (pc' := 33) rfl (hb hby d2_31) rfl ?_
  refine g_iadd X99 hx (pc' := 34) rfl (hb hby d2_33) ?_
  refine g_normI (z := (7 : Int32)) (by decide) ?_
  refine g_daload X99 hx hZ f100 (i := 7) (by decide) (show (7 : Nat) < 12 by decide) (v := t7) rfl (pc' := 35) rfl (hb hby d2_34) ?_
  refine g_dstore X99 hx (pc' := 37) rfl (hb hby d2_35) (l' := #[.val (.ref ta), .val (.int (3 : Int32)), .val (.int (3 : Int32)), .val (.ref ca), .val (.int (1 : Int32)), .val (.int (2 : Int32)), .val (.int (2 : Int32)), .val (.int (1 : Int32)), .val (.double t7), .second, .val (.int (0 : Int32)), .val (.int (1 : Int32))]) rfl ?_
  refine g_iload X99 hx (pc' := 39) rfl (hb hby d2_37) rfl ?_
  refine g_iload X99 hx (pc' := 41) rfl (hb hby d2_39) rfl ?_
  refine g_imul X99 hx (pc' := 42) rfl (hb hby d2_41) ?_
  refine g_normI (z := (1 : Int32)) (by decide) ?_
  refine g_istore X99 hx (pc' := 44) rfl (hb hby d2_42) (l' := #[.val (.ref ta), .val (.int (3 : Int32)), .val (.int (3 : Int32)), .val (.ref ca), .val (.int (1 : Int32)), .val (.int (2 : Int32)), .val (.int (2 : Int32)), .val (.int (1 : Int32)), .val (.double t7), .second, .val (.int (1 : Int32)), .val (.int (1 : Int32))]) rfl ?_
  refine g_iconst X99 hx (pc' := 45) (z := (0 : Int32)) rfl (hb hby d2_44) rfl ?_
  refine g_istore X99 hx (pc' := 47) rfl (hb hby d2_45) (l' := #[.val (.ref ta), .val (.int (3 : Int32)), .val (.int (3 : Int32)), .val (.ref ca), .val (.int (1 : Int32)), .val (.int (2 : Int32)), .val (.int (2 : Int32)), .val (.int (1 : Int32)), .val (.double t7), .second, .val (.int (1 : Int32)), .val (.int (0 : Int32))]) rfl ?_
  refine g_iload X99 hx (pc' := 49) rfl (hb hby d2_47) rfl ?_
  refine g_iload X99 hx (pc' := 51) rfl (hb hby d2_49) rfl ?_
  refine g_icmpN X99 hx (pcN := 54) (hb hby d2_51) rfl (show ¬ (¬ (0 : Int32) < (1 : Int32)) from by decide) ?_
  refine g_aloadN X99 hx (pc' := 55) rfl (hb hby d2_54) rfl rfl ?_
  refine g_iload X99 hx (pc' := 57) rfl (hb hby d2_55) rfl ?_
  refine g_iload X99 hx (pc' := 59) rfl (hb hby d2_57) rfl ?_
  refine g_iadd X99 hx (pc' := 60) rfl (hb hby d2_59) ?_
  refine g_normI (z := (2 : Int32)) (by decide) ?_
  refine g_dup2 X99 hx (pc' := 61) rfl (hb hby d2_60) rfl rfl ?_
  refine g_daload X99 hx hZ V99 (i := 2) (by decide) (show (2 : Nat) < 8 by decide) (v := d98) rfl (pc' := 62) rfl (hb hby d2_61) ?_
  refine g_dload X99 hx (pc' := 64) rfl (hb hby d2_62) rfl ?_
  refine g_aloadN X99 hx (pc' := 65) rfl (hb hby d2_64) rfl rfl ?_
  refine g_iload X99 hx (pc' := 67) rfl (hb hby d2_65) rfl ?_
  refine g_iload X99 hx (pc' := 69) rfl (hb hby d2_67) rfl ?_
  refine g_iadd X99 hx (pc' := 70) rfl (hb hby d2_69) ?_
  refine g_normI (z := (1 : Int32)) (by decide) ?_
  refine g_daload X99 hx hZ V99 (i := 1) (by decide) (show (1 : Nat) < 8 by decide) (v := d92) rfl (pc' := 71) rfl (hb hby d2_70) ?_
  have q103 : Dy (mt7 * n92) 1074 (FP.dmul t7 d92) := dy_mul yt7 q92 (by decide) (own_mb bt7 b92 (by decide)) (by decide)
  refine g_dmul X99 hx (pc' := 72) (z := (FP.dmul t7 d92)) rfl (hb hby d2_71) (dy_noNaN q103) rfl ?_
  refine g_absD (fun d103 hd103 => ?_)
  rw [← hd103] at q103
  obtain ⟨n103, en103⟩ : ∃ z : Int, z = mt7 * n92 := ⟨_, rfl⟩
  rw [← en103] at q103
  have b103 : n103.natAbs ≤ 576 := by rw [en103, Int.natAbs_mul]; exact Nat.le_trans (Nat.mul_le_mul bt7 b92) (by decide)
  have q104 : Dy (n98 - n103) 1074 (FP.dsub d98 d103) := dy_sub q98 q103 (own_subb b98 b103 (by decide)) (by decide)
  refine g_dsub X99 hx (pc' := 73) (z := (FP.dsub d98 d103)) rfl (hb hby d2_72) (dy_noNaN q104) rfl ?_
  refine g_absD (fun d104 hd104 => ?_)
  rw [← hd104] at q104
  obtain ⟨n104, en104⟩ : ∃ z : Int, z = n98 - n103 := ⟨_, rfl⟩
  rw [← en104] at q104
  have b104 : n104.natAbs ≤ 648 := by rw [en104]; exact Nat.le_trans (own_subl b98 b103) (by decide)
  refine g_dastore X99 hx hZ V99 (i := 2) (by decide) (show (2 : Nat) < 8 by decide) hg (pc' := 74) rfl (hb hby d2_73) (fun T105 h105 X105 W105 N105 => ?_)
  have f106 := f100.other W105 hne
  have f107 := (by have q := (Keep.of_wr W105).1; exact Nat.le_trans f101 q : n0 ≤ h105.size)
  have f108 := f102.wr W105 (Or.inl (List.mem_of_getElem? (i := 0) rfl))
  have V105 : AD Z h105 ca [c0, d92, d104, c3, c4, c5, c6, c7] := N105
  refine g_iincC X105 hx (pc' := 77) (x := (0 : Int32)) (z := (1 : Int32)) rfl (hb hby d2_74) rfl (by decide) (l' := #[.val (.ref ta), .val (.int (3 : Int32)), .val (.int (3 : Int32)), .val (.ref ca), .val (.int (1 : Int32)), .val (.int (2 : Int32)), .val (.int (2 : Int32)), .val (.int (1 : Int32)), .val (.double t7), .second, .val (.int (1 : Int32)), .val (.int (1 : Int32))]) rfl ?_
  refine g_goto X105 hx (pc' := 47) (hb hby d2_77) (by decide) (by decide) ?_
  refine g_iload X105 hx (pc' := 49) rfl (hb hby d2_47) rfl ?_
  refine g_iload X105 hx (pc' := 51) rfl (hb hby d2_49) rfl ?_
  refine g_icmpY X105 hx (pcY := 80) (hb hby d2_51) (by decide) (by decide) (show ¬ (1 : Int32) < (1 : Int32) from by decide) ?_
  refine g_iincC X105 hx (pc' := 83) (x := (1 : Int32)) (z := (2 : Int32)) rfl (hb hby d2_80) rfl (by decide) (l' := #[.val (.ref ta), .val (.int (3 : Int32)), .val (.int (3 : Int32)), .val (.ref ca), .val (.int (1 : Int32)), .val (.int (2 : Int32)), .val (.int (2 : Int32)), .val (.int (2 : Int32)), .val (.double t7), .second, .val (.int (1 : Int32)), .val (.int (1 : Int32))]) rfl ?_
  refine g_goto X105 hx (pc' := 19) (hb hby d2_83) (by decide) (by decide) ?_
  refine g_iload X105 hx (pc' := 21) rfl (hb hby d2_19) rfl ?_
  refine g_iload X105 hx (pc' := 23) rfl (hb hby d2_21) rfl ?_
  refine g_icmpY X105 hx (pcY := 86) (hb hby d2_23) (by decide) (by decide) (show ¬ (2 : Int32) < (2 : Int32) from by decide) ?_
  refine g_iincC X105 hx (pc' := 89) (x := (2 : Int32)) (z := (3 : Int32)) rfl (hb hby d2_86) rfl (by decide) (l' := #[.val (.ref ta), .val (.int (3 : Int32)), .val (.int (3 : Int32)), .val (.ref ca), .val (.int (1 : Int32)), .val (.int (3 : Int32)), .val (.int (2 : Int32)), .val (.int (2 : Int32)), .val (.double t7), .second, .val (.int (1 : Int32)), .val (.int (1 : Int32))]) rfl ?_
  refine g_goto X105 hx (pc' := 3) (hb hby d2_89) (by decide) (by decide) ?_
  refine g_iload X105 hx (pc' := 5) rfl (hb hby d2_3) rfl ?_
  refine g_iloadN X105 hx (pc' := 6) rfl (hb hby d2_5) rfl ?_
  refine g_icmpY X105 hx (pcY := 92) (hb hby d2_6) (by decide) (by decide) (show ¬ (3 : Int32) < (3 : Int32) from by decide) ?_
  exact g_retV X105 hx hlk hret (hb hby d2_92) (by decide) (by decide) (⟨rfl, f108, d92, (show (mc1 - mt3 * mc0) = n92 by rw [en92, en91]) ▸ q92, d104, (show (mc2 - mt6 * mc0 - mt7 * (mc1 - mt3 * mc0)) = n104 by rw [en104, en98, en97, en103, en92, en91]) ▸ q104, V105⟩)
set_option maxRecDepth 65536 in
set_option maxHeartbeats 40000000 in
theorem rm2_3_1_4 (l : Launch) (Z : State) (a0 : Array Value) (hw : ∀ d ∈ tables_1, d.before a0 Z = true) (ws : List Jvm.Cond) (n0 : Nat) (ta ca : Addr) (t0 : UInt64) (t1 : UInt64) (t2 : UInt64) (t3 : UInt64) (t4 : UInt64) (t5 : UInt64) (t6 : UInt64) (t7 : UInt64) (t8 : UInt64) (t9 : UInt64) (t10 : UInt64) (t11 : UInt64) (mt4 : Int) (mt8 : Int) (mt9 : Int) (c0 : UInt64) (mc0 : Int) (c1 : UInt64) (mc1 : Int) (c2 : UInt64) (mc2 : Int) (c3 : UInt64) (mc3 : Int) (c4 : UInt64) (mc4 : Int) (c5 : UInt64) (mc5 : Int) (c6 : UInt64) (mc6 : Int) (c7 : UInt64) (mc7 : Int) (h0 : Heap) (hn0 : n0 ≤ h0.size) (At : AD Z h0 ta [t0, t1, t2, t3, t4, t5, t6, t7, t8, t9, t10, t11]) (Ac : AD Z h0 ca [c0, c1, c2, c3, c4, c5, c6, c7]) (hne : ta ≠ ca) (hg : n0 ≤ ca) (yc0 : Dy mc0 1074 c0) (bc0 : mc0.natAbs ≤ 8) (yc1 : Dy mc1 1074 c1) (bc1 : mc1.natAbs ≤ 8) (yc2 : Dy mc2 1074 c2) (bc2 : mc2.natAbs ≤ 8) (yc3 : Dy mc3 1074 c3) (bc3 : mc3.natAbs ≤ 8) (yc4 : Dy mc4 1074 c4) (bc4 : mc4.natAbs ≤ 8) (yc5 : Dy mc5 1074 c5) (bc5 : mc5.natAbs ≤ 8) (yc6 : Dy mc6 1074 c6) (bc6 : mc6.natAbs ≤ 8) (yc7 : Dy mc7 1074 c7) (bc7 : mc7.natAbs ≤ 8) (yt4 : Dy mt4 1074 t4) (bt4 : mt4.natAbs ≤ 8) (yt8 : Dy mt8 1074 t8) (bt8 : mt8.natAbs ≤ 8) (yt9 : Dy mt9 1074 t9) (bt9 : mt9.natAbs ≤ 8) :
    Con l Z n0 (⟨"com/example/orthogon/orthogon/Triangular", "solveUnitLower", "([DII[DI)V"⟩ : MethodName) prog_16_method_2_code 12 none ws ({ frames := 0, cells := 0, slots := 0, locals := 0 } : Room) #[(.ref ta), (.int (4 : Int32)), (.int (3 : Int32)), (.ref ca), (.int (1 : Int32))] h0 (fun v h => v = none ∧ Keep h0 h [ca] ∧ ∃ y1 : UInt64, Dy (mc1 - mt4 * mc0) 1074 y1 ∧ ∃ y2 : UInt64, Dy (mc2 - mt8 * mc0 - mt9 * (mc1 - mt4 * mc0)) 1074 y2 ∧ AD Z h ca [c0, y1, y2, c3, c4, c5, c6, c7]) := by
  refine con_start (plainFor_of_name (by first | (simp [plainName, overriddenIn]; done) | decide +kernel)) (fr0 := fun m => mkF m 0 #[.val (.ref ta), .val (.int (4 : Int32)), .val (.int (3 : Int32)), .val (.ref ca), .val (.int (1 : Int32)), .unset, .unset, .unset, .unset, .unset, .unset, .unset] []) (fun m => by first | (simp [entryFrame, mkF, argsToLocals, Value.category]; done) | rfl) ?_
  intro p e s m below meth c T0 hx hZ hby hml hown hnm hret hlk X0
  replace hown : s.vm.findClass "com/example/orthogon/orthogon/Triangular" = some m.cls := hown
  replace hml : c.maxLocals = 12 := hml
  refine g_iconst X0 hx (pc' := 1) (z := (1 : Int32)) rfl (hb hby d2_0) rfl ?_
  refine g_istore X0 hx (pc' := 3) rfl (hb hby d2_1) (l' := #[.val (.ref ta), .val (.int (4 : Int32)), .val (.int (3 : Int32)), .val (.ref ca), .val (.int (1 : Int32)), .val (.int (1 : Int32)), .unset, .unset, .unset, .unset, .unset, .unset]) rfl ?_
  refine g_iload X0 hx (pc' := 5) rfl (hb hby d2_3) rfl ?_
  refine g_iloadN X0 hx (pc' := 6) rfl (hb hby d2_5) rfl ?_
  refine g_icmpN X0 hx (pcN := 9) (hb hby d2_6) rfl (show ¬ (¬ (1 : Int32) < (3 : Int32)) from by decide) ?_
  refine g_iload X0 hx (pc' := 11) rfl (hb hby d2_9) rfl ?_
  refine g_iload X0 hx (pc' := 13) rfl (hb hby d2_11) rfl ?_
  refine g_imul X0 hx (pc' := 14) rfl (hb hby d2_13) ?_
  refine g_normI (z := (1 : Int32)) (by decide) ?_
  refine g_istore X0 hx (pc' := 16) rfl (hb hby d2_14) (l' := #[.val (.ref ta), .val (.int (4 : Int32)), .val (.int (3 : Int32)), .val (.ref ca), .val (.int (1 : Int32)), .val (.int (1 : Int32)), .val (.int (1 : Int32)), .unset, .unset, .unset, .unset, .unset]) rfl ?_
  refine g_iconst X0 hx (pc' := 17) (z := (0 : Int32)) rfl (hb hby d2_16) rfl ?_
  refine g_istore X0 hx (pc' := 19) rfl (hb hby d2_17) (l' := #[.val (.ref ta), .val (.int (4 : Int32)), .val (.int (3 : Int32)), .val (.ref ca), .val (.int (1 : Int32)), .val (.int (1 : Int32)), .val (.int (1 : Int32)), .val (.int (0 : Int32)), .unset, .unset, .unset, .unset]) rfl ?_
  refine g_iload X0 hx (pc' := 21) rfl (hb hby d2_19) rfl ?_
  refine g_iload X0 hx (pc' := 23) rfl (hb hby d2_21) rfl ?_
  refine g_icmpN X0 hx (pcN := 26) (hb hby d2_23) rfl (show ¬ (¬ (0 : Int32) < (1 : Int32)) from by decide) ?_
  refine g_aloadN X0 hx (pc' := 27) rfl (hb hby d2_26) rfl rfl ?_
  refine g_iload X0 hx (pc' := 29) rfl (hb hby d2_27) rfl ?_
  refine g_iloadN X0 hx (pc' := 30) rfl (hb hby d2_29) rfl ?_
  refine g_imul X0 hx (pc' := 31) rfl (hb hby d2_30) ?_
  refine g_normI (z := (4 : Int32)) (by decide) ?_
  refine g_iload X0 hx (pc' := 33) rfl (hb hby d2_31) rfl ?_
  refine g_iadd X0 hx (pc' := 34) rfl (hb hby d2_33) ?_
  refine g_normI (z := (4 : Int32)) (by decide) ?_
  refine g_daload X0 hx hZ At (i := 4) (by decide) (show (4 : Nat) < 12 by decide) (v := t4) rfl (pc' := 35) rfl (hb hby d2_34) ?_
  refine g_dstore X0 hx (pc' := 37) rfl (hb hby d2_35) (l' := #[.val (.ref ta), .val (.int (4 : Int32)), .val (.int (3 : Int32)), .val (.ref ca), .val (.int (1 : Int32)), .val (.int (1 : Int32)), .val (.int (1 : Int32)), .val (.int (0 : Int32)), .val (.double t4), .second, .unset, .unset]) rfl ?_
  refine g_iload X0 hx (pc' := 39) rfl (hb hby d2_37) rfl ?_
  refine g_iload X0 hx (pc' := 41) rfl (hb hby d2_39) rfl ?_
  refine g_imul X0 hx (pc' := 42) rfl (hb hby d2_41) ?_
  refine g_normI (z := (0 : Int32)) (by decide) ?_
  refine g_istore X0 hx (pc' := 44) rfl (hb hby d2_42) (l' := #[.val (.ref ta), .val (.int (4 : Int32)), .val (.int (3 : Int32)), .val (.ref ca), .val (.int (1 : Int32)), .val (.int (1 : Int32)), .val (.int (1 : Int32)), .val (.int (0 : Int32)), .val (.double t4), .second, .val (.int (0 : Int32)), .unset]) rfl ?_
  refine g_iconst X0 hx (pc' := 45) (z := (0 : Int32)) rfl (hb hby d2_44) rfl ?_
  refine g_istore X0 hx (pc' := 47) rfl (hb hby d2_45) (l' := #[.val (.ref ta), .val (.int (4 : Int32)), .val (.int (3 : Int32)), .val (.ref ca), .val (.int (1 : Int32)), .val (.int (1 : Int32)), .val (.int (1 : Int32)), .val (.int (0 : Int32)), .val (.double t4), .second, .val (.int (0 : Int32)), .val (.int (0 : Int32))]) rfl ?_
  refine g_iload X0 hx (pc' := 49) rfl (hb hby d2_47) rfl ?_
  refine g_iload X0 hx (pc' := 51) rfl (hb hby d2_49) rfl ?_
  refine g_icmpN X0 hx (pcN := 54) (hb hby d2_51) rfl (show ¬ (¬ (0 : Int32) < (1 : Int32)) from by decide) ?_
  refine g_aloadN X0 hx (pc' := 55) rfl (hb hby d2_54) rfl rfl ?_
  refine g_iload X0 hx (pc' := 57) rfl (hb hby d2_55) rfl ?_
  refine g_iload X0 hx (pc' := 59) rfl (hb hby d2_57) rfl ?_
  refine g_iadd X0 hx (pc' := 60) rfl (hb hby d2_59) ?_
  refine g_normI (z := (1 : Int32)) (by decide) ?_
  refine g_dup2 X0 hx (pc' := 61) rfl (hb hby d2_60) rfl rfl ?_
  refine g_daload X0 hx hZ Ac (i := 1) (by decide) (show (1 : Nat) < 8 by decide) (v := c1) rfl (pc' := 62) rfl (hb hby d2_61) ?_
  refine g_dload X0 hx (pc' := 64) rfl (hb hby d2_62) rfl ?_
  refine g_aloadN X0 hx (pc' := 65) rfl (hb hby d2_64) rfl rfl ?_
  refine g_iload X0 hx (pc' := 67) rfl (hb hby d2_65) rfl ?_
  refine g_iload X0 hx (pc' := 69) rfl (hb hby d2_67) rfl ?_
  refine g_iadd X0 hx (pc' := 70) rfl (hb hby d2_69) ?_
  refine g_normI (z := (0 : Int32)) (by decide) ?_
  refine g_daload X0 hx hZ Ac (i := 0) (by decide) (show (0 : Nat) < 8 by decide) (v := c0) rfl (pc' := 71) rfl (hb hby d2_70) ?_
  have q127 : Dy (mt4 * mc0) 1074 (FP.dmul t4 c0) := dy_mul yt4 yc0 (by decide) (own_mb bt4 bc0 (by decide)) (by decide)
  refine g_dmul X0 hx (pc' := 72) (z := (FP.dmul t4 c0)) rfl (hb hby d2_71) (dy_noNaN q127) rfl ?_
  refine g_absD (fun d127 hd127 => ?_)
  rw [← hd127] at q127
  obtain ⟨n127, en127⟩ : ∃ z : Int, z = mt4 * mc0 := ⟨_, rfl⟩
  rw [← en127] at q127
  have b127 : n127.natAbs ≤ 64 := by rw [en127, Int.natAbs_mul]; exact Nat.le_trans (Nat.mul_le_mul bt4 bc0) (by decide)
  have q128 : Dy (mc1 - n127) 1074 (FP.dsub c1 d127) := dy_sub yc1 q127 (own_subb bc1 b127 (by decide)) (by decide)
  refine g_dsub X0 hx (pc' := 73) (z := (FP.dsub c1 d127)) rfl (hb hby d2_72) (dy_noNaN q128) rfl ?_
  refine g_absD (fun d128 hd128 => ?_)
  rw [← hd128] at q128
  obtain ⟨n128, en128⟩ : ∃ z : Int, z = mc1 - n127 := ⟨_, rfl⟩
  rw [← en128] at q128
  have b128 : n128.natAbs ≤ 72 := by rw [en128]; exact Nat.le_trans (own_subl bc1 b127) (by decide)
  refine g_dastore X0 hx hZ Ac (i := 1) (by decide) (show (1 : Nat) < 8 by decide) hg (pc' := 74) rfl (hb hby d2_73) (fun T129 h129 X129 W129 N129 => ?_)
  have f130 := At.other W129 hne
  have f131 := (by have q := (Keep.of_wr W129).1; exact Nat.le_trans hn0 q : n0 ≤ h129.size)
  have f132 := (Keep.refl h0 [ca]).wr W129 (Or.inl (List.mem_of_getElem? (i := 0) rfl))
  have V129 : AD Z h129 ca [c0, d128, c2, c3, c4, c5, c6, c7] := N129
  refine g_iincC X129 hx (pc' := 77) (x := (0 : Int32)) (z := (1 : Int32)) rfl (hb hby d2_74) rfl (by decide) (l' := #[.val (.ref ta), .val (.int (4 : Int32)), .val (.int (3 : Int32)), .val (.ref ca), .val (.int (1 : Int32)), .val (.int (1 : Int32)), .val (.int (1 : Int32)), .val (.int (0 : Int32)), .val (.double t4), .second, .val (.int (0 : Int32)), .val (.int (1 : Int32))]) rfl ?_
  refine g_goto X129 hx (pc' := 47) (hb hby d2_77) (by decide) (by decide) ?_
  refine g_iload X129 hx (pc' := 49) rfl (hb hby d2_47) rfl ?_
  refine g_iload X129 hx (pc' := 51) rfl (hb hby d2_49) rfl ?_
  refine g_icmpY X129 hx (pcY := 80) (hb hby d2_51) (by decide) (by decide) (show ¬ (1 : Int32) < (1 : Int32) from by decide) ?_
  refine g_iincC X129 hx (pc' := 83) (x := (0 : Int32)) (z := (1 : Int32)) rfl (hb hby d2_80) rfl (by decide) (l' := #[.val (.ref ta), .val (.int (4 : Int32)), .val (.int (3 : Int32)), .val (.ref ca), .val (.int (1 : Int32)), .val (.int (1 : Int32)), .val (.int (1 : Int32)), .val (.int (1 : Int32)), .val (.double t4), .second, .val (.int (0 : Int32)), .val (.int (1 : Int32))]) rfl ?_
  refine g_goto X129 hx (pc' := 19) (hb hby d2_83) (by decide) (by decide) ?_
  refine g_iload X129 hx (pc' := 21) rfl (hb hby d2_19) rfl ?_
  refine g_iload X129 hx (pc' := 23) rfl (hb hby d2_21) rfl ?_
  refine g_icmpY X129 hx (pcY := 86) (hb hby d2_23) (by decide) (by decide) (show ¬ (1 : Int32) < (1 : Int32) from by decide) ?_
  refine g_iincC X129 hx (pc' := 89) (x := (1 : Int32)) (z := (2 : Int32)) rfl (hb hby d2_86) rfl (by decide) (l' := #[.val (.ref ta), .val (.int (4 : Int32)), .val (.int (3 : Int32)), .val (.ref ca), .val (.int (1 : Int32)), .val (.int (2 : Int32)), .val (.int (1 : Int32)), .val (.int (1 : Int32)), .val (.double t4), .second, .val (.int (0 : Int32)), .val (.int (1 : Int32))]) rfl ?_
  refine g_goto X129 hx (pc' := 3) (hb hby d2_89) (by decide) (by decide) ?_
  refine g_iload X129 hx (pc' := 5) rfl (hb hby d2_3) rfl ?_
  refine g_iloadN X129 hx (pc' := 6) rfl (hb hby d2_5) rfl ?_
  refine g_icmpN X129 hx (pcN := 9) (hb hby d2_6) rfl (show ¬ (¬ (2 : Int32) < (3 : Int32)) from by decide) ?_
  refine g_iload X129 hx (pc' := 11) rfl (hb hby d2_9) rfl ?_
  refine g_iload X129 hx (pc' := 13) rfl (hb hby d2_11) rfl ?_
  refine g_imul X129 hx (pc' := 14) rfl (hb hby d2_13) ?_
  refine g_normI (z := (2 : Int32)) (by decide) ?_
  refine g_istore X129 hx (pc' := 16) rfl (hb hby d2_14) (l' := #[.val (.ref ta), .val (.int (4 : Int32)), .val (.int (3 : Int32)), .val (.ref ca), .val (.int (1 : Int32)), .val (.int (2 : Int32)), .val (.int (2 : Int32)), .val (.int (1 : Int32)), .val (.double t4), .second, .val (.int (0 : Int32)), .val (.int (1 : Int32))]) rfl ?_
  refine g_iconst X129 hx (pc' := 17) (z := (0 : Int32)) rfl (hb hby d2_16) rfl ?_
  refine g_istore X129 hx (pc' := 19) rfl (hb hby d2_17) (l' := #[.val (.ref ta), .val (.int (4 : Int32)), .val (.int (3 : Int32)), .val (.ref ca), .val (.int (1 : Int32)), .val (.int (2 : Int32)), .val (.int (2 : Int32)), .val (.int (0 : Int32)), .val (.double t4), .second, .val (.int (0 : Int32)), .val (.int (1 : Int32))]) rfl ?_
  refine g_iload X129 hx (pc' := 21) rfl (hb hby d2_19) rfl ?_
  refine g_iload X129 hx (pc' := 23) rfl (hb hby d2_21) rfl ?_
  refine g_icmpN X129 hx (pcN := 26) (hb hby d2_23) rfl (show ¬ (¬ (0 : Int32) < (2 : Int32)) from by decide) ?_
  refine g_aloadN X129 hx (pc' := 27) rfl (hb hby d2_26) rfl rfl ?_
  refine g_iload X129 hx (pc' := 29) rfl (hb hby d2_27) rfl ?_
  refine g_iloadN X129 hx (pc' := 30) rfl (hb hby d2_29) rfl ?_
  refine g_imul X129 hx (pc' := 31) rfl (hb hby d2_30) ?_
  refine g_normI (z := (8 : Int32)) (by decide) ?_
  refine g_iload X129 hx (pc' := 33) rfl (hb hby d2_31) rfl ?_
  refine g_iadd X129 hx (pc' := 34) rfl (hb hby d2_33) ?_
  refine g_normI (z := (8 : Int32)) (by decide) ?_
  refine g_daload X129 hx hZ f130 (i := 8) (by decide) (show (8 : Nat) < 12 by decide) (v := t8) rfl (pc' := 35) rfl (hb hby d2_34) ?_
  refine g_dstore X129 hx (pc' := 37) rfl (hb hby d2_35) (l' := #[.val (.ref ta), .val (.int (4 : Int32)), .val (.int (3 : Int32)), .val (.ref ca), .val (.int (1 : Int32)), .val (.int (2 : Int32)), .val (.int (2 : Int32)), .val (.int (0 : Int32)), .val (.double t8), .second, .val (.int (0 : Int32)), .val (.int (1 : Int32))]) rfl ?_
  refine g_iload X129 hx (pc' := 39) rfl (hb hby d2_37) rfl ?_
  refine g_iload X129 hx (pc' := 41) rfl (hb hby d2_39) rfl ?_
  refine g_imul X129 hx (pc' := 42) rfl (hb hby d2_41) ?_
  refine g_normI (z := (0 : Int32)) (by decide) ?_
  refine g_istore X129 hx (pc' := 44) rfl (hb hby d2_42) (l' := #[.val (.ref ta), .val (.int (4 : Int32)), .val (.int (3 : Int32)), .val (.ref ca), .val (.int (1 : Int32)), .val (.int (2 : Int32)), .val (.int (2 : Int32)), .val (.int (0 : Int32)), .val (.double t8), .second, .val (.int (0 : Int32)), .val (.int (1 : Int32))]) rfl ?_
  refine g_iconst X129 hx (pc' := 45) (z := (0 : Int32)) rfl (hb hby d2_44) rfl ?_
  refine g_istore X129 hx (pc' := 47) rfl (hb hby d2_45) (l' := #[.val (.ref ta), .val (.int (4 : Int32)), .val (.int (3 : Int32)), .val (.ref ca), .val (.int (1 : Int32)), .val (.int (2 : Int32)), .val (.int (2 : Int32)), .val (.int (0 : Int32)), .val (.double t8), .second, .val (.int (0 : Int32)), .val (.int (0 : Int32))]) rfl ?_
  refine g_iload X129 hx (pc' := 49) rfl (hb hby d2_47) rfl ?_
  refine g_iload X129 hx (pc' := 51) rfl (hb hby d2_49) rfl ?_
  refine g_icmpN X129 hx (pcN := 54) (hb hby d2_51) rfl (show ¬ (¬ (0 : Int32) < (1 : Int32)) from by decide) ?_
  refine g_aloadN X129 hx (pc' := 55) rfl (hb hby d2_54) rfl rfl ?_
  refine g_iload X129 hx (pc' := 57) rfl (hb hby d2_55) rfl ?_
  refine g_iload X129 hx (pc' := 59) rfl (hb hby d2_57) rfl ?_
  refine g_iadd X129 hx (pc' := 60) rfl (hb hby d2_59) ?_
  refine g_normI (z := (2 : Int32)) (by decide) ?_
  refine g_dup2 X129 hx (pc' := 61) rfl (hb hby d2_60) rfl rfl ?_
  refine g_daload X129 hx hZ V129 (i := 2) (by decide) (show (2 : Nat) < 8 by decide) (v := c2) rfl (pc' := 62) rfl (hb hby d2_61) ?_
  refine g_dload X129 hx (pc' := 64) rfl (hb hby d2_62) rfl ?_
  refine g_aloadN X129 hx (pc' := 65) rfl (hb hby d2_64) rfl rfl ?_
  refine g_iload X129 hx (pc' := 67) rfl (hb hby d2_65) rfl ?_
  refine g_iload X129 hx (pc' := 69) rfl (hb hby d2_67) rfl ?_
  refine g_iadd X129 hx (pc' := 70) rfl (hb hby d2_69) ?_
  refine g_normI (z := (0 : Int32)) (by decide) ?_
  refine g_daload X129 hx hZ V129 (i := 0) (by decide) (show (0 : Nat) < 8 by decide) (v := c0) rfl (pc' := 71) rfl (hb hby d2_70) ?_
  have q133 : Dy (mt8 * mc0) 1074 (FP.dmul t8 c0) := dy_mul yt8 yc0 (by decide) (own_mb bt8 bc0 (by decide)) (by decide)
  refine g_dmul X129 hx (pc' := 72) (z := (FP.dmul t8 c0)) rfl (hb hby d2_71) (dy_noNaN q133) rfl ?_
  refine g_absD (fun d133 hd133 => ?_)
  rw [← hd133] at q133
  obtain ⟨n133, en133⟩ : ∃ z : Int, z = mt8 * mc0 := ⟨_, rfl⟩
  rw [← en133] at q133
  have b133 : n133.natAbs ≤ 64 := by rw [en133, Int.natAbs_mul]; exact Nat.le_trans (Nat.mul_le_mul bt8 bc0) (by decide)
  have q134 : Dy (mc2 - n133) 1074 (FP.dsub c2 d133) := dy_sub yc2 q133 (own_subb bc2 b133 (by decide)) (by decide)
  refine g_dsub X129 hx (pc' := 73) (z := (FP.dsub c2 d133)) rfl (hb hby d2_72) (dy_noNaN q134) rfl ?_
  refine g_absD (fun d134 hd134 => ?_)
  rw [← hd134] at q134
  obtain ⟨n134, en134⟩ : ∃ z : Int, z = mc2 - n133 := ⟨_, rfl⟩
  rw [← en134] at q134
  have b134 : n134.natAbs ≤ 72 := by rw [en134]; exact Nat.le_trans (own_subl bc2 b133) (by decide)
  refine g_dastore X129 hx hZ V129 (i := 2) (by decide) (show (2 : Nat) < 8 by decide) hg (pc' := 74) rfl (hb hby d2_73) (fun T135 h135 X135 W135 N135 => ?_)
  have f136 := f130.other W135 hne
  have f137 := (by have q := (Keep.of_wr W135).1; exact Nat.le_trans f131 q : n0 ≤ h135.size)
  have f138 := f132.wr W135 (Or.inl (List.mem_of_getElem? (i := 0) rfl))
  have V135 : AD Z h135 ca [c0, d128, d134, c3, c4, c5, c6, c7] := N135
  refine g_iincC X135 hx (pc' := 77) (x := (0 : Int32)) (z := (1 : Int32)) rfl (hb hby d2_74) rfl (by decide) (l' := #[.val (.ref ta), .val (.int (4 : Int32)), .val (.int (3 : Int32)), .val (.ref ca), .val (.int (1 : Int32)), .val (.int (2 : Int32)), .val (.int (2 : Int32)), .val (.int (0 : Int32)), .val (.double t8), .second, .val (.int (0 : Int32)), .val (.int (1 : Int32))]) rfl ?_
  refine g_goto X135 hx (pc' := 47) (hb hby d2_77) (by decide) (by decide) ?_
  refine g_iload X135 hx (pc' := 49) rfl (hb hby d2_47) rfl ?_
  refine g_iload X135 hx (pc' := 51) rfl (hb hby d2_49) rfl ?_
  refine g_icmpY X135 hx (pcY := 80) (hb hby d2_51) (by decide) (by decide) (show ¬ (1 : Int32) < (1 : Int32) from by decide) ?_
  refine g_iincC X135 hx (pc' := 83) (x := (0 : Int32)) (z := (1 : Int32)) rfl (hb hby d2_80) rfl (by decide) (l' := #[.val (.ref ta), .val (.int (4 : Int32)), .val (.int (3 : Int32)), .val (.ref ca), .val (.int (1 : Int32)), .val (.int (2 : Int32)), .val (.int (2 : Int32)), .val (.int (1 : Int32)), .val (.double t8), .second, .val (.int (0 : Int32)), .val (.int (1 : Int32))]) rfl ?_
  refine g_goto X135 hx (pc' := 19) (hb hby d2_83) (by decide) (by decide) ?_
  refine g_iload X135 hx (pc' := 21) rfl (hb hby d2_19) rfl ?_
  refine g_iload X135 hx (pc' := 23) rfl (hb hby d2_21) rfl ?_
  refine g_icmpN X135 hx (pcN := 26) (hb hby d2_23) rfl (show ¬ (¬ (1 : Int32) < (2 : Int32)) from by decide) ?_
  refine g_aloadN X135 hx (pc' := 27) rfl (hb hby d2_26) rfl rfl ?_
  refine g_iload X135 hx (pc' := 29) rfl (hb hby d2_27) rfl ?_
  refine g_iloadN X135 hx (pc' := 30) rfl (hb hby d2_29) rfl ?_
  refine g_imul X135 hx (pc' := 31) rfl (hb hby d2_30) ?_
  refine g_normI (z := (8 : Int32)) (by decide) ?_
  refine g_iload X135 hx (pc' := 33) rfl (hb hby d2_31) rfl ?_
  refine g_iadd X135 hx (pc' := 34) rfl (hb hby d2_33) ?_
  refine g_normI (z := (9 : Int32)) (by decide) ?_
  refine g_daload X135 hx hZ f136 (i := 9) (by decide) (show (9 : Nat) < 12 by decide) (v := t9) rfl (pc' := 35) rfl (hb hby d2_34) ?_
  refine g_dstore X135 hx (pc' := 37) rfl (hb hby d2_35) (l' := #[.val (.ref ta), .val (.int (4 : Int32)), .val (.int (3 : Int32)), .val (.ref ca), .val (.int (1 : Int32)), .val (.int (2 : Int32)), .val (.int (2 : Int32)), .val (.int (1 : Int32)), .val (.double t9), .second, .val (.int (0 : Int32)), .val (.int (1 : Int32))]) rfl ?_
  refine g_iload X135 hx (pc' := 39) rfl (hb hby d2_37) rfl ?_
  refine g_iload X135 hx (pc' := 41) rfl (hb hby d2_39) rfl ?_
  refine g_imul X135 hx (pc' := 42) rfl (hb hby d2_41) ?_
  refine g_normI (z := (1 : Int32)) (by decide) ?_
  refine g_istore X135 hx (pc' := 44) rfl (hb hby d2_42) (l' := #[.val (.ref ta), .val (.int (4 : Int32)), .val (.int (3 : Int32)), .val (.ref ca), .val (.int (1 : Int32)), .val (.int (2 : Int32)), .val (.int (2 : Int32)), .val (.int (1 : Int32)), .val (.double t9), .second, .val (.int (1 : Int32)), .val (.int (1 : Int32))]) rfl ?_
  refine g_iconst X135 hx (pc' := 45) (z := (0 : Int32)) rfl (hb hby d2_44) rfl ?_
  refine g_istore X135 hx (pc' := 47) rfl (hb hby d2_45) (l' := #[.val (.ref ta), .val (.int (4 : Int32)), .val (.int (3 : Int32)), .val (.ref ca), .val (.int (1 : Int32)), .val (.int (2 : Int32)), .val (.int (2 : Int32)), .val (.int (1 : Int32)), .val (.double t9), .second, .val (.int (1 : Int32)), .val (.int (0 : Int32))]) rfl ?_
  refine g_iload X135 hx (pc' := 49) rfl (hb hby d2_47) rfl ?_
  refine g_iload X135 hx (pc' := 51) rfl (hb hby d2_49) rfl ?_
  refine g_icmpN X135 hx (pcN := 54) (hb hby d2_51) rfl (show ¬ (¬ (0 : Int32) < (1 : Int32)) from by decide) ?_
  refine g_aloadN X135 hx (pc' := 55) rfl (hb hby d2_54) rfl rfl ?_
  refine g_iload X135 hx (pc' := 57) rfl (hb hby d2_55) rfl ?_
  refine g_iload X135 hx (pc' := 59) rfl (hb hby d2_57) rfl ?_
  refine g_iadd X135 hx (pc' := 60) rfl (hb hby d2_59) ?_
  refine g_normI (z := (2 : Int32)) (by decide) ?_
  refine g_dup2 X135 hx (pc' := 61) rfl (hb hby d2_60) rfl rfl ?_
  refine g_daload X135 hx hZ V135 (i := 2) (by decide) (show (2 : Nat) < 8 by decide) (v := d134) rfl (pc' := 62) rfl (hb hby d2_61) ?_
  refine g_dload X135 hx (pc' := 64) rfl (hb hby d2_62) rfl ?_
  refine g_aloadN X135 hx (pc' := 65) rfl (hb hby d2_64) rfl rfl ?_
  refine g_iload X135 hx (pc' := 67) rfl (hb hby d2_65) rfl ?_
  refine g_iload X135 hx (pc' := 69) rfl (hb hby d2_67) rfl ?_
  refine g_iadd X135 hx (pc' := 70) rfl (hb hby d2_69) ?_
  refine g_normI (z := (1 : Int32)) (by decide) ?_
  refine g_daload X135 hx hZ V135 (i := 1) (by decide) (show (1 : Nat) < 8 by decide) (v := d128) rfl (pc' := 71) rfl (hb hby d2_70) ?_
  have q139 : Dy (mt9 * n128) 1074 (FP.dmul t9 d128) := dy_mul yt9 q128 (by decide) (own_mb bt9 b128 (by decide)) (by decide)
  refine g_dmul X135 hx (pc' := 72) (z := (FP.dmul t9 d128)) rfl (hb hby d2_71) (dy_noNaN q139) rfl ?_
  refine g_absD (fun d139 hd139 => ?_)
  rw [← hd139] at q139
  obtain ⟨n139, en139⟩ : ∃ z : Int, z = mt9 * n128 := ⟨_, rfl⟩
  rw [← en139] at q139
  have b139 : n139.natAbs ≤ 576 := by rw [en139, Int.natAbs_mul]; exact Nat.le_trans (Nat.mul_le_mul bt9 b128) (by decide)
  have q140 : Dy (n134 - n139) 1074 (FP.dsub d134 d139) := dy_sub q134 q139 (own_subb b134 b139 (by decide)) (by decide)
  refine g_dsub X135 hx (pc' := 73) (z := (FP.dsub d134 d139)) rfl (hb hby d2_72) (dy_noNaN q140) rfl ?_
  refine g_absD (fun d140 hd140 => ?_)
  rw [← hd140] at q140
  obtain ⟨n140, en140⟩ : ∃ z : Int, z = n134 - n139 := ⟨_, rfl⟩
  rw [← en140] at q140
  have b140 : n140.natAbs ≤ 648 := by rw [en140]; exact Nat.le_trans (own_subl b134 b139) (by decide)
  refine g_dastore X135 hx hZ V135 (i := 2) (by decide) (show (2 : Nat) < 8 by decide) hg (pc' := 74) rfl (hb hby d2_73) (fun T141 h141 X141 W141 N141 => ?_)
  have f142 := f136.other W141 hne
  have f143 := (by have q := (Keep.of_wr W141).1; exact Nat.le_trans f137 q : n0 ≤ h141.size)
  have f144 := f138.wr W141 (Or.inl (List.mem_of_getElem? (i := 0) rfl))
  have V141 : AD Z h141 ca [c0, d128, d140, c3, c4, c5, c6, c7] := N141
  refine g_iincC X141 hx (pc' := 77) (x := (0 : Int32)) (z := (1 : Int32)) rfl (hb hby d2_74) rfl (by decide) (l' := #[.val (.ref ta), .val (.int (4 : Int32)), .val (.int (3 : Int32)), .val (.ref ca), .val (.int (1 : Int32)), .val (.int (2 : Int32)), .val (.int (2 : Int32)), .val (.int (1 : Int32)), .val (.double t9), .second, .val (.int (1 : Int32)), .val (.int (1 : Int32))]) rfl ?_
  refine g_goto X141 hx (pc' := 47) (hb hby d2_77) (by decide) (by decide) ?_
  refine g_iload X141 hx (pc' := 49) rfl (hb hby d2_47) rfl ?_
  refine g_iload X141 hx (pc' := 51) rfl (hb hby d2_49) rfl ?_
  refine g_icmpY X141 hx (pcY := 80) (hb hby d2_51) (by decide) (by decide) (show ¬ (1 : Int32) < (1 : Int32) from by decide) ?_
  refine g_iincC X141 hx (pc' := 83) (x := (1 : Int32)) (z := (2 : Int32)) rfl (hb hby d2_80) rfl (by decide) (l' := #[.val (.ref ta), .val (.int (4 : Int32)), .val (.int (3 : Int32)), .val (.ref ca), .val (.int (1 : Int32)), .val (.int (2 : Int32)), .val (.int (2 : Int32)), .val (.int (2 : Int32)), .val (.double t9), .second, .val (.int (1 : Int32)), .val (.int (1 : Int32))]) rfl ?_
  refine g_goto X141 hx (pc' := 19) (hb hby d2_83) (by decide) (by decide) ?_
  refine g_iload X141 hx (pc' := 21) rfl (hb hby d2_19) rfl ?_
  refine g_iload X141 hx (pc' := 23) rfl (hb hby d2_21) rfl ?_
  refine g_icmpY X141 hx (pcY := 86) (hb hby d2_23) (by decide) (by decide) (show ¬ (2 : Int32) < (2 : Int32) from by decide) ?_
  refine g_iincC X141 hx (pc' := 89) (x := (2 : Int32)) (z := (3 : Int32)) rfl (hb hby d2_86) rfl (by decide) (l' := #[.val (.ref ta), .val (.int (4 : Int32)), .val (.int (3 : Int32)), .val (.ref ca), .val (.int (1 : Int32)), .val (.int (3 : Int32)), .val (.int (2 : Int32)), .val (.int (2 : Int32)), .val (.double t9), .second, .val (.int (1 : Int32)), .val (.int (1 : Int32))]) rfl ?_
  refine g_goto X141 hx (pc' := 3) (hb hby d2_89) (by decide) (by decide) ?_
  refine g_iload X141 hx (pc' := 5) rfl (hb hby d2_3) rfl ?_
  refine g_iloadN X141 hx (pc' := 6) rfl (hb hby d2_5) rfl ?_
  refine g_icmpY X141 hx (pcY := 92) (hb hby d2_6) (by decide) (by decide) (show ¬ (3 : Int32) < (3 : Int32) from by decide) ?_
  exact g_retV X141 hx hlk hret (hb hby d2_92) (by decide) (by decide) (⟨rfl, f144, d128, (show (mc1 - mt4 * mc0) = n128 by rw [en128, en127]) ▸ q128, d140, (show (mc2 - mt8 * mc0 - mt9 * (mc1 - mt4 * mc0)) = n140 by rw [en140, en134, en133, en139, en128, en127]) ▸ q140, V141⟩)
set_option maxRecDepth 65536 in
set_option maxHeartbeats 40000000 in
theorem rm2_3_2_3 (l : Launch) (Z : State) (a0 : Array Value) (hw : ∀ d ∈ tables_1, d.before a0 Z = true) (ws : List Jvm.Cond) (n0 : Nat) (ta ca : Addr) (t0 : UInt64) (t1 : UInt64) (t2 : UInt64) (t3 : UInt64) (t4 : UInt64) (t5 : UInt64) (t6 : UInt64) (t7 : UInt64) (t8 : UInt64) (t9 : UInt64) (t10 : UInt64) (t11 : UInt64) (mt3 : Int) (mt6 : Int) (mt7 : Int) (c0 : UInt64) (mc0 : Int) (c1 : UInt64) (mc1 : Int) (c2 : UInt64) (mc2 : Int) (c3 : UInt64) (mc3 : Int) (c4 : UInt64) (mc4 : Int) (c5 : UInt64) (mc5 : Int) (c6 : UInt64) (mc6 : Int) (c7 : UInt64) (mc7 : Int) (h0 : Heap) (hn0 : n0 ≤ h0.size) (At : AD Z h0 ta [t0, t1, t2, t3, t4, t5, t6, t7, t8, t9, t10, t11]) (Ac : AD Z h0 ca [c0, c1, c2, c3, c4, c5, c6, c7]) (hne : ta ≠ ca) (hg : n0 ≤ ca) (yc0 : Dy mc0 1074 c0) (bc0 : mc0.natAbs ≤ 8) (yc1 : Dy mc1 1074 c1) (bc1 : mc1.natAbs ≤ 8) (yc2 : Dy mc2 1074 c2) (bc2 : mc2.natAbs ≤ 8) (yc3 : Dy mc3 1074 c3) (bc3 : mc3.natAbs ≤ 8) (yc4 : Dy mc4 1074 c4) (bc4 : mc4.natAbs ≤ 8) (yc5 : Dy mc5 1074 c5) (bc5 : mc5.natAbs ≤ 8) (yc6 : Dy mc6 1074 c6) (bc6 : mc6.natAbs ≤ 8) (yc7 : Dy mc7 1074 c7) (bc7 : mc7.natAbs ≤ 8) (yt3 : Dy mt3 1074 t3) (bt3 : mt3.natAbs ≤ 8) (yt6 : Dy mt6 1074 t6) (bt6 : mt6.natAbs ≤ 8) (yt7 : Dy mt7 1074 t7) (bt7 : mt7.natAbs ≤ 8) :
    Con l Z n0 (⟨"com/example/orthogon/orthogon/Triangular", "solveUnitLower", "([DII[DI)V"⟩ : MethodName) prog_16_method_2_code 12 none ws ({ frames := 0, cells := 0, slots := 0, locals := 0 } : Room) #[(.ref ta), (.int (3 : Int32)), (.int (3 : Int32)), (.ref ca), (.int (2 : Int32))] h0 (fun v h => v = none ∧ Keep h0 h [ca] ∧ ∃ y2 : UInt64, Dy (mc2 - mt3 * mc0) 1074 y2 ∧ ∃ y3 : UInt64, Dy (mc3 - mt3 * mc1) 1074 y3 ∧ ∃ y4 : UInt64, Dy (mc4 - mt6 * mc0 - mt7 * (mc2 - mt3 * mc0)) 1074 y4 ∧ ∃ y5 : UInt64, Dy (mc5 - mt6 * mc1 - mt7 * (mc3 - mt3 * mc1)) 1074 y5 ∧ AD Z h ca [c0, c1, y2, y3, y4, y5, c6, c7]) := by
  refine con_start (plainFor_of_name (by first | (simp [plainName, overriddenIn]; done) | decide +kernel)) (fr0 := fun m => mkF m 0 #[.val (.ref ta), .val (.int (3 : Int32)), .val (.int (3 : Int32)), .val (.ref ca), .val (.int (2 : Int32)), .unset, .unset, .unset, .unset, .unset, .unset, .unset] []) (fun m => by first | (simp [entryFrame, mkF, argsToLocals, Value.category]; done) | rfl) ?_
  intro p e s m below meth c T0 hx hZ hby hml hown hnm hret hlk X0
  replace hown : s.vm.findClass "com/example/orthogon/orthogon/Triangular" = some m.cls := hown
  replace hml : c.maxLocals = 12 := hml
  refine g_iconst X0 hx (pc' := 1) (z := (1 : Int32)) rfl (hb hby d2_0) rfl ?_
  refine g_istore X0 hx (pc' := 3) rfl (hb hby d2_1) (l' := #[.val (.ref ta), .val (.int (3 : Int32)), .val (.int (3 : Int32)), .val (.ref ca), .val (.int (2 : Int32)), .val (.int (1 : Int32)), .unset, .unset, .unset, .unset, .unset, .unset]) rfl ?_
  refine g_iload X0 hx (pc' := 5) rfl (hb hby d2_3) rfl ?_
  refine g_iloadN X0 hx (pc' := 6) rfl (hb hby d2_5) rfl ?_
  refine g_icmpN X0 hx (pcN := 9) (hb hby d2_6) rfl (show ¬ (¬ (1 : Int32) < (3 : Int32)) from by decide) ?_
  refine g_iload X0 hx (pc' := 11) rfl (hb hby d2_9) rfl ?_
  refine g_iload X0 hx (pc' := 13) rfl (hb hby d2_11) rfl ?_
  refine g_imul X0 hx (pc' := 14) rfl (hb hby d2_13) ?_
  refine g_normI (z := (2 : Int32)) (by decide) ?_
  refine g_istore X0 hx (pc' := 16) rfl (hb hby d2_14) (l' := #[.val (.ref ta), .val (.int (3 : Int32)), .val (.int (3 : Int32)), .val (.ref ca), .val (.int (2 : Int32)), .val (.int (1 : Int32)), .val (.int (2 : Int32)), .unset, .unset, .unset, .unset, .unset]) rfl ?_
  refine g_iconst X0 hx (pc' := 17) (z := (0 : Int32)) rfl (hb hby d2_16) rfl ?_
  refine g_istore X0 hx (pc' := 19) rfl (hb hby d2_17) (l' := #[.val (.ref ta), .val (.int (3 : Int32)), .val (.int (3 : Int32)), .val (.ref ca), .val (.int (2 : Int32)), .val (.int (1 : Int32)), .val (.int (2 : Int32)), .val (.int (0 : Int32)), .unset, .unset, .unset, .unset]) rfl ?_
  refine g_iload X0 hx (pc' := 21) rfl (hb hby d2_19) rfl ?_
  refine g_iload X0 hx (pc' := 23) rfl (hb hby d2_21) rfl ?_
  refine g_icmpN X0 hx (pcN := 26) (hb hby d2_23) rfl (show ¬ (¬ (0 : Int32) < (1 : Int32)) from by decide) ?_
  refine g_aloadN X0 hx (pc' := 27) rfl (hb hby d2_26) rfl rfl ?_
  refine g_iload X0 hx (pc' := 29) rfl (hb hby d2_27) rfl ?_
  refine g_iloadN X0 hx (pc' := 30) rfl (hb hby d2_29) rfl ?_
  refine g_imul X0 hx (pc' := 31) rfl (hb hby d2_30) ?_
  refine g_normI (z := (3 : Int32)) (by decide) ?_
  refine g_iload X0 hx (pc' := 33) rfl (hb hby d2_31) rfl ?_
  refine g_iadd X0 hx (pc' := 34) rfl (hb hby d2_33) ?_
  refine g_normI (z := (3 : Int32)) (by decide) ?_
  refine g_daload X0 hx hZ At (i := 3) (by decide) (show (3 : Nat) < 12 by decide) (v := t3) rfl (pc' := 35) rfl (hb hby d2_34) ?_
  refine g_dstore X0 hx (pc' := 37) rfl (hb hby d2_35) (l' := #[.val (.ref ta), .val (.int (3 : Int32)), .val (.int (3 : Int32)), .val (.ref ca), .val (.int (2 : Int32)), .val (.int (1 : Int32)), .val (.int (2 : Int32)), .val (.int (0 : Int32)), .val (.double t3), .second, .unset, .unset]) rfl ?_
  refine g_iload X0 hx (pc' := 39) rfl (hb hby d2_37) rfl ?_
  refine g_iload X0 hx (pc' := 41) rfl (hb hby d2_39) rfl ?_
  refine g_imul X0 hx (pc' := 42) rfl (hb hby d2_41) ?_
  refine g_normI (z := (0 : Int32)) (by decide) ?_
  refine g_istore X0 hx (pc' := 44) rfl (hb hby d2_42) (l' := #[.val (.ref ta), .val (.int (3 : Int32)), .val (.int (3 : Int32)), .val (.ref ca), .val (.int (2 : Int32)), .val (.int (1 : Int32)), .val (.int (2 : Int32)), .val (.int (0 : Int32)), .val (.double t3), .second, .val (.int (0 : Int32)), .unset]) rfl ?_
  refine g_iconst X0 hx (pc' := 45) (z := (0 : Int32)) rfl (hb hby d2_44) rfl ?_
  refine g_istore X0 hx (pc' := 47) rfl (hb hby d2_45) (l' := #[.val (.ref ta), .val (.int (3 : Int32)), .val (.int (3 : Int32)), .val (.ref ca), .val (.int (2 : Int32)), .val (.int (1 : Int32)), .val (.int (2 : Int32)), .val (.int (0 : Int32)), .val (.double t3), .second, .val (.int (0 : Int32)), .val (.int (0 : Int32))]) rfl ?_
  refine g_iload X0 hx (pc' := 49) rfl (hb hby d2_47) rfl ?_
  refine g_iload X0 hx (pc' := 51) rfl (hb hby d2_49) rfl ?_
  refine g_icmpN X0 hx (pcN := 54) (hb hby d2_51) rfl (show ¬ (¬ (0 : Int32) < (2 : Int32)) from by decide) ?_
  refine g_aloadN X0 hx (pc' := 55) rfl (hb hby d2_54) rfl rfl ?_
  refine g_iload X0 hx (pc' := 57) rfl (hb hby d2_55) rfl ?_
  refine g_iload X0 hx (pc' := 59) rfl (hb hby d2_57) rfl ?_
  refine g_iadd X0 hx (pc' := 60) rfl (hb hby d2_59) ?_
  refine g_normI (z := (2 : Int32)) (by decide) ?_
  refine g_dup2 X0 hx (pc' := 61) rfl (hb hby d2_60) rfl rfl ?_
  refine g_daload X0 hx hZ Ac (i := 2) (by decide) (show (2 : Nat) < 8 by decide) (v := c2) rfl (pc' := 62) rfl (hb hby d2_61) ?_
  refine g_dload X0 hx (pc' := 64) rfl (hb hby d2_62) rfl ?_
  refine g_aloadN X0 hx (pc' := 65) rfl (hb hby d2_64) rfl rfl ?_
  refine g_iload X0 hx (pc' := 67) rfl (hb hby d2_65) rfl ?_
  refine g_iload X0 hx (pc' := 69) rfl (hb hby d2_67) rfl ?_
  refine g_iadd X0 hx (pc' := 70) rfl (hb hby d2_69) ?_
  refine g_normI (z := (0 : Int32)) (by decide) ?_
  refine g_daload X0 hx hZ Ac (i := 0) (by decide) (show (0 : Nat) < 8 by decide) (v := c0) rfl (pc' := 71) rfl (hb hby d2_70) ?_
  have q181 : Dy (mt3 * mc0) 1074 (FP.dmul t3 c0) := dy_mul yt3 yc0 (by decide) (own_mb bt3 bc0 (by decide)) (by decide)
  refine g_dmul X0 hx (pc' := 72) (z := (FP.dmul t3 c0)) rfl (hb hby d2_71) (dy_noNaN q181) rfl ?_
  refine g_absD (fun d181 hd181 => ?_)
  rw [← hd181] at q181
  obtain ⟨n181, en181⟩ : ∃ z : Int, z = mt3 * mc0 := ⟨_, rfl⟩
  rw [← en181] at q181
  have b181 : n181.natAbs ≤ 64 := by rw [en181, Int.natAbs_mul]; exact Nat.le_trans (Nat.mul_le_mul bt3 bc0) (by decide)
  have q182 : Dy (mc2 - n181) 1074 (FP.dsub c2 d181) := dy_sub yc2 q181 (own_subb bc2 b181 (by decide)) (by decide)
  refine g_dsub X0 hx (pc' := 73) (z := (FP.dsub c2 d181)) rfl (hb hby d2_72) (dy_noNaN q182) rfl ?_
  refine g_absD (fun d182 hd182 => ?_)
  rw [← hd182] at q182
  obtain ⟨n182, en182⟩ : ∃ z : Int, z = mc2 - n181 := ⟨_, rfl⟩
  rw [← en182] at q182
  have b182 : n182.natAbs ≤ 72 := by rw [en182]; exact Nat.le_trans (own_subl bc2 b181) (by decide)
  refine g_dastore X0 hx hZ Ac (i := 2) (by decide) (show (2 : Nat) < 8 by decide) hg (pc' := 74) rfl (hb hby d2_73) (fun T183 h183 X183 W183 N183 => ?_)
  have f184 := At.other W183 hne
  have f185 := (by have q := (Keep.of_wr W183).1; exact Nat.le_trans hn0 q : n0 ≤ h183.size)
  have f186 := (Keep.refl h0 [ca]).wr W183 (Or.inl (List.mem_of_getElem? (i := 0) rfl))
  have V183 : AD Z h183 ca [c0, c1, d182, c3, c4, c5, c6, c7] := N183
  refine g_iincC X183 hx (pc' := 77) (x := (0 : Int32)) (z := (1 : Int32)) rfl (hb hby d2_74) rfl (by decide) (l' := #[.val (.ref ta), .val (.int (3 : Int32)), .val (.int (3 : Int32)), .val (.ref ca), .val (.int (2 : Int32)), .val (.int (1 : Int32)), .val (.int (2 : Int32)), .val (.int (0 : Int32)), .val (.double t3), .second, .val (.int (0 : Int32)), .val (.int (1 : Int32))]) rfl ?_
  refine g_goto X183 hx (pc' := 47) (hb hby d2_77) (by decide) (by decide) ?_
  refine g_iload X183 hx (pc' := 49) rfl (hb hby d2_47) rfl ?_
  refine g_iload X183 hx (pc' := 51) rfl (hb hby d2_49) rfl ?_
  refine g_icmpN X183 hx (pcN := 54) (hb hby d2_51) rfl (show ¬ (¬ (1 : Int32) < (2 : Int32)) from by decide) ?_
  refine g_aloadN X183 hx (pc' := 55) rfl (hb hby d2_54) rfl rfl ?_
  refine g_iload X183 hx (pc' := 57) rfl (hb hby d2_55) rfl ?_
  refine g_iload X183 hx (pc' := 59) rfl (hb hby d2_57) rfl ?_
  refine g_iadd X183 hx (pc' := 60) rfl (hb hby d2_59) ?_
  refine g_normI (z := (3 : Int32)) (by decide) ?_
  refine g_dup2 X183 hx (pc' := 61) rfl (hb hby d2_60) rfl rfl ?_
  refine g_daload X183 hx hZ V183 (i := 3) (by decide) (show (3 : Nat) < 8 by decide) (v := c3) rfl (pc' := 62) rfl (hb hby d2_61) ?_
  refine g_dload X183 hx (pc' := 64) rfl (hb hby d2_62) rfl ?_
  refine g_aloadN X183 hx (pc' := 65) rfl (hb hby d2_64) rfl rfl ?_
  refine g_iload X183 hx (pc' := 67) rfl (hb hby d2_65) rfl ?_
  refine g_iload X183 hx (pc' := 69) rfl (hb hby d2_67) rfl ?_
  refine g_iadd X183 hx (pc' := 70) rfl (hb hby d2_69) ?_
  refine g_normI (z := (1 : Int32)) (by decide) ?_
  refine g_daload X183 hx hZ V183 (i := 1) (by decide) (show (1 : Nat) < 8 by decide) (v := c1) rfl (pc' := 71) rfl (hb hby d2_70) ?_
  have q187 : Dy (mt3 * mc1) 1074 (FP.dmul t3 c1) := dy_mul yt3 yc1 (by decide) (own_mb bt3 bc1 (by decide)) (by decide)
  refine g_dmul X183 hx (pc' := 72) (z := (FP.dmul t3 c1)) rfl (hb hby d2_71) (dy_noNaN q187) rfl ?_
  refine g_absD (fun d187 hd187 => ?_)
  rw [← hd187] at q187
  obtain ⟨n187, en187⟩ : ∃ z : Int, z = mt3 * mc1 := ⟨_, rfl⟩
  rw [← en187] at q187
  have b187 : n187.natAbs ≤ 64 := by rw [en187, Int.natAbs_mul]; exact Nat.le_trans (Nat.mul_le_mul bt3 bc1) (by decide)
  have q188 : Dy (mc3 - n187) 1074 (FP.dsub c3 d187) := dy_sub yc3 q187 (own_subb bc3 b187 (by decide)) (by decide)
  refine g_dsub X183 hx (pc' := 73) (z := (FP.dsub c3 d187)) rfl (hb hby d2_72) (dy_noNaN q188) rfl ?_
  refine g_absD (fun d188 hd188 => ?_)
  rw [← hd188] at q188
  obtain ⟨n188, en188⟩ : ∃ z : Int, z = mc3 - n187 := ⟨_, rfl⟩
  rw [← en188] at q188
  have b188 : n188.natAbs ≤ 72 := by rw [en188]; exact Nat.le_trans (own_subl bc3 b187) (by decide)
  refine g_dastore X183 hx hZ V183 (i := 3) (by decide) (show (3 : Nat) < 8 by decide) hg (pc' := 74) rfl (hb hby d2_73) (fun T189 h189 X189 W189 N189 => ?_)
  have f190 := f184.other W189 hne
  have f191 := (by have q := (Keep.of_wr W189).1; exact Nat.le_trans f185 q : n0 ≤ h189.size)
  have f192 := f186.wr W189 (Or.inl (List.mem_of_getElem? (i := 0) rfl))
  have V189 : AD Z h189 ca [c0, c1, d182, d188, c4, c5, c6, c7] := N189
  refine g_iincC X189 hx (pc' := 77) (x := (1 : Int32)) (z := (2 : Int32)) rfl (hb hby d2_74) rfl (by decide) (l' := #[.val (.ref ta), .val (.int (3 : Int32)), .val (.int (3 : Int32)), .val (.ref ca), .val (.int (2 : Int32)), .val (.int (1 : Int32)), .val (.int (2 : Int32)), .val (.int (0 : Int32)), .val (.double t3), .second, .val (.int (0 : Int32)), .val (.int (2 : Int32))]) rfl ?_
  refine g_goto X189 hx (pc' := 47) (hb hby d2_77) (by decide) (by decide) ?_
  refine g_iload X189 hx (pc' := 49) rfl (hb hby d2_47) rfl ?_
  refine g_iload X189 hx (pc' := 51) rfl (hb hby d2_49) rfl ?_
  refine g_icmpY X189 hx (pcY := 80) (hb hby d2_51) (by decide) (by decide) (show ¬ (2 : Int32) < (2 : Int32) from by decide) ?_
  refine g_iincC X189 hx (pc' := 83) (x := (0 : Int32)) (z := (1 : Int32)) rfl (hb hby d2_80) rfl (by decide) (l' := #[.val (.ref ta), .val (.int (3 : Int32)), .val (.int (3 : Int32)), .val (.ref ca), .val (.int (2 : Int32)), .val (.int (1 : Int32)), .val (.int (2 : Int32)), .val (.int (1 : Int32)), .val (.double t3), .second, .val (.int (0 : Int32)), .val (.int (2 : Int32))]) rfl ?_
  refine g_goto X189 hx (pc' := 19) (hb hby d2_83) (by decide) (by decide) ?_
  refine g_iload X189 hx (pc' := 21) rfl (hb hby d2_19) rfl ?_
  refine g_iload X189 hx (pc' := 23) rfl (hb hby d2_21) rfl ?_
  refine g_icmpY X189 hx (pcY := 86) (hb hby d2_23) (by decide) (by decide) (show ¬ (1 : Int32) < (1 : Int32) from by decide) ?_
  refine g_iincC X189 hx (pc' := 89) (x := (1 : Int32)) (z := (2 : Int32)) rfl (hb hby d2_86) rfl (by decide) (l' := #[.val (.ref ta), .val (.int (3 : Int32)), .val (.int (3 : Int32)), .val (.ref ca), .val (.int (2 : Int32)), .val (.int (2 : Int32)), .val (.int (2 : Int32)), .val (.int (1 : Int32)), .val (.double t3), .second, .val (.int (0 : Int32)), .val (.int (2 : Int32))]) rfl ?_
  refine g_goto X189 hx (pc' := 3) (hb hby d2_89) (by decide) (by decide) ?_
  refine g_iload X189 hx (pc' := 5) rfl (hb hby d2_3) rfl ?_
  refine g_iloadN X189 hx (pc' := 6) rfl (hb hby d2_5) rfl ?_
  refine g_icmpN X189 hx (pcN := 9) (hb hby d2_6) rfl (show ¬ (¬ (2 : Int32) < (3 : Int32)) from by decide) ?_
  refine g_iload X189 hx (pc' := 11) rfl (hb hby d2_9) rfl ?_
  refine g_iload X189 hx (pc' := 13) rfl (hb hby d2_11) rfl ?_
  refine g_imul X189 hx (pc' := 14) rfl (hb hby d2_13) ?_
  refine g_normI (z := (4 : Int32)) (by decide) ?_
  refine g_istore X189 hx (pc' := 16) rfl (hb hby d2_14) (l' := #[.val (.ref ta), .val (.int (3 : Int32)), .val (.int (3 : Int32)), .val (.ref ca), .val (.int (2 : Int32)), .val (.int (2 : Int32)), .val (.int (4 : Int32)), .val (.int (1 : Int32)), .val (.double t3), .second, .val (.int (0 : Int32)), .val (.int (2 : Int32))]) rfl ?_
  refine g_iconst X189 hx (pc' := 17) (z := (0 : Int32)) rfl (hb hby d2_16) rfl ?_
  refine g_istore X189 hx (pc' := 19) rfl (hb hby d2_17) (l' := #[.val (.ref ta), .val (.int (3 : Int32)), .val (.int (3 : Int32)), .val (.ref ca), .val (.int (2 : Int32)), .val (.int (2 : Int32)), .val (.int (4 : Int32)), .val (.int (0 : Int32)), .val (.double t3), .second, .val (.int (0 : Int32)), .val (.int (2 : Int32))]) rfl ?_
  refine g_iload X189 hx (pc' := 21) rfl (hb hby d2_19) rfl ?_
  refine g_iload X189 hx (pc' := 23) rfl (hb hby d2_21) rfl ?_
  refine g_icmpN X189 hx (pcN := 26) (hb hby d2_23) rfl (show ¬ (¬ (0 : Int32) < (2 : Int32)) from by decide) ?_
  refine g_aloadN X189 hx (pc' := 27) rfl (hb hby d2_26) rfl rfl ?_
  refine g_iload X189 hx (pc' := 29) rfl (hb hby d2_27) rfl ?_
  refine g_iloadN X189 hx (pc' := 30) rfl (hb hby d2_29) rfl ?_
  refine g_imul X189 hx (pc' := 31) rfl (hb hby d2_30) ?_
  refine g_normI (z := (6 : Int32)) (by decide) ?_
  refine g_iload X189 hx (pc' := 33) rfl (hb hby d2_31) rfl ?_
  refine g_iadd X189 hx (pc' := 34) rfl (hb hby d2_33) ?_
  refine g_normI (z := (6 : Int32)) (by decide) ?_
  refine g_daload X189 hx hZ f190 (i := 6) (by decide) (show (6 : Nat) < 12 by decide) (v := t6) rfl (pc' := 35) rfl (hb hby d2_34) ?_
  refine g_dstore X189 hx (pc' := 37) rfl (hb hby d2_35) (l' := #[.val (.ref ta), .val (.int (3 : Int32)), .val (.int (3 : Int32)), .val (.ref ca), .val (.int (2 : Int32)), .val (.int (2 : Int32)), .val (.int (4 : Int32)), .val (.int (0 : Int32)), .val (.double t6), .second, .val (.int (0 : Int32)), .val (.int (2 : Int32))]) rfl ?_
  refine g_iload X189 hx (pc' := 39) rfl (hb hby d2_37) rfl ?_
  refine g_iload X189 hx (pc' := 41) rfl (hb hby d2_39) rfl ?_
  refine g_imul X189 hx (pc' := 42) rfl (hb hby d2_41) ?_
  refine g_normI (z := (0 : Int32)) (by decide) ?_
  refine g_istore X189 hx (pc' := 44) rfl (hb hby d2_42) (l' := #[.val (.ref ta), .val (.int (3 : Int32)), .val (.int (3 : Int32)), .val (.ref ca), .val (.int (2 : Int32)), .val (.int (2 : Int32)), .val (.int (4 : Int32)), .val (.int (0 : Int32)), .val (.double t6), .second, .val (.int (0 : Int32)), .val (.int (2 : Int32))]) rfl ?_
  refine g_iconst X189 hx (pc' := 45) (z := (0 : Int32)) rfl (hb hby d2_44) rfl ?_
  refine g_istore X189 hx (pc' := 47) rfl (hb hby d2_45) (l' := #[.val (.ref ta), .val (.int (3 : Int32)), .val (.int (3 : Int32)), .val (.ref ca), .val (.int (2 : Int32)), .val (.int (2 : Int32)), .val (.int (4 : Int32)), .val (.int (0 : Int32)), .val (.double t6), .second, .val (.int (0 : Int32)), .val (.int (0 : Int32))]) rfl ?_
  refine g_iload X189 hx (pc' := 49) rfl (hb hby d2_47) rfl ?_
  refine g_iload X189 hx (pc' := 51) rfl (hb hby d2_49) rfl ?_
  refine g_icmpN X189 hx (pcN := 54) (hb hby d2_51) rfl (show ¬ (¬ (0 : Int32) < (2 : Int32)) from by decide) ?_
  refine g_aloadN X189 hx (pc' := 55) rfl (hb hby d2_54) rfl rfl ?_
  refine g_iload X189 hx (pc' := 57) rfl (hb hby d2_55) rfl ?_
  refine g_iload X189 hx (pc' := 59) rfl (hb hby d2_57) rfl ?_
  refine g_iadd X189 hx (pc' := 60) rfl (hb hby d2_59) ?_
  refine g_normI (z := (4 : Int32)) (by decide) ?_
  refine g_dup2 X189 hx (pc' := 61) rfl (hb hby d2_60) rfl rfl ?_
  refine g_daload X189 hx hZ V189 (i := 4) (by decide) (show (4 : Nat) < 8 by decide) (v := c4) rfl (pc' := 62) rfl (hb hby d2_61) ?_
  refine g_dload X189 hx (pc' := 64) rfl (hb hby d2_62) rfl ?_
  refine g_aloadN X189 hx (pc' := 65) rfl (hb hby d2_64) rfl rfl ?_
  refine g_iload X189 hx (pc' := 67) rfl (hb hby d2_65) rfl ?_
  refine g_iload X189 hx (pc' := 69) rfl (hb hby d2_67) rfl ?_
  refine g_iadd X189 hx (pc' := 70) rfl (hb hby d2_69) ?_
  refine g_normI (z := (0 : Int32)) (by decide) ?_
  refine g_daload X189 hx hZ V189 (i := 0) (by decide) (show (0 : Nat) < 8 by decide) (v := c0) rfl (pc' := 71) rfl (hb hby d2_70) ?_
  have q193 : Dy (mt6 * mc0) 1074 (FP.dmul t6 c0) := dy_mul yt6 yc0 (by decide) (own_mb bt6 bc0 (by decide)) (by decide)
  refine g_dmul X189 hx (pc' := 72) (z := (FP.dmul t6 c0)) rfl (hb hby d2_71) (dy_noNaN q193) rfl ?_
  refine g_absD (fun d193 hd193 => ?_)
  rw [← hd193] at q193
  obtain ⟨n193, en193⟩ : ∃ z : Int, z = mt6 * mc0 := ⟨_, rfl⟩
  rw [← en193] at q193
  have b193 : n193.natAbs ≤ 64 := by rw [en193, Int.natAbs_mul]; exact Nat.le_trans (Nat.mul_le_mul bt6 bc0) (by decide)
  have q194 : Dy (mc4 - n193) 1074 (FP.dsub c4 d193) := dy_sub yc4 q193 (own_subb bc4 b193 (by decide)) (by decide)
  refine g_dsub X189 hx (pc' := 73) (z := (FP.dsub c4 d193)) rfl (hb hby d2_72) (dy_noNaN q194) rfl ?_
  refine g_absD (fun d194 hd194 => ?_)
  rw [← hd194] at q194
  obtain ⟨n194, en194⟩ : ∃ z : Int, z = mc4 - n193 := ⟨_, rfl⟩
  rw [← en194] at q194
  have b194 : n194.natAbs ≤ 72 := by rw [en194]; exact Nat.le_trans (own_subl bc4 b193) (by decide)
  refine g_dastore X189 hx hZ V189 (i := 4) (by decide) (show (4 : Nat) < 8 by decide) hg (pc' := 74) rfl (hb hby d2_73) (fun T195 h195 X195 W195 N195 => ?_)
  have f196 := f190.other W195 hne
  have f197 := (by have q := (Keep.of_wr W195).1; exact Nat.le_trans f191 q : n0 ≤ h195.size)
  have f198 := f192.wr W195 (Or.inl (List.mem_of_getElem? (i := 0) rfl))
  have V195 : AD Z h195 ca [c0, c1, d182, d188, d194, c5, c6, c7] := N195
  refine g_iincC X195 hx (pc' := 77) (x := (0 : Int32)) (z := (1 : Int32)) rfl (hb hby d2_74) rfl (by decide) (l' := #[.val (.ref ta), .val (.int (3 : Int32)), .val (.int (3 : Int32)), .val (.ref ca), .val (.int (2 : Int32)), .val (.int (2 : Int32)), .val (.int (4 : Int32)), .val (.int (0 : Int32)), .val (.double t6), .second, .val (.int (0 : Int32)), .val (.int (1 : Int32))]) rfl ?_
  refine g_goto X195 hx (pc' := 47) (hb hby d2_77) (by decide) (by decide) ?_
  refine g_iload X195 hx (pc' := 49) rfl (hb hby d2_47) rfl ?_
  refine g_iload X195 hx (pc' := 51) rfl (hb hby d2_49) rfl ?_
  refine g_icmpN X195 hx (pcN := 54) (hb hby d2_51) rfl (show ¬ (¬ (1 : Int32) < (2 : Int32)) from by decide) ?_
  refine g_aloadN X195 hx (pc' := 55) rfl (hb hby d2_54) rfl rfl ?_
  refine g_iload X195 hx (pc' := 57) rfl (hb hby d2_55) rfl ?_
  refine g_iload X195 hx (pc' := 59) rfl (hb hby d2_57) rfl ?_
  refine g_iadd X195 hx (pc' := 60) rfl (hb hby d2_59) ?_
  refine g_normI (z := (5 : Int32)) (by decide) ?_
  refine g_dup2 X195 hx (pc' := 61) rfl (hb hby d2_60) rfl rfl ?_
  refine g_daload X195 hx hZ V195 (i := 5) (by decide) (show (5 : Nat) < 8 by decide) (v := c5) rfl (pc' := 62) rfl (hb hby d2_61) ?_
  refine g_dload X195 hx (pc' := 64) rfl (hb hby d2_62) rfl ?_
  refine g_aloadN X195 hx (pc' := 65) rfl (hb hby d2_64) rfl rfl ?_
  refine g_iload X195 hx (pc' := 67) rfl (hb hby d2_65) rfl ?_
  refine g_iload X195 hx (pc' := 69) rfl (hb hby d2_67) rfl ?_
  refine g_iadd X195 hx (pc' := 70) rfl (hb hby d2_69) ?_
  refine g_normI (z := (1 : Int32)) (by decide) ?_
  refine g_daload X195 hx hZ V195 (i := 1) (by decide) (show (1 : Nat) < 8 by decide) (v := c1) rfl (pc' := 71) rfl (hb hby d2_70) ?_
  have q199 : Dy (mt6 * mc1) 1074 (FP.dmul t6 c1) := dy_mul yt6 yc1 (by decide) (own_mb bt6 bc1 (by decide)) (by decide)
  refine g_dmul X195 hx (pc' := 72) (z := (FP.dmul t6 c1)) rfl (hb hby d2_71) (dy_noNaN q199) rfl ?_
  refine g_absD (fun d199 hd199 => ?_)
  rw [← hd199] at q199
  obtain ⟨n199, en199⟩ : ∃ z : Int, z = mt6 * mc1 := ⟨_, rfl⟩
  rw [← en199] at q199
  have b199 : n199.natAbs ≤ 64 := by rw [en199, Int.natAbs_mul]; exact Nat.le_trans (Nat.mul_le_mul bt6 bc1) (by decide)
  have q200 : Dy (mc5 - n199) 1074 (FP.dsub c5 d199) := dy_sub yc5 q199 (own_subb bc5 b199 (by decide)) (by decide)
  refine g_dsub X195 hx (pc' := 73) (z := (FP.dsub c5 d199)) rfl (hb hby d2_72) (dy_noNaN q200) rfl ?_
  refine g_absD (fun d200 hd200 => ?_)
  rw [← hd200] at q200
  obtain ⟨n200, en200⟩ : ∃ z : Int, z = mc5 - n199 := ⟨_, rfl⟩
  rw [← en200] at q200
  have b200 : n200.natAbs ≤ 72 := by rw [en200]; exact Nat.le_trans (own_subl bc5 b199) (by decide)
  refine g_dastore X195 hx hZ V195 (i := 5) (by decide) (show (5 : Nat) < 8 by decide) hg (pc' := 74) rfl (hb hby d2_73) (fun T201 h201 X201 W201 N201 => ?_)
  have f202 := f196.other W201 hne
  have f203 := (by have q := (Keep.of_wr W201).1; exact Nat.le_trans f197 q : n0 ≤ h201.size)
  have f204 := f198.wr W201 (Or.inl (List.mem_of_getElem? (i := 0) rfl))
  have V201 : AD Z h201 ca [c0, c1, d182, d188, d194, d200, c6, c7] := N201
  refine g_iincC X201 hx (pc' := 77) (x := (1 : Int32)) (z := (2 : Int32)) rfl (hb hby d2_74) rfl (by decide) (l' := #[.val (.ref ta), .val (.int (3 : Int32)), .val (.int (3 : Int32)), .val (.ref ca), .val (.int (2 : Int32)), .val (.int (2 : Int32)), .val (.int (4 : Int32)), .val (.int (0 : Int32)), .val (.double t6), .second, .val (.int (0 : Int32)), .val (.int (2 : Int32))]) rfl ?_
  refine g_goto X201 hx (pc' := 47) (hb hby d2_77) (by decide) (by decide) ?_
  refine g_iload X201 hx (pc' := 49) rfl (hb hby d2_47) rfl ?_
  refine g_iload X201 hx (pc' := 51) rfl (hb hby d2_49) rfl ?_
  refine g_icmpY X201 hx (pcY := 80) (hb hby d2_51) (by decide) (by decide) (show ¬ (2 : Int32) < (2 : Int32) from by decide) ?_
  refine g_iincC X201 hx (pc' := 83) (x := (0 : Int32)) (z := (1 : Int32)) rfl (hb hby d2_80) rfl (by decide) (l' := #[.val (.ref ta), .val (.int (3 : Int32)), .val (.int (3 : Int32)), .val (.ref ca), .val (.int (2 : Int32)), .val (.int (2 : Int32)), .val (.int (4 : Int32)), .val (.int (1 : Int32)), .val (.double t6), .second, .val (.int (0 : Int32)), .val (.int (2 : Int32))]) rfl ?_
  refine g_goto X201 hx (pc' := 19) (hb hby d2_83) (by decide) (by decide) ?_
  refine g_iload X201 hx (pc' := 21) rfl (hb hby d2_19) rfl ?_
  refine g_iload X201 hx (pc' := 23) rfl (hb hby d2_21) rfl ?_
  refine g_icmpN X201 hx (pcN := 26) (hb hby d2_23) rfl (show ¬ (¬ (1 : Int32) < (2 : Int32)) from by decide) ?_
  refine g_aloadN X201 hx (pc' := 27) rfl (hb hby d2_26) rfl rfl ?_
  refine g_iload X201 hx (pc' := 29) rfl (hb hby d2_27) rfl ?_
  refine g_iloadN X201 hx (pc' := 30) rfl (hb hby d2_29) rfl ?_
  refine g_imul X201 hx (pc' := 31) rfl (hb hby d2_30) ?_
  refine g_normI (z := (6 : Int32)) (by decide) ?_
  refine g_iload X201 hx (pc' := 33) rfl (hb hby d2_31) rfl ?_
  refine g_iadd X201 hx (pc' := 34) rfl (hb hby d2_33) ?_
  refine g_normI (z := (7 : Int32)) (by decide) ?_
  refine g_daload X201 hx hZ f202 (i := 7) (by decide) (show (7 : Nat) < 12 by decide) (v := t7) rfl (pc' := 35) rfl (hb hby d2_34) ?_
  refine g_dstore X201 hx (pc' := 37) rfl (hb hby d2_35) (l' := #[.val (.ref ta), .val (.int (3 : Int32)), .val (.int (3 : Int32)), .val (.ref ca), .val (.int (2 : Int32)), .val (.int (2 : Int32)), .val (.int (4 : Int32)), .val (.int (1 : Int32)), .val (.double t7), .second, .val (.int (0 : Int32)), .val (.int (2 : Int32))]) rfl ?_
  refine g_iload X201 hx (pc' := 39) rfl (hb hby d2_37) rfl ?_
  refine g_iload X201 hx (pc' := 41) rfl (hb hby d2_39) rfl ?_
  refine g_imul X201 hx (pc' := 42) rfl (hb hby d2_41) ?_
  refine g_normI (z := (2 : Int32)) (by decide) ?_
  refine g_istore X201 hx (pc' := 44) rfl (hb hby d2_42) (l' := #[.val (.ref ta), .val (.int (3 : Int32)), .val (.int (3 : Int32)), .val (.ref ca), .val (.int (2 : Int32)), .val (.int (2 : Int32)), .val (.int (4 : Int32)), .val (.int (1 : Int32)), .val (.double t7), .second, .val (.int (2 : Int32)), .val (.int (2 : Int32))]) rfl ?_
  refine g_iconst X201 hx (pc' := 45) (z := (0 : Int32)) rfl (hb hby d2_44) rfl ?_
  refine g_istore X201 hx (pc' := 47) rfl (hb hby d2_45) (l' := #[.val (.ref ta), .val (.int (3 : Int32)), .val (.int (3 : Int32)), .val (.ref ca), .val (.int (2 : Int32)), .val (.int (2 : Int32)), .val (.int (4 : Int32)), .val (.int (1 : Int32)), .val (.double t7), .second, .val (.int (2 : Int32)), .val (.int (0 : Int32))]) rfl ?_
  refine g_iload X201 hx (pc' := 49) rfl (hb hby d2_47) rfl ?_
  refine g_iload X201 hx (pc' := 51) rfl (hb hby d2_49) rfl ?_
  refine g_icmpN X201 hx (pcN := 54) (hb hby d2_51) rfl (show ¬ (¬ (0 : Int32) < (2 : Int32)) from by decide) ?_
  refine g_aloadN X201 hx (pc' := 55) rfl (hb hby d2_54) rfl rfl ?_
  refine g_iload X201 hx (pc' := 57) rfl (hb hby d2_55) rfl ?_
  refine g_iload X201 hx (pc' := 59) rfl (hb hby d2_57) rfl ?_
  refine g_iadd X201 hx (pc' := 60) rfl (hb hby d2_59) ?_
  refine g_normI (z := (4 : Int32)) (by decide) ?_
  refine g_dup2 X201 hx (pc' := 61) rfl (hb hby d2_60) rfl rfl ?_
  refine g_daload X201 hx hZ V201 (i := 4) (by decide) (show (4 : Nat) < 8 by decide) (v := d194) rfl (pc' := 62) rfl (hb hby d2_61) ?_
  refine g_dload X201 hx (pc' := 64) rfl (hb hby d2_62) rfl ?_
  refine g_aloadN X201 hx (pc' := 65) rfl (hb hby d2_64) rfl rfl ?_
  refine g_iload X201 hx (pc' := 67) rfl (hb hby d2_65) rfl ?_
  refine g_iload X201 hx (pc' := 69) rfl (hb hby d2_67) rfl ?_
  refine g_iadd X201 hx (pc' := 70) rfl (hb hby d2_69) ?_
  refine g_normI (z := (2 : Int32)) (by decide) ?_
  refine g_daload X201 hx hZ V201 (i := 2) (by decide) (show (2 : Nat) < 8 by decide) (v := d182) rfl (pc' := 71) rfl (hb hby d2_70) ?_
  have q205 : Dy (mt7 * n182) 1074 (FP.dmul t7 d182) := dy_mul yt7 q182 (by decide) (own_mb bt7 b182 (by decide)) (by decide)
  refine g_dmul X201 hx (pc' := 72) (z := (FP.dmul t7 d182)) rfl (hb hby d2_71) (dy_noNaN q205) rfl ?_
  refine g_absD (fun d205 hd205 => ?_)
  rw [← hd205] at q205
  obtain ⟨n205, en205⟩ : ∃ z : Int, z = mt7 * n182 := ⟨_, rfl⟩
  rw [← en205] at q205
  have b205 : n205.natAbs ≤ 576 := by rw [en205, Int.natAbs_mul]; exact Nat.le_trans (Nat.mul_le_mul bt7 b182) (by decide)
  have q206 : Dy (n194 - n205) 1074 (FP.dsub d194 d205) := dy_sub q194 q205 (own_subb b194 b205 (by decide)) (by decide)
  refine g_dsub X201 hx (pc' := 73) (z := (FP.dsub d194 d205)) rfl (hb hby d2_72) (dy_noNaN q206) rfl ?_
  refine g_absD (fun d206 hd206 => ?_)
  rw [← hd206] at q206
  obtain ⟨n206, en206⟩ : ∃ z : Int, z = n194 - n205 := ⟨_, rfl⟩
  rw [← en206] at q206
  have b206 : n206.natAbs ≤ 648 := by rw [en206]; exact Nat.le_trans (own_subl b194 b205) (by decide)
  refine g_dastore X201 hx hZ V201 (i := 4) (by decide) (show (4 : Nat) < 8 by decide) hg (pc' := 74) rfl (hb hby d2_73) (fun T207 h207 X207 W207 N207 => ?_)
  have f208 := f202.other W207 hne
  have f209 := (by have q := (Keep.of_wr W207).1; exact Nat.le_trans f203 q : n0 ≤ h207.size)
  have f210 := f204.wr W207 (Or.inl (List.mem_of_getElem? (i := 0) rfl))
  have V207 : AD Z h207 ca [c0, c1, d182, d188, d206, d200, c6, c7] := N207
  refine g_iincC X207 hx (pc' := 77) (x := (0 : Int32)) (z := (1 : Int32)) rfl (hb hby d2_74) rfl (by decide) (l' := #[.val (.ref ta), .val (.int (3 : Int32)), .val (.int (3 : Int32)), .val (.ref ca), .val (.int (2 : Int32)), .val (.int (2 : Int32)), .val (.int (4 : Int32)), .val (.int (1 : Int32)), .val (.double t7), .second, .val (.int (2 : Int32)), .val (.int (1 : Int32))]) rfl ?_
  refine g_goto X207 hx (pc' := 47) (hb hby d2_77) (by decide) (by decide) ?_
  refine g_iload X207 hx (pc' := 49) rfl (hb hby d2_47) rfl ?_
  refine g_iload X207 hx (pc' := 51) rfl (hb hby d2_49) rfl ?_
  refine g_icmpN X207 hx (pcN := 54) (hb hby d2_51) rfl (show ¬ (¬ (1 : Int32) < (2 : Int32)) from by decide) ?_
  refine g_aloadN X207 hx (pc' := 55) rfl (hb hby d2_54) rfl rfl ?_
  refine g_iload X207 hx (pc' := 57) rfl (hb hby d2_55) rfl ?_
  refine g_iload X207 hx (pc' := 59) rfl (hb hby d2_57) rfl ?_
  refine g_iadd X207 hx (pc' := 60) rfl (hb hby d2_59) ?_
  refine g_normI (z := (5 : Int32)) (by decide) ?_
  refine g_dup2 X207 hx (pc' := 61) rfl (hb hby d2_60) rfl rfl ?_
  refine g_daload X207 hx hZ V207 (i := 5) (by decide) (show (5 : Nat) < 8 by decide) (v := d200) rfl (pc' := 62) rfl (hb hby d2_61) ?_
  refine g_dload X207 hx (pc' := 64) rfl (hb hby d2_62) rfl ?_
  refine g_aloadN X207 hx (pc' := 65) rfl (hb hby d2_64) rfl rfl ?_
  refine g_iload X207 hx (pc' := 67) rfl (hb hby d2_65) rfl ?_
  refine g_iload X207 hx (pc' := 69) rfl (hb hby d2_67) rfl ?_
  refine g_iadd X207 hx (pc' := 70) rfl (hb hby d2_69) ?_
  refine g_normI (z := (3 : Int32)) (by decide) ?_
  refine g_daload X207 hx hZ V207 (i := 3) (by decide) (show (3 : Nat) < 8 by decide) (v := d188) rfl (pc' := 71) rfl (hb hby d2_70) ?_
  have q211 : Dy (mt7 * n188) 1074 (FP.dmul t7 d188) := dy_mul yt7 q188 (by decide) (own_mb bt7 b188 (by decide)) (by decide)
  refine g_dmul X207 hx (pc' := 72) (z := (FP.dmul t7 d188)) rfl (hb hby d2_71) (dy_noNaN q211) rfl ?_
  refine g_absD (fun d211 hd211 => ?_)
  rw [← hd211] at q211
  obtain ⟨n211, en211⟩ : ∃ z : Int, z = mt7 * n188 := ⟨_, rfl⟩
  rw [← en211] at q211
  have b211 : n211.natAbs ≤ 576 := by rw [en211, Int.natAbs_mul]; exact Nat.le_trans (Nat.mul_le_mul bt7 b188) (by decide)
  have q212 : Dy (n200 - n211) 1074 (FP.dsub d200 d211) := dy_sub q200 q211 (own_subb b200 b211 (by decide)) (by decide)
  refine g_dsub X207 hx (pc' := 73) (z := (FP.dsub d200 d211)) rfl (hb hby d2_72) (dy_noNaN q212) rfl ?_
  refine g_absD (fun d212 hd212 => ?_)
  rw [← hd212] at q212
  obtain ⟨n212, en212⟩ : ∃ z : Int, z = n200 - n211 := ⟨_, rfl⟩
  rw [← en212] at q212
  have b212 : n212.natAbs ≤ 648 := by rw [en212]; exact Nat.le_trans (own_subl b200 b211) (by decide)
  refine g_dastore X207 hx hZ V207 (i := 5) (by decide) (show (5 : Nat) < 8 by decide) hg (pc' := 74) rfl (hb hby d2_73) (fun T213 h213 X213 W213 N213 => ?_)
  have f214 := f208.other W213 hne
  have f215 := (by have q := (Keep.of_wr W213).1; exact Nat.le_trans f209 q : n0 ≤ h213.size)
  have f216 := f210.wr W213 (Or.inl (List.mem_of_getElem? (i := 0) rfl))
  have V213 : AD Z h213 ca [c0, c1, d182, d188, d206, d212, c6, c7] := N213
  refine g_iincC X213 hx (pc' := 77) (x := (1 : Int32)) (z := (2 : Int32)) rfl (hb hby d2_74) rfl (by decide) (l' := #[.val (.ref ta), .val (.int (3 : Int32)), .val (.int (3 : Int32)), .val (.ref ca), .val (.int (2 : Int32)), .val (.int (2 : Int32)), .val (.int (4 : Int32)), .val (.int (1 : Int32)), .val (.double t7), .second, .val (.int (2 : Int32)), .val (.int (2 : Int32))]) rfl ?_
  refine g_goto X213 hx (pc' := 47) (hb hby d2_77) (by decide) (by decide) ?_
  refine g_iload X213 hx (pc' := 49) rfl (hb hby d2_47) rfl ?_
  refine g_iload X213 hx (pc' := 51) rfl (hb hby d2_49) rfl ?_
  refine g_icmpY X213 hx (pcY := 80) (hb hby d2_51) (by decide) (by decide) (show ¬ (2 : Int32) < (2 : Int32) from by decide) ?_
  refine g_iincC X213 hx (pc' := 83) (x := (1 : Int32)) (z := (2 : Int32)) rfl (hb hby d2_80) rfl (by decide) (l' := #[.val (.ref ta), .val (.int (3 : Int32)), .val (.int (3 : Int32)), .val (.ref ca), .val (.int (2 : Int32)), .val (.int (2 : Int32)), .val (.int (4 : Int32)), .val (.int (2 : Int32)), .val (.double t7), .second, .val (.int (2 : Int32)), .val (.int (2 : Int32))]) rfl ?_
  refine g_goto X213 hx (pc' := 19) (hb hby d2_83) (by decide) (by decide) ?_
  refine g_iload X213 hx (pc' := 21) rfl (hb hby d2_19) rfl ?_
  refine g_iload X213 hx (pc' := 23) rfl (hb hby d2_21) rfl ?_
  refine g_icmpY X213 hx (pcY := 86) (hb hby d2_23) (by decide) (by decide) (show ¬ (2 : Int32) < (2 : Int32) from by decide) ?_
  refine g_iincC X213 hx (pc' := 89) (x := (2 : Int32)) (z := (3 : Int32)) rfl (hb hby d2_86) rfl (by decide) (l' := #[.val (.ref ta), .val (.int (3 : Int32)), .val (.int (3 : Int32)), .val (.ref ca), .val (.int (2 : Int32)), .val (.int (3 : Int32)), .val (.int (4 : Int32)), .val (.int (2 : Int32)), .val (.double t7), .second, .val (.int (2 : Int32)), .val (.int (2 : Int32))]) rfl ?_
  refine g_goto X213 hx (pc' := 3) (hb hby d2_89) (by decide) (by decide) ?_
  refine g_iload X213 hx (pc' := 5) rfl (hb hby d2_3) rfl ?_
  refine g_iloadN X213 hx (pc' := 6) rfl (hb hby d2_5) rfl ?_
  refine g_icmpY X213 hx (pcY := 92) (hb hby d2_6) (by decide) (by decide) (show ¬ (3 : Int32) < (3 : Int32) from by decide) ?_
  exact g_retV X213 hx hlk hret (hb hby d2_92) (by decide) (by decide) (⟨rfl, f216, d182, (show (mc2 - mt3 * mc0) = n182 by rw [en182, en181]) ▸ q182, d188, (show (mc3 - mt3 * mc1) = n188 by rw [en188, en187]) ▸ q188, d206, (show (mc4 - mt6 * mc0 - mt7 * (mc2 - mt3 * mc0)) = n206 by rw [en206, en194, en193, en205, en182, en181]) ▸ q206, d212, (show (mc5 - mt6 * mc1 - mt7 * (mc3 - mt3 * mc1)) = n212 by rw [en212, en200, en199, en211, en188, en187]) ▸ q212, V213⟩)
set_option maxRecDepth 65536 in
set_option maxHeartbeats 40000000 in
theorem rm2_3_2_4 (l : Launch) (Z : State) (a0 : Array Value) (hw : ∀ d ∈ tables_1, d.before a0 Z = true) (ws : List Jvm.Cond) (n0 : Nat) (ta ca : Addr) (t0 : UInt64) (t1 : UInt64) (t2 : UInt64) (t3 : UInt64) (t4 : UInt64) (t5 : UInt64) (t6 : UInt64) (t7 : UInt64) (t8 : UInt64) (t9 : UInt64) (t10 : UInt64) (t11 : UInt64) (mt4 : Int) (mt8 : Int) (mt9 : Int) (c0 : UInt64) (mc0 : Int) (c1 : UInt64) (mc1 : Int) (c2 : UInt64) (mc2 : Int) (c3 : UInt64) (mc3 : Int) (c4 : UInt64) (mc4 : Int) (c5 : UInt64) (mc5 : Int) (c6 : UInt64) (mc6 : Int) (c7 : UInt64) (mc7 : Int) (h0 : Heap) (hn0 : n0 ≤ h0.size) (At : AD Z h0 ta [t0, t1, t2, t3, t4, t5, t6, t7, t8, t9, t10, t11]) (Ac : AD Z h0 ca [c0, c1, c2, c3, c4, c5, c6, c7]) (hne : ta ≠ ca) (hg : n0 ≤ ca) (yc0 : Dy mc0 1074 c0) (bc0 : mc0.natAbs ≤ 8) (yc1 : Dy mc1 1074 c1) (bc1 : mc1.natAbs ≤ 8) (yc2 : Dy mc2 1074 c2) (bc2 : mc2.natAbs ≤ 8) (yc3 : Dy mc3 1074 c3) (bc3 : mc3.natAbs ≤ 8) (yc4 : Dy mc4 1074 c4) (bc4 : mc4.natAbs ≤ 8) (yc5 : Dy mc5 1074 c5) (bc5 : mc5.natAbs ≤ 8) (yc6 : Dy mc6 1074 c6) (bc6 : mc6.natAbs ≤ 8) (yc7 : Dy mc7 1074 c7) (bc7 : mc7.natAbs ≤ 8) (yt4 : Dy mt4 1074 t4) (bt4 : mt4.natAbs ≤ 8) (yt8 : Dy mt8 1074 t8) (bt8 : mt8.natAbs ≤ 8) (yt9 : Dy mt9 1074 t9) (bt9 : mt9.natAbs ≤ 8) :
    Con l Z n0 (⟨"com/example/orthogon/orthogon/Triangular", "solveUnitLower", "([DII[DI)V"⟩ : MethodName) prog_16_method_2_code 12 none ws ({ frames := 0, cells := 0, slots := 0, locals := 0 } : Room) #[(.ref ta), (.int (4 : Int32)), (.int (3 : Int32)), (.ref ca), (.int (2 : Int32))] h0 (fun v h => v = none ∧ Keep h0 h [ca] ∧ ∃ y2 : UInt64, Dy (mc2 - mt4 * mc0) 1074 y2 ∧ ∃ y3 : UInt64, Dy (mc3 - mt4 * mc1) 1074 y3 ∧ ∃ y4 : UInt64, Dy (mc4 - mt8 * mc0 - mt9 * (mc2 - mt4 * mc0)) 1074 y4 ∧ ∃ y5 : UInt64, Dy (mc5 - mt8 * mc1 - mt9 * (mc3 - mt4 * mc1)) 1074 y5 ∧ AD Z h ca [c0, c1, y2, y3, y4, y5, c6, c7]) := by
  refine con_start (plainFor_of_name (by first | (simp [plainName, overriddenIn]; done) | decide +kernel)) (fr0 := fun m => mkF m 0 #[.val (.ref ta), .val (.int (4 : Int32)), .val (.int (3 : Int32)), .val (.ref ca), .val (.int (2 : Int32)), .unset, .unset, .unset, .unset, .unset, .unset, .unset] []) (fun m => by first | (simp [entryFrame, mkF, argsToLocals, Value.category]; done) | rfl) ?_
  intro p e s m below meth c T0 hx hZ hby hml hown hnm hret hlk X0
  replace hown : s.vm.findClass "com/example/orthogon/orthogon/Triangular" = some m.cls := hown
  replace hml : c.maxLocals = 12 := hml
  refine g_iconst X0 hx (pc' := 1) (z := (1 : Int32)) rfl (hb hby d2_0) rfl ?_
  refine g_istore X0 hx (pc' := 3) rfl (hb hby d2_1) (l' := #[.val (.ref ta), .val (.int (4 : Int32)), .val (.int (3 : Int32)), .val (.ref ca), .val (.int (2 : Int32)), .val (.int (1 : Int32)), .unset, .unset, .unset, .unset, .unset, .unset]) rfl ?_
  refine g_iload X0 hx (pc' := 5) rfl (hb hby d2_3) rfl ?_
  refine g_iloadN X0 hx (pc' := 6) rfl (hb hby d2_5) rfl ?_
  refine g_icmpN X0 hx (pcN := 9) (hb hby d2_6) rfl (show ¬ (¬ (1 : Int32) < (3 : Int32)) from by decide) ?_
  refine g_iload X0 hx (pc' := 11) rfl (hb hby d2_9) rfl ?_
  refine g_iload X0 hx (pc' := 13) rfl (hb hby d2_11) rfl ?_
  refine g_imul X0 hx (pc' := 14) rfl (hb hby d2_13) ?_
  refine g_normI (z := (2 : Int32)) (by decide) ?_
  refine g_istore X0 hx (pc' := 16) rfl (hb hby d2_14) (l' := #[.val (.ref ta), .val (.int (4 : Int32)), .val (.int (3 : Int32)), .val (.ref ca), .val (.int (2 : Int32)), .val (.int (1 : Int32)), .val (.int (2 : Int32)), .unset, .unset, .unset, .unset, .unset]) rfl ?_
  refine g_iconst X0 hx (pc' := 17) (z := (0 : Int32)) rfl (hb hby d2_16) rfl ?_
  refine g_istore X0 hx (pc' := 19) rfl (hb hby d2_17) (l' := #[.val (.ref ta), .val (.int (4 : Int32)), .val (.int (3 : Int32)), .val (.ref ca), .val (.int (2 : Int32)), .val (.int (1 : Int32)), .val (.int (2 : Int32)), .val (.int (0 : Int32)), .unset, .unset, .unset, .unset]) rfl ?_
  refine g_iload X0 hx (pc' := 21) rfl (hb hby d2_19) rfl ?_
  refine g_iload X0 hx (pc' := 23) rfl (hb hby d2_21) rfl ?_
  refine g_icmpN X0 hx (pcN := 26) (hb hby d2_23) rfl (show ¬ (¬ (0 : Int32) < (1 : Int32)) from by decide) ?_
  refine g_aloadN X0 hx (pc' := 27) rfl (hb hby d2_26) rfl rfl ?_
  refine g_iload X0 hx (pc' := 29) rfl (hb hby d2_27) rfl ?_
  refine g_iloadN X0 hx (pc' := 30) rfl (hb hby d2_29) rfl ?_
  refine g_imul X0 hx (pc' := 31) rfl (hb hby d2_30) ?_
  refine g_normI (z := (4 : Int32)) (by decide) ?_
  refine g_iload X0 hx (pc' := 33) rfl (hb hby d2_31) rfl ?_
  refine g_iadd X0 hx (pc' := 34) rfl (hb hby d2_33) ?_
  refine g_normI (z := (4 : Int32)) (by decide) ?_
  refine g_daload X0 hx hZ At (i := 4) (by decide) (show (4 : Nat) < 12 by decide) (v := t4) rfl (pc' := 35) rfl (hb hby d2_34) ?_
  refine g_dstore X0 hx (pc' := 37) rfl (hb hby d2_35) (l' := #[.val (.ref ta), .val (.int (4 : Int32)), .val (.int (3 : Int32)), .val (.ref ca), .val (.int (2 : Int32)), .val (.int (1 : Int32)), .val (.int (2 : Int32)), .val (.int (0 : Int32)), .val (.double t4), .second, .unset, .unset]) rfl ?_
  refine g_iload X0 hx (pc' := 39) rfl (hb hby d2_37) rfl ?_
  refine g_iload X0 hx (pc' := 41) rfl (hb hby d2_39) rfl ?_
  refine g_imul X0 hx (pc' := 42) rfl (hb hby d2_41) ?_
  refine g_normI (z := (0 : Int32)) (by decide) ?_
  refine g_istore X0 hx (pc' := 44) rfl (hb hby d2_42) (l' := #[.val (.ref ta), .val (.int (4 : Int32)), .val (.int (3 : Int32)), .val (.ref ca), .val (.int (2 : Int32)), .val (.int (1 : Int32)), .val (.int (2 : Int32)), .val (.int (0 : Int32)), .val (.double t4), .second, .val (.int (0 : Int32)), .unset]) rfl ?_
  refine g_iconst X0 hx (pc' := 45) (z := (0 : Int32)) rfl (hb hby d2_44) rfl ?_
  refine g_istore X0 hx (pc' := 47) rfl (hb hby d2_45) (l' := #[.val (.ref ta), .val (.int (4 : Int32)), .val (.int (3 : Int32)), .val (.ref ca), .val (.int (2 : Int32)), .val (.int (1 : Int32)), .val (.int (2 : Int32)), .val (.int (0 : Int32)), .val (.double t4), .second, .val (.int (0 : Int32)), .val (.int (0 : Int32))]) rfl ?_
  refine g_iload X0 hx (pc' := 49) rfl (hb hby d2_47) rfl ?_
  refine g_iload X0 hx (pc' := 51) rfl (hb hby d2_49) rfl ?_
  refine g_icmpN X0 hx (pcN := 54) (hb hby d2_51) rfl (show ¬ (¬ (0 : Int32) < (2 : Int32)) from by decide) ?_
  refine g_aloadN X0 hx (pc' := 55) rfl (hb hby d2_54) rfl rfl ?_
  refine g_iload X0 hx (pc' := 57) rfl (hb hby d2_55) rfl ?_
  refine g_iload X0 hx (pc' := 59) rfl (hb hby d2_57) rfl ?_
  refine g_iadd X0 hx (pc' := 60) rfl (hb hby d2_59) ?_
  refine g_normI (z := (2 : Int32)) (by decide) ?_
  refine g_dup2 X0 hx (pc' := 61) rfl (hb hby d2_60) rfl rfl ?_
  refine g_daload X0 hx hZ Ac (i := 2) (by decide) (show (2 : Nat) < 8 by decide) (v := c2) rfl (pc' := 62) rfl (hb hby d2_61) ?_
  refine g_dload X0 hx (pc' := 64) rfl (hb hby d2_62) rfl ?_
  refine g_aloadN X0 hx (pc' := 65) rfl (hb hby d2_64) rfl rfl ?_
  refine g_iload X0 hx (pc' := 67) rfl (hb hby d2_65) rfl ?_
  refine g_iload X0 hx (pc' := 69) rfl (hb hby d2_67) rfl ?_
  refine g_iadd X0 hx (pc' := 70) rfl (hb hby d2_69) ?_
  refine g_normI (z := (0 : Int32)) (by decide) ?_
  refine g_daload X0 hx hZ Ac (i := 0) (by decide) (show (0 : Nat) < 8 by decide) (v := c0) rfl (pc' := 71) rfl (hb hby d2_70) ?_
  have q253 : Dy (mt4 * mc0) 1074 (FP.dmul t4 c0) := dy_mul yt4 yc0 (by decide) (own_mb bt4 bc0 (by decide)) (by decide)
  refine g_dmul X0 hx (pc' := 72) (z := (FP.dmul t4 c0)) rfl (hb hby d2_71) (dy_noNaN q253) rfl ?_
  refine g_absD (fun d253 hd253 => ?_)
  rw [← hd253] at q253
  obtain ⟨n253, en253⟩ : ∃ z : Int, z = mt4 * mc0 := ⟨_, rfl⟩
  rw [← en253] at q253
  have b253 : n253.natAbs ≤ 64 := by rw [en253, Int.natAbs_mul]; exact Nat.le_trans (Nat.mul_le_mul bt4 bc0) (by decide)
  have q254 : Dy (mc2 - n253) 1074 (FP.dsub c2 d253) := dy_sub yc2 q253 (own_subb bc2 b253 (by decide)) (by decide)
  refine g_dsub X0 hx (pc' := 73) (z := (FP.dsub c2 d253)) rfl (hb hby d2_72) (dy_noNaN q254) rfl ?_
  refine g_absD (fun d254 hd254 => ?_)
  rw [← hd254] at q254
  obtain ⟨n254, en254⟩ : ∃ z : Int, z = mc2 - n253 := ⟨_, rfl⟩
  rw [← en254] at q254
  have b254 : n254.natAbs ≤ 72 := by rw [en254]; exact Nat.le_trans (own_subl bc2 b253) (by decide)
  refine g_dastore X0 hx hZ Ac (i := 2) (by decide) (show (2 : Nat) < 8 by decide) hg (pc' := 74) rfl (hb hby d2_73) (fun T255 h255 X255 W255 N255 => ?_)
  have f256 := At.other W255 hne
  have f257 := (by have q := (Keep.of_wr W255).1; exact Nat.le_trans hn0 q : n0 ≤ h255.size)
  have f258 := (Keep.refl h0 [ca]).wr W255 (Or.inl (List.mem_of_getElem? (i := 0) rfl))
  have V255 : AD Z h255 ca [c0, c1, d254, c3, c4, c5, c6, c7] := N255
  refine g_iincC X255 hx (pc' := 77) (x := (0 : Int32)) (z := (1 : Int32)) rfl (hb hby d2_74) rfl (by decide) (l' := #[.val (.ref ta), .val (.int (4 : Int32)), .val (.int (3 : Int32)), .val (.ref ca), .val (.int (2 : Int32)), .val (.int (1 : Int32)), .val (.int (2 : Int32)), .val (.int (0 : Int32)), .val (.double t4), .second, .val (.int (0 : Int32)), .val (.int (1 : Int32))]) rfl ?_
  refine g_goto X255 hx (pc' := 47) (hb hby d2_77) (by decide) (by decide) ?_
  refine g_iload X255 hx (pc' := 49) rfl (hb hby d2_47) rfl ?_
  refine g_iload X255 hx (pc' := 51) rfl (hb hby d2_49) rfl ?_
  refine g_icmpN X255 hx (pcN := 54) (hb hby d2_51) rfl (show ¬ (¬ (1 : Int32) < (2 : Int32)) from by decide) ?_
  refine g_aloadN X255 hx (pc' := 55) rfl (hb hby d2_54) rfl rfl ?_
  refine g_iload X255 hx (pc' := 57) rfl (hb hby d2_55) rfl ?_
  refine g_iload X255 hx (pc' := 59) rfl (hb hby d2_57) rfl ?_
  refine g_iadd X255 hx (pc' := 60) rfl (hb hby d2_59) ?_
  refine g_normI (z := (3 : Int32)) (by decide) ?_
  refine g_dup2 X255 hx (pc' := 61) rfl (hb hby d2_60) rfl rfl ?_
  refine g_daload X255 hx hZ V255 (i := 3) (by decide) (show (3 : Nat) < 8 by decide) (v := c3) rfl (pc' := 62) rfl (hb hby d2_61) ?_
  refine g_dload X255 hx (pc' := 64) rfl (hb hby d2_62) rfl ?_
  refine g_aloadN X255 hx (pc' := 65) rfl (hb hby d2_64) rfl rfl ?_
  refine g_iload X255 hx (pc' := 67) rfl (hb hby d2_65) rfl ?_
  refine g_iload X255 hx (pc' := 69) rfl (hb hby d2_67) rfl ?_
  refine g_iadd X255 hx (pc' := 70) rfl (hb hby d2_69) ?_
  refine g_normI (z := (1 : Int32)) (by decide) ?_
  refine g_daload X255 hx hZ V255 (i := 1) (by decide) (show (1 : Nat) < 8 by decide) (v := c1) rfl (pc' := 71) rfl (hb hby d2_70) ?_
  have q259 : Dy (mt4 * mc1) 1074 (FP.dmul t4 c1) := dy_mul yt4 yc1 (by decide) (own_mb bt4 bc1 (by decide)) (by decide)
  refine g_dmul X255 hx (pc' := 72) (z := (FP.dmul t4 c1)) rfl (hb hby d2_71) (dy_noNaN q259) rfl ?_
  refine g_absD (fun d259 hd259 => ?_)
  rw [← hd259] at q259
  obtain ⟨n259, en259⟩ : ∃ z : Int, z = mt4 * mc1 := ⟨_, rfl⟩
  rw [← en259] at q259
  have b259 : n259.natAbs ≤ 64 := by rw [en259, Int.natAbs_mul]; exact Nat.le_trans (Nat.mul_le_mul bt4 bc1) (by decide)
  have q260 : Dy (mc3 - n259) 1074 (FP.dsub c3 d259) := dy_sub yc3 q259 (own_subb bc3 b259 (by decide)) (by decide)
  refine g_dsub X255 hx (pc' := 73) (z := (FP.dsub c3 d259)) rfl (hb hby d2_72) (dy_noNaN q260) rfl ?_
  refine g_absD (fun d260 hd260 => ?_)
  rw [← hd260] at q260
  obtain ⟨n260, en260⟩ : ∃ z : Int, z = mc3 - n259 := ⟨_, rfl⟩
  rw [← en260] at q260
  have b260 : n260.natAbs ≤ 72 := by rw [en260]; exact Nat.le_trans (own_subl bc3 b259) (by decide)
  refine g_dastore X255 hx hZ V255 (i := 3) (by decide) (show (3 : Nat) < 8 by decide) hg (pc' := 74) rfl (hb hby d2_73) (fun T261 h261 X261 W261 N261 => ?_)
  have f262 := f256.other W261 hne
  have f263 := (by have q := (Keep.of_wr W261).1; exact Nat.le_trans f257 q : n0 ≤ h261.size)
  have f264 := f258.wr W261 (Or.inl (List.mem_of_getElem? (i := 0) rfl))
  have V261 : AD Z h261 ca [c0, c1, d254, d260, c4, c5, c6, c7] := N261
  refine g_iincC X261 hx (pc' := 77) (x := (1 : Int32)) (z := (2 : Int32)) rfl (hb hby d2_74) rfl (by decide) (l' := #[.val (.ref ta), .val (.int (4 : Int32)), .val (.int (3 : Int32)), .val (.ref ca), .val (.int (2 : Int32)), .val (.int (1 : Int32)), .val (.int (2 : Int32)), .val (.int (0 : Int32)), .val (.double t4), .second, .val (.int (0 : Int32)), .val (.int (2 : Int32))]) rfl ?_
  refine g_goto X261 hx (pc' := 47) (hb hby d2_77) (by decide) (by decide) ?_
  refine g_iload X261 hx (pc' := 49) rfl (hb hby d2_47) rfl ?_
  refine g_iload X261 hx (pc' := 51) rfl (hb hby d2_49) rfl ?_
  refine g_icmpY X261 hx (pcY := 80) (hb hby d2_51) (by decide) (by decide) (show ¬ (2 : Int32) < (2 : Int32) from by decide) ?_
  refine g_iincC X261 hx (pc' := 83) (x := (0 : Int32)) (z := (1 : Int32)) rfl (hb hby d2_80) rfl (by decide) (l' := #[.val (.ref ta), .val (.int (4 : Int32)), .val (.int (3 : Int32)), .val (.ref ca), .val (.int (2 : Int32)), .val (.int (1 : Int32)), .val (.int (2 : Int32)), .val (.int (1 : Int32)), .val (.double t4), .second, .val (.int (0 : Int32)), .val (.int (2 : Int32))]) rfl ?_
  refine g_goto X261 hx (pc' := 19) (hb hby d2_83) (by decide) (by decide) ?_
  refine g_iload X261 hx (pc' := 21) rfl (hb hby d2_19) rfl ?_
  refine g_iload X261 hx (pc' := 23) rfl (hb hby d2_21) rfl ?_
  refine g_icmpY X261 hx (pcY := 86) (hb hby d2_23) (by decide) (by decide) (show ¬ (1 : Int32) < (1 : Int32) from by decide) ?_
  refine g_iincC X261 hx (pc' := 89) (x := (1 : Int32)) (z := (2 : Int32)) rfl (hb hby d2_86) rfl (by decide) (l' := #[.val (.ref ta), .val (.int (4 : Int32)), .val (.int (3 : Int32)), .val (.ref ca), .val (.int (2 : Int32)), .val (.int (2 : Int32)), .val (.int (2 : Int32)), .val (.int (1 : Int32)), .val (.double t4), .second, .val (.int (0 : Int32)), .val (.int (2 : Int32))]) rfl ?_
  refine g_goto X261 hx (pc' := 3) (hb hby d2_89) (by decide) (by decide) ?_
  refine g_iload X261 hx (pc' := 5) rfl (hb hby d2_3) rfl ?_
  refine g_iloadN X261 hx (pc' := 6) rfl (hb hby d2_5) rfl ?_
  refine g_icmpN X261 hx (pcN := 9) (hb hby d2_6) rfl (show ¬ (¬ (2 : Int32) < (3 : Int32)) from by decide) ?_
  refine g_iload X261 hx (pc' := 11) rfl (hb hby d2_9) rfl ?_
  refine g_iload X261 hx (pc' := 13) rfl (hb hby d2_11) rfl ?_
  refine g_imul X261 hx (pc' := 14) rfl (hb hby d2_13) ?_
  refine g_normI (z := (4 : Int32)) (by decide) ?_
  refine g_istore X261 hx (pc' := 16) rfl (hb hby d2_14) (l' := #[.val (.ref ta), .val (.int (4 : Int32)), .val (.int (3 : Int32)), .val (.ref ca), .val (.int (2 : Int32)), .val (.int (2 : Int32)), .val (.int (4 : Int32)), .val (.int (1 : Int32)), .val (.double t4), .second, .val (.int (0 : Int32)), .val (.int (2 : Int32))]) rfl ?_
  refine g_iconst X261 hx (pc' := 17) (z := (0 : Int32)) rfl (hb hby d2_16) rfl ?_
  refine g_istore X261 hx (pc' := 19) rfl (hb hby d2_17) (l' := #[.val (.ref ta), .val (.int (4 : Int32)), .val (.int (3 : Int32)), .val (.ref ca), .val (.int (2 : Int32)), .val (.int (2 : Int32)), .val (.int (4 : Int32)), .val (.int (0 : Int32)), .val (.double t4), .second, .val (.int (0 : Int32)), .val (.int (2 : Int32))]) rfl ?_
  refine g_iload X261 hx (pc' := 21) rfl (hb hby d2_19) rfl ?_
  refine g_iload X261 hx (pc' := 23) rfl (hb hby d2_21) rfl ?_
  refine g_icmpN X261 hx (pcN := 26) (hb hby d2_23) rfl (show ¬ (¬ (0 : Int32) < (2 : Int32)) from by decide) ?_
  refine g_aloadN X261 hx (pc' := 27) rfl (hb hby d2_26) rfl rfl ?_
  refine g_iload X261 hx (pc' := 29) rfl (hb hby d2_27) rfl ?_
  refine g_iloadN X261 hx (pc' := 30) rfl (hb hby d2_29) rfl ?_
  refine g_imul X261 hx (pc' := 31) rfl (hb hby d2_30) ?_
  refine g_normI (z := (8 : Int32)) (by decide) ?_
  refine g_iload X261 hx (pc' := 33) rfl (hb hby d2_31) rfl ?_
  refine g_iadd X261 hx (pc' := 34) rfl (hb hby d2_33) ?_
  refine g_normI (z := (8 : Int32)) (by decide) ?_
  refine g_daload X261 hx hZ f262 (i := 8) (by decide) (show (8 : Nat) < 12 by decide) (v := t8) rfl (pc' := 35) rfl (hb hby d2_34) ?_
  refine g_dstore X261 hx (pc' := 37) rfl (hb hby d2_35) (l' := #[.val (.ref ta), .val (.int (4 : Int32)), .val (.int (3 : Int32)), .val (.ref ca), .val (.int (2 : Int32)), .val (.int (2 : Int32)), .val (.int (4 : Int32)), .val (.int (0 : Int32)), .val (.double t8), .second, .val (.int (0 : Int32)), .val (.int (2 : Int32))]) rfl ?_
  refine g_iload X261 hx (pc' := 39) rfl (hb hby d2_37) rfl ?_
  refine g_iload X261 hx (pc' := 41) rfl (hb hby d2_39) rfl ?_
  refine g_imul X261 hx (pc' := 42) rfl (hb hby d2_41) ?_
  refine g_normI (z := (0 : Int32)) (by decide) ?_
  refine g_istore X261 hx (pc' := 44) rfl (hb hby d2_42) (l' := #[.val (.ref ta), .val (.int (4 : Int32)), .val (.int (3 : Int32)), .val (.ref ca), .val (.int (2 : Int32)), .val (.int (2 : Int32)), .val (.int (4 : Int32)), .val (.int (0 : Int32)), .val (.double t8), .second, .val (.int (0 : Int32)), .val (.int (2 : Int32))]) rfl ?_
  refine g_iconst X261 hx (pc' := 45) (z := (0 : Int32)) rfl (hb hby d2_44) rfl ?_
  refine g_istore X261 hx (pc' := 47) rfl (hb hby d2_45) (l' := #[.val (.ref ta), .val (.int (4 : Int32)), .val (.int (3 : Int32)), .val (.ref ca), .val (.int (2 : Int32)), .val (.int (2 : Int32)), .val (.int (4 : Int32)), .val (.int (0 : Int32)), .val (.double t8), .second, .val (.int (0 : Int32)), .val (.int (0 : Int32))]) rfl ?_
  refine g_iload X261 hx (pc' := 49) rfl (hb hby d2_47) rfl ?_
  refine g_iload X261 hx (pc' := 51) rfl (hb hby d2_49) rfl ?_
  refine g_icmpN X261 hx (pcN := 54) (hb hby d2_51) rfl (show ¬ (¬ (0 : Int32) < (2 : Int32)) from by decide) ?_
  refine g_aloadN X261 hx (pc' := 55) rfl (hb hby d2_54) rfl rfl ?_
  refine g_iload X261 hx (pc' := 57) rfl (hb hby d2_55) rfl ?_
  refine g_iload X261 hx (pc' := 59) rfl (hb hby d2_57) rfl ?_
  refine g_iadd X261 hx (pc' := 60) rfl (hb hby d2_59) ?_
  refine g_normI (z := (4 : Int32)) (by decide) ?_
  refine g_dup2 X261 hx (pc' := 61) rfl (hb hby d2_60) rfl rfl ?_
  refine g_daload X261 hx hZ V261 (i := 4) (by decide) (show (4 : Nat) < 8 by decide) (v := c4) rfl (pc' := 62) rfl (hb hby d2_61) ?_
  refine g_dload X261 hx (pc' := 64) rfl (hb hby d2_62) rfl ?_
  refine g_aloadN X261 hx (pc' := 65) rfl (hb hby d2_64) rfl rfl ?_
  refine g_iload X261 hx (pc' := 67) rfl (hb hby d2_65) rfl ?_
  refine g_iload X261 hx (pc' := 69) rfl (hb hby d2_67) rfl ?_
  refine g_iadd X261 hx (pc' := 70) rfl (hb hby d2_69) ?_
  refine g_normI (z := (0 : Int32)) (by decide) ?_
  refine g_daload X261 hx hZ V261 (i := 0) (by decide) (show (0 : Nat) < 8 by decide) (v := c0) rfl (pc' := 71) rfl (hb hby d2_70) ?_
  have q265 : Dy (mt8 * mc0) 1074 (FP.dmul t8 c0) := dy_mul yt8 yc0 (by decide) (own_mb bt8 bc0 (by decide)) (by decide)
  refine g_dmul X261 hx (pc' := 72) (z := (FP.dmul t8 c0)) rfl (hb hby d2_71) (dy_noNaN q265) rfl ?_
  refine g_absD (fun d265 hd265 => ?_)
  rw [← hd265] at q265
  obtain ⟨n265, en265⟩ : ∃ z : Int, z = mt8 * mc0 := ⟨_, rfl⟩
  rw [← en265] at q265
  have b265 : n265.natAbs ≤ 64 := by rw [en265, Int.natAbs_mul]; exact Nat.le_trans (Nat.mul_le_mul bt8 bc0) (by decide)
  have q266 : Dy (mc4 - n265) 1074 (FP.dsub c4 d265) := dy_sub yc4 q265 (own_subb bc4 b265 (by decide)) (by decide)
  refine g_dsub X261 hx (pc' := 73) (z := (FP.dsub c4 d265)) rfl (hb hby d2_72) (dy_noNaN q266) rfl ?_
  refine g_absD (fun d266 hd266 => ?_)
  rw [← hd266] at q266
  obtain ⟨n266, en266⟩ : ∃ z : Int, z = mc4 - n265 := ⟨_, rfl⟩
  rw [← en266] at q266
  have b266 : n266.natAbs ≤ 72 := by rw [en266]; exact Nat.le_trans (own_subl bc4 b265) (by decide)
  refine g_dastore X261 hx hZ V261 (i := 4) (by decide) (show (4 : Nat) < 8 by decide) hg (pc' := 74) rfl (hb hby d2_73) (fun T267 h267 X267 W267 N267 => ?_)
  have f268 := f262.other W267 hne
  have f269 := (by have q := (Keep.of_wr W267).1; exact Nat.le_trans f263 q : n0 ≤ h267.size)
  have f270 := f264.wr W267 (Or.inl (List.mem_of_getElem? (i := 0) rfl))
  have V267 : AD Z h267 ca [c0, c1, d254, d260, d266, c5, c6, c7] := N267
  refine g_iincC X267 hx (pc' := 77) (x := (0 : Int32)) (z := (1 : Int32)) rfl (hb hby d2_74) rfl (by decide) (l' := #[.val (.ref ta), .val (.int (4 : Int32)), .val (.int (3 : Int32)), .val (.ref ca), .val (.int (2 : Int32)), .val (.int (2 : Int32)), .val (.int (4 : Int32)), .val (.int (0 : Int32)), .val (.double t8), .second, .val (.int (0 : Int32)), .val (.int (1 : Int32))]) rfl ?_
  refine g_goto X267 hx (pc' := 47) (hb hby d2_77) (by decide) (by decide) ?_
  refine g_iload X267 hx (pc' := 49) rfl (hb hby d2_47) rfl ?_
  refine g_iload X267 hx (pc' := 51) rfl (hb hby d2_49) rfl ?_
  refine g_icmpN X267 hx (pcN := 54) (hb hby d2_51) rfl (show ¬ (¬ (1 : Int32) < (2 : Int32)) from by decide) ?_
  refine g_aloadN X267 hx (pc' := 55) rfl (hb hby d2_54) rfl rfl ?_
  refine g_iload X267 hx (pc' := 57) rfl (hb hby d2_55) rfl ?_
  refine g_iload X267 hx (pc' := 59) rfl (hb hby d2_57) rfl ?_
  refine g_iadd X267 hx (pc' := 60) rfl (hb hby d2_59) ?_
  refine g_normI (z := (5 : Int32)) (by decide) ?_
  refine g_dup2 X267 hx (pc' := 61) rfl (hb hby d2_60) rfl rfl ?_
  refine g_daload X267 hx hZ V267 (i := 5) (by decide) (show (5 : Nat) < 8 by decide) (v := c5) rfl (pc' := 62) rfl (hb hby d2_61) ?_
  refine g_dload X267 hx (pc' := 64) rfl (hb hby d2_62) rfl ?_
  refine g_aloadN X267 hx (pc' := 65) rfl (hb hby d2_64) rfl rfl ?_
  refine g_iload X267 hx (pc' := 67) rfl (hb hby d2_65) rfl ?_
  refine g_iload X267 hx (pc' := 69) rfl (hb hby d2_67) rfl ?_
  refine g_iadd X267 hx (pc' := 70) rfl (hb hby d2_69) ?_
  refine g_normI (z := (1 : Int32)) (by decide) ?_
  refine g_daload X267 hx hZ V267 (i := 1) (by decide) (show (1 : Nat) < 8 by decide) (v := c1) rfl (pc' := 71) rfl (hb hby d2_70) ?_
  have q271 : Dy (mt8 * mc1) 1074 (FP.dmul t8 c1) := dy_mul yt8 yc1 (by decide) (own_mb bt8 bc1 (by decide)) (by decide)
  refine g_dmul X267 hx (pc' := 72) (z := (FP.dmul t8 c1)) rfl (hb hby d2_71) (dy_noNaN q271) rfl ?_
  refine g_absD (fun d271 hd271 => ?_)
  rw [← hd271] at q271
  obtain ⟨n271, en271⟩ : ∃ z : Int, z = mt8 * mc1 := ⟨_, rfl⟩
  rw [← en271] at q271
  have b271 : n271.natAbs ≤ 64 := by rw [en271, Int.natAbs_mul]; exact Nat.le_trans (Nat.mul_le_mul bt8 bc1) (by decide)
  have q272 : Dy (mc5 - n271) 1074 (FP.dsub c5 d271) := dy_sub yc5 q271 (own_subb bc5 b271 (by decide)) (by decide)
  refine g_dsub X267 hx (pc' := 73) (z := (FP.dsub c5 d271)) rfl (hb hby d2_72) (dy_noNaN q272) rfl ?_
  refine g_absD (fun d272 hd272 => ?_)
  rw [← hd272] at q272
  obtain ⟨n272, en272⟩ : ∃ z : Int, z = mc5 - n271 := ⟨_, rfl⟩
  rw [← en272] at q272
  have b272 : n272.natAbs ≤ 72 := by rw [en272]; exact Nat.le_trans (own_subl bc5 b271) (by decide)
  refine g_dastore X267 hx hZ V267 (i := 5) (by decide) (show (5 : Nat) < 8 by decide) hg (pc' := 74) rfl (hb hby d2_73) (fun T273 h273 X273 W273 N273 => ?_)
  have f274 := f268.other W273 hne
  have f275 := (by have q := (Keep.of_wr W273).1; exact Nat.le_trans f269 q : n0 ≤ h273.size)
  have f276 := f270.wr W273 (Or.inl (List.mem_of_getElem? (i := 0) rfl))
  have V273 : AD Z h273 ca [c0, c1, d254, d260, d266, d272, c6, c7] := N273
  refine g_iincC X273 hx (pc' := 77) (x := (1 : Int32)) (z := (2 : Int32)) rfl (hb hby d2_74) rfl (by decide) (l' := #[.val (.ref ta), .val (.int (4 : Int32)), .val (.int (3 : Int32)), .val (.ref ca), .val (.int (2 : Int32)), .val (.int (2 : Int32)), .val (.int (4 : Int32)), .val (.int (0 : Int32)), .val (.double t8), .second, .val (.int (0 : Int32)), .val (.int (2 : Int32))]) rfl ?_
  refine g_goto X273 hx (pc' := 47) (hb hby d2_77) (by decide) (by decide) ?_
  refine g_iload X273 hx (pc' := 49) rfl (hb hby d2_47) rfl ?_
  refine g_iload X273 hx (pc' := 51) rfl (hb hby d2_49) rfl ?_
  refine g_icmpY X273 hx (pcY := 80) (hb hby d2_51) (by decide) (by decide) (show ¬ (2 : Int32) < (2 : Int32) from by decide) ?_
  refine g_iincC X273 hx (pc' := 83) (x := (0 : Int32)) (z := (1 : Int32)) rfl (hb hby d2_80) rfl (by decide) (l' := #[.val (.ref ta), .val (.int (4 : Int32)), .val (.int (3 : Int32)), .val (.ref ca), .val (.int (2 : Int32)), .val (.int (2 : Int32)), .val (.int (4 : Int32)), .val (.int (1 : Int32)), .val (.double t8), .second, .val (.int (0 : Int32)), .val (.int (2 : Int32))]) rfl ?_
  refine g_goto X273 hx (pc' := 19) (hb hby d2_83) (by decide) (by decide) ?_
  refine g_iload X273 hx (pc' := 21) rfl (hb hby d2_19) rfl ?_
  refine g_iload X273 hx (pc' := 23) rfl (hb hby d2_21) rfl ?_
  refine g_icmpN X273 hx (pcN := 26) (hb hby d2_23) rfl (show ¬ (¬ (1 : Int32) < (2 : Int32)) from by decide) ?_
  refine g_aloadN X273 hx (pc' := 27) rfl (hb hby d2_26) rfl rfl ?_
  refine g_iload X273 hx (pc' := 29) rfl (hb hby d2_27) rfl ?_
  refine g_iloadN X273 hx (pc' := 30) rfl (hb hby d2_29) rfl ?_
  refine g_imul X273 hx (pc' := 31) rfl (hb hby d2_30) ?_
  refine g_normI (z := (8 : Int32)) (by decide) ?_
  refine g_iload X273 hx (pc' := 33) rfl (hb hby d2_31) rfl ?_
  refine g_iadd X273 hx (pc' := 34) rfl (hb hby d2_33) ?_
  refine g_normI (z := (9 : Int32)) (by decide) ?_
  refine g_daload X273 hx hZ f274 (i := 9) (by decide) (show (9 : Nat) < 12 by decide) (v := t9) rfl (pc' := 35) rfl (hb hby d2_34) ?_
  refine g_dstore X273 hx (pc' := 37) rfl (hb hby d2_35) (l' := #[.val (.ref ta), .val (.int (4 : Int32)), .val (.int (3 : Int32)), .val (.ref ca), .val (.int (2 : Int32)), .val (.int (2 : Int32)), .val (.int (4 : Int32)), .val (.int (1 : Int32)), .val (.double t9), .second, .val (.int (0 : Int32)), .val (.int (2 : Int32))]) rfl ?_
  refine g_iload X273 hx (pc' := 39) rfl (hb hby d2_37) rfl ?_
  refine g_iload X273 hx (pc' := 41) rfl (hb hby d2_39) rfl ?_
  refine g_imul X273 hx (pc' := 42) rfl (hb hby d2_41) ?_
  refine g_normI (z := (2 : Int32)) (by decide) ?_
  refine g_istore X273 hx (pc' := 44) rfl (hb hby d2_42) (l' := #[.val (.ref ta), .val (.int (4 : Int32)), .val (.int (3 : Int32)), .val (.ref ca), .val (.int (2 : Int32)), .val (.int (2 : Int32)), .val (.int (4 : Int32)), .val (.int (1 : Int32)), .val (.double t9), .second, .val (.int (2 : Int32)), .val (.int (2 : Int32))]) rfl ?_
  refine g_iconst X273 hx (pc' := 45) (z := (0 : Int32)) rfl (hb hby d2_44) rfl ?_
  refine g_istore X273 hx (pc' := 47) rfl (hb hby d2_45) (l' := #[.val (.ref ta), .val (.int (4 : Int32)), .val (.int (3 : Int32)), .val (.ref ca), .val (.int (2 : Int32)), .val (.int (2 : Int32)), .val (.int (4 : Int32)), .val (.int (1 : Int32)), .val (.double t9), .second, .val (.int (2 : Int32)), .val (.int (0 : Int32))]) rfl ?_
  refine g_iload X273 hx (pc' := 49) rfl (hb hby d2_47) rfl ?_
  refine g_iload X273 hx (pc' := 51) rfl (hb hby d2_49) rfl ?_
  refine g_icmpN X273 hx (pcN := 54) (hb hby d2_51) rfl (show ¬ (¬ (0 : Int32) < (2 : Int32)) from by decide) ?_
  refine g_aloadN X273 hx (pc' := 55) rfl (hb hby d2_54) rfl rfl ?_
  refine g_iload X273 hx (pc' := 57) rfl (hb hby d2_55) rfl ?_
  refine g_iload X273 hx (pc' := 59) rfl (hb hby d2_57) rfl ?_
  refine g_iadd X273 hx (pc' := 60) rfl (hb hby d2_59) ?_
  refine g_normI (z := (4 : Int32)) (by decide) ?_
  refine g_dup2 X273 hx (pc' := 61) rfl (hb hby d2_60) rfl rfl ?_
  refine g_daload X273 hx hZ V273 (i := 4) (by decide) (show (4 : Nat) < 8 by decide) (v := d266) rfl (pc' := 62) rfl (hb hby d2_61) ?_
  refine g_dload X273 hx (pc' := 64) rfl (hb hby d2_62) rfl ?_
  refine g_aloadN X273 hx (pc' := 65) rfl (hb hby d2_64) rfl rfl ?_
  refine g_iload X273 hx (pc' := 67) rfl (hb hby d2_65) rfl ?_
  refine g_iload X273 hx (pc' := 69) rfl (hb hby d2_67) rfl ?_
  refine g_iadd X273 hx (pc' := 70) rfl (hb hby d2_69) ?_
  refine g_normI (z := (2 : Int32)) (by decide) ?_
  refine g_daload X273 hx hZ V273 (i := 2) (by decide) (show (2 : Nat) < 8 by decide) (v := d254) rfl (pc' := 71) rfl (hb hby d2_70) ?_
  have q277 : Dy (mt9 * n254) 1074 (FP.dmul t9 d254) := dy_mul yt9 q254 (by decide) (own_mb bt9 b254 (by decide)) (by decide)
  refine g_dmul X273 hx (pc' := 72) (z := (FP.dmul t9 d254)) rfl (hb hby d2_71) (dy_noNaN q277) rfl ?_
  refine g_absD (fun d277 hd277 => ?_)
  rw [← hd277] at q277
  obtain ⟨n277, en277⟩ : ∃ z : Int, z = mt9 * n254 := ⟨_, rfl⟩
  rw [← en277] at q277
  have b277 : n277.natAbs ≤ 576 := by rw [en277, Int.natAbs_mul]; exact Nat.le_trans (Nat.mul_le_mul bt9 b254) (by decide)
  have q278 : Dy (n266 - n277) 1074 (FP.dsub d266 d277) := dy_sub q266 q277 (own_subb b266 b277 (by decide)) (by decide)
  refine g_dsub X273 hx (pc' := 73) (z := (FP.dsub d266 d277)) rfl (hb hby d2_72) (dy_noNaN q278) rfl ?_
  refine g_absD (fun d278 hd278 => ?_)
  rw [← hd278] at q278
  obtain ⟨n278, en278⟩ : ∃ z : Int, z = n266 - n277 := ⟨_, rfl⟩
  rw [← en278] at q278
  have b278 : n278.natAbs ≤ 648 := by rw [en278]; exact Nat.le_trans (own_subl b266 b277) (by decide)
  refine g_dastore X273 hx hZ V273 (i := 4) (by decide) (show (4 : Nat) < 8 by decide) hg (pc' := 74) rfl (hb hby d2_73) (fun T279 h279 X279 W279 N279 => ?_)
  have f280 := f274.other W279 hne
  have f281 := (by have q := (Keep.of_wr W279).1; exact Nat.le_trans f275 q : n0 ≤ h279.size)
  have f282 := f276.wr W279 (Or.inl (List.mem_of_getElem? (i := 0) rfl))
  have V279 : AD Z h279 ca [c0, c1, d254, d260, d278, d272, c6, c7] := N279
  refine g_iincC X279 hx (pc' := 77) (x := (0 : Int32)) (z := (1 : Int32)) rfl (hb hby d2_74) rfl (by decide) (l' := #[.val (.ref ta), .val (.int (4 : Int32)), .val (.int (3 : Int32)), .val (.ref ca), .val (.int (2 : Int32)), .val (.int (2 : Int32)), .val (.int (4 : Int32)), .val (.int (1 : Int32)), .val (.double t9), .second, .val (.int (2 : Int32)), .val (.int (1 : Int32))]) rfl ?_
  refine g_goto X279 hx (pc' := 47) (hb hby d2_77) (by decide) (by decide) ?_
  refine g_iload X279 hx (pc' := 49) rfl (hb hby d2_47) rfl ?_
  refine g_iload X279 hx (pc' := 51) rfl (hb hby d2_49) rfl ?_
  refine g_icmpN X279 hx (pcN := 54) (hb hby d2_51) rfl (show ¬ (¬ (1 : Int32) < (2 : Int32)) from by decide) ?_
  refine g_aloadN X279 hx (pc' := 55) rfl (hb hby d2_54) rfl rfl ?_
  refine g_iload X279 hx (pc' := 57) rfl (hb hby d2_55) rfl ?_
  refine g_iload X279 hx (pc' := 59) rfl (hb hby d2_57) rfl ?_
  refine g_iadd X279 hx (pc' := 60) rfl (hb hby d2_59) ?_
  refine g_normI (z := (5 : Int32)) (by decide) ?_
  refine g_dup2 X279 hx (pc' := 61) rfl (hb hby d2_60) rfl rfl ?_
  refine g_daload X279 hx hZ V279 (i := 5) (by decide) (show (5 : Nat) < 8 by decide) (v := d272) rfl (pc' := 62) rfl (hb hby d2_61) ?_
  refine g_dload X279 hx (pc' := 64) rfl (hb hby d2_62) rfl ?_
  refine g_aloadN X279 hx (pc' := 65) rfl (hb hby d2_64) rfl rfl ?_
  refine g_iload X279 hx (pc' := 67) rfl (hb hby d2_65) rfl ?_
  refine g_iload X279 hx (pc' := 69) rfl (hb hby d2_67) rfl ?_
  refine g_iadd X279 hx (pc' := 70) rfl (hb hby d2_69) ?_
  refine g_normI (z := (3 : Int32)) (by decide) ?_
  refine g_daload X279 hx hZ V279 (i := 3) (by decide) (show (3 : Nat) < 8 by decide) (v := d260) rfl (pc' := 71) rfl (hb hby d2_70) ?_
  have q283 : Dy (mt9 * n260) 1074 (FP.dmul t9 d260) := dy_mul yt9 q260 (by decide) (own_mb bt9 b260 (by decide)) (by decide)
  refine g_dmul X279 hx (pc' := 72) (z := (FP.dmul t9 d260)) rfl (hb hby d2_71) (dy_noNaN q283) rfl ?_
  refine g_absD (fun d283 hd283 => ?_)
  rw [← hd283] at q283
  obtain ⟨n283, en283⟩ : ∃ z : Int, z = mt9 * n260 := ⟨_, rfl⟩
  rw [← en283] at q283
  have b283 : n283.natAbs ≤ 576 := by rw [en283, Int.natAbs_mul]; exact Nat.le_trans (Nat.mul_le_mul bt9 b260) (by decide)
  have q284 : Dy (n272 - n283) 1074 (FP.dsub d272 d283) := dy_sub q272 q283 (own_subb b272 b283 (by decide)) (by decide)
  refine g_dsub X279 hx (pc' := 73) (z := (FP.dsub d272 d283)) rfl (hb hby d2_72) (dy_noNaN q284) rfl ?_
  refine g_absD (fun d284 hd284 => ?_)
  rw [← hd284] at q284
  obtain ⟨n284, en284⟩ : ∃ z : Int, z = n272 - n283 := ⟨_, rfl⟩
  rw [← en284] at q284
  have b284 : n284.natAbs ≤ 648 := by rw [en284]; exact Nat.le_trans (own_subl b272 b283) (by decide)
  refine g_dastore X279 hx hZ V279 (i := 5) (by decide) (show (5 : Nat) < 8 by decide) hg (pc' := 74) rfl (hb hby d2_73) (fun T285 h285 X285 W285 N285 => ?_)
  have f286 := f280.other W285 hne
  have f287 := (by have q := (Keep.of_wr W285).1; exact Nat.le_trans f281 q : n0 ≤ h285.size)
  have f288 := f282.wr W285 (Or.inl (List.mem_of_getElem? (i := 0) rfl))
  have V285 : AD Z h285 ca [c0, c1, d254, d260, d278, d284, c6, c7] := N285
  refine g_iincC X285 hx (pc' := 77) (x := (1 : Int32)) (z := (2 : Int32)) rfl (hb hby d2_74) rfl (by decide) (l' := #[.val (.ref ta), .val (.int (4 : Int32)), .val (.int (3 : Int32)), .val (.ref ca), .val (.int (2 : Int32)), .val (.int (2 : Int32)), .val (.int (4 : Int32)), .val (.int (1 : Int32)), .val (.double t9), .second, .val (.int (2 : Int32)), .val (.int (2 : Int32))]) rfl ?_
  refine g_goto X285 hx (pc' := 47) (hb hby d2_77) (by decide) (by decide) ?_
  refine g_iload X285 hx (pc' := 49) rfl (hb hby d2_47) rfl ?_
  refine g_iload X285 hx (pc' := 51) rfl (hb hby d2_49) rfl ?_
  refine g_icmpY X285 hx (pcY := 80) (hb hby d2_51) (by decide) (by decide) (show ¬ (2 : Int32) < (2 : Int32) from by decide) ?_
  refine g_iincC X285 hx (pc' := 83) (x := (1 : Int32)) (z := (2 : Int32)) rfl (hb hby d2_80) rfl (by decide) (l' := #[.val (.ref ta), .val (.int (4 : Int32)), .val (.int (3 : Int32)), .val (.ref ca), .val (.int (2 : Int32)), .val (.int (2 : Int32)), .val (.int (4 : Int32)), .val (.int (2 : Int32)), .val (.double t9), .second, .val (.int (2 : Int32)), .val (.int (2 : Int32))]) rfl ?_
  refine g_goto X285 hx (pc' := 19) (hb hby d2_83) (by decide) (by decide) ?_
  refine g_iload X285 hx (pc' := 21) rfl (hb hby d2_19) rfl ?_
  refine g_iload X285 hx (pc' := 23) rfl (hb hby d2_21) rfl ?_
  refine g_icmpY X285 hx (pcY := 86) (hb hby d2_23) (by decide) (by decide) (show ¬ (2 : Int32) < (2 : Int32) from by decide) ?_
  refine g_iincC X285 hx (pc' := 89) (x := (2 : Int32)) (z := (3 : Int32)) rfl (hb hby d2_86) rfl (by decide) (l' := #[.val (.ref ta), .val (.int (4 : Int32)), .val (.int (3 : Int32)), .val (.ref ca), .val (.int (2 : Int32)), .val (.int (3 : Int32)), .val (.int (4 : Int32)), .val (.int (2 : Int32)), .val (.double t9), .second, .val (.int (2 : Int32)), .val (.int (2 : Int32))]) rfl ?_
  refine g_goto X285 hx (pc' := 3) (hb hby d2_89) (by decide) (by decide) ?_
  refine g_iload X285 hx (pc' := 5) rfl (hb hby d2_3) rfl ?_
  refine g_iloadN X285 hx (pc' := 6) rfl (hb hby d2_5) rfl ?_
  refine g_icmpY X285 hx (pcY := 92) (hb hby d2_6) (by decide) (by decide) (show ¬ (3 : Int32) < (3 : Int32) from by decide) ?_
  exact g_retV X285 hx hlk hret (hb hby d2_92) (by decide) (by decide) (⟨rfl, f288, d254, (show (mc2 - mt4 * mc0) = n254 by rw [en254, en253]) ▸ q254, d260, (show (mc3 - mt4 * mc1) = n260 by rw [en260, en259]) ▸ q260, d278, (show (mc4 - mt8 * mc0 - mt9 * (mc2 - mt4 * mc0)) = n278 by rw [en278, en266, en265, en277, en254, en253]) ▸ q278, d284, (show (mc5 - mt8 * mc1 - mt9 * (mc3 - mt4 * mc1)) = n284 by rw [en284, en272, en271, en283, en260, en259]) ▸ q284, V285⟩)
set_option maxRecDepth 65536 in
set_option maxHeartbeats 40000000 in
theorem rm3_0_1_0 (l : Launch) (Z : State) (a0 : Array Value) (hw : ∀ d ∈ tables_1, d.before a0 Z = true) (ws : List Jvm.Cond) (n0 : Nat) (ca oa : Addr) (c0 o0 : UInt64) (c1 o1 : UInt64) (c2 o2 : UInt64) (c3 o3 : UInt64) (c4 o4 : UInt64) (c5 o5 : UInt64) (c6 o6 : UInt64) (c7 o7 : UInt64) (mc0 mo0 : Int) (mc1 mo1 : Int) (mc2 mo2 : Int) (mc3 mo3 : Int) (l10 l20 l21 : UInt64) (ml10 ml20 ml21 : Int) (h0 : Heap) (hn0 : n0 ≤ h0.size) (Ac : AD Z h0 ca [c0, c1, c2, c3, c4, c5, c6, c7]) (Ao : AD Z h0 oa [o0, o1, o2, o3, o4, o5, o6, o7]) (yc0 : Dy mc0 1074 c0) (bc0 : mc0.natAbs ≤ 100000) (yo0 : Dy mo0 1074 o0) (bo0 : mo0.natAbs ≤ 8) (yc1 : Dy mc1 1074 c1) (bc1 : mc1.natAbs ≤ 100000) (yo1 : Dy mo1 1074 o1) (bo1 : mo1.natAbs ≤ 8) (yc2 : Dy mc2 1074 c2) (bc2 : mc2.natAbs ≤ 100000) (yo2 : Dy mo2 1074 o2) (bo2 : mo2.natAbs ≤ 8) (yc3 : Dy mc3 1074 c3) (bc3 : mc3.natAbs ≤ 100000) (yo3 : Dy mo3 1074 o3) (bo3 : mo3.natAbs ≤ 8) (yl10 : Dy ml10 1074 l10) (bl10 : ml10.natAbs ≤ 8) (yl20 : Dy ml20 1074 l20) (bl20 : ml20.natAbs ≤ 8) (yl21 : Dy ml21 1074 l21) (bl21 : ml21.natAbs ≤ 8) (e0 : mc0 = mo0) (e1 : mc1 = mo1) (e2 : mc2 = mo2) (e3 : mc3 = mo3) :
    Con l Z n0 (⟨"com/example/orthogon/orthogon/TriangularSolveUnitLowerPinLaw", "col", "([D[DIIIDDD)Z"⟩ : MethodName) method_3_code 23 (some .boolean) ws ({ frames := 0, cells := 0, slots := 0, locals := 0 } : Room) #[(.ref ca), (.ref oa), (.int (1 : Int32)), (.int (0 : Int32)), (.int (0 : Int32)), (.double l10), (.double l20), (.double l21)] h0 (fun v h => v = some (.int 1) ∧ h = h0) := by
  refine con_start (plainFor_of_name (by first | (simp [plainName, overriddenIn]; done) | decide +kernel)) (fr0 := fun m => mkF m 0 #[.val (.ref ca), .val (.ref oa), .val (.int (1 : Int32)), .val (.int (0 : Int32)), .val (.int (0 : Int32)), .val (.double l10), .second, .val (.double l20), .second, .val (.double l21), .second, .unset, .unset, .unset, .unset, .unset, .unset, .unset, .unset, .unset, .unset, .unset, .unset] []) (fun m => by first | (simp [entryFrame, mkF, argsToLocals, Value.category]; done) | rfl) ?_
  intro p e s m below meth c T0 hx hZ hby hml hown hnm hret hlk X0
  replace hown : s.vm.findClass "com/example/orthogon/orthogon/TriangularSolveUnitLowerPinLaw" = some m.cls := hown
  replace hml : c.maxLocals = 23 := hml
  refine g_aloadN X0 hx (pc' := 1) rfl (hb hby d3_0) rfl rfl ?_
  refine g_iloadN X0 hx (pc' := 2) rfl (hb hby d3_1) rfl ?_
  refine g_daload X0 hx hZ Ac (i := 0) (by decide) (show (0 : Nat) < 8 by decide) (v := c0) rfl (pc' := 3) rfl (hb hby d3_2) ?_
  refine g_dstore X0 hx (pc' := 5) rfl (hb hby d3_3) (l' := #[.val (.ref ca), .val (.ref oa), .val (.int (1 : Int32)), .val (.int (0 : Int32)), .val (.int (0 : Int32)), .val (.double l10), .second, .val (.double l20), .second, .val (.double l21), .second, .val (.double c0), .second, .unset, .unset, .unset, .unset, .unset, .unset, .unset, .unset, .unset, .unset]) rfl ?_
  refine g_aloadN X0 hx (pc' := 6) rfl (hb hby d3_5) rfl rfl ?_
  refine g_iloadN X0 hx (pc' := 7) rfl (hb hby d3_6) rfl ?_
  refine g_iloadN X0 hx (pc' := 8) rfl (hb hby d3_7) rfl ?_
  refine g_iadd X0 hx (pc' := 9) rfl (hb hby d3_8) ?_
  refine g_normI (z := (1 : Int32)) (by decide) ?_
  refine g_daload X0 hx hZ Ac (i := 1) (by decide) (show (1 : Nat) < 8 by decide) (v := c1) rfl (pc' := 10) rfl (hb hby d3_9) ?_
  refine g_dstore X0 hx (pc' := 12) rfl (hb hby d3_10) (l' := #[.val (.ref ca), .val (.ref oa), .val (.int (1 : Int32)), .val (.int (0 : Int32)), .val (.int (0 : Int32)), .val (.double l10), .second, .val (.double l20), .second, .val (.double l21), .second, .val (.double c0), .second, .val (.double c1), .second, .unset, .unset, .unset, .unset, .unset, .unset, .unset, .unset]) rfl ?_
  refine g_aloadN X0 hx (pc' := 13) rfl (hb hby d3_12) rfl rfl ?_
  refine g_iconst X0 hx (pc' := 14) (z := (2 : Int32)) rfl (hb hby d3_13) rfl ?_
  refine g_iloadN X0 hx (pc' := 15) rfl (hb hby d3_14) rfl ?_
  refine g_imul X0 hx (pc' := 16) rfl (hb hby d3_15) ?_
  refine g_normI (z := (2 : Int32)) (by decide) ?_
  refine g_iloadN X0 hx (pc' := 17) rfl (hb hby d3_16) rfl ?_
  refine g_iadd X0 hx (pc' := 18) rfl (hb hby d3_17) ?_
  refine g_normI (z := (2 : Int32)) (by decide) ?_
  refine g_daload X0 hx hZ Ac (i := 2) (by decide) (show (2 : Nat) < 8 by decide) (v := c2) rfl (pc' := 19) rfl (hb hby d3_18) ?_
  refine g_dstore X0 hx (pc' := 21) rfl (hb hby d3_19) (l' := #[.val (.ref ca), .val (.ref oa), .val (.int (1 : Int32)), .val (.int (0 : Int32)), .val (.int (0 : Int32)), .val (.double l10), .second, .val (.double l20), .second, .val (.double l21), .second, .val (.double c0), .second, .val (.double c1), .second, .val (.double c2), .second, .unset, .unset, .unset, .unset, .unset, .unset]) rfl ?_
  refine g_aloadN X0 hx (pc' := 22) rfl (hb hby d3_21) rfl rfl ?_
  refine g_iconst X0 hx (pc' := 23) (z := (3 : Int32)) rfl (hb hby d3_22) rfl ?_
  refine g_iloadN X0 hx (pc' := 24) rfl (hb hby d3_23) rfl ?_
  refine g_imul X0 hx (pc' := 25) rfl (hb hby d3_24) ?_
  refine g_normI (z := (3 : Int32)) (by decide) ?_
  refine g_iloadN X0 hx (pc' := 26) rfl (hb hby d3_25) rfl ?_
  refine g_iadd X0 hx (pc' := 27) rfl (hb hby d3_26) ?_
  refine g_normI (z := (3 : Int32)) (by decide) ?_
  refine g_daload X0 hx hZ Ac (i := 3) (by decide) (show (3 : Nat) < 8 by decide) (v := c3) rfl (pc' := 28) rfl (hb hby d3_27) ?_
  refine g_dstore X0 hx (pc' := 30) rfl (hb hby d3_28) (l' := #[.val (.ref ca), .val (.ref oa), .val (.int (1 : Int32)), .val (.int (0 : Int32)), .val (.int (0 : Int32)), .val (.double l10), .second, .val (.double l20), .second, .val (.double l21), .second, .val (.double c0), .second, .val (.double c1), .second, .val (.double c2), .second, .val (.double c3), .second, .unset, .unset, .unset, .unset]) rfl ?_
  refine g_dload X0 hx (pc' := 32) rfl (hb hby d3_30) rfl ?_
  refine g_aloadN X0 hx (pc' := 33) rfl (hb hby d3_32) rfl rfl ?_
  refine g_iloadN X0 hx (pc' := 34) rfl (hb hby d3_33) rfl ?_
  refine g_daload X0 hx hZ Ao (i := 0) (by decide) (show (0 : Nat) < 8 by decide) (v := o0) rfl (pc' := 35) rfl (hb hby d3_34) ?_
  refine g_dcmp X0 hx (pc' := 36) (z := (0 : Int32)) rfl (hb hby d3_35) (own_dyeq yc0 yo0 (by exact e0)) ?_
  refine g_ifN X0 hx (pcN := 39) (hb hby d3_36) rfl (show ¬ (¬ (0 : Int32) = 0) from by decide) ?_
  refine g_iconst X0 hx (pc' := 40) (z := (1 : Int32)) rfl (hb hby d3_39) rfl ?_
  refine g_goto X0 hx (pc' := 44) (hb hby d3_40) (by decide) (by decide) ?_
  refine g_istore X0 hx (pc' := 46) rfl (hb hby d3_44) (l' := #[.val (.ref ca), .val (.ref oa), .val (.int (1 : Int32)), .val (.int (0 : Int32)), .val (.int (0 : Int32)), .val (.double l10), .second, .val (.double l20), .second, .val (.double l21), .second, .val (.double c0), .second, .val (.double c1), .second, .val (.double c2), .second, .val (.double c3), .second, .val (.int (1 : Int32)), .unset, .unset, .unset]) rfl ?_
  refine g_iload X0 hx (pc' := 48) rfl (hb hby d3_46) rfl ?_
  refine g_iconst X0 hx (pc' := 49) (z := (1 : Int32)) rfl (hb hby d3_48) rfl ?_
  refine g_icmpY X0 hx (pcY := 77) (hb hby d3_49) (by decide) (by decide) (show ¬ (1 : Int32) < (0 : Int32) from by decide) ?_
  refine g_dload X0 hx (pc' := 79) rfl (hb hby d3_77) rfl ?_
  refine g_aloadN X0 hx (pc' := 80) rfl (hb hby d3_79) rfl rfl ?_
  refine g_iloadN X0 hx (pc' := 81) rfl (hb hby d3_80) rfl ?_
  refine g_iloadN X0 hx (pc' := 82) rfl (hb hby d3_81) rfl ?_
  refine g_iadd X0 hx (pc' := 83) rfl (hb hby d3_82) ?_
  refine g_normI (z := (1 : Int32)) (by decide) ?_
  refine g_daload X0 hx hZ Ao (i := 1) (by decide) (show (1 : Nat) < 8 by decide) (v := o1) rfl (pc' := 84) rfl (hb hby d3_83) ?_
  refine g_dcmp X0 hx (pc' := 85) (z := (0 : Int32)) rfl (hb hby d3_84) (own_dyeq yc1 yo1 (by exact e1)) ?_
  refine g_ifN X0 hx (pcN := 88) (hb hby d3_85) rfl (show ¬ (¬ (0 : Int32) = 0) from by decide) ?_
  refine g_iconst X0 hx (pc' := 89) (z := (1 : Int32)) rfl (hb hby d3_88) rfl ?_
  refine g_goto X0 hx (pc' := 93) (hb hby d3_89) (by decide) (by decide) ?_
  refine g_istore X0 hx (pc' := 95) rfl (hb hby d3_93) (l' := #[.val (.ref ca), .val (.ref oa), .val (.int (1 : Int32)), .val (.int (0 : Int32)), .val (.int (0 : Int32)), .val (.double l10), .second, .val (.double l20), .second, .val (.double l21), .second, .val (.double c0), .second, .val (.double c1), .second, .val (.double c2), .second, .val (.double c3), .second, .val (.int (1 : Int32)), .val (.int (1 : Int32)), .unset, .unset]) rfl ?_
  refine g_iload X0 hx (pc' := 97) rfl (hb hby d3_95) rfl ?_
  refine g_iconst X0 hx (pc' := 98) (z := (2 : Int32)) rfl (hb hby d3_97) rfl ?_
  refine g_icmpY X0 hx (pcY := 134) (hb hby d3_98) (by decide) (by decide) (show ¬ (2 : Int32) < (0 : Int32) from by decide) ?_
  refine g_dload X0 hx (pc' := 136) rfl (hb hby d3_134) rfl ?_
  refine g_aloadN X0 hx (pc' := 137) rfl (hb hby d3_136) rfl rfl ?_
  refine g_iconst X0 hx (pc' := 138) (z := (2 : Int32)) rfl (hb hby d3_137) rfl ?_
  refine g_iloadN X0 hx (pc' := 139) rfl (hb hby d3_138) rfl ?_
  refine g_imul X0 hx (pc' := 140) rfl (hb hby d3_139) ?_
  refine g_normI (z := (2 : Int32)) (by decide) ?_
  refine g_iloadN X0 hx (pc' := 141) rfl (hb hby d3_140) rfl ?_
  refine g_iadd X0 hx (pc' := 142) rfl (hb hby d3_141) ?_
  refine g_normI (z := (2 : Int32)) (by decide) ?_
  refine g_daload X0 hx hZ Ao (i := 2) (by decide) (show (2 : Nat) < 8 by decide) (v := o2) rfl (pc' := 143) rfl (hb hby d3_142) ?_
  refine g_dcmp X0 hx (pc' := 144) (z := (0 : Int32)) rfl (hb hby d3_143) (own_dyeq yc2 yo2 (by exact e2)) ?_
  refine g_ifN X0 hx (pcN := 147) (hb hby d3_144) rfl (show ¬ (¬ (0 : Int32) = 0) from by decide) ?_
  refine g_iconst X0 hx (pc' := 148) (z := (1 : Int32)) rfl (hb hby d3_147) rfl ?_
  refine g_goto X0 hx (pc' := 152) (hb hby d3_148) (by decide) (by decide) ?_
  refine g_istore X0 hx (pc' := 154) rfl (hb hby d3_152) (l' := #[.val (.ref ca), .val (.ref oa), .val (.int (1 : Int32)), .val (.int (0 : Int32)), .val (.int (0 : Int32)), .val (.double l10), .second, .val (.double l20), .second, .val (.double l21), .second, .val (.double c0), .second, .val (.double c1), .second, .val (.double c2), .second, .val (.double c3), .second, .val (.int (1 : Int32)), .val (.int (1 : Int32)), .val (.int (1 : Int32)), .unset]) rfl ?_
  refine g_dload X0 hx (pc' := 156) rfl (hb hby d3_154) rfl ?_
  refine g_aloadN X0 hx (pc' := 157) rfl (hb hby d3_156) rfl rfl ?_
  refine g_iconst X0 hx (pc' := 158) (z := (3 : Int32)) rfl (hb hby d3_157) rfl ?_
  refine g_iloadN X0 hx (pc' := 159) rfl (hb hby d3_158) rfl ?_
  refine g_imul X0 hx (pc' := 160) rfl (hb hby d3_159) ?_
  refine g_normI (z := (3 : Int32)) (by decide) ?_
  refine g_iloadN X0 hx (pc' := 161) rfl (hb hby d3_160) rfl ?_
  refine g_iadd X0 hx (pc' := 162) rfl (hb hby d3_161) ?_
  refine g_normI (z := (3 : Int32)) (by decide) ?_
  refine g_daload X0 hx hZ Ao (i := 3) (by decide) (show (3 : Nat) < 8 by decide) (v := o3) rfl (pc' := 163) rfl (hb hby d3_162) ?_
  refine g_dcmp X0 hx (pc' := 164) (z := (0 : Int32)) rfl (hb hby d3_163) (own_dyeq yc3 yo3 (by exact e3)) ?_
  refine g_ifN X0 hx (pcN := 167) (hb hby d3_164) rfl (show ¬ (¬ (0 : Int32) = 0) from by decide) ?_
  refine g_iconst X0 hx (pc' := 168) (z := (1 : Int32)) rfl (hb hby d3_167) rfl ?_
  refine g_goto X0 hx (pc' := 172) (hb hby d3_168) (by decide) (by decide) ?_
  refine g_istore X0 hx (pc' := 174) rfl (hb hby d3_172) (l' := #[.val (.ref ca), .val (.ref oa), .val (.int (1 : Int32)), .val (.int (0 : Int32)), .val (.int (0 : Int32)), .val (.double l10), .second, .val (.double l20), .second, .val (.double l21), .second, .val (.double c0), .second, .val (.double c1), .second, .val (.double c2), .second, .val (.double c3), .second, .val (.int (1 : Int32)), .val (.int (1 : Int32)), .val (.int (1 : Int32)), .val (.int (1 : Int32))]) rfl ?_
  refine g_iload X0 hx (pc' := 176) rfl (hb hby d3_174) rfl ?_
  refine g_ifN X0 hx (pcN := 179) (hb hby d3_176) rfl (show ¬ ((1 : Int32) = 0) from by decide) ?_
  refine g_iload X0 hx (pc' := 181) rfl (hb hby d3_179) rfl ?_
  refine g_ifN X0 hx (pcN := 184) (hb hby d3_181) rfl (show ¬ ((1 : Int32) = 0) from by decide) ?_
  refine g_iload X0 hx (pc' := 186) rfl (hb hby d3_184) rfl ?_
  refine g_ifN X0 hx (pcN := 189) (hb hby d3_186) rfl (show ¬ ((1 : Int32) = 0) from by decide) ?_
  refine g_iload X0 hx (pc' := 191) rfl (hb hby d3_189) rfl ?_
  refine g_ifN X0 hx (pcN := 194) (hb hby d3_191) rfl (show ¬ ((1 : Int32) = 0) from by decide) ?_
  refine g_iconst X0 hx (pc' := 195) (z := (1 : Int32)) rfl (hb hby d3_194) rfl ?_
  refine g_goto X0 hx (pc' := 199) (hb hby d3_195) (by decide) (by decide) ?_
  exact g_retZ X0 hx hlk hret (by first | exact Or.inl rfl | exact Or.inr rfl) (hb hby d3_199) (by decide) (by decide) (⟨rfl, rfl⟩)
set_option maxRecDepth 65536 in
set_option maxHeartbeats 40000000 in
theorem rm3_0_2_0 (l : Launch) (Z : State) (a0 : Array Value) (hw : ∀ d ∈ tables_1, d.before a0 Z = true) (ws : List Jvm.Cond) (n0 : Nat) (ca oa : Addr) (c0 o0 : UInt64) (c1 o1 : UInt64) (c2 o2 : UInt64) (c3 o3 : UInt64) (c4 o4 : UInt64) (c5 o5 : UInt64) (c6 o6 : UInt64) (c7 o7 : UInt64) (mc0 mo0 : Int) (mc2 mo2 : Int) (mc4 mo4 : Int) (mc6 mo6 : Int) (l10 l20 l21 : UInt64) (ml10 ml20 ml21 : Int) (h0 : Heap) (hn0 : n0 ≤ h0.size) (Ac : AD Z h0 ca [c0, c1, c2, c3, c4, c5, c6, c7]) (Ao : AD Z h0 oa [o0, o1, o2, o3, o4, o5, o6, o7]) (yc0 : Dy mc0 1074 c0) (bc0 : mc0.natAbs ≤ 100000) (yo0 : Dy mo0 1074 o0) (bo0 : mo0.natAbs ≤ 8) (yc2 : Dy mc2 1074 c2) (bc2 : mc2.natAbs ≤ 100000) (yo2 : Dy mo2 1074 o2) (bo2 : mo2.natAbs ≤ 8) (yc4 : Dy mc4 1074 c4) (bc4 : mc4.natAbs ≤ 100000) (yo4 : Dy mo4 1074 o4) (bo4 : mo4.natAbs ≤ 8) (yc6 : Dy mc6 1074 c6) (bc6 : mc6.natAbs ≤ 100000) (yo6 : Dy mo6 1074 o6) (bo6 : mo6.natAbs ≤ 8) (yl10 : Dy ml10 1074 l10) (bl10 : ml10.natAbs ≤ 8) (yl20 : Dy ml20 1074 l20) (bl20 : ml20.natAbs ≤ 8) (yl21 : Dy ml21 1074 l21) (bl21 : ml21.natAbs ≤ 8) (e0 : mc0 = mo0) (e1 : mc2 = mo2) (e2 : mc4 = mo4) (e3 : mc6 = mo6) :
    Con l Z n0 (⟨"com/example/orthogon/orthogon/TriangularSolveUnitLowerPinLaw", "col", "([D[DIIIDDD)Z"⟩ : MethodName) method_3_code 23 (some .boolean) ws ({ frames := 0, cells := 0, slots := 0, locals := 0 } : Room) #[(.ref ca), (.ref oa), (.int (2 : Int32)), (.int (0 : Int32)), (.int (0 : Int32)), (.double l10), (.double l20), (.double l21)] h0 (fun v h => v = some (.int 1) ∧ h = h0) := by
  refine con_start (plainFor_of_name (by first | (simp [plainName, overriddenIn]; done) | decide +kernel)) (fr0 := fun m => mkF m 0 #[.val (.ref ca), .val (.ref oa), .val (.int (2 : Int32)), .val (.int (0 : Int32)), .val (.int (0 : Int32)), .val (.double l10), .second, .val (.double l20), .second, .val (.double l21), .second, .unset, .unset, .unset, .unset, .unset, .unset, .unset, .unset, .unset, .unset, .unset, .unset] []) (fun m => by first | (simp [entryFrame, mkF, argsToLocals, Value.category]; done) | rfl) ?_
  intro p e s m below meth c T0 hx hZ hby hml hown hnm hret hlk X0
  replace hown : s.vm.findClass "com/example/orthogon/orthogon/TriangularSolveUnitLowerPinLaw" = some m.cls := hown
  replace hml : c.maxLocals = 23 := hml
  refine g_aloadN X0 hx (pc' := 1) rfl (hb hby d3_0) rfl rfl ?_
  refine g_iloadN X0 hx (pc' := 2) rfl (hb hby d3_1) rfl ?_
  refine g_daload X0 hx hZ Ac (i := 0) (by decide) (show (0 : Nat) < 8 by decide) (v := c0) rfl (pc' := 3) rfl (hb hby d3_2) ?_
  refine g_dstore X0 hx (pc' := 5) rfl (hb hby d3_3) (l' := #[.val (.ref ca), .val (.ref oa), .val (.int (2 : Int32)), .val (.int (0 : Int32)), .val (.int (0 : Int32)), .val (.double l10), .second, .val (.double l20), .second, .val (.double l21), .second, .val (.double c0), .second, .unset, .unset, .unset, .unset, .unset, .unset, .unset, .unset, .unset, .unset]) rfl ?_
  refine g_aloadN X0 hx (pc' := 6) rfl (hb hby d3_5) rfl rfl ?_
  refine g_iloadN X0 hx (pc' := 7) rfl (hb hby d3_6) rfl ?_
  refine g_iloadN X0 hx (pc' := 8) rfl (hb hby d3_7) rfl ?_
  refine g_iadd X0 hx (pc' := 9) rfl (hb hby d3_8) ?_
  refine g_normI (z := (2 : Int32)) (by decide) ?_
  refine g_daload X0 hx hZ Ac (i := 2) (by decide) (show (2 : Nat) < 8 by decide) (v := c2) rfl (pc' := 10) rfl (hb hby d3_9) ?_
  refine g_dstore X0 hx (pc' := 12) rfl (hb hby d3_10) (l' := #[.val (.ref ca), .val (.ref oa), .val (.int (2 : Int32)), .val (.int (0 : Int32)), .val (.int (0 : Int32)), .val (.double l10), .second, .val (.double l20), .second, .val (.double l21), .second, .val (.double c0), .second, .val (.double c2), .second, .unset, .unset, .unset, .unset, .unset, .unset, .unset, .unset]) rfl ?_
  refine g_aloadN X0 hx (pc' := 13) rfl (hb hby d3_12) rfl rfl ?_
  refine g_iconst X0 hx (pc' := 14) (z := (2 : Int32)) rfl (hb hby d3_13) rfl ?_
  refine g_iloadN X0 hx (pc' := 15) rfl (hb hby d3_14) rfl ?_
  refine g_imul X0 hx (pc' := 16) rfl (hb hby d3_15) ?_
  refine g_normI (z := (4 : Int32)) (by decide) ?_
  refine g_iloadN X0 hx (pc' := 17) rfl (hb hby d3_16) rfl ?_
  refine g_iadd X0 hx (pc' := 18) rfl (hb hby d3_17) ?_
  refine g_normI (z := (4 : Int32)) (by decide) ?_
  refine g_daload X0 hx hZ Ac (i := 4) (by decide) (show (4 : Nat) < 8 by decide) (v := c4) rfl (pc' := 19) rfl (hb hby d3_18) ?_
  refine g_dstore X0 hx (pc' := 21) rfl (hb hby d3_19) (l' := #[.val (.ref ca), .val (.ref oa), .val (.int (2 : Int32)), .val (.int (0 : Int32)), .val (.int (0 : Int32)), .val (.double l10), .second, .val (.double l20), .second, .val (.double l21), .second, .val (.double c0), .second, .val (.double c2), .second, .val (.double c4), .second, .unset, .unset, .unset, .unset, .unset, .unset]) rfl ?_
  refine g_aloadN X0 hx (pc' := 22) rfl (hb hby d3_21) rfl rfl ?_
  refine g_iconst X0 hx (pc' := 23) (z := (3 : Int32)) rfl (hb hby d3_22) rfl ?_
  refine g_iloadN X0 hx (pc' := 24) rfl (hb hby d3_23) rfl ?_
  refine g_imul X0 hx (pc' := 25) rfl (hb hby d3_24) ?_
  refine g_normI (z := (6 : Int32)) (by decide) ?_
  refine g_iloadN X0 hx (pc' := 26) rfl (hb hby d3_25) rfl ?_
  refine g_iadd X0 hx (pc' := 27) rfl (hb hby d3_26) ?_
  refine g_normI (z := (6 : Int32)) (by decide) ?_
  refine g_daload X0 hx hZ Ac (i := 6) (by decide) (show (6 : Nat) < 8 by decide) (v := c6) rfl (pc' := 28) rfl (hb hby d3_27) ?_
  refine g_dstore X0 hx (pc' := 30) rfl (hb hby d3_28) (l' := #[.val (.ref ca), .val (.ref oa), .val (.int (2 : Int32)), .val (.int (0 : Int32)), .val (.int (0 : Int32)), .val (.double l10), .second, .val (.double l20), .second, .val (.double l21), .second, .val (.double c0), .second, .val (.double c2), .second, .val (.double c4), .second, .val (.double c6), .second, .unset, .unset, .unset, .unset]) rfl ?_
  refine g_dload X0 hx (pc' := 32) rfl (hb hby d3_30) rfl ?_
  refine g_aloadN X0 hx (pc' := 33) rfl (hb hby d3_32) rfl rfl ?_
  refine g_iloadN X0 hx (pc' := 34) rfl (hb hby d3_33) rfl ?_
  refine g_daload X0 hx hZ Ao (i := 0) (by decide) (show (0 : Nat) < 8 by decide) (v := o0) rfl (pc' := 35) rfl (hb hby d3_34) ?_
  refine g_dcmp X0 hx (pc' := 36) (z := (0 : Int32)) rfl (hb hby d3_35) (own_dyeq yc0 yo0 (by exact e0)) ?_
  refine g_ifN X0 hx (pcN := 39) (hb hby d3_36) rfl (show ¬ (¬ (0 : Int32) = 0) from by decide) ?_
  refine g_iconst X0 hx (pc' := 40) (z := (1 : Int32)) rfl (hb hby d3_39) rfl ?_
  refine g_goto X0 hx (pc' := 44) (hb hby d3_40) (by decide) (by decide) ?_
  refine g_istore X0 hx (pc' := 46) rfl (hb hby d3_44) (l' := #[.val (.ref ca), .val (.ref oa), .val (.int (2 : Int32)), .val (.int (0 : Int32)), .val (.int (0 : Int32)), .val (.double l10), .second, .val (.double l20), .second, .val (.double l21), .second, .val (.double c0), .second, .val (.double c2), .second, .val (.double c4), .second, .val (.double c6), .second, .val (.int (1 : Int32)), .unset, .unset, .unset]) rfl ?_
  refine g_iload X0 hx (pc' := 48) rfl (hb hby d3_46) rfl ?_
  refine g_iconst X0 hx (pc' := 49) (z := (1 : Int32)) rfl (hb hby d3_48) rfl ?_
  refine g_icmpY X0 hx (pcY := 77) (hb hby d3_49) (by decide) (by decide) (show ¬ (1 : Int32) < (0 : Int32) from by decide) ?_
  refine g_dload X0 hx (pc' := 79) rfl (hb hby d3_77) rfl ?_
  refine g_aloadN X0 hx (pc' := 80) rfl (hb hby d3_79) rfl rfl ?_
  refine g_iloadN X0 hx (pc' := 81) rfl (hb hby d3_80) rfl ?_
  refine g_iloadN X0 hx (pc' := 82) rfl (hb hby d3_81) rfl ?_
  refine g_iadd X0 hx (pc' := 83) rfl (hb hby d3_82) ?_
  refine g_normI (z := (2 : Int32)) (by decide) ?_
  refine g_daload X0 hx hZ Ao (i := 2) (by decide) (show (2 : Nat) < 8 by decide) (v := o2) rfl (pc' := 84) rfl (hb hby d3_83) ?_
  refine g_dcmp X0 hx (pc' := 85) (z := (0 : Int32)) rfl (hb hby d3_84) (own_dyeq yc2 yo2 (by exact e1)) ?_
  refine g_ifN X0 hx (pcN := 88) (hb hby d3_85) rfl (show ¬ (¬ (0 : Int32) = 0) from by decide) ?_
  refine g_iconst X0 hx (pc' := 89) (z := (1 : Int32)) rfl (hb hby d3_88) rfl ?_
  refine g_goto X0 hx (pc' := 93) (hb hby d3_89) (by decide) (by decide) ?_
  refine g_istore X0 hx (pc' := 95) rfl (hb hby d3_93) (l' := #[.val (.ref ca), .val (.ref oa), .val (.int (2 : Int32)), .val (.int (0 : Int32)), .val (.int (0 : Int32)), .val (.double l10), .second, .val (.double l20), .second, .val (.double l21), .second, .val (.double c0), .second, .val (.double c2), .second, .val (.double c4), .second, .val (.double c6), .second, .val (.int (1 : Int32)), .val (.int (1 : Int32)), .unset, .unset]) rfl ?_
  refine g_iload X0 hx (pc' := 97) rfl (hb hby d3_95) rfl ?_
  refine g_iconst X0 hx (pc' := 98) (z := (2 : Int32)) rfl (hb hby d3_97) rfl ?_
  refine g_icmpY X0 hx (pcY := 134) (hb hby d3_98) (by decide) (by decide) (show ¬ (2 : Int32) < (0 : Int32) from by decide) ?_
  refine g_dload X0 hx (pc' := 136) rfl (hb hby d3_134) rfl ?_
  refine g_aloadN X0 hx (pc' := 137) rfl (hb hby d3_136) rfl rfl ?_
  refine g_iconst X0 hx (pc' := 138) (z := (2 : Int32)) rfl (hb hby d3_137) rfl ?_
  refine g_iloadN X0 hx (pc' := 139) rfl (hb hby d3_138) rfl ?_
  refine g_imul X0 hx (pc' := 140) rfl (hb hby d3_139) ?_
  refine g_normI (z := (4 : Int32)) (by decide) ?_
  refine g_iloadN X0 hx (pc' := 141) rfl (hb hby d3_140) rfl ?_
  refine g_iadd X0 hx (pc' := 142) rfl (hb hby d3_141) ?_
  refine g_normI (z := (4 : Int32)) (by decide) ?_
  refine g_daload X0 hx hZ Ao (i := 4) (by decide) (show (4 : Nat) < 8 by decide) (v := o4) rfl (pc' := 143) rfl (hb hby d3_142) ?_
  refine g_dcmp X0 hx (pc' := 144) (z := (0 : Int32)) rfl (hb hby d3_143) (own_dyeq yc4 yo4 (by exact e2)) ?_
  refine g_ifN X0 hx (pcN := 147) (hb hby d3_144) rfl (show ¬ (¬ (0 : Int32) = 0) from by decide) ?_
  refine g_iconst X0 hx (pc' := 148) (z := (1 : Int32)) rfl (hb hby d3_147) rfl ?_
  refine g_goto X0 hx (pc' := 152) (hb hby d3_148) (by decide) (by decide) ?_
  refine g_istore X0 hx (pc' := 154) rfl (hb hby d3_152) (l' := #[.val (.ref ca), .val (.ref oa), .val (.int (2 : Int32)), .val (.int (0 : Int32)), .val (.int (0 : Int32)), .val (.double l10), .second, .val (.double l20), .second, .val (.double l21), .second, .val (.double c0), .second, .val (.double c2), .second, .val (.double c4), .second, .val (.double c6), .second, .val (.int (1 : Int32)), .val (.int (1 : Int32)), .val (.int (1 : Int32)), .unset]) rfl ?_
  refine g_dload X0 hx (pc' := 156) rfl (hb hby d3_154) rfl ?_
  refine g_aloadN X0 hx (pc' := 157) rfl (hb hby d3_156) rfl rfl ?_
  refine g_iconst X0 hx (pc' := 158) (z := (3 : Int32)) rfl (hb hby d3_157) rfl ?_
  refine g_iloadN X0 hx (pc' := 159) rfl (hb hby d3_158) rfl ?_
  refine g_imul X0 hx (pc' := 160) rfl (hb hby d3_159) ?_
  refine g_normI (z := (6 : Int32)) (by decide) ?_
  refine g_iloadN X0 hx (pc' := 161) rfl (hb hby d3_160) rfl ?_
  refine g_iadd X0 hx (pc' := 162) rfl (hb hby d3_161) ?_
  refine g_normI (z := (6 : Int32)) (by decide) ?_
  refine g_daload X0 hx hZ Ao (i := 6) (by decide) (show (6 : Nat) < 8 by decide) (v := o6) rfl (pc' := 163) rfl (hb hby d3_162) ?_
  refine g_dcmp X0 hx (pc' := 164) (z := (0 : Int32)) rfl (hb hby d3_163) (own_dyeq yc6 yo6 (by exact e3)) ?_
  refine g_ifN X0 hx (pcN := 167) (hb hby d3_164) rfl (show ¬ (¬ (0 : Int32) = 0) from by decide) ?_
  refine g_iconst X0 hx (pc' := 168) (z := (1 : Int32)) rfl (hb hby d3_167) rfl ?_
  refine g_goto X0 hx (pc' := 172) (hb hby d3_168) (by decide) (by decide) ?_
  refine g_istore X0 hx (pc' := 174) rfl (hb hby d3_172) (l' := #[.val (.ref ca), .val (.ref oa), .val (.int (2 : Int32)), .val (.int (0 : Int32)), .val (.int (0 : Int32)), .val (.double l10), .second, .val (.double l20), .second, .val (.double l21), .second, .val (.double c0), .second, .val (.double c2), .second, .val (.double c4), .second, .val (.double c6), .second, .val (.int (1 : Int32)), .val (.int (1 : Int32)), .val (.int (1 : Int32)), .val (.int (1 : Int32))]) rfl ?_
  refine g_iload X0 hx (pc' := 176) rfl (hb hby d3_174) rfl ?_
  refine g_ifN X0 hx (pcN := 179) (hb hby d3_176) rfl (show ¬ ((1 : Int32) = 0) from by decide) ?_
  refine g_iload X0 hx (pc' := 181) rfl (hb hby d3_179) rfl ?_
  refine g_ifN X0 hx (pcN := 184) (hb hby d3_181) rfl (show ¬ ((1 : Int32) = 0) from by decide) ?_
  refine g_iload X0 hx (pc' := 186) rfl (hb hby d3_184) rfl ?_
  refine g_ifN X0 hx (pcN := 189) (hb hby d3_186) rfl (show ¬ ((1 : Int32) = 0) from by decide) ?_
  refine g_iload X0 hx (pc' := 191) rfl (hb hby d3_189) rfl ?_
  refine g_ifN X0 hx (pcN := 194) (hb hby d3_191) rfl (show ¬ ((1 : Int32) = 0) from by decide) ?_
  refine g_iconst X0 hx (pc' := 195) (z := (1 : Int32)) rfl (hb hby d3_194) rfl ?_
  refine g_goto X0 hx (pc' := 199) (hb hby d3_195) (by decide) (by decide) ?_
  exact g_retZ X0 hx hlk hret (by first | exact Or.inl rfl | exact Or.inr rfl) (hb hby d3_199) (by decide) (by decide) (⟨rfl, rfl⟩)
set_option maxRecDepth 65536 in
set_option maxHeartbeats 40000000 in
theorem rm3_0_2_1 (l : Launch) (Z : State) (a0 : Array Value) (hw : ∀ d ∈ tables_1, d.before a0 Z = true) (ws : List Jvm.Cond) (n0 : Nat) (ca oa : Addr) (c0 o0 : UInt64) (c1 o1 : UInt64) (c2 o2 : UInt64) (c3 o3 : UInt64) (c4 o4 : UInt64) (c5 o5 : UInt64) (c6 o6 : UInt64) (c7 o7 : UInt64) (mc1 mo1 : Int) (mc3 mo3 : Int) (mc5 mo5 : Int) (mc7 mo7 : Int) (l10 l20 l21 : UInt64) (ml10 ml20 ml21 : Int) (h0 : Heap) (hn0 : n0 ≤ h0.size) (Ac : AD Z h0 ca [c0, c1, c2, c3, c4, c5, c6, c7]) (Ao : AD Z h0 oa [o0, o1, o2, o3, o4, o5, o6, o7]) (yc1 : Dy mc1 1074 c1) (bc1 : mc1.natAbs ≤ 100000) (yo1 : Dy mo1 1074 o1) (bo1 : mo1.natAbs ≤ 8) (yc3 : Dy mc3 1074 c3) (bc3 : mc3.natAbs ≤ 100000) (yo3 : Dy mo3 1074 o3) (bo3 : mo3.natAbs ≤ 8) (yc5 : Dy mc5 1074 c5) (bc5 : mc5.natAbs ≤ 100000) (yo5 : Dy mo5 1074 o5) (bo5 : mo5.natAbs ≤ 8) (yc7 : Dy mc7 1074 c7) (bc7 : mc7.natAbs ≤ 100000) (yo7 : Dy mo7 1074 o7) (bo7 : mo7.natAbs ≤ 8) (yl10 : Dy ml10 1074 l10) (bl10 : ml10.natAbs ≤ 8) (yl20 : Dy ml20 1074 l20) (bl20 : ml20.natAbs ≤ 8) (yl21 : Dy ml21 1074 l21) (bl21 : ml21.natAbs ≤ 8) (e0 : mc1 = mo1) (e1 : mc3 = mo3) (e2 : mc5 = mo5) (e3 : mc7 = mo7) :
    Con l Z n0 (⟨"com/example/orthogon/orthogon/TriangularSolveUnitLowerPinLaw", "col", "([D[DIIIDDD)Z"⟩ : MethodName) method_3_code 23 (some .boolean) ws ({ frames := 0, cells := 0, slots := 0, locals := 0 } : Room) #[(.ref ca), (.ref oa), (.int (2 : Int32)), (.int (1 : Int32)), (.int (0 : Int32)), (.double l10), (.double l20), (.double l21)] h0 (fun v h => v = some (.int 1) ∧ h = h0) := by
  refine con_start (plainFor_of_name (by first | (simp [plainName, overriddenIn]; done) | decide +kernel)) (fr0 := fun m => mkF m 0 #[.val (.ref ca), .val (.ref oa), .val (.int (2 : Int32)), .val (.int (1 : Int32)), .val (.int (0 : Int32)), .val (.double l10), .second, .val (.double l20), .second, .val (.double l21), .second, .unset, .unset, .unset, .unset, .unset, .unset, .unset, .unset, .unset, .unset, .unset, .unset] []) (fun m => by first | (simp [entryFrame, mkF, argsToLocals, Value.category]; done) | rfl) ?_
  intro p e s m below meth c T0 hx hZ hby hml hown hnm hret hlk X0
  replace hown : s.vm.findClass "com/example/orthogon/orthogon/TriangularSolveUnitLowerPinLaw" = some m.cls := hown
  replace hml : c.maxLocals = 23 := hml
  refine g_aloadN X0 hx (pc' := 1) rfl (hb hby d3_0) rfl rfl ?_
  refine g_iloadN X0 hx (pc' := 2) rfl (hb hby d3_1) rfl ?_
  refine g_daload X0 hx hZ Ac (i := 1) (by decide) (show (1 : Nat) < 8 by decide) (v := c1) rfl (pc' := 3) rfl (hb hby d3_2) ?_
  refine g_dstore X0 hx (pc' := 5) rfl (hb hby d3_3) (l' := #[.val (.ref ca), .val (.ref oa), .val (.int (2 : Int32)), .val (.int (1 : Int32)), .val (.int (0 : Int32)), .val (.double l10), .second, .val (.double l20), .second, .val (.double l21), .second, .val (.double c1), .second, .unset, .unset, .unset, .unset, .unset, .unset, .unset, .unset, .unset, .unset]) rfl ?_
  refine g_aloadN X0 hx (pc' := 6) rfl (hb hby d3_5) rfl rfl ?_
  refine g_iloadN X0 hx (pc' := 7) rfl (hb hby d3_6) rfl ?_
  refine g_iloadN X0 hx (pc' := 8) rfl (hb hby d3_7) rfl ?_
  refine g_iadd X0 hx (pc' := 9) rfl (hb hby d3_8) ?_
  refine g_normI (z := (3 : Int32)) (by decide) ?_
  refine g_daload X0 hx hZ Ac (i := 3) (by decide) (show (3 : Nat) < 8 by decide) (v := c3) rfl (pc' := 10) rfl (hb hby d3_9) ?_
  refine g_dstore X0 hx (pc' := 12) rfl (hb hby d3_10) (l' := #[.val (.ref ca), .val (.ref oa), .val (.int (2 : Int32)), .val (.int (1 : Int32)), .val (.int (0 : Int32)), .val (.double l10), .second, .val (.double l20), .second, .val (.double l21), .second, .val (.double c1), .second, .val (.double c3), .second, .unset, .unset, .unset, .unset, .unset, .unset, .unset, .unset]) rfl ?_
  refine g_aloadN X0 hx (pc' := 13) rfl (hb hby d3_12) rfl rfl ?_
  refine g_iconst X0 hx (pc' := 14) (z := (2 : Int32)) rfl (hb hby d3_13) rfl ?_
  refine g_iloadN X0 hx (pc' := 15) rfl (hb hby d3_14) rfl ?_
  refine g_imul X0 hx (pc' := 16) rfl (hb hby d3_15) ?_
  refine g_normI (z := (4 : Int32)) (by decide) ?_
  refine g_iloadN X0 hx (pc' := 17) rfl (hb hby d3_16) rfl ?_
  refine g_iadd X0 hx (pc' := 18) rfl (hb hby d3_17) ?_
  refine g_normI (z := (5 : Int32)) (by decide) ?_
  refine g_daload X0 hx hZ Ac (i := 5) (by decide) (show (5 : Nat) < 8 by decide) (v := c5) rfl (pc' := 19) rfl (hb hby d3_18) ?_
  refine g_dstore X0 hx (pc' := 21) rfl (hb hby d3_19) (l' := #[.val (.ref ca), .val (.ref oa), .val (.int (2 : Int32)), .val (.int (1 : Int32)), .val (.int (0 : Int32)), .val (.double l10), .second, .val (.double l20), .second, .val (.double l21), .second, .val (.double c1), .second, .val (.double c3), .second, .val (.double c5), .second, .unset, .unset, .unset, .unset, .unset, .unset]) rfl ?_
  refine g_aloadN X0 hx (pc' := 22) rfl (hb hby d3_21) rfl rfl ?_
  refine g_iconst X0 hx (pc' := 23) (z := (3 : Int32)) rfl (hb hby d3_22) rfl ?_
  refine g_iloadN X0 hx (pc' := 24) rfl (hb hby d3_23) rfl ?_
  refine g_imul X0 hx (pc' := 25) rfl (hb hby d3_24) ?_
  refine g_normI (z := (6 : Int32)) (by decide) ?_
  refine g_iloadN X0 hx (pc' := 26) rfl (hb hby d3_25) rfl ?_
  refine g_iadd X0 hx (pc' := 27) rfl (hb hby d3_26) ?_
  refine g_normI (z := (7 : Int32)) (by decide) ?_
  refine g_daload X0 hx hZ Ac (i := 7) (by decide) (show (7 : Nat) < 8 by decide) (v := c7) rfl (pc' := 28) rfl (hb hby d3_27) ?_
  refine g_dstore X0 hx (pc' := 30) rfl (hb hby d3_28) (l' := #[.val (.ref ca), .val (.ref oa), .val (.int (2 : Int32)), .val (.int (1 : Int32)), .val (.int (0 : Int32)), .val (.double l10), .second, .val (.double l20), .second, .val (.double l21), .second, .val (.double c1), .second, .val (.double c3), .second, .val (.double c5), .second, .val (.double c7), .second, .unset, .unset, .unset, .unset]) rfl ?_
  refine g_dload X0 hx (pc' := 32) rfl (hb hby d3_30) rfl ?_
  refine g_aloadN X0 hx (pc' := 33) rfl (hb hby d3_32) rfl rfl ?_
  refine g_iloadN X0 hx (pc' := 34) rfl (hb hby d3_33) rfl ?_
  refine g_daload X0 hx hZ Ao (i := 1) (by decide) (show (1 : Nat) < 8 by decide) (v := o1) rfl (pc' := 35) rfl (hb hby d3_34) ?_
  refine g_dcmp X0 hx (pc' := 36) (z := (0 : Int32)) rfl (hb hby d3_35) (own_dyeq yc1 yo1 (by exact e0)) ?_
  refine g_ifN X0 hx (pcN := 39) (hb hby d3_36) rfl (show ¬ (¬ (0 : Int32) = 0) from by decide) ?_
  refine g_iconst X0 hx (pc' := 40) (z := (1 : Int32)) rfl (hb hby d3_39) rfl ?_
  refine g_goto X0 hx (pc' := 44) (hb hby d3_40) (by decide) (by decide) ?_
  refine g_istore X0 hx (pc' := 46) rfl (hb hby d3_44) (l' := #[.val (.ref ca), .val (.ref oa), .val (.int (2 : Int32)), .val (.int (1 : Int32)), .val (.int (0 : Int32)), .val (.double l10), .second, .val (.double l20), .second, .val (.double l21), .second, .val (.double c1), .second, .val (.double c3), .second, .val (.double c5), .second, .val (.double c7), .second, .val (.int (1 : Int32)), .unset, .unset, .unset]) rfl ?_
  refine g_iload X0 hx (pc' := 48) rfl (hb hby d3_46) rfl ?_
  refine g_iconst X0 hx (pc' := 49) (z := (1 : Int32)) rfl (hb hby d3_48) rfl ?_
  refine g_icmpY X0 hx (pcY := 77) (hb hby d3_49) (by decide) (by decide) (show ¬ (1 : Int32) < (0 : Int32) from by decide) ?_
  refine g_dload X0 hx (pc' := 79) rfl (hb hby d3_77) rfl ?_
  refine g_aloadN X0 hx (pc' := 80) rfl (hb hby d3_79) rfl rfl ?_
  refine g_iloadN X0 hx (pc' := 81) rfl (hb hby d3_80) rfl ?_
  refine g_iloadN X0 hx (pc' := 82) rfl (hb hby d3_81) rfl ?_
  refine g_iadd X0 hx (pc' := 83) rfl (hb hby d3_82) ?_
  refine g_normI (z := (3 : Int32)) (by decide) ?_
  refine g_daload X0 hx hZ Ao (i := 3) (by decide) (show (3 : Nat) < 8 by decide) (v := o3) rfl (pc' := 84) rfl (hb hby d3_83) ?_
  refine g_dcmp X0 hx (pc' := 85) (z := (0 : Int32)) rfl (hb hby d3_84) (own_dyeq yc3 yo3 (by exact e1)) ?_
  refine g_ifN X0 hx (pcN := 88) (hb hby d3_85) rfl (show ¬ (¬ (0 : Int32) = 0) from by decide) ?_
  refine g_iconst X0 hx (pc' := 89) (z := (1 : Int32)) rfl (hb hby d3_88) rfl ?_
  refine g_goto X0 hx (pc' := 93) (hb hby d3_89) (by decide) (by decide) ?_
  refine g_istore X0 hx (pc' := 95) rfl (hb hby d3_93) (l' := #[.val (.ref ca), .val (.ref oa), .val (.int (2 : Int32)), .val (.int (1 : Int32)), .val (.int (0 : Int32)), .val (.double l10), .second, .val (.double l20), .second, .val (.double l21), .second, .val (.double c1), .second, .val (.double c3), .second, .val (.double c5), .second, .val (.double c7), .second, .val (.int (1 : Int32)), .val (.int (1 : Int32)), .unset, .unset]) rfl ?_
  refine g_iload X0 hx (pc' := 97) rfl (hb hby d3_95) rfl ?_
  refine g_iconst X0 hx (pc' := 98) (z := (2 : Int32)) rfl (hb hby d3_97) rfl ?_
  refine g_icmpY X0 hx (pcY := 134) (hb hby d3_98) (by decide) (by decide) (show ¬ (2 : Int32) < (0 : Int32) from by decide) ?_
  refine g_dload X0 hx (pc' := 136) rfl (hb hby d3_134) rfl ?_
  refine g_aloadN X0 hx (pc' := 137) rfl (hb hby d3_136) rfl rfl ?_
  refine g_iconst X0 hx (pc' := 138) (z := (2 : Int32)) rfl (hb hby d3_137) rfl ?_
  refine g_iloadN X0 hx (pc' := 139) rfl (hb hby d3_138) rfl ?_
  refine g_imul X0 hx (pc' := 140) rfl (hb hby d3_139) ?_
  refine g_normI (z := (4 : Int32)) (by decide) ?_
  refine g_iloadN X0 hx (pc' := 141) rfl (hb hby d3_140) rfl ?_
  refine g_iadd X0 hx (pc' := 142) rfl (hb hby d3_141) ?_
  refine g_normI (z := (5 : Int32)) (by decide) ?_
  refine g_daload X0 hx hZ Ao (i := 5) (by decide) (show (5 : Nat) < 8 by decide) (v := o5) rfl (pc' := 143) rfl (hb hby d3_142) ?_
  refine g_dcmp X0 hx (pc' := 144) (z := (0 : Int32)) rfl (hb hby d3_143) (own_dyeq yc5 yo5 (by exact e2)) ?_
  refine g_ifN X0 hx (pcN := 147) (hb hby d3_144) rfl (show ¬ (¬ (0 : Int32) = 0) from by decide) ?_
  refine g_iconst X0 hx (pc' := 148) (z := (1 : Int32)) rfl (hb hby d3_147) rfl ?_
  refine g_goto X0 hx (pc' := 152) (hb hby d3_148) (by decide) (by decide) ?_
  refine g_istore X0 hx (pc' := 154) rfl (hb hby d3_152) (l' := #[.val (.ref ca), .val (.ref oa), .val (.int (2 : Int32)), .val (.int (1 : Int32)), .val (.int (0 : Int32)), .val (.double l10), .second, .val (.double l20), .second, .val (.double l21), .second, .val (.double c1), .second, .val (.double c3), .second, .val (.double c5), .second, .val (.double c7), .second, .val (.int (1 : Int32)), .val (.int (1 : Int32)), .val (.int (1 : Int32)), .unset]) rfl ?_
  refine g_dload X0 hx (pc' := 156) rfl (hb hby d3_154) rfl ?_
  refine g_aloadN X0 hx (pc' := 157) rfl (hb hby d3_156) rfl rfl ?_
  refine g_iconst X0 hx (pc' := 158) (z := (3 : Int32)) rfl (hb hby d3_157) rfl ?_
  refine g_iloadN X0 hx (pc' := 159) rfl (hb hby d3_158) rfl ?_
  refine g_imul X0 hx (pc' := 160) rfl (hb hby d3_159) ?_
  refine g_normI (z := (6 : Int32)) (by decide) ?_
  refine g_iloadN X0 hx (pc' := 161) rfl (hb hby d3_160) rfl ?_
  refine g_iadd X0 hx (pc' := 162) rfl (hb hby d3_161) ?_
  refine g_normI (z := (7 : Int32)) (by decide) ?_
  refine g_daload X0 hx hZ Ao (i := 7) (by decide) (show (7 : Nat) < 8 by decide) (v := o7) rfl (pc' := 163) rfl (hb hby d3_162) ?_
  refine g_dcmp X0 hx (pc' := 164) (z := (0 : Int32)) rfl (hb hby d3_163) (own_dyeq yc7 yo7 (by exact e3)) ?_
  refine g_ifN X0 hx (pcN := 167) (hb hby d3_164) rfl (show ¬ (¬ (0 : Int32) = 0) from by decide) ?_
  refine g_iconst X0 hx (pc' := 168) (z := (1 : Int32)) rfl (hb hby d3_167) rfl ?_
  refine g_goto X0 hx (pc' := 172) (hb hby d3_168) (by decide) (by decide) ?_
  refine g_istore X0 hx (pc' := 174) rfl (hb hby d3_172) (l' := #[.val (.ref ca), .val (.ref oa), .val (.int (2 : Int32)), .val (.int (1 : Int32)), .val (.int (0 : Int32)), .val (.double l10), .second, .val (.double l20), .second, .val (.double l21), .second, .val (.double c1), .second, .val (.double c3), .second, .val (.double c5), .second, .val (.double c7), .second, .val (.int (1 : Int32)), .val (.int (1 : Int32)), .val (.int (1 : Int32)), .val (.int (1 : Int32))]) rfl ?_
  refine g_iload X0 hx (pc' := 176) rfl (hb hby d3_174) rfl ?_
  refine g_ifN X0 hx (pcN := 179) (hb hby d3_176) rfl (show ¬ ((1 : Int32) = 0) from by decide) ?_
  refine g_iload X0 hx (pc' := 181) rfl (hb hby d3_179) rfl ?_
  refine g_ifN X0 hx (pcN := 184) (hb hby d3_181) rfl (show ¬ ((1 : Int32) = 0) from by decide) ?_
  refine g_iload X0 hx (pc' := 186) rfl (hb hby d3_184) rfl ?_
  refine g_ifN X0 hx (pcN := 189) (hb hby d3_186) rfl (show ¬ ((1 : Int32) = 0) from by decide) ?_
  refine g_iload X0 hx (pc' := 191) rfl (hb hby d3_189) rfl ?_
  refine g_ifN X0 hx (pcN := 194) (hb hby d3_191) rfl (show ¬ ((1 : Int32) = 0) from by decide) ?_
  refine g_iconst X0 hx (pc' := 195) (z := (1 : Int32)) rfl (hb hby d3_194) rfl ?_
  refine g_goto X0 hx (pc' := 199) (hb hby d3_195) (by decide) (by decide) ?_
  exact g_retZ X0 hx hlk hret (by first | exact Or.inl rfl | exact Or.inr rfl) (hb hby d3_199) (by decide) (by decide) (⟨rfl, rfl⟩)
set_option maxRecDepth 65536 in
set_option maxHeartbeats 40000000 in
theorem rm3_1_1_0 (l : Launch) (Z : State) (a0 : Array Value) (hw : ∀ d ∈ tables_1, d.before a0 Z = true) (ws : List Jvm.Cond) (n0 : Nat) (ca oa : Addr) (c0 o0 : UInt64) (c1 o1 : UInt64) (c2 o2 : UInt64) (c3 o3 : UInt64) (c4 o4 : UInt64) (c5 o5 : UInt64) (c6 o6 : UInt64) (c7 o7 : UInt64) (mc0 mo0 : Int) (mc1 mo1 : Int) (mc2 mo2 : Int) (mc3 mo3 : Int) (l10 l20 l21 : UInt64) (ml10 ml20 ml21 : Int) (h0 : Heap) (hn0 : n0 ≤ h0.size) (Ac : AD Z h0 ca [c0, c1, c2, c3, c4, c5, c6, c7]) (Ao : AD Z h0 oa [o0, o1, o2, o3, o4, o5, o6, o7]) (yc0 : Dy mc0 1074 c0) (bc0 : mc0.natAbs ≤ 100000) (yo0 : Dy mo0 1074 o0) (bo0 : mo0.natAbs ≤ 8) (yc1 : Dy mc1 1074 c1) (bc1 : mc1.natAbs ≤ 100000) (yo1 : Dy mo1 1074 o1) (bo1 : mo1.natAbs ≤ 8) (yc2 : Dy mc2 1074 c2) (bc2 : mc2.natAbs ≤ 100000) (yo2 : Dy mo2 1074 o2) (bo2 : mo2.natAbs ≤ 8) (yc3 : Dy mc3 1074 c3) (bc3 : mc3.natAbs ≤ 100000) (yo3 : Dy mo3 1074 o3) (bo3 : mo3.natAbs ≤ 8) (yl10 : Dy ml10 1074 l10) (bl10 : ml10.natAbs ≤ 8) (yl20 : Dy ml20 1074 l20) (bl20 : ml20.natAbs ≤ 8) (yl21 : Dy ml21 1074 l21) (bl21 : ml21.natAbs ≤ 8) (e0 : mc0 = mo0) (e1 : mc1 = mo1) (e2 : mc2 = mo2) (e3 : mc3 = mo3) :
    Con l Z n0 (⟨"com/example/orthogon/orthogon/TriangularSolveUnitLowerPinLaw", "col", "([D[DIIIDDD)Z"⟩ : MethodName) method_3_code 23 (some .boolean) ws ({ frames := 0, cells := 0, slots := 0, locals := 0 } : Room) #[(.ref ca), (.ref oa), (.int (1 : Int32)), (.int (0 : Int32)), (.int (1 : Int32)), (.double l10), (.double l20), (.double l21)] h0 (fun v h => v = some (.int 1) ∧ h = h0) := by
  refine con_start (plainFor_of_name (by first | (simp [plainName, overriddenIn]; done) | decide +kernel)) (fr0 := fun m => mkF m 0 #[.val (.ref ca), .val (.ref oa), .val (.int (1 : Int32)), .val (.int (0 : Int32)), .val (.int (1 : Int32)), .val (.double l10), .second, .val (.double l20), .second, .val (.double l21), .second, .unset, .unset, .unset, .unset, .unset, .unset, .unset, .unset, .unset, .unset, .unset, .unset] []) (fun m => by first | (simp [entryFrame, mkF, argsToLocals, Value.category]; done) | rfl) ?_
  intro p e s m below meth c T0 hx hZ hby hml hown hnm hret hlk X0
  replace hown : s.vm.findClass "com/example/orthogon/orthogon/TriangularSolveUnitLowerPinLaw" = some m.cls := hown
  replace hml : c.maxLocals = 23 := hml
  refine g_aloadN X0 hx (pc' := 1) rfl (hb hby d3_0) rfl rfl ?_
  refine g_iloadN X0 hx (pc' := 2) rfl (hb hby d3_1) rfl ?_
  refine g_daload X0 hx hZ Ac (i := 0) (by decide) (show (0 : Nat) < 8 by decide) (v := c0) rfl (pc' := 3) rfl (hb hby d3_2) ?_
  refine g_dstore X0 hx (pc' := 5) rfl (hb hby d3_3) (l' := #[.val (.ref ca), .val (.ref oa), .val (.int (1 : Int32)), .val (.int (0 : Int32)), .val (.int (1 : Int32)), .val (.double l10), .second, .val (.double l20), .second, .val (.double l21), .second, .val (.double c0), .second, .unset, .unset, .unset, .unset, .unset, .unset, .unset, .unset, .unset, .unset]) rfl ?_
  refine g_aloadN X0 hx (pc' := 6) rfl (hb hby d3_5) rfl rfl ?_
  refine g_iloadN X0 hx (pc' := 7) rfl (hb hby d3_6) rfl ?_
  refine g_iloadN X0 hx (pc' := 8) rfl (hb hby d3_7) rfl ?_
  refine g_iadd X0 hx (pc' := 9) rfl (hb hby d3_8) ?_
  refine g_normI (z := (1 : Int32)) (by decide) ?_
  refine g_daload X0 hx hZ Ac (i := 1) (by decide) (show (1 : Nat) < 8 by decide) (v := c1) rfl (pc' := 10) rfl (hb hby d3_9) ?_
  refine g_dstore X0 hx (pc' := 12) rfl (hb hby d3_10) (l' := #[.val (.ref ca), .val (.ref oa), .val (.int (1 : Int32)), .val (.int (0 : Int32)), .val (.int (1 : Int32)), .val (.double l10), .second, .val (.double l20), .second, .val (.double l21), .second, .val (.double c0), .second, .val (.double c1), .second, .unset, .unset, .unset, .unset, .unset, .unset, .unset, .unset]) rfl ?_
  refine g_aloadN X0 hx (pc' := 13) rfl (hb hby d3_12) rfl rfl ?_
  refine g_iconst X0 hx (pc' := 14) (z := (2 : Int32)) rfl (hb hby d3_13) rfl ?_
  refine g_iloadN X0 hx (pc' := 15) rfl (hb hby d3_14) rfl ?_
  refine g_imul X0 hx (pc' := 16) rfl (hb hby d3_15) ?_
  refine g_normI (z := (2 : Int32)) (by decide) ?_
  refine g_iloadN X0 hx (pc' := 17) rfl (hb hby d3_16) rfl ?_
  refine g_iadd X0 hx (pc' := 18) rfl (hb hby d3_17) ?_
  refine g_normI (z := (2 : Int32)) (by decide) ?_
  refine g_daload X0 hx hZ Ac (i := 2) (by decide) (show (2 : Nat) < 8 by decide) (v := c2) rfl (pc' := 19) rfl (hb hby d3_18) ?_
  refine g_dstore X0 hx (pc' := 21) rfl (hb hby d3_19) (l' := #[.val (.ref ca), .val (.ref oa), .val (.int (1 : Int32)), .val (.int (0 : Int32)), .val (.int (1 : Int32)), .val (.double l10), .second, .val (.double l20), .second, .val (.double l21), .second, .val (.double c0), .second, .val (.double c1), .second, .val (.double c2), .second, .unset, .unset, .unset, .unset, .unset, .unset]) rfl ?_
  refine g_aloadN X0 hx (pc' := 22) rfl (hb hby d3_21) rfl rfl ?_
  refine g_iconst X0 hx (pc' := 23) (z := (3 : Int32)) rfl (hb hby d3_22) rfl ?_
  refine g_iloadN X0 hx (pc' := 24) rfl (hb hby d3_23) rfl ?_
  refine g_imul X0 hx (pc' := 25) rfl (hb hby d3_24) ?_
  refine g_normI (z := (3 : Int32)) (by decide) ?_
  refine g_iloadN X0 hx (pc' := 26) rfl (hb hby d3_25) rfl ?_
  refine g_iadd X0 hx (pc' := 27) rfl (hb hby d3_26) ?_
  refine g_normI (z := (3 : Int32)) (by decide) ?_
  refine g_daload X0 hx hZ Ac (i := 3) (by decide) (show (3 : Nat) < 8 by decide) (v := c3) rfl (pc' := 28) rfl (hb hby d3_27) ?_
  refine g_dstore X0 hx (pc' := 30) rfl (hb hby d3_28) (l' := #[.val (.ref ca), .val (.ref oa), .val (.int (1 : Int32)), .val (.int (0 : Int32)), .val (.int (1 : Int32)), .val (.double l10), .second, .val (.double l20), .second, .val (.double l21), .second, .val (.double c0), .second, .val (.double c1), .second, .val (.double c2), .second, .val (.double c3), .second, .unset, .unset, .unset, .unset]) rfl ?_
  refine g_dload X0 hx (pc' := 32) rfl (hb hby d3_30) rfl ?_
  refine g_aloadN X0 hx (pc' := 33) rfl (hb hby d3_32) rfl rfl ?_
  refine g_iloadN X0 hx (pc' := 34) rfl (hb hby d3_33) rfl ?_
  refine g_daload X0 hx hZ Ao (i := 0) (by decide) (show (0 : Nat) < 8 by decide) (v := o0) rfl (pc' := 35) rfl (hb hby d3_34) ?_
  refine g_dcmp X0 hx (pc' := 36) (z := (0 : Int32)) rfl (hb hby d3_35) (own_dyeq yc0 yo0 (by exact e0)) ?_
  refine g_ifN X0 hx (pcN := 39) (hb hby d3_36) rfl (show ¬ (¬ (0 : Int32) = 0) from by decide) ?_
  refine g_iconst X0 hx (pc' := 40) (z := (1 : Int32)) rfl (hb hby d3_39) rfl ?_
  refine g_goto X0 hx (pc' := 44) (hb hby d3_40) (by decide) (by decide) ?_
  refine g_istore X0 hx (pc' := 46) rfl (hb hby d3_44) (l' := #[.val (.ref ca), .val (.ref oa), .val (.int (1 : Int32)), .val (.int (0 : Int32)), .val (.int (1 : Int32)), .val (.double l10), .second, .val (.double l20), .second, .val (.double l21), .second, .val (.double c0), .second, .val (.double c1), .second, .val (.double c2), .second, .val (.double c3), .second, .val (.int (1 : Int32)), .unset, .unset, .unset]) rfl ?_
  refine g_iload X0 hx (pc' := 48) rfl (hb hby d3_46) rfl ?_
  refine g_iconst X0 hx (pc' := 49) (z := (1 : Int32)) rfl (hb hby d3_48) rfl ?_
  refine g_icmpY X0 hx (pcY := 77) (hb hby d3_49) (by decide) (by decide) (show ¬ (1 : Int32) < (1 : Int32) from by decide) ?_
  refine g_dload X0 hx (pc' := 79) rfl (hb hby d3_77) rfl ?_
  refine g_aloadN X0 hx (pc' := 80) rfl (hb hby d3_79) rfl rfl ?_
  refine g_iloadN X0 hx (pc' := 81) rfl (hb hby d3_80) rfl ?_
  refine g_iloadN X0 hx (pc' := 82) rfl (hb hby d3_81) rfl ?_
  refine g_iadd X0 hx (pc' := 83) rfl (hb hby d3_82) ?_
  refine g_normI (z := (1 : Int32)) (by decide) ?_
  refine g_daload X0 hx hZ Ao (i := 1) (by decide) (show (1 : Nat) < 8 by decide) (v := o1) rfl (pc' := 84) rfl (hb hby d3_83) ?_
  refine g_dcmp X0 hx (pc' := 85) (z := (0 : Int32)) rfl (hb hby d3_84) (own_dyeq yc1 yo1 (by exact e1)) ?_
  refine g_ifN X0 hx (pcN := 88) (hb hby d3_85) rfl (show ¬ (¬ (0 : Int32) = 0) from by decide) ?_
  refine g_iconst X0 hx (pc' := 89) (z := (1 : Int32)) rfl (hb hby d3_88) rfl ?_
  refine g_goto X0 hx (pc' := 93) (hb hby d3_89) (by decide) (by decide) ?_
  refine g_istore X0 hx (pc' := 95) rfl (hb hby d3_93) (l' := #[.val (.ref ca), .val (.ref oa), .val (.int (1 : Int32)), .val (.int (0 : Int32)), .val (.int (1 : Int32)), .val (.double l10), .second, .val (.double l20), .second, .val (.double l21), .second, .val (.double c0), .second, .val (.double c1), .second, .val (.double c2), .second, .val (.double c3), .second, .val (.int (1 : Int32)), .val (.int (1 : Int32)), .unset, .unset]) rfl ?_
  refine g_iload X0 hx (pc' := 97) rfl (hb hby d3_95) rfl ?_
  refine g_iconst X0 hx (pc' := 98) (z := (2 : Int32)) rfl (hb hby d3_97) rfl ?_
  refine g_icmpY X0 hx (pcY := 134) (hb hby d3_98) (by decide) (by decide) (show ¬ (2 : Int32) < (1 : Int32) from by decide) ?_
  refine g_dload X0 hx (pc' := 136) rfl (hb hby d3_134) rfl ?_
  refine g_aloadN X0 hx (pc' := 137) rfl (hb hby d3_136) rfl rfl ?_
  refine g_iconst X0 hx (pc' := 138) (z := (2 : Int32)) rfl (hb hby d3_137) rfl ?_
  refine g_iloadN X0 hx (pc' := 139) rfl (hb hby d3_138) rfl ?_
  refine g_imul X0 hx (pc' := 140) rfl (hb hby d3_139) ?_
  refine g_normI (z := (2 : Int32)) (by decide) ?_
  refine g_iloadN X0 hx (pc' := 141) rfl (hb hby d3_140) rfl ?_
  refine g_iadd X0 hx (pc' := 142) rfl (hb hby d3_141) ?_
  refine g_normI (z := (2 : Int32)) (by decide) ?_
  refine g_daload X0 hx hZ Ao (i := 2) (by decide) (show (2 : Nat) < 8 by decide) (v := o2) rfl (pc' := 143) rfl (hb hby d3_142) ?_
  refine g_dcmp X0 hx (pc' := 144) (z := (0 : Int32)) rfl (hb hby d3_143) (own_dyeq yc2 yo2 (by exact e2)) ?_
  refine g_ifN X0 hx (pcN := 147) (hb hby d3_144) rfl (show ¬ (¬ (0 : Int32) = 0) from by decide) ?_
  refine g_iconst X0 hx (pc' := 148) (z := (1 : Int32)) rfl (hb hby d3_147) rfl ?_
  refine g_goto X0 hx (pc' := 152) (hb hby d3_148) (by decide) (by decide) ?_
  refine g_istore X0 hx (pc' := 154) rfl (hb hby d3_152) (l' := #[.val (.ref ca), .val (.ref oa), .val (.int (1 : Int32)), .val (.int (0 : Int32)), .val (.int (1 : Int32)), .val (.double l10), .second, .val (.double l20), .second, .val (.double l21), .second, .val (.double c0), .second, .val (.double c1), .second, .val (.double c2), .second, .val (.double c3), .second, .val (.int (1 : Int32)), .val (.int (1 : Int32)), .val (.int (1 : Int32)), .unset]) rfl ?_
  refine g_dload X0 hx (pc' := 156) rfl (hb hby d3_154) rfl ?_
  refine g_aloadN X0 hx (pc' := 157) rfl (hb hby d3_156) rfl rfl ?_
  refine g_iconst X0 hx (pc' := 158) (z := (3 : Int32)) rfl (hb hby d3_157) rfl ?_
  refine g_iloadN X0 hx (pc' := 159) rfl (hb hby d3_158) rfl ?_
  refine g_imul X0 hx (pc' := 160) rfl (hb hby d3_159) ?_
  refine g_normI (z := (3 : Int32)) (by decide) ?_
  refine g_iloadN X0 hx (pc' := 161) rfl (hb hby d3_160) rfl ?_
  refine g_iadd X0 hx (pc' := 162) rfl (hb hby d3_161) ?_
  refine g_normI (z := (3 : Int32)) (by decide) ?_
  refine g_daload X0 hx hZ Ao (i := 3) (by decide) (show (3 : Nat) < 8 by decide) (v := o3) rfl (pc' := 163) rfl (hb hby d3_162) ?_
  refine g_dcmp X0 hx (pc' := 164) (z := (0 : Int32)) rfl (hb hby d3_163) (own_dyeq yc3 yo3 (by exact e3)) ?_
  refine g_ifN X0 hx (pcN := 167) (hb hby d3_164) rfl (show ¬ (¬ (0 : Int32) = 0) from by decide) ?_
  refine g_iconst X0 hx (pc' := 168) (z := (1 : Int32)) rfl (hb hby d3_167) rfl ?_
  refine g_goto X0 hx (pc' := 172) (hb hby d3_168) (by decide) (by decide) ?_
  refine g_istore X0 hx (pc' := 174) rfl (hb hby d3_172) (l' := #[.val (.ref ca), .val (.ref oa), .val (.int (1 : Int32)), .val (.int (0 : Int32)), .val (.int (1 : Int32)), .val (.double l10), .second, .val (.double l20), .second, .val (.double l21), .second, .val (.double c0), .second, .val (.double c1), .second, .val (.double c2), .second, .val (.double c3), .second, .val (.int (1 : Int32)), .val (.int (1 : Int32)), .val (.int (1 : Int32)), .val (.int (1 : Int32))]) rfl ?_
  refine g_iload X0 hx (pc' := 176) rfl (hb hby d3_174) rfl ?_
  refine g_ifN X0 hx (pcN := 179) (hb hby d3_176) rfl (show ¬ ((1 : Int32) = 0) from by decide) ?_
  refine g_iload X0 hx (pc' := 181) rfl (hb hby d3_179) rfl ?_
  refine g_ifN X0 hx (pcN := 184) (hb hby d3_181) rfl (show ¬ ((1 : Int32) = 0) from by decide) ?_
  refine g_iload X0 hx (pc' := 186) rfl (hb hby d3_184) rfl ?_
  refine g_ifN X0 hx (pcN := 189) (hb hby d3_186) rfl (show ¬ ((1 : Int32) = 0) from by decide) ?_
  refine g_iload X0 hx (pc' := 191) rfl (hb hby d3_189) rfl ?_
  refine g_ifN X0 hx (pcN := 194) (hb hby d3_191) rfl (show ¬ ((1 : Int32) = 0) from by decide) ?_
  refine g_iconst X0 hx (pc' := 195) (z := (1 : Int32)) rfl (hb hby d3_194) rfl ?_
  refine g_goto X0 hx (pc' := 199) (hb hby d3_195) (by decide) (by decide) ?_
  exact g_retZ X0 hx hlk hret (by first | exact Or.inl rfl | exact Or.inr rfl) (hb hby d3_199) (by decide) (by decide) (⟨rfl, rfl⟩)
set_option maxRecDepth 65536 in
set_option maxHeartbeats 40000000 in
theorem rm3_1_2_0 (l : Launch) (Z : State) (a0 : Array Value) (hw : ∀ d ∈ tables_1, d.before a0 Z = true) (ws : List Jvm.Cond) (n0 : Nat) (ca oa : Addr) (c0 o0 : UInt64) (c1 o1 : UInt64) (c2 o2 : UInt64) (c3 o3 : UInt64) (c4 o4 : UInt64) (c5 o5 : UInt64) (c6 o6 : UInt64) (c7 o7 : UInt64) (mc0 mo0 : Int) (mc2 mo2 : Int) (mc4 mo4 : Int) (mc6 mo6 : Int) (l10 l20 l21 : UInt64) (ml10 ml20 ml21 : Int) (h0 : Heap) (hn0 : n0 ≤ h0.size) (Ac : AD Z h0 ca [c0, c1, c2, c3, c4, c5, c6, c7]) (Ao : AD Z h0 oa [o0, o1, o2, o3, o4, o5, o6, o7]) (yc0 : Dy mc0 1074 c0) (bc0 : mc0.natAbs ≤ 100000) (yo0 : Dy mo0 1074 o0) (bo0 : mo0.natAbs ≤ 8) (yc2 : Dy mc2 1074 c2) (bc2 : mc2.natAbs ≤ 100000) (yo2 : Dy mo2 1074 o2) (bo2 : mo2.natAbs ≤ 8) (yc4 : Dy mc4 1074 c4) (bc4 : mc4.natAbs ≤ 100000) (yo4 : Dy mo4 1074 o4) (bo4 : mo4.natAbs ≤ 8) (yc6 : Dy mc6 1074 c6) (bc6 : mc6.natAbs ≤ 100000) (yo6 : Dy mo6 1074 o6) (bo6 : mo6.natAbs ≤ 8) (yl10 : Dy ml10 1074 l10) (bl10 : ml10.natAbs ≤ 8) (yl20 : Dy ml20 1074 l20) (bl20 : ml20.natAbs ≤ 8) (yl21 : Dy ml21 1074 l21) (bl21 : ml21.natAbs ≤ 8) (e0 : mc0 = mo0) (e1 : mc2 = mo2) (e2 : mc4 = mo4) (e3 : mc6 = mo6) :
    Con l Z n0 (⟨"com/example/orthogon/orthogon/TriangularSolveUnitLowerPinLaw", "col", "([D[DIIIDDD)Z"⟩ : MethodName) method_3_code 23 (some .boolean) ws ({ frames := 0, cells := 0, slots := 0, locals := 0 } : Room) #[(.ref ca), (.ref oa), (.int (2 : Int32)), (.int (0 : Int32)), (.int (1 : Int32)), (.double l10), (.double l20), (.double l21)] h0 (fun v h => v = some (.int 1) ∧ h = h0) := by
  refine con_start (plainFor_of_name (by first | (simp [plainName, overriddenIn]; done) | decide +kernel)) (fr0 := fun m => mkF m 0 #[.val (.ref ca), .val (.ref oa), .val (.int (2 : Int32)), .val (.int (0 : Int32)), .val (.int (1 : Int32)), .val (.double l10), .second, .val (.double l20), .second, .val (.double l21), .second, .unset, .unset, .unset, .unset, .unset, .unset, .unset, .unset, .unset, .unset, .unset, .unset] []) (fun m => by first | (simp [entryFrame, mkF, argsToLocals, Value.category]; done) | rfl) ?_
  intro p e s m below meth c T0 hx hZ hby hml hown hnm hret hlk X0
  replace hown : s.vm.findClass "com/example/orthogon/orthogon/TriangularSolveUnitLowerPinLaw" = some m.cls := hown
  replace hml : c.maxLocals = 23 := hml
  refine g_aloadN X0 hx (pc' := 1) rfl (hb hby d3_0) rfl rfl ?_
  refine g_iloadN X0 hx (pc' := 2) rfl (hb hby d3_1) rfl ?_
  refine g_daload X0 hx hZ Ac (i := 0) (by decide) (show (0 : Nat) < 8 by decide) (v := c0) rfl (pc' := 3) rfl (hb hby d3_2) ?_
  refine g_dstore X0 hx (pc' := 5) rfl (hb hby d3_3) (l' := #[.val (.ref ca), .val (.ref oa), .val (.int (2 : Int32)), .val (.int (0 : Int32)), .val (.int (1 : Int32)), .val (.double l10), .second, .val (.double l20), .second, .val (.double l21), .second, .val (.double c0), .second, .unset, .unset, .unset, .unset, .unset, .unset, .unset, .unset, .unset, .unset]) rfl ?_
  refine g_aloadN X0 hx (pc' := 6) rfl (hb hby d3_5) rfl rfl ?_
  refine g_iloadN X0 hx (pc' := 7) rfl (hb hby d3_6) rfl ?_
  refine g_iloadN X0 hx (pc' := 8) rfl (hb hby d3_7) rfl ?_
  refine g_iadd X0 hx (pc' := 9) rfl (hb hby d3_8) ?_
  refine g_normI (z := (2 : Int32)) (by decide) ?_
  refine g_daload X0 hx hZ Ac (i := 2) (by decide) (show (2 : Nat) < 8 by decide) (v := c2) rfl (pc' := 10) rfl (hb hby d3_9) ?_
  refine g_dstore X0 hx (pc' := 12) rfl (hb hby d3_10) (l' := #[.val (.ref ca), .val (.ref oa), .val (.int (2 : Int32)), .val (.int (0 : Int32)), .val (.int (1 : Int32)), .val (.double l10), .second, .val (.double l20), .second, .val (.double l21), .second, .val (.double c0), .second, .val (.double c2), .second, .unset, .unset, .unset, .unset, .unset, .unset, .unset, .unset]) rfl ?_
  refine g_aloadN X0 hx (pc' := 13) rfl (hb hby d3_12) rfl rfl ?_
  refine g_iconst X0 hx (pc' := 14) (z := (2 : Int32)) rfl (hb hby d3_13) rfl ?_
  refine g_iloadN X0 hx (pc' := 15) rfl (hb hby d3_14) rfl ?_
  refine g_imul X0 hx (pc' := 16) rfl (hb hby d3_15) ?_
  refine g_normI (z := (4 : Int32)) (by decide) ?_
  refine g_iloadN X0 hx (pc' := 17) rfl (hb hby d3_16) rfl ?_
  refine g_iadd X0 hx (pc' := 18) rfl (hb hby d3_17) ?_
  refine g_normI (z := (4 : Int32)) (by decide) ?_
  refine g_daload X0 hx hZ Ac (i := 4) (by decide) (show (4 : Nat) < 8 by decide) (v := c4) rfl (pc' := 19) rfl (hb hby d3_18) ?_
  refine g_dstore X0 hx (pc' := 21) rfl (hb hby d3_19) (l' := #[.val (.ref ca), .val (.ref oa), .val (.int (2 : Int32)), .val (.int (0 : Int32)), .val (.int (1 : Int32)), .val (.double l10), .second, .val (.double l20), .second, .val (.double l21), .second, .val (.double c0), .second, .val (.double c2), .second, .val (.double c4), .second, .unset, .unset, .unset, .unset, .unset, .unset]) rfl ?_
  refine g_aloadN X0 hx (pc' := 22) rfl (hb hby d3_21) rfl rfl ?_
  refine g_iconst X0 hx (pc' := 23) (z := (3 : Int32)) rfl (hb hby d3_22) rfl ?_
  refine g_iloadN X0 hx (pc' := 24) rfl (hb hby d3_23) rfl ?_
  refine g_imul X0 hx (pc' := 25) rfl (hb hby d3_24) ?_
  refine g_normI (z := (6 : Int32)) (by decide) ?_
  refine g_iloadN X0 hx (pc' := 26) rfl (hb hby d3_25) rfl ?_
  refine g_iadd X0 hx (pc' := 27) rfl (hb hby d3_26) ?_
  refine g_normI (z := (6 : Int32)) (by decide) ?_
  refine g_daload X0 hx hZ Ac (i := 6) (by decide) (show (6 : Nat) < 8 by decide) (v := c6) rfl (pc' := 28) rfl (hb hby d3_27) ?_
  refine g_dstore X0 hx (pc' := 30) rfl (hb hby d3_28) (l' := #[.val (.ref ca), .val (.ref oa), .val (.int (2 : Int32)), .val (.int (0 : Int32)), .val (.int (1 : Int32)), .val (.double l10), .second, .val (.double l20), .second, .val (.double l21), .second, .val (.double c0), .second, .val (.double c2), .second, .val (.double c4), .second, .val (.double c6), .second, .unset, .unset, .unset, .unset]) rfl ?_
  refine g_dload X0 hx (pc' := 32) rfl (hb hby d3_30) rfl ?_
  refine g_aloadN X0 hx (pc' := 33) rfl (hb hby d3_32) rfl rfl ?_
  refine g_iloadN X0 hx (pc' := 34) rfl (hb hby d3_33) rfl ?_
  refine g_daload X0 hx hZ Ao (i := 0) (by decide) (show (0 : Nat) < 8 by decide) (v := o0) rfl (pc' := 35) rfl (hb hby d3_34) ?_
  refine g_dcmp X0 hx (pc' := 36) (z := (0 : Int32)) rfl (hb hby d3_35) (own_dyeq yc0 yo0 (by exact e0)) ?_
  refine g_ifN X0 hx (pcN := 39) (hb hby d3_36) rfl (show ¬ (¬ (0 : Int32) = 0) from by decide) ?_
  refine g_iconst X0 hx (pc' := 40) (z := (1 : Int32)) rfl (hb hby d3_39) rfl ?_
  refine g_goto X0 hx (pc' := 44) (hb hby d3_40) (by decide) (by decide) ?_
  refine g_istore X0 hx (pc' := 46) rfl (hb hby d3_44) (l' := #[.val (.ref ca), .val (.ref oa), .val (.int (2 : Int32)), .val (.int (0 : Int32)), .val (.int (1 : Int32)), .val (.double l10), .second, .val (.double l20), .second, .val (.double l21), .second, .val (.double c0), .second, .val (.double c2), .second, .val (.double c4), .second, .val (.double c6), .second, .val (.int (1 : Int32)), .unset, .unset, .unset]) rfl ?_
  refine g_iload X0 hx (pc' := 48) rfl (hb hby d3_46) rfl ?_
  refine g_iconst X0 hx (pc' := 49) (z := (1 : Int32)) rfl (hb hby d3_48) rfl ?_
  refine g_icmpY X0 hx (pcY := 77) (hb hby d3_49) (by decide) (by decide) (show ¬ (1 : Int32) < (1 : Int32) from by decide) ?_
  refine g_dload X0 hx (pc' := 79) rfl (hb hby d3_77) rfl ?_
  refine g_aloadN X0 hx (pc' := 80) rfl (hb hby d3_79) rfl rfl ?_
  refine g_iloadN X0 hx (pc' := 81) rfl (hb hby d3_80) rfl ?_
  refine g_iloadN X0 hx (pc' := 82) rfl (hb hby d3_81) rfl ?_
  refine g_iadd X0 hx (pc' := 83) rfl (hb hby d3_82) ?_
  refine g_normI (z := (2 : Int32)) (by decide) ?_
  refine g_daload X0 hx hZ Ao (i := 2) (by decide) (show (2 : Nat) < 8 by decide) (v := o2) rfl (pc' := 84) rfl (hb hby d3_83) ?_
  refine g_dcmp X0 hx (pc' := 85) (z := (0 : Int32)) rfl (hb hby d3_84) (own_dyeq yc2 yo2 (by exact e1)) ?_
  refine g_ifN X0 hx (pcN := 88) (hb hby d3_85) rfl (show ¬ (¬ (0 : Int32) = 0) from by decide) ?_
  refine g_iconst X0 hx (pc' := 89) (z := (1 : Int32)) rfl (hb hby d3_88) rfl ?_
  refine g_goto X0 hx (pc' := 93) (hb hby d3_89) (by decide) (by decide) ?_
  refine g_istore X0 hx (pc' := 95) rfl (hb hby d3_93) (l' := #[.val (.ref ca), .val (.ref oa), .val (.int (2 : Int32)), .val (.int (0 : Int32)), .val (.int (1 : Int32)), .val (.double l10), .second, .val (.double l20), .second, .val (.double l21), .second, .val (.double c0), .second, .val (.double c2), .second, .val (.double c4), .second, .val (.double c6), .second, .val (.int (1 : Int32)), .val (.int (1 : Int32)), .unset, .unset]) rfl ?_
  refine g_iload X0 hx (pc' := 97) rfl (hb hby d3_95) rfl ?_
  refine g_iconst X0 hx (pc' := 98) (z := (2 : Int32)) rfl (hb hby d3_97) rfl ?_
  refine g_icmpY X0 hx (pcY := 134) (hb hby d3_98) (by decide) (by decide) (show ¬ (2 : Int32) < (1 : Int32) from by decide) ?_
  refine g_dload X0 hx (pc' := 136) rfl (hb hby d3_134) rfl ?_
  refine g_aloadN X0 hx (pc' := 137) rfl (hb hby d3_136) rfl rfl ?_
  refine g_iconst X0 hx (pc' := 138) (z := (2 : Int32)) rfl (hb hby d3_137) rfl ?_
  refine g_iloadN X0 hx (pc' := 139) rfl (hb hby d3_138) rfl ?_
  refine g_imul X0 hx (pc' := 140) rfl (hb hby d3_139) ?_
  refine g_normI (z := (4 : Int32)) (by decide) ?_
  refine g_iloadN X0 hx (pc' := 141) rfl (hb hby d3_140) rfl ?_
  refine g_iadd X0 hx (pc' := 142) rfl (hb hby d3_141) ?_
  refine g_normI (z := (4 : Int32)) (by decide) ?_
  refine g_daload X0 hx hZ Ao (i := 4) (by decide) (show (4 : Nat) < 8 by decide) (v := o4) rfl (pc' := 143) rfl (hb hby d3_142) ?_
  refine g_dcmp X0 hx (pc' := 144) (z := (0 : Int32)) rfl (hb hby d3_143) (own_dyeq yc4 yo4 (by exact e2)) ?_
  refine g_ifN X0 hx (pcN := 147) (hb hby d3_144) rfl (show ¬ (¬ (0 : Int32) = 0) from by decide) ?_
  refine g_iconst X0 hx (pc' := 148) (z := (1 : Int32)) rfl (hb hby d3_147) rfl ?_
  refine g_goto X0 hx (pc' := 152) (hb hby d3_148) (by decide) (by decide) ?_
  refine g_istore X0 hx (pc' := 154) rfl (hb hby d3_152) (l' := #[.val (.ref ca), .val (.ref oa), .val (.int (2 : Int32)), .val (.int (0 : Int32)), .val (.int (1 : Int32)), .val (.double l10), .second, .val (.double l20), .second, .val (.double l21), .second, .val (.double c0), .second, .val (.double c2), .second, .val (.double c4), .second, .val (.double c6), .second, .val (.int (1 : Int32)), .val (.int (1 : Int32)), .val (.int (1 : Int32)), .unset]) rfl ?_
  refine g_dload X0 hx (pc' := 156) rfl (hb hby d3_154) rfl ?_
  refine g_aloadN X0 hx (pc' := 157) rfl (hb hby d3_156) rfl rfl ?_
  refine g_iconst X0 hx (pc' := 158) (z := (3 : Int32)) rfl (hb hby d3_157) rfl ?_
  refine g_iloadN X0 hx (pc' := 159) rfl (hb hby d3_158) rfl ?_
  refine g_imul X0 hx (pc' := 160) rfl (hb hby d3_159) ?_
  refine g_normI (z := (6 : Int32)) (by decide) ?_
  refine g_iloadN X0 hx (pc' := 161) rfl (hb hby d3_160) rfl ?_
  refine g_iadd X0 hx (pc' := 162) rfl (hb hby d3_161) ?_
  refine g_normI (z := (6 : Int32)) (by decide) ?_
  refine g_daload X0 hx hZ Ao (i := 6) (by decide) (show (6 : Nat) < 8 by decide) (v := o6) rfl (pc' := 163) rfl (hb hby d3_162) ?_
  refine g_dcmp X0 hx (pc' := 164) (z := (0 : Int32)) rfl (hb hby d3_163) (own_dyeq yc6 yo6 (by exact e3)) ?_
  refine g_ifN X0 hx (pcN := 167) (hb hby d3_164) rfl (show ¬ (¬ (0 : Int32) = 0) from by decide) ?_
  refine g_iconst X0 hx (pc' := 168) (z := (1 : Int32)) rfl (hb hby d3_167) rfl ?_
  refine g_goto X0 hx (pc' := 172) (hb hby d3_168) (by decide) (by decide) ?_
  refine g_istore X0 hx (pc' := 174) rfl (hb hby d3_172) (l' := #[.val (.ref ca), .val (.ref oa), .val (.int (2 : Int32)), .val (.int (0 : Int32)), .val (.int (1 : Int32)), .val (.double l10), .second, .val (.double l20), .second, .val (.double l21), .second, .val (.double c0), .second, .val (.double c2), .second, .val (.double c4), .second, .val (.double c6), .second, .val (.int (1 : Int32)), .val (.int (1 : Int32)), .val (.int (1 : Int32)), .val (.int (1 : Int32))]) rfl ?_
  refine g_iload X0 hx (pc' := 176) rfl (hb hby d3_174) rfl ?_
  refine g_ifN X0 hx (pcN := 179) (hb hby d3_176) rfl (show ¬ ((1 : Int32) = 0) from by decide) ?_
  refine g_iload X0 hx (pc' := 181) rfl (hb hby d3_179) rfl ?_
  refine g_ifN X0 hx (pcN := 184) (hb hby d3_181) rfl (show ¬ ((1 : Int32) = 0) from by decide) ?_
  refine g_iload X0 hx (pc' := 186) rfl (hb hby d3_184) rfl ?_
  refine g_ifN X0 hx (pcN := 189) (hb hby d3_186) rfl (show ¬ ((1 : Int32) = 0) from by decide) ?_
  refine g_iload X0 hx (pc' := 191) rfl (hb hby d3_189) rfl ?_
  refine g_ifN X0 hx (pcN := 194) (hb hby d3_191) rfl (show ¬ ((1 : Int32) = 0) from by decide) ?_
  refine g_iconst X0 hx (pc' := 195) (z := (1 : Int32)) rfl (hb hby d3_194) rfl ?_
  refine g_goto X0 hx (pc' := 199) (hb hby d3_195) (by decide) (by decide) ?_
  exact g_retZ X0 hx hlk hret (by first | exact Or.inl rfl | exact Or.inr rfl) (hb hby d3_199) (by decide) (by decide) (⟨rfl, rfl⟩)
set_option maxRecDepth 65536 in
set_option maxHeartbeats 40000000 in
theorem rm3_1_2_1 (l : Launch) (Z : State) (a0 : Array Value) (hw : ∀ d ∈ tables_1, d.before a0 Z = true) (ws : List Jvm.Cond) (n0 : Nat) (ca oa : Addr) (c0 o0 : UInt64) (c1 o1 : UInt64) (c2 o2 : UInt64) (c3 o3 : UInt64) (c4 o4 : UInt64) (c5 o5 : UInt64) (c6 o6 : UInt64) (c7 o7 : UInt64) (mc1 mo1 : Int) (mc3 mo3 : Int) (mc5 mo5 : Int) (mc7 mo7 : Int) (l10 l20 l21 : UInt64) (ml10 ml20 ml21 : Int) (h0 : Heap) (hn0 : n0 ≤ h0.size) (Ac : AD Z h0 ca [c0, c1, c2, c3, c4, c5, c6, c7]) (Ao : AD Z h0 oa [o0, o1, o2, o3, o4, o5, o6, o7]) (yc1 : Dy mc1 1074 c1) (bc1 : mc1.natAbs ≤ 100000) (yo1 : Dy mo1 1074 o1) (bo1 : mo1.natAbs ≤ 8) (yc3 : Dy mc3 1074 c3) (bc3 : mc3.natAbs ≤ 100000) (yo3 : Dy mo3 1074 o3) (bo3 : mo3.natAbs ≤ 8) (yc5 : Dy mc5 1074 c5) (bc5 : mc5.natAbs ≤ 100000) (yo5 : Dy mo5 1074 o5) (bo5 : mo5.natAbs ≤ 8) (yc7 : Dy mc7 1074 c7) (bc7 : mc7.natAbs ≤ 100000) (yo7 : Dy mo7 1074 o7) (bo7 : mo7.natAbs ≤ 8) (yl10 : Dy ml10 1074 l10) (bl10 : ml10.natAbs ≤ 8) (yl20 : Dy ml20 1074 l20) (bl20 : ml20.natAbs ≤ 8) (yl21 : Dy ml21 1074 l21) (bl21 : ml21.natAbs ≤ 8) (e0 : mc1 = mo1) (e1 : mc3 = mo3) (e2 : mc5 = mo5) (e3 : mc7 = mo7) :
    Con l Z n0 (⟨"com/example/orthogon/orthogon/TriangularSolveUnitLowerPinLaw", "col", "([D[DIIIDDD)Z"⟩ : MethodName) method_3_code 23 (some .boolean) ws ({ frames := 0, cells := 0, slots := 0, locals := 0 } : Room) #[(.ref ca), (.ref oa), (.int (2 : Int32)), (.int (1 : Int32)), (.int (1 : Int32)), (.double l10), (.double l20), (.double l21)] h0 (fun v h => v = some (.int 1) ∧ h = h0) := by
  refine con_start (plainFor_of_name (by first | (simp [plainName, overriddenIn]; done) | decide +kernel)) (fr0 := fun m => mkF m 0 #[.val (.ref ca), .val (.ref oa), .val (.int (2 : Int32)), .val (.int (1 : Int32)), .val (.int (1 : Int32)), .val (.double l10), .second, .val (.double l20), .second, .val (.double l21), .second, .unset, .unset, .unset, .unset, .unset, .unset, .unset, .unset, .unset, .unset, .unset, .unset] []) (fun m => by first | (simp [entryFrame, mkF, argsToLocals, Value.category]; done) | rfl) ?_
  intro p e s m below meth c T0 hx hZ hby hml hown hnm hret hlk X0
  replace hown : s.vm.findClass "com/example/orthogon/orthogon/TriangularSolveUnitLowerPinLaw" = some m.cls := hown
  replace hml : c.maxLocals = 23 := hml
  refine g_aloadN X0 hx (pc' := 1) rfl (hb hby d3_0) rfl rfl ?_
  refine g_iloadN X0 hx (pc' := 2) rfl (hb hby d3_1) rfl ?_
  refine g_daload X0 hx hZ Ac (i := 1) (by decide) (show (1 : Nat) < 8 by decide) (v := c1) rfl (pc' := 3) rfl (hb hby d3_2) ?_
  refine g_dstore X0 hx (pc' := 5) rfl (hb hby d3_3) (l' := #[.val (.ref ca), .val (.ref oa), .val (.int (2 : Int32)), .val (.int (1 : Int32)), .val (.int (1 : Int32)), .val (.double l10), .second, .val (.double l20), .second, .val (.double l21), .second, .val (.double c1), .second, .unset, .unset, .unset, .unset, .unset, .unset, .unset, .unset, .unset, .unset]) rfl ?_
  refine g_aloadN X0 hx (pc' := 6) rfl (hb hby d3_5) rfl rfl ?_
  refine g_iloadN X0 hx (pc' := 7) rfl (hb hby d3_6) rfl ?_
  refine g_iloadN X0 hx (pc' := 8) rfl (hb hby d3_7) rfl ?_
  refine g_iadd X0 hx (pc' := 9) rfl (hb hby d3_8) ?_
  refine g_normI (z := (3 : Int32)) (by decide) ?_
  refine g_daload X0 hx hZ Ac (i := 3) (by decide) (show (3 : Nat) < 8 by decide) (v := c3) rfl (pc' := 10) rfl (hb hby d3_9) ?_
  refine g_dstore X0 hx (pc' := 12) rfl (hb hby d3_10) (l' := #[.val (.ref ca), .val (.ref oa), .val (.int (2 : Int32)), .val (.int (1 : Int32)), .val (.int (1 : Int32)), .val (.double l10), .second, .val (.double l20), .second, .val (.double l21), .second, .val (.double c1), .second, .val (.double c3), .second, .unset, .unset, .unset, .unset, .unset, .unset, .unset, .unset]) rfl ?_
  refine g_aloadN X0 hx (pc' := 13) rfl (hb hby d3_12) rfl rfl ?_
  refine g_iconst X0 hx (pc' := 14) (z := (2 : Int32)) rfl (hb hby d3_13) rfl ?_
  refine g_iloadN X0 hx (pc' := 15) rfl (hb hby d3_14) rfl ?_
  refine g_imul X0 hx (pc' := 16) rfl (hb hby d3_15) ?_
  refine g_normI (z := (4 : Int32)) (by decide) ?_
  refine g_iloadN X0 hx (pc' := 17) rfl (hb hby d3_16) rfl ?_
  refine g_iadd X0 hx (pc' := 18) rfl (hb hby d3_17) ?_
  refine g_normI (z := (5 : Int32)) (by decide) ?_
  refine g_daload X0 hx hZ Ac (i := 5) (by decide) (show (5 : Nat) < 8 by decide) (v := c5) rfl (pc' := 19) rfl (hb hby d3_18) ?_
  refine g_dstore X0 hx (pc' := 21) rfl (hb hby d3_19) (l' := #[.val (.ref ca), .val (.ref oa), .val (.int (2 : Int32)), .val (.int (1 : Int32)), .val (.int (1 : Int32)), .val (.double l10), .second, .val (.double l20), .second, .val (.double l21), .second, .val (.double c1), .second, .val (.double c3), .second, .val (.double c5), .second, .unset, .unset, .unset, .unset, .unset, .unset]) rfl ?_
  refine g_aloadN X0 hx (pc' := 22) rfl (hb hby d3_21) rfl rfl ?_
  refine g_iconst X0 hx (pc' := 23) (z := (3 : Int32)) rfl (hb hby d3_22) rfl ?_
  refine g_iloadN X0 hx (pc' := 24) rfl (hb hby d3_23) rfl ?_
  refine g_imul X0 hx (pc' := 25) rfl (hb hby d3_24) ?_
  refine g_normI (z := (6 : Int32)) (by decide) ?_
  refine g_iloadN X0 hx (pc' := 26) rfl (hb hby d3_25) rfl ?_
  refine g_iadd X0 hx (pc' := 27) rfl (hb hby d3_26) ?_
  refine g_normI (z := (7 : Int32)) (by decide) ?_
  refine g_daload X0 hx hZ Ac (i := 7) (by decide) (show (7 : Nat) < 8 by decide) (v := c7) rfl (pc' := 28) rfl (hb hby d3_27) ?_
  refine g_dstore X0 hx (pc' := 30) rfl (hb hby d3_28) (l' := #[.val (.ref ca), .val (.ref oa), .val (.int (2 : Int32)), .val (.int (1 : Int32)), .val (.int (1 : Int32)), .val (.double l10), .second, .val (.double l20), .second, .val (.double l21), .second, .val (.double c1), .second, .val (.double c3), .second, .val (.double c5), .second, .val (.double c7), .second, .unset, .unset, .unset, .unset]) rfl ?_
  refine g_dload X0 hx (pc' := 32) rfl (hb hby d3_30) rfl ?_
  refine g_aloadN X0 hx (pc' := 33) rfl (hb hby d3_32) rfl rfl ?_
  refine g_iloadN X0 hx (pc' := 34) rfl (hb hby d3_33) rfl ?_
  refine g_daload X0 hx hZ Ao (i := 1) (by decide) (show (1 : Nat) < 8 by decide) (v := o1) rfl (pc' := 35) rfl (hb hby d3_34) ?_
  refine g_dcmp X0 hx (pc' := 36) (z := (0 : Int32)) rfl (hb hby d3_35) (own_dyeq yc1 yo1 (by exact e0)) ?_
  refine g_ifN X0 hx (pcN := 39) (hb hby d3_36) rfl (show ¬ (¬ (0 : Int32) = 0) from by decide) ?_
  refine g_iconst X0 hx (pc' := 40) (z := (1 : Int32)) rfl (hb hby d3_39) rfl ?_
  refine g_goto X0 hx (pc' := 44) (hb hby d3_40) (by decide) (by decide) ?_
  refine g_istore X0 hx (pc' := 46) rfl (hb hby d3_44) (l' := #[.val (.ref ca), .val (.ref oa), .val (.int (2 : Int32)), .val (.int (1 : Int32)), .val (.int (1 : Int32)), .val (.double l10), .second, .val (.double l20), .second, .val (.double l21), .second, .val (.double c1), .second, .val (.double c3), .second, .val (.double c5), .second, .val (.double c7), .second, .val (.int (1 : Int32)), .unset, .unset, .unset]) rfl ?_
  refine g_iload X0 hx (pc' := 48) rfl (hb hby d3_46) rfl ?_
  refine g_iconst X0 hx (pc' := 49) (z := (1 : Int32)) rfl (hb hby d3_48) rfl ?_
  refine g_icmpY X0 hx (pcY := 77) (hb hby d3_49) (by decide) (by decide) (show ¬ (1 : Int32) < (1 : Int32) from by decide) ?_
  refine g_dload X0 hx (pc' := 79) rfl (hb hby d3_77) rfl ?_
  refine g_aloadN X0 hx (pc' := 80) rfl (hb hby d3_79) rfl rfl ?_
  refine g_iloadN X0 hx (pc' := 81) rfl (hb hby d3_80) rfl ?_
  refine g_iloadN X0 hx (pc' := 82) rfl (hb hby d3_81) rfl ?_
  refine g_iadd X0 hx (pc' := 83) rfl (hb hby d3_82) ?_
  refine g_normI (z := (3 : Int32)) (by decide) ?_
  refine g_daload X0 hx hZ Ao (i := 3) (by decide) (show (3 : Nat) < 8 by decide) (v := o3) rfl (pc' := 84) rfl (hb hby d3_83) ?_
  refine g_dcmp X0 hx (pc' := 85) (z := (0 : Int32)) rfl (hb hby d3_84) (own_dyeq yc3 yo3 (by exact e1)) ?_
  refine g_ifN X0 hx (pcN := 88) (hb hby d3_85) rfl (show ¬ (¬ (0 : Int32) = 0) from by decide) ?_
  refine g_iconst X0 hx (pc' := 89) (z := (1 : Int32)) rfl (hb hby d3_88) rfl ?_
  refine g_goto X0 hx (pc' := 93) (hb hby d3_89) (by decide) (by decide) ?_
  refine g_istore X0 hx (pc' := 95) rfl (hb hby d3_93) (l' := #[.val (.ref ca), .val (.ref oa), .val (.int (2 : Int32)), .val (.int (1 : Int32)), .val (.int (1 : Int32)), .val (.double l10), .second, .val (.double l20), .second, .val (.double l21), .second, .val (.double c1), .second, .val (.double c3), .second, .val (.double c5), .second, .val (.double c7), .second, .val (.int (1 : Int32)), .val (.int (1 : Int32)), .unset, .unset]) rfl ?_
  refine g_iload X0 hx (pc' := 97) rfl (hb hby d3_95) rfl ?_
  refine g_iconst X0 hx (pc' := 98) (z := (2 : Int32)) rfl (hb hby d3_97) rfl ?_
  refine g_icmpY X0 hx (pcY := 134) (hb hby d3_98) (by decide) (by decide) (show ¬ (2 : Int32) < (1 : Int32) from by decide) ?_
  refine g_dload X0 hx (pc' := 136) rfl (hb hby d3_134) rfl ?_
  refine g_aloadN X0 hx (pc' := 137) rfl (hb hby d3_136) rfl rfl ?_
  refine g_iconst X0 hx (pc' := 138) (z := (2 : Int32)) rfl (hb hby d3_137) rfl ?_
  refine g_iloadN X0 hx (pc' := 139) rfl (hb hby d3_138) rfl ?_
  refine g_imul X0 hx (pc' := 140) rfl (hb hby d3_139) ?_
  refine g_normI (z := (4 : Int32)) (by decide) ?_
  refine g_iloadN X0 hx (pc' := 141) rfl (hb hby d3_140) rfl ?_
  refine g_iadd X0 hx (pc' := 142) rfl (hb hby d3_141) ?_
  refine g_normI (z := (5 : Int32)) (by decide) ?_
  refine g_daload X0 hx hZ Ao (i := 5) (by decide) (show (5 : Nat) < 8 by decide) (v := o5) rfl (pc' := 143) rfl (hb hby d3_142) ?_
  refine g_dcmp X0 hx (pc' := 144) (z := (0 : Int32)) rfl (hb hby d3_143) (own_dyeq yc5 yo5 (by exact e2)) ?_
  refine g_ifN X0 hx (pcN := 147) (hb hby d3_144) rfl (show ¬ (¬ (0 : Int32) = 0) from by decide) ?_
  refine g_iconst X0 hx (pc' := 148) (z := (1 : Int32)) rfl (hb hby d3_147) rfl ?_
  refine g_goto X0 hx (pc' := 152) (hb hby d3_148) (by decide) (by decide) ?_
  refine g_istore X0 hx (pc' := 154) rfl (hb hby d3_152) (l' := #[.val (.ref ca), .val (.ref oa), .val (.int (2 : Int32)), .val (.int (1 : Int32)), .val (.int (1 : Int32)), .val (.double l10), .second, .val (.double l20), .second, .val (.double l21), .second, .val (.double c1), .second, .val (.double c3), .second, .val (.double c5), .second, .val (.double c7), .second, .val (.int (1 : Int32)), .val (.int (1 : Int32)), .val (.int (1 : Int32)), .unset]) rfl ?_
  refine g_dload X0 hx (pc' := 156) rfl (hb hby d3_154) rfl ?_
  refine g_aloadN X0 hx (pc' := 157) rfl (hb hby d3_156) rfl rfl ?_
  refine g_iconst X0 hx (pc' := 158) (z := (3 : Int32)) rfl (hb hby d3_157) rfl ?_
  refine g_iloadN X0 hx (pc' := 159) rfl (hb hby d3_158) rfl ?_
  refine g_imul X0 hx (pc' := 160) rfl (hb hby d3_159) ?_
  refine g_normI (z := (6 : Int32)) (by decide) ?_
  refine g_iloadN X0 hx (pc' := 161) rfl (hb hby d3_160) rfl ?_
  refine g_iadd X0 hx (pc' := 162) rfl (hb hby d3_161) ?_
  refine g_normI (z := (7 : Int32)) (by decide) ?_
  refine g_daload X0 hx hZ Ao (i := 7) (by decide) (show (7 : Nat) < 8 by decide) (v := o7) rfl (pc' := 163) rfl (hb hby d3_162) ?_
  refine g_dcmp X0 hx (pc' := 164) (z := (0 : Int32)) rfl (hb hby d3_163) (own_dyeq yc7 yo7 (by exact e3)) ?_
  refine g_ifN X0 hx (pcN := 167) (hb hby d3_164) rfl (show ¬ (¬ (0 : Int32) = 0) from by decide) ?_
  refine g_iconst X0 hx (pc' := 168) (z := (1 : Int32)) rfl (hb hby d3_167) rfl ?_
  refine g_goto X0 hx (pc' := 172) (hb hby d3_168) (by decide) (by decide) ?_
  refine g_istore X0 hx (pc' := 174) rfl (hb hby d3_172) (l' := #[.val (.ref ca), .val (.ref oa), .val (.int (2 : Int32)), .val (.int (1 : Int32)), .val (.int (1 : Int32)), .val (.double l10), .second, .val (.double l20), .second, .val (.double l21), .second, .val (.double c1), .second, .val (.double c3), .second, .val (.double c5), .second, .val (.double c7), .second, .val (.int (1 : Int32)), .val (.int (1 : Int32)), .val (.int (1 : Int32)), .val (.int (1 : Int32))]) rfl ?_
  refine g_iload X0 hx (pc' := 176) rfl (hb hby d3_174) rfl ?_
  refine g_ifN X0 hx (pcN := 179) (hb hby d3_176) rfl (show ¬ ((1 : Int32) = 0) from by decide) ?_
  refine g_iload X0 hx (pc' := 181) rfl (hb hby d3_179) rfl ?_
  refine g_ifN X0 hx (pcN := 184) (hb hby d3_181) rfl (show ¬ ((1 : Int32) = 0) from by decide) ?_
  refine g_iload X0 hx (pc' := 186) rfl (hb hby d3_184) rfl ?_
  refine g_ifN X0 hx (pcN := 189) (hb hby d3_186) rfl (show ¬ ((1 : Int32) = 0) from by decide) ?_
  refine g_iload X0 hx (pc' := 191) rfl (hb hby d3_189) rfl ?_
  refine g_ifN X0 hx (pcN := 194) (hb hby d3_191) rfl (show ¬ ((1 : Int32) = 0) from by decide) ?_
  refine g_iconst X0 hx (pc' := 195) (z := (1 : Int32)) rfl (hb hby d3_194) rfl ?_
  refine g_goto X0 hx (pc' := 199) (hb hby d3_195) (by decide) (by decide) ?_
  exact g_retZ X0 hx hlk hret (by first | exact Or.inl rfl | exact Or.inr rfl) (hb hby d3_199) (by decide) (by decide) (⟨rfl, rfl⟩)
set_option maxRecDepth 65536 in
set_option maxHeartbeats 40000000 in
theorem rm3_2_1_0 (l : Launch) (Z : State) (a0 : Array Value) (hw : ∀ d ∈ tables_1, d.before a0 Z = true) (ws : List Jvm.Cond) (n0 : Nat) (ca oa : Addr) (c0 o0 : UInt64) (c1 o1 : UInt64) (c2 o2 : UInt64) (c3 o3 : UInt64) (c4 o4 : UInt64) (c5 o5 : UInt64) (c6 o6 : UInt64) (c7 o7 : UInt64) (mc0 mo0 : Int) (mc1 mo1 : Int) (mc2 mo2 : Int) (mc3 mo3 : Int) (l10 l20 l21 : UInt64) (ml10 ml20 ml21 : Int) (h0 : Heap) (hn0 : n0 ≤ h0.size) (Ac : AD Z h0 ca [c0, c1, c2, c3, c4, c5, c6, c7]) (Ao : AD Z h0 oa [o0, o1, o2, o3, o4, o5, o6, o7]) (yc0 : Dy mc0 1074 c0) (bc0 : mc0.natAbs ≤ 100000) (yo0 : Dy mo0 1074 o0) (bo0 : mo0.natAbs ≤ 8) (yc1 : Dy mc1 1074 c1) (bc1 : mc1.natAbs ≤ 100000) (yo1 : Dy mo1 1074 o1) (bo1 : mo1.natAbs ≤ 8) (yc2 : Dy mc2 1074 c2) (bc2 : mc2.natAbs ≤ 100000) (yo2 : Dy mo2 1074 o2) (bo2 : mo2.natAbs ≤ 8) (yc3 : Dy mc3 1074 c3) (bc3 : mc3.natAbs ≤ 100000) (yo3 : Dy mo3 1074 o3) (bo3 : mo3.natAbs ≤ 8) (yl10 : Dy ml10 1074 l10) (bl10 : ml10.natAbs ≤ 8) (yl20 : Dy ml20 1074 l20) (bl20 : ml20.natAbs ≤ 8) (yl21 : Dy ml21 1074 l21) (bl21 : ml21.natAbs ≤ 8) (e0 : mc0 = mo0) (e1 : ml10 * mc0 + mc1 = mo1) (e2 : mc2 = mo2) (e3 : mc3 = mo3) :
    Con l Z n0 (⟨"com/example/orthogon/orthogon/TriangularSolveUnitLowerPinLaw", "col", "([D[DIIIDDD)Z"⟩ : MethodName) method_3_code 23 (some .boolean) ws ({ frames := 0, cells := 0, slots := 0, locals := 0 } : Room) #[(.ref ca), (.ref oa), (.int (1 : Int32)), (.int (0 : Int32)), (.int (2 : Int32)), (.double l10), (.double l20), (.double l21)] h0 (fun v h => v = some (.int 1) ∧ h = h0) := by
  refine con_start (plainFor_of_name (by first | (simp [plainName, overriddenIn]; done) | decide +kernel)) (fr0 := fun m => mkF m 0 #[.val (.ref ca), .val (.ref oa), .val (.int (1 : Int32)), .val (.int (0 : Int32)), .val (.int (2 : Int32)), .val (.double l10), .second, .val (.double l20), .second, .val (.double l21), .second, .unset, .unset, .unset, .unset, .unset, .unset, .unset, .unset, .unset, .unset, .unset, .unset] []) (fun m => by first | (simp [entryFrame, mkF, argsToLocals, Value.category]; done) | rfl) ?_
  intro p e s m below meth c T0 hx hZ hby hml hown hnm hret hlk X0
  replace hown : s.vm.findClass "com/example/orthogon/orthogon/TriangularSolveUnitLowerPinLaw" = some m.cls := hown
  replace hml : c.maxLocals = 23 := hml
  refine g_aloadN X0 hx (pc' := 1) rfl (hb hby d3_0) rfl rfl ?_
  refine g_iloadN X0 hx (pc' := 2) rfl (hb hby d3_1) rfl ?_
  refine g_daload X0 hx hZ Ac (i := 0) (by decide) (show (0 : Nat) < 8 by decide) (v := c0) rfl (pc' := 3) rfl (hb hby d3_2) ?_
  refine g_dstore X0 hx (pc' := 5) rfl (hb hby d3_3) (l' := #[.val (.ref ca), .val (.ref oa), .val (.int (1 : Int32)), .val (.int (0 : Int32)), .val (.int (2 : Int32)), .val (.double l10), .second, .val (.double l20), .second, .val (.double l21), .second, .val (.double c0), .second, .unset, .unset, .unset, .unset, .unset, .unset, .unset, .unset, .unset, .unset]) rfl ?_
  refine g_aloadN X0 hx (pc' := 6) rfl (hb hby d3_5) rfl rfl ?_
  refine g_iloadN X0 hx (pc' := 7) rfl (hb hby d3_6) rfl ?_
  refine g_iloadN X0 hx (pc' := 8) rfl (hb hby d3_7) rfl ?_
  refine g_iadd X0 hx (pc' := 9) rfl (hb hby d3_8) ?_
  refine g_normI (z := (1 : Int32)) (by decide) ?_
  refine g_daload X0 hx hZ Ac (i := 1) (by decide) (show (1 : Nat) < 8 by decide) (v := c1) rfl (pc' := 10) rfl (hb hby d3_9) ?_
  refine g_dstore X0 hx (pc' := 12) rfl (hb hby d3_10) (l' := #[.val (.ref ca), .val (.ref oa), .val (.int (1 : Int32)), .val (.int (0 : Int32)), .val (.int (2 : Int32)), .val (.double l10), .second, .val (.double l20), .second, .val (.double l21), .second, .val (.double c0), .second, .val (.double c1), .second, .unset, .unset, .unset, .unset, .unset, .unset, .unset, .unset]) rfl ?_
  refine g_aloadN X0 hx (pc' := 13) rfl (hb hby d3_12) rfl rfl ?_
  refine g_iconst X0 hx (pc' := 14) (z := (2 : Int32)) rfl (hb hby d3_13) rfl ?_
  refine g_iloadN X0 hx (pc' := 15) rfl (hb hby d3_14) rfl ?_
  refine g_imul X0 hx (pc' := 16) rfl (hb hby d3_15) ?_
  refine g_normI (z := (2 : Int32)) (by decide) ?_
  refine g_iloadN X0 hx (pc' := 17) rfl (hb hby d3_16) rfl ?_
  refine g_iadd X0 hx (pc' := 18) rfl (hb hby d3_17) ?_
  refine g_normI (z := (2 : Int32)) (by decide) ?_
  refine g_daload X0 hx hZ Ac (i := 2) (by decide) (show (2 : Nat) < 8 by decide) (v := c2) rfl (pc' := 19) rfl (hb hby d3_18) ?_
  refine g_dstore X0 hx (pc' := 21) rfl (hb hby d3_19) (l' := #[.val (.ref ca), .val (.ref oa), .val (.int (1 : Int32)), .val (.int (0 : Int32)), .val (.int (2 : Int32)), .val (.double l10), .second, .val (.double l20), .second, .val (.double l21), .second, .val (.double c0), .second, .val (.double c1), .second, .val (.double c2), .second, .unset, .unset, .unset, .unset, .unset, .unset]) rfl ?_
  refine g_aloadN X0 hx (pc' := 22) rfl (hb hby d3_21) rfl rfl ?_
  refine g_iconst X0 hx (pc' := 23) (z := (3 : Int32)) rfl (hb hby d3_22) rfl ?_
  refine g_iloadN X0 hx (pc' := 24) rfl (hb hby d3_23) rfl ?_
  refine g_imul X0 hx (pc' := 25) rfl (hb hby d3_24) ?_
  refine g_normI (z := (3 : Int32)) (by decide) ?_
  refine g_iloadN X0 hx (pc' := 26) rfl (hb hby d3_25) rfl ?_
  refine g_iadd X0 hx (pc' := 27) rfl (hb hby d3_26) ?_
  refine g_normI (z := (3 : Int32)) (by decide) ?_
  refine g_daload X0 hx hZ Ac (i := 3) (by decide) (show (3 : Nat) < 8 by decide) (v := c3) rfl (pc' := 28) rfl (hb hby d3_27) ?_
  refine g_dstore X0 hx (pc' := 30) rfl (hb hby d3_28) (l' := #[.val (.ref ca), .val (.ref oa), .val (.int (1 : Int32)), .val (.int (0 : Int32)), .val (.int (2 : Int32)), .val (.double l10), .second, .val (.double l20), .second, .val (.double l21), .second, .val (.double c0), .second, .val (.double c1), .second, .val (.double c2), .second, .val (.double c3), .second, .unset, .unset, .unset, .unset]) rfl ?_
  refine g_dload X0 hx (pc' := 32) rfl (hb hby d3_30) rfl ?_
  refine g_aloadN X0 hx (pc' := 33) rfl (hb hby d3_32) rfl rfl ?_
  refine g_iloadN X0 hx (pc' := 34) rfl (hb hby d3_33) rfl ?_
  refine g_daload X0 hx hZ Ao (i := 0) (by decide) (show (0 : Nat) < 8 by decide) (v := o0) rfl (pc' := 35) rfl (hb hby d3_34) ?_
  refine g_dcmp X0 hx (pc' := 36) (z := (0 : Int32)) rfl (hb hby d3_35) (own_dyeq yc0 yo0 (by exact e0)) ?_
  refine g_ifN X0 hx (pcN := 39) (hb hby d3_36) rfl (show ¬ (¬ (0 : Int32) = 0) from by decide) ?_
  refine g_iconst X0 hx (pc' := 40) (z := (1 : Int32)) rfl (hb hby d3_39) rfl ?_
  refine g_goto X0 hx (pc' := 44) (hb hby d3_40) (by decide) (by decide) ?_
  refine g_istore X0 hx (pc' := 46) rfl (hb hby d3_44) (l' := #[.val (.ref ca), .val (.ref oa), .val (.int (1 : Int32)), .val (.int (0 : Int32)), .val (.int (2 : Int32)), .val (.double l10), .second, .val (.double l20), .second, .val (.double l21), .second, .val (.double c0), .second, .val (.double c1), .second, .val (.double c2), .second, .val (.double c3), .second, .val (.int (1 : Int32)), .unset, .unset, .unset]) rfl ?_
  refine g_iload X0 hx (pc' := 48) rfl (hb hby d3_46) rfl ?_
  refine g_iconst X0 hx (pc' := 49) (z := (1 : Int32)) rfl (hb hby d3_48) rfl ?_
  refine g_icmpN X0 hx (pcN := 52) (hb hby d3_49) rfl (show ¬ (¬ (1 : Int32) < (2 : Int32)) from by decide) ?_
  refine g_dload X0 hx (pc' := 54) rfl (hb hby d3_52) rfl ?_
  refine g_dload X0 hx (pc' := 56) rfl (hb hby d3_54) rfl ?_
  have q289 : Dy (ml10 * mc0) 1074 (FP.dmul l10 c0) := dy_mul yl10 yc0 (by decide) (own_mb bl10 bc0 (by decide)) (by decide)
  refine g_dmul X0 hx (pc' := 57) (z := (FP.dmul l10 c0)) rfl (hb hby d3_56) (dy_noNaN q289) rfl ?_
  refine g_absD (fun d289 hd289 => ?_)
  rw [← hd289] at q289
  obtain ⟨n289, en289⟩ : ∃ z : Int, z = ml10 * mc0 := ⟨_, rfl⟩
  rw [← en289] at q289
  have b289 : n289.natAbs ≤ 800000 := by rw [en289, Int.natAbs_mul]; exact Nat.le_trans (Nat.mul_le_mul bl10 bc0) (by decide)
  refine g_dload X0 hx (pc' := 59) rfl (hb hby d3_57) rfl ?_
  have q290 : Dy (n289 + mc1) 1074 (FP.dadd d289 c1) := dy_add q289 yc1 (own_addb b289 bc1 (by decide)) (by decide)
  refine g_dadd X0 hx (pc' := 60) (z := (FP.dadd d289 c1)) rfl (hb hby d3_59) (dy_noNaN q290) rfl ?_
  refine g_absD (fun d290 hd290 => ?_)
  rw [← hd290] at q290
  obtain ⟨n290, en290⟩ : ∃ z : Int, z = n289 + mc1 := ⟨_, rfl⟩
  rw [← en290] at q290
  have b290 : n290.natAbs ≤ 900000 := by rw [en290]; exact Nat.le_trans (own_addl b289 bc1) (by decide)
  refine g_aloadN X0 hx (pc' := 61) rfl (hb hby d3_60) rfl rfl ?_
  refine g_iloadN X0 hx (pc' := 62) rfl (hb hby d3_61) rfl ?_
  refine g_iloadN X0 hx (pc' := 63) rfl (hb hby d3_62) rfl ?_
  refine g_iadd X0 hx (pc' := 64) rfl (hb hby d3_63) ?_
  refine g_normI (z := (1 : Int32)) (by decide) ?_
  refine g_daload X0 hx hZ Ao (i := 1) (by decide) (show (1 : Nat) < 8 by decide) (v := o1) rfl (pc' := 65) rfl (hb hby d3_64) ?_
  refine g_dcmp X0 hx (pc' := 66) (z := (0 : Int32)) rfl (hb hby d3_65) (own_dyeq q290 yo1 (by rw [en290, en289]; exact e1)) ?_
  refine g_ifN X0 hx (pcN := 69) (hb hby d3_66) rfl (show ¬ (¬ (0 : Int32) = 0) from by decide) ?_
  refine g_iconst X0 hx (pc' := 70) (z := (1 : Int32)) rfl (hb hby d3_69) rfl ?_
  refine g_goto X0 hx (pc' := 93) (hb hby d3_70) (by decide) (by decide) ?_
  refine g_istore X0 hx (pc' := 95) rfl (hb hby d3_93) (l' := #[.val (.ref ca), .val (.ref oa), .val (.int (1 : Int32)), .val (.int (0 : Int32)), .val (.int (2 : Int32)), .val (.double l10), .second, .val (.double l20), .second, .val (.double l21), .second, .val (.double c0), .second, .val (.double c1), .second, .val (.double c2), .second, .val (.double c3), .second, .val (.int (1 : Int32)), .val (.int (1 : Int32)), .unset, .unset]) rfl ?_
  refine g_iload X0 hx (pc' := 97) rfl (hb hby d3_95) rfl ?_
  refine g_iconst X0 hx (pc' := 98) (z := (2 : Int32)) rfl (hb hby d3_97) rfl ?_
  refine g_icmpY X0 hx (pcY := 134) (hb hby d3_98) (by decide) (by decide) (show ¬ (2 : Int32) < (2 : Int32) from by decide) ?_
  refine g_dload X0 hx (pc' := 136) rfl (hb hby d3_134) rfl ?_
  refine g_aloadN X0 hx (pc' := 137) rfl (hb hby d3_136) rfl rfl ?_
  refine g_iconst X0 hx (pc' := 138) (z := (2 : Int32)) rfl (hb hby d3_137) rfl ?_
  refine g_iloadN X0 hx (pc' := 139) rfl (hb hby d3_138) rfl ?_
  refine g_imul X0 hx (pc' := 140) rfl (hb hby d3_139) ?_
  refine g_normI (z := (2 : Int32)) (by decide) ?_
  refine g_iloadN X0 hx (pc' := 141) rfl (hb hby d3_140) rfl ?_
  refine g_iadd X0 hx (pc' := 142) rfl (hb hby d3_141) ?_
  refine g_normI (z := (2 : Int32)) (by decide) ?_
  refine g_daload X0 hx hZ Ao (i := 2) (by decide) (show (2 : Nat) < 8 by decide) (v := o2) rfl (pc' := 143) rfl (hb hby d3_142) ?_
  refine g_dcmp X0 hx (pc' := 144) (z := (0 : Int32)) rfl (hb hby d3_143) (own_dyeq yc2 yo2 (by exact e2)) ?_
  refine g_ifN X0 hx (pcN := 147) (hb hby d3_144) rfl (show ¬ (¬ (0 : Int32) = 0) from by decide) ?_
  refine g_iconst X0 hx (pc' := 148) (z := (1 : Int32)) rfl (hb hby d3_147) rfl ?_
  refine g_goto X0 hx (pc' := 152) (hb hby d3_148) (by decide) (by decide) ?_
  refine g_istore X0 hx (pc' := 154) rfl (hb hby d3_152) (l' := #[.val (.ref ca), .val (.ref oa), .val (.int (1 : Int32)), .val (.int (0 : Int32)), .val (.int (2 : Int32)), .val (.double l10), .second, .val (.double l20), .second, .val (.double l21), .second, .val (.double c0), .second, .val (.double c1), .second, .val (.double c2), .second, .val (.double c3), .second, .val (.int (1 : Int32)), .val (.int (1 : Int32)), .val (.int (1 : Int32)), .unset]) rfl ?_
  refine g_dload X0 hx (pc' := 156) rfl (hb hby d3_154) rfl ?_
  refine g_aloadN X0 hx (pc' := 157) rfl (hb hby d3_156) rfl rfl ?_
  refine g_iconst X0 hx (pc' := 158) (z := (3 : Int32)) rfl (hb hby d3_157) rfl ?_
  refine g_iloadN X0 hx (pc' := 159) rfl (hb hby d3_158) rfl ?_
  refine g_imul X0 hx (pc' := 160) rfl (hb hby d3_159) ?_
  refine g_normI (z := (3 : Int32)) (by decide) ?_
  refine g_iloadN X0 hx (pc' := 161) rfl (hb hby d3_160) rfl ?_
  refine g_iadd X0 hx (pc' := 162) rfl (hb hby d3_161) ?_
  refine g_normI (z := (3 : Int32)) (by decide) ?_
  refine g_daload X0 hx hZ Ao (i := 3) (by decide) (show (3 : Nat) < 8 by decide) (v := o3) rfl (pc' := 163) rfl (hb hby d3_162) ?_
  refine g_dcmp X0 hx (pc' := 164) (z := (0 : Int32)) rfl (hb hby d3_163) (own_dyeq yc3 yo3 (by exact e3)) ?_
  refine g_ifN X0 hx (pcN := 167) (hb hby d3_164) rfl (show ¬ (¬ (0 : Int32) = 0) from by decide) ?_
  refine g_iconst X0 hx (pc' := 168) (z := (1 : Int32)) rfl (hb hby d3_167) rfl ?_
  refine g_goto X0 hx (pc' := 172) (hb hby d3_168) (by decide) (by decide) ?_
  refine g_istore X0 hx (pc' := 174) rfl (hb hby d3_172) (l' := #[.val (.ref ca), .val (.ref oa), .val (.int (1 : Int32)), .val (.int (0 : Int32)), .val (.int (2 : Int32)), .val (.double l10), .second, .val (.double l20), .second, .val (.double l21), .second, .val (.double c0), .second, .val (.double c1), .second, .val (.double c2), .second, .val (.double c3), .second, .val (.int (1 : Int32)), .val (.int (1 : Int32)), .val (.int (1 : Int32)), .val (.int (1 : Int32))]) rfl ?_
  refine g_iload X0 hx (pc' := 176) rfl (hb hby d3_174) rfl ?_
  refine g_ifN X0 hx (pcN := 179) (hb hby d3_176) rfl (show ¬ ((1 : Int32) = 0) from by decide) ?_
  refine g_iload X0 hx (pc' := 181) rfl (hb hby d3_179) rfl ?_
  refine g_ifN X0 hx (pcN := 184) (hb hby d3_181) rfl (show ¬ ((1 : Int32) = 0) from by decide) ?_
  refine g_iload X0 hx (pc' := 186) rfl (hb hby d3_184) rfl ?_
  refine g_ifN X0 hx (pcN := 189) (hb hby d3_186) rfl (show ¬ ((1 : Int32) = 0) from by decide) ?_
  refine g_iload X0 hx (pc' := 191) rfl (hb hby d3_189) rfl ?_
  refine g_ifN X0 hx (pcN := 194) (hb hby d3_191) rfl (show ¬ ((1 : Int32) = 0) from by decide) ?_
  refine g_iconst X0 hx (pc' := 195) (z := (1 : Int32)) rfl (hb hby d3_194) rfl ?_
  refine g_goto X0 hx (pc' := 199) (hb hby d3_195) (by decide) (by decide) ?_
  exact g_retZ X0 hx hlk hret (by first | exact Or.inl rfl | exact Or.inr rfl) (hb hby d3_199) (by decide) (by decide) (⟨rfl, rfl⟩)
set_option maxRecDepth 65536 in
set_option maxHeartbeats 40000000 in
theorem rm3_2_2_0 (l : Launch) (Z : State) (a0 : Array Value) (hw : ∀ d ∈ tables_1, d.before a0 Z = true) (ws : List Jvm.Cond) (n0 : Nat) (ca oa : Addr) (c0 o0 : UInt64) (c1 o1 : UInt64) (c2 o2 : UInt64) (c3 o3 : UInt64) (c4 o4 : UInt64) (c5 o5 : UInt64) (c6 o6 : UInt64) (c7 o7 : UInt64) (mc0 mo0 : Int) (mc2 mo2 : Int) (mc4 mo4 : Int) (mc6 mo6 : Int) (l10 l20 l21 : UInt64) (ml10 ml20 ml21 : Int) (h0 : Heap) (hn0 : n0 ≤ h0.size) (Ac : AD Z h0 ca [c0, c1, c2, c3, c4, c5, c6, c7]) (Ao : AD Z h0 oa [o0, o1, o2, o3, o4, o5, o6, o7]) (yc0 : Dy mc0 1074 c0) (bc0 : mc0.natAbs ≤ 100000) (yo0 : Dy mo0 1074 o0) (bo0 : mo0.natAbs ≤ 8) (yc2 : Dy mc2 1074 c2) (bc2 : mc2.natAbs ≤ 100000) (yo2 : Dy mo2 1074 o2) (bo2 : mo2.natAbs ≤ 8) (yc4 : Dy mc4 1074 c4) (bc4 : mc4.natAbs ≤ 100000) (yo4 : Dy mo4 1074 o4) (bo4 : mo4.natAbs ≤ 8) (yc6 : Dy mc6 1074 c6) (bc6 : mc6.natAbs ≤ 100000) (yo6 : Dy mo6 1074 o6) (bo6 : mo6.natAbs ≤ 8) (yl10 : Dy ml10 1074 l10) (bl10 : ml10.natAbs ≤ 8) (yl20 : Dy ml20 1074 l20) (bl20 : ml20.natAbs ≤ 8) (yl21 : Dy ml21 1074 l21) (bl21 : ml21.natAbs ≤ 8) (e0 : mc0 = mo0) (e1 : ml10 * mc0 + mc2 = mo2) (e2 : mc4 = mo4) (e3 : mc6 = mo6) :
    Con l Z n0 (⟨"com/example/orthogon/orthogon/TriangularSolveUnitLowerPinLaw", "col", "([D[DIIIDDD)Z"⟩ : MethodName) method_3_code 23 (some .boolean) ws ({ frames := 0, cells := 0, slots := 0, locals := 0 } : Room) #[(.ref ca), (.ref oa), (.int (2 : Int32)), (.int (0 : Int32)), (.int (2 : Int32)), (.double l10), (.double l20), (.double l21)] h0 (fun v h => v = some (.int 1) ∧ h = h0) := by
  refine con_start (plainFor_of_name (by first | (simp [plainName, overriddenIn]; done) | decide +kernel)) (fr0 := fun m => mkF m 0 #[.val (.ref ca), .val (.ref oa), .val (.int (2 : Int32)), .val (.int (0 : Int32)), .val (.int (2 : Int32)), .val (.double l10), .second, .val (.double l20), .second, .val (.double l21), .second, .unset, .unset, .unset, .unset, .unset, .unset, .unset, .unset, .unset, .unset, .unset, .unset] []) (fun m => by first | (simp [entryFrame, mkF, argsToLocals, Value.category]; done) | rfl) ?_
  intro p e s m below meth c T0 hx hZ hby hml hown hnm hret hlk X0
  replace hown : s.vm.findClass "com/example/orthogon/orthogon/TriangularSolveUnitLowerPinLaw" = some m.cls := hown
  replace hml : c.maxLocals = 23 := hml
  refine g_aloadN X0 hx (pc' := 1) rfl (hb hby d3_0) rfl rfl ?_
  refine g_iloadN X0 hx (pc' := 2) rfl (hb hby d3_1) rfl ?_
  refine g_daload X0 hx hZ Ac (i := 0) (by decide) (show (0 : Nat) < 8 by decide) (v := c0) rfl (pc' := 3) rfl (hb hby d3_2) ?_
  refine g_dstore X0 hx (pc' := 5) rfl (hb hby d3_3) (l' := #[.val (.ref ca), .val (.ref oa), .val (.int (2 : Int32)), .val (.int (0 : Int32)), .val (.int (2 : Int32)), .val (.double l10), .second, .val (.double l20), .second, .val (.double l21), .second, .val (.double c0), .second, .unset, .unset, .unset, .unset, .unset, .unset, .unset, .unset, .unset, .unset]) rfl ?_
  refine g_aloadN X0 hx (pc' := 6) rfl (hb hby d3_5) rfl rfl ?_
  refine g_iloadN X0 hx (pc' := 7) rfl (hb hby d3_6) rfl ?_
  refine g_iloadN X0 hx (pc' := 8) rfl (hb hby d3_7) rfl ?_
  refine g_iadd X0 hx (pc' := 9) rfl (hb hby d3_8) ?_
  refine g_normI (z := (2 : Int32)) (by decide) ?_
  refine g_daload X0 hx hZ Ac (i := 2) (by decide) (show (2 : Nat) < 8 by decide) (v := c2) rfl (pc' := 10) rfl (hb hby d3_9) ?_
  refine g_dstore X0 hx (pc' := 12) rfl (hb hby d3_10) (l' := #[.val (.ref ca), .val (.ref oa), .val (.int (2 : Int32)), .val (.int (0 : Int32)), .val (.int (2 : Int32)), .val (.double l10), .second, .val (.double l20), .second, .val (.double l21), .second, .val (.double c0), .second, .val (.double c2), .second, .unset, .unset, .unset, .unset, .unset, .unset, .unset, .unset]) rfl ?_
  refine g_aloadN X0 hx (pc' := 13) rfl (hb hby d3_12) rfl rfl ?_
  refine g_iconst X0 hx (pc' := 14) (z := (2 : Int32)) rfl (hb hby d3_13) rfl ?_
  refine g_iloadN X0 hx (pc' := 15) rfl (hb hby d3_14) rfl ?_
  refine g_imul X0 hx (pc' := 16) rfl (hb hby d3_15) ?_
  refine g_normI (z := (4 : Int32)) (by decide) ?_
  refine g_iloadN X0 hx (pc' := 17) rfl (hb hby d3_16) rfl ?_
  refine g_iadd X0 hx (pc' := 18) rfl (hb hby d3_17) ?_
  refine g_normI (z := (4 : Int32)) (by decide) ?_
  refine g_daload X0 hx hZ Ac (i := 4) (by decide) (show (4 : Nat) < 8 by decide) (v := c4) rfl (pc' := 19) rfl (hb hby d3_18) ?_
  refine g_dstore X0 hx (pc' := 21) rfl (hb hby d3_19) (l' := #[.val (.ref ca), .val (.ref oa), .val (.int (2 : Int32)), .val (.int (0 : Int32)), .val (.int (2 : Int32)), .val (.double l10), .second, .val (.double l20), .second, .val (.double l21), .second, .val (.double c0), .second, .val (.double c2), .second, .val (.double c4), .second, .unset, .unset, .unset, .unset, .unset, .unset]) rfl ?_
  refine g_aloadN X0 hx (pc' := 22) rfl (hb hby d3_21) rfl rfl ?_
  refine g_iconst X0 hx (pc' := 23) (z := (3 : Int32)) rfl (hb hby d3_22) rfl ?_
  refine g_iloadN X0 hx (pc' := 24) rfl (hb hby d3_23) rfl ?_
  refine g_imul X0 hx (pc' := 25) rfl (hb hby d3_24) ?_
  refine g_normI (z := (6 : Int32)) (by decide) ?_
  refine g_iloadN X0 hx (pc' := 26) rfl (hb hby d3_25) rfl ?_
  refine g_iadd X0 hx (pc' := 27) rfl (hb hby d3_26) ?_
  refine g_normI (z := (6 : Int32)) (by decide) ?_
  refine g_daload X0 hx hZ Ac (i := 6) (by decide) (show (6 : Nat) < 8 by decide) (v := c6) rfl (pc' := 28) rfl (hb hby d3_27) ?_
  refine g_dstore X0 hx (pc' := 30) rfl (hb hby d3_28) (l' := #[.val (.ref ca), .val (.ref oa), .val (.int (2 : Int32)), .val (.int (0 : Int32)), .val (.int (2 : Int32)), .val (.double l10), .second, .val (.double l20), .second, .val (.double l21), .second, .val (.double c0), .second, .val (.double c2), .second, .val (.double c4), .second, .val (.double c6), .second, .unset, .unset, .unset, .unset]) rfl ?_
  refine g_dload X0 hx (pc' := 32) rfl (hb hby d3_30) rfl ?_
  refine g_aloadN X0 hx (pc' := 33) rfl (hb hby d3_32) rfl rfl ?_
  refine g_iloadN X0 hx (pc' := 34) rfl (hb hby d3_33) rfl ?_
  refine g_daload X0 hx hZ Ao (i := 0) (by decide) (show (0 : Nat) < 8 by decide) (v := o0) rfl (pc' := 35) rfl (hb hby d3_34) ?_
  refine g_dcmp X0 hx (pc' := 36) (z := (0 : Int32)) rfl (hb hby d3_35) (own_dyeq yc0 yo0 (by exact e0)) ?_
  refine g_ifN X0 hx (pcN := 39) (hb hby d3_36) rfl (show ¬ (¬ (0 : Int32) = 0) from by decide) ?_
  refine g_iconst X0 hx (pc' := 40) (z := (1 : Int32)) rfl (hb hby d3_39) rfl ?_
  refine g_goto X0 hx (pc' := 44) (hb hby d3_40) (by decide) (by decide) ?_
  refine g_istore X0 hx (pc' := 46) rfl (hb hby d3_44) (l' := #[.val (.ref ca), .val (.ref oa), .val (.int (2 : Int32)), .val (.int (0 : Int32)), .val (.int (2 : Int32)), .val (.double l10), .second, .val (.double l20), .second, .val (.double l21), .second, .val (.double c0), .second, .val (.double c2), .second, .val (.double c4), .second, .val (.double c6), .second, .val (.int (1 : Int32)), .unset, .unset, .unset]) rfl ?_
  refine g_iload X0 hx (pc' := 48) rfl (hb hby d3_46) rfl ?_
  refine g_iconst X0 hx (pc' := 49) (z := (1 : Int32)) rfl (hb hby d3_48) rfl ?_
  refine g_icmpN X0 hx (pcN := 52) (hb hby d3_49) rfl (show ¬ (¬ (1 : Int32) < (2 : Int32)) from by decide) ?_
  refine g_dload X0 hx (pc' := 54) rfl (hb hby d3_52) rfl ?_
  refine g_dload X0 hx (pc' := 56) rfl (hb hby d3_54) rfl ?_
  have q291 : Dy (ml10 * mc0) 1074 (FP.dmul l10 c0) := dy_mul yl10 yc0 (by decide) (own_mb bl10 bc0 (by decide)) (by decide)
  refine g_dmul X0 hx (pc' := 57) (z := (FP.dmul l10 c0)) rfl (hb hby d3_56) (dy_noNaN q291) rfl ?_
  refine g_absD (fun d291 hd291 => ?_)
  rw [← hd291] at q291
  obtain ⟨n291, en291⟩ : ∃ z : Int, z = ml10 * mc0 := ⟨_, rfl⟩
  rw [← en291] at q291
  have b291 : n291.natAbs ≤ 800000 := by rw [en291, Int.natAbs_mul]; exact Nat.le_trans (Nat.mul_le_mul bl10 bc0) (by decide)
  refine g_dload X0 hx (pc' := 59) rfl (hb hby d3_57) rfl ?_
  have q292 : Dy (n291 + mc2) 1074 (FP.dadd d291 c2) := dy_add q291 yc2 (own_addb b291 bc2 (by decide)) (by decide)
  refine g_dadd X0 hx (pc' := 60) (z := (FP.dadd d291 c2)) rfl (hb hby d3_59) (dy_noNaN q292) rfl ?_
  refine g_absD (fun d292 hd292 => ?_)
  rw [← hd292] at q292
  obtain ⟨n292, en292⟩ : ∃ z : Int, z = n291 + mc2 := ⟨_, rfl⟩
  rw [← en292] at q292
  have b292 : n292.natAbs ≤ 900000 := by rw [en292]; exact Nat.le_trans (own_addl b291 bc2) (by decide)
  refine g_aloadN X0 hx (pc' := 61) rfl (hb hby d3_60) rfl rfl ?_
  refine g_iloadN X0 hx (pc' := 62) rfl (hb hby d3_61) rfl ?_
  refine g_iloadN X0 hx (pc' := 63) rfl (hb hby d3_62) rfl ?_
  refine g_iadd X0 hx (pc' := 64) rfl (hb hby d3_63) ?_
  refine g_normI (z := (2 : Int32)) (by decide) ?_
  refine g_daload X0 hx hZ Ao (i := 2) (by decide) (show (2 : Nat) < 8 by decide) (v := o2) rfl (pc' := 65) rfl (hb hby d3_64) ?_
  refine g_dcmp X0 hx (pc' := 66) (z := (0 : Int32)) rfl (hb hby d3_65) (own_dyeq q292 yo2 (by rw [en292, en291]; exact e1)) ?_
  refine g_ifN X0 hx (pcN := 69) (hb hby d3_66) rfl (show ¬ (¬ (0 : Int32) = 0) from by decide) ?_
  refine g_iconst X0 hx (pc' := 70) (z := (1 : Int32)) rfl (hb hby d3_69) rfl ?_
  refine g_goto X0 hx (pc' := 93) (hb hby d3_70) (by decide) (by decide) ?_
  refine g_istore X0 hx (pc' := 95) rfl (hb hby d3_93) (l' := #[.val (.ref ca), .val (.ref oa), .val (.int (2 : Int32)), .val (.int (0 : Int32)), .val (.int (2 : Int32)), .val (.double l10), .second, .val (.double l20), .second, .val (.double l21), .second, .val (.double c0), .second, .val (.double c2), .second, .val (.double c4), .second, .val (.double c6), .second, .val (.int (1 : Int32)), .val (.int (1 : Int32)), .unset, .unset]) rfl ?_
  refine g_iload X0 hx (pc' := 97) rfl (hb hby d3_95) rfl ?_
  refine g_iconst X0 hx (pc' := 98) (z := (2 : Int32)) rfl (hb hby d3_97) rfl ?_
  refine g_icmpY X0 hx (pcY := 134) (hb hby d3_98) (by decide) (by decide) (show ¬ (2 : Int32) < (2 : Int32) from by decide) ?_
  refine g_dload X0 hx (pc' := 136) rfl (hb hby d3_134) rfl ?_
  refine g_aloadN X0 hx (pc' := 137) rfl (hb hby d3_136) rfl rfl ?_
  refine g_iconst X0 hx (pc' := 138) (z := (2 : Int32)) rfl (hb hby d3_137) rfl ?_
  refine g_iloadN X0 hx (pc' := 139) rfl (hb hby d3_138) rfl ?_
  refine g_imul X0 hx (pc' := 140) rfl (hb hby d3_139) ?_
  refine g_normI (z := (4 : Int32)) (by decide) ?_
  refine g_iloadN X0 hx (pc' := 141) rfl (hb hby d3_140) rfl ?_
  refine g_iadd X0 hx (pc' := 142) rfl (hb hby d3_141) ?_
  refine g_normI (z := (4 : Int32)) (by decide) ?_
  refine g_daload X0 hx hZ Ao (i := 4) (by decide) (show (4 : Nat) < 8 by decide) (v := o4) rfl (pc' := 143) rfl (hb hby d3_142) ?_
  refine g_dcmp X0 hx (pc' := 144) (z := (0 : Int32)) rfl (hb hby d3_143) (own_dyeq yc4 yo4 (by exact e2)) ?_
  refine g_ifN X0 hx (pcN := 147) (hb hby d3_144) rfl (show ¬ (¬ (0 : Int32) = 0) from by decide) ?_
  refine g_iconst X0 hx (pc' := 148) (z := (1 : Int32)) rfl (hb hby d3_147) rfl ?_
  refine g_goto X0 hx (pc' := 152) (hb hby d3_148) (by decide) (by decide) ?_
  refine g_istore X0 hx (pc' := 154) rfl (hb hby d3_152) (l' := #[.val (.ref ca), .val (.ref oa), .val (.int (2 : Int32)), .val (.int (0 : Int32)), .val (.int (2 : Int32)), .val (.double l10), .second, .val (.double l20), .second, .val (.double l21), .second, .val (.double c0), .second, .val (.double c2), .second, .val (.double c4), .second, .val (.double c6), .second, .val (.int (1 : Int32)), .val (.int (1 : Int32)), .val (.int (1 : Int32)), .unset]) rfl ?_
  refine g_dload X0 hx (pc' := 156) rfl (hb hby d3_154) rfl ?_
  refine g_aloadN X0 hx (pc' := 157) rfl (hb hby d3_156) rfl rfl ?_
  refine g_iconst X0 hx (pc' := 158) (z := (3 : Int32)) rfl (hb hby d3_157) rfl ?_
  refine g_iloadN X0 hx (pc' := 159) rfl (hb hby d3_158) rfl ?_
  refine g_imul X0 hx (pc' := 160) rfl (hb hby d3_159) ?_
  refine g_normI (z := (6 : Int32)) (by decide) ?_
  refine g_iloadN X0 hx (pc' := 161) rfl (hb hby d3_160) rfl ?_
  refine g_iadd X0 hx (pc' := 162) rfl (hb hby d3_161) ?_
  refine g_normI (z := (6 : Int32)) (by decide) ?_
  refine g_daload X0 hx hZ Ao (i := 6) (by decide) (show (6 : Nat) < 8 by decide) (v := o6) rfl (pc' := 163) rfl (hb hby d3_162) ?_
  refine g_dcmp X0 hx (pc' := 164) (z := (0 : Int32)) rfl (hb hby d3_163) (own_dyeq yc6 yo6 (by exact e3)) ?_
  refine g_ifN X0 hx (pcN := 167) (hb hby d3_164) rfl (show ¬ (¬ (0 : Int32) = 0) from by decide) ?_
  refine g_iconst X0 hx (pc' := 168) (z := (1 : Int32)) rfl (hb hby d3_167) rfl ?_
  refine g_goto X0 hx (pc' := 172) (hb hby d3_168) (by decide) (by decide) ?_
  refine g_istore X0 hx (pc' := 174) rfl (hb hby d3_172) (l' := #[.val (.ref ca), .val (.ref oa), .val (.int (2 : Int32)), .val (.int (0 : Int32)), .val (.int (2 : Int32)), .val (.double l10), .second, .val (.double l20), .second, .val (.double l21), .second, .val (.double c0), .second, .val (.double c2), .second, .val (.double c4), .second, .val (.double c6), .second, .val (.int (1 : Int32)), .val (.int (1 : Int32)), .val (.int (1 : Int32)), .val (.int (1 : Int32))]) rfl ?_
  refine g_iload X0 hx (pc' := 176) rfl (hb hby d3_174) rfl ?_
  refine g_ifN X0 hx (pcN := 179) (hb hby d3_176) rfl (show ¬ ((1 : Int32) = 0) from by decide) ?_
  refine g_iload X0 hx (pc' := 181) rfl (hb hby d3_179) rfl ?_
  refine g_ifN X0 hx (pcN := 184) (hb hby d3_181) rfl (show ¬ ((1 : Int32) = 0) from by decide) ?_
  refine g_iload X0 hx (pc' := 186) rfl (hb hby d3_184) rfl ?_
  refine g_ifN X0 hx (pcN := 189) (hb hby d3_186) rfl (show ¬ ((1 : Int32) = 0) from by decide) ?_
  refine g_iload X0 hx (pc' := 191) rfl (hb hby d3_189) rfl ?_
  refine g_ifN X0 hx (pcN := 194) (hb hby d3_191) rfl (show ¬ ((1 : Int32) = 0) from by decide) ?_
  refine g_iconst X0 hx (pc' := 195) (z := (1 : Int32)) rfl (hb hby d3_194) rfl ?_
  refine g_goto X0 hx (pc' := 199) (hb hby d3_195) (by decide) (by decide) ?_
  exact g_retZ X0 hx hlk hret (by first | exact Or.inl rfl | exact Or.inr rfl) (hb hby d3_199) (by decide) (by decide) (⟨rfl, rfl⟩)
set_option maxRecDepth 65536 in
set_option maxHeartbeats 40000000 in
theorem rm3_2_2_1 (l : Launch) (Z : State) (a0 : Array Value) (hw : ∀ d ∈ tables_1, d.before a0 Z = true) (ws : List Jvm.Cond) (n0 : Nat) (ca oa : Addr) (c0 o0 : UInt64) (c1 o1 : UInt64) (c2 o2 : UInt64) (c3 o3 : UInt64) (c4 o4 : UInt64) (c5 o5 : UInt64) (c6 o6 : UInt64) (c7 o7 : UInt64) (mc1 mo1 : Int) (mc3 mo3 : Int) (mc5 mo5 : Int) (mc7 mo7 : Int) (l10 l20 l21 : UInt64) (ml10 ml20 ml21 : Int) (h0 : Heap) (hn0 : n0 ≤ h0.size) (Ac : AD Z h0 ca [c0, c1, c2, c3, c4, c5, c6, c7]) (Ao : AD Z h0 oa [o0, o1, o2, o3, o4, o5, o6, o7]) (yc1 : Dy mc1 1074 c1) (bc1 : mc1.natAbs ≤ 100000) (yo1 : Dy mo1 1074 o1) (bo1 : mo1.natAbs ≤ 8) (yc3 : Dy mc3 1074 c3) (bc3 : mc3.natAbs ≤ 100000) (yo3 : Dy mo3 1074 o3) (bo3 : mo3.natAbs ≤ 8) (yc5 : Dy mc5 1074 c5) (bc5 : mc5.natAbs ≤ 100000) (yo5 : Dy mo5 1074 o5) (bo5 : mo5.natAbs ≤ 8) (yc7 : Dy mc7 1074 c7) (bc7 : mc7.natAbs ≤ 100000) (yo7 : Dy mo7 1074 o7) (bo7 : mo7.natAbs ≤ 8) (yl10 : Dy ml10 1074 l10) (bl10 : ml10.natAbs ≤ 8) (yl20 : Dy ml20 1074 l20) (bl20 : ml20.natAbs ≤ 8) (yl21 : Dy ml21 1074 l21) (bl21 : ml21.natAbs ≤ 8) (e0 : mc1 = mo1) (e1 : ml10 * mc1 + mc3 = mo3) (e2 : mc5 = mo5) (e3 : mc7 = mo7) :
    Con l Z n0 (⟨"com/example/orthogon/orthogon/TriangularSolveUnitLowerPinLaw", "col", "([D[DIIIDDD)Z"⟩ : MethodName) method_3_code 23 (some .boolean) ws ({ frames := 0, cells := 0, slots := 0, locals := 0 } : Room) #[(.ref ca), (.ref oa), (.int (2 : Int32)), (.int (1 : Int32)), (.int (2 : Int32)), (.double l10), (.double l20), (.double l21)] h0 (fun v h => v = some (.int 1) ∧ h = h0) := by
  refine con_start (plainFor_of_name (by first | (simp [plainName, overriddenIn]; done) | decide +kernel)) (fr0 := fun m => mkF m 0 #[.val (.ref ca), .val (.ref oa), .val (.int (2 : Int32)), .val (.int (1 : Int32)), .val (.int (2 : Int32)), .val (.double l10), .second, .val (.double l20), .second, .val (.double l21), .second, .unset, .unset, .unset, .unset, .unset, .unset, .unset, .unset, .unset, .unset, .unset, .unset] []) (fun m => by first | (simp [entryFrame, mkF, argsToLocals, Value.category]; done) | rfl) ?_
  intro p e s m below meth c T0 hx hZ hby hml hown hnm hret hlk X0
  replace hown : s.vm.findClass "com/example/orthogon/orthogon/TriangularSolveUnitLowerPinLaw" = some m.cls := hown
  replace hml : c.maxLocals = 23 := hml
  refine g_aloadN X0 hx (pc' := 1) rfl (hb hby d3_0) rfl rfl ?_
  refine g_iloadN X0 hx (pc' := 2) rfl (hb hby d3_1) rfl ?_
  refine g_daload X0 hx hZ Ac (i := 1) (by decide) (show (1 : Nat) < 8 by decide) (v := c1) rfl (pc' := 3) rfl (hb hby d3_2) ?_
  refine g_dstore X0 hx (pc' := 5) rfl (hb hby d3_3) (l' := #[.val (.ref ca), .val (.ref oa), .val (.int (2 : Int32)), .val (.int (1 : Int32)), .val (.int (2 : Int32)), .val (.double l10), .second, .val (.double l20), .second, .val (.double l21), .second, .val (.double c1), .second, .unset, .unset, .unset, .unset, .unset, .unset, .unset, .unset, .unset, .unset]) rfl ?_
  refine g_aloadN X0 hx (pc' := 6) rfl (hb hby d3_5) rfl rfl ?_
  refine g_iloadN X0 hx (pc' := 7) rfl (hb hby d3_6) rfl ?_
  refine g_iloadN X0 hx (pc' := 8) rfl (hb hby d3_7) rfl ?_
  refine g_iadd X0 hx (pc' := 9) rfl (hb hby d3_8) ?_
  refine g_normI (z := (3 : Int32)) (by decide) ?_
  refine g_daload X0 hx hZ Ac (i := 3) (by decide) (show (3 : Nat) < 8 by decide) (v := c3) rfl (pc' := 10) rfl (hb hby d3_9) ?_
  refine g_dstore X0 hx (pc' := 12) rfl (hb hby d3_10) (l' := #[.val (.ref ca), .val (.ref oa), .val (.int (2 : Int32)), .val (.int (1 : Int32)), .val (.int (2 : Int32)), .val (.double l10), .second, .val (.double l20), .second, .val (.double l21), .second, .val (.double c1), .second, .val (.double c3), .second, .unset, .unset, .unset, .unset, .unset, .unset, .unset, .unset]) rfl ?_
  refine g_aloadN X0 hx (pc' := 13) rfl (hb hby d3_12) rfl rfl ?_
  refine g_iconst X0 hx (pc' := 14) (z := (2 : Int32)) rfl (hb hby d3_13) rfl ?_
  refine g_iloadN X0 hx (pc' := 15) rfl (hb hby d3_14) rfl ?_
  refine g_imul X0 hx (pc' := 16) rfl (hb hby d3_15) ?_
  refine g_normI (z := (4 : Int32)) (by decide) ?_
  refine g_iloadN X0 hx (pc' := 17) rfl (hb hby d3_16) rfl ?_
  refine g_iadd X0 hx (pc' := 18) rfl (hb hby d3_17) ?_
  refine g_normI (z := (5 : Int32)) (by decide) ?_
  refine g_daload X0 hx hZ Ac (i := 5) (by decide) (show (5 : Nat) < 8 by decide) (v := c5) rfl (pc' := 19) rfl (hb hby d3_18) ?_
  refine g_dstore X0 hx (pc' := 21) rfl (hb hby d3_19) (l' := #[.val (.ref ca), .val (.ref oa), .val (.int (2 : Int32)), .val (.int (1 : Int32)), .val (.int (2 : Int32)), .val (.double l10), .second, .val (.double l20), .second, .val (.double l21), .second, .val (.double c1), .second, .val (.double c3), .second, .val (.double c5), .second, .unset, .unset, .unset, .unset, .unset, .unset]) rfl ?_
  refine g_aloadN X0 hx (pc' := 22) rfl (hb hby d3_21) rfl rfl ?_
  refine g_iconst X0 hx (pc' := 23) (z := (3 : Int32)) rfl (hb hby d3_22) rfl ?_
  refine g_iloadN X0 hx (pc' := 24) rfl (hb hby d3_23) rfl ?_
  refine g_imul X0 hx (pc' := 25) rfl (hb hby d3_24) ?_
  refine g_normI (z := (6 : Int32)) (by decide) ?_
  refine g_iloadN X0 hx (pc' := 26) rfl (hb hby d3_25) rfl ?_
  refine g_iadd X0 hx (pc' := 27) rfl (hb hby d3_26) ?_
  refine g_normI (z := (7 : Int32)) (by decide) ?_
  refine g_daload X0 hx hZ Ac (i := 7) (by decide) (show (7 : Nat) < 8 by decide) (v := c7) rfl (pc' := 28) rfl (hb hby d3_27) ?_
  refine g_dstore X0 hx (pc' := 30) rfl (hb hby d3_28) (l' := #[.val (.ref ca), .val (.ref oa), .val (.int (2 : Int32)), .val (.int (1 : Int32)), .val (.int (2 : Int32)), .val (.double l10), .second, .val (.double l20), .second, .val (.double l21), .second, .val (.double c1), .second, .val (.double c3), .second, .val (.double c5), .second, .val (.double c7), .second, .unset, .unset, .unset, .unset]) rfl ?_
  refine g_dload X0 hx (pc' := 32) rfl (hb hby d3_30) rfl ?_
  refine g_aloadN X0 hx (pc' := 33) rfl (hb hby d3_32) rfl rfl ?_
  refine g_iloadN X0 hx (pc' := 34) rfl (hb hby d3_33) rfl ?_
  refine g_daload X0 hx hZ Ao (i := 1) (by decide) (show (1 : Nat) < 8 by decide) (v := o1) rfl (pc' := 35) rfl (hb hby d3_34) ?_
  refine g_dcmp X0 hx (pc' := 36) (z := (0 : Int32)) rfl (hb hby d3_35) (own_dyeq yc1 yo1 (by exact e0)) ?_
  refine g_ifN X0 hx (pcN := 39) (hb hby d3_36) rfl (show ¬ (¬ (0 : Int32) = 0) from by decide) ?_
  refine g_iconst X0 hx (pc' := 40) (z := (1 : Int32)) rfl (hb hby d3_39) rfl ?_
  refine g_goto X0 hx (pc' := 44) (hb hby d3_40) (by decide) (by decide) ?_
  refine g_istore X0 hx (pc' := 46) rfl (hb hby d3_44) (l' := #[.val (.ref ca), .val (.ref oa), .val (.int (2 : Int32)), .val (.int (1 : Int32)), .val (.int (2 : Int32)), .val (.double l10), .second, .val (.double l20), .second, .val (.double l21), .second, .val (.double c1), .second, .val (.double c3), .second, .val (.double c5), .second, .val (.double c7), .second, .val (.int (1 : Int32)), .unset, .unset, .unset]) rfl ?_
  refine g_iload X0 hx (pc' := 48) rfl (hb hby d3_46) rfl ?_
  refine g_iconst X0 hx (pc' := 49) (z := (1 : Int32)) rfl (hb hby d3_48) rfl ?_
  refine g_icmpN X0 hx (pcN := 52) (hb hby d3_49) rfl (show ¬ (¬ (1 : Int32) < (2 : Int32)) from by decide) ?_
  refine g_dload X0 hx (pc' := 54) rfl (hb hby d3_52) rfl ?_
  refine g_dload X0 hx (pc' := 56) rfl (hb hby d3_54) rfl ?_
  have q293 : Dy (ml10 * mc1) 1074 (FP.dmul l10 c1) := dy_mul yl10 yc1 (by decide) (own_mb bl10 bc1 (by decide)) (by decide)
  refine g_dmul X0 hx (pc' := 57) (z := (FP.dmul l10 c1)) rfl (hb hby d3_56) (dy_noNaN q293) rfl ?_
  refine g_absD (fun d293 hd293 => ?_)
  rw [← hd293] at q293
  obtain ⟨n293, en293⟩ : ∃ z : Int, z = ml10 * mc1 := ⟨_, rfl⟩
  rw [← en293] at q293
  have b293 : n293.natAbs ≤ 800000 := by rw [en293, Int.natAbs_mul]; exact Nat.le_trans (Nat.mul_le_mul bl10 bc1) (by decide)
  refine g_dload X0 hx (pc' := 59) rfl (hb hby d3_57) rfl ?_
  have q294 : Dy (n293 + mc3) 1074 (FP.dadd d293 c3) := dy_add q293 yc3 (own_addb b293 bc3 (by decide)) (by decide)
  refine g_dadd X0 hx (pc' := 60) (z := (FP.dadd d293 c3)) rfl (hb hby d3_59) (dy_noNaN q294) rfl ?_
  refine g_absD (fun d294 hd294 => ?_)
  rw [← hd294] at q294
  obtain ⟨n294, en294⟩ : ∃ z : Int, z = n293 + mc3 := ⟨_, rfl⟩
  rw [← en294] at q294
  have b294 : n294.natAbs ≤ 900000 := by rw [en294]; exact Nat.le_trans (own_addl b293 bc3) (by decide)
  refine g_aloadN X0 hx (pc' := 61) rfl (hb hby d3_60) rfl rfl ?_
  refine g_iloadN X0 hx (pc' := 62) rfl (hb hby d3_61) rfl ?_
  refine g_iloadN X0 hx (pc' := 63) rfl (hb hby d3_62) rfl ?_
  refine g_iadd X0 hx (pc' := 64) rfl (hb hby d3_63) ?_
  refine g_normI (z := (3 : Int32)) (by decide) ?_
  refine g_daload X0 hx hZ Ao (i := 3) (by decide) (show (3 : Nat) < 8 by decide) (v := o3) rfl (pc' := 65) rfl (hb hby d3_64) ?_
  refine g_dcmp X0 hx (pc' := 66) (z := (0 : Int32)) rfl (hb hby d3_65) (own_dyeq q294 yo3 (by rw [en294, en293]; exact e1)) ?_
  refine g_ifN X0 hx (pcN := 69) (hb hby d3_66) rfl (show ¬ (¬ (0 : Int32) = 0) from by decide) ?_
  refine g_iconst X0 hx (pc' := 70) (z := (1 : Int32)) rfl (hb hby d3_69) rfl ?_
  refine g_goto X0 hx (pc' := 93) (hb hby d3_70) (by decide) (by decide) ?_
  refine g_istore X0 hx (pc' := 95) rfl (hb hby d3_93) (l' := #[.val (.ref ca), .val (.ref oa), .val (.int (2 : Int32)), .val (.int (1 : Int32)), .val (.int (2 : Int32)), .val (.double l10), .second, .val (.double l20), .second, .val (.double l21), .second, .val (.double c1), .second, .val (.double c3), .second, .val (.double c5), .second, .val (.double c7), .second, .val (.int (1 : Int32)), .val (.int (1 : Int32)), .unset, .unset]) rfl ?_
  refine g_iload X0 hx (pc' := 97) rfl (hb hby d3_95) rfl ?_
  refine g_iconst X0 hx (pc' := 98) (z := (2 : Int32)) rfl (hb hby d3_97) rfl ?_
  refine g_icmpY X0 hx (pcY := 134) (hb hby d3_98) (by decide) (by decide) (show ¬ (2 : Int32) < (2 : Int32) from by decide) ?_
  refine g_dload X0 hx (pc' := 136) rfl (hb hby d3_134) rfl ?_
  refine g_aloadN X0 hx (pc' := 137) rfl (hb hby d3_136) rfl rfl ?_
  refine g_iconst X0 hx (pc' := 138) (z := (2 : Int32)) rfl (hb hby d3_137) rfl ?_
  refine g_iloadN X0 hx (pc' := 139) rfl (hb hby d3_138) rfl ?_
  refine g_imul X0 hx (pc' := 140) rfl (hb hby d3_139) ?_
  refine g_normI (z := (4 : Int32)) (by decide) ?_
  refine g_iloadN X0 hx (pc' := 141) rfl (hb hby d3_140) rfl ?_
  refine g_iadd X0 hx (pc' := 142) rfl (hb hby d3_141) ?_
  refine g_normI (z := (5 : Int32)) (by decide) ?_
  refine g_daload X0 hx hZ Ao (i := 5) (by decide) (show (5 : Nat) < 8 by decide) (v := o5) rfl (pc' := 143) rfl (hb hby d3_142) ?_
  refine g_dcmp X0 hx (pc' := 144) (z := (0 : Int32)) rfl (hb hby d3_143) (own_dyeq yc5 yo5 (by exact e2)) ?_
  refine g_ifN X0 hx (pcN := 147) (hb hby d3_144) rfl (show ¬ (¬ (0 : Int32) = 0) from by decide) ?_
  refine g_iconst X0 hx (pc' := 148) (z := (1 : Int32)) rfl (hb hby d3_147) rfl ?_
  refine g_goto X0 hx (pc' := 152) (hb hby d3_148) (by decide) (by decide) ?_
  refine g_istore X0 hx (pc' := 154) rfl (hb hby d3_152) (l' := #[.val (.ref ca), .val (.ref oa), .val (.int (2 : Int32)), .val (.int (1 : Int32)), .val (.int (2 : Int32)), .val (.double l10), .second, .val (.double l20), .second, .val (.double l21), .second, .val (.double c1), .second, .val (.double c3), .second, .val (.double c5), .second, .val (.double c7), .second, .val (.int (1 : Int32)), .val (.int (1 : Int32)), .val (.int (1 : Int32)), .unset]) rfl ?_
  refine g_dload X0 hx (pc' := 156) rfl (hb hby d3_154) rfl ?_
  refine g_aloadN X0 hx (pc' := 157) rfl (hb hby d3_156) rfl rfl ?_
  refine g_iconst X0 hx (pc' := 158) (z := (3 : Int32)) rfl (hb hby d3_157) rfl ?_
  refine g_iloadN X0 hx (pc' := 159) rfl (hb hby d3_158) rfl ?_
  refine g_imul X0 hx (pc' := 160) rfl (hb hby d3_159) ?_
  refine g_normI (z := (6 : Int32)) (by decide) ?_
  refine g_iloadN X0 hx (pc' := 161) rfl (hb hby d3_160) rfl ?_
  refine g_iadd X0 hx (pc' := 162) rfl (hb hby d3_161) ?_
  refine g_normI (z := (7 : Int32)) (by decide) ?_
  refine g_daload X0 hx hZ Ao (i := 7) (by decide) (show (7 : Nat) < 8 by decide) (v := o7) rfl (pc' := 163) rfl (hb hby d3_162) ?_
  refine g_dcmp X0 hx (pc' := 164) (z := (0 : Int32)) rfl (hb hby d3_163) (own_dyeq yc7 yo7 (by exact e3)) ?_
  refine g_ifN X0 hx (pcN := 167) (hb hby d3_164) rfl (show ¬ (¬ (0 : Int32) = 0) from by decide) ?_
  refine g_iconst X0 hx (pc' := 168) (z := (1 : Int32)) rfl (hb hby d3_167) rfl ?_
  refine g_goto X0 hx (pc' := 172) (hb hby d3_168) (by decide) (by decide) ?_
  refine g_istore X0 hx (pc' := 174) rfl (hb hby d3_172) (l' := #[.val (.ref ca), .val (.ref oa), .val (.int (2 : Int32)), .val (.int (1 : Int32)), .val (.int (2 : Int32)), .val (.double l10), .second, .val (.double l20), .second, .val (.double l21), .second, .val (.double c1), .second, .val (.double c3), .second, .val (.double c5), .second, .val (.double c7), .second, .val (.int (1 : Int32)), .val (.int (1 : Int32)), .val (.int (1 : Int32)), .val (.int (1 : Int32))]) rfl ?_
  refine g_iload X0 hx (pc' := 176) rfl (hb hby d3_174) rfl ?_
  refine g_ifN X0 hx (pcN := 179) (hb hby d3_176) rfl (show ¬ ((1 : Int32) = 0) from by decide) ?_
  refine g_iload X0 hx (pc' := 181) rfl (hb hby d3_179) rfl ?_
  refine g_ifN X0 hx (pcN := 184) (hb hby d3_181) rfl (show ¬ ((1 : Int32) = 0) from by decide) ?_
  refine g_iload X0 hx (pc' := 186) rfl (hb hby d3_184) rfl ?_
  refine g_ifN X0 hx (pcN := 189) (hb hby d3_186) rfl (show ¬ ((1 : Int32) = 0) from by decide) ?_
  refine g_iload X0 hx (pc' := 191) rfl (hb hby d3_189) rfl ?_
  refine g_ifN X0 hx (pcN := 194) (hb hby d3_191) rfl (show ¬ ((1 : Int32) = 0) from by decide) ?_
  refine g_iconst X0 hx (pc' := 195) (z := (1 : Int32)) rfl (hb hby d3_194) rfl ?_
  refine g_goto X0 hx (pc' := 199) (hb hby d3_195) (by decide) (by decide) ?_
  exact g_retZ X0 hx hlk hret (by first | exact Or.inl rfl | exact Or.inr rfl) (hb hby d3_199) (by decide) (by decide) (⟨rfl, rfl⟩)
set_option maxRecDepth 65536 in
set_option maxHeartbeats 40000000 in
theorem rm3_3_1_0 (l : Launch) (Z : State) (a0 : Array Value) (hw : ∀ d ∈ tables_1, d.before a0 Z = true) (ws : List Jvm.Cond) (n0 : Nat) (ca oa : Addr) (c0 o0 : UInt64) (c1 o1 : UInt64) (c2 o2 : UInt64) (c3 o3 : UInt64) (c4 o4 : UInt64) (c5 o5 : UInt64) (c6 o6 : UInt64) (c7 o7 : UInt64) (mc0 mo0 : Int) (mc1 mo1 : Int) (mc2 mo2 : Int) (mc3 mo3 : Int) (l10 l20 l21 : UInt64) (ml10 ml20 ml21 : Int) (h0 : Heap) (hn0 : n0 ≤ h0.size) (Ac : AD Z h0 ca [c0, c1, c2, c3, c4, c5, c6, c7]) (Ao : AD Z h0 oa [o0, o1, o2, o3, o4, o5, o6, o7]) (yc0 : Dy mc0 1074 c0) (bc0 : mc0.natAbs ≤ 100000) (yo0 : Dy mo0 1074 o0) (bo0 : mo0.natAbs ≤ 8) (yc1 : Dy mc1 1074 c1) (bc1 : mc1.natAbs ≤ 100000) (yo1 : Dy mo1 1074 o1) (bo1 : mo1.natAbs ≤ 8) (yc2 : Dy mc2 1074 c2) (bc2 : mc2.natAbs ≤ 100000) (yo2 : Dy mo2 1074 o2) (bo2 : mo2.natAbs ≤ 8) (yc3 : Dy mc3 1074 c3) (bc3 : mc3.natAbs ≤ 100000) (yo3 : Dy mo3 1074 o3) (bo3 : mo3.natAbs ≤ 8) (yl10 : Dy ml10 1074 l10) (bl10 : ml10.natAbs ≤ 8) (yl20 : Dy ml20 1074 l20) (bl20 : ml20.natAbs ≤ 8) (yl21 : Dy ml21 1074 l21) (bl21 : ml21.natAbs ≤ 8) (e0 : mc0 = mo0) (e1 : ml10 * mc0 + mc1 = mo1) (e2 : ml20 * mc0 + ml21 * mc1 + mc2 = mo2) (e3 : mc3 = mo3) :
    Con l Z n0 (⟨"com/example/orthogon/orthogon/TriangularSolveUnitLowerPinLaw", "col", "([D[DIIIDDD)Z"⟩ : MethodName) method_3_code 23 (some .boolean) ws ({ frames := 0, cells := 0, slots := 0, locals := 0 } : Room) #[(.ref ca), (.ref oa), (.int (1 : Int32)), (.int (0 : Int32)), (.int (3 : Int32)), (.double l10), (.double l20), (.double l21)] h0 (fun v h => v = some (.int 1) ∧ h = h0) := by
  refine con_start (plainFor_of_name (by first | (simp [plainName, overriddenIn]; done) | decide +kernel)) (fr0 := fun m => mkF m 0 #[.val (.ref ca), .val (.ref oa), .val (.int (1 : Int32)), .val (.int (0 : Int32)), .val (.int (3 : Int32)), .val (.double l10), .second, .val (.double l20), .second, .val (.double l21), .second, .unset, .unset, .unset, .unset, .unset, .unset, .unset, .unset, .unset, .unset, .unset, .unset] []) (fun m => by first | (simp [entryFrame, mkF, argsToLocals, Value.category]; done) | rfl) ?_
  intro p e s m below meth c T0 hx hZ hby hml hown hnm hret hlk X0
  replace hown : s.vm.findClass "com/example/orthogon/orthogon/TriangularSolveUnitLowerPinLaw" = some m.cls := hown
  replace hml : c.maxLocals = 23 := hml
  refine g_aloadN X0 hx (pc' := 1) rfl (hb hby d3_0) rfl rfl ?_
  refine g_iloadN X0 hx (pc' := 2) rfl (hb hby d3_1) rfl ?_
  refine g_daload X0 hx hZ Ac (i := 0) (by decide) (show (0 : Nat) < 8 by decide) (v := c0) rfl (pc' := 3) rfl (hb hby d3_2) ?_
  refine g_dstore X0 hx (pc' := 5) rfl (hb hby d3_3) (l' := #[.val (.ref ca), .val (.ref oa), .val (.int (1 : Int32)), .val (.int (0 : Int32)), .val (.int (3 : Int32)), .val (.double l10), .second, .val (.double l20), .second, .val (.double l21), .second, .val (.double c0), .second, .unset, .unset, .unset, .unset, .unset, .unset, .unset, .unset, .unset, .unset]) rfl ?_
  refine g_aloadN X0 hx (pc' := 6) rfl (hb hby d3_5) rfl rfl ?_
  refine g_iloadN X0 hx (pc' := 7) rfl (hb hby d3_6) rfl ?_
  refine g_iloadN X0 hx (pc' := 8) rfl (hb hby d3_7) rfl ?_
  refine g_iadd X0 hx (pc' := 9) rfl (hb hby d3_8) ?_
  refine g_normI (z := (1 : Int32)) (by decide) ?_
  refine g_daload X0 hx hZ Ac (i := 1) (by decide) (show (1 : Nat) < 8 by decide) (v := c1) rfl (pc' := 10) rfl (hb hby d3_9) ?_
  refine g_dstore X0 hx (pc' := 12) rfl (hb hby d3_10) (l' := #[.val (.ref ca), .val (.ref oa), .val (.int (1 : Int32)), .val (.int (0 : Int32)), .val (.int (3 : Int32)), .val (.double l10), .second, .val (.double l20), .second, .val (.double l21), .second, .val (.double c0), .second, .val (.double c1), .second, .unset, .unset, .unset, .unset, .unset, .unset, .unset, .unset]) rfl ?_
  refine g_aloadN X0 hx (pc' := 13) rfl (hb hby d3_12) rfl rfl ?_
  refine g_iconst X0 hx (pc' := 14) (z := (2 : Int32)) rfl (hb hby d3_13) rfl ?_
  refine g_iloadN X0 hx (pc' := 15) rfl (hb hby d3_14) rfl ?_
  refine g_imul X0 hx (pc' := 16) rfl (hb hby d3_15) ?_
  refine g_normI (z := (2 : Int32)) (by decide) ?_
  refine g_iloadN X0 hx (pc' := 17) rfl (hb hby d3_16) rfl ?_
  refine g_iadd X0 hx (pc' := 18) rfl (hb hby d3_17) ?_
  refine g_normI (z := (2 : Int32)) (by decide) ?_
  refine g_daload X0 hx hZ Ac (i := 2) (by decide) (show (2 : Nat) < 8 by decide) (v := c2) rfl (pc' := 19) rfl (hb hby d3_18) ?_
  refine g_dstore X0 hx (pc' := 21) rfl (hb hby d3_19) (l' := #[.val (.ref ca), .val (.ref oa), .val (.int (1 : Int32)), .val (.int (0 : Int32)), .val (.int (3 : Int32)), .val (.double l10), .second, .val (.double l20), .second, .val (.double l21), .second, .val (.double c0), .second, .val (.double c1), .second, .val (.double c2), .second, .unset, .unset, .unset, .unset, .unset, .unset]) rfl ?_
  refine g_aloadN X0 hx (pc' := 22) rfl (hb hby d3_21) rfl rfl ?_
  refine g_iconst X0 hx (pc' := 23) (z := (3 : Int32)) rfl (hb hby d3_22) rfl ?_
  refine g_iloadN X0 hx (pc' := 24) rfl (hb hby d3_23) rfl ?_
  refine g_imul X0 hx (pc' := 25) rfl (hb hby d3_24) ?_
  refine g_normI (z := (3 : Int32)) (by decide) ?_
  refine g_iloadN X0 hx (pc' := 26) rfl (hb hby d3_25) rfl ?_
  refine g_iadd X0 hx (pc' := 27) rfl (hb hby d3_26) ?_
  refine g_normI (z := (3 : Int32)) (by decide) ?_
  refine g_daload X0 hx hZ Ac (i := 3) (by decide) (show (3 : Nat) < 8 by decide) (v := c3) rfl (pc' := 28) rfl (hb hby d3_27) ?_
  refine g_dstore X0 hx (pc' := 30) rfl (hb hby d3_28) (l' := #[.val (.ref ca), .val (.ref oa), .val (.int (1 : Int32)), .val (.int (0 : Int32)), .val (.int (3 : Int32)), .val (.double l10), .second, .val (.double l20), .second, .val (.double l21), .second, .val (.double c0), .second, .val (.double c1), .second, .val (.double c2), .second, .val (.double c3), .second, .unset, .unset, .unset, .unset]) rfl ?_
  refine g_dload X0 hx (pc' := 32) rfl (hb hby d3_30) rfl ?_
  refine g_aloadN X0 hx (pc' := 33) rfl (hb hby d3_32) rfl rfl ?_
  refine g_iloadN X0 hx (pc' := 34) rfl (hb hby d3_33) rfl ?_
  refine g_daload X0 hx hZ Ao (i := 0) (by decide) (show (0 : Nat) < 8 by decide) (v := o0) rfl (pc' := 35) rfl (hb hby d3_34) ?_
  refine g_dcmp X0 hx (pc' := 36) (z := (0 : Int32)) rfl (hb hby d3_35) (own_dyeq yc0 yo0 (by exact e0)) ?_
  refine g_ifN X0 hx (pcN := 39) (hb hby d3_36) rfl (show ¬ (¬ (0 : Int32) = 0) from by decide) ?_
  refine g_iconst X0 hx (pc' := 40) (z := (1 : Int32)) rfl (hb hby d3_39) rfl ?_
  refine g_goto X0 hx (pc' := 44) (hb hby d3_40) (by decide) (by decide) ?_
  refine g_istore X0 hx (pc' := 46) rfl (hb hby d3_44) (l' := #[.val (.ref ca), .val (.ref oa), .val (.int (1 : Int32)), .val (.int (0 : Int32)), .val (.int (3 : Int32)), .val (.double l10), .second, .val (.double l20), .second, .val (.double l21), .second, .val (.double c0), .second, .val (.double c1), .second, .val (.double c2), .second, .val (.double c3), .second, .val (.int (1 : Int32)), .unset, .unset, .unset]) rfl ?_
  refine g_iload X0 hx (pc' := 48) rfl (hb hby d3_46) rfl ?_
  refine g_iconst X0 hx (pc' := 49) (z := (1 : Int32)) rfl (hb hby d3_48) rfl ?_
  refine g_icmpN X0 hx (pcN := 52) (hb hby d3_49) rfl (show ¬ (¬ (1 : Int32) < (3 : Int32)) from by decide) ?_
  refine g_dload X0 hx (pc' := 54) rfl (hb hby d3_52) rfl ?_
  refine g_dload X0 hx (pc' := 56) rfl (hb hby d3_54) rfl ?_
  have q295 : Dy (ml10 * mc0) 1074 (FP.dmul l10 c0) := dy_mul yl10 yc0 (by decide) (own_mb bl10 bc0 (by decide)) (by decide)
  refine g_dmul X0 hx (pc' := 57) (z := (FP.dmul l10 c0)) rfl (hb hby d3_56) (dy_noNaN q295) rfl ?_
  refine g_absD (fun d295 hd295 => ?_)
  rw [← hd295] at q295
  obtain ⟨n295, en295⟩ : ∃ z : Int, z = ml10 * mc0 := ⟨_, rfl⟩
  rw [← en295] at q295
  have b295 : n295.natAbs ≤ 800000 := by rw [en295, Int.natAbs_mul]; exact Nat.le_trans (Nat.mul_le_mul bl10 bc0) (by decide)
  refine g_dload X0 hx (pc' := 59) rfl (hb hby d3_57) rfl ?_
  have q296 : Dy (n295 + mc1) 1074 (FP.dadd d295 c1) := dy_add q295 yc1 (own_addb b295 bc1 (by decide)) (by decide)
  refine g_dadd X0 hx (pc' := 60) (z := (FP.dadd d295 c1)) rfl (hb hby d3_59) (dy_noNaN q296) rfl ?_
  refine g_absD (fun d296 hd296 => ?_)
  rw [← hd296] at q296
  obtain ⟨n296, en296⟩ : ∃ z : Int, z = n295 + mc1 := ⟨_, rfl⟩
  rw [← en296] at q296
  have b296 : n296.natAbs ≤ 900000 := by rw [en296]; exact Nat.le_trans (own_addl b295 bc1) (by decide)
  refine g_aloadN X0 hx (pc' := 61) rfl (hb hby d3_60) rfl rfl ?_
  refine g_iloadN X0 hx (pc' := 62) rfl (hb hby d3_61) rfl ?_
  refine g_iloadN X0 hx (pc' := 63) rfl (hb hby d3_62) rfl ?_
  refine g_iadd X0 hx (pc' := 64) rfl (hb hby d3_63) ?_
  refine g_normI (z := (1 : Int32)) (by decide) ?_
  refine g_daload X0 hx hZ Ao (i := 1) (by decide) (show (1 : Nat) < 8 by decide) (v := o1) rfl (pc' := 65) rfl (hb hby d3_64) ?_
  refine g_dcmp X0 hx (pc' := 66) (z := (0 : Int32)) rfl (hb hby d3_65) (own_dyeq q296 yo1 (by rw [en296, en295]; exact e1)) ?_
  refine g_ifN X0 hx (pcN := 69) (hb hby d3_66) rfl (show ¬ (¬ (0 : Int32) = 0) from by decide) ?_
  refine g_iconst X0 hx (pc' := 70) (z := (1 : Int32)) rfl (hb hby d3_69) rfl ?_
  refine g_goto X0 hx (pc' := 93) (hb hby d3_70) (by decide) (by decide) ?_
  refine g_istore X0 hx (pc' := 95) rfl (hb hby d3_93) (l' := #[.val (.ref ca), .val (.ref oa), .val (.int (1 : Int32)), .val (.int (0 : Int32)), .val (.int (3 : Int32)), .val (.double l10), .second, .val (.double l20), .second, .val (.double l21), .second, .val (.double c0), .second, .val (.double c1), .second, .val (.double c2), .second, .val (.double c3), .second, .val (.int (1 : Int32)), .val (.int (1 : Int32)), .unset, .unset]) rfl ?_
  refine g_iload X0 hx (pc' := 97) rfl (hb hby d3_95) rfl ?_
  refine g_iconst X0 hx (pc' := 98) (z := (2 : Int32)) rfl (hb hby d3_97) rfl ?_
  refine g_icmpN X0 hx (pcN := 101) (hb hby d3_98) rfl (show ¬ (¬ (2 : Int32) < (3 : Int32)) from by decide) ?_
  refine g_dload X0 hx (pc' := 103) rfl (hb hby d3_101) rfl ?_
  refine g_dload X0 hx (pc' := 105) rfl (hb hby d3_103) rfl ?_
  have q297 : Dy (ml20 * mc0) 1074 (FP.dmul l20 c0) := dy_mul yl20 yc0 (by decide) (own_mb bl20 bc0 (by decide)) (by decide)
  refine g_dmul X0 hx (pc' := 106) (z := (FP.dmul l20 c0)) rfl (hb hby d3_105) (dy_noNaN q297) rfl ?_
  refine g_absD (fun d297 hd297 => ?_)
  rw [← hd297] at q297
  obtain ⟨n297, en297⟩ : ∃ z : Int, z = ml20 * mc0 := ⟨_, rfl⟩
  rw [← en297] at q297
  have b297 : n297.natAbs ≤ 800000 := by rw [en297, Int.natAbs_mul]; exact Nat.le_trans (Nat.mul_le_mul bl20 bc0) (by decide)
  refine g_dload X0 hx (pc' := 108) rfl (hb hby d3_106) rfl ?_
  refine g_dload X0 hx (pc' := 110) rfl (hb hby d3_108) rfl ?_
  have q298 : Dy (ml21 * mc1) 1074 (FP.dmul l21 c1) := dy_mul yl21 yc1 (by decide) (own_mb bl21 bc1 (by decide)) (by decide)
  refine g_dmul X0 hx (pc' := 111) (z := (FP.dmul l21 c1)) rfl (hb hby d3_110) (dy_noNaN q298) rfl ?_
  refine g_absD (fun d298 hd298 => ?_)
  rw [← hd298] at q298
  obtain ⟨n298, en298⟩ : ∃ z : Int, z = ml21 * mc1 := ⟨_, rfl⟩
  rw [← en298] at q298
  have b298 : n298.natAbs ≤ 800000 := by rw [en298, Int.natAbs_mul]; exact Nat.le_trans (Nat.mul_le_mul bl21 bc1) (by decide)
  have q299 : Dy (n297 + n298) 1074 (FP.dadd d297 d298) := dy_add q297 q298 (own_addb b297 b298 (by decide)) (by decide)
  refine g_dadd X0 hx (pc' := 112) (z := (FP.dadd d297 d298)) rfl (hb hby d3_111) (dy_noNaN q299) rfl ?_
  refine g_absD (fun d299 hd299 => ?_)
  rw [← hd299] at q299
  obtain ⟨n299, en299⟩ : ∃ z : Int, z = n297 + n298 := ⟨_, rfl⟩
  rw [← en299] at q299
  have b299 : n299.natAbs ≤ 1600000 := by rw [en299]; exact Nat.le_trans (own_addl b297 b298) (by decide)
  refine g_dload X0 hx (pc' := 114) rfl (hb hby d3_112) rfl ?_
  have q300 : Dy (n299 + mc2) 1074 (FP.dadd d299 c2) := dy_add q299 yc2 (own_addb b299 bc2 (by decide)) (by decide)
  refine g_dadd X0 hx (pc' := 115) (z := (FP.dadd d299 c2)) rfl (hb hby d3_114) (dy_noNaN q300) rfl ?_
  refine g_absD (fun d300 hd300 => ?_)
  rw [← hd300] at q300
  obtain ⟨n300, en300⟩ : ∃ z : Int, z = n299 + mc2 := ⟨_, rfl⟩
  rw [← en300] at q300
  have b300 : n300.natAbs ≤ 1700000 := by rw [en300]; exact Nat.le_trans (own_addl b299 bc2) (by decide)
  refine g_aloadN X0 hx (pc' := 116) rfl (hb hby d3_115) rfl rfl ?_
  refine g_iconst X0 hx (pc' := 117) (z := (2 : Int32)) rfl (hb hby d3_116) rfl ?_
  refine g_iloadN X0 hx (pc' := 118) rfl (hb hby d3_117) rfl ?_
  refine g_imul X0 hx (pc' := 119) rfl (hb hby d3_118) ?_
  refine g_normI (z := (2 : Int32)) (by decide) ?_
  refine g_iloadN X0 hx (pc' := 120) rfl (hb hby d3_119) rfl ?_
  refine g_iadd X0 hx (pc' := 121) rfl (hb hby d3_120) ?_
  refine g_normI (z := (2 : Int32)) (by decide) ?_
  refine g_daload X0 hx hZ Ao (i := 2) (by decide) (show (2 : Nat) < 8 by decide) (v := o2) rfl (pc' := 122) rfl (hb hby d3_121) ?_
  refine g_dcmp X0 hx (pc' := 123) (z := (0 : Int32)) rfl (hb hby d3_122) (own_dyeq q300 yo2 (by rw [en300, en299, en297, en298]; exact e2)) ?_
  refine g_ifN X0 hx (pcN := 126) (hb hby d3_123) rfl (show ¬ (¬ (0 : Int32) = 0) from by decide) ?_
  refine g_iconst X0 hx (pc' := 127) (z := (1 : Int32)) rfl (hb hby d3_126) rfl ?_
  refine g_goto X0 hx (pc' := 152) (hb hby d3_127) (by decide) (by decide) ?_
  refine g_istore X0 hx (pc' := 154) rfl (hb hby d3_152) (l' := #[.val (.ref ca), .val (.ref oa), .val (.int (1 : Int32)), .val (.int (0 : Int32)), .val (.int (3 : Int32)), .val (.double l10), .second, .val (.double l20), .second, .val (.double l21), .second, .val (.double c0), .second, .val (.double c1), .second, .val (.double c2), .second, .val (.double c3), .second, .val (.int (1 : Int32)), .val (.int (1 : Int32)), .val (.int (1 : Int32)), .unset]) rfl ?_
  refine g_dload X0 hx (pc' := 156) rfl (hb hby d3_154) rfl ?_
  refine g_aloadN X0 hx (pc' := 157) rfl (hb hby d3_156) rfl rfl ?_
  refine g_iconst X0 hx (pc' := 158) (z := (3 : Int32)) rfl (hb hby d3_157) rfl ?_
  refine g_iloadN X0 hx (pc' := 159) rfl (hb hby d3_158) rfl ?_
  refine g_imul X0 hx (pc' := 160) rfl (hb hby d3_159) ?_
  refine g_normI (z := (3 : Int32)) (by decide) ?_
  refine g_iloadN X0 hx (pc' := 161) rfl (hb hby d3_160) rfl ?_
  refine g_iadd X0 hx (pc' := 162) rfl (hb hby d3_161) ?_
  refine g_normI (z := (3 : Int32)) (by decide) ?_
  refine g_daload X0 hx hZ Ao (i := 3) (by decide) (show (3 : Nat) < 8 by decide) (v := o3) rfl (pc' := 163) rfl (hb hby d3_162) ?_
  refine g_dcmp X0 hx (pc' := 164) (z := (0 : Int32)) rfl (hb hby d3_163) (own_dyeq yc3 yo3 (by exact e3)) ?_
  refine g_ifN X0 hx (pcN := 167) (hb hby d3_164) rfl (show ¬ (¬ (0 : Int32) = 0) from by decide) ?_
  refine g_iconst X0 hx (pc' := 168) (z := (1 : Int32)) rfl (hb hby d3_167) rfl ?_
  refine g_goto X0 hx (pc' := 172) (hb hby d3_168) (by decide) (by decide) ?_
  refine g_istore X0 hx (pc' := 174) rfl (hb hby d3_172) (l' := #[.val (.ref ca), .val (.ref oa), .val (.int (1 : Int32)), .val (.int (0 : Int32)), .val (.int (3 : Int32)), .val (.double l10), .second, .val (.double l20), .second, .val (.double l21), .second, .val (.double c0), .second, .val (.double c1), .second, .val (.double c2), .second, .val (.double c3), .second, .val (.int (1 : Int32)), .val (.int (1 : Int32)), .val (.int (1 : Int32)), .val (.int (1 : Int32))]) rfl ?_
  refine g_iload X0 hx (pc' := 176) rfl (hb hby d3_174) rfl ?_
  refine g_ifN X0 hx (pcN := 179) (hb hby d3_176) rfl (show ¬ ((1 : Int32) = 0) from by decide) ?_
  refine g_iload X0 hx (pc' := 181) rfl (hb hby d3_179) rfl ?_
  refine g_ifN X0 hx (pcN := 184) (hb hby d3_181) rfl (show ¬ ((1 : Int32) = 0) from by decide) ?_
  refine g_iload X0 hx (pc' := 186) rfl (hb hby d3_184) rfl ?_
  refine g_ifN X0 hx (pcN := 189) (hb hby d3_186) rfl (show ¬ ((1 : Int32) = 0) from by decide) ?_
  refine g_iload X0 hx (pc' := 191) rfl (hb hby d3_189) rfl ?_
  refine g_ifN X0 hx (pcN := 194) (hb hby d3_191) rfl (show ¬ ((1 : Int32) = 0) from by decide) ?_
  refine g_iconst X0 hx (pc' := 195) (z := (1 : Int32)) rfl (hb hby d3_194) rfl ?_
  refine g_goto X0 hx (pc' := 199) (hb hby d3_195) (by decide) (by decide) ?_
  exact g_retZ X0 hx hlk hret (by first | exact Or.inl rfl | exact Or.inr rfl) (hb hby d3_199) (by decide) (by decide) (⟨rfl, rfl⟩)
set_option maxRecDepth 65536 in
set_option maxHeartbeats 40000000 in
theorem rm3_3_2_0 (l : Launch) (Z : State) (a0 : Array Value) (hw : ∀ d ∈ tables_1, d.before a0 Z = true) (ws : List Jvm.Cond) (n0 : Nat) (ca oa : Addr) (c0 o0 : UInt64) (c1 o1 : UInt64) (c2 o2 : UInt64) (c3 o3 : UInt64) (c4 o4 : UInt64) (c5 o5 : UInt64) (c6 o6 : UInt64) (c7 o7 : UInt64) (mc0 mo0 : Int) (mc2 mo2 : Int) (mc4 mo4 : Int) (mc6 mo6 : Int) (l10 l20 l21 : UInt64) (ml10 ml20 ml21 : Int) (h0 : Heap) (hn0 : n0 ≤ h0.size) (Ac : AD Z h0 ca [c0, c1, c2, c3, c4, c5, c6, c7]) (Ao : AD Z h0 oa [o0, o1, o2, o3, o4, o5, o6, o7]) (yc0 : Dy mc0 1074 c0) (bc0 : mc0.natAbs ≤ 100000) (yo0 : Dy mo0 1074 o0) (bo0 : mo0.natAbs ≤ 8) (yc2 : Dy mc2 1074 c2) (bc2 : mc2.natAbs ≤ 100000) (yo2 : Dy mo2 1074 o2) (bo2 : mo2.natAbs ≤ 8) (yc4 : Dy mc4 1074 c4) (bc4 : mc4.natAbs ≤ 100000) (yo4 : Dy mo4 1074 o4) (bo4 : mo4.natAbs ≤ 8) (yc6 : Dy mc6 1074 c6) (bc6 : mc6.natAbs ≤ 100000) (yo6 : Dy mo6 1074 o6) (bo6 : mo6.natAbs ≤ 8) (yl10 : Dy ml10 1074 l10) (bl10 : ml10.natAbs ≤ 8) (yl20 : Dy ml20 1074 l20) (bl20 : ml20.natAbs ≤ 8) (yl21 : Dy ml21 1074 l21) (bl21 : ml21.natAbs ≤ 8) (e0 : mc0 = mo0) (e1 : ml10 * mc0 + mc2 = mo2) (e2 : ml20 * mc0 + ml21 * mc2 + mc4 = mo4) (e3 : mc6 = mo6) :
    Con l Z n0 (⟨"com/example/orthogon/orthogon/TriangularSolveUnitLowerPinLaw", "col", "([D[DIIIDDD)Z"⟩ : MethodName) method_3_code 23 (some .boolean) ws ({ frames := 0, cells := 0, slots := 0, locals := 0 } : Room) #[(.ref ca), (.ref oa), (.int (2 : Int32)), (.int (0 : Int32)), (.int (3 : Int32)), (.double l10), (.double l20), (.double l21)] h0 (fun v h => v = some (.int 1) ∧ h = h0) := by
  refine con_start (plainFor_of_name (by first | (simp [plainName, overriddenIn]; done) | decide +kernel)) (fr0 := fun m => mkF m 0 #[.val (.ref ca), .val (.ref oa), .val (.int (2 : Int32)), .val (.int (0 : Int32)), .val (.int (3 : Int32)), .val (.double l10), .second, .val (.double l20), .second, .val (.double l21), .second, .unset, .unset, .unset, .unset, .unset, .unset, .unset, .unset, .unset, .unset, .unset, .unset] []) (fun m => by first | (simp [entryFrame, mkF, argsToLocals, Value.category]; done) | rfl) ?_
  intro p e s m below meth c T0 hx hZ hby hml hown hnm hret hlk X0
  replace hown : s.vm.findClass "com/example/orthogon/orthogon/TriangularSolveUnitLowerPinLaw" = some m.cls := hown
  replace hml : c.maxLocals = 23 := hml
  refine g_aloadN X0 hx (pc' := 1) rfl (hb hby d3_0) rfl rfl ?_
  refine g_iloadN X0 hx (pc' := 2) rfl (hb hby d3_1) rfl ?_
  refine g_daload X0 hx hZ Ac (i := 0) (by decide) (show (0 : Nat) < 8 by decide) (v := c0) rfl (pc' := 3) rfl (hb hby d3_2) ?_
  refine g_dstore X0 hx (pc' := 5) rfl (hb hby d3_3) (l' := #[.val (.ref ca), .val (.ref oa), .val (.int (2 : Int32)), .val (.int (0 : Int32)), .val (.int (3 : Int32)), .val (.double l10), .second, .val (.double l20), .second, .val (.double l21), .second, .val (.double c0), .second, .unset, .unset, .unset, .unset, .unset, .unset, .unset, .unset, .unset, .unset]) rfl ?_
  refine g_aloadN X0 hx (pc' := 6) rfl (hb hby d3_5) rfl rfl ?_
  refine g_iloadN X0 hx (pc' := 7) rfl (hb hby d3_6) rfl ?_
  refine g_iloadN X0 hx (pc' := 8) rfl (hb hby d3_7) rfl ?_
  refine g_iadd X0 hx (pc' := 9) rfl (hb hby d3_8) ?_
  refine g_normI (z := (2 : Int32)) (by decide) ?_
  refine g_daload X0 hx hZ Ac (i := 2) (by decide) (show (2 : Nat) < 8 by decide) (v := c2) rfl (pc' := 10) rfl (hb hby d3_9) ?_
  refine g_dstore X0 hx (pc' := 12) rfl (hb hby d3_10) (l' := #[.val (.ref ca), .val (.ref oa), .val (.int (2 : Int32)), .val (.int (0 : Int32)), .val (.int (3 : Int32)), .val (.double l10), .second, .val (.double l20), .second, .val (.double l21), .second, .val (.double c0), .second, .val (.double c2), .second, .unset, .unset, .unset, .unset, .unset, .unset, .unset, .unset]) rfl ?_
  refine g_aloadN X0 hx (pc' := 13) rfl (hb hby d3_12) rfl rfl ?_
  refine g_iconst X0 hx (pc' := 14) (z := (2 : Int32)) rfl (hb hby d3_13) rfl ?_
  refine g_iloadN X0 hx (pc' := 15) rfl (hb hby d3_14) rfl ?_
  refine g_imul X0 hx (pc' := 16) rfl (hb hby d3_15) ?_
  refine g_normI (z := (4 : Int32)) (by decide) ?_
  refine g_iloadN X0 hx (pc' := 17) rfl (hb hby d3_16) rfl ?_
  refine g_iadd X0 hx (pc' := 18) rfl (hb hby d3_17) ?_
  refine g_normI (z := (4 : Int32)) (by decide) ?_
  refine g_daload X0 hx hZ Ac (i := 4) (by decide) (show (4 : Nat) < 8 by decide) (v := c4) rfl (pc' := 19) rfl (hb hby d3_18) ?_
  refine g_dstore X0 hx (pc' := 21) rfl (hb hby d3_19) (l' := #[.val (.ref ca), .val (.ref oa), .val (.int (2 : Int32)), .val (.int (0 : Int32)), .val (.int (3 : Int32)), .val (.double l10), .second, .val (.double l20), .second, .val (.double l21), .second, .val (.double c0), .second, .val (.double c2), .second, .val (.double c4), .second, .unset, .unset, .unset, .unset, .unset, .unset]) rfl ?_
  refine g_aloadN X0 hx (pc' := 22) rfl (hb hby d3_21) rfl rfl ?_
  refine g_iconst X0 hx (pc' := 23) (z := (3 : Int32)) rfl (hb hby d3_22) rfl ?_
  refine g_iloadN X0 hx (pc' := 24) rfl (hb hby d3_23) rfl ?_
  refine g_imul X0 hx (pc' := 25) rfl (hb hby d3_24) ?_
  refine g_normI (z := (6 : Int32)) (by decide) ?_
  refine g_iloadN X0 hx (pc' := 26) rfl (hb hby d3_25) rfl ?_
  refine g_iadd X0 hx (pc' := 27) rfl (hb hby d3_26) ?_
  refine g_normI (z := (6 : Int32)) (by decide) ?_
  refine g_daload X0 hx hZ Ac (i := 6) (by decide) (show (6 : Nat) < 8 by decide) (v := c6) rfl (pc' := 28) rfl (hb hby d3_27) ?_
  refine g_dstore X0 hx (pc' := 30) rfl (hb hby d3_28) (l' := #[.val (.ref ca), .val (.ref oa), .val (.int (2 : Int32)), .val (.int (0 : Int32)), .val (.int (3 : Int32)), .val (.double l10), .second, .val (.double l20), .second, .val (.double l21), .second, .val (.double c0), .second, .val (.double c2), .second, .val (.double c4), .second, .val (.double c6), .second, .unset, .unset, .unset, .unset]) rfl ?_
  refine g_dload X0 hx (pc' := 32) rfl (hb hby d3_30) rfl ?_
  refine g_aloadN X0 hx (pc' := 33) rfl (hb hby d3_32) rfl rfl ?_
  refine g_iloadN X0 hx (pc' := 34) rfl (hb hby d3_33) rfl ?_
  refine g_daload X0 hx hZ Ao (i := 0) (by decide) (show (0 : Nat) < 8 by decide) (v := o0) rfl (pc' := 35) rfl (hb hby d3_34) ?_
  refine g_dcmp X0 hx (pc' := 36) (z := (0 : Int32)) rfl (hb hby d3_35) (own_dyeq yc0 yo0 (by exact e0)) ?_
  refine g_ifN X0 hx (pcN := 39) (hb hby d3_36) rfl (show ¬ (¬ (0 : Int32) = 0) from by decide) ?_
  refine g_iconst X0 hx (pc' := 40) (z := (1 : Int32)) rfl (hb hby d3_39) rfl ?_
  refine g_goto X0 hx (pc' := 44) (hb hby d3_40) (by decide) (by decide) ?_
  refine g_istore X0 hx (pc' := 46) rfl (hb hby d3_44) (l' := #[.val (.ref ca), .val (.ref oa), .val (.int (2 : Int32)), .val (.int (0 : Int32)), .val (.int (3 : Int32)), .val (.double l10), .second, .val (.double l20), .second, .val (.double l21), .second, .val (.double c0), .second, .val (.double c2), .second, .val (.double c4), .second, .val (.double c6), .second, .val (.int (1 : Int32)), .unset, .unset, .unset]) rfl ?_
  refine g_iload X0 hx (pc' := 48) rfl (hb hby d3_46) rfl ?_
  refine g_iconst X0 hx (pc' := 49) (z := (1 : Int32)) rfl (hb hby d3_48) rfl ?_
  refine g_icmpN X0 hx (pcN := 52) (hb hby d3_49) rfl (show ¬ (¬ (1 : Int32) < (3 : Int32)) from by decide) ?_
  refine g_dload X0 hx (pc' := 54) rfl (hb hby d3_52) rfl ?_
  refine g_dload X0 hx (pc' := 56) rfl (hb hby d3_54) rfl ?_
  have q301 : Dy (ml10 * mc0) 1074 (FP.dmul l10 c0) := dy_mul yl10 yc0 (by decide) (own_mb bl10 bc0 (by decide)) (by decide)
  refine g_dmul X0 hx (pc' := 57) (z := (FP.dmul l10 c0)) rfl (hb hby d3_56) (dy_noNaN q301) rfl ?_
  refine g_absD (fun d301 hd301 => ?_)
  rw [← hd301] at q301
  obtain ⟨n301, en301⟩ : ∃ z : Int, z = ml10 * mc0 := ⟨_, rfl⟩
  rw [← en301] at q301
  have b301 : n301.natAbs ≤ 800000 := by rw [en301, Int.natAbs_mul]; exact Nat.le_trans (Nat.mul_le_mul bl10 bc0) (by decide)
  refine g_dload X0 hx (pc' := 59) rfl (hb hby d3_57) rfl ?_
  have q302 : Dy (n301 + mc2) 1074 (FP.dadd d301 c2) := dy_add q301 yc2 (own_addb b301 bc2 (by decide)) (by decide)
  refine g_dadd X0 hx (pc' := 60) (z := (FP.dadd d301 c2)) rfl (hb hby d3_59) (dy_noNaN q302) rfl ?_
  refine g_absD (fun d302 hd302 => ?_)
  rw [← hd302] at q302
  obtain ⟨n302, en302⟩ : ∃ z : Int, z = n301 + mc2 := ⟨_, rfl⟩
  rw [← en302] at q302
  have b302 : n302.natAbs ≤ 900000 := by rw [en302]; exact Nat.le_trans (own_addl b301 bc2) (by decide)
  refine g_aloadN X0 hx (pc' := 61) rfl (hb hby d3_60) rfl rfl ?_
  refine g_iloadN X0 hx (pc' := 62) rfl (hb hby d3_61) rfl ?_
  refine g_iloadN X0 hx (pc' := 63) rfl (hb hby d3_62) rfl ?_
  refine g_iadd X0 hx (pc' := 64) rfl (hb hby d3_63) ?_
  refine g_normI (z := (2 : Int32)) (by decide) ?_
  refine g_daload X0 hx hZ Ao (i := 2) (by decide) (show (2 : Nat) < 8 by decide) (v := o2) rfl (pc' := 65) rfl (hb hby d3_64) ?_
  refine g_dcmp X0 hx (pc' := 66) (z := (0 : Int32)) rfl (hb hby d3_65) (own_dyeq q302 yo2 (by rw [en302, en301]; exact e1)) ?_
  refine g_ifN X0 hx (pcN := 69) (hb hby d3_66) rfl (show ¬ (¬ (0 : Int32) = 0) from by decide) ?_
  refine g_iconst X0 hx (pc' := 70) (z := (1 : Int32)) rfl (hb hby d3_69) rfl ?_
  refine g_goto X0 hx (pc' := 93) (hb hby d3_70) (by decide) (by decide) ?_
  refine g_istore X0 hx (pc' := 95) rfl (hb hby d3_93) (l' := #[.val (.ref ca), .val (.ref oa), .val (.int (2 : Int32)), .val (.int (0 : Int32)), .val (.int (3 : Int32)), .val (.double l10), .second, .val (.double l20), .second, .val (.double l21), .second, .val (.double c0), .second, .val (.double c2), .second, .val (.double c4), .second, .val (.double c6), .second, .val (.int (1 : Int32)), .val (.int (1 : Int32)), .unset, .unset]) rfl ?_
  refine g_iload X0 hx (pc' := 97) rfl (hb hby d3_95) rfl ?_
  refine g_iconst X0 hx (pc' := 98) (z := (2 : Int32)) rfl (hb hby d3_97) rfl ?_
  refine g_icmpN X0 hx (pcN := 101) (hb hby d3_98) rfl (show ¬ (¬ (2 : Int32) < (3 : Int32)) from by decide) ?_
  refine g_dload X0 hx (pc' := 103) rfl (hb hby d3_101) rfl ?_
  refine g_dload X0 hx (pc' := 105) rfl (hb hby d3_103) rfl ?_
  have q303 : Dy (ml20 * mc0) 1074 (FP.dmul l20 c0) := dy_mul yl20 yc0 (by decide) (own_mb bl20 bc0 (by decide)) (by decide)
  refine g_dmul X0 hx (pc' := 106) (z := (FP.dmul l20 c0)) rfl (hb hby d3_105) (dy_noNaN q303) rfl ?_
  refine g_absD (fun d303 hd303 => ?_)
  rw [← hd303] at q303
  obtain ⟨n303, en303⟩ : ∃ z : Int, z = ml20 * mc0 := ⟨_, rfl⟩
  rw [← en303] at q303
  have b303 : n303.natAbs ≤ 800000 := by rw [en303, Int.natAbs_mul]; exact Nat.le_trans (Nat.mul_le_mul bl20 bc0) (by decide)
  refine g_dload X0 hx (pc' := 108) rfl (hb hby d3_106) rfl ?_
  refine g_dload X0 hx (pc' := 110) rfl (hb hby d3_108) rfl ?_
  have q304 : Dy (ml21 * mc2) 1074 (FP.dmul l21 c2) := dy_mul yl21 yc2 (by decide) (own_mb bl21 bc2 (by decide)) (by decide)
  refine g_dmul X0 hx (pc' := 111) (z := (FP.dmul l21 c2)) rfl (hb hby d3_110) (dy_noNaN q304) rfl ?_
  refine g_absD (fun d304 hd304 => ?_)
  rw [← hd304] at q304
  obtain ⟨n304, en304⟩ : ∃ z : Int, z = ml21 * mc2 := ⟨_, rfl⟩
  rw [← en304] at q304
  have b304 : n304.natAbs ≤ 800000 := by rw [en304, Int.natAbs_mul]; exact Nat.le_trans (Nat.mul_le_mul bl21 bc2) (by decide)
  have q305 : Dy (n303 + n304) 1074 (FP.dadd d303 d304) := dy_add q303 q304 (own_addb b303 b304 (by decide)) (by decide)
  refine g_dadd X0 hx (pc' := 112) (z := (FP.dadd d303 d304)) rfl (hb hby d3_111) (dy_noNaN q305) rfl ?_
  refine g_absD (fun d305 hd305 => ?_)
  rw [← hd305] at q305
  obtain ⟨n305, en305⟩ : ∃ z : Int, z = n303 + n304 := ⟨_, rfl⟩
  rw [← en305] at q305
  have b305 : n305.natAbs ≤ 1600000 := by rw [en305]; exact Nat.le_trans (own_addl b303 b304) (by decide)
  refine g_dload X0 hx (pc' := 114) rfl (hb hby d3_112) rfl ?_
  have q306 : Dy (n305 + mc4) 1074 (FP.dadd d305 c4) := dy_add q305 yc4 (own_addb b305 bc4 (by decide)) (by decide)
  refine g_dadd X0 hx (pc' := 115) (z := (FP.dadd d305 c4)) rfl (hb hby d3_114) (dy_noNaN q306) rfl ?_
  refine g_absD (fun d306 hd306 => ?_)
  rw [← hd306] at q306
  obtain ⟨n306, en306⟩ : ∃ z : Int, z = n305 + mc4 := ⟨_, rfl⟩
  rw [← en306] at q306
  have b306 : n306.natAbs ≤ 1700000 := by rw [en306]; exact Nat.le_trans (own_addl b305 bc4) (by decide)
  refine g_aloadN X0 hx (pc' := 116) rfl (hb hby d3_115) rfl rfl ?_
  refine g_iconst X0 hx (pc' := 117) (z := (2 : Int32)) rfl (hb hby d3_116) rfl ?_
  refine g_iloadN X0 hx (pc' := 118) rfl (hb hby d3_117) rfl ?_
  refine g_imul X0 hx (pc' := 119) rfl (hb hby d3_118) ?_
  refine g_normI (z := (4 : Int32)) (by decide) ?_
  refine g_iloadN X0 hx (pc' := 120) rfl (hb hby d3_119) rfl ?_
  refine g_iadd X0 hx (pc' := 121) rfl (hb hby d3_120) ?_
  refine g_normI (z := (4 : Int32)) (by decide) ?_
  refine g_daload X0 hx hZ Ao (i := 4) (by decide) (show (4 : Nat) < 8 by decide) (v := o4) rfl (pc' := 122) rfl (hb hby d3_121) ?_
  refine g_dcmp X0 hx (pc' := 123) (z := (0 : Int32)) rfl (hb hby d3_122) (own_dyeq q306 yo4 (by rw [en306, en305, en303, en304]; exact e2)) ?_
  refine g_ifN X0 hx (pcN := 126) (hb hby d3_123) rfl (show ¬ (¬ (0 : Int32) = 0) from by decide) ?_
  refine g_iconst X0 hx (pc' := 127) (z := (1 : Int32)) rfl (hb hby d3_126) rfl ?_
  refine g_goto X0 hx (pc' := 152) (hb hby d3_127) (by decide) (by decide) ?_
  refine g_istore X0 hx (pc' := 154) rfl (hb hby d3_152) (l' := #[.val (.ref ca), .val (.ref oa), .val (.int (2 : Int32)), .val (.int (0 : Int32)), .val (.int (3 : Int32)), .val (.double l10), .second, .val (.double l20), .second, .val (.double l21), .second, .val (.double c0), .second, .val (.double c2), .second, .val (.double c4), .second, .val (.double c6), .second, .val (.int (1 : Int32)), .val (.int (1 : Int32)), .val (.int (1 : Int32)), .unset]) rfl ?_
  refine g_dload X0 hx (pc' := 156) rfl (hb hby d3_154) rfl ?_
  refine g_aloadN X0 hx (pc' := 157) rfl (hb hby d3_156) rfl rfl ?_
  refine g_iconst X0 hx (pc' := 158) (z := (3 : Int32)) rfl (hb hby d3_157) rfl ?_
  refine g_iloadN X0 hx (pc' := 159) rfl (hb hby d3_158) rfl ?_
  refine g_imul X0 hx (pc' := 160) rfl (hb hby d3_159) ?_
  refine g_normI (z := (6 : Int32)) (by decide) ?_
  refine g_iloadN X0 hx (pc' := 161) rfl (hb hby d3_160) rfl ?_
  refine g_iadd X0 hx (pc' := 162) rfl (hb hby d3_161) ?_
  refine g_normI (z := (6 : Int32)) (by decide) ?_
  refine g_daload X0 hx hZ Ao (i := 6) (by decide) (show (6 : Nat) < 8 by decide) (v := o6) rfl (pc' := 163) rfl (hb hby d3_162) ?_
  refine g_dcmp X0 hx (pc' := 164) (z := (0 : Int32)) rfl (hb hby d3_163) (own_dyeq yc6 yo6 (by exact e3)) ?_
  refine g_ifN X0 hx (pcN := 167) (hb hby d3_164) rfl (show ¬ (¬ (0 : Int32) = 0) from by decide) ?_
  refine g_iconst X0 hx (pc' := 168) (z := (1 : Int32)) rfl (hb hby d3_167) rfl ?_
  refine g_goto X0 hx (pc' := 172) (hb hby d3_168) (by decide) (by decide) ?_
  refine g_istore X0 hx (pc' := 174) rfl (hb hby d3_172) (l' := #[.val (.ref ca), .val (.ref oa), .val (.int (2 : Int32)), .val (.int (0 : Int32)), .val (.int (3 : Int32)), .val (.double l10), .second, .val (.double l20), .second, .val (.double l21), .second, .val (.double c0), .second, .val (.double c2), .second, .val (.double c4), .second, .val (.double c6), .second, .val (.int (1 : Int32)), .val (.int (1 : Int32)), .val (.int (1 : Int32)), .val (.int (1 : Int32))]) rfl ?_
  refine g_iload X0 hx (pc' := 176) rfl (hb hby d3_174) rfl ?_
  refine g_ifN X0 hx (pcN := 179) (hb hby d3_176) rfl (show ¬ ((1 : Int32) = 0) from by decide) ?_
  refine g_iload X0 hx (pc' := 181) rfl (hb hby d3_179) rfl ?_
  refine g_ifN X0 hx (pcN := 184) (hb hby d3_181) rfl (show ¬ ((1 : Int32) = 0) from by decide) ?_
  refine g_iload X0 hx (pc' := 186) rfl (hb hby d3_184) rfl ?_
  refine g_ifN X0 hx (pcN := 189) (hb hby d3_186) rfl (show ¬ ((1 : Int32) = 0) from by decide) ?_
  refine g_iload X0 hx (pc' := 191) rfl (hb hby d3_189) rfl ?_
  refine g_ifN X0 hx (pcN := 194) (hb hby d3_191) rfl (show ¬ ((1 : Int32) = 0) from by decide) ?_
  refine g_iconst X0 hx (pc' := 195) (z := (1 : Int32)) rfl (hb hby d3_194) rfl ?_
  refine g_goto X0 hx (pc' := 199) (hb hby d3_195) (by decide) (by decide) ?_
  exact g_retZ X0 hx hlk hret (by first | exact Or.inl rfl | exact Or.inr rfl) (hb hby d3_199) (by decide) (by decide) (⟨rfl, rfl⟩)
set_option maxRecDepth 65536 in
set_option maxHeartbeats 40000000 in
theorem rm3_3_2_1 (l : Launch) (Z : State) (a0 : Array Value) (hw : ∀ d ∈ tables_1, d.before a0 Z = true) (ws : List Jvm.Cond) (n0 : Nat) (ca oa : Addr) (c0 o0 : UInt64) (c1 o1 : UInt64) (c2 o2 : UInt64) (c3 o3 : UInt64) (c4 o4 : UInt64) (c5 o5 : UInt64) (c6 o6 : UInt64) (c7 o7 : UInt64) (mc1 mo1 : Int) (mc3 mo3 : Int) (mc5 mo5 : Int) (mc7 mo7 : Int) (l10 l20 l21 : UInt64) (ml10 ml20 ml21 : Int) (h0 : Heap) (hn0 : n0 ≤ h0.size) (Ac : AD Z h0 ca [c0, c1, c2, c3, c4, c5, c6, c7]) (Ao : AD Z h0 oa [o0, o1, o2, o3, o4, o5, o6, o7]) (yc1 : Dy mc1 1074 c1) (bc1 : mc1.natAbs ≤ 100000) (yo1 : Dy mo1 1074 o1) (bo1 : mo1.natAbs ≤ 8) (yc3 : Dy mc3 1074 c3) (bc3 : mc3.natAbs ≤ 100000) (yo3 : Dy mo3 1074 o3) (bo3 : mo3.natAbs ≤ 8) (yc5 : Dy mc5 1074 c5) (bc5 : mc5.natAbs ≤ 100000) (yo5 : Dy mo5 1074 o5) (bo5 : mo5.natAbs ≤ 8) (yc7 : Dy mc7 1074 c7) (bc7 : mc7.natAbs ≤ 100000) (yo7 : Dy mo7 1074 o7) (bo7 : mo7.natAbs ≤ 8) (yl10 : Dy ml10 1074 l10) (bl10 : ml10.natAbs ≤ 8) (yl20 : Dy ml20 1074 l20) (bl20 : ml20.natAbs ≤ 8) (yl21 : Dy ml21 1074 l21) (bl21 : ml21.natAbs ≤ 8) (e0 : mc1 = mo1) (e1 : ml10 * mc1 + mc3 = mo3) (e2 : ml20 * mc1 + ml21 * mc3 + mc5 = mo5) (e3 : mc7 = mo7) :
    Con l Z n0 (⟨"com/example/orthogon/orthogon/TriangularSolveUnitLowerPinLaw", "col", "([D[DIIIDDD)Z"⟩ : MethodName) method_3_code 23 (some .boolean) ws ({ frames := 0, cells := 0, slots := 0, locals := 0 } : Room) #[(.ref ca), (.ref oa), (.int (2 : Int32)), (.int (1 : Int32)), (.int (3 : Int32)), (.double l10), (.double l20), (.double l21)] h0 (fun v h => v = some (.int 1) ∧ h = h0) := by
  refine con_start (plainFor_of_name (by first | (simp [plainName, overriddenIn]; done) | decide +kernel)) (fr0 := fun m => mkF m 0 #[.val (.ref ca), .val (.ref oa), .val (.int (2 : Int32)), .val (.int (1 : Int32)), .val (.int (3 : Int32)), .val (.double l10), .second, .val (.double l20), .second, .val (.double l21), .second, .unset, .unset, .unset, .unset, .unset, .unset, .unset, .unset, .unset, .unset, .unset, .unset] []) (fun m => by first | (simp [entryFrame, mkF, argsToLocals, Value.category]; done) | rfl) ?_
  intro p e s m below meth c T0 hx hZ hby hml hown hnm hret hlk X0
  replace hown : s.vm.findClass "com/example/orthogon/orthogon/TriangularSolveUnitLowerPinLaw" = some m.cls := hown
  replace hml : c.maxLocals = 23 := hml
  refine g_aloadN X0 hx (pc' := 1) rfl (hb hby d3_0) rfl rfl ?_
  refine g_iloadN X0 hx (pc' := 2) rfl (hb hby d3_1) rfl ?_
  refine g_daload X0 hx hZ Ac (i := 1) (by decide) (show (1 : Nat) < 8 by decide) (v := c1) rfl (pc' := 3) rfl (hb hby d3_2) ?_
  refine g_dstore X0 hx (pc' := 5) rfl (hb hby d3_3) (l' := #[.val (.ref ca), .val (.ref oa), .val (.int (2 : Int32)), .val (.int (1 : Int32)), .val (.int (3 : Int32)), .val (.double l10), .second, .val (.double l20), .second, .val (.double l21), .second, .val (.double c1), .second, .unset, .unset, .unset, .unset, .unset, .unset, .unset, .unset, .unset, .unset]) rfl ?_
  refine g_aloadN X0 hx (pc' := 6) rfl (hb hby d3_5) rfl rfl ?_
  refine g_iloadN X0 hx (pc' := 7) rfl (hb hby d3_6) rfl ?_
  refine g_iloadN X0 hx (pc' := 8) rfl (hb hby d3_7) rfl ?_
  refine g_iadd X0 hx (pc' := 9) rfl (hb hby d3_8) ?_
  refine g_normI (z := (3 : Int32)) (by decide) ?_
  refine g_daload X0 hx hZ Ac (i := 3) (by decide) (show (3 : Nat) < 8 by decide) (v := c3) rfl (pc' := 10) rfl (hb hby d3_9) ?_
  refine g_dstore X0 hx (pc' := 12) rfl (hb hby d3_10) (l' := #[.val (.ref ca), .val (.ref oa), .val (.int (2 : Int32)), .val (.int (1 : Int32)), .val (.int (3 : Int32)), .val (.double l10), .second, .val (.double l20), .second, .val (.double l21), .second, .val (.double c1), .second, .val (.double c3), .second, .unset, .unset, .unset, .unset, .unset, .unset, .unset, .unset]) rfl ?_
  refine g_aloadN X0 hx (pc' := 13) rfl (hb hby d3_12) rfl rfl ?_
  refine g_iconst X0 hx (pc' := 14) (z := (2 : Int32)) rfl (hb hby d3_13) rfl ?_
  refine g_iloadN X0 hx (pc' := 15) rfl (hb hby d3_14) rfl ?_
  refine g_imul X0 hx (pc' := 16) rfl (hb hby d3_15) ?_
  refine g_normI (z := (4 : Int32)) (by decide) ?_
  refine g_iloadN X0 hx (pc' := 17) rfl (hb hby d3_16) rfl ?_
  refine g_iadd X0 hx (pc' := 18) rfl (hb hby d3_17) ?_
  refine g_normI (z := (5 : Int32)) (by decide) ?_
  refine g_daload X0 hx hZ Ac (i := 5) (by decide) (show (5 : Nat) < 8 by decide) (v := c5) rfl (pc' := 19) rfl (hb hby d3_18) ?_
  refine g_dstore X0 hx (pc' := 21) rfl (hb hby d3_19) (l' := #[.val (.ref ca), .val (.ref oa), .val (.int (2 : Int32)), .val (.int (1 : Int32)), .val (.int (3 : Int32)), .val (.double l10), .second, .val (.double l20), .second, .val (.double l21), .second, .val (.double c1), .second, .val (.double c3), .second, .val (.double c5), .second, .unset, .unset, .unset, .unset, .unset, .unset]) rfl ?_
  refine g_aloadN X0 hx (pc' := 22) rfl (hb hby d3_21) rfl rfl ?_
  refine g_iconst X0 hx (pc' := 23) (z := (3 : Int32)) rfl (hb hby d3_22) rfl ?_
  refine g_iloadN X0 hx (pc' := 24) rfl (hb hby d3_23) rfl ?_
  refine g_imul X0 hx (pc' := 25) rfl (hb hby d3_24) ?_
  refine g_normI (z := (6 : Int32)) (by decide) ?_
  refine g_iloadN X0 hx (pc' := 26) rfl (hb hby d3_25) rfl ?_
  refine g_iadd X0 hx (pc' := 27) rfl (hb hby d3_26) ?_
  refine g_normI (z := (7 : Int32)) (by decide) ?_
  refine g_daload X0 hx hZ Ac (i := 7) (by decide) (show (7 : Nat) < 8 by decide) (v := c7) rfl (pc' := 28) rfl (hb hby d3_27) ?_
  refine g_dstore X0 hx (pc' := 30) rfl (hb hby d3_28) (l' := #[.val (.ref ca), .val (.ref oa), .val (.int (2 : Int32)), .val (.int (1 : Int32)), .val (.int (3 : Int32)), .val (.double l10), .second, .val (.double l20), .second, .val (.double l21), .second, .val (.double c1), .second, .val (.double c3), .second, .val (.double c5), .second, .val (.double c7), .second, .unset, .unset, .unset, .unset]) rfl ?_
  refine g_dload X0 hx (pc' := 32) rfl (hb hby d3_30) rfl ?_
  refine g_aloadN X0 hx (pc' := 33) rfl (hb hby d3_32) rfl rfl ?_
  refine g_iloadN X0 hx (pc' := 34) rfl (hb hby d3_33) rfl ?_
  refine g_daload X0 hx hZ Ao (i := 1) (by decide) (show (1 : Nat) < 8 by decide) (v := o1) rfl (pc' := 35) rfl (hb hby d3_34) ?_
  refine g_dcmp X0 hx (pc' := 36) (z := (0 : Int32)) rfl (hb hby d3_35) (own_dyeq yc1 yo1 (by exact e0)) ?_
  refine g_ifN X0 hx (pcN := 39) (hb hby d3_36) rfl (show ¬ (¬ (0 : Int32) = 0) from by decide) ?_
  refine g_iconst X0 hx (pc' := 40) (z := (1 : Int32)) rfl (hb hby d3_39) rfl ?_
  refine g_goto X0 hx (pc' := 44) (hb hby d3_40) (by decide) (by decide) ?_
  refine g_istore X0 hx (pc' := 46) rfl (hb hby d3_44) (l' := #[.val (.ref ca), .val (.ref oa), .val (.int (2 : Int32)), .val (.int (1 : Int32)), .val (.int (3 : Int32)), .val (.double l10), .second, .val (.double l20), .second, .val (.double l21), .second, .val (.double c1), .second, .val (.double c3), .second, .val (.double c5), .second, .val (.double c7), .second, .val (.int (1 : Int32)), .unset, .unset, .unset]) rfl ?_
  refine g_iload X0 hx (pc' := 48) rfl (hb hby d3_46) rfl ?_
  refine g_iconst X0 hx (pc' := 49) (z := (1 : Int32)) rfl (hb hby d3_48) rfl ?_
  refine g_icmpN X0 hx (pcN := 52) (hb hby d3_49) rfl (show ¬ (¬ (1 : Int32) < (3 : Int32)) from by decide) ?_
  refine g_dload X0 hx (pc' := 54) rfl (hb hby d3_52) rfl ?_
  refine g_dload X0 hx (pc' := 56) rfl (hb hby d3_54) rfl ?_
  have q307 : Dy (ml10 * mc1) 1074 (FP.dmul l10 c1) := dy_mul yl10 yc1 (by decide) (own_mb bl10 bc1 (by decide)) (by decide)
  refine g_dmul X0 hx (pc' := 57) (z := (FP.dmul l10 c1)) rfl (hb hby d3_56) (dy_noNaN q307) rfl ?_
  refine g_absD (fun d307 hd307 => ?_)
  rw [← hd307] at q307
  obtain ⟨n307, en307⟩ : ∃ z : Int, z = ml10 * mc1 := ⟨_, rfl⟩
  rw [← en307] at q307
  have b307 : n307.natAbs ≤ 800000 := by rw [en307, Int.natAbs_mul]; exact Nat.le_trans (Nat.mul_le_mul bl10 bc1) (by decide)
  refine g_dload X0 hx (pc' := 59) rfl (hb hby d3_57) rfl ?_
  have q308 : Dy (n307 + mc3) 1074 (FP.dadd d307 c3) := dy_add q307 yc3 (own_addb b307 bc3 (by decide)) (by decide)
  refine g_dadd X0 hx (pc' := 60) (z := (FP.dadd d307 c3)) rfl (hb hby d3_59) (dy_noNaN q308) rfl ?_
  refine g_absD (fun d308 hd308 => ?_)
  rw [← hd308] at q308
  obtain ⟨n308, en308⟩ : ∃ z : Int, z = n307 + mc3 := ⟨_, rfl⟩
  rw [← en308] at q308
  have b308 : n308.natAbs ≤ 900000 := by rw [en308]; exact Nat.le_trans (own_addl b307 bc3) (by decide)
  refine g_aloadN X0 hx (pc' := 61) rfl (hb hby d3_60) rfl rfl ?_
  refine g_iloadN X0 hx (pc' := 62) rfl (hb hby d3_61) rfl ?_
  refine g_iloadN X0 hx (pc' := 63) rfl (hb hby d3_62) rfl ?_
  refine g_iadd X0 hx (pc' := 64) rfl (hb hby d3_63) ?_
  refine g_normI (z := (3 : Int32)) (by decide) ?_
  refine g_daload X0 hx hZ Ao (i := 3) (by decide) (show (3 : Nat) < 8 by decide) (v := o3) rfl (pc' := 65) rfl (hb hby d3_64) ?_
  refine g_dcmp X0 hx (pc' := 66) (z := (0 : Int32)) rfl (hb hby d3_65) (own_dyeq q308 yo3 (by rw [en308, en307]; exact e1)) ?_
  refine g_ifN X0 hx (pcN := 69) (hb hby d3_66) rfl (show ¬ (¬ (0 : Int32) = 0) from by decide) ?_
  refine g_iconst X0 hx (pc' := 70) (z := (1 : Int32)) rfl (hb hby d3_69) rfl ?_
  refine g_goto X0 hx (pc' := 93) (hb hby d3_70) (by decide) (by decide) ?_
  refine g_istore X0 hx (pc' := 95) rfl (hb hby d3_93) (l' := #[.val (.ref ca), .val (.ref oa), .val (.int (2 : Int32)), .val (.int (1 : Int32)), .val (.int (3 : Int32)), .val (.double l10), .second, .val (.double l20), .second, .val (.double l21), .second, .val (.double c1), .second, .val (.double c3), .second, .val (.double c5), .second, .val (.double c7), .second, .val (.int (1 : Int32)), .val (.int (1 : Int32)), .unset, .unset]) rfl ?_
  refine g_iload X0 hx (pc' := 97) rfl (hb hby d3_95) rfl ?_
  refine g_iconst X0 hx (pc' := 98) (z := (2 : Int32)) rfl (hb hby d3_97) rfl ?_
  refine g_icmpN X0 hx (pcN := 101) (hb hby d3_98) rfl (show ¬ (¬ (2 : Int32) < (3 : Int32)) from by decide) ?_
  refine g_dload X0 hx (pc' := 103) rfl (hb hby d3_101) rfl ?_
  refine g_dload X0 hx (pc' := 105) rfl (hb hby d3_103) rfl ?_
  have q309 : Dy (ml20 * mc1) 1074 (FP.dmul l20 c1) := dy_mul yl20 yc1 (by decide) (own_mb bl20 bc1 (by decide)) (by decide)
  refine g_dmul X0 hx (pc' := 106) (z := (FP.dmul l20 c1)) rfl (hb hby d3_105) (dy_noNaN q309) rfl ?_
  refine g_absD (fun d309 hd309 => ?_)
  rw [← hd309] at q309
  obtain ⟨n309, en309⟩ : ∃ z : Int, z = ml20 * mc1 := ⟨_, rfl⟩
  rw [← en309] at q309
  have b309 : n309.natAbs ≤ 800000 := by rw [en309, Int.natAbs_mul]; exact Nat.le_trans (Nat.mul_le_mul bl20 bc1) (by decide)
  refine g_dload X0 hx (pc' := 108) rfl (hb hby d3_106) rfl ?_
  refine g_dload X0 hx (pc' := 110) rfl (hb hby d3_108) rfl ?_
  have q310 : Dy (ml21 * mc3) 1074 (FP.dmul l21 c3) := dy_mul yl21 yc3 (by decide) (own_mb bl21 bc3 (by decide)) (by decide)
  refine g_dmul X0 hx (pc' := 111) (z := (FP.dmul l21 c3)) rfl (hb hby d3_110) (dy_noNaN q310) rfl ?_
  refine g_absD (fun d310 hd310 => ?_)
  rw [← hd310] at q310
  obtain ⟨n310, en310⟩ : ∃ z : Int, z = ml21 * mc3 := ⟨_, rfl⟩
  rw [← en310] at q310
  have b310 : n310.natAbs ≤ 800000 := by rw [en310, Int.natAbs_mul]; exact Nat.le_trans (Nat.mul_le_mul bl21 bc3) (by decide)
  have q311 : Dy (n309 + n310) 1074 (FP.dadd d309 d310) := dy_add q309 q310 (own_addb b309 b310 (by decide)) (by decide)
  refine g_dadd X0 hx (pc' := 112) (z := (FP.dadd d309 d310)) rfl (hb hby d3_111) (dy_noNaN q311) rfl ?_
  refine g_absD (fun d311 hd311 => ?_)
  rw [← hd311] at q311
  obtain ⟨n311, en311⟩ : ∃ z : Int, z = n309 + n310 := ⟨_, rfl⟩
  rw [← en311] at q311
  have b311 : n311.natAbs ≤ 1600000 := by rw [en311]; exact Nat.le_trans (own_addl b309 b310) (by decide)
  refine g_dload X0 hx (pc' := 114) rfl (hb hby d3_112) rfl ?_
  have q312 : Dy (n311 + mc5) 1074 (FP.dadd d311 c5) := dy_add q311 yc5 (own_addb b311 bc5 (by decide)) (by decide)
  refine g_dadd X0 hx (pc' := 115) (z := (FP.dadd d311 c5)) rfl (hb hby d3_114) (dy_noNaN q312) rfl ?_
  refine g_absD (fun d312 hd312 => ?_)
  rw [← hd312] at q312
  obtain ⟨n312, en312⟩ : ∃ z : Int, z = n311 + mc5 := ⟨_, rfl⟩
  rw [← en312] at q312
  have b312 : n312.natAbs ≤ 1700000 := by rw [en312]; exact Nat.le_trans (own_addl b311 bc5) (by decide)
  refine g_aloadN X0 hx (pc' := 116) rfl (hb hby d3_115) rfl rfl ?_
  refine g_iconst X0 hx (pc' := 117) (z := (2 : Int32)) rfl (hb hby d3_116) rfl ?_
  refine g_iloadN X0 hx (pc' := 118) rfl (hb hby d3_117) rfl ?_
  refine g_imul X0 hx (pc' := 119) rfl (hb hby d3_118) ?_
  refine g_normI (z := (4 : Int32)) (by decide) ?_
  refine g_iloadN X0 hx (pc' := 120) rfl (hb hby d3_119) rfl ?_
  refine g_iadd X0 hx (pc' := 121) rfl (hb hby d3_120) ?_
  refine g_normI (z := (5 : Int32)) (by decide) ?_
  refine g_daload X0 hx hZ Ao (i := 5) (by decide) (show (5 : Nat) < 8 by decide) (v := o5) rfl (pc' := 122) rfl (hb hby d3_121) ?_
  refine g_dcmp X0 hx (pc' := 123) (z := (0 : Int32)) rfl (hb hby d3_122) (own_dyeq q312 yo5 (by rw [en312, en311, en309, en310]; exact e2)) ?_
  refine g_ifN X0 hx (pcN := 126) (hb hby d3_123) rfl (show ¬ (¬ (0 : Int32) = 0) from by decide) ?_
  refine g_iconst X0 hx (pc' := 127) (z := (1 : Int32)) rfl (hb hby d3_126) rfl ?_
  refine g_goto X0 hx (pc' := 152) (hb hby d3_127) (by decide) (by decide) ?_
  refine g_istore X0 hx (pc' := 154) rfl (hb hby d3_152) (l' := #[.val (.ref ca), .val (.ref oa), .val (.int (2 : Int32)), .val (.int (1 : Int32)), .val (.int (3 : Int32)), .val (.double l10), .second, .val (.double l20), .second, .val (.double l21), .second, .val (.double c1), .second, .val (.double c3), .second, .val (.double c5), .second, .val (.double c7), .second, .val (.int (1 : Int32)), .val (.int (1 : Int32)), .val (.int (1 : Int32)), .unset]) rfl ?_
  refine g_dload X0 hx (pc' := 156) rfl (hb hby d3_154) rfl ?_
  refine g_aloadN X0 hx (pc' := 157) rfl (hb hby d3_156) rfl rfl ?_
  refine g_iconst X0 hx (pc' := 158) (z := (3 : Int32)) rfl (hb hby d3_157) rfl ?_
  refine g_iloadN X0 hx (pc' := 159) rfl (hb hby d3_158) rfl ?_
  refine g_imul X0 hx (pc' := 160) rfl (hb hby d3_159) ?_
  refine g_normI (z := (6 : Int32)) (by decide) ?_
  refine g_iloadN X0 hx (pc' := 161) rfl (hb hby d3_160) rfl ?_
  refine g_iadd X0 hx (pc' := 162) rfl (hb hby d3_161) ?_
  refine g_normI (z := (7 : Int32)) (by decide) ?_
  refine g_daload X0 hx hZ Ao (i := 7) (by decide) (show (7 : Nat) < 8 by decide) (v := o7) rfl (pc' := 163) rfl (hb hby d3_162) ?_
  refine g_dcmp X0 hx (pc' := 164) (z := (0 : Int32)) rfl (hb hby d3_163) (own_dyeq yc7 yo7 (by exact e3)) ?_
  refine g_ifN X0 hx (pcN := 167) (hb hby d3_164) rfl (show ¬ (¬ (0 : Int32) = 0) from by decide) ?_
  refine g_iconst X0 hx (pc' := 168) (z := (1 : Int32)) rfl (hb hby d3_167) rfl ?_
  refine g_goto X0 hx (pc' := 172) (hb hby d3_168) (by decide) (by decide) ?_
  refine g_istore X0 hx (pc' := 174) rfl (hb hby d3_172) (l' := #[.val (.ref ca), .val (.ref oa), .val (.int (2 : Int32)), .val (.int (1 : Int32)), .val (.int (3 : Int32)), .val (.double l10), .second, .val (.double l20), .second, .val (.double l21), .second, .val (.double c1), .second, .val (.double c3), .second, .val (.double c5), .second, .val (.double c7), .second, .val (.int (1 : Int32)), .val (.int (1 : Int32)), .val (.int (1 : Int32)), .val (.int (1 : Int32))]) rfl ?_
  refine g_iload X0 hx (pc' := 176) rfl (hb hby d3_174) rfl ?_
  refine g_ifN X0 hx (pcN := 179) (hb hby d3_176) rfl (show ¬ ((1 : Int32) = 0) from by decide) ?_
  refine g_iload X0 hx (pc' := 181) rfl (hb hby d3_179) rfl ?_
  refine g_ifN X0 hx (pcN := 184) (hb hby d3_181) rfl (show ¬ ((1 : Int32) = 0) from by decide) ?_
  refine g_iload X0 hx (pc' := 186) rfl (hb hby d3_184) rfl ?_
  refine g_ifN X0 hx (pcN := 189) (hb hby d3_186) rfl (show ¬ ((1 : Int32) = 0) from by decide) ?_
  refine g_iload X0 hx (pc' := 191) rfl (hb hby d3_189) rfl ?_
  refine g_ifN X0 hx (pcN := 194) (hb hby d3_191) rfl (show ¬ ((1 : Int32) = 0) from by decide) ?_
  refine g_iconst X0 hx (pc' := 195) (z := (1 : Int32)) rfl (hb hby d3_194) rfl ?_
  refine g_goto X0 hx (pc' := 199) (hb hby d3_195) (by decide) (by decide) ?_
  exact g_retZ X0 hx hlk hret (by first | exact Or.inl rfl | exact Or.inr rfl) (hb hby d3_199) (by decide) (by decide) (⟨rfl, rfl⟩)
theorem own_e1 (a c : Int) : a + (c - a) = c := by omega
theorem own_e2 (a b c : Int) : a + b + (c - a - b) = c := by omega
theorem own_b72 {c t x : Int} (hc : c.natAbs ≤ 8) (ht : t.natAbs ≤ 8) (hx : x.natAbs ≤ 8) : (c - t * x).natAbs ≤ 100000 := by
  have h : (t * x).natAbs ≤ 64 := by rw [Int.natAbs_mul]; exact Nat.mul_le_mul ht hx
  omega
theorem own_b648 {c t x t' c' t'' : Int} (hc : c.natAbs ≤ 8) (ht : t.natAbs ≤ 8) (hx : x.natAbs ≤ 8) (ht' : t'.natAbs ≤ 8) (hc' : c'.natAbs ≤ 8) (ht'' : t''.natAbs ≤ 8) : (c - t * x - t' * (c' - t'' * x)).natAbs ≤ 100000 := by
  have h : (t * x).natAbs ≤ 64 := by rw [Int.natAbs_mul]; exact Nat.mul_le_mul ht hx
  have h1 : (t'' * x).natAbs ≤ 64 := by rw [Int.natAbs_mul]; exact Nat.mul_le_mul ht'' hx
  have h2 : (c' - t'' * x).natAbs ≤ 72 := by omega
  have h3 : (t' * (c' - t'' * x)).natAbs ≤ 576 := by rw [Int.natAbs_mul]; exact Nat.mul_le_mul ht' h2
  omega
set_option maxRecDepth 65536 in
set_option maxHeartbeats 40000000 in
theorem rm0 (l : Launch) (Z : State) (a0 : Array Value) (hw : ∀ d ∈ tables_1, d.before a0 Z = true) (ws : List Jvm.Cond) (n0 : Nat) (x0 : Int32) (x1 : Int32) (x2 : Int32) (x3 : Int32) (h0 : Heap) (hn0 : n0 ≤ h0.size)  :
    Con l Z n0 x code maxLocals ret ws room_1 #[(.int x0), (.int x1), (.int x2), (.int x3)] h0 (fun v h => v = some (.int 1)) := by
  refine con_start (plainFor_of_name (by first | (simp [plainName, overriddenIn]; done) | decide +kernel)) (fr0 := fun m => mkF m 0 #[.val (.int x0), .val (.int x1), .val (.int x2), .val (.int x3), .unset, .unset, .unset, .unset, .unset, .unset, .unset, .unset, .unset, .unset, .unset, .unset, .unset, .unset, .unset, .unset, .unset] []) (fun m => by first | (simp [entryFrame, mkF, argsToLocals, Value.category, maxLocals]; done) | rfl) ?_
  intro p e s m below meth c T0 hx hZ hby hml hown hnm hret hlk X0
  replace hown : s.vm.findClass "com/example/orthogon/orthogon/TriangularSolveUnitLowerPinLaw" = some m.cls := hown
  replace hml : c.maxLocals = 21 := hml
  refine g_iloadN X0 hx (pc' := 1) rfl (hb hby at_0) rfl ?_
  refine g_iconst X0 hx (pc' := 2) (z := (3 : Int32)) rfl (hb hby at_1) rfl ?_
  refine g_iand X0 hx (pc' := 3) rfl (hb hby at_2) ?_
  refine g_absI (fun order h_order => ?_)
  refine g_istore X0 hx (pc' := 5) rfl (hb hby at_3) (l' := #[.val (.int x0), .val (.int x1), .val (.int x2), .val (.int x3), .val (.int order), .unset, .unset, .unset, .unset, .unset, .unset, .unset, .unset, .unset, .unset, .unset, .unset, .unset, .unset, .unset, .unset]) rfl ?_
  refine g_iconst X0 hx (pc' := 6) (z := (1 : Int32)) rfl (hb hby at_5) rfl ?_
  refine g_iloadN X0 hx (pc' := 7) rfl (hb hby at_6) rfl ?_
  refine g_iconst X0 hx (pc' := 8) (z := (2 : Int32)) rfl (hb hby at_7) rfl ?_
  refine g_ishr X0 hx (pc' := 9) rfl (hb hby at_8) ?_
  refine g_iconst X0 hx (pc' := 10) (z := (1 : Int32)) rfl (hb hby at_9) rfl ?_
  refine g_iand X0 hx (pc' := 11) rfl (hb hby at_10) ?_
  refine g_iadd X0 hx (pc' := 12) rfl (hb hby at_11) ?_
  refine g_absI (fun width h_width => ?_)
  refine g_istore X0 hx (pc' := 14) rfl (hb hby at_12) (l' := #[.val (.int x0), .val (.int x1), .val (.int x2), .val (.int x3), .val (.int order), .val (.int width), .unset, .unset, .unset, .unset, .unset, .unset, .unset, .unset, .unset, .unset, .unset, .unset, .unset, .unset, .unset]) rfl ?_
  refine g_iconst X0 hx (pc' := 15) (z := (3 : Int32)) rfl (hb hby at_14) rfl ?_
  refine g_iloadN X0 hx (pc' := 16) rfl (hb hby at_15) rfl ?_
  refine g_iconst X0 hx (pc' := 17) (z := (3 : Int32)) rfl (hb hby at_16) rfl ?_
  refine g_ishr X0 hx (pc' := 18) rfl (hb hby at_17) ?_
  refine g_iconst X0 hx (pc' := 19) (z := (1 : Int32)) rfl (hb hby at_18) rfl ?_
  refine g_iand X0 hx (pc' := 20) rfl (hb hby at_19) ?_
  refine g_iadd X0 hx (pc' := 21) rfl (hb hby at_20) ?_
  refine g_absI (fun stride h_stride => ?_)
  refine g_istore X0 hx (pc' := 23) rfl (hb hby at_21) (l' := #[.val (.int x0), .val (.int x1), .val (.int x2), .val (.int x3), .val (.int order), .val (.int width), .val (.int stride), .unset, .unset, .unset, .unset, .unset, .unset, .unset, .unset, .unset, .unset, .unset, .unset, .unset, .unset]) rfl ?_
  have horder : order = 0 ∨ order = 1 ∨ order = 2 ∨ order = 3 := by rw [h_order]; exact own_and3 x2
  have hwidth : width = 1 ∨ width = 2 := by rw [h_width]; rcases own_and1 (x2 >>> ((2 : Int32) &&& 31)) with q | q <;> rw [q] <;> decide
  have hstride : stride = 3 ∨ stride = 4 := by rw [h_stride]; rcases own_and1 (x2 >>> ((3 : Int32) &&& 31)) with q | q <;> rw [q] <;> decide
  clear h_order h_width h_stride
  refine g_iloadN X0 hx (pc' := 24) rfl (hb hby at_23) rfl ?_
  refine g_sipush X0 hx (pc' := 27) (z := (255 : Int32)) rfl (hb hby at_24) rfl ?_
  refine g_iand X0 hx (pc' := 28) rfl (hb hby at_27) ?_
  refine g_sipush X0 hx (pc' := 31) (z := (128 : Int32)) rfl (hb hby at_28) rfl ?_
  refine g_isub X0 hx (pc' := 32) rfl (hb hby at_31) ?_
  refine g_i2d X0 hx (pc' := 33) rfl (hb hby at_32) ?_
  refine g_absD (fun dd h_dd => ?_)
  refine g_dstore X0 hx (pc' := 35) rfl (hb hby at_33) (l' := #[.val (.int x0), .val (.int x1), .val (.int x2), .val (.int x3), .val (.int order), .val (.int width), .val (.int stride), .val (.double dd), .second, .unset, .unset, .unset, .unset, .unset, .unset, .unset, .unset, .unset, .unset, .unset, .unset]) rfl ?_
  refine g_iloadN X0 hx (pc' := 36) rfl (hb hby at_35) rfl ?_
  refine g_bipush X0 hx (pc' := 38) (z := (8 : Int32)) rfl (hb hby at_36) rfl ?_
  refine g_ishr X0 hx (pc' := 39) rfl (hb hby at_38) ?_
  refine g_sipush X0 hx (pc' := 42) (z := (255 : Int32)) rfl (hb hby at_39) rfl ?_
  refine g_iand X0 hx (pc' := 43) rfl (hb hby at_42) ?_
  refine g_sipush X0 hx (pc' := 46) (z := (128 : Int32)) rfl (hb hby at_43) rfl ?_
  refine g_isub X0 hx (pc' := 47) rfl (hb hby at_46) ?_
  refine g_i2d X0 hx (pc' := 48) rfl (hb hby at_47) ?_
  refine g_absD (fun ee h_ee => ?_)
  refine g_dstore X0 hx (pc' := 50) rfl (hb hby at_48) (l' := #[.val (.int x0), .val (.int x1), .val (.int x2), .val (.int x3), .val (.int order), .val (.int width), .val (.int stride), .val (.double dd), .second, .val (.double ee), .second, .unset, .unset, .unset, .unset, .unset, .unset, .unset, .unset, .unset, .unset]) rfl ?_
  refine g_iloadN X0 hx (pc' := 51) rfl (hb hby at_50) rfl ?_
  refine g_iconst X0 hx (pc' := 52) (z := (0 : Int32)) rfl (hb hby at_51) rfl ?_
  refine g_callS X0 hx hZ hown (hw _ (List.mem_of_getElem? (i := 0) rfl)) (hw _ (List.mem_of_getElem? (i := 1) rfl)) (hw _ (List.mem_of_getElem? (i := 2) rfl)) (hw _ (List.mem_of_getElem? (i := 3) rfl)) (by decide) (rm1 l Z a0 hw [] n0 x0 (0 : Int32) h0 hn0) pd_0 rfl rfl (by rw [hml]; rfl) (pc' := 55) rfl (hb hby at_52) (argsL := [(.int x0), (.int (0 : Int32))]) (rest := []) rfl (W := 0) (Nat.le_of_eq rfl) (by decide) (by decide) (by decide) (by decide) (fun v313 T313 h313 X313 hQ313 => ?_)
  obtain ⟨rfl, he313⟩ := hQ313
  rw [he313] at X313
  show Go p e below s n0 _ _ _ (T313.setTop (mkF m 55 #[.val (.int x0), .val (.int x1), .val (.int x2), .val (.int x3), .val (.int order), .val (.int width), .val (.int stride), .val (.double dd), .second, .val (.double ee), .second, .unset, .unset, .unset, .unset, .unset, .unset, .unset, .unset, .unset, .unset] [(.double (FP.i2d (((x0 >>> (((4 : Int32) * (0 : Int32)) &&& 31)) &&& (15 : Int32)) - (8 : Int32))))]))
  refine g_absD (fun u0 hu0 => ?_)
  obtain ⟨mu0, emu0⟩ : ∃ z : Int, z = (((x0 >>> (((4 : Int32) * (0 : Int32)) &&& 31)) &&& (15 : Int32)) - (8 : Int32)).toInt := ⟨_, rfl⟩
  have yu0 : Dy mu0 1074 u0 := by rw [hu0, emu0]; exact own_i2d _
  have bu0 : mu0.natAbs ≤ 8 := by rw [emu0]; exact own_nib _ _
  refine g_dstore X313 hx (pc' := 57) rfl (hb hby at_55) (l' := #[.val (.int x0), .val (.int x1), .val (.int x2), .val (.int x3), .val (.int order), .val (.int width), .val (.int stride), .val (.double dd), .second, .val (.double ee), .second, .val (.double u0), .second, .unset, .unset, .unset, .unset, .unset, .unset, .unset, .unset]) rfl ?_
  refine g_iloadN X313 hx (pc' := 58) rfl (hb hby at_57) rfl ?_
  refine g_iconst X313 hx (pc' := 59) (z := (1 : Int32)) rfl (hb hby at_58) rfl ?_
  refine g_callS X313 hx hZ hown (hw _ (List.mem_of_getElem? (i := 0) rfl)) (hw _ (List.mem_of_getElem? (i := 1) rfl)) (hw _ (List.mem_of_getElem? (i := 2) rfl)) (hw _ (List.mem_of_getElem? (i := 3) rfl)) (by decide) (rm1 l Z a0 hw [] n0 x0 (1 : Int32) h0 hn0) pd_0 rfl rfl (by rw [hml]; rfl) (pc' := 62) rfl (hb hby at_59) (argsL := [(.int x0), (.int (1 : Int32))]) (rest := []) rfl (W := 0) (Nat.le_of_eq rfl) (by decide) (by decide) (by decide) (by decide) (fun v314 T314 h314 X314 hQ314 => ?_)
  obtain ⟨rfl, he314⟩ := hQ314
  rw [he314] at X314
  show Go p e below s n0 _ _ _ (T314.setTop (mkF m 62 #[.val (.int x0), .val (.int x1), .val (.int x2), .val (.int x3), .val (.int order), .val (.int width), .val (.int stride), .val (.double dd), .second, .val (.double ee), .second, .val (.double u0), .second, .unset, .unset, .unset, .unset, .unset, .unset, .unset, .unset] [(.double (FP.i2d (((x0 >>> (((4 : Int32) * (1 : Int32)) &&& 31)) &&& (15 : Int32)) - (8 : Int32))))]))
  refine g_absD (fun u1 hu1 => ?_)
  obtain ⟨mu1, emu1⟩ : ∃ z : Int, z = (((x0 >>> (((4 : Int32) * (1 : Int32)) &&& 31)) &&& (15 : Int32)) - (8 : Int32)).toInt := ⟨_, rfl⟩
  have yu1 : Dy mu1 1074 u1 := by rw [hu1, emu1]; exact own_i2d _
  have bu1 : mu1.natAbs ≤ 8 := by rw [emu1]; exact own_nib _ _
  refine g_dstore X314 hx (pc' := 64) rfl (hb hby at_62) (l' := #[.val (.int x0), .val (.int x1), .val (.int x2), .val (.int x3), .val (.int order), .val (.int width), .val (.int stride), .val (.double dd), .second, .val (.double ee), .second, .val (.double u0), .second, .val (.double u1), .second, .unset, .unset, .unset, .unset, .unset, .unset]) rfl ?_
  refine g_iloadN X314 hx (pc' := 65) rfl (hb hby at_64) rfl ?_
  refine g_iconst X314 hx (pc' := 66) (z := (2 : Int32)) rfl (hb hby at_65) rfl ?_
  refine g_callS X314 hx hZ hown (hw _ (List.mem_of_getElem? (i := 0) rfl)) (hw _ (List.mem_of_getElem? (i := 1) rfl)) (hw _ (List.mem_of_getElem? (i := 2) rfl)) (hw _ (List.mem_of_getElem? (i := 3) rfl)) (by decide) (rm1 l Z a0 hw [] n0 x0 (2 : Int32) h0 hn0) pd_0 rfl rfl (by rw [hml]; rfl) (pc' := 69) rfl (hb hby at_66) (argsL := [(.int x0), (.int (2 : Int32))]) (rest := []) rfl (W := 0) (Nat.le_of_eq rfl) (by decide) (by decide) (by decide) (by decide) (fun v315 T315 h315 X315 hQ315 => ?_)
  obtain ⟨rfl, he315⟩ := hQ315
  rw [he315] at X315
  show Go p e below s n0 _ _ _ (T315.setTop (mkF m 69 #[.val (.int x0), .val (.int x1), .val (.int x2), .val (.int x3), .val (.int order), .val (.int width), .val (.int stride), .val (.double dd), .second, .val (.double ee), .second, .val (.double u0), .second, .val (.double u1), .second, .unset, .unset, .unset, .unset, .unset, .unset] [(.double (FP.i2d (((x0 >>> (((4 : Int32) * (2 : Int32)) &&& 31)) &&& (15 : Int32)) - (8 : Int32))))]))
  refine g_absD (fun u2 hu2 => ?_)
  obtain ⟨mu2, emu2⟩ : ∃ z : Int, z = (((x0 >>> (((4 : Int32) * (2 : Int32)) &&& 31)) &&& (15 : Int32)) - (8 : Int32)).toInt := ⟨_, rfl⟩
  have yu2 : Dy mu2 1074 u2 := by rw [hu2, emu2]; exact own_i2d _
  have bu2 : mu2.natAbs ≤ 8 := by rw [emu2]; exact own_nib _ _
  refine g_dstore X315 hx (pc' := 71) rfl (hb hby at_69) (l' := #[.val (.int x0), .val (.int x1), .val (.int x2), .val (.int x3), .val (.int order), .val (.int width), .val (.int stride), .val (.double dd), .second, .val (.double ee), .second, .val (.double u0), .second, .val (.double u1), .second, .val (.double u2), .second, .unset, .unset, .unset, .unset]) rfl ?_
  refine g_bipush X315 hx (pc' := 73) (z := (12 : Int32)) rfl (hb hby at_71) rfl ?_
  refine g_newD X315 hx hZ (hw _ (List.mem_of_getElem? (i := 4) rfl)) (N := 12) (by decide) (cap := 12) (Nat.le_refl _) (by decide) (pc' := 75) rfl (hb hby at_73) (by decide) (by decide) (fun T316 h316 a316 ha316 X316 E316 N316 => ?_)
  have G_a316 : n0 ≤ a316 := by rw [ha316]; exact hn0
  have Zs316 : n0 ≤ h316.size := Nat.le_trans hn0 E316.1
  have V316 : AD Z h316 a316 [(0 : UInt64), (0 : UInt64), (0 : UInt64), (0 : UInt64), (0 : UInt64), (0 : UInt64), (0 : UInt64), (0 : UInt64), (0 : UInt64), (0 : UInt64), (0 : UInt64), (0 : UInt64)] := N316
  refine g_dup X316 hx (pc' := 76) rfl (hb hby at_75) rfl ?_
  refine g_iconst X316 hx (pc' := 77) (z := (0 : Int32)) rfl (hb hby at_76) rfl ?_
  refine g_dload X316 hx (pc' := 79) rfl (hb hby at_77) rfl ?_
  refine g_dastore X316 hx hZ V316 (i := 0) (by decide) (show (0 : Nat) < 12 by decide) G_a316 (pc' := 80) rfl (hb hby at_79) (fun T317 h317 X317 W317 N317 => ?_)
  have f318 := (by have q := (Keep.of_wr W317).1; exact Nat.le_trans Zs316 q : n0 ≤ h317.size)
  have V317 : AD Z h317 a316 [ee, (0 : UInt64), (0 : UInt64), (0 : UInt64), (0 : UInt64), (0 : UInt64), (0 : UInt64), (0 : UInt64), (0 : UInt64), (0 : UInt64), (0 : UInt64), (0 : UInt64)] := N317
  refine g_dup X317 hx (pc' := 81) rfl (hb hby at_80) rfl ?_
  refine g_iconst X317 hx (pc' := 82) (z := (1 : Int32)) rfl (hb hby at_81) rfl ?_
  refine g_dload X317 hx (pc' := 84) rfl (hb hby at_82) rfl ?_
  refine g_dastore X317 hx hZ V317 (i := 1) (by decide) (show (1 : Nat) < 12 by decide) G_a316 (pc' := 85) rfl (hb hby at_84) (fun T319 h319 X319 W319 N319 => ?_)
  have f320 := (by have q := (Keep.of_wr W319).1; exact Nat.le_trans f318 q : n0 ≤ h319.size)
  have V319 : AD Z h319 a316 [ee, ee, (0 : UInt64), (0 : UInt64), (0 : UInt64), (0 : UInt64), (0 : UInt64), (0 : UInt64), (0 : UInt64), (0 : UInt64), (0 : UInt64), (0 : UInt64)] := N319
  refine g_dup X319 hx (pc' := 86) rfl (hb hby at_85) rfl ?_
  refine g_iconst X319 hx (pc' := 87) (z := (2 : Int32)) rfl (hb hby at_86) rfl ?_
  refine g_dload X319 hx (pc' := 89) rfl (hb hby at_87) rfl ?_
  refine g_dastore X319 hx hZ V319 (i := 2) (by decide) (show (2 : Nat) < 12 by decide) G_a316 (pc' := 90) rfl (hb hby at_89) (fun T321 h321 X321 W321 N321 => ?_)
  have f322 := (by have q := (Keep.of_wr W321).1; exact Nat.le_trans f320 q : n0 ≤ h321.size)
  have V321 : AD Z h321 a316 [ee, ee, ee, (0 : UInt64), (0 : UInt64), (0 : UInt64), (0 : UInt64), (0 : UInt64), (0 : UInt64), (0 : UInt64), (0 : UInt64), (0 : UInt64)] := N321
  refine g_dup X321 hx (pc' := 91) rfl (hb hby at_90) rfl ?_
  refine g_iconst X321 hx (pc' := 92) (z := (3 : Int32)) rfl (hb hby at_91) rfl ?_
  refine g_dload X321 hx (pc' := 94) rfl (hb hby at_92) rfl ?_
  refine g_dastore X321 hx hZ V321 (i := 3) (by decide) (show (3 : Nat) < 12 by decide) G_a316 (pc' := 95) rfl (hb hby at_94) (fun T323 h323 X323 W323 N323 => ?_)
  have f324 := (by have q := (Keep.of_wr W323).1; exact Nat.le_trans f322 q : n0 ≤ h323.size)
  have V323 : AD Z h323 a316 [ee, ee, ee, ee, (0 : UInt64), (0 : UInt64), (0 : UInt64), (0 : UInt64), (0 : UInt64), (0 : UInt64), (0 : UInt64), (0 : UInt64)] := N323
  refine g_dup X323 hx (pc' := 96) rfl (hb hby at_95) rfl ?_
  refine g_iconst X323 hx (pc' := 97) (z := (4 : Int32)) rfl (hb hby at_96) rfl ?_
  refine g_dload X323 hx (pc' := 99) rfl (hb hby at_97) rfl ?_
  refine g_dastore X323 hx hZ V323 (i := 4) (by decide) (show (4 : Nat) < 12 by decide) G_a316 (pc' := 100) rfl (hb hby at_99) (fun T325 h325 X325 W325 N325 => ?_)
  have f326 := (by have q := (Keep.of_wr W325).1; exact Nat.le_trans f324 q : n0 ≤ h325.size)
  have V325 : AD Z h325 a316 [ee, ee, ee, ee, ee, (0 : UInt64), (0 : UInt64), (0 : UInt64), (0 : UInt64), (0 : UInt64), (0 : UInt64), (0 : UInt64)] := N325
  refine g_dup X325 hx (pc' := 101) rfl (hb hby at_100) rfl ?_
  refine g_iconst X325 hx (pc' := 102) (z := (5 : Int32)) rfl (hb hby at_101) rfl ?_
  refine g_dload X325 hx (pc' := 104) rfl (hb hby at_102) rfl ?_
  refine g_dastore X325 hx hZ V325 (i := 5) (by decide) (show (5 : Nat) < 12 by decide) G_a316 (pc' := 105) rfl (hb hby at_104) (fun T327 h327 X327 W327 N327 => ?_)
  have f328 := (by have q := (Keep.of_wr W327).1; exact Nat.le_trans f326 q : n0 ≤ h327.size)
  have V327 : AD Z h327 a316 [ee, ee, ee, ee, ee, ee, (0 : UInt64), (0 : UInt64), (0 : UInt64), (0 : UInt64), (0 : UInt64), (0 : UInt64)] := N327
  refine g_dup X327 hx (pc' := 106) rfl (hb hby at_105) rfl ?_
  refine g_bipush X327 hx (pc' := 108) (z := (6 : Int32)) rfl (hb hby at_106) rfl ?_
  refine g_dload X327 hx (pc' := 110) rfl (hb hby at_108) rfl ?_
  refine g_dastore X327 hx hZ V327 (i := 6) (by decide) (show (6 : Nat) < 12 by decide) G_a316 (pc' := 111) rfl (hb hby at_110) (fun T329 h329 X329 W329 N329 => ?_)
  have f330 := (by have q := (Keep.of_wr W329).1; exact Nat.le_trans f328 q : n0 ≤ h329.size)
  have V329 : AD Z h329 a316 [ee, ee, ee, ee, ee, ee, ee, (0 : UInt64), (0 : UInt64), (0 : UInt64), (0 : UInt64), (0 : UInt64)] := N329
  refine g_dup X329 hx (pc' := 112) rfl (hb hby at_111) rfl ?_
  refine g_bipush X329 hx (pc' := 114) (z := (7 : Int32)) rfl (hb hby at_112) rfl ?_
  refine g_dload X329 hx (pc' := 116) rfl (hb hby at_114) rfl ?_
  refine g_dastore X329 hx hZ V329 (i := 7) (by decide) (show (7 : Nat) < 12 by decide) G_a316 (pc' := 117) rfl (hb hby at_116) (fun T331 h331 X331 W331 N331 => ?_)
  have f332 := (by have q := (Keep.of_wr W331).1; exact Nat.le_trans f330 q : n0 ≤ h331.size)
  have V331 : AD Z h331 a316 [ee, ee, ee, ee, ee, ee, ee, ee, (0 : UInt64), (0 : UInt64), (0 : UInt64), (0 : UInt64)] := N331
  refine g_dup X331 hx (pc' := 118) rfl (hb hby at_117) rfl ?_
  refine g_bipush X331 hx (pc' := 120) (z := (8 : Int32)) rfl (hb hby at_118) rfl ?_
  refine g_dload X331 hx (pc' := 122) rfl (hb hby at_120) rfl ?_
  refine g_dastore X331 hx hZ V331 (i := 8) (by decide) (show (8 : Nat) < 12 by decide) G_a316 (pc' := 123) rfl (hb hby at_122) (fun T333 h333 X333 W333 N333 => ?_)
  have f334 := (by have q := (Keep.of_wr W333).1; exact Nat.le_trans f332 q : n0 ≤ h333.size)
  have V333 : AD Z h333 a316 [ee, ee, ee, ee, ee, ee, ee, ee, ee, (0 : UInt64), (0 : UInt64), (0 : UInt64)] := N333
  refine g_dup X333 hx (pc' := 124) rfl (hb hby at_123) rfl ?_
  refine g_bipush X333 hx (pc' := 126) (z := (9 : Int32)) rfl (hb hby at_124) rfl ?_
  refine g_dload X333 hx (pc' := 128) rfl (hb hby at_126) rfl ?_
  refine g_dastore X333 hx hZ V333 (i := 9) (by decide) (show (9 : Nat) < 12 by decide) G_a316 (pc' := 129) rfl (hb hby at_128) (fun T335 h335 X335 W335 N335 => ?_)
  have f336 := (by have q := (Keep.of_wr W335).1; exact Nat.le_trans f334 q : n0 ≤ h335.size)
  have V335 : AD Z h335 a316 [ee, ee, ee, ee, ee, ee, ee, ee, ee, ee, (0 : UInt64), (0 : UInt64)] := N335
  refine g_dup X335 hx (pc' := 130) rfl (hb hby at_129) rfl ?_
  refine g_bipush X335 hx (pc' := 132) (z := (10 : Int32)) rfl (hb hby at_130) rfl ?_
  refine g_dload X335 hx (pc' := 134) rfl (hb hby at_132) rfl ?_
  refine g_dastore X335 hx hZ V335 (i := 10) (by decide) (show (10 : Nat) < 12 by decide) G_a316 (pc' := 135) rfl (hb hby at_134) (fun T337 h337 X337 W337 N337 => ?_)
  have f338 := (by have q := (Keep.of_wr W337).1; exact Nat.le_trans f336 q : n0 ≤ h337.size)
  have V337 : AD Z h337 a316 [ee, ee, ee, ee, ee, ee, ee, ee, ee, ee, ee, (0 : UInt64)] := N337
  refine g_dup X337 hx (pc' := 136) rfl (hb hby at_135) rfl ?_
  refine g_bipush X337 hx (pc' := 138) (z := (11 : Int32)) rfl (hb hby at_136) rfl ?_
  refine g_dload X337 hx (pc' := 140) rfl (hb hby at_138) rfl ?_
  refine g_dastore X337 hx hZ V337 (i := 11) (by decide) (show (11 : Nat) < 12 by decide) G_a316 (pc' := 141) rfl (hb hby at_140) (fun T339 h339 X339 W339 N339 => ?_)
  have f340 := (by have q := (Keep.of_wr W339).1; exact Nat.le_trans f338 q : n0 ≤ h339.size)
  have V339 : AD Z h339 a316 [ee, ee, ee, ee, ee, ee, ee, ee, ee, ee, ee, ee] := N339
  refine g_astore X339 hx (pc' := 143) rfl (hb hby at_141) rfl (l' := #[.val (.int x0), .val (.int x1), .val (.int x2), .val (.int x3), .val (.int order), .val (.int width), .val (.int stride), .val (.double dd), .second, .val (.double ee), .second, .val (.double u0), .second, .val (.double u1), .second, .val (.double u2), .second, .val (.ref a316), .unset, .unset, .unset]) rfl ?_
  rcases hstride with qstride | qstride
  · subst qstride
    refine g_aload X339 hx (pc' := 145) rfl (hb hby at_143) rfl rfl ?_
    refine g_iload X339 hx (pc' := 147) rfl (hb hby at_145) rfl ?_
    refine g_dload X339 hx (pc' := 149) rfl (hb hby at_147) rfl ?_
    refine g_dastore X339 hx hZ V339 (i := 3) (by decide) (show (3 : Nat) < 12 by decide) G_a316 (pc' := 150) rfl (hb hby at_149) (fun T341 h341 X341 W341 N341 => ?_)
    have f342 := (by have q := (Keep.of_wr W341).1; exact Nat.le_trans f340 q : n0 ≤ h341.size)
    have V341 : AD Z h341 a316 [ee, ee, ee, u0, ee, ee, ee, ee, ee, ee, ee, ee] := N341
    refine g_aload X341 hx (pc' := 152) rfl (hb hby at_150) rfl rfl ?_
    refine g_iconst X341 hx (pc' := 153) (z := (2 : Int32)) rfl (hb hby at_152) rfl ?_
    refine g_iload X341 hx (pc' := 155) rfl (hb hby at_153) rfl ?_
    refine g_imul X341 hx (pc' := 156) rfl (hb hby at_155) ?_
    refine g_normI (z := (6 : Int32)) (by decide) ?_
    refine g_dload X341 hx (pc' := 158) rfl (hb hby at_156) rfl ?_
    refine g_dastore X341 hx hZ V341 (i := 6) (by decide) (show (6 : Nat) < 12 by decide) G_a316 (pc' := 159) rfl (hb hby at_158) (fun T343 h343 X343 W343 N343 => ?_)
    have f344 := (by have q := (Keep.of_wr W343).1; exact Nat.le_trans f342 q : n0 ≤ h343.size)
    have V343 : AD Z h343 a316 [ee, ee, ee, u0, ee, ee, u1, ee, ee, ee, ee, ee] := N343
    refine g_aload X343 hx (pc' := 161) rfl (hb hby at_159) rfl rfl ?_
    refine g_iconst X343 hx (pc' := 162) (z := (2 : Int32)) rfl (hb hby at_161) rfl ?_
    refine g_iload X343 hx (pc' := 164) rfl (hb hby at_162) rfl ?_
    refine g_imul X343 hx (pc' := 165) rfl (hb hby at_164) ?_
    refine g_normI (z := (6 : Int32)) (by decide) ?_
    refine g_iconst X343 hx (pc' := 166) (z := (1 : Int32)) rfl (hb hby at_165) rfl ?_
    refine g_iadd X343 hx (pc' := 167) rfl (hb hby at_166) ?_
    refine g_normI (z := (7 : Int32)) (by decide) ?_
    refine g_dload X343 hx (pc' := 169) rfl (hb hby at_167) rfl ?_
    refine g_dastore X343 hx hZ V343 (i := 7) (by decide) (show (7 : Nat) < 12 by decide) G_a316 (pc' := 170) rfl (hb hby at_169) (fun T345 h345 X345 W345 N345 => ?_)
    have f346 := (by have q := (Keep.of_wr W345).1; exact Nat.le_trans f344 q : n0 ≤ h345.size)
    have V345 : AD Z h345 a316 [ee, ee, ee, u0, ee, ee, u1, u2, ee, ee, ee, ee] := N345
    refine g_aload X345 hx (pc' := 172) rfl (hb hby at_170) rfl rfl ?_
    refine g_iconst X345 hx (pc' := 173) (z := (0 : Int32)) rfl (hb hby at_172) rfl ?_
    refine g_dload X345 hx (pc' := 175) rfl (hb hby at_173) rfl ?_
    refine g_dastore X345 hx hZ V345 (i := 0) (by decide) (show (0 : Nat) < 12 by decide) G_a316 (pc' := 176) rfl (hb hby at_175) (fun T347 h347 X347 W347 N347 => ?_)
    have f348 := (by have q := (Keep.of_wr W347).1; exact Nat.le_trans f346 q : n0 ≤ h347.size)
    have V347 : AD Z h347 a316 [dd, ee, ee, u0, ee, ee, u1, u2, ee, ee, ee, ee] := N347
    refine g_aload X347 hx (pc' := 178) rfl (hb hby at_176) rfl rfl ?_
    refine g_iload X347 hx (pc' := 180) rfl (hb hby at_178) rfl ?_
    refine g_iconst X347 hx (pc' := 181) (z := (1 : Int32)) rfl (hb hby at_180) rfl ?_
    refine g_iadd X347 hx (pc' := 182) rfl (hb hby at_181) ?_
    refine g_normI (z := (4 : Int32)) (by decide) ?_
    refine g_dload X347 hx (pc' := 184) rfl (hb hby at_182) rfl ?_
    refine g_dastore X347 hx hZ V347 (i := 4) (by decide) (show (4 : Nat) < 12 by decide) G_a316 (pc' := 185) rfl (hb hby at_184) (fun T349 h349 X349 W349 N349 => ?_)
    have f350 := (by have q := (Keep.of_wr W349).1; exact Nat.le_trans f348 q : n0 ≤ h349.size)
    have V349 : AD Z h349 a316 [dd, ee, ee, u0, dd, ee, u1, u2, ee, ee, ee, ee] := N349
    refine g_aload X349 hx (pc' := 187) rfl (hb hby at_185) rfl rfl ?_
    refine g_iconst X349 hx (pc' := 188) (z := (2 : Int32)) rfl (hb hby at_187) rfl ?_
    refine g_iload X349 hx (pc' := 190) rfl (hb hby at_188) rfl ?_
    refine g_imul X349 hx (pc' := 191) rfl (hb hby at_190) ?_
    refine g_normI (z := (6 : Int32)) (by decide) ?_
    refine g_iconst X349 hx (pc' := 192) (z := (2 : Int32)) rfl (hb hby at_191) rfl ?_
    refine g_iadd X349 hx (pc' := 193) rfl (hb hby at_192) ?_
    refine g_normI (z := (8 : Int32)) (by decide) ?_
    refine g_dload X349 hx (pc' := 195) rfl (hb hby at_193) rfl ?_
    refine g_dastore X349 hx hZ V349 (i := 8) (by decide) (show (8 : Nat) < 12 by decide) G_a316 (pc' := 196) rfl (hb hby at_195) (fun T351 h351 X351 W351 N351 => ?_)
    have f352 := (by have q := (Keep.of_wr W351).1; exact Nat.le_trans f350 q : n0 ≤ h351.size)
    have V351 : AD Z h351 a316 [dd, ee, ee, u0, dd, ee, u1, u2, dd, ee, ee, ee] := N351
    refine g_bipush X351 hx (pc' := 198) (z := (8 : Int32)) rfl (hb hby at_196) rfl ?_
    refine g_newD X351 hx hZ (hw _ (List.mem_of_getElem? (i := 4) rfl)) (N := 8) (by decide) (cap := 8) (Nat.le_refl _) (by decide) (pc' := 200) rfl (hb hby at_198) (by decide) (by decide) (fun T353 h353 a353 ha353 X353 E353 N353 => ?_)
    have ne353_a316 : a316 ≠ a353 := by rw [ha353]; exact Nat.ne_of_lt V351.lt
    have f354 := V351.ext E353
    have G_a353 : n0 ≤ a353 := by rw [ha353]; exact f352
    have Zs353 : n0 ≤ h353.size := Nat.le_trans f352 E353.1
    have V353 : AD Z h353 a353 [(0 : UInt64), (0 : UInt64), (0 : UInt64), (0 : UInt64), (0 : UInt64), (0 : UInt64), (0 : UInt64), (0 : UInt64)] := N353
    refine g_dup X353 hx (pc' := 201) rfl (hb hby at_200) rfl ?_
    refine g_iconst X353 hx (pc' := 202) (z := (0 : Int32)) rfl (hb hby at_201) rfl ?_
    refine g_iloadN X353 hx (pc' := 203) rfl (hb hby at_202) rfl ?_
    refine g_iconst X353 hx (pc' := 204) (z := (0 : Int32)) rfl (hb hby at_203) rfl ?_
    refine g_callS X353 hx hZ hown (hw _ (List.mem_of_getElem? (i := 0) rfl)) (hw _ (List.mem_of_getElem? (i := 1) rfl)) (hw _ (List.mem_of_getElem? (i := 2) rfl)) (hw _ (List.mem_of_getElem? (i := 3) rfl)) (by decide) (rm1 l Z a0 hw [] n0 x1 (0 : Int32) h353 Zs353) pd_0 rfl rfl (by rw [hml]; rfl) (pc' := 207) rfl (hb hby at_204) (argsL := [(.int x1), (.int (0 : Int32))]) (rest := [(.int (0 : Int32)), (.ref a353), (.ref a353)]) rfl (W := 3) (Nat.le_of_eq rfl) (by decide) (by decide) (by decide) (by decide) (fun v355 T355 h355 X355 hQ355 => ?_)
    obtain ⟨rfl, he355⟩ := hQ355
    rw [he355] at X355
    show Go p e below s n0 _ _ _ (T355.setTop (mkF m 207 #[.val (.int x0), .val (.int x1), .val (.int x2), .val (.int x3), .val (.int order), .val (.int width), .val (.int (3 : Int32)), .val (.double dd), .second, .val (.double ee), .second, .val (.double u0), .second, .val (.double u1), .second, .val (.double u2), .second, .val (.ref a316), .unset, .unset, .unset] [(.double (FP.i2d (((x1 >>> (((4 : Int32) * (0 : Int32)) &&& 31)) &&& (15 : Int32)) - (8 : Int32)))), (.int (0 : Int32)), (.ref a353), (.ref a353)]))
    refine g_absD (fun r0 hr0 => ?_)
    obtain ⟨mr0, emr0⟩ : ∃ z : Int, z = (((x1 >>> (((4 : Int32) * (0 : Int32)) &&& 31)) &&& (15 : Int32)) - (8 : Int32)).toInt := ⟨_, rfl⟩
    have yr0 : Dy mr0 1074 r0 := by rw [hr0, emr0]; exact own_i2d _
    have br0 : mr0.natAbs ≤ 8 := by rw [emr0]; exact own_nib _ _
    refine g_dastore X355 hx hZ V353 (i := 0) (by decide) (show (0 : Nat) < 8 by decide) G_a353 (pc' := 208) rfl (hb hby at_207) (fun T356 h356 X356 W356 N356 => ?_)
    have f357 := (by have q := (Keep.of_wr W356).1; exact Nat.le_trans Zs353 q : n0 ≤ h356.size)
    have f358 := f354.other W356 ne353_a316
    have V356 : AD Z h356 a353 [r0, (0 : UInt64), (0 : UInt64), (0 : UInt64), (0 : UInt64), (0 : UInt64), (0 : UInt64), (0 : UInt64)] := N356
    refine g_dup X356 hx (pc' := 209) rfl (hb hby at_208) rfl ?_
    refine g_iconst X356 hx (pc' := 210) (z := (1 : Int32)) rfl (hb hby at_209) rfl ?_
    refine g_iloadN X356 hx (pc' := 211) rfl (hb hby at_210) rfl ?_
    refine g_iconst X356 hx (pc' := 212) (z := (1 : Int32)) rfl (hb hby at_211) rfl ?_
    refine g_callS X356 hx hZ hown (hw _ (List.mem_of_getElem? (i := 0) rfl)) (hw _ (List.mem_of_getElem? (i := 1) rfl)) (hw _ (List.mem_of_getElem? (i := 2) rfl)) (hw _ (List.mem_of_getElem? (i := 3) rfl)) (by decide) (rm1 l Z a0 hw [] n0 x1 (1 : Int32) h356 f357) pd_0 rfl rfl (by rw [hml]; rfl) (pc' := 215) rfl (hb hby at_212) (argsL := [(.int x1), (.int (1 : Int32))]) (rest := [(.int (1 : Int32)), (.ref a353), (.ref a353)]) rfl (W := 3) (Nat.le_of_eq rfl) (by decide) (by decide) (by decide) (by decide) (fun v359 T359 h359 X359 hQ359 => ?_)
    obtain ⟨rfl, he359⟩ := hQ359
    rw [he359] at X359
    show Go p e below s n0 _ _ _ (T359.setTop (mkF m 215 #[.val (.int x0), .val (.int x1), .val (.int x2), .val (.int x3), .val (.int order), .val (.int width), .val (.int (3 : Int32)), .val (.double dd), .second, .val (.double ee), .second, .val (.double u0), .second, .val (.double u1), .second, .val (.double u2), .second, .val (.ref a316), .unset, .unset, .unset] [(.double (FP.i2d (((x1 >>> (((4 : Int32) * (1 : Int32)) &&& 31)) &&& (15 : Int32)) - (8 : Int32)))), (.int (1 : Int32)), (.ref a353), (.ref a353)]))
    refine g_absD (fun r1 hr1 => ?_)
    obtain ⟨mr1, emr1⟩ : ∃ z : Int, z = (((x1 >>> (((4 : Int32) * (1 : Int32)) &&& 31)) &&& (15 : Int32)) - (8 : Int32)).toInt := ⟨_, rfl⟩
    have yr1 : Dy mr1 1074 r1 := by rw [hr1, emr1]; exact own_i2d _
    have br1 : mr1.natAbs ≤ 8 := by rw [emr1]; exact own_nib _ _
    refine g_dastore X359 hx hZ V356 (i := 1) (by decide) (show (1 : Nat) < 8 by decide) G_a353 (pc' := 216) rfl (hb hby at_215) (fun T360 h360 X360 W360 N360 => ?_)
    have f361 := (by have q := (Keep.of_wr W360).1; exact Nat.le_trans f357 q : n0 ≤ h360.size)
    have f362 := f358.other W360 ne353_a316
    have V360 : AD Z h360 a353 [r0, r1, (0 : UInt64), (0 : UInt64), (0 : UInt64), (0 : UInt64), (0 : UInt64), (0 : UInt64)] := N360
    refine g_dup X360 hx (pc' := 217) rfl (hb hby at_216) rfl ?_
    refine g_iconst X360 hx (pc' := 218) (z := (2 : Int32)) rfl (hb hby at_217) rfl ?_
    refine g_iloadN X360 hx (pc' := 219) rfl (hb hby at_218) rfl ?_
    refine g_iconst X360 hx (pc' := 220) (z := (2 : Int32)) rfl (hb hby at_219) rfl ?_
    refine g_callS X360 hx hZ hown (hw _ (List.mem_of_getElem? (i := 0) rfl)) (hw _ (List.mem_of_getElem? (i := 1) rfl)) (hw _ (List.mem_of_getElem? (i := 2) rfl)) (hw _ (List.mem_of_getElem? (i := 3) rfl)) (by decide) (rm1 l Z a0 hw [] n0 x1 (2 : Int32) h360 f361) pd_0 rfl rfl (by rw [hml]; rfl) (pc' := 223) rfl (hb hby at_220) (argsL := [(.int x1), (.int (2 : Int32))]) (rest := [(.int (2 : Int32)), (.ref a353), (.ref a353)]) rfl (W := 3) (Nat.le_of_eq rfl) (by decide) (by decide) (by decide) (by decide) (fun v363 T363 h363 X363 hQ363 => ?_)
    obtain ⟨rfl, he363⟩ := hQ363
    rw [he363] at X363
    show Go p e below s n0 _ _ _ (T363.setTop (mkF m 223 #[.val (.int x0), .val (.int x1), .val (.int x2), .val (.int x3), .val (.int order), .val (.int width), .val (.int (3 : Int32)), .val (.double dd), .second, .val (.double ee), .second, .val (.double u0), .second, .val (.double u1), .second, .val (.double u2), .second, .val (.ref a316), .unset, .unset, .unset] [(.double (FP.i2d (((x1 >>> (((4 : Int32) * (2 : Int32)) &&& 31)) &&& (15 : Int32)) - (8 : Int32)))), (.int (2 : Int32)), (.ref a353), (.ref a353)]))
    refine g_absD (fun r2 hr2 => ?_)
    obtain ⟨mr2, emr2⟩ : ∃ z : Int, z = (((x1 >>> (((4 : Int32) * (2 : Int32)) &&& 31)) &&& (15 : Int32)) - (8 : Int32)).toInt := ⟨_, rfl⟩
    have yr2 : Dy mr2 1074 r2 := by rw [hr2, emr2]; exact own_i2d _
    have br2 : mr2.natAbs ≤ 8 := by rw [emr2]; exact own_nib _ _
    refine g_dastore X363 hx hZ V360 (i := 2) (by decide) (show (2 : Nat) < 8 by decide) G_a353 (pc' := 224) rfl (hb hby at_223) (fun T364 h364 X364 W364 N364 => ?_)
    have f365 := (by have q := (Keep.of_wr W364).1; exact Nat.le_trans f361 q : n0 ≤ h364.size)
    have f366 := f362.other W364 ne353_a316
    have V364 : AD Z h364 a353 [r0, r1, r2, (0 : UInt64), (0 : UInt64), (0 : UInt64), (0 : UInt64), (0 : UInt64)] := N364
    refine g_dup X364 hx (pc' := 225) rfl (hb hby at_224) rfl ?_
    refine g_iconst X364 hx (pc' := 226) (z := (3 : Int32)) rfl (hb hby at_225) rfl ?_
    refine g_iloadN X364 hx (pc' := 227) rfl (hb hby at_226) rfl ?_
    refine g_iconst X364 hx (pc' := 228) (z := (3 : Int32)) rfl (hb hby at_227) rfl ?_
    refine g_callS X364 hx hZ hown (hw _ (List.mem_of_getElem? (i := 0) rfl)) (hw _ (List.mem_of_getElem? (i := 1) rfl)) (hw _ (List.mem_of_getElem? (i := 2) rfl)) (hw _ (List.mem_of_getElem? (i := 3) rfl)) (by decide) (rm1 l Z a0 hw [] n0 x1 (3 : Int32) h364 f365) pd_0 rfl rfl (by rw [hml]; rfl) (pc' := 231) rfl (hb hby at_228) (argsL := [(.int x1), (.int (3 : Int32))]) (rest := [(.int (3 : Int32)), (.ref a353), (.ref a353)]) rfl (W := 3) (Nat.le_of_eq rfl) (by decide) (by decide) (by decide) (by decide) (fun v367 T367 h367 X367 hQ367 => ?_)
    obtain ⟨rfl, he367⟩ := hQ367
    rw [he367] at X367
    show Go p e below s n0 _ _ _ (T367.setTop (mkF m 231 #[.val (.int x0), .val (.int x1), .val (.int x2), .val (.int x3), .val (.int order), .val (.int width), .val (.int (3 : Int32)), .val (.double dd), .second, .val (.double ee), .second, .val (.double u0), .second, .val (.double u1), .second, .val (.double u2), .second, .val (.ref a316), .unset, .unset, .unset] [(.double (FP.i2d (((x1 >>> (((4 : Int32) * (3 : Int32)) &&& 31)) &&& (15 : Int32)) - (8 : Int32)))), (.int (3 : Int32)), (.ref a353), (.ref a353)]))
    refine g_absD (fun r3 hr3 => ?_)
    obtain ⟨mr3, emr3⟩ : ∃ z : Int, z = (((x1 >>> (((4 : Int32) * (3 : Int32)) &&& 31)) &&& (15 : Int32)) - (8 : Int32)).toInt := ⟨_, rfl⟩
    have yr3 : Dy mr3 1074 r3 := by rw [hr3, emr3]; exact own_i2d _
    have br3 : mr3.natAbs ≤ 8 := by rw [emr3]; exact own_nib _ _
    refine g_dastore X367 hx hZ V364 (i := 3) (by decide) (show (3 : Nat) < 8 by decide) G_a353 (pc' := 232) rfl (hb hby at_231) (fun T368 h368 X368 W368 N368 => ?_)
    have f369 := (by have q := (Keep.of_wr W368).1; exact Nat.le_trans f365 q : n0 ≤ h368.size)
    have f370 := f366.other W368 ne353_a316
    have V368 : AD Z h368 a353 [r0, r1, r2, r3, (0 : UInt64), (0 : UInt64), (0 : UInt64), (0 : UInt64)] := N368
    refine g_dup X368 hx (pc' := 233) rfl (hb hby at_232) rfl ?_
    refine g_iconst X368 hx (pc' := 234) (z := (4 : Int32)) rfl (hb hby at_233) rfl ?_
    refine g_iloadN X368 hx (pc' := 235) rfl (hb hby at_234) rfl ?_
    refine g_iconst X368 hx (pc' := 236) (z := (4 : Int32)) rfl (hb hby at_235) rfl ?_
    refine g_callS X368 hx hZ hown (hw _ (List.mem_of_getElem? (i := 0) rfl)) (hw _ (List.mem_of_getElem? (i := 1) rfl)) (hw _ (List.mem_of_getElem? (i := 2) rfl)) (hw _ (List.mem_of_getElem? (i := 3) rfl)) (by decide) (rm1 l Z a0 hw [] n0 x1 (4 : Int32) h368 f369) pd_0 rfl rfl (by rw [hml]; rfl) (pc' := 239) rfl (hb hby at_236) (argsL := [(.int x1), (.int (4 : Int32))]) (rest := [(.int (4 : Int32)), (.ref a353), (.ref a353)]) rfl (W := 3) (Nat.le_of_eq rfl) (by decide) (by decide) (by decide) (by decide) (fun v371 T371 h371 X371 hQ371 => ?_)
    obtain ⟨rfl, he371⟩ := hQ371
    rw [he371] at X371
    show Go p e below s n0 _ _ _ (T371.setTop (mkF m 239 #[.val (.int x0), .val (.int x1), .val (.int x2), .val (.int x3), .val (.int order), .val (.int width), .val (.int (3 : Int32)), .val (.double dd), .second, .val (.double ee), .second, .val (.double u0), .second, .val (.double u1), .second, .val (.double u2), .second, .val (.ref a316), .unset, .unset, .unset] [(.double (FP.i2d (((x1 >>> (((4 : Int32) * (4 : Int32)) &&& 31)) &&& (15 : Int32)) - (8 : Int32)))), (.int (4 : Int32)), (.ref a353), (.ref a353)]))
    refine g_absD (fun r4 hr4 => ?_)
    obtain ⟨mr4, emr4⟩ : ∃ z : Int, z = (((x1 >>> (((4 : Int32) * (4 : Int32)) &&& 31)) &&& (15 : Int32)) - (8 : Int32)).toInt := ⟨_, rfl⟩
    have yr4 : Dy mr4 1074 r4 := by rw [hr4, emr4]; exact own_i2d _
    have br4 : mr4.natAbs ≤ 8 := by rw [emr4]; exact own_nib _ _
    refine g_dastore X371 hx hZ V368 (i := 4) (by decide) (show (4 : Nat) < 8 by decide) G_a353 (pc' := 240) rfl (hb hby at_239) (fun T372 h372 X372 W372 N372 => ?_)
    have f373 := (by have q := (Keep.of_wr W372).1; exact Nat.le_trans f369 q : n0 ≤ h372.size)
    have f374 := f370.other W372 ne353_a316
    have V372 : AD Z h372 a353 [r0, r1, r2, r3, r4, (0 : UInt64), (0 : UInt64), (0 : UInt64)] := N372
    refine g_dup X372 hx (pc' := 241) rfl (hb hby at_240) rfl ?_
    refine g_iconst X372 hx (pc' := 242) (z := (5 : Int32)) rfl (hb hby at_241) rfl ?_
    refine g_iloadN X372 hx (pc' := 243) rfl (hb hby at_242) rfl ?_
    refine g_iconst X372 hx (pc' := 244) (z := (5 : Int32)) rfl (hb hby at_243) rfl ?_
    refine g_callS X372 hx hZ hown (hw _ (List.mem_of_getElem? (i := 0) rfl)) (hw _ (List.mem_of_getElem? (i := 1) rfl)) (hw _ (List.mem_of_getElem? (i := 2) rfl)) (hw _ (List.mem_of_getElem? (i := 3) rfl)) (by decide) (rm1 l Z a0 hw [] n0 x1 (5 : Int32) h372 f373) pd_0 rfl rfl (by rw [hml]; rfl) (pc' := 247) rfl (hb hby at_244) (argsL := [(.int x1), (.int (5 : Int32))]) (rest := [(.int (5 : Int32)), (.ref a353), (.ref a353)]) rfl (W := 3) (Nat.le_of_eq rfl) (by decide) (by decide) (by decide) (by decide) (fun v375 T375 h375 X375 hQ375 => ?_)
    obtain ⟨rfl, he375⟩ := hQ375
    rw [he375] at X375
    show Go p e below s n0 _ _ _ (T375.setTop (mkF m 247 #[.val (.int x0), .val (.int x1), .val (.int x2), .val (.int x3), .val (.int order), .val (.int width), .val (.int (3 : Int32)), .val (.double dd), .second, .val (.double ee), .second, .val (.double u0), .second, .val (.double u1), .second, .val (.double u2), .second, .val (.ref a316), .unset, .unset, .unset] [(.double (FP.i2d (((x1 >>> (((4 : Int32) * (5 : Int32)) &&& 31)) &&& (15 : Int32)) - (8 : Int32)))), (.int (5 : Int32)), (.ref a353), (.ref a353)]))
    refine g_absD (fun r5 hr5 => ?_)
    obtain ⟨mr5, emr5⟩ : ∃ z : Int, z = (((x1 >>> (((4 : Int32) * (5 : Int32)) &&& 31)) &&& (15 : Int32)) - (8 : Int32)).toInt := ⟨_, rfl⟩
    have yr5 : Dy mr5 1074 r5 := by rw [hr5, emr5]; exact own_i2d _
    have br5 : mr5.natAbs ≤ 8 := by rw [emr5]; exact own_nib _ _
    refine g_dastore X375 hx hZ V372 (i := 5) (by decide) (show (5 : Nat) < 8 by decide) G_a353 (pc' := 248) rfl (hb hby at_247) (fun T376 h376 X376 W376 N376 => ?_)
    have f377 := (by have q := (Keep.of_wr W376).1; exact Nat.le_trans f373 q : n0 ≤ h376.size)
    have f378 := f374.other W376 ne353_a316
    have V376 : AD Z h376 a353 [r0, r1, r2, r3, r4, r5, (0 : UInt64), (0 : UInt64)] := N376
    refine g_dup X376 hx (pc' := 249) rfl (hb hby at_248) rfl ?_
    refine g_bipush X376 hx (pc' := 251) (z := (6 : Int32)) rfl (hb hby at_249) rfl ?_
    refine g_iloadN X376 hx (pc' := 252) rfl (hb hby at_251) rfl ?_
    refine g_bipush X376 hx (pc' := 254) (z := (6 : Int32)) rfl (hb hby at_252) rfl ?_
    refine g_callS X376 hx hZ hown (hw _ (List.mem_of_getElem? (i := 0) rfl)) (hw _ (List.mem_of_getElem? (i := 1) rfl)) (hw _ (List.mem_of_getElem? (i := 2) rfl)) (hw _ (List.mem_of_getElem? (i := 3) rfl)) (by decide) (rm1 l Z a0 hw [] n0 x1 (6 : Int32) h376 f377) pd_0 rfl rfl (by rw [hml]; rfl) (pc' := 257) rfl (hb hby at_254) (argsL := [(.int x1), (.int (6 : Int32))]) (rest := [(.int (6 : Int32)), (.ref a353), (.ref a353)]) rfl (W := 3) (Nat.le_of_eq rfl) (by decide) (by decide) (by decide) (by decide) (fun v379 T379 h379 X379 hQ379 => ?_)
    obtain ⟨rfl, he379⟩ := hQ379
    rw [he379] at X379
    show Go p e below s n0 _ _ _ (T379.setTop (mkF m 257 #[.val (.int x0), .val (.int x1), .val (.int x2), .val (.int x3), .val (.int order), .val (.int width), .val (.int (3 : Int32)), .val (.double dd), .second, .val (.double ee), .second, .val (.double u0), .second, .val (.double u1), .second, .val (.double u2), .second, .val (.ref a316), .unset, .unset, .unset] [(.double (FP.i2d (((x1 >>> (((4 : Int32) * (6 : Int32)) &&& 31)) &&& (15 : Int32)) - (8 : Int32)))), (.int (6 : Int32)), (.ref a353), (.ref a353)]))
    refine g_absD (fun r6 hr6 => ?_)
    obtain ⟨mr6, emr6⟩ : ∃ z : Int, z = (((x1 >>> (((4 : Int32) * (6 : Int32)) &&& 31)) &&& (15 : Int32)) - (8 : Int32)).toInt := ⟨_, rfl⟩
    have yr6 : Dy mr6 1074 r6 := by rw [hr6, emr6]; exact own_i2d _
    have br6 : mr6.natAbs ≤ 8 := by rw [emr6]; exact own_nib _ _
    refine g_dastore X379 hx hZ V376 (i := 6) (by decide) (show (6 : Nat) < 8 by decide) G_a353 (pc' := 258) rfl (hb hby at_257) (fun T380 h380 X380 W380 N380 => ?_)
    have f381 := (by have q := (Keep.of_wr W380).1; exact Nat.le_trans f377 q : n0 ≤ h380.size)
    have f382 := f378.other W380 ne353_a316
    have V380 : AD Z h380 a353 [r0, r1, r2, r3, r4, r5, r6, (0 : UInt64)] := N380
    refine g_dup X380 hx (pc' := 259) rfl (hb hby at_258) rfl ?_
    refine g_bipush X380 hx (pc' := 261) (z := (7 : Int32)) rfl (hb hby at_259) rfl ?_
    refine g_iloadN X380 hx (pc' := 262) rfl (hb hby at_261) rfl ?_
    refine g_bipush X380 hx (pc' := 264) (z := (7 : Int32)) rfl (hb hby at_262) rfl ?_
    refine g_callS X380 hx hZ hown (hw _ (List.mem_of_getElem? (i := 0) rfl)) (hw _ (List.mem_of_getElem? (i := 1) rfl)) (hw _ (List.mem_of_getElem? (i := 2) rfl)) (hw _ (List.mem_of_getElem? (i := 3) rfl)) (by decide) (rm1 l Z a0 hw [] n0 x1 (7 : Int32) h380 f381) pd_0 rfl rfl (by rw [hml]; rfl) (pc' := 267) rfl (hb hby at_264) (argsL := [(.int x1), (.int (7 : Int32))]) (rest := [(.int (7 : Int32)), (.ref a353), (.ref a353)]) rfl (W := 3) (Nat.le_of_eq rfl) (by decide) (by decide) (by decide) (by decide) (fun v383 T383 h383 X383 hQ383 => ?_)
    obtain ⟨rfl, he383⟩ := hQ383
    rw [he383] at X383
    show Go p e below s n0 _ _ _ (T383.setTop (mkF m 267 #[.val (.int x0), .val (.int x1), .val (.int x2), .val (.int x3), .val (.int order), .val (.int width), .val (.int (3 : Int32)), .val (.double dd), .second, .val (.double ee), .second, .val (.double u0), .second, .val (.double u1), .second, .val (.double u2), .second, .val (.ref a316), .unset, .unset, .unset] [(.double (FP.i2d (((x1 >>> (((4 : Int32) * (7 : Int32)) &&& 31)) &&& (15 : Int32)) - (8 : Int32)))), (.int (7 : Int32)), (.ref a353), (.ref a353)]))
    refine g_absD (fun r7 hr7 => ?_)
    obtain ⟨mr7, emr7⟩ : ∃ z : Int, z = (((x1 >>> (((4 : Int32) * (7 : Int32)) &&& 31)) &&& (15 : Int32)) - (8 : Int32)).toInt := ⟨_, rfl⟩
    have yr7 : Dy mr7 1074 r7 := by rw [hr7, emr7]; exact own_i2d _
    have br7 : mr7.natAbs ≤ 8 := by rw [emr7]; exact own_nib _ _
    refine g_dastore X383 hx hZ V380 (i := 7) (by decide) (show (7 : Nat) < 8 by decide) G_a353 (pc' := 268) rfl (hb hby at_267) (fun T384 h384 X384 W384 N384 => ?_)
    have f385 := (by have q := (Keep.of_wr W384).1; exact Nat.le_trans f381 q : n0 ≤ h384.size)
    have f386 := f382.other W384 ne353_a316
    have V384 : AD Z h384 a353 [r0, r1, r2, r3, r4, r5, r6, r7] := N384
    refine g_astore X384 hx (pc' := 270) rfl (hb hby at_268) rfl (l' := #[.val (.int x0), .val (.int x1), .val (.int x2), .val (.int x3), .val (.int order), .val (.int width), .val (.int (3 : Int32)), .val (.double dd), .second, .val (.double ee), .second, .val (.double u0), .second, .val (.double u1), .second, .val (.double u2), .second, .val (.ref a316), .val (.ref a353), .unset, .unset]) rfl ?_
    refine g_bipush X384 hx (pc' := 272) (z := (8 : Int32)) rfl (hb hby at_270) rfl ?_
    refine g_newD X384 hx hZ (hw _ (List.mem_of_getElem? (i := 4) rfl)) (N := 8) (by decide) (cap := 8) (Nat.le_refl _) (by decide) (pc' := 274) rfl (hb hby at_272) (by decide) (by decide) (fun T387 h387 a387 ha387 X387 E387 N387 => ?_)
    have ne387_a316 : a316 ≠ a387 := by rw [ha387]; exact Nat.ne_of_lt f386.lt
    have ne387_a353 : a353 ≠ a387 := by rw [ha387]; exact Nat.ne_of_lt V384.lt
    have f388 := f386.ext E387
    have f389 := V384.ext E387
    have G_a387 : n0 ≤ a387 := by rw [ha387]; exact f385
    have Zs387 : n0 ≤ h387.size := Nat.le_trans f385 E387.1
    have V387 : AD Z h387 a387 [(0 : UInt64), (0 : UInt64), (0 : UInt64), (0 : UInt64), (0 : UInt64), (0 : UInt64), (0 : UInt64), (0 : UInt64)] := N387
    refine g_dup X387 hx (pc' := 275) rfl (hb hby at_274) rfl ?_
    refine g_iconst X387 hx (pc' := 276) (z := (0 : Int32)) rfl (hb hby at_275) rfl ?_
    refine g_iloadN X387 hx (pc' := 277) rfl (hb hby at_276) rfl ?_
    refine g_iconst X387 hx (pc' := 278) (z := (0 : Int32)) rfl (hb hby at_277) rfl ?_
    refine g_callS X387 hx hZ hown (hw _ (List.mem_of_getElem? (i := 0) rfl)) (hw _ (List.mem_of_getElem? (i := 1) rfl)) (hw _ (List.mem_of_getElem? (i := 2) rfl)) (hw _ (List.mem_of_getElem? (i := 3) rfl)) (by decide) (rm1 l Z a0 hw [] n0 x1 (0 : Int32) h387 Zs387) pd_0 rfl rfl (by rw [hml]; rfl) (pc' := 281) rfl (hb hby at_278) (argsL := [(.int x1), (.int (0 : Int32))]) (rest := [(.int (0 : Int32)), (.ref a387), (.ref a387)]) rfl (W := 3) (Nat.le_of_eq rfl) (by decide) (by decide) (by decide) (by decide) (fun v390 T390 h390 X390 hQ390 => ?_)
    obtain ⟨rfl, he390⟩ := hQ390
    rw [he390] at X390
    show Go p e below s n0 _ _ _ (T390.setTop (mkF m 281 #[.val (.int x0), .val (.int x1), .val (.int x2), .val (.int x3), .val (.int order), .val (.int width), .val (.int (3 : Int32)), .val (.double dd), .second, .val (.double ee), .second, .val (.double u0), .second, .val (.double u1), .second, .val (.double u2), .second, .val (.ref a316), .val (.ref a353), .unset, .unset] [(.double (FP.i2d (((x1 >>> (((4 : Int32) * (0 : Int32)) &&& 31)) &&& (15 : Int32)) - (8 : Int32)))), (.int (0 : Int32)), (.ref a387), (.ref a387)]))
    refine g_normD (z := r0) hr0.symm ?_
    refine g_dastore X390 hx hZ V387 (i := 0) (by decide) (show (0 : Nat) < 8 by decide) G_a387 (pc' := 282) rfl (hb hby at_281) (fun T391 h391 X391 W391 N391 => ?_)
    have f392 := (by have q := (Keep.of_wr W391).1; exact Nat.le_trans Zs387 q : n0 ≤ h391.size)
    have f393 := f388.other W391 ne387_a316
    have f394 := f389.other W391 ne387_a353
    have V391 : AD Z h391 a387 [r0, (0 : UInt64), (0 : UInt64), (0 : UInt64), (0 : UInt64), (0 : UInt64), (0 : UInt64), (0 : UInt64)] := N391
    refine g_dup X391 hx (pc' := 283) rfl (hb hby at_282) rfl ?_
    refine g_iconst X391 hx (pc' := 284) (z := (1 : Int32)) rfl (hb hby at_283) rfl ?_
    refine g_iloadN X391 hx (pc' := 285) rfl (hb hby at_284) rfl ?_
    refine g_iconst X391 hx (pc' := 286) (z := (1 : Int32)) rfl (hb hby at_285) rfl ?_
    refine g_callS X391 hx hZ hown (hw _ (List.mem_of_getElem? (i := 0) rfl)) (hw _ (List.mem_of_getElem? (i := 1) rfl)) (hw _ (List.mem_of_getElem? (i := 2) rfl)) (hw _ (List.mem_of_getElem? (i := 3) rfl)) (by decide) (rm1 l Z a0 hw [] n0 x1 (1 : Int32) h391 f392) pd_0 rfl rfl (by rw [hml]; rfl) (pc' := 289) rfl (hb hby at_286) (argsL := [(.int x1), (.int (1 : Int32))]) (rest := [(.int (1 : Int32)), (.ref a387), (.ref a387)]) rfl (W := 3) (Nat.le_of_eq rfl) (by decide) (by decide) (by decide) (by decide) (fun v395 T395 h395 X395 hQ395 => ?_)
    obtain ⟨rfl, he395⟩ := hQ395
    rw [he395] at X395
    show Go p e below s n0 _ _ _ (T395.setTop (mkF m 289 #[.val (.int x0), .val (.int x1), .val (.int x2), .val (.int x3), .val (.int order), .val (.int width), .val (.int (3 : Int32)), .val (.double dd), .second, .val (.double ee), .second, .val (.double u0), .second, .val (.double u1), .second, .val (.double u2), .second, .val (.ref a316), .val (.ref a353), .unset, .unset] [(.double (FP.i2d (((x1 >>> (((4 : Int32) * (1 : Int32)) &&& 31)) &&& (15 : Int32)) - (8 : Int32)))), (.int (1 : Int32)), (.ref a387), (.ref a387)]))
    refine g_normD (z := r1) hr1.symm ?_
    refine g_dastore X395 hx hZ V391 (i := 1) (by decide) (show (1 : Nat) < 8 by decide) G_a387 (pc' := 290) rfl (hb hby at_289) (fun T396 h396 X396 W396 N396 => ?_)
    have f397 := (by have q := (Keep.of_wr W396).1; exact Nat.le_trans f392 q : n0 ≤ h396.size)
    have f398 := f393.other W396 ne387_a316
    have f399 := f394.other W396 ne387_a353
    have V396 : AD Z h396 a387 [r0, r1, (0 : UInt64), (0 : UInt64), (0 : UInt64), (0 : UInt64), (0 : UInt64), (0 : UInt64)] := N396
    refine g_dup X396 hx (pc' := 291) rfl (hb hby at_290) rfl ?_
    refine g_iconst X396 hx (pc' := 292) (z := (2 : Int32)) rfl (hb hby at_291) rfl ?_
    refine g_iloadN X396 hx (pc' := 293) rfl (hb hby at_292) rfl ?_
    refine g_iconst X396 hx (pc' := 294) (z := (2 : Int32)) rfl (hb hby at_293) rfl ?_
    refine g_callS X396 hx hZ hown (hw _ (List.mem_of_getElem? (i := 0) rfl)) (hw _ (List.mem_of_getElem? (i := 1) rfl)) (hw _ (List.mem_of_getElem? (i := 2) rfl)) (hw _ (List.mem_of_getElem? (i := 3) rfl)) (by decide) (rm1 l Z a0 hw [] n0 x1 (2 : Int32) h396 f397) pd_0 rfl rfl (by rw [hml]; rfl) (pc' := 297) rfl (hb hby at_294) (argsL := [(.int x1), (.int (2 : Int32))]) (rest := [(.int (2 : Int32)), (.ref a387), (.ref a387)]) rfl (W := 3) (Nat.le_of_eq rfl) (by decide) (by decide) (by decide) (by decide) (fun v400 T400 h400 X400 hQ400 => ?_)
    obtain ⟨rfl, he400⟩ := hQ400
    rw [he400] at X400
    show Go p e below s n0 _ _ _ (T400.setTop (mkF m 297 #[.val (.int x0), .val (.int x1), .val (.int x2), .val (.int x3), .val (.int order), .val (.int width), .val (.int (3 : Int32)), .val (.double dd), .second, .val (.double ee), .second, .val (.double u0), .second, .val (.double u1), .second, .val (.double u2), .second, .val (.ref a316), .val (.ref a353), .unset, .unset] [(.double (FP.i2d (((x1 >>> (((4 : Int32) * (2 : Int32)) &&& 31)) &&& (15 : Int32)) - (8 : Int32)))), (.int (2 : Int32)), (.ref a387), (.ref a387)]))
    refine g_normD (z := r2) hr2.symm ?_
    refine g_dastore X400 hx hZ V396 (i := 2) (by decide) (show (2 : Nat) < 8 by decide) G_a387 (pc' := 298) rfl (hb hby at_297) (fun T401 h401 X401 W401 N401 => ?_)
    have f402 := (by have q := (Keep.of_wr W401).1; exact Nat.le_trans f397 q : n0 ≤ h401.size)
    have f403 := f398.other W401 ne387_a316
    have f404 := f399.other W401 ne387_a353
    have V401 : AD Z h401 a387 [r0, r1, r2, (0 : UInt64), (0 : UInt64), (0 : UInt64), (0 : UInt64), (0 : UInt64)] := N401
    refine g_dup X401 hx (pc' := 299) rfl (hb hby at_298) rfl ?_
    refine g_iconst X401 hx (pc' := 300) (z := (3 : Int32)) rfl (hb hby at_299) rfl ?_
    refine g_iloadN X401 hx (pc' := 301) rfl (hb hby at_300) rfl ?_
    refine g_iconst X401 hx (pc' := 302) (z := (3 : Int32)) rfl (hb hby at_301) rfl ?_
    refine g_callS X401 hx hZ hown (hw _ (List.mem_of_getElem? (i := 0) rfl)) (hw _ (List.mem_of_getElem? (i := 1) rfl)) (hw _ (List.mem_of_getElem? (i := 2) rfl)) (hw _ (List.mem_of_getElem? (i := 3) rfl)) (by decide) (rm1 l Z a0 hw [] n0 x1 (3 : Int32) h401 f402) pd_0 rfl rfl (by rw [hml]; rfl) (pc' := 305) rfl (hb hby at_302) (argsL := [(.int x1), (.int (3 : Int32))]) (rest := [(.int (3 : Int32)), (.ref a387), (.ref a387)]) rfl (W := 3) (Nat.le_of_eq rfl) (by decide) (by decide) (by decide) (by decide) (fun v405 T405 h405 X405 hQ405 => ?_)
    obtain ⟨rfl, he405⟩ := hQ405
    rw [he405] at X405
    show Go p e below s n0 _ _ _ (T405.setTop (mkF m 305 #[.val (.int x0), .val (.int x1), .val (.int x2), .val (.int x3), .val (.int order), .val (.int width), .val (.int (3 : Int32)), .val (.double dd), .second, .val (.double ee), .second, .val (.double u0), .second, .val (.double u1), .second, .val (.double u2), .second, .val (.ref a316), .val (.ref a353), .unset, .unset] [(.double (FP.i2d (((x1 >>> (((4 : Int32) * (3 : Int32)) &&& 31)) &&& (15 : Int32)) - (8 : Int32)))), (.int (3 : Int32)), (.ref a387), (.ref a387)]))
    refine g_normD (z := r3) hr3.symm ?_
    refine g_dastore X405 hx hZ V401 (i := 3) (by decide) (show (3 : Nat) < 8 by decide) G_a387 (pc' := 306) rfl (hb hby at_305) (fun T406 h406 X406 W406 N406 => ?_)
    have f407 := (by have q := (Keep.of_wr W406).1; exact Nat.le_trans f402 q : n0 ≤ h406.size)
    have f408 := f403.other W406 ne387_a316
    have f409 := f404.other W406 ne387_a353
    have V406 : AD Z h406 a387 [r0, r1, r2, r3, (0 : UInt64), (0 : UInt64), (0 : UInt64), (0 : UInt64)] := N406
    refine g_dup X406 hx (pc' := 307) rfl (hb hby at_306) rfl ?_
    refine g_iconst X406 hx (pc' := 308) (z := (4 : Int32)) rfl (hb hby at_307) rfl ?_
    refine g_iloadN X406 hx (pc' := 309) rfl (hb hby at_308) rfl ?_
    refine g_iconst X406 hx (pc' := 310) (z := (4 : Int32)) rfl (hb hby at_309) rfl ?_
    refine g_callS X406 hx hZ hown (hw _ (List.mem_of_getElem? (i := 0) rfl)) (hw _ (List.mem_of_getElem? (i := 1) rfl)) (hw _ (List.mem_of_getElem? (i := 2) rfl)) (hw _ (List.mem_of_getElem? (i := 3) rfl)) (by decide) (rm1 l Z a0 hw [] n0 x1 (4 : Int32) h406 f407) pd_0 rfl rfl (by rw [hml]; rfl) (pc' := 313) rfl (hb hby at_310) (argsL := [(.int x1), (.int (4 : Int32))]) (rest := [(.int (4 : Int32)), (.ref a387), (.ref a387)]) rfl (W := 3) (Nat.le_of_eq rfl) (by decide) (by decide) (by decide) (by decide) (fun v410 T410 h410 X410 hQ410 => ?_)
    obtain ⟨rfl, he410⟩ := hQ410
    rw [he410] at X410
    show Go p e below s n0 _ _ _ (T410.setTop (mkF m 313 #[.val (.int x0), .val (.int x1), .val (.int x2), .val (.int x3), .val (.int order), .val (.int width), .val (.int (3 : Int32)), .val (.double dd), .second, .val (.double ee), .second, .val (.double u0), .second, .val (.double u1), .second, .val (.double u2), .second, .val (.ref a316), .val (.ref a353), .unset, .unset] [(.double (FP.i2d (((x1 >>> (((4 : Int32) * (4 : Int32)) &&& 31)) &&& (15 : Int32)) - (8 : Int32)))), (.int (4 : Int32)), (.ref a387), (.ref a387)]))
    refine g_normD (z := r4) hr4.symm ?_
    refine g_dastore X410 hx hZ V406 (i := 4) (by decide) (show (4 : Nat) < 8 by decide) G_a387 (pc' := 314) rfl (hb hby at_313) (fun T411 h411 X411 W411 N411 => ?_)
    have f412 := (by have q := (Keep.of_wr W411).1; exact Nat.le_trans f407 q : n0 ≤ h411.size)
    have f413 := f408.other W411 ne387_a316
    have f414 := f409.other W411 ne387_a353
    have V411 : AD Z h411 a387 [r0, r1, r2, r3, r4, (0 : UInt64), (0 : UInt64), (0 : UInt64)] := N411
    refine g_dup X411 hx (pc' := 315) rfl (hb hby at_314) rfl ?_
    refine g_iconst X411 hx (pc' := 316) (z := (5 : Int32)) rfl (hb hby at_315) rfl ?_
    refine g_iloadN X411 hx (pc' := 317) rfl (hb hby at_316) rfl ?_
    refine g_iconst X411 hx (pc' := 318) (z := (5 : Int32)) rfl (hb hby at_317) rfl ?_
    refine g_callS X411 hx hZ hown (hw _ (List.mem_of_getElem? (i := 0) rfl)) (hw _ (List.mem_of_getElem? (i := 1) rfl)) (hw _ (List.mem_of_getElem? (i := 2) rfl)) (hw _ (List.mem_of_getElem? (i := 3) rfl)) (by decide) (rm1 l Z a0 hw [] n0 x1 (5 : Int32) h411 f412) pd_0 rfl rfl (by rw [hml]; rfl) (pc' := 321) rfl (hb hby at_318) (argsL := [(.int x1), (.int (5 : Int32))]) (rest := [(.int (5 : Int32)), (.ref a387), (.ref a387)]) rfl (W := 3) (Nat.le_of_eq rfl) (by decide) (by decide) (by decide) (by decide) (fun v415 T415 h415 X415 hQ415 => ?_)
    obtain ⟨rfl, he415⟩ := hQ415
    rw [he415] at X415
    show Go p e below s n0 _ _ _ (T415.setTop (mkF m 321 #[.val (.int x0), .val (.int x1), .val (.int x2), .val (.int x3), .val (.int order), .val (.int width), .val (.int (3 : Int32)), .val (.double dd), .second, .val (.double ee), .second, .val (.double u0), .second, .val (.double u1), .second, .val (.double u2), .second, .val (.ref a316), .val (.ref a353), .unset, .unset] [(.double (FP.i2d (((x1 >>> (((4 : Int32) * (5 : Int32)) &&& 31)) &&& (15 : Int32)) - (8 : Int32)))), (.int (5 : Int32)), (.ref a387), (.ref a387)]))
    refine g_normD (z := r5) hr5.symm ?_
    refine g_dastore X415 hx hZ V411 (i := 5) (by decide) (show (5 : Nat) < 8 by decide) G_a387 (pc' := 322) rfl (hb hby at_321) (fun T416 h416 X416 W416 N416 => ?_)
    have f417 := (by have q := (Keep.of_wr W416).1; exact Nat.le_trans f412 q : n0 ≤ h416.size)
    have f418 := f413.other W416 ne387_a316
    have f419 := f414.other W416 ne387_a353
    have V416 : AD Z h416 a387 [r0, r1, r2, r3, r4, r5, (0 : UInt64), (0 : UInt64)] := N416
    refine g_dup X416 hx (pc' := 323) rfl (hb hby at_322) rfl ?_
    refine g_bipush X416 hx (pc' := 325) (z := (6 : Int32)) rfl (hb hby at_323) rfl ?_
    refine g_iloadN X416 hx (pc' := 326) rfl (hb hby at_325) rfl ?_
    refine g_bipush X416 hx (pc' := 328) (z := (6 : Int32)) rfl (hb hby at_326) rfl ?_
    refine g_callS X416 hx hZ hown (hw _ (List.mem_of_getElem? (i := 0) rfl)) (hw _ (List.mem_of_getElem? (i := 1) rfl)) (hw _ (List.mem_of_getElem? (i := 2) rfl)) (hw _ (List.mem_of_getElem? (i := 3) rfl)) (by decide) (rm1 l Z a0 hw [] n0 x1 (6 : Int32) h416 f417) pd_0 rfl rfl (by rw [hml]; rfl) (pc' := 331) rfl (hb hby at_328) (argsL := [(.int x1), (.int (6 : Int32))]) (rest := [(.int (6 : Int32)), (.ref a387), (.ref a387)]) rfl (W := 3) (Nat.le_of_eq rfl) (by decide) (by decide) (by decide) (by decide) (fun v420 T420 h420 X420 hQ420 => ?_)
    obtain ⟨rfl, he420⟩ := hQ420
    rw [he420] at X420
    show Go p e below s n0 _ _ _ (T420.setTop (mkF m 331 #[.val (.int x0), .val (.int x1), .val (.int x2), .val (.int x3), .val (.int order), .val (.int width), .val (.int (3 : Int32)), .val (.double dd), .second, .val (.double ee), .second, .val (.double u0), .second, .val (.double u1), .second, .val (.double u2), .second, .val (.ref a316), .val (.ref a353), .unset, .unset] [(.double (FP.i2d (((x1 >>> (((4 : Int32) * (6 : Int32)) &&& 31)) &&& (15 : Int32)) - (8 : Int32)))), (.int (6 : Int32)), (.ref a387), (.ref a387)]))
    refine g_normD (z := r6) hr6.symm ?_
    refine g_dastore X420 hx hZ V416 (i := 6) (by decide) (show (6 : Nat) < 8 by decide) G_a387 (pc' := 332) rfl (hb hby at_331) (fun T421 h421 X421 W421 N421 => ?_)
    have f422 := (by have q := (Keep.of_wr W421).1; exact Nat.le_trans f417 q : n0 ≤ h421.size)
    have f423 := f418.other W421 ne387_a316
    have f424 := f419.other W421 ne387_a353
    have V421 : AD Z h421 a387 [r0, r1, r2, r3, r4, r5, r6, (0 : UInt64)] := N421
    refine g_dup X421 hx (pc' := 333) rfl (hb hby at_332) rfl ?_
    refine g_bipush X421 hx (pc' := 335) (z := (7 : Int32)) rfl (hb hby at_333) rfl ?_
    refine g_iloadN X421 hx (pc' := 336) rfl (hb hby at_335) rfl ?_
    refine g_bipush X421 hx (pc' := 338) (z := (7 : Int32)) rfl (hb hby at_336) rfl ?_
    refine g_callS X421 hx hZ hown (hw _ (List.mem_of_getElem? (i := 0) rfl)) (hw _ (List.mem_of_getElem? (i := 1) rfl)) (hw _ (List.mem_of_getElem? (i := 2) rfl)) (hw _ (List.mem_of_getElem? (i := 3) rfl)) (by decide) (rm1 l Z a0 hw [] n0 x1 (7 : Int32) h421 f422) pd_0 rfl rfl (by rw [hml]; rfl) (pc' := 341) rfl (hb hby at_338) (argsL := [(.int x1), (.int (7 : Int32))]) (rest := [(.int (7 : Int32)), (.ref a387), (.ref a387)]) rfl (W := 3) (Nat.le_of_eq rfl) (by decide) (by decide) (by decide) (by decide) (fun v425 T425 h425 X425 hQ425 => ?_)
    obtain ⟨rfl, he425⟩ := hQ425
    rw [he425] at X425
    show Go p e below s n0 _ _ _ (T425.setTop (mkF m 341 #[.val (.int x0), .val (.int x1), .val (.int x2), .val (.int x3), .val (.int order), .val (.int width), .val (.int (3 : Int32)), .val (.double dd), .second, .val (.double ee), .second, .val (.double u0), .second, .val (.double u1), .second, .val (.double u2), .second, .val (.ref a316), .val (.ref a353), .unset, .unset] [(.double (FP.i2d (((x1 >>> (((4 : Int32) * (7 : Int32)) &&& 31)) &&& (15 : Int32)) - (8 : Int32)))), (.int (7 : Int32)), (.ref a387), (.ref a387)]))
    refine g_normD (z := r7) hr7.symm ?_
    refine g_dastore X425 hx hZ V421 (i := 7) (by decide) (show (7 : Nat) < 8 by decide) G_a387 (pc' := 342) rfl (hb hby at_341) (fun T426 h426 X426 W426 N426 => ?_)
    have f427 := (by have q := (Keep.of_wr W426).1; exact Nat.le_trans f422 q : n0 ≤ h426.size)
    have f428 := f423.other W426 ne387_a316
    have f429 := f424.other W426 ne387_a353
    have V426 : AD Z h426 a387 [r0, r1, r2, r3, r4, r5, r6, r7] := N426
    refine g_astore X426 hx (pc' := 344) rfl (hb hby at_342) rfl (l' := #[.val (.int x0), .val (.int x1), .val (.int x2), .val (.int x3), .val (.int order), .val (.int width), .val (.int (3 : Int32)), .val (.double dd), .second, .val (.double ee), .second, .val (.double u0), .second, .val (.double u1), .second, .val (.double u2), .second, .val (.ref a316), .val (.ref a353), .val (.ref a387), .unset]) rfl ?_
    rcases horder with qorder | qorder | qorder | qorder
    · subst qorder
      rcases hwidth with qwidth | qwidth
      · subst qwidth
        refine g_aload X426 hx (pc' := 346) rfl (hb hby at_344) rfl rfl ?_
        refine g_iload X426 hx (pc' := 348) rfl (hb hby at_346) rfl ?_
        refine g_iload X426 hx (pc' := 350) rfl (hb hby at_348) rfl ?_
        refine g_aload X426 hx (pc' := 352) rfl (hb hby at_350) rfl rfl ?_
        refine g_iload X426 hx (pc' := 354) rfl (hb hby at_352) rfl ?_
        refine g_callS X426 hx hZ hown (hw _ (List.mem_of_getElem? (i := 5) rfl)) (hw _ (List.mem_of_getElem? (i := 6) rfl)) (hw _ (List.mem_of_getElem? (i := 7) rfl)) (hw _ (List.mem_of_getElem? (i := 8) rfl)) (by decide) (rm2_0_1_3 l Z a0 hw [] n0 a316 a353 dd ee ee u0 dd ee u1 u2 dd ee ee ee mu0 mu1 mu2 r0 mr0 r1 mr1 r2 mr2 r3 mr3 r4 mr4 r5 mr5 r6 mr6 r7 mr7 h426 f427 f428 f429 ne353_a316 G_a353 yr0 br0 yr1 br1 yr2 br2 yr3 br3 yr4 br4 yr5 br5 yr6 br6 yr7 br7 yu0 bu0 yu1 bu1 yu2 bu2) pd_1 rfl rfl (by rw [hml]; rfl) (pc' := 357) rfl (hb hby at_354) (argsL := [(.ref a316), (.int (3 : Int32)), (.int (0 : Int32)), (.ref a353), (.int (1 : Int32))]) (rest := []) rfl (W := 0) (Nat.le_of_eq rfl) (by decide) (by decide) (by decide) (by decide) (fun v430 T430 h430 X430 hQ430 => ?_)
        obtain ⟨rfl, K430, A430⟩ := hQ430
        have O430 := V426.keep K430 (ninS ne387_a353.symm nin0)
        have zs430 : n0 ≤ h430.size := Nat.le_trans f427 K430.1
        show Go p e below s n0 _ _ _ (T430.setTop (mkF m 357 #[.val (.int x0), .val (.int x1), .val (.int x2), .val (.int x3), .val (.int (0 : Int32)), .val (.int (1 : Int32)), .val (.int (3 : Int32)), .val (.double dd), .second, .val (.double ee), .second, .val (.double u0), .second, .val (.double u1), .second, .val (.double u2), .second, .val (.ref a316), .val (.ref a353), .val (.ref a387), .unset] []))
        refine g_aload X430 hx (pc' := 359) rfl (hb hby at_357) rfl rfl ?_
        refine g_aload X430 hx (pc' := 361) rfl (hb hby at_359) rfl rfl ?_
        refine g_iload X430 hx (pc' := 363) rfl (hb hby at_361) rfl ?_
        refine g_iconst X430 hx (pc' := 364) (z := (0 : Int32)) rfl (hb hby at_363) rfl ?_
        refine g_iload X430 hx (pc' := 366) rfl (hb hby at_364) rfl ?_
        refine g_dload X430 hx (pc' := 368) rfl (hb hby at_366) rfl ?_
        refine g_dload X430 hx (pc' := 370) rfl (hb hby at_368) rfl ?_
        refine g_dload X430 hx (pc' := 372) rfl (hb hby at_370) rfl ?_
        refine g_callS X430 hx hZ hown (hw _ (List.mem_of_getElem? (i := 9) rfl)) (hw _ (List.mem_of_getElem? (i := 10) rfl)) (hw _ (List.mem_of_getElem? (i := 2) rfl)) (hw _ (List.mem_of_getElem? (i := 11) rfl)) (by decide) (rm3_0_1_0 l Z a0 hw [] n0 a353 a387 r0 r0 r1 r1 r2 r2 r3 r3 r4 r4 r5 r5 r6 r6 r7 r7 mr0 mr0 mr1 mr1 mr2 mr2 mr3 mr3 u0 u1 u2 mu0 mu1 mu2 h430 zs430 A430 O430 yr0 (Nat.le_trans br0 (by decide)) yr0 br0 yr1 (Nat.le_trans br1 (by decide)) yr1 br1 yr2 (Nat.le_trans br2 (by decide)) yr2 br2 yr3 (Nat.le_trans br3 (by decide)) yr3 br3 yu0 bu0 yu1 bu1 yu2 bu2 rfl rfl rfl rfl) pd_2 rfl rfl (by rw [hml]; rfl) (pc' := 375) rfl (hb hby at_372) (argsL := [(.ref a353), (.ref a387), (.int (1 : Int32)), (.int (0 : Int32)), (.int (0 : Int32)), (.double u0), (.double u1), (.double u2)]) (rest := []) rfl (W := 0) (Nat.le_of_eq rfl) (by decide) (by decide) (by decide) (by decide) (fun v431 T431 h431 X431 hQ431 => ?_)
        obtain ⟨rfl, he431⟩ := hQ431
        rw [he431] at X431
        show Go p e below s n0 _ _ _ (T431.setTop (mkF m 375 #[.val (.int x0), .val (.int x1), .val (.int x2), .val (.int x3), .val (.int (0 : Int32)), .val (.int (1 : Int32)), .val (.int (3 : Int32)), .val (.double dd), .second, .val (.double ee), .second, .val (.double u0), .second, .val (.double u1), .second, .val (.double u2), .second, .val (.ref a316), .val (.ref a353), .val (.ref a387), .unset] [(.int (1 : Int32))]))
        refine g_istore X431 hx (pc' := 377) rfl (hb hby at_375) (l' := #[.val (.int x0), .val (.int x1), .val (.int x2), .val (.int x3), .val (.int (0 : Int32)), .val (.int (1 : Int32)), .val (.int (3 : Int32)), .val (.double dd), .second, .val (.double ee), .second, .val (.double u0), .second, .val (.double u1), .second, .val (.double u2), .second, .val (.ref a316), .val (.ref a353), .val (.ref a387), .val (.int (1 : Int32))]) rfl ?_
        refine g_iload X431 hx (pc' := 379) rfl (hb hby at_377) rfl ?_
        refine g_iconst X431 hx (pc' := 380) (z := (2 : Int32)) rfl (hb hby at_379) rfl ?_
        refine g_icmpY X431 hx (pcY := 419) (hb hby at_380) (by decide) (by decide) (show ¬ (1 : Int32) = (2 : Int32) from by decide) ?_
        refine g_iload X431 hx (pc' := 421) rfl (hb hby at_419) rfl ?_
        refine g_ifN X431 hx (pcN := 424) (hb hby at_421) rfl (show ¬ ((1 : Int32) = 0) from by decide) ?_
        refine g_aload X431 hx (pc' := 426) rfl (hb hby at_424) rfl rfl ?_
        refine g_iconst X431 hx (pc' := 427) (z := (4 : Int32)) rfl (hb hby at_426) rfl ?_
        refine g_daload X431 hx hZ A430 (i := 4) (by decide) (show (4 : Nat) < 8 by decide) (v := r4) rfl (pc' := 428) rfl (hb hby at_427) ?_
        refine g_aload X431 hx (pc' := 430) rfl (hb hby at_428) rfl rfl ?_
        refine g_iconst X431 hx (pc' := 431) (z := (4 : Int32)) rfl (hb hby at_430) rfl ?_
        refine g_daload X431 hx hZ O430 (i := 4) (by decide) (show (4 : Nat) < 8 by decide) (v := r4) rfl (pc' := 432) rfl (hb hby at_431) ?_
        refine g_dcmp X431 hx (pc' := 433) (z := (0 : Int32)) rfl (hb hby at_432) (own_dyeq yr4 yr4 (by exact rfl)) ?_
        refine g_ifN X431 hx (pcN := 436) (hb hby at_433) rfl (show ¬ (¬ (0 : Int32) = 0) from by decide) ?_
        refine g_aload X431 hx (pc' := 438) rfl (hb hby at_436) rfl rfl ?_
        refine g_iconst X431 hx (pc' := 439) (z := (5 : Int32)) rfl (hb hby at_438) rfl ?_
        refine g_daload X431 hx hZ A430 (i := 5) (by decide) (show (5 : Nat) < 8 by decide) (v := r5) rfl (pc' := 440) rfl (hb hby at_439) ?_
        refine g_aload X431 hx (pc' := 442) rfl (hb hby at_440) rfl rfl ?_
        refine g_iconst X431 hx (pc' := 443) (z := (5 : Int32)) rfl (hb hby at_442) rfl ?_
        refine g_daload X431 hx hZ O430 (i := 5) (by decide) (show (5 : Nat) < 8 by decide) (v := r5) rfl (pc' := 444) rfl (hb hby at_443) ?_
        refine g_dcmp X431 hx (pc' := 445) (z := (0 : Int32)) rfl (hb hby at_444) (own_dyeq yr5 yr5 (by exact rfl)) ?_
        refine g_ifN X431 hx (pcN := 448) (hb hby at_445) rfl (show ¬ (¬ (0 : Int32) = 0) from by decide) ?_
        refine g_aload X431 hx (pc' := 450) rfl (hb hby at_448) rfl rfl ?_
        refine g_bipush X431 hx (pc' := 452) (z := (6 : Int32)) rfl (hb hby at_450) rfl ?_
        refine g_daload X431 hx hZ A430 (i := 6) (by decide) (show (6 : Nat) < 8 by decide) (v := r6) rfl (pc' := 453) rfl (hb hby at_452) ?_
        refine g_aload X431 hx (pc' := 455) rfl (hb hby at_453) rfl rfl ?_
        refine g_bipush X431 hx (pc' := 457) (z := (6 : Int32)) rfl (hb hby at_455) rfl ?_
        refine g_daload X431 hx hZ O430 (i := 6) (by decide) (show (6 : Nat) < 8 by decide) (v := r6) rfl (pc' := 458) rfl (hb hby at_457) ?_
        refine g_dcmp X431 hx (pc' := 459) (z := (0 : Int32)) rfl (hb hby at_458) (own_dyeq yr6 yr6 (by exact rfl)) ?_
        refine g_ifN X431 hx (pcN := 462) (hb hby at_459) rfl (show ¬ (¬ (0 : Int32) = 0) from by decide) ?_
        refine g_aload X431 hx (pc' := 464) rfl (hb hby at_462) rfl rfl ?_
        refine g_bipush X431 hx (pc' := 466) (z := (7 : Int32)) rfl (hb hby at_464) rfl ?_
        refine g_daload X431 hx hZ A430 (i := 7) (by decide) (show (7 : Nat) < 8 by decide) (v := r7) rfl (pc' := 467) rfl (hb hby at_466) ?_
        refine g_aload X431 hx (pc' := 469) rfl (hb hby at_467) rfl rfl ?_
        refine g_bipush X431 hx (pc' := 471) (z := (7 : Int32)) rfl (hb hby at_469) rfl ?_
        refine g_daload X431 hx hZ O430 (i := 7) (by decide) (show (7 : Nat) < 8 by decide) (v := r7) rfl (pc' := 472) rfl (hb hby at_471) ?_
        refine g_dcmp X431 hx (pc' := 473) (z := (0 : Int32)) rfl (hb hby at_472) (own_dyeq yr7 yr7 (by exact rfl)) ?_
        refine g_ifN X431 hx (pcN := 476) (hb hby at_473) rfl (show ¬ (¬ (0 : Int32) = 0) from by decide) ?_
        refine g_iconst X431 hx (pc' := 477) (z := (1 : Int32)) rfl (hb hby at_476) rfl ?_
        refine g_goto X431 hx (pc' := 481) (hb hby at_477) (by decide) (by decide) ?_
        refine g_istore X431 hx (pc' := 483) rfl (hb hby at_481) (l' := #[.val (.int x0), .val (.int x1), .val (.int x2), .val (.int x3), .val (.int (0 : Int32)), .val (.int (1 : Int32)), .val (.int (3 : Int32)), .val (.double dd), .second, .val (.double ee), .second, .val (.double u0), .second, .val (.double u1), .second, .val (.double u2), .second, .val (.ref a316), .val (.ref a353), .val (.ref a387), .val (.int (1 : Int32))]) rfl ?_
        refine g_iload X431 hx (pc' := 485) rfl (hb hby at_483) rfl ?_
        exact g_retZ X431 hx hlk hret (Or.inr rfl) (hb hby at_485) (by decide) (by decide) (rfl)
      · subst qwidth
        refine g_aload X426 hx (pc' := 346) rfl (hb hby at_344) rfl rfl ?_
        refine g_iload X426 hx (pc' := 348) rfl (hb hby at_346) rfl ?_
        refine g_iload X426 hx (pc' := 350) rfl (hb hby at_348) rfl ?_
        refine g_aload X426 hx (pc' := 352) rfl (hb hby at_350) rfl rfl ?_
        refine g_iload X426 hx (pc' := 354) rfl (hb hby at_352) rfl ?_
        refine g_callS X426 hx hZ hown (hw _ (List.mem_of_getElem? (i := 5) rfl)) (hw _ (List.mem_of_getElem? (i := 6) rfl)) (hw _ (List.mem_of_getElem? (i := 7) rfl)) (hw _ (List.mem_of_getElem? (i := 8) rfl)) (by decide) (rm2_0_2_3 l Z a0 hw [] n0 a316 a353 dd ee ee u0 dd ee u1 u2 dd ee ee ee mu0 mu1 mu2 r0 mr0 r1 mr1 r2 mr2 r3 mr3 r4 mr4 r5 mr5 r6 mr6 r7 mr7 h426 f427 f428 f429 ne353_a316 G_a353 yr0 br0 yr1 br1 yr2 br2 yr3 br3 yr4 br4 yr5 br5 yr6 br6 yr7 br7 yu0 bu0 yu1 bu1 yu2 bu2) pd_1 rfl rfl (by rw [hml]; rfl) (pc' := 357) rfl (hb hby at_354) (argsL := [(.ref a316), (.int (3 : Int32)), (.int (0 : Int32)), (.ref a353), (.int (2 : Int32))]) (rest := []) rfl (W := 0) (Nat.le_of_eq rfl) (by decide) (by decide) (by decide) (by decide) (fun v432 T432 h432 X432 hQ432 => ?_)
        obtain ⟨rfl, K432, A432⟩ := hQ432
        have O432 := V426.keep K432 (ninS ne387_a353.symm nin0)
        have zs432 : n0 ≤ h432.size := Nat.le_trans f427 K432.1
        show Go p e below s n0 _ _ _ (T432.setTop (mkF m 357 #[.val (.int x0), .val (.int x1), .val (.int x2), .val (.int x3), .val (.int (0 : Int32)), .val (.int (2 : Int32)), .val (.int (3 : Int32)), .val (.double dd), .second, .val (.double ee), .second, .val (.double u0), .second, .val (.double u1), .second, .val (.double u2), .second, .val (.ref a316), .val (.ref a353), .val (.ref a387), .unset] []))
        refine g_aload X432 hx (pc' := 359) rfl (hb hby at_357) rfl rfl ?_
        refine g_aload X432 hx (pc' := 361) rfl (hb hby at_359) rfl rfl ?_
        refine g_iload X432 hx (pc' := 363) rfl (hb hby at_361) rfl ?_
        refine g_iconst X432 hx (pc' := 364) (z := (0 : Int32)) rfl (hb hby at_363) rfl ?_
        refine g_iload X432 hx (pc' := 366) rfl (hb hby at_364) rfl ?_
        refine g_dload X432 hx (pc' := 368) rfl (hb hby at_366) rfl ?_
        refine g_dload X432 hx (pc' := 370) rfl (hb hby at_368) rfl ?_
        refine g_dload X432 hx (pc' := 372) rfl (hb hby at_370) rfl ?_
        refine g_callS X432 hx hZ hown (hw _ (List.mem_of_getElem? (i := 9) rfl)) (hw _ (List.mem_of_getElem? (i := 10) rfl)) (hw _ (List.mem_of_getElem? (i := 2) rfl)) (hw _ (List.mem_of_getElem? (i := 11) rfl)) (by decide) (rm3_0_2_0 l Z a0 hw [] n0 a353 a387 r0 r0 r1 r1 r2 r2 r3 r3 r4 r4 r5 r5 r6 r6 r7 r7 mr0 mr0 mr2 mr2 mr4 mr4 mr6 mr6 u0 u1 u2 mu0 mu1 mu2 h432 zs432 A432 O432 yr0 (Nat.le_trans br0 (by decide)) yr0 br0 yr2 (Nat.le_trans br2 (by decide)) yr2 br2 yr4 (Nat.le_trans br4 (by decide)) yr4 br4 yr6 (Nat.le_trans br6 (by decide)) yr6 br6 yu0 bu0 yu1 bu1 yu2 bu2 rfl rfl rfl rfl) pd_2 rfl rfl (by rw [hml]; rfl) (pc' := 375) rfl (hb hby at_372) (argsL := [(.ref a353), (.ref a387), (.int (2 : Int32)), (.int (0 : Int32)), (.int (0 : Int32)), (.double u0), (.double u1), (.double u2)]) (rest := []) rfl (W := 0) (Nat.le_of_eq rfl) (by decide) (by decide) (by decide) (by decide) (fun v433 T433 h433 X433 hQ433 => ?_)
        obtain ⟨rfl, he433⟩ := hQ433
        rw [he433] at X433
        show Go p e below s n0 _ _ _ (T433.setTop (mkF m 375 #[.val (.int x0), .val (.int x1), .val (.int x2), .val (.int x3), .val (.int (0 : Int32)), .val (.int (2 : Int32)), .val (.int (3 : Int32)), .val (.double dd), .second, .val (.double ee), .second, .val (.double u0), .second, .val (.double u1), .second, .val (.double u2), .second, .val (.ref a316), .val (.ref a353), .val (.ref a387), .unset] [(.int (1 : Int32))]))
        refine g_istore X433 hx (pc' := 377) rfl (hb hby at_375) (l' := #[.val (.int x0), .val (.int x1), .val (.int x2), .val (.int x3), .val (.int (0 : Int32)), .val (.int (2 : Int32)), .val (.int (3 : Int32)), .val (.double dd), .second, .val (.double ee), .second, .val (.double u0), .second, .val (.double u1), .second, .val (.double u2), .second, .val (.ref a316), .val (.ref a353), .val (.ref a387), .val (.int (1 : Int32))]) rfl ?_
        refine g_iload X433 hx (pc' := 379) rfl (hb hby at_377) rfl ?_
        refine g_iconst X433 hx (pc' := 380) (z := (2 : Int32)) rfl (hb hby at_379) rfl ?_
        refine g_icmpN X433 hx (pcN := 383) (hb hby at_380) rfl (show ¬ (¬ (2 : Int32) = (2 : Int32)) from by decide) ?_
        refine g_iload X433 hx (pc' := 385) rfl (hb hby at_383) rfl ?_
        refine g_ifN X433 hx (pcN := 388) (hb hby at_385) rfl (show ¬ ((1 : Int32) = 0) from by decide) ?_
        refine g_aload X433 hx (pc' := 390) rfl (hb hby at_388) rfl rfl ?_
        refine g_aload X433 hx (pc' := 392) rfl (hb hby at_390) rfl rfl ?_
        refine g_iload X433 hx (pc' := 394) rfl (hb hby at_392) rfl ?_
        refine g_iconst X433 hx (pc' := 395) (z := (1 : Int32)) rfl (hb hby at_394) rfl ?_
        refine g_iload X433 hx (pc' := 397) rfl (hb hby at_395) rfl ?_
        refine g_dload X433 hx (pc' := 399) rfl (hb hby at_397) rfl ?_
        refine g_dload X433 hx (pc' := 401) rfl (hb hby at_399) rfl ?_
        refine g_dload X433 hx (pc' := 403) rfl (hb hby at_401) rfl ?_
        refine g_callS X433 hx hZ hown (hw _ (List.mem_of_getElem? (i := 9) rfl)) (hw _ (List.mem_of_getElem? (i := 10) rfl)) (hw _ (List.mem_of_getElem? (i := 2) rfl)) (hw _ (List.mem_of_getElem? (i := 11) rfl)) (by decide) (rm3_0_2_1 l Z a0 hw [] n0 a353 a387 r0 r0 r1 r1 r2 r2 r3 r3 r4 r4 r5 r5 r6 r6 r7 r7 mr1 mr1 mr3 mr3 mr5 mr5 mr7 mr7 u0 u1 u2 mu0 mu1 mu2 h432 zs432 A432 O432 yr1 (Nat.le_trans br1 (by decide)) yr1 br1 yr3 (Nat.le_trans br3 (by decide)) yr3 br3 yr5 (Nat.le_trans br5 (by decide)) yr5 br5 yr7 (Nat.le_trans br7 (by decide)) yr7 br7 yu0 bu0 yu1 bu1 yu2 bu2 rfl rfl rfl rfl) pd_2 rfl rfl (by rw [hml]; rfl) (pc' := 406) rfl (hb hby at_403) (argsL := [(.ref a353), (.ref a387), (.int (2 : Int32)), (.int (1 : Int32)), (.int (0 : Int32)), (.double u0), (.double u1), (.double u2)]) (rest := []) rfl (W := 0) (Nat.le_of_eq rfl) (by decide) (by decide) (by decide) (by decide) (fun v434 T434 h434 X434 hQ434 => ?_)
        obtain ⟨rfl, he434⟩ := hQ434
        rw [he434] at X434
        show Go p e below s n0 _ _ _ (T434.setTop (mkF m 406 #[.val (.int x0), .val (.int x1), .val (.int x2), .val (.int x3), .val (.int (0 : Int32)), .val (.int (2 : Int32)), .val (.int (3 : Int32)), .val (.double dd), .second, .val (.double ee), .second, .val (.double u0), .second, .val (.double u1), .second, .val (.double u2), .second, .val (.ref a316), .val (.ref a353), .val (.ref a387), .val (.int (1 : Int32))] [(.int (1 : Int32))]))
        refine g_ifN X434 hx (pcN := 409) (hb hby at_406) rfl (show ¬ ((1 : Int32) = 0) from by decide) ?_
        refine g_iconst X434 hx (pc' := 410) (z := (1 : Int32)) rfl (hb hby at_409) rfl ?_
        refine g_goto X434 hx (pc' := 414) (hb hby at_410) (by decide) (by decide) ?_
        refine g_istore X434 hx (pc' := 416) rfl (hb hby at_414) (l' := #[.val (.int x0), .val (.int x1), .val (.int x2), .val (.int x3), .val (.int (0 : Int32)), .val (.int (2 : Int32)), .val (.int (3 : Int32)), .val (.double dd), .second, .val (.double ee), .second, .val (.double u0), .second, .val (.double u1), .second, .val (.double u2), .second, .val (.ref a316), .val (.ref a353), .val (.ref a387), .val (.int (1 : Int32))]) rfl ?_
        refine g_goto X434 hx (pc' := 483) (hb hby at_416) (by decide) (by decide) ?_
        refine g_iload X434 hx (pc' := 485) rfl (hb hby at_483) rfl ?_
        exact g_retZ X434 hx hlk hret (Or.inr rfl) (hb hby at_485) (by decide) (by decide) (rfl)
    · subst qorder
      rcases hwidth with qwidth | qwidth
      · subst qwidth
        refine g_aload X426 hx (pc' := 346) rfl (hb hby at_344) rfl rfl ?_
        refine g_iload X426 hx (pc' := 348) rfl (hb hby at_346) rfl ?_
        refine g_iload X426 hx (pc' := 350) rfl (hb hby at_348) rfl ?_
        refine g_aload X426 hx (pc' := 352) rfl (hb hby at_350) rfl rfl ?_
        refine g_iload X426 hx (pc' := 354) rfl (hb hby at_352) rfl ?_
        refine g_callS X426 hx hZ hown (hw _ (List.mem_of_getElem? (i := 5) rfl)) (hw _ (List.mem_of_getElem? (i := 6) rfl)) (hw _ (List.mem_of_getElem? (i := 7) rfl)) (hw _ (List.mem_of_getElem? (i := 8) rfl)) (by decide) (rm2_1_1_3 l Z a0 hw [] n0 a316 a353 dd ee ee u0 dd ee u1 u2 dd ee ee ee mu0 mu1 mu2 r0 mr0 r1 mr1 r2 mr2 r3 mr3 r4 mr4 r5 mr5 r6 mr6 r7 mr7 h426 f427 f428 f429 ne353_a316 G_a353 yr0 br0 yr1 br1 yr2 br2 yr3 br3 yr4 br4 yr5 br5 yr6 br6 yr7 br7 yu0 bu0 yu1 bu1 yu2 bu2) pd_1 rfl rfl (by rw [hml]; rfl) (pc' := 357) rfl (hb hby at_354) (argsL := [(.ref a316), (.int (3 : Int32)), (.int (1 : Int32)), (.ref a353), (.int (1 : Int32))]) (rest := []) rfl (W := 0) (Nat.le_of_eq rfl) (by decide) (by decide) (by decide) (by decide) (fun v435 T435 h435 X435 hQ435 => ?_)
        obtain ⟨rfl, K435, A435⟩ := hQ435
        have O435 := V426.keep K435 (ninS ne387_a353.symm nin0)
        have zs435 : n0 ≤ h435.size := Nat.le_trans f427 K435.1
        show Go p e below s n0 _ _ _ (T435.setTop (mkF m 357 #[.val (.int x0), .val (.int x1), .val (.int x2), .val (.int x3), .val (.int (1 : Int32)), .val (.int (1 : Int32)), .val (.int (3 : Int32)), .val (.double dd), .second, .val (.double ee), .second, .val (.double u0), .second, .val (.double u1), .second, .val (.double u2), .second, .val (.ref a316), .val (.ref a353), .val (.ref a387), .unset] []))
        refine g_aload X435 hx (pc' := 359) rfl (hb hby at_357) rfl rfl ?_
        refine g_aload X435 hx (pc' := 361) rfl (hb hby at_359) rfl rfl ?_
        refine g_iload X435 hx (pc' := 363) rfl (hb hby at_361) rfl ?_
        refine g_iconst X435 hx (pc' := 364) (z := (0 : Int32)) rfl (hb hby at_363) rfl ?_
        refine g_iload X435 hx (pc' := 366) rfl (hb hby at_364) rfl ?_
        refine g_dload X435 hx (pc' := 368) rfl (hb hby at_366) rfl ?_
        refine g_dload X435 hx (pc' := 370) rfl (hb hby at_368) rfl ?_
        refine g_dload X435 hx (pc' := 372) rfl (hb hby at_370) rfl ?_
        refine g_callS X435 hx hZ hown (hw _ (List.mem_of_getElem? (i := 9) rfl)) (hw _ (List.mem_of_getElem? (i := 10) rfl)) (hw _ (List.mem_of_getElem? (i := 2) rfl)) (hw _ (List.mem_of_getElem? (i := 11) rfl)) (by decide) (rm3_1_1_0 l Z a0 hw [] n0 a353 a387 r0 r0 r1 r1 r2 r2 r3 r3 r4 r4 r5 r5 r6 r6 r7 r7 mr0 mr0 mr1 mr1 mr2 mr2 mr3 mr3 u0 u1 u2 mu0 mu1 mu2 h435 zs435 A435 O435 yr0 (Nat.le_trans br0 (by decide)) yr0 br0 yr1 (Nat.le_trans br1 (by decide)) yr1 br1 yr2 (Nat.le_trans br2 (by decide)) yr2 br2 yr3 (Nat.le_trans br3 (by decide)) yr3 br3 yu0 bu0 yu1 bu1 yu2 bu2 rfl rfl rfl rfl) pd_2 rfl rfl (by rw [hml]; rfl) (pc' := 375) rfl (hb hby at_372) (argsL := [(.ref a353), (.ref a387), (.int (1 : Int32)), (.int (0 : Int32)), (.int (1 : Int32)), (.double u0), (.double u1), (.double u2)]) (rest := []) rfl (W := 0) (Nat.le_of_eq rfl) (by decide) (by decide) (by decide) (by decide) (fun v436 T436 h436 X436 hQ436 => ?_)
        obtain ⟨rfl, he436⟩ := hQ436
        rw [he436] at X436
        show Go p e below s n0 _ _ _ (T436.setTop (mkF m 375 #[.val (.int x0), .val (.int x1), .val (.int x2), .val (.int x3), .val (.int (1 : Int32)), .val (.int (1 : Int32)), .val (.int (3 : Int32)), .val (.double dd), .second, .val (.double ee), .second, .val (.double u0), .second, .val (.double u1), .second, .val (.double u2), .second, .val (.ref a316), .val (.ref a353), .val (.ref a387), .unset] [(.int (1 : Int32))]))
        refine g_istore X436 hx (pc' := 377) rfl (hb hby at_375) (l' := #[.val (.int x0), .val (.int x1), .val (.int x2), .val (.int x3), .val (.int (1 : Int32)), .val (.int (1 : Int32)), .val (.int (3 : Int32)), .val (.double dd), .second, .val (.double ee), .second, .val (.double u0), .second, .val (.double u1), .second, .val (.double u2), .second, .val (.ref a316), .val (.ref a353), .val (.ref a387), .val (.int (1 : Int32))]) rfl ?_
        refine g_iload X436 hx (pc' := 379) rfl (hb hby at_377) rfl ?_
        refine g_iconst X436 hx (pc' := 380) (z := (2 : Int32)) rfl (hb hby at_379) rfl ?_
        refine g_icmpY X436 hx (pcY := 419) (hb hby at_380) (by decide) (by decide) (show ¬ (1 : Int32) = (2 : Int32) from by decide) ?_
        refine g_iload X436 hx (pc' := 421) rfl (hb hby at_419) rfl ?_
        refine g_ifN X436 hx (pcN := 424) (hb hby at_421) rfl (show ¬ ((1 : Int32) = 0) from by decide) ?_
        refine g_aload X436 hx (pc' := 426) rfl (hb hby at_424) rfl rfl ?_
        refine g_iconst X436 hx (pc' := 427) (z := (4 : Int32)) rfl (hb hby at_426) rfl ?_
        refine g_daload X436 hx hZ A435 (i := 4) (by decide) (show (4 : Nat) < 8 by decide) (v := r4) rfl (pc' := 428) rfl (hb hby at_427) ?_
        refine g_aload X436 hx (pc' := 430) rfl (hb hby at_428) rfl rfl ?_
        refine g_iconst X436 hx (pc' := 431) (z := (4 : Int32)) rfl (hb hby at_430) rfl ?_
        refine g_daload X436 hx hZ O435 (i := 4) (by decide) (show (4 : Nat) < 8 by decide) (v := r4) rfl (pc' := 432) rfl (hb hby at_431) ?_
        refine g_dcmp X436 hx (pc' := 433) (z := (0 : Int32)) rfl (hb hby at_432) (own_dyeq yr4 yr4 (by exact rfl)) ?_
        refine g_ifN X436 hx (pcN := 436) (hb hby at_433) rfl (show ¬ (¬ (0 : Int32) = 0) from by decide) ?_
        refine g_aload X436 hx (pc' := 438) rfl (hb hby at_436) rfl rfl ?_
        refine g_iconst X436 hx (pc' := 439) (z := (5 : Int32)) rfl (hb hby at_438) rfl ?_
        refine g_daload X436 hx hZ A435 (i := 5) (by decide) (show (5 : Nat) < 8 by decide) (v := r5) rfl (pc' := 440) rfl (hb hby at_439) ?_
        refine g_aload X436 hx (pc' := 442) rfl (hb hby at_440) rfl rfl ?_
        refine g_iconst X436 hx (pc' := 443) (z := (5 : Int32)) rfl (hb hby at_442) rfl ?_
        refine g_daload X436 hx hZ O435 (i := 5) (by decide) (show (5 : Nat) < 8 by decide) (v := r5) rfl (pc' := 444) rfl (hb hby at_443) ?_
        refine g_dcmp X436 hx (pc' := 445) (z := (0 : Int32)) rfl (hb hby at_444) (own_dyeq yr5 yr5 (by exact rfl)) ?_
        refine g_ifN X436 hx (pcN := 448) (hb hby at_445) rfl (show ¬ (¬ (0 : Int32) = 0) from by decide) ?_
        refine g_aload X436 hx (pc' := 450) rfl (hb hby at_448) rfl rfl ?_
        refine g_bipush X436 hx (pc' := 452) (z := (6 : Int32)) rfl (hb hby at_450) rfl ?_
        refine g_daload X436 hx hZ A435 (i := 6) (by decide) (show (6 : Nat) < 8 by decide) (v := r6) rfl (pc' := 453) rfl (hb hby at_452) ?_
        refine g_aload X436 hx (pc' := 455) rfl (hb hby at_453) rfl rfl ?_
        refine g_bipush X436 hx (pc' := 457) (z := (6 : Int32)) rfl (hb hby at_455) rfl ?_
        refine g_daload X436 hx hZ O435 (i := 6) (by decide) (show (6 : Nat) < 8 by decide) (v := r6) rfl (pc' := 458) rfl (hb hby at_457) ?_
        refine g_dcmp X436 hx (pc' := 459) (z := (0 : Int32)) rfl (hb hby at_458) (own_dyeq yr6 yr6 (by exact rfl)) ?_
        refine g_ifN X436 hx (pcN := 462) (hb hby at_459) rfl (show ¬ (¬ (0 : Int32) = 0) from by decide) ?_
        refine g_aload X436 hx (pc' := 464) rfl (hb hby at_462) rfl rfl ?_
        refine g_bipush X436 hx (pc' := 466) (z := (7 : Int32)) rfl (hb hby at_464) rfl ?_
        refine g_daload X436 hx hZ A435 (i := 7) (by decide) (show (7 : Nat) < 8 by decide) (v := r7) rfl (pc' := 467) rfl (hb hby at_466) ?_
        refine g_aload X436 hx (pc' := 469) rfl (hb hby at_467) rfl rfl ?_
        refine g_bipush X436 hx (pc' := 471) (z := (7 : Int32)) rfl (hb hby at_469) rfl ?_
        refine g_daload X436 hx hZ O435 (i := 7) (by decide) (show (7 : Nat) < 8 by decide) (v := r7) rfl (pc' := 472) rfl (hb hby at_471) ?_
        refine g_dcmp X436 hx (pc' := 473) (z := (0 : Int32)) rfl (hb hby at_472) (own_dyeq yr7 yr7 (by exact rfl)) ?_
        refine g_ifN X436 hx (pcN := 476) (hb hby at_473) rfl (show ¬ (¬ (0 : Int32) = 0) from by decide) ?_
        refine g_iconst X436 hx (pc' := 477) (z := (1 : Int32)) rfl (hb hby at_476) rfl ?_
        refine g_goto X436 hx (pc' := 481) (hb hby at_477) (by decide) (by decide) ?_
        refine g_istore X436 hx (pc' := 483) rfl (hb hby at_481) (l' := #[.val (.int x0), .val (.int x1), .val (.int x2), .val (.int x3), .val (.int (1 : Int32)), .val (.int (1 : Int32)), .val (.int (3 : Int32)), .val (.double dd), .second, .val (.double ee), .second, .val (.double u0), .second, .val (.double u1), .second, .val (.double u2), .second, .val (.ref a316), .val (.ref a353), .val (.ref a387), .val (.int (1 : Int32))]) rfl ?_
        refine g_iload X436 hx (pc' := 485) rfl (hb hby at_483) rfl ?_
        exact g_retZ X436 hx hlk hret (Or.inr rfl) (hb hby at_485) (by decide) (by decide) (rfl)
      · subst qwidth
        refine g_aload X426 hx (pc' := 346) rfl (hb hby at_344) rfl rfl ?_
        refine g_iload X426 hx (pc' := 348) rfl (hb hby at_346) rfl ?_
        refine g_iload X426 hx (pc' := 350) rfl (hb hby at_348) rfl ?_
        refine g_aload X426 hx (pc' := 352) rfl (hb hby at_350) rfl rfl ?_
        refine g_iload X426 hx (pc' := 354) rfl (hb hby at_352) rfl ?_
        refine g_callS X426 hx hZ hown (hw _ (List.mem_of_getElem? (i := 5) rfl)) (hw _ (List.mem_of_getElem? (i := 6) rfl)) (hw _ (List.mem_of_getElem? (i := 7) rfl)) (hw _ (List.mem_of_getElem? (i := 8) rfl)) (by decide) (rm2_1_2_3 l Z a0 hw [] n0 a316 a353 dd ee ee u0 dd ee u1 u2 dd ee ee ee mu0 mu1 mu2 r0 mr0 r1 mr1 r2 mr2 r3 mr3 r4 mr4 r5 mr5 r6 mr6 r7 mr7 h426 f427 f428 f429 ne353_a316 G_a353 yr0 br0 yr1 br1 yr2 br2 yr3 br3 yr4 br4 yr5 br5 yr6 br6 yr7 br7 yu0 bu0 yu1 bu1 yu2 bu2) pd_1 rfl rfl (by rw [hml]; rfl) (pc' := 357) rfl (hb hby at_354) (argsL := [(.ref a316), (.int (3 : Int32)), (.int (1 : Int32)), (.ref a353), (.int (2 : Int32))]) (rest := []) rfl (W := 0) (Nat.le_of_eq rfl) (by decide) (by decide) (by decide) (by decide) (fun v437 T437 h437 X437 hQ437 => ?_)
        obtain ⟨rfl, K437, A437⟩ := hQ437
        have O437 := V426.keep K437 (ninS ne387_a353.symm nin0)
        have zs437 : n0 ≤ h437.size := Nat.le_trans f427 K437.1
        show Go p e below s n0 _ _ _ (T437.setTop (mkF m 357 #[.val (.int x0), .val (.int x1), .val (.int x2), .val (.int x3), .val (.int (1 : Int32)), .val (.int (2 : Int32)), .val (.int (3 : Int32)), .val (.double dd), .second, .val (.double ee), .second, .val (.double u0), .second, .val (.double u1), .second, .val (.double u2), .second, .val (.ref a316), .val (.ref a353), .val (.ref a387), .unset] []))
        refine g_aload X437 hx (pc' := 359) rfl (hb hby at_357) rfl rfl ?_
        refine g_aload X437 hx (pc' := 361) rfl (hb hby at_359) rfl rfl ?_
        refine g_iload X437 hx (pc' := 363) rfl (hb hby at_361) rfl ?_
        refine g_iconst X437 hx (pc' := 364) (z := (0 : Int32)) rfl (hb hby at_363) rfl ?_
        refine g_iload X437 hx (pc' := 366) rfl (hb hby at_364) rfl ?_
        refine g_dload X437 hx (pc' := 368) rfl (hb hby at_366) rfl ?_
        refine g_dload X437 hx (pc' := 370) rfl (hb hby at_368) rfl ?_
        refine g_dload X437 hx (pc' := 372) rfl (hb hby at_370) rfl ?_
        refine g_callS X437 hx hZ hown (hw _ (List.mem_of_getElem? (i := 9) rfl)) (hw _ (List.mem_of_getElem? (i := 10) rfl)) (hw _ (List.mem_of_getElem? (i := 2) rfl)) (hw _ (List.mem_of_getElem? (i := 11) rfl)) (by decide) (rm3_1_2_0 l Z a0 hw [] n0 a353 a387 r0 r0 r1 r1 r2 r2 r3 r3 r4 r4 r5 r5 r6 r6 r7 r7 mr0 mr0 mr2 mr2 mr4 mr4 mr6 mr6 u0 u1 u2 mu0 mu1 mu2 h437 zs437 A437 O437 yr0 (Nat.le_trans br0 (by decide)) yr0 br0 yr2 (Nat.le_trans br2 (by decide)) yr2 br2 yr4 (Nat.le_trans br4 (by decide)) yr4 br4 yr6 (Nat.le_trans br6 (by decide)) yr6 br6 yu0 bu0 yu1 bu1 yu2 bu2 rfl rfl rfl rfl) pd_2 rfl rfl (by rw [hml]; rfl) (pc' := 375) rfl (hb hby at_372) (argsL := [(.ref a353), (.ref a387), (.int (2 : Int32)), (.int (0 : Int32)), (.int (1 : Int32)), (.double u0), (.double u1), (.double u2)]) (rest := []) rfl (W := 0) (Nat.le_of_eq rfl) (by decide) (by decide) (by decide) (by decide) (fun v438 T438 h438 X438 hQ438 => ?_)
        obtain ⟨rfl, he438⟩ := hQ438
        rw [he438] at X438
        show Go p e below s n0 _ _ _ (T438.setTop (mkF m 375 #[.val (.int x0), .val (.int x1), .val (.int x2), .val (.int x3), .val (.int (1 : Int32)), .val (.int (2 : Int32)), .val (.int (3 : Int32)), .val (.double dd), .second, .val (.double ee), .second, .val (.double u0), .second, .val (.double u1), .second, .val (.double u2), .second, .val (.ref a316), .val (.ref a353), .val (.ref a387), .unset] [(.int (1 : Int32))]))
        refine g_istore X438 hx (pc' := 377) rfl (hb hby at_375) (l' := #[.val (.int x0), .val (.int x1), .val (.int x2), .val (.int x3), .val (.int (1 : Int32)), .val (.int (2 : Int32)), .val (.int (3 : Int32)), .val (.double dd), .second, .val (.double ee), .second, .val (.double u0), .second, .val (.double u1), .second, .val (.double u2), .second, .val (.ref a316), .val (.ref a353), .val (.ref a387), .val (.int (1 : Int32))]) rfl ?_
        refine g_iload X438 hx (pc' := 379) rfl (hb hby at_377) rfl ?_
        refine g_iconst X438 hx (pc' := 380) (z := (2 : Int32)) rfl (hb hby at_379) rfl ?_
        refine g_icmpN X438 hx (pcN := 383) (hb hby at_380) rfl (show ¬ (¬ (2 : Int32) = (2 : Int32)) from by decide) ?_
        refine g_iload X438 hx (pc' := 385) rfl (hb hby at_383) rfl ?_
        refine g_ifN X438 hx (pcN := 388) (hb hby at_385) rfl (show ¬ ((1 : Int32) = 0) from by decide) ?_
        refine g_aload X438 hx (pc' := 390) rfl (hb hby at_388) rfl rfl ?_
        refine g_aload X438 hx (pc' := 392) rfl (hb hby at_390) rfl rfl ?_
        refine g_iload X438 hx (pc' := 394) rfl (hb hby at_392) rfl ?_
        refine g_iconst X438 hx (pc' := 395) (z := (1 : Int32)) rfl (hb hby at_394) rfl ?_
        refine g_iload X438 hx (pc' := 397) rfl (hb hby at_395) rfl ?_
        refine g_dload X438 hx (pc' := 399) rfl (hb hby at_397) rfl ?_
        refine g_dload X438 hx (pc' := 401) rfl (hb hby at_399) rfl ?_
        refine g_dload X438 hx (pc' := 403) rfl (hb hby at_401) rfl ?_
        refine g_callS X438 hx hZ hown (hw _ (List.mem_of_getElem? (i := 9) rfl)) (hw _ (List.mem_of_getElem? (i := 10) rfl)) (hw _ (List.mem_of_getElem? (i := 2) rfl)) (hw _ (List.mem_of_getElem? (i := 11) rfl)) (by decide) (rm3_1_2_1 l Z a0 hw [] n0 a353 a387 r0 r0 r1 r1 r2 r2 r3 r3 r4 r4 r5 r5 r6 r6 r7 r7 mr1 mr1 mr3 mr3 mr5 mr5 mr7 mr7 u0 u1 u2 mu0 mu1 mu2 h437 zs437 A437 O437 yr1 (Nat.le_trans br1 (by decide)) yr1 br1 yr3 (Nat.le_trans br3 (by decide)) yr3 br3 yr5 (Nat.le_trans br5 (by decide)) yr5 br5 yr7 (Nat.le_trans br7 (by decide)) yr7 br7 yu0 bu0 yu1 bu1 yu2 bu2 rfl rfl rfl rfl) pd_2 rfl rfl (by rw [hml]; rfl) (pc' := 406) rfl (hb hby at_403) (argsL := [(.ref a353), (.ref a387), (.int (2 : Int32)), (.int (1 : Int32)), (.int (1 : Int32)), (.double u0), (.double u1), (.double u2)]) (rest := []) rfl (W := 0) (Nat.le_of_eq rfl) (by decide) (by decide) (by decide) (by decide) (fun v439 T439 h439 X439 hQ439 => ?_)
        obtain ⟨rfl, he439⟩ := hQ439
        rw [he439] at X439
        show Go p e below s n0 _ _ _ (T439.setTop (mkF m 406 #[.val (.int x0), .val (.int x1), .val (.int x2), .val (.int x3), .val (.int (1 : Int32)), .val (.int (2 : Int32)), .val (.int (3 : Int32)), .val (.double dd), .second, .val (.double ee), .second, .val (.double u0), .second, .val (.double u1), .second, .val (.double u2), .second, .val (.ref a316), .val (.ref a353), .val (.ref a387), .val (.int (1 : Int32))] [(.int (1 : Int32))]))
        refine g_ifN X439 hx (pcN := 409) (hb hby at_406) rfl (show ¬ ((1 : Int32) = 0) from by decide) ?_
        refine g_iconst X439 hx (pc' := 410) (z := (1 : Int32)) rfl (hb hby at_409) rfl ?_
        refine g_goto X439 hx (pc' := 414) (hb hby at_410) (by decide) (by decide) ?_
        refine g_istore X439 hx (pc' := 416) rfl (hb hby at_414) (l' := #[.val (.int x0), .val (.int x1), .val (.int x2), .val (.int x3), .val (.int (1 : Int32)), .val (.int (2 : Int32)), .val (.int (3 : Int32)), .val (.double dd), .second, .val (.double ee), .second, .val (.double u0), .second, .val (.double u1), .second, .val (.double u2), .second, .val (.ref a316), .val (.ref a353), .val (.ref a387), .val (.int (1 : Int32))]) rfl ?_
        refine g_goto X439 hx (pc' := 483) (hb hby at_416) (by decide) (by decide) ?_
        refine g_iload X439 hx (pc' := 485) rfl (hb hby at_483) rfl ?_
        exact g_retZ X439 hx hlk hret (Or.inr rfl) (hb hby at_485) (by decide) (by decide) (rfl)
    · subst qorder
      rcases hwidth with qwidth | qwidth
      · subst qwidth
        refine g_aload X426 hx (pc' := 346) rfl (hb hby at_344) rfl rfl ?_
        refine g_iload X426 hx (pc' := 348) rfl (hb hby at_346) rfl ?_
        refine g_iload X426 hx (pc' := 350) rfl (hb hby at_348) rfl ?_
        refine g_aload X426 hx (pc' := 352) rfl (hb hby at_350) rfl rfl ?_
        refine g_iload X426 hx (pc' := 354) rfl (hb hby at_352) rfl ?_
        refine g_callS X426 hx hZ hown (hw _ (List.mem_of_getElem? (i := 5) rfl)) (hw _ (List.mem_of_getElem? (i := 6) rfl)) (hw _ (List.mem_of_getElem? (i := 7) rfl)) (hw _ (List.mem_of_getElem? (i := 8) rfl)) (by decide) (rm2_2_1_3 l Z a0 hw [] n0 a316 a353 dd ee ee u0 dd ee u1 u2 dd ee ee ee mu0 mu1 mu2 r0 mr0 r1 mr1 r2 mr2 r3 mr3 r4 mr4 r5 mr5 r6 mr6 r7 mr7 h426 f427 f428 f429 ne353_a316 G_a353 yr0 br0 yr1 br1 yr2 br2 yr3 br3 yr4 br4 yr5 br5 yr6 br6 yr7 br7 yu0 bu0 yu1 bu1 yu2 bu2) pd_1 rfl rfl (by rw [hml]; rfl) (pc' := 357) rfl (hb hby at_354) (argsL := [(.ref a316), (.int (3 : Int32)), (.int (2 : Int32)), (.ref a353), (.int (1 : Int32))]) (rest := []) rfl (W := 0) (Nat.le_of_eq rfl) (by decide) (by decide) (by decide) (by decide) (fun v440 T440 h440 X440 hQ440 => ?_)
        obtain ⟨rfl, K440, s1, ys1, A440⟩ := hQ440
        have O440 := V426.keep K440 (ninS ne387_a353.symm nin0)
        have zs440 : n0 ≤ h440.size := Nat.le_trans f427 K440.1
        obtain ⟨ms1, ems1⟩ : ∃ z : Int, z = (mr1 - mu0 * mr0) := ⟨_, rfl⟩
        replace ys1 : Dy ms1 1074 s1 := by rw [ems1]; exact ys1
        have bs1 : ms1.natAbs ≤ 100000 := by
          rw [ems1]; exact own_b72 br1 bu0 br0
        show Go p e below s n0 _ _ _ (T440.setTop (mkF m 357 #[.val (.int x0), .val (.int x1), .val (.int x2), .val (.int x3), .val (.int (2 : Int32)), .val (.int (1 : Int32)), .val (.int (3 : Int32)), .val (.double dd), .second, .val (.double ee), .second, .val (.double u0), .second, .val (.double u1), .second, .val (.double u2), .second, .val (.ref a316), .val (.ref a353), .val (.ref a387), .unset] []))
        refine g_aload X440 hx (pc' := 359) rfl (hb hby at_357) rfl rfl ?_
        refine g_aload X440 hx (pc' := 361) rfl (hb hby at_359) rfl rfl ?_
        refine g_iload X440 hx (pc' := 363) rfl (hb hby at_361) rfl ?_
        refine g_iconst X440 hx (pc' := 364) (z := (0 : Int32)) rfl (hb hby at_363) rfl ?_
        refine g_iload X440 hx (pc' := 366) rfl (hb hby at_364) rfl ?_
        refine g_dload X440 hx (pc' := 368) rfl (hb hby at_366) rfl ?_
        refine g_dload X440 hx (pc' := 370) rfl (hb hby at_368) rfl ?_
        refine g_dload X440 hx (pc' := 372) rfl (hb hby at_370) rfl ?_
        refine g_callS X440 hx hZ hown (hw _ (List.mem_of_getElem? (i := 9) rfl)) (hw _ (List.mem_of_getElem? (i := 10) rfl)) (hw _ (List.mem_of_getElem? (i := 2) rfl)) (hw _ (List.mem_of_getElem? (i := 11) rfl)) (by decide) (rm3_2_1_0 l Z a0 hw [] n0 a353 a387 r0 r0 s1 r1 r2 r2 r3 r3 r4 r4 r5 r5 r6 r6 r7 r7 mr0 mr0 ms1 mr1 mr2 mr2 mr3 mr3 u0 u1 u2 mu0 mu1 mu2 h440 zs440 A440 O440 yr0 (Nat.le_trans br0 (by decide)) yr0 br0 ys1 bs1 yr1 br1 yr2 (Nat.le_trans br2 (by decide)) yr2 br2 yr3 (Nat.le_trans br3 (by decide)) yr3 br3 yu0 bu0 yu1 bu1 yu2 bu2 rfl (by rw [ems1]; exact own_e1 _ _) rfl rfl) pd_2 rfl rfl (by rw [hml]; rfl) (pc' := 375) rfl (hb hby at_372) (argsL := [(.ref a353), (.ref a387), (.int (1 : Int32)), (.int (0 : Int32)), (.int (2 : Int32)), (.double u0), (.double u1), (.double u2)]) (rest := []) rfl (W := 0) (Nat.le_of_eq rfl) (by decide) (by decide) (by decide) (by decide) (fun v441 T441 h441 X441 hQ441 => ?_)
        obtain ⟨rfl, he441⟩ := hQ441
        rw [he441] at X441
        show Go p e below s n0 _ _ _ (T441.setTop (mkF m 375 #[.val (.int x0), .val (.int x1), .val (.int x2), .val (.int x3), .val (.int (2 : Int32)), .val (.int (1 : Int32)), .val (.int (3 : Int32)), .val (.double dd), .second, .val (.double ee), .second, .val (.double u0), .second, .val (.double u1), .second, .val (.double u2), .second, .val (.ref a316), .val (.ref a353), .val (.ref a387), .unset] [(.int (1 : Int32))]))
        refine g_istore X441 hx (pc' := 377) rfl (hb hby at_375) (l' := #[.val (.int x0), .val (.int x1), .val (.int x2), .val (.int x3), .val (.int (2 : Int32)), .val (.int (1 : Int32)), .val (.int (3 : Int32)), .val (.double dd), .second, .val (.double ee), .second, .val (.double u0), .second, .val (.double u1), .second, .val (.double u2), .second, .val (.ref a316), .val (.ref a353), .val (.ref a387), .val (.int (1 : Int32))]) rfl ?_
        refine g_iload X441 hx (pc' := 379) rfl (hb hby at_377) rfl ?_
        refine g_iconst X441 hx (pc' := 380) (z := (2 : Int32)) rfl (hb hby at_379) rfl ?_
        refine g_icmpY X441 hx (pcY := 419) (hb hby at_380) (by decide) (by decide) (show ¬ (1 : Int32) = (2 : Int32) from by decide) ?_
        refine g_iload X441 hx (pc' := 421) rfl (hb hby at_419) rfl ?_
        refine g_ifN X441 hx (pcN := 424) (hb hby at_421) rfl (show ¬ ((1 : Int32) = 0) from by decide) ?_
        refine g_aload X441 hx (pc' := 426) rfl (hb hby at_424) rfl rfl ?_
        refine g_iconst X441 hx (pc' := 427) (z := (4 : Int32)) rfl (hb hby at_426) rfl ?_
        refine g_daload X441 hx hZ A440 (i := 4) (by decide) (show (4 : Nat) < 8 by decide) (v := r4) rfl (pc' := 428) rfl (hb hby at_427) ?_
        refine g_aload X441 hx (pc' := 430) rfl (hb hby at_428) rfl rfl ?_
        refine g_iconst X441 hx (pc' := 431) (z := (4 : Int32)) rfl (hb hby at_430) rfl ?_
        refine g_daload X441 hx hZ O440 (i := 4) (by decide) (show (4 : Nat) < 8 by decide) (v := r4) rfl (pc' := 432) rfl (hb hby at_431) ?_
        refine g_dcmp X441 hx (pc' := 433) (z := (0 : Int32)) rfl (hb hby at_432) (own_dyeq yr4 yr4 (by exact rfl)) ?_
        refine g_ifN X441 hx (pcN := 436) (hb hby at_433) rfl (show ¬ (¬ (0 : Int32) = 0) from by decide) ?_
        refine g_aload X441 hx (pc' := 438) rfl (hb hby at_436) rfl rfl ?_
        refine g_iconst X441 hx (pc' := 439) (z := (5 : Int32)) rfl (hb hby at_438) rfl ?_
        refine g_daload X441 hx hZ A440 (i := 5) (by decide) (show (5 : Nat) < 8 by decide) (v := r5) rfl (pc' := 440) rfl (hb hby at_439) ?_
        refine g_aload X441 hx (pc' := 442) rfl (hb hby at_440) rfl rfl ?_
        refine g_iconst X441 hx (pc' := 443) (z := (5 : Int32)) rfl (hb hby at_442) rfl ?_
        refine g_daload X441 hx hZ O440 (i := 5) (by decide) (show (5 : Nat) < 8 by decide) (v := r5) rfl (pc' := 444) rfl (hb hby at_443) ?_
        refine g_dcmp X441 hx (pc' := 445) (z := (0 : Int32)) rfl (hb hby at_444) (own_dyeq yr5 yr5 (by exact rfl)) ?_
        refine g_ifN X441 hx (pcN := 448) (hb hby at_445) rfl (show ¬ (¬ (0 : Int32) = 0) from by decide) ?_
        refine g_aload X441 hx (pc' := 450) rfl (hb hby at_448) rfl rfl ?_
        refine g_bipush X441 hx (pc' := 452) (z := (6 : Int32)) rfl (hb hby at_450) rfl ?_
        refine g_daload X441 hx hZ A440 (i := 6) (by decide) (show (6 : Nat) < 8 by decide) (v := r6) rfl (pc' := 453) rfl (hb hby at_452) ?_
        refine g_aload X441 hx (pc' := 455) rfl (hb hby at_453) rfl rfl ?_
        refine g_bipush X441 hx (pc' := 457) (z := (6 : Int32)) rfl (hb hby at_455) rfl ?_
        refine g_daload X441 hx hZ O440 (i := 6) (by decide) (show (6 : Nat) < 8 by decide) (v := r6) rfl (pc' := 458) rfl (hb hby at_457) ?_
        refine g_dcmp X441 hx (pc' := 459) (z := (0 : Int32)) rfl (hb hby at_458) (own_dyeq yr6 yr6 (by exact rfl)) ?_
        refine g_ifN X441 hx (pcN := 462) (hb hby at_459) rfl (show ¬ (¬ (0 : Int32) = 0) from by decide) ?_
        refine g_aload X441 hx (pc' := 464) rfl (hb hby at_462) rfl rfl ?_
        refine g_bipush X441 hx (pc' := 466) (z := (7 : Int32)) rfl (hb hby at_464) rfl ?_
        refine g_daload X441 hx hZ A440 (i := 7) (by decide) (show (7 : Nat) < 8 by decide) (v := r7) rfl (pc' := 467) rfl (hb hby at_466) ?_
        refine g_aload X441 hx (pc' := 469) rfl (hb hby at_467) rfl rfl ?_
        refine g_bipush X441 hx (pc' := 471) (z := (7 : Int32)) rfl (hb hby at_469) rfl ?_
        refine g_daload X441 hx hZ O440 (i := 7) (by decide) (show (7 : Nat) < 8 by decide) (v := r7) rfl (pc' := 472) rfl (hb hby at_471) ?_
        refine g_dcmp X441 hx (pc' := 473) (z := (0 : Int32)) rfl (hb hby at_472) (own_dyeq yr7 yr7 (by exact rfl)) ?_
        refine g_ifN X441 hx (pcN := 476) (hb hby at_473) rfl (show ¬ (¬ (0 : Int32) = 0) from by decide) ?_
        refine g_iconst X441 hx (pc' := 477) (z := (1 : Int32)) rfl (hb hby at_476) rfl ?_
        refine g_goto X441 hx (pc' := 481) (hb hby at_477) (by decide) (by decide) ?_
        refine g_istore X441 hx (pc' := 483) rfl (hb hby at_481) (l' := #[.val (.int x0), .val (.int x1), .val (.int x2), .val (.int x3), .val (.int (2 : Int32)), .val (.int (1 : Int32)), .val (.int (3 : Int32)), .val (.double dd), .second, .val (.double ee), .second, .val (.double u0), .second, .val (.double u1), .second, .val (.double u2), .second, .val (.ref a316), .val (.ref a353), .val (.ref a387), .val (.int (1 : Int32))]) rfl ?_
        refine g_iload X441 hx (pc' := 485) rfl (hb hby at_483) rfl ?_
        exact g_retZ X441 hx hlk hret (Or.inr rfl) (hb hby at_485) (by decide) (by decide) (rfl)
      · subst qwidth
        refine g_aload X426 hx (pc' := 346) rfl (hb hby at_344) rfl rfl ?_
        refine g_iload X426 hx (pc' := 348) rfl (hb hby at_346) rfl ?_
        refine g_iload X426 hx (pc' := 350) rfl (hb hby at_348) rfl ?_
        refine g_aload X426 hx (pc' := 352) rfl (hb hby at_350) rfl rfl ?_
        refine g_iload X426 hx (pc' := 354) rfl (hb hby at_352) rfl ?_
        refine g_callS X426 hx hZ hown (hw _ (List.mem_of_getElem? (i := 5) rfl)) (hw _ (List.mem_of_getElem? (i := 6) rfl)) (hw _ (List.mem_of_getElem? (i := 7) rfl)) (hw _ (List.mem_of_getElem? (i := 8) rfl)) (by decide) (rm2_2_2_3 l Z a0 hw [] n0 a316 a353 dd ee ee u0 dd ee u1 u2 dd ee ee ee mu0 mu1 mu2 r0 mr0 r1 mr1 r2 mr2 r3 mr3 r4 mr4 r5 mr5 r6 mr6 r7 mr7 h426 f427 f428 f429 ne353_a316 G_a353 yr0 br0 yr1 br1 yr2 br2 yr3 br3 yr4 br4 yr5 br5 yr6 br6 yr7 br7 yu0 bu0 yu1 bu1 yu2 bu2) pd_1 rfl rfl (by rw [hml]; rfl) (pc' := 357) rfl (hb hby at_354) (argsL := [(.ref a316), (.int (3 : Int32)), (.int (2 : Int32)), (.ref a353), (.int (2 : Int32))]) (rest := []) rfl (W := 0) (Nat.le_of_eq rfl) (by decide) (by decide) (by decide) (by decide) (fun v442 T442 h442 X442 hQ442 => ?_)
        obtain ⟨rfl, K442, s2, ys2, s3, ys3, A442⟩ := hQ442
        have O442 := V426.keep K442 (ninS ne387_a353.symm nin0)
        have zs442 : n0 ≤ h442.size := Nat.le_trans f427 K442.1
        obtain ⟨ms2, ems2⟩ : ∃ z : Int, z = (mr2 - mu0 * mr0) := ⟨_, rfl⟩
        replace ys2 : Dy ms2 1074 s2 := by rw [ems2]; exact ys2
        have bs2 : ms2.natAbs ≤ 100000 := by
          rw [ems2]; exact own_b72 br2 bu0 br0
        obtain ⟨ms3, ems3⟩ : ∃ z : Int, z = (mr3 - mu0 * mr1) := ⟨_, rfl⟩
        replace ys3 : Dy ms3 1074 s3 := by rw [ems3]; exact ys3
        have bs3 : ms3.natAbs ≤ 100000 := by
          rw [ems3]; exact own_b72 br3 bu0 br1
        show Go p e below s n0 _ _ _ (T442.setTop (mkF m 357 #[.val (.int x0), .val (.int x1), .val (.int x2), .val (.int x3), .val (.int (2 : Int32)), .val (.int (2 : Int32)), .val (.int (3 : Int32)), .val (.double dd), .second, .val (.double ee), .second, .val (.double u0), .second, .val (.double u1), .second, .val (.double u2), .second, .val (.ref a316), .val (.ref a353), .val (.ref a387), .unset] []))
        refine g_aload X442 hx (pc' := 359) rfl (hb hby at_357) rfl rfl ?_
        refine g_aload X442 hx (pc' := 361) rfl (hb hby at_359) rfl rfl ?_
        refine g_iload X442 hx (pc' := 363) rfl (hb hby at_361) rfl ?_
        refine g_iconst X442 hx (pc' := 364) (z := (0 : Int32)) rfl (hb hby at_363) rfl ?_
        refine g_iload X442 hx (pc' := 366) rfl (hb hby at_364) rfl ?_
        refine g_dload X442 hx (pc' := 368) rfl (hb hby at_366) rfl ?_
        refine g_dload X442 hx (pc' := 370) rfl (hb hby at_368) rfl ?_
        refine g_dload X442 hx (pc' := 372) rfl (hb hby at_370) rfl ?_
        refine g_callS X442 hx hZ hown (hw _ (List.mem_of_getElem? (i := 9) rfl)) (hw _ (List.mem_of_getElem? (i := 10) rfl)) (hw _ (List.mem_of_getElem? (i := 2) rfl)) (hw _ (List.mem_of_getElem? (i := 11) rfl)) (by decide) (rm3_2_2_0 l Z a0 hw [] n0 a353 a387 r0 r0 r1 r1 s2 r2 s3 r3 r4 r4 r5 r5 r6 r6 r7 r7 mr0 mr0 ms2 mr2 mr4 mr4 mr6 mr6 u0 u1 u2 mu0 mu1 mu2 h442 zs442 A442 O442 yr0 (Nat.le_trans br0 (by decide)) yr0 br0 ys2 bs2 yr2 br2 yr4 (Nat.le_trans br4 (by decide)) yr4 br4 yr6 (Nat.le_trans br6 (by decide)) yr6 br6 yu0 bu0 yu1 bu1 yu2 bu2 rfl (by rw [ems2]; exact own_e1 _ _) rfl rfl) pd_2 rfl rfl (by rw [hml]; rfl) (pc' := 375) rfl (hb hby at_372) (argsL := [(.ref a353), (.ref a387), (.int (2 : Int32)), (.int (0 : Int32)), (.int (2 : Int32)), (.double u0), (.double u1), (.double u2)]) (rest := []) rfl (W := 0) (Nat.le_of_eq rfl) (by decide) (by decide) (by decide) (by decide) (fun v443 T443 h443 X443 hQ443 => ?_)
        obtain ⟨rfl, he443⟩ := hQ443
        rw [he443] at X443
        show Go p e below s n0 _ _ _ (T443.setTop (mkF m 375 #[.val (.int x0), .val (.int x1), .val (.int x2), .val (.int x3), .val (.int (2 : Int32)), .val (.int (2 : Int32)), .val (.int (3 : Int32)), .val (.double dd), .second, .val (.double ee), .second, .val (.double u0), .second, .val (.double u1), .second, .val (.double u2), .second, .val (.ref a316), .val (.ref a353), .val (.ref a387), .unset] [(.int (1 : Int32))]))
        refine g_istore X443 hx (pc' := 377) rfl (hb hby at_375) (l' := #[.val (.int x0), .val (.int x1), .val (.int x2), .val (.int x3), .val (.int (2 : Int32)), .val (.int (2 : Int32)), .val (.int (3 : Int32)), .val (.double dd), .second, .val (.double ee), .second, .val (.double u0), .second, .val (.double u1), .second, .val (.double u2), .second, .val (.ref a316), .val (.ref a353), .val (.ref a387), .val (.int (1 : Int32))]) rfl ?_
        refine g_iload X443 hx (pc' := 379) rfl (hb hby at_377) rfl ?_
        refine g_iconst X443 hx (pc' := 380) (z := (2 : Int32)) rfl (hb hby at_379) rfl ?_
        refine g_icmpN X443 hx (pcN := 383) (hb hby at_380) rfl (show ¬ (¬ (2 : Int32) = (2 : Int32)) from by decide) ?_
        refine g_iload X443 hx (pc' := 385) rfl (hb hby at_383) rfl ?_
        refine g_ifN X443 hx (pcN := 388) (hb hby at_385) rfl (show ¬ ((1 : Int32) = 0) from by decide) ?_
        refine g_aload X443 hx (pc' := 390) rfl (hb hby at_388) rfl rfl ?_
        refine g_aload X443 hx (pc' := 392) rfl (hb hby at_390) rfl rfl ?_
        refine g_iload X443 hx (pc' := 394) rfl (hb hby at_392) rfl ?_
        refine g_iconst X443 hx (pc' := 395) (z := (1 : Int32)) rfl (hb hby at_394) rfl ?_
        refine g_iload X443 hx (pc' := 397) rfl (hb hby at_395) rfl ?_
        refine g_dload X443 hx (pc' := 399) rfl (hb hby at_397) rfl ?_
        refine g_dload X443 hx (pc' := 401) rfl (hb hby at_399) rfl ?_
        refine g_dload X443 hx (pc' := 403) rfl (hb hby at_401) rfl ?_
        refine g_callS X443 hx hZ hown (hw _ (List.mem_of_getElem? (i := 9) rfl)) (hw _ (List.mem_of_getElem? (i := 10) rfl)) (hw _ (List.mem_of_getElem? (i := 2) rfl)) (hw _ (List.mem_of_getElem? (i := 11) rfl)) (by decide) (rm3_2_2_1 l Z a0 hw [] n0 a353 a387 r0 r0 r1 r1 s2 r2 s3 r3 r4 r4 r5 r5 r6 r6 r7 r7 mr1 mr1 ms3 mr3 mr5 mr5 mr7 mr7 u0 u1 u2 mu0 mu1 mu2 h442 zs442 A442 O442 yr1 (Nat.le_trans br1 (by decide)) yr1 br1 ys3 bs3 yr3 br3 yr5 (Nat.le_trans br5 (by decide)) yr5 br5 yr7 (Nat.le_trans br7 (by decide)) yr7 br7 yu0 bu0 yu1 bu1 yu2 bu2 rfl (by rw [ems3]; exact own_e1 _ _) rfl rfl) pd_2 rfl rfl (by rw [hml]; rfl) (pc' := 406) rfl (hb hby at_403) (argsL := [(.ref a353), (.ref a387), (.int (2 : Int32)), (.int (1 : Int32)), (.int (2 : Int32)), (.double u0), (.double u1), (.double u2)]) (rest := []) rfl (W := 0) (Nat.le_of_eq rfl) (by decide) (by decide) (by decide) (by decide) (fun v444 T444 h444 X444 hQ444 => ?_)
        obtain ⟨rfl, he444⟩ := hQ444
        rw [he444] at X444
        show Go p e below s n0 _ _ _ (T444.setTop (mkF m 406 #[.val (.int x0), .val (.int x1), .val (.int x2), .val (.int x3), .val (.int (2 : Int32)), .val (.int (2 : Int32)), .val (.int (3 : Int32)), .val (.double dd), .second, .val (.double ee), .second, .val (.double u0), .second, .val (.double u1), .second, .val (.double u2), .second, .val (.ref a316), .val (.ref a353), .val (.ref a387), .val (.int (1 : Int32))] [(.int (1 : Int32))]))
        refine g_ifN X444 hx (pcN := 409) (hb hby at_406) rfl (show ¬ ((1 : Int32) = 0) from by decide) ?_
        refine g_iconst X444 hx (pc' := 410) (z := (1 : Int32)) rfl (hb hby at_409) rfl ?_
        refine g_goto X444 hx (pc' := 414) (hb hby at_410) (by decide) (by decide) ?_
        refine g_istore X444 hx (pc' := 416) rfl (hb hby at_414) (l' := #[.val (.int x0), .val (.int x1), .val (.int x2), .val (.int x3), .val (.int (2 : Int32)), .val (.int (2 : Int32)), .val (.int (3 : Int32)), .val (.double dd), .second, .val (.double ee), .second, .val (.double u0), .second, .val (.double u1), .second, .val (.double u2), .second, .val (.ref a316), .val (.ref a353), .val (.ref a387), .val (.int (1 : Int32))]) rfl ?_
        refine g_goto X444 hx (pc' := 483) (hb hby at_416) (by decide) (by decide) ?_
        refine g_iload X444 hx (pc' := 485) rfl (hb hby at_483) rfl ?_
        exact g_retZ X444 hx hlk hret (Or.inr rfl) (hb hby at_485) (by decide) (by decide) (rfl)
    · subst qorder
      rcases hwidth with qwidth | qwidth
      · subst qwidth
        refine g_aload X426 hx (pc' := 346) rfl (hb hby at_344) rfl rfl ?_
        refine g_iload X426 hx (pc' := 348) rfl (hb hby at_346) rfl ?_
        refine g_iload X426 hx (pc' := 350) rfl (hb hby at_348) rfl ?_
        refine g_aload X426 hx (pc' := 352) rfl (hb hby at_350) rfl rfl ?_
        refine g_iload X426 hx (pc' := 354) rfl (hb hby at_352) rfl ?_
        refine g_callS X426 hx hZ hown (hw _ (List.mem_of_getElem? (i := 5) rfl)) (hw _ (List.mem_of_getElem? (i := 6) rfl)) (hw _ (List.mem_of_getElem? (i := 7) rfl)) (hw _ (List.mem_of_getElem? (i := 8) rfl)) (by decide) (rm2_3_1_3 l Z a0 hw [] n0 a316 a353 dd ee ee u0 dd ee u1 u2 dd ee ee ee mu0 mu1 mu2 r0 mr0 r1 mr1 r2 mr2 r3 mr3 r4 mr4 r5 mr5 r6 mr6 r7 mr7 h426 f427 f428 f429 ne353_a316 G_a353 yr0 br0 yr1 br1 yr2 br2 yr3 br3 yr4 br4 yr5 br5 yr6 br6 yr7 br7 yu0 bu0 yu1 bu1 yu2 bu2) pd_1 rfl rfl (by rw [hml]; rfl) (pc' := 357) rfl (hb hby at_354) (argsL := [(.ref a316), (.int (3 : Int32)), (.int (3 : Int32)), (.ref a353), (.int (1 : Int32))]) (rest := []) rfl (W := 0) (Nat.le_of_eq rfl) (by decide) (by decide) (by decide) (by decide) (fun v445 T445 h445 X445 hQ445 => ?_)
        obtain ⟨rfl, K445, s1, ys1, s2, ys2, A445⟩ := hQ445
        have O445 := V426.keep K445 (ninS ne387_a353.symm nin0)
        have zs445 : n0 ≤ h445.size := Nat.le_trans f427 K445.1
        obtain ⟨ms1, ems1⟩ : ∃ z : Int, z = (mr1 - mu0 * mr0) := ⟨_, rfl⟩
        replace ys1 : Dy ms1 1074 s1 := by rw [ems1]; exact ys1
        have bs1 : ms1.natAbs ≤ 100000 := by
          rw [ems1]; exact own_b72 br1 bu0 br0
        obtain ⟨ms2, ems2⟩ : ∃ z : Int, z = (mr2 - mu1 * mr0 - mu2 * (mr1 - mu0 * mr0)) := ⟨_, rfl⟩
        replace ys2 : Dy ms2 1074 s2 := by rw [ems2]; exact ys2
        have bs2 : ms2.natAbs ≤ 100000 := by
          rw [ems2]; exact own_b648 br2 bu1 br0 bu2 br1 bu0
        show Go p e below s n0 _ _ _ (T445.setTop (mkF m 357 #[.val (.int x0), .val (.int x1), .val (.int x2), .val (.int x3), .val (.int (3 : Int32)), .val (.int (1 : Int32)), .val (.int (3 : Int32)), .val (.double dd), .second, .val (.double ee), .second, .val (.double u0), .second, .val (.double u1), .second, .val (.double u2), .second, .val (.ref a316), .val (.ref a353), .val (.ref a387), .unset] []))
        refine g_aload X445 hx (pc' := 359) rfl (hb hby at_357) rfl rfl ?_
        refine g_aload X445 hx (pc' := 361) rfl (hb hby at_359) rfl rfl ?_
        refine g_iload X445 hx (pc' := 363) rfl (hb hby at_361) rfl ?_
        refine g_iconst X445 hx (pc' := 364) (z := (0 : Int32)) rfl (hb hby at_363) rfl ?_
        refine g_iload X445 hx (pc' := 366) rfl (hb hby at_364) rfl ?_
        refine g_dload X445 hx (pc' := 368) rfl (hb hby at_366) rfl ?_
        refine g_dload X445 hx (pc' := 370) rfl (hb hby at_368) rfl ?_
        refine g_dload X445 hx (pc' := 372) rfl (hb hby at_370) rfl ?_
        refine g_callS X445 hx hZ hown (hw _ (List.mem_of_getElem? (i := 9) rfl)) (hw _ (List.mem_of_getElem? (i := 10) rfl)) (hw _ (List.mem_of_getElem? (i := 2) rfl)) (hw _ (List.mem_of_getElem? (i := 11) rfl)) (by decide) (rm3_3_1_0 l Z a0 hw [] n0 a353 a387 r0 r0 s1 r1 s2 r2 r3 r3 r4 r4 r5 r5 r6 r6 r7 r7 mr0 mr0 ms1 mr1 ms2 mr2 mr3 mr3 u0 u1 u2 mu0 mu1 mu2 h445 zs445 A445 O445 yr0 (Nat.le_trans br0 (by decide)) yr0 br0 ys1 bs1 yr1 br1 ys2 bs2 yr2 br2 yr3 (Nat.le_trans br3 (by decide)) yr3 br3 yu0 bu0 yu1 bu1 yu2 bu2 rfl (by rw [ems1]; exact own_e1 _ _) (by rw [ems2, ems1]; exact own_e2 _ _ _) rfl) pd_2 rfl rfl (by rw [hml]; rfl) (pc' := 375) rfl (hb hby at_372) (argsL := [(.ref a353), (.ref a387), (.int (1 : Int32)), (.int (0 : Int32)), (.int (3 : Int32)), (.double u0), (.double u1), (.double u2)]) (rest := []) rfl (W := 0) (Nat.le_of_eq rfl) (by decide) (by decide) (by decide) (by decide) (fun v446 T446 h446 X446 hQ446 => ?_)
        obtain ⟨rfl, he446⟩ := hQ446
        rw [he446] at X446
        show Go p e below s n0 _ _ _ (T446.setTop (mkF m 375 #[.val (.int x0), .val (.int x1), .val (.int x2), .val (.int x3), .val (.int (3 : Int32)), .val (.int (1 : Int32)), .val (.int (3 : Int32)), .val (.double dd), .second, .val (.double ee), .second, .val (.double u0), .second, .val (.double u1), .second, .val (.double u2), .second, .val (.ref a316), .val (.ref a353), .val (.ref a387), .unset] [(.int (1 : Int32))]))
        refine g_istore X446 hx (pc' := 377) rfl (hb hby at_375) (l' := #[.val (.int x0), .val (.int x1), .val (.int x2), .val (.int x3), .val (.int (3 : Int32)), .val (.int (1 : Int32)), .val (.int (3 : Int32)), .val (.double dd), .second, .val (.double ee), .second, .val (.double u0), .second, .val (.double u1), .second, .val (.double u2), .second, .val (.ref a316), .val (.ref a353), .val (.ref a387), .val (.int (1 : Int32))]) rfl ?_
        refine g_iload X446 hx (pc' := 379) rfl (hb hby at_377) rfl ?_
        refine g_iconst X446 hx (pc' := 380) (z := (2 : Int32)) rfl (hb hby at_379) rfl ?_
        refine g_icmpY X446 hx (pcY := 419) (hb hby at_380) (by decide) (by decide) (show ¬ (1 : Int32) = (2 : Int32) from by decide) ?_
        refine g_iload X446 hx (pc' := 421) rfl (hb hby at_419) rfl ?_
        refine g_ifN X446 hx (pcN := 424) (hb hby at_421) rfl (show ¬ ((1 : Int32) = 0) from by decide) ?_
        refine g_aload X446 hx (pc' := 426) rfl (hb hby at_424) rfl rfl ?_
        refine g_iconst X446 hx (pc' := 427) (z := (4 : Int32)) rfl (hb hby at_426) rfl ?_
        refine g_daload X446 hx hZ A445 (i := 4) (by decide) (show (4 : Nat) < 8 by decide) (v := r4) rfl (pc' := 428) rfl (hb hby at_427) ?_
        refine g_aload X446 hx (pc' := 430) rfl (hb hby at_428) rfl rfl ?_
        refine g_iconst X446 hx (pc' := 431) (z := (4 : Int32)) rfl (hb hby at_430) rfl ?_
        refine g_daload X446 hx hZ O445 (i := 4) (by decide) (show (4 : Nat) < 8 by decide) (v := r4) rfl (pc' := 432) rfl (hb hby at_431) ?_
        refine g_dcmp X446 hx (pc' := 433) (z := (0 : Int32)) rfl (hb hby at_432) (own_dyeq yr4 yr4 (by exact rfl)) ?_
        refine g_ifN X446 hx (pcN := 436) (hb hby at_433) rfl (show ¬ (¬ (0 : Int32) = 0) from by decide) ?_
        refine g_aload X446 hx (pc' := 438) rfl (hb hby at_436) rfl rfl ?_
        refine g_iconst X446 hx (pc' := 439) (z := (5 : Int32)) rfl (hb hby at_438) rfl ?_
        refine g_daload X446 hx hZ A445 (i := 5) (by decide) (show (5 : Nat) < 8 by decide) (v := r5) rfl (pc' := 440) rfl (hb hby at_439) ?_
        refine g_aload X446 hx (pc' := 442) rfl (hb hby at_440) rfl rfl ?_
        refine g_iconst X446 hx (pc' := 443) (z := (5 : Int32)) rfl (hb hby at_442) rfl ?_
        refine g_daload X446 hx hZ O445 (i := 5) (by decide) (show (5 : Nat) < 8 by decide) (v := r5) rfl (pc' := 444) rfl (hb hby at_443) ?_
        refine g_dcmp X446 hx (pc' := 445) (z := (0 : Int32)) rfl (hb hby at_444) (own_dyeq yr5 yr5 (by exact rfl)) ?_
        refine g_ifN X446 hx (pcN := 448) (hb hby at_445) rfl (show ¬ (¬ (0 : Int32) = 0) from by decide) ?_
        refine g_aload X446 hx (pc' := 450) rfl (hb hby at_448) rfl rfl ?_
        refine g_bipush X446 hx (pc' := 452) (z := (6 : Int32)) rfl (hb hby at_450) rfl ?_
        refine g_daload X446 hx hZ A445 (i := 6) (by decide) (show (6 : Nat) < 8 by decide) (v := r6) rfl (pc' := 453) rfl (hb hby at_452) ?_
        refine g_aload X446 hx (pc' := 455) rfl (hb hby at_453) rfl rfl ?_
        refine g_bipush X446 hx (pc' := 457) (z := (6 : Int32)) rfl (hb hby at_455) rfl ?_
        refine g_daload X446 hx hZ O445 (i := 6) (by decide) (show (6 : Nat) < 8 by decide) (v := r6) rfl (pc' := 458) rfl (hb hby at_457) ?_
        refine g_dcmp X446 hx (pc' := 459) (z := (0 : Int32)) rfl (hb hby at_458) (own_dyeq yr6 yr6 (by exact rfl)) ?_
        refine g_ifN X446 hx (pcN := 462) (hb hby at_459) rfl (show ¬ (¬ (0 : Int32) = 0) from by decide) ?_
        refine g_aload X446 hx (pc' := 464) rfl (hb hby at_462) rfl rfl ?_
        refine g_bipush X446 hx (pc' := 466) (z := (7 : Int32)) rfl (hb hby at_464) rfl ?_
        refine g_daload X446 hx hZ A445 (i := 7) (by decide) (show (7 : Nat) < 8 by decide) (v := r7) rfl (pc' := 467) rfl (hb hby at_466) ?_
        refine g_aload X446 hx (pc' := 469) rfl (hb hby at_467) rfl rfl ?_
        refine g_bipush X446 hx (pc' := 471) (z := (7 : Int32)) rfl (hb hby at_469) rfl ?_
        refine g_daload X446 hx hZ O445 (i := 7) (by decide) (show (7 : Nat) < 8 by decide) (v := r7) rfl (pc' := 472) rfl (hb hby at_471) ?_
        refine g_dcmp X446 hx (pc' := 473) (z := (0 : Int32)) rfl (hb hby at_472) (own_dyeq yr7 yr7 (by exact rfl)) ?_
        refine g_ifN X446 hx (pcN := 476) (hb hby at_473) rfl (show ¬ (¬ (0 : Int32) = 0) from by decide) ?_
        refine g_iconst X446 hx (pc' := 477) (z := (1 : Int32)) rfl (hb hby at_476) rfl ?_
        refine g_goto X446 hx (pc' := 481) (hb hby at_477) (by decide) (by decide) ?_
        refine g_istore X446 hx (pc' := 483) rfl (hb hby at_481) (l' := #[.val (.int x0), .val (.int x1), .val (.int x2), .val (.int x3), .val (.int (3 : Int32)), .val (.int (1 : Int32)), .val (.int (3 : Int32)), .val (.double dd), .second, .val (.double ee), .second, .val (.double u0), .second, .val (.double u1), .second, .val (.double u2), .second, .val (.ref a316), .val (.ref a353), .val (.ref a387), .val (.int (1 : Int32))]) rfl ?_
        refine g_iload X446 hx (pc' := 485) rfl (hb hby at_483) rfl ?_
        exact g_retZ X446 hx hlk hret (Or.inr rfl) (hb hby at_485) (by decide) (by decide) (rfl)
      · subst qwidth
        refine g_aload X426 hx (pc' := 346) rfl (hb hby at_344) rfl rfl ?_
        refine g_iload X426 hx (pc' := 348) rfl (hb hby at_346) rfl ?_
        refine g_iload X426 hx (pc' := 350) rfl (hb hby at_348) rfl ?_
        refine g_aload X426 hx (pc' := 352) rfl (hb hby at_350) rfl rfl ?_
        refine g_iload X426 hx (pc' := 354) rfl (hb hby at_352) rfl ?_
        refine g_callS X426 hx hZ hown (hw _ (List.mem_of_getElem? (i := 5) rfl)) (hw _ (List.mem_of_getElem? (i := 6) rfl)) (hw _ (List.mem_of_getElem? (i := 7) rfl)) (hw _ (List.mem_of_getElem? (i := 8) rfl)) (by decide) (rm2_3_2_3 l Z a0 hw [] n0 a316 a353 dd ee ee u0 dd ee u1 u2 dd ee ee ee mu0 mu1 mu2 r0 mr0 r1 mr1 r2 mr2 r3 mr3 r4 mr4 r5 mr5 r6 mr6 r7 mr7 h426 f427 f428 f429 ne353_a316 G_a353 yr0 br0 yr1 br1 yr2 br2 yr3 br3 yr4 br4 yr5 br5 yr6 br6 yr7 br7 yu0 bu0 yu1 bu1 yu2 bu2) pd_1 rfl rfl (by rw [hml]; rfl) (pc' := 357) rfl (hb hby at_354) (argsL := [(.ref a316), (.int (3 : Int32)), (.int (3 : Int32)), (.ref a353), (.int (2 : Int32))]) (rest := []) rfl (W := 0) (Nat.le_of_eq rfl) (by decide) (by decide) (by decide) (by decide) (fun v447 T447 h447 X447 hQ447 => ?_)
        obtain ⟨rfl, K447, s2, ys2, s3, ys3, s4, ys4, s5, ys5, A447⟩ := hQ447
        have O447 := V426.keep K447 (ninS ne387_a353.symm nin0)
        have zs447 : n0 ≤ h447.size := Nat.le_trans f427 K447.1
        obtain ⟨ms2, ems2⟩ : ∃ z : Int, z = (mr2 - mu0 * mr0) := ⟨_, rfl⟩
        replace ys2 : Dy ms2 1074 s2 := by rw [ems2]; exact ys2
        have bs2 : ms2.natAbs ≤ 100000 := by
          rw [ems2]; exact own_b72 br2 bu0 br0
        obtain ⟨ms3, ems3⟩ : ∃ z : Int, z = (mr3 - mu0 * mr1) := ⟨_, rfl⟩
        replace ys3 : Dy ms3 1074 s3 := by rw [ems3]; exact ys3
        have bs3 : ms3.natAbs ≤ 100000 := by
          rw [ems3]; exact own_b72 br3 bu0 br1
        obtain ⟨ms4, ems4⟩ : ∃ z : Int, z = (mr4 - mu1 * mr0 - mu2 * (mr2 - mu0 * mr0)) := ⟨_, rfl⟩
        replace ys4 : Dy ms4 1074 s4 := by rw [ems4]; exact ys4
        have bs4 : ms4.natAbs ≤ 100000 := by
          rw [ems4]; exact own_b648 br4 bu1 br0 bu2 br2 bu0
        obtain ⟨ms5, ems5⟩ : ∃ z : Int, z = (mr5 - mu1 * mr1 - mu2 * (mr3 - mu0 * mr1)) := ⟨_, rfl⟩
        replace ys5 : Dy ms5 1074 s5 := by rw [ems5]; exact ys5
        have bs5 : ms5.natAbs ≤ 100000 := by
          rw [ems5]; exact own_b648 br5 bu1 br1 bu2 br3 bu0
        show Go p e below s n0 _ _ _ (T447.setTop (mkF m 357 #[.val (.int x0), .val (.int x1), .val (.int x2), .val (.int x3), .val (.int (3 : Int32)), .val (.int (2 : Int32)), .val (.int (3 : Int32)), .val (.double dd), .second, .val (.double ee), .second, .val (.double u0), .second, .val (.double u1), .second, .val (.double u2), .second, .val (.ref a316), .val (.ref a353), .val (.ref a387), .unset] []))
        refine g_aload X447 hx (pc' := 359) rfl (hb hby at_357) rfl rfl ?_
        refine g_aload X447 hx (pc' := 361) rfl (hb hby at_359) rfl rfl ?_
        refine g_iload X447 hx (pc' := 363) rfl (hb hby at_361) rfl ?_
        refine g_iconst X447 hx (pc' := 364) (z := (0 : Int32)) rfl (hb hby at_363) rfl ?_
        refine g_iload X447 hx (pc' := 366) rfl (hb hby at_364) rfl ?_
        refine g_dload X447 hx (pc' := 368) rfl (hb hby at_366) rfl ?_
        refine g_dload X447 hx (pc' := 370) rfl (hb hby at_368) rfl ?_
        refine g_dload X447 hx (pc' := 372) rfl (hb hby at_370) rfl ?_
        refine g_callS X447 hx hZ hown (hw _ (List.mem_of_getElem? (i := 9) rfl)) (hw _ (List.mem_of_getElem? (i := 10) rfl)) (hw _ (List.mem_of_getElem? (i := 2) rfl)) (hw _ (List.mem_of_getElem? (i := 11) rfl)) (by decide) (rm3_3_2_0 l Z a0 hw [] n0 a353 a387 r0 r0 r1 r1 s2 r2 s3 r3 s4 r4 s5 r5 r6 r6 r7 r7 mr0 mr0 ms2 mr2 ms4 mr4 mr6 mr6 u0 u1 u2 mu0 mu1 mu2 h447 zs447 A447 O447 yr0 (Nat.le_trans br0 (by decide)) yr0 br0 ys2 bs2 yr2 br2 ys4 bs4 yr4 br4 yr6 (Nat.le_trans br6 (by decide)) yr6 br6 yu0 bu0 yu1 bu1 yu2 bu2 rfl (by rw [ems2]; exact own_e1 _ _) (by rw [ems4, ems2]; exact own_e2 _ _ _) rfl) pd_2 rfl rfl (by rw [hml]; rfl) (pc' := 375) rfl (hb hby at_372) (argsL := [(.ref a353), (.ref a387), (.int (2 : Int32)), (.int (0 : Int32)), (.int (3 : Int32)), (.double u0), (.double u1), (.double u2)]) (rest := []) rfl (W := 0) (Nat.le_of_eq rfl) (by decide) (by decide) (by decide) (by decide) (fun v448 T448 h448 X448 hQ448 => ?_)
        obtain ⟨rfl, he448⟩ := hQ448
        rw [he448] at X448
        show Go p e below s n0 _ _ _ (T448.setTop (mkF m 375 #[.val (.int x0), .val (.int x1), .val (.int x2), .val (.int x3), .val (.int (3 : Int32)), .val (.int (2 : Int32)), .val (.int (3 : Int32)), .val (.double dd), .second, .val (.double ee), .second, .val (.double u0), .second, .val (.double u1), .second, .val (.double u2), .second, .val (.ref a316), .val (.ref a353), .val (.ref a387), .unset] [(.int (1 : Int32))]))
        refine g_istore X448 hx (pc' := 377) rfl (hb hby at_375) (l' := #[.val (.int x0), .val (.int x1), .val (.int x2), .val (.int x3), .val (.int (3 : Int32)), .val (.int (2 : Int32)), .val (.int (3 : Int32)), .val (.double dd), .second, .val (.double ee), .second, .val (.double u0), .second, .val (.double u1), .second, .val (.double u2), .second, .val (.ref a316), .val (.ref a353), .val (.ref a387), .val (.int (1 : Int32))]) rfl ?_
        refine g_iload X448 hx (pc' := 379) rfl (hb hby at_377) rfl ?_
        refine g_iconst X448 hx (pc' := 380) (z := (2 : Int32)) rfl (hb hby at_379) rfl ?_
        refine g_icmpN X448 hx (pcN := 383) (hb hby at_380) rfl (show ¬ (¬ (2 : Int32) = (2 : Int32)) from by decide) ?_
        refine g_iload X448 hx (pc' := 385) rfl (hb hby at_383) rfl ?_
        refine g_ifN X448 hx (pcN := 388) (hb hby at_385) rfl (show ¬ ((1 : Int32) = 0) from by decide) ?_
        refine g_aload X448 hx (pc' := 390) rfl (hb hby at_388) rfl rfl ?_
        refine g_aload X448 hx (pc' := 392) rfl (hb hby at_390) rfl rfl ?_
        refine g_iload X448 hx (pc' := 394) rfl (hb hby at_392) rfl ?_
        refine g_iconst X448 hx (pc' := 395) (z := (1 : Int32)) rfl (hb hby at_394) rfl ?_
        refine g_iload X448 hx (pc' := 397) rfl (hb hby at_395) rfl ?_
        refine g_dload X448 hx (pc' := 399) rfl (hb hby at_397) rfl ?_
        refine g_dload X448 hx (pc' := 401) rfl (hb hby at_399) rfl ?_
        refine g_dload X448 hx (pc' := 403) rfl (hb hby at_401) rfl ?_
        refine g_callS X448 hx hZ hown (hw _ (List.mem_of_getElem? (i := 9) rfl)) (hw _ (List.mem_of_getElem? (i := 10) rfl)) (hw _ (List.mem_of_getElem? (i := 2) rfl)) (hw _ (List.mem_of_getElem? (i := 11) rfl)) (by decide) (rm3_3_2_1 l Z a0 hw [] n0 a353 a387 r0 r0 r1 r1 s2 r2 s3 r3 s4 r4 s5 r5 r6 r6 r7 r7 mr1 mr1 ms3 mr3 ms5 mr5 mr7 mr7 u0 u1 u2 mu0 mu1 mu2 h447 zs447 A447 O447 yr1 (Nat.le_trans br1 (by decide)) yr1 br1 ys3 bs3 yr3 br3 ys5 bs5 yr5 br5 yr7 (Nat.le_trans br7 (by decide)) yr7 br7 yu0 bu0 yu1 bu1 yu2 bu2 rfl (by rw [ems3]; exact own_e1 _ _) (by rw [ems5, ems3]; exact own_e2 _ _ _) rfl) pd_2 rfl rfl (by rw [hml]; rfl) (pc' := 406) rfl (hb hby at_403) (argsL := [(.ref a353), (.ref a387), (.int (2 : Int32)), (.int (1 : Int32)), (.int (3 : Int32)), (.double u0), (.double u1), (.double u2)]) (rest := []) rfl (W := 0) (Nat.le_of_eq rfl) (by decide) (by decide) (by decide) (by decide) (fun v449 T449 h449 X449 hQ449 => ?_)
        obtain ⟨rfl, he449⟩ := hQ449
        rw [he449] at X449
        show Go p e below s n0 _ _ _ (T449.setTop (mkF m 406 #[.val (.int x0), .val (.int x1), .val (.int x2), .val (.int x3), .val (.int (3 : Int32)), .val (.int (2 : Int32)), .val (.int (3 : Int32)), .val (.double dd), .second, .val (.double ee), .second, .val (.double u0), .second, .val (.double u1), .second, .val (.double u2), .second, .val (.ref a316), .val (.ref a353), .val (.ref a387), .val (.int (1 : Int32))] [(.int (1 : Int32))]))
        refine g_ifN X449 hx (pcN := 409) (hb hby at_406) rfl (show ¬ ((1 : Int32) = 0) from by decide) ?_
        refine g_iconst X449 hx (pc' := 410) (z := (1 : Int32)) rfl (hb hby at_409) rfl ?_
        refine g_goto X449 hx (pc' := 414) (hb hby at_410) (by decide) (by decide) ?_
        refine g_istore X449 hx (pc' := 416) rfl (hb hby at_414) (l' := #[.val (.int x0), .val (.int x1), .val (.int x2), .val (.int x3), .val (.int (3 : Int32)), .val (.int (2 : Int32)), .val (.int (3 : Int32)), .val (.double dd), .second, .val (.double ee), .second, .val (.double u0), .second, .val (.double u1), .second, .val (.double u2), .second, .val (.ref a316), .val (.ref a353), .val (.ref a387), .val (.int (1 : Int32))]) rfl ?_
        refine g_goto X449 hx (pc' := 483) (hb hby at_416) (by decide) (by decide) ?_
        refine g_iload X449 hx (pc' := 485) rfl (hb hby at_483) rfl ?_
        exact g_retZ X449 hx hlk hret (Or.inr rfl) (hb hby at_485) (by decide) (by decide) (rfl)
  · subst qstride
    refine g_aload X339 hx (pc' := 145) rfl (hb hby at_143) rfl rfl ?_
    refine g_iload X339 hx (pc' := 147) rfl (hb hby at_145) rfl ?_
    refine g_dload X339 hx (pc' := 149) rfl (hb hby at_147) rfl ?_
    refine g_dastore X339 hx hZ V339 (i := 4) (by decide) (show (4 : Nat) < 12 by decide) G_a316 (pc' := 150) rfl (hb hby at_149) (fun T450 h450 X450 W450 N450 => ?_)
    have f451 := (by have q := (Keep.of_wr W450).1; exact Nat.le_trans f340 q : n0 ≤ h450.size)
    have V450 : AD Z h450 a316 [ee, ee, ee, ee, u0, ee, ee, ee, ee, ee, ee, ee] := N450
    refine g_aload X450 hx (pc' := 152) rfl (hb hby at_150) rfl rfl ?_
    refine g_iconst X450 hx (pc' := 153) (z := (2 : Int32)) rfl (hb hby at_152) rfl ?_
    refine g_iload X450 hx (pc' := 155) rfl (hb hby at_153) rfl ?_
    refine g_imul X450 hx (pc' := 156) rfl (hb hby at_155) ?_
    refine g_normI (z := (8 : Int32)) (by decide) ?_
    refine g_dload X450 hx (pc' := 158) rfl (hb hby at_156) rfl ?_
    refine g_dastore X450 hx hZ V450 (i := 8) (by decide) (show (8 : Nat) < 12 by decide) G_a316 (pc' := 159) rfl (hb hby at_158) (fun T452 h452 X452 W452 N452 => ?_)
    have f453 := (by have q := (Keep.of_wr W452).1; exact Nat.le_trans f451 q : n0 ≤ h452.size)
    have V452 : AD Z h452 a316 [ee, ee, ee, ee, u0, ee, ee, ee, u1, ee, ee, ee] := N452
    refine g_aload X452 hx (pc' := 161) rfl (hb hby at_159) rfl rfl ?_
    refine g_iconst X452 hx (pc' := 162) (z := (2 : Int32)) rfl (hb hby at_161) rfl ?_
    refine g_iload X452 hx (pc' := 164) rfl (hb hby at_162) rfl ?_
    refine g_imul X452 hx (pc' := 165) rfl (hb hby at_164) ?_
    refine g_normI (z := (8 : Int32)) (by decide) ?_
    refine g_iconst X452 hx (pc' := 166) (z := (1 : Int32)) rfl (hb hby at_165) rfl ?_
    refine g_iadd X452 hx (pc' := 167) rfl (hb hby at_166) ?_
    refine g_normI (z := (9 : Int32)) (by decide) ?_
    refine g_dload X452 hx (pc' := 169) rfl (hb hby at_167) rfl ?_
    refine g_dastore X452 hx hZ V452 (i := 9) (by decide) (show (9 : Nat) < 12 by decide) G_a316 (pc' := 170) rfl (hb hby at_169) (fun T454 h454 X454 W454 N454 => ?_)
    have f455 := (by have q := (Keep.of_wr W454).1; exact Nat.le_trans f453 q : n0 ≤ h454.size)
    have V454 : AD Z h454 a316 [ee, ee, ee, ee, u0, ee, ee, ee, u1, u2, ee, ee] := N454
    refine g_aload X454 hx (pc' := 172) rfl (hb hby at_170) rfl rfl ?_
    refine g_iconst X454 hx (pc' := 173) (z := (0 : Int32)) rfl (hb hby at_172) rfl ?_
    refine g_dload X454 hx (pc' := 175) rfl (hb hby at_173) rfl ?_
    refine g_dastore X454 hx hZ V454 (i := 0) (by decide) (show (0 : Nat) < 12 by decide) G_a316 (pc' := 176) rfl (hb hby at_175) (fun T456 h456 X456 W456 N456 => ?_)
    have f457 := (by have q := (Keep.of_wr W456).1; exact Nat.le_trans f455 q : n0 ≤ h456.size)
    have V456 : AD Z h456 a316 [dd, ee, ee, ee, u0, ee, ee, ee, u1, u2, ee, ee] := N456
    refine g_aload X456 hx (pc' := 178) rfl (hb hby at_176) rfl rfl ?_
    refine g_iload X456 hx (pc' := 180) rfl (hb hby at_178) rfl ?_
    refine g_iconst X456 hx (pc' := 181) (z := (1 : Int32)) rfl (hb hby at_180) rfl ?_
    refine g_iadd X456 hx (pc' := 182) rfl (hb hby at_181) ?_
    refine g_normI (z := (5 : Int32)) (by decide) ?_
    refine g_dload X456 hx (pc' := 184) rfl (hb hby at_182) rfl ?_
    refine g_dastore X456 hx hZ V456 (i := 5) (by decide) (show (5 : Nat) < 12 by decide) G_a316 (pc' := 185) rfl (hb hby at_184) (fun T458 h458 X458 W458 N458 => ?_)
    have f459 := (by have q := (Keep.of_wr W458).1; exact Nat.le_trans f457 q : n0 ≤ h458.size)
    have V458 : AD Z h458 a316 [dd, ee, ee, ee, u0, dd, ee, ee, u1, u2, ee, ee] := N458
    refine g_aload X458 hx (pc' := 187) rfl (hb hby at_185) rfl rfl ?_
    refine g_iconst X458 hx (pc' := 188) (z := (2 : Int32)) rfl (hb hby at_187) rfl ?_
    refine g_iload X458 hx (pc' := 190) rfl (hb hby at_188) rfl ?_
    refine g_imul X458 hx (pc' := 191) rfl (hb hby at_190) ?_
    refine g_normI (z := (8 : Int32)) (by decide) ?_
    refine g_iconst X458 hx (pc' := 192) (z := (2 : Int32)) rfl (hb hby at_191) rfl ?_
    refine g_iadd X458 hx (pc' := 193) rfl (hb hby at_192) ?_
    refine g_normI (z := (10 : Int32)) (by decide) ?_
    refine g_dload X458 hx (pc' := 195) rfl (hb hby at_193) rfl ?_
    refine g_dastore X458 hx hZ V458 (i := 10) (by decide) (show (10 : Nat) < 12 by decide) G_a316 (pc' := 196) rfl (hb hby at_195) (fun T460 h460 X460 W460 N460 => ?_)
    have f461 := (by have q := (Keep.of_wr W460).1; exact Nat.le_trans f459 q : n0 ≤ h460.size)
    have V460 : AD Z h460 a316 [dd, ee, ee, ee, u0, dd, ee, ee, u1, u2, dd, ee] := N460
    refine g_bipush X460 hx (pc' := 198) (z := (8 : Int32)) rfl (hb hby at_196) rfl ?_
    refine g_newD X460 hx hZ (hw _ (List.mem_of_getElem? (i := 4) rfl)) (N := 8) (by decide) (cap := 8) (Nat.le_refl _) (by decide) (pc' := 200) rfl (hb hby at_198) (by decide) (by decide) (fun T462 h462 a462 ha462 X462 E462 N462 => ?_)
    have ne462_a316 : a316 ≠ a462 := by rw [ha462]; exact Nat.ne_of_lt V460.lt
    have f463 := V460.ext E462
    have G_a462 : n0 ≤ a462 := by rw [ha462]; exact f461
    have Zs462 : n0 ≤ h462.size := Nat.le_trans f461 E462.1
    have V462 : AD Z h462 a462 [(0 : UInt64), (0 : UInt64), (0 : UInt64), (0 : UInt64), (0 : UInt64), (0 : UInt64), (0 : UInt64), (0 : UInt64)] := N462
    refine g_dup X462 hx (pc' := 201) rfl (hb hby at_200) rfl ?_
    refine g_iconst X462 hx (pc' := 202) (z := (0 : Int32)) rfl (hb hby at_201) rfl ?_
    refine g_iloadN X462 hx (pc' := 203) rfl (hb hby at_202) rfl ?_
    refine g_iconst X462 hx (pc' := 204) (z := (0 : Int32)) rfl (hb hby at_203) rfl ?_
    refine g_callS X462 hx hZ hown (hw _ (List.mem_of_getElem? (i := 0) rfl)) (hw _ (List.mem_of_getElem? (i := 1) rfl)) (hw _ (List.mem_of_getElem? (i := 2) rfl)) (hw _ (List.mem_of_getElem? (i := 3) rfl)) (by decide) (rm1 l Z a0 hw [] n0 x1 (0 : Int32) h462 Zs462) pd_0 rfl rfl (by rw [hml]; rfl) (pc' := 207) rfl (hb hby at_204) (argsL := [(.int x1), (.int (0 : Int32))]) (rest := [(.int (0 : Int32)), (.ref a462), (.ref a462)]) rfl (W := 3) (Nat.le_of_eq rfl) (by decide) (by decide) (by decide) (by decide) (fun v464 T464 h464 X464 hQ464 => ?_)
    obtain ⟨rfl, he464⟩ := hQ464
    rw [he464] at X464
    show Go p e below s n0 _ _ _ (T464.setTop (mkF m 207 #[.val (.int x0), .val (.int x1), .val (.int x2), .val (.int x3), .val (.int order), .val (.int width), .val (.int (4 : Int32)), .val (.double dd), .second, .val (.double ee), .second, .val (.double u0), .second, .val (.double u1), .second, .val (.double u2), .second, .val (.ref a316), .unset, .unset, .unset] [(.double (FP.i2d (((x1 >>> (((4 : Int32) * (0 : Int32)) &&& 31)) &&& (15 : Int32)) - (8 : Int32)))), (.int (0 : Int32)), (.ref a462), (.ref a462)]))
    refine g_absD (fun r0 hr0 => ?_)
    obtain ⟨mr0, emr0⟩ : ∃ z : Int, z = (((x1 >>> (((4 : Int32) * (0 : Int32)) &&& 31)) &&& (15 : Int32)) - (8 : Int32)).toInt := ⟨_, rfl⟩
    have yr0 : Dy mr0 1074 r0 := by rw [hr0, emr0]; exact own_i2d _
    have br0 : mr0.natAbs ≤ 8 := by rw [emr0]; exact own_nib _ _
    refine g_dastore X464 hx hZ V462 (i := 0) (by decide) (show (0 : Nat) < 8 by decide) G_a462 (pc' := 208) rfl (hb hby at_207) (fun T465 h465 X465 W465 N465 => ?_)
    have f466 := (by have q := (Keep.of_wr W465).1; exact Nat.le_trans Zs462 q : n0 ≤ h465.size)
    have f467 := f463.other W465 ne462_a316
    have V465 : AD Z h465 a462 [r0, (0 : UInt64), (0 : UInt64), (0 : UInt64), (0 : UInt64), (0 : UInt64), (0 : UInt64), (0 : UInt64)] := N465
    refine g_dup X465 hx (pc' := 209) rfl (hb hby at_208) rfl ?_
    refine g_iconst X465 hx (pc' := 210) (z := (1 : Int32)) rfl (hb hby at_209) rfl ?_
    refine g_iloadN X465 hx (pc' := 211) rfl (hb hby at_210) rfl ?_
    refine g_iconst X465 hx (pc' := 212) (z := (1 : Int32)) rfl (hb hby at_211) rfl ?_
    refine g_callS X465 hx hZ hown (hw _ (List.mem_of_getElem? (i := 0) rfl)) (hw _ (List.mem_of_getElem? (i := 1) rfl)) (hw _ (List.mem_of_getElem? (i := 2) rfl)) (hw _ (List.mem_of_getElem? (i := 3) rfl)) (by decide) (rm1 l Z a0 hw [] n0 x1 (1 : Int32) h465 f466) pd_0 rfl rfl (by rw [hml]; rfl) (pc' := 215) rfl (hb hby at_212) (argsL := [(.int x1), (.int (1 : Int32))]) (rest := [(.int (1 : Int32)), (.ref a462), (.ref a462)]) rfl (W := 3) (Nat.le_of_eq rfl) (by decide) (by decide) (by decide) (by decide) (fun v468 T468 h468 X468 hQ468 => ?_)
    obtain ⟨rfl, he468⟩ := hQ468
    rw [he468] at X468
    show Go p e below s n0 _ _ _ (T468.setTop (mkF m 215 #[.val (.int x0), .val (.int x1), .val (.int x2), .val (.int x3), .val (.int order), .val (.int width), .val (.int (4 : Int32)), .val (.double dd), .second, .val (.double ee), .second, .val (.double u0), .second, .val (.double u1), .second, .val (.double u2), .second, .val (.ref a316), .unset, .unset, .unset] [(.double (FP.i2d (((x1 >>> (((4 : Int32) * (1 : Int32)) &&& 31)) &&& (15 : Int32)) - (8 : Int32)))), (.int (1 : Int32)), (.ref a462), (.ref a462)]))
    refine g_absD (fun r1 hr1 => ?_)
    obtain ⟨mr1, emr1⟩ : ∃ z : Int, z = (((x1 >>> (((4 : Int32) * (1 : Int32)) &&& 31)) &&& (15 : Int32)) - (8 : Int32)).toInt := ⟨_, rfl⟩
    have yr1 : Dy mr1 1074 r1 := by rw [hr1, emr1]; exact own_i2d _
    have br1 : mr1.natAbs ≤ 8 := by rw [emr1]; exact own_nib _ _
    refine g_dastore X468 hx hZ V465 (i := 1) (by decide) (show (1 : Nat) < 8 by decide) G_a462 (pc' := 216) rfl (hb hby at_215) (fun T469 h469 X469 W469 N469 => ?_)
    have f470 := (by have q := (Keep.of_wr W469).1; exact Nat.le_trans f466 q : n0 ≤ h469.size)
    have f471 := f467.other W469 ne462_a316
    have V469 : AD Z h469 a462 [r0, r1, (0 : UInt64), (0 : UInt64), (0 : UInt64), (0 : UInt64), (0 : UInt64), (0 : UInt64)] := N469
    refine g_dup X469 hx (pc' := 217) rfl (hb hby at_216) rfl ?_
    refine g_iconst X469 hx (pc' := 218) (z := (2 : Int32)) rfl (hb hby at_217) rfl ?_
    refine g_iloadN X469 hx (pc' := 219) rfl (hb hby at_218) rfl ?_
    refine g_iconst X469 hx (pc' := 220) (z := (2 : Int32)) rfl (hb hby at_219) rfl ?_
    refine g_callS X469 hx hZ hown (hw _ (List.mem_of_getElem? (i := 0) rfl)) (hw _ (List.mem_of_getElem? (i := 1) rfl)) (hw _ (List.mem_of_getElem? (i := 2) rfl)) (hw _ (List.mem_of_getElem? (i := 3) rfl)) (by decide) (rm1 l Z a0 hw [] n0 x1 (2 : Int32) h469 f470) pd_0 rfl rfl (by rw [hml]; rfl) (pc' := 223) rfl (hb hby at_220) (argsL := [(.int x1), (.int (2 : Int32))]) (rest := [(.int (2 : Int32)), (.ref a462), (.ref a462)]) rfl (W := 3) (Nat.le_of_eq rfl) (by decide) (by decide) (by decide) (by decide) (fun v472 T472 h472 X472 hQ472 => ?_)
    obtain ⟨rfl, he472⟩ := hQ472
    rw [he472] at X472
    show Go p e below s n0 _ _ _ (T472.setTop (mkF m 223 #[.val (.int x0), .val (.int x1), .val (.int x2), .val (.int x3), .val (.int order), .val (.int width), .val (.int (4 : Int32)), .val (.double dd), .second, .val (.double ee), .second, .val (.double u0), .second, .val (.double u1), .second, .val (.double u2), .second, .val (.ref a316), .unset, .unset, .unset] [(.double (FP.i2d (((x1 >>> (((4 : Int32) * (2 : Int32)) &&& 31)) &&& (15 : Int32)) - (8 : Int32)))), (.int (2 : Int32)), (.ref a462), (.ref a462)]))
    refine g_absD (fun r2 hr2 => ?_)
    obtain ⟨mr2, emr2⟩ : ∃ z : Int, z = (((x1 >>> (((4 : Int32) * (2 : Int32)) &&& 31)) &&& (15 : Int32)) - (8 : Int32)).toInt := ⟨_, rfl⟩
    have yr2 : Dy mr2 1074 r2 := by rw [hr2, emr2]; exact own_i2d _
    have br2 : mr2.natAbs ≤ 8 := by rw [emr2]; exact own_nib _ _
    refine g_dastore X472 hx hZ V469 (i := 2) (by decide) (show (2 : Nat) < 8 by decide) G_a462 (pc' := 224) rfl (hb hby at_223) (fun T473 h473 X473 W473 N473 => ?_)
    have f474 := (by have q := (Keep.of_wr W473).1; exact Nat.le_trans f470 q : n0 ≤ h473.size)
    have f475 := f471.other W473 ne462_a316
    have V473 : AD Z h473 a462 [r0, r1, r2, (0 : UInt64), (0 : UInt64), (0 : UInt64), (0 : UInt64), (0 : UInt64)] := N473
    refine g_dup X473 hx (pc' := 225) rfl (hb hby at_224) rfl ?_
    refine g_iconst X473 hx (pc' := 226) (z := (3 : Int32)) rfl (hb hby at_225) rfl ?_
    refine g_iloadN X473 hx (pc' := 227) rfl (hb hby at_226) rfl ?_
    refine g_iconst X473 hx (pc' := 228) (z := (3 : Int32)) rfl (hb hby at_227) rfl ?_
    refine g_callS X473 hx hZ hown (hw _ (List.mem_of_getElem? (i := 0) rfl)) (hw _ (List.mem_of_getElem? (i := 1) rfl)) (hw _ (List.mem_of_getElem? (i := 2) rfl)) (hw _ (List.mem_of_getElem? (i := 3) rfl)) (by decide) (rm1 l Z a0 hw [] n0 x1 (3 : Int32) h473 f474) pd_0 rfl rfl (by rw [hml]; rfl) (pc' := 231) rfl (hb hby at_228) (argsL := [(.int x1), (.int (3 : Int32))]) (rest := [(.int (3 : Int32)), (.ref a462), (.ref a462)]) rfl (W := 3) (Nat.le_of_eq rfl) (by decide) (by decide) (by decide) (by decide) (fun v476 T476 h476 X476 hQ476 => ?_)
    obtain ⟨rfl, he476⟩ := hQ476
    rw [he476] at X476
    show Go p e below s n0 _ _ _ (T476.setTop (mkF m 231 #[.val (.int x0), .val (.int x1), .val (.int x2), .val (.int x3), .val (.int order), .val (.int width), .val (.int (4 : Int32)), .val (.double dd), .second, .val (.double ee), .second, .val (.double u0), .second, .val (.double u1), .second, .val (.double u2), .second, .val (.ref a316), .unset, .unset, .unset] [(.double (FP.i2d (((x1 >>> (((4 : Int32) * (3 : Int32)) &&& 31)) &&& (15 : Int32)) - (8 : Int32)))), (.int (3 : Int32)), (.ref a462), (.ref a462)]))
    refine g_absD (fun r3 hr3 => ?_)
    obtain ⟨mr3, emr3⟩ : ∃ z : Int, z = (((x1 >>> (((4 : Int32) * (3 : Int32)) &&& 31)) &&& (15 : Int32)) - (8 : Int32)).toInt := ⟨_, rfl⟩
    have yr3 : Dy mr3 1074 r3 := by rw [hr3, emr3]; exact own_i2d _
    have br3 : mr3.natAbs ≤ 8 := by rw [emr3]; exact own_nib _ _
    refine g_dastore X476 hx hZ V473 (i := 3) (by decide) (show (3 : Nat) < 8 by decide) G_a462 (pc' := 232) rfl (hb hby at_231) (fun T477 h477 X477 W477 N477 => ?_)
    have f478 := (by have q := (Keep.of_wr W477).1; exact Nat.le_trans f474 q : n0 ≤ h477.size)
    have f479 := f475.other W477 ne462_a316
    have V477 : AD Z h477 a462 [r0, r1, r2, r3, (0 : UInt64), (0 : UInt64), (0 : UInt64), (0 : UInt64)] := N477
    refine g_dup X477 hx (pc' := 233) rfl (hb hby at_232) rfl ?_
    refine g_iconst X477 hx (pc' := 234) (z := (4 : Int32)) rfl (hb hby at_233) rfl ?_
    refine g_iloadN X477 hx (pc' := 235) rfl (hb hby at_234) rfl ?_
    refine g_iconst X477 hx (pc' := 236) (z := (4 : Int32)) rfl (hb hby at_235) rfl ?_
    refine g_callS X477 hx hZ hown (hw _ (List.mem_of_getElem? (i := 0) rfl)) (hw _ (List.mem_of_getElem? (i := 1) rfl)) (hw _ (List.mem_of_getElem? (i := 2) rfl)) (hw _ (List.mem_of_getElem? (i := 3) rfl)) (by decide) (rm1 l Z a0 hw [] n0 x1 (4 : Int32) h477 f478) pd_0 rfl rfl (by rw [hml]; rfl) (pc' := 239) rfl (hb hby at_236) (argsL := [(.int x1), (.int (4 : Int32))]) (rest := [(.int (4 : Int32)), (.ref a462), (.ref a462)]) rfl (W := 3) (Nat.le_of_eq rfl) (by decide) (by decide) (by decide) (by decide) (fun v480 T480 h480 X480 hQ480 => ?_)
    obtain ⟨rfl, he480⟩ := hQ480
    rw [he480] at X480
    show Go p e below s n0 _ _ _ (T480.setTop (mkF m 239 #[.val (.int x0), .val (.int x1), .val (.int x2), .val (.int x3), .val (.int order), .val (.int width), .val (.int (4 : Int32)), .val (.double dd), .second, .val (.double ee), .second, .val (.double u0), .second, .val (.double u1), .second, .val (.double u2), .second, .val (.ref a316), .unset, .unset, .unset] [(.double (FP.i2d (((x1 >>> (((4 : Int32) * (4 : Int32)) &&& 31)) &&& (15 : Int32)) - (8 : Int32)))), (.int (4 : Int32)), (.ref a462), (.ref a462)]))
    refine g_absD (fun r4 hr4 => ?_)
    obtain ⟨mr4, emr4⟩ : ∃ z : Int, z = (((x1 >>> (((4 : Int32) * (4 : Int32)) &&& 31)) &&& (15 : Int32)) - (8 : Int32)).toInt := ⟨_, rfl⟩
    have yr4 : Dy mr4 1074 r4 := by rw [hr4, emr4]; exact own_i2d _
    have br4 : mr4.natAbs ≤ 8 := by rw [emr4]; exact own_nib _ _
    refine g_dastore X480 hx hZ V477 (i := 4) (by decide) (show (4 : Nat) < 8 by decide) G_a462 (pc' := 240) rfl (hb hby at_239) (fun T481 h481 X481 W481 N481 => ?_)
    have f482 := (by have q := (Keep.of_wr W481).1; exact Nat.le_trans f478 q : n0 ≤ h481.size)
    have f483 := f479.other W481 ne462_a316
    have V481 : AD Z h481 a462 [r0, r1, r2, r3, r4, (0 : UInt64), (0 : UInt64), (0 : UInt64)] := N481
    refine g_dup X481 hx (pc' := 241) rfl (hb hby at_240) rfl ?_
    refine g_iconst X481 hx (pc' := 242) (z := (5 : Int32)) rfl (hb hby at_241) rfl ?_
    refine g_iloadN X481 hx (pc' := 243) rfl (hb hby at_242) rfl ?_
    refine g_iconst X481 hx (pc' := 244) (z := (5 : Int32)) rfl (hb hby at_243) rfl ?_
    refine g_callS X481 hx hZ hown (hw _ (List.mem_of_getElem? (i := 0) rfl)) (hw _ (List.mem_of_getElem? (i := 1) rfl)) (hw _ (List.mem_of_getElem? (i := 2) rfl)) (hw _ (List.mem_of_getElem? (i := 3) rfl)) (by decide) (rm1 l Z a0 hw [] n0 x1 (5 : Int32) h481 f482) pd_0 rfl rfl (by rw [hml]; rfl) (pc' := 247) rfl (hb hby at_244) (argsL := [(.int x1), (.int (5 : Int32))]) (rest := [(.int (5 : Int32)), (.ref a462), (.ref a462)]) rfl (W := 3) (Nat.le_of_eq rfl) (by decide) (by decide) (by decide) (by decide) (fun v484 T484 h484 X484 hQ484 => ?_)
    obtain ⟨rfl, he484⟩ := hQ484
    rw [he484] at X484
    show Go p e below s n0 _ _ _ (T484.setTop (mkF m 247 #[.val (.int x0), .val (.int x1), .val (.int x2), .val (.int x3), .val (.int order), .val (.int width), .val (.int (4 : Int32)), .val (.double dd), .second, .val (.double ee), .second, .val (.double u0), .second, .val (.double u1), .second, .val (.double u2), .second, .val (.ref a316), .unset, .unset, .unset] [(.double (FP.i2d (((x1 >>> (((4 : Int32) * (5 : Int32)) &&& 31)) &&& (15 : Int32)) - (8 : Int32)))), (.int (5 : Int32)), (.ref a462), (.ref a462)]))
    refine g_absD (fun r5 hr5 => ?_)
    obtain ⟨mr5, emr5⟩ : ∃ z : Int, z = (((x1 >>> (((4 : Int32) * (5 : Int32)) &&& 31)) &&& (15 : Int32)) - (8 : Int32)).toInt := ⟨_, rfl⟩
    have yr5 : Dy mr5 1074 r5 := by rw [hr5, emr5]; exact own_i2d _
    have br5 : mr5.natAbs ≤ 8 := by rw [emr5]; exact own_nib _ _
    refine g_dastore X484 hx hZ V481 (i := 5) (by decide) (show (5 : Nat) < 8 by decide) G_a462 (pc' := 248) rfl (hb hby at_247) (fun T485 h485 X485 W485 N485 => ?_)
    have f486 := (by have q := (Keep.of_wr W485).1; exact Nat.le_trans f482 q : n0 ≤ h485.size)
    have f487 := f483.other W485 ne462_a316
    have V485 : AD Z h485 a462 [r0, r1, r2, r3, r4, r5, (0 : UInt64), (0 : UInt64)] := N485
    refine g_dup X485 hx (pc' := 249) rfl (hb hby at_248) rfl ?_
    refine g_bipush X485 hx (pc' := 251) (z := (6 : Int32)) rfl (hb hby at_249) rfl ?_
    refine g_iloadN X485 hx (pc' := 252) rfl (hb hby at_251) rfl ?_
    refine g_bipush X485 hx (pc' := 254) (z := (6 : Int32)) rfl (hb hby at_252) rfl ?_
    refine g_callS X485 hx hZ hown (hw _ (List.mem_of_getElem? (i := 0) rfl)) (hw _ (List.mem_of_getElem? (i := 1) rfl)) (hw _ (List.mem_of_getElem? (i := 2) rfl)) (hw _ (List.mem_of_getElem? (i := 3) rfl)) (by decide) (rm1 l Z a0 hw [] n0 x1 (6 : Int32) h485 f486) pd_0 rfl rfl (by rw [hml]; rfl) (pc' := 257) rfl (hb hby at_254) (argsL := [(.int x1), (.int (6 : Int32))]) (rest := [(.int (6 : Int32)), (.ref a462), (.ref a462)]) rfl (W := 3) (Nat.le_of_eq rfl) (by decide) (by decide) (by decide) (by decide) (fun v488 T488 h488 X488 hQ488 => ?_)
    obtain ⟨rfl, he488⟩ := hQ488
    rw [he488] at X488
    show Go p e below s n0 _ _ _ (T488.setTop (mkF m 257 #[.val (.int x0), .val (.int x1), .val (.int x2), .val (.int x3), .val (.int order), .val (.int width), .val (.int (4 : Int32)), .val (.double dd), .second, .val (.double ee), .second, .val (.double u0), .second, .val (.double u1), .second, .val (.double u2), .second, .val (.ref a316), .unset, .unset, .unset] [(.double (FP.i2d (((x1 >>> (((4 : Int32) * (6 : Int32)) &&& 31)) &&& (15 : Int32)) - (8 : Int32)))), (.int (6 : Int32)), (.ref a462), (.ref a462)]))
    refine g_absD (fun r6 hr6 => ?_)
    obtain ⟨mr6, emr6⟩ : ∃ z : Int, z = (((x1 >>> (((4 : Int32) * (6 : Int32)) &&& 31)) &&& (15 : Int32)) - (8 : Int32)).toInt := ⟨_, rfl⟩
    have yr6 : Dy mr6 1074 r6 := by rw [hr6, emr6]; exact own_i2d _
    have br6 : mr6.natAbs ≤ 8 := by rw [emr6]; exact own_nib _ _
    refine g_dastore X488 hx hZ V485 (i := 6) (by decide) (show (6 : Nat) < 8 by decide) G_a462 (pc' := 258) rfl (hb hby at_257) (fun T489 h489 X489 W489 N489 => ?_)
    have f490 := (by have q := (Keep.of_wr W489).1; exact Nat.le_trans f486 q : n0 ≤ h489.size)
    have f491 := f487.other W489 ne462_a316
    have V489 : AD Z h489 a462 [r0, r1, r2, r3, r4, r5, r6, (0 : UInt64)] := N489
    refine g_dup X489 hx (pc' := 259) rfl (hb hby at_258) rfl ?_
    refine g_bipush X489 hx (pc' := 261) (z := (7 : Int32)) rfl (hb hby at_259) rfl ?_
    refine g_iloadN X489 hx (pc' := 262) rfl (hb hby at_261) rfl ?_
    refine g_bipush X489 hx (pc' := 264) (z := (7 : Int32)) rfl (hb hby at_262) rfl ?_
    refine g_callS X489 hx hZ hown (hw _ (List.mem_of_getElem? (i := 0) rfl)) (hw _ (List.mem_of_getElem? (i := 1) rfl)) (hw _ (List.mem_of_getElem? (i := 2) rfl)) (hw _ (List.mem_of_getElem? (i := 3) rfl)) (by decide) (rm1 l Z a0 hw [] n0 x1 (7 : Int32) h489 f490) pd_0 rfl rfl (by rw [hml]; rfl) (pc' := 267) rfl (hb hby at_264) (argsL := [(.int x1), (.int (7 : Int32))]) (rest := [(.int (7 : Int32)), (.ref a462), (.ref a462)]) rfl (W := 3) (Nat.le_of_eq rfl) (by decide) (by decide) (by decide) (by decide) (fun v492 T492 h492 X492 hQ492 => ?_)
    obtain ⟨rfl, he492⟩ := hQ492
    rw [he492] at X492
    show Go p e below s n0 _ _ _ (T492.setTop (mkF m 267 #[.val (.int x0), .val (.int x1), .val (.int x2), .val (.int x3), .val (.int order), .val (.int width), .val (.int (4 : Int32)), .val (.double dd), .second, .val (.double ee), .second, .val (.double u0), .second, .val (.double u1), .second, .val (.double u2), .second, .val (.ref a316), .unset, .unset, .unset] [(.double (FP.i2d (((x1 >>> (((4 : Int32) * (7 : Int32)) &&& 31)) &&& (15 : Int32)) - (8 : Int32)))), (.int (7 : Int32)), (.ref a462), (.ref a462)]))
    refine g_absD (fun r7 hr7 => ?_)
    obtain ⟨mr7, emr7⟩ : ∃ z : Int, z = (((x1 >>> (((4 : Int32) * (7 : Int32)) &&& 31)) &&& (15 : Int32)) - (8 : Int32)).toInt := ⟨_, rfl⟩
    have yr7 : Dy mr7 1074 r7 := by rw [hr7, emr7]; exact own_i2d _
    have br7 : mr7.natAbs ≤ 8 := by rw [emr7]; exact own_nib _ _
    refine g_dastore X492 hx hZ V489 (i := 7) (by decide) (show (7 : Nat) < 8 by decide) G_a462 (pc' := 268) rfl (hb hby at_267) (fun T493 h493 X493 W493 N493 => ?_)
    have f494 := (by have q := (Keep.of_wr W493).1; exact Nat.le_trans f490 q : n0 ≤ h493.size)
    have f495 := f491.other W493 ne462_a316
    have V493 : AD Z h493 a462 [r0, r1, r2, r3, r4, r5, r6, r7] := N493
    refine g_astore X493 hx (pc' := 270) rfl (hb hby at_268) rfl (l' := #[.val (.int x0), .val (.int x1), .val (.int x2), .val (.int x3), .val (.int order), .val (.int width), .val (.int (4 : Int32)), .val (.double dd), .second, .val (.double ee), .second, .val (.double u0), .second, .val (.double u1), .second, .val (.double u2), .second, .val (.ref a316), .val (.ref a462), .unset, .unset]) rfl ?_
    refine g_bipush X493 hx (pc' := 272) (z := (8 : Int32)) rfl (hb hby at_270) rfl ?_
    refine g_newD X493 hx hZ (hw _ (List.mem_of_getElem? (i := 4) rfl)) (N := 8) (by decide) (cap := 8) (Nat.le_refl _) (by decide) (pc' := 274) rfl (hb hby at_272) (by decide) (by decide) (fun T496 h496 a496 ha496 X496 E496 N496 => ?_)
    have ne496_a316 : a316 ≠ a496 := by rw [ha496]; exact Nat.ne_of_lt f495.lt
    have ne496_a462 : a462 ≠ a496 := by rw [ha496]; exact Nat.ne_of_lt V493.lt
    have f497 := f495.ext E496
    have f498 := V493.ext E496
    have G_a496 : n0 ≤ a496 := by rw [ha496]; exact f494
    have Zs496 : n0 ≤ h496.size := Nat.le_trans f494 E496.1
    have V496 : AD Z h496 a496 [(0 : UInt64), (0 : UInt64), (0 : UInt64), (0 : UInt64), (0 : UInt64), (0 : UInt64), (0 : UInt64), (0 : UInt64)] := N496
    refine g_dup X496 hx (pc' := 275) rfl (hb hby at_274) rfl ?_
    refine g_iconst X496 hx (pc' := 276) (z := (0 : Int32)) rfl (hb hby at_275) rfl ?_
    refine g_iloadN X496 hx (pc' := 277) rfl (hb hby at_276) rfl ?_
    refine g_iconst X496 hx (pc' := 278) (z := (0 : Int32)) rfl (hb hby at_277) rfl ?_
    refine g_callS X496 hx hZ hown (hw _ (List.mem_of_getElem? (i := 0) rfl)) (hw _ (List.mem_of_getElem? (i := 1) rfl)) (hw _ (List.mem_of_getElem? (i := 2) rfl)) (hw _ (List.mem_of_getElem? (i := 3) rfl)) (by decide) (rm1 l Z a0 hw [] n0 x1 (0 : Int32) h496 Zs496) pd_0 rfl rfl (by rw [hml]; rfl) (pc' := 281) rfl (hb hby at_278) (argsL := [(.int x1), (.int (0 : Int32))]) (rest := [(.int (0 : Int32)), (.ref a496), (.ref a496)]) rfl (W := 3) (Nat.le_of_eq rfl) (by decide) (by decide) (by decide) (by decide) (fun v499 T499 h499 X499 hQ499 => ?_)
    obtain ⟨rfl, he499⟩ := hQ499
    rw [he499] at X499
    show Go p e below s n0 _ _ _ (T499.setTop (mkF m 281 #[.val (.int x0), .val (.int x1), .val (.int x2), .val (.int x3), .val (.int order), .val (.int width), .val (.int (4 : Int32)), .val (.double dd), .second, .val (.double ee), .second, .val (.double u0), .second, .val (.double u1), .second, .val (.double u2), .second, .val (.ref a316), .val (.ref a462), .unset, .unset] [(.double (FP.i2d (((x1 >>> (((4 : Int32) * (0 : Int32)) &&& 31)) &&& (15 : Int32)) - (8 : Int32)))), (.int (0 : Int32)), (.ref a496), (.ref a496)]))
    refine g_normD (z := r0) hr0.symm ?_
    refine g_dastore X499 hx hZ V496 (i := 0) (by decide) (show (0 : Nat) < 8 by decide) G_a496 (pc' := 282) rfl (hb hby at_281) (fun T500 h500 X500 W500 N500 => ?_)
    have f501 := (by have q := (Keep.of_wr W500).1; exact Nat.le_trans Zs496 q : n0 ≤ h500.size)
    have f502 := f497.other W500 ne496_a316
    have f503 := f498.other W500 ne496_a462
    have V500 : AD Z h500 a496 [r0, (0 : UInt64), (0 : UInt64), (0 : UInt64), (0 : UInt64), (0 : UInt64), (0 : UInt64), (0 : UInt64)] := N500
    refine g_dup X500 hx (pc' := 283) rfl (hb hby at_282) rfl ?_
    refine g_iconst X500 hx (pc' := 284) (z := (1 : Int32)) rfl (hb hby at_283) rfl ?_
    refine g_iloadN X500 hx (pc' := 285) rfl (hb hby at_284) rfl ?_
    refine g_iconst X500 hx (pc' := 286) (z := (1 : Int32)) rfl (hb hby at_285) rfl ?_
    refine g_callS X500 hx hZ hown (hw _ (List.mem_of_getElem? (i := 0) rfl)) (hw _ (List.mem_of_getElem? (i := 1) rfl)) (hw _ (List.mem_of_getElem? (i := 2) rfl)) (hw _ (List.mem_of_getElem? (i := 3) rfl)) (by decide) (rm1 l Z a0 hw [] n0 x1 (1 : Int32) h500 f501) pd_0 rfl rfl (by rw [hml]; rfl) (pc' := 289) rfl (hb hby at_286) (argsL := [(.int x1), (.int (1 : Int32))]) (rest := [(.int (1 : Int32)), (.ref a496), (.ref a496)]) rfl (W := 3) (Nat.le_of_eq rfl) (by decide) (by decide) (by decide) (by decide) (fun v504 T504 h504 X504 hQ504 => ?_)
    obtain ⟨rfl, he504⟩ := hQ504
    rw [he504] at X504
    show Go p e below s n0 _ _ _ (T504.setTop (mkF m 289 #[.val (.int x0), .val (.int x1), .val (.int x2), .val (.int x3), .val (.int order), .val (.int width), .val (.int (4 : Int32)), .val (.double dd), .second, .val (.double ee), .second, .val (.double u0), .second, .val (.double u1), .second, .val (.double u2), .second, .val (.ref a316), .val (.ref a462), .unset, .unset] [(.double (FP.i2d (((x1 >>> (((4 : Int32) * (1 : Int32)) &&& 31)) &&& (15 : Int32)) - (8 : Int32)))), (.int (1 : Int32)), (.ref a496), (.ref a496)]))
    refine g_normD (z := r1) hr1.symm ?_
    refine g_dastore X504 hx hZ V500 (i := 1) (by decide) (show (1 : Nat) < 8 by decide) G_a496 (pc' := 290) rfl (hb hby at_289) (fun T505 h505 X505 W505 N505 => ?_)
    have f506 := (by have q := (Keep.of_wr W505).1; exact Nat.le_trans f501 q : n0 ≤ h505.size)
    have f507 := f502.other W505 ne496_a316
    have f508 := f503.other W505 ne496_a462
    have V505 : AD Z h505 a496 [r0, r1, (0 : UInt64), (0 : UInt64), (0 : UInt64), (0 : UInt64), (0 : UInt64), (0 : UInt64)] := N505
    refine g_dup X505 hx (pc' := 291) rfl (hb hby at_290) rfl ?_
    refine g_iconst X505 hx (pc' := 292) (z := (2 : Int32)) rfl (hb hby at_291) rfl ?_
    refine g_iloadN X505 hx (pc' := 293) rfl (hb hby at_292) rfl ?_
    refine g_iconst X505 hx (pc' := 294) (z := (2 : Int32)) rfl (hb hby at_293) rfl ?_
    refine g_callS X505 hx hZ hown (hw _ (List.mem_of_getElem? (i := 0) rfl)) (hw _ (List.mem_of_getElem? (i := 1) rfl)) (hw _ (List.mem_of_getElem? (i := 2) rfl)) (hw _ (List.mem_of_getElem? (i := 3) rfl)) (by decide) (rm1 l Z a0 hw [] n0 x1 (2 : Int32) h505 f506) pd_0 rfl rfl (by rw [hml]; rfl) (pc' := 297) rfl (hb hby at_294) (argsL := [(.int x1), (.int (2 : Int32))]) (rest := [(.int (2 : Int32)), (.ref a496), (.ref a496)]) rfl (W := 3) (Nat.le_of_eq rfl) (by decide) (by decide) (by decide) (by decide) (fun v509 T509 h509 X509 hQ509 => ?_)
    obtain ⟨rfl, he509⟩ := hQ509
    rw [he509] at X509
    show Go p e below s n0 _ _ _ (T509.setTop (mkF m 297 #[.val (.int x0), .val (.int x1), .val (.int x2), .val (.int x3), .val (.int order), .val (.int width), .val (.int (4 : Int32)), .val (.double dd), .second, .val (.double ee), .second, .val (.double u0), .second, .val (.double u1), .second, .val (.double u2), .second, .val (.ref a316), .val (.ref a462), .unset, .unset] [(.double (FP.i2d (((x1 >>> (((4 : Int32) * (2 : Int32)) &&& 31)) &&& (15 : Int32)) - (8 : Int32)))), (.int (2 : Int32)), (.ref a496), (.ref a496)]))
    refine g_normD (z := r2) hr2.symm ?_
    refine g_dastore X509 hx hZ V505 (i := 2) (by decide) (show (2 : Nat) < 8 by decide) G_a496 (pc' := 298) rfl (hb hby at_297) (fun T510 h510 X510 W510 N510 => ?_)
    have f511 := (by have q := (Keep.of_wr W510).1; exact Nat.le_trans f506 q : n0 ≤ h510.size)
    have f512 := f507.other W510 ne496_a316
    have f513 := f508.other W510 ne496_a462
    have V510 : AD Z h510 a496 [r0, r1, r2, (0 : UInt64), (0 : UInt64), (0 : UInt64), (0 : UInt64), (0 : UInt64)] := N510
    refine g_dup X510 hx (pc' := 299) rfl (hb hby at_298) rfl ?_
    refine g_iconst X510 hx (pc' := 300) (z := (3 : Int32)) rfl (hb hby at_299) rfl ?_
    refine g_iloadN X510 hx (pc' := 301) rfl (hb hby at_300) rfl ?_
    refine g_iconst X510 hx (pc' := 302) (z := (3 : Int32)) rfl (hb hby at_301) rfl ?_
    refine g_callS X510 hx hZ hown (hw _ (List.mem_of_getElem? (i := 0) rfl)) (hw _ (List.mem_of_getElem? (i := 1) rfl)) (hw _ (List.mem_of_getElem? (i := 2) rfl)) (hw _ (List.mem_of_getElem? (i := 3) rfl)) (by decide) (rm1 l Z a0 hw [] n0 x1 (3 : Int32) h510 f511) pd_0 rfl rfl (by rw [hml]; rfl) (pc' := 305) rfl (hb hby at_302) (argsL := [(.int x1), (.int (3 : Int32))]) (rest := [(.int (3 : Int32)), (.ref a496), (.ref a496)]) rfl (W := 3) (Nat.le_of_eq rfl) (by decide) (by decide) (by decide) (by decide) (fun v514 T514 h514 X514 hQ514 => ?_)
    obtain ⟨rfl, he514⟩ := hQ514
    rw [he514] at X514
    show Go p e below s n0 _ _ _ (T514.setTop (mkF m 305 #[.val (.int x0), .val (.int x1), .val (.int x2), .val (.int x3), .val (.int order), .val (.int width), .val (.int (4 : Int32)), .val (.double dd), .second, .val (.double ee), .second, .val (.double u0), .second, .val (.double u1), .second, .val (.double u2), .second, .val (.ref a316), .val (.ref a462), .unset, .unset] [(.double (FP.i2d (((x1 >>> (((4 : Int32) * (3 : Int32)) &&& 31)) &&& (15 : Int32)) - (8 : Int32)))), (.int (3 : Int32)), (.ref a496), (.ref a496)]))
    refine g_normD (z := r3) hr3.symm ?_
    refine g_dastore X514 hx hZ V510 (i := 3) (by decide) (show (3 : Nat) < 8 by decide) G_a496 (pc' := 306) rfl (hb hby at_305) (fun T515 h515 X515 W515 N515 => ?_)
    have f516 := (by have q := (Keep.of_wr W515).1; exact Nat.le_trans f511 q : n0 ≤ h515.size)
    have f517 := f512.other W515 ne496_a316
    have f518 := f513.other W515 ne496_a462
    have V515 : AD Z h515 a496 [r0, r1, r2, r3, (0 : UInt64), (0 : UInt64), (0 : UInt64), (0 : UInt64)] := N515
    refine g_dup X515 hx (pc' := 307) rfl (hb hby at_306) rfl ?_
    refine g_iconst X515 hx (pc' := 308) (z := (4 : Int32)) rfl (hb hby at_307) rfl ?_
    refine g_iloadN X515 hx (pc' := 309) rfl (hb hby at_308) rfl ?_
    refine g_iconst X515 hx (pc' := 310) (z := (4 : Int32)) rfl (hb hby at_309) rfl ?_
    refine g_callS X515 hx hZ hown (hw _ (List.mem_of_getElem? (i := 0) rfl)) (hw _ (List.mem_of_getElem? (i := 1) rfl)) (hw _ (List.mem_of_getElem? (i := 2) rfl)) (hw _ (List.mem_of_getElem? (i := 3) rfl)) (by decide) (rm1 l Z a0 hw [] n0 x1 (4 : Int32) h515 f516) pd_0 rfl rfl (by rw [hml]; rfl) (pc' := 313) rfl (hb hby at_310) (argsL := [(.int x1), (.int (4 : Int32))]) (rest := [(.int (4 : Int32)), (.ref a496), (.ref a496)]) rfl (W := 3) (Nat.le_of_eq rfl) (by decide) (by decide) (by decide) (by decide) (fun v519 T519 h519 X519 hQ519 => ?_)
    obtain ⟨rfl, he519⟩ := hQ519
    rw [he519] at X519
    show Go p e below s n0 _ _ _ (T519.setTop (mkF m 313 #[.val (.int x0), .val (.int x1), .val (.int x2), .val (.int x3), .val (.int order), .val (.int width), .val (.int (4 : Int32)), .val (.double dd), .second, .val (.double ee), .second, .val (.double u0), .second, .val (.double u1), .second, .val (.double u2), .second, .val (.ref a316), .val (.ref a462), .unset, .unset] [(.double (FP.i2d (((x1 >>> (((4 : Int32) * (4 : Int32)) &&& 31)) &&& (15 : Int32)) - (8 : Int32)))), (.int (4 : Int32)), (.ref a496), (.ref a496)]))
    refine g_normD (z := r4) hr4.symm ?_
    refine g_dastore X519 hx hZ V515 (i := 4) (by decide) (show (4 : Nat) < 8 by decide) G_a496 (pc' := 314) rfl (hb hby at_313) (fun T520 h520 X520 W520 N520 => ?_)
    have f521 := (by have q := (Keep.of_wr W520).1; exact Nat.le_trans f516 q : n0 ≤ h520.size)
    have f522 := f517.other W520 ne496_a316
    have f523 := f518.other W520 ne496_a462
    have V520 : AD Z h520 a496 [r0, r1, r2, r3, r4, (0 : UInt64), (0 : UInt64), (0 : UInt64)] := N520
    refine g_dup X520 hx (pc' := 315) rfl (hb hby at_314) rfl ?_
    refine g_iconst X520 hx (pc' := 316) (z := (5 : Int32)) rfl (hb hby at_315) rfl ?_
    refine g_iloadN X520 hx (pc' := 317) rfl (hb hby at_316) rfl ?_
    refine g_iconst X520 hx (pc' := 318) (z := (5 : Int32)) rfl (hb hby at_317) rfl ?_
    refine g_callS X520 hx hZ hown (hw _ (List.mem_of_getElem? (i := 0) rfl)) (hw _ (List.mem_of_getElem? (i := 1) rfl)) (hw _ (List.mem_of_getElem? (i := 2) rfl)) (hw _ (List.mem_of_getElem? (i := 3) rfl)) (by decide) (rm1 l Z a0 hw [] n0 x1 (5 : Int32) h520 f521) pd_0 rfl rfl (by rw [hml]; rfl) (pc' := 321) rfl (hb hby at_318) (argsL := [(.int x1), (.int (5 : Int32))]) (rest := [(.int (5 : Int32)), (.ref a496), (.ref a496)]) rfl (W := 3) (Nat.le_of_eq rfl) (by decide) (by decide) (by decide) (by decide) (fun v524 T524 h524 X524 hQ524 => ?_)
    obtain ⟨rfl, he524⟩ := hQ524
    rw [he524] at X524
    show Go p e below s n0 _ _ _ (T524.setTop (mkF m 321 #[.val (.int x0), .val (.int x1), .val (.int x2), .val (.int x3), .val (.int order), .val (.int width), .val (.int (4 : Int32)), .val (.double dd), .second, .val (.double ee), .second, .val (.double u0), .second, .val (.double u1), .second, .val (.double u2), .second, .val (.ref a316), .val (.ref a462), .unset, .unset] [(.double (FP.i2d (((x1 >>> (((4 : Int32) * (5 : Int32)) &&& 31)) &&& (15 : Int32)) - (8 : Int32)))), (.int (5 : Int32)), (.ref a496), (.ref a496)]))
    refine g_normD (z := r5) hr5.symm ?_
    refine g_dastore X524 hx hZ V520 (i := 5) (by decide) (show (5 : Nat) < 8 by decide) G_a496 (pc' := 322) rfl (hb hby at_321) (fun T525 h525 X525 W525 N525 => ?_)
    have f526 := (by have q := (Keep.of_wr W525).1; exact Nat.le_trans f521 q : n0 ≤ h525.size)
    have f527 := f522.other W525 ne496_a316
    have f528 := f523.other W525 ne496_a462
    have V525 : AD Z h525 a496 [r0, r1, r2, r3, r4, r5, (0 : UInt64), (0 : UInt64)] := N525
    refine g_dup X525 hx (pc' := 323) rfl (hb hby at_322) rfl ?_
    refine g_bipush X525 hx (pc' := 325) (z := (6 : Int32)) rfl (hb hby at_323) rfl ?_
    refine g_iloadN X525 hx (pc' := 326) rfl (hb hby at_325) rfl ?_
    refine g_bipush X525 hx (pc' := 328) (z := (6 : Int32)) rfl (hb hby at_326) rfl ?_
    refine g_callS X525 hx hZ hown (hw _ (List.mem_of_getElem? (i := 0) rfl)) (hw _ (List.mem_of_getElem? (i := 1) rfl)) (hw _ (List.mem_of_getElem? (i := 2) rfl)) (hw _ (List.mem_of_getElem? (i := 3) rfl)) (by decide) (rm1 l Z a0 hw [] n0 x1 (6 : Int32) h525 f526) pd_0 rfl rfl (by rw [hml]; rfl) (pc' := 331) rfl (hb hby at_328) (argsL := [(.int x1), (.int (6 : Int32))]) (rest := [(.int (6 : Int32)), (.ref a496), (.ref a496)]) rfl (W := 3) (Nat.le_of_eq rfl) (by decide) (by decide) (by decide) (by decide) (fun v529 T529 h529 X529 hQ529 => ?_)
    obtain ⟨rfl, he529⟩ := hQ529
    rw [he529] at X529
    show Go p e below s n0 _ _ _ (T529.setTop (mkF m 331 #[.val (.int x0), .val (.int x1), .val (.int x2), .val (.int x3), .val (.int order), .val (.int width), .val (.int (4 : Int32)), .val (.double dd), .second, .val (.double ee), .second, .val (.double u0), .second, .val (.double u1), .second, .val (.double u2), .second, .val (.ref a316), .val (.ref a462), .unset, .unset] [(.double (FP.i2d (((x1 >>> (((4 : Int32) * (6 : Int32)) &&& 31)) &&& (15 : Int32)) - (8 : Int32)))), (.int (6 : Int32)), (.ref a496), (.ref a496)]))
    refine g_normD (z := r6) hr6.symm ?_
    refine g_dastore X529 hx hZ V525 (i := 6) (by decide) (show (6 : Nat) < 8 by decide) G_a496 (pc' := 332) rfl (hb hby at_331) (fun T530 h530 X530 W530 N530 => ?_)
    have f531 := (by have q := (Keep.of_wr W530).1; exact Nat.le_trans f526 q : n0 ≤ h530.size)
    have f532 := f527.other W530 ne496_a316
    have f533 := f528.other W530 ne496_a462
    have V530 : AD Z h530 a496 [r0, r1, r2, r3, r4, r5, r6, (0 : UInt64)] := N530
    refine g_dup X530 hx (pc' := 333) rfl (hb hby at_332) rfl ?_
    refine g_bipush X530 hx (pc' := 335) (z := (7 : Int32)) rfl (hb hby at_333) rfl ?_
    refine g_iloadN X530 hx (pc' := 336) rfl (hb hby at_335) rfl ?_
    refine g_bipush X530 hx (pc' := 338) (z := (7 : Int32)) rfl (hb hby at_336) rfl ?_
    refine g_callS X530 hx hZ hown (hw _ (List.mem_of_getElem? (i := 0) rfl)) (hw _ (List.mem_of_getElem? (i := 1) rfl)) (hw _ (List.mem_of_getElem? (i := 2) rfl)) (hw _ (List.mem_of_getElem? (i := 3) rfl)) (by decide) (rm1 l Z a0 hw [] n0 x1 (7 : Int32) h530 f531) pd_0 rfl rfl (by rw [hml]; rfl) (pc' := 341) rfl (hb hby at_338) (argsL := [(.int x1), (.int (7 : Int32))]) (rest := [(.int (7 : Int32)), (.ref a496), (.ref a496)]) rfl (W := 3) (Nat.le_of_eq rfl) (by decide) (by decide) (by decide) (by decide) (fun v534 T534 h534 X534 hQ534 => ?_)
    obtain ⟨rfl, he534⟩ := hQ534
    rw [he534] at X534
    show Go p e below s n0 _ _ _ (T534.setTop (mkF m 341 #[.val (.int x0), .val (.int x1), .val (.int x2), .val (.int x3), .val (.int order), .val (.int width), .val (.int (4 : Int32)), .val (.double dd), .second, .val (.double ee), .second, .val (.double u0), .second, .val (.double u1), .second, .val (.double u2), .second, .val (.ref a316), .val (.ref a462), .unset, .unset] [(.double (FP.i2d (((x1 >>> (((4 : Int32) * (7 : Int32)) &&& 31)) &&& (15 : Int32)) - (8 : Int32)))), (.int (7 : Int32)), (.ref a496), (.ref a496)]))
    refine g_normD (z := r7) hr7.symm ?_
    refine g_dastore X534 hx hZ V530 (i := 7) (by decide) (show (7 : Nat) < 8 by decide) G_a496 (pc' := 342) rfl (hb hby at_341) (fun T535 h535 X535 W535 N535 => ?_)
    have f536 := (by have q := (Keep.of_wr W535).1; exact Nat.le_trans f531 q : n0 ≤ h535.size)
    have f537 := f532.other W535 ne496_a316
    have f538 := f533.other W535 ne496_a462
    have V535 : AD Z h535 a496 [r0, r1, r2, r3, r4, r5, r6, r7] := N535
    refine g_astore X535 hx (pc' := 344) rfl (hb hby at_342) rfl (l' := #[.val (.int x0), .val (.int x1), .val (.int x2), .val (.int x3), .val (.int order), .val (.int width), .val (.int (4 : Int32)), .val (.double dd), .second, .val (.double ee), .second, .val (.double u0), .second, .val (.double u1), .second, .val (.double u2), .second, .val (.ref a316), .val (.ref a462), .val (.ref a496), .unset]) rfl ?_
    rcases horder with qorder | qorder | qorder | qorder
    · subst qorder
      rcases hwidth with qwidth | qwidth
      · subst qwidth
        refine g_aload X535 hx (pc' := 346) rfl (hb hby at_344) rfl rfl ?_
        refine g_iload X535 hx (pc' := 348) rfl (hb hby at_346) rfl ?_
        refine g_iload X535 hx (pc' := 350) rfl (hb hby at_348) rfl ?_
        refine g_aload X535 hx (pc' := 352) rfl (hb hby at_350) rfl rfl ?_
        refine g_iload X535 hx (pc' := 354) rfl (hb hby at_352) rfl ?_
        refine g_callS X535 hx hZ hown (hw _ (List.mem_of_getElem? (i := 5) rfl)) (hw _ (List.mem_of_getElem? (i := 6) rfl)) (hw _ (List.mem_of_getElem? (i := 7) rfl)) (hw _ (List.mem_of_getElem? (i := 8) rfl)) (by decide) (rm2_0_1_4 l Z a0 hw [] n0 a316 a462 dd ee ee ee u0 dd ee ee u1 u2 dd ee mu0 mu1 mu2 r0 mr0 r1 mr1 r2 mr2 r3 mr3 r4 mr4 r5 mr5 r6 mr6 r7 mr7 h535 f536 f537 f538 ne462_a316 G_a462 yr0 br0 yr1 br1 yr2 br2 yr3 br3 yr4 br4 yr5 br5 yr6 br6 yr7 br7 yu0 bu0 yu1 bu1 yu2 bu2) pd_1 rfl rfl (by rw [hml]; rfl) (pc' := 357) rfl (hb hby at_354) (argsL := [(.ref a316), (.int (4 : Int32)), (.int (0 : Int32)), (.ref a462), (.int (1 : Int32))]) (rest := []) rfl (W := 0) (Nat.le_of_eq rfl) (by decide) (by decide) (by decide) (by decide) (fun v539 T539 h539 X539 hQ539 => ?_)
        obtain ⟨rfl, K539, A539⟩ := hQ539
        have O539 := V535.keep K539 (ninS ne496_a462.symm nin0)
        have zs539 : n0 ≤ h539.size := Nat.le_trans f536 K539.1
        show Go p e below s n0 _ _ _ (T539.setTop (mkF m 357 #[.val (.int x0), .val (.int x1), .val (.int x2), .val (.int x3), .val (.int (0 : Int32)), .val (.int (1 : Int32)), .val (.int (4 : Int32)), .val (.double dd), .second, .val (.double ee), .second, .val (.double u0), .second, .val (.double u1), .second, .val (.double u2), .second, .val (.ref a316), .val (.ref a462), .val (.ref a496), .unset] []))
        refine g_aload X539 hx (pc' := 359) rfl (hb hby at_357) rfl rfl ?_
        refine g_aload X539 hx (pc' := 361) rfl (hb hby at_359) rfl rfl ?_
        refine g_iload X539 hx (pc' := 363) rfl (hb hby at_361) rfl ?_
        refine g_iconst X539 hx (pc' := 364) (z := (0 : Int32)) rfl (hb hby at_363) rfl ?_
        refine g_iload X539 hx (pc' := 366) rfl (hb hby at_364) rfl ?_
        refine g_dload X539 hx (pc' := 368) rfl (hb hby at_366) rfl ?_
        refine g_dload X539 hx (pc' := 370) rfl (hb hby at_368) rfl ?_
        refine g_dload X539 hx (pc' := 372) rfl (hb hby at_370) rfl ?_
        refine g_callS X539 hx hZ hown (hw _ (List.mem_of_getElem? (i := 9) rfl)) (hw _ (List.mem_of_getElem? (i := 10) rfl)) (hw _ (List.mem_of_getElem? (i := 2) rfl)) (hw _ (List.mem_of_getElem? (i := 11) rfl)) (by decide) (rm3_0_1_0 l Z a0 hw [] n0 a462 a496 r0 r0 r1 r1 r2 r2 r3 r3 r4 r4 r5 r5 r6 r6 r7 r7 mr0 mr0 mr1 mr1 mr2 mr2 mr3 mr3 u0 u1 u2 mu0 mu1 mu2 h539 zs539 A539 O539 yr0 (Nat.le_trans br0 (by decide)) yr0 br0 yr1 (Nat.le_trans br1 (by decide)) yr1 br1 yr2 (Nat.le_trans br2 (by decide)) yr2 br2 yr3 (Nat.le_trans br3 (by decide)) yr3 br3 yu0 bu0 yu1 bu1 yu2 bu2 rfl rfl rfl rfl) pd_2 rfl rfl (by rw [hml]; rfl) (pc' := 375) rfl (hb hby at_372) (argsL := [(.ref a462), (.ref a496), (.int (1 : Int32)), (.int (0 : Int32)), (.int (0 : Int32)), (.double u0), (.double u1), (.double u2)]) (rest := []) rfl (W := 0) (Nat.le_of_eq rfl) (by decide) (by decide) (by decide) (by decide) (fun v540 T540 h540 X540 hQ540 => ?_)
        obtain ⟨rfl, he540⟩ := hQ540
        rw [he540] at X540
        show Go p e below s n0 _ _ _ (T540.setTop (mkF m 375 #[.val (.int x0), .val (.int x1), .val (.int x2), .val (.int x3), .val (.int (0 : Int32)), .val (.int (1 : Int32)), .val (.int (4 : Int32)), .val (.double dd), .second, .val (.double ee), .second, .val (.double u0), .second, .val (.double u1), .second, .val (.double u2), .second, .val (.ref a316), .val (.ref a462), .val (.ref a496), .unset] [(.int (1 : Int32))]))
        refine g_istore X540 hx (pc' := 377) rfl (hb hby at_375) (l' := #[.val (.int x0), .val (.int x1), .val (.int x2), .val (.int x3), .val (.int (0 : Int32)), .val (.int (1 : Int32)), .val (.int (4 : Int32)), .val (.double dd), .second, .val (.double ee), .second, .val (.double u0), .second, .val (.double u1), .second, .val (.double u2), .second, .val (.ref a316), .val (.ref a462), .val (.ref a496), .val (.int (1 : Int32))]) rfl ?_
        refine g_iload X540 hx (pc' := 379) rfl (hb hby at_377) rfl ?_
        refine g_iconst X540 hx (pc' := 380) (z := (2 : Int32)) rfl (hb hby at_379) rfl ?_
        refine g_icmpY X540 hx (pcY := 419) (hb hby at_380) (by decide) (by decide) (show ¬ (1 : Int32) = (2 : Int32) from by decide) ?_
        refine g_iload X540 hx (pc' := 421) rfl (hb hby at_419) rfl ?_
        refine g_ifN X540 hx (pcN := 424) (hb hby at_421) rfl (show ¬ ((1 : Int32) = 0) from by decide) ?_
        refine g_aload X540 hx (pc' := 426) rfl (hb hby at_424) rfl rfl ?_
        refine g_iconst X540 hx (pc' := 427) (z := (4 : Int32)) rfl (hb hby at_426) rfl ?_
        refine g_daload X540 hx hZ A539 (i := 4) (by decide) (show (4 : Nat) < 8 by decide) (v := r4) rfl (pc' := 428) rfl (hb hby at_427) ?_
        refine g_aload X540 hx (pc' := 430) rfl (hb hby at_428) rfl rfl ?_
        refine g_iconst X540 hx (pc' := 431) (z := (4 : Int32)) rfl (hb hby at_430) rfl ?_
        refine g_daload X540 hx hZ O539 (i := 4) (by decide) (show (4 : Nat) < 8 by decide) (v := r4) rfl (pc' := 432) rfl (hb hby at_431) ?_
        refine g_dcmp X540 hx (pc' := 433) (z := (0 : Int32)) rfl (hb hby at_432) (own_dyeq yr4 yr4 (by exact rfl)) ?_
        refine g_ifN X540 hx (pcN := 436) (hb hby at_433) rfl (show ¬ (¬ (0 : Int32) = 0) from by decide) ?_
        refine g_aload X540 hx (pc' := 438) rfl (hb hby at_436) rfl rfl ?_
        refine g_iconst X540 hx (pc' := 439) (z := (5 : Int32)) rfl (hb hby at_438) rfl ?_
        refine g_daload X540 hx hZ A539 (i := 5) (by decide) (show (5 : Nat) < 8 by decide) (v := r5) rfl (pc' := 440) rfl (hb hby at_439) ?_
        refine g_aload X540 hx (pc' := 442) rfl (hb hby at_440) rfl rfl ?_
        refine g_iconst X540 hx (pc' := 443) (z := (5 : Int32)) rfl (hb hby at_442) rfl ?_
        refine g_daload X540 hx hZ O539 (i := 5) (by decide) (show (5 : Nat) < 8 by decide) (v := r5) rfl (pc' := 444) rfl (hb hby at_443) ?_
        refine g_dcmp X540 hx (pc' := 445) (z := (0 : Int32)) rfl (hb hby at_444) (own_dyeq yr5 yr5 (by exact rfl)) ?_
        refine g_ifN X540 hx (pcN := 448) (hb hby at_445) rfl (show ¬ (¬ (0 : Int32) = 0) from by decide) ?_
        refine g_aload X540 hx (pc' := 450) rfl (hb hby at_448) rfl rfl ?_
        refine g_bipush X540 hx (pc' := 452) (z := (6 : Int32)) rfl (hb hby at_450) rfl ?_
        refine g_daload X540 hx hZ A539 (i := 6) (by decide) (show (6 : Nat) < 8 by decide) (v := r6) rfl (pc' := 453) rfl (hb hby at_452) ?_
        refine g_aload X540 hx (pc' := 455) rfl (hb hby at_453) rfl rfl ?_
        refine g_bipush X540 hx (pc' := 457) (z := (6 : Int32)) rfl (hb hby at_455) rfl ?_
        refine g_daload X540 hx hZ O539 (i := 6) (by decide) (show (6 : Nat) < 8 by decide) (v := r6) rfl (pc' := 458) rfl (hb hby at_457) ?_
        refine g_dcmp X540 hx (pc' := 459) (z := (0 : Int32)) rfl (hb hby at_458) (own_dyeq yr6 yr6 (by exact rfl)) ?_
        refine g_ifN X540 hx (pcN := 462) (hb hby at_459) rfl (show ¬ (¬ (0 : Int32) = 0) from by decide) ?_
        refine g_aload X540 hx (pc' := 464) rfl (hb hby at_462) rfl rfl ?_
        refine g_bipush X540 hx (pc' := 466) (z := (7 : Int32)) rfl (hb hby at_464) rfl ?_
        refine g_daload X540 hx hZ A539 (i := 7) (by decide) (show (7 : Nat) < 8 by decide) (v := r7) rfl (pc' := 467) rfl (hb hby at_466) ?_
        refine g_aload X540 hx (pc' := 469) rfl (hb hby at_467) rfl rfl ?_
        refine g_bipush X540 hx (pc' := 471) (z := (7 : Int32)) rfl (hb hby at_469) rfl ?_
        refine g_daload X540 hx hZ O539 (i := 7) (by decide) (show (7 : Nat) < 8 by decide) (v := r7) rfl (pc' := 472) rfl (hb hby at_471) ?_
        refine g_dcmp X540 hx (pc' := 473) (z := (0 : Int32)) rfl (hb hby at_472) (own_dyeq yr7 yr7 (by exact rfl)) ?_
        refine g_ifN X540 hx (pcN := 476) (hb hby at_473) rfl (show ¬ (¬ (0 : Int32) = 0) from by decide) ?_
        refine g_iconst X540 hx (pc' := 477) (z := (1 : Int32)) rfl (hb hby at_476) rfl ?_
        refine g_goto X540 hx (pc' := 481) (hb hby at_477) (by decide) (by decide) ?_
        refine g_istore X540 hx (pc' := 483) rfl (hb hby at_481) (l' := #[.val (.int x0), .val (.int x1), .val (.int x2), .val (.int x3), .val (.int (0 : Int32)), .val (.int (1 : Int32)), .val (.int (4 : Int32)), .val (.double dd), .second, .val (.double ee), .second, .val (.double u0), .second, .val (.double u1), .second, .val (.double u2), .second, .val (.ref a316), .val (.ref a462), .val (.ref a496), .val (.int (1 : Int32))]) rfl ?_
        refine g_iload X540 hx (pc' := 485) rfl (hb hby at_483) rfl ?_
        exact g_retZ X540 hx hlk hret (Or.inr rfl) (hb hby at_485) (by decide) (by decide) (rfl)
      · subst qwidth
        refine g_aload X535 hx (pc' := 346) rfl (hb hby at_344) rfl rfl ?_
        refine g_iload X535 hx (pc' := 348) rfl (hb hby at_346) rfl ?_
        refine g_iload X535 hx (pc' := 350) rfl (hb hby at_348) rfl ?_
        refine g_aload X535 hx (pc' := 352) rfl (hb hby at_350) rfl rfl ?_
        refine g_iload X535 hx (pc' := 354) rfl (hb hby at_352) rfl ?_
        refine g_callS X535 hx hZ hown (hw _ (List.mem_of_getElem? (i := 5) rfl)) (hw _ (List.mem_of_getElem? (i := 6) rfl)) (hw _ (List.mem_of_getElem? (i := 7) rfl)) (hw _ (List.mem_of_getElem? (i := 8) rfl)) (by decide) (rm2_0_2_4 l Z a0 hw [] n0 a316 a462 dd ee ee ee u0 dd ee ee u1 u2 dd ee mu0 mu1 mu2 r0 mr0 r1 mr1 r2 mr2 r3 mr3 r4 mr4 r5 mr5 r6 mr6 r7 mr7 h535 f536 f537 f538 ne462_a316 G_a462 yr0 br0 yr1 br1 yr2 br2 yr3 br3 yr4 br4 yr5 br5 yr6 br6 yr7 br7 yu0 bu0 yu1 bu1 yu2 bu2) pd_1 rfl rfl (by rw [hml]; rfl) (pc' := 357) rfl (hb hby at_354) (argsL := [(.ref a316), (.int (4 : Int32)), (.int (0 : Int32)), (.ref a462), (.int (2 : Int32))]) (rest := []) rfl (W := 0) (Nat.le_of_eq rfl) (by decide) (by decide) (by decide) (by decide) (fun v541 T541 h541 X541 hQ541 => ?_)
        obtain ⟨rfl, K541, A541⟩ := hQ541
        have O541 := V535.keep K541 (ninS ne496_a462.symm nin0)
        have zs541 : n0 ≤ h541.size := Nat.le_trans f536 K541.1
        show Go p e below s n0 _ _ _ (T541.setTop (mkF m 357 #[.val (.int x0), .val (.int x1), .val (.int x2), .val (.int x3), .val (.int (0 : Int32)), .val (.int (2 : Int32)), .val (.int (4 : Int32)), .val (.double dd), .second, .val (.double ee), .second, .val (.double u0), .second, .val (.double u1), .second, .val (.double u2), .second, .val (.ref a316), .val (.ref a462), .val (.ref a496), .unset] []))
        refine g_aload X541 hx (pc' := 359) rfl (hb hby at_357) rfl rfl ?_
        refine g_aload X541 hx (pc' := 361) rfl (hb hby at_359) rfl rfl ?_
        refine g_iload X541 hx (pc' := 363) rfl (hb hby at_361) rfl ?_
        refine g_iconst X541 hx (pc' := 364) (z := (0 : Int32)) rfl (hb hby at_363) rfl ?_
        refine g_iload X541 hx (pc' := 366) rfl (hb hby at_364) rfl ?_
        refine g_dload X541 hx (pc' := 368) rfl (hb hby at_366) rfl ?_
        refine g_dload X541 hx (pc' := 370) rfl (hb hby at_368) rfl ?_
        refine g_dload X541 hx (pc' := 372) rfl (hb hby at_370) rfl ?_
        refine g_callS X541 hx hZ hown (hw _ (List.mem_of_getElem? (i := 9) rfl)) (hw _ (List.mem_of_getElem? (i := 10) rfl)) (hw _ (List.mem_of_getElem? (i := 2) rfl)) (hw _ (List.mem_of_getElem? (i := 11) rfl)) (by decide) (rm3_0_2_0 l Z a0 hw [] n0 a462 a496 r0 r0 r1 r1 r2 r2 r3 r3 r4 r4 r5 r5 r6 r6 r7 r7 mr0 mr0 mr2 mr2 mr4 mr4 mr6 mr6 u0 u1 u2 mu0 mu1 mu2 h541 zs541 A541 O541 yr0 (Nat.le_trans br0 (by decide)) yr0 br0 yr2 (Nat.le_trans br2 (by decide)) yr2 br2 yr4 (Nat.le_trans br4 (by decide)) yr4 br4 yr6 (Nat.le_trans br6 (by decide)) yr6 br6 yu0 bu0 yu1 bu1 yu2 bu2 rfl rfl rfl rfl) pd_2 rfl rfl (by rw [hml]; rfl) (pc' := 375) rfl (hb hby at_372) (argsL := [(.ref a462), (.ref a496), (.int (2 : Int32)), (.int (0 : Int32)), (.int (0 : Int32)), (.double u0), (.double u1), (.double u2)]) (rest := []) rfl (W := 0) (Nat.le_of_eq rfl) (by decide) (by decide) (by decide) (by decide) (fun v542 T542 h542 X542 hQ542 => ?_)
        obtain ⟨rfl, he542⟩ := hQ542
        rw [he542] at X542
        show Go p e below s n0 _ _ _ (T542.setTop (mkF m 375 #[.val (.int x0), .val (.int x1), .val (.int x2), .val (.int x3), .val (.int (0 : Int32)), .val (.int (2 : Int32)), .val (.int (4 : Int32)), .val (.double dd), .second, .val (.double ee), .second, .val (.double u0), .second, .val (.double u1), .second, .val (.double u2), .second, .val (.ref a316), .val (.ref a462), .val (.ref a496), .unset] [(.int (1 : Int32))]))
        refine g_istore X542 hx (pc' := 377) rfl (hb hby at_375) (l' := #[.val (.int x0), .val (.int x1), .val (.int x2), .val (.int x3), .val (.int (0 : Int32)), .val (.int (2 : Int32)), .val (.int (4 : Int32)), .val (.double dd), .second, .val (.double ee), .second, .val (.double u0), .second, .val (.double u1), .second, .val (.double u2), .second, .val (.ref a316), .val (.ref a462), .val (.ref a496), .val (.int (1 : Int32))]) rfl ?_
        refine g_iload X542 hx (pc' := 379) rfl (hb hby at_377) rfl ?_
        refine g_iconst X542 hx (pc' := 380) (z := (2 : Int32)) rfl (hb hby at_379) rfl ?_
        refine g_icmpN X542 hx (pcN := 383) (hb hby at_380) rfl (show ¬ (¬ (2 : Int32) = (2 : Int32)) from by decide) ?_
        refine g_iload X542 hx (pc' := 385) rfl (hb hby at_383) rfl ?_
        refine g_ifN X542 hx (pcN := 388) (hb hby at_385) rfl (show ¬ ((1 : Int32) = 0) from by decide) ?_
        refine g_aload X542 hx (pc' := 390) rfl (hb hby at_388) rfl rfl ?_
        refine g_aload X542 hx (pc' := 392) rfl (hb hby at_390) rfl rfl ?_
        refine g_iload X542 hx (pc' := 394) rfl (hb hby at_392) rfl ?_
        refine g_iconst X542 hx (pc' := 395) (z := (1 : Int32)) rfl (hb hby at_394) rfl ?_
        refine g_iload X542 hx (pc' := 397) rfl (hb hby at_395) rfl ?_
        refine g_dload X542 hx (pc' := 399) rfl (hb hby at_397) rfl ?_
        refine g_dload X542 hx (pc' := 401) rfl (hb hby at_399) rfl ?_
        refine g_dload X542 hx (pc' := 403) rfl (hb hby at_401) rfl ?_
        refine g_callS X542 hx hZ hown (hw _ (List.mem_of_getElem? (i := 9) rfl)) (hw _ (List.mem_of_getElem? (i := 10) rfl)) (hw _ (List.mem_of_getElem? (i := 2) rfl)) (hw _ (List.mem_of_getElem? (i := 11) rfl)) (by decide) (rm3_0_2_1 l Z a0 hw [] n0 a462 a496 r0 r0 r1 r1 r2 r2 r3 r3 r4 r4 r5 r5 r6 r6 r7 r7 mr1 mr1 mr3 mr3 mr5 mr5 mr7 mr7 u0 u1 u2 mu0 mu1 mu2 h541 zs541 A541 O541 yr1 (Nat.le_trans br1 (by decide)) yr1 br1 yr3 (Nat.le_trans br3 (by decide)) yr3 br3 yr5 (Nat.le_trans br5 (by decide)) yr5 br5 yr7 (Nat.le_trans br7 (by decide)) yr7 br7 yu0 bu0 yu1 bu1 yu2 bu2 rfl rfl rfl rfl) pd_2 rfl rfl (by rw [hml]; rfl) (pc' := 406) rfl (hb hby at_403) (argsL := [(.ref a462), (.ref a496), (.int (2 : Int32)), (.int (1 : Int32)), (.int (0 : Int32)), (.double u0), (.double u1), (.double u2)]) (rest := []) rfl (W := 0) (Nat.le_of_eq rfl) (by decide) (by decide) (by decide) (by decide) (fun v543 T543 h543 X543 hQ543 => ?_)
        obtain ⟨rfl, he543⟩ := hQ543
        rw [he543] at X543
        show Go p e below s n0 _ _ _ (T543.setTop (mkF m 406 #[.val (.int x0), .val (.int x1), .val (.int x2), .val (.int x3), .val (.int (0 : Int32)), .val (.int (2 : Int32)), .val (.int (4 : Int32)), .val (.double dd), .second, .val (.double ee), .second, .val (.double u0), .second, .val (.double u1), .second, .val (.double u2), .second, .val (.ref a316), .val (.ref a462), .val (.ref a496), .val (.int (1 : Int32))] [(.int (1 : Int32))]))
        refine g_ifN X543 hx (pcN := 409) (hb hby at_406) rfl (show ¬ ((1 : Int32) = 0) from by decide) ?_
        refine g_iconst X543 hx (pc' := 410) (z := (1 : Int32)) rfl (hb hby at_409) rfl ?_
        refine g_goto X543 hx (pc' := 414) (hb hby at_410) (by decide) (by decide) ?_
        refine g_istore X543 hx (pc' := 416) rfl (hb hby at_414) (l' := #[.val (.int x0), .val (.int x1), .val (.int x2), .val (.int x3), .val (.int (0 : Int32)), .val (.int (2 : Int32)), .val (.int (4 : Int32)), .val (.double dd), .second, .val (.double ee), .second, .val (.double u0), .second, .val (.double u1), .second, .val (.double u2), .second, .val (.ref a316), .val (.ref a462), .val (.ref a496), .val (.int (1 : Int32))]) rfl ?_
        refine g_goto X543 hx (pc' := 483) (hb hby at_416) (by decide) (by decide) ?_
        refine g_iload X543 hx (pc' := 485) rfl (hb hby at_483) rfl ?_
        exact g_retZ X543 hx hlk hret (Or.inr rfl) (hb hby at_485) (by decide) (by decide) (rfl)
    · subst qorder
      rcases hwidth with qwidth | qwidth
      · subst qwidth
        refine g_aload X535 hx (pc' := 346) rfl (hb hby at_344) rfl rfl ?_
        refine g_iload X535 hx (pc' := 348) rfl (hb hby at_346) rfl ?_
        refine g_iload X535 hx (pc' := 350) rfl (hb hby at_348) rfl ?_
        refine g_aload X535 hx (pc' := 352) rfl (hb hby at_350) rfl rfl ?_
        refine g_iload X535 hx (pc' := 354) rfl (hb hby at_352) rfl ?_
        refine g_callS X535 hx hZ hown (hw _ (List.mem_of_getElem? (i := 5) rfl)) (hw _ (List.mem_of_getElem? (i := 6) rfl)) (hw _ (List.mem_of_getElem? (i := 7) rfl)) (hw _ (List.mem_of_getElem? (i := 8) rfl)) (by decide) (rm2_1_1_4 l Z a0 hw [] n0 a316 a462 dd ee ee ee u0 dd ee ee u1 u2 dd ee mu0 mu1 mu2 r0 mr0 r1 mr1 r2 mr2 r3 mr3 r4 mr4 r5 mr5 r6 mr6 r7 mr7 h535 f536 f537 f538 ne462_a316 G_a462 yr0 br0 yr1 br1 yr2 br2 yr3 br3 yr4 br4 yr5 br5 yr6 br6 yr7 br7 yu0 bu0 yu1 bu1 yu2 bu2) pd_1 rfl rfl (by rw [hml]; rfl) (pc' := 357) rfl (hb hby at_354) (argsL := [(.ref a316), (.int (4 : Int32)), (.int (1 : Int32)), (.ref a462), (.int (1 : Int32))]) (rest := []) rfl (W := 0) (Nat.le_of_eq rfl) (by decide) (by decide) (by decide) (by decide) (fun v544 T544 h544 X544 hQ544 => ?_)
        obtain ⟨rfl, K544, A544⟩ := hQ544
        have O544 := V535.keep K544 (ninS ne496_a462.symm nin0)
        have zs544 : n0 ≤ h544.size := Nat.le_trans f536 K544.1
        show Go p e below s n0 _ _ _ (T544.setTop (mkF m 357 #[.val (.int x0), .val (.int x1), .val (.int x2), .val (.int x3), .val (.int (1 : Int32)), .val (.int (1 : Int32)), .val (.int (4 : Int32)), .val (.double dd), .second, .val (.double ee), .second, .val (.double u0), .second, .val (.double u1), .second, .val (.double u2), .second, .val (.ref a316), .val (.ref a462), .val (.ref a496), .unset] []))
        refine g_aload X544 hx (pc' := 359) rfl (hb hby at_357) rfl rfl ?_
        refine g_aload X544 hx (pc' := 361) rfl (hb hby at_359) rfl rfl ?_
        refine g_iload X544 hx (pc' := 363) rfl (hb hby at_361) rfl ?_
        refine g_iconst X544 hx (pc' := 364) (z := (0 : Int32)) rfl (hb hby at_363) rfl ?_
        refine g_iload X544 hx (pc' := 366) rfl (hb hby at_364) rfl ?_
        refine g_dload X544 hx (pc' := 368) rfl (hb hby at_366) rfl ?_
        refine g_dload X544 hx (pc' := 370) rfl (hb hby at_368) rfl ?_
        refine g_dload X544 hx (pc' := 372) rfl (hb hby at_370) rfl ?_
        refine g_callS X544 hx hZ hown (hw _ (List.mem_of_getElem? (i := 9) rfl)) (hw _ (List.mem_of_getElem? (i := 10) rfl)) (hw _ (List.mem_of_getElem? (i := 2) rfl)) (hw _ (List.mem_of_getElem? (i := 11) rfl)) (by decide) (rm3_1_1_0 l Z a0 hw [] n0 a462 a496 r0 r0 r1 r1 r2 r2 r3 r3 r4 r4 r5 r5 r6 r6 r7 r7 mr0 mr0 mr1 mr1 mr2 mr2 mr3 mr3 u0 u1 u2 mu0 mu1 mu2 h544 zs544 A544 O544 yr0 (Nat.le_trans br0 (by decide)) yr0 br0 yr1 (Nat.le_trans br1 (by decide)) yr1 br1 yr2 (Nat.le_trans br2 (by decide)) yr2 br2 yr3 (Nat.le_trans br3 (by decide)) yr3 br3 yu0 bu0 yu1 bu1 yu2 bu2 rfl rfl rfl rfl) pd_2 rfl rfl (by rw [hml]; rfl) (pc' := 375) rfl (hb hby at_372) (argsL := [(.ref a462), (.ref a496), (.int (1 : Int32)), (.int (0 : Int32)), (.int (1 : Int32)), (.double u0), (.double u1), (.double u2)]) (rest := []) rfl (W := 0) (Nat.le_of_eq rfl) (by decide) (by decide) (by decide) (by decide) (fun v545 T545 h545 X545 hQ545 => ?_)
        obtain ⟨rfl, he545⟩ := hQ545
        rw [he545] at X545
        show Go p e below s n0 _ _ _ (T545.setTop (mkF m 375 #[.val (.int x0), .val (.int x1), .val (.int x2), .val (.int x3), .val (.int (1 : Int32)), .val (.int (1 : Int32)), .val (.int (4 : Int32)), .val (.double dd), .second, .val (.double ee), .second, .val (.double u0), .second, .val (.double u1), .second, .val (.double u2), .second, .val (.ref a316), .val (.ref a462), .val (.ref a496), .unset] [(.int (1 : Int32))]))
        refine g_istore X545 hx (pc' := 377) rfl (hb hby at_375) (l' := #[.val (.int x0), .val (.int x1), .val (.int x2), .val (.int x3), .val (.int (1 : Int32)), .val (.int (1 : Int32)), .val (.int (4 : Int32)), .val (.double dd), .second, .val (.double ee), .second, .val (.double u0), .second, .val (.double u1), .second, .val (.double u2), .second, .val (.ref a316), .val (.ref a462), .val (.ref a496), .val (.int (1 : Int32))]) rfl ?_
        refine g_iload X545 hx (pc' := 379) rfl (hb hby at_377) rfl ?_
        refine g_iconst X545 hx (pc' := 380) (z := (2 : Int32)) rfl (hb hby at_379) rfl ?_
        refine g_icmpY X545 hx (pcY := 419) (hb hby at_380) (by decide) (by decide) (show ¬ (1 : Int32) = (2 : Int32) from by decide) ?_
        refine g_iload X545 hx (pc' := 421) rfl (hb hby at_419) rfl ?_
        refine g_ifN X545 hx (pcN := 424) (hb hby at_421) rfl (show ¬ ((1 : Int32) = 0) from by decide) ?_
        refine g_aload X545 hx (pc' := 426) rfl (hb hby at_424) rfl rfl ?_
        refine g_iconst X545 hx (pc' := 427) (z := (4 : Int32)) rfl (hb hby at_426) rfl ?_
        refine g_daload X545 hx hZ A544 (i := 4) (by decide) (show (4 : Nat) < 8 by decide) (v := r4) rfl (pc' := 428) rfl (hb hby at_427) ?_
        refine g_aload X545 hx (pc' := 430) rfl (hb hby at_428) rfl rfl ?_
        refine g_iconst X545 hx (pc' := 431) (z := (4 : Int32)) rfl (hb hby at_430) rfl ?_
        refine g_daload X545 hx hZ O544 (i := 4) (by decide) (show (4 : Nat) < 8 by decide) (v := r4) rfl (pc' := 432) rfl (hb hby at_431) ?_
        refine g_dcmp X545 hx (pc' := 433) (z := (0 : Int32)) rfl (hb hby at_432) (own_dyeq yr4 yr4 (by exact rfl)) ?_
        refine g_ifN X545 hx (pcN := 436) (hb hby at_433) rfl (show ¬ (¬ (0 : Int32) = 0) from by decide) ?_
        refine g_aload X545 hx (pc' := 438) rfl (hb hby at_436) rfl rfl ?_
        refine g_iconst X545 hx (pc' := 439) (z := (5 : Int32)) rfl (hb hby at_438) rfl ?_
        refine g_daload X545 hx hZ A544 (i := 5) (by decide) (show (5 : Nat) < 8 by decide) (v := r5) rfl (pc' := 440) rfl (hb hby at_439) ?_
        refine g_aload X545 hx (pc' := 442) rfl (hb hby at_440) rfl rfl ?_
        refine g_iconst X545 hx (pc' := 443) (z := (5 : Int32)) rfl (hb hby at_442) rfl ?_
        refine g_daload X545 hx hZ O544 (i := 5) (by decide) (show (5 : Nat) < 8 by decide) (v := r5) rfl (pc' := 444) rfl (hb hby at_443) ?_
        refine g_dcmp X545 hx (pc' := 445) (z := (0 : Int32)) rfl (hb hby at_444) (own_dyeq yr5 yr5 (by exact rfl)) ?_
        refine g_ifN X545 hx (pcN := 448) (hb hby at_445) rfl (show ¬ (¬ (0 : Int32) = 0) from by decide) ?_
        refine g_aload X545 hx (pc' := 450) rfl (hb hby at_448) rfl rfl ?_
        refine g_bipush X545 hx (pc' := 452) (z := (6 : Int32)) rfl (hb hby at_450) rfl ?_
        refine g_daload X545 hx hZ A544 (i := 6) (by decide) (show (6 : Nat) < 8 by decide) (v := r6) rfl (pc' := 453) rfl (hb hby at_452) ?_
        refine g_aload X545 hx (pc' := 455) rfl (hb hby at_453) rfl rfl ?_
        refine g_bipush X545 hx (pc' := 457) (z := (6 : Int32)) rfl (hb hby at_455) rfl ?_
        refine g_daload X545 hx hZ O544 (i := 6) (by decide) (show (6 : Nat) < 8 by decide) (v := r6) rfl (pc' := 458) rfl (hb hby at_457) ?_
        refine g_dcmp X545 hx (pc' := 459) (z := (0 : Int32)) rfl (hb hby at_458) (own_dyeq yr6 yr6 (by exact rfl)) ?_
        refine g_ifN X545 hx (pcN := 462) (hb hby at_459) rfl (show ¬ (¬ (0 : Int32) = 0) from by decide) ?_
        refine g_aload X545 hx (pc' := 464) rfl (hb hby at_462) rfl rfl ?_
        refine g_bipush X545 hx (pc' := 466) (z := (7 : Int32)) rfl (hb hby at_464) rfl ?_
        refine g_daload X545 hx hZ A544 (i := 7) (by decide) (show (7 : Nat) < 8 by decide) (v := r7) rfl (pc' := 467) rfl (hb hby at_466) ?_
        refine g_aload X545 hx (pc' := 469) rfl (hb hby at_467) rfl rfl ?_
        refine g_bipush X545 hx (pc' := 471) (z := (7 : Int32)) rfl (hb hby at_469) rfl ?_
        refine g_daload X545 hx hZ O544 (i := 7) (by decide) (show (7 : Nat) < 8 by decide) (v := r7) rfl (pc' := 472) rfl (hb hby at_471) ?_
        refine g_dcmp X545 hx (pc' := 473) (z := (0 : Int32)) rfl (hb hby at_472) (own_dyeq yr7 yr7 (by exact rfl)) ?_
        refine g_ifN X545 hx (pcN := 476) (hb hby at_473) rfl (show ¬ (¬ (0 : Int32) = 0) from by decide) ?_
        refine g_iconst X545 hx (pc' := 477) (z := (1 : Int32)) rfl (hb hby at_476) rfl ?_
        refine g_goto X545 hx (pc' := 481) (hb hby at_477) (by decide) (by decide) ?_
        refine g_istore X545 hx (pc' := 483) rfl (hb hby at_481) (l' := #[.val (.int x0), .val (.int x1), .val (.int x2), .val (.int x3), .val (.int (1 : Int32)), .val (.int (1 : Int32)), .val (.int (4 : Int32)), .val (.double dd), .second, .val (.double ee), .second, .val (.double u0), .second, .val (.double u1), .second, .val (.double u2), .second, .val (.ref a316), .val (.ref a462), .val (.ref a496), .val (.int (1 : Int32))]) rfl ?_
        refine g_iload X545 hx (pc' := 485) rfl (hb hby at_483) rfl ?_
        exact g_retZ X545 hx hlk hret (Or.inr rfl) (hb hby at_485) (by decide) (by decide) (rfl)
      · subst qwidth
        refine g_aload X535 hx (pc' := 346) rfl (hb hby at_344) rfl rfl ?_
        refine g_iload X535 hx (pc' := 348) rfl (hb hby at_346) rfl ?_
        refine g_iload X535 hx (pc' := 350) rfl (hb hby at_348) rfl ?_
        refine g_aload X535 hx (pc' := 352) rfl (hb hby at_350) rfl rfl ?_
        refine g_iload X535 hx (pc' := 354) rfl (hb hby at_352) rfl ?_
        refine g_callS X535 hx hZ hown (hw _ (List.mem_of_getElem? (i := 5) rfl)) (hw _ (List.mem_of_getElem? (i := 6) rfl)) (hw _ (List.mem_of_getElem? (i := 7) rfl)) (hw _ (List.mem_of_getElem? (i := 8) rfl)) (by decide) (rm2_1_2_4 l Z a0 hw [] n0 a316 a462 dd ee ee ee u0 dd ee ee u1 u2 dd ee mu0 mu1 mu2 r0 mr0 r1 mr1 r2 mr2 r3 mr3 r4 mr4 r5 mr5 r6 mr6 r7 mr7 h535 f536 f537 f538 ne462_a316 G_a462 yr0 br0 yr1 br1 yr2 br2 yr3 br3 yr4 br4 yr5 br5 yr6 br6 yr7 br7 yu0 bu0 yu1 bu1 yu2 bu2) pd_1 rfl rfl (by rw [hml]; rfl) (pc' := 357) rfl (hb hby at_354) (argsL := [(.ref a316), (.int (4 : Int32)), (.int (1 : Int32)), (.ref a462), (.int (2 : Int32))]) (rest := []) rfl (W := 0) (Nat.le_of_eq rfl) (by decide) (by decide) (by decide) (by decide) (fun v546 T546 h546 X546 hQ546 => ?_)
        obtain ⟨rfl, K546, A546⟩ := hQ546
        have O546 := V535.keep K546 (ninS ne496_a462.symm nin0)
        have zs546 : n0 ≤ h546.size := Nat.le_trans f536 K546.1
        show Go p e below s n0 _ _ _ (T546.setTop (mkF m 357 #[.val (.int x0), .val (.int x1), .val (.int x2), .val (.int x3), .val (.int (1 : Int32)), .val (.int (2 : Int32)), .val (.int (4 : Int32)), .val (.double dd), .second, .val (.double ee), .second, .val (.double u0), .second, .val (.double u1), .second, .val (.double u2), .second, .val (.ref a316), .val (.ref a462), .val (.ref a496), .unset] []))
        refine g_aload X546 hx (pc' := 359) rfl (hb hby at_357) rfl rfl ?_
        refine g_aload X546 hx (pc' := 361) rfl (hb hby at_359) rfl rfl ?_
        refine g_iload X546 hx (pc' := 363) rfl (hb hby at_361) rfl ?_
        refine g_iconst X546 hx (pc' := 364) (z := (0 : Int32)) rfl (hb hby at_363) rfl ?_
        refine g_iload X546 hx (pc' := 366) rfl (hb hby at_364) rfl ?_
        refine g_dload X546 hx (pc' := 368) rfl (hb hby at_366) rfl ?_
        refine g_dload X546 hx (pc' := 370) rfl (hb hby at_368) rfl ?_
        refine g_dload X546 hx (pc' := 372) rfl (hb hby at_370) rfl ?_
        refine g_callS X546 hx hZ hown (hw _ (List.mem_of_getElem? (i := 9) rfl)) (hw _ (List.mem_of_getElem? (i := 10) rfl)) (hw _ (List.mem_of_getElem? (i := 2) rfl)) (hw _ (List.mem_of_getElem? (i := 11) rfl)) (by decide) (rm3_1_2_0 l Z a0 hw [] n0 a462 a496 r0 r0 r1 r1 r2 r2 r3 r3 r4 r4 r5 r5 r6 r6 r7 r7 mr0 mr0 mr2 mr2 mr4 mr4 mr6 mr6 u0 u1 u2 mu0 mu1 mu2 h546 zs546 A546 O546 yr0 (Nat.le_trans br0 (by decide)) yr0 br0 yr2 (Nat.le_trans br2 (by decide)) yr2 br2 yr4 (Nat.le_trans br4 (by decide)) yr4 br4 yr6 (Nat.le_trans br6 (by decide)) yr6 br6 yu0 bu0 yu1 bu1 yu2 bu2 rfl rfl rfl rfl) pd_2 rfl rfl (by rw [hml]; rfl) (pc' := 375) rfl (hb hby at_372) (argsL := [(.ref a462), (.ref a496), (.int (2 : Int32)), (.int (0 : Int32)), (.int (1 : Int32)), (.double u0), (.double u1), (.double u2)]) (rest := []) rfl (W := 0) (Nat.le_of_eq rfl) (by decide) (by decide) (by decide) (by decide) (fun v547 T547 h547 X547 hQ547 => ?_)
        obtain ⟨rfl, he547⟩ := hQ547
        rw [he547] at X547
        show Go p e below s n0 _ _ _ (T547.setTop (mkF m 375 #[.val (.int x0), .val (.int x1), .val (.int x2), .val (.int x3), .val (.int (1 : Int32)), .val (.int (2 : Int32)), .val (.int (4 : Int32)), .val (.double dd), .second, .val (.double ee), .second, .val (.double u0), .second, .val (.double u1), .second, .val (.double u2), .second, .val (.ref a316), .val (.ref a462), .val (.ref a496), .unset] [(.int (1 : Int32))]))
        refine g_istore X547 hx (pc' := 377) rfl (hb hby at_375) (l' := #[.val (.int x0), .val (.int x1), .val (.int x2), .val (.int x3), .val (.int (1 : Int32)), .val (.int (2 : Int32)), .val (.int (4 : Int32)), .val (.double dd), .second, .val (.double ee), .second, .val (.double u0), .second, .val (.double u1), .second, .val (.double u2), .second, .val (.ref a316), .val (.ref a462), .val (.ref a496), .val (.int (1 : Int32))]) rfl ?_
        refine g_iload X547 hx (pc' := 379) rfl (hb hby at_377) rfl ?_
        refine g_iconst X547 hx (pc' := 380) (z := (2 : Int32)) rfl (hb hby at_379) rfl ?_
        refine g_icmpN X547 hx (pcN := 383) (hb hby at_380) rfl (show ¬ (¬ (2 : Int32) = (2 : Int32)) from by decide) ?_
        refine g_iload X547 hx (pc' := 385) rfl (hb hby at_383) rfl ?_
        refine g_ifN X547 hx (pcN := 388) (hb hby at_385) rfl (show ¬ ((1 : Int32) = 0) from by decide) ?_
        refine g_aload X547 hx (pc' := 390) rfl (hb hby at_388) rfl rfl ?_
        refine g_aload X547 hx (pc' := 392) rfl (hb hby at_390) rfl rfl ?_
        refine g_iload X547 hx (pc' := 394) rfl (hb hby at_392) rfl ?_
        refine g_iconst X547 hx (pc' := 395) (z := (1 : Int32)) rfl (hb hby at_394) rfl ?_
        refine g_iload X547 hx (pc' := 397) rfl (hb hby at_395) rfl ?_
        refine g_dload X547 hx (pc' := 399) rfl (hb hby at_397) rfl ?_
        refine g_dload X547 hx (pc' := 401) rfl (hb hby at_399) rfl ?_
        refine g_dload X547 hx (pc' := 403) rfl (hb hby at_401) rfl ?_
        refine g_callS X547 hx hZ hown (hw _ (List.mem_of_getElem? (i := 9) rfl)) (hw _ (List.mem_of_getElem? (i := 10) rfl)) (hw _ (List.mem_of_getElem? (i := 2) rfl)) (hw _ (List.mem_of_getElem? (i := 11) rfl)) (by decide) (rm3_1_2_1 l Z a0 hw [] n0 a462 a496 r0 r0 r1 r1 r2 r2 r3 r3 r4 r4 r5 r5 r6 r6 r7 r7 mr1 mr1 mr3 mr3 mr5 mr5 mr7 mr7 u0 u1 u2 mu0 mu1 mu2 h546 zs546 A546 O546 yr1 (Nat.le_trans br1 (by decide)) yr1 br1 yr3 (Nat.le_trans br3 (by decide)) yr3 br3 yr5 (Nat.le_trans br5 (by decide)) yr5 br5 yr7 (Nat.le_trans br7 (by decide)) yr7 br7 yu0 bu0 yu1 bu1 yu2 bu2 rfl rfl rfl rfl) pd_2 rfl rfl (by rw [hml]; rfl) (pc' := 406) rfl (hb hby at_403) (argsL := [(.ref a462), (.ref a496), (.int (2 : Int32)), (.int (1 : Int32)), (.int (1 : Int32)), (.double u0), (.double u1), (.double u2)]) (rest := []) rfl (W := 0) (Nat.le_of_eq rfl) (by decide) (by decide) (by decide) (by decide) (fun v548 T548 h548 X548 hQ548 => ?_)
        obtain ⟨rfl, he548⟩ := hQ548
        rw [he548] at X548
        show Go p e below s n0 _ _ _ (T548.setTop (mkF m 406 #[.val (.int x0), .val (.int x1), .val (.int x2), .val (.int x3), .val (.int (1 : Int32)), .val (.int (2 : Int32)), .val (.int (4 : Int32)), .val (.double dd), .second, .val (.double ee), .second, .val (.double u0), .second, .val (.double u1), .second, .val (.double u2), .second, .val (.ref a316), .val (.ref a462), .val (.ref a496), .val (.int (1 : Int32))] [(.int (1 : Int32))]))
        refine g_ifN X548 hx (pcN := 409) (hb hby at_406) rfl (show ¬ ((1 : Int32) = 0) from by decide) ?_
        refine g_iconst X548 hx (pc' := 410) (z := (1 : Int32)) rfl (hb hby at_409) rfl ?_
        refine g_goto X548 hx (pc' := 414) (hb hby at_410) (by decide) (by decide) ?_
        refine g_istore X548 hx (pc' := 416) rfl (hb hby at_414) (l' := #[.val (.int x0), .val (.int x1), .val (.int x2), .val (.int x3), .val (.int (1 : Int32)), .val (.int (2 : Int32)), .val (.int (4 : Int32)), .val (.double dd), .second, .val (.double ee), .second, .val (.double u0), .second, .val (.double u1), .second, .val (.double u2), .second, .val (.ref a316), .val (.ref a462), .val (.ref a496), .val (.int (1 : Int32))]) rfl ?_
        refine g_goto X548 hx (pc' := 483) (hb hby at_416) (by decide) (by decide) ?_
        refine g_iload X548 hx (pc' := 485) rfl (hb hby at_483) rfl ?_
        exact g_retZ X548 hx hlk hret (Or.inr rfl) (hb hby at_485) (by decide) (by decide) (rfl)
    · subst qorder
      rcases hwidth with qwidth | qwidth
      · subst qwidth
        refine g_aload X535 hx (pc' := 346) rfl (hb hby at_344) rfl rfl ?_
        refine g_iload X535 hx (pc' := 348) rfl (hb hby at_346) rfl ?_
        refine g_iload X535 hx (pc' := 350) rfl (hb hby at_348) rfl ?_
        refine g_aload X535 hx (pc' := 352) rfl (hb hby at_350) rfl rfl ?_
        refine g_iload X535 hx (pc' := 354) rfl (hb hby at_352) rfl ?_
        refine g_callS X535 hx hZ hown (hw _ (List.mem_of_getElem? (i := 5) rfl)) (hw _ (List.mem_of_getElem? (i := 6) rfl)) (hw _ (List.mem_of_getElem? (i := 7) rfl)) (hw _ (List.mem_of_getElem? (i := 8) rfl)) (by decide) (rm2_2_1_4 l Z a0 hw [] n0 a316 a462 dd ee ee ee u0 dd ee ee u1 u2 dd ee mu0 mu1 mu2 r0 mr0 r1 mr1 r2 mr2 r3 mr3 r4 mr4 r5 mr5 r6 mr6 r7 mr7 h535 f536 f537 f538 ne462_a316 G_a462 yr0 br0 yr1 br1 yr2 br2 yr3 br3 yr4 br4 yr5 br5 yr6 br6 yr7 br7 yu0 bu0 yu1 bu1 yu2 bu2) pd_1 rfl rfl (by rw [hml]; rfl) (pc' := 357) rfl (hb hby at_354) (argsL := [(.ref a316), (.int (4 : Int32)), (.int (2 : Int32)), (.ref a462), (.int (1 : Int32))]) (rest := []) rfl (W := 0) (Nat.le_of_eq rfl) (by decide) (by decide) (by decide) (by decide) (fun v549 T549 h549 X549 hQ549 => ?_)
        obtain ⟨rfl, K549, s1, ys1, A549⟩ := hQ549
        have O549 := V535.keep K549 (ninS ne496_a462.symm nin0)
        have zs549 : n0 ≤ h549.size := Nat.le_trans f536 K549.1
        obtain ⟨ms1, ems1⟩ : ∃ z : Int, z = (mr1 - mu0 * mr0) := ⟨_, rfl⟩
        replace ys1 : Dy ms1 1074 s1 := by rw [ems1]; exact ys1
        have bs1 : ms1.natAbs ≤ 100000 := by
          rw [ems1]; exact own_b72 br1 bu0 br0
        show Go p e below s n0 _ _ _ (T549.setTop (mkF m 357 #[.val (.int x0), .val (.int x1), .val (.int x2), .val (.int x3), .val (.int (2 : Int32)), .val (.int (1 : Int32)), .val (.int (4 : Int32)), .val (.double dd), .second, .val (.double ee), .second, .val (.double u0), .second, .val (.double u1), .second, .val (.double u2), .second, .val (.ref a316), .val (.ref a462), .val (.ref a496), .unset] []))
        refine g_aload X549 hx (pc' := 359) rfl (hb hby at_357) rfl rfl ?_
        refine g_aload X549 hx (pc' := 361) rfl (hb hby at_359) rfl rfl ?_
        refine g_iload X549 hx (pc' := 363) rfl (hb hby at_361) rfl ?_
        refine g_iconst X549 hx (pc' := 364) (z := (0 : Int32)) rfl (hb hby at_363) rfl ?_
        refine g_iload X549 hx (pc' := 366) rfl (hb hby at_364) rfl ?_
        refine g_dload X549 hx (pc' := 368) rfl (hb hby at_366) rfl ?_
        refine g_dload X549 hx (pc' := 370) rfl (hb hby at_368) rfl ?_
        refine g_dload X549 hx (pc' := 372) rfl (hb hby at_370) rfl ?_
        refine g_callS X549 hx hZ hown (hw _ (List.mem_of_getElem? (i := 9) rfl)) (hw _ (List.mem_of_getElem? (i := 10) rfl)) (hw _ (List.mem_of_getElem? (i := 2) rfl)) (hw _ (List.mem_of_getElem? (i := 11) rfl)) (by decide) (rm3_2_1_0 l Z a0 hw [] n0 a462 a496 r0 r0 s1 r1 r2 r2 r3 r3 r4 r4 r5 r5 r6 r6 r7 r7 mr0 mr0 ms1 mr1 mr2 mr2 mr3 mr3 u0 u1 u2 mu0 mu1 mu2 h549 zs549 A549 O549 yr0 (Nat.le_trans br0 (by decide)) yr0 br0 ys1 bs1 yr1 br1 yr2 (Nat.le_trans br2 (by decide)) yr2 br2 yr3 (Nat.le_trans br3 (by decide)) yr3 br3 yu0 bu0 yu1 bu1 yu2 bu2 rfl (by rw [ems1]; exact own_e1 _ _) rfl rfl) pd_2 rfl rfl (by rw [hml]; rfl) (pc' := 375) rfl (hb hby at_372) (argsL := [(.ref a462), (.ref a496), (.int (1 : Int32)), (.int (0 : Int32)), (.int (2 : Int32)), (.double u0), (.double u1), (.double u2)]) (rest := []) rfl (W := 0) (Nat.le_of_eq rfl) (by decide) (by decide) (by decide) (by decide) (fun v550 T550 h550 X550 hQ550 => ?_)
        obtain ⟨rfl, he550⟩ := hQ550
        rw [he550] at X550
        show Go p e below s n0 _ _ _ (T550.setTop (mkF m 375 #[.val (.int x0), .val (.int x1), .val (.int x2), .val (.int x3), .val (.int (2 : Int32)), .val (.int (1 : Int32)), .val (.int (4 : Int32)), .val (.double dd), .second, .val (.double ee), .second, .val (.double u0), .second, .val (.double u1), .second, .val (.double u2), .second, .val (.ref a316), .val (.ref a462), .val (.ref a496), .unset] [(.int (1 : Int32))]))
        refine g_istore X550 hx (pc' := 377) rfl (hb hby at_375) (l' := #[.val (.int x0), .val (.int x1), .val (.int x2), .val (.int x3), .val (.int (2 : Int32)), .val (.int (1 : Int32)), .val (.int (4 : Int32)), .val (.double dd), .second, .val (.double ee), .second, .val (.double u0), .second, .val (.double u1), .second, .val (.double u2), .second, .val (.ref a316), .val (.ref a462), .val (.ref a496), .val (.int (1 : Int32))]) rfl ?_
        refine g_iload X550 hx (pc' := 379) rfl (hb hby at_377) rfl ?_
        refine g_iconst X550 hx (pc' := 380) (z := (2 : Int32)) rfl (hb hby at_379) rfl ?_
        refine g_icmpY X550 hx (pcY := 419) (hb hby at_380) (by decide) (by decide) (show ¬ (1 : Int32) = (2 : Int32) from by decide) ?_
        refine g_iload X550 hx (pc' := 421) rfl (hb hby at_419) rfl ?_
        refine g_ifN X550 hx (pcN := 424) (hb hby at_421) rfl (show ¬ ((1 : Int32) = 0) from by decide) ?_
        refine g_aload X550 hx (pc' := 426) rfl (hb hby at_424) rfl rfl ?_
        refine g_iconst X550 hx (pc' := 427) (z := (4 : Int32)) rfl (hb hby at_426) rfl ?_
        refine g_daload X550 hx hZ A549 (i := 4) (by decide) (show (4 : Nat) < 8 by decide) (v := r4) rfl (pc' := 428) rfl (hb hby at_427) ?_
        refine g_aload X550 hx (pc' := 430) rfl (hb hby at_428) rfl rfl ?_
        refine g_iconst X550 hx (pc' := 431) (z := (4 : Int32)) rfl (hb hby at_430) rfl ?_
        refine g_daload X550 hx hZ O549 (i := 4) (by decide) (show (4 : Nat) < 8 by decide) (v := r4) rfl (pc' := 432) rfl (hb hby at_431) ?_
        refine g_dcmp X550 hx (pc' := 433) (z := (0 : Int32)) rfl (hb hby at_432) (own_dyeq yr4 yr4 (by exact rfl)) ?_
        refine g_ifN X550 hx (pcN := 436) (hb hby at_433) rfl (show ¬ (¬ (0 : Int32) = 0) from by decide) ?_
        refine g_aload X550 hx (pc' := 438) rfl (hb hby at_436) rfl rfl ?_
        refine g_iconst X550 hx (pc' := 439) (z := (5 : Int32)) rfl (hb hby at_438) rfl ?_
        refine g_daload X550 hx hZ A549 (i := 5) (by decide) (show (5 : Nat) < 8 by decide) (v := r5) rfl (pc' := 440) rfl (hb hby at_439) ?_
        refine g_aload X550 hx (pc' := 442) rfl (hb hby at_440) rfl rfl ?_
        refine g_iconst X550 hx (pc' := 443) (z := (5 : Int32)) rfl (hb hby at_442) rfl ?_
        refine g_daload X550 hx hZ O549 (i := 5) (by decide) (show (5 : Nat) < 8 by decide) (v := r5) rfl (pc' := 444) rfl (hb hby at_443) ?_
        refine g_dcmp X550 hx (pc' := 445) (z := (0 : Int32)) rfl (hb hby at_444) (own_dyeq yr5 yr5 (by exact rfl)) ?_
        refine g_ifN X550 hx (pcN := 448) (hb hby at_445) rfl (show ¬ (¬ (0 : Int32) = 0) from by decide) ?_
        refine g_aload X550 hx (pc' := 450) rfl (hb hby at_448) rfl rfl ?_
        refine g_bipush X550 hx (pc' := 452) (z := (6 : Int32)) rfl (hb hby at_450) rfl ?_
        refine g_daload X550 hx hZ A549 (i := 6) (by decide) (show (6 : Nat) < 8 by decide) (v := r6) rfl (pc' := 453) rfl (hb hby at_452) ?_
        refine g_aload X550 hx (pc' := 455) rfl (hb hby at_453) rfl rfl ?_
        refine g_bipush X550 hx (pc' := 457) (z := (6 : Int32)) rfl (hb hby at_455) rfl ?_
        refine g_daload X550 hx hZ O549 (i := 6) (by decide) (show (6 : Nat) < 8 by decide) (v := r6) rfl (pc' := 458) rfl (hb hby at_457) ?_
        refine g_dcmp X550 hx (pc' := 459) (z := (0 : Int32)) rfl (hb hby at_458) (own_dyeq yr6 yr6 (by exact rfl)) ?_
        refine g_ifN X550 hx (pcN := 462) (hb hby at_459) rfl (show ¬ (¬ (0 : Int32) = 0) from by decide) ?_
        refine g_aload X550 hx (pc' := 464) rfl (hb hby at_462) rfl rfl ?_
        refine g_bipush X550 hx (pc' := 466) (z := (7 : Int32)) rfl (hb hby at_464) rfl ?_
        refine g_daload X550 hx hZ A549 (i := 7) (by decide) (show (7 : Nat) < 8 by decide) (v := r7) rfl (pc' := 467) rfl (hb hby at_466) ?_
        refine g_aload X550 hx (pc' := 469) rfl (hb hby at_467) rfl rfl ?_
        refine g_bipush X550 hx (pc' := 471) (z := (7 : Int32)) rfl (hb hby at_469) rfl ?_
        refine g_daload X550 hx hZ O549 (i := 7) (by decide) (show (7 : Nat) < 8 by decide) (v := r7) rfl (pc' := 472) rfl (hb hby at_471) ?_
        refine g_dcmp X550 hx (pc' := 473) (z := (0 : Int32)) rfl (hb hby at_472) (own_dyeq yr7 yr7 (by exact rfl)) ?_
        refine g_ifN X550 hx (pcN := 476) (hb hby at_473) rfl (show ¬ (¬ (0 : Int32) = 0) from by decide) ?_
        refine g_iconst X550 hx (pc' := 477) (z := (1 : Int32)) rfl (hb hby at_476) rfl ?_
        refine g_goto X550 hx (pc' := 481) (hb hby at_477) (by decide) (by decide) ?_
        refine g_istore X550 hx (pc' := 483) rfl (hb hby at_481) (l' := #[.val (.int x0), .val (.int x1), .val (.int x2), .val (.int x3), .val (.int (2 : Int32)), .val (.int (1 : Int32)), .val (.int (4 : Int32)), .val (.double dd), .second, .val (.double ee), .second, .val (.double u0), .second, .val (.double u1), .second, .val (.double u2), .second, .val (.ref a316), .val (.ref a462), .val (.ref a496), .val (.int (1 : Int32))]) rfl ?_
        refine g_iload X550 hx (pc' := 485) rfl (hb hby at_483) rfl ?_
        exact g_retZ X550 hx hlk hret (Or.inr rfl) (hb hby at_485) (by decide) (by decide) (rfl)
      · subst qwidth
        refine g_aload X535 hx (pc' := 346) rfl (hb hby at_344) rfl rfl ?_
        refine g_iload X535 hx (pc' := 348) rfl (hb hby at_346) rfl ?_
        refine g_iload X535 hx (pc' := 350) rfl (hb hby at_348) rfl ?_
        refine g_aload X535 hx (pc' := 352) rfl (hb hby at_350) rfl rfl ?_
        refine g_iload X535 hx (pc' := 354) rfl (hb hby at_352) rfl ?_
        refine g_callS X535 hx hZ hown (hw _ (List.mem_of_getElem? (i := 5) rfl)) (hw _ (List.mem_of_getElem? (i := 6) rfl)) (hw _ (List.mem_of_getElem? (i := 7) rfl)) (hw _ (List.mem_of_getElem? (i := 8) rfl)) (by decide) (rm2_2_2_4 l Z a0 hw [] n0 a316 a462 dd ee ee ee u0 dd ee ee u1 u2 dd ee mu0 mu1 mu2 r0 mr0 r1 mr1 r2 mr2 r3 mr3 r4 mr4 r5 mr5 r6 mr6 r7 mr7 h535 f536 f537 f538 ne462_a316 G_a462 yr0 br0 yr1 br1 yr2 br2 yr3 br3 yr4 br4 yr5 br5 yr6 br6 yr7 br7 yu0 bu0 yu1 bu1 yu2 bu2) pd_1 rfl rfl (by rw [hml]; rfl) (pc' := 357) rfl (hb hby at_354) (argsL := [(.ref a316), (.int (4 : Int32)), (.int (2 : Int32)), (.ref a462), (.int (2 : Int32))]) (rest := []) rfl (W := 0) (Nat.le_of_eq rfl) (by decide) (by decide) (by decide) (by decide) (fun v551 T551 h551 X551 hQ551 => ?_)
        obtain ⟨rfl, K551, s2, ys2, s3, ys3, A551⟩ := hQ551
        have O551 := V535.keep K551 (ninS ne496_a462.symm nin0)
        have zs551 : n0 ≤ h551.size := Nat.le_trans f536 K551.1
        obtain ⟨ms2, ems2⟩ : ∃ z : Int, z = (mr2 - mu0 * mr0) := ⟨_, rfl⟩
        replace ys2 : Dy ms2 1074 s2 := by rw [ems2]; exact ys2
        have bs2 : ms2.natAbs ≤ 100000 := by
          rw [ems2]; exact own_b72 br2 bu0 br0
        obtain ⟨ms3, ems3⟩ : ∃ z : Int, z = (mr3 - mu0 * mr1) := ⟨_, rfl⟩
        replace ys3 : Dy ms3 1074 s3 := by rw [ems3]; exact ys3
        have bs3 : ms3.natAbs ≤ 100000 := by
          rw [ems3]; exact own_b72 br3 bu0 br1
        show Go p e below s n0 _ _ _ (T551.setTop (mkF m 357 #[.val (.int x0), .val (.int x1), .val (.int x2), .val (.int x3), .val (.int (2 : Int32)), .val (.int (2 : Int32)), .val (.int (4 : Int32)), .val (.double dd), .second, .val (.double ee), .second, .val (.double u0), .second, .val (.double u1), .second, .val (.double u2), .second, .val (.ref a316), .val (.ref a462), .val (.ref a496), .unset] []))
        refine g_aload X551 hx (pc' := 359) rfl (hb hby at_357) rfl rfl ?_
        refine g_aload X551 hx (pc' := 361) rfl (hb hby at_359) rfl rfl ?_
        refine g_iload X551 hx (pc' := 363) rfl (hb hby at_361) rfl ?_
        refine g_iconst X551 hx (pc' := 364) (z := (0 : Int32)) rfl (hb hby at_363) rfl ?_
        refine g_iload X551 hx (pc' := 366) rfl (hb hby at_364) rfl ?_
        refine g_dload X551 hx (pc' := 368) rfl (hb hby at_366) rfl ?_
        refine g_dload X551 hx (pc' := 370) rfl (hb hby at_368) rfl ?_
        refine g_dload X551 hx (pc' := 372) rfl (hb hby at_370) rfl ?_
        refine g_callS X551 hx hZ hown (hw _ (List.mem_of_getElem? (i := 9) rfl)) (hw _ (List.mem_of_getElem? (i := 10) rfl)) (hw _ (List.mem_of_getElem? (i := 2) rfl)) (hw _ (List.mem_of_getElem? (i := 11) rfl)) (by decide) (rm3_2_2_0 l Z a0 hw [] n0 a462 a496 r0 r0 r1 r1 s2 r2 s3 r3 r4 r4 r5 r5 r6 r6 r7 r7 mr0 mr0 ms2 mr2 mr4 mr4 mr6 mr6 u0 u1 u2 mu0 mu1 mu2 h551 zs551 A551 O551 yr0 (Nat.le_trans br0 (by decide)) yr0 br0 ys2 bs2 yr2 br2 yr4 (Nat.le_trans br4 (by decide)) yr4 br4 yr6 (Nat.le_trans br6 (by decide)) yr6 br6 yu0 bu0 yu1 bu1 yu2 bu2 rfl (by rw [ems2]; exact own_e1 _ _) rfl rfl) pd_2 rfl rfl (by rw [hml]; rfl) (pc' := 375) rfl (hb hby at_372) (argsL := [(.ref a462), (.ref a496), (.int (2 : Int32)), (.int (0 : Int32)), (.int (2 : Int32)), (.double u0), (.double u1), (.double u2)]) (rest := []) rfl (W := 0) (Nat.le_of_eq rfl) (by decide) (by decide) (by decide) (by decide) (fun v552 T552 h552 X552 hQ552 => ?_)
        obtain ⟨rfl, he552⟩ := hQ552
        rw [he552] at X552
        show Go p e below s n0 _ _ _ (T552.setTop (mkF m 375 #[.val (.int x0), .val (.int x1), .val (.int x2), .val (.int x3), .val (.int (2 : Int32)), .val (.int (2 : Int32)), .val (.int (4 : Int32)), .val (.double dd), .second, .val (.double ee), .second, .val (.double u0), .second, .val (.double u1), .second, .val (.double u2), .second, .val (.ref a316), .val (.ref a462), .val (.ref a496), .unset] [(.int (1 : Int32))]))
        refine g_istore X552 hx (pc' := 377) rfl (hb hby at_375) (l' := #[.val (.int x0), .val (.int x1), .val (.int x2), .val (.int x3), .val (.int (2 : Int32)), .val (.int (2 : Int32)), .val (.int (4 : Int32)), .val (.double dd), .second, .val (.double ee), .second, .val (.double u0), .second, .val (.double u1), .second, .val (.double u2), .second, .val (.ref a316), .val (.ref a462), .val (.ref a496), .val (.int (1 : Int32))]) rfl ?_
        refine g_iload X552 hx (pc' := 379) rfl (hb hby at_377) rfl ?_
        refine g_iconst X552 hx (pc' := 380) (z := (2 : Int32)) rfl (hb hby at_379) rfl ?_
        refine g_icmpN X552 hx (pcN := 383) (hb hby at_380) rfl (show ¬ (¬ (2 : Int32) = (2 : Int32)) from by decide) ?_
        refine g_iload X552 hx (pc' := 385) rfl (hb hby at_383) rfl ?_
        refine g_ifN X552 hx (pcN := 388) (hb hby at_385) rfl (show ¬ ((1 : Int32) = 0) from by decide) ?_
        refine g_aload X552 hx (pc' := 390) rfl (hb hby at_388) rfl rfl ?_
        refine g_aload X552 hx (pc' := 392) rfl (hb hby at_390) rfl rfl ?_
        refine g_iload X552 hx (pc' := 394) rfl (hb hby at_392) rfl ?_
        refine g_iconst X552 hx (pc' := 395) (z := (1 : Int32)) rfl (hb hby at_394) rfl ?_
        refine g_iload X552 hx (pc' := 397) rfl (hb hby at_395) rfl ?_
        refine g_dload X552 hx (pc' := 399) rfl (hb hby at_397) rfl ?_
        refine g_dload X552 hx (pc' := 401) rfl (hb hby at_399) rfl ?_
        refine g_dload X552 hx (pc' := 403) rfl (hb hby at_401) rfl ?_
        refine g_callS X552 hx hZ hown (hw _ (List.mem_of_getElem? (i := 9) rfl)) (hw _ (List.mem_of_getElem? (i := 10) rfl)) (hw _ (List.mem_of_getElem? (i := 2) rfl)) (hw _ (List.mem_of_getElem? (i := 11) rfl)) (by decide) (rm3_2_2_1 l Z a0 hw [] n0 a462 a496 r0 r0 r1 r1 s2 r2 s3 r3 r4 r4 r5 r5 r6 r6 r7 r7 mr1 mr1 ms3 mr3 mr5 mr5 mr7 mr7 u0 u1 u2 mu0 mu1 mu2 h551 zs551 A551 O551 yr1 (Nat.le_trans br1 (by decide)) yr1 br1 ys3 bs3 yr3 br3 yr5 (Nat.le_trans br5 (by decide)) yr5 br5 yr7 (Nat.le_trans br7 (by decide)) yr7 br7 yu0 bu0 yu1 bu1 yu2 bu2 rfl (by rw [ems3]; exact own_e1 _ _) rfl rfl) pd_2 rfl rfl (by rw [hml]; rfl) (pc' := 406) rfl (hb hby at_403) (argsL := [(.ref a462), (.ref a496), (.int (2 : Int32)), (.int (1 : Int32)), (.int (2 : Int32)), (.double u0), (.double u1), (.double u2)]) (rest := []) rfl (W := 0) (Nat.le_of_eq rfl) (by decide) (by decide) (by decide) (by decide) (fun v553 T553 h553 X553 hQ553 => ?_)
        obtain ⟨rfl, he553⟩ := hQ553
        rw [he553] at X553
        show Go p e below s n0 _ _ _ (T553.setTop (mkF m 406 #[.val (.int x0), .val (.int x1), .val (.int x2), .val (.int x3), .val (.int (2 : Int32)), .val (.int (2 : Int32)), .val (.int (4 : Int32)), .val (.double dd), .second, .val (.double ee), .second, .val (.double u0), .second, .val (.double u1), .second, .val (.double u2), .second, .val (.ref a316), .val (.ref a462), .val (.ref a496), .val (.int (1 : Int32))] [(.int (1 : Int32))]))
        refine g_ifN X553 hx (pcN := 409) (hb hby at_406) rfl (show ¬ ((1 : Int32) = 0) from by decide) ?_
        refine g_iconst X553 hx (pc' := 410) (z := (1 : Int32)) rfl (hb hby at_409) rfl ?_
        refine g_goto X553 hx (pc' := 414) (hb hby at_410) (by decide) (by decide) ?_
        refine g_istore X553 hx (pc' := 416) rfl (hb hby at_414) (l' := #[.val (.int x0), .val (.int x1), .val (.int x2), .val (.int x3), .val (.int (2 : Int32)), .val (.int (2 : Int32)), .val (.int (4 : Int32)), .val (.double dd), .second, .val (.double ee), .second, .val (.double u0), .second, .val (.double u1), .second, .val (.double u2), .second, .val (.ref a316), .val (.ref a462), .val (.ref a496), .val (.int (1 : Int32))]) rfl ?_
        refine g_goto X553 hx (pc' := 483) (hb hby at_416) (by decide) (by decide) ?_
        refine g_iload X553 hx (pc' := 485) rfl (hb hby at_483) rfl ?_
        exact g_retZ X553 hx hlk hret (Or.inr rfl) (hb hby at_485) (by decide) (by decide) (rfl)
    · subst qorder
      rcases hwidth with qwidth | qwidth
      · subst qwidth
        refine g_aload X535 hx (pc' := 346) rfl (hb hby at_344) rfl rfl ?_
        refine g_iload X535 hx (pc' := 348) rfl (hb hby at_346) rfl ?_
        refine g_iload X535 hx (pc' := 350) rfl (hb hby at_348) rfl ?_
        refine g_aload X535 hx (pc' := 352) rfl (hb hby at_350) rfl rfl ?_
        refine g_iload X535 hx (pc' := 354) rfl (hb hby at_352) rfl ?_
        refine g_callS X535 hx hZ hown (hw _ (List.mem_of_getElem? (i := 5) rfl)) (hw _ (List.mem_of_getElem? (i := 6) rfl)) (hw _ (List.mem_of_getElem? (i := 7) rfl)) (hw _ (List.mem_of_getElem? (i := 8) rfl)) (by decide) (rm2_3_1_4 l Z a0 hw [] n0 a316 a462 dd ee ee ee u0 dd ee ee u1 u2 dd ee mu0 mu1 mu2 r0 mr0 r1 mr1 r2 mr2 r3 mr3 r4 mr4 r5 mr5 r6 mr6 r7 mr7 h535 f536 f537 f538 ne462_a316 G_a462 yr0 br0 yr1 br1 yr2 br2 yr3 br3 yr4 br4 yr5 br5 yr6 br6 yr7 br7 yu0 bu0 yu1 bu1 yu2 bu2) pd_1 rfl rfl (by rw [hml]; rfl) (pc' := 357) rfl (hb hby at_354) (argsL := [(.ref a316), (.int (4 : Int32)), (.int (3 : Int32)), (.ref a462), (.int (1 : Int32))]) (rest := []) rfl (W := 0) (Nat.le_of_eq rfl) (by decide) (by decide) (by decide) (by decide) (fun v554 T554 h554 X554 hQ554 => ?_)
        obtain ⟨rfl, K554, s1, ys1, s2, ys2, A554⟩ := hQ554
        have O554 := V535.keep K554 (ninS ne496_a462.symm nin0)
        have zs554 : n0 ≤ h554.size := Nat.le_trans f536 K554.1
        obtain ⟨ms1, ems1⟩ : ∃ z : Int, z = (mr1 - mu0 * mr0) := ⟨_, rfl⟩
        replace ys1 : Dy ms1 1074 s1 := by rw [ems1]; exact ys1
        have bs1 : ms1.natAbs ≤ 100000 := by
          rw [ems1]; exact own_b72 br1 bu0 br0
        obtain ⟨ms2, ems2⟩ : ∃ z : Int, z = (mr2 - mu1 * mr0 - mu2 * (mr1 - mu0 * mr0)) := ⟨_, rfl⟩
        replace ys2 : Dy ms2 1074 s2 := by rw [ems2]; exact ys2
        have bs2 : ms2.natAbs ≤ 100000 := by
          rw [ems2]; exact own_b648 br2 bu1 br0 bu2 br1 bu0
        show Go p e below s n0 _ _ _ (T554.setTop (mkF m 357 #[.val (.int x0), .val (.int x1), .val (.int x2), .val (.int x3), .val (.int (3 : Int32)), .val (.int (1 : Int32)), .val (.int (4 : Int32)), .val (.double dd), .second, .val (.double ee), .second, .val (.double u0), .second, .val (.double u1), .second, .val (.double u2), .second, .val (.ref a316), .val (.ref a462), .val (.ref a496), .unset] []))
        refine g_aload X554 hx (pc' := 359) rfl (hb hby at_357) rfl rfl ?_
        refine g_aload X554 hx (pc' := 361) rfl (hb hby at_359) rfl rfl ?_
        refine g_iload X554 hx (pc' := 363) rfl (hb hby at_361) rfl ?_
        refine g_iconst X554 hx (pc' := 364) (z := (0 : Int32)) rfl (hb hby at_363) rfl ?_
        refine g_iload X554 hx (pc' := 366) rfl (hb hby at_364) rfl ?_
        refine g_dload X554 hx (pc' := 368) rfl (hb hby at_366) rfl ?_
        refine g_dload X554 hx (pc' := 370) rfl (hb hby at_368) rfl ?_
        refine g_dload X554 hx (pc' := 372) rfl (hb hby at_370) rfl ?_
        refine g_callS X554 hx hZ hown (hw _ (List.mem_of_getElem? (i := 9) rfl)) (hw _ (List.mem_of_getElem? (i := 10) rfl)) (hw _ (List.mem_of_getElem? (i := 2) rfl)) (hw _ (List.mem_of_getElem? (i := 11) rfl)) (by decide) (rm3_3_1_0 l Z a0 hw [] n0 a462 a496 r0 r0 s1 r1 s2 r2 r3 r3 r4 r4 r5 r5 r6 r6 r7 r7 mr0 mr0 ms1 mr1 ms2 mr2 mr3 mr3 u0 u1 u2 mu0 mu1 mu2 h554 zs554 A554 O554 yr0 (Nat.le_trans br0 (by decide)) yr0 br0 ys1 bs1 yr1 br1 ys2 bs2 yr2 br2 yr3 (Nat.le_trans br3 (by decide)) yr3 br3 yu0 bu0 yu1 bu1 yu2 bu2 rfl (by rw [ems1]; exact own_e1 _ _) (by rw [ems2, ems1]; exact own_e2 _ _ _) rfl) pd_2 rfl rfl (by rw [hml]; rfl) (pc' := 375) rfl (hb hby at_372) (argsL := [(.ref a462), (.ref a496), (.int (1 : Int32)), (.int (0 : Int32)), (.int (3 : Int32)), (.double u0), (.double u1), (.double u2)]) (rest := []) rfl (W := 0) (Nat.le_of_eq rfl) (by decide) (by decide) (by decide) (by decide) (fun v555 T555 h555 X555 hQ555 => ?_)
        obtain ⟨rfl, he555⟩ := hQ555
        rw [he555] at X555
        show Go p e below s n0 _ _ _ (T555.setTop (mkF m 375 #[.val (.int x0), .val (.int x1), .val (.int x2), .val (.int x3), .val (.int (3 : Int32)), .val (.int (1 : Int32)), .val (.int (4 : Int32)), .val (.double dd), .second, .val (.double ee), .second, .val (.double u0), .second, .val (.double u1), .second, .val (.double u2), .second, .val (.ref a316), .val (.ref a462), .val (.ref a496), .unset] [(.int (1 : Int32))]))
        refine g_istore X555 hx (pc' := 377) rfl (hb hby at_375) (l' := #[.val (.int x0), .val (.int x1), .val (.int x2), .val (.int x3), .val (.int (3 : Int32)), .val (.int (1 : Int32)), .val (.int (4 : Int32)), .val (.double dd), .second, .val (.double ee), .second, .val (.double u0), .second, .val (.double u1), .second, .val (.double u2), .second, .val (.ref a316), .val (.ref a462), .val (.ref a496), .val (.int (1 : Int32))]) rfl ?_
        refine g_iload X555 hx (pc' := 379) rfl (hb hby at_377) rfl ?_
        refine g_iconst X555 hx (pc' := 380) (z := (2 : Int32)) rfl (hb hby at_379) rfl ?_
        refine g_icmpY X555 hx (pcY := 419) (hb hby at_380) (by decide) (by decide) (show ¬ (1 : Int32) = (2 : Int32) from by decide) ?_
        refine g_iload X555 hx (pc' := 421) rfl (hb hby at_419) rfl ?_
        refine g_ifN X555 hx (pcN := 424) (hb hby at_421) rfl (show ¬ ((1 : Int32) = 0) from by decide) ?_
        refine g_aload X555 hx (pc' := 426) rfl (hb hby at_424) rfl rfl ?_
        refine g_iconst X555 hx (pc' := 427) (z := (4 : Int32)) rfl (hb hby at_426) rfl ?_
        refine g_daload X555 hx hZ A554 (i := 4) (by decide) (show (4 : Nat) < 8 by decide) (v := r4) rfl (pc' := 428) rfl (hb hby at_427) ?_
        refine g_aload X555 hx (pc' := 430) rfl (hb hby at_428) rfl rfl ?_
        refine g_iconst X555 hx (pc' := 431) (z := (4 : Int32)) rfl (hb hby at_430) rfl ?_
        refine g_daload X555 hx hZ O554 (i := 4) (by decide) (show (4 : Nat) < 8 by decide) (v := r4) rfl (pc' := 432) rfl (hb hby at_431) ?_
        refine g_dcmp X555 hx (pc' := 433) (z := (0 : Int32)) rfl (hb hby at_432) (own_dyeq yr4 yr4 (by exact rfl)) ?_
        refine g_ifN X555 hx (pcN := 436) (hb hby at_433) rfl (show ¬ (¬ (0 : Int32) = 0) from by decide) ?_
        refine g_aload X555 hx (pc' := 438) rfl (hb hby at_436) rfl rfl ?_
        refine g_iconst X555 hx (pc' := 439) (z := (5 : Int32)) rfl (hb hby at_438) rfl ?_
        refine g_daload X555 hx hZ A554 (i := 5) (by decide) (show (5 : Nat) < 8 by decide) (v := r5) rfl (pc' := 440) rfl (hb hby at_439) ?_
        refine g_aload X555 hx (pc' := 442) rfl (hb hby at_440) rfl rfl ?_
        refine g_iconst X555 hx (pc' := 443) (z := (5 : Int32)) rfl (hb hby at_442) rfl ?_
        refine g_daload X555 hx hZ O554 (i := 5) (by decide) (show (5 : Nat) < 8 by decide) (v := r5) rfl (pc' := 444) rfl (hb hby at_443) ?_
        refine g_dcmp X555 hx (pc' := 445) (z := (0 : Int32)) rfl (hb hby at_444) (own_dyeq yr5 yr5 (by exact rfl)) ?_
        refine g_ifN X555 hx (pcN := 448) (hb hby at_445) rfl (show ¬ (¬ (0 : Int32) = 0) from by decide) ?_
        refine g_aload X555 hx (pc' := 450) rfl (hb hby at_448) rfl rfl ?_
        refine g_bipush X555 hx (pc' := 452) (z := (6 : Int32)) rfl (hb hby at_450) rfl ?_
        refine g_daload X555 hx hZ A554 (i := 6) (by decide) (show (6 : Nat) < 8 by decide) (v := r6) rfl (pc' := 453) rfl (hb hby at_452) ?_
        refine g_aload X555 hx (pc' := 455) rfl (hb hby at_453) rfl rfl ?_
        refine g_bipush X555 hx (pc' := 457) (z := (6 : Int32)) rfl (hb hby at_455) rfl ?_
        refine g_daload X555 hx hZ O554 (i := 6) (by decide) (show (6 : Nat) < 8 by decide) (v := r6) rfl (pc' := 458) rfl (hb hby at_457) ?_
        refine g_dcmp X555 hx (pc' := 459) (z := (0 : Int32)) rfl (hb hby at_458) (own_dyeq yr6 yr6 (by exact rfl)) ?_
        refine g_ifN X555 hx (pcN := 462) (hb hby at_459) rfl (show ¬ (¬ (0 : Int32) = 0) from by decide) ?_
        refine g_aload X555 hx (pc' := 464) rfl (hb hby at_462) rfl rfl ?_
        refine g_bipush X555 hx (pc' := 466) (z := (7 : Int32)) rfl (hb hby at_464) rfl ?_
        refine g_daload X555 hx hZ A554 (i := 7) (by decide) (show (7 : Nat) < 8 by decide) (v := r7) rfl (pc' := 467) rfl (hb hby at_466) ?_
        refine g_aload X555 hx (pc' := 469) rfl (hb hby at_467) rfl rfl ?_
        refine g_bipush X555 hx (pc' := 471) (z := (7 : Int32)) rfl (hb hby at_469) rfl ?_
        refine g_daload X555 hx hZ O554 (i := 7) (by decide) (show (7 : Nat) < 8 by decide) (v := r7) rfl (pc' := 472) rfl (hb hby at_471) ?_
        refine g_dcmp X555 hx (pc' := 473) (z := (0 : Int32)) rfl (hb hby at_472) (own_dyeq yr7 yr7 (by exact rfl)) ?_
        refine g_ifN X555 hx (pcN := 476) (hb hby at_473) rfl (show ¬ (¬ (0 : Int32) = 0) from by decide) ?_
        refine g_iconst X555 hx (pc' := 477) (z := (1 : Int32)) rfl (hb hby at_476) rfl ?_
        refine g_goto X555 hx (pc' := 481) (hb hby at_477) (by decide) (by decide) ?_
        refine g_istore X555 hx (pc' := 483) rfl (hb hby at_481) (l' := #[.val (.int x0), .val (.int x1), .val (.int x2), .val (.int x3), .val (.int (3 : Int32)), .val (.int (1 : Int32)), .val (.int (4 : Int32)), .val (.double dd), .second, .val (.double ee), .second, .val (.double u0), .second, .val (.double u1), .second, .val (.double u2), .second, .val (.ref a316), .val (.ref a462), .val (.ref a496), .val (.int (1 : Int32))]) rfl ?_
        refine g_iload X555 hx (pc' := 485) rfl (hb hby at_483) rfl ?_
        exact g_retZ X555 hx hlk hret (Or.inr rfl) (hb hby at_485) (by decide) (by decide) (rfl)
      · subst qwidth
        refine g_aload X535 hx (pc' := 346) rfl (hb hby at_344) rfl rfl ?_
        refine g_iload X535 hx (pc' := 348) rfl (hb hby at_346) rfl ?_
        refine g_iload X535 hx (pc' := 350) rfl (hb hby at_348) rfl ?_
        refine g_aload X535 hx (pc' := 352) rfl (hb hby at_350) rfl rfl ?_
        refine g_iload X535 hx (pc' := 354) rfl (hb hby at_352) rfl ?_
        refine g_callS X535 hx hZ hown (hw _ (List.mem_of_getElem? (i := 5) rfl)) (hw _ (List.mem_of_getElem? (i := 6) rfl)) (hw _ (List.mem_of_getElem? (i := 7) rfl)) (hw _ (List.mem_of_getElem? (i := 8) rfl)) (by decide) (rm2_3_2_4 l Z a0 hw [] n0 a316 a462 dd ee ee ee u0 dd ee ee u1 u2 dd ee mu0 mu1 mu2 r0 mr0 r1 mr1 r2 mr2 r3 mr3 r4 mr4 r5 mr5 r6 mr6 r7 mr7 h535 f536 f537 f538 ne462_a316 G_a462 yr0 br0 yr1 br1 yr2 br2 yr3 br3 yr4 br4 yr5 br5 yr6 br6 yr7 br7 yu0 bu0 yu1 bu1 yu2 bu2) pd_1 rfl rfl (by rw [hml]; rfl) (pc' := 357) rfl (hb hby at_354) (argsL := [(.ref a316), (.int (4 : Int32)), (.int (3 : Int32)), (.ref a462), (.int (2 : Int32))]) (rest := []) rfl (W := 0) (Nat.le_of_eq rfl) (by decide) (by decide) (by decide) (by decide) (fun v556 T556 h556 X556 hQ556 => ?_)
        obtain ⟨rfl, K556, s2, ys2, s3, ys3, s4, ys4, s5, ys5, A556⟩ := hQ556
        have O556 := V535.keep K556 (ninS ne496_a462.symm nin0)
        have zs556 : n0 ≤ h556.size := Nat.le_trans f536 K556.1
        obtain ⟨ms2, ems2⟩ : ∃ z : Int, z = (mr2 - mu0 * mr0) := ⟨_, rfl⟩
        replace ys2 : Dy ms2 1074 s2 := by rw [ems2]; exact ys2
        have bs2 : ms2.natAbs ≤ 100000 := by
          rw [ems2]; exact own_b72 br2 bu0 br0
        obtain ⟨ms3, ems3⟩ : ∃ z : Int, z = (mr3 - mu0 * mr1) := ⟨_, rfl⟩
        replace ys3 : Dy ms3 1074 s3 := by rw [ems3]; exact ys3
        have bs3 : ms3.natAbs ≤ 100000 := by
          rw [ems3]; exact own_b72 br3 bu0 br1
        obtain ⟨ms4, ems4⟩ : ∃ z : Int, z = (mr4 - mu1 * mr0 - mu2 * (mr2 - mu0 * mr0)) := ⟨_, rfl⟩
        replace ys4 : Dy ms4 1074 s4 := by rw [ems4]; exact ys4
        have bs4 : ms4.natAbs ≤ 100000 := by
          rw [ems4]; exact own_b648 br4 bu1 br0 bu2 br2 bu0
        obtain ⟨ms5, ems5⟩ : ∃ z : Int, z = (mr5 - mu1 * mr1 - mu2 * (mr3 - mu0 * mr1)) := ⟨_, rfl⟩
        replace ys5 : Dy ms5 1074 s5 := by rw [ems5]; exact ys5
        have bs5 : ms5.natAbs ≤ 100000 := by
          rw [ems5]; exact own_b648 br5 bu1 br1 bu2 br3 bu0
        show Go p e below s n0 _ _ _ (T556.setTop (mkF m 357 #[.val (.int x0), .val (.int x1), .val (.int x2), .val (.int x3), .val (.int (3 : Int32)), .val (.int (2 : Int32)), .val (.int (4 : Int32)), .val (.double dd), .second, .val (.double ee), .second, .val (.double u0), .second, .val (.double u1), .second, .val (.double u2), .second, .val (.ref a316), .val (.ref a462), .val (.ref a496), .unset] []))
        refine g_aload X556 hx (pc' := 359) rfl (hb hby at_357) rfl rfl ?_
        refine g_aload X556 hx (pc' := 361) rfl (hb hby at_359) rfl rfl ?_
        refine g_iload X556 hx (pc' := 363) rfl (hb hby at_361) rfl ?_
        refine g_iconst X556 hx (pc' := 364) (z := (0 : Int32)) rfl (hb hby at_363) rfl ?_
        refine g_iload X556 hx (pc' := 366) rfl (hb hby at_364) rfl ?_
        refine g_dload X556 hx (pc' := 368) rfl (hb hby at_366) rfl ?_
        refine g_dload X556 hx (pc' := 370) rfl (hb hby at_368) rfl ?_
        refine g_dload X556 hx (pc' := 372) rfl (hb hby at_370) rfl ?_
        refine g_callS X556 hx hZ hown (hw _ (List.mem_of_getElem? (i := 9) rfl)) (hw _ (List.mem_of_getElem? (i := 10) rfl)) (hw _ (List.mem_of_getElem? (i := 2) rfl)) (hw _ (List.mem_of_getElem? (i := 11) rfl)) (by decide) (rm3_3_2_0 l Z a0 hw [] n0 a462 a496 r0 r0 r1 r1 s2 r2 s3 r3 s4 r4 s5 r5 r6 r6 r7 r7 mr0 mr0 ms2 mr2 ms4 mr4 mr6 mr6 u0 u1 u2 mu0 mu1 mu2 h556 zs556 A556 O556 yr0 (Nat.le_trans br0 (by decide)) yr0 br0 ys2 bs2 yr2 br2 ys4 bs4 yr4 br4 yr6 (Nat.le_trans br6 (by decide)) yr6 br6 yu0 bu0 yu1 bu1 yu2 bu2 rfl (by rw [ems2]; exact own_e1 _ _) (by rw [ems4, ems2]; exact own_e2 _ _ _) rfl) pd_2 rfl rfl (by rw [hml]; rfl) (pc' := 375) rfl (hb hby at_372) (argsL := [(.ref a462), (.ref a496), (.int (2 : Int32)), (.int (0 : Int32)), (.int (3 : Int32)), (.double u0), (.double u1), (.double u2)]) (rest := []) rfl (W := 0) (Nat.le_of_eq rfl) (by decide) (by decide) (by decide) (by decide) (fun v557 T557 h557 X557 hQ557 => ?_)
        obtain ⟨rfl, he557⟩ := hQ557
        rw [he557] at X557
        show Go p e below s n0 _ _ _ (T557.setTop (mkF m 375 #[.val (.int x0), .val (.int x1), .val (.int x2), .val (.int x3), .val (.int (3 : Int32)), .val (.int (2 : Int32)), .val (.int (4 : Int32)), .val (.double dd), .second, .val (.double ee), .second, .val (.double u0), .second, .val (.double u1), .second, .val (.double u2), .second, .val (.ref a316), .val (.ref a462), .val (.ref a496), .unset] [(.int (1 : Int32))]))
        refine g_istore X557 hx (pc' := 377) rfl (hb hby at_375) (l' := #[.val (.int x0), .val (.int x1), .val (.int x2), .val (.int x3), .val (.int (3 : Int32)), .val (.int (2 : Int32)), .val (.int (4 : Int32)), .val (.double dd), .second, .val (.double ee), .second, .val (.double u0), .second, .val (.double u1), .second, .val (.double u2), .second, .val (.ref a316), .val (.ref a462), .val (.ref a496), .val (.int (1 : Int32))]) rfl ?_
        refine g_iload X557 hx (pc' := 379) rfl (hb hby at_377) rfl ?_
        refine g_iconst X557 hx (pc' := 380) (z := (2 : Int32)) rfl (hb hby at_379) rfl ?_
        refine g_icmpN X557 hx (pcN := 383) (hb hby at_380) rfl (show ¬ (¬ (2 : Int32) = (2 : Int32)) from by decide) ?_
        refine g_iload X557 hx (pc' := 385) rfl (hb hby at_383) rfl ?_
        refine g_ifN X557 hx (pcN := 388) (hb hby at_385) rfl (show ¬ ((1 : Int32) = 0) from by decide) ?_
        refine g_aload X557 hx (pc' := 390) rfl (hb hby at_388) rfl rfl ?_
        refine g_aload X557 hx (pc' := 392) rfl (hb hby at_390) rfl rfl ?_
        refine g_iload X557 hx (pc' := 394) rfl (hb hby at_392) rfl ?_
        refine g_iconst X557 hx (pc' := 395) (z := (1 : Int32)) rfl (hb hby at_394) rfl ?_
        refine g_iload X557 hx (pc' := 397) rfl (hb hby at_395) rfl ?_
        refine g_dload X557 hx (pc' := 399) rfl (hb hby at_397) rfl ?_
        refine g_dload X557 hx (pc' := 401) rfl (hb hby at_399) rfl ?_
        refine g_dload X557 hx (pc' := 403) rfl (hb hby at_401) rfl ?_
        refine g_callS X557 hx hZ hown (hw _ (List.mem_of_getElem? (i := 9) rfl)) (hw _ (List.mem_of_getElem? (i := 10) rfl)) (hw _ (List.mem_of_getElem? (i := 2) rfl)) (hw _ (List.mem_of_getElem? (i := 11) rfl)) (by decide) (rm3_3_2_1 l Z a0 hw [] n0 a462 a496 r0 r0 r1 r1 s2 r2 s3 r3 s4 r4 s5 r5 r6 r6 r7 r7 mr1 mr1 ms3 mr3 ms5 mr5 mr7 mr7 u0 u1 u2 mu0 mu1 mu2 h556 zs556 A556 O556 yr1 (Nat.le_trans br1 (by decide)) yr1 br1 ys3 bs3 yr3 br3 ys5 bs5 yr5 br5 yr7 (Nat.le_trans br7 (by decide)) yr7 br7 yu0 bu0 yu1 bu1 yu2 bu2 rfl (by rw [ems3]; exact own_e1 _ _) (by rw [ems5, ems3]; exact own_e2 _ _ _) rfl) pd_2 rfl rfl (by rw [hml]; rfl) (pc' := 406) rfl (hb hby at_403) (argsL := [(.ref a462), (.ref a496), (.int (2 : Int32)), (.int (1 : Int32)), (.int (3 : Int32)), (.double u0), (.double u1), (.double u2)]) (rest := []) rfl (W := 0) (Nat.le_of_eq rfl) (by decide) (by decide) (by decide) (by decide) (fun v558 T558 h558 X558 hQ558 => ?_)
        obtain ⟨rfl, he558⟩ := hQ558
        rw [he558] at X558
        show Go p e below s n0 _ _ _ (T558.setTop (mkF m 406 #[.val (.int x0), .val (.int x1), .val (.int x2), .val (.int x3), .val (.int (3 : Int32)), .val (.int (2 : Int32)), .val (.int (4 : Int32)), .val (.double dd), .second, .val (.double ee), .second, .val (.double u0), .second, .val (.double u1), .second, .val (.double u2), .second, .val (.ref a316), .val (.ref a462), .val (.ref a496), .val (.int (1 : Int32))] [(.int (1 : Int32))]))
        refine g_ifN X558 hx (pcN := 409) (hb hby at_406) rfl (show ¬ ((1 : Int32) = 0) from by decide) ?_
        refine g_iconst X558 hx (pc' := 410) (z := (1 : Int32)) rfl (hb hby at_409) rfl ?_
        refine g_goto X558 hx (pc' := 414) (hb hby at_410) (by decide) (by decide) ?_
        refine g_istore X558 hx (pc' := 416) rfl (hb hby at_414) (l' := #[.val (.int x0), .val (.int x1), .val (.int x2), .val (.int x3), .val (.int (3 : Int32)), .val (.int (2 : Int32)), .val (.int (4 : Int32)), .val (.double dd), .second, .val (.double ee), .second, .val (.double u0), .second, .val (.double u1), .second, .val (.double u2), .second, .val (.ref a316), .val (.ref a462), .val (.ref a496), .val (.int (1 : Int32))]) rfl ?_
        refine g_goto X558 hx (pc' := 483) (hb hby at_416) (by decide) (by decide) ?_
        refine g_iload X558 hx (pc' := 485) rfl (hb hby at_483) rfl ?_
        exact g_retZ X558 hx hlk hret (Or.inr rfl) (hb hby at_485) (by decide) (by decide) (rfl)
set_option maxRecDepth 65536 in
set_option maxHeartbeats 40000000 in
theorem comes_1 {Post : Tables → Env → Array Value → State → Outcome → State → Prop} (hpost : ∀ tb e args s v u, (limb_1_1.after args s (.returned v) u = true ∧ limb_1_2.after args s (.returned v) u = true ∧ True) → FrameEnd s (.returned v) u (Jvm.fieldLocs frame_1_writes args s ++ Jvm.arrayLocs frame_1_arrays args s ++ Jvm.staticLocs frame_1_statics s) 16 128 → Post tb e args s (.returned v) u) :
    ArmFor flags0 classFile x code maxLocals ret World_1 tables_1 room_1 Calls_1 rest_1 Pre_1 Post := by
  intro l hfl _ _ p e ha hc hk s m args below hf hA hF happ hP
  obtain ⟨hcalls, hrest, hpre⟩ := hP
  obtain ⟨-, -, -, hnamed, -, -, -, hat⟩ := (Spec.applies_iff hf).mp happ
  obtain ⟨hg, hn⟩ := and_e (Cond.before_iff.mp (show (Jvm.Cond.and given_1 narrow_1).before args s = true from hpre))
  obtain ⟨hcount, hg0⟩ := and_e hg
  obtain ⟨ha0, hg1⟩ := and_e hg0
  obtain ⟨ha1, hg2⟩ := and_e hg1
  obtain ⟨ha2, hg3⟩ := and_e hg2
  have ha3 := hg3
  obtain ⟨w0, w1, w2, w3, rfl⟩ : ∃ w0 w1 w2 w3 : Value, args = #[w0, w1, w2, w3] := by
    have hs : args.size = 4 := by simpa [Cond.value, given_1] using hcount
    obtain ⟨L⟩ := args
    match L, hs with
    | [w0, w1, w2, w3], _ => exact ⟨w0, w1, w2, w3, rfl⟩
  have hw := fun d (hd : d ∈ tables_1) => atoms_spec (ws := Jvm.Cond.code x code maxLocals ret :: tables_1) hat d (List.mem_cons_of_mem _ hd)
  obtain ⟨i0, ei0⟩ := is_v ha0
  obtain rfl : w0 = (.int i0) := Option.some.inj ei0
  obtain ⟨i1, ei1⟩ := is_v ha1
  obtain rfl : w1 = (.int i1) := Option.some.inj ei1
  obtain ⟨i2, ei2⟩ := is_v ha2
  obtain rfl : w2 = (.int i2) := Option.some.inj ei2
  obtain ⟨i3, ei3⟩ := is_v ha3
  obtain rfl : w3 = (.int i3) := Option.some.inj ei3
  obtain ⟨n, o, h1, h2, h3, _, L, rfl, ⟨N, rfl⟩, hq⟩ := rm0 l s _ hw tables_1 s.heap.size i0 i1 i2 i3 s.heap (Nat.le_refl _)  p e ha hc hk s m _ below hf ((Spec.applies_iff_loose hf).mp happ).1 ⟨rfl, State.Warmed39.refl s, rfl⟩ trivial
  refine ⟨n, _, h1, h2, h3, hpost _ _ _ _ _ _ ⟨Cond.after_iff.mpr rfl, Cond.after_iff.mpr (eq_i res_at (Term.int_eval (1)) rfl), trivial⟩ ⟨hq.1, hq.2.1, (hq.2.2.sift fun y hy => Or.inr (N y hy)).mono (by decide) (by decide)⟩⟩
theorem main_1_1 : Claimed_1_1 := comes_1 fun _ _ _ _ _ _ h hF => ⟨h.1, hF⟩
theorem main_1_2 : Claimed_1_2 := comes_1 fun _ _ _ _ _ _ h hF => ⟨h.2.1, hF⟩
end Jvm.Pilot.@@N@@
-- WITNESS
namespace Jvm.Pilot.@@N@@
open Jvm Jvm.ClassFile Sem Op Lib Jvm.Free Jvm.Stand Jvm.Pilot.@@N@@.Jvm.D
/-! MADE BY PROGRAM (witnessworld.py) out of the Statement's table words and the real class files: 11 classes; the members and pool entries that the words name. The judged class is class 1, her method 3. -/
namespace start1
open Jvm.ClassFile
def u (s : String) : CpInfo := .utf8 (stringToUtf16 s)
/-- a pool by its gaps: so many unusable entries, then the entry; so many at the end -/
def gap : Nat → List CpInfo → List CpInfo
  | 0, r => r
  | n + 1, r => .unusable :: gap n r
def poolList (es : List (Nat × CpInfo)) (last : Nat) : List CpInfo := es.foldr (fun e r => gap e.1 (e.2 :: r)) (gap last [])
def pool (es : List (Nat × CpInfo)) (last : Nat) : Array CpInfo := ⟨poolList es last⟩
def fileOf (pool : Array CpInfo) (this : Nat) (attrs : Array Attribute := #[]) (ms : Array MethodInfo := #[]) (fl : Nat := 33) (sup : Nat := 0) (ifs : Array Nat := #[]) (fds : Array FieldInfo := #[]) : ClassFile where
  minorVersion := 0
  majorVersion := 65
  constantPool := pool
  accessFlags := fl
  thisClass := this
  superClass := sup
  interfaces := ifs
  fields := fds
  methods := ms
  attributes := attrs
def plain (name : String) (sup : Option ClassId) : Class where
  name := name
  kind := .ordinary
  loader := none
  accessFlags := 33
  super := sup
  interfaces := #[]
  cf := none
  fields := #[]
  methods := #[]
  instanceTypes := #[]
  staticTypes := #[]
  resolved := #[]
  callSites := []
  init := .initialized
  statics := none
  mirror := none

def pool0 : Array CpInfo := pool [(5, u "<init>"), (0, u "()V"), (1, .class_ 10), (1, u "java/lang/Object")] 113

def k0m0 : Method := { name := "<init>", desc := "()V", sig := { parameters := [], returnType := none }, accessFlags := 1, code := none }
/-- java/lang/Object -/
def k0 : Class := { plain "java/lang/Object" none with
  accessFlags := 33
  interfaces := #[]
  cf := some (fileOf pool0 8 #[] #[{ accessFlags := 1, nameIndex := 5, descriptorIndex := 6, attributes := #[] }] 33 0 #[] #[])
  fields := #[]
  methods := #[k0m0]
  instanceTypes := #[]
  staticTypes := #[]
  resolved := Array.replicate 124 none
  statics := none }

def pool1 : Array CpInfo := pool [(2, .class_ 4), (1, u "java/lang/Object"), (0, u "<init>"), (0, u "()V"), (0, .methodref 8 9), (0, .class_ 10), (0, .nameAndType 11 12), (0, u "com/example/orthogon/orthogon/TriangularSolveUnitLowerPinLaw"), (0, u "nib"), (0, u "(II)D"), (0, .methodref 14 15), (0, .class_ 16), (0, .nameAndType 17 18), (0, u "com/example/orthogon/orthogon/Triangular"), (0, u "solveUnitLower"), (0, u "([DII[DI)V"), (0, .methodref 8 20), (0, .nameAndType 21 22), (0, u "col"), (0, u "([D[DIIIDDD)Z"), (5, u "law"), (0, u "(IIII)Z")] 2

def k1m0 : Method := { name := "<init>", desc := "()V", sig := { parameters := [], returnType := none }, accessFlags := 2, code := none }
def k1c1 : Code := { maxStack := 3, maxLocals := 2, code := method_2_code, exceptionTable := #[], attributes := #[] }
def k1m1 : Method := { name := "nib", desc := "(II)D", sig := { parameters := [.int, .int], returnType := some .double }, accessFlags := 10, code := some k1c1 }
def k1c2 : Code := { maxStack := 6, maxLocals := 23, code := method_3_code, exceptionTable := #[], attributes := #[] }
def k1m2 : Method := { name := "col", desc := "([D[DIIIDDD)Z", sig := { parameters := [(.array .double), (.array .double), .int, .int, .int, .double, .double, .double], returnType := some .boolean }, accessFlags := 10, code := some k1c2 }
def k1c3 : Code := { maxStack := 11, maxLocals := 21, code := code, exceptionTable := #[], attributes := #[] }
def k1m3 : Method := { name := "law", desc := "(IIII)Z", sig := { parameters := [.int, .int, .int, .int], returnType := some .boolean }, accessFlags := 9, code := some k1c3 }
/-- com/example/orthogon/orthogon/TriangularSolveUnitLowerPinLaw -/
def k1 : Class := { plain "com/example/orthogon/orthogon/TriangularSolveUnitLowerPinLaw" (some 0) with
  accessFlags := 49
  interfaces := #[]
  cf := some (fileOf pool1 8 #[] #[{ accessFlags := 2, nameIndex := 5, descriptorIndex := 6, attributes := #[] }, { accessFlags := 10, nameIndex := 11, descriptorIndex := 12, attributes := #[] }, { accessFlags := 10, nameIndex := 21, descriptorIndex := 22, attributes := #[] }, { accessFlags := 9, nameIndex := 28, descriptorIndex := 29, attributes := #[] }] 49 2 #[] #[])
  fields := #[]
  methods := #[k1m0, k1m1, k1m2, k1m3]
  instanceTypes := #[]
  staticTypes := #[]
  resolved := Array.replicate 32 none
  statics := none }

def pool2 : Array CpInfo := pool [(2, .class_ 4), (1, u "java/lang/Object"), (0, u "<init>"), (0, u "()V"), (0, .class_ 8), (0, u "com/example/orthogon/orthogon/Triangular"), (2, u "solveUnitLower"), (0, u "([DII[DI)V")] 5

def k2m0 : Method := { name := "<init>", desc := "()V", sig := { parameters := [], returnType := none }, accessFlags := 2, code := none }
def k2c1 : Code := { maxStack := 9, maxLocals := 12, code := prog_16_method_2_code, exceptionTable := #[], attributes := #[] }
def k2m1 : Method := { name := "solveUnitLower", desc := "([DII[DI)V", sig := { parameters := [(.array .double), .int, .int, (.array .double), .int], returnType := none }, accessFlags := 8, code := some k2c1 }
/-- com/example/orthogon/orthogon/Triangular -/
def k2 : Class := { plain "com/example/orthogon/orthogon/Triangular" (some 0) with
  accessFlags := 48
  interfaces := #[]
  cf := some (fileOf pool2 7 #[] #[{ accessFlags := 2, nameIndex := 5, descriptorIndex := 6, attributes := #[] }, { accessFlags := 8, nameIndex := 11, descriptorIndex := 12, attributes := #[] }] 48 2 #[] #[])
  fields := #[]
  methods := #[k2m0, k2m1]
  instanceTypes := #[]
  staticTypes := #[]
  resolved := Array.replicate 18 none
  statics := none }

def pool3 : Array CpInfo := pool [(1, u "java/lang/Cloneable"), (0, .class_ 1), (0, u "java/lang/Object"), (0, .class_ 3)] 3

/-- java/lang/Cloneable -/
def k3 : Class := { plain "java/lang/Cloneable" (some 0) with
  accessFlags := 1537
  interfaces := #[]
  cf := some (fileOf pool3 2 #[] #[] 1537 4 #[] #[])
  fields := #[]
  methods := #[]
  instanceTypes := #[]
  staticTypes := #[]
  resolved := Array.replicate 8 none
  statics := none }

def pool4 : Array CpInfo := pool [(1, u "java/io/Serializable"), (0, .class_ 1), (0, u "java/lang/Object"), (0, .class_ 3)] 3

/-- java/io/Serializable -/
def k4 : Class := { plain "java/io/Serializable" (some 0) with
  accessFlags := 1537
  interfaces := #[]
  cf := some (fileOf pool4 2 #[] #[] 1537 4 #[] #[])
  fields := #[]
  methods := #[]
  instanceTypes := #[]
  staticTypes := #[]
  resolved := Array.replicate 8 none
  statics := none }

/-- the primitive byte -/
def k5 : Class := { plain "byte" none with kind := .primitive 'B', accessFlags := 0x411 }
/-- [B -/
def k6 : Class := { plain "[B" (some 0) with kind := .array 5 .byte, interfaces := #[3, 4], accessFlags := 1041 }

/-- the primitive int -/
def k7 : Class := { plain "int" none with kind := .primitive 'I', accessFlags := 0x411 }
/-- [I -/
def k8 : Class := { plain "[I" (some 0) with kind := .array 7 .int, interfaces := #[3, 4], accessFlags := 1041 }

/-- the primitive short -/
def k9 : Class := { plain "double" none with kind := .primitive 'D', accessFlags := 0x411 }
/-- [S -/
def k10 : Class := { plain "[D" (some 0) with kind := .array 9 .double, interfaces := #[3, 4], accessFlags := 1041 }

def heap : Heap := #[]
def classes : Array Class := #[k0, k1, k2, k3, k4, k5, k6, k7, k8, k9, k10]
def interned : List (Array UInt16 × Addr) := []
def slotsUsed : Nat := 0
def theMethod : MethodId := ⟨1, 3⟩
def args0 : Array Value := #[.int 5, .int 3, .int 2, .int 7]
def aboutOver (below : List Frame) : State where
  vm := { classes := classes, interned := interned.toArray }
  heap := heap
  slotsUsed := slotsUsed
  threads := #[{ frames := .invoking theMethod args0 :: below }]
def below0 : List Frame := [.native { method := ⟨0, 0⟩, args := #[] }]
def about1 : State := aboutOver below0
def p0 : Program := .bare "" "" ""
def e0 : Env := launch0.env 0 0 0
theorem w_frames : about1.frames = Frame.invoking theMethod args0 :: below0 := rfl
set_option maxRecDepth 65536 in
theorem w_args : argsFit about1.vm theMethod args0 = true := by decide +kernel
set_option maxRecDepth 65536 in
theorem w_heap : heapFits about1 = true := by decide +kernel
set_option maxRecDepth 65536 in
theorem w_runnable : about1.curStatus? = some .runnable := by decide +kernel
set_option maxRecDepth 65536 in
theorem w_alone : about1.alone = true := by decide +kernel
set_option maxRecDepth 65536 in
theorem w_named : about1.methodNamed? x = some theMethod := by decide +kernel
set_option maxRecDepth 65536 in
theorem w_hears : about1.hears theMethod below0 = true := by decide +kernel
set_option maxRecDepth 65536 in
theorem w_ripe : about1.ripe theMethod args0 below0 = true := by decide +kernel
theorem w_running : about1.status = .running := rfl
set_option maxRecDepth 65536 in
theorem w_room : about1.hasRoom e0.platform room_1 = true :=
  launch0.hasRoom_least _ room_1 (by decide +kernel) (by decide +kernel) (by decide +kernel) (by decide +kernel) (by decide +kernel) (by decide +kernel)
theorem allAtoms_all (ts : List Jvm.Cond) (a : Array Jvm.Value) (st : Jvm.State) : (allAtoms ts).before a st = ts.all (fun c => c.before a st) := by
  induction ts with
  | nil => rfl
  | cons c t ih =>
    show (Jvm.Cond.and c (allAtoms t)).before a st = _
    rw [Jvm.Cond.before_and, ih, List.all_cons]
def words1 : List Jvm.Cond := Jvm.Cond.code x code maxLocals ret :: tables_1
/-- a 'code' word, met by the world's own term for the bytes: nothing is compared byte by byte -/
theorem code_word {y : MethodName} {bytes : ByteArray} {mx : Nat} {rt : Option FieldType} {a : Array Value} {s : State} {m : MethodId} {meth : Method} {c : Code} (h1 : s.methodNamed? y = some m) (h2 : s.vm.method? m = some meth) (h3 : meth.code = some c) (h4 : c.code = bytes)
    (h5 : (c.maxLocals == mx && c.exceptionTable.isEmpty && decide (c.maxStack ≤ mostOperands) && decide (meth.sig.returnType = rt) && !meth.locks && decide (parseMethodDescriptor y.desc = some meth.sig)) = true) : (Jvm.Cond.code y bytes mx rt).before a s = true := by
  simp only [Bool.and_eq_true, beq_iff_eq, Bool.not_eq_true', decide_eq_true_eq] at h5
  obtain ⟨⟨⟨⟨⟨g1, g2⟩, g3⟩, g4⟩, g5⟩, g6⟩ := h5
  simp [Cond.before, Cond.holds, Cond.value, h1, h2, h3, h4, g1, g2, g3, g4, g5, g6]
def isCode : Jvm.Cond → Bool
  | .code _ _ _ _ => true
  | _ => false
theorem all_split {L : List Jvm.Cond} {P : Jvm.Cond → Bool} (h1 : L.all (fun c => isCode c || P c) = true) (h2 : ∀ c ∈ L.filter isCode, P c = true) : L.all P = true := by
  refine List.all_eq_true.mpr fun c hc => ?_
  have h := List.all_eq_true.mp h1 c hc
  rcases Bool.eq_false_or_eq_true (isCode c) with hi | hi
  · exact h2 c (List.mem_filter.mpr ⟨hc, hi⟩)
  · simpa [hi] using h
set_option maxRecDepth 65536 in
theorem w_c0 : (Jvm.Cond.code x code maxLocals ret).before args0 about1 = true := code_word (m := ⟨1, 3⟩) (meth := k1m3) (c := k1c3) (by decide +kernel) rfl rfl rfl (by decide +kernel)
set_option maxRecDepth 65536 in
theorem w_c1 : (Jvm.Cond.code ({ cls := "com/example/orthogon/orthogon/TriangularSolveUnitLowerPinLaw", name := "nib", desc := "(II)D" } : Jvm.MethodName) method_2_code (2 : Nat) (Option.some Jvm.ClassFile.FieldType.double)).before args0 about1 = true := code_word (m := ⟨1, 1⟩) (meth := k1m1) (c := k1c1) (by decide +kernel) rfl rfl rfl (by decide +kernel)
set_option maxRecDepth 65536 in
theorem w_c2 : (Jvm.Cond.code ({ cls := "com/example/orthogon/orthogon/Triangular", name := "solveUnitLower", desc := "([DII[DI)V" } : Jvm.MethodName) prog_16_method_2_code (12 : Nat) (Option.none : Option Jvm.ClassFile.FieldType)).before args0 about1 = true := code_word (m := ⟨2, 1⟩) (meth := k2m1) (c := k2c1) (by decide +kernel) rfl rfl rfl (by decide +kernel)
set_option maxRecDepth 65536 in
theorem w_c3 : (Jvm.Cond.code ({ cls := "com/example/orthogon/orthogon/TriangularSolveUnitLowerPinLaw", name := "col", desc := "([D[DIIIDDD)Z" } : Jvm.MethodName) method_3_code (23 : Nat) (Option.some Jvm.ClassFile.FieldType.boolean)).before args0 about1 = true := code_word (m := ⟨1, 2⟩) (meth := k1m2) (c := k1c2) (by decide +kernel) rfl rfl rfl (by decide +kernel)
def codes1 : List Jvm.Cond := [Jvm.Cond.code x code maxLocals ret, Jvm.Cond.code ({ cls := "com/example/orthogon/orthogon/TriangularSolveUnitLowerPinLaw", name := "nib", desc := "(II)D" } : Jvm.MethodName) method_2_code (2 : Nat) (Option.some Jvm.ClassFile.FieldType.double), Jvm.Cond.code ({ cls := "com/example/orthogon/orthogon/Triangular", name := "solveUnitLower", desc := "([DII[DI)V" } : Jvm.MethodName) prog_16_method_2_code (12 : Nat) (Option.none : Option Jvm.ClassFile.FieldType), Jvm.Cond.code ({ cls := "com/example/orthogon/orthogon/TriangularSolveUnitLowerPinLaw", name := "col", desc := "([D[DIIIDDD)Z" } : Jvm.MethodName) method_3_code (23 : Nat) (Option.some Jvm.ClassFile.FieldType.boolean)]
set_option maxRecDepth 65536 in
theorem codes_eq : words1.filter isCode = codes1 := rfl
theorem w_codes : ∀ c ∈ words1.filter isCode, c.before args0 about1 = true := by
  rw [codes_eq]
  intro c hc
  simp only [codes1, List.mem_cons, List.not_mem_nil, or_false] at hc
  rcases hc with rfl | rfl | rfl | rfl
  · exact w_c0
  · exact w_c1
  · exact w_c2
  · exact w_c3
set_option maxRecDepth 65536 in
theorem w_t1 : words1.all (fun c => isCode c || c.before args0 about1) = true := by decide +kernel
theorem w_tables : (allAtoms (Jvm.Cond.code x code maxLocals ret :: tables_1)).before args0 about1 = true := by
  rw [allAtoms_all]
  show words1.all (fun c => c.before args0 about1) = true
  refine all_split ?_ w_codes
  rw [w_t1]
set_option maxRecDepth 65536 in
theorem w_case : (Jvm.Cond.and given_1 narrow_1).before args0 about1 = true := by decide +kernel
theorem w_applies : (headSpec (Jvm.Cond.code x code maxLocals ret :: tables_1) room_1).applies x e0.platform about1 = true :=
  (Spec.applies_iff w_frames).mpr ⟨w_running, w_runnable, w_alone, w_named, w_hears, w_ripe, w_room, w_tables⟩
theorem atStart : AtStart classFile x code maxLocals ret World_1 tables_1 room_1 Calls_1 rest_1 Pre_1 launch0 p0 e0 about1 theMethod args0 below0 :=
  ⟨lists_1, trivial, launch0.admits_env _ _ _, launch0.least_env, fairChoices_fair.cas, fairChoices_fair.clock, w_frames, w_args, w_heap, w_applies, trivial, trivial, w_case⟩
end start1
theorem witness_1 : WitnessClaimed_1 := ⟨start1.p0, start1.e0, start1.about1, start1.theMethod, start1.args0, start1.below0, start1.atStart⟩
end Jvm.Pilot.@@N@@
