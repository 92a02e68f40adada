import JvmDerived
import JvmDerived.Pilot.@@N@@Statement
import JvmDerived.Pilot.@@N@@Code
set_option linter.unusedVariables false
set_option linter.unusedSimpArgs false
namespace Jvm.Pilot.@@N@@
open Jvm Jvm.ClassFile Sem Op Lib Jvm.Free Jvm.Stand Jvm.LawKit Jvm.RoadKit Bundle Jvm.Pilot.@@N@@.Jvm.D
section OwnKit
open Jvm.FP Jvm.Free.Fl
variable {p : Program} {l : Launch} {e : Env} {R : Room} {s : State} {m : MethodId} {args : Array Value} {below : List Frame} {meth : Method} {c : Code} {T : State} {Z : State} {a0 : Array Value} {h : Heap} {n0 cells slots nc ns pc pc' : Nat} {Ls : Array Slot} {st rest : List Value} {Q : Option Value → Heap → Prop}
/-- a contract: the method returns, what it leaves is Q, and nothing below n0 is written -/
def Con (l : Launch) (Z : State) (n0 : Nat) (y : MethodName) (bytes : ByteArray) (ml : Nat) (ret : Option FieldType) (ws : List Jvm.Cond) (rm : Room) (as : Array Value) (h0 : Heap) (Q : Option Value → Heap → Prop) : Prop :=
  MetFree l y (head1 (Jvm.Cond.code y bytes ml ret :: ws) rm) (fun a U => a = as ∧ Z.Warmed39 U.vm ∧ U.heap = h0) (fun _ _ _ _ _ => True) (fun _ U o U' => ∃ v L, o = .returned v ∧ (Fr n0 L ∧ Q v U'.heap) ∧ FrameEnd U o U' L rm.cells rm.slots)
/-- where a walk stands, the places written kept to themselves -/
def Wk (p : Program) (l : Launch) (e : Env) (R : Room) (s : State) (m : MethodId) (args : Array Value) (below : List Frame) (meth : Method) (c : Code) (n0 : Nat) (T : State) (h : Heap) (cells slots : Nat) : Prop :=
  ∃ locs, Stand p l e R s m args below meth c T locs cells slots ∧ Fr n0 locs ∧ T.heap = h
/-- from t the run ends, and leaves Q -/
def Go (p : Program) (e : Env) (below : List Frame) (s : State) (n0 : Nat) (Q : Option Value → Heap → Prop) (nc ns : Nat) (t : State) : Prop :=
  ∃ s₂ o, Steps p.tables e below t s₂ ∧ s₂.status = .running ∧ Ended s₂ below o ∧ ∃ v L, o = .returned v ∧ (Fr n0 L ∧ Q v s₂.heap) ∧ FrameEnd s o s₂ L nc ns
theorem Wk.here (X : Wk p l e R s m args below meth c n0 T h cells slots) : At T m c below := by obtain ⟨_, X, -⟩ := X; exact X.here
theorem Wk.heap (X : Wk p l e R s m args below meth c n0 T h cells slots) : T.heap = h := by obtain ⟨_, -, -, q⟩ := X; exact q
theorem go_back {t t' : State} (b : ∀ target, Steps p.tables e below t' target → Steps p.tables e below t target) (k : Go p e below s n0 Q nc ns t') : Go p e below s n0 Q nc ns t := by
  obtain ⟨u, o, h1, r⟩ := k
  exact ⟨u, o, b u h1, r⟩
theorem con_start {y : MethodName} {bytes : ByteArray} {ml : Nat} {ret : Option FieldType} {ws : List Jvm.Cond} {rm : Room} {as : Array Value} {h0 : Heap} (hpl : plainFor y = true) {fr0 : MethodId → JFrame} (hfr : ∀ m, entryFrame m as ml = fr0 m)
    (k : ∀ (p : Program) (e : Env) (s : State) (m : MethodId) (below : List Frame) (meth : Method) (c : Code) (s₁ : State), p.tables.exec = Jvm.exec → Z.Warmed39 s.vm → c.code = bytes → c.maxLocals = ml → s.vm.findClass y.cls = some m.cls → meth.name = y.name → meth.sig.returnType = ret → meth.locks = false →
      Wk p l e rm s m as below meth c n0 s₁ h0 0 0 → Go p e below s n0 Q rm.cells rm.slots (s₁.setTop (fr0 m))) : Con l Z n0 y bytes ml ret ws rm as h0 Q := by
  refine MetFree.of_bodySF hpl hisR ?_
  intro p e s m args below meth c s₁ Bd hml0 hP hK
  obtain ⟨rfl, hZ, hh⟩ := hP
  rw [hfr]
  exact k p e s m below meth c s₁ Bd.exec hZ Bd.bytes hml0 (findClass_of_methodNamed Bd.named) (name_of_methodNamed Bd.named Bd.method).1 Bd.returns Bd.notSynchronized ⟨[], Stand.of_body Bd, Fr.nil n0, by rw [← hh, Bd.state]; rfl⟩
/-- what an int branch asks -/
def cP : ClassFile.Cond → Int32 → Int32 → Prop
  | .eq, x, y => x = y
  | .ne, x, y => ¬ x = y
  | .lt, x, y => x < y
  | .ge, x, y => ¬ x < y
  | .gt, x, y => y < x
  | .le, x, y => ¬ y < x
theorem cP_yes {cd : ClassFile.Cond} {x y : Int32} (q : cP cd x y) : if_icmp.holds cd x y = true := by
  cases cd
  · exact (teq q).1
  · exact (feq q).2
  · exact (tlt q).1
  · exact (flt q).2.1
  · exact (tlt q).2.2.1
  · exact (flt q).2.2.2
theorem cP_no {cd : ClassFile.Cond} {x y : Int32} (q : ¬ cP cd x y) : if_icmp.holds cd x y = false := by
  cases cd
  · exact (feq q).1
  · exact (teq (Classical.not_not.mp q)).2
  · exact (flt q).1
  · exact (tlt (Classical.not_not.mp q)).2.1
  · exact (flt q).2.2.1
  · exact (tlt (Classical.not_not.mp q)).2.2.2
theorem g_iload (X : Wk p l e R s m args below meth c n0 T h cells slots) (hx : p.tables.exec = Jvm.exec) {k : Nat} {v : Int32} (hp : pc + 2 = pc') (hd : decode c.code pc = .ok (.iload k, 2)) (hl : Ls[k]? = some (.val (.int v))) (k : Go p e below s n0 Q nc ns (T.setTop (mkF m pc' Ls (.int v :: st)))) : Go p e below s n0 Q nc ns (T.setTop (mkF m pc Ls (st))) := by
  subst hp; exact go_back (fun _ j => XS.iload X.here hx rfl hd hl j) k
theorem g_iloadN (X : Wk p l e R s m args below meth c n0 T h cells slots) (hx : p.tables.exec = Jvm.exec) {k : Fin 4} {v : Int32} (hp : pc + 1 = pc') (hd : decode c.code pc = .ok (.iload_n k, 1)) (hl : Ls[k.val]? = some (.val (.int v))) (k : Go p e below s n0 Q nc ns (T.setTop (mkF m pc' Ls (.int v :: st)))) : Go p e below s n0 Q nc ns (T.setTop (mkF m pc Ls (st))) := by
  subst hp; exact go_back (fun _ j => XS.iloadN X.here hx rfl hd hl j) k
theorem g_istore (X : Wk p l e R s m args below meth c n0 T h cells slots) (hx : p.tables.exec = Jvm.exec) {k : Nat} {x : Int32} {l' : Array Slot} (hp : pc + 2 = pc') (hd : decode c.code pc = .ok (.istore k, 2)) (hl : storeLocals Ls k (.int x) = some l') (k : Go p e below s n0 Q nc ns (T.setTop (mkF m pc' l' (rest)))) : Go p e below s n0 Q nc ns (T.setTop (mkF m pc Ls (.int x :: rest))) := by
  subst hp; exact go_back (fun _ j => XS.istore X.here hx rfl hd rfl hl j) k
theorem g_istoreN (X : Wk p l e R s m args below meth c n0 T h cells slots) (hx : p.tables.exec = Jvm.exec) {k : Fin 4} {x : Int32} {l' : Array Slot} (hp : pc + 1 = pc') (hd : decode c.code pc = .ok (.istore_n k, 1)) (hl : storeLocals Ls k.val (.int x) = some l') (k : Go p e below s n0 Q nc ns (T.setTop (mkF m pc' l' (rest)))) : Go p e below s n0 Q nc ns (T.setTop (mkF m pc Ls (.int x :: rest))) := by
  subst hp; exact go_back (fun _ j => XS.istoreN X.here hx rfl hd rfl hl j) k
theorem g_absI {x : Int32} (k : ∀ z : Int32, z = x → Go p e below s n0 Q nc ns (T.setTop (mkF m pc Ls (.int z :: rest)))) : Go p e below s n0 Q nc ns (T.setTop (mkF m pc Ls (.int x :: rest))) := k x rfl
theorem g_lload (X : Wk p l e R s m args below meth c n0 T h cells slots) (hx : p.tables.exec = Jvm.exec) {k : Nat} {v : Int64} (hp : pc + 2 = pc') (hd : decode c.code pc = .ok (.lload k, 2)) (hl : Ls[k]? = some (.val (.long v))) (k : Go p e below s n0 Q nc ns (T.setTop (mkF m pc' Ls (.long v :: st)))) : Go p e below s n0 Q nc ns (T.setTop (mkF m pc Ls (st))) := by
  subst hp; exact go_back (fun _ j => XS.lload X.here hx rfl hd hl j) k
theorem g_lloadN (X : Wk p l e R s m args below meth c n0 T h cells slots) (hx : p.tables.exec = Jvm.exec) {k : Fin 4} {v : Int64} (hp : pc + 1 = pc') (hd : decode c.code pc = .ok (.lload_n k, 1)) (hl : Ls[k.val]? = some (.val (.long v))) (k : Go p e below s n0 Q nc ns (T.setTop (mkF m pc' Ls (.long v :: st)))) : Go p e below s n0 Q nc ns (T.setTop (mkF m pc Ls (st))) := by
  subst hp; exact go_back (fun _ j => XS.lloadN X.here hx rfl hd hl j) k
theorem g_lstore (X : Wk p l e R s m args below meth c n0 T h cells slots) (hx : p.tables.exec = Jvm.exec) {k : Nat} {x : Int64} {l' : Array Slot} (hp : pc + 2 = pc') (hd : decode c.code pc = .ok (.lstore k, 2)) (hl : storeLocals Ls k (.long x) = some l') (k : Go p e below s n0 Q nc ns (T.setTop (mkF m pc' l' (rest)))) : Go p e below s n0 Q nc ns (T.setTop (mkF m pc Ls (.long x :: rest))) := by
  subst hp; exact go_back (fun _ j => XS.lstore X.here hx rfl hd rfl hl j) k
theorem g_lstoreN (X : Wk p l e R s m args below meth c n0 T h cells slots) (hx : p.tables.exec = Jvm.exec) {k : Fin 4} {x : Int64} {l' : Array Slot} (hp : pc + 1 = pc') (hd : decode c.code pc = .ok (.lstore_n k, 1)) (hl : storeLocals Ls k.val (.long x) = some l') (k : Go p e below s n0 Q nc ns (T.setTop (mkF m pc' l' (rest)))) : Go p e below s n0 Q nc ns (T.setTop (mkF m pc Ls (.long x :: rest))) := by
  subst hp; exact go_back (fun _ j => XS.lstoreN X.here hx rfl hd rfl hl j) k
theorem g_absL {x : Int64} (k : ∀ z : Int64, z = x → Go p e below s n0 Q nc ns (T.setTop (mkF m pc Ls (.long z :: rest)))) : Go p e below s n0 Q nc ns (T.setTop (mkF m pc Ls (.long x :: rest))) := k x rfl
theorem g_dload (X : Wk p l e R s m args below meth c n0 T h cells slots) (hx : p.tables.exec = Jvm.exec) {k : Nat} {v : UInt64} (hp : pc + 2 = pc') (hd : decode c.code pc = .ok (.dload k, 2)) (hl : Ls[k]? = some (.val (.double v))) (k : Go p e below s n0 Q nc ns (T.setTop (mkF m pc' Ls (.double v :: st)))) : Go p e below s n0 Q nc ns (T.setTop (mkF m pc Ls (st))) := by
  subst hp; exact go_back (fun _ j => XS.dload X.here hx rfl hd hl j) k
theorem g_dloadN (X : Wk p l e R s m args below meth c n0 T h cells slots) (hx : p.tables.exec = Jvm.exec) {k : Fin 4} {v : UInt64} (hp : pc + 1 = pc') (hd : decode c.code pc = .ok (.dload_n k, 1)) (hl : Ls[k.val]? = some (.val (.double v))) (k : Go p e below s n0 Q nc ns (T.setTop (mkF m pc' Ls (.double v :: st)))) : Go p e below s n0 Q nc ns (T.setTop (mkF m pc Ls (st))) := by
  subst hp; exact go_back (fun _ j => XS.dloadN X.here hx rfl hd hl j) k
theorem g_dstore (X : Wk p l e R s m args below meth c n0 T h cells slots) (hx : p.tables.exec = Jvm.exec) {k : Nat} {x : UInt64} {l' : Array Slot} (hp : pc + 2 = pc') (hd : decode c.code pc = .ok (.dstore k, 2)) (hl : storeLocals Ls k (.double x) = some l') (k : Go p e below s n0 Q nc ns (T.setTop (mkF m pc' l' (rest)))) : Go p e below s n0 Q nc ns (T.setTop (mkF m pc Ls (.double x :: rest))) := by
  subst hp; exact go_back (fun _ j => XS.dstore X.here hx rfl hd rfl hl j) k
theorem g_dstoreN (X : Wk p l e R s m args below meth c n0 T h cells slots) (hx : p.tables.exec = Jvm.exec) {k : Fin 4} {x : UInt64} {l' : Array Slot} (hp : pc + 1 = pc') (hd : decode c.code pc = .ok (.dstore_n k, 1)) (hl : storeLocals Ls k.val (.double x) = some l') (k : Go p e below s n0 Q nc ns (T.setTop (mkF m pc' l' (rest)))) : Go p e below s n0 Q nc ns (T.setTop (mkF m pc Ls (.double x :: rest))) := by
  subst hp; exact go_back (fun _ j => XS.dstoreN X.here hx rfl hd rfl hl j) k
theorem g_absD {x : UInt64} (k : ∀ z : UInt64, z = x → Go p e below s n0 Q nc ns (T.setTop (mkF m pc Ls (.double z :: rest)))) : Go p e below s n0 Q nc ns (T.setTop (mkF m pc Ls (.double x :: rest))) := k x rfl
theorem g_aload (X : Wk p l e R s m args below meth c n0 T h cells slots) (hx : p.tables.exec = Jvm.exec) {k : Nat} {v : Value} (hp : pc + 2 = pc') (hd : decode c.code pc = .ok (.aload k, 2)) (hl : Ls[k]? = some (.val v)) (hv : v.isRef = true) (k : Go p e below s n0 Q nc ns (T.setTop (mkF m pc' Ls (v :: st)))) : Go p e below s n0 Q nc ns (T.setTop (mkF m pc Ls (st))) := by
  subst hp; exact go_back (fun _ j => XS.aload X.here hx rfl hd hl hv j) k
theorem g_aloadN (X : Wk p l e R s m args below meth c n0 T h cells slots) (hx : p.tables.exec = Jvm.exec) {k : Fin 4} {v : Value} (hp : pc + 1 = pc') (hd : decode c.code pc = .ok (.aload_n k, 1)) (hl : Ls[k.val]? = some (.val v)) (hv : v.isRef = true) (k : Go p e below s n0 Q nc ns (T.setTop (mkF m pc' Ls (v :: st)))) : Go p e below s n0 Q nc ns (T.setTop (mkF m pc Ls (st))) := by
  subst hp; exact go_back (fun _ j => XS.aloadN X.here hx rfl hd hl hv j) k
theorem g_astore (X : Wk p l e R s m args below meth c n0 T h cells slots) (hx : p.tables.exec = Jvm.exec) {k : Nat} {x : Value} {l' : Array Slot} (hp : pc + 2 = pc') (hd : decode c.code pc = .ok (.astore k, 2)) (hv : x.isRef = true) (hl : storeLocals Ls k x = some l') (k : Go p e below s n0 Q nc ns (T.setTop (mkF m pc' l' (rest)))) : Go p e below s n0 Q nc ns (T.setTop (mkF m pc Ls (x :: rest))) := by
  subst hp; exact go_back (fun _ j => XS.astore X.here hx rfl hd rfl hv hl j) k
theorem g_astoreN (X : Wk p l e R s m args below meth c n0 T h cells slots) (hx : p.tables.exec = Jvm.exec) {k : Fin 4} {x : Value} {l' : Array Slot} (hp : pc + 1 = pc') (hd : decode c.code pc = .ok (.astore_n k, 1)) (hv : x.isRef = true) (hl : storeLocals Ls k.val x = some l') (k : Go p e below s n0 Q nc ns (T.setTop (mkF m pc' l' (rest)))) : Go p e below s n0 Q nc ns (T.setTop (mkF m pc Ls (x :: rest))) := by
  subst hp; exact go_back (fun _ j => XS.astoreN X.here hx rfl hd rfl hv hl j) k
theorem g_iconst (X : Wk p l e R s m args below meth c n0 T h cells slots) (hx : p.tables.exec = Jvm.exec) {i : Int} {z : Int32} (hp : pc + 1 = pc') (hd : decode c.code pc = .ok (.iconst i, 1)) (hz : Int32.ofInt i = z) (k : Go p e below s n0 Q nc ns (T.setTop (mkF m pc' Ls (.int z :: st)))) : Go p e below s n0 Q nc ns (T.setTop (mkF m pc Ls (st))) := by
  subst hp; exact go_back (fun _ j => XS.iconst X.here hx rfl hd (show Steps _ _ _ (T.setTop (mkF m (pc + 1) Ls (.int (Int32.ofInt i) :: st))) _ from hz ▸ j)) k
theorem g_bipush (X : Wk p l e R s m args below meth c n0 T h cells slots) (hx : p.tables.exec = Jvm.exec) {i : Int} {z : Int32} (hp : pc + 2 = pc') (hd : decode c.code pc = .ok (.bipush i, 2)) (hz : (Int8.ofInt i).toInt32 = z) (k : Go p e below s n0 Q nc ns (T.setTop (mkF m pc' Ls (.int z :: st)))) : Go p e below s n0 Q nc ns (T.setTop (mkF m pc Ls (st))) := by
  subst hp; exact go_back (fun _ j => XS.bipush X.here hx rfl hd (show Steps _ _ _ (T.setTop (mkF m (pc + 2) Ls (.int (Int8.ofInt i).toInt32 :: st))) _ from hz ▸ j)) k
theorem g_sipush (X : Wk p l e R s m args below meth c n0 T h cells slots) (hx : p.tables.exec = Jvm.exec) {i : Int} {z : Int32} (hp : pc + 3 = pc') (hd : decode c.code pc = .ok (.sipush i, 3)) (hz : (Int16.ofInt i).toInt32 = z) (k : Go p e below s n0 Q nc ns (T.setTop (mkF m pc' Ls (.int z :: st)))) : Go p e below s n0 Q nc ns (T.setTop (mkF m pc Ls (st))) := by
  subst hp; exact go_back (fun _ j => XS.sipush X.here hx rfl hd (show Steps _ _ _ (T.setTop (mkF m (pc + 3) Ls (.int (Int16.ofInt i).toInt32 :: st))) _ from hz ▸ j)) k
theorem g_lconst (X : Wk p l e R s m args below meth c n0 T h cells slots) (hx : p.tables.exec = Jvm.exec) {i : Fin 2} {z : Int64} (hp : pc + 1 = pc') (hd : decode c.code pc = .ok (.lconst i, 1)) (hz : Int64.ofNat i = z) (k : Go p e below s n0 Q nc ns (T.setTop (mkF m pc' Ls (.long z :: st)))) : Go p e below s n0 Q nc ns (T.setTop (mkF m pc Ls (st))) := by
  subst hp; exact go_back (fun _ j => XS.lconst X.here hx rfl hd (show Steps _ _ _ (T.setTop (mkF m (pc + 1) Ls (.long (Int64.ofNat i) :: st))) _ from hz ▸ j)) k
theorem g_dconst0 (X : Wk p l e R s m args below meth c n0 T h cells slots) (hx : p.tables.exec = Jvm.exec)  (hp : pc + 1 = pc') (hd : decode c.code pc = .ok (.dconst 0, 1))  (k : Go p e below s n0 Q nc ns (T.setTop (mkF m pc' Ls (.double 0 :: st)))) : Go p e below s n0 Q nc ns (T.setTop (mkF m pc Ls (st))) := by
  subst hp; exact go_back (fun _ j => XS.dconst0 X.here hx rfl hd rfl j) k
theorem g_dconst1 (X : Wk p l e R s m args below meth c n0 T h cells slots) (hx : p.tables.exec = Jvm.exec)  (hp : pc + 1 = pc') (hd : decode c.code pc = .ok (.dconst 1, 1))  (k : Go p e below s n0 Q nc ns (T.setTop (mkF m pc' Ls (.double 4607182418800017408 :: st)))) : Go p e below s n0 Q nc ns (T.setTop (mkF m pc Ls (st))) := by
  subst hp; exact go_back (fun _ j => XS.dconst1 X.here hx rfl hd rfl j) k
theorem g_aconst_null (X : Wk p l e R s m args below meth c n0 T h cells slots) (hx : p.tables.exec = Jvm.exec)  (hp : pc + 1 = pc') (hd : decode c.code pc = .ok (.aconst_null, 1))  (k : Go p e below s n0 Q nc ns (T.setTop (mkF m pc' Ls (.null :: st)))) : Go p e below s n0 Q nc ns (T.setTop (mkF m pc Ls (st))) := by
  subst hp; exact go_back (fun _ j => XS.aconstNull X.here hx rfl hd j) k
theorem g_iadd (X : Wk p l e R s m args below meth c n0 T h cells slots) (hx : p.tables.exec = Jvm.exec) {x y : Int32} (hp : pc + 1 = pc') (hd : decode c.code pc = .ok (.iadd, 1))  (k : Go p e below s n0 Q nc ns (T.setTop (mkF m pc' Ls (.int (x + y) :: rest)))) : Go p e below s n0 Q nc ns (T.setTop (mkF m pc Ls (.int y :: .int x :: rest))) := by
  subst hp; exact go_back (fun _ j => XS.iadd X.here hx rfl hd rfl j) k
theorem g_ladd (X : Wk p l e R s m args below meth c n0 T h cells slots) (hx : p.tables.exec = Jvm.exec) {x y : Int64} (hp : pc + 1 = pc') (hd : decode c.code pc = .ok (.ladd, 1))  (k : Go p e below s n0 Q nc ns (T.setTop (mkF m pc' Ls (.long (x + y) :: rest)))) : Go p e below s n0 Q nc ns (T.setTop (mkF m pc Ls (.long y :: .long x :: rest))) := by
  subst hp; exact go_back (fun _ j => XS.ladd X.here hx rfl hd rfl j) k
theorem g_isub (X : Wk p l e R s m args below meth c n0 T h cells slots) (hx : p.tables.exec = Jvm.exec) {x y : Int32} (hp : pc + 1 = pc') (hd : decode c.code pc = .ok (.isub, 1))  (k : Go p e below s n0 Q nc ns (T.setTop (mkF m pc' Ls (.int (x - y) :: rest)))) : Go p e below s n0 Q nc ns (T.setTop (mkF m pc Ls (.int y :: .int x :: rest))) := by
  subst hp; exact go_back (fun _ j => XS.isub X.here hx rfl hd rfl j) k
theorem g_lsub (X : Wk p l e R s m args below meth c n0 T h cells slots) (hx : p.tables.exec = Jvm.exec) {x y : Int64} (hp : pc + 1 = pc') (hd : decode c.code pc = .ok (.lsub, 1))  (k : Go p e below s n0 Q nc ns (T.setTop (mkF m pc' Ls (.long (x - y) :: rest)))) : Go p e below s n0 Q nc ns (T.setTop (mkF m pc Ls (.long y :: .long x :: rest))) := by
  subst hp; exact go_back (fun _ j => XS.lsub X.here hx rfl hd rfl j) k
theorem g_imul (X : Wk p l e R s m args below meth c n0 T h cells slots) (hx : p.tables.exec = Jvm.exec) {x y : Int32} (hp : pc + 1 = pc') (hd : decode c.code pc = .ok (.imul, 1))  (k : Go p e below s n0 Q nc ns (T.setTop (mkF m pc' Ls (.int (x * y) :: rest)))) : Go p e below s n0 Q nc ns (T.setTop (mkF m pc Ls (.int y :: .int x :: rest))) := by
  subst hp; exact go_back (fun _ j => XS.imul X.here hx rfl hd rfl j) k
theorem g_lmul (X : Wk p l e R s m args below meth c n0 T h cells slots) (hx : p.tables.exec = Jvm.exec) {x y : Int64} (hp : pc + 1 = pc') (hd : decode c.code pc = .ok (.lmul, 1))  (k : Go p e below s n0 Q nc ns (T.setTop (mkF m pc' Ls (.long (x * y) :: rest)))) : Go p e below s n0 Q nc ns (T.setTop (mkF m pc Ls (.long y :: .long x :: rest))) := by
  subst hp; exact go_back (fun _ j => XS.lmul X.here hx rfl hd rfl j) k
theorem g_iand (X : Wk p l e R s m args below meth c n0 T h cells slots) (hx : p.tables.exec = Jvm.exec) {x y : Int32} (hp : pc + 1 = pc') (hd : decode c.code pc = .ok (.iand, 1))  (k : Go p e below s n0 Q nc ns (T.setTop (mkF m pc' Ls (.int (x &&& y) :: rest)))) : Go p e below s n0 Q nc ns (T.setTop (mkF m pc Ls (.int y :: .int x :: rest))) := by
  subst hp; exact go_back (fun _ j => XS.iand X.here hx rfl hd rfl j) k
theorem g_land (X : Wk p l e R s m args below meth c n0 T h cells slots) (hx : p.tables.exec = Jvm.exec) {x y : Int64} (hp : pc + 1 = pc') (hd : decode c.code pc = .ok (.land, 1))  (k : Go p e below s n0 Q nc ns (T.setTop (mkF m pc' Ls (.long (x &&& y) :: rest)))) : Go p e below s n0 Q nc ns (T.setTop (mkF m pc Ls (.long y :: .long x :: rest))) := by
  subst hp; exact go_back (fun _ j => XS.land X.here hx rfl hd rfl j) k
theorem g_ior (X : Wk p l e R s m args below meth c n0 T h cells slots) (hx : p.tables.exec = Jvm.exec) {x y : Int32} (hp : pc + 1 = pc') (hd : decode c.code pc = .ok (.ior, 1))  (k : Go p e below s n0 Q nc ns (T.setTop (mkF m pc' Ls (.int (x ||| y) :: rest)))) : Go p e below s n0 Q nc ns (T.setTop (mkF m pc Ls (.int y :: .int x :: rest))) := by
  subst hp; exact go_back (fun _ j => XS.ior X.here hx rfl hd rfl j) k
theorem g_lor (X : Wk p l e R s m args below meth c n0 T h cells slots) (hx : p.tables.exec = Jvm.exec) {x y : Int64} (hp : pc + 1 = pc') (hd : decode c.code pc = .ok (.lor, 1))  (k : Go p e below s n0 Q nc ns (T.setTop (mkF m pc' Ls (.long (x ||| y) :: rest)))) : Go p e below s n0 Q nc ns (T.setTop (mkF m pc Ls (.long y :: .long x :: rest))) := by
  subst hp; exact go_back (fun _ j => XS.lor X.here hx rfl hd rfl j) k
theorem g_ixor (X : Wk p l e R s m args below meth c n0 T h cells slots) (hx : p.tables.exec = Jvm.exec) {x y : Int32} (hp : pc + 1 = pc') (hd : decode c.code pc = .ok (.ixor, 1))  (k : Go p e below s n0 Q nc ns (T.setTop (mkF m pc' Ls (.int (x ^^^ y) :: rest)))) : Go p e below s n0 Q nc ns (T.setTop (mkF m pc Ls (.int y :: .int x :: rest))) := by
  subst hp; exact go_back (fun _ j => XS.ixor X.here hx rfl hd rfl j) k
theorem g_lxor (X : Wk p l e R s m args below meth c n0 T h cells slots) (hx : p.tables.exec = Jvm.exec) {x y : Int64} (hp : pc + 1 = pc') (hd : decode c.code pc = .ok (.lxor, 1))  (k : Go p e below s n0 Q nc ns (T.setTop (mkF m pc' Ls (.long (x ^^^ y) :: rest)))) : Go p e below s n0 Q nc ns (T.setTop (mkF m pc Ls (.long y :: .long x :: rest))) := by
  subst hp; exact go_back (fun _ j => XS.lxor X.here hx rfl hd rfl j) k
theorem g_idiv (X : Wk p l e R s m args below meth c n0 T h cells slots) (hx : p.tables.exec = Jvm.exec) {x y : Int32} (hp : pc + 1 = pc') (hd : decode c.code pc = .ok (.idiv, 1)) (hy : y ≠ 0) (k : Go p e below s n0 Q nc ns (T.setTop (mkF m pc' Ls (.int (x / y) :: rest)))) : Go p e below s n0 Q nc ns (T.setTop (mkF m pc Ls (.int y :: .int x :: rest))) := by
  subst hp; exact go_back (fun _ j => XS.idiv X.here hx rfl hd rfl hy j) k
theorem g_irem (X : Wk p l e R s m args below meth c n0 T h cells slots) (hx : p.tables.exec = Jvm.exec) {x y : Int32} (hp : pc + 1 = pc') (hd : decode c.code pc = .ok (.irem, 1)) (hy : y ≠ 0) (k : Go p e below s n0 Q nc ns (T.setTop (mkF m pc' Ls (.int (x % y) :: rest)))) : Go p e below s n0 Q nc ns (T.setTop (mkF m pc Ls (.int y :: .int x :: rest))) := by
  subst hp; obtain ⟨_, X, -⟩ := X; exact go_back (fun _ j => iremM X hx (g := mkF m pc Ls (.int y :: .int x :: rest)) rfl hd rfl hy j) k
theorem g_ldiv (X : Wk p l e R s m args below meth c n0 T h cells slots) (hx : p.tables.exec = Jvm.exec) {x y : Int64} (hp : pc + 1 = pc') (hd : decode c.code pc = .ok (.ldiv, 1)) (hy : y ≠ 0) (k : Go p e below s n0 Q nc ns (T.setTop (mkF m pc' Ls (.long (x / y) :: rest)))) : Go p e below s n0 Q nc ns (T.setTop (mkF m pc Ls (.long y :: .long x :: rest))) := by
  subst hp; exact go_back (fun _ j => XS.ldiv X.here hx rfl hd rfl hy j) k
theorem g_lrem (X : Wk p l e R s m args below meth c n0 T h cells slots) (hx : p.tables.exec = Jvm.exec) {x y : Int64} (hp : pc + 1 = pc') (hd : decode c.code pc = .ok (.lrem, 1)) (hy : y ≠ 0) (k : Go p e below s n0 Q nc ns (T.setTop (mkF m pc' Ls (.long (x - (x / y) * y) :: rest)))) : Go p e below s n0 Q nc ns (T.setTop (mkF m pc Ls (.long y :: .long x :: rest))) := by
  subst hp; exact go_back (fun _ j => XS.lrem X.here hx rfl hd rfl hy j) k
theorem g_ishl (X : Wk p l e R s m args below meth c n0 T h cells slots) (hx : p.tables.exec = Jvm.exec) {x y : Int32} (hp : pc + 1 = pc') (hd : decode c.code pc = .ok (.ishl, 1))  (k : Go p e below s n0 Q nc ns (T.setTop (mkF m pc' Ls (.int (x <<< (y &&& 31)) :: rest)))) : Go p e below s n0 Q nc ns (T.setTop (mkF m pc Ls (.int y :: .int x :: rest))) := by
  subst hp; exact go_back (fun _ j => XS.ishl X.here hx rfl hd rfl j) k
theorem g_ishr (X : Wk p l e R s m args below meth c n0 T h cells slots) (hx : p.tables.exec = Jvm.exec) {x y : Int32} (hp : pc + 1 = pc') (hd : decode c.code pc = .ok (.ishr, 1))  (k : Go p e below s n0 Q nc ns (T.setTop (mkF m pc' Ls (.int (x >>> (y &&& 31)) :: rest)))) : Go p e below s n0 Q nc ns (T.setTop (mkF m pc Ls (.int y :: .int x :: rest))) := by
  subst hp; exact go_back (fun _ j => XS.ishr X.here hx rfl hd rfl j) k
theorem g_iushr (X : Wk p l e R s m args below meth c n0 T h cells slots) (hx : p.tables.exec = Jvm.exec) {x y : Int32} (hp : pc + 1 = pc') (hd : decode c.code pc = .ok (.iushr, 1))  (k : Go p e below s n0 Q nc ns (T.setTop (mkF m pc' Ls (.int ((x.toUInt32 >>> (y &&& 31).toUInt32).toInt32) :: rest)))) : Go p e below s n0 Q nc ns (T.setTop (mkF m pc Ls (.int y :: .int x :: rest))) := by
  subst hp; exact go_back (fun _ j => XS.iushr X.here hx rfl hd rfl j) k
theorem g_lshl (X : Wk p l e R s m args below meth c n0 T h cells slots) (hx : p.tables.exec = Jvm.exec) {x : Int64} {y : Int32} (hp : pc + 1 = pc') (hd : decode c.code pc = .ok (.lshl, 1))  (k : Go p e below s n0 Q nc ns (T.setTop (mkF m pc' Ls (.long (x <<< (y &&& 0x3f).toInt64) :: rest)))) : Go p e below s n0 Q nc ns (T.setTop (mkF m pc Ls (.int y :: .long x :: rest))) := by
  subst hp; exact go_back (fun _ j => XS.lshl X.here hx rfl hd rfl j) k
theorem g_lshr (X : Wk p l e R s m args below meth c n0 T h cells slots) (hx : p.tables.exec = Jvm.exec) {x : Int64} {y : Int32} (hp : pc + 1 = pc') (hd : decode c.code pc = .ok (.lshr, 1))  (k : Go p e below s n0 Q nc ns (T.setTop (mkF m pc' Ls (.long (x >>> (y &&& 0x3f).toInt64) :: rest)))) : Go p e below s n0 Q nc ns (T.setTop (mkF m pc Ls (.int y :: .long x :: rest))) := by
  subst hp; exact go_back (fun _ j => XS.lshr X.here hx rfl hd rfl j) k
theorem g_lushr (X : Wk p l e R s m args below meth c n0 T h cells slots) (hx : p.tables.exec = Jvm.exec) {x : Int64} {y : Int32} (hp : pc + 1 = pc') (hd : decode c.code pc = .ok (.lushr, 1))  (k : Go p e below s n0 Q nc ns (T.setTop (mkF m pc' Ls (.long ((x.toUInt64 >>> (y &&& 0x3f).toInt64.toUInt64).toInt64) :: rest)))) : Go p e below s n0 Q nc ns (T.setTop (mkF m pc Ls (.int y :: .long x :: rest))) := by
  subst hp; exact go_back (fun _ j => XS.lushr X.here hx rfl hd rfl j) k
theorem g_ineg (X : Wk p l e R s m args below meth c n0 T h cells slots) (hx : p.tables.exec = Jvm.exec) {x : Int32} (hp : pc + 1 = pc') (hd : decode c.code pc = .ok (.ineg, 1))  (k : Go p e below s n0 Q nc ns (T.setTop (mkF m pc' Ls (.int (-x) :: rest)))) : Go p e below s n0 Q nc ns (T.setTop (mkF m pc Ls (.int x :: rest))) := by
  subst hp; exact go_back (fun _ j => XS.ineg X.here hx rfl hd rfl j) k
theorem g_lneg (X : Wk p l e R s m args below meth c n0 T h cells slots) (hx : p.tables.exec = Jvm.exec) {x : Int64} (hp : pc + 1 = pc') (hd : decode c.code pc = .ok (.lneg, 1))  (k : Go p e below s n0 Q nc ns (T.setTop (mkF m pc' Ls (.long (-x) :: rest)))) : Go p e below s n0 Q nc ns (T.setTop (mkF m pc Ls (.long x :: rest))) := by
  subst hp; exact go_back (fun _ j => XS.lneg X.here hx rfl hd rfl j) k
theorem g_i2l (X : Wk p l e R s m args below meth c n0 T h cells slots) (hx : p.tables.exec = Jvm.exec) {x : Int32} (hp : pc + 1 = pc') (hd : decode c.code pc = .ok (.i2l, 1))  (k : Go p e below s n0 Q nc ns (T.setTop (mkF m pc' Ls (.long x.toInt64 :: rest)))) : Go p e below s n0 Q nc ns (T.setTop (mkF m pc Ls (.int x :: rest))) := by
  subst hp; exact go_back (fun _ j => XS.i2l X.here hx rfl hd rfl j) k
theorem g_l2i (X : Wk p l e R s m args below meth c n0 T h cells slots) (hx : p.tables.exec = Jvm.exec) {x : Int64} (hp : pc + 1 = pc') (hd : decode c.code pc = .ok (.l2i, 1))  (k : Go p e below s n0 Q nc ns (T.setTop (mkF m pc' Ls (.int x.toInt32 :: rest)))) : Go p e below s n0 Q nc ns (T.setTop (mkF m pc Ls (.long x :: rest))) := by
  subst hp; exact go_back (fun _ j => XS.l2i X.here hx rfl hd rfl j) k
theorem g_i2b (X : Wk p l e R s m args below meth c n0 T h cells slots) (hx : p.tables.exec = Jvm.exec) {x : Int32} (hp : pc + 1 = pc') (hd : decode c.code pc = .ok (.i2b, 1))  (k : Go p e below s n0 Q nc ns (T.setTop (mkF m pc' Ls (.int x.toInt8.toInt32 :: rest)))) : Go p e below s n0 Q nc ns (T.setTop (mkF m pc Ls (.int x :: rest))) := by
  subst hp; exact go_back (fun _ j => XS.i2b X.here hx rfl hd rfl j) k
theorem g_i2s (X : Wk p l e R s m args below meth c n0 T h cells slots) (hx : p.tables.exec = Jvm.exec) {x : Int32} (hp : pc + 1 = pc') (hd : decode c.code pc = .ok (.i2s, 1))  (k : Go p e below s n0 Q nc ns (T.setTop (mkF m pc' Ls (.int x.toInt16.toInt32 :: rest)))) : Go p e below s n0 Q nc ns (T.setTop (mkF m pc Ls (.int x :: rest))) := by
  subst hp; exact go_back (fun _ j => XS.i2s X.here hx rfl hd rfl j) k
theorem g_i2c (X : Wk p l e R s m args below meth c n0 T h cells slots) (hx : p.tables.exec = Jvm.exec) {x : Int32} (hp : pc + 1 = pc') (hd : decode c.code pc = .ok (.i2c, 1))  (k : Go p e below s n0 Q nc ns (T.setTop (mkF m pc' Ls (.int x.toUInt32.toUInt16.toUInt32.toInt32 :: rest)))) : Go p e below s n0 Q nc ns (T.setTop (mkF m pc Ls (.int x :: rest))) := by
  subst hp; exact go_back (fun _ j => XS.i2c X.here hx rfl hd rfl j) k
theorem g_lcmp (X : Wk p l e R s m args below meth c n0 T h cells slots) (hx : p.tables.exec = Jvm.exec) {x y : Int64} (hp : pc + 1 = pc') (hd : decode c.code pc = .ok (.lcmp, 1))  (k : Go p e below s n0 Q nc ns (T.setTop (mkF m pc' Ls (.int (lcmpW x y) :: rest)))) : Go p e below s n0 Q nc ns (T.setTop (mkF m pc Ls (.long y :: .long x :: rest))) := by
  subst hp; exact go_back (fun _ j => XS.lcmp X.here hx rfl hd rfl j) k
theorem g_i2d (X : Wk p l e R s m args below meth c n0 T h cells slots) (hx : p.tables.exec = Jvm.exec) {x : Int32} (hp : pc + 1 = pc') (hd : decode c.code pc = .ok (.i2d, 1))  (k : Go p e below s n0 Q nc ns (T.setTop (mkF m pc' Ls (.double (FP.i2d x) :: rest)))) : Go p e below s n0 Q nc ns (T.setTop (mkF m pc Ls (.int x :: rest))) := by
  subst hp; exact go_back (fun _ j => XS.i2dS X.here hx rfl hd rfl rfl j) k
theorem g_l2d (X : Wk p l e R s m args below meth c n0 T h cells slots) (hx : p.tables.exec = Jvm.exec) {x : Int64} (hp : pc + 1 = pc') (hd : decode c.code pc = .ok (.l2d, 1))  (k : Go p e below s n0 Q nc ns (T.setTop (mkF m pc' Ls (.double (FP.l2d x) :: rest)))) : Go p e below s n0 Q nc ns (T.setTop (mkF m pc Ls (.long x :: rest))) := by
  subst hp; exact go_back (fun _ j => XS.l2dS X.here hx rfl hd rfl rfl j) k
theorem g_dneg (X : Wk p l e R s m args below meth c n0 T h cells slots) (hx : p.tables.exec = Jvm.exec) {x : UInt64} (hp : pc + 1 = pc') (hd : decode c.code pc = .ok (.dneg, 1))  (k : Go p e below s n0 Q nc ns (T.setTop (mkF m pc' Ls (.double (FP.dneg x) :: rest)))) : Go p e below s n0 Q nc ns (T.setTop (mkF m pc Ls (.double x :: rest))) := by
  subst hp; exact go_back (fun _ j => XS.dnegS X.here hx rfl hd rfl rfl j) k
theorem g_dcmp (X : Wk p l e R s m args below meth c n0 T h cells slots) (hx : p.tables.exec = Jvm.exec) {o : CmpOp} {x y : UInt64} {z : Int32} (hp : pc + 1 = pc') (hd : decode c.code pc = .ok (.dcmp o, 1)) (hz : cmpValue (FP.dcmp x y) o = z) (k : Go p e below s n0 Q nc ns (T.setTop (mkF m pc' Ls (.int z :: rest)))) : Go p e below s n0 Q nc ns (T.setTop (mkF m pc Ls (.double y :: .double x :: rest))) := by
  subst hp; exact go_back (fun _ j => XS.dcmpS X.here hx rfl hd rfl hz j) k
theorem g_dadd (X : Wk p l e R s m args below meth c n0 T h cells slots) (hx : p.tables.exec = Jvm.exec) {x y z : UInt64} (hp : pc + 1 = pc') (hd : decode c.code pc = .ok (.dadd, 1)) (hn : NoNaN64 (FP.dadd x y)) (hz : FP.dadd x y = z) (k : Go p e below s n0 Q nc ns (T.setTop (mkF m pc' Ls (.double z :: rest)))) : Go p e below s n0 Q nc ns (T.setTop (mkF m pc Ls (.double y :: .double x :: rest))) := by
  subst hp; exact go_back (fun _ j => XS.daddS X.here hx rfl hd rfl hn hz j) k
theorem g_dsub (X : Wk p l e R s m args below meth c n0 T h cells slots) (hx : p.tables.exec = Jvm.exec) {x y z : UInt64} (hp : pc + 1 = pc') (hd : decode c.code pc = .ok (.dsub, 1)) (hn : NoNaN64 (FP.dsub x y)) (hz : FP.dsub x y = z) (k : Go p e below s n0 Q nc ns (T.setTop (mkF m pc' Ls (.double z :: rest)))) : Go p e below s n0 Q nc ns (T.setTop (mkF m pc Ls (.double y :: .double x :: rest))) := by
  subst hp; exact go_back (fun _ j => XS.dsubS X.here hx rfl hd rfl hn hz j) k
theorem g_dmul (X : Wk p l e R s m args below meth c n0 T h cells slots) (hx : p.tables.exec = Jvm.exec) {x y z : UInt64} (hp : pc + 1 = pc') (hd : decode c.code pc = .ok (.dmul, 1)) (hn : NoNaN64 (FP.dmul x y)) (hz : FP.dmul x y = z) (k : Go p e below s n0 Q nc ns (T.setTop (mkF m pc' Ls (.double z :: rest)))) : Go p e below s n0 Q nc ns (T.setTop (mkF m pc Ls (.double y :: .double x :: rest))) := by
  subst hp; exact go_back (fun _ j => XS.dmulS X.here hx rfl hd rfl hn hz j) k
theorem g_ddiv (X : Wk p l e R s m args below meth c n0 T h cells slots) (hx : p.tables.exec = Jvm.exec) {x y z : UInt64} (hp : pc + 1 = pc') (hd : decode c.code pc = .ok (.ddiv, 1)) (hn : NoNaN64 (FP.ddiv x y)) (hz : FP.ddiv x y = z) (k : Go p e below s n0 Q nc ns (T.setTop (mkF m pc' Ls (.double z :: rest)))) : Go p e below s n0 Q nc ns (T.setTop (mkF m pc Ls (.double y :: .double x :: rest))) := by
  subst hp; exact go_back (fun _ j => XS.ddivS X.here hx rfl hd rfl hn hz j) k
theorem g_dup (X : Wk p l e R s m args below meth c n0 T h cells slots) (hx : p.tables.exec = Jvm.exec) {x : Value} (hp : pc + 1 = pc') (hd : decode c.code pc = .ok (.dup, 1)) (hc : x.category = 1) (k : Go p e below s n0 Q nc ns (T.setTop (mkF m pc' Ls (x :: x :: rest)))) : Go p e below s n0 Q nc ns (T.setTop (mkF m pc Ls (x :: rest))) := by
  subst hp; exact go_back (fun _ j => XS.dup X.here hx rfl hd rfl hc j) k
theorem g_dup_x1 (X : Wk p l e R s m args below meth c n0 T h cells slots) (hx : p.tables.exec = Jvm.exec) {x y : Value} (hp : pc + 1 = pc') (hd : decode c.code pc = .ok (.dup_x1, 1)) (hc : x.category = 1) (hc' : y.category = 1) (k : Go p e below s n0 Q nc ns (T.setTop (mkF m pc' Ls (x :: y :: x :: rest)))) : Go p e below s n0 Q nc ns (T.setTop (mkF m pc Ls (x :: y :: rest))) := by
  subst hp; exact go_back (fun _ j => XS.dupX1 X.here hx rfl hd rfl hc hc' j) k
theorem g_pop (X : Wk p l e R s m args below meth c n0 T h cells slots) (hx : p.tables.exec = Jvm.exec) {x : Value} (hp : pc + 1 = pc') (hd : decode c.code pc = .ok (.pop, 1)) (hc : x.category = 1) (k : Go p e below s n0 Q nc ns (T.setTop (mkF m pc' Ls (rest)))) : Go p e below s n0 Q nc ns (T.setTop (mkF m pc Ls (x :: rest))) := by
  subst hp; exact go_back (fun _ j => XS.pop X.here hx rfl hd rfl hc j) k
theorem g_dup2 (X : Wk p l e R s m args below meth c n0 T h cells slots) (hx : p.tables.exec = Jvm.exec) {x y : Value} (hp : pc + 1 = pc') (hd : decode c.code pc = .ok (.dup2, 1)) (hc : x.category = 1) (hc' : y.category = 1) (k : Go p e below s n0 Q nc ns (T.setTop (mkF m pc' Ls (x :: y :: x :: y :: rest)))) : Go p e below s n0 Q nc ns (T.setTop (mkF m pc Ls (x :: y :: rest))) := by
  subst hp; exact go_back (fun _ j => Jvm.Free.XT.dup2 X.here hx rfl hd rfl hc hc' j) k
theorem g_iinc (X : Wk p l e R s m args below meth c n0 T h cells slots) (hx : p.tables.exec = Jvm.exec) {k : Nat} {cst : Int} {x : Int32} {l' : Array Slot} (hp : pc + 3 = pc') (hd : decode c.code pc = .ok (.iinc k cst, 3)) (hl : Ls[k]? = some (.val (.int x))) (hl' : storeLocals Ls k (.int (x + Int32.ofInt cst)) = some l') (q : Go p e below s n0 Q nc ns (T.setTop (mkF m pc' l' st))) : Go p e below s n0 Q nc ns (T.setTop (mkF m pc Ls st)) := by
  subst hp; exact go_back (fun _ j => XS.iinc X.here hx rfl hd hl hl' j) q
theorem g_goto (X : Wk p l e R s m args below meth c n0 T h cells slots) (hx : p.tables.exec = Jvm.exec) {o : Int} (hd : decode c.code pc = .ok (.goto o, 3)) (ho : 0 ≤ (pc : Int) + o) (hp : ((pc : Int) + o).toNat = pc') (k : Go p e below s n0 Q nc ns (T.setTop (mkF m pc' Ls st))) : Go p e below s n0 Q nc ns (T.setTop (mkF m pc Ls st)) :=
  go_back (fun _ j => XS.goto X.here hx rfl rfl hd ho hp j) k
theorem g_ifY (X : Wk p l e R s m args below meth c n0 T h cells slots) (hx : p.tables.exec = Jvm.exec) {cd : ClassFile.Cond} {o : Int} {x : Int32} {pcY : Nat} (hd : decode c.code pc = .ok (.ifCond cd o, 3)) (ho : 0 ≤ (pc : Int) + o) (hY : ((pc : Int) + o).toNat = pcY) (q : cP cd x 0) (k : Go p e below s n0 Q nc ns (T.setTop (mkF m pcY Ls rest))) : Go p e below s n0 Q nc ns (T.setTop (mkF m pc Ls (.int x :: rest))) :=
  go_back (fun _ j => XS.ifYes X.here hx rfl rfl hd rfl ((if0 _ _).trans (cP_yes q)) ho hY j) k
theorem g_ifN (X : Wk p l e R s m args below meth c n0 T h cells slots) (hx : p.tables.exec = Jvm.exec) {cd : ClassFile.Cond} {o : Int} {x : Int32} {pcN : Nat} (hd : decode c.code pc = .ok (.ifCond cd o, 3)) (hN : pc + 3 = pcN) (q : ¬ cP cd x 0) (k : Go p e below s n0 Q nc ns (T.setTop (mkF m pcN Ls rest))) : Go p e below s n0 Q nc ns (T.setTop (mkF m pc Ls (.int x :: rest))) := by
  subst hN; exact go_back (fun _ j => XS.ifNo X.here hx rfl hd rfl ((if0 _ _).trans (cP_no q)) j) k
theorem g_if (X : Wk p l e R s m args below meth c n0 T h cells slots) (hx : p.tables.exec = Jvm.exec) {cd : ClassFile.Cond} {o : Int} {x : Int32} {pcY pcN : Nat} (hd : decode c.code pc = .ok (.ifCond cd o, 3)) (ho : 0 ≤ (pc : Int) + o) (hY : ((pc : Int) + o).toNat = pcY) (hN : pc + 3 = pcN) (kY : cP cd x 0 → Go p e below s n0 Q nc ns (T.setTop (mkF m pcY Ls rest))) (kN : ¬ cP cd x 0 → Go p e below s n0 Q nc ns (T.setTop (mkF m pcN Ls rest))) : Go p e below s n0 Q nc ns (T.setTop (mkF m pc Ls (.int x :: rest))) := by
  by_cases q : cP cd x 0
  · exact g_ifY X hx hd ho hY q (kY q)
  · exact g_ifN X hx hd hN q (kN q)
theorem g_icmpY (X : Wk p l e R s m args below meth c n0 T h cells slots) (hx : p.tables.exec = Jvm.exec) {cd : ClassFile.Cond} {o : Int} {x y : Int32} {pcY : Nat} (hd : decode c.code pc = .ok (.if_icmp cd o, 3)) (ho : 0 ≤ (pc : Int) + o) (hY : ((pc : Int) + o).toNat = pcY) (q : cP cd x y) (k : Go p e below s n0 Q nc ns (T.setTop (mkF m pcY Ls rest))) : Go p e below s n0 Q nc ns (T.setTop (mkF m pc Ls (.int y :: .int x :: rest))) :=
  go_back (fun _ j => XS.icmpYes X.here hx rfl rfl hd rfl (cP_yes q) ho hY j) k
theorem g_icmpN (X : Wk p l e R s m args below meth c n0 T h cells slots) (hx : p.tables.exec = Jvm.exec) {cd : ClassFile.Cond} {o : Int} {x y : Int32} {pcN : Nat} (hd : decode c.code pc = .ok (.if_icmp cd o, 3)) (hN : pc + 3 = pcN) (q : ¬ cP cd x y) (k : Go p e below s n0 Q nc ns (T.setTop (mkF m pcN Ls rest))) : Go p e below s n0 Q nc ns (T.setTop (mkF m pc Ls (.int y :: .int x :: rest))) := by
  subst hN; exact go_back (fun _ j => XS.icmpNo X.here hx rfl hd rfl (cP_no q) j) k
theorem g_icmp (X : Wk p l e R s m args below meth c n0 T h cells slots) (hx : p.tables.exec = Jvm.exec) {cd : ClassFile.Cond} {o : Int} {x y : Int32} {pcY pcN : Nat} (hd : decode c.code pc = .ok (.if_icmp cd o, 3)) (ho : 0 ≤ (pc : Int) + o) (hY : ((pc : Int) + o).toNat = pcY) (hN : pc + 3 = pcN) (kY : cP cd x y → Go p e below s n0 Q nc ns (T.setTop (mkF m pcY Ls rest))) (kN : ¬ cP cd x y → Go p e below s n0 Q nc ns (T.setTop (mkF m pcN Ls rest))) : Go p e below s n0 Q nc ns (T.setTop (mkF m pc Ls (.int y :: .int x :: rest))) := by
  by_cases q : cP cd x y
  · exact g_icmpY X hx hd ho hY q (kY q)
  · exact g_icmpN X hx hd hN q (kN q)
theorem g_ifnullY (X : Wk p l e R s m args below meth c n0 T h cells slots) (hx : p.tables.exec = Jvm.exec) {o : Int} {pcY : Nat} (hd : decode c.code pc = .ok (.ifnull o, 3)) (ho : 0 ≤ (pc : Int) + o) (hY : ((pc : Int) + o).toNat = pcY) (k : Go p e below s n0 Q nc ns (T.setTop (mkF m pcY Ls rest))) : Go p e below s n0 Q nc ns (T.setTop (mkF m pc Ls (.null :: rest))) :=
  go_back (fun _ j => XS.ifnullYes X.here hx rfl rfl hd rfl ho hY j) k
theorem g_ifnullN (X : Wk p l e R s m args below meth c n0 T h cells slots) (hx : p.tables.exec = Jvm.exec) {o : Int} {b : Addr} {pcN : Nat} (hd : decode c.code pc = .ok (.ifnull o, 3)) (hN : pc + 3 = pcN) (k : Go p e below s n0 Q nc ns (T.setTop (mkF m pcN Ls rest))) : Go p e below s n0 Q nc ns (T.setTop (mkF m pc Ls (.ref b :: rest))) := by
  subst hN; exact go_back (fun _ j => XS.ifnullNo X.here hx rfl hd rfl j) k
theorem g_ifnonnullY (X : Wk p l e R s m args below meth c n0 T h cells slots) (hx : p.tables.exec = Jvm.exec) {o : Int} {b : Addr} {pcY : Nat} (hd : decode c.code pc = .ok (.ifnonnull o, 3)) (ho : 0 ≤ (pc : Int) + o) (hY : ((pc : Int) + o).toNat = pcY) (k : Go p e below s n0 Q nc ns (T.setTop (mkF m pcY Ls rest))) : Go p e below s n0 Q nc ns (T.setTop (mkF m pc Ls (.ref b :: rest))) :=
  go_back (fun _ j => XS.ifnonnullYes X.here hx rfl rfl hd rfl ho hY j) k
theorem g_ifnonnullN (X : Wk p l e R s m args below meth c n0 T h cells slots) (hx : p.tables.exec = Jvm.exec) {o : Int} {pcN : Nat} (hd : decode c.code pc = .ok (.ifnonnull o, 3)) (hN : pc + 3 = pcN) (k : Go p e below s n0 Q nc ns (T.setTop (mkF m pcN Ls rest))) : Go p e below s n0 Q nc ns (T.setTop (mkF m pc Ls (.null :: rest))) := by
  subst hN; exact go_back (fun _ j => XS.ifnonnullNo X.here hx rfl hd rfl j) k
theorem g_normI {x z : Int32} (hz : x = z) (k : Go p e below s n0 Q nc ns (T.setTop (mkF m pc Ls (.int z :: rest)))) : Go p e below s n0 Q nc ns (T.setTop (mkF m pc Ls (.int x :: rest))) := hz ▸ k
theorem g_normD {x z : UInt64} (hz : x = z) (k : Go p e below s n0 Q nc ns (T.setTop (mkF m pc Ls (.double z :: rest)))) : Go p e below s n0 Q nc ns (T.setTop (mkF m pc Ls (.double x :: rest))) := hz ▸ k
theorem g_iincC (X : Wk p l e R s m args below meth c n0 T h cells slots) (hx : p.tables.exec = Jvm.exec) {k : Nat} {cst : Int} {x z : Int32} {l' : Array Slot} (hp : pc + 3 = pc') (hd : decode c.code pc = .ok (.iinc k cst, 3)) (hl : Ls[k]? = some (.val (.int x))) (hz : x + Int32.ofInt cst = z) (hl' : storeLocals Ls k (.int z) = some l') (q : Go p e below s n0 Q nc ns (T.setTop (mkF m pc' l' st))) : Go p e below s n0 Q nc ns (T.setTop (mkF m pc Ls st)) := by
  subst hz; exact g_iinc X hx hp hd hl hl' q
theorem g_ldcI (X : Wk p l e R s m args below meth c n0 T h cells slots) (hx : p.tables.exec = Jvm.exec) (hZ : Z.Warmed39 s.vm) {own : String} {index : Nat} {v : Int32} (hown : s.vm.findClass own = some m.cls) (w : (Jvm.Cond.constant own index v).before a0 Z = true) (hp : pc + 2 = pc') (hd : decode c.code pc = .ok (.ldc index, 2))
    (k : Go p e below s n0 Q nc ns (T.setTop (mkF m pc' Ls (.int v :: st)))) : Go p e below s n0 Q nc ns (T.setTop (mkF m pc Ls st)) := by
  subst hp; obtain ⟨_, X, -⟩ := X
  exact go_back (X.ldcInt hx hown (mvT hZ w) (g := mkF m pc Ls st) rfl hd) k
theorem g_ldc2L (X : Wk p l e R s m args below meth c n0 T h cells slots) (hx : p.tables.exec = Jvm.exec) (hZ : Z.Warmed39 s.vm) {own : String} {index : Nat} {v : Int64} (hown : s.vm.findClass own = some m.cls) (w : (Jvm.Cond.constantLong own index v).before a0 Z = true) (hp : pc + 3 = pc') (hd : decode c.code pc = .ok (.ldc2_w index, 3))
    (k : Go p e below s n0 Q nc ns (T.setTop (mkF m pc' Ls (.long v :: st)))) : Go p e below s n0 Q nc ns (T.setTop (mkF m pc Ls st)) := by
  subst hp; obtain ⟨_, X, -⟩ := X
  exact go_back (X.ldc2Long hx hown (mvT hZ w) (g := mkF m pc Ls st) rfl hd) k
theorem g_ldc2D (X : Wk p l e R s m args below meth c n0 T h cells slots) (hx : p.tables.exec = Jvm.exec) (hZ : Z.Warmed39 s.vm) {own : String} {index : Nat} {v : UInt64} (hown : s.vm.findClass own = some m.cls) (w : (Jvm.Cond.constantDouble own index v).before a0 Z = true) (hp : pc + 3 = pc') (hd : decode c.code pc = .ok (.ldc2_w index, 3))
    (k : Go p e below s n0 Q nc ns (T.setTop (mkF m pc' Ls (.double v :: st)))) : Go p e below s n0 Q nc ns (T.setTop (mkF m pc Ls st)) := by
  subst hp; obtain ⟨_, X, -⟩ := X
  exact go_back (X.ldc2DoubleC hx hown (mvT hZ w) (g := mkF m pc Ls st) rfl hd) k
theorem g_getF (X : Wk p l e R s m args below meth c n0 T h cells slots) (hx : p.tables.exec = Jvm.exec) (hZ : Z.Warmed39 s.vm) {own R0 O n d : String} {index : Nat} (hown : s.vm.findClass own = some m.cls) (w : (Jvm.Cond.fieldLink own index R0 n d).before a0 Z = true) (via : Via Z R0 O n d) {a : Addr} {v : Value} (F : Fld Z h a O n d v) (hp : pc + 3 = pc') (hd : decode c.code pc = .ok (.getfield index, 3))
    (k : ∀ T', Wk p l e R s m args below meth c n0 T' h cells slots → Go p e below s n0 Q nc ns (T'.setTop (mkF m pc' Ls (v :: rest)))) : Go p e below s n0 Q nc ns (T.setTop (mkF m pc Ls (.ref a :: rest))) := by
  subst hp; obtain ⟨locs, X, N, eT⟩ := X
  obtain ⟨T', X', e', b⟩ := getF X hx hZ hown (host := "") (Or.inl w) via eT F (g := mkF m pc Ls (.ref a :: rest)) rfl rfl hd
  exact go_back b (k T' ⟨locs, X', N, e'⟩)
theorem g_getS (X : Wk p l e R s m args below meth c n0 T h cells slots) (hx : p.tables.exec = Jvm.exec) (hZ : Z.Warmed39 s.vm) {own R0 O n d : String} {index : Nat} (hown : s.vm.findClass own = some m.cls) (w : (Jvm.Cond.fieldLink own index R0 n d).before a0 Z = true) (via : Via Z R0 O n d) {v : Value} (F : Sta Z h O n d v) (hp : pc + 3 = pc') (hd : decode c.code pc = .ok (.getstatic index, 3))
    (k : ∀ T', Wk p l e R s m args below meth c n0 T' h cells slots → Go p e below s n0 Q nc ns (T'.setTop (mkF m pc' Ls (v :: st)))) : Go p e below s n0 Q nc ns (T.setTop (mkF m pc Ls st)) := by
  subst hp; obtain ⟨locs, X, N, eT⟩ := X
  obtain ⟨T', X', e', b⟩ := getS X hx hZ hown w via eT F (g := mkF m pc Ls st) rfl hd (host := "")
  exact go_back b (k T' ⟨locs, X', N, e'⟩)
theorem g_putF (X : Wk p l e R s m args below meth c n0 T h cells slots) (hx : p.tables.exec = Jvm.exec) (hZ : Z.Warmed39 s.vm) {own R0 O n d C : String} {index kk : Nat} {ty : FieldType} (hown : s.vm.findClass own = some m.cls) (w : (Jvm.Cond.fieldLink own index R0 n d).before a0 Z = true) (via : Via Z R0 O n d) {a : Addr} {v old : Value} (F : Fld Z h a O n d old) (E : Exa Z h a C)
    (L : (Jvm.Cond.lays C O n d).before a0 Z = true ∨ ((Jvm.Cond.laysFinal C O n d).before a0 Z = true ∧ own = O ∧ meth.name = "<init>")) (wi : (Jvm.Cond.instantiable C kk).before a0 Z = true) (hty : parseFieldDescriptor d = some ty) (hn : narrow ty v = v) (hf : fits ty v = true) (hna : n0 ≤ a) (hp : pc + 3 = pc') (hd : decode c.code pc = .ok (.putfield index, 3))
    (k : ∀ T' h', Wk p l e R s m args below meth c n0 T' h' cells slots → Wr h h' a (Jvm.RoadKit.slotOf Z O n d) v → Go p e below s n0 Q nc ns (T'.setTop (mkF m pc' Ls rest))) : Go p e below s n0 Q nc ns (T.setTop (mkF m pc Ls (v :: .ref a :: rest))) := by
  subst hp; obtain ⟨locs, X, N, eT⟩ := X
  obtain ⟨T', h', X', e', W', b⟩ := putF X hx hZ hown (host := "") (Or.inl w) via eT F E L wi hty hn hf (g := mkF m pc Ls (v :: .ref a :: rest)) rfl rfl hd
  exact go_back b (k T' h' ⟨_, X', Fr.snoc X' N hna, e'⟩ W')
theorem g_newO (X : Wk p l e R s m args below meth c n0 T h cells slots) (hx : p.tables.exec = Jvm.exec) (hZ : Z.Warmed39 s.vm) {own C : String} {index n : Nat} (hown : s.vm.findClass own = some m.cls) (w : (Jvm.Cond.classLink own index C).before a0 Z = true) (wi : (Jvm.Cond.instantiable C n).before a0 Z = true) (wz : (Jvm.Cond.initialized C).before a0 Z = true) (hp : pc + 3 = pc') (hd : decode c.code pc = .ok (.new index, 3)) (hc : cells + 1 ≤ R.cells) (hl : slots + n ≤ R.slots)
    (k : ∀ T' h' a, a = h.size → Wk p l e R s m args below meth c n0 T' h' (cells + 1) (slots + n) → Ext h h' → Exa Z h' a C → (∀ {O nm d : String} {ty : FieldType}, Laid Z a0 C O nm d → parseFieldDescriptor d = some ty → Fld Z h' a O nm d (defaultValue ty)) → Go p e below s n0 Q nc ns (T'.setTop (mkF m pc' Ls (.ref a :: st)))) : Go p e below s n0 Q nc ns (T.setTop (mkF m pc Ls st)) := by
  subst hp; obtain ⟨locs, X, N, eT⟩ := X
  obtain ⟨T', h', X', e', E', A', D', -, b⟩ := newO X hx hZ hown w wi wz eT (g := mkF m pc Ls st) rfl hd hc hl
  exact go_back b (k T' h' h.size rfl ⟨_, X', N, e'⟩ E' A' (fun L q => D' L q))
theorem g_initO (X : Wk p l e R s m args below meth c n0 T h cells slots) (hx : p.tables.exec = Jvm.exec) (hZ : Z.Warmed39 s.vm) {own : String} {index : Nat} (hown : s.vm.findClass own = some m.cls) (w1 : (Jvm.Cond.methodLink own index Lib.objectInit).before a0 Z = true) (w2 : (Jvm.Cond.instanceMethod Lib.objectInit).before a0 Z = true) (w3 : (Jvm.Cond.code Lib.objectInit ⟨#[0xb1]⟩ 1 none).before a0 Z = true) {a : Addr} (hsz : Ls.size = c.maxLocals) (hp : pc + 3 = pc') (hd : decode c.code pc = .ok (.invokespecial index, 3)) (hf : 1 ≤ R.frames) {W : Nat} (hW : 2 * 0 + (rest.map fun v => v.category).sum ≤ W) (hl : W + 12 ≤ R.locals)
    (k : ∀ T', Wk p l e R s m args below meth c n0 T' h cells slots → Go p e below s n0 Q nc ns (T'.setTop (mkF m pc' Ls rest))) : Go p e below s n0 Q nc ns (T.setTop (mkF m pc Ls (.ref a :: rest))) := by
  subst hp; obtain ⟨locs, X, N, eT⟩ := X
  obtain ⟨T', X', e', b⟩ := initO X hx hZ hown w1 w2 w3 eT (g := mkF m pc Ls (.ref a :: rest)) rfl hsz rfl hd hf hW hl
  exact go_back b (k T' ⟨_, X', N, e'⟩)
section Calls
variable {y z : MethodName} {bytes : ByteArray} {maxL : Nat} {ret : Option FieldType} {rm : Room} {as : Array Value} {Qc : Option Value → Heap → Prop} {own : String} {index W : Nat} {argsL : List Value} {ps : List FieldType} {r : Option FieldType}
theorem g_callS (X : Wk p l e R s m args below meth c n0 T h cells slots) (hx : p.tables.exec = Jvm.exec) (hZ : Z.Warmed39 s.vm) (hown : s.vm.findClass own = some m.cls) (w1 : (Jvm.Cond.methodLink own index y).before a0 Z = true) (w2 : (Jvm.Cond.static y).before a0 Z = true) (w3 : (Jvm.Cond.initialized y.cls).before a0 Z = true) (w4 : (Jvm.Cond.code y bytes maxL ret).before a0 Z = true)
    (hy : y.cls ≠ "java/lang/invoke/MethodHandle" ∧ y.cls ≠ "java/lang/invoke/VarHandle") (hM : Con l Z n0 y bytes maxL ret [] rm as h Qc) (hlen : parseMethodDescriptor y.desc = some ⟨ps, r⟩) (hl : argsL.length = ps.length) (has : as = argsL.toArray) (hsz : Ls.size = c.maxLocals) (hp : pc + 3 = pc') (hd : decode c.code pc = .ok (.invokestatic index, 3))
    (hst : st = argsL.reverse ++ rest) (hW : 2 * 0 + (rest.map fun v => v.category).sum ≤ W) (hf : rm.frames + 1 ≤ R.frames) (hlo : W + (maxL + 11) + rm.locals ≤ R.locals) (hc : cells + rm.cells ≤ R.cells) (hs : slots + rm.slots ≤ R.slots)
    (k : ∀ v T' h', Wk p l e R s m args below meth c n0 T' h' (cells + rm.cells) (slots + rm.slots) → Qc v h' → Go p e below s n0 Q nc ns (T'.setTop (mkF m pc' Ls (v.toList ++ rest)))) : Go p e below s n0 Q nc ns (T.setTop (mkF m pc Ls st)) := by
  subst hp; subst has; obtain ⟨locs, X, N, eT⟩ := X
  obtain ⟨v, vm1, ⟨U, L1, c1, s1⟩, -, X', ⟨Lc, hQ, l1, y1, z1⟩, b⟩ := Jvm.LawKit.callS X hx hown (mvT hZ w1) (mvT hZ w2) (mvT hZ w3) (mvT hZ w4) hy (backOf (W := W) (Q := fun v h L => Fr n0 L ∧ Qc v h) hM hZ w4 w3 hf hlo) (g := mkF m pc Ls st) rfl hsz (argsL := argsL) (rest := rest) (lenOf hlen hl) hst hW hd (fun _ _ => ⟨rfl, eT, hc, hs⟩)
  dsimp only [Pt.U, Pt.locs, Pt.cells, Pt.slots] at X' l1 y1 z1 b hQ
  subst l1 y1 z1
  exact go_back b (k v U U.heap ⟨_, X', Fr.app N hQ.1, rfl⟩ hQ.2)
theorem g_callI (X : Wk p l e R s m args below meth c n0 T h cells slots) (hx : p.tables.exec = Jvm.exec) (hZ : Z.Warmed39 s.vm) (hown : s.vm.findClass own = some m.cls) (hy1 : y.name = "<init>") (w1 : (Jvm.Cond.methodLink own index y).before a0 Z = true) (w2 : (Jvm.Cond.instanceMethod y).before a0 Z = true) (w3 : (Jvm.Cond.initialized y.cls).before a0 Z = true) (w4 : (Jvm.Cond.code y bytes maxL none).before a0 Z = true)
    (hy : y.cls ≠ "java/lang/invoke/MethodHandle" ∧ y.cls ≠ "java/lang/invoke/VarHandle") {a : Addr} (hM : Con l Z n0 y bytes maxL none [] rm as h Qc) (hlen : parseMethodDescriptor y.desc = some ⟨ps, r⟩) (hl : argsL.length = ps.length) (has : as = (Value.ref a :: argsL).toArray) (hsz : Ls.size = c.maxLocals) (hp : pc + 3 = pc') (hd : decode c.code pc = .ok (.invokespecial index, 3))
    (hst : st = argsL.reverse ++ .ref a :: rest) (hW : 2 * 0 + (rest.map fun v => v.category).sum ≤ W) (hf : rm.frames + 1 ≤ R.frames) (hlo : W + (maxL + 11) + rm.locals ≤ R.locals) (hc : cells + rm.cells ≤ R.cells) (hs : slots + rm.slots ≤ R.slots)
    (k : ∀ v T' h', Wk p l e R s m args below meth c n0 T' h' (cells + rm.cells) (slots + rm.slots) → Qc v h' → Go p e below s n0 Q nc ns (T'.setTop (mkF m pc' Ls (v.toList ++ rest)))) : Go p e below s n0 Q nc ns (T.setTop (mkF m pc Ls st)) := by
  subst hp; subst has; obtain ⟨locs, X, N, eT⟩ := X
  obtain ⟨v, vm1, ⟨U, L1, c1, s1⟩, -, X', ⟨Lc, hQ, l1, y1, z1⟩, b⟩ := X.specialBack hx hy1 hown (mvT hZ w1) (mvT hZ w2) (mvT hZ w4) hy (backOf (W := W) (Q := fun v h L => Fr n0 L ∧ Qc v h) hM hZ w4 w3 hf hlo) (g := mkF m pc Ls st) rfl hsz (Steps.refl _) (a := a) (argsL := argsL) (rest := rest) (lenOf hlen hl) hst hW hd (fun _ _ => ⟨rfl, eT, hc, hs⟩)
  dsimp only [Pt.U, Pt.locs, Pt.cells, Pt.slots] at X' l1 y1 z1 b hQ
  subst l1 y1 z1
  exact go_back (fun _ j => b.trans j) (k v U U.heap ⟨_, X', Fr.app N hQ.1, rfl⟩ hQ.2)
theorem g_callV (X : Wk p l e R s m args below meth c n0 T h cells slots) (hx : p.tables.exec = Jvm.exec) (hZ : Z.Warmed39 s.vm) (hown : s.vm.findClass own = some m.cls) {C : String} (w1 : (Jvm.Cond.methodLink own index y).before a0 Z = true) (w2 : (Jvm.Cond.declares y).before a0 Z = true) (w5 : (Jvm.Cond.selects C y y).before a0 Z = true) (w6 : (Jvm.Cond.instanceMethod y).before a0 Z = true) (w3 : (Jvm.Cond.initialized y.cls).before a0 Z = true) (w4 : (Jvm.Cond.code y bytes maxL ret).before a0 Z = true)
    (hy : y.cls ≠ "java/lang/invoke/MethodHandle" ∧ y.cls ≠ "java/lang/invoke/VarHandle") {a : Addr} (E : Exa Z h a C) (hM : Con l Z n0 y bytes maxL ret [] rm as h Qc) (hlen : parseMethodDescriptor y.desc = some ⟨ps, r⟩) (hl : argsL.length = ps.length) (has : as = (Value.ref a :: argsL).toArray) (hsz : Ls.size = c.maxLocals) (hp : pc + 3 = pc') (hd : decode c.code pc = .ok (.invokevirtual index, 3))
    (hst : st = argsL.reverse ++ .ref a :: rest) (hW : 2 * 0 + (rest.map fun v => v.category).sum ≤ W) (hf : rm.frames + 1 ≤ R.frames) (hlo : W + (maxL + 11) + rm.locals ≤ R.locals) (hc : cells + rm.cells ≤ R.cells) (hs : slots + rm.slots ≤ R.slots)
    (k : ∀ v T' h', Wk p l e R s m args below meth c n0 T' h' (cells + rm.cells) (slots + rm.slots) → Qc v h' → Go p e below s n0 Q nc ns (T'.setTop (mkF m pc' Ls (v.toList ++ rest)))) : Go p e below s n0 Q nc ns (T.setTop (mkF m pc Ls st)) := by
  subst hp; subst has; obtain ⟨locs, X, N, eT⟩ := X
  obtain ⟨cq, kq, qa, qb, qc⟩ := isOf hZ eT E
  obtain ⟨v, vm1, ⟨U, L1, c1, s1⟩, -, X', ⟨Lc, hQ, l1, y1, z1⟩, b⟩ := X.virtualBack hx (y := y) (z := y) hown (mvT hZ w1) (mvT hZ w2) (notFace_of_selects (args := #[]) (mvT hZ w5)) (mvT hZ w5) (mvT hZ w6) hy (backOf (W := W) (Q := fun v h L => Fr n0 L ∧ Qc v h) hM hZ w4 w3 hf hlo) qa qc (g := mkF m pc Ls st) rfl hsz (Steps.refl _) (argsL := argsL) (rest := rest) (lenOf hlen hl) hst hW hd (fun _ _ => ⟨rfl, eT, hc, hs⟩)
  dsimp only [Pt.U, Pt.locs, Pt.cells, Pt.slots] at X' l1 y1 z1 b hQ
  subst l1 y1 z1
  exact go_back (fun _ j => b.trans j) (k v U U.heap ⟨_, X', Fr.app N hQ.1, rfl⟩ hQ.2)
theorem g_nat (X : Wk p l e R s m args below meth c n0 T h cells slots) (hx : p.tables.exec = Jvm.exec) (hZ : Z.Warmed39 s.vm) (hown : s.vm.findClass own = some m.cls) (w1 : (Jvm.Cond.methodLink own index y).before a0 Z = true) (w2 : (Jvm.Cond.static y).before a0 Z = true) (w3 : (Jvm.Cond.initialized y.cls).before a0 Z = true) (w4 : (Jvm.Cond.code y bytes maxL ret).before a0 Z = true)
    (hy : y.cls ≠ "java/lang/invoke/MethodHandle" ∧ y.cls ≠ "java/lang/invoke/VarHandle") {F : Array Value → Prop} {val : Value} (hK : (Jvm.Cond.code y bytes maxL ret).before args s = true → Back l R p e below s args y 3 W (fun A a' => A.cells ≤ R.cells ∧ A.slots ≤ R.slots ∧ F a') (fun A _ v B => v = some val ∧ B = A)) (hlen : parseMethodDescriptor y.desc = some ⟨ps, r⟩) (hl : argsL.length = ps.length) (hsz : Ls.size = c.maxLocals) (hp : pc + 3 = pc') (hd : decode c.code pc = .ok (.invokestatic index, 3))
    (hst : st = argsL.reverse ++ rest) (hW : 2 * 0 + (rest.map fun v => v.category).sum ≤ W) (hc : cells ≤ R.cells) (hs : slots ≤ R.slots) (hF : F argsL.toArray)
    (k : ∀ T', Wk p l e R s m args below meth c n0 T' h cells slots → Go p e below s n0 Q nc ns (T'.setTop (mkF m pc' Ls (val :: rest)))) : Go p e below s n0 Q nc ns (T.setTop (mkF m pc Ls st)) := by
  subst hp; obtain ⟨locs, X, N, eT⟩ := X
  obtain ⟨T', X', e', b⟩ := natS X hx hZ hown w1 w2 w3 w4 hy eT hK (g := mkF m pc Ls st) rfl hsz (argsL := argsL) (rest := rest) (lenOf hlen hl) hst hW hd hc hs hF rfl
  exact go_back b (k T' ⟨_, X', N, e'⟩)
end Calls
theorem g_absD2 (X : Wk p l e R s m args below meth c n0 T h cells slots) (hx : p.tables.exec = Jvm.exec) (hZ : Z.Warmed39 s.vm) {own : String} {index W : Nat} (hown : s.vm.findClass own = some m.cls) (w1 : (Jvm.Cond.methodLink own index Jvm.Free.Fl.Abs.absDN).before a0 Z = true) (w2 : (Jvm.Cond.static Jvm.Free.Fl.Abs.absDN).before a0 Z = true) (w3 : (Jvm.Cond.initialized Jvm.Free.Fl.Abs.absDN.cls).before a0 Z = true) (w4 : (Jvm.Cond.code Jvm.Free.Fl.Abs.absDN Jvm.Free.Fl.Abs.absDCode 2 (some .double)).before a0 Z = true)
    {x : UInt64} (hn : NoNaN64 x) (hsz : Ls.size = c.maxLocals) (hp : pc + 3 = pc') (hd : decode c.code pc = .ok (.invokestatic index, 3)) (hW : 2 * 0 + (rest.map fun v => v.category).sum ≤ W) (hf : 1 ≤ R.frames) (hlo : W + 13 ≤ R.locals) (hc : cells ≤ R.cells) (hs : slots ≤ R.slots)
    (k : ∀ T', Wk p l e R s m args below meth c n0 T' h cells slots → Go p e below s n0 Q nc ns (T'.setTop (mkF m pc' Ls (.double (x &&& 0x7fffffffffffffff) :: rest)))) : Go p e below s n0 Q nc ns (T.setTop (mkF m pc Ls (.double x :: rest))) :=
  g_nat X hx hZ hown w1 w2 w3 w4 (by decide) (fun q => Jvm.Free.Fl.Abs.absD_pays x q hf hlo) (ps := [.double]) (r := some .double) (by decide +kernel) (argsL := [.double x]) rfl hsz hp hd rfl hW hc hs ⟨rfl, hn⟩ k
theorem g_ret (X : Wk p l e R s m args below meth c n0 T h cells slots) (hx : p.tables.exec = Jvm.exec) (hlk : meth.locks = false) {t : FieldType} {w : Value} {i : Instr} (hret : meth.sig.returnType = some t) (hn : narrow t w = w)
    (hi : (i = .ireturn ∧ (t = .int ∨ t = .boolean ∨ t = .byte ∨ t = .char ∨ t = .short) ∧ ∃ z, w = .int z) ∨ (i = .lreturn ∧ t = .long ∧ ∃ z, w = .long z) ∨ (i = .dreturn ∧ t = .double ∧ ∃ z, w = .double z) ∨ (i = .freturn ∧ t = .float ∧ ∃ z, w = .float z) ∨ (i = .areturn ∧ t.isReference = true ∧ w.isRef = true))
    (hd : decode c.code pc = .ok (i, 1)) (hc : cells ≤ nc) (hs : slots ≤ ns) (hQ : Q (some w) h) : Go p e below s n0 Q nc ns (T.setTop (mkF m pc Ls (w :: rest))) := by
  obtain ⟨locs, X, N, eT⟩ := X
  obtain ⟨fs, hr, hrun, hended, hW, hsame⟩ := X.leave (v := some w) (fun q => by rw [hret] at q; cases q) hlk
  exact ⟨_, _, retOut X hx hret hn hi hd hr, hrun, hended, _, _, rfl, ⟨N, by show Q (some w) T.heap; rw [eT]; exact hQ⟩, ⟨_, rfl⟩, hW, hsame.mono hc hs⟩
theorem g_retI (X : Wk p l e R s m args below meth c n0 T h cells slots) (hx : p.tables.exec = Jvm.exec) (hlk : meth.locks = false) {z : Int32} (hret : meth.sig.returnType = some .int) (hd : decode c.code pc = .ok (.ireturn, 1)) (hc : cells ≤ nc) (hs : slots ≤ ns) (hQ : Q (some (.int z)) h) : Go p e below s n0 Q nc ns (T.setTop (mkF m pc Ls (.int z :: rest))) :=
  g_ret X hx hlk hret rfl (Or.inl ⟨rfl, Or.inl rfl, z, rfl⟩) hd hc hs hQ
theorem g_retZ (X : Wk p l e R s m args below meth c n0 T h cells slots) (hx : p.tables.exec = Jvm.exec) (hlk : meth.locks = false) {z : Int32} (hret : meth.sig.returnType = some .boolean) (hz : z = 0 ∨ z = 1) (hd : decode c.code pc = .ok (.ireturn, 1)) (hc : cells ≤ nc) (hs : slots ≤ ns) (hQ : Q (some (.int z)) h) : Go p e below s n0 Q nc ns (T.setTop (mkF m pc Ls (.int z :: rest))) :=
  g_ret X hx hlk hret (by rcases hz with rfl | rfl <;> rfl) (Or.inl ⟨rfl, Or.inr (Or.inl rfl), z, rfl⟩) hd hc hs hQ
theorem g_retL (X : Wk p l e R s m args below meth c n0 T h cells slots) (hx : p.tables.exec = Jvm.exec) (hlk : meth.locks = false) {z : Int64} (hret : meth.sig.returnType = some .long) (hd : decode c.code pc = .ok (.lreturn, 1)) (hc : cells ≤ nc) (hs : slots ≤ ns) (hQ : Q (some (.long z)) h) : Go p e below s n0 Q nc ns (T.setTop (mkF m pc Ls (.long z :: rest))) :=
  g_ret X hx hlk hret rfl (Or.inr (Or.inl ⟨rfl, rfl, z, rfl⟩)) hd hc hs hQ
theorem g_retD (X : Wk p l e R s m args below meth c n0 T h cells slots) (hx : p.tables.exec = Jvm.exec) (hlk : meth.locks = false) {z : UInt64} (hret : meth.sig.returnType = some .double) (hd : decode c.code pc = .ok (.dreturn, 1)) (hc : cells ≤ nc) (hs : slots ≤ ns) (hQ : Q (some (.double z)) h) : Go p e below s n0 Q nc ns (T.setTop (mkF m pc Ls (.double z :: rest))) :=
  g_ret X hx hlk hret rfl (Or.inr (Or.inr (Or.inl ⟨rfl, rfl, z, rfl⟩))) hd hc hs hQ
theorem g_retV (X : Wk p l e R s m args below meth c n0 T h cells slots) (hx : p.tables.exec = Jvm.exec) (hlk : meth.locks = false) (hret : meth.sig.returnType = none) (hd : decode c.code pc = .ok (.return_, 1)) (hc : cells ≤ nc) (hs : slots ≤ ns) (hQ : Q none h) : Go p e below s n0 Q nc ns (T.setTop (mkF m pc Ls [])) := by
  obtain ⟨locs, X, N, eT⟩ := X
  obtain ⟨fs, hr, hrun, hended, hW, hsame⟩ := X.leave (v := none) (fun _ => rfl) hlk
  exact ⟨_, _, X.returnOut hx hret hd hr, hrun, hended, _, _, rfl, ⟨N, by show Q none T.heap; rw [eT]; exact hQ⟩, ⟨_, rfl⟩, hW, hsame.mono hc hs⟩
end OwnKit
theorem d1_0 : decode prog_31_method_1_code 0 = .ok (.aload_n 0, 1) := by decide +kernel
theorem d1_1 : decode prog_31_method_1_code 1 = .ok (.invokespecial 1, 3) := by decide +kernel
theorem d1_4 : decode prog_31_method_1_code 4 = .ok (.aload_n 0, 1) := by decide +kernel
theorem d1_5 : decode prog_31_method_1_code 5 = .ok (.bipush 16, 2) := by decide +kernel
theorem d1_7 : decode prog_31_method_1_code 7 = .ok (.newarray .double, 2) := by decide +kernel
theorem d1_9 : decode prog_31_method_1_code 9 = .ok (.putfield 7, 3) := by decide +kernel
theorem d1_12 : decode prog_31_method_1_code 12 = .ok (.return_, 1) := by decide +kernel
theorem d3_0 : decode prog_31_method_3_code 0 = .ok (.aload_n 0, 1) := by decide +kernel
theorem d3_1 : decode prog_31_method_3_code 1 = .ok (.aload_n 0, 1) := by decide +kernel
theorem d3_2 : decode prog_31_method_3_code 2 = .ok (.getfield 7, 3) := by decide +kernel
theorem d3_5 : decode prog_31_method_3_code 5 = .ok (.aload_n 0, 1) := by decide +kernel
theorem d3_6 : decode prog_31_method_3_code 6 = .ok (.getfield 13, 3) := by decide +kernel
theorem d3_9 : decode prog_31_method_3_code 9 = .ok (.invokestatic 17, 3) := by decide +kernel
theorem d3_12 : decode prog_31_method_3_code 12 = .ok (.putfield 7, 3) := by decide +kernel
theorem d3_15 : decode prog_31_method_3_code 15 = .ok (.aload_n 0, 1) := by decide +kernel
theorem d3_16 : decode prog_31_method_3_code 16 = .ok (.getfield 7, 3) := by decide +kernel
theorem d3_19 : decode prog_31_method_3_code 19 = .ok (.invokestatic 23, 3) := by decide +kernel
theorem d3_22 : decode prog_31_method_3_code 22 = .ok (.return_, 1) := by decide +kernel
theorem d4_0 : decode jdk_65_method_127_code 0 = .ok (.iload_n 1, 1) := by decide +kernel
theorem d4_1 : decode jdk_65_method_127_code 1 = .ok (.aload_n 0, 1) := by decide +kernel
theorem d4_2 : decode jdk_65_method_127_code 2 = .ok (.arraylength, 1) := by decide +kernel
theorem d4_3 : decode jdk_65_method_127_code 3 = .ok (.if_icmp .ne 11, 3) := by decide +kernel
theorem d4_14 : decode jdk_65_method_127_code 14 = .ok (.iload_n 1, 1) := by decide +kernel
theorem d4_15 : decode jdk_65_method_127_code 15 = .ok (.newarray .double, 2) := by decide +kernel
theorem d4_17 : decode jdk_65_method_127_code 17 = .ok (.astore_n 2, 1) := by decide +kernel
theorem d4_18 : decode jdk_65_method_127_code 18 = .ok (.aload_n 0, 1) := by decide +kernel
theorem d4_19 : decode jdk_65_method_127_code 19 = .ok (.iconst 0, 1) := by decide +kernel
theorem d4_20 : decode jdk_65_method_127_code 20 = .ok (.aload_n 2, 1) := by decide +kernel
theorem d4_21 : decode jdk_65_method_127_code 21 = .ok (.iconst 0, 1) := by decide +kernel
theorem d4_22 : decode jdk_65_method_127_code 22 = .ok (.aload_n 0, 1) := by decide +kernel
theorem d4_23 : decode jdk_65_method_127_code 23 = .ok (.arraylength, 1) := by decide +kernel
theorem d4_24 : decode jdk_65_method_127_code 24 = .ok (.iload_n 1, 1) := by decide +kernel
theorem d4_25 : decode jdk_65_method_127_code 25 = .ok (.invokestatic 304, 3) := by decide +kernel
theorem d4_28 : decode jdk_65_method_127_code 28 = .ok (.invokestatic 150, 3) := by decide +kernel
theorem d4_31 : decode jdk_65_method_127_code 31 = .ok (.aload_n 2, 1) := by decide +kernel
theorem d4_32 : decode jdk_65_method_127_code 32 = .ok (.areturn, 1) := by decide +kernel
theorem d5_0 : decode jdk_29_method_69_code 0 = .ok (.iload_n 0, 1) := by decide +kernel
theorem d5_1 : decode jdk_29_method_69_code 1 = .ok (.iload_n 1, 1) := by decide +kernel
theorem d5_2 : decode jdk_29_method_69_code 2 = .ok (.if_icmp .gt 7, 3) := by decide +kernel
theorem d5_9 : decode jdk_29_method_69_code 9 = .ok (.iload_n 1, 1) := by decide +kernel
theorem d5_10 : decode jdk_29_method_69_code 10 = .ok (.ireturn, 1) := by decide +kernel
theorem d6_0 : decode jdk_65_method_14_code 0 = .ok (.aload_n 0, 1) := by decide +kernel
theorem d6_1 : decode jdk_65_method_14_code 1 = .ok (.iconst 0, 1) := by decide +kernel
theorem d6_2 : decode jdk_65_method_14_code 2 = .ok (.iconst 0, 1) := by decide +kernel
theorem d6_3 : decode jdk_65_method_14_code 3 = .ok (.aload_n 0, 1) := by decide +kernel
theorem d6_4 : decode jdk_65_method_14_code 4 = .ok (.arraylength, 1) := by decide +kernel
theorem d6_5 : decode jdk_65_method_14_code 5 = .ok (.invokestatic 34, 3) := by decide +kernel
theorem d6_8 : decode jdk_65_method_14_code 8 = .ok (.return_, 1) := by decide +kernel
theorem d7_0 : decode jdk_2529_method_41_code 0 = .ok (.iconst 0, 1) := by decide +kernel
theorem d7_1 : decode jdk_2529_method_41_code 1 = .ok (.istore 4, 2) := by decide +kernel
theorem d7_3 : decode jdk_2529_method_41_code 3 = .ok (.iload_n 3, 1) := by decide +kernel
theorem d7_4 : decode jdk_2529_method_41_code 4 = .ok (.istore 5, 2) := by decide +kernel
theorem d7_6 : decode jdk_2529_method_41_code 6 = .ok (.iload 5, 2) := by decide +kernel
theorem d7_8 : decode jdk_2529_method_41_code 8 = .ok (.iload_n 2, 1) := by decide +kernel
theorem d7_9 : decode jdk_2529_method_41_code 9 = .ok (.if_icmp .le 66, 3) := by decide +kernel
theorem d7_12 : decode jdk_2529_method_41_code 12 = .ok (.aload_n 0, 1) := by decide +kernel
theorem d7_13 : decode jdk_2529_method_41_code 13 = .ok (.iinc 5 (-1), 3) := by decide +kernel
theorem d7_16 : decode jdk_2529_method_41_code 16 = .ok (.iload 5, 2) := by decide +kernel
theorem d7_18 : decode jdk_2529_method_41_code 18 = .ok (.daload, 1) := by decide +kernel
theorem d7_19 : decode jdk_2529_method_41_code 19 = .ok (.dstore 6, 2) := by decide +kernel
theorem d7_21 : decode jdk_2529_method_41_code 21 = .ok (.dload 6, 2) := by decide +kernel
theorem d7_23 : decode jdk_2529_method_41_code 23 = .ok (.dconst 0, 1) := by decide +kernel
theorem d7_24 : decode jdk_2529_method_41_code 24 = .ok (.dcmp .l, 1) := by decide +kernel
theorem d7_25 : decode jdk_2529_method_41_code 25 = .ok (.ifCond .ne 24, 3) := by decide +kernel
theorem d7_28 : decode jdk_2529_method_41_code 28 = .ok (.dload 6, 2) := by decide +kernel
theorem d7_30 : decode jdk_2529_method_41_code 30 = .ok (.invokestatic 181, 3) := by decide +kernel
theorem d7_33 : decode jdk_2529_method_41_code 33 = .ok (.lconst 0, 1) := by decide +kernel
theorem d7_34 : decode jdk_2529_method_41_code 34 = .ok (.lcmp, 1) := by decide +kernel
theorem d7_35 : decode jdk_2529_method_41_code 35 = .ok (.ifCond .ge 14, 3) := by decide +kernel
theorem d7_49 : decode jdk_2529_method_41_code 49 = .ok (.dload 6, 2) := by decide +kernel
theorem d7_51 : decode jdk_2529_method_41_code 51 = .ok (.dload 6, 2) := by decide +kernel
theorem d7_53 : decode jdk_2529_method_41_code 53 = .ok (.dcmp .l, 1) := by decide +kernel
theorem d7_54 : decode jdk_2529_method_41_code 54 = .ok (.ifCond .eq 18, 3) := by decide +kernel
theorem d7_72 : decode jdk_2529_method_41_code 72 = .ok (.goto (-66), 3) := by decide +kernel
theorem d7_75 : decode jdk_2529_method_41_code 75 = .ok (.iload_n 3, 1) := by decide +kernel
theorem d7_76 : decode jdk_2529_method_41_code 76 = .ok (.iload_n 2, 1) := by decide +kernel
theorem d7_77 : decode jdk_2529_method_41_code 77 = .ok (.isub, 1) := by decide +kernel
theorem d7_78 : decode jdk_2529_method_41_code 78 = .ok (.istore 5, 2) := by decide +kernel
theorem d7_80 : decode jdk_2529_method_41_code 80 = .ok (.iload_n 1, 1) := by decide +kernel
theorem d7_81 : decode jdk_2529_method_41_code 81 = .ok (.iconst 1, 1) := by decide +kernel
theorem d7_82 : decode jdk_2529_method_41_code 82 = .ok (.if_icmp .le 61, 3) := by decide +kernel
theorem d7_143 : decode jdk_2529_method_41_code 143 = .ok (.aconst_null, 1) := by decide +kernel
theorem d7_144 : decode jdk_2529_method_41_code 144 = .ok (.aload_n 0, 1) := by decide +kernel
theorem d7_145 : decode jdk_2529_method_41_code 145 = .ok (.iconst 0, 1) := by decide +kernel
theorem d7_146 : decode jdk_2529_method_41_code 146 = .ok (.iload_n 2, 1) := by decide +kernel
theorem d7_147 : decode jdk_2529_method_41_code 147 = .ok (.iload_n 3, 1) := by decide +kernel
theorem d7_148 : decode jdk_2529_method_41_code 148 = .ok (.invokestatic 187, 3) := by decide +kernel
theorem d7_151 : decode jdk_2529_method_41_code 151 = .ok (.iinc 4 1, 3) := by decide +kernel
theorem d7_154 : decode jdk_2529_method_41_code 154 = .ok (.iload 4, 2) := by decide +kernel
theorem d7_156 : decode jdk_2529_method_41_code 156 = .ok (.iconst 1, 1) := by decide +kernel
theorem d7_157 : decode jdk_2529_method_41_code 157 = .ok (.if_icmp .ne 4, 3) := by decide +kernel
theorem d7_160 : decode jdk_2529_method_41_code 160 = .ok (.return_, 1) := by decide +kernel
theorem d8_0 : decode jdk_2529_method_42_code 0 = .ok (.iload 4, 2) := by decide +kernel
theorem d8_2 : decode jdk_2529_method_42_code 2 = .ok (.iconst 1, 1) := by decide +kernel
theorem d8_3 : decode jdk_2529_method_42_code 3 = .ok (.isub, 1) := by decide +kernel
theorem d8_4 : decode jdk_2529_method_42_code 4 = .ok (.istore 5, 2) := by decide +kernel
theorem d8_6 : decode jdk_2529_method_42_code 6 = .ok (.iload 4, 2) := by decide +kernel
theorem d8_8 : decode jdk_2529_method_42_code 8 = .ok (.iload_n 3, 1) := by decide +kernel
theorem d8_9 : decode jdk_2529_method_42_code 9 = .ok (.isub, 1) := by decide +kernel
theorem d8_10 : decode jdk_2529_method_42_code 10 = .ok (.istore 6, 2) := by decide +kernel
theorem d8_12 : decode jdk_2529_method_42_code 12 = .ok (.iload 6, 2) := by decide +kernel
theorem d8_14 : decode jdk_2529_method_42_code 14 = .ok (.bipush 65, 2) := by decide +kernel
theorem d8_16 : decode jdk_2529_method_42_code 16 = .ok (.iload_n 2, 1) := by decide +kernel
theorem d8_17 : decode jdk_2529_method_42_code 17 = .ok (.iadd, 1) := by decide +kernel
theorem d8_18 : decode jdk_2529_method_42_code 18 = .ok (.if_icmp .ge 28, 3) := by decide +kernel
theorem d8_21 : decode jdk_2529_method_42_code 21 = .ok (.iload_n 2, 1) := by decide +kernel
theorem d8_22 : decode jdk_2529_method_42_code 22 = .ok (.iconst 1, 1) := by decide +kernel
theorem d8_23 : decode jdk_2529_method_42_code 23 = .ok (.iand, 1) := by decide +kernel
theorem d8_24 : decode jdk_2529_method_42_code 24 = .ok (.ifCond .le 22, 3) := by decide +kernel
theorem d8_46 : decode jdk_2529_method_42_code 46 = .ok (.iload 6, 2) := by decide +kernel
theorem d8_48 : decode jdk_2529_method_42_code 48 = .ok (.bipush 44, 2) := by decide +kernel
theorem d8_50 : decode jdk_2529_method_42_code 50 = .ok (.if_icmp .ge 11, 3) := by decide +kernel
theorem d8_53 : decode jdk_2529_method_42_code 53 = .ok (.aload_n 1, 1) := by decide +kernel
theorem d8_54 : decode jdk_2529_method_42_code 54 = .ok (.iload_n 3, 1) := by decide +kernel
theorem d8_55 : decode jdk_2529_method_42_code 55 = .ok (.iload 4, 2) := by decide +kernel
theorem d8_57 : decode jdk_2529_method_42_code 57 = .ok (.invokestatic 195, 3) := by decide +kernel
theorem d8_60 : decode jdk_2529_method_42_code 60 = .ok (.return_, 1) := by decide +kernel
theorem d9_0 : decode jdk_2529_method_44_code 0 = .ok (.iload_n 1, 1) := by decide +kernel
theorem d9_1 : decode jdk_2529_method_44_code 1 = .ok (.istore 4, 2) := by decide +kernel
theorem d9_3 : decode jdk_2529_method_44_code 3 = .ok (.iinc 4 1, 3) := by decide +kernel
theorem d9_6 : decode jdk_2529_method_44_code 6 = .ok (.iload 4, 2) := by decide +kernel
theorem d9_8 : decode jdk_2529_method_44_code 8 = .ok (.iload_n 2, 1) := by decide +kernel
theorem d9_9 : decode jdk_2529_method_44_code 9 = .ok (.if_icmp .ge 60, 3) := by decide +kernel
theorem d9_12 : decode jdk_2529_method_44_code 12 = .ok (.aload_n 0, 1) := by decide +kernel
theorem d9_13 : decode jdk_2529_method_44_code 13 = .ok (.iload 4, 2) := by decide +kernel
theorem d9_15 : decode jdk_2529_method_44_code 15 = .ok (.dup, 1) := by decide +kernel
theorem d9_16 : decode jdk_2529_method_44_code 16 = .ok (.istore_n 3, 1) := by decide +kernel
theorem d9_17 : decode jdk_2529_method_44_code 17 = .ok (.daload, 1) := by decide +kernel
theorem d9_18 : decode jdk_2529_method_44_code 18 = .ok (.dstore 5, 2) := by decide +kernel
theorem d9_20 : decode jdk_2529_method_44_code 20 = .ok (.dload 5, 2) := by decide +kernel
theorem d9_22 : decode jdk_2529_method_44_code 22 = .ok (.aload_n 0, 1) := by decide +kernel
theorem d9_23 : decode jdk_2529_method_44_code 23 = .ok (.iload_n 3, 1) := by decide +kernel
theorem d9_24 : decode jdk_2529_method_44_code 24 = .ok (.iconst 1, 1) := by decide +kernel
theorem d9_25 : decode jdk_2529_method_44_code 25 = .ok (.isub, 1) := by decide +kernel
theorem d9_26 : decode jdk_2529_method_44_code 26 = .ok (.daload, 1) := by decide +kernel
theorem d9_27 : decode jdk_2529_method_44_code 27 = .ok (.dcmp .g, 1) := by decide +kernel
theorem d9_28 : decode jdk_2529_method_44_code 28 = .ok (.ifCond .ge 38, 3) := by decide +kernel
theorem d9_31 : decode jdk_2529_method_44_code 31 = .ok (.iinc 3 (-1), 3) := by decide +kernel
theorem d9_34 : decode jdk_2529_method_44_code 34 = .ok (.iload_n 3, 1) := by decide +kernel
theorem d9_35 : decode jdk_2529_method_44_code 35 = .ok (.iload_n 1, 1) := by decide +kernel
theorem d9_36 : decode jdk_2529_method_44_code 36 = .ok (.if_icmp .lt 23, 3) := by decide +kernel
theorem d9_39 : decode jdk_2529_method_44_code 39 = .ok (.dload 5, 2) := by decide +kernel
theorem d9_41 : decode jdk_2529_method_44_code 41 = .ok (.aload_n 0, 1) := by decide +kernel
theorem d9_42 : decode jdk_2529_method_44_code 42 = .ok (.iload_n 3, 1) := by decide +kernel
theorem d9_43 : decode jdk_2529_method_44_code 43 = .ok (.daload, 1) := by decide +kernel
theorem d9_44 : decode jdk_2529_method_44_code 44 = .ok (.dcmp .g, 1) := by decide +kernel
theorem d9_45 : decode jdk_2529_method_44_code 45 = .ok (.ifCond .ge 14, 3) := by decide +kernel
theorem d9_48 : decode jdk_2529_method_44_code 48 = .ok (.aload_n 0, 1) := by decide +kernel
theorem d9_49 : decode jdk_2529_method_44_code 49 = .ok (.iload_n 3, 1) := by decide +kernel
theorem d9_50 : decode jdk_2529_method_44_code 50 = .ok (.iconst 1, 1) := by decide +kernel
theorem d9_51 : decode jdk_2529_method_44_code 51 = .ok (.iadd, 1) := by decide +kernel
theorem d9_52 : decode jdk_2529_method_44_code 52 = .ok (.aload_n 0, 1) := by decide +kernel
theorem d9_53 : decode jdk_2529_method_44_code 53 = .ok (.iload_n 3, 1) := by decide +kernel
theorem d9_54 : decode jdk_2529_method_44_code 54 = .ok (.daload, 1) := by decide +kernel
theorem d9_55 : decode jdk_2529_method_44_code 55 = .ok (.dastore, 1) := by decide +kernel
theorem d9_56 : decode jdk_2529_method_44_code 56 = .ok (.goto (-25), 3) := by decide +kernel
theorem d9_59 : decode jdk_2529_method_44_code 59 = .ok (.aload_n 0, 1) := by decide +kernel
theorem d9_60 : decode jdk_2529_method_44_code 60 = .ok (.iload_n 3, 1) := by decide +kernel
theorem d9_61 : decode jdk_2529_method_44_code 61 = .ok (.iconst 1, 1) := by decide +kernel
theorem d9_62 : decode jdk_2529_method_44_code 62 = .ok (.iadd, 1) := by decide +kernel
theorem d9_63 : decode jdk_2529_method_44_code 63 = .ok (.dload 5, 2) := by decide +kernel
theorem d9_65 : decode jdk_2529_method_44_code 65 = .ok (.dastore, 1) := by decide +kernel
theorem d9_66 : decode jdk_2529_method_44_code 66 = .ok (.goto (-63), 3) := by decide +kernel
theorem d9_69 : decode jdk_2529_method_44_code 69 = .ok (.return_, 1) := by decide +kernel
theorem d10_0 : decode prog_31_method_4_code 0 = .ok (.iconst 0, 1) := by decide +kernel
theorem d10_1 : decode prog_31_method_4_code 1 = .ok (.istore_n 3, 1) := by decide +kernel
theorem d10_2 : decode prog_31_method_4_code 2 = .ok (.aload_n 0, 1) := by decide +kernel
theorem d10_3 : decode prog_31_method_4_code 3 = .ok (.getfield 13, 3) := by decide +kernel
theorem d10_6 : decode prog_31_method_4_code 6 = .ok (.istore 4, 2) := by decide +kernel
theorem d10_8 : decode prog_31_method_4_code 8 = .ok (.iload_n 3, 1) := by decide +kernel
theorem d10_9 : decode prog_31_method_4_code 9 = .ok (.iload 4, 2) := by decide +kernel
theorem d10_11 : decode prog_31_method_4_code 11 = .ok (.if_icmp .ge 38, 3) := by decide +kernel
theorem d10_14 : decode prog_31_method_4_code 14 = .ok (.iload_n 3, 1) := by decide +kernel
theorem d10_15 : decode prog_31_method_4_code 15 = .ok (.iload 4, 2) := by decide +kernel
theorem d10_17 : decode prog_31_method_4_code 17 = .ok (.iadd, 1) := by decide +kernel
theorem d10_18 : decode prog_31_method_4_code 18 = .ok (.iconst 1, 1) := by decide +kernel
theorem d10_19 : decode prog_31_method_4_code 19 = .ok (.iushr, 1) := by decide +kernel
theorem d10_20 : decode prog_31_method_4_code 20 = .ok (.istore 5, 2) := by decide +kernel
theorem d10_22 : decode prog_31_method_4_code 22 = .ok (.aload_n 0, 1) := by decide +kernel
theorem d10_23 : decode prog_31_method_4_code 23 = .ok (.getfield 7, 3) := by decide +kernel
theorem d10_26 : decode prog_31_method_4_code 26 = .ok (.iload 5, 2) := by decide +kernel
theorem d10_28 : decode prog_31_method_4_code 28 = .ok (.daload, 1) := by decide +kernel
theorem d10_29 : decode prog_31_method_4_code 29 = .ok (.dload_n 1, 1) := by decide +kernel
theorem d10_30 : decode prog_31_method_4_code 30 = .ok (.dcmp .g, 1) := by decide +kernel
theorem d10_31 : decode prog_31_method_4_code 31 = .ok (.ifCond .gt 11, 3) := by decide +kernel
theorem d10_34 : decode prog_31_method_4_code 34 = .ok (.iload 5, 2) := by decide +kernel
theorem d10_36 : decode prog_31_method_4_code 36 = .ok (.iconst 1, 1) := by decide +kernel
theorem d10_37 : decode prog_31_method_4_code 37 = .ok (.iadd, 1) := by decide +kernel
theorem d10_38 : decode prog_31_method_4_code 38 = .ok (.istore_n 3, 1) := by decide +kernel
theorem d10_39 : decode prog_31_method_4_code 39 = .ok (.goto 7, 3) := by decide +kernel
theorem d10_42 : decode prog_31_method_4_code 42 = .ok (.iload 5, 2) := by decide +kernel
theorem d10_44 : decode prog_31_method_4_code 44 = .ok (.istore 4, 2) := by decide +kernel
theorem d10_46 : decode prog_31_method_4_code 46 = .ok (.goto (-38), 3) := by decide +kernel
theorem d10_49 : decode prog_31_method_4_code 49 = .ok (.iload_n 3, 1) := by decide +kernel
theorem d10_50 : decode prog_31_method_4_code 50 = .ok (.ireturn, 1) := by decide +kernel
theorem d11_0 : decode prog_31_method_2_code 0 = .ok (.aload_n 0, 1) := by decide +kernel
theorem d11_1 : decode prog_31_method_2_code 1 = .ok (.getfield 13, 3) := by decide +kernel
theorem d11_4 : decode prog_31_method_2_code 4 = .ok (.aload_n 0, 1) := by decide +kernel
theorem d11_5 : decode prog_31_method_2_code 5 = .ok (.getfield 7, 3) := by decide +kernel
theorem d11_8 : decode prog_31_method_2_code 8 = .ok (.arraylength, 1) := by decide +kernel
theorem d11_9 : decode prog_31_method_2_code 9 = .ok (.if_icmp .ne 20, 3) := by decide +kernel
theorem d11_29 : decode prog_31_method_2_code 29 = .ok (.aload_n 0, 1) := by decide +kernel
theorem d11_30 : decode prog_31_method_2_code 30 = .ok (.getfield 7, 3) := by decide +kernel
theorem d11_33 : decode prog_31_method_2_code 33 = .ok (.aload_n 0, 1) := by decide +kernel
theorem d11_34 : decode prog_31_method_2_code 34 = .ok (.dup, 1) := by decide +kernel
theorem d11_35 : decode prog_31_method_2_code 35 = .ok (.getfield 13, 3) := by decide +kernel
theorem d11_38 : decode prog_31_method_2_code 38 = .ok (.dup_x1, 1) := by decide +kernel
theorem d11_39 : decode prog_31_method_2_code 39 = .ok (.iconst 1, 1) := by decide +kernel
theorem d11_40 : decode prog_31_method_2_code 40 = .ok (.iadd, 1) := by decide +kernel
theorem d11_41 : decode prog_31_method_2_code 41 = .ok (.putfield 13, 3) := by decide +kernel
theorem d11_44 : decode prog_31_method_2_code 44 = .ok (.dload_n 1, 1) := by decide +kernel
theorem d11_45 : decode prog_31_method_2_code 45 = .ok (.dastore, 1) := by decide +kernel
theorem d11_46 : decode prog_31_method_2_code 46 = .ok (.return_, 1) := by decide +kernel
theorem pd_0 : parseMethodDescriptor "([DII)V" = some ⟨[(.array .double), .int, .int], none⟩ := by decide +kernel
theorem pd_1 : parseMethodDescriptor "(Ljava/util/DualPivotQuicksort$Sorter;[DIII)V" = some ⟨[(.object "java/util/DualPivotQuicksort$Sorter"), (.array .double), .int, .int, .int], none⟩ := by decide +kernel
theorem pd_2 : parseMethodDescriptor "([DIII)V" = some ⟨[(.array .double), .int, .int, .int], none⟩ := by decide +kernel
theorem pd_3 : parseMethodDescriptor "(II)I" = some ⟨[.int, .int], some .int⟩ := by decide +kernel
theorem pd_4 : parseMethodDescriptor "([DI)[D" = some ⟨[(.array .double), .int], some (.array .double)⟩ := by decide +kernel
theorem pd_5 : parseMethodDescriptor "([D)V" = some ⟨[(.array .double)], none⟩ := by decide +kernel
theorem pd_6 : parseMethodDescriptor "()V" = some ⟨[], none⟩ := by decide +kernel
theorem pd_7 : parseMethodDescriptor "(D)I" = some ⟨[.double], some .int⟩ := by decide +kernel
theorem pd_8 : parseMethodDescriptor "(D)V" = some ⟨[.double], none⟩ := by decide +kernel
section OwnFP
open Jvm.FP Jvm.FP.Core Jvm.Free.Fl
/-- a double's value, counted in the format's least numbers (2^-1074) -/
def dv (x : UInt64) : Int := zval b64 (val64 x)
/-- what the whole number 1 counts -/
def oneU : Int := (one64 : Int)
/-- z least numbers are a finite double -/
def Rep (z : Int) : Prop := ∃ V : Datum, FP.Core.fits b64 V ∧ (∃ s c q, V = .fin s c q) ∧ zval b64 V = z
theorem oneU_pos : 0 < oneU := by have := one64_pos; unfold oneU; omega
theorem rep_neg {z : Int} (h : Rep z) : Rep (-z) := by
  obtain ⟨V, h1, ⟨s, c, q, rfl⟩, h3⟩ := h
  exact ⟨negate (.fin s c q), negate_fits h1, ⟨_, _, _, rfl⟩, by rw [zval_negate, h3]⟩
theorem rep_nat {c j : Nat} (hc : c < 2 ^ 53) (hj : j ≤ 2045) : Rep ((c * 2 ^ j : Nat) : Int) := by
  have hm : b64.qmax = 971 := by decide
  obtain ⟨c', q', h1, h2⟩ := round_exact good_b64 false (c := c) (q := -1074 + (j : Int)) hc (by rw [qmin_b64]; omega) (by rw [hm]; omega)
  refine ⟨round b64 (.fin false c (-1074 + (j : Int))), round_fits good_b64 _, ⟨_, _, _, h1⟩, ?_⟩
  rw [h1]
  show signed false (inUnits c' q' b64.qmin) = _
  rw [h2]
  show ((inUnits c (-1074 + (j : Int)) b64.qmin : Nat) : Int) = _
  unfold inUnits
  rw [qmin_b64, show (-1074 + (j : Int) - -1074).toNat = j by omega]
theorem rep_int {z : Int} {c j : Nat} (hc : c < 2 ^ 53) (hj : j ≤ 2045) (h : z.natAbs = c * 2 ^ j) : Rep z := by
  have q := rep_nat hc hj
  rw [← h] at q
  rcases Int.natAbs_eq z with e | e
  · rw [e]; exact q
  · rw [e]; exact rep_neg q
theorem rep_dv {x : UInt64} (h : DFin x) : Rep (dv x) := ⟨val64 x, val64_fits x, h, rfl⟩
theorem squeeze {d : Datum} (hf : FP.Core.fits b64 d) (hn : d ≠ .nan) {z : Int} (hr : Rep z) (h1 : ∀ V, FP.Core.fits b64 V → V ≠ .nan → zval b64 V = z → zval b64 d ≤ zval b64 V) (h2 : ∀ V, FP.Core.fits b64 V → V ≠ .nan → zval b64 V = z → zval b64 V ≤ zval b64 d) :
    (∃ s c q, d = .fin s c q) ∧ zval b64 d = z := by
  obtain ⟨V, v1, ⟨s, c, q, rfl⟩, v3⟩ := hr
  have e1 := h1 _ v1 (by simp) v3
  have e2 := h2 _ v1 (by simp) v3
  have e : zval b64 d = z := by omega
  refine ⟨?_, e⟩
  have ht := zmag_lt_top good_b64 v1
  cases d with
  | nan => exact absurd rfl hn
  | fin s' c' q' => exact ⟨_, _, _, rfl⟩
  | inf t =>
    exfalso
    rw [← v3] at e
    have a1 : (zval b64 (.inf t)).natAbs = b64.tails * 2 ^ (b64.exps - 2) := natAbs_signed _ _
    have a2 : (zval b64 (.fin s c q)).natAbs = inUnits c q b64.qmin := natAbs_signed _ _
    rw [e, a2] at a1
    omega
theorem add_le {x y : UInt64} (hx : DFin x) (hy : DFin y) {V : Datum} (fV : FP.Core.fits b64 V) (hV : V ≠ .nan) (h : dv x + dv y ≤ zval b64 V) : dv (FP.dadd x y) ≤ zval b64 V := by
  unfold dv; rw [val64_dadd]; exact sum_le good_b64 hx hy (val64_fits x) (val64_fits y) fV hV h
theorem add_ge {x y : UInt64} (hx : DFin x) (hy : DFin y) {V : Datum} (fV : FP.Core.fits b64 V) (hV : V ≠ .nan) (h : zval b64 V ≤ dv x + dv y) : zval b64 V ≤ dv (FP.dadd x y) := by
  unfold dv; rw [val64_dadd]; exact sum_ge good_b64 hx hy (val64_fits x) (val64_fits y) fV hV h
theorem add_exact {x y : UInt64} (hx : DFin x) (hy : DFin y) {z : Int} (h : dv x + dv y = z) (hr : Rep z) : DFin (FP.dadd x y) ∧ dv (FP.dadd x y) = z :=
  squeeze (val64_fits _) ((notNaN_iff _).mp (dadd_out hx.notNaN hy)) hr (fun V f n e => add_le hx hy f n (by omega)) (fun V f n e => add_ge hx hy f n (by omega))
theorem neg_fin {x : UInt64} (hx : DFin x) : DFin (FP.dneg x) ∧ dv (FP.dneg x) = -dv x := by
  obtain ⟨s, c, q, h⟩ := hx
  unfold dv DFin; rw [FP.val64_dneg, zval_negate, h]
  exact ⟨⟨_, _, _, rfl⟩, rfl⟩
theorem sub_dneg {x y : UInt64} (hy : DFin y) : FP.dsub x y = FP.dadd x (FP.dneg y) := by
  rw [FP.dneg_core hy.notNaN]; exact dsub_eq x y
theorem sub_exact {x y : UInt64} (hx : DFin x) (hy : DFin y) {z : Int} (h : dv x - dv y = z) (hr : Rep z) : DFin (FP.dsub x y) ∧ dv (FP.dsub x y) = z := by
  rw [sub_dneg hy]
  exact add_exact hx (neg_fin hy).1 (by rw [(neg_fin hy).2]; omega) hr
theorem mul_units {x y : UInt64} (hx : DFin x) (hy : DFin y) : ∃ s c q, exactProduct (val64 x) (val64 y) = .fin s c q ∧ 2 * b64.qmin ≤ q ∧ signed s (inUnits c q (2 * b64.qmin)) = dv x * dv y := by
  obtain ⟨s, c, q, h1⟩ := hx
  obtain ⟨t, d, r, h2⟩ := hy
  have f1 := val64_fits x
  have f2 := val64_fits y
  unfold dv
  rw [h1] at f1 ⊢
  rw [h2] at f2 ⊢
  obtain ⟨p1, p2, p3⟩ := product_units f1 f2
  refine ⟨_, _, _, p1, p2, ?_⟩
  rw [p3, signed_xor]
  rfl
theorem two_qmin : 2 ^ (b64.qmin - 2 * b64.qmin).toNat = one64 := by rw [← pow_qmin64]; congr 1
theorem mul_le {x y : UInt64} (hx : DFin x) (hy : DFin y) {V : Datum} (fV : FP.Core.fits b64 V) (hV : V ≠ .nan) (h : dv x * dv y ≤ zval b64 V * oneU) : dv (FP.dmul x y) ≤ zval b64 V := by
  obtain ⟨s, c, q, h1, h2, h3⟩ := mul_units hx hy
  show zval b64 (val64 (FP.dmul x y)) ≤ _
  rw [val64_dmul, h1]
  refine zval_round_le good_b64 fV hV (e0 := 2 * b64.qmin) (by rw [qmin_b64]; omega) h2 ?_
  rw [h3, two_qmin]; exact h
theorem mul_ge {x y : UInt64} (hx : DFin x) (hy : DFin y) {V : Datum} (fV : FP.Core.fits b64 V) (hV : V ≠ .nan) (h : zval b64 V * oneU ≤ dv x * dv y) : zval b64 V ≤ dv (FP.dmul x y) := by
  obtain ⟨s, c, q, h1, h2, h3⟩ := mul_units hx hy
  show _ ≤ zval b64 (val64 (FP.dmul x y))
  rw [val64_dmul, h1]
  refine zval_round_ge good_b64 fV hV (e0 := 2 * b64.qmin) (by rw [qmin_b64]; omega) h2 ?_
  rw [h3, two_qmin]; exact h
theorem mul_exact {x y : UInt64} (hx : DFin x) (hy : DFin y) {z : Int} (h : dv x * dv y = z * oneU) (hr : Rep z) : DFin (FP.dmul x y) ∧ dv (FP.dmul x y) = z :=
  squeeze (val64_fits _) ((notNaN_iff _).mp (dmul_out hx hy)) hr (fun V f n e => mul_le hx hy f n (by rw [e, h]; exact Int.le_refl _)) (fun V f n e => mul_ge hx hy f n (by rw [e, h]; exact Int.le_refl _))
theorem dv_zero_iff {x : UInt64} (hx : DFin x) : DZero x ↔ dv x = 0 := by
  obtain ⟨s, c, q, h⟩ := hx
  constructor
  · intro hz; exact hz.zval
  · intro hz; exact (zero_bits2 x).mpr ((zval_eq_zero (by rw [h]; simp)).mp hz)
theorem div_units {x y : UInt64} (hx : DFin x) (hy : DFin y) (h0 : dv y ≠ 0) : ∃ (s t : Bool) (c d : Nat) (q r : Int), val64 (FP.ddiv x y) = roundRatio b64 (s != t) c d (q - r) ∧ 0 < d ∧ b64.qmin ≤ q ∧ b64.qmin ≤ r ∧ dv x = signed s (inUnits c q b64.qmin) ∧ dv y = signed t (inUnits d r b64.qmin) := by
  obtain ⟨s, c, q, h1⟩ := hx
  obtain ⟨t, d, r, h2⟩ := hy
  have f1 := val64_fits x
  have f2 := val64_fits y
  have hd : d ≠ 0 := by
    intro e; apply h0; unfold dv; rw [h2, e]; show signed t (inUnits 0 r b64.qmin) = 0; unfold inUnits; rw [Nat.zero_mul, signed_zero]
  refine ⟨s, t, c, d, q, r, ?_, Nat.pos_of_ne_zero hd, ?_, ?_, ?_, ?_⟩
  · rw [val64_ddiv, h1, h2]; show (if d = 0 then _ else _) = _; rw [if_neg hd]
  · rw [h1] at f1; exact f1.2.1
  · rw [h2] at f2; exact f2.2.1
  · unfold dv; rw [h1]; rfl
  · unfold dv; rw [h2]; rfl
theorem div_scale {c d : Nat} {q r : Int} (h1 : b64.qmin ≤ q) (h2 : b64.qmin ≤ r) (v : Nat) :
    inUnits c (q - r) (2 * b64.qmin - r) = inUnits c q b64.qmin * one64 ∧ v * 2 ^ (b64.qmin - (2 * b64.qmin - r)).toNat * d = v * inUnits d r b64.qmin := by
  unfold inUnits
  rw [← pow_qmin64]
  rw [qmin_b64] at h1 h2 ⊢
  constructor
  · rw [show (q - r - (2 * -1074 - r)).toNat = (q - -1074).toNat + (- -1074 : Int).toNat by omega, Nat.pow_add, Nat.mul_assoc]
  · rw [show (-1074 - (2 * -1074 - r)).toNat = (r - -1074).toNat by omega, Nat.mul_assoc, Nat.mul_comm (2 ^ _) d]
/-- a quotient of two that are not below nought, by monotony -/
theorem div_le {x y : UInt64} (hx : DFin x) (hy : DFin y) (px : 0 ≤ dv x) (py : 0 < dv y) {V : Datum} (fV : FP.Core.fits b64 V) (hV : V ≠ .nan) (h : dv x * oneU ≤ zval b64 V * dv y) : dv (FP.ddiv x y) ≤ zval b64 V := by
  obtain ⟨s, t, c, d, q, r, e, hd, hq, hr, ex, ey⟩ := div_units hx hy (by omega)
  show zval b64 (val64 (FP.ddiv x y)) ≤ _
  rw [e]
  have nv : 0 ≤ zval b64 V := by
    rcases Int.lt_or_le (zval b64 V) 0 with g | g
    · have := oneU_pos
      have a1 : 0 ≤ dv x * oneU := Int.mul_nonneg px (by omega)
      have a2 : zval b64 V * dv y < 0 := Int.mul_neg_of_neg_of_pos g py
      omega
    · exact g
  obtain ⟨k1, k2⟩ := div_scale (c := c) (d := d) hq hr (zmag b64 V)
  have ax : dv x = (inUnits c q b64.qmin : Int) := by
    rw [ex] at px ⊢; unfold signed at px ⊢; split <;> rename_i g <;> simp only [g, if_true] at px <;> omega
  have ay : dv y = (inUnits d r b64.qmin : Int) := by
    rw [ey] at py ⊢; unfold signed at py ⊢; split <;> rename_i g <;> simp only [g, if_true] at py <;> omega
  have av : zval b64 V = (zmag b64 V : Int) := by
    unfold zval at nv ⊢; unfold signed at nv ⊢; split <;> rename_i g <;> simp only [g, if_true] at nv <;> omega
  have hz := zmag_roundRatio_le good_b64 (s := (s != t)) (A := c) (B := d) (e := q - r) (e0 := 2 * b64.qmin - r) hd fV hV (by omega) (by rw [qmin_b64] at hq ⊢; omega) (by
    rw [k1, k2]
    rw [ax, ay, av] at h
    unfold oneU at h
    exact_mod_cast h)
  rw [av]
  unfold zval signed
  split <;> omega
theorem div_ge {x y : UInt64} (hx : DFin x) (hy : DFin y) (px : 0 ≤ dv x) (py : 0 < dv y) (hs : ∀ s c q, val64 x = .fin s c q → s = false) (hs' : ∀ s c q, val64 y = .fin s c q → s = false) {V : Datum} (fV : FP.Core.fits b64 V) (h : zval b64 V * dv y ≤ dv x * oneU) : zval b64 V ≤ dv (FP.ddiv x y) := by
  obtain ⟨s, c, q, h1⟩ := hx
  obtain ⟨t, d, r, h2⟩ := hy
  have es := hs _ _ _ h1
  have et := hs' _ _ _ h2
  subst es et
  have f1 := val64_fits x
  have f2 := val64_fits y
  have ax : dv x = (inUnits c q b64.qmin : Int) := by unfold dv; rw [h1]; rfl
  have ay : dv y = (inUnits d r b64.qmin : Int) := by unfold dv; rw [h2]; rfl
  have hd : d ≠ 0 := by
    intro e; rw [ay, e] at py; unfold inUnits at py; rw [Nat.zero_mul] at py; exact absurd py (by decide)
  rw [h1] at f1
  rw [h2] at f2
  show _ ≤ zval b64 (val64 (FP.ddiv x y))
  rw [val64_ddiv, h1, h2]
  show _ ≤ zval b64 (if d = 0 then _ else _)
  rw [if_neg hd]
  obtain ⟨k1, k2⟩ := div_scale (c := c) (d := d) f1.2.1 f2.2.1 (zmag b64 V)
  have hz := fun g => zmag_roundRatio_ge good_b64 (s := (false != false)) (A := c) (B := d) (e := q - r) (e0 := 2 * b64.qmin - r) (V := V) (Nat.pos_of_ne_zero hd) fV (by have := f2.2.1; omega) (by have := f1.2.1; rw [qmin_b64] at this ⊢; omega) g
  have e : zval b64 (roundRatio b64 (false != false) c d (q - r)) = (zmag b64 (roundRatio b64 (false != false) c d (q - r)) : Int) := by
    unfold zval; rw [sgn_roundRatio]; rfl
  rw [e]
  rcases Int.lt_or_le (zval b64 V) 0 with g | g
  · omega
  · have av : zval b64 V = (zmag b64 V : Int) := by
      unfold zval at g ⊢; unfold signed at g ⊢; split <;> rename_i w <;> simp only [w, if_true] at g <;> omega
    rw [av] at h ⊢
    have := hz (by
      rw [k1, k2]
      rw [ax, ay] at h
      unfold oneU at h
      exact_mod_cast h)
    omega
theorem noNaN_of_fin {x : UInt64} (h : DFin x) : NoNaN64 x := (fin64_core.mpr h).noNaN
theorem dint_fin {i : Int} {x : UInt64} (h : DInt i x) : DFin x ∧ dv x = i * oneU := by
  refine ⟨?_, DInt_zval h⟩
  unfold DInt at h
  cases hv : val64 x with
  | nan => rw [hv] at h; exact h.elim
  | inf s => rw [hv] at h; exact h.elim
  | fin s c q => exact ⟨s, c, q, hv⟩
theorem cmp_dv {x y : UInt64} (hx : DFin x) (hy : DFin y) : FP.dcmp x y = some (compare (dv x) (dv y)) := dcmp_zval hx.ne_nan hy.ne_nan
end OwnFP
section OwnDy
open Jvm.FP Jvm.FP.Core Jvm.Free.Fl
/-- 2^j, as an Int -/
def pw (j : Nat) : Int := ((2 ^ j : Nat) : Int)
theorem pw_mul (i j : Nat) : pw i * pw j = pw (i + j) := by unfold pw; rw [Nat.pow_add]; exact (Int.natCast_mul _ _).symm
theorem pw_pos (j : Nat) : 0 < pw j := by unfold pw; have := Nat.two_pow_pos j; omega
theorem pw_abs (j : Nat) : (pw j).natAbs = 2 ^ j := by unfold pw; exact Int.natAbs_natCast _
theorem oneU_pw : oneU = pw 1074 := rfl
/-- the double x is n * 2^j least numbers (n whole: j = 1074) -/
def Dy (n : Int) (j : Nat) (x : UInt64) : Prop := DFin x ∧ dv x = n * pw j
theorem dy_int {i : Int} {x : UInt64} (h : DInt i x) : Dy i 1074 x := by
  have q := dint_fin h
  exact ⟨q.1, by rw [q.2, oneU_pw]⟩
theorem rep_pw {n : Int} {j : Nat} (hn : n.natAbs < 2 ^ 53) (hj : j ≤ 2045) : Rep (n * pw j) := rep_int hn hj (by rw [Int.natAbs_mul, pw_abs])
theorem dy_add {n m : Int} {j : Nat} {x y : UInt64} (hx : Dy n j x) (hy : Dy m j y) (h : (n + m).natAbs < 2 ^ 53) (hj : j ≤ 2045) : Dy (n + m) j (FP.dadd x y) :=
  add_exact hx.1 hy.1 (by rw [hx.2, hy.2, Int.add_mul]) (rep_pw h hj)
theorem dy_sub {n m : Int} {j : Nat} {x y : UInt64} (hx : Dy n j x) (hy : Dy m j y) (h : (n - m).natAbs < 2 ^ 53) (hj : j ≤ 2045) : Dy (n - m) j (FP.dsub x y) :=
  sub_exact hx.1 hy.1 (by rw [hx.2, hy.2, Int.sub_mul]) (rep_pw h hj)
theorem dy_neg {n : Int} {j : Nat} {x : UInt64} (hx : Dy n j x) : Dy (-n) j (FP.dneg x) :=
  ⟨(neg_fin hx.1).1, by rw [(neg_fin hx.1).2, hx.2, Int.neg_mul]⟩
theorem dy_mul {n m : Int} {i j k : Nat} {x y : UInt64} (hx : Dy n i x) (hy : Dy m j y) (hk : i + j = k + 1074) (h : (n * m).natAbs < 2 ^ 53) (hj : k ≤ 2045) : Dy (n * m) k (FP.dmul x y) :=
  mul_exact hx.1 hy.1 (by
    have e : pw i * pw j = pw k * oneU := by rw [oneU_pw, pw_mul, pw_mul, hk]
    rw [hx.2, hy.2, Int.mul_assoc (n * m), ← e]
    ac_rfl) (rep_pw h hj)
theorem dy_shift {n : Int} {j : Nat} {x : UInt64} (t : Nat) (h : Dy n (j + t) x) : Dy (n * pw t) j x := by
  refine ⟨h.1, ?_⟩
  rw [h.2, ← pw_mul]
  ac_rfl
theorem compare_pw (n m : Int) (j : Nat) : compare (n * pw j) (m * pw j) = compare n m := compare_mul_pos _ _ _ (pw_pos j)
theorem dy_cmp {n m : Int} {j : Nat} {x y : UInt64} (hx : Dy n j x) (hy : Dy m j y) : FP.dcmp x y = some (compare n m) := by
  rw [cmp_dv hx.1 hy.1, hx.2, hy.2, compare_pw]
theorem signed_cases (s : Bool) (n : Nat) : signed s n = (n : Int) ∨ signed s n = -(n : Int) := by cases s <;> simp [signed]
/-- an exact quotient -/
theorem div_exact {x y : UInt64} (hx : DFin x) (hy : DFin y) (h0 : dv y ≠ 0) {z : Int} (h : dv x * oneU = z * dv y) (hr : Rep z) : DFin (FP.ddiv x y) ∧ dv (FP.ddiv x y) = z := by
  obtain ⟨s, t, c, d, q, r, e, hd, hq, hr1, ex, ey⟩ := div_units hx hy h0
  obtain ⟨V, fV, ⟨s', c', q', rfl⟩, hz⟩ := hr
  have az : zmag b64 (.fin s' c' q') = z.natAbs := by rw [← hz]; exact (natAbs_signed _ _).symm
  have ax : (dv x).natAbs = inUnits c q b64.qmin := by rw [ex, natAbs_signed]
  have ay : (dv y).natAbs = inUnits d r b64.qmin := by rw [ey, natAbs_signed]
  have ha : inUnits c q b64.qmin * one64 = z.natAbs * inUnits d r b64.qmin := by
    have := congrArg Int.natAbs h
    rw [Int.natAbs_mul, Int.natAbs_mul, ax, ay] at this
    exact this
  obtain ⟨k1, k2⟩ := div_scale (c := c) (d := d) hq hr1 (zmag b64 (.fin s' c' q'))
  have l1 := zmag_roundRatio_le good_b64 (s := (s != t)) (A := c) (B := d) (e := q - r) (e0 := 2 * b64.qmin - r) hd fV (by simp) (by omega) (by rw [qmin_b64] at hq ⊢; omega) (by rw [k1, k2, az, ha]; exact Nat.le_refl _)
  have l2 := zmag_roundRatio_ge good_b64 (s := (s != t)) (A := c) (B := d) (e := q - r) (e0 := 2 * b64.qmin - r) hd fV (by omega) (by rw [qmin_b64] at hq ⊢; omega) (by rw [k1, k2, az, ha]; exact Nat.le_refl _)
  have lz : zmag b64 (roundRatio b64 (s != t) c d (q - r)) = z.natAbs := by omega
  have ez : zval b64 (val64 (FP.ddiv x y)) = signed (s != t) z.natAbs := by
    rw [e]; unfold zval; rw [sgn_roundRatio, lz]
  have es : signed (s != t) z.natAbs = z := by
    by_cases hz0 : z = 0
    · rw [hz0]; exact signed_zero _
    · have hu := oneU_pos
      rw [ex, ey] at h
      have hc : 0 < inUnits c q b64.qmin := by
        rcases Nat.eq_zero_or_pos (inUnits c q b64.qmin) with w | w
        · rw [w, Nat.zero_mul] at ha
          have : 0 < z.natAbs * inUnits d r b64.qmin := Nat.mul_pos (by omega) (by unfold inUnits; exact Nat.mul_pos hd (Nat.two_pow_pos _))
          omega
        · exact w
      have hdd : 0 < inUnits d r b64.qmin := by unfold inUnits; exact Nat.mul_pos hd (Nat.two_pow_pos _)
      generalize inUnits c q b64.qmin = C at *
      generalize inUnits d r b64.qmin = D at *
      have p1 : (0 : Int) < (C : Int) * oneU := Int.mul_pos (by omega) hu
      cases s <;> cases t <;> simp only [signed, bne_self_eq_false, Bool.false_eq_true, if_false, if_true, Bool.true_bne, Bool.false_bne, Bool.not_false] at h ⊢
      · have : 0 < z := by
          rcases Int.lt_or_le 0 z with w | w
          · exact w
          · have := Int.mul_nonpos_of_nonpos_of_nonneg w (show (0 : Int) ≤ (D : Int) by omega); omega
        omega
      · have : z < 0 := by
          rcases Int.lt_or_le z 0 with w | w
          · exact w
          · have := Int.mul_nonneg w (show (0 : Int) ≤ (D : Int) by omega); rw [Int.mul_neg] at h; omega
        omega
      · have : z < 0 := by
          rcases Int.lt_or_le z 0 with w | w
          · exact w
          · have := Int.mul_nonneg w (show (0 : Int) ≤ (D : Int) by omega); rw [Int.neg_mul] at h; omega
        omega
      · have : 0 < z := by
          rcases Int.lt_or_le 0 z with w | w
          · exact w
          · have := Int.mul_nonpos_of_nonpos_of_nonneg w (show (0 : Int) ≤ (D : Int) by omega); rw [Int.neg_mul, Int.mul_neg] at h; omega
        omega
  refine ⟨?_, ez.trans es⟩
  have hn : FP.dIsNaN (FP.ddiv x y) = false := ddiv_out hx.notNaN hy (fun w => h0 ((dv_zero_iff hy).mp w))
  have ht := zmag_lt_top good_b64 fV
  unfold DFin
  cases hv : val64 (FP.ddiv x y) with
  | nan => exact absurd hv ((notNaN_iff _).mp hn)
  | fin s2 c2 q2 => exact ⟨_, _, _, rfl⟩
  | inf t2 =>
    exfalso
    rw [hv] at e
    rw [← e] at lz
    have a1 : zmag b64 (.inf t2) = b64.tails * 2 ^ (b64.exps - 2) := rfl
    have a2 : zmag b64 (.fin s' c' q') = inUnits c' q' b64.qmin := rfl
    rw [a1] at lz
    omega
theorem dy_div {n m q : Int} {i j k : Nat} {x y : UInt64} (hx : Dy n i x) (hy : Dy m j y) (hm : m ≠ 0) (hq : n = q * m) (hk : i + 1074 = k + j) (h : q.natAbs < 2 ^ 53) (hj : k ≤ 2045) : Dy q k (FP.ddiv x y) :=
  div_exact hx.1 hy.1 (by rw [hy.2]; exact Int.mul_ne_zero hm (Int.ne_of_gt (pw_pos j))) (by
    have e : pw i * oneU = pw k * pw j := by rw [oneU_pw, pw_mul, pw_mul, hk]
    rw [hx.2, hy.2, hq, Int.mul_assoc (q * m), e]
    ac_rfl) (rep_pw h hj)
theorem dy_noNaN {n : Int} {j : Nat} {x : UInt64} (h : Dy n j x) : NoNaN64 x := noNaN_of_fin h.1
/-- two quotients of the same ratio are one double -/
theorem div_congr {x y x' y' : UInt64} (hx : DFin x) (hy : DFin y) (hx' : DFin x') (hy' : DFin y') (px : 0 < dv x) (py : 0 < dv y) (px' : 0 < dv x') (py' : 0 < dv y') (h : dv x * dv y' = dv x' * dv y) : FP.ddiv x y = FP.ddiv x' y' := by
  have sg : ∀ {s : Bool} {n : Nat}, 0 < signed s n → s = false ∧ signed s n = (n : Int) := by
    intro s n q; cases s
    · exact ⟨rfl, rfl⟩
    · simp only [signed, if_true] at q; omega
  obtain ⟨s, t, c, d, q, r, e, hd, hq, hr, ex, ey⟩ := div_units hx hy (by omega)
  obtain ⟨s', t', c', d', q', r', e', hd', hq', hr', ex', ey'⟩ := div_units hx' hy' (by omega)
  rw [ex] at px; rw [ey] at py; rw [ex'] at px'; rw [ey'] at py'
  rw [ex, ey, ex', ey', (sg px).2, (sg py).2, (sg px').2, (sg py').2] at h
  have hn : val64 (FP.ddiv x y) ≠ .nan := by rw [e]; exact roundRatio_ne_nan _ _ _ _ _
  refine val64_inj hn ?_
  rw [e, e', (sg px).1, (sg py).1, (sg px').1, (sg py').1]
  refine roundRatio_congr hd hd' ?_
  have hN : inUnits c q b64.qmin * inUnits d' r' b64.qmin = inUnits c' q' b64.qmin * inUnits d r b64.qmin := by exact_mod_cast h
  unfold inUnits at hN
  generalize ha1 : (q - b64.qmin).toNat = a1 at hN
  generalize ha2 : (r' - b64.qmin).toNat = a2 at hN
  generalize ha3 : (q' - b64.qmin).toNat = a3 at hN
  generalize ha4 : (r - b64.qmin).toNat = a4 at hN
  have h1 : c * d' * 2 ^ (a1 + a2) = c' * d * 2 ^ (a3 + a4) := by
    rw [Nat.pow_add, Nat.pow_add]
    calc c * d' * (2 ^ a1 * 2 ^ a2) = c * 2 ^ a1 * (d' * 2 ^ a2) := by ac_rfl
      _ = c' * 2 ^ a3 * (d * 2 ^ a4) := hN
      _ = _ := by ac_rfl
  rcases Nat.le_total (a3 + a4) (a1 + a2) with w | w
  · obtain ⟨k, hk⟩ := Nat.le.dest w
    rw [← hk, Nat.pow_add 2 (a3 + a4) k, Nat.mul_comm (2 ^ (a3 + a4)), ← Nat.mul_assoc] at h1
    have h2 := Nat.eq_of_mul_eq_mul_right (Nat.two_pow_pos _) h1
    rw [show (q - r - (q' - r')).toNat = k by omega, show (q' - r' - (q - r)).toNat = 0 by omega, h2]; omega
  · obtain ⟨k, hk⟩ := Nat.le.dest w
    rw [← hk, Nat.pow_add 2 (a1 + a2) k, Nat.mul_comm (2 ^ (a1 + a2)), ← Nat.mul_assoc] at h1
    have h2 := Nat.eq_of_mul_eq_mul_right (Nat.two_pow_pos _) h1
    rw [show (q - r - (q' - r')).toNat = 0 by omega, show (q' - r' - (q - r)).toNat = k by omega, ← h2]; omega
theorem own_p53 : (2 : Nat) ^ 53 = 9007199254740992 := by decide +kernel
theorem own_mb {a b : Int} {A B : Nat} (ha : a.natAbs ≤ A) (hb : b.natAbs ≤ B) (h : A * B < 9007199254740992) : (a * b).natAbs < 2 ^ 53 := by
  rw [own_p53, Int.natAbs_mul]; exact Nat.lt_of_le_of_lt (Nat.mul_le_mul ha hb) h
theorem own_addl {a b : Int} {A B : Nat} (ha : a.natAbs ≤ A) (hb : b.natAbs ≤ B) : (a + b).natAbs ≤ A + B := by omega
theorem own_subl {a b : Int} {A B : Nat} (ha : a.natAbs ≤ A) (hb : b.natAbs ≤ B) : (a - b).natAbs ≤ A + B := by omega
theorem own_addb {a b : Int} {A B : Nat} (ha : a.natAbs ≤ A) (hb : b.natAbs ≤ B) (h : A + B < 9007199254740992) : (a + b).natAbs < 2 ^ 53 := by rw [own_p53]; omega
theorem own_subb {a b : Int} {A B : Nat} (ha : a.natAbs ≤ A) (hb : b.natAbs ≤ B) (h : A + B < 9007199254740992) : (a - b).natAbs < 2 ^ 53 := by rw [own_p53]; omega
theorem own_shl {a k : Int} {A B : Nat} (ha : a.natAbs ≤ A) (h : A * k.natAbs ≤ B) : (a * k).natAbs ≤ B := by rw [Int.natAbs_mul]; exact Nat.le_trans (Nat.mul_le_mul_right _ ha) h
theorem own_dyeq {n m : Int} {j : Nat} {x y : UInt64} (hx : Dy n j x) (hy : Dy m j y) (h : n = m) {op : CmpOp} : cmpValue (FP.dcmp x y) op = 0 := by
  rw [dy_cmp hx hy, (compare_eq_iff _ _).mpr h]; rfl
end OwnDy
section OwnArr
variable {p : Program} {l : Launch} {e : Env} {R : Room} {s : State} {m : MethodId} {args : Array Value} {below : List Frame} {meth : Method} {c : Code} {T : State} {Z : State} {a0 : Array Value} {h h' : Heap} {n0 cells slots nc ns pc pc' : Nat} {Ls : Array Slot} {st rest : List Value} {Q : Option Value → Heap → Prop} {a b : Addr} {vs : List UInt64}
/-- in heap h, at a, there is a double[] that holds just these -/
def AD (Z : State) (h : Heap) (a : Addr) (vs : List UInt64) : Prop := ∃ c : Cell, Arr Z h a c .double ∧ c.slots.size = vs.length ∧ vs.length < 2147483648 ∧ ∀ i, i < vs.length → c.slots[i]? = some (.double (vs.getD i 0))
theorem AD.lt (F : AD Z h a vs) : a < h.size := by obtain ⟨c, A, -⟩ := F; exact A.lt
theorem AD.ext (F : AD Z h a vs) (E : Ext h h') : AD Z h' a vs := by obtain ⟨c, A, r⟩ := F; exact ⟨c, A.ext E, r⟩
theorem AD.other {sl : Nat} {v : Value} (F : AD Z h b vs) (W : Wr h h' a sl v) (q : b ≠ a) : AD Z h' b vs := by obtain ⟨c, A, r⟩ := F; exact ⟨c, A.other W q, r⟩
theorem AD.keep {ws : List Addr} (F : AD Z h a vs) (K : Keep h h' ws) (q : a ∉ ws) : AD Z h' a vs := by obtain ⟨c, A, r⟩ := F; exact ⟨c, ⟨K.2.1 a c A.1 q, A.2⟩, r⟩
theorem own_idx {j : Int32} {i : Nat} (hj : j.toInt = (i : Int)) : j.toNatClampNeg = i ∧ ¬ j < 0 := by
  constructor
  · unfold Int32.toNatClampNeg; rw [hj]; rfl
  · rw [Int32.lt_iff_toInt_lt, hj]; have : (0 : Int32).toInt = 0 := rfl
    omega
theorem g_daload (X : Wk p l e R s m args below meth c n0 T h cells slots) (hx : p.tables.exec = Jvm.exec) (hZ : Z.Warmed39 s.vm) (F : AD Z h a vs) {j : Int32} {i : Nat} (hj : j.toInt = (i : Int)) (hi : i < vs.length) {v : UInt64} (hv : vs.getD i 0 = v) (hp : pc + 1 = pc') (hd : decode c.code pc = .ok (.daload, 1))
    (k : Go p e below s n0 Q nc ns (T.setTop (mkF m pc' Ls (.double v :: rest)))) : Go p e below s n0 Q nc ns (T.setTop (mkF m pc Ls (.int j :: .ref a :: rest))) := by
  subst hp; subst hv; obtain ⟨locs, X, N, eT⟩ := X
  obtain ⟨cl, A, S, -, H⟩ := F
  obtain ⟨e1, e2⟩ := own_idx hj
  have hin : ¬ (j < 0 ∨ cl.slots.size ≤ j.toNatClampNeg) := by rw [e1, S]; intro q; rcases q with q | q; exact e2 q; omega
  exact go_back (fun t q => X.daload hx (j := j) (v := .double (vs.getD i 0)) (by rw [eT]; exact A.1) (State.isArrayOf_alike hZ.alike A.2.1) A.2.2 hin (by rw [e1]; exact H i hi) (g := mkF m pc Ls (.int j :: .ref a :: rest)) rfl rfl hd t q) k
theorem AD.set {j : Int32} {i : Nat} {x : UInt64} (F : AD Z h a vs) (hj : j.toNatClampNeg = i) (hi : i < vs.length) (W : Wr h h' a j.toNatClampNeg (.double x)) : AD Z h' a (vs.set i x) := by
  obtain ⟨cl, A, S, hl, H⟩ := F
  refine ⟨_, A.same W, by rw [sz_set, S, List.length_set], by rw [List.length_set]; exact hl, fun k hk => ?_⟩
  rw [List.length_set] at hk
  rw [hj]
  by_cases u : i = k
  · subst u; simp [Cell.setSlot, S, hi]
  · have q := H k hk
    simp only [Cell.setSlot, List.getD_eq_getElem?_getD] at q ⊢
    rw [Array.getElem?_setIfInBounds_ne u, List.getElem?_set_ne u]; exact q
theorem g_dastore (X : Wk p l e R s m args below meth c n0 T h cells slots) (hx : p.tables.exec = Jvm.exec) (hZ : Z.Warmed39 s.vm) (F : AD Z h a vs) {j : Int32} {i : Nat} (hj : j.toInt = (i : Int)) (hi : i < vs.length) (hna : n0 ≤ a) {x : UInt64} (hp : pc + 1 = pc') (hd : decode c.code pc = .ok (.dastore, 1))
    (k : ∀ T' h', Wk p l e R s m args below meth c n0 T' h' cells slots → Wr h h' a j.toNatClampNeg (.double x) → AD Z h' a (vs.set i x) → Go p e below s n0 Q nc ns (T'.setTop (mkF m pc' Ls rest))) : Go p e below s n0 Q nc ns (T.setTop (mkF m pc Ls (.double x :: .int j :: .ref a :: rest))) := by
  subst hp; obtain ⟨locs, X, N, eT⟩ := X
  obtain ⟨e1, e2⟩ := own_idx hj
  obtain ⟨cl, A, S, hl, H⟩ := F
  have hin : ¬ (j < 0 ∨ cl.slots.size ≤ j.toNatClampNeg) := by rw [e1, S]; intro q; rcases q with q | q; exact e2 q; omega
  obtain ⟨T', h', X', e', W', b⟩ := stD X hx hZ eT A (x := x) hin (g := mkF m pc Ls (.double x :: .int j :: .ref a :: rest)) rfl rfl hd
  exact go_back b (k T' h' ⟨_, X', Fr.snoc X' N hna, e'⟩ W' (AD.set ⟨cl, A, S, hl, H⟩ e1 hi W'))
theorem g_newD (X : Wk p l e R s m args below meth c n0 T h cells slots) (hx : p.tables.exec = Jvm.exec) (hZ : Z.Warmed39 s.vm) (w : (Jvm.Cond.arrayClass .double).before a0 Z = true) {n : Int32} {N : Nat} (hn : n.toInt = (N : Int)) {cap : Nat} (hcap : N ≤ cap) (hb : cap * 8 ≤ 536870912) (hp : pc + 2 = pc') (hd : decode c.code pc = .ok (.newarray .double, 2)) (hc : cells + 1 ≤ R.cells) (hl : slots + cap ≤ R.slots)
    (k : ∀ T' h' a, a = h.size → Wk p l e R s m args below meth c n0 T' h' (cells + 1) (slots + cap) → Ext h h' → AD Z h' a (List.replicate N 0) → Go p e below s n0 Q nc ns (T'.setTop (mkF m pc' Ls (.ref a :: rest)))) : Go p e below s n0 Q nc ns (T.setTop (mkF m pc Ls (.int n :: rest))) := by
  subst hp; obtain ⟨locs, X, Nf, eT⟩ := X
  obtain ⟨e1, e2⟩ := own_idx hn
  obtain ⟨T', h', cA, X', e', E', A', b⟩ := newP X hx hZ (aty := .double) w eT (g := mkF m pc Ls (.int n :: rest)) rfl hd rfl e2 (cap := cap) (by rw [e1]; exact hcap) hb hc hl
  obtain ⟨cl, A, -, S, -, H, -⟩ := Arv.new A' e2
  refine go_back b (k T' h' h.size rfl ⟨_, X', Nf, e'⟩ E' ⟨cl, A, by rw [S, e1, List.length_replicate], by rw [List.length_replicate]; omega, fun i hi => ?_⟩)
  rw [List.length_replicate] at hi
  rw [H i (by rw [S, e1]; exact hi)]
  simp only [List.getD_eq_getElem?_getD, List.getElem?_replicate, hi, if_true, List.getElem?_nil, Option.getD_none, Option.getD_some]; rfl
theorem g_alenD (X : Wk p l e R s m args below meth c n0 T h cells slots) (hx : p.tables.exec = Jvm.exec) (hZ : Z.Warmed39 s.vm) (F : AD Z h a vs) {z : Int32} (hz : z.toInt = (vs.length : Int)) (hp : pc + 1 = pc') (hd : decode c.code pc = .ok (.arraylength, 1))
    (k : Go p e below s n0 Q nc ns (T.setTop (mkF m pc' Ls (.int z :: rest)))) : Go p e below s n0 Q nc ns (T.setTop (mkF m pc Ls (.ref a :: rest))) := by
  subst hp; obtain ⟨locs, X, N, eT⟩ := X
  obtain ⟨cl, A, S, -, H⟩ := F
  obtain ⟨e1, e2⟩ := own_idx hz
  have e3 : cl.slots.size.toInt32 = z := len_of (by rw [S, e1]) e2
  refine go_back (fun t q => X.arraylength hx (by rw [eT]; exact A.1) (State.isArrayOf_alike hZ.alike A.2.1) (g := mkF m pc Ls (.ref a :: rest)) rfl rfl hd t ?_) k
  rw [e3]; exact q
end OwnArr
section OwnAv
variable {p : Program} {l : Launch} {e : Env} {R : Room} {s : State} {m : MethodId} {args : Array Value} {below : List Frame} {meth : Method} {c : Code} {T : State} {Z : State} {a0 : Array Value} {h h' : Heap} {n0 cells slots nc ns pc pc' : Nat} {Ls : Array Slot} {st rest : List Value} {Q : Option Value → Heap → Prop} {a b : Addr} {ty : FieldType} {vs ws : List Value}
/-- in heap h, at a, there is an array of ty that holds just these -/
def AV (Z : State) (h : Heap) (a : Addr) (ty : FieldType) (vs : List Value) : Prop := ∃ c : Cell, Arr Z h a c ty ∧ c.slots.size = vs.length ∧ vs.length < 2147483648 ∧ (∀ i, i < vs.length → c.slots[i]? = some (vs.getD i .null)) ∧ ∀ i, i < vs.length → Jvm.fits ty (vs.getD i .null) = true
theorem AV.lt (F : AV Z h a ty vs) : a < h.size := by obtain ⟨c, A, -⟩ := F; exact A.lt
theorem AV.ext (F : AV Z h a ty vs) (E : Ext h h') : AV Z h' a ty vs := by obtain ⟨c, A, r⟩ := F; exact ⟨c, A.ext E, r⟩
theorem AV.other {sl : Nat} {v : Value} (F : AV Z h b ty vs) (W : Wr h h' a sl v) (q : b ≠ a) : AV Z h' b ty vs := by obtain ⟨c, A, r⟩ := F; exact ⟨c, A.other W q, r⟩
theorem AV.keep {ws : List Addr} (F : AV Z h a ty vs) (K : Keep h h' ws) (q : a ∉ ws) : AV Z h' a ty vs := by obtain ⟨c, A, r⟩ := F; exact ⟨c, ⟨K.2.1 a c A.1 q, A.2⟩, r⟩
theorem own_len {n : Nat} (h : n < 2147483648) : (Nat.toInt32 n).toNatClampNeg = n ∧ ¬ Nat.toInt32 n < 0 := by
  have e : (Nat.toInt32 n).toInt = n := Int32.toInt_ofNat_small (by omega)
  constructor
  · simp only [Int32.toNatClampNeg, e]; rfl
  · rw [Int32.lt_iff_toInt_lt, e]; have : (0 : Int32).toInt = 0 := rfl
    omega
theorem AV.arv (F : AV Z h a ty vs) : ∃ k, Arv Z h a k ty (Nat.toInt32 vs.length) vs .null := by
  obtain ⟨c, A, S, L, H, G⟩ := F
  obtain ⟨q1, q2⟩ := own_len L
  exact ⟨c.cls, c, A, rfl, by rw [S, q1], q2, fun i hi => H i (by omega), fun i hi => G i (by omega)⟩
theorem Arv.av {k : ClassId} {z : Int32} {dv : Value} (F : Arv Z h a k ty z vs dv) (q : z.toNatClampNeg = vs.length) (L : vs.length < 2147483648) : AV Z h a ty vs := by
  obtain ⟨c, A, -, S, -, H, G⟩ := F
  have e : ∀ i, i < vs.length → vs.getD i dv = vs.getD i .null := fun i hi => by
    simp only [List.getD_eq_getElem?_getD, List.getElem?_eq_getElem hi, Option.getD_some]
  exact ⟨c, A, by rw [S, q], L, fun i hi => by rw [← e i hi]; exact H i (by omega), fun i hi => by rw [← e i hi]; exact G i (by omega)⟩
/-- System.arraycopy between arrays of one primitive type -/
theorem g_copyP (X : Wk p l e R s m args below meth c n0 T h cells slots) (hx : p.tables.exec = Jvm.exec) (hZ : Z.Warmed39 s.vm) {own : String} {index : Nat} (hown : s.vm.findClass own = some m.cls)
    (w1 : (Jvm.Cond.methodLink own index Jvm.Stand.acN).before a0 Z = true) (w2 : (Jvm.Cond.native Jvm.Stand.acN).before a0 Z = true) (w3 : (Jvm.Cond.static Jvm.Stand.acN).before a0 Z = true) (w4 : (Jvm.Cond.initialized "java/lang/System").before a0 Z = true)
    (A : AV Z h a ty vs) (B : AV Z h b ty ws) (hty : refKind ty = false) {sp dp nn : Int32} {i j n : Nat} (h1 : sp.toInt = (i : Int)) (h2 : dp.toInt = (j : Int)) (h3 : nn.toInt = (n : Int)) (h4 : i + n ≤ vs.length) (h5 : j + n ≤ ws.length) (ge : n0 ≤ b)
    (hsz : Ls.size = c.maxLocals) (hp : pc + 3 = pc') (hd : decode c.code pc = .ok (.invokestatic index, 3)) (hf : 1 ≤ R.frames) {W : Nat} (hW : 2 * 0 + (rest.map fun v => v.category).sum ≤ W) (hlo : W + (nativeFrameWords "java/lang/System" "arraycopy" 5 + 11) ≤ R.locals)
    (k : ∀ T' h', Wk p l e R s m args below meth c n0 T' h' cells slots → Keep h h' [b] → AV Z h' b ty (ws.take j ++ (vs.drop i).take n ++ ws.drop (j + n)) → Go p e below s n0 Q nc ns (T'.setTop (mkF m pc' Ls rest))) : Go p e below s n0 Q nc ns (T.setTop (mkF m pc Ls (.int nn :: .int dp :: .ref b :: .int sp :: .ref a :: rest))) := by
  subst hp; obtain ⟨locs, X, N, eT⟩ := X
  have LA := A
  have LB := B
  obtain ⟨-, -, -, LA, -⟩ := LA
  obtain ⟨-, -, -, LB, -⟩ := LB
  obtain ⟨ka, A⟩ := A.arv
  obtain ⟨kb, B⟩ := B.arv
  have idx : ∀ {z : Int32} {t : Nat}, z.toInt = (t : Int) → z.toNatClampNeg = t ∧ ¬ z < 0 := fun {z t} hj => by
    constructor
    · unfold Int32.toNatClampNeg; rw [hj]; rfl
    · rw [Int32.lt_iff_toInt_lt, hj]; have : (0 : Int32).toInt = 0 := rfl
      omega
  obtain ⟨s1, s2⟩ := idx h1
  obtain ⟨d1, d2⟩ := idx h2
  obtain ⟨n1, n2⟩ := idx h3
  have hus : (vs.drop i).take n = (List.range nn.toNatClampNeg).map fun t => vs.getD (sp.toNatClampNeg + t) .null := by
    rw [s1, n1]
    apply List.ext_getElem?
    intro t
    simp only [List.getElem?_map, List.getElem?_take, List.getElem?_drop, List.getElem?_range]
    by_cases ht : t < n
    · simp [ht, List.getElem?_eq_getElem (show i + t < vs.length by omega), List.getElem?_range ht]
    · simp [ht]
  obtain ⟨T', h', L, X', e', N', K, V, b'⟩ := cpA X hx hZ hown w1 w2 w3 w4 eT A B (Or.inl ⟨rfl, hty⟩) s2 d2 n2 (by rw [s1, n1, (own_len LA).1]; exact h4) (by rw [d1, n1, (own_len LB).1]; exact h5) hus (by rw [d1, n1]; exact h5) N ge (g := mkF m pc Ls (.int nn :: .int dp :: .ref b :: .int sp :: .ref a :: rest)) rfl hsz rfl hd hf hW hlo
  have el : (ws.take j ++ (vs.drop i).take n ++ ws.drop (j + n)).length = ws.length := by
    simp only [List.length_append, List.length_take, List.length_drop]; omega
  rw [d1, n1] at V
  exact go_back b' (k T' h' ⟨_, X', N', e'⟩ K (Arv.av V (by rw [(own_len LB).1, el]) (by rw [el]; exact LB)))
/-- Double.doubleToRawLongBits -/
theorem g_dbits (X : Wk p l e R s m args below meth c n0 T h cells slots) (hx : p.tables.exec = Jvm.exec) (hZ : Z.Warmed39 s.vm) {own : String} {index : Nat} (hown : s.vm.findClass own = some m.cls)
    (w1 : (Jvm.Cond.methodLink own index Jvm.doubleToRawLongBitsName).before a0 Z = true) (w2 : (Jvm.Cond.native Jvm.doubleToRawLongBitsName).before a0 Z = true) (w3 : (Jvm.Cond.static Jvm.doubleToRawLongBitsName).before a0 Z = true) (w4 : (Jvm.Cond.initialized "java/lang/Double").before a0 Z = true)
    {x : UInt64} (hsz : Ls.size = c.maxLocals) (hp : pc + 3 = pc') (hd : decode c.code pc = .ok (.invokestatic index, 3)) (hf : 1 ≤ R.frames) (hlo : 2 * 0 + (rest.map fun v => v.category).sum + (nativeFrameWords "java/lang/Double" "doubleToRawLongBits" 2 + 11) ≤ R.locals)
    (k : ∀ T', Wk p l e R s m args below meth c n0 T' h cells slots → Go p e below s n0 Q nc ns (T'.setTop (mkF m pc' Ls (.long x.toInt64 :: rest)))) : Go p e below s n0 Q nc ns (T.setTop (mkF m pc Ls (.double x :: rest))) := by
  subst hp; obtain ⟨locs, X, N, eT⟩ := X
  obtain ⟨vm', X', b⟩ := X.doubleToRawLongBits hx hown (mvT hZ w1) (mvT hZ w2) (mvT hZ w3) (mvT hZ w4) (g := mkF m pc Ls (.double x :: rest)) rfl hsz rfl hd hf hlo
  exact go_back b (k _ ⟨_, X', N, eT⟩)
theorem AD.av {us : List UInt64} (F : AD Z h a us) : AV Z h a .double (us.map .double) := by
  obtain ⟨c, A, S, L, H⟩ := F
  have e : ∀ i, i < us.length → (us.map Value.double).getD i .null = .double (us.getD i 0) := fun i hi => by
    simp [List.getD_eq_getElem?_getD, List.getElem?_eq_getElem hi]
  refine ⟨c, A, by rw [S, List.length_map], by rw [List.length_map]; exact L, fun i hi => ?_, fun i hi => ?_⟩ <;> rw [List.length_map] at hi <;> rw [e i hi]
  · exact H i hi
  · rfl
theorem AV.ad {us : List UInt64} (F : AV Z h a .double (us.map .double)) : AD Z h a us := by
  obtain ⟨c, A, S, L, H, -⟩ := F
  rw [List.length_map] at S L H
  have e : ∀ i, i < us.length → (us.map Value.double).getD i .null = .double (us.getD i 0) := fun i hi => by
    simp [List.getD_eq_getElem?_getD, List.getElem?_eq_getElem hi]
  exact ⟨c, A, S, L, fun i hi => by rw [← e i hi]; exact H i hi⟩
end OwnAv
theorem own_i2d (x : Int32) : Dy x.toInt 1074 (FP.i2d x) := dy_int (FP.Core.i2d_int x)
theorem own_z : Dy 0 1074 0 := by have h := own_i2d 0; have e : FP.i2d 0 = 0 := by decide +kernel
                                  rw [e] at h; exact h
section OwnCmp
open Jvm.FP Jvm.FP.Core Jvm.Free.Fl
theorem own_lt (a b : Int32) : (cmpValue (FP.dcmp (FP.i2d a) (FP.i2d b)) .g < 0) ↔ a.toInt < b.toInt := by
  rw [dy_cmp (own_i2d a) (own_i2d b)]
  rcases Int.lt_trichotomy a.toInt b.toInt with h | h | h
  · rw [(compare_lt_iff _ _).mpr h]; exact ⟨fun _ => h, fun _ => by decide⟩
  · rw [(compare_eq_iff _ _).mpr h]; exact ⟨fun q => absurd q (by decide), fun q => by omega⟩
  · rw [(compare_gt_iff _ _).mpr h]; exact ⟨fun q => absurd q (by decide), fun q => by omega⟩
theorem own_gt (a b : Int32) : (0 < cmpValue (FP.dcmp (FP.i2d a) (FP.i2d b)) .g) ↔ b.toInt < a.toInt := by
  rw [dy_cmp (own_i2d a) (own_i2d b)]
  rcases Int.lt_trichotomy a.toInt b.toInt with h | h | h
  · rw [(compare_lt_iff _ _).mpr h]; exact ⟨fun q => absurd q (by decide), fun q => by omega⟩
  · rw [(compare_eq_iff _ _).mpr h]; exact ⟨fun q => absurd q (by decide), fun q => by omega⟩
  · rw [(compare_gt_iff _ _).mpr h]; exact ⟨fun _ => h, fun _ => by decide⟩
theorem own_eq0 {a : Int32} (h : cmpValue (FP.dcmp (FP.i2d a) (0 : UInt64)) .l = 0) : a = 0 := by
  rw [dy_cmp (own_i2d a) own_z] at h
  rw [← Int32.toInt_inj]
  have e : (0 : Int32).toInt = 0 := rfl
  rcases Int.lt_trichotomy a.toInt 0 with q | q | q
  · rw [(compare_lt_iff _ _).mpr q] at h; exact absurd h (by decide)
  · omega
  · rw [(compare_gt_iff _ _).mpr q] at h; exact absurd h (by decide)
end OwnCmp
theorem own_raw {a : Int32} (h : cmpValue (FP.dcmp (FP.i2d a) (0 : UInt64)) .l = 0) : ¬ lcmpW ((FP.i2d a).toInt64) (0 : Int64) < 0 := by rw [own_eq0 h]; decide +kernel
def Cq (q y : Int32) : Int := if y.toInt ≤ q.toInt then 1 else 0
theorem Cq_b (q y : Int32) : 0 ≤ Cq q y ∧ Cq q y ≤ 1 := by unfold Cq; split <;> omega
theorem Cq_1 {q y : Int32} (h : y.toInt ≤ q.toInt) : Cq q y = 1 := if_pos h
theorem Cq_0 {q y : Int32} (h : q.toInt < y.toInt) : Cq q y = 0 := if_neg (by omega)
theorem own_wY {q a w : Int32} {S : Int} (h : q < a) (hw : w.toInt = S) : w.toInt = S + Cq q a := by
  rw [Int32.lt_iff_toInt_lt] at h; rw [Cq_0 h]; omega
theorem own_wN {q a w : Int32} {S : Int} (h : ¬ q < a) (hw : w.toInt = S) (hb : 0 ≤ S ∧ S ≤ 3) : (w + (1 : Int32)).toInt = S + Cq q a := by
  rw [Int32.lt_iff_toInt_lt] at h; rw [Cq_1 (by omega)]
  have h1 := c_iadd w 1
  have h2 := rng32 (w + 1)
  have h3 : (1 : Int32).toInt = 1 := rfl
  omega
theorem own_mod5 (n : Int32) : ((n &&& (2147483647 : Int32)) % (5 : Int32)) = 0 ∨ ((n &&& (2147483647 : Int32)) % (5 : Int32)) = 1 ∨ ((n &&& (2147483647 : Int32)) % (5 : Int32)) = 2 ∨ ((n &&& (2147483647 : Int32)) % (5 : Int32)) = 3 ∨ ((n &&& (2147483647 : Int32)) % (5 : Int32)) = 4 := by
  have h : 0 ≤ (n &&& 2147483647).toInt ∧ (n &&& 2147483647).toInt ≤ 2147483647 := c_and n 2147483647 (by decide)
  have e : ((n &&& (2147483647 : Int32)) % (5 : Int32)).toInt = (n &&& 2147483647).toInt % 5 := by
    rw [Int32.toInt_mod]; exact Int.tmod_eq_emod_of_nonneg h.1
  have e0 : (0 : Int32).toInt = 0 := rfl
  have e1 : (1 : Int32).toInt = 1 := rfl
  have e2 : (2 : Int32).toInt = 2 := rfl
  have e3 : (3 : Int32).toInt = 3 := rfl
  have e4 : (4 : Int32).toInt = 4 := rfl
  rw [← Int32.toInt_inj, ← Int32.toInt_inj, ← Int32.toInt_inj, ← Int32.toInt_inj, ← Int32.toInt_inj]
  omega
set_option maxRecDepth 65536 in
set_option maxHeartbeats 40000000 in
theorem rm9_0 (l : Launch) (Z : State) (a0 : Array Value) (hw : ∀ d ∈ tables_1, d.before a0 Z = true) (ws : List Jvm.Cond) (n0 : Nat) (aa : Addr) (h0 : Heap) (hn0 : n0 ≤ h0.size) (Aa : AD Z h0 aa []) (hg : n0 ≤ aa) :
    Con l Z n0 (⟨"java/util/DualPivotQuicksort", "insertionSort", "([DII)V"⟩ : MethodName) jdk_2529_method_44_code 7 none ws ({ frames := 0, cells := 0, slots := 0, locals := 0 } : Room) #[(.ref aa), (.int (0 : Int32)), (.int (0 : Int32))] h0 (fun v h => v = none ∧ Keep h0 h [aa] ∧ AD Z h aa [] ∧ ∀ q : Int32, (0 : Int) = (0 : Int)) := by
  refine con_start (plainFor_of_name (by first | (simp [plainName, overriddenIn]; done) | decide +kernel)) (fr0 := fun m => mkF m 0 #[.val (.ref aa), .val (.int (0 : Int32)), .val (.int (0 : Int32)), .unset, .unset, .unset, .unset] []) (fun m => by first | (simp [entryFrame, mkF, argsToLocals, Value.category]; done) | rfl) ?_
  intro p e s m below meth c T0 hx hZ hby hml hown hnm hret hlk X0
  replace hown : s.vm.findClass "java/util/DualPivotQuicksort" = some m.cls := hown
  replace hml : c.maxLocals = 7 := hml
  refine g_iloadN X0 hx (pc' := 1) rfl (hb hby d9_0) rfl ?_
  refine g_istore X0 hx (pc' := 3) rfl (hb hby d9_1) (l' := #[.val (.ref aa), .val (.int (0 : Int32)), .val (.int (0 : Int32)), .unset, .val (.int (0 : Int32)), .unset, .unset]) rfl ?_
  refine g_iincC X0 hx (pc' := 6) (x := (0 : Int32)) (z := (1 : Int32)) rfl (hb hby d9_3) rfl (by decide) (l' := #[.val (.ref aa), .val (.int (0 : Int32)), .val (.int (0 : Int32)), .unset, .val (.int (1 : Int32)), .unset, .unset]) rfl ?_
  refine g_iload X0 hx (pc' := 8) rfl (hb hby d9_6) rfl ?_
  refine g_iloadN X0 hx (pc' := 9) rfl (hb hby d9_8) rfl ?_
  refine g_icmpY X0 hx (pcY := 69) (hb hby d9_9) (by decide) (by decide) (show ¬ (1 : Int32) < (0 : Int32) from by decide) ?_
  exact g_retV X0 hx hlk hret (hb hby d9_69) (by decide) (by decide) (⟨rfl, Keep.refl _ _, Aa, fun q => rfl⟩)
set_option maxRecDepth 65536 in
set_option maxHeartbeats 40000000 in
theorem rm9_1 (l : Launch) (Z : State) (a0 : Array Value) (hw : ∀ d ∈ tables_1, d.before a0 Z = true) (ws : List Jvm.Cond) (n0 : Nat) (aa : Addr) (x0 : Int32) (h0 : Heap) (hn0 : n0 ≤ h0.size) (Aa : AD Z h0 aa [(FP.i2d x0)]) (hg : n0 ≤ aa) :
    Con l Z n0 (⟨"java/util/DualPivotQuicksort", "insertionSort", "([DII)V"⟩ : MethodName) jdk_2529_method_44_code 7 none ws ({ frames := 0, cells := 0, slots := 0, locals := 0 } : Room) #[(.ref aa), (.int (0 : Int32)), (.int (1 : Int32))] h0 (fun v h => v = none ∧ Keep h0 h [aa] ∧ ∃ y0 : Int32, AD Z h aa [(FP.i2d y0)] ∧ ∀ q : Int32, Cq q y0 = Cq q x0) := by
  refine con_start (plainFor_of_name (by first | (simp [plainName, overriddenIn]; done) | decide +kernel)) (fr0 := fun m => mkF m 0 #[.val (.ref aa), .val (.int (0 : Int32)), .val (.int (1 : Int32)), .unset, .unset, .unset, .unset] []) (fun m => by first | (simp [entryFrame, mkF, argsToLocals, Value.category]; done) | rfl) ?_
  intro p e s m below meth c T0 hx hZ hby hml hown hnm hret hlk X0
  replace hown : s.vm.findClass "java/util/DualPivotQuicksort" = some m.cls := hown
  replace hml : c.maxLocals = 7 := hml
  refine g_iloadN X0 hx (pc' := 1) rfl (hb hby d9_0) rfl ?_
  refine g_istore X0 hx (pc' := 3) rfl (hb hby d9_1) (l' := #[.val (.ref aa), .val (.int (0 : Int32)), .val (.int (1 : Int32)), .unset, .val (.int (0 : Int32)), .unset, .unset]) rfl ?_
  have c00 : ∀ q : Int32, Cq q x0 = Cq q x0 := fun q => rfl
  refine g_iincC X0 hx (pc' := 6) (x := (0 : Int32)) (z := (1 : Int32)) rfl (hb hby d9_3) rfl (by decide) (l' := #[.val (.ref aa), .val (.int (0 : Int32)), .val (.int (1 : Int32)), .unset, .val (.int (1 : Int32)), .unset, .unset]) rfl ?_
  refine g_iload X0 hx (pc' := 8) rfl (hb hby d9_6) rfl ?_
  refine g_iloadN X0 hx (pc' := 9) rfl (hb hby d9_8) rfl ?_
  refine g_icmpY X0 hx (pcY := 69) (hb hby d9_9) (by decide) (by decide) (show ¬ (1 : Int32) < (1 : Int32) from by decide) ?_
  exact g_retV X0 hx hlk hret (hb hby d9_69) (by decide) (by decide) (⟨rfl, (Keep.refl h0 [aa]), x0, Aa, c00⟩)
set_option maxRecDepth 65536 in
set_option maxHeartbeats 40000000 in
theorem rm9_2 (l : Launch) (Z : State) (a0 : Array Value) (hw : ∀ d ∈ tables_1, d.before a0 Z = true) (ws : List Jvm.Cond) (n0 : Nat) (aa : Addr) (x0 : Int32) (x1 : Int32) (h0 : Heap) (hn0 : n0 ≤ h0.size) (Aa : AD Z h0 aa [(FP.i2d x0), (FP.i2d x1)]) (hg : n0 ≤ aa) :
    Con l Z n0 (⟨"java/util/DualPivotQuicksort", "insertionSort", "([DII)V"⟩ : MethodName) jdk_2529_method_44_code 7 none ws ({ frames := 0, cells := 0, slots := 0, locals := 0 } : Room) #[(.ref aa), (.int (0 : Int32)), (.int (2 : Int32))] h0 (fun v h => v = none ∧ Keep h0 h [aa] ∧ ∃ y0 : Int32, ∃ y1 : Int32, AD Z h aa [(FP.i2d y0), (FP.i2d y1)] ∧ y0.toInt ≤ y1.toInt ∧ ∀ q : Int32, Cq q y0 + Cq q y1 = Cq q x0 + Cq q x1) := by
  refine con_start (plainFor_of_name (by first | (simp [plainName, overriddenIn]; done) | decide +kernel)) (fr0 := fun m => mkF m 0 #[.val (.ref aa), .val (.int (0 : Int32)), .val (.int (2 : Int32)), .unset, .unset, .unset, .unset] []) (fun m => by first | (simp [entryFrame, mkF, argsToLocals, Value.category]; done) | rfl) ?_
  intro p e s m below meth c T0 hx hZ hby hml hown hnm hret hlk X0
  replace hown : s.vm.findClass "java/util/DualPivotQuicksort" = some m.cls := hown
  replace hml : c.maxLocals = 7 := hml
  refine g_iloadN X0 hx (pc' := 1) rfl (hb hby d9_0) rfl ?_
  refine g_istore X0 hx (pc' := 3) rfl (hb hby d9_1) (l' := #[.val (.ref aa), .val (.int (0 : Int32)), .val (.int (2 : Int32)), .unset, .val (.int (0 : Int32)), .unset, .unset]) rfl ?_
  have c00 : ∀ q : Int32, Cq q x0 = Cq q x0 := fun q => rfl
  refine g_iincC X0 hx (pc' := 6) (x := (0 : Int32)) (z := (1 : Int32)) rfl (hb hby d9_3) rfl (by decide) (l' := #[.val (.ref aa), .val (.int (0 : Int32)), .val (.int (2 : Int32)), .unset, .val (.int (1 : Int32)), .unset, .unset]) rfl ?_
  refine g_iload X0 hx (pc' := 8) rfl (hb hby d9_6) rfl ?_
  refine g_iloadN X0 hx (pc' := 9) rfl (hb hby d9_8) rfl ?_
  refine g_icmpN X0 hx (pcN := 12) (hb hby d9_9) rfl (show ¬ (¬ (1 : Int32) < (2 : Int32)) from by decide) ?_
  suffices J1 : ∀ (T1 : State) (h1 : Heap) (X1 : Wk p l e ({ frames := 0, cells := 0, slots := 0, locals := 0 } : Room) s m #[(.ref aa), (.int (0 : Int32)), (.int (2 : Int32))] below meth c n0 T1 h1 0 0) (j1 : Int32) (d1 : UInt64) (z0_1 z1_1 : Int32), (AD Z h1 aa [(FP.i2d z0_1), (FP.i2d z1_1)]) → (Keep h0 h1 [aa]) → (n0 ≤ h1.size) → (z0_1.toInt ≤ z1_1.toInt) → (∀ q : Int32, Cq q z0_1 + Cq q z1_1 = Cq q x0 + Cq q x1) → Go p e below s n0 (fun v h => v = none ∧ Keep h0 h [aa] ∧ ∃ y0 : Int32, ∃ y1 : Int32, AD Z h aa [(FP.i2d y0), (FP.i2d y1)] ∧ y0.toInt ≤ y1.toInt ∧ ∀ q : Int32, Cq q y0 + Cq q y1 = Cq q x0 + Cq q x1) ({ frames := 0, cells := 0, slots := 0, locals := 0 } : Room).cells ({ frames := 0, cells := 0, slots := 0, locals := 0 } : Room).slots (T1.setTop (mkF m 3 #[.val (.ref aa), .val (.int (0 : Int32)), .val (.int (2 : Int32)), .val (.int j1), .val (.int (1 : Int32)), .val (.double d1), .second] [])) by
    refine g_aloadN X0 hx (pc' := 13) rfl (hb hby d9_12) rfl rfl ?_
    refine g_iload X0 hx (pc' := 15) rfl (hb hby d9_13) rfl ?_
    refine g_dup X0 hx (pc' := 16) rfl (hb hby d9_15) rfl ?_
    refine g_istoreN X0 hx (pc' := 17) rfl (hb hby d9_16) (l' := #[.val (.ref aa), .val (.int (0 : Int32)), .val (.int (2 : Int32)), .val (.int (1 : Int32)), .val (.int (1 : Int32)), .unset, .unset]) rfl ?_
    refine g_daload X0 hx hZ Aa (i := 1) (by decide) (show (1 : Nat) < 2 by decide) (v := (FP.i2d x1)) rfl (pc' := 18) rfl (hb hby d9_17) ?_
    refine g_dstore X0 hx (pc' := 20) rfl (hb hby d9_18) (l' := #[.val (.ref aa), .val (.int (0 : Int32)), .val (.int (2 : Int32)), .val (.int (1 : Int32)), .val (.int (1 : Int32)), .val (.double (FP.i2d x1)), .second]) rfl ?_
    refine g_dload X0 hx (pc' := 22) rfl (hb hby d9_20) rfl ?_
    refine g_aloadN X0 hx (pc' := 23) rfl (hb hby d9_22) rfl rfl ?_
    refine g_iloadN X0 hx (pc' := 24) rfl (hb hby d9_23) rfl ?_
    refine g_iconst X0 hx (pc' := 25) (z := (1 : Int32)) rfl (hb hby d9_24) rfl ?_
    refine g_isub X0 hx (pc' := 26) rfl (hb hby d9_25) ?_
    refine g_normI (z := (0 : Int32)) (by decide) ?_
    refine g_daload X0 hx hZ Aa (i := 0) (by decide) (show (0 : Nat) < 2 by decide) (v := (FP.i2d x0)) rfl (pc' := 27) rfl (hb hby d9_26) ?_
    refine g_dcmp X0 hx (pc' := 28) (z := (cmpValue (FP.dcmp (FP.i2d x1) (FP.i2d x0)) .g)) rfl (hb hby d9_27) rfl ?_
    refine g_if X0 hx (pcY := 66) (pcN := 31) (hb hby d9_28) (by decide) (by decide) rfl (fun hc28 => ?_) (fun hc28 => ?_)
    · replace hc28 : ¬ (cmpValue (FP.dcmp (FP.i2d x1) (FP.i2d x0)) .g) < 0 := hc28
      have g2 : x0.toInt ≤ x1.toInt := Int.not_lt.mp (fun z => hc28 ((own_lt x1 x0).mpr z))
      refine g_goto X0 hx (pc' := 3) (hb hby d9_66) (by decide) (by decide) ?_
      exact J1 T0 h0 X0 _ _ x0 x1 Aa (Keep.refl h0 [aa]) hn0 (by omega) (fun q => by have e := (c00) q; omega)
    · replace hc28 : (cmpValue (FP.dcmp (FP.i2d x1) (FP.i2d x0)) .g) < 0 := Classical.not_not.mp hc28
      have g3 : x1.toInt < x0.toInt := (own_lt x1 x0).mp hc28
      refine g_iincC X0 hx (pc' := 34) (x := (1 : Int32)) (z := (0 : Int32)) rfl (hb hby d9_31) rfl (by decide) (l' := #[.val (.ref aa), .val (.int (0 : Int32)), .val (.int (2 : Int32)), .val (.int (0 : Int32)), .val (.int (1 : Int32)), .val (.double (FP.i2d x1)), .second]) rfl ?_
      refine g_iloadN X0 hx (pc' := 35) rfl (hb hby d9_34) rfl ?_
      refine g_iloadN X0 hx (pc' := 36) rfl (hb hby d9_35) rfl ?_
      refine g_icmpN X0 hx (pcN := 39) (hb hby d9_36) rfl (show ¬ ((0 : Int32) < (0 : Int32)) from by decide) ?_
      refine g_dload X0 hx (pc' := 41) rfl (hb hby d9_39) rfl ?_
      refine g_aloadN X0 hx (pc' := 42) rfl (hb hby d9_41) rfl rfl ?_
      refine g_iloadN X0 hx (pc' := 43) rfl (hb hby d9_42) rfl ?_
      refine g_daload X0 hx hZ Aa (i := 0) (by decide) (show (0 : Nat) < 2 by decide) (v := (FP.i2d x0)) rfl (pc' := 44) rfl (hb hby d9_43) ?_
      refine g_dcmp X0 hx (pc' := 45) (z := (cmpValue (FP.dcmp (FP.i2d x1) (FP.i2d x0)) .g)) rfl (hb hby d9_44) rfl ?_
      refine g_if X0 hx (pcY := 59) (pcN := 48) (hb hby d9_45) (by decide) (by decide) rfl (fun hc45 => ?_) (fun hc45 => ?_)
      · replace hc45 : ¬ (cmpValue (FP.dcmp (FP.i2d x1) (FP.i2d x0)) .g) < 0 := hc45
        have g4 : x0.toInt ≤ x1.toInt := Int.not_lt.mp (fun z => hc45 ((own_lt x1 x0).mpr z))
        refine g_aloadN X0 hx (pc' := 60) rfl (hb hby d9_59) rfl rfl ?_
        refine g_iloadN X0 hx (pc' := 61) rfl (hb hby d9_60) rfl ?_
        refine g_iconst X0 hx (pc' := 62) (z := (1 : Int32)) rfl (hb hby d9_61) rfl ?_
        refine g_iadd X0 hx (pc' := 63) rfl (hb hby d9_62) ?_
        refine g_normI (z := (1 : Int32)) (by decide) ?_
        refine g_dload X0 hx (pc' := 65) rfl (hb hby d9_63) rfl ?_
        refine g_dastore X0 hx hZ Aa (i := 1) (by decide) (show (1 : Nat) < 2 by decide) hg (pc' := 66) rfl (hb hby d9_65) (fun T5 h5 X5 W5 N5 => ?_)
        have f6 := (by have q := (Keep.of_wr W5).1; exact Nat.le_trans hn0 q : n0 ≤ h5.size)
        have f7 := (Keep.refl h0 [aa]).wr W5 (Or.inl (List.mem_of_getElem? (i := 0) rfl))
        have V5 : AD Z h5 aa [(FP.i2d x0), (FP.i2d x1)] := N5
        refine g_goto X5 hx (pc' := 3) (hb hby d9_66) (by decide) (by decide) ?_
        exact J1 T5 h5 X5 _ _ x0 x1 V5 f7 f6 (by omega) (fun q => by have e := (c00) q; omega)
      · replace hc45 : (cmpValue (FP.dcmp (FP.i2d x1) (FP.i2d x0)) .g) < 0 := Classical.not_not.mp hc45
        have g8 : x1.toInt < x0.toInt := (own_lt x1 x0).mp hc45
        refine g_aloadN X0 hx (pc' := 49) rfl (hb hby d9_48) rfl rfl ?_
        refine g_iloadN X0 hx (pc' := 50) rfl (hb hby d9_49) rfl ?_
        refine g_iconst X0 hx (pc' := 51) (z := (1 : Int32)) rfl (hb hby d9_50) rfl ?_
        refine g_iadd X0 hx (pc' := 52) rfl (hb hby d9_51) ?_
        refine g_normI (z := (1 : Int32)) (by decide) ?_
        refine g_aloadN X0 hx (pc' := 53) rfl (hb hby d9_52) rfl rfl ?_
        refine g_iloadN X0 hx (pc' := 54) rfl (hb hby d9_53) rfl ?_
        refine g_daload X0 hx hZ Aa (i := 0) (by decide) (show (0 : Nat) < 2 by decide) (v := (FP.i2d x0)) rfl (pc' := 55) rfl (hb hby d9_54) ?_
        refine g_dastore X0 hx hZ Aa (i := 1) (by decide) (show (1 : Nat) < 2 by decide) hg (pc' := 56) rfl (hb hby d9_55) (fun T9 h9 X9 W9 N9 => ?_)
        have f10 := (by have q := (Keep.of_wr W9).1; exact Nat.le_trans hn0 q : n0 ≤ h9.size)
        have f11 := (Keep.refl h0 [aa]).wr W9 (Or.inl (List.mem_of_getElem? (i := 0) rfl))
        have V9 : AD Z h9 aa [(FP.i2d x0), (FP.i2d x0)] := N9
        refine g_goto X9 hx (pc' := 31) (hb hby d9_56) (by decide) (by decide) ?_
        refine g_iincC X9 hx (pc' := 34) (x := (0 : Int32)) (z := (-1 : Int32)) rfl (hb hby d9_31) rfl (by decide) (l' := #[.val (.ref aa), .val (.int (0 : Int32)), .val (.int (2 : Int32)), .val (.int (-1 : Int32)), .val (.int (1 : Int32)), .val (.double (FP.i2d x1)), .second]) rfl ?_
        refine g_iloadN X9 hx (pc' := 35) rfl (hb hby d9_34) rfl ?_
        refine g_iloadN X9 hx (pc' := 36) rfl (hb hby d9_35) rfl ?_
        refine g_icmpY X9 hx (pcY := 59) (hb hby d9_36) (by decide) (by decide) (show (-1 : Int32) < (0 : Int32) from by decide) ?_
        refine g_aloadN X9 hx (pc' := 60) rfl (hb hby d9_59) rfl rfl ?_
        refine g_iloadN X9 hx (pc' := 61) rfl (hb hby d9_60) rfl ?_
        refine g_iconst X9 hx (pc' := 62) (z := (1 : Int32)) rfl (hb hby d9_61) rfl ?_
        refine g_iadd X9 hx (pc' := 63) rfl (hb hby d9_62) ?_
        refine g_normI (z := (0 : Int32)) (by decide) ?_
        refine g_dload X9 hx (pc' := 65) rfl (hb hby d9_63) rfl ?_
        refine g_dastore X9 hx hZ V9 (i := 0) (by decide) (show (0 : Nat) < 2 by decide) hg (pc' := 66) rfl (hb hby d9_65) (fun T12 h12 X12 W12 N12 => ?_)
        have f13 := (by have q := (Keep.of_wr W12).1; exact Nat.le_trans f10 q : n0 ≤ h12.size)
        have f14 := f11.wr W12 (Or.inl (List.mem_of_getElem? (i := 0) rfl))
        have V12 : AD Z h12 aa [(FP.i2d x1), (FP.i2d x0)] := N12
        refine g_goto X12 hx (pc' := 3) (hb hby d9_66) (by decide) (by decide) ?_
        exact J1 T12 h12 X12 _ _ x1 x0 V12 f14 f13 (by omega) (fun q => by have e := (c00) q; omega)
  intro T1 h1 X1 j1 d1 z0_1 z1_1 A1 K1 Zz1 s0_1 c1
  refine g_iincC X1 hx (pc' := 6) (x := (1 : Int32)) (z := (2 : Int32)) rfl (hb hby d9_3) rfl (by decide) (l' := #[.val (.ref aa), .val (.int (0 : Int32)), .val (.int (2 : Int32)), .val (.int j1), .val (.int (2 : Int32)), .val (.double d1), .second]) rfl ?_
  refine g_iload X1 hx (pc' := 8) rfl (hb hby d9_6) rfl ?_
  refine g_iloadN X1 hx (pc' := 9) rfl (hb hby d9_8) rfl ?_
  refine g_icmpY X1 hx (pcY := 69) (hb hby d9_9) (by decide) (by decide) (show ¬ (2 : Int32) < (2 : Int32) from by decide) ?_
  exact g_retV X1 hx hlk hret (hb hby d9_69) (by decide) (by decide) (⟨rfl, K1, z0_1, z1_1, A1, s0_1, c1⟩)
set_option maxRecDepth 65536 in
set_option maxHeartbeats 40000000 in
theorem rm9_3 (l : Launch) (Z : State) (a0 : Array Value) (hw : ∀ d ∈ tables_1, d.before a0 Z = true) (ws : List Jvm.Cond) (n0 : Nat) (aa : Addr) (x0 : Int32) (x1 : Int32) (x2 : Int32) (h0 : Heap) (hn0 : n0 ≤ h0.size) (Aa : AD Z h0 aa [(FP.i2d x0), (FP.i2d x1), (FP.i2d x2)]) (hg : n0 ≤ aa) :
    Con l Z n0 (⟨"java/util/DualPivotQuicksort", "insertionSort", "([DII)V"⟩ : MethodName) jdk_2529_method_44_code 7 none ws ({ frames := 0, cells := 0, slots := 0, locals := 0 } : Room) #[(.ref aa), (.int (0 : Int32)), (.int (3 : Int32))] h0 (fun v h => v = none ∧ Keep h0 h [aa] ∧ ∃ y0 : Int32, ∃ y1 : Int32, ∃ y2 : Int32, AD Z h aa [(FP.i2d y0), (FP.i2d y1), (FP.i2d y2)] ∧ y0.toInt ≤ y1.toInt ∧ y1.toInt ≤ y2.toInt ∧ ∀ q : Int32, Cq q y0 + Cq q y1 + Cq q y2 = Cq q x0 + Cq q x1 + Cq q x2) := by
  refine con_start (plainFor_of_name (by first | (simp [plainName, overriddenIn]; done) | decide +kernel)) (fr0 := fun m => mkF m 0 #[.val (.ref aa), .val (.int (0 : Int32)), .val (.int (3 : Int32)), .unset, .unset, .unset, .unset] []) (fun m => by first | (simp [entryFrame, mkF, argsToLocals, Value.category]; done) | rfl) ?_
  intro p e s m below meth c T0 hx hZ hby hml hown hnm hret hlk X0
  replace hown : s.vm.findClass "java/util/DualPivotQuicksort" = some m.cls := hown
  replace hml : c.maxLocals = 7 := hml
  refine g_iloadN X0 hx (pc' := 1) rfl (hb hby d9_0) rfl ?_
  refine g_istore X0 hx (pc' := 3) rfl (hb hby d9_1) (l' := #[.val (.ref aa), .val (.int (0 : Int32)), .val (.int (3 : Int32)), .unset, .val (.int (0 : Int32)), .unset, .unset]) rfl ?_
  have c00 : ∀ q : Int32, Cq q x0 = Cq q x0 := fun q => rfl
  refine g_iincC X0 hx (pc' := 6) (x := (0 : Int32)) (z := (1 : Int32)) rfl (hb hby d9_3) rfl (by decide) (l' := #[.val (.ref aa), .val (.int (0 : Int32)), .val (.int (3 : Int32)), .unset, .val (.int (1 : Int32)), .unset, .unset]) rfl ?_
  refine g_iload X0 hx (pc' := 8) rfl (hb hby d9_6) rfl ?_
  refine g_iloadN X0 hx (pc' := 9) rfl (hb hby d9_8) rfl ?_
  refine g_icmpN X0 hx (pcN := 12) (hb hby d9_9) rfl (show ¬ (¬ (1 : Int32) < (3 : Int32)) from by decide) ?_
  suffices J15 : ∀ (T15 : State) (h15 : Heap) (X15 : Wk p l e ({ frames := 0, cells := 0, slots := 0, locals := 0 } : Room) s m #[(.ref aa), (.int (0 : Int32)), (.int (3 : Int32))] below meth c n0 T15 h15 0 0) (j15 : Int32) (d15 : UInt64) (z0_15 z1_15 : Int32), (AD Z h15 aa [(FP.i2d z0_15), (FP.i2d z1_15), (FP.i2d x2)]) → (Keep h0 h15 [aa]) → (n0 ≤ h15.size) → (z0_15.toInt ≤ z1_15.toInt) → (∀ q : Int32, Cq q z0_15 + Cq q z1_15 = Cq q x0 + Cq q x1) → Go p e below s n0 (fun v h => v = none ∧ Keep h0 h [aa] ∧ ∃ y0 : Int32, ∃ y1 : Int32, ∃ y2 : Int32, AD Z h aa [(FP.i2d y0), (FP.i2d y1), (FP.i2d y2)] ∧ y0.toInt ≤ y1.toInt ∧ y1.toInt ≤ y2.toInt ∧ ∀ q : Int32, Cq q y0 + Cq q y1 + Cq q y2 = Cq q x0 + Cq q x1 + Cq q x2) ({ frames := 0, cells := 0, slots := 0, locals := 0 } : Room).cells ({ frames := 0, cells := 0, slots := 0, locals := 0 } : Room).slots (T15.setTop (mkF m 3 #[.val (.ref aa), .val (.int (0 : Int32)), .val (.int (3 : Int32)), .val (.int j15), .val (.int (1 : Int32)), .val (.double d15), .second] [])) by
    refine g_aloadN X0 hx (pc' := 13) rfl (hb hby d9_12) rfl rfl ?_
    refine g_iload X0 hx (pc' := 15) rfl (hb hby d9_13) rfl ?_
    refine g_dup X0 hx (pc' := 16) rfl (hb hby d9_15) rfl ?_
    refine g_istoreN X0 hx (pc' := 17) rfl (hb hby d9_16) (l' := #[.val (.ref aa), .val (.int (0 : Int32)), .val (.int (3 : Int32)), .val (.int (1 : Int32)), .val (.int (1 : Int32)), .unset, .unset]) rfl ?_
    refine g_daload X0 hx hZ Aa (i := 1) (by decide) (show (1 : Nat) < 3 by decide) (v := (FP.i2d x1)) rfl (pc' := 18) rfl (hb hby d9_17) ?_
    refine g_dstore X0 hx (pc' := 20) rfl (hb hby d9_18) (l' := #[.val (.ref aa), .val (.int (0 : Int32)), .val (.int (3 : Int32)), .val (.int (1 : Int32)), .val (.int (1 : Int32)), .val (.double (FP.i2d x1)), .second]) rfl ?_
    refine g_dload X0 hx (pc' := 22) rfl (hb hby d9_20) rfl ?_
    refine g_aloadN X0 hx (pc' := 23) rfl (hb hby d9_22) rfl rfl ?_
    refine g_iloadN X0 hx (pc' := 24) rfl (hb hby d9_23) rfl ?_
    refine g_iconst X0 hx (pc' := 25) (z := (1 : Int32)) rfl (hb hby d9_24) rfl ?_
    refine g_isub X0 hx (pc' := 26) rfl (hb hby d9_25) ?_
    refine g_normI (z := (0 : Int32)) (by decide) ?_
    refine g_daload X0 hx hZ Aa (i := 0) (by decide) (show (0 : Nat) < 3 by decide) (v := (FP.i2d x0)) rfl (pc' := 27) rfl (hb hby d9_26) ?_
    refine g_dcmp X0 hx (pc' := 28) (z := (cmpValue (FP.dcmp (FP.i2d x1) (FP.i2d x0)) .g)) rfl (hb hby d9_27) rfl ?_
    refine g_if X0 hx (pcY := 66) (pcN := 31) (hb hby d9_28) (by decide) (by decide) rfl (fun hc28 => ?_) (fun hc28 => ?_)
    · replace hc28 : ¬ (cmpValue (FP.dcmp (FP.i2d x1) (FP.i2d x0)) .g) < 0 := hc28
      have g16 : x0.toInt ≤ x1.toInt := Int.not_lt.mp (fun z => hc28 ((own_lt x1 x0).mpr z))
      refine g_goto X0 hx (pc' := 3) (hb hby d9_66) (by decide) (by decide) ?_
      exact J15 T0 h0 X0 _ _ x0 x1 Aa (Keep.refl h0 [aa]) hn0 (by omega) (fun q => by have e := (c00) q; omega)
    · replace hc28 : (cmpValue (FP.dcmp (FP.i2d x1) (FP.i2d x0)) .g) < 0 := Classical.not_not.mp hc28
      have g17 : x1.toInt < x0.toInt := (own_lt x1 x0).mp hc28
      refine g_iincC X0 hx (pc' := 34) (x := (1 : Int32)) (z := (0 : Int32)) rfl (hb hby d9_31) rfl (by decide) (l' := #[.val (.ref aa), .val (.int (0 : Int32)), .val (.int (3 : Int32)), .val (.int (0 : Int32)), .val (.int (1 : Int32)), .val (.double (FP.i2d x1)), .second]) rfl ?_
      refine g_iloadN X0 hx (pc' := 35) rfl (hb hby d9_34) rfl ?_
      refine g_iloadN X0 hx (pc' := 36) rfl (hb hby d9_35) rfl ?_
      refine g_icmpN X0 hx (pcN := 39) (hb hby d9_36) rfl (show ¬ ((0 : Int32) < (0 : Int32)) from by decide) ?_
      refine g_dload X0 hx (pc' := 41) rfl (hb hby d9_39) rfl ?_
      refine g_aloadN X0 hx (pc' := 42) rfl (hb hby d9_41) rfl rfl ?_
      refine g_iloadN X0 hx (pc' := 43) rfl (hb hby d9_42) rfl ?_
      refine g_daload X0 hx hZ Aa (i := 0) (by decide) (show (0 : Nat) < 3 by decide) (v := (FP.i2d x0)) rfl (pc' := 44) rfl (hb hby d9_43) ?_
      refine g_dcmp X0 hx (pc' := 45) (z := (cmpValue (FP.dcmp (FP.i2d x1) (FP.i2d x0)) .g)) rfl (hb hby d9_44) rfl ?_
      refine g_if X0 hx (pcY := 59) (pcN := 48) (hb hby d9_45) (by decide) (by decide) rfl (fun hc45 => ?_) (fun hc45 => ?_)
      · replace hc45 : ¬ (cmpValue (FP.dcmp (FP.i2d x1) (FP.i2d x0)) .g) < 0 := hc45
        have g18 : x0.toInt ≤ x1.toInt := Int.not_lt.mp (fun z => hc45 ((own_lt x1 x0).mpr z))
        refine g_aloadN X0 hx (pc' := 60) rfl (hb hby d9_59) rfl rfl ?_
        refine g_iloadN X0 hx (pc' := 61) rfl (hb hby d9_60) rfl ?_
        refine g_iconst X0 hx (pc' := 62) (z := (1 : Int32)) rfl (hb hby d9_61) rfl ?_
        refine g_iadd X0 hx (pc' := 63) rfl (hb hby d9_62) ?_
        refine g_normI (z := (1 : Int32)) (by decide) ?_
        refine g_dload X0 hx (pc' := 65) rfl (hb hby d9_63) rfl ?_
        refine g_dastore X0 hx hZ Aa (i := 1) (by decide) (show (1 : Nat) < 3 by decide) hg (pc' := 66) rfl (hb hby d9_65) (fun T19 h19 X19 W19 N19 => ?_)
        have f20 := (by have q := (Keep.of_wr W19).1; exact Nat.le_trans hn0 q : n0 ≤ h19.size)
        have f21 := (Keep.refl h0 [aa]).wr W19 (Or.inl (List.mem_of_getElem? (i := 0) rfl))
        have V19 : AD Z h19 aa [(FP.i2d x0), (FP.i2d x1), (FP.i2d x2)] := N19
        refine g_goto X19 hx (pc' := 3) (hb hby d9_66) (by decide) (by decide) ?_
        exact J15 T19 h19 X19 _ _ x0 x1 V19 f21 f20 (by omega) (fun q => by have e := (c00) q; omega)
      · replace hc45 : (cmpValue (FP.dcmp (FP.i2d x1) (FP.i2d x0)) .g) < 0 := Classical.not_not.mp hc45
        have g22 : x1.toInt < x0.toInt := (own_lt x1 x0).mp hc45
        refine g_aloadN X0 hx (pc' := 49) rfl (hb hby d9_48) rfl rfl ?_
        refine g_iloadN X0 hx (pc' := 50) rfl (hb hby d9_49) rfl ?_
        refine g_iconst X0 hx (pc' := 51) (z := (1 : Int32)) rfl (hb hby d9_50) rfl ?_
        refine g_iadd X0 hx (pc' := 52) rfl (hb hby d9_51) ?_
        refine g_normI (z := (1 : Int32)) (by decide) ?_
        refine g_aloadN X0 hx (pc' := 53) rfl (hb hby d9_52) rfl rfl ?_
        refine g_iloadN X0 hx (pc' := 54) rfl (hb hby d9_53) rfl ?_
        refine g_daload X0 hx hZ Aa (i := 0) (by decide) (show (0 : Nat) < 3 by decide) (v := (FP.i2d x0)) rfl (pc' := 55) rfl (hb hby d9_54) ?_
        refine g_dastore X0 hx hZ Aa (i := 1) (by decide) (show (1 : Nat) < 3 by decide) hg (pc' := 56) rfl (hb hby d9_55) (fun T23 h23 X23 W23 N23 => ?_)
        have f24 := (by have q := (Keep.of_wr W23).1; exact Nat.le_trans hn0 q : n0 ≤ h23.size)
        have f25 := (Keep.refl h0 [aa]).wr W23 (Or.inl (List.mem_of_getElem? (i := 0) rfl))
        have V23 : AD Z h23 aa [(FP.i2d x0), (FP.i2d x0), (FP.i2d x2)] := N23
        refine g_goto X23 hx (pc' := 31) (hb hby d9_56) (by decide) (by decide) ?_
        refine g_iincC X23 hx (pc' := 34) (x := (0 : Int32)) (z := (-1 : Int32)) rfl (hb hby d9_31) rfl (by decide) (l' := #[.val (.ref aa), .val (.int (0 : Int32)), .val (.int (3 : Int32)), .val (.int (-1 : Int32)), .val (.int (1 : Int32)), .val (.double (FP.i2d x1)), .second]) rfl ?_
        refine g_iloadN X23 hx (pc' := 35) rfl (hb hby d9_34) rfl ?_
        refine g_iloadN X23 hx (pc' := 36) rfl (hb hby d9_35) rfl ?_
        refine g_icmpY X23 hx (pcY := 59) (hb hby d9_36) (by decide) (by decide) (show (-1 : Int32) < (0 : Int32) from by decide) ?_
        refine g_aloadN X23 hx (pc' := 60) rfl (hb hby d9_59) rfl rfl ?_
        refine g_iloadN X23 hx (pc' := 61) rfl (hb hby d9_60) rfl ?_
        refine g_iconst X23 hx (pc' := 62) (z := (1 : Int32)) rfl (hb hby d9_61) rfl ?_
        refine g_iadd X23 hx (pc' := 63) rfl (hb hby d9_62) ?_
        refine g_normI (z := (0 : Int32)) (by decide) ?_
        refine g_dload X23 hx (pc' := 65) rfl (hb hby d9_63) rfl ?_
        refine g_dastore X23 hx hZ V23 (i := 0) (by decide) (show (0 : Nat) < 3 by decide) hg (pc' := 66) rfl (hb hby d9_65) (fun T26 h26 X26 W26 N26 => ?_)
        have f27 := (by have q := (Keep.of_wr W26).1; exact Nat.le_trans f24 q : n0 ≤ h26.size)
        have f28 := f25.wr W26 (Or.inl (List.mem_of_getElem? (i := 0) rfl))
        have V26 : AD Z h26 aa [(FP.i2d x1), (FP.i2d x0), (FP.i2d x2)] := N26
        refine g_goto X26 hx (pc' := 3) (hb hby d9_66) (by decide) (by decide) ?_
        exact J15 T26 h26 X26 _ _ x1 x0 V26 f28 f27 (by omega) (fun q => by have e := (c00) q; omega)
  intro T15 h15 X15 j15 d15 z0_15 z1_15 A15 K15 Zz15 s0_15 c15
  refine g_iincC X15 hx (pc' := 6) (x := (1 : Int32)) (z := (2 : Int32)) rfl (hb hby d9_3) rfl (by decide) (l' := #[.val (.ref aa), .val (.int (0 : Int32)), .val (.int (3 : Int32)), .val (.int j15), .val (.int (2 : Int32)), .val (.double d15), .second]) rfl ?_
  refine g_iload X15 hx (pc' := 8) rfl (hb hby d9_6) rfl ?_
  refine g_iloadN X15 hx (pc' := 9) rfl (hb hby d9_8) rfl ?_
  refine g_icmpN X15 hx (pcN := 12) (hb hby d9_9) rfl (show ¬ (¬ (2 : Int32) < (3 : Int32)) from by decide) ?_
  suffices J29 : ∀ (T29 : State) (h29 : Heap) (X29 : Wk p l e ({ frames := 0, cells := 0, slots := 0, locals := 0 } : Room) s m #[(.ref aa), (.int (0 : Int32)), (.int (3 : Int32))] below meth c n0 T29 h29 0 0) (j29 : Int32) (d29 : UInt64) (z0_29 z1_29 z2_29 : Int32), (AD Z h29 aa [(FP.i2d z0_29), (FP.i2d z1_29), (FP.i2d z2_29)]) → (Keep h0 h29 [aa]) → (n0 ≤ h29.size) → (z0_29.toInt ≤ z1_29.toInt) → (z1_29.toInt ≤ z2_29.toInt) → (∀ q : Int32, Cq q z0_29 + Cq q z1_29 + Cq q z2_29 = Cq q x0 + Cq q x1 + Cq q x2) → Go p e below s n0 (fun v h => v = none ∧ Keep h0 h [aa] ∧ ∃ y0 : Int32, ∃ y1 : Int32, ∃ y2 : Int32, AD Z h aa [(FP.i2d y0), (FP.i2d y1), (FP.i2d y2)] ∧ y0.toInt ≤ y1.toInt ∧ y1.toInt ≤ y2.toInt ∧ ∀ q : Int32, Cq q y0 + Cq q y1 + Cq q y2 = Cq q x0 + Cq q x1 + Cq q x2) ({ frames := 0, cells := 0, slots := 0, locals := 0 } : Room).cells ({ frames := 0, cells := 0, slots := 0, locals := 0 } : Room).slots (T29.setTop (mkF m 3 #[.val (.ref aa), .val (.int (0 : Int32)), .val (.int (3 : Int32)), .val (.int j29), .val (.int (2 : Int32)), .val (.double d29), .second] [])) by
    refine g_aloadN X15 hx (pc' := 13) rfl (hb hby d9_12) rfl rfl ?_
    refine g_iload X15 hx (pc' := 15) rfl (hb hby d9_13) rfl ?_
    refine g_dup X15 hx (pc' := 16) rfl (hb hby d9_15) rfl ?_
    refine g_istoreN X15 hx (pc' := 17) rfl (hb hby d9_16) (l' := #[.val (.ref aa), .val (.int (0 : Int32)), .val (.int (3 : Int32)), .val (.int (2 : Int32)), .val (.int (2 : Int32)), .val (.double d15), .second]) rfl ?_
    refine g_daload X15 hx hZ A15 (i := 2) (by decide) (show (2 : Nat) < 3 by decide) (v := (FP.i2d x2)) rfl (pc' := 18) rfl (hb hby d9_17) ?_
    refine g_dstore X15 hx (pc' := 20) rfl (hb hby d9_18) (l' := #[.val (.ref aa), .val (.int (0 : Int32)), .val (.int (3 : Int32)), .val (.int (2 : Int32)), .val (.int (2 : Int32)), .val (.double (FP.i2d x2)), .second]) rfl ?_
    refine g_dload X15 hx (pc' := 22) rfl (hb hby d9_20) rfl ?_
    refine g_aloadN X15 hx (pc' := 23) rfl (hb hby d9_22) rfl rfl ?_
    refine g_iloadN X15 hx (pc' := 24) rfl (hb hby d9_23) rfl ?_
    refine g_iconst X15 hx (pc' := 25) (z := (1 : Int32)) rfl (hb hby d9_24) rfl ?_
    refine g_isub X15 hx (pc' := 26) rfl (hb hby d9_25) ?_
    refine g_normI (z := (1 : Int32)) (by decide) ?_
    refine g_daload X15 hx hZ A15 (i := 1) (by decide) (show (1 : Nat) < 3 by decide) (v := (FP.i2d z1_15)) rfl (pc' := 27) rfl (hb hby d9_26) ?_
    refine g_dcmp X15 hx (pc' := 28) (z := (cmpValue (FP.dcmp (FP.i2d x2) (FP.i2d z1_15)) .g)) rfl (hb hby d9_27) rfl ?_
    refine g_if X15 hx (pcY := 66) (pcN := 31) (hb hby d9_28) (by decide) (by decide) rfl (fun hc28 => ?_) (fun hc28 => ?_)
    · replace hc28 : ¬ (cmpValue (FP.dcmp (FP.i2d x2) (FP.i2d z1_15)) .g) < 0 := hc28
      have g30 : z1_15.toInt ≤ x2.toInt := Int.not_lt.mp (fun z => hc28 ((own_lt x2 z1_15).mpr z))
      refine g_goto X15 hx (pc' := 3) (hb hby d9_66) (by decide) (by decide) ?_
      exact J29 T15 h15 X15 _ _ z0_15 z1_15 x2 A15 K15 Zz15 (by omega) (by omega) (fun q => by have e := (c15) q; omega)
    · replace hc28 : (cmpValue (FP.dcmp (FP.i2d x2) (FP.i2d z1_15)) .g) < 0 := Classical.not_not.mp hc28
      have g31 : x2.toInt < z1_15.toInt := (own_lt x2 z1_15).mp hc28
      refine g_iincC X15 hx (pc' := 34) (x := (2 : Int32)) (z := (1 : Int32)) rfl (hb hby d9_31) rfl (by decide) (l' := #[.val (.ref aa), .val (.int (0 : Int32)), .val (.int (3 : Int32)), .val (.int (1 : Int32)), .val (.int (2 : Int32)), .val (.double (FP.i2d x2)), .second]) rfl ?_
      refine g_iloadN X15 hx (pc' := 35) rfl (hb hby d9_34) rfl ?_
      refine g_iloadN X15 hx (pc' := 36) rfl (hb hby d9_35) rfl ?_
      refine g_icmpN X15 hx (pcN := 39) (hb hby d9_36) rfl (show ¬ ((1 : Int32) < (0 : Int32)) from by decide) ?_
      refine g_dload X15 hx (pc' := 41) rfl (hb hby d9_39) rfl ?_
      refine g_aloadN X15 hx (pc' := 42) rfl (hb hby d9_41) rfl rfl ?_
      refine g_iloadN X15 hx (pc' := 43) rfl (hb hby d9_42) rfl ?_
      refine g_daload X15 hx hZ A15 (i := 1) (by decide) (show (1 : Nat) < 3 by decide) (v := (FP.i2d z1_15)) rfl (pc' := 44) rfl (hb hby d9_43) ?_
      refine g_dcmp X15 hx (pc' := 45) (z := (cmpValue (FP.dcmp (FP.i2d x2) (FP.i2d z1_15)) .g)) rfl (hb hby d9_44) rfl ?_
      refine g_if X15 hx (pcY := 59) (pcN := 48) (hb hby d9_45) (by decide) (by decide) rfl (fun hc45 => ?_) (fun hc45 => ?_)
      · replace hc45 : ¬ (cmpValue (FP.dcmp (FP.i2d x2) (FP.i2d z1_15)) .g) < 0 := hc45
        have g32 : z1_15.toInt ≤ x2.toInt := Int.not_lt.mp (fun z => hc45 ((own_lt x2 z1_15).mpr z))
        refine g_aloadN X15 hx (pc' := 60) rfl (hb hby d9_59) rfl rfl ?_
        refine g_iloadN X15 hx (pc' := 61) rfl (hb hby d9_60) rfl ?_
        refine g_iconst X15 hx (pc' := 62) (z := (1 : Int32)) rfl (hb hby d9_61) rfl ?_
        refine g_iadd X15 hx (pc' := 63) rfl (hb hby d9_62) ?_
        refine g_normI (z := (2 : Int32)) (by decide) ?_
        refine g_dload X15 hx (pc' := 65) rfl (hb hby d9_63) rfl ?_
        refine g_dastore X15 hx hZ A15 (i := 2) (by decide) (show (2 : Nat) < 3 by decide) hg (pc' := 66) rfl (hb hby d9_65) (fun T33 h33 X33 W33 N33 => ?_)
        have f34 := (by have q := (Keep.of_wr W33).1; exact Nat.le_trans Zz15 q : n0 ≤ h33.size)
        have f35 := K15.wr W33 (Or.inl (List.mem_of_getElem? (i := 0) rfl))
        have V33 : AD Z h33 aa [(FP.i2d z0_15), (FP.i2d z1_15), (FP.i2d x2)] := N33
        refine g_goto X33 hx (pc' := 3) (hb hby d9_66) (by decide) (by decide) ?_
        exact J29 T33 h33 X33 _ _ z0_15 z1_15 x2 V33 f35 f34 (by omega) (by omega) (fun q => by have e := (c15) q; omega)
      · replace hc45 : (cmpValue (FP.dcmp (FP.i2d x2) (FP.i2d z1_15)) .g) < 0 := Classical.not_not.mp hc45
        have g36 : x2.toInt < z1_15.toInt := (own_lt x2 z1_15).mp hc45
        refine g_aloadN X15 hx (pc' := 49) rfl (hb hby d9_48) rfl rfl ?_
        refine g_iloadN X15 hx (pc' := 50) rfl (hb hby d9_49) rfl ?_
        refine g_iconst X15 hx (pc' := 51) (z := (1 : Int32)) rfl (hb hby d9_50) rfl ?_
        refine g_iadd X15 hx (pc' := 52) rfl (hb hby d9_51) ?_
        refine g_normI (z := (2 : Int32)) (by decide) ?_
        refine g_aloadN X15 hx (pc' := 53) rfl (hb hby d9_52) rfl rfl ?_
        refine g_iloadN X15 hx (pc' := 54) rfl (hb hby d9_53) rfl ?_
        refine g_daload X15 hx hZ A15 (i := 1) (by decide) (show (1 : Nat) < 3 by decide) (v := (FP.i2d z1_15)) rfl (pc' := 55) rfl (hb hby d9_54) ?_
        refine g_dastore X15 hx hZ A15 (i := 2) (by decide) (show (2 : Nat) < 3 by decide) hg (pc' := 56) rfl (hb hby d9_55) (fun T37 h37 X37 W37 N37 => ?_)
        have f38 := (by have q := (Keep.of_wr W37).1; exact Nat.le_trans Zz15 q : n0 ≤ h37.size)
        have f39 := K15.wr W37 (Or.inl (List.mem_of_getElem? (i := 0) rfl))
        have V37 : AD Z h37 aa [(FP.i2d z0_15), (FP.i2d z1_15), (FP.i2d z1_15)] := N37
        refine g_goto X37 hx (pc' := 31) (hb hby d9_56) (by decide) (by decide) ?_
        refine g_iincC X37 hx (pc' := 34) (x := (1 : Int32)) (z := (0 : Int32)) rfl (hb hby d9_31) rfl (by decide) (l' := #[.val (.ref aa), .val (.int (0 : Int32)), .val (.int (3 : Int32)), .val (.int (0 : Int32)), .val (.int (2 : Int32)), .val (.double (FP.i2d x2)), .second]) rfl ?_
        refine g_iloadN X37 hx (pc' := 35) rfl (hb hby d9_34) rfl ?_
        refine g_iloadN X37 hx (pc' := 36) rfl (hb hby d9_35) rfl ?_
        refine g_icmpN X37 hx (pcN := 39) (hb hby d9_36) rfl (show ¬ ((0 : Int32) < (0 : Int32)) from by decide) ?_
        refine g_dload X37 hx (pc' := 41) rfl (hb hby d9_39) rfl ?_
        refine g_aloadN X37 hx (pc' := 42) rfl (hb hby d9_41) rfl rfl ?_
        refine g_iloadN X37 hx (pc' := 43) rfl (hb hby d9_42) rfl ?_
        refine g_daload X37 hx hZ V37 (i := 0) (by decide) (show (0 : Nat) < 3 by decide) (v := (FP.i2d z0_15)) rfl (pc' := 44) rfl (hb hby d9_43) ?_
        refine g_dcmp X37 hx (pc' := 45) (z := (cmpValue (FP.dcmp (FP.i2d x2) (FP.i2d z0_15)) .g)) rfl (hb hby d9_44) rfl ?_
        refine g_if X37 hx (pcY := 59) (pcN := 48) (hb hby d9_45) (by decide) (by decide) rfl (fun hc45 => ?_) (fun hc45 => ?_)
        · replace hc45 : ¬ (cmpValue (FP.dcmp (FP.i2d x2) (FP.i2d z0_15)) .g) < 0 := hc45
          have g40 : z0_15.toInt ≤ x2.toInt := Int.not_lt.mp (fun z => hc45 ((own_lt x2 z0_15).mpr z))
          refine g_aloadN X37 hx (pc' := 60) rfl (hb hby d9_59) rfl rfl ?_
          refine g_iloadN X37 hx (pc' := 61) rfl (hb hby d9_60) rfl ?_
          refine g_iconst X37 hx (pc' := 62) (z := (1 : Int32)) rfl (hb hby d9_61) rfl ?_
          refine g_iadd X37 hx (pc' := 63) rfl (hb hby d9_62) ?_
          refine g_normI (z := (1 : Int32)) (by decide) ?_
          refine g_dload X37 hx (pc' := 65) rfl (hb hby d9_63) rfl ?_
          refine g_dastore X37 hx hZ V37 (i := 1) (by decide) (show (1 : Nat) < 3 by decide) hg (pc' := 66) rfl (hb hby d9_65) (fun T41 h41 X41 W41 N41 => ?_)
          have f42 := (by have q := (Keep.of_wr W41).1; exact Nat.le_trans f38 q : n0 ≤ h41.size)
          have f43 := f39.wr W41 (Or.inl (List.mem_of_getElem? (i := 0) rfl))
          have V41 : AD Z h41 aa [(FP.i2d z0_15), (FP.i2d x2), (FP.i2d z1_15)] := N41
          refine g_goto X41 hx (pc' := 3) (hb hby d9_66) (by decide) (by decide) ?_
          exact J29 T41 h41 X41 _ _ z0_15 x2 z1_15 V41 f43 f42 (by omega) (by omega) (fun q => by have e := (c15) q; omega)
        · replace hc45 : (cmpValue (FP.dcmp (FP.i2d x2) (FP.i2d z0_15)) .g) < 0 := Classical.not_not.mp hc45
          have g44 : x2.toInt < z0_15.toInt := (own_lt x2 z0_15).mp hc45
          refine g_aloadN X37 hx (pc' := 49) rfl (hb hby d9_48) rfl rfl ?_
          refine g_iloadN X37 hx (pc' := 50) rfl (hb hby d9_49) rfl ?_
          refine g_iconst X37 hx (pc' := 51) (z := (1 : Int32)) rfl (hb hby d9_50) rfl ?_
          refine g_iadd X37 hx (pc' := 52) rfl (hb hby d9_51) ?_
          refine g_normI (z := (1 : Int32)) (by decide) ?_
          refine g_aloadN X37 hx (pc' := 53) rfl (hb hby d9_52) rfl rfl ?_
          refine g_iloadN X37 hx (pc' := 54) rfl (hb hby d9_53) rfl ?_
          refine g_daload X37 hx hZ V37 (i := 0) (by decide) (show (0 : Nat) < 3 by decide) (v := (FP.i2d z0_15)) rfl (pc' := 55) rfl (hb hby d9_54) ?_
          refine g_dastore X37 hx hZ V37 (i := 1) (by decide) (show (1 : Nat) < 3 by decide) hg (pc' := 56) rfl (hb hby d9_55) (fun T45 h45 X45 W45 N45 => ?_)
          have f46 := (by have q := (Keep.of_wr W45).1; exact Nat.le_trans f38 q : n0 ≤ h45.size)
          have f47 := f39.wr W45 (Or.inl (List.mem_of_getElem? (i := 0) rfl))
          have V45 : AD Z h45 aa [(FP.i2d z0_15), (FP.i2d z0_15), (FP.i2d z1_15)] := N45
          refine g_goto X45 hx (pc' := 31) (hb hby d9_56) (by decide) (by decide) ?_
          refine g_iincC X45 hx (pc' := 34) (x := (0 : Int32)) (z := (-1 : Int32)) rfl (hb hby d9_31) rfl (by decide) (l' := #[.val (.ref aa), .val (.int (0 : Int32)), .val (.int (3 : Int32)), .val (.int (-1 : Int32)), .val (.int (2 : Int32)), .val (.double (FP.i2d x2)), .second]) rfl ?_
          refine g_iloadN X45 hx (pc' := 35) rfl (hb hby d9_34) rfl ?_
          refine g_iloadN X45 hx (pc' := 36) rfl (hb hby d9_35) rfl ?_
          refine g_icmpY X45 hx (pcY := 59) (hb hby d9_36) (by decide) (by decide) (show (-1 : Int32) < (0 : Int32) from by decide) ?_
          refine g_aloadN X45 hx (pc' := 60) rfl (hb hby d9_59) rfl rfl ?_
          refine g_iloadN X45 hx (pc' := 61) rfl (hb hby d9_60) rfl ?_
          refine g_iconst X45 hx (pc' := 62) (z := (1 : Int32)) rfl (hb hby d9_61) rfl ?_
          refine g_iadd X45 hx (pc' := 63) rfl (hb hby d9_62) ?_
          refine g_normI (z := (0 : Int32)) (by decide) ?_
          refine g_dload X45 hx (pc' := 65) rfl (hb hby d9_63) rfl ?_
          refine g_dastore X45 hx hZ V45 (i := 0) (by decide) (show (0 : Nat) < 3 by decide) hg (pc' := 66) rfl (hb hby d9_65) (fun T48 h48 X48 W48 N48 => ?_)
          have f49 := (by have q := (Keep.of_wr W48).1; exact Nat.le_trans f46 q : n0 ≤ h48.size)
          have f50 := f47.wr W48 (Or.inl (List.mem_of_getElem? (i := 0) rfl))
          have V48 : AD Z h48 aa [(FP.i2d x2), (FP.i2d z0_15), (FP.i2d z1_15)] := N48
          refine g_goto X48 hx (pc' := 3) (hb hby d9_66) (by decide) (by decide) ?_
          exact J29 T48 h48 X48 _ _ x2 z0_15 z1_15 V48 f50 f49 (by omega) (by omega) (fun q => by have e := (c15) q; omega)
  intro T29 h29 X29 j29 d29 z0_29 z1_29 z2_29 A29 K29 Zz29 s0_29 s1_29 c29
  refine g_iincC X29 hx (pc' := 6) (x := (2 : Int32)) (z := (3 : Int32)) rfl (hb hby d9_3) rfl (by decide) (l' := #[.val (.ref aa), .val (.int (0 : Int32)), .val (.int (3 : Int32)), .val (.int j29), .val (.int (3 : Int32)), .val (.double d29), .second]) rfl ?_
  refine g_iload X29 hx (pc' := 8) rfl (hb hby d9_6) rfl ?_
  refine g_iloadN X29 hx (pc' := 9) rfl (hb hby d9_8) rfl ?_
  refine g_icmpY X29 hx (pcY := 69) (hb hby d9_9) (by decide) (by decide) (show ¬ (3 : Int32) < (3 : Int32) from by decide) ?_
  exact g_retV X29 hx hlk hret (hb hby d9_69) (by decide) (by decide) (⟨rfl, K29, z0_29, z1_29, z2_29, A29, s0_29, s1_29, c29⟩)
set_option maxRecDepth 65536 in
set_option maxHeartbeats 40000000 in
theorem rm9_4 (l : Launch) (Z : State) (a0 : Array Value) (hw : ∀ d ∈ tables_1, d.before a0 Z = true) (ws : List Jvm.Cond) (n0 : Nat) (aa : Addr) (x0 : Int32) (x1 : Int32) (x2 : Int32) (x3 : Int32) (h0 : Heap) (hn0 : n0 ≤ h0.size) (Aa : AD Z h0 aa [(FP.i2d x0), (FP.i2d x1), (FP.i2d x2), (FP.i2d x3)]) (hg : n0 ≤ aa) :
    Con l Z n0 (⟨"java/util/DualPivotQuicksort", "insertionSort", "([DII)V"⟩ : MethodName) jdk_2529_method_44_code 7 none ws ({ frames := 0, cells := 0, slots := 0, locals := 0 } : Room) #[(.ref aa), (.int (0 : Int32)), (.int (4 : Int32))] h0 (fun v h => v = none ∧ Keep h0 h [aa] ∧ ∃ y0 : Int32, ∃ y1 : Int32, ∃ y2 : Int32, ∃ y3 : Int32, AD Z h aa [(FP.i2d y0), (FP.i2d y1), (FP.i2d y2), (FP.i2d y3)] ∧ y0.toInt ≤ y1.toInt ∧ y1.toInt ≤ y2.toInt ∧ y2.toInt ≤ y3.toInt ∧ ∀ q : Int32, Cq q y0 + Cq q y1 + Cq q y2 + Cq q y3 = Cq q x0 + Cq q x1 + Cq q x2 + Cq q x3) := by
  refine con_start (plainFor_of_name (by first | (simp [plainName, overriddenIn]; done) | decide +kernel)) (fr0 := fun m => mkF m 0 #[.val (.ref aa), .val (.int (0 : Int32)), .val (.int (4 : Int32)), .unset, .unset, .unset, .unset] []) (fun m => by first | (simp [entryFrame, mkF, argsToLocals, Value.category]; done) | rfl) ?_
  intro p e s m below meth c T0 hx hZ hby hml hown hnm hret hlk X0
  replace hown : s.vm.findClass "java/util/DualPivotQuicksort" = some m.cls := hown
  replace hml : c.maxLocals = 7 := hml
  refine g_iloadN X0 hx (pc' := 1) rfl (hb hby d9_0) rfl ?_
  refine g_istore X0 hx (pc' := 3) rfl (hb hby d9_1) (l' := #[.val (.ref aa), .val (.int (0 : Int32)), .val (.int (4 : Int32)), .unset, .val (.int (0 : Int32)), .unset, .unset]) rfl ?_
  have c00 : ∀ q : Int32, Cq q x0 = Cq q x0 := fun q => rfl
  refine g_iincC X0 hx (pc' := 6) (x := (0 : Int32)) (z := (1 : Int32)) rfl (hb hby d9_3) rfl (by decide) (l' := #[.val (.ref aa), .val (.int (0 : Int32)), .val (.int (4 : Int32)), .unset, .val (.int (1 : Int32)), .unset, .unset]) rfl ?_
  refine g_iload X0 hx (pc' := 8) rfl (hb hby d9_6) rfl ?_
  refine g_iloadN X0 hx (pc' := 9) rfl (hb hby d9_8) rfl ?_
  refine g_icmpN X0 hx (pcN := 12) (hb hby d9_9) rfl (show ¬ (¬ (1 : Int32) < (4 : Int32)) from by decide) ?_
  suffices J51 : ∀ (T51 : State) (h51 : Heap) (X51 : Wk p l e ({ frames := 0, cells := 0, slots := 0, locals := 0 } : Room) s m #[(.ref aa), (.int (0 : Int32)), (.int (4 : Int32))] below meth c n0 T51 h51 0 0) (j51 : Int32) (d51 : UInt64) (z0_51 z1_51 : Int32), (AD Z h51 aa [(FP.i2d z0_51), (FP.i2d z1_51), (FP.i2d x2), (FP.i2d x3)]) → (Keep h0 h51 [aa]) → (n0 ≤ h51.size) → (z0_51.toInt ≤ z1_51.toInt) → (∀ q : Int32, Cq q z0_51 + Cq q z1_51 = Cq q x0 + Cq q x1) → Go p e below s n0 (fun v h => v = none ∧ Keep h0 h [aa] ∧ ∃ y0 : Int32, ∃ y1 : Int32, ∃ y2 : Int32, ∃ y3 : Int32, AD Z h aa [(FP.i2d y0), (FP.i2d y1), (FP.i2d y2), (FP.i2d y3)] ∧ y0.toInt ≤ y1.toInt ∧ y1.toInt ≤ y2.toInt ∧ y2.toInt ≤ y3.toInt ∧ ∀ q : Int32, Cq q y0 + Cq q y1 + Cq q y2 + Cq q y3 = Cq q x0 + Cq q x1 + Cq q x2 + Cq q x3) ({ frames := 0, cells := 0, slots := 0, locals := 0 } : Room).cells ({ frames := 0, cells := 0, slots := 0, locals := 0 } : Room).slots (T51.setTop (mkF m 3 #[.val (.ref aa), .val (.int (0 : Int32)), .val (.int (4 : Int32)), .val (.int j51), .val (.int (1 : Int32)), .val (.double d51), .second] [])) by
    refine g_aloadN X0 hx (pc' := 13) rfl (hb hby d9_12) rfl rfl ?_
    refine g_iload X0 hx (pc' := 15) rfl (hb hby d9_13) rfl ?_
    refine g_dup X0 hx (pc' := 16) rfl (hb hby d9_15) rfl ?_
    refine g_istoreN X0 hx (pc' := 17) rfl (hb hby d9_16) (l' := #[.val (.ref aa), .val (.int (0 : Int32)), .val (.int (4 : Int32)), .val (.int (1 : Int32)), .val (.int (1 : Int32)), .unset, .unset]) rfl ?_
    refine g_daload X0 hx hZ Aa (i := 1) (by decide) (show (1 : Nat) < 4 by decide) (v := (FP.i2d x1)) rfl (pc' := 18) rfl (hb hby d9_17) ?_
    refine g_dstore X0 hx (pc' := 20) rfl (hb hby d9_18) (l' := #[.val (.ref aa), .val (.int (0 : Int32)), .val (.int (4 : Int32)), .val (.int (1 : Int32)), .val (.int (1 : Int32)), .val (.double (FP.i2d x1)), .second]) rfl ?_
    refine g_dload X0 hx (pc' := 22) rfl (hb hby d9_20) rfl ?_
    refine g_aloadN X0 hx (pc' := 23) rfl (hb hby d9_22) rfl rfl ?_
    refine g_iloadN X0 hx (pc' := 24) rfl (hb hby d9_23) rfl ?_
    refine g_iconst X0 hx (pc' := 25) (z := (1 : Int32)) rfl (hb hby d9_24) rfl ?_
    refine g_isub X0 hx (pc' := 26) rfl (hb hby d9_25) ?_
    refine g_normI (z := (0 : Int32)) (by decide) ?_
    refine g_daload X0 hx hZ Aa (i := 0) (by decide) (show (0 : Nat) < 4 by decide) (v := (FP.i2d x0)) rfl (pc' := 27) rfl (hb hby d9_26) ?_
    refine g_dcmp X0 hx (pc' := 28) (z := (cmpValue (FP.dcmp (FP.i2d x1) (FP.i2d x0)) .g)) rfl (hb hby d9_27) rfl ?_
    refine g_if X0 hx (pcY := 66) (pcN := 31) (hb hby d9_28) (by decide) (by decide) rfl (fun hc28 => ?_) (fun hc28 => ?_)
    · replace hc28 : ¬ (cmpValue (FP.dcmp (FP.i2d x1) (FP.i2d x0)) .g) < 0 := hc28
      have g52 : x0.toInt ≤ x1.toInt := Int.not_lt.mp (fun z => hc28 ((own_lt x1 x0).mpr z))
      refine g_goto X0 hx (pc' := 3) (hb hby d9_66) (by decide) (by decide) ?_
      exact J51 T0 h0 X0 _ _ x0 x1 Aa (Keep.refl h0 [aa]) hn0 (by omega) (fun q => by have e := (c00) q; omega)
    · replace hc28 : (cmpValue (FP.dcmp (FP.i2d x1) (FP.i2d x0)) .g) < 0 := Classical.not_not.mp hc28
      have g53 : x1.toInt < x0.toInt := (own_lt x1 x0).mp hc28
      refine g_iincC X0 hx (pc' := 34) (x := (1 : Int32)) (z := (0 : Int32)) rfl (hb hby d9_31) rfl (by decide) (l' := #[.val (.ref aa), .val (.int (0 : Int32)), .val (.int (4 : Int32)), .val (.int (0 : Int32)), .val (.int (1 : Int32)), .val (.double (FP.i2d x1)), .second]) rfl ?_
      refine g_iloadN X0 hx (pc' := 35) rfl (hb hby d9_34) rfl ?_
      refine g_iloadN X0 hx (pc' := 36) rfl (hb hby d9_35) rfl ?_
      refine g_icmpN X0 hx (pcN := 39) (hb hby d9_36) rfl (show ¬ ((0 : Int32) < (0 : Int32)) from by decide) ?_
      refine g_dload X0 hx (pc' := 41) rfl (hb hby d9_39) rfl ?_
      refine g_aloadN X0 hx (pc' := 42) rfl (hb hby d9_41) rfl rfl ?_
      refine g_iloadN X0 hx (pc' := 43) rfl (hb hby d9_42) rfl ?_
      refine g_daload X0 hx hZ Aa (i := 0) (by decide) (show (0 : Nat) < 4 by decide) (v := (FP.i2d x0)) rfl (pc' := 44) rfl (hb hby d9_43) ?_
      refine g_dcmp X0 hx (pc' := 45) (z := (cmpValue (FP.dcmp (FP.i2d x1) (FP.i2d x0)) .g)) rfl (hb hby d9_44) rfl ?_
      refine g_if X0 hx (pcY := 59) (pcN := 48) (hb hby d9_45) (by decide) (by decide) rfl (fun hc45 => ?_) (fun hc45 => ?_)
      · replace hc45 : ¬ (cmpValue (FP.dcmp (FP.i2d x1) (FP.i2d x0)) .g) < 0 := hc45
        have g54 : x0.toInt ≤ x1.toInt := Int.not_lt.mp (fun z => hc45 ((own_lt x1 x0).mpr z))
        refine g_aloadN X0 hx (pc' := 60) rfl (hb hby d9_59) rfl rfl ?_
        refine g_iloadN X0 hx (pc' := 61) rfl (hb hby d9_60) rfl ?_
        refine g_iconst X0 hx (pc' := 62) (z := (1 : Int32)) rfl (hb hby d9_61) rfl ?_
        refine g_iadd X0 hx (pc' := 63) rfl (hb hby d9_62) ?_
        refine g_normI (z := (1 : Int32)) (by decide) ?_
        refine g_dload X0 hx (pc' := 65) rfl (hb hby d9_63) rfl ?_
        refine g_dastore X0 hx hZ Aa (i := 1) (by decide) (show (1 : Nat) < 4 by decide) hg (pc' := 66) rfl (hb hby d9_65) (fun T55 h55 X55 W55 N55 => ?_)
        have f56 := (by have q := (Keep.of_wr W55).1; exact Nat.le_trans hn0 q : n0 ≤ h55.size)
        have f57 := (Keep.refl h0 [aa]).wr W55 (Or.inl (List.mem_of_getElem? (i := 0) rfl))
        have V55 : AD Z h55 aa [(FP.i2d x0), (FP.i2d x1), (FP.i2d x2), (FP.i2d x3)] := N55
        refine g_goto X55 hx (pc' := 3) (hb hby d9_66) (by decide) (by decide) ?_
        exact J51 T55 h55 X55 _ _ x0 x1 V55 f57 f56 (by omega) (fun q => by have e := (c00) q; omega)
      · replace hc45 : (cmpValue (FP.dcmp (FP.i2d x1) (FP.i2d x0)) .g) < 0 := Classical.not_not.mp hc45
        have g58 : x1.toInt < x0.toInt := (own_lt x1 x0).mp hc45
        refine g_aloadN X0 hx (pc' := 49) rfl (hb hby d9_48) rfl rfl ?_
        refine g_iloadN X0 hx (pc' := 50) rfl (hb hby d9_49) rfl ?_
        refine g_iconst X0 hx (pc' := 51) (z := (1 : Int32)) rfl (hb hby d9_50) rfl ?_
        refine g_iadd X0 hx (pc' := 52) rfl (hb hby d9_51) ?_
        refine g_normI (z := (1 : Int32)) (by decide) ?_
        refine g_aloadN X0 hx (pc' := 53) rfl (hb hby d9_52) rfl rfl ?_
        refine g_iloadN X0 hx (pc' := 54) rfl (hb hby d9_53) rfl ?_
        refine g_daload X0 hx hZ Aa (i := 0) (by decide) (show (0 : Nat) < 4 by decide) (v := (FP.i2d x0)) rfl (pc' := 55) rfl (hb hby d9_54) ?_
        refine g_dastore X0 hx hZ Aa (i := 1) (by decide) (show (1 : Nat) < 4 by decide) hg (pc' := 56) rfl (hb hby d9_55) (fun T59 h59 X59 W59 N59 => ?_)
        have f60 := (by have q := (Keep.of_wr W59).1; exact Nat.le_trans hn0 q : n0 ≤ h59.size)
        have f61 := (Keep.refl h0 [aa]).wr W59 (Or.inl (List.mem_of_getElem? (i := 0) rfl))
        have V59 : AD Z h59 aa [(FP.i2d x0), (FP.i2d x0), (FP.i2d x2), (FP.i2d x3)] := N59
        refine g_goto X59 hx (pc' := 31) (hb hby d9_56) (by decide) (by decide) ?_
        refine g_iincC X59 hx (pc' := 34) (x := (0 : Int32)) (z := (-1 : Int32)) rfl (hb hby d9_31) rfl (by decide) (l' := #[.val (.ref aa), .val (.int (0 : Int32)), .val (.int (4 : Int32)), .val (.int (-1 : Int32)), .val (.int (1 : Int32)), .val (.double (FP.i2d x1)), .second]) rfl ?_
        refine g_iloadN X59 hx (pc' := 35) rfl (hb hby d9_34) rfl ?_
        refine g_iloadN X59 hx (pc' := 36) rfl (hb hby d9_35) rfl ?_
        refine g_icmpY X59 hx (pcY := 59) (hb hby d9_36) (by decide) (by decide) (show (-1 : Int32) < (0 : Int32) from by decide) ?_
        refine g_aloadN X59 hx (pc' := 60) rfl (hb hby d9_59) rfl rfl ?_
        refine g_iloadN X59 hx (pc' := 61) rfl (hb hby d9_60) rfl ?_
        refine g_iconst X59 hx (pc' := 62) (z := (1 : Int32)) rfl (hb hby d9_61) rfl ?_
        refine g_iadd X59 hx (pc' := 63) rfl (hb hby d9_62) ?_
        refine g_normI (z := (0 : Int32)) (by decide) ?_
        refine g_dload X59 hx (pc' := 65) rfl (hb hby d9_63) rfl ?_
        refine g_dastore X59 hx hZ V59 (i := 0) (by decide) (show (0 : Nat) < 4 by decide) hg (pc' := 66) rfl (hb hby d9_65) (fun T62 h62 X62 W62 N62 => ?_)
        have f63 := (by have q := (Keep.of_wr W62).1; exact Nat.le_trans f60 q : n0 ≤ h62.size)
        have f64 := f61.wr W62 (Or.inl (List.mem_of_getElem? (i := 0) rfl))
        have V62 : AD Z h62 aa [(FP.i2d x1), (FP.i2d x0), (FP.i2d x2), (FP.i2d x3)] := N62
        refine g_goto X62 hx (pc' := 3) (hb hby d9_66) (by decide) (by decide) ?_
        exact J51 T62 h62 X62 _ _ x1 x0 V62 f64 f63 (by omega) (fun q => by have e := (c00) q; omega)
  intro T51 h51 X51 j51 d51 z0_51 z1_51 A51 K51 Zz51 s0_51 c51
  refine g_iincC X51 hx (pc' := 6) (x := (1 : Int32)) (z := (2 : Int32)) rfl (hb hby d9_3) rfl (by decide) (l' := #[.val (.ref aa), .val (.int (0 : Int32)), .val (.int (4 : Int32)), .val (.int j51), .val (.int (2 : Int32)), .val (.double d51), .second]) rfl ?_
  refine g_iload X51 hx (pc' := 8) rfl (hb hby d9_6) rfl ?_
  refine g_iloadN X51 hx (pc' := 9) rfl (hb hby d9_8) rfl ?_
  refine g_icmpN X51 hx (pcN := 12) (hb hby d9_9) rfl (show ¬ (¬ (2 : Int32) < (4 : Int32)) from by decide) ?_
  suffices J65 : ∀ (T65 : State) (h65 : Heap) (X65 : Wk p l e ({ frames := 0, cells := 0, slots := 0, locals := 0 } : Room) s m #[(.ref aa), (.int (0 : Int32)), (.int (4 : Int32))] below meth c n0 T65 h65 0 0) (j65 : Int32) (d65 : UInt64) (z0_65 z1_65 z2_65 : Int32), (AD Z h65 aa [(FP.i2d z0_65), (FP.i2d z1_65), (FP.i2d z2_65), (FP.i2d x3)]) → (Keep h0 h65 [aa]) → (n0 ≤ h65.size) → (z0_65.toInt ≤ z1_65.toInt) → (z1_65.toInt ≤ z2_65.toInt) → (∀ q : Int32, Cq q z0_65 + Cq q z1_65 + Cq q z2_65 = Cq q x0 + Cq q x1 + Cq q x2) → Go p e below s n0 (fun v h => v = none ∧ Keep h0 h [aa] ∧ ∃ y0 : Int32, ∃ y1 : Int32, ∃ y2 : Int32, ∃ y3 : Int32, AD Z h aa [(FP.i2d y0), (FP.i2d y1), (FP.i2d y2), (FP.i2d y3)] ∧ y0.toInt ≤ y1.toInt ∧ y1.toInt ≤ y2.toInt ∧ y2.toInt ≤ y3.toInt ∧ ∀ q : Int32, Cq q y0 + Cq q y1 + Cq q y2 + Cq q y3 = Cq q x0 + Cq q x1 + Cq q x2 + Cq q x3) ({ frames := 0, cells := 0, slots := 0, locals := 0 } : Room).cells ({ frames := 0, cells := 0, slots := 0, locals := 0 } : Room).slots (T65.setTop (mkF m 3 #[.val (.ref aa), .val (.int (0 : Int32)), .val (.int (4 : Int32)), .val (.int j65), .val (.int (2 : Int32)), .val (.double d65), .second] [])) by
    refine g_aloadN X51 hx (pc' := 13) rfl (hb hby d9_12) rfl rfl ?_
    refine g_iload X51 hx (pc' := 15) rfl (hb hby d9_13) rfl ?_
    refine g_dup X51 hx (pc' := 16) rfl (hb hby d9_15) rfl ?_
    refine g_istoreN X51 hx (pc' := 17) rfl (hb hby d9_16) (l' := #[.val (.ref aa), .val (.int (0 : Int32)), .val (.int (4 : Int32)), .val (.int (2 : Int32)), .val (.int (2 : Int32)), .val (.double d51), .second]) rfl ?_
    refine g_daload X51 hx hZ A51 (i := 2) (by decide) (show (2 : Nat) < 4 by decide) (v := (FP.i2d x2)) rfl (pc' := 18) rfl (hb hby d9_17) ?_
    refine g_dstore X51 hx (pc' := 20) rfl (hb hby d9_18) (l' := #[.val (.ref aa), .val (.int (0 : Int32)), .val (.int (4 : Int32)), .val (.int (2 : Int32)), .val (.int (2 : Int32)), .val (.double (FP.i2d x2)), .second]) rfl ?_
    refine g_dload X51 hx (pc' := 22) rfl (hb hby d9_20) rfl ?_
    refine g_aloadN X51 hx (pc' := 23) rfl (hb hby d9_22) rfl rfl ?_
    refine g_iloadN X51 hx (pc' := 24) rfl (hb hby d9_23) rfl ?_
    refine g_iconst X51 hx (pc' := 25) (z := (1 : Int32)) rfl (hb hby d9_24) rfl ?_
    refine g_isub X51 hx (pc' := 26) rfl (hb hby d9_25) ?_
    refine g_normI (z := (1 : Int32)) (by decide) ?_
    refine g_daload X51 hx hZ A51 (i := 1) (by decide) (show (1 : Nat) < 4 by decide) (v := (FP.i2d z1_51)) rfl (pc' := 27) rfl (hb hby d9_26) ?_
    refine g_dcmp X51 hx (pc' := 28) (z := (cmpValue (FP.dcmp (FP.i2d x2) (FP.i2d z1_51)) .g)) rfl (hb hby d9_27) rfl ?_
    refine g_if X51 hx (pcY := 66) (pcN := 31) (hb hby d9_28) (by decide) (by decide) rfl (fun hc28 => ?_) (fun hc28 => ?_)
    · replace hc28 : ¬ (cmpValue (FP.dcmp (FP.i2d x2) (FP.i2d z1_51)) .g) < 0 := hc28
      have g66 : z1_51.toInt ≤ x2.toInt := Int.not_lt.mp (fun z => hc28 ((own_lt x2 z1_51).mpr z))
      refine g_goto X51 hx (pc' := 3) (hb hby d9_66) (by decide) (by decide) ?_
      exact J65 T51 h51 X51 _ _ z0_51 z1_51 x2 A51 K51 Zz51 (by omega) (by omega) (fun q => by have e := (c51) q; omega)
    · replace hc28 : (cmpValue (FP.dcmp (FP.i2d x2) (FP.i2d z1_51)) .g) < 0 := Classical.not_not.mp hc28
      have g67 : x2.toInt < z1_51.toInt := (own_lt x2 z1_51).mp hc28
      refine g_iincC X51 hx (pc' := 34) (x := (2 : Int32)) (z := (1 : Int32)) rfl (hb hby d9_31) rfl (by decide) (l' := #[.val (.ref aa), .val (.int (0 : Int32)), .val (.int (4 : Int32)), .val (.int (1 : Int32)), .val (.int (2 : Int32)), .val (.double (FP.i2d x2)), .second]) rfl ?_
      refine g_iloadN X51 hx (pc' := 35) rfl (hb hby d9_34) rfl ?_
      refine g_iloadN X51 hx (pc' := 36) rfl (hb hby d9_35) rfl ?_
      refine g_icmpN X51 hx (pcN := 39) (hb hby d9_36) rfl (show ¬ ((1 : Int32) < (0 : Int32)) from by decide) ?_
      refine g_dload X51 hx (pc' := 41) rfl (hb hby d9_39) rfl ?_
      refine g_aloadN X51 hx (pc' := 42) rfl (hb hby d9_41) rfl rfl ?_
      refine g_iloadN X51 hx (pc' := 43) rfl (hb hby d9_42) rfl ?_
      refine g_daload X51 hx hZ A51 (i := 1) (by decide) (show (1 : Nat) < 4 by decide) (v := (FP.i2d z1_51)) rfl (pc' := 44) rfl (hb hby d9_43) ?_
      refine g_dcmp X51 hx (pc' := 45) (z := (cmpValue (FP.dcmp (FP.i2d x2) (FP.i2d z1_51)) .g)) rfl (hb hby d9_44) rfl ?_
      refine g_if X51 hx (pcY := 59) (pcN := 48) (hb hby d9_45) (by decide) (by decide) rfl (fun hc45 => ?_) (fun hc45 => ?_)
      · replace hc45 : ¬ (cmpValue (FP.dcmp (FP.i2d x2) (FP.i2d z1_51)) .g) < 0 := hc45
        have g68 : z1_51.toInt ≤ x2.toInt := Int.not_lt.mp (fun z => hc45 ((own_lt x2 z1_51).mpr z))
        refine g_aloadN X51 hx (pc' := 60) rfl (hb hby d9_59) rfl rfl ?_
        refine g_iloadN X51 hx (pc' := 61) rfl (hb hby d9_60) rfl ?_
        refine g_iconst X51 hx (pc' := 62) (z := (1 : Int32)) rfl (hb hby d9_61) rfl ?_
        refine g_iadd X51 hx (pc' := 63) rfl (hb hby d9_62) ?_
        refine g_normI (z := (2 : Int32)) (by decide) ?_
        refine g_dload X51 hx (pc' := 65) rfl (hb hby d9_63) rfl ?_
        refine g_dastore X51 hx hZ A51 (i := 2) (by decide) (show (2 : Nat) < 4 by decide) hg (pc' := 66) rfl (hb hby d9_65) (fun T69 h69 X69 W69 N69 => ?_)
        have f70 := (by have q := (Keep.of_wr W69).1; exact Nat.le_trans Zz51 q : n0 ≤ h69.size)
        have f71 := K51.wr W69 (Or.inl (List.mem_of_getElem? (i := 0) rfl))
        have V69 : AD Z h69 aa [(FP.i2d z0_51), (FP.i2d z1_51), (FP.i2d x2), (FP.i2d x3)] := N69
        refine g_goto X69 hx (pc' := 3) (hb hby d9_66) (by decide) (by decide) ?_
        exact J65 T69 h69 X69 _ _ z0_51 z1_51 x2 V69 f71 f70 (by omega) (by omega) (fun q => by have e := (c51) q; omega)
      · replace hc45 : (cmpValue (FP.dcmp (FP.i2d x2) (FP.i2d z1_51)) .g) < 0 := Classical.not_not.mp hc45
        have g72 : x2.toInt < z1_51.toInt := (own_lt x2 z1_51).mp hc45
        refine g_aloadN X51 hx (pc' := 49) rfl (hb hby d9_48) rfl rfl ?_
        refine g_iloadN X51 hx (pc' := 50) rfl (hb hby d9_49) rfl ?_
        refine g_iconst X51 hx (pc' := 51) (z := (1 : Int32)) rfl (hb hby d9_50) rfl ?_
        refine g_iadd X51 hx (pc' := 52) rfl (hb hby d9_51) ?_
        refine g_normI (z := (2 : Int32)) (by decide) ?_
        refine g_aloadN X51 hx (pc' := 53) rfl (hb hby d9_52) rfl rfl ?_
        refine g_iloadN X51 hx (pc' := 54) rfl (hb hby d9_53) rfl ?_
        refine g_daload X51 hx hZ A51 (i := 1) (by decide) (show (1 : Nat) < 4 by decide) (v := (FP.i2d z1_51)) rfl (pc' := 55) rfl (hb hby d9_54) ?_
        refine g_dastore X51 hx hZ A51 (i := 2) (by decide) (show (2 : Nat) < 4 by decide) hg (pc' := 56) rfl (hb hby d9_55) (fun T73 h73 X73 W73 N73 => ?_)
        have f74 := (by have q := (Keep.of_wr W73).1; exact Nat.le_trans Zz51 q : n0 ≤ h73.size)
        have f75 := K51.wr W73 (Or.inl (List.mem_of_getElem? (i := 0) rfl))
        have V73 : AD Z h73 aa [(FP.i2d z0_51), (FP.i2d z1_51), (FP.i2d z1_51), (FP.i2d x3)] := N73
        refine g_goto X73 hx (pc' := 31) (hb hby d9_56) (by decide) (by decide) ?_
        refine g_iincC X73 hx (pc' := 34) (x := (1 : Int32)) (z := (0 : Int32)) rfl (hb hby d9_31) rfl (by decide) (l' := #[.val (.ref aa), .val (.int (0 : Int32)), .val (.int (4 : Int32)), .val (.int (0 : Int32)), .val (.int (2 : Int32)), .val (.double (FP.i2d x2)), .second]) rfl ?_
        refine g_iloadN X73 hx (pc' := 35) rfl (hb hby d9_34) rfl ?_
        refine g_iloadN X73 hx (pc' := 36) rfl (hb hby d9_35) rfl ?_
        refine g_icmpN X73 hx (pcN := 39) (hb hby d9_36) rfl (show ¬ ((0 : Int32) < (0 : Int32)) from by decide) ?_
        refine g_dload X73 hx (pc' := 41) rfl (hb hby d9_39) rfl ?_
        refine g_aloadN X73 hx (pc' := 42) rfl (hb hby d9_41) rfl rfl ?_
        refine g_iloadN X73 hx (pc' := 43) rfl (hb hby d9_42) rfl ?_
        refine g_daload X73 hx hZ V73 (i := 0) (by decide) (show (0 : Nat) < 4 by decide) (v := (FP.i2d z0_51)) rfl (pc' := 44) rfl (hb hby d9_43) ?_
        refine g_dcmp X73 hx (pc' := 45) (z := (cmpValue (FP.dcmp (FP.i2d x2) (FP.i2d z0_51)) .g)) rfl (hb hby d9_44) rfl ?_
        refine g_if X73 hx (pcY := 59) (pcN := 48) (hb hby d9_45) (by decide) (by decide) rfl (fun hc45 => ?_) (fun hc45 => ?_)
        · replace hc45 : ¬ (cmpValue (FP.dcmp (FP.i2d x2) (FP.i2d z0_51)) .g) < 0 := hc45
          have g76 : z0_51.toInt ≤ x2.toInt := Int.not_lt.mp (fun z => hc45 ((own_lt x2 z0_51).mpr z))
          refine g_aloadN X73 hx (pc' := 60) rfl (hb hby d9_59) rfl rfl ?_
          refine g_iloadN X73 hx (pc' := 61) rfl (hb hby d9_60) rfl ?_
          refine g_iconst X73 hx (pc' := 62) (z := (1 : Int32)) rfl (hb hby d9_61) rfl ?_
          refine g_iadd X73 hx (pc' := 63) rfl (hb hby d9_62) ?_
          refine g_normI (z := (1 : Int32)) (by decide) ?_
          refine g_dload X73 hx (pc' := 65) rfl (hb hby d9_63) rfl ?_
          refine g_dastore X73 hx hZ V73 (i := 1) (by decide) (show (1 : Nat) < 4 by decide) hg (pc' := 66) rfl (hb hby d9_65) (fun T77 h77 X77 W77 N77 => ?_)
          have f78 := (by have q := (Keep.of_wr W77).1; exact Nat.le_trans f74 q : n0 ≤ h77.size)
          have f79 := f75.wr W77 (Or.inl (List.mem_of_getElem? (i := 0) rfl))
          have V77 : AD Z h77 aa [(FP.i2d z0_51), (FP.i2d x2), (FP.i2d z1_51), (FP.i2d x3)] := N77
          refine g_goto X77 hx (pc' := 3) (hb hby d9_66) (by decide) (by decide) ?_
          exact J65 T77 h77 X77 _ _ z0_51 x2 z1_51 V77 f79 f78 (by omega) (by omega) (fun q => by have e := (c51) q; omega)
        · replace hc45 : (cmpValue (FP.dcmp (FP.i2d x2) (FP.i2d z0_51)) .g) < 0 := Classical.not_not.mp hc45
          have g80 : x2.toInt < z0_51.toInt := (own_lt x2 z0_51).mp hc45
          refine g_aloadN X73 hx (pc' := 49) rfl (hb hby d9_48) rfl rfl ?_
          refine g_iloadN X73 hx (pc' := 50) rfl (hb hby d9_49) rfl ?_
          refine g_iconst X73 hx (pc' := 51) (z := (1 : Int32)) rfl (hb hby d9_50) rfl ?_
          refine g_iadd X73 hx (pc' := 52) rfl (hb hby d9_51) ?_
          refine g_normI (z := (1 : Int32)) (by decide) ?_
          refine g_aloadN X73 hx (pc' := 53) rfl (hb hby d9_52) rfl rfl ?_
          refine g_iloadN X73 hx (pc' := 54) rfl (hb hby d9_53) rfl ?_
          refine g_daload X73 hx hZ V73 (i := 0) (by decide) (show (0 : Nat) < 4 by decide) (v := (FP.i2d z0_51)) rfl (pc' := 55) rfl (hb hby d9_54) ?_
          refine g_dastore X73 hx hZ V73 (i := 1) (by decide) (show (1 : Nat) < 4 by decide) hg (pc' := 56) rfl (hb hby d9_55) (fun T81 h81 X81 W81 N81 => ?_)
          have f82 := (by have q := (Keep.of_wr W81).1; exact Nat.le_trans f74 q : n0 ≤ h81.size)
          have f83 := f75.wr W81 (Or.inl (List.mem_of_getElem? (i := 0) rfl))
          have V81 : AD Z h81 aa [(FP.i2d z0_51), (FP.i2d z0_51), (FP.i2d z1_51), (FP.i2d x3)] := N81
          refine g_goto X81 hx (pc' := 31) (hb hby d9_56) (by decide) (by decide) ?_
          refine g_iincC X81 hx (pc' := 34) (x := (0 : Int32)) (z := (-1 : Int32)) rfl (hb hby d9_31) rfl (by decide) (l' := #[.val (.ref aa), .val (.int (0 : Int32)), .val (.int (4 : Int32)), .val (.int (-1 : Int32)), .val (.int (2 : Int32)), .val (.double (FP.i2d x2)), .second]) rfl ?_
          refine g_iloadN X81 hx (pc' := 35) rfl (hb hby d9_34) rfl ?_
          refine g_iloadN X81 hx (pc' := 36) rfl (hb hby d9_35) rfl ?_
          refine g_icmpY X81 hx (pcY := 59) (hb hby d9_36) (by decide) (by decide) (show (-1 : Int32) < (0 : Int32) from by decide) ?_
          refine g_aloadN X81 hx (pc' := 60) rfl (hb hby d9_59) rfl rfl ?_
          refine g_iloadN X81 hx (pc' := 61) rfl (hb hby d9_60) rfl ?_
          refine g_iconst X81 hx (pc' := 62) (z := (1 : Int32)) rfl (hb hby d9_61) rfl ?_
          refine g_iadd X81 hx (pc' := 63) rfl (hb hby d9_62) ?_
          refine g_normI (z := (0 : Int32)) (by decide) ?_
          refine g_dload X81 hx (pc' := 65) rfl (hb hby d9_63) rfl ?_
          refine g_dastore X81 hx hZ V81 (i := 0) (by decide) (show (0 : Nat) < 4 by decide) hg (pc' := 66) rfl (hb hby d9_65) (fun T84 h84 X84 W84 N84 => ?_)
          have f85 := (by have q := (Keep.of_wr W84).1; exact Nat.le_trans f82 q : n0 ≤ h84.size)
          have f86 := f83.wr W84 (Or.inl (List.mem_of_getElem? (i := 0) rfl))
          have V84 : AD Z h84 aa [(FP.i2d x2), (FP.i2d z0_51), (FP.i2d z1_51), (FP.i2d x3)] := N84
          refine g_goto X84 hx (pc' := 3) (hb hby d9_66) (by decide) (by decide) ?_
          exact J65 T84 h84 X84 _ _ x2 z0_51 z1_51 V84 f86 f85 (by omega) (by omega) (fun q => by have e := (c51) q; omega)
  intro T65 h65 X65 j65 d65 z0_65 z1_65 z2_65 A65 K65 Zz65 s0_65 s1_65 c65
  refine g_iincC X65 hx (pc' := 6) (x := (2 : Int32)) (z := (3 : Int32)) rfl (hb hby d9_3) rfl (by decide) (l' := #[.val (.ref aa), .val (.int (0 : Int32)), .val (.int (4 : Int32)), .val (.int j65), .val (.int (3 : Int32)), .val (.double d65), .second]) rfl ?_
  refine g_iload X65 hx (pc' := 8) rfl (hb hby d9_6) rfl ?_
  refine g_iloadN X65 hx (pc' := 9) rfl (hb hby d9_8) rfl ?_
  refine g_icmpN X65 hx (pcN := 12) (hb hby d9_9) rfl (show ¬ (¬ (3 : Int32) < (4 : Int32)) from by decide) ?_
  suffices J87 : ∀ (T87 : State) (h87 : Heap) (X87 : Wk p l e ({ frames := 0, cells := 0, slots := 0, locals := 0 } : Room) s m #[(.ref aa), (.int (0 : Int32)), (.int (4 : Int32))] below meth c n0 T87 h87 0 0) (j87 : Int32) (d87 : UInt64) (z0_87 z1_87 z2_87 z3_87 : Int32), (AD Z h87 aa [(FP.i2d z0_87), (FP.i2d z1_87), (FP.i2d z2_87), (FP.i2d z3_87)]) → (Keep h0 h87 [aa]) → (n0 ≤ h87.size) → (z0_87.toInt ≤ z1_87.toInt) → (z1_87.toInt ≤ z2_87.toInt) → (z2_87.toInt ≤ z3_87.toInt) → (∀ q : Int32, Cq q z0_87 + Cq q z1_87 + Cq q z2_87 + Cq q z3_87 = Cq q x0 + Cq q x1 + Cq q x2 + Cq q x3) → Go p e below s n0 (fun v h => v = none ∧ Keep h0 h [aa] ∧ ∃ y0 : Int32, ∃ y1 : Int32, ∃ y2 : Int32, ∃ y3 : Int32, AD Z h aa [(FP.i2d y0), (FP.i2d y1), (FP.i2d y2), (FP.i2d y3)] ∧ y0.toInt ≤ y1.toInt ∧ y1.toInt ≤ y2.toInt ∧ y2.toInt ≤ y3.toInt ∧ ∀ q : Int32, Cq q y0 + Cq q y1 + Cq q y2 + Cq q y3 = Cq q x0 + Cq q x1 + Cq q x2 + Cq q x3) ({ frames := 0, cells := 0, slots := 0, locals := 0 } : Room).cells ({ frames := 0, cells := 0, slots := 0, locals := 0 } : Room).slots (T87.setTop (mkF m 3 #[.val (.ref aa), .val (.int (0 : Int32)), .val (.int (4 : Int32)), .val (.int j87), .val (.int (3 : Int32)), .val (.double d87), .second] [])) by
    refine g_aloadN X65 hx (pc' := 13) rfl (hb hby d9_12) rfl rfl ?_
    refine g_iload X65 hx (pc' := 15) rfl (hb hby d9_13) rfl ?_
    refine g_dup X65 hx (pc' := 16) rfl (hb hby d9_15) rfl ?_
    refine g_istoreN X65 hx (pc' := 17) rfl (hb hby d9_16) (l' := #[.val (.ref aa), .val (.int (0 : Int32)), .val (.int (4 : Int32)), .val (.int (3 : Int32)), .val (.int (3 : Int32)), .val (.double d65), .second]) rfl ?_
    refine g_daload X65 hx hZ A65 (i := 3) (by decide) (show (3 : Nat) < 4 by decide) (v := (FP.i2d x3)) rfl (pc' := 18) rfl (hb hby d9_17) ?_
    refine g_dstore X65 hx (pc' := 20) rfl (hb hby d9_18) (l' := #[.val (.ref aa), .val (.int (0 : Int32)), .val (.int (4 : Int32)), .val (.int (3 : Int32)), .val (.int (3 : Int32)), .val (.double (FP.i2d x3)), .second]) rfl ?_
    refine g_dload X65 hx (pc' := 22) rfl (hb hby d9_20) rfl ?_
    refine g_aloadN X65 hx (pc' := 23) rfl (hb hby d9_22) rfl rfl ?_
    refine g_iloadN X65 hx (pc' := 24) rfl (hb hby d9_23) rfl ?_
    refine g_iconst X65 hx (pc' := 25) (z := (1 : Int32)) rfl (hb hby d9_24) rfl ?_
    refine g_isub X65 hx (pc' := 26) rfl (hb hby d9_25) ?_
    refine g_normI (z := (2 : Int32)) (by decide) ?_
    refine g_daload X65 hx hZ A65 (i := 2) (by decide) (show (2 : Nat) < 4 by decide) (v := (FP.i2d z2_65)) rfl (pc' := 27) rfl (hb hby d9_26) ?_
    refine g_dcmp X65 hx (pc' := 28) (z := (cmpValue (FP.dcmp (FP.i2d x3) (FP.i2d z2_65)) .g)) rfl (hb hby d9_27) rfl ?_
    refine g_if X65 hx (pcY := 66) (pcN := 31) (hb hby d9_28) (by decide) (by decide) rfl (fun hc28 => ?_) (fun hc28 => ?_)
    · replace hc28 : ¬ (cmpValue (FP.dcmp (FP.i2d x3) (FP.i2d z2_65)) .g) < 0 := hc28
      have g88 : z2_65.toInt ≤ x3.toInt := Int.not_lt.mp (fun z => hc28 ((own_lt x3 z2_65).mpr z))
      refine g_goto X65 hx (pc' := 3) (hb hby d9_66) (by decide) (by decide) ?_
      exact J87 T65 h65 X65 _ _ z0_65 z1_65 z2_65 x3 A65 K65 Zz65 (by omega) (by omega) (by omega) (fun q => by have e := (c65) q; omega)
    · replace hc28 : (cmpValue (FP.dcmp (FP.i2d x3) (FP.i2d z2_65)) .g) < 0 := Classical.not_not.mp hc28
      have g89 : x3.toInt < z2_65.toInt := (own_lt x3 z2_65).mp hc28
      refine g_iincC X65 hx (pc' := 34) (x := (3 : Int32)) (z := (2 : Int32)) rfl (hb hby d9_31) rfl (by decide) (l' := #[.val (.ref aa), .val (.int (0 : Int32)), .val (.int (4 : Int32)), .val (.int (2 : Int32)), .val (.int (3 : Int32)), .val (.double (FP.i2d x3)), .second]) rfl ?_
      refine g_iloadN X65 hx (pc' := 35) rfl (hb hby d9_34) rfl ?_
      refine g_iloadN X65 hx (pc' := 36) rfl (hb hby d9_35) rfl ?_
      refine g_icmpN X65 hx (pcN := 39) (hb hby d9_36) rfl (show ¬ ((2 : Int32) < (0 : Int32)) from by decide) ?_
      refine g_dload X65 hx (pc' := 41) rfl (hb hby d9_39) rfl ?_
      refine g_aloadN X65 hx (pc' := 42) rfl (hb hby d9_41) rfl rfl ?_
      refine g_iloadN X65 hx (pc' := 43) rfl (hb hby d9_42) rfl ?_
      refine g_daload X65 hx hZ A65 (i := 2) (by decide) (show (2 : Nat) < 4 by decide) (v := (FP.i2d z2_65)) rfl (pc' := 44) rfl (hb hby d9_43) ?_
      refine g_dcmp X65 hx (pc' := 45) (z := (cmpValue (FP.dcmp (FP.i2d x3) (FP.i2d z2_65)) .g)) rfl (hb hby d9_44) rfl ?_
      refine g_if X65 hx (pcY := 59) (pcN := 48) (hb hby d9_45) (by decide) (by decide) rfl (fun hc45 => ?_) (fun hc45 => ?_)
      · replace hc45 : ¬ (cmpValue (FP.dcmp (FP.i2d x3) (FP.i2d z2_65)) .g) < 0 := hc45
        have g90 : z2_65.toInt ≤ x3.toInt := Int.not_lt.mp (fun z => hc45 ((own_lt x3 z2_65).mpr z))
        refine g_aloadN X65 hx (pc' := 60) rfl (hb hby d9_59) rfl rfl ?_
        refine g_iloadN X65 hx (pc' := 61) rfl (hb hby d9_60) rfl ?_
        refine g_iconst X65 hx (pc' := 62) (z := (1 : Int32)) rfl (hb hby d9_61) rfl ?_
        refine g_iadd X65 hx (pc' := 63) rfl (hb hby d9_62) ?_
        refine g_normI (z := (3 : Int32)) (by decide) ?_
        refine g_dload X65 hx (pc' := 65) rfl (hb hby d9_63) rfl ?_
        refine g_dastore X65 hx hZ A65 (i := 3) (by decide) (show (3 : Nat) < 4 by decide) hg (pc' := 66) rfl (hb hby d9_65) (fun T91 h91 X91 W91 N91 => ?_)
        have f92 := (by have q := (Keep.of_wr W91).1; exact Nat.le_trans Zz65 q : n0 ≤ h91.size)
        have f93 := K65.wr W91 (Or.inl (List.mem_of_getElem? (i := 0) rfl))
        have V91 : AD Z h91 aa [(FP.i2d z0_65), (FP.i2d z1_65), (FP.i2d z2_65), (FP.i2d x3)] := N91
        refine g_goto X91 hx (pc' := 3) (hb hby d9_66) (by decide) (by decide) ?_
        exact J87 T91 h91 X91 _ _ z0_65 z1_65 z2_65 x3 V91 f93 f92 (by omega) (by omega) (by omega) (fun q => by have e := (c65) q; omega)
      · replace hc45 : (cmpValue (FP.dcmp (FP.i2d x3) (FP.i2d z2_65)) .g) < 0 := Classical.not_not.mp hc45
        have g94 : x3.toInt < z2_65.toInt := (own_lt x3 z2_65).mp hc45
        refine g_aloadN X65 hx (pc' := 49) rfl (hb hby d9_48) rfl rfl ?_
        refine g_iloadN X65 hx (pc' := 50) rfl (hb hby d9_49) rfl ?_
        refine g_iconst X65 hx (pc' := 51) (z := (1 : Int32)) rfl (hb hby d9_50) rfl ?_
        refine g_iadd X65 hx (pc' := 52) rfl (hb hby d9_51) ?_
        refine g_normI (z := (3 : Int32)) (by decide) ?_
        refine g_aloadN X65 hx (pc' := 53) rfl (hb hby d9_52) rfl rfl ?_
        refine g_iloadN X65 hx (pc' := 54) rfl (hb hby d9_53) rfl ?_
        refine g_daload X65 hx hZ A65 (i := 2) (by decide) (show (2 : Nat) < 4 by decide) (v := (FP.i2d z2_65)) rfl (pc' := 55) rfl (hb hby d9_54) ?_
        refine g_dastore X65 hx hZ A65 (i := 3) (by decide) (show (3 : Nat) < 4 by decide) hg (pc' := 56) rfl (hb hby d9_55) (fun T95 h95 X95 W95 N95 => ?_)
        have f96 := (by have q := (Keep.of_wr W95).1; exact Nat.le_trans Zz65 q : n0 ≤ h95.size)
        have f97 := K65.wr W95 (Or.inl (List.mem_of_getElem? (i := 0) rfl))
        have V95 : AD Z h95 aa [(FP.i2d z0_65), (FP.i2d z1_65), (FP.i2d z2_65), (FP.i2d z2_65)] := N95
        refine g_goto X95 hx (pc' := 31) (hb hby d9_56) (by decide) (by decide) ?_
        refine g_iincC X95 hx (pc' := 34) (x := (2 : Int32)) (z := (1 : Int32)) rfl (hb hby d9_31) rfl (by decide) (l' := #[.val (.ref aa), .val (.int (0 : Int32)), .val (.int (4 : Int32)), .val (.int (1 : Int32)), .val (.int (3 : Int32)), .val (.double (FP.i2d x3)), .second]) rfl ?_
        refine g_iloadN X95 hx (pc' := 35) rfl (hb hby d9_34) rfl ?_
        refine g_iloadN X95 hx (pc' := 36) rfl (hb hby d9_35) rfl ?_
        refine g_icmpN X95 hx (pcN := 39) (hb hby d9_36) rfl (show ¬ ((1 : Int32) < (0 : Int32)) from by decide) ?_
        refine g_dload X95 hx (pc' := 41) rfl (hb hby d9_39) rfl ?_
        refine g_aloadN X95 hx (pc' := 42) rfl (hb hby d9_41) rfl rfl ?_
        refine g_iloadN X95 hx (pc' := 43) rfl (hb hby d9_42) rfl ?_
        refine g_daload X95 hx hZ V95 (i := 1) (by decide) (show (1 : Nat) < 4 by decide) (v := (FP.i2d z1_65)) rfl (pc' := 44) rfl (hb hby d9_43) ?_
        refine g_dcmp X95 hx (pc' := 45) (z := (cmpValue (FP.dcmp (FP.i2d x3) (FP.i2d z1_65)) .g)) rfl (hb hby d9_44) rfl ?_
        refine g_if X95 hx (pcY := 59) (pcN := 48) (hb hby d9_45) (by decide) (by decide) rfl (fun hc45 => ?_) (fun hc45 => ?_)
        · replace hc45 : ¬ (cmpValue (FP.dcmp (FP.i2d x3) (FP.i2d z1_65)) .g) < 0 := hc45
          have g98 : z1_65.toInt ≤ x3.toInt := Int.not_lt.mp (fun z => hc45 ((own_lt x3 z1_65).mpr z))
          refine g_aloadN X95 hx (pc' := 60) rfl (hb hby d9_59) rfl rfl ?_
          refine g_iloadN X95 hx (pc' := 61) rfl (hb hby d9_60) rfl ?_
          refine g_iconst X95 hx (pc' := 62) (z := (1 : Int32)) rfl (hb hby d9_61) rfl ?_
          refine g_iadd X95 hx (pc' := 63) rfl (hb hby d9_62) ?_
          refine g_normI (z := (2 : Int32)) (by decide) ?_
          refine g_dload X95 hx (pc' := 65) rfl (hb hby d9_63) rfl ?_
          refine g_dastore X95 hx hZ V95 (i := 2) (by decide) (show (2 : Nat) < 4 by decide) hg (pc' := 66) rfl (hb hby d9_65) (fun T99 h99 X99 W99 N99 => ?_)
          have f100 := (by have q := (Keep.of_wr W99).1; exact Nat.le_trans f96 q : n0 ≤ h99.size)
          have f101 := f97.wr W99 (Or.inl (List.mem_of_getElem? (i := 0) rfl))
          have V99 : AD Z h99 aa [(FP.i2d z0_65), (FP.i2d z1_65), (FP.i2d x3), (FP.i2d z2_65)] := N99
          refine g_goto X99 hx (pc' := 3) (hb hby d9_66) (by decide) (by decide) ?_
          exact J87 T99 h99 X99 _ _ z0_65 z1_65 x3 z2_65 V99 f101 f100 (by omega) (by omega) (by omega) (fun q => by have e := (c65) q; omega)
        · replace hc45 : (cmpValue (FP.dcmp (FP.i2d x3) (FP.i2d z1_65)) .g) < 0 := Classical.not_not.mp hc45
          have g102 : x3.toInt < z1_65.toInt := (own_lt x3 z1_65).mp hc45
          refine g_aloadN X95 hx (pc' := 49) rfl (hb hby d9_48) rfl rfl ?_
          refine g_iloadN X95 hx (pc' := 50) rfl (hb hby d9_49) rfl ?_
          refine g_iconst X95 hx (pc' := 51) (z := (1 : Int32)) rfl (hb hby d9_50) rfl ?_
          refine g_iadd X95 hx (pc' := 52) rfl (hb hby d9_51) ?_
          refine g_normI (z := (2 : Int32)) (by decide) ?_
          refine g_aloadN X95 hx (pc' := 53) rfl (hb hby d9_52) rfl rfl ?_
          refine g_iloadN X95 hx (pc' := 54) rfl (hb hby d9_53) rfl ?_
          refine g_daload X95 hx hZ V95 (i := 1) (by decide) (show (1 : Nat) < 4 by decide) (v := (FP.i2d z1_65)) rfl (pc' := 55) rfl (hb hby d9_54) ?_
          refine g_dastore X95 hx hZ V95 (i := 2) (by decide) (show (2 : Nat) < 4 by decide) hg (pc' := 56) rfl (hb hby d9_55) (fun T103 h103 X103 W103 N103 => ?_)
          have f104 := (by have q := (Keep.of_wr W103).1; exact Nat.le_trans f96 q : n0 ≤ h103.size)
          have f105 := f97.wr W103 (Or.inl (List.mem_of_getElem? (i := 0) rfl))
          have V103 : AD Z h103 aa [(FP.i2d z0_65), (FP.i2d z1_65), (FP.i2d z1_65), (FP.i2d z2_65)] := N103
          refine g_goto X103 hx (pc' := 31) (hb hby d9_56) (by decide) (by decide) ?_
          refine g_iincC X103 hx (pc' := 34) (x := (1 : Int32)) (z := (0 : Int32)) rfl (hb hby d9_31) rfl (by decide) (l' := #[.val (.ref aa), .val (.int (0 : Int32)), .val (.int (4 : Int32)), .val (.int (0 : Int32)), .val (.int (3 : Int32)), .val (.double (FP.i2d x3)), .second]) rfl ?_
          refine g_iloadN X103 hx (pc' := 35) rfl (hb hby d9_34) rfl ?_
          refine g_iloadN X103 hx (pc' := 36) rfl (hb hby d9_35) rfl ?_
          refine g_icmpN X103 hx (pcN := 39) (hb hby d9_36) rfl (show ¬ ((0 : Int32) < (0 : Int32)) from by decide) ?_
          refine g_dload X103 hx (pc' := 41) rfl (hb hby d9_39) rfl ?_
          refine g_aloadN X103 hx (pc' := 42) rfl (hb hby d9_41) rfl rfl ?_
          refine g_iloadN X103 hx (pc' := 43) rfl (hb hby d9_42) rfl ?_
          refine g_daload X103 hx hZ V103 (i := 0) (by decide) (show (0 : Nat) < 4 by decide) (v := (FP.i2d z0_65)) rfl (pc' := 44) rfl (hb hby d9_43) ?_
          refine g_dcmp X103 hx (pc' := 45) (z := (cmpValue (FP.dcmp (FP.i2d x3) (FP.i2d z0_65)) .g)) rfl (hb hby d9_44) rfl ?_
          refine g_if X103 hx (pcY := 59) (pcN := 48) (hb hby d9_45) (by decide) (by decide) rfl (fun hc45 => ?_) (fun hc45 => ?_)
          · replace hc45 : ¬ (cmpValue (FP.dcmp (FP.i2d x3) (FP.i2d z0_65)) .g) < 0 := hc45
            have g106 : z0_65.toInt ≤ x3.toInt := Int.not_lt.mp (fun z => hc45 ((own_lt x3 z0_65).mpr z))
            refine g_aloadN X103 hx (pc' := 60) rfl (hb hby d9_59) rfl rfl ?_
            refine g_iloadN X103 hx (pc' := 61) rfl (hb hby d9_60) rfl ?_
            refine g_iconst X103 hx (pc' := 62) (z := (1 : Int32)) rfl (hb hby d9_61) rfl ?_
            refine g_iadd X103 hx (pc' := 63) rfl (hb hby d9_62) ?_
            refine g_normI (z := (1 : Int32)) (by decide) ?_
            refine g_dload X103 hx (pc' := 65) rfl (hb hby d9_63) rfl ?_
            refine g_dastore X103 hx hZ V103 (i := 1) (by decide) (show (1 : Nat) < 4 by decide) hg (pc' := 66) rfl (hb hby d9_65) (fun T107 h107 X107 W107 N107 => ?_)
            have f108 := (by have q := (Keep.of_wr W107).1; exact Nat.le_trans f104 q : n0 ≤ h107.size)
            have f109 := f105.wr W107 (Or.inl (List.mem_of_getElem? (i := 0) rfl))
            have V107 : AD Z h107 aa [(FP.i2d z0_65), (FP.i2d x3), (FP.i2d z1_65), (FP.i2d z2_65)] := N107
            refine g_goto X107 hx (pc' := 3) (hb hby d9_66) (by decide) (by decide) ?_
            exact J87 T107 h107 X107 _ _ z0_65 x3 z1_65 z2_65 V107 f109 f108 (by omega) (by omega) (by omega) (fun q => by have e := (c65) q; omega)
          · replace hc45 : (cmpValue (FP.dcmp (FP.i2d x3) (FP.i2d z0_65)) .g) < 0 := Classical.not_not.mp hc45
            have g110 : x3.toInt < z0_65.toInt := (own_lt x3 z0_65).mp hc45
            refine g_aloadN X103 hx (pc' := 49) rfl (hb hby d9_48) rfl rfl ?_
            refine g_iloadN X103 hx (pc' := 50) rfl (hb hby d9_49) rfl ?_
            refine g_iconst X103 hx (pc' := 51) (z := (1 : Int32)) rfl (hb hby d9_50) rfl ?_
            refine g_iadd X103 hx (pc' := 52) rfl (hb hby d9_51) ?_
            refine g_normI (z := (1 : Int32)) (by decide) ?_
            refine g_aloadN X103 hx (pc' := 53) rfl (hb hby d9_52) rfl rfl ?_
            refine g_iloadN X103 hx (pc' := 54) rfl (hb hby d9_53) rfl ?_
            refine g_daload X103 hx hZ V103 (i := 0) (by decide) (show (0 : Nat) < 4 by decide) (v := (FP.i2d z0_65)) rfl (pc' := 55) rfl (hb hby d9_54) ?_
            refine g_dastore X103 hx hZ V103 (i := 1) (by decide) (show (1 : Nat) < 4 by decide) hg (pc' := 56) rfl (hb hby d9_55) (fun T111 h111 X111 W111 N111 => ?_)
            have f112 := (by have q := (Keep.of_wr W111).1; exact Nat.le_trans f104 q : n0 ≤ h111.size)
            have f113 := f105.wr W111 (Or.inl (List.mem_of_getElem? (i := 0) rfl))
            have V111 : AD Z h111 aa [(FP.i2d z0_65), (FP.i2d z0_65), (FP.i2d z1_65), (FP.i2d z2_65)] := N111
            refine g_goto X111 hx (pc' := 31) (hb hby d9_56) (by decide) (by decide) ?_
            refine g_iincC X111 hx (pc' := 34) (x := (0 : Int32)) (z := (-1 : Int32)) rfl (hb hby d9_31) rfl (by decide) (l' := #[.val (.ref aa), .val (.int (0 : Int32)), .val (.int (4 : Int32)), .val (.int (-1 : Int32)), .val (.int (3 : Int32)), .val (.double (FP.i2d x3)), .second]) rfl ?_
            refine g_iloadN X111 hx (pc' := 35) rfl (hb hby d9_34) rfl ?_
            refine g_iloadN X111 hx (pc' := 36) rfl (hb hby d9_35) rfl ?_
            refine g_icmpY X111 hx (pcY := 59) (hb hby d9_36) (by decide) (by decide) (show (-1 : Int32) < (0 : Int32) from by decide) ?_
            refine g_aloadN X111 hx (pc' := 60) rfl (hb hby d9_59) rfl rfl ?_
            refine g_iloadN X111 hx (pc' := 61) rfl (hb hby d9_60) rfl ?_
            refine g_iconst X111 hx (pc' := 62) (z := (1 : Int32)) rfl (hb hby d9_61) rfl ?_
            refine g_iadd X111 hx (pc' := 63) rfl (hb hby d9_62) ?_
            refine g_normI (z := (0 : Int32)) (by decide) ?_
            refine g_dload X111 hx (pc' := 65) rfl (hb hby d9_63) rfl ?_
            refine g_dastore X111 hx hZ V111 (i := 0) (by decide) (show (0 : Nat) < 4 by decide) hg (pc' := 66) rfl (hb hby d9_65) (fun T114 h114 X114 W114 N114 => ?_)
            have f115 := (by have q := (Keep.of_wr W114).1; exact Nat.le_trans f112 q : n0 ≤ h114.size)
            have f116 := f113.wr W114 (Or.inl (List.mem_of_getElem? (i := 0) rfl))
            have V114 : AD Z h114 aa [(FP.i2d x3), (FP.i2d z0_65), (FP.i2d z1_65), (FP.i2d z2_65)] := N114
            refine g_goto X114 hx (pc' := 3) (hb hby d9_66) (by decide) (by decide) ?_
            exact J87 T114 h114 X114 _ _ x3 z0_65 z1_65 z2_65 V114 f116 f115 (by omega) (by omega) (by omega) (fun q => by have e := (c65) q; omega)
  intro T87 h87 X87 j87 d87 z0_87 z1_87 z2_87 z3_87 A87 K87 Zz87 s0_87 s1_87 s2_87 c87
  refine g_iincC X87 hx (pc' := 6) (x := (3 : Int32)) (z := (4 : Int32)) rfl (hb hby d9_3) rfl (by decide) (l' := #[.val (.ref aa), .val (.int (0 : Int32)), .val (.int (4 : Int32)), .val (.int j87), .val (.int (4 : Int32)), .val (.double d87), .second]) rfl ?_
  refine g_iload X87 hx (pc' := 8) rfl (hb hby d9_6) rfl ?_
  refine g_iloadN X87 hx (pc' := 9) rfl (hb hby d9_8) rfl ?_
  refine g_icmpY X87 hx (pcY := 69) (hb hby d9_9) (by decide) (by decide) (show ¬ (4 : Int32) < (4 : Int32) from by decide) ?_
  exact g_retV X87 hx hlk hret (hb hby d9_69) (by decide) (by decide) (⟨rfl, K87, z0_87, z1_87, z2_87, z3_87, A87, s0_87, s1_87, s2_87, c87⟩)
set_option maxRecDepth 65536 in
set_option maxHeartbeats 40000000 in
theorem rm8_0 (l : Launch) (Z : State) (a0 : Array Value) (hw : ∀ d ∈ tables_1, d.before a0 Z = true) (ws : List Jvm.Cond) (n0 : Nat) (aa : Addr) (h0 : Heap) (hn0 : n0 ≤ h0.size) (Aa : AD Z h0 aa []) (hg : n0 ≤ aa) :
    Con l Z n0 (⟨"java/util/DualPivotQuicksort", "sort", "(Ljava/util/DualPivotQuicksort$Sorter;[DIII)V"⟩ : MethodName) jdk_2529_method_42_code 25 none ws ({ frames := 1, cells := 0, slots := 0, locals := 24 } : Room) #[.null, (.ref aa), (.int (0 : Int32)), (.int (0 : Int32)), (.int (0 : Int32))] h0 (fun v h => v = none ∧ Keep h0 h [aa] ∧ AD Z h aa [] ∧ ∀ q : Int32, (0 : Int) = (0 : Int)) := by
  refine con_start (plainFor_of_name (by first | (simp [plainName, overriddenIn]; done) | decide +kernel)) (fr0 := fun m => mkF m 0 #[.val .null, .val (.ref aa), .val (.int (0 : Int32)), .val (.int (0 : Int32)), .val (.int (0 : Int32)), .unset, .unset, .unset, .unset, .unset, .unset, .unset, .unset, .unset, .unset, .unset, .unset, .unset, .unset, .unset, .unset, .unset, .unset, .unset, .unset] []) (fun m => by first | (simp [entryFrame, mkF, argsToLocals, Value.category]; done) | rfl) ?_
  intro p e s m below meth c T0 hx hZ hby hml hown hnm hret hlk X0
  replace hown : s.vm.findClass "java/util/DualPivotQuicksort" = some m.cls := hown
  replace hml : c.maxLocals = 25 := hml
  refine g_iload X0 hx (pc' := 2) rfl (hb hby d8_0) rfl ?_
  refine g_iconst X0 hx (pc' := 3) (z := (1 : Int32)) rfl (hb hby d8_2) rfl ?_
  refine g_isub X0 hx (pc' := 4) rfl (hb hby d8_3) ?_
  refine g_normI (z := (-1 : Int32)) (by decide) ?_
  refine g_istore X0 hx (pc' := 6) rfl (hb hby d8_4) (l' := #[.val .null, .val (.ref aa), .val (.int (0 : Int32)), .val (.int (0 : Int32)), .val (.int (0 : Int32)), .val (.int (-1 : Int32)), .unset, .unset, .unset, .unset, .unset, .unset, .unset, .unset, .unset, .unset, .unset, .unset, .unset, .unset, .unset, .unset, .unset, .unset, .unset]) rfl ?_
  refine g_iload X0 hx (pc' := 8) rfl (hb hby d8_6) rfl ?_
  refine g_iloadN X0 hx (pc' := 9) rfl (hb hby d8_8) rfl ?_
  refine g_isub X0 hx (pc' := 10) rfl (hb hby d8_9) ?_
  refine g_normI (z := (0 : Int32)) (by decide) ?_
  refine g_istore X0 hx (pc' := 12) rfl (hb hby d8_10) (l' := #[.val .null, .val (.ref aa), .val (.int (0 : Int32)), .val (.int (0 : Int32)), .val (.int (0 : Int32)), .val (.int (-1 : Int32)), .val (.int (0 : Int32)), .unset, .unset, .unset, .unset, .unset, .unset, .unset, .unset, .unset, .unset, .unset, .unset, .unset, .unset, .unset, .unset, .unset, .unset]) rfl ?_
  refine g_iload X0 hx (pc' := 14) rfl (hb hby d8_12) rfl ?_
  refine g_bipush X0 hx (pc' := 16) (z := (65 : Int32)) rfl (hb hby d8_14) rfl ?_
  refine g_iloadN X0 hx (pc' := 17) rfl (hb hby d8_16) rfl ?_
  refine g_iadd X0 hx (pc' := 18) rfl (hb hby d8_17) ?_
  refine g_normI (z := (65 : Int32)) (by decide) ?_
  refine g_icmpN X0 hx (pcN := 21) (hb hby d8_18) rfl (show ¬ (¬ (0 : Int32) < (65 : Int32)) from by decide) ?_
  refine g_iloadN X0 hx (pc' := 22) rfl (hb hby d8_21) rfl ?_
  refine g_iconst X0 hx (pc' := 23) (z := (1 : Int32)) rfl (hb hby d8_22) rfl ?_
  refine g_iand X0 hx (pc' := 24) rfl (hb hby d8_23) ?_
  refine g_ifY X0 hx (pcY := 46) (hb hby d8_24) (by decide) (by decide) (show ¬ 0 < ((0 : Int32) &&& (1 : Int32)) from by decide) ?_
  refine g_iload X0 hx (pc' := 48) rfl (hb hby d8_46) rfl ?_
  refine g_bipush X0 hx (pc' := 50) (z := (44 : Int32)) rfl (hb hby d8_48) rfl ?_
  refine g_icmpN X0 hx (pcN := 53) (hb hby d8_50) rfl (show ¬ (¬ (0 : Int32) < (44 : Int32)) from by decide) ?_
  refine g_aloadN X0 hx (pc' := 54) rfl (hb hby d8_53) rfl rfl ?_
  refine g_iloadN X0 hx (pc' := 55) rfl (hb hby d8_54) rfl ?_
  refine g_iload X0 hx (pc' := 57) rfl (hb hby d8_55) rfl ?_
  refine g_callS X0 hx hZ hown (hw _ (List.mem_of_getElem? (i := 42) rfl)) (hw _ (List.mem_of_getElem? (i := 43) rfl)) (hw _ (List.mem_of_getElem? (i := 37) rfl)) (hw _ (List.mem_of_getElem? (i := 44) rfl)) (by decide) (rm9_0 l Z a0 hw [] n0 aa  h0 hn0 Aa hg) pd_0 rfl rfl (by rw [hml]; rfl) (pc' := 60) rfl (hb hby d8_57) (argsL := [(.ref aa), (.int (0 : Int32)), (.int (0 : Int32))]) (rest := []) rfl (W := 0) (Nat.le_of_eq rfl) (by decide) (by decide) (by decide) (by decide) (fun v117 T117 h117 X117 hQ117 => ?_)
  obtain ⟨rfl, KS, SS⟩ := hQ117
  show Go p e below s n0 _ _ _ (T117.setTop (mkF m 60 #[.val .null, .val (.ref aa), .val (.int (0 : Int32)), .val (.int (0 : Int32)), .val (.int (0 : Int32)), .val (.int (-1 : Int32)), .val (.int (0 : Int32)), .unset, .unset, .unset, .unset, .unset, .unset, .unset, .unset, .unset, .unset, .unset, .unset, .unset, .unset, .unset, .unset, .unset, .unset] []))
  exact g_retV X117 hx hlk hret (hb hby d8_60) (by decide) (by decide) (⟨rfl, KS, SS⟩)
set_option maxRecDepth 65536 in
set_option maxHeartbeats 40000000 in
theorem rm8_1 (l : Launch) (Z : State) (a0 : Array Value) (hw : ∀ d ∈ tables_1, d.before a0 Z = true) (ws : List Jvm.Cond) (n0 : Nat) (aa : Addr) (x0 : Int32) (h0 : Heap) (hn0 : n0 ≤ h0.size) (Aa : AD Z h0 aa [(FP.i2d x0)]) (hg : n0 ≤ aa) :
    Con l Z n0 (⟨"java/util/DualPivotQuicksort", "sort", "(Ljava/util/DualPivotQuicksort$Sorter;[DIII)V"⟩ : MethodName) jdk_2529_method_42_code 25 none ws ({ frames := 1, cells := 0, slots := 0, locals := 24 } : Room) #[.null, (.ref aa), (.int (0 : Int32)), (.int (0 : Int32)), (.int (1 : Int32))] h0 (fun v h => v = none ∧ Keep h0 h [aa] ∧ ∃ y0 : Int32, AD Z h aa [(FP.i2d y0)] ∧ ∀ q : Int32, Cq q y0 = Cq q x0) := by
  refine con_start (plainFor_of_name (by first | (simp [plainName, overriddenIn]; done) | decide +kernel)) (fr0 := fun m => mkF m 0 #[.val .null, .val (.ref aa), .val (.int (0 : Int32)), .val (.int (0 : Int32)), .val (.int (1 : Int32)), .unset, .unset, .unset, .unset, .unset, .unset, .unset, .unset, .unset, .unset, .unset, .unset, .unset, .unset, .unset, .unset, .unset, .unset, .unset, .unset] []) (fun m => by first | (simp [entryFrame, mkF, argsToLocals, Value.category]; done) | rfl) ?_
  intro p e s m below meth c T0 hx hZ hby hml hown hnm hret hlk X0
  replace hown : s.vm.findClass "java/util/DualPivotQuicksort" = some m.cls := hown
  replace hml : c.maxLocals = 25 := hml
  refine g_iload X0 hx (pc' := 2) rfl (hb hby d8_0) rfl ?_
  refine g_iconst X0 hx (pc' := 3) (z := (1 : Int32)) rfl (hb hby d8_2) rfl ?_
  refine g_isub X0 hx (pc' := 4) rfl (hb hby d8_3) ?_
  refine g_normI (z := (0 : Int32)) (by decide) ?_
  refine g_istore X0 hx (pc' := 6) rfl (hb hby d8_4) (l' := #[.val .null, .val (.ref aa), .val (.int (0 : Int32)), .val (.int (0 : Int32)), .val (.int (1 : Int32)), .val (.int (0 : Int32)), .unset, .unset, .unset, .unset, .unset, .unset, .unset, .unset, .unset, .unset, .unset, .unset, .unset, .unset, .unset, .unset, .unset, .unset, .unset]) rfl ?_
  refine g_iload X0 hx (pc' := 8) rfl (hb hby d8_6) rfl ?_
  refine g_iloadN X0 hx (pc' := 9) rfl (hb hby d8_8) rfl ?_
  refine g_isub X0 hx (pc' := 10) rfl (hb hby d8_9) ?_
  refine g_normI (z := (1 : Int32)) (by decide) ?_
  refine g_istore X0 hx (pc' := 12) rfl (hb hby d8_10) (l' := #[.val .null, .val (.ref aa), .val (.int (0 : Int32)), .val (.int (0 : Int32)), .val (.int (1 : Int32)), .val (.int (0 : Int32)), .val (.int (1 : Int32)), .unset, .unset, .unset, .unset, .unset, .unset, .unset, .unset, .unset, .unset, .unset, .unset, .unset, .unset, .unset, .unset, .unset, .unset]) rfl ?_
  refine g_iload X0 hx (pc' := 14) rfl (hb hby d8_12) rfl ?_
  refine g_bipush X0 hx (pc' := 16) (z := (65 : Int32)) rfl (hb hby d8_14) rfl ?_
  refine g_iloadN X0 hx (pc' := 17) rfl (hb hby d8_16) rfl ?_
  refine g_iadd X0 hx (pc' := 18) rfl (hb hby d8_17) ?_
  refine g_normI (z := (65 : Int32)) (by decide) ?_
  refine g_icmpN X0 hx (pcN := 21) (hb hby d8_18) rfl (show ¬ (¬ (1 : Int32) < (65 : Int32)) from by decide) ?_
  refine g_iloadN X0 hx (pc' := 22) rfl (hb hby d8_21) rfl ?_
  refine g_iconst X0 hx (pc' := 23) (z := (1 : Int32)) rfl (hb hby d8_22) rfl ?_
  refine g_iand X0 hx (pc' := 24) rfl (hb hby d8_23) ?_
  refine g_ifY X0 hx (pcY := 46) (hb hby d8_24) (by decide) (by decide) (show ¬ 0 < ((0 : Int32) &&& (1 : Int32)) from by decide) ?_
  refine g_iload X0 hx (pc' := 48) rfl (hb hby d8_46) rfl ?_
  refine g_bipush X0 hx (pc' := 50) (z := (44 : Int32)) rfl (hb hby d8_48) rfl ?_
  refine g_icmpN X0 hx (pcN := 53) (hb hby d8_50) rfl (show ¬ (¬ (1 : Int32) < (44 : Int32)) from by decide) ?_
  refine g_aloadN X0 hx (pc' := 54) rfl (hb hby d8_53) rfl rfl ?_
  refine g_iloadN X0 hx (pc' := 55) rfl (hb hby d8_54) rfl ?_
  refine g_iload X0 hx (pc' := 57) rfl (hb hby d8_55) rfl ?_
  refine g_callS X0 hx hZ hown (hw _ (List.mem_of_getElem? (i := 42) rfl)) (hw _ (List.mem_of_getElem? (i := 43) rfl)) (hw _ (List.mem_of_getElem? (i := 37) rfl)) (hw _ (List.mem_of_getElem? (i := 44) rfl)) (by decide) (rm9_1 l Z a0 hw [] n0 aa x0 h0 hn0 Aa hg) pd_0 rfl rfl (by rw [hml]; rfl) (pc' := 60) rfl (hb hby d8_57) (argsL := [(.ref aa), (.int (0 : Int32)), (.int (1 : Int32))]) (rest := []) rfl (W := 0) (Nat.le_of_eq rfl) (by decide) (by decide) (by decide) (by decide) (fun v118 T118 h118 X118 hQ118 => ?_)
  obtain ⟨rfl, KS, SS⟩ := hQ118
  show Go p e below s n0 _ _ _ (T118.setTop (mkF m 60 #[.val .null, .val (.ref aa), .val (.int (0 : Int32)), .val (.int (0 : Int32)), .val (.int (1 : Int32)), .val (.int (0 : Int32)), .val (.int (1 : Int32)), .unset, .unset, .unset, .unset, .unset, .unset, .unset, .unset, .unset, .unset, .unset, .unset, .unset, .unset, .unset, .unset, .unset, .unset] []))
  exact g_retV X118 hx hlk hret (hb hby d8_60) (by decide) (by decide) (⟨rfl, KS, SS⟩)
set_option maxRecDepth 65536 in
set_option maxHeartbeats 40000000 in
theorem rm8_2 (l : Launch) (Z : State) (a0 : Array Value) (hw : ∀ d ∈ tables_1, d.before a0 Z = true) (ws : List Jvm.Cond) (n0 : Nat) (aa : Addr) (x0 : Int32) (x1 : Int32) (h0 : Heap) (hn0 : n0 ≤ h0.size) (Aa : AD Z h0 aa [(FP.i2d x0), (FP.i2d x1)]) (hg : n0 ≤ aa) :
    Con l Z n0 (⟨"java/util/DualPivotQuicksort", "sort", "(Ljava/util/DualPivotQuicksort$Sorter;[DIII)V"⟩ : MethodName) jdk_2529_method_42_code 25 none ws ({ frames := 1, cells := 0, slots := 0, locals := 24 } : Room) #[.null, (.ref aa), (.int (0 : Int32)), (.int (0 : Int32)), (.int (2 : Int32))] h0 (fun v h => v = none ∧ Keep h0 h [aa] ∧ ∃ y0 : Int32, ∃ y1 : Int32, AD Z h aa [(FP.i2d y0), (FP.i2d y1)] ∧ y0.toInt ≤ y1.toInt ∧ ∀ q : Int32, Cq q y0 + Cq q y1 = Cq q x0 + Cq q x1) := by
  refine con_start (plainFor_of_name (by first | (simp [plainName, overriddenIn]; done) | decide +kernel)) (fr0 := fun m => mkF m 0 #[.val .null, .val (.ref aa), .val (.int (0 : Int32)), .val (.int (0 : Int32)), .val (.int (2 : Int32)), .unset, .unset, .unset, .unset, .unset, .unset, .unset, .unset, .unset, .unset, .unset, .unset, .unset, .unset, .unset, .unset, .unset, .unset, .unset, .unset] []) (fun m => by first | (simp [entryFrame, mkF, argsToLocals, Value.category]; done) | rfl) ?_
  intro p e s m below meth c T0 hx hZ hby hml hown hnm hret hlk X0
  replace hown : s.vm.findClass "java/util/DualPivotQuicksort" = some m.cls := hown
  replace hml : c.maxLocals = 25 := hml
  refine g_iload X0 hx (pc' := 2) rfl (hb hby d8_0) rfl ?_
  refine g_iconst X0 hx (pc' := 3) (z := (1 : Int32)) rfl (hb hby d8_2) rfl ?_
  refine g_isub X0 hx (pc' := 4) rfl (hb hby d8_3) ?_
  refine g_normI (z := (1 : Int32)) (by decide) ?_
  refine g_istore X0 hx (pc' := 6) rfl (hb hby d8_4) (l' := #[.val .null, .val (.ref aa), .val (.int (0 : Int32)), .val (.int (0 : Int32)), .val (.int (2 : Int32)), .val (.int (1 : Int32)), .unset, .unset, .unset, .unset, .unset, .unset, .unset, .unset, .unset, .unset, .unset, .unset, .unset, .unset, .unset, .unset, .unset, .unset, .unset]) rfl ?_
  refine g_iload X0 hx (pc' := 8) rfl (hb hby d8_6) rfl ?_
  refine g_iloadN X0 hx (pc' := 9) rfl (hb hby d8_8) rfl ?_
  refine g_isub X0 hx (pc' := 10) rfl (hb hby d8_9) ?_
  refine g_normI (z := (2 : Int32)) (by decide) ?_
  refine g_istore X0 hx (pc' := 12) rfl (hb hby d8_10) (l' := #[.val .null, .val (.ref aa), .val (.int (0 : Int32)), .val (.int (0 : Int32)), .val (.int (2 : Int32)), .val (.int (1 : Int32)), .val (.int (2 : Int32)), .unset, .unset, .unset, .unset, .unset, .unset, .unset, .unset, .unset, .unset, .unset, .unset, .unset, .unset, .unset, .unset, .unset, .unset]) rfl ?_
  refine g_iload X0 hx (pc' := 14) rfl (hb hby d8_12) rfl ?_
  refine g_bipush X0 hx (pc' := 16) (z := (65 : Int32)) rfl (hb hby d8_14) rfl ?_
  refine g_iloadN X0 hx (pc' := 17) rfl (hb hby d8_16) rfl ?_
  refine g_iadd X0 hx (pc' := 18) rfl (hb hby d8_17) ?_
  refine g_normI (z := (65 : Int32)) (by decide) ?_
  refine g_icmpN X0 hx (pcN := 21) (hb hby d8_18) rfl (show ¬ (¬ (2 : Int32) < (65 : Int32)) from by decide) ?_
  refine g_iloadN X0 hx (pc' := 22) rfl (hb hby d8_21) rfl ?_
  refine g_iconst X0 hx (pc' := 23) (z := (1 : Int32)) rfl (hb hby d8_22) rfl ?_
  refine g_iand X0 hx (pc' := 24) rfl (hb hby d8_23) ?_
  refine g_ifY X0 hx (pcY := 46) (hb hby d8_24) (by decide) (by decide) (show ¬ 0 < ((0 : Int32) &&& (1 : Int32)) from by decide) ?_
  refine g_iload X0 hx (pc' := 48) rfl (hb hby d8_46) rfl ?_
  refine g_bipush X0 hx (pc' := 50) (z := (44 : Int32)) rfl (hb hby d8_48) rfl ?_
  refine g_icmpN X0 hx (pcN := 53) (hb hby d8_50) rfl (show ¬ (¬ (2 : Int32) < (44 : Int32)) from by decide) ?_
  refine g_aloadN X0 hx (pc' := 54) rfl (hb hby d8_53) rfl rfl ?_
  refine g_iloadN X0 hx (pc' := 55) rfl (hb hby d8_54) rfl ?_
  refine g_iload X0 hx (pc' := 57) rfl (hb hby d8_55) rfl ?_
  refine g_callS X0 hx hZ hown (hw _ (List.mem_of_getElem? (i := 42) rfl)) (hw _ (List.mem_of_getElem? (i := 43) rfl)) (hw _ (List.mem_of_getElem? (i := 37) rfl)) (hw _ (List.mem_of_getElem? (i := 44) rfl)) (by decide) (rm9_2 l Z a0 hw [] n0 aa x0 x1 h0 hn0 Aa hg) pd_0 rfl rfl (by rw [hml]; rfl) (pc' := 60) rfl (hb hby d8_57) (argsL := [(.ref aa), (.int (0 : Int32)), (.int (2 : Int32))]) (rest := []) rfl (W := 0) (Nat.le_of_eq rfl) (by decide) (by decide) (by decide) (by decide) (fun v119 T119 h119 X119 hQ119 => ?_)
  obtain ⟨rfl, KS, SS⟩ := hQ119
  show Go p e below s n0 _ _ _ (T119.setTop (mkF m 60 #[.val .null, .val (.ref aa), .val (.int (0 : Int32)), .val (.int (0 : Int32)), .val (.int (2 : Int32)), .val (.int (1 : Int32)), .val (.int (2 : Int32)), .unset, .unset, .unset, .unset, .unset, .unset, .unset, .unset, .unset, .unset, .unset, .unset, .unset, .unset, .unset, .unset, .unset, .unset] []))
  exact g_retV X119 hx hlk hret (hb hby d8_60) (by decide) (by decide) (⟨rfl, KS, SS⟩)
set_option maxRecDepth 65536 in
set_option maxHeartbeats 40000000 in
theorem rm8_3 (l : Launch) (Z : State) (a0 : Array Value) (hw : ∀ d ∈ tables_1, d.before a0 Z = true) (ws : List Jvm.Cond) (n0 : Nat) (aa : Addr) (x0 : Int32) (x1 : Int32) (x2 : Int32) (h0 : Heap) (hn0 : n0 ≤ h0.size) (Aa : AD Z h0 aa [(FP.i2d x0), (FP.i2d x1), (FP.i2d x2)]) (hg : n0 ≤ aa) :
    Con l Z n0 (⟨"java/util/DualPivotQuicksort", "sort", "(Ljava/util/DualPivotQuicksort$Sorter;[DIII)V"⟩ : MethodName) jdk_2529_method_42_code 25 none ws ({ frames := 1, cells := 0, slots := 0, locals := 24 } : Room) #[.null, (.ref aa), (.int (0 : Int32)), (.int (0 : Int32)), (.int (3 : Int32))] h0 (fun v h => v = none ∧ Keep h0 h [aa] ∧ ∃ y0 : Int32, ∃ y1 : Int32, ∃ y2 : Int32, AD Z h aa [(FP.i2d y0), (FP.i2d y1), (FP.i2d y2)] ∧ y0.toInt ≤ y1.toInt ∧ y1.toInt ≤ y2.toInt ∧ ∀ q : Int32, Cq q y0 + Cq q y1 + Cq q y2 = Cq q x0 + Cq q x1 + Cq q x2) := by
  refine con_start (plainFor_of_name (by first | (simp [plainName, overriddenIn]; done) | decide +kernel)) (fr0 := fun m => mkF m 0 #[.val .null, .val (.ref aa), .val (.int (0 : Int32)), .val (.int (0 : Int32)), .val (.int (3 : Int32)), .unset, .unset, .unset, .unset, .unset, .unset, .unset, .unset, .unset, .unset, .unset, .unset, .unset, .unset, .unset, .unset, .unset, .unset, .unset, .unset] []) (fun m => by first | (simp [entryFrame, mkF, argsToLocals, Value.category]; done) | rfl) ?_
  intro p e s m below meth c T0 hx hZ hby hml hown hnm hret hlk X0
  replace hown : s.vm.findClass "java/util/DualPivotQuicksort" = some m.cls := hown
  replace hml : c.maxLocals = 25 := hml
  refine g_iload X0 hx (pc' := 2) rfl (hb hby d8_0) rfl ?_
  refine g_iconst X0 hx (pc' := 3) (z := (1 : Int32)) rfl (hb hby d8_2) rfl ?_
  refine g_isub X0 hx (pc' := 4) rfl (hb hby d8_3) ?_
  refine g_normI (z := (2 : Int32)) (by decide) ?_
  refine g_istore X0 hx (pc' := 6) rfl (hb hby d8_4) (l' := #[.val .null, .val (.ref aa), .val (.int (0 : Int32)), .val (.int (0 : Int32)), .val (.int (3 : Int32)), .val (.int (2 : Int32)), .unset, .unset, .unset, .unset, .unset, .unset, .unset, .unset, .unset, .unset, .unset, .unset, .unset, .unset, .unset, .unset, .unset, .unset, .unset]) rfl ?_
  refine g_iload X0 hx (pc' := 8) rfl (hb hby d8_6) rfl ?_
  refine g_iloadN X0 hx (pc' := 9) rfl (hb hby d8_8) rfl ?_
  refine g_isub X0 hx (pc' := 10) rfl (hb hby d8_9) ?_
  refine g_normI (z := (3 : Int32)) (by decide) ?_
  refine g_istore X0 hx (pc' := 12) rfl (hb hby d8_10) (l' := #[.val .null, .val (.ref aa), .val (.int (0 : Int32)), .val (.int (0 : Int32)), .val (.int (3 : Int32)), .val (.int (2 : Int32)), .val (.int (3 : Int32)), .unset, .unset, .unset, .unset, .unset, .unset, .unset, .unset, .unset, .unset, .unset, .unset, .unset, .unset, .unset, .unset, .unset, .unset]) rfl ?_
  refine g_iload X0 hx (pc' := 14) rfl (hb hby d8_12) rfl ?_
  refine g_bipush X0 hx (pc' := 16) (z := (65 : Int32)) rfl (hb hby d8_14) rfl ?_
  refine g_iloadN X0 hx (pc' := 17) rfl (hb hby d8_16) rfl ?_
  refine g_iadd X0 hx (pc' := 18) rfl (hb hby d8_17) ?_
  refine g_normI (z := (65 : Int32)) (by decide) ?_
  refine g_icmpN X0 hx (pcN := 21) (hb hby d8_18) rfl (show ¬ (¬ (3 : Int32) < (65 : Int32)) from by decide) ?_
  refine g_iloadN X0 hx (pc' := 22) rfl (hb hby d8_21) rfl ?_
  refine g_iconst X0 hx (pc' := 23) (z := (1 : Int32)) rfl (hb hby d8_22) rfl ?_
  refine g_iand X0 hx (pc' := 24) rfl (hb hby d8_23) ?_
  refine g_ifY X0 hx (pcY := 46) (hb hby d8_24) (by decide) (by decide) (show ¬ 0 < ((0 : Int32) &&& (1 : Int32)) from by decide) ?_
  refine g_iload X0 hx (pc' := 48) rfl (hb hby d8_46) rfl ?_
  refine g_bipush X0 hx (pc' := 50) (z := (44 : Int32)) rfl (hb hby d8_48) rfl ?_
  refine g_icmpN X0 hx (pcN := 53) (hb hby d8_50) rfl (show ¬ (¬ (3 : Int32) < (44 : Int32)) from by decide) ?_
  refine g_aloadN X0 hx (pc' := 54) rfl (hb hby d8_53) rfl rfl ?_
  refine g_iloadN X0 hx (pc' := 55) rfl (hb hby d8_54) rfl ?_
  refine g_iload X0 hx (pc' := 57) rfl (hb hby d8_55) rfl ?_
  refine g_callS X0 hx hZ hown (hw _ (List.mem_of_getElem? (i := 42) rfl)) (hw _ (List.mem_of_getElem? (i := 43) rfl)) (hw _ (List.mem_of_getElem? (i := 37) rfl)) (hw _ (List.mem_of_getElem? (i := 44) rfl)) (by decide) (rm9_3 l Z a0 hw [] n0 aa x0 x1 x2 h0 hn0 Aa hg) pd_0 rfl rfl (by rw [hml]; rfl) (pc' := 60) rfl (hb hby d8_57) (argsL := [(.ref aa), (.int (0 : Int32)), (.int (3 : Int32))]) (rest := []) rfl (W := 0) (Nat.le_of_eq rfl) (by decide) (by decide) (by decide) (by decide) (fun v120 T120 h120 X120 hQ120 => ?_)
  obtain ⟨rfl, KS, SS⟩ := hQ120
  show Go p e below s n0 _ _ _ (T120.setTop (mkF m 60 #[.val .null, .val (.ref aa), .val (.int (0 : Int32)), .val (.int (0 : Int32)), .val (.int (3 : Int32)), .val (.int (2 : Int32)), .val (.int (3 : Int32)), .unset, .unset, .unset, .unset, .unset, .unset, .unset, .unset, .unset, .unset, .unset, .unset, .unset, .unset, .unset, .unset, .unset, .unset] []))
  exact g_retV X120 hx hlk hret (hb hby d8_60) (by decide) (by decide) (⟨rfl, KS, SS⟩)
set_option maxRecDepth 65536 in
set_option maxHeartbeats 40000000 in
theorem rm8_4 (l : Launch) (Z : State) (a0 : Array Value) (hw : ∀ d ∈ tables_1, d.before a0 Z = true) (ws : List Jvm.Cond) (n0 : Nat) (aa : Addr) (x0 : Int32) (x1 : Int32) (x2 : Int32) (x3 : Int32) (h0 : Heap) (hn0 : n0 ≤ h0.size) (Aa : AD Z h0 aa [(FP.i2d x0), (FP.i2d x1), (FP.i2d x2), (FP.i2d x3)]) (hg : n0 ≤ aa) :
    Con l Z n0 (⟨"java/util/DualPivotQuicksort", "sort", "(Ljava/util/DualPivotQuicksort$Sorter;[DIII)V"⟩ : MethodName) jdk_2529_method_42_code 25 none ws ({ frames := 1, cells := 0, slots := 0, locals := 24 } : Room) #[.null, (.ref aa), (.int (0 : Int32)), (.int (0 : Int32)), (.int (4 : Int32))] h0 (fun v h => v = none ∧ Keep h0 h [aa] ∧ ∃ y0 : Int32, ∃ y1 : Int32, ∃ y2 : Int32, ∃ y3 : Int32, AD Z h aa [(FP.i2d y0), (FP.i2d y1), (FP.i2d y2), (FP.i2d y3)] ∧ y0.toInt ≤ y1.toInt ∧ y1.toInt ≤ y2.toInt ∧ y2.toInt ≤ y3.toInt ∧ ∀ q : Int32, Cq q y0 + Cq q y1 + Cq q y2 + Cq q y3 = Cq q x0 + Cq q x1 + Cq q x2 + Cq q x3) := by
  refine con_start (plainFor_of_name (by first | (simp [plainName, overriddenIn]; done) | decide +kernel)) (fr0 := fun m => mkF m 0 #[.val .null, .val (.ref aa), .val (.int (0 : Int32)), .val (.int (0 : Int32)), .val (.int (4 : Int32)), .unset, .unset, .unset, .unset, .unset, .unset, .unset, .unset, .unset, .unset, .unset, .unset, .unset, .unset, .unset, .unset, .unset, .unset, .unset, .unset] []) (fun m => by first | (simp [entryFrame, mkF, argsToLocals, Value.category]; done) | rfl) ?_
  intro p e s m below meth c T0 hx hZ hby hml hown hnm hret hlk X0
  replace hown : s.vm.findClass "java/util/DualPivotQuicksort" = some m.cls := hown
  replace hml : c.maxLocals = 25 := hml
  refine g_iload X0 hx (pc' := 2) rfl (hb hby d8_0) rfl ?_
  refine g_iconst X0 hx (pc' := 3) (z := (1 : Int32)) rfl (hb hby d8_2) rfl ?_
  refine g_isub X0 hx (pc' := 4) rfl (hb hby d8_3) ?_
  refine g_normI (z := (3 : Int32)) (by decide) ?_
  refine g_istore X0 hx (pc' := 6) rfl (hb hby d8_4) (l' := #[.val .null, .val (.ref aa), .val (.int (0 : Int32)), .val (.int (0 : Int32)), .val (.int (4 : Int32)), .val (.int (3 : Int32)), .unset, .unset, .unset, .unset, .unset, .unset, .unset, .unset, .unset, .unset, .unset, .unset, .unset, .unset, .unset, .unset, .unset, .unset, .unset]) rfl ?_
  refine g_iload X0 hx (pc' := 8) rfl (hb hby d8_6) rfl ?_
  refine g_iloadN X0 hx (pc' := 9) rfl (hb hby d8_8) rfl ?_
  refine g_isub X0 hx (pc' := 10) rfl (hb hby d8_9) ?_
  refine g_normI (z := (4 : Int32)) (by decide) ?_
  refine g_istore X0 hx (pc' := 12) rfl (hb hby d8_10) (l' := #[.val .null, .val (.ref aa), .val (.int (0 : Int32)), .val (.int (0 : Int32)), .val (.int (4 : Int32)), .val (.int (3 : Int32)), .val (.int (4 : Int32)), .unset, .unset, .unset, .unset, .unset, .unset, .unset, .unset, .unset, .unset, .unset, .unset, .unset, .unset, .unset, .unset, .unset, .unset]) rfl ?_
  refine g_iload X0 hx (pc' := 14) rfl (hb hby d8_12) rfl ?_
  refine g_bipush X0 hx (pc' := 16) (z := (65 : Int32)) rfl (hb hby d8_14) rfl ?_
  refine g_iloadN X0 hx (pc' := 17) rfl (hb hby d8_16) rfl ?_
  refine g_iadd X0 hx (pc' := 18) rfl (hb hby d8_17) ?_
  refine g_normI (z := (65 : Int32)) (by decide) ?_
  refine g_icmpN X0 hx (pcN := 21) (hb hby d8_18) rfl (show ¬ (¬ (4 : Int32) < (65 : Int32)) from by decide) ?_
  refine g_iloadN X0 hx (pc' := 22) rfl (hb hby d8_21) rfl ?_
  refine g_iconst X0 hx (pc' := 23) (z := (1 : Int32)) rfl (hb hby d8_22) rfl ?_
  refine g_iand X0 hx (pc' := 24) rfl (hb hby d8_23) ?_
  refine g_ifY X0 hx (pcY := 46) (hb hby d8_24) (by decide) (by decide) (show ¬ 0 < ((0 : Int32) &&& (1 : Int32)) from by decide) ?_
  refine g_iload X0 hx (pc' := 48) rfl (hb hby d8_46) rfl ?_
  refine g_bipush X0 hx (pc' := 50) (z := (44 : Int32)) rfl (hb hby d8_48) rfl ?_
  refine g_icmpN X0 hx (pcN := 53) (hb hby d8_50) rfl (show ¬ (¬ (4 : Int32) < (44 : Int32)) from by decide) ?_
  refine g_aloadN X0 hx (pc' := 54) rfl (hb hby d8_53) rfl rfl ?_
  refine g_iloadN X0 hx (pc' := 55) rfl (hb hby d8_54) rfl ?_
  refine g_iload X0 hx (pc' := 57) rfl (hb hby d8_55) rfl ?_
  refine g_callS X0 hx hZ hown (hw _ (List.mem_of_getElem? (i := 42) rfl)) (hw _ (List.mem_of_getElem? (i := 43) rfl)) (hw _ (List.mem_of_getElem? (i := 37) rfl)) (hw _ (List.mem_of_getElem? (i := 44) rfl)) (by decide) (rm9_4 l Z a0 hw [] n0 aa x0 x1 x2 x3 h0 hn0 Aa hg) pd_0 rfl rfl (by rw [hml]; rfl) (pc' := 60) rfl (hb hby d8_57) (argsL := [(.ref aa), (.int (0 : Int32)), (.int (4 : Int32))]) (rest := []) rfl (W := 0) (Nat.le_of_eq rfl) (by decide) (by decide) (by decide) (by decide) (fun v121 T121 h121 X121 hQ121 => ?_)
  obtain ⟨rfl, KS, SS⟩ := hQ121
  show Go p e below s n0 _ _ _ (T121.setTop (mkF m 60 #[.val .null, .val (.ref aa), .val (.int (0 : Int32)), .val (.int (0 : Int32)), .val (.int (4 : Int32)), .val (.int (3 : Int32)), .val (.int (4 : Int32)), .unset, .unset, .unset, .unset, .unset, .unset, .unset, .unset, .unset, .unset, .unset, .unset, .unset, .unset, .unset, .unset, .unset, .unset] []))
  exact g_retV X121 hx hlk hret (hb hby d8_60) (by decide) (by decide) (⟨rfl, KS, SS⟩)
set_option maxRecDepth 65536 in
set_option maxHeartbeats 40000000 in
theorem rm7_0 (l : Launch) (Z : State) (a0 : Array Value) (hw : ∀ d ∈ tables_1, d.before a0 Z = true) (ws : List Jvm.Cond) (n0 : Nat) (aa : Addr) (h0 : Heap) (hn0 : n0 ≤ h0.size) (Aa : AD Z h0 aa []) (hg : n0 ≤ aa) :
    Con l Z n0 (⟨"java/util/DualPivotQuicksort", "sort", "([DIII)V"⟩ : MethodName) jdk_2529_method_41_code 8 none ws ({ frames := 2, cells := 0, slots := 0, locals := 64 } : Room) #[(.ref aa), (.int (0 : Int32)), (.int (0 : Int32)), (.int (0 : Int32))] h0 (fun v h => v = none ∧ Keep h0 h [aa] ∧ AD Z h aa [] ∧ ∀ q : Int32, (0 : Int) = (0 : Int)) := by
  refine con_start (plainFor_of_name (by first | (simp [plainName, overriddenIn]; done) | decide +kernel)) (fr0 := fun m => mkF m 0 #[.val (.ref aa), .val (.int (0 : Int32)), .val (.int (0 : Int32)), .val (.int (0 : Int32)), .unset, .unset, .unset, .unset] []) (fun m => by first | (simp [entryFrame, mkF, argsToLocals, Value.category]; done) | rfl) ?_
  intro p e s m below meth c T0 hx hZ hby hml hown hnm hret hlk X0
  replace hown : s.vm.findClass "java/util/DualPivotQuicksort" = some m.cls := hown
  replace hml : c.maxLocals = 8 := hml
  refine g_iconst X0 hx (pc' := 1) (z := (0 : Int32)) rfl (hb hby d7_0) rfl ?_
  refine g_istore X0 hx (pc' := 3) rfl (hb hby d7_1) (l' := #[.val (.ref aa), .val (.int (0 : Int32)), .val (.int (0 : Int32)), .val (.int (0 : Int32)), .val (.int (0 : Int32)), .unset, .unset, .unset]) rfl ?_
  refine g_iloadN X0 hx (pc' := 4) rfl (hb hby d7_3) rfl ?_
  refine g_istore X0 hx (pc' := 6) rfl (hb hby d7_4) (l' := #[.val (.ref aa), .val (.int (0 : Int32)), .val (.int (0 : Int32)), .val (.int (0 : Int32)), .val (.int (0 : Int32)), .val (.int (0 : Int32)), .unset, .unset]) rfl ?_
  refine g_iload X0 hx (pc' := 8) rfl (hb hby d7_6) rfl ?_
  refine g_iloadN X0 hx (pc' := 9) rfl (hb hby d7_8) rfl ?_
  refine g_icmpY X0 hx (pcY := 75) (hb hby d7_9) (by decide) (by decide) (show ¬ (0 : Int32) < (0 : Int32) from by decide) ?_
  refine g_iloadN X0 hx (pc' := 76) rfl (hb hby d7_75) rfl ?_
  refine g_iloadN X0 hx (pc' := 77) rfl (hb hby d7_76) rfl ?_
  refine g_isub X0 hx (pc' := 78) rfl (hb hby d7_77) ?_
  refine g_normI (z := (0 : Int32)) (by decide) ?_
  refine g_istore X0 hx (pc' := 80) rfl (hb hby d7_78) (l' := #[.val (.ref aa), .val (.int (0 : Int32)), .val (.int (0 : Int32)), .val (.int (0 : Int32)), .val (.int (0 : Int32)), .val (.int (0 : Int32)), .unset, .unset]) rfl ?_
  refine g_iloadN X0 hx (pc' := 81) rfl (hb hby d7_80) rfl ?_
  refine g_iconst X0 hx (pc' := 82) (z := (1 : Int32)) rfl (hb hby d7_81) rfl ?_
  refine g_icmpY X0 hx (pcY := 143) (hb hby d7_82) (by decide) (by decide) (show ¬ (1 : Int32) < (0 : Int32) from by decide) ?_
  refine g_aconst_null X0 hx (pc' := 144) rfl (hb hby d7_143) ?_
  refine g_aloadN X0 hx (pc' := 145) rfl (hb hby d7_144) rfl rfl ?_
  refine g_iconst X0 hx (pc' := 146) (z := (0 : Int32)) rfl (hb hby d7_145) rfl ?_
  refine g_iloadN X0 hx (pc' := 147) rfl (hb hby d7_146) rfl ?_
  refine g_iloadN X0 hx (pc' := 148) rfl (hb hby d7_147) rfl ?_
  refine g_callS X0 hx hZ hown (hw _ (List.mem_of_getElem? (i := 39) rfl)) (hw _ (List.mem_of_getElem? (i := 40) rfl)) (hw _ (List.mem_of_getElem? (i := 37) rfl)) (hw _ (List.mem_of_getElem? (i := 41) rfl)) (by decide) (rm8_0 l Z a0 hw [] n0 aa  h0 hn0 Aa hg) pd_1 rfl rfl (by rw [hml]; rfl) (pc' := 151) rfl (hb hby d7_148) (argsL := [.null, (.ref aa), (.int (0 : Int32)), (.int (0 : Int32)), (.int (0 : Int32))]) (rest := []) rfl (W := 0) (Nat.le_of_eq rfl) (by decide) (by decide) (by decide) (by decide) (fun v122 T122 h122 X122 hQ122 => ?_)
  obtain ⟨rfl, KS, SS⟩ := hQ122
  show Go p e below s n0 _ _ _ (T122.setTop (mkF m 151 #[.val (.ref aa), .val (.int (0 : Int32)), .val (.int (0 : Int32)), .val (.int (0 : Int32)), .val (.int (0 : Int32)), .val (.int (0 : Int32)), .unset, .unset] []))
  refine g_iincC X122 hx (pc' := 154) (x := (0 : Int32)) (z := (1 : Int32)) rfl (hb hby d7_151) rfl (by decide) (l' := #[.val (.ref aa), .val (.int (0 : Int32)), .val (.int (0 : Int32)), .val (.int (0 : Int32)), .val (.int (1 : Int32)), .val (.int (0 : Int32)), .unset, .unset]) rfl ?_
  refine g_iload X122 hx (pc' := 156) rfl (hb hby d7_154) rfl ?_
  refine g_iconst X122 hx (pc' := 157) (z := (1 : Int32)) rfl (hb hby d7_156) rfl ?_
  refine g_icmpN X122 hx (pcN := 160) (hb hby d7_157) rfl (show ¬ (¬ (1 : Int32) = (1 : Int32)) from by decide) ?_
  exact g_retV X122 hx hlk hret (hb hby d7_160) (by decide) (by decide) (⟨rfl, KS, SS⟩)
set_option maxRecDepth 65536 in
set_option maxHeartbeats 40000000 in
theorem rm7_1 (l : Launch) (Z : State) (a0 : Array Value) (hw : ∀ d ∈ tables_1, d.before a0 Z = true) (ws : List Jvm.Cond) (n0 : Nat) (aa : Addr) (x0 : Int32) (h0 : Heap) (hn0 : n0 ≤ h0.size) (Aa : AD Z h0 aa [(FP.i2d x0)]) (hg : n0 ≤ aa) :
    Con l Z n0 (⟨"java/util/DualPivotQuicksort", "sort", "([DIII)V"⟩ : MethodName) jdk_2529_method_41_code 8 none ws ({ frames := 2, cells := 0, slots := 0, locals := 64 } : Room) #[(.ref aa), (.int (0 : Int32)), (.int (0 : Int32)), (.int (1 : Int32))] h0 (fun v h => v = none ∧ Keep h0 h [aa] ∧ ∃ y0 : Int32, AD Z h aa [(FP.i2d y0)] ∧ ∀ q : Int32, Cq q y0 = Cq q x0) := by
  refine con_start (plainFor_of_name (by first | (simp [plainName, overriddenIn]; done) | decide +kernel)) (fr0 := fun m => mkF m 0 #[.val (.ref aa), .val (.int (0 : Int32)), .val (.int (0 : Int32)), .val (.int (1 : Int32)), .unset, .unset, .unset, .unset] []) (fun m => by first | (simp [entryFrame, mkF, argsToLocals, Value.category]; done) | rfl) ?_
  intro p e s m below meth c T0 hx hZ hby hml hown hnm hret hlk X0
  replace hown : s.vm.findClass "java/util/DualPivotQuicksort" = some m.cls := hown
  replace hml : c.maxLocals = 8 := hml
  refine g_iconst X0 hx (pc' := 1) (z := (0 : Int32)) rfl (hb hby d7_0) rfl ?_
  refine g_istore X0 hx (pc' := 3) rfl (hb hby d7_1) (l' := #[.val (.ref aa), .val (.int (0 : Int32)), .val (.int (0 : Int32)), .val (.int (1 : Int32)), .val (.int (0 : Int32)), .unset, .unset, .unset]) rfl ?_
  refine g_iloadN X0 hx (pc' := 4) rfl (hb hby d7_3) rfl ?_
  refine g_istore X0 hx (pc' := 6) rfl (hb hby d7_4) (l' := #[.val (.ref aa), .val (.int (0 : Int32)), .val (.int (0 : Int32)), .val (.int (1 : Int32)), .val (.int (0 : Int32)), .val (.int (1 : Int32)), .unset, .unset]) rfl ?_
  refine g_iload X0 hx (pc' := 8) rfl (hb hby d7_6) rfl ?_
  refine g_iloadN X0 hx (pc' := 9) rfl (hb hby d7_8) rfl ?_
  refine g_icmpN X0 hx (pcN := 12) (hb hby d7_9) rfl (show ¬ (¬ (0 : Int32) < (1 : Int32)) from by decide) ?_
  refine g_aloadN X0 hx (pc' := 13) rfl (hb hby d7_12) rfl rfl ?_
  refine g_iincC X0 hx (pc' := 16) (x := (1 : Int32)) (z := (0 : Int32)) rfl (hb hby d7_13) rfl (by decide) (l' := #[.val (.ref aa), .val (.int (0 : Int32)), .val (.int (0 : Int32)), .val (.int (1 : Int32)), .val (.int (0 : Int32)), .val (.int (0 : Int32)), .unset, .unset]) rfl ?_
  refine g_iload X0 hx (pc' := 18) rfl (hb hby d7_16) rfl ?_
  refine g_daload X0 hx hZ Aa (i := 0) (by decide) (show (0 : Nat) < 1 by decide) (v := (FP.i2d x0)) rfl (pc' := 19) rfl (hb hby d7_18) ?_
  refine g_dstore X0 hx (pc' := 21) rfl (hb hby d7_19) (l' := #[.val (.ref aa), .val (.int (0 : Int32)), .val (.int (0 : Int32)), .val (.int (1 : Int32)), .val (.int (0 : Int32)), .val (.int (0 : Int32)), .val (.double (FP.i2d x0)), .second]) rfl ?_
  refine g_dload X0 hx (pc' := 23) rfl (hb hby d7_21) rfl ?_
  refine g_dconst0 X0 hx (pc' := 24) rfl (hb hby d7_23) ?_
  refine g_dcmp X0 hx (pc' := 25) (z := (cmpValue (FP.dcmp (FP.i2d x0) (0 : UInt64)) .l)) rfl (hb hby d7_24) rfl ?_
  suffices J25 : ∀ (T124 : State) (X124 : Wk p l e ({ frames := 2, cells := 0, slots := 0, locals := 64 } : Room) s m #[(.ref aa), (.int (0 : Int32)), (.int (0 : Int32)), (.int (1 : Int32))] below meth c n0 T124 h0 0 0) , Go p e below s n0 (fun v h => v = none ∧ Keep h0 h [aa] ∧ ∃ y0 : Int32, AD Z h aa [(FP.i2d y0)] ∧ ∀ q : Int32, Cq q y0 = Cq q x0) ({ frames := 2, cells := 0, slots := 0, locals := 64 } : Room).cells ({ frames := 2, cells := 0, slots := 0, locals := 64 } : Room).slots (T124.setTop (mkF m 49 #[.val (.ref aa), .val (.int (0 : Int32)), .val (.int (0 : Int32)), .val (.int (1 : Int32)), .val (.int (0 : Int32)), .val (.int (0 : Int32)), .val (.double (FP.i2d x0)), .second] [])) by
    refine g_if X0 hx (pcY := 49) (pcN := 28) (hb hby d7_25) (by decide) (by decide) rfl (fun hc25 => ?_) (fun hc25 => ?_)
    · replace hc25 : ¬ (cmpValue (FP.dcmp (FP.i2d x0) (0 : UInt64)) .l) = 0 := hc25
      exact J25 T0 X0  
    · replace hc25 : (cmpValue (FP.dcmp (FP.i2d x0) (0 : UInt64)) .l) = 0 := Classical.not_not.mp hc25
      refine g_dload X0 hx (pc' := 30) rfl (hb hby d7_28) rfl ?_
      refine g_dbits X0 hx hZ hown (hw _ (List.mem_of_getElem? (i := 55) rfl)) (hw _ (List.mem_of_getElem? (i := 58) rfl)) (hw _ (List.mem_of_getElem? (i := 56) rfl)) (hw _ (List.mem_of_getElem? (i := 57) rfl)) (by rw [hml]; rfl) (pc' := 33) rfl (hb hby d7_30) (by decide) (by decide +kernel) (fun T123 X123 => ?_)
      show Go p e below s n0 _ _ _ (T123.setTop (mkF m 33 #[.val (.ref aa), .val (.int (0 : Int32)), .val (.int (0 : Int32)), .val (.int (1 : Int32)), .val (.int (0 : Int32)), .val (.int (0 : Int32)), .val (.double (FP.i2d x0)), .second] [(.long ((FP.i2d x0)).toInt64)]))
      refine g_lconst X123 hx (pc' := 34) (z := (0 : Int64)) rfl (hb hby d7_33) rfl ?_
      refine g_lcmp X123 hx (pc' := 35) rfl (hb hby d7_34) ?_
      refine g_ifY X123 hx (pcY := 49) (hb hby d7_35) (by decide) (by decide) (show ¬ (lcmpW ((FP.i2d x0)).toInt64 (0 : Int64)) < 0 from own_raw hc25) ?_
      exact J25 T123 X123  
  intro T124 X124  
  refine g_dload X124 hx (pc' := 51) rfl (hb hby d7_49) rfl ?_
  refine g_dload X124 hx (pc' := 53) rfl (hb hby d7_51) rfl ?_
  refine g_dcmp X124 hx (pc' := 54) (z := (0 : Int32)) rfl (hb hby d7_53) (own_dyeq (own_i2d _) (own_i2d _) rfl) ?_
  refine g_ifY X124 hx (pcY := 72) (hb hby d7_54) (by decide) (by decide) (show (0 : Int32) = 0 from by decide) ?_
  refine g_goto X124 hx (pc' := 6) (hb hby d7_72) (by decide) (by decide) ?_
  refine g_iload X124 hx (pc' := 8) rfl (hb hby d7_6) rfl ?_
  refine g_iloadN X124 hx (pc' := 9) rfl (hb hby d7_8) rfl ?_
  refine g_icmpY X124 hx (pcY := 75) (hb hby d7_9) (by decide) (by decide) (show ¬ (0 : Int32) < (0 : Int32) from by decide) ?_
  refine g_iloadN X124 hx (pc' := 76) rfl (hb hby d7_75) rfl ?_
  refine g_iloadN X124 hx (pc' := 77) rfl (hb hby d7_76) rfl ?_
  refine g_isub X124 hx (pc' := 78) rfl (hb hby d7_77) ?_
  refine g_normI (z := (1 : Int32)) (by decide) ?_
  refine g_istore X124 hx (pc' := 80) rfl (hb hby d7_78) (l' := #[.val (.ref aa), .val (.int (0 : Int32)), .val (.int (0 : Int32)), .val (.int (1 : Int32)), .val (.int (0 : Int32)), .val (.int (1 : Int32)), .val (.double (FP.i2d x0)), .second]) rfl ?_
  refine g_iloadN X124 hx (pc' := 81) rfl (hb hby d7_80) rfl ?_
  refine g_iconst X124 hx (pc' := 82) (z := (1 : Int32)) rfl (hb hby d7_81) rfl ?_
  refine g_icmpY X124 hx (pcY := 143) (hb hby d7_82) (by decide) (by decide) (show ¬ (1 : Int32) < (0 : Int32) from by decide) ?_
  refine g_aconst_null X124 hx (pc' := 144) rfl (hb hby d7_143) ?_
  refine g_aloadN X124 hx (pc' := 145) rfl (hb hby d7_144) rfl rfl ?_
  refine g_iconst X124 hx (pc' := 146) (z := (0 : Int32)) rfl (hb hby d7_145) rfl ?_
  refine g_iloadN X124 hx (pc' := 147) rfl (hb hby d7_146) rfl ?_
  refine g_iloadN X124 hx (pc' := 148) rfl (hb hby d7_147) rfl ?_
  refine g_callS X124 hx hZ hown (hw _ (List.mem_of_getElem? (i := 39) rfl)) (hw _ (List.mem_of_getElem? (i := 40) rfl)) (hw _ (List.mem_of_getElem? (i := 37) rfl)) (hw _ (List.mem_of_getElem? (i := 41) rfl)) (by decide) (rm8_1 l Z a0 hw [] n0 aa x0 h0 hn0 Aa hg) pd_1 rfl rfl (by rw [hml]; rfl) (pc' := 151) rfl (hb hby d7_148) (argsL := [.null, (.ref aa), (.int (0 : Int32)), (.int (0 : Int32)), (.int (1 : Int32))]) (rest := []) rfl (W := 0) (Nat.le_of_eq rfl) (by decide) (by decide) (by decide) (by decide) (fun v125 T125 h125 X125 hQ125 => ?_)
  obtain ⟨rfl, KS, SS⟩ := hQ125
  show Go p e below s n0 _ _ _ (T125.setTop (mkF m 151 #[.val (.ref aa), .val (.int (0 : Int32)), .val (.int (0 : Int32)), .val (.int (1 : Int32)), .val (.int (0 : Int32)), .val (.int (1 : Int32)), .val (.double (FP.i2d x0)), .second] []))
  refine g_iincC X125 hx (pc' := 154) (x := (0 : Int32)) (z := (1 : Int32)) rfl (hb hby d7_151) rfl (by decide) (l' := #[.val (.ref aa), .val (.int (0 : Int32)), .val (.int (0 : Int32)), .val (.int (1 : Int32)), .val (.int (1 : Int32)), .val (.int (1 : Int32)), .val (.double (FP.i2d x0)), .second]) rfl ?_
  refine g_iload X125 hx (pc' := 156) rfl (hb hby d7_154) rfl ?_
  refine g_iconst X125 hx (pc' := 157) (z := (1 : Int32)) rfl (hb hby d7_156) rfl ?_
  refine g_icmpN X125 hx (pcN := 160) (hb hby d7_157) rfl (show ¬ (¬ (1 : Int32) = (1 : Int32)) from by decide) ?_
  exact g_retV X125 hx hlk hret (hb hby d7_160) (by decide) (by decide) (⟨rfl, KS, SS⟩)
set_option maxRecDepth 65536 in
set_option maxHeartbeats 40000000 in
theorem rm7_2 (l : Launch) (Z : State) (a0 : Array Value) (hw : ∀ d ∈ tables_1, d.before a0 Z = true) (ws : List Jvm.Cond) (n0 : Nat) (aa : Addr) (x0 : Int32) (x1 : Int32) (h0 : Heap) (hn0 : n0 ≤ h0.size) (Aa : AD Z h0 aa [(FP.i2d x0), (FP.i2d x1)]) (hg : n0 ≤ aa) :
    Con l Z n0 (⟨"java/util/DualPivotQuicksort", "sort", "([DIII)V"⟩ : MethodName) jdk_2529_method_41_code 8 none ws ({ frames := 2, cells := 0, slots := 0, locals := 64 } : Room) #[(.ref aa), (.int (0 : Int32)), (.int (0 : Int32)), (.int (2 : Int32))] h0 (fun v h => v = none ∧ Keep h0 h [aa] ∧ ∃ y0 : Int32, ∃ y1 : Int32, AD Z h aa [(FP.i2d y0), (FP.i2d y1)] ∧ y0.toInt ≤ y1.toInt ∧ ∀ q : Int32, Cq q y0 + Cq q y1 = Cq q x0 + Cq q x1) := by
  refine con_start (plainFor_of_name (by first | (simp [plainName, overriddenIn]; done) | decide +kernel)) (fr0 := fun m => mkF m 0 #[.val (.ref aa), .val (.int (0 : Int32)), .val (.int (0 : Int32)), .val (.int (2 : Int32)), .unset, .unset, .unset, .unset] []) (fun m => by first | (simp [entryFrame, mkF, argsToLocals, Value.category]; done) | rfl) ?_
  intro p e s m below meth c T0 hx hZ hby hml hown hnm hret hlk X0
  replace hown : s.vm.findClass "java/util/DualPivotQuicksort" = some m.cls := hown
  replace hml : c.maxLocals = 8 := hml
  refine g_iconst X0 hx (pc' := 1) (z := (0 : Int32)) rfl (hb hby d7_0) rfl ?_
  refine g_istore X0 hx (pc' := 3) rfl (hb hby d7_1) (l' := #[.val (.ref aa), .val (.int (0 : Int32)), .val (.int (0 : Int32)), .val (.int (2 : Int32)), .val (.int (0 : Int32)), .unset, .unset, .unset]) rfl ?_
  refine g_iloadN X0 hx (pc' := 4) rfl (hb hby d7_3) rfl ?_
  refine g_istore X0 hx (pc' := 6) rfl (hb hby d7_4) (l' := #[.val (.ref aa), .val (.int (0 : Int32)), .val (.int (0 : Int32)), .val (.int (2 : Int32)), .val (.int (0 : Int32)), .val (.int (2 : Int32)), .unset, .unset]) rfl ?_
  refine g_iload X0 hx (pc' := 8) rfl (hb hby d7_6) rfl ?_
  refine g_iloadN X0 hx (pc' := 9) rfl (hb hby d7_8) rfl ?_
  refine g_icmpN X0 hx (pcN := 12) (hb hby d7_9) rfl (show ¬ (¬ (0 : Int32) < (2 : Int32)) from by decide) ?_
  refine g_aloadN X0 hx (pc' := 13) rfl (hb hby d7_12) rfl rfl ?_
  refine g_iincC X0 hx (pc' := 16) (x := (2 : Int32)) (z := (1 : Int32)) rfl (hb hby d7_13) rfl (by decide) (l' := #[.val (.ref aa), .val (.int (0 : Int32)), .val (.int (0 : Int32)), .val (.int (2 : Int32)), .val (.int (0 : Int32)), .val (.int (1 : Int32)), .unset, .unset]) rfl ?_
  refine g_iload X0 hx (pc' := 18) rfl (hb hby d7_16) rfl ?_
  refine g_daload X0 hx hZ Aa (i := 1) (by decide) (show (1 : Nat) < 2 by decide) (v := (FP.i2d x1)) rfl (pc' := 19) rfl (hb hby d7_18) ?_
  refine g_dstore X0 hx (pc' := 21) rfl (hb hby d7_19) (l' := #[.val (.ref aa), .val (.int (0 : Int32)), .val (.int (0 : Int32)), .val (.int (2 : Int32)), .val (.int (0 : Int32)), .val (.int (1 : Int32)), .val (.double (FP.i2d x1)), .second]) rfl ?_
  refine g_dload X0 hx (pc' := 23) rfl (hb hby d7_21) rfl ?_
  refine g_dconst0 X0 hx (pc' := 24) rfl (hb hby d7_23) ?_
  refine g_dcmp X0 hx (pc' := 25) (z := (cmpValue (FP.dcmp (FP.i2d x1) (0 : UInt64)) .l)) rfl (hb hby d7_24) rfl ?_
  suffices J25 : ∀ (T127 : State) (X127 : Wk p l e ({ frames := 2, cells := 0, slots := 0, locals := 64 } : Room) s m #[(.ref aa), (.int (0 : Int32)), (.int (0 : Int32)), (.int (2 : Int32))] below meth c n0 T127 h0 0 0) , Go p e below s n0 (fun v h => v = none ∧ Keep h0 h [aa] ∧ ∃ y0 : Int32, ∃ y1 : Int32, AD Z h aa [(FP.i2d y0), (FP.i2d y1)] ∧ y0.toInt ≤ y1.toInt ∧ ∀ q : Int32, Cq q y0 + Cq q y1 = Cq q x0 + Cq q x1) ({ frames := 2, cells := 0, slots := 0, locals := 64 } : Room).cells ({ frames := 2, cells := 0, slots := 0, locals := 64 } : Room).slots (T127.setTop (mkF m 49 #[.val (.ref aa), .val (.int (0 : Int32)), .val (.int (0 : Int32)), .val (.int (2 : Int32)), .val (.int (0 : Int32)), .val (.int (1 : Int32)), .val (.double (FP.i2d x1)), .second] [])) by
    refine g_if X0 hx (pcY := 49) (pcN := 28) (hb hby d7_25) (by decide) (by decide) rfl (fun hc25 => ?_) (fun hc25 => ?_)
    · replace hc25 : ¬ (cmpValue (FP.dcmp (FP.i2d x1) (0 : UInt64)) .l) = 0 := hc25
      exact J25 T0 X0  
    · replace hc25 : (cmpValue (FP.dcmp (FP.i2d x1) (0 : UInt64)) .l) = 0 := Classical.not_not.mp hc25
      refine g_dload X0 hx (pc' := 30) rfl (hb hby d7_28) rfl ?_
      refine g_dbits X0 hx hZ hown (hw _ (List.mem_of_getElem? (i := 55) rfl)) (hw _ (List.mem_of_getElem? (i := 58) rfl)) (hw _ (List.mem_of_getElem? (i := 56) rfl)) (hw _ (List.mem_of_getElem? (i := 57) rfl)) (by rw [hml]; rfl) (pc' := 33) rfl (hb hby d7_30) (by decide) (by decide +kernel) (fun T126 X126 => ?_)
      show Go p e below s n0 _ _ _ (T126.setTop (mkF m 33 #[.val (.ref aa), .val (.int (0 : Int32)), .val (.int (0 : Int32)), .val (.int (2 : Int32)), .val (.int (0 : Int32)), .val (.int (1 : Int32)), .val (.double (FP.i2d x1)), .second] [(.long ((FP.i2d x1)).toInt64)]))
      refine g_lconst X126 hx (pc' := 34) (z := (0 : Int64)) rfl (hb hby d7_33) rfl ?_
      refine g_lcmp X126 hx (pc' := 35) rfl (hb hby d7_34) ?_
      refine g_ifY X126 hx (pcY := 49) (hb hby d7_35) (by decide) (by decide) (show ¬ (lcmpW ((FP.i2d x1)).toInt64 (0 : Int64)) < 0 from own_raw hc25) ?_
      exact J25 T126 X126  
  intro T127 X127  
  refine g_dload X127 hx (pc' := 51) rfl (hb hby d7_49) rfl ?_
  refine g_dload X127 hx (pc' := 53) rfl (hb hby d7_51) rfl ?_
  refine g_dcmp X127 hx (pc' := 54) (z := (0 : Int32)) rfl (hb hby d7_53) (own_dyeq (own_i2d _) (own_i2d _) rfl) ?_
  refine g_ifY X127 hx (pcY := 72) (hb hby d7_54) (by decide) (by decide) (show (0 : Int32) = 0 from by decide) ?_
  refine g_goto X127 hx (pc' := 6) (hb hby d7_72) (by decide) (by decide) ?_
  refine g_iload X127 hx (pc' := 8) rfl (hb hby d7_6) rfl ?_
  refine g_iloadN X127 hx (pc' := 9) rfl (hb hby d7_8) rfl ?_
  refine g_icmpN X127 hx (pcN := 12) (hb hby d7_9) rfl (show ¬ (¬ (0 : Int32) < (1 : Int32)) from by decide) ?_
  refine g_aloadN X127 hx (pc' := 13) rfl (hb hby d7_12) rfl rfl ?_
  refine g_iincC X127 hx (pc' := 16) (x := (1 : Int32)) (z := (0 : Int32)) rfl (hb hby d7_13) rfl (by decide) (l' := #[.val (.ref aa), .val (.int (0 : Int32)), .val (.int (0 : Int32)), .val (.int (2 : Int32)), .val (.int (0 : Int32)), .val (.int (0 : Int32)), .val (.double (FP.i2d x1)), .second]) rfl ?_
  refine g_iload X127 hx (pc' := 18) rfl (hb hby d7_16) rfl ?_
  refine g_daload X127 hx hZ Aa (i := 0) (by decide) (show (0 : Nat) < 2 by decide) (v := (FP.i2d x0)) rfl (pc' := 19) rfl (hb hby d7_18) ?_
  refine g_dstore X127 hx (pc' := 21) rfl (hb hby d7_19) (l' := #[.val (.ref aa), .val (.int (0 : Int32)), .val (.int (0 : Int32)), .val (.int (2 : Int32)), .val (.int (0 : Int32)), .val (.int (0 : Int32)), .val (.double (FP.i2d x0)), .second]) rfl ?_
  refine g_dload X127 hx (pc' := 23) rfl (hb hby d7_21) rfl ?_
  refine g_dconst0 X127 hx (pc' := 24) rfl (hb hby d7_23) ?_
  refine g_dcmp X127 hx (pc' := 25) (z := (cmpValue (FP.dcmp (FP.i2d x0) (0 : UInt64)) .l)) rfl (hb hby d7_24) rfl ?_
  suffices J25 : ∀ (T129 : State) (X129 : Wk p l e ({ frames := 2, cells := 0, slots := 0, locals := 64 } : Room) s m #[(.ref aa), (.int (0 : Int32)), (.int (0 : Int32)), (.int (2 : Int32))] below meth c n0 T129 h0 0 0) , Go p e below s n0 (fun v h => v = none ∧ Keep h0 h [aa] ∧ ∃ y0 : Int32, ∃ y1 : Int32, AD Z h aa [(FP.i2d y0), (FP.i2d y1)] ∧ y0.toInt ≤ y1.toInt ∧ ∀ q : Int32, Cq q y0 + Cq q y1 = Cq q x0 + Cq q x1) ({ frames := 2, cells := 0, slots := 0, locals := 64 } : Room).cells ({ frames := 2, cells := 0, slots := 0, locals := 64 } : Room).slots (T129.setTop (mkF m 49 #[.val (.ref aa), .val (.int (0 : Int32)), .val (.int (0 : Int32)), .val (.int (2 : Int32)), .val (.int (0 : Int32)), .val (.int (0 : Int32)), .val (.double (FP.i2d x0)), .second] [])) by
    refine g_if X127 hx (pcY := 49) (pcN := 28) (hb hby d7_25) (by decide) (by decide) rfl (fun hc25 => ?_) (fun hc25 => ?_)
    · replace hc25 : ¬ (cmpValue (FP.dcmp (FP.i2d x0) (0 : UInt64)) .l) = 0 := hc25
      exact J25 T127 X127  
    · replace hc25 : (cmpValue (FP.dcmp (FP.i2d x0) (0 : UInt64)) .l) = 0 := Classical.not_not.mp hc25
      refine g_dload X127 hx (pc' := 30) rfl (hb hby d7_28) rfl ?_
      refine g_dbits X127 hx hZ hown (hw _ (List.mem_of_getElem? (i := 55) rfl)) (hw _ (List.mem_of_getElem? (i := 58) rfl)) (hw _ (List.mem_of_getElem? (i := 56) rfl)) (hw _ (List.mem_of_getElem? (i := 57) rfl)) (by rw [hml]; rfl) (pc' := 33) rfl (hb hby d7_30) (by decide) (by decide +kernel) (fun T128 X128 => ?_)
      show Go p e below s n0 _ _ _ (T128.setTop (mkF m 33 #[.val (.ref aa), .val (.int (0 : Int32)), .val (.int (0 : Int32)), .val (.int (2 : Int32)), .val (.int (0 : Int32)), .val (.int (0 : Int32)), .val (.double (FP.i2d x0)), .second] [(.long ((FP.i2d x0)).toInt64)]))
      refine g_lconst X128 hx (pc' := 34) (z := (0 : Int64)) rfl (hb hby d7_33) rfl ?_
      refine g_lcmp X128 hx (pc' := 35) rfl (hb hby d7_34) ?_
      refine g_ifY X128 hx (pcY := 49) (hb hby d7_35) (by decide) (by decide) (show ¬ (lcmpW ((FP.i2d x0)).toInt64 (0 : Int64)) < 0 from own_raw hc25) ?_
      exact J25 T128 X128  
  intro T129 X129  
  refine g_dload X129 hx (pc' := 51) rfl (hb hby d7_49) rfl ?_
  refine g_dload X129 hx (pc' := 53) rfl (hb hby d7_51) rfl ?_
  refine g_dcmp X129 hx (pc' := 54) (z := (0 : Int32)) rfl (hb hby d7_53) (own_dyeq (own_i2d _) (own_i2d _) rfl) ?_
  refine g_ifY X129 hx (pcY := 72) (hb hby d7_54) (by decide) (by decide) (show (0 : Int32) = 0 from by decide) ?_
  refine g_goto X129 hx (pc' := 6) (hb hby d7_72) (by decide) (by decide) ?_
  refine g_iload X129 hx (pc' := 8) rfl (hb hby d7_6) rfl ?_
  refine g_iloadN X129 hx (pc' := 9) rfl (hb hby d7_8) rfl ?_
  refine g_icmpY X129 hx (pcY := 75) (hb hby d7_9) (by decide) (by decide) (show ¬ (0 : Int32) < (0 : Int32) from by decide) ?_
  refine g_iloadN X129 hx (pc' := 76) rfl (hb hby d7_75) rfl ?_
  refine g_iloadN X129 hx (pc' := 77) rfl (hb hby d7_76) rfl ?_
  refine g_isub X129 hx (pc' := 78) rfl (hb hby d7_77) ?_
  refine g_normI (z := (2 : Int32)) (by decide) ?_
  refine g_istore X129 hx (pc' := 80) rfl (hb hby d7_78) (l' := #[.val (.ref aa), .val (.int (0 : Int32)), .val (.int (0 : Int32)), .val (.int (2 : Int32)), .val (.int (0 : Int32)), .val (.int (2 : Int32)), .val (.double (FP.i2d x0)), .second]) rfl ?_
  refine g_iloadN X129 hx (pc' := 81) rfl (hb hby d7_80) rfl ?_
  refine g_iconst X129 hx (pc' := 82) (z := (1 : Int32)) rfl (hb hby d7_81) rfl ?_
  refine g_icmpY X129 hx (pcY := 143) (hb hby d7_82) (by decide) (by decide) (show ¬ (1 : Int32) < (0 : Int32) from by decide) ?_
  refine g_aconst_null X129 hx (pc' := 144) rfl (hb hby d7_143) ?_
  refine g_aloadN X129 hx (pc' := 145) rfl (hb hby d7_144) rfl rfl ?_
  refine g_iconst X129 hx (pc' := 146) (z := (0 : Int32)) rfl (hb hby d7_145) rfl ?_
  refine g_iloadN X129 hx (pc' := 147) rfl (hb hby d7_146) rfl ?_
  refine g_iloadN X129 hx (pc' := 148) rfl (hb hby d7_147) rfl ?_
  refine g_callS X129 hx hZ hown (hw _ (List.mem_of_getElem? (i := 39) rfl)) (hw _ (List.mem_of_getElem? (i := 40) rfl)) (hw _ (List.mem_of_getElem? (i := 37) rfl)) (hw _ (List.mem_of_getElem? (i := 41) rfl)) (by decide) (rm8_2 l Z a0 hw [] n0 aa x0 x1 h0 hn0 Aa hg) pd_1 rfl rfl (by rw [hml]; rfl) (pc' := 151) rfl (hb hby d7_148) (argsL := [.null, (.ref aa), (.int (0 : Int32)), (.int (0 : Int32)), (.int (2 : Int32))]) (rest := []) rfl (W := 0) (Nat.le_of_eq rfl) (by decide) (by decide) (by decide) (by decide) (fun v130 T130 h130 X130 hQ130 => ?_)
  obtain ⟨rfl, KS, SS⟩ := hQ130
  show Go p e below s n0 _ _ _ (T130.setTop (mkF m 151 #[.val (.ref aa), .val (.int (0 : Int32)), .val (.int (0 : Int32)), .val (.int (2 : Int32)), .val (.int (0 : Int32)), .val (.int (2 : Int32)), .val (.double (FP.i2d x0)), .second] []))
  refine g_iincC X130 hx (pc' := 154) (x := (0 : Int32)) (z := (1 : Int32)) rfl (hb hby d7_151) rfl (by decide) (l' := #[.val (.ref aa), .val (.int (0 : Int32)), .val (.int (0 : Int32)), .val (.int (2 : Int32)), .val (.int (1 : Int32)), .val (.int (2 : Int32)), .val (.double (FP.i2d x0)), .second]) rfl ?_
  refine g_iload X130 hx (pc' := 156) rfl (hb hby d7_154) rfl ?_
  refine g_iconst X130 hx (pc' := 157) (z := (1 : Int32)) rfl (hb hby d7_156) rfl ?_
  refine g_icmpN X130 hx (pcN := 160) (hb hby d7_157) rfl (show ¬ (¬ (1 : Int32) = (1 : Int32)) from by decide) ?_
  exact g_retV X130 hx hlk hret (hb hby d7_160) (by decide) (by decide) (⟨rfl, KS, SS⟩)
set_option maxRecDepth 65536 in
set_option maxHeartbeats 40000000 in
theorem rm7_3 (l : Launch) (Z : State) (a0 : Array Value) (hw : ∀ d ∈ tables_1, d.before a0 Z = true) (ws : List Jvm.Cond) (n0 : Nat) (aa : Addr) (x0 : Int32) (x1 : Int32) (x2 : Int32) (h0 : Heap) (hn0 : n0 ≤ h0.size) (Aa : AD Z h0 aa [(FP.i2d x0), (FP.i2d x1), (FP.i2d x2)]) (hg : n0 ≤ aa) :
    Con l Z n0 (⟨"java/util/DualPivotQuicksort", "sort", "([DIII)V"⟩ : MethodName) jdk_2529_method_41_code 8 none ws ({ frames := 2, cells := 0, slots := 0, locals := 64 } : Room) #[(.ref aa), (.int (0 : Int32)), (.int (0 : Int32)), (.int (3 : Int32))] h0 (fun v h => v = none ∧ Keep h0 h [aa] ∧ ∃ y0 : Int32, ∃ y1 : Int32, ∃ y2 : Int32, AD Z h aa [(FP.i2d y0), (FP.i2d y1), (FP.i2d y2)] ∧ y0.toInt ≤ y1.toInt ∧ y1.toInt ≤ y2.toInt ∧ ∀ q : Int32, Cq q y0 + Cq q y1 + Cq q y2 = Cq q x0 + Cq q x1 + Cq q x2) := by
  refine con_start (plainFor_of_name (by first | (simp [plainName, overriddenIn]; done) | decide +kernel)) (fr0 := fun m => mkF m 0 #[.val (.ref aa), .val (.int (0 : Int32)), .val (.int (0 : Int32)), .val (.int (3 : Int32)), .unset, .unset, .unset, .unset] []) (fun m => by first | (simp [entryFrame, mkF, argsToLocals, Value.category]; done) | rfl) ?_
  intro p e s m below meth c T0 hx hZ hby hml hown hnm hret hlk X0
  replace hown : s.vm.findClass "java/util/DualPivotQuicksort" = some m.cls := hown
  replace hml : c.maxLocals = 8 := hml
  refine g_iconst X0 hx (pc' := 1) (z := (0 : Int32)) rfl (hb hby d7_0) rfl ?_
  refine g_istore X0 hx (pc' := 3) rfl (hb hby d7_1) (l' := #[.val (.ref aa), .val (.int (0 : Int32)), .val (.int (0 : Int32)), .val (.int (3 : Int32)), .val (.int (0 : Int32)), .unset, .unset, .unset]) rfl ?_
  refine g_iloadN X0 hx (pc' := 4) rfl (hb hby d7_3) rfl ?_
  refine g_istore X0 hx (pc' := 6) rfl (hb hby d7_4) (l' := #[.val (.ref aa), .val (.int (0 : Int32)), .val (.int (0 : Int32)), .val (.int (3 : Int32)), .val (.int (0 : Int32)), .val (.int (3 : Int32)), .unset, .unset]) rfl ?_
  refine g_iload X0 hx (pc' := 8) rfl (hb hby d7_6) rfl ?_
  refine g_iloadN X0 hx (pc' := 9) rfl (hb hby d7_8) rfl ?_
  refine g_icmpN X0 hx (pcN := 12) (hb hby d7_9) rfl (show ¬ (¬ (0 : Int32) < (3 : Int32)) from by decide) ?_
  refine g_aloadN X0 hx (pc' := 13) rfl (hb hby d7_12) rfl rfl ?_
  refine g_iincC X0 hx (pc' := 16) (x := (3 : Int32)) (z := (2 : Int32)) rfl (hb hby d7_13) rfl (by decide) (l' := #[.val (.ref aa), .val (.int (0 : Int32)), .val (.int (0 : Int32)), .val (.int (3 : Int32)), .val (.int (0 : Int32)), .val (.int (2 : Int32)), .unset, .unset]) rfl ?_
  refine g_iload X0 hx (pc' := 18) rfl (hb hby d7_16) rfl ?_
  refine g_daload X0 hx hZ Aa (i := 2) (by decide) (show (2 : Nat) < 3 by decide) (v := (FP.i2d x2)) rfl (pc' := 19) rfl (hb hby d7_18) ?_
  refine g_dstore X0 hx (pc' := 21) rfl (hb hby d7_19) (l' := #[.val (.ref aa), .val (.int (0 : Int32)), .val (.int (0 : Int32)), .val (.int (3 : Int32)), .val (.int (0 : Int32)), .val (.int (2 : Int32)), .val (.double (FP.i2d x2)), .second]) rfl ?_
  refine g_dload X0 hx (pc' := 23) rfl (hb hby d7_21) rfl ?_
  refine g_dconst0 X0 hx (pc' := 24) rfl (hb hby d7_23) ?_
  refine g_dcmp X0 hx (pc' := 25) (z := (cmpValue (FP.dcmp (FP.i2d x2) (0 : UInt64)) .l)) rfl (hb hby d7_24) rfl ?_
  suffices J25 : ∀ (T132 : State) (X132 : Wk p l e ({ frames := 2, cells := 0, slots := 0, locals := 64 } : Room) s m #[(.ref aa), (.int (0 : Int32)), (.int (0 : Int32)), (.int (3 : Int32))] below meth c n0 T132 h0 0 0) , Go p e below s n0 (fun v h => v = none ∧ Keep h0 h [aa] ∧ ∃ y0 : Int32, ∃ y1 : Int32, ∃ y2 : Int32, AD Z h aa [(FP.i2d y0), (FP.i2d y1), (FP.i2d y2)] ∧ y0.toInt ≤ y1.toInt ∧ y1.toInt ≤ y2.toInt ∧ ∀ q : Int32, Cq q y0 + Cq q y1 + Cq q y2 = Cq q x0 + Cq q x1 + Cq q x2) ({ frames := 2, cells := 0, slots := 0, locals := 64 } : Room).cells ({ frames := 2, cells := 0, slots := 0, locals := 64 } : Room).slots (T132.setTop (mkF m 49 #[.val (.ref aa), .val (.int (0 : Int32)), .val (.int (0 : Int32)), .val (.int (3 : Int32)), .val (.int (0 : Int32)), .val (.int (2 : Int32)), .val (.double (FP.i2d x2)), .second] [])) by
    refine g_if X0 hx (pcY := 49) (pcN := 28) (hb hby d7_25) (by decide) (by decide) rfl (fun hc25 => ?_) (fun hc25 => ?_)
    · replace hc25 : ¬ (cmpValue (FP.dcmp (FP.i2d x2) (0 : UInt64)) .l) = 0 := hc25
      exact J25 T0 X0  
    · replace hc25 : (cmpValue (FP.dcmp (FP.i2d x2) (0 : UInt64)) .l) = 0 := Classical.not_not.mp hc25
      refine g_dload X0 hx (pc' := 30) rfl (hb hby d7_28) rfl ?_
      refine g_dbits X0 hx hZ hown (hw _ (List.mem_of_getElem? (i := 55) rfl)) (hw _ (List.mem_of_getElem? (i := 58) rfl)) (hw _ (List.mem_of_getElem? (i := 56) rfl)) (hw _ (List.mem_of_getElem? (i := 57) rfl)) (by rw [hml]; rfl) (pc' := 33) rfl (hb hby d7_30) (by decide) (by decide +kernel) (fun T131 X131 => ?_)
      show Go p e below s n0 _ _ _ (T131.setTop (mkF m 33 #[.val (.ref aa), .val (.int (0 : Int32)), .val (.int (0 : Int32)), .val (.int (3 : Int32)), .val (.int (0 : Int32)), .val (.int (2 : Int32)), .val (.double (FP.i2d x2)), .second] [(.long ((FP.i2d x2)).toInt64)]))
      refine g_lconst X131 hx (pc' := 34) (z := (0 : Int64)) rfl (hb hby d7_33) rfl ?_
      refine g_lcmp X131 hx (pc' := 35) rfl (hb hby d7_34) ?_
      refine g_ifY X131 hx (pcY := 49) (hb hby d7_35) (by decide) (by decide) (show ¬ (lcmpW ((FP.i2d x2)).toInt64 (0 : Int64)) < 0 from own_raw hc25) ?_
      exact J25 T131 X131  
  intro T132 X132  
  refine g_dload X132 hx (pc' := 51) rfl (hb hby d7_49) rfl ?_
  refine g_dload X132 hx (pc' := 53) rfl (hb hby d7_51) rfl ?_
  refine g_dcmp X132 hx (pc' := 54) (z := (0 : Int32)) rfl (hb hby d7_53) (own_dyeq (own_i2d _) (own_i2d _) rfl) ?_
  refine g_ifY X132 hx (pcY := 72) (hb hby d7_54) (by decide) (by decide) (show (0 : Int32) = 0 from by decide) ?_
  refine g_goto X132 hx (pc' := 6) (hb hby d7_72) (by decide) (by decide) ?_
  refine g_iload X132 hx (pc' := 8) rfl (hb hby d7_6) rfl ?_
  refine g_iloadN X132 hx (pc' := 9) rfl (hb hby d7_8) rfl ?_
  refine g_icmpN X132 hx (pcN := 12) (hb hby d7_9) rfl (show ¬ (¬ (0 : Int32) < (2 : Int32)) from by decide) ?_
  refine g_aloadN X132 hx (pc' := 13) rfl (hb hby d7_12) rfl rfl ?_
  refine g_iincC X132 hx (pc' := 16) (x := (2 : Int32)) (z := (1 : Int32)) rfl (hb hby d7_13) rfl (by decide) (l' := #[.val (.ref aa), .val (.int (0 : Int32)), .val (.int (0 : Int32)), .val (.int (3 : Int32)), .val (.int (0 : Int32)), .val (.int (1 : Int32)), .val (.double (FP.i2d x2)), .second]) rfl ?_
  refine g_iload X132 hx (pc' := 18) rfl (hb hby d7_16) rfl ?_
  refine g_daload X132 hx hZ Aa (i := 1) (by decide) (show (1 : Nat) < 3 by decide) (v := (FP.i2d x1)) rfl (pc' := 19) rfl (hb hby d7_18) ?_
  refine g_dstore X132 hx (pc' := 21) rfl (hb hby d7_19) (l' := #[.val (.ref aa), .val (.int (0 : Int32)), .val (.int (0 : Int32)), .val (.int (3 : Int32)), .val (.int (0 : Int32)), .val (.int (1 : Int32)), .val (.double (FP.i2d x1)), .second]) rfl ?_
  refine g_dload X132 hx (pc' := 23) rfl (hb hby d7_21) rfl ?_
  refine g_dconst0 X132 hx (pc' := 24) rfl (hb hby d7_23) ?_
  refine g_dcmp X132 hx (pc' := 25) (z := (cmpValue (FP.dcmp (FP.i2d x1) (0 : UInt64)) .l)) rfl (hb hby d7_24) rfl ?_
  suffices J25 : ∀ (T134 : State) (X134 : Wk p l e ({ frames := 2, cells := 0, slots := 0, locals := 64 } : Room) s m #[(.ref aa), (.int (0 : Int32)), (.int (0 : Int32)), (.int (3 : Int32))] below meth c n0 T134 h0 0 0) , Go p e below s n0 (fun v h => v = none ∧ Keep h0 h [aa] ∧ ∃ y0 : Int32, ∃ y1 : Int32, ∃ y2 : Int32, AD Z h aa [(FP.i2d y0), (FP.i2d y1), (FP.i2d y2)] ∧ y0.toInt ≤ y1.toInt ∧ y1.toInt ≤ y2.toInt ∧ ∀ q : Int32, Cq q y0 + Cq q y1 + Cq q y2 = Cq q x0 + Cq q x1 + Cq q x2) ({ frames := 2, cells := 0, slots := 0, locals := 64 } : Room).cells ({ frames := 2, cells := 0, slots := 0, locals := 64 } : Room).slots (T134.setTop (mkF m 49 #[.val (.ref aa), .val (.int (0 : Int32)), .val (.int (0 : Int32)), .val (.int (3 : Int32)), .val (.int (0 : Int32)), .val (.int (1 : Int32)), .val (.double (FP.i2d x1)), .second] [])) by
    refine g_if X132 hx (pcY := 49) (pcN := 28) (hb hby d7_25) (by decide) (by decide) rfl (fun hc25 => ?_) (fun hc25 => ?_)
    · replace hc25 : ¬ (cmpValue (FP.dcmp (FP.i2d x1) (0 : UInt64)) .l) = 0 := hc25
      exact J25 T132 X132  
    · replace hc25 : (cmpValue (FP.dcmp (FP.i2d x1) (0 : UInt64)) .l) = 0 := Classical.not_not.mp hc25
      refine g_dload X132 hx (pc' := 30) rfl (hb hby d7_28) rfl ?_
      refine g_dbits X132 hx hZ hown (hw _ (List.mem_of_getElem? (i := 55) rfl)) (hw _ (List.mem_of_getElem? (i := 58) rfl)) (hw _ (List.mem_of_getElem? (i := 56) rfl)) (hw _ (List.mem_of_getElem? (i := 57) rfl)) (by rw [hml]; rfl) (pc' := 33) rfl (hb hby d7_30) (by decide) (by decide +kernel) (fun T133 X133 => ?_)
      show Go p e below s n0 _ _ _ (T133.setTop (mkF m 33 #[.val (.ref aa), .val (.int (0 : Int32)), .val (.int (0 : Int32)), .val (.int (3 : Int32)), .val (.int (0 : Int32)), .val (.int (1 : Int32)), .val (.double (FP.i2d x1)), .second] [(.long ((FP.i2d x1)).toInt64)]))
      refine g_lconst X133 hx (pc' := 34) (z := (0 : Int64)) rfl (hb hby d7_33) rfl ?_
      refine g_lcmp X133 hx (pc' := 35) rfl (hb hby d7_34) ?_
      refine g_ifY X133 hx (pcY := 49) (hb hby d7_35) (by decide) (by decide) (show ¬ (lcmpW ((FP.i2d x1)).toInt64 (0 : Int64)) < 0 from own_raw hc25) ?_
      exact J25 T133 X133  
  intro T134 X134  
  refine g_dload X134 hx (pc' := 51) rfl (hb hby d7_49) rfl ?_
  refine g_dload X134 hx (pc' := 53) rfl (hb hby d7_51) rfl ?_
  refine g_dcmp X134 hx (pc' := 54) (z := (0 : Int32)) rfl (hb hby d7_53) (own_dyeq (own_i2d _) (own_i2d _) rfl) ?_
  refine g_ifY X134 hx (pcY := 72) (hb hby d7_54) (by decide) (by decide) (show (0 : Int32) = 0 from by decide) ?_
  refine g_goto X134 hx (pc' := 6) (hb hby d7_72) (by decide) (by decide) ?_
  refine g_iload X134 hx (pc' := 8) rfl (hb hby d7_6) rfl ?_
  refine g_iloadN X134 hx (pc' := 9) rfl (hb hby d7_8) rfl ?_
  refine g_icmpN X134 hx (pcN := 12) (hb hby d7_9) rfl (show ¬ (¬ (0 : Int32) < (1 : Int32)) from by decide) ?_
  refine g_aloadN X134 hx (pc' := 13) rfl (hb hby d7_12) rfl rfl ?_
  refine g_iincC X134 hx (pc' := 16) (x := (1 : Int32)) (z := (0 : Int32)) rfl (hb hby d7_13) rfl (by decide) (l' := #[.val (.ref aa), .val (.int (0 : Int32)), .val (.int (0 : Int32)), .val (.int (3 : Int32)), .val (.int (0 : Int32)), .val (.int (0 : Int32)), .val (.double (FP.i2d x1)), .second]) rfl ?_
  refine g_iload X134 hx (pc' := 18) rfl (hb hby d7_16) rfl ?_
  refine g_daload X134 hx hZ Aa (i := 0) (by decide) (show (0 : Nat) < 3 by decide) (v := (FP.i2d x0)) rfl (pc' := 19) rfl (hb hby d7_18) ?_
  refine g_dstore X134 hx (pc' := 21) rfl (hb hby d7_19) (l' := #[.val (.ref aa), .val (.int (0 : Int32)), .val (.int (0 : Int32)), .val (.int (3 : Int32)), .val (.int (0 : Int32)), .val (.int (0 : Int32)), .val (.double (FP.i2d x0)), .second]) rfl ?_
  refine g_dload X134 hx (pc' := 23) rfl (hb hby d7_21) rfl ?_
  refine g_dconst0 X134 hx (pc' := 24) rfl (hb hby d7_23) ?_
  refine g_dcmp X134 hx (pc' := 25) (z := (cmpValue (FP.dcmp (FP.i2d x0) (0 : UInt64)) .l)) rfl (hb hby d7_24) rfl ?_
  suffices J25 : ∀ (T136 : State) (X136 : Wk p l e ({ frames := 2, cells := 0, slots := 0, locals := 64 } : Room) s m #[(.ref aa), (.int (0 : Int32)), (.int (0 : Int32)), (.int (3 : Int32))] below meth c n0 T136 h0 0 0) , Go p e below s n0 (fun v h => v = none ∧ Keep h0 h [aa] ∧ ∃ y0 : Int32, ∃ y1 : Int32, ∃ y2 : Int32, AD Z h aa [(FP.i2d y0), (FP.i2d y1), (FP.i2d y2)] ∧ y0.toInt ≤ y1.toInt ∧ y1.toInt ≤ y2.toInt ∧ ∀ q : Int32, Cq q y0 + Cq q y1 + Cq q y2 = Cq q x0 + Cq q x1 + Cq q x2) ({ frames := 2, cells := 0, slots := 0, locals := 64 } : Room).cells ({ frames := 2, cells := 0, slots := 0, locals := 64 } : Room).slots (T136.setTop (mkF m 49 #[.val (.ref aa), .val (.int (0 : Int32)), .val (.int (0 : Int32)), .val (.int (3 : Int32)), .val (.int (0 : Int32)), .val (.int (0 : Int32)), .val (.double (FP.i2d x0)), .second] [])) by
    refine g_if X134 hx (pcY := 49) (pcN := 28) (hb hby d7_25) (by decide) (by decide) rfl (fun hc25 => ?_) (fun hc25 => ?_)
    · replace hc25 : ¬ (cmpValue (FP.dcmp (FP.i2d x0) (0 : UInt64)) .l) = 0 := hc25
      exact J25 T134 X134  
    · replace hc25 : (cmpValue (FP.dcmp (FP.i2d x0) (0 : UInt64)) .l) = 0 := Classical.not_not.mp hc25
      refine g_dload X134 hx (pc' := 30) rfl (hb hby d7_28) rfl ?_
      refine g_dbits X134 hx hZ hown (hw _ (List.mem_of_getElem? (i := 55) rfl)) (hw _ (List.mem_of_getElem? (i := 58) rfl)) (hw _ (List.mem_of_getElem? (i := 56) rfl)) (hw _ (List.mem_of_getElem? (i := 57) rfl)) (by rw [hml]; rfl) (pc' := 33) rfl (hb hby d7_30) (by decide) (by decide +kernel) (fun T135 X135 => ?_)
      show Go p e below s n0 _ _ _ (T135.setTop (mkF m 33 #[.val (.ref aa), .val (.int (0 : Int32)), .val (.int (0 : Int32)), .val (.int (3 : Int32)), .val (.int (0 : Int32)), .val (.int (0 : Int32)), .val (.double (FP.i2d x0)), .second] [(.long ((FP.i2d x0)).toInt64)]))
      refine g_lconst X135 hx (pc' := 34) (z := (0 : Int64)) rfl (hb hby d7_33) rfl ?_
      refine g_lcmp X135 hx (pc' := 35) rfl (hb hby d7_34) ?_
      refine g_ifY X135 hx (pcY := 49) (hb hby d7_35) (by decide) (by decide) (show ¬ (lcmpW ((FP.i2d x0)).toInt64 (0 : Int64)) < 0 from own_raw hc25) ?_
      exact J25 T135 X135  
  intro T136 X136  
  refine g_dload X136 hx (pc' := 51) rfl (hb hby d7_49) rfl ?_
  refine g_dload X136 hx (pc' := 53) rfl (hb hby d7_51) rfl ?_
  refine g_dcmp X136 hx (pc' := 54) (z := (0 : Int32)) rfl (hb hby d7_53) (own_dyeq (own_i2d _) (own_i2d _) rfl) ?_
  refine g_ifY X136 hx (pcY := 72) (hb hby d7_54) (by decide) (by decide) (show (0 : Int32) = 0 from by decide) ?_
  refine g_goto X136 hx (pc' := 6) (hb hby d7_72) (by decide) (by decide) ?_
  refine g_iload X136 hx (pc' := 8) rfl (hb hby d7_6) rfl ?_
  refine g_iloadN X136 hx (pc' := 9) rfl (hb hby d7_8) rfl ?_
  refine g_icmpY X136 hx (pcY := 75) (hb hby d7_9) (by decide) (by decide) (show ¬ (0 : Int32) < (0 : Int32) from by decide) ?_
  refine g_iloadN X136 hx (pc' := 76) rfl (hb hby d7_75) rfl ?_
  refine g_iloadN X136 hx (pc' := 77) rfl (hb hby d7_76) rfl ?_
  refine g_isub X136 hx (pc' := 78) rfl (hb hby d7_77) ?_
  refine g_normI (z := (3 : Int32)) (by decide) ?_
  refine g_istore X136 hx (pc' := 80) rfl (hb hby d7_78) (l' := #[.val (.ref aa), .val (.int (0 : Int32)), .val (.int (0 : Int32)), .val (.int (3 : Int32)), .val (.int (0 : Int32)), .val (.int (3 : Int32)), .val (.double (FP.i2d x0)), .second]) rfl ?_
  refine g_iloadN X136 hx (pc' := 81) rfl (hb hby d7_80) rfl ?_
  refine g_iconst X136 hx (pc' := 82) (z := (1 : Int32)) rfl (hb hby d7_81) rfl ?_
  refine g_icmpY X136 hx (pcY := 143) (hb hby d7_82) (by decide) (by decide) (show ¬ (1 : Int32) < (0 : Int32) from by decide) ?_
  refine g_aconst_null X136 hx (pc' := 144) rfl (hb hby d7_143) ?_
  refine g_aloadN X136 hx (pc' := 145) rfl (hb hby d7_144) rfl rfl ?_
  refine g_iconst X136 hx (pc' := 146) (z := (0 : Int32)) rfl (hb hby d7_145) rfl ?_
  refine g_iloadN X136 hx (pc' := 147) rfl (hb hby d7_146) rfl ?_
  refine g_iloadN X136 hx (pc' := 148) rfl (hb hby d7_147) rfl ?_
  refine g_callS X136 hx hZ hown (hw _ (List.mem_of_getElem? (i := 39) rfl)) (hw _ (List.mem_of_getElem? (i := 40) rfl)) (hw _ (List.mem_of_getElem? (i := 37) rfl)) (hw _ (List.mem_of_getElem? (i := 41) rfl)) (by decide) (rm8_3 l Z a0 hw [] n0 aa x0 x1 x2 h0 hn0 Aa hg) pd_1 rfl rfl (by rw [hml]; rfl) (pc' := 151) rfl (hb hby d7_148) (argsL := [.null, (.ref aa), (.int (0 : Int32)), (.int (0 : Int32)), (.int (3 : Int32))]) (rest := []) rfl (W := 0) (Nat.le_of_eq rfl) (by decide) (by decide) (by decide) (by decide) (fun v137 T137 h137 X137 hQ137 => ?_)
  obtain ⟨rfl, KS, SS⟩ := hQ137
  show Go p e below s n0 _ _ _ (T137.setTop (mkF m 151 #[.val (.ref aa), .val (.int (0 : Int32)), .val (.int (0 : Int32)), .val (.int (3 : Int32)), .val (.int (0 : Int32)), .val (.int (3 : Int32)), .val (.double (FP.i2d x0)), .second] []))
  refine g_iincC X137 hx (pc' := 154) (x := (0 : Int32)) (z := (1 : Int32)) rfl (hb hby d7_151) rfl (by decide) (l' := #[.val (.ref aa), .val (.int (0 : Int32)), .val (.int (0 : Int32)), .val (.int (3 : Int32)), .val (.int (1 : Int32)), .val (.int (3 : Int32)), .val (.double (FP.i2d x0)), .second]) rfl ?_
  refine g_iload X137 hx (pc' := 156) rfl (hb hby d7_154) rfl ?_
  refine g_iconst X137 hx (pc' := 157) (z := (1 : Int32)) rfl (hb hby d7_156) rfl ?_
  refine g_icmpN X137 hx (pcN := 160) (hb hby d7_157) rfl (show ¬ (¬ (1 : Int32) = (1 : Int32)) from by decide) ?_
  exact g_retV X137 hx hlk hret (hb hby d7_160) (by decide) (by decide) (⟨rfl, KS, SS⟩)
set_option maxRecDepth 65536 in
set_option maxHeartbeats 40000000 in
theorem rm7_4 (l : Launch) (Z : State) (a0 : Array Value) (hw : ∀ d ∈ tables_1, d.before a0 Z = true) (ws : List Jvm.Cond) (n0 : Nat) (aa : Addr) (x0 : Int32) (x1 : Int32) (x2 : Int32) (x3 : Int32) (h0 : Heap) (hn0 : n0 ≤ h0.size) (Aa : AD Z h0 aa [(FP.i2d x0), (FP.i2d x1), (FP.i2d x2), (FP.i2d x3)]) (hg : n0 ≤ aa) :
    Con l Z n0 (⟨"java/util/DualPivotQuicksort", "sort", "([DIII)V"⟩ : MethodName) jdk_2529_method_41_code 8 none ws ({ frames := 2, cells := 0, slots := 0, locals := 64 } : Room) #[(.ref aa), (.int (0 : Int32)), (.int (0 : Int32)), (.int (4 : Int32))] h0 (fun v h => v = none ∧ Keep h0 h [aa] ∧ ∃ y0 : Int32, ∃ y1 : Int32, ∃ y2 : Int32, ∃ y3 : Int32, AD Z h aa [(FP.i2d y0), (FP.i2d y1), (FP.i2d y2), (FP.i2d y3)] ∧ y0.toInt ≤ y1.toInt ∧ y1.toInt ≤ y2.toInt ∧ y2.toInt ≤ y3.toInt ∧ ∀ q : Int32, Cq q y0 + Cq q y1 + Cq q y2 + Cq q y3 = Cq q x0 + Cq q x1 + Cq q x2 + Cq q x3) := by
  refine con_start (plainFor_of_name (by first | (simp [plainName, overriddenIn]; done) | decide +kernel)) (fr0 := fun m => mkF m 0 #[.val (.ref aa), .val (.int (0 : Int32)), .val (.int (0 : Int32)), .val (.int (4 : Int32)), .unset, .unset, .unset, .unset] []) (fun m => by first | (simp [entryFrame, mkF, argsToLocals, Value.category]; done) | rfl) ?_
  intro p e s m below meth c T0 hx hZ hby hml hown hnm hret hlk X0
  replace hown : s.vm.findClass "java/util/DualPivotQuicksort" = some m.cls := hown
  replace hml : c.maxLocals = 8 := hml
  refine g_iconst X0 hx (pc' := 1) (z := (0 : Int32)) rfl (hb hby d7_0) rfl ?_
  refine g_istore X0 hx (pc' := 3) rfl (hb hby d7_1) (l' := #[.val (.ref aa), .val (.int (0 : Int32)), .val (.int (0 : Int32)), .val (.int (4 : Int32)), .val (.int (0 : Int32)), .unset, .unset, .unset]) rfl ?_
  refine g_iloadN X0 hx (pc' := 4) rfl (hb hby d7_3) rfl ?_
  refine g_istore X0 hx (pc' := 6) rfl (hb hby d7_4) (l' := #[.val (.ref aa), .val (.int (0 : Int32)), .val (.int (0 : Int32)), .val (.int (4 : Int32)), .val (.int (0 : Int32)), .val (.int (4 : Int32)), .unset, .unset]) rfl ?_
  refine g_iload X0 hx (pc' := 8) rfl (hb hby d7_6) rfl ?_
  refine g_iloadN X0 hx (pc' := 9) rfl (hb hby d7_8) rfl ?_
  refine g_icmpN X0 hx (pcN := 12) (hb hby d7_9) rfl (show ¬ (¬ (0 : Int32) < (4 : Int32)) from by decide) ?_
  refine g_aloadN X0 hx (pc' := 13) rfl (hb hby d7_12) rfl rfl ?_
  refine g_iincC X0 hx (pc' := 16) (x := (4 : Int32)) (z := (3 : Int32)) rfl (hb hby d7_13) rfl (by decide) (l' := #[.val (.ref aa), .val (.int (0 : Int32)), .val (.int (0 : Int32)), .val (.int (4 : Int32)), .val (.int (0 : Int32)), .val (.int (3 : Int32)), .unset, .unset]) rfl ?_
  refine g_iload X0 hx (pc' := 18) rfl (hb hby d7_16) rfl ?_
  refine g_daload X0 hx hZ Aa (i := 3) (by decide) (show (3 : Nat) < 4 by decide) (v := (FP.i2d x3)) rfl (pc' := 19) rfl (hb hby d7_18) ?_
  refine g_dstore X0 hx (pc' := 21) rfl (hb hby d7_19) (l' := #[.val (.ref aa), .val (.int (0 : Int32)), .val (.int (0 : Int32)), .val (.int (4 : Int32)), .val (.int (0 : Int32)), .val (.int (3 : Int32)), .val (.double (FP.i2d x3)), .second]) rfl ?_
  refine g_dload X0 hx (pc' := 23) rfl (hb hby d7_21) rfl ?_
  refine g_dconst0 X0 hx (pc' := 24) rfl (hb hby d7_23) ?_
  refine g_dcmp X0 hx (pc' := 25) (z := (cmpValue (FP.dcmp (FP.i2d x3) (0 : UInt64)) .l)) rfl (hb hby d7_24) rfl ?_
  suffices J25 : ∀ (T139 : State) (X139 : Wk p l e ({ frames := 2, cells := 0, slots := 0, locals := 64 } : Room) s m #[(.ref aa), (.int (0 : Int32)), (.int (0 : Int32)), (.int (4 : Int32))] below meth c n0 T139 h0 0 0) , Go p e below s n0 (fun v h => v = none ∧ Keep h0 h [aa] ∧ ∃ y0 : Int32, ∃ y1 : Int32, ∃ y2 : Int32, ∃ y3 : Int32, AD Z h aa [(FP.i2d y0), (FP.i2d y1), (FP.i2d y2), (FP.i2d y3)] ∧ y0.toInt ≤ y1.toInt ∧ y1.toInt ≤ y2.toInt ∧ y2.toInt ≤ y3.toInt ∧ ∀ q : Int32, Cq q y0 + Cq q y1 + Cq q y2 + Cq q y3 = Cq q x0 + Cq q x1 + Cq q x2 + Cq q x3) ({ frames := 2, cells := 0, slots := 0, locals := 64 } : Room).cells ({ frames := 2, cells := 0, slots := 0, locals := 64 } : Room).slots (T139.setTop (mkF m 49 #[.val (.ref aa), .val (.int (0 : Int32)), .val (.int (0 : Int32)), .val (.int (4 : Int32)), .val (.int (0 : Int32)), .val (.int (3 : Int32)), .val (.double (FP.i2d x3)), .second] [])) by
    refine g_if X0 hx (pcY := 49) (pcN := 28) (hb hby d7_25) (by decide) (by decide) rfl (fun hc25 => ?_) (fun hc25 => ?_)
    · replace hc25 : ¬ (cmpValue (FP.dcmp (FP.i2d x3) (0 : UInt64)) .l) = 0 := hc25
      exact J25 T0 X0  
    · replace hc25 : (cmpValue (FP.dcmp (FP.i2d x3) (0 : UInt64)) .l) = 0 := Classical.not_not.mp hc25
      refine g_dload X0 hx (pc' := 30) rfl (hb hby d7_28) rfl ?_
      refine g_dbits X0 hx hZ hown (hw _ (List.mem_of_getElem? (i := 55) rfl)) (hw _ (List.mem_of_getElem? (i := 58) rfl)) (hw _ (List.mem_of_getElem? (i := 56) rfl)) (hw _ (List.mem_of_getElem? (i := 57) rfl)) (by rw [hml]; rfl) (pc' := 33) rfl (hb hby d7_30) (by decide) (by decide +kernel) (fun T138 X138 => ?_)
      show Go p e below s n0 _ _ _ (T138.setTop (mkF m 33 #[.val (.ref aa), .val (.int (0 : Int32)), .val (.int (0 : Int32)), .val (.int (4 : Int32)), .val (.int (0 : Int32)), .val (.int (3 : Int32)), .val (.double (FP.i2d x3)), .second] [(.long ((FP.i2d x3)).toInt64)]))
      refine g_lconst X138 hx (pc' := 34) (z := (0 : Int64)) rfl (hb hby d7_33) rfl ?_
      refine g_lcmp X138 hx (pc' := 35) rfl (hb hby d7_34) ?_
      refine g_ifY X138 hx (pcY := 49) (hb hby d7_35) (by decide) (by decide) (show ¬ (lcmpW ((FP.i2d x3)).toInt64 (0 : Int64)) < 0 from own_raw hc25) ?_
      exact J25 T138 X138  
  intro T139 X139  
  refine g_dload X139 hx (pc' := 51) rfl (hb hby d7_49) rfl ?_
  refine g_dload X139 hx (pc' := 53) rfl (hb hby d7_51) rfl ?_
  refine g_dcmp X139 hx (pc' := 54) (z := (0 : Int32)) rfl (hb hby d7_53) (own_dyeq (own_i2d _) (own_i2d _) rfl) ?_
  refine g_ifY X139 hx (pcY := 72) (hb hby d7_54) (by decide) (by decide) (show (0 : Int32) = 0 from by decide) ?_
  refine g_goto X139 hx (pc' := 6) (hb hby d7_72) (by decide) (by decide) ?_
  refine g_iload X139 hx (pc' := 8) rfl (hb hby d7_6) rfl ?_
  refine g_iloadN X139 hx (pc' := 9) rfl (hb hby d7_8) rfl ?_
  refine g_icmpN X139 hx (pcN := 12) (hb hby d7_9) rfl (show ¬ (¬ (0 : Int32) < (3 : Int32)) from by decide) ?_
  refine g_aloadN X139 hx (pc' := 13) rfl (hb hby d7_12) rfl rfl ?_
  refine g_iincC X139 hx (pc' := 16) (x := (3 : Int32)) (z := (2 : Int32)) rfl (hb hby d7_13) rfl (by decide) (l' := #[.val (.ref aa), .val (.int (0 : Int32)), .val (.int (0 : Int32)), .val (.int (4 : Int32)), .val (.int (0 : Int32)), .val (.int (2 : Int32)), .val (.double (FP.i2d x3)), .second]) rfl ?_
  refine g_iload X139 hx (pc' := 18) rfl (hb hby d7_16) rfl ?_
  refine g_daload X139 hx hZ Aa (i := 2) (by decide) (show (2 : Nat) < 4 by decide) (v := (FP.i2d x2)) rfl (pc' := 19) rfl (hb hby d7_18) ?_
  refine g_dstore X139 hx (pc' := 21) rfl (hb hby d7_19) (l' := #[.val (.ref aa), .val (.int (0 : Int32)), .val (.int (0 : Int32)), .val (.int (4 : Int32)), .val (.int (0 : Int32)), .val (.int (2 : Int32)), .val (.double (FP.i2d x2)), .second]) rfl ?_
  refine g_dload X139 hx (pc' := 23) rfl (hb hby d7_21) rfl ?_
  refine g_dconst0 X139 hx (pc' := 24) rfl (hb hby d7_23) ?_
  refine g_dcmp X139 hx (pc' := 25) (z := (cmpValue (FP.dcmp (FP.i2d x2) (0 : UInt64)) .l)) rfl (hb hby d7_24) rfl ?_
  suffices J25 : ∀ (T141 : State) (X141 : Wk p l e ({ frames := 2, cells := 0, slots := 0, locals := 64 } : Room) s m #[(.ref aa), (.int (0 : Int32)), (.int (0 : Int32)), (.int (4 : Int32))] below meth c n0 T141 h0 0 0) , Go p e below s n0 (fun v h => v = none ∧ Keep h0 h [aa] ∧ ∃ y0 : Int32, ∃ y1 : Int32, ∃ y2 : Int32, ∃ y3 : Int32, AD Z h aa [(FP.i2d y0), (FP.i2d y1), (FP.i2d y2), (FP.i2d y3)] ∧ y0.toInt ≤ y1.toInt ∧ y1.toInt ≤ y2.toInt ∧ y2.toInt ≤ y3.toInt ∧ ∀ q : Int32, Cq q y0 + Cq q y1 + Cq q y2 + Cq q y3 = Cq q x0 + Cq q x1 + Cq q x2 + Cq q x3) ({ frames := 2, cells := 0, slots := 0, locals := 64 } : Room).cells ({ frames := 2, cells := 0, slots := 0, locals := 64 } : Room).slots (T141.setTop (mkF m 49 #[.val (.ref aa), .val (.int (0 : Int32)), .val (.int (0 : Int32)), .val (.int (4 : Int32)), .val (.int (0 : Int32)), .val (.int (2 : Int32)), .val (.double (FP.i2d x2)), .second] [])) by
    refine g_if X139 hx (pcY := 49) (pcN := 28) (hb hby d7_25) (by decide) (by decide) rfl (fun hc25 => ?_) (fun hc25 => ?_)
    · replace hc25 : ¬ (cmpValue (FP.dcmp (FP.i2d x2) (0 : UInt64)) .l) = 0 := hc25
      exact J25 T139 X139  
    · replace hc25 : (cmpValue (FP.dcmp (FP.i2d x2) (0 : UInt64)) .l) = 0 := Classical.not_not.mp hc25
      refine g_dload X139 hx (pc' := 30) rfl (hb hby d7_28) rfl ?_
      refine g_dbits X139 hx hZ hown (hw _ (List.mem_of_getElem? (i := 55) rfl)) (hw _ (List.mem_of_getElem? (i := 58) rfl)) (hw _ (List.mem_of_getElem? (i := 56) rfl)) (hw _ (List.mem_of_getElem? (i := 57) rfl)) (by rw [hml]; rfl) (pc' := 33) rfl (hb hby d7_30) (by decide) (by decide +kernel) (fun T140 X140 => ?_)
      show Go p e below s n0 _ _ _ (T140.setTop (mkF m 33 #[.val (.ref aa), .val (.int (0 : Int32)), .val (.int (0 : Int32)), .val (.int (4 : Int32)), .val (.int (0 : Int32)), .val (.int (2 : Int32)), .val (.double (FP.i2d x2)), .second] [(.long ((FP.i2d x2)).toInt64)]))
      refine g_lconst X140 hx (pc' := 34) (z := (0 : Int64)) rfl (hb hby d7_33) rfl ?_
      refine g_lcmp X140 hx (pc' := 35) rfl (hb hby d7_34) ?_
      refine g_ifY X140 hx (pcY := 49) (hb hby d7_35) (by decide) (by decide) (show ¬ (lcmpW ((FP.i2d x2)).toInt64 (0 : Int64)) < 0 from own_raw hc25) ?_
      exact J25 T140 X140  
  intro T141 X141  
  refine g_dload X141 hx (pc' := 51) rfl (hb hby d7_49) rfl ?_
  refine g_dload X141 hx (pc' := 53) rfl (hb hby d7_51) rfl ?_
  refine g_dcmp X141 hx (pc' := 54) (z := (0 : Int32)) rfl (hb hby d7_53) (own_dyeq (own_i2d _) (own_i2d _) rfl) ?_
  refine g_ifY X141 hx (pcY := 72) (hb hby d7_54) (by decide) (by decide) (show (0 : Int32) = 0 from by decide) ?_
  refine g_goto X141 hx (pc' := 6) (hb hby d7_72) (by decide) (by decide) ?_
  refine g_iload X141 hx (pc' := 8) rfl (hb hby d7_6) rfl ?_
  refine g_iloadN X141 hx (pc' := 9) rfl (hb hby d7_8) rfl ?_
  refine g_icmpN X141 hx (pcN := 12) (hb hby d7_9) rfl (show ¬ (¬ (0 : Int32) < (2 : Int32)) from by decide) ?_
  refine g_aloadN X141 hx (pc' := 13) rfl (hb hby d7_12) rfl rfl ?_
  refine g_iincC X141 hx (pc' := 16) (x := (2 : Int32)) (z := (1 : Int32)) rfl (hb hby d7_13) rfl (by decide) (l' := #[.val (.ref aa), .val (.int (0 : Int32)), .val (.int (0 : Int32)), .val (.int (4 : Int32)), .val (.int (0 : Int32)), .val (.int (1 : Int32)), .val (.double (FP.i2d x2)), .second]) rfl ?_
  refine g_iload X141 hx (pc' := 18) rfl (hb hby d7_16) rfl ?_
  refine g_daload X141 hx hZ Aa (i := 1) (by decide) (show (1 : Nat) < 4 by decide) (v := (FP.i2d x1)) rfl (pc' := 19) rfl (hb hby d7_18) ?_
  refine g_dstore X141 hx (pc' := 21) rfl (hb hby d7_19) (l' := #[.val (.ref aa), .val (.int (0 : Int32)), .val (.int (0 : Int32)), .val (.int (4 : Int32)), .val (.int (0 : Int32)), .val (.int (1 : Int32)), .val (.double (FP.i2d x1)), .second]) rfl ?_
  refine g_dload X141 hx (pc' := 23) rfl (hb hby d7_21) rfl ?_
  refine g_dconst0 X141 hx (pc' := 24) rfl (hb hby d7_23) ?_
  refine g_dcmp X141 hx (pc' := 25) (z := (cmpValue (FP.dcmp (FP.i2d x1) (0 : UInt64)) .l)) rfl (hb hby d7_24) rfl ?_
  suffices J25 : ∀ (T143 : State) (X143 : Wk p l e ({ frames := 2, cells := 0, slots := 0, locals := 64 } : Room) s m #[(.ref aa), (.int (0 : Int32)), (.int (0 : Int32)), (.int (4 : Int32))] below meth c n0 T143 h0 0 0) , Go p e below s n0 (fun v h => v = none ∧ Keep h0 h [aa] ∧ ∃ y0 : Int32, ∃ y1 : Int32, ∃ y2 : Int32, ∃ y3 : Int32, AD Z h aa [(FP.i2d y0), (FP.i2d y1), (FP.i2d y2), (FP.i2d y3)] ∧ y0.toInt ≤ y1.toInt ∧ y1.toInt ≤ y2.toInt ∧ y2.toInt ≤ y3.toInt ∧ ∀ q : Int32, Cq q y0 + Cq q y1 + Cq q y2 + Cq q y3 = Cq q x0 + Cq q x1 + Cq q x2 + Cq q x3) ({ frames := 2, cells := 0, slots := 0, locals := 64 } : Room).cells ({ frames := 2, cells := 0, slots := 0, locals := 64 } : Room).slots (T143.setTop (mkF m 49 #[.val (.ref aa), .val (.int (0 : Int32)), .val (.int (0 : Int32)), .val (.int (4 : Int32)), .val (.int (0 : Int32)), .val (.int (1 : Int32)), .val (.double (FP.i2d x1)), .second] [])) by
    refine g_if X141 hx (pcY := 49) (pcN := 28) (hb hby d7_25) (by decide) (by decide) rfl (fun hc25 => ?_) (fun hc25 => ?_)
    · replace hc25 : ¬ (cmpValue (FP.dcmp (FP.i2d x1) (0 : UInt64)) .l) = 0 := hc25
      exact J25 T141 X141  
    · replace hc25 : (cmpValue (FP.dcmp (FP.i2d x1) (0 : UInt64)) .l) = 0 := Classical.not_not.mp hc25
      refine g_dload X141 hx (pc' := 30) rfl (hb hby d7_28) rfl ?_
      refine g_dbits X141 hx hZ hown (hw _ (List.mem_of_getElem? (i := 55) rfl)) (hw _ (List.mem_of_getElem? (i := 58) rfl)) (hw _ (List.mem_of_getElem? (i := 56) rfl)) (hw _ (List.mem_of_getElem? (i := 57) rfl)) (by rw [hml]; rfl) (pc' := 33) rfl (hb hby d7_30) (by decide) (by decide +kernel) (fun T142 X142 => ?_)
      show Go p e below s n0 _ _ _ (T142.setTop (mkF m 33 #[.val (.ref aa), .val (.int (0 : Int32)), .val (.int (0 : Int32)), .val (.int (4 : Int32)), .val (.int (0 : Int32)), .val (.int (1 : Int32)), .val (.double (FP.i2d x1)), .second] [(.long ((FP.i2d x1)).toInt64)]))
      refine g_lconst X142 hx (pc' := 34) (z := (0 : Int64)) rfl (hb hby d7_33) rfl ?_
      refine g_lcmp X142 hx (pc' := 35) rfl (hb hby d7_34) ?_
      refine g_ifY X142 hx (pcY := 49) (hb hby d7_35) (by decide) (by decide) (show ¬ (lcmpW ((FP.i2d x1)).toInt64 (0 : Int64)) < 0 from own_raw hc25) ?_
      exact J25 T142 X142  
  intro T143 X143  
  refine g_dload X143 hx (pc' := 51) rfl (hb hby d7_49) rfl ?_
  refine g_dload X143 hx (pc' := 53) rfl (hb hby d7_51) rfl ?_
  refine g_dcmp X143 hx (pc' := 54) (z := (0 : Int32)) rfl (hb hby d7_53) (own_dyeq (own_i2d _) (own_i2d _) rfl) ?_
  refine g_ifY X143 hx (pcY := 72) (hb hby d7_54) (by decide) (by decide) (show (0 : Int32) = 0 from by decide) ?_
  refine g_goto X143 hx (pc' := 6) (hb hby d7_72) (by decide) (by decide) ?_
  refine g_iload X143 hx (pc' := 8) rfl (hb hby d7_6) rfl ?_
  refine g_iloadN X143 hx (pc' := 9) rfl (hb hby d7_8) rfl ?_
  refine g_icmpN X143 hx (pcN := 12) (hb hby d7_9) rfl (show ¬ (¬ (0 : Int32) < (1 : Int32)) from by decide) ?_
  refine g_aloadN X143 hx (pc' := 13) rfl (hb hby d7_12) rfl rfl ?_
  refine g_iincC X143 hx (pc' := 16) (x := (1 : Int32)) (z := (0 : Int32)) rfl (hb hby d7_13) rfl (by decide) (l' := #[.val (.ref aa), .val (.int (0 : Int32)), .val (.int (0 : Int32)), .val (.int (4 : Int32)), .val (.int (0 : Int32)), .val (.int (0 : Int32)), .val (.double (FP.i2d x1)), .second]) rfl ?_
  refine g_iload X143 hx (pc' := 18) rfl (hb hby d7_16) rfl ?_
  refine g_daload X143 hx hZ Aa (i := 0) (by decide) (show (0 : Nat) < 4 by decide) (v := (FP.i2d x0)) rfl (pc' := 19) rfl (hb hby d7_18) ?_
  refine g_dstore X143 hx (pc' := 21) rfl (hb hby d7_19) (l' := #[.val (.ref aa), .val (.int (0 : Int32)), .val (.int (0 : Int32)), .val (.int (4 : Int32)), .val (.int (0 : Int32)), .val (.int (0 : Int32)), .val (.double (FP.i2d x0)), .second]) rfl ?_
  refine g_dload X143 hx (pc' := 23) rfl (hb hby d7_21) rfl ?_
  refine g_dconst0 X143 hx (pc' := 24) rfl (hb hby d7_23) ?_
  refine g_dcmp X143 hx (pc' := 25) (z := (cmpValue (FP.dcmp (FP.i2d x0) (0 : UInt64)) .l)) rfl (hb hby d7_24) rfl ?_
  suffices J25 : ∀ (T145 : State) (X145 : Wk p l e ({ frames := 2, cells := 0, slots := 0, locals := 64 } : Room) s m #[(.ref aa), (.int (0 : Int32)), (.int (0 : Int32)), (.int (4 : Int32))] below meth c n0 T145 h0 0 0) , Go p e below s n0 (fun v h => v = none ∧ Keep h0 h [aa] ∧ ∃ y0 : Int32, ∃ y1 : Int32, ∃ y2 : Int32, ∃ y3 : Int32, AD Z h aa [(FP.i2d y0), (FP.i2d y1), (FP.i2d y2), (FP.i2d y3)] ∧ y0.toInt ≤ y1.toInt ∧ y1.toInt ≤ y2.toInt ∧ y2.toInt ≤ y3.toInt ∧ ∀ q : Int32, Cq q y0 + Cq q y1 + Cq q y2 + Cq q y3 = Cq q x0 + Cq q x1 + Cq q x2 + Cq q x3) ({ frames := 2, cells := 0, slots := 0, locals := 64 } : Room).cells ({ frames := 2, cells := 0, slots := 0, locals := 64 } : Room).slots (T145.setTop (mkF m 49 #[.val (.ref aa), .val (.int (0 : Int32)), .val (.int (0 : Int32)), .val (.int (4 : Int32)), .val (.int (0 : Int32)), .val (.int (0 : Int32)), .val (.double (FP.i2d x0)), .second] [])) by
    refine g_if X143 hx (pcY := 49) (pcN := 28) (hb hby d7_25) (by decide) (by decide) rfl (fun hc25 => ?_) (fun hc25 => ?_)
    · replace hc25 : ¬ (cmpValue (FP.dcmp (FP.i2d x0) (0 : UInt64)) .l) = 0 := hc25
      exact J25 T143 X143  
    · replace hc25 : (cmpValue (FP.dcmp (FP.i2d x0) (0 : UInt64)) .l) = 0 := Classical.not_not.mp hc25
      refine g_dload X143 hx (pc' := 30) rfl (hb hby d7_28) rfl ?_
      refine g_dbits X143 hx hZ hown (hw _ (List.mem_of_getElem? (i := 55) rfl)) (hw _ (List.mem_of_getElem? (i := 58) rfl)) (hw _ (List.mem_of_getElem? (i := 56) rfl)) (hw _ (List.mem_of_getElem? (i := 57) rfl)) (by rw [hml]; rfl) (pc' := 33) rfl (hb hby d7_30) (by decide) (by decide +kernel) (fun T144 X144 => ?_)
      show Go p e below s n0 _ _ _ (T144.setTop (mkF m 33 #[.val (.ref aa), .val (.int (0 : Int32)), .val (.int (0 : Int32)), .val (.int (4 : Int32)), .val (.int (0 : Int32)), .val (.int (0 : Int32)), .val (.double (FP.i2d x0)), .second] [(.long ((FP.i2d x0)).toInt64)]))
      refine g_lconst X144 hx (pc' := 34) (z := (0 : Int64)) rfl (hb hby d7_33) rfl ?_
      refine g_lcmp X144 hx (pc' := 35) rfl (hb hby d7_34) ?_
      refine g_ifY X144 hx (pcY := 49) (hb hby d7_35) (by decide) (by decide) (show ¬ (lcmpW ((FP.i2d x0)).toInt64 (0 : Int64)) < 0 from own_raw hc25) ?_
      exact J25 T144 X144  
  intro T145 X145  
  refine g_dload X145 hx (pc' := 51) rfl (hb hby d7_49) rfl ?_
  refine g_dload X145 hx (pc' := 53) rfl (hb hby d7_51) rfl ?_
  refine g_dcmp X145 hx (pc' := 54) (z := (0 : Int32)) rfl (hb hby d7_53) (own_dyeq (own_i2d _) (own_i2d _) rfl) ?_
  refine g_ifY X145 hx (pcY := 72) (hb hby d7_54) (by decide) (by decide) (show (0 : Int32) = 0 from by decide) ?_
  refine g_goto X145 hx (pc' := 6) (hb hby d7_72) (by decide) (by decide) ?_
  refine g_iload X145 hx (pc' := 8) rfl (hb hby d7_6) rfl ?_
  refine g_iloadN X145 hx (pc' := 9) rfl (hb hby d7_8) rfl ?_
  refine g_icmpY X145 hx (pcY := 75) (hb hby d7_9) (by decide) (by decide) (show ¬ (0 : Int32) < (0 : Int32) from by decide) ?_
  refine g_iloadN X145 hx (pc' := 76) rfl (hb hby d7_75) rfl ?_
  refine g_iloadN X145 hx (pc' := 77) rfl (hb hby d7_76) rfl ?_
  refine g_isub X145 hx (pc' := 78) rfl (hb hby d7_77) ?_
  refine g_normI (z := (4 : Int32)) (by decide) ?_
  refine g_istore X145 hx (pc' := 80) rfl (hb hby d7_78) (l' := #[.val (.ref aa), .val (.int (0 : Int32)), .val (.int (0 : Int32)), .val (.int (4 : Int32)), .val (.int (0 : Int32)), .val (.int (4 : Int32)), .val (.double (FP.i2d x0)), .second]) rfl ?_
  refine g_iloadN X145 hx (pc' := 81) rfl (hb hby d7_80) rfl ?_
  refine g_iconst X145 hx (pc' := 82) (z := (1 : Int32)) rfl (hb hby d7_81) rfl ?_
  refine g_icmpY X145 hx (pcY := 143) (hb hby d7_82) (by decide) (by decide) (show ¬ (1 : Int32) < (0 : Int32) from by decide) ?_
  refine g_aconst_null X145 hx (pc' := 144) rfl (hb hby d7_143) ?_
  refine g_aloadN X145 hx (pc' := 145) rfl (hb hby d7_144) rfl rfl ?_
  refine g_iconst X145 hx (pc' := 146) (z := (0 : Int32)) rfl (hb hby d7_145) rfl ?_
  refine g_iloadN X145 hx (pc' := 147) rfl (hb hby d7_146) rfl ?_
  refine g_iloadN X145 hx (pc' := 148) rfl (hb hby d7_147) rfl ?_
  refine g_callS X145 hx hZ hown (hw _ (List.mem_of_getElem? (i := 39) rfl)) (hw _ (List.mem_of_getElem? (i := 40) rfl)) (hw _ (List.mem_of_getElem? (i := 37) rfl)) (hw _ (List.mem_of_getElem? (i := 41) rfl)) (by decide) (rm8_4 l Z a0 hw [] n0 aa x0 x1 x2 x3 h0 hn0 Aa hg) pd_1 rfl rfl (by rw [hml]; rfl) (pc' := 151) rfl (hb hby d7_148) (argsL := [.null, (.ref aa), (.int (0 : Int32)), (.int (0 : Int32)), (.int (4 : Int32))]) (rest := []) rfl (W := 0) (Nat.le_of_eq rfl) (by decide) (by decide) (by decide) (by decide) (fun v146 T146 h146 X146 hQ146 => ?_)
  obtain ⟨rfl, KS, SS⟩ := hQ146
  show Go p e below s n0 _ _ _ (T146.setTop (mkF m 151 #[.val (.ref aa), .val (.int (0 : Int32)), .val (.int (0 : Int32)), .val (.int (4 : Int32)), .val (.int (0 : Int32)), .val (.int (4 : Int32)), .val (.double (FP.i2d x0)), .second] []))
  refine g_iincC X146 hx (pc' := 154) (x := (0 : Int32)) (z := (1 : Int32)) rfl (hb hby d7_151) rfl (by decide) (l' := #[.val (.ref aa), .val (.int (0 : Int32)), .val (.int (0 : Int32)), .val (.int (4 : Int32)), .val (.int (1 : Int32)), .val (.int (4 : Int32)), .val (.double (FP.i2d x0)), .second]) rfl ?_
  refine g_iload X146 hx (pc' := 156) rfl (hb hby d7_154) rfl ?_
  refine g_iconst X146 hx (pc' := 157) (z := (1 : Int32)) rfl (hb hby d7_156) rfl ?_
  refine g_icmpN X146 hx (pcN := 160) (hb hby d7_157) rfl (show ¬ (¬ (1 : Int32) = (1 : Int32)) from by decide) ?_
  exact g_retV X146 hx hlk hret (hb hby d7_160) (by decide) (by decide) (⟨rfl, KS, SS⟩)
set_option maxRecDepth 65536 in
set_option maxHeartbeats 40000000 in
theorem rm6_0 (l : Launch) (Z : State) (a0 : Array Value) (hw : ∀ d ∈ tables_1, d.before a0 Z = true) (ws : List Jvm.Cond) (n0 : Nat) (aa : Addr) (h0 : Heap) (hn0 : n0 ≤ h0.size) (Aa : AD Z h0 aa []) (hg : n0 ≤ aa) :
    Con l Z n0 (⟨"java/util/Arrays", "sort", "([D)V"⟩ : MethodName) jdk_65_method_14_code 1 none ws ({ frames := 3, cells := 0, slots := 0, locals := 88 } : Room) #[(.ref aa)] h0 (fun v h => v = none ∧ Keep h0 h [aa] ∧ AD Z h aa [] ∧ ∀ q : Int32, (0 : Int) = (0 : Int)) := by
  refine con_start (plainFor_of_name (by first | (simp [plainName, overriddenIn]; done) | decide +kernel)) (fr0 := fun m => mkF m 0 #[.val (.ref aa)] []) (fun m => by first | (simp [entryFrame, mkF, argsToLocals, Value.category]; done) | rfl) ?_
  intro p e s m below meth c T0 hx hZ hby hml hown hnm hret hlk X0
  replace hown : s.vm.findClass "java/util/Arrays" = some m.cls := hown
  replace hml : c.maxLocals = 1 := hml
  refine g_aloadN X0 hx (pc' := 1) rfl (hb hby d6_0) rfl rfl ?_
  refine g_iconst X0 hx (pc' := 2) (z := (0 : Int32)) rfl (hb hby d6_1) rfl ?_
  refine g_iconst X0 hx (pc' := 3) (z := (0 : Int32)) rfl (hb hby d6_2) rfl ?_
  refine g_aloadN X0 hx (pc' := 4) rfl (hb hby d6_3) rfl rfl ?_
  refine g_alenD X0 hx hZ Aa (z := (0 : Int32)) rfl (pc' := 5) rfl (hb hby d6_4) ?_
  refine g_callS X0 hx hZ hown (hw _ (List.mem_of_getElem? (i := 35) rfl)) (hw _ (List.mem_of_getElem? (i := 36) rfl)) (hw _ (List.mem_of_getElem? (i := 37) rfl)) (hw _ (List.mem_of_getElem? (i := 38) rfl)) (by decide) (rm7_0 l Z a0 hw [] n0 aa  h0 hn0 Aa hg) pd_2 rfl rfl (by rw [hml]; rfl) (pc' := 8) rfl (hb hby d6_5) (argsL := [(.ref aa), (.int (0 : Int32)), (.int (0 : Int32)), (.int (0 : Int32))]) (rest := []) rfl (W := 0) (Nat.le_of_eq rfl) (by decide) (by decide) (by decide) (by decide) (fun v147 T147 h147 X147 hQ147 => ?_)
  obtain ⟨rfl, KS, SS⟩ := hQ147
  show Go p e below s n0 _ _ _ (T147.setTop (mkF m 8 #[.val (.ref aa)] []))
  exact g_retV X147 hx hlk hret (hb hby d6_8) (by decide) (by decide) (⟨rfl, KS, SS⟩)
set_option maxRecDepth 65536 in
set_option maxHeartbeats 40000000 in
theorem rm6_1 (l : Launch) (Z : State) (a0 : Array Value) (hw : ∀ d ∈ tables_1, d.before a0 Z = true) (ws : List Jvm.Cond) (n0 : Nat) (aa : Addr) (x0 : Int32) (h0 : Heap) (hn0 : n0 ≤ h0.size) (Aa : AD Z h0 aa [(FP.i2d x0)]) (hg : n0 ≤ aa) :
    Con l Z n0 (⟨"java/util/Arrays", "sort", "([D)V"⟩ : MethodName) jdk_65_method_14_code 1 none ws ({ frames := 3, cells := 0, slots := 0, locals := 88 } : Room) #[(.ref aa)] h0 (fun v h => v = none ∧ Keep h0 h [aa] ∧ ∃ y0 : Int32, AD Z h aa [(FP.i2d y0)] ∧ ∀ q : Int32, Cq q y0 = Cq q x0) := by
  refine con_start (plainFor_of_name (by first | (simp [plainName, overriddenIn]; done) | decide +kernel)) (fr0 := fun m => mkF m 0 #[.val (.ref aa)] []) (fun m => by first | (simp [entryFrame, mkF, argsToLocals, Value.category]; done) | rfl) ?_
  intro p e s m below meth c T0 hx hZ hby hml hown hnm hret hlk X0
  replace hown : s.vm.findClass "java/util/Arrays" = some m.cls := hown
  replace hml : c.maxLocals = 1 := hml
  refine g_aloadN X0 hx (pc' := 1) rfl (hb hby d6_0) rfl rfl ?_
  refine g_iconst X0 hx (pc' := 2) (z := (0 : Int32)) rfl (hb hby d6_1) rfl ?_
  refine g_iconst X0 hx (pc' := 3) (z := (0 : Int32)) rfl (hb hby d6_2) rfl ?_
  refine g_aloadN X0 hx (pc' := 4) rfl (hb hby d6_3) rfl rfl ?_
  refine g_alenD X0 hx hZ Aa (z := (1 : Int32)) rfl (pc' := 5) rfl (hb hby d6_4) ?_
  refine g_callS X0 hx hZ hown (hw _ (List.mem_of_getElem? (i := 35) rfl)) (hw _ (List.mem_of_getElem? (i := 36) rfl)) (hw _ (List.mem_of_getElem? (i := 37) rfl)) (hw _ (List.mem_of_getElem? (i := 38) rfl)) (by decide) (rm7_1 l Z a0 hw [] n0 aa x0 h0 hn0 Aa hg) pd_2 rfl rfl (by rw [hml]; rfl) (pc' := 8) rfl (hb hby d6_5) (argsL := [(.ref aa), (.int (0 : Int32)), (.int (0 : Int32)), (.int (1 : Int32))]) (rest := []) rfl (W := 0) (Nat.le_of_eq rfl) (by decide) (by decide) (by decide) (by decide) (fun v148 T148 h148 X148 hQ148 => ?_)
  obtain ⟨rfl, KS, SS⟩ := hQ148
  show Go p e below s n0 _ _ _ (T148.setTop (mkF m 8 #[.val (.ref aa)] []))
  exact g_retV X148 hx hlk hret (hb hby d6_8) (by decide) (by decide) (⟨rfl, KS, SS⟩)
set_option maxRecDepth 65536 in
set_option maxHeartbeats 40000000 in
theorem rm6_2 (l : Launch) (Z : State) (a0 : Array Value) (hw : ∀ d ∈ tables_1, d.before a0 Z = true) (ws : List Jvm.Cond) (n0 : Nat) (aa : Addr) (x0 : Int32) (x1 : Int32) (h0 : Heap) (hn0 : n0 ≤ h0.size) (Aa : AD Z h0 aa [(FP.i2d x0), (FP.i2d x1)]) (hg : n0 ≤ aa) :
    Con l Z n0 (⟨"java/util/Arrays", "sort", "([D)V"⟩ : MethodName) jdk_65_method_14_code 1 none ws ({ frames := 3, cells := 0, slots := 0, locals := 88 } : Room) #[(.ref aa)] h0 (fun v h => v = none ∧ Keep h0 h [aa] ∧ ∃ y0 : Int32, ∃ y1 : Int32, AD Z h aa [(FP.i2d y0), (FP.i2d y1)] ∧ y0.toInt ≤ y1.toInt ∧ ∀ q : Int32, Cq q y0 + Cq q y1 = Cq q x0 + Cq q x1) := by
  refine con_start (plainFor_of_name (by first | (simp [plainName, overriddenIn]; done) | decide +kernel)) (fr0 := fun m => mkF m 0 #[.val (.ref aa)] []) (fun m => by first | (simp [entryFrame, mkF, argsToLocals, Value.category]; done) | rfl) ?_
  intro p e s m below meth c T0 hx hZ hby hml hown hnm hret hlk X0
  replace hown : s.vm.findClass "java/util/Arrays" = some m.cls := hown
  replace hml : c.maxLocals = 1 := hml
  refine g_aloadN X0 hx (pc' := 1) rfl (hb hby d6_0) rfl rfl ?_
  refine g_iconst X0 hx (pc' := 2) (z := (0 : Int32)) rfl (hb hby d6_1) rfl ?_
  refine g_iconst X0 hx (pc' := 3) (z := (0 : Int32)) rfl (hb hby d6_2) rfl ?_
  refine g_aloadN X0 hx (pc' := 4) rfl (hb hby d6_3) rfl rfl ?_
  refine g_alenD X0 hx hZ Aa (z := (2 : Int32)) rfl (pc' := 5) rfl (hb hby d6_4) ?_
  refine g_callS X0 hx hZ hown (hw _ (List.mem_of_getElem? (i := 35) rfl)) (hw _ (List.mem_of_getElem? (i := 36) rfl)) (hw _ (List.mem_of_getElem? (i := 37) rfl)) (hw _ (List.mem_of_getElem? (i := 38) rfl)) (by decide) (rm7_2 l Z a0 hw [] n0 aa x0 x1 h0 hn0 Aa hg) pd_2 rfl rfl (by rw [hml]; rfl) (pc' := 8) rfl (hb hby d6_5) (argsL := [(.ref aa), (.int (0 : Int32)), (.int (0 : Int32)), (.int (2 : Int32))]) (rest := []) rfl (W := 0) (Nat.le_of_eq rfl) (by decide) (by decide) (by decide) (by decide) (fun v149 T149 h149 X149 hQ149 => ?_)
  obtain ⟨rfl, KS, SS⟩ := hQ149
  show Go p e below s n0 _ _ _ (T149.setTop (mkF m 8 #[.val (.ref aa)] []))
  exact g_retV X149 hx hlk hret (hb hby d6_8) (by decide) (by decide) (⟨rfl, KS, SS⟩)
set_option maxRecDepth 65536 in
set_option maxHeartbeats 40000000 in
theorem rm6_3 (l : Launch) (Z : State) (a0 : Array Value) (hw : ∀ d ∈ tables_1, d.before a0 Z = true) (ws : List Jvm.Cond) (n0 : Nat) (aa : Addr) (x0 : Int32) (x1 : Int32) (x2 : Int32) (h0 : Heap) (hn0 : n0 ≤ h0.size) (Aa : AD Z h0 aa [(FP.i2d x0), (FP.i2d x1), (FP.i2d x2)]) (hg : n0 ≤ aa) :
    Con l Z n0 (⟨"java/util/Arrays", "sort", "([D)V"⟩ : MethodName) jdk_65_method_14_code 1 none ws ({ frames := 3, cells := 0, slots := 0, locals := 88 } : Room) #[(.ref aa)] h0 (fun v h => v = none ∧ Keep h0 h [aa] ∧ ∃ y0 : Int32, ∃ y1 : Int32, ∃ y2 : Int32, AD Z h aa [(FP.i2d y0), (FP.i2d y1), (FP.i2d y2)] ∧ y0.toInt ≤ y1.toInt ∧ y1.toInt ≤ y2.toInt ∧ ∀ q : Int32, Cq q y0 + Cq q y1 + Cq q y2 = Cq q x0 + Cq q x1 + Cq q x2) := by
  refine con_start (plainFor_of_name (by first | (simp [plainName, overriddenIn]; done) | decide +kernel)) (fr0 := fun m => mkF m 0 #[.val (.ref aa)] []) (fun m => by first | (simp [entryFrame, mkF, argsToLocals, Value.category]; done) | rfl) ?_
  intro p e s m below meth c T0 hx hZ hby hml hown hnm hret hlk X0
  replace hown : s.vm.findClass "java/util/Arrays" = some m.cls := hown
  replace hml : c.maxLocals = 1 := hml
  refine g_aloadN X0 hx (pc' := 1) rfl (hb hby d6_0) rfl rfl ?_
  refine g_iconst X0 hx (pc' := 2) (z := (0 : Int32)) rfl (hb hby d6_1) rfl ?_
  refine g_iconst X0 hx (pc' := 3) (z := (0 : Int32)) rfl (hb hby d6_2) rfl ?_
  refine g_aloadN X0 hx (pc' := 4) rfl (hb hby d6_3) rfl rfl ?_
  refine g_alenD X0 hx hZ Aa (z := (3 : Int32)) rfl (pc' := 5) rfl (hb hby d6_4) ?_
  refine g_callS X0 hx hZ hown (hw _ (List.mem_of_getElem? (i := 35) rfl)) (hw _ (List.mem_of_getElem? (i := 36) rfl)) (hw _ (List.mem_of_getElem? (i := 37) rfl)) (hw _ (List.mem_of_getElem? (i := 38) rfl)) (by decide) (rm7_3 l Z a0 hw [] n0 aa x0 x1 x2 h0 hn0 Aa hg) pd_2 rfl rfl (by rw [hml]; rfl) (pc' := 8) rfl (hb hby d6_5) (argsL := [(.ref aa), (.int (0 : Int32)), (.int (0 : Int32)), (.int (3 : Int32))]) (rest := []) rfl (W := 0) (Nat.le_of_eq rfl) (by decide) (by decide) (by decide) (by decide) (fun v150 T150 h150 X150 hQ150 => ?_)
  obtain ⟨rfl, KS, SS⟩ := hQ150
  show Go p e below s n0 _ _ _ (T150.setTop (mkF m 8 #[.val (.ref aa)] []))
  exact g_retV X150 hx hlk hret (hb hby d6_8) (by decide) (by decide) (⟨rfl, KS, SS⟩)
set_option maxRecDepth 65536 in
set_option maxHeartbeats 40000000 in
theorem rm6_4 (l : Launch) (Z : State) (a0 : Array Value) (hw : ∀ d ∈ tables_1, d.before a0 Z = true) (ws : List Jvm.Cond) (n0 : Nat) (aa : Addr) (x0 : Int32) (x1 : Int32) (x2 : Int32) (x3 : Int32) (h0 : Heap) (hn0 : n0 ≤ h0.size) (Aa : AD Z h0 aa [(FP.i2d x0), (FP.i2d x1), (FP.i2d x2), (FP.i2d x3)]) (hg : n0 ≤ aa) :
    Con l Z n0 (⟨"java/util/Arrays", "sort", "([D)V"⟩ : MethodName) jdk_65_method_14_code 1 none ws ({ frames := 3, cells := 0, slots := 0, locals := 88 } : Room) #[(.ref aa)] h0 (fun v h => v = none ∧ Keep h0 h [aa] ∧ ∃ y0 : Int32, ∃ y1 : Int32, ∃ y2 : Int32, ∃ y3 : Int32, AD Z h aa [(FP.i2d y0), (FP.i2d y1), (FP.i2d y2), (FP.i2d y3)] ∧ y0.toInt ≤ y1.toInt ∧ y1.toInt ≤ y2.toInt ∧ y2.toInt ≤ y3.toInt ∧ ∀ q : Int32, Cq q y0 + Cq q y1 + Cq q y2 + Cq q y3 = Cq q x0 + Cq q x1 + Cq q x2 + Cq q x3) := by
  refine con_start (plainFor_of_name (by first | (simp [plainName, overriddenIn]; done) | decide +kernel)) (fr0 := fun m => mkF m 0 #[.val (.ref aa)] []) (fun m => by first | (simp [entryFrame, mkF, argsToLocals, Value.category]; done) | rfl) ?_
  intro p e s m below meth c T0 hx hZ hby hml hown hnm hret hlk X0
  replace hown : s.vm.findClass "java/util/Arrays" = some m.cls := hown
  replace hml : c.maxLocals = 1 := hml
  refine g_aloadN X0 hx (pc' := 1) rfl (hb hby d6_0) rfl rfl ?_
  refine g_iconst X0 hx (pc' := 2) (z := (0 : Int32)) rfl (hb hby d6_1) rfl ?_
  refine g_iconst X0 hx (pc' := 3) (z := (0 : Int32)) rfl (hb hby d6_2) rfl ?_
  refine g_aloadN X0 hx (pc' := 4) rfl (hb hby d6_3) rfl rfl ?_
  refine g_alenD X0 hx hZ Aa (z := (4 : Int32)) rfl (pc' := 5) rfl (hb hby d6_4) ?_
  refine g_callS X0 hx hZ hown (hw _ (List.mem_of_getElem? (i := 35) rfl)) (hw _ (List.mem_of_getElem? (i := 36) rfl)) (hw _ (List.mem_of_getElem? (i := 37) rfl)) (hw _ (List.mem_of_getElem? (i := 38) rfl)) (by decide) (rm7_4 l Z a0 hw [] n0 aa x0 x1 x2 x3 h0 hn0 Aa hg) pd_2 rfl rfl (by rw [hml]; rfl) (pc' := 8) rfl (hb hby d6_5) (argsL := [(.ref aa), (.int (0 : Int32)), (.int (0 : Int32)), (.int (4 : Int32))]) (rest := []) rfl (W := 0) (Nat.le_of_eq rfl) (by decide) (by decide) (by decide) (by decide) (fun v151 T151 h151 X151 hQ151 => ?_)
  obtain ⟨rfl, KS, SS⟩ := hQ151
  show Go p e below s n0 _ _ _ (T151.setTop (mkF m 8 #[.val (.ref aa)] []))
  exact g_retV X151 hx hlk hret (hb hby d6_8) (by decide) (by decide) (⟨rfl, KS, SS⟩)
set_option maxRecDepth 65536 in
set_option maxHeartbeats 40000000 in
theorem rm5_0 (l : Launch) (Z : State) (a0 : Array Value) (hw : ∀ d ∈ tables_1, d.before a0 Z = true) (ws : List Jvm.Cond) (n0 : Nat)  (h0 : Heap) (hn0 : n0 ≤ h0.size)  :
    Con l Z n0 (⟨"java/lang/Math", "min", "(II)I"⟩ : MethodName) jdk_29_method_69_code 2 (some .int) ws ({ frames := 0, cells := 0, slots := 0, locals := 0 } : Room) #[(.int (16 : Int32)), (.int (0 : Int32))] h0 (fun v h => v = some (.int (0 : Int32)) ∧ h = h0) := by
  refine con_start (Jvm.Free.JP.mathPlain rfl (by decide +kernel)) (fr0 := fun m => mkF m 0 #[.val (.int (16 : Int32)), .val (.int (0 : Int32))] []) (fun m => by first | (simp [entryFrame, mkF, argsToLocals, Value.category]; done) | rfl) ?_
  intro p e s m below meth c T0 hx hZ hby hml hown hnm hret hlk X0
  replace hown : s.vm.findClass "java/lang/Math" = some m.cls := hown
  replace hml : c.maxLocals = 2 := hml
  refine g_iloadN X0 hx (pc' := 1) rfl (hb hby d5_0) rfl ?_
  refine g_iloadN X0 hx (pc' := 2) rfl (hb hby d5_1) rfl ?_
  refine g_icmpY X0 hx (pcY := 9) (hb hby d5_2) (by decide) (by decide) (show (0 : Int32) < (16 : Int32) from by decide) ?_
  refine g_iloadN X0 hx (pc' := 10) rfl (hb hby d5_9) rfl ?_
  exact g_retI X0 hx hlk hret (hb hby d5_10) (by decide) (by decide) (⟨rfl, rfl⟩)
set_option maxRecDepth 65536 in
set_option maxHeartbeats 40000000 in
theorem rm5_1 (l : Launch) (Z : State) (a0 : Array Value) (hw : ∀ d ∈ tables_1, d.before a0 Z = true) (ws : List Jvm.Cond) (n0 : Nat)  (h0 : Heap) (hn0 : n0 ≤ h0.size)  :
    Con l Z n0 (⟨"java/lang/Math", "min", "(II)I"⟩ : MethodName) jdk_29_method_69_code 2 (some .int) ws ({ frames := 0, cells := 0, slots := 0, locals := 0 } : Room) #[(.int (16 : Int32)), (.int (1 : Int32))] h0 (fun v h => v = some (.int (1 : Int32)) ∧ h = h0) := by
  refine con_start (Jvm.Free.JP.mathPlain rfl (by decide +kernel)) (fr0 := fun m => mkF m 0 #[.val (.int (16 : Int32)), .val (.int (1 : Int32))] []) (fun m => by first | (simp [entryFrame, mkF, argsToLocals, Value.category]; done) | rfl) ?_
  intro p e s m below meth c T0 hx hZ hby hml hown hnm hret hlk X0
  replace hown : s.vm.findClass "java/lang/Math" = some m.cls := hown
  replace hml : c.maxLocals = 2 := hml
  refine g_iloadN X0 hx (pc' := 1) rfl (hb hby d5_0) rfl ?_
  refine g_iloadN X0 hx (pc' := 2) rfl (hb hby d5_1) rfl ?_
  refine g_icmpY X0 hx (pcY := 9) (hb hby d5_2) (by decide) (by decide) (show (1 : Int32) < (16 : Int32) from by decide) ?_
  refine g_iloadN X0 hx (pc' := 10) rfl (hb hby d5_9) rfl ?_
  exact g_retI X0 hx hlk hret (hb hby d5_10) (by decide) (by decide) (⟨rfl, rfl⟩)
set_option maxRecDepth 65536 in
set_option maxHeartbeats 40000000 in
theorem rm5_2 (l : Launch) (Z : State) (a0 : Array Value) (hw : ∀ d ∈ tables_1, d.before a0 Z = true) (ws : List Jvm.Cond) (n0 : Nat)  (h0 : Heap) (hn0 : n0 ≤ h0.size)  :
    Con l Z n0 (⟨"java/lang/Math", "min", "(II)I"⟩ : MethodName) jdk_29_method_69_code 2 (some .int) ws ({ frames := 0, cells := 0, slots := 0, locals := 0 } : Room) #[(.int (16 : Int32)), (.int (2 : Int32))] h0 (fun v h => v = some (.int (2 : Int32)) ∧ h = h0) := by
  refine con_start (Jvm.Free.JP.mathPlain rfl (by decide +kernel)) (fr0 := fun m => mkF m 0 #[.val (.int (16 : Int32)), .val (.int (2 : Int32))] []) (fun m => by first | (simp [entryFrame, mkF, argsToLocals, Value.category]; done) | rfl) ?_
  intro p e s m below meth c T0 hx hZ hby hml hown hnm hret hlk X0
  replace hown : s.vm.findClass "java/lang/Math" = some m.cls := hown
  replace hml : c.maxLocals = 2 := hml
  refine g_iloadN X0 hx (pc' := 1) rfl (hb hby d5_0) rfl ?_
  refine g_iloadN X0 hx (pc' := 2) rfl (hb hby d5_1) rfl ?_
  refine g_icmpY X0 hx (pcY := 9) (hb hby d5_2) (by decide) (by decide) (show (2 : Int32) < (16 : Int32) from by decide) ?_
  refine g_iloadN X0 hx (pc' := 10) rfl (hb hby d5_9) rfl ?_
  exact g_retI X0 hx hlk hret (hb hby d5_10) (by decide) (by decide) (⟨rfl, rfl⟩)
set_option maxRecDepth 65536 in
set_option maxHeartbeats 40000000 in
theorem rm5_3 (l : Launch) (Z : State) (a0 : Array Value) (hw : ∀ d ∈ tables_1, d.before a0 Z = true) (ws : List Jvm.Cond) (n0 : Nat)  (h0 : Heap) (hn0 : n0 ≤ h0.size)  :
    Con l Z n0 (⟨"java/lang/Math", "min", "(II)I"⟩ : MethodName) jdk_29_method_69_code 2 (some .int) ws ({ frames := 0, cells := 0, slots := 0, locals := 0 } : Room) #[(.int (16 : Int32)), (.int (3 : Int32))] h0 (fun v h => v = some (.int (3 : Int32)) ∧ h = h0) := by
  refine con_start (Jvm.Free.JP.mathPlain rfl (by decide +kernel)) (fr0 := fun m => mkF m 0 #[.val (.int (16 : Int32)), .val (.int (3 : Int32))] []) (fun m => by first | (simp [entryFrame, mkF, argsToLocals, Value.category]; done) | rfl) ?_
  intro p e s m below meth c T0 hx hZ hby hml hown hnm hret hlk X0
  replace hown : s.vm.findClass "java/lang/Math" = some m.cls := hown
  replace hml : c.maxLocals = 2 := hml
  refine g_iloadN X0 hx (pc' := 1) rfl (hb hby d5_0) rfl ?_
  refine g_iloadN X0 hx (pc' := 2) rfl (hb hby d5_1) rfl ?_
  refine g_icmpY X0 hx (pcY := 9) (hb hby d5_2) (by decide) (by decide) (show (3 : Int32) < (16 : Int32) from by decide) ?_
  refine g_iloadN X0 hx (pc' := 10) rfl (hb hby d5_9) rfl ?_
  exact g_retI X0 hx hlk hret (hb hby d5_10) (by decide) (by decide) (⟨rfl, rfl⟩)
set_option maxRecDepth 65536 in
set_option maxHeartbeats 40000000 in
theorem rm5_4 (l : Launch) (Z : State) (a0 : Array Value) (hw : ∀ d ∈ tables_1, d.before a0 Z = true) (ws : List Jvm.Cond) (n0 : Nat)  (h0 : Heap) (hn0 : n0 ≤ h0.size)  :
    Con l Z n0 (⟨"java/lang/Math", "min", "(II)I"⟩ : MethodName) jdk_29_method_69_code 2 (some .int) ws ({ frames := 0, cells := 0, slots := 0, locals := 0 } : Room) #[(.int (16 : Int32)), (.int (4 : Int32))] h0 (fun v h => v = some (.int (4 : Int32)) ∧ h = h0) := by
  refine con_start (Jvm.Free.JP.mathPlain rfl (by decide +kernel)) (fr0 := fun m => mkF m 0 #[.val (.int (16 : Int32)), .val (.int (4 : Int32))] []) (fun m => by first | (simp [entryFrame, mkF, argsToLocals, Value.category]; done) | rfl) ?_
  intro p e s m below meth c T0 hx hZ hby hml hown hnm hret hlk X0
  replace hown : s.vm.findClass "java/lang/Math" = some m.cls := hown
  replace hml : c.maxLocals = 2 := hml
  refine g_iloadN X0 hx (pc' := 1) rfl (hb hby d5_0) rfl ?_
  refine g_iloadN X0 hx (pc' := 2) rfl (hb hby d5_1) rfl ?_
  refine g_icmpY X0 hx (pcY := 9) (hb hby d5_2) (by decide) (by decide) (show (4 : Int32) < (16 : Int32) from by decide) ?_
  refine g_iloadN X0 hx (pc' := 10) rfl (hb hby d5_9) rfl ?_
  exact g_retI X0 hx hlk hret (hb hby d5_10) (by decide) (by decide) (⟨rfl, rfl⟩)
set_option maxRecDepth 65536 in
set_option maxHeartbeats 40000000 in
theorem rm4_0 (l : Launch) (Z : State) (a0 : Array Value) (hw : ∀ d ∈ tables_1, d.before a0 Z = true) (ws : List Jvm.Cond) (n0 : Nat) (aa : Addr) (v0 : UInt64) (v1 : UInt64) (v2 : UInt64) (v3 : UInt64) (v4 : UInt64) (v5 : UInt64) (v6 : UInt64) (v7 : UInt64) (v8 : UInt64) (v9 : UInt64) (v10 : UInt64) (v11 : UInt64) (v12 : UInt64) (v13 : UInt64) (v14 : UInt64) (v15 : UInt64) (h0 : Heap) (hn0 : n0 ≤ h0.size) (Aa : AD Z h0 aa [v0, v1, v2, v3, v4, v5, v6, v7, v8, v9, v10, v11, v12, v13, v14, v15]) :
    Con l Z n0 (⟨"java/util/Arrays", "copyOf", "([DI)[D"⟩ : MethodName) jdk_65_method_127_code 3 (some (.array .double)) ws ({ frames := 1, cells := 1, slots := 0, locals := 48 } : Room) #[(.ref aa), (.int (0 : Int32))] h0 (fun v h => ∃ bb, v = some (.ref bb) ∧ n0 ≤ bb ∧ h0.size ≤ bb ∧ Keep h0 h [] ∧ AD Z h bb []) := by
  refine con_start (plainFor_of_name (by first | (simp [plainName, overriddenIn]; done) | decide +kernel)) (fr0 := fun m => mkF m 0 #[.val (.ref aa), .val (.int (0 : Int32)), .unset] []) (fun m => by first | (simp [entryFrame, mkF, argsToLocals, Value.category]; done) | rfl) ?_
  intro p e s m below meth c T0 hx hZ hby hml hown hnm hret hlk X0
  replace hown : s.vm.findClass "java/util/Arrays" = some m.cls := hown
  replace hml : c.maxLocals = 3 := hml
  refine g_iloadN X0 hx (pc' := 1) rfl (hb hby d4_0) rfl ?_
  refine g_aloadN X0 hx (pc' := 2) rfl (hb hby d4_1) rfl rfl ?_
  refine g_alenD X0 hx hZ Aa (z := (16 : Int32)) rfl (pc' := 3) rfl (hb hby d4_2) ?_
  refine g_icmpY X0 hx (pcY := 14) (hb hby d4_3) (by decide) (by decide) (show ¬ (0 : Int32) = (16 : Int32) from by decide) ?_
  refine g_iloadN X0 hx (pc' := 15) rfl (hb hby d4_14) rfl ?_
  refine g_newD X0 hx hZ (hw _ (List.mem_of_getElem? (i := 10) rfl)) (N := 0) (by decide) (cap := 0) (Nat.le_refl _) (by decide) (pc' := 17) rfl (hb hby d4_15) (by decide) (by decide) (fun T152 h152 a152 ha152 X152 E152 N152 => ?_)
  have ne152_aa : aa ≠ a152 := by rw [ha152]; exact Nat.ne_of_lt Aa.lt
  have f153 := Aa.ext E152
  have sz152 : h0.size ≤ a152 := by rw [ha152]; exact (Keep.refl h0 []).1
  have f154 := (Keep.refl h0 []).ext E152
  have G_a152 : n0 ≤ a152 := by rw [ha152]; exact hn0
  have Zs152 : n0 ≤ h152.size := Nat.le_trans hn0 E152.1
  have V152 : AD Z h152 a152 [] := N152
  refine g_astoreN X152 hx (pc' := 18) rfl (hb hby d4_17) rfl (l' := #[.val (.ref aa), .val (.int (0 : Int32)), .val (.ref a152)]) rfl ?_
  refine g_aloadN X152 hx (pc' := 19) rfl (hb hby d4_18) rfl rfl ?_
  refine g_iconst X152 hx (pc' := 20) (z := (0 : Int32)) rfl (hb hby d4_19) rfl ?_
  refine g_aloadN X152 hx (pc' := 21) rfl (hb hby d4_20) rfl rfl ?_
  refine g_iconst X152 hx (pc' := 22) (z := (0 : Int32)) rfl (hb hby d4_21) rfl ?_
  refine g_aloadN X152 hx (pc' := 23) rfl (hb hby d4_22) rfl rfl ?_
  refine g_alenD X152 hx hZ f153 (z := (16 : Int32)) rfl (pc' := 24) rfl (hb hby d4_23) ?_
  refine g_iloadN X152 hx (pc' := 25) rfl (hb hby d4_24) rfl ?_
  refine g_callS X152 hx hZ hown (hw _ (List.mem_of_getElem? (i := 24) rfl)) (hw _ (List.mem_of_getElem? (i := 25) rfl)) (hw _ (List.mem_of_getElem? (i := 26) rfl)) (hw _ (List.mem_of_getElem? (i := 27) rfl)) (by decide) (rm5_0 l Z a0 hw [] n0 h152 Zs152) pd_3 rfl rfl (by rw [hml]; rfl) (pc' := 28) rfl (hb hby d4_25) (argsL := [(.int (16 : Int32)), (.int (0 : Int32))]) (rest := [(.int (0 : Int32)), (.ref a152), (.int (0 : Int32)), (.ref aa)]) rfl (W := 4) (Nat.le_of_eq rfl) (by decide) (by decide) (by decide) (by decide) (fun v155 T155 h155 X155 hQ155 => ?_)
  obtain ⟨rfl, he155⟩ := hQ155
  rw [he155] at X155
  show Go p e below s n0 _ _ _ (T155.setTop (mkF m 28 #[.val (.ref aa), .val (.int (0 : Int32)), .val (.ref a152)] [(.int (0 : Int32)), (.int (0 : Int32)), (.ref a152), (.int (0 : Int32)), (.ref aa)]))
  refine g_copyP X155 hx hZ hown (hw _ (List.mem_of_getElem? (i := 28) rfl)) (hw _ (List.mem_of_getElem? (i := 31) rfl)) (hw _ (List.mem_of_getElem? (i := 29) rfl)) (hw _ (List.mem_of_getElem? (i := 30) rfl)) f153.av V152.av rfl (i := 0) (j := 0) (n := 0) rfl rfl rfl (show (0 : Nat) + 0 ≤ 16 by decide) (show (0 : Nat) + 0 ≤ 0 by decide) G_a152 (by rw [hml]; rfl) (pc' := 31) rfl (hb hby d4_28) (by decide) (W := 0) (Nat.le_of_eq rfl) (by decide +kernel) (fun T156 h156 X156 K156 N156 => ?_)
  have V156 : AD Z h156 a152 [] := AV.ad (us := []) N156
  have f157 := f154.trans K156 (allS (Or.inr sz152) all0)
  show Go p e below s n0 _ _ _ (T156.setTop (mkF m 31 #[.val (.ref aa), .val (.int (0 : Int32)), .val (.ref a152)] []))
  refine g_aloadN X156 hx (pc' := 32) rfl (hb hby d4_31) rfl rfl ?_
  exact g_ret X156 hx hlk hret rfl (Or.inr (Or.inr (Or.inr (Or.inr ⟨rfl, rfl, rfl⟩)))) (hb hby d4_32) (by decide) (by decide) (⟨a152, rfl, G_a152, sz152, f157, V156⟩)
set_option maxRecDepth 65536 in
set_option maxHeartbeats 40000000 in
theorem rm4_1 (l : Launch) (Z : State) (a0 : Array Value) (hw : ∀ d ∈ tables_1, d.before a0 Z = true) (ws : List Jvm.Cond) (n0 : Nat) (aa : Addr) (v0 : UInt64) (v1 : UInt64) (v2 : UInt64) (v3 : UInt64) (v4 : UInt64) (v5 : UInt64) (v6 : UInt64) (v7 : UInt64) (v8 : UInt64) (v9 : UInt64) (v10 : UInt64) (v11 : UInt64) (v12 : UInt64) (v13 : UInt64) (v14 : UInt64) (v15 : UInt64) (h0 : Heap) (hn0 : n0 ≤ h0.size) (Aa : AD Z h0 aa [v0, v1, v2, v3, v4, v5, v6, v7, v8, v9, v10, v11, v12, v13, v14, v15]) :
    Con l Z n0 (⟨"java/util/Arrays", "copyOf", "([DI)[D"⟩ : MethodName) jdk_65_method_127_code 3 (some (.array .double)) ws ({ frames := 1, cells := 1, slots := 1, locals := 48 } : Room) #[(.ref aa), (.int (1 : Int32))] h0 (fun v h => ∃ bb, v = some (.ref bb) ∧ n0 ≤ bb ∧ h0.size ≤ bb ∧ Keep h0 h [] ∧ AD Z h bb [v0]) := by
  refine con_start (plainFor_of_name (by first | (simp [plainName, overriddenIn]; done) | decide +kernel)) (fr0 := fun m => mkF m 0 #[.val (.ref aa), .val (.int (1 : Int32)), .unset] []) (fun m => by first | (simp [entryFrame, mkF, argsToLocals, Value.category]; done) | rfl) ?_
  intro p e s m below meth c T0 hx hZ hby hml hown hnm hret hlk X0
  replace hown : s.vm.findClass "java/util/Arrays" = some m.cls := hown
  replace hml : c.maxLocals = 3 := hml
  refine g_iloadN X0 hx (pc' := 1) rfl (hb hby d4_0) rfl ?_
  refine g_aloadN X0 hx (pc' := 2) rfl (hb hby d4_1) rfl rfl ?_
  refine g_alenD X0 hx hZ Aa (z := (16 : Int32)) rfl (pc' := 3) rfl (hb hby d4_2) ?_
  refine g_icmpY X0 hx (pcY := 14) (hb hby d4_3) (by decide) (by decide) (show ¬ (1 : Int32) = (16 : Int32) from by decide) ?_
  refine g_iloadN X0 hx (pc' := 15) rfl (hb hby d4_14) rfl ?_
  refine g_newD X0 hx hZ (hw _ (List.mem_of_getElem? (i := 10) rfl)) (N := 1) (by decide) (cap := 1) (Nat.le_refl _) (by decide) (pc' := 17) rfl (hb hby d4_15) (by decide) (by decide) (fun T158 h158 a158 ha158 X158 E158 N158 => ?_)
  have ne158_aa : aa ≠ a158 := by rw [ha158]; exact Nat.ne_of_lt Aa.lt
  have f159 := Aa.ext E158
  have sz158 : h0.size ≤ a158 := by rw [ha158]; exact (Keep.refl h0 []).1
  have f160 := (Keep.refl h0 []).ext E158
  have G_a158 : n0 ≤ a158 := by rw [ha158]; exact hn0
  have Zs158 : n0 ≤ h158.size := Nat.le_trans hn0 E158.1
  have V158 : AD Z h158 a158 [(0 : UInt64)] := N158
  refine g_astoreN X158 hx (pc' := 18) rfl (hb hby d4_17) rfl (l' := #[.val (.ref aa), .val (.int (1 : Int32)), .val (.ref a158)]) rfl ?_
  refine g_aloadN X158 hx (pc' := 19) rfl (hb hby d4_18) rfl rfl ?_
  refine g_iconst X158 hx (pc' := 20) (z := (0 : Int32)) rfl (hb hby d4_19) rfl ?_
  refine g_aloadN X158 hx (pc' := 21) rfl (hb hby d4_20) rfl rfl ?_
  refine g_iconst X158 hx (pc' := 22) (z := (0 : Int32)) rfl (hb hby d4_21) rfl ?_
  refine g_aloadN X158 hx (pc' := 23) rfl (hb hby d4_22) rfl rfl ?_
  refine g_alenD X158 hx hZ f159 (z := (16 : Int32)) rfl (pc' := 24) rfl (hb hby d4_23) ?_
  refine g_iloadN X158 hx (pc' := 25) rfl (hb hby d4_24) rfl ?_
  refine g_callS X158 hx hZ hown (hw _ (List.mem_of_getElem? (i := 24) rfl)) (hw _ (List.mem_of_getElem? (i := 25) rfl)) (hw _ (List.mem_of_getElem? (i := 26) rfl)) (hw _ (List.mem_of_getElem? (i := 27) rfl)) (by decide) (rm5_1 l Z a0 hw [] n0 h158 Zs158) pd_3 rfl rfl (by rw [hml]; rfl) (pc' := 28) rfl (hb hby d4_25) (argsL := [(.int (16 : Int32)), (.int (1 : Int32))]) (rest := [(.int (0 : Int32)), (.ref a158), (.int (0 : Int32)), (.ref aa)]) rfl (W := 4) (Nat.le_of_eq rfl) (by decide) (by decide) (by decide) (by decide) (fun v161 T161 h161 X161 hQ161 => ?_)
  obtain ⟨rfl, he161⟩ := hQ161
  rw [he161] at X161
  show Go p e below s n0 _ _ _ (T161.setTop (mkF m 28 #[.val (.ref aa), .val (.int (1 : Int32)), .val (.ref a158)] [(.int (1 : Int32)), (.int (0 : Int32)), (.ref a158), (.int (0 : Int32)), (.ref aa)]))
  refine g_copyP X161 hx hZ hown (hw _ (List.mem_of_getElem? (i := 28) rfl)) (hw _ (List.mem_of_getElem? (i := 31) rfl)) (hw _ (List.mem_of_getElem? (i := 29) rfl)) (hw _ (List.mem_of_getElem? (i := 30) rfl)) f159.av V158.av rfl (i := 0) (j := 0) (n := 1) rfl rfl rfl (show (0 : Nat) + 1 ≤ 16 by decide) (show (0 : Nat) + 1 ≤ 1 by decide) G_a158 (by rw [hml]; rfl) (pc' := 31) rfl (hb hby d4_28) (by decide) (W := 0) (Nat.le_of_eq rfl) (by decide +kernel) (fun T162 h162 X162 K162 N162 => ?_)
  have V162 : AD Z h162 a158 [v0] := AV.ad (us := [v0]) N162
  have f163 := f160.trans K162 (allS (Or.inr sz158) all0)
  show Go p e below s n0 _ _ _ (T162.setTop (mkF m 31 #[.val (.ref aa), .val (.int (1 : Int32)), .val (.ref a158)] []))
  refine g_aloadN X162 hx (pc' := 32) rfl (hb hby d4_31) rfl rfl ?_
  exact g_ret X162 hx hlk hret rfl (Or.inr (Or.inr (Or.inr (Or.inr ⟨rfl, rfl, rfl⟩)))) (hb hby d4_32) (by decide) (by decide) (⟨a158, rfl, G_a158, sz158, f163, V162⟩)
set_option maxRecDepth 65536 in
set_option maxHeartbeats 40000000 in
theorem rm4_2 (l : Launch) (Z : State) (a0 : Array Value) (hw : ∀ d ∈ tables_1, d.before a0 Z = true) (ws : List Jvm.Cond) (n0 : Nat) (aa : Addr) (v0 : UInt64) (v1 : UInt64) (v2 : UInt64) (v3 : UInt64) (v4 : UInt64) (v5 : UInt64) (v6 : UInt64) (v7 : UInt64) (v8 : UInt64) (v9 : UInt64) (v10 : UInt64) (v11 : UInt64) (v12 : UInt64) (v13 : UInt64) (v14 : UInt64) (v15 : UInt64) (h0 : Heap) (hn0 : n0 ≤ h0.size) (Aa : AD Z h0 aa [v0, v1, v2, v3, v4, v5, v6, v7, v8, v9, v10, v11, v12, v13, v14, v15]) :
    Con l Z n0 (⟨"java/util/Arrays", "copyOf", "([DI)[D"⟩ : MethodName) jdk_65_method_127_code 3 (some (.array .double)) ws ({ frames := 1, cells := 1, slots := 2, locals := 48 } : Room) #[(.ref aa), (.int (2 : Int32))] h0 (fun v h => ∃ bb, v = some (.ref bb) ∧ n0 ≤ bb ∧ h0.size ≤ bb ∧ Keep h0 h [] ∧ AD Z h bb [v0, v1]) := by
  refine con_start (plainFor_of_name (by first | (simp [plainName, overriddenIn]; done) | decide +kernel)) (fr0 := fun m => mkF m 0 #[.val (.ref aa), .val (.int (2 : Int32)), .unset] []) (fun m => by first | (simp [entryFrame, mkF, argsToLocals, Value.category]; done) | rfl) ?_
  intro p e s m below meth c T0 hx hZ hby hml hown hnm hret hlk X0
  replace hown : s.vm.findClass "java/util/Arrays" = some m.cls := hown
  replace hml : c.maxLocals = 3 := hml
  refine g_iloadN X0 hx (pc' := 1) rfl (hb hby d4_0) rfl ?_
  refine g_aloadN X0 hx (pc' := 2) rfl (hb hby d4_1) rfl rfl ?_
  refine g_alenD X0 hx hZ Aa (z := (16 : Int32)) rfl (pc' := 3) rfl (hb hby d4_2) ?_
  refine g_icmpY X0 hx (pcY := 14) (hb hby d4_3) (by decide) (by decide) (show ¬ (2 : Int32) = (16 : Int32) from by decide) ?_
  refine g_iloadN X0 hx (pc' := 15) rfl (hb hby d4_14) rfl ?_
  refine g_newD X0 hx hZ (hw _ (List.mem_of_getElem? (i := 10) rfl)) (N := 2) (by decide) (cap := 2) (Nat.le_refl _) (by decide) (pc' := 17) rfl (hb hby d4_15) (by decide) (by decide) (fun T164 h164 a164 ha164 X164 E164 N164 => ?_)
  have ne164_aa : aa ≠ a164 := by rw [ha164]; exact Nat.ne_of_lt Aa.lt
  have f165 := Aa.ext E164
  have sz164 : h0.size ≤ a164 := by rw [ha164]; exact (Keep.refl h0 []).1
  have f166 := (Keep.refl h0 []).ext E164
  have G_a164 : n0 ≤ a164 := by rw [ha164]; exact hn0
  have Zs164 : n0 ≤ h164.size := Nat.le_trans hn0 E164.1
  have V164 : AD Z h164 a164 [(0 : UInt64), (0 : UInt64)] := N164
  refine g_astoreN X164 hx (pc' := 18) rfl (hb hby d4_17) rfl (l' := #[.val (.ref aa), .val (.int (2 : Int32)), .val (.ref a164)]) rfl ?_
  refine g_aloadN X164 hx (pc' := 19) rfl (hb hby d4_18) rfl rfl ?_
  refine g_iconst X164 hx (pc' := 20) (z := (0 : Int32)) rfl (hb hby d4_19) rfl ?_
  refine g_aloadN X164 hx (pc' := 21) rfl (hb hby d4_20) rfl rfl ?_
  refine g_iconst X164 hx (pc' := 22) (z := (0 : Int32)) rfl (hb hby d4_21) rfl ?_
  refine g_aloadN X164 hx (pc' := 23) rfl (hb hby d4_22) rfl rfl ?_
  refine g_alenD X164 hx hZ f165 (z := (16 : Int32)) rfl (pc' := 24) rfl (hb hby d4_23) ?_
  refine g_iloadN X164 hx (pc' := 25) rfl (hb hby d4_24) rfl ?_
  refine g_callS X164 hx hZ hown (hw _ (List.mem_of_getElem? (i := 24) rfl)) (hw _ (List.mem_of_getElem? (i := 25) rfl)) (hw _ (List.mem_of_getElem? (i := 26) rfl)) (hw _ (List.mem_of_getElem? (i := 27) rfl)) (by decide) (rm5_2 l Z a0 hw [] n0 h164 Zs164) pd_3 rfl rfl (by rw [hml]; rfl) (pc' := 28) rfl (hb hby d4_25) (argsL := [(.int (16 : Int32)), (.int (2 : Int32))]) (rest := [(.int (0 : Int32)), (.ref a164), (.int (0 : Int32)), (.ref aa)]) rfl (W := 4) (Nat.le_of_eq rfl) (by decide) (by decide) (by decide) (by decide) (fun v167 T167 h167 X167 hQ167 => ?_)
  obtain ⟨rfl, he167⟩ := hQ167
  rw [he167] at X167
  show Go p e below s n0 _ _ _ (T167.setTop (mkF m 28 #[.val (.ref aa), .val (.int (2 : Int32)), .val (.ref a164)] [(.int (2 : Int32)), (.int (0 : Int32)), (.ref a164), (.int (0 : Int32)), (.ref aa)]))
  refine g_copyP X167 hx hZ hown (hw _ (List.mem_of_getElem? (i := 28) rfl)) (hw _ (List.mem_of_getElem? (i := 31) rfl)) (hw _ (List.mem_of_getElem? (i := 29) rfl)) (hw _ (List.mem_of_getElem? (i := 30) rfl)) f165.av V164.av rfl (i := 0) (j := 0) (n := 2) rfl rfl rfl (show (0 : Nat) + 2 ≤ 16 by decide) (show (0 : Nat) + 2 ≤ 2 by decide) G_a164 (by rw [hml]; rfl) (pc' := 31) rfl (hb hby d4_28) (by decide) (W := 0) (Nat.le_of_eq rfl) (by decide +kernel) (fun T168 h168 X168 K168 N168 => ?_)
  have V168 : AD Z h168 a164 [v0, v1] := AV.ad (us := [v0, v1]) N168
  have f169 := f166.trans K168 (allS (Or.inr sz164) all0)
  show Go p e below s n0 _ _ _ (T168.setTop (mkF m 31 #[.val (.ref aa), .val (.int (2 : Int32)), .val (.ref a164)] []))
  refine g_aloadN X168 hx (pc' := 32) rfl (hb hby d4_31) rfl rfl ?_
  exact g_ret X168 hx hlk hret rfl (Or.inr (Or.inr (Or.inr (Or.inr ⟨rfl, rfl, rfl⟩)))) (hb hby d4_32) (by decide) (by decide) (⟨a164, rfl, G_a164, sz164, f169, V168⟩)
set_option maxRecDepth 65536 in
set_option maxHeartbeats 40000000 in
theorem rm4_3 (l : Launch) (Z : State) (a0 : Array Value) (hw : ∀ d ∈ tables_1, d.before a0 Z = true) (ws : List Jvm.Cond) (n0 : Nat) (aa : Addr) (v0 : UInt64) (v1 : UInt64) (v2 : UInt64) (v3 : UInt64) (v4 : UInt64) (v5 : UInt64) (v6 : UInt64) (v7 : UInt64) (v8 : UInt64) (v9 : UInt64) (v10 : UInt64) (v11 : UInt64) (v12 : UInt64) (v13 : UInt64) (v14 : UInt64) (v15 : UInt64) (h0 : Heap) (hn0 : n0 ≤ h0.size) (Aa : AD Z h0 aa [v0, v1, v2, v3, v4, v5, v6, v7, v8, v9, v10, v11, v12, v13, v14, v15]) :
    Con l Z n0 (⟨"java/util/Arrays", "copyOf", "([DI)[D"⟩ : MethodName) jdk_65_method_127_code 3 (some (.array .double)) ws ({ frames := 1, cells := 1, slots := 3, locals := 48 } : Room) #[(.ref aa), (.int (3 : Int32))] h0 (fun v h => ∃ bb, v = some (.ref bb) ∧ n0 ≤ bb ∧ h0.size ≤ bb ∧ Keep h0 h [] ∧ AD Z h bb [v0, v1, v2]) := by
  refine con_start (plainFor_of_name (by first | (simp [plainName, overriddenIn]; done) | decide +kernel)) (fr0 := fun m => mkF m 0 #[.val (.ref aa), .val (.int (3 : Int32)), .unset] []) (fun m => by first | (simp [entryFrame, mkF, argsToLocals, Value.category]; done) | rfl) ?_
  intro p e s m below meth c T0 hx hZ hby hml hown hnm hret hlk X0
  replace hown : s.vm.findClass "java/util/Arrays" = some m.cls := hown
  replace hml : c.maxLocals = 3 := hml
  refine g_iloadN X0 hx (pc' := 1) rfl (hb hby d4_0) rfl ?_
  refine g_aloadN X0 hx (pc' := 2) rfl (hb hby d4_1) rfl rfl ?_
  refine g_alenD X0 hx hZ Aa (z := (16 : Int32)) rfl (pc' := 3) rfl (hb hby d4_2) ?_
  refine g_icmpY X0 hx (pcY := 14) (hb hby d4_3) (by decide) (by decide) (show ¬ (3 : Int32) = (16 : Int32) from by decide) ?_
  refine g_iloadN X0 hx (pc' := 15) rfl (hb hby d4_14) rfl ?_
  refine g_newD X0 hx hZ (hw _ (List.mem_of_getElem? (i := 10) rfl)) (N := 3) (by decide) (cap := 3) (Nat.le_refl _) (by decide) (pc' := 17) rfl (hb hby d4_15) (by decide) (by decide) (fun T170 h170 a170 ha170 X170 E170 N170 => ?_)
  have ne170_aa : aa ≠ a170 := by rw [ha170]; exact Nat.ne_of_lt Aa.lt
  have f171 := Aa.ext E170
  have sz170 : h0.size ≤ a170 := by rw [ha170]; exact (Keep.refl h0 []).1
  have f172 := (Keep.refl h0 []).ext E170
  have G_a170 : n0 ≤ a170 := by rw [ha170]; exact hn0
  have Zs170 : n0 ≤ h170.size := Nat.le_trans hn0 E170.1
  have V170 : AD Z h170 a170 [(0 : UInt64), (0 : UInt64), (0 : UInt64)] := N170
  refine g_astoreN X170 hx (pc' := 18) rfl (hb hby d4_17) rfl (l' := #[.val (.ref aa), .val (.int (3 : Int32)), .val (.ref a170)]) rfl ?_
  refine g_aloadN X170 hx (pc' := 19) rfl (hb hby d4_18) rfl rfl ?_
  refine g_iconst X170 hx (pc' := 20) (z := (0 : Int32)) rfl (hb hby d4_19) rfl ?_
  refine g_aloadN X170 hx (pc' := 21) rfl (hb hby d4_20) rfl rfl ?_
  refine g_iconst X170 hx (pc' := 22) (z := (0 : Int32)) rfl (hb hby d4_21) rfl ?_
  refine g_aloadN X170 hx (pc' := 23) rfl (hb hby d4_22) rfl rfl ?_
  refine g_alenD X170 hx hZ f171 (z := (16 : Int32)) rfl (pc' := 24) rfl (hb hby d4_23) ?_
  refine g_iloadN X170 hx (pc' := 25) rfl (hb hby d4_24) rfl ?_
  refine g_callS X170 hx hZ hown (hw _ (List.mem_of_getElem? (i := 24) rfl)) (hw _ (List.mem_of_getElem? (i := 25) rfl)) (hw _ (List.mem_of_getElem? (i := 26) rfl)) (hw _ (List.mem_of_getElem? (i := 27) rfl)) (by decide) (rm5_3 l Z a0 hw [] n0 h170 Zs170) pd_3 rfl rfl (by rw [hml]; rfl) (pc' := 28) rfl (hb hby d4_25) (argsL := [(.int (16 : Int32)), (.int (3 : Int32))]) (rest := [(.int (0 : Int32)), (.ref a170), (.int (0 : Int32)), (.ref aa)]) rfl (W := 4) (Nat.le_of_eq rfl) (by decide) (by decide) (by decide) (by decide) (fun v173 T173 h173 X173 hQ173 => ?_)
  obtain ⟨rfl, he173⟩ := hQ173
  rw [he173] at X173
  show Go p e below s n0 _ _ _ (T173.setTop (mkF m 28 #[.val (.ref aa), .val (.int (3 : Int32)), .val (.ref a170)] [(.int (3 : Int32)), (.int (0 : Int32)), (.ref a170), (.int (0 : Int32)), (.ref aa)]))
  refine g_copyP X173 hx hZ hown (hw _ (List.mem_of_getElem? (i := 28) rfl)) (hw _ (List.mem_of_getElem? (i := 31) rfl)) (hw _ (List.mem_of_getElem? (i := 29) rfl)) (hw _ (List.mem_of_getElem? (i := 30) rfl)) f171.av V170.av rfl (i := 0) (j := 0) (n := 3) rfl rfl rfl (show (0 : Nat) + 3 ≤ 16 by decide) (show (0 : Nat) + 3 ≤ 3 by decide) G_a170 (by rw [hml]; rfl) (pc' := 31) rfl (hb hby d4_28) (by decide) (W := 0) (Nat.le_of_eq rfl) (by decide +kernel) (fun T174 h174 X174 K174 N174 => ?_)
  have V174 : AD Z h174 a170 [v0, v1, v2] := AV.ad (us := [v0, v1, v2]) N174
  have f175 := f172.trans K174 (allS (Or.inr sz170) all0)
  show Go p e below s n0 _ _ _ (T174.setTop (mkF m 31 #[.val (.ref aa), .val (.int (3 : Int32)), .val (.ref a170)] []))
  refine g_aloadN X174 hx (pc' := 32) rfl (hb hby d4_31) rfl rfl ?_
  exact g_ret X174 hx hlk hret rfl (Or.inr (Or.inr (Or.inr (Or.inr ⟨rfl, rfl, rfl⟩)))) (hb hby d4_32) (by decide) (by decide) (⟨a170, rfl, G_a170, sz170, f175, V174⟩)
set_option maxRecDepth 65536 in
set_option maxHeartbeats 40000000 in
theorem rm4_4 (l : Launch) (Z : State) (a0 : Array Value) (hw : ∀ d ∈ tables_1, d.before a0 Z = true) (ws : List Jvm.Cond) (n0 : Nat) (aa : Addr) (v0 : UInt64) (v1 : UInt64) (v2 : UInt64) (v3 : UInt64) (v4 : UInt64) (v5 : UInt64) (v6 : UInt64) (v7 : UInt64) (v8 : UInt64) (v9 : UInt64) (v10 : UInt64) (v11 : UInt64) (v12 : UInt64) (v13 : UInt64) (v14 : UInt64) (v15 : UInt64) (h0 : Heap) (hn0 : n0 ≤ h0.size) (Aa : AD Z h0 aa [v0, v1, v2, v3, v4, v5, v6, v7, v8, v9, v10, v11, v12, v13, v14, v15]) :
    Con l Z n0 (⟨"java/util/Arrays", "copyOf", "([DI)[D"⟩ : MethodName) jdk_65_method_127_code 3 (some (.array .double)) ws ({ frames := 1, cells := 1, slots := 4, locals := 48 } : Room) #[(.ref aa), (.int (4 : Int32))] h0 (fun v h => ∃ bb, v = some (.ref bb) ∧ n0 ≤ bb ∧ h0.size ≤ bb ∧ Keep h0 h [] ∧ AD Z h bb [v0, v1, v2, v3]) := by
  refine con_start (plainFor_of_name (by first | (simp [plainName, overriddenIn]; done) | decide +kernel)) (fr0 := fun m => mkF m 0 #[.val (.ref aa), .val (.int (4 : Int32)), .unset] []) (fun m => by first | (simp [entryFrame, mkF, argsToLocals, Value.category]; done) | rfl) ?_
  intro p e s m below meth c T0 hx hZ hby hml hown hnm hret hlk X0
  replace hown : s.vm.findClass "java/util/Arrays" = some m.cls := hown
  replace hml : c.maxLocals = 3 := hml
  refine g_iloadN X0 hx (pc' := 1) rfl (hb hby d4_0) rfl ?_
  refine g_aloadN X0 hx (pc' := 2) rfl (hb hby d4_1) rfl rfl ?_
  refine g_alenD X0 hx hZ Aa (z := (16 : Int32)) rfl (pc' := 3) rfl (hb hby d4_2) ?_
  refine g_icmpY X0 hx (pcY := 14) (hb hby d4_3) (by decide) (by decide) (show ¬ (4 : Int32) = (16 : Int32) from by decide) ?_
  refine g_iloadN X0 hx (pc' := 15) rfl (hb hby d4_14) rfl ?_
  refine g_newD X0 hx hZ (hw _ (List.mem_of_getElem? (i := 10) rfl)) (N := 4) (by decide) (cap := 4) (Nat.le_refl _) (by decide) (pc' := 17) rfl (hb hby d4_15) (by decide) (by decide) (fun T176 h176 a176 ha176 X176 E176 N176 => ?_)
  have ne176_aa : aa ≠ a176 := by rw [ha176]; exact Nat.ne_of_lt Aa.lt
  have f177 := Aa.ext E176
  have sz176 : h0.size ≤ a176 := by rw [ha176]; exact (Keep.refl h0 []).1
  have f178 := (Keep.refl h0 []).ext E176
  have G_a176 : n0 ≤ a176 := by rw [ha176]; exact hn0
  have Zs176 : n0 ≤ h176.size := Nat.le_trans hn0 E176.1
  have V176 : AD Z h176 a176 [(0 : UInt64), (0 : UInt64), (0 : UInt64), (0 : UInt64)] := N176
  refine g_astoreN X176 hx (pc' := 18) rfl (hb hby d4_17) rfl (l' := #[.val (.ref aa), .val (.int (4 : Int32)), .val (.ref a176)]) rfl ?_
  refine g_aloadN X176 hx (pc' := 19) rfl (hb hby d4_18) rfl rfl ?_
  refine g_iconst X176 hx (pc' := 20) (z := (0 : Int32)) rfl (hb hby d4_19) rfl ?_
  refine g_aloadN X176 hx (pc' := 21) rfl (hb hby d4_20) rfl rfl ?_
  refine g_iconst X176 hx (pc' := 22) (z := (0 : Int32)) rfl (hb hby d4_21) rfl ?_
  refine g_aloadN X176 hx (pc' := 23) rfl (hb hby d4_22) rfl rfl ?_
  refine g_alenD X176 hx hZ f177 (z := (16 : Int32)) rfl (pc' := 24) rfl (hb hby d4_23) ?_
  refine g_iloadN X176 hx (pc' := 25) rfl (hb hby d4_24) rfl ?_
  refine g_callS X176 hx hZ hown (hw _ (List.mem_of_getElem? (i := 24) rfl)) (hw _ (List.mem_of_getElem? (i := 25) rfl)) (hw _ (List.mem_of_getElem? (i := 26) rfl)) (hw _ (List.mem_of_getElem? (i := 27) rfl)) (by decide) (rm5_4 l Z a0 hw [] n0 h176 Zs176) pd_3 rfl rfl (by rw [hml]; rfl) (pc' := 28) rfl (hb hby d4_25) (argsL := [(.int (16 : Int32)), (.int (4 : Int32))]) (rest := [(.int (0 : Int32)), (.ref a176), (.int (0 : Int32)), (.ref aa)]) rfl (W := 4) (Nat.le_of_eq rfl) (by decide) (by decide) (by decide) (by decide) (fun v179 T179 h179 X179 hQ179 => ?_)
  obtain ⟨rfl, he179⟩ := hQ179
  rw [he179] at X179
  show Go p e below s n0 _ _ _ (T179.setTop (mkF m 28 #[.val (.ref aa), .val (.int (4 : Int32)), .val (.ref a176)] [(.int (4 : Int32)), (.int (0 : Int32)), (.ref a176), (.int (0 : Int32)), (.ref aa)]))
  refine g_copyP X179 hx hZ hown (hw _ (List.mem_of_getElem? (i := 28) rfl)) (hw _ (List.mem_of_getElem? (i := 31) rfl)) (hw _ (List.mem_of_getElem? (i := 29) rfl)) (hw _ (List.mem_of_getElem? (i := 30) rfl)) f177.av V176.av rfl (i := 0) (j := 0) (n := 4) rfl rfl rfl (show (0 : Nat) + 4 ≤ 16 by decide) (show (0 : Nat) + 4 ≤ 4 by decide) G_a176 (by rw [hml]; rfl) (pc' := 31) rfl (hb hby d4_28) (by decide) (W := 0) (Nat.le_of_eq rfl) (by decide +kernel) (fun T180 h180 X180 K180 N180 => ?_)
  have V180 : AD Z h180 a176 [v0, v1, v2, v3] := AV.ad (us := [v0, v1, v2, v3]) N180
  have f181 := f178.trans K180 (allS (Or.inr sz176) all0)
  show Go p e below s n0 _ _ _ (T180.setTop (mkF m 31 #[.val (.ref aa), .val (.int (4 : Int32)), .val (.ref a176)] []))
  refine g_aloadN X180 hx (pc' := 32) rfl (hb hby d4_31) rfl rfl ?_
  exact g_ret X180 hx hlk hret rfl (Or.inr (Or.inr (Or.inr (Or.inr ⟨rfl, rfl, rfl⟩)))) (hb hby d4_32) (by decide) (by decide) (⟨a176, rfl, G_a176, sz176, f181, V180⟩)
set_option maxRecDepth 65536 in
set_option maxHeartbeats 40000000 in
theorem rm1 (l : Launch) (Z : State) (a0 : Array Value) (hw : ∀ d ∈ tables_1, d.before a0 Z = true) (ws : List Jvm.Cond) (n0 : Nat) (t : Addr) (h0 : Heap) (hn0 : n0 ≤ h0.size) (Et : Exa Z h0 t "com/example/loads_to_headways/loadstoheadways/replay/Times") (hgt : n0 ≤ t) (Fs : Fld Z h0 t "com/example/loads_to_headways/loadstoheadways/replay/Times" "seconds" "[D" .null) (Fz : Fld Z h0 t "com/example/loads_to_headways/loadstoheadways/replay/Times" "size" "I" (.int (0 : Int32))) :
    Con l Z n0 (⟨"com/example/loads_to_headways/loadstoheadways/replay/Times", "<init>", "()V"⟩ : MethodName) prog_31_method_1_code 1 none ws ({ frames := 1, cells := 1, slots := 16, locals := 24 } : Room) #[(.ref t)] h0 (fun v h => v = none ∧ ∃ aa, n0 ≤ aa ∧ h0.size ≤ aa ∧ Keep h0 h [t] ∧ Fld Z h t "com/example/loads_to_headways/loadstoheadways/replay/Times" "seconds" "[D" (.ref aa) ∧ Fld Z h t "com/example/loads_to_headways/loadstoheadways/replay/Times" "size" "I" (.int (0 : Int32)) ∧ AD Z h aa [(0 : UInt64), (0 : UInt64), (0 : UInt64), (0 : UInt64), (0 : UInt64), (0 : UInt64), (0 : UInt64), (0 : UInt64), (0 : UInt64), (0 : UInt64), (0 : UInt64), (0 : UInt64), (0 : UInt64), (0 : UInt64), (0 : UInt64), (0 : UInt64)]) := by
  refine con_start (plainFor_of_name (by first | (simp [plainName, overriddenIn]; done) | decide +kernel)) (fr0 := fun m => mkF m 0 #[.val (.ref t)] []) (fun m => by first | (simp [entryFrame, mkF, argsToLocals, Value.category]; done) | rfl) ?_
  intro p e s m below meth c T0 hx hZ hby hml hown hnm hret hlk X0
  replace hown : s.vm.findClass "com/example/loads_to_headways/loadstoheadways/replay/Times" = some m.cls := hown
  replace hml : c.maxLocals = 1 := hml
  refine g_aloadN X0 hx (pc' := 1) rfl (hb hby d1_0) rfl rfl ?_
  refine g_initO X0 hx hZ hown (hw _ (List.mem_of_getElem? (i := 7) rfl)) (hw _ (List.mem_of_getElem? (i := 8) rfl)) (hw _ (List.mem_of_getElem? (i := 9) rfl)) (by rw [hml]; rfl) (pc' := 4) rfl (hb hby d1_1) (by decide) (W := 0) (Nat.le_of_eq rfl) (by decide) (fun T182 X182 => ?_)
  show Go p e below s n0 _ _ _ (T182.setTop (mkF m 4 #[.val (.ref t)] []))
  refine g_aloadN X182 hx (pc' := 5) rfl (hb hby d1_4) rfl rfl ?_
  refine g_bipush X182 hx (pc' := 7) (z := (16 : Int32)) rfl (hb hby d1_5) rfl ?_
  refine g_newD X182 hx hZ (hw _ (List.mem_of_getElem? (i := 10) rfl)) (N := 16) (by decide) (cap := 16) (Nat.le_refl _) (by decide) (pc' := 9) rfl (hb hby d1_7) (by decide) (by decide) (fun T183 h183 a183 ha183 X183 E183 N183 => ?_)
  have ne183_t : t ≠ a183 := by rw [ha183]; exact Nat.ne_of_lt Et.lt
  have f184 := Et.ext E183
  have f185 := Fs.ext E183
  have f186 := Fz.ext E183
  have sz183 : h0.size ≤ a183 := by rw [ha183]; exact (Keep.refl h0 [t]).1
  have f187 := (Keep.refl h0 [t]).ext E183
  have G_a183 : n0 ≤ a183 := by rw [ha183]; exact hn0
  have Zs183 : n0 ≤ h183.size := Nat.le_trans hn0 E183.1
  have V183 : AD Z h183 a183 [(0 : UInt64), (0 : UInt64), (0 : UInt64), (0 : UInt64), (0 : UInt64), (0 : UInt64), (0 : UInt64), (0 : UInt64), (0 : UInt64), (0 : UInt64), (0 : UInt64), (0 : UInt64), (0 : UInt64), (0 : UInt64), (0 : UInt64), (0 : UInt64)] := N183
  refine g_putF X183 hx hZ hown (hw _ (List.mem_of_getElem? (i := 11) rfl)) Via.refl f185 f184 (Or.inl (hw _ (List.mem_of_getElem? (i := 12) rfl))) (hw _ (List.mem_of_getElem? (i := 2) rfl)) (ty := (.array .double)) (by decide) rfl rfl hgt (pc' := 12) rfl (hb hby d1_9) (fun T188 h188 X188 W188 => ?_)
  have f189 := f184.wr W188
  have f190 := f185.same W188
  have f191 := f186.other W188 (Or.inr (slot_ne (Or.inl (hw _ (List.mem_of_getElem? (i := 19) rfl))) (Or.inl (hw _ (List.mem_of_getElem? (i := 12) rfl))) (by decide) (t := .int) (t' := (.array .double)) (by decide) (by decide)))
  have f192 := (by have q := (Keep.of_wr W188).1; exact Nat.le_trans Zs183 q : n0 ≤ h188.size)
  have f193 := f187.wr W188 (Or.inl (List.mem_of_getElem? (i := 0) rfl))
  have f194 := V183.other W188 ne183_t.symm
  exact g_retV X188 hx hlk hret (hb hby d1_12) (by decide) (by decide) (⟨rfl, _, G_a183, sz183, f193, f190, f191, f194⟩)
set_option maxRecDepth 65536 in
set_option maxHeartbeats 40000000 in
theorem rm11_0 (l : Launch) (Z : State) (a0 : Array Value) (hw : ∀ d ∈ tables_1, d.before a0 Z = true) (ws : List Jvm.Cond) (n0 : Nat) (t aa : Addr) (x' : UInt64) (v0 : UInt64) (v1 : UInt64) (v2 : UInt64) (v3 : UInt64) (v4 : UInt64) (v5 : UInt64) (v6 : UInt64) (v7 : UInt64) (v8 : UInt64) (v9 : UInt64) (v10 : UInt64) (v11 : UInt64) (v12 : UInt64) (v13 : UInt64) (v14 : UInt64) (v15 : UInt64) (h0 : Heap) (hn0 : n0 ≤ h0.size) (Et : Exa Z h0 t "com/example/loads_to_headways/loadstoheadways/replay/Times") (hgt : n0 ≤ t) (Fs : Fld Z h0 t "com/example/loads_to_headways/loadstoheadways/replay/Times" "seconds" "[D" (.ref aa)) (Fz : Fld Z h0 t "com/example/loads_to_headways/loadstoheadways/replay/Times" "size" "I" (.int (0 : Int32))) (Aa : AD Z h0 aa [v0, v1, v2, v3, v4, v5, v6, v7, v8, v9, v10, v11, v12, v13, v14, v15]) (hga : n0 ≤ aa) (hne : aa ≠ t) :
    Con l Z n0 (⟨"com/example/loads_to_headways/loadstoheadways/replay/Times", "add", "(D)V"⟩ : MethodName) prog_31_method_2_code 3 none ws ({ frames := 0, cells := 0, slots := 0, locals := 0 } : Room) #[(.ref t), (.double x')] h0 (fun v h => v = none ∧ Keep h0 h [t, aa] ∧ Fld Z h t "com/example/loads_to_headways/loadstoheadways/replay/Times" "seconds" "[D" (.ref aa) ∧ Fld Z h t "com/example/loads_to_headways/loadstoheadways/replay/Times" "size" "I" (.int (1 : Int32)) ∧ AD Z h aa [x', v1, v2, v3, v4, v5, v6, v7, v8, v9, v10, v11, v12, v13, v14, v15]) := by
  refine con_start (plainFor_of_name (by first | (simp [plainName, overriddenIn]; done) | decide +kernel)) (fr0 := fun m => mkF m 0 #[.val (.ref t), .val (.double x'), .second] []) (fun m => by first | (simp [entryFrame, mkF, argsToLocals, Value.category]; done) | rfl) ?_
  intro p e s m below meth c T0 hx hZ hby hml hown hnm hret hlk X0
  replace hown : s.vm.findClass "com/example/loads_to_headways/loadstoheadways/replay/Times" = some m.cls := hown
  replace hml : c.maxLocals = 3 := hml
  refine g_aloadN X0 hx (pc' := 1) rfl (hb hby d11_0) rfl rfl ?_
  refine g_getF X0 hx hZ hown (hw _ (List.mem_of_getElem? (i := 18) rfl)) Via.refl Fz (pc' := 4) rfl (hb hby d11_1) (fun T195 X195 => ?_)
  refine g_aloadN X195 hx (pc' := 5) rfl (hb hby d11_4) rfl rfl ?_
  refine g_getF X195 hx hZ hown (hw _ (List.mem_of_getElem? (i := 11) rfl)) Via.refl Fs (pc' := 8) rfl (hb hby d11_5) (fun T196 X196 => ?_)
  refine g_alenD X196 hx hZ Aa (z := (16 : Int32)) rfl (pc' := 9) rfl (hb hby d11_8) ?_
  refine g_icmpY X196 hx (pcY := 29) (hb hby d11_9) (by decide) (by decide) (show ¬ (0 : Int32) = (16 : Int32) from by decide) ?_
  refine g_aloadN X196 hx (pc' := 30) rfl (hb hby d11_29) rfl rfl ?_
  refine g_getF X196 hx hZ hown (hw _ (List.mem_of_getElem? (i := 11) rfl)) Via.refl Fs (pc' := 33) rfl (hb hby d11_30) (fun T197 X197 => ?_)
  refine g_aloadN X197 hx (pc' := 34) rfl (hb hby d11_33) rfl rfl ?_
  refine g_dup X197 hx (pc' := 35) rfl (hb hby d11_34) rfl ?_
  refine g_getF X197 hx hZ hown (hw _ (List.mem_of_getElem? (i := 18) rfl)) Via.refl Fz (pc' := 38) rfl (hb hby d11_35) (fun T198 X198 => ?_)
  refine g_dup_x1 X198 hx (pc' := 39) rfl (hb hby d11_38) rfl rfl ?_
  refine g_iconst X198 hx (pc' := 40) (z := (1 : Int32)) rfl (hb hby d11_39) rfl ?_
  refine g_iadd X198 hx (pc' := 41) rfl (hb hby d11_40) ?_
  refine g_normI (z := (1 : Int32)) (by decide) ?_
  refine g_putF X198 hx hZ hown (hw _ (List.mem_of_getElem? (i := 18) rfl)) Via.refl Fz Et (Or.inl (hw _ (List.mem_of_getElem? (i := 19) rfl))) (hw _ (List.mem_of_getElem? (i := 2) rfl)) (ty := .int) (by decide) rfl rfl hgt (pc' := 44) rfl (hb hby d11_41) (fun T199 h199 X199 W199 => ?_)
  have f200 := Et.wr W199
  have f201 := Fs.other W199 (Or.inr (slot_ne (Or.inl (hw _ (List.mem_of_getElem? (i := 12) rfl))) (Or.inl (hw _ (List.mem_of_getElem? (i := 19) rfl))) (by decide) (t := (.array .double)) (t' := .int) (by decide) (by decide)))
  have f202 := Fz.same W199
  have f203 := (by have q := (Keep.of_wr W199).1; exact Nat.le_trans hn0 q : n0 ≤ h199.size)
  have f204 := Aa.other W199 hne
  have f205 := (Keep.refl h0 [t, aa]).wr W199 (Or.inl (List.mem_of_getElem? (i := 0) rfl))
  refine g_dloadN X199 hx (pc' := 45) rfl (hb hby d11_44) rfl ?_
  refine g_dastore X199 hx hZ f204 (i := 0) (by decide) (show (0 : Nat) < 16 by decide) hga (pc' := 46) rfl (hb hby d11_45) (fun T206 h206 X206 W206 N206 => ?_)
  have f207 := f200.wr W206
  have f208 := f201.other W206 (Or.inl hne.symm)
  have f209 := f202.other W206 (Or.inl hne.symm)
  have f210 := (by have q := (Keep.of_wr W206).1; exact Nat.le_trans f203 q : n0 ≤ h206.size)
  have f211 := f205.wr W206 (Or.inl (List.mem_of_getElem? (i := 1) rfl))
  have V206 : AD Z h206 aa [x', v1, v2, v3, v4, v5, v6, v7, v8, v9, v10, v11, v12, v13, v14, v15] := N206
  exact g_retV X206 hx hlk hret (hb hby d11_46) (by decide) (by decide) (⟨rfl, f211, f208, f209, V206⟩)
set_option maxRecDepth 65536 in
set_option maxHeartbeats 40000000 in
theorem rm11_1 (l : Launch) (Z : State) (a0 : Array Value) (hw : ∀ d ∈ tables_1, d.before a0 Z = true) (ws : List Jvm.Cond) (n0 : Nat) (t aa : Addr) (x' : UInt64) (v0 : UInt64) (v1 : UInt64) (v2 : UInt64) (v3 : UInt64) (v4 : UInt64) (v5 : UInt64) (v6 : UInt64) (v7 : UInt64) (v8 : UInt64) (v9 : UInt64) (v10 : UInt64) (v11 : UInt64) (v12 : UInt64) (v13 : UInt64) (v14 : UInt64) (v15 : UInt64) (h0 : Heap) (hn0 : n0 ≤ h0.size) (Et : Exa Z h0 t "com/example/loads_to_headways/loadstoheadways/replay/Times") (hgt : n0 ≤ t) (Fs : Fld Z h0 t "com/example/loads_to_headways/loadstoheadways/replay/Times" "seconds" "[D" (.ref aa)) (Fz : Fld Z h0 t "com/example/loads_to_headways/loadstoheadways/replay/Times" "size" "I" (.int (1 : Int32))) (Aa : AD Z h0 aa [v0, v1, v2, v3, v4, v5, v6, v7, v8, v9, v10, v11, v12, v13, v14, v15]) (hga : n0 ≤ aa) (hne : aa ≠ t) :
    Con l Z n0 (⟨"com/example/loads_to_headways/loadstoheadways/replay/Times", "add", "(D)V"⟩ : MethodName) prog_31_method_2_code 3 none ws ({ frames := 0, cells := 0, slots := 0, locals := 0 } : Room) #[(.ref t), (.double x')] h0 (fun v h => v = none ∧ Keep h0 h [t, aa] ∧ Fld Z h t "com/example/loads_to_headways/loadstoheadways/replay/Times" "seconds" "[D" (.ref aa) ∧ Fld Z h t "com/example/loads_to_headways/loadstoheadways/replay/Times" "size" "I" (.int (2 : Int32)) ∧ AD Z h aa [v0, x', v2, v3, v4, v5, v6, v7, v8, v9, v10, v11, v12, v13, v14, v15]) := by
  refine con_start (plainFor_of_name (by first | (simp [plainName, overriddenIn]; done) | decide +kernel)) (fr0 := fun m => mkF m 0 #[.val (.ref t), .val (.double x'), .second] []) (fun m => by first | (simp [entryFrame, mkF, argsToLocals, Value.category]; done) | rfl) ?_
  intro p e s m below meth c T0 hx hZ hby hml hown hnm hret hlk X0
  replace hown : s.vm.findClass "com/example/loads_to_headways/loadstoheadways/replay/Times" = some m.cls := hown
  replace hml : c.maxLocals = 3 := hml
  refine g_aloadN X0 hx (pc' := 1) rfl (hb hby d11_0) rfl rfl ?_
  refine g_getF X0 hx hZ hown (hw _ (List.mem_of_getElem? (i := 18) rfl)) Via.refl Fz (pc' := 4) rfl (hb hby d11_1) (fun T212 X212 => ?_)
  refine g_aloadN X212 hx (pc' := 5) rfl (hb hby d11_4) rfl rfl ?_
  refine g_getF X212 hx hZ hown (hw _ (List.mem_of_getElem? (i := 11) rfl)) Via.refl Fs (pc' := 8) rfl (hb hby d11_5) (fun T213 X213 => ?_)
  refine g_alenD X213 hx hZ Aa (z := (16 : Int32)) rfl (pc' := 9) rfl (hb hby d11_8) ?_
  refine g_icmpY X213 hx (pcY := 29) (hb hby d11_9) (by decide) (by decide) (show ¬ (1 : Int32) = (16 : Int32) from by decide) ?_
  refine g_aloadN X213 hx (pc' := 30) rfl (hb hby d11_29) rfl rfl ?_
  refine g_getF X213 hx hZ hown (hw _ (List.mem_of_getElem? (i := 11) rfl)) Via.refl Fs (pc' := 33) rfl (hb hby d11_30) (fun T214 X214 => ?_)
  refine g_aloadN X214 hx (pc' := 34) rfl (hb hby d11_33) rfl rfl ?_
  refine g_dup X214 hx (pc' := 35) rfl (hb hby d11_34) rfl ?_
  refine g_getF X214 hx hZ hown (hw _ (List.mem_of_getElem? (i := 18) rfl)) Via.refl Fz (pc' := 38) rfl (hb hby d11_35) (fun T215 X215 => ?_)
  refine g_dup_x1 X215 hx (pc' := 39) rfl (hb hby d11_38) rfl rfl ?_
  refine g_iconst X215 hx (pc' := 40) (z := (1 : Int32)) rfl (hb hby d11_39) rfl ?_
  refine g_iadd X215 hx (pc' := 41) rfl (hb hby d11_40) ?_
  refine g_normI (z := (2 : Int32)) (by decide) ?_
  refine g_putF X215 hx hZ hown (hw _ (List.mem_of_getElem? (i := 18) rfl)) Via.refl Fz Et (Or.inl (hw _ (List.mem_of_getElem? (i := 19) rfl))) (hw _ (List.mem_of_getElem? (i := 2) rfl)) (ty := .int) (by decide) rfl rfl hgt (pc' := 44) rfl (hb hby d11_41) (fun T216 h216 X216 W216 => ?_)
  have f217 := Et.wr W216
  have f218 := Fs.other W216 (Or.inr (slot_ne (Or.inl (hw _ (List.mem_of_getElem? (i := 12) rfl))) (Or.inl (hw _ (List.mem_of_getElem? (i := 19) rfl))) (by decide) (t := (.array .double)) (t' := .int) (by decide) (by decide)))
  have f219 := Fz.same W216
  have f220 := (by have q := (Keep.of_wr W216).1; exact Nat.le_trans hn0 q : n0 ≤ h216.size)
  have f221 := Aa.other W216 hne
  have f222 := (Keep.refl h0 [t, aa]).wr W216 (Or.inl (List.mem_of_getElem? (i := 0) rfl))
  refine g_dloadN X216 hx (pc' := 45) rfl (hb hby d11_44) rfl ?_
  refine g_dastore X216 hx hZ f221 (i := 1) (by decide) (show (1 : Nat) < 16 by decide) hga (pc' := 46) rfl (hb hby d11_45) (fun T223 h223 X223 W223 N223 => ?_)
  have f224 := f217.wr W223
  have f225 := f218.other W223 (Or.inl hne.symm)
  have f226 := f219.other W223 (Or.inl hne.symm)
  have f227 := (by have q := (Keep.of_wr W223).1; exact Nat.le_trans f220 q : n0 ≤ h223.size)
  have f228 := f222.wr W223 (Or.inl (List.mem_of_getElem? (i := 1) rfl))
  have V223 : AD Z h223 aa [v0, x', v2, v3, v4, v5, v6, v7, v8, v9, v10, v11, v12, v13, v14, v15] := N223
  exact g_retV X223 hx hlk hret (hb hby d11_46) (by decide) (by decide) (⟨rfl, f228, f225, f226, V223⟩)
set_option maxRecDepth 65536 in
set_option maxHeartbeats 40000000 in
theorem rm11_2 (l : Launch) (Z : State) (a0 : Array Value) (hw : ∀ d ∈ tables_1, d.before a0 Z = true) (ws : List Jvm.Cond) (n0 : Nat) (t aa : Addr) (x' : UInt64) (v0 : UInt64) (v1 : UInt64) (v2 : UInt64) (v3 : UInt64) (v4 : UInt64) (v5 : UInt64) (v6 : UInt64) (v7 : UInt64) (v8 : UInt64) (v9 : UInt64) (v10 : UInt64) (v11 : UInt64) (v12 : UInt64) (v13 : UInt64) (v14 : UInt64) (v15 : UInt64) (h0 : Heap) (hn0 : n0 ≤ h0.size) (Et : Exa Z h0 t "com/example/loads_to_headways/loadstoheadways/replay/Times") (hgt : n0 ≤ t) (Fs : Fld Z h0 t "com/example/loads_to_headways/loadstoheadways/replay/Times" "seconds" "[D" (.ref aa)) (Fz : Fld Z h0 t "com/example/loads_to_headways/loadstoheadways/replay/Times" "size" "I" (.int (2 : Int32))) (Aa : AD Z h0 aa [v0, v1, v2, v3, v4, v5, v6, v7, v8, v9, v10, v11, v12, v13, v14, v15]) (hga : n0 ≤ aa) (hne : aa ≠ t) :
    Con l Z n0 (⟨"com/example/loads_to_headways/loadstoheadways/replay/Times", "add", "(D)V"⟩ : MethodName) prog_31_method_2_code 3 none ws ({ frames := 0, cells := 0, slots := 0, locals := 0 } : Room) #[(.ref t), (.double x')] h0 (fun v h => v = none ∧ Keep h0 h [t, aa] ∧ Fld Z h t "com/example/loads_to_headways/loadstoheadways/replay/Times" "seconds" "[D" (.ref aa) ∧ Fld Z h t "com/example/loads_to_headways/loadstoheadways/replay/Times" "size" "I" (.int (3 : Int32)) ∧ AD Z h aa [v0, v1, x', v3, v4, v5, v6, v7, v8, v9, v10, v11, v12, v13, v14, v15]) := by
  refine con_start (plainFor_of_name (by first | (simp [plainName, overriddenIn]; done) | decide +kernel)) (fr0 := fun m => mkF m 0 #[.val (.ref t), .val (.double x'), .second] []) (fun m => by first | (simp [entryFrame, mkF, argsToLocals, Value.category]; done) | rfl) ?_
  intro p e s m below meth c T0 hx hZ hby hml hown hnm hret hlk X0
  replace hown : s.vm.findClass "com/example/loads_to_headways/loadstoheadways/replay/Times" = some m.cls := hown
  replace hml : c.maxLocals = 3 := hml
  refine g_aloadN X0 hx (pc' := 1) rfl (hb hby d11_0) rfl rfl ?_
  refine g_getF X0 hx hZ hown (hw _ (List.mem_of_getElem? (i := 18) rfl)) Via.refl Fz (pc' := 4) rfl (hb hby d11_1) (fun T229 X229 => ?_)
  refine g_aloadN X229 hx (pc' := 5) rfl (hb hby d11_4) rfl rfl ?_
  refine g_getF X229 hx hZ hown (hw _ (List.mem_of_getElem? (i := 11) rfl)) Via.refl Fs (pc' := 8) rfl (hb hby d11_5) (fun T230 X230 => ?_)
  refine g_alenD X230 hx hZ Aa (z := (16 : Int32)) rfl (pc' := 9) rfl (hb hby d11_8) ?_
  refine g_icmpY X230 hx (pcY := 29) (hb hby d11_9) (by decide) (by decide) (show ¬ (2 : Int32) = (16 : Int32) from by decide) ?_
  refine g_aloadN X230 hx (pc' := 30) rfl (hb hby d11_29) rfl rfl ?_
  refine g_getF X230 hx hZ hown (hw _ (List.mem_of_getElem? (i := 11) rfl)) Via.refl Fs (pc' := 33) rfl (hb hby d11_30) (fun T231 X231 => ?_)
  refine g_aloadN X231 hx (pc' := 34) rfl (hb hby d11_33) rfl rfl ?_
  refine g_dup X231 hx (pc' := 35) rfl (hb hby d11_34) rfl ?_
  refine g_getF X231 hx hZ hown (hw _ (List.mem_of_getElem? (i := 18) rfl)) Via.refl Fz (pc' := 38) rfl (hb hby d11_35) (fun T232 X232 => ?_)
  refine g_dup_x1 X232 hx (pc' := 39) rfl (hb hby d11_38) rfl rfl ?_
  refine g_iconst X232 hx (pc' := 40) (z := (1 : Int32)) rfl (hb hby d11_39) rfl ?_
  refine g_iadd X232 hx (pc' := 41) rfl (hb hby d11_40) ?_
  refine g_normI (z := (3 : Int32)) (by decide) ?_
  refine g_putF X232 hx hZ hown (hw _ (List.mem_of_getElem? (i := 18) rfl)) Via.refl Fz Et (Or.inl (hw _ (List.mem_of_getElem? (i := 19) rfl))) (hw _ (List.mem_of_getElem? (i := 2) rfl)) (ty := .int) (by decide) rfl rfl hgt (pc' := 44) rfl (hb hby d11_41) (fun T233 h233 X233 W233 => ?_)
  have f234 := Et.wr W233
  have f235 := Fs.other W233 (Or.inr (slot_ne (Or.inl (hw _ (List.mem_of_getElem? (i := 12) rfl))) (Or.inl (hw _ (List.mem_of_getElem? (i := 19) rfl))) (by decide) (t := (.array .double)) (t' := .int) (by decide) (by decide)))
  have f236 := Fz.same W233
  have f237 := (by have q := (Keep.of_wr W233).1; exact Nat.le_trans hn0 q : n0 ≤ h233.size)
  have f238 := Aa.other W233 hne
  have f239 := (Keep.refl h0 [t, aa]).wr W233 (Or.inl (List.mem_of_getElem? (i := 0) rfl))
  refine g_dloadN X233 hx (pc' := 45) rfl (hb hby d11_44) rfl ?_
  refine g_dastore X233 hx hZ f238 (i := 2) (by decide) (show (2 : Nat) < 16 by decide) hga (pc' := 46) rfl (hb hby d11_45) (fun T240 h240 X240 W240 N240 => ?_)
  have f241 := f234.wr W240
  have f242 := f235.other W240 (Or.inl hne.symm)
  have f243 := f236.other W240 (Or.inl hne.symm)
  have f244 := (by have q := (Keep.of_wr W240).1; exact Nat.le_trans f237 q : n0 ≤ h240.size)
  have f245 := f239.wr W240 (Or.inl (List.mem_of_getElem? (i := 1) rfl))
  have V240 : AD Z h240 aa [v0, v1, x', v3, v4, v5, v6, v7, v8, v9, v10, v11, v12, v13, v14, v15] := N240
  exact g_retV X240 hx hlk hret (hb hby d11_46) (by decide) (by decide) (⟨rfl, f245, f242, f243, V240⟩)
set_option maxRecDepth 65536 in
set_option maxHeartbeats 40000000 in
theorem rm11_3 (l : Launch) (Z : State) (a0 : Array Value) (hw : ∀ d ∈ tables_1, d.before a0 Z = true) (ws : List Jvm.Cond) (n0 : Nat) (t aa : Addr) (x' : UInt64) (v0 : UInt64) (v1 : UInt64) (v2 : UInt64) (v3 : UInt64) (v4 : UInt64) (v5 : UInt64) (v6 : UInt64) (v7 : UInt64) (v8 : UInt64) (v9 : UInt64) (v10 : UInt64) (v11 : UInt64) (v12 : UInt64) (v13 : UInt64) (v14 : UInt64) (v15 : UInt64) (h0 : Heap) (hn0 : n0 ≤ h0.size) (Et : Exa Z h0 t "com/example/loads_to_headways/loadstoheadways/replay/Times") (hgt : n0 ≤ t) (Fs : Fld Z h0 t "com/example/loads_to_headways/loadstoheadways/replay/Times" "seconds" "[D" (.ref aa)) (Fz : Fld Z h0 t "com/example/loads_to_headways/loadstoheadways/replay/Times" "size" "I" (.int (3 : Int32))) (Aa : AD Z h0 aa [v0, v1, v2, v3, v4, v5, v6, v7, v8, v9, v10, v11, v12, v13, v14, v15]) (hga : n0 ≤ aa) (hne : aa ≠ t) :
    Con l Z n0 (⟨"com/example/loads_to_headways/loadstoheadways/replay/Times", "add", "(D)V"⟩ : MethodName) prog_31_method_2_code 3 none ws ({ frames := 0, cells := 0, slots := 0, locals := 0 } : Room) #[(.ref t), (.double x')] h0 (fun v h => v = none ∧ Keep h0 h [t, aa] ∧ Fld Z h t "com/example/loads_to_headways/loadstoheadways/replay/Times" "seconds" "[D" (.ref aa) ∧ Fld Z h t "com/example/loads_to_headways/loadstoheadways/replay/Times" "size" "I" (.int (4 : Int32)) ∧ AD Z h aa [v0, v1, v2, x', v4, v5, v6, v7, v8, v9, v10, v11, v12, v13, v14, v15]) := by
  refine con_start (plainFor_of_name (by first | (simp [plainName, overriddenIn]; done) | decide +kernel)) (fr0 := fun m => mkF m 0 #[.val (.ref t), .val (.double x'), .second] []) (fun m => by first | (simp [entryFrame, mkF, argsToLocals, Value.category]; done) | rfl) ?_
  intro p e s m below meth c T0 hx hZ hby hml hown hnm hret hlk X0
  replace hown : s.vm.findClass "com/example/loads_to_headways/loadstoheadways/replay/Times" = some m.cls := hown
  replace hml : c.maxLocals = 3 := hml
  refine g_aloadN X0 hx (pc' := 1) rfl (hb hby d11_0) rfl rfl ?_
  refine g_getF X0 hx hZ hown (hw _ (List.mem_of_getElem? (i := 18) rfl)) Via.refl Fz (pc' := 4) rfl (hb hby d11_1) (fun T246 X246 => ?_)
  refine g_aloadN X246 hx (pc' := 5) rfl (hb hby d11_4) rfl rfl ?_
  refine g_getF X246 hx hZ hown (hw _ (List.mem_of_getElem? (i := 11) rfl)) Via.refl Fs (pc' := 8) rfl (hb hby d11_5) (fun T247 X247 => ?_)
  refine g_alenD X247 hx hZ Aa (z := (16 : Int32)) rfl (pc' := 9) rfl (hb hby d11_8) ?_
  refine g_icmpY X247 hx (pcY := 29) (hb hby d11_9) (by decide) (by decide) (show ¬ (3 : Int32) = (16 : Int32) from by decide) ?_
  refine g_aloadN X247 hx (pc' := 30) rfl (hb hby d11_29) rfl rfl ?_
  refine g_getF X247 hx hZ hown (hw _ (List.mem_of_getElem? (i := 11) rfl)) Via.refl Fs (pc' := 33) rfl (hb hby d11_30) (fun T248 X248 => ?_)
  refine g_aloadN X248 hx (pc' := 34) rfl (hb hby d11_33) rfl rfl ?_
  refine g_dup X248 hx (pc' := 35) rfl (hb hby d11_34) rfl ?_
  refine g_getF X248 hx hZ hown (hw _ (List.mem_of_getElem? (i := 18) rfl)) Via.refl Fz (pc' := 38) rfl (hb hby d11_35) (fun T249 X249 => ?_)
  refine g_dup_x1 X249 hx (pc' := 39) rfl (hb hby d11_38) rfl rfl ?_
  refine g_iconst X249 hx (pc' := 40) (z := (1 : Int32)) rfl (hb hby d11_39) rfl ?_
  refine g_iadd X249 hx (pc' := 41) rfl (hb hby d11_40) ?_
  refine g_normI (z := (4 : Int32)) (by decide) ?_
  refine g_putF X249 hx hZ hown (hw _ (List.mem_of_getElem? (i := 18) rfl)) Via.refl Fz Et (Or.inl (hw _ (List.mem_of_getElem? (i := 19) rfl))) (hw _ (List.mem_of_getElem? (i := 2) rfl)) (ty := .int) (by decide) rfl rfl hgt (pc' := 44) rfl (hb hby d11_41) (fun T250 h250 X250 W250 => ?_)
  have f251 := Et.wr W250
  have f252 := Fs.other W250 (Or.inr (slot_ne (Or.inl (hw _ (List.mem_of_getElem? (i := 12) rfl))) (Or.inl (hw _ (List.mem_of_getElem? (i := 19) rfl))) (by decide) (t := (.array .double)) (t' := .int) (by decide) (by decide)))
  have f253 := Fz.same W250
  have f254 := (by have q := (Keep.of_wr W250).1; exact Nat.le_trans hn0 q : n0 ≤ h250.size)
  have f255 := Aa.other W250 hne
  have f256 := (Keep.refl h0 [t, aa]).wr W250 (Or.inl (List.mem_of_getElem? (i := 0) rfl))
  refine g_dloadN X250 hx (pc' := 45) rfl (hb hby d11_44) rfl ?_
  refine g_dastore X250 hx hZ f255 (i := 3) (by decide) (show (3 : Nat) < 16 by decide) hga (pc' := 46) rfl (hb hby d11_45) (fun T257 h257 X257 W257 N257 => ?_)
  have f258 := f251.wr W257
  have f259 := f252.other W257 (Or.inl hne.symm)
  have f260 := f253.other W257 (Or.inl hne.symm)
  have f261 := (by have q := (Keep.of_wr W257).1; exact Nat.le_trans f254 q : n0 ≤ h257.size)
  have f262 := f256.wr W257 (Or.inl (List.mem_of_getElem? (i := 1) rfl))
  have V257 : AD Z h257 aa [v0, v1, v2, x', v4, v5, v6, v7, v8, v9, v10, v11, v12, v13, v14, v15] := N257
  exact g_retV X257 hx hlk hret (hb hby d11_46) (by decide) (by decide) (⟨rfl, f262, f259, f260, V257⟩)
set_option maxRecDepth 65536 in
set_option maxHeartbeats 40000000 in
theorem rm3_0 (l : Launch) (Z : State) (a0 : Array Value) (hw : ∀ d ∈ tables_1, d.before a0 Z = true) (ws : List Jvm.Cond) (n0 : Nat) (t aa : Addr) (h0 : Heap) (hn0 : n0 ≤ h0.size) (Et : Exa Z h0 t "com/example/loads_to_headways/loadstoheadways/replay/Times") (hgt : n0 ≤ t) (Fs : Fld Z h0 t "com/example/loads_to_headways/loadstoheadways/replay/Times" "seconds" "[D" (.ref aa)) (Fz : Fld Z h0 t "com/example/loads_to_headways/loadstoheadways/replay/Times" "size" "I" (.int (0 : Int32))) (Aa : AD Z h0 aa [(0 : UInt64), (0 : UInt64), (0 : UInt64), (0 : UInt64), (0 : UInt64), (0 : UInt64), (0 : UInt64), (0 : UInt64), (0 : UInt64), (0 : UInt64), (0 : UInt64), (0 : UInt64), (0 : UInt64), (0 : UInt64), (0 : UInt64), (0 : UInt64)]) :
    Con l Z n0 (⟨"com/example/loads_to_headways/loadstoheadways/replay/Times", "sort", "()V"⟩ : MethodName) prog_31_method_3_code 1 none ws ({ frames := 4, cells := 1, slots := 0, locals := 120 } : Room) #[(.ref t)] h0 (fun v h => v = none ∧ ∃ bb, n0 ≤ bb ∧ h0.size ≤ bb ∧ Keep h0 h [t] ∧ Fld Z h t "com/example/loads_to_headways/loadstoheadways/replay/Times" "seconds" "[D" (.ref bb) ∧ Fld Z h t "com/example/loads_to_headways/loadstoheadways/replay/Times" "size" "I" (.int (0 : Int32)) ∧ AD Z h bb [] ∧ ∀ q : Int32, (0 : Int) = (0 : Int)) := by
  refine con_start (plainFor_of_name (by first | (simp [plainName, overriddenIn]; done) | decide +kernel)) (fr0 := fun m => mkF m 0 #[.val (.ref t)] []) (fun m => by first | (simp [entryFrame, mkF, argsToLocals, Value.category]; done) | rfl) ?_
  intro p e s m below meth c T0 hx hZ hby hml hown hnm hret hlk X0
  replace hown : s.vm.findClass "com/example/loads_to_headways/loadstoheadways/replay/Times" = some m.cls := hown
  replace hml : c.maxLocals = 1 := hml
  refine g_aloadN X0 hx (pc' := 1) rfl (hb hby d3_0) rfl rfl ?_
  refine g_aloadN X0 hx (pc' := 2) rfl (hb hby d3_1) rfl rfl ?_
  refine g_getF X0 hx hZ hown (hw _ (List.mem_of_getElem? (i := 11) rfl)) Via.refl Fs (pc' := 5) rfl (hb hby d3_2) (fun T263 X263 => ?_)
  refine g_aloadN X263 hx (pc' := 6) rfl (hb hby d3_5) rfl rfl ?_
  refine g_getF X263 hx hZ hown (hw _ (List.mem_of_getElem? (i := 18) rfl)) Via.refl Fz (pc' := 9) rfl (hb hby d3_6) (fun T264 X264 => ?_)
  refine g_callS X264 hx hZ hown (hw _ (List.mem_of_getElem? (i := 20) rfl)) (hw _ (List.mem_of_getElem? (i := 21) rfl)) (hw _ (List.mem_of_getElem? (i := 22) rfl)) (hw _ (List.mem_of_getElem? (i := 23) rfl)) (by decide) (rm4_0 l Z a0 hw [] n0 aa (0 : UInt64) (0 : UInt64) (0 : UInt64) (0 : UInt64) (0 : UInt64) (0 : UInt64) (0 : UInt64) (0 : UInt64) (0 : UInt64) (0 : UInt64) (0 : UInt64) (0 : UInt64) (0 : UInt64) (0 : UInt64) (0 : UInt64) (0 : UInt64) h0 hn0 Aa) pd_4 rfl rfl (by rw [hml]; rfl) (pc' := 12) rfl (hb hby d3_9) (argsL := [(.ref aa), (.int (0 : Int32))]) (rest := [(.ref t)]) rfl (W := 1) (Nat.le_of_eq rfl) (by decide) (by decide) (by decide) (by decide) (fun v265 T265 h265 X265 hQ265 => ?_)
  obtain ⟨bb, rfl, G265, S265, K265, V265⟩ := hQ265
  have hnb : bb ≠ t := (Nat.ne_of_lt (Nat.lt_of_lt_of_le Et.lt S265)).symm
  have f266 := Fs.keep K265 nin0
  have f267 := Fz.keep K265 nin0
  have f268 := Et.keep K265
  have zs265 : n0 ≤ h265.size := Nat.le_trans hn0 K265.1
  have Kb : Keep h0 h265 [t] := (Keep.refl h0 [t]).trans K265 all0
  have Sb : h0.size ≤ bb := S265
  show Go p e below s n0 _ _ _ (T265.setTop (mkF m 12 #[.val (.ref t)] [(.ref bb), (.ref t)]))
  refine g_putF X265 hx hZ hown (hw _ (List.mem_of_getElem? (i := 11) rfl)) Via.refl f266 f268 (Or.inl (hw _ (List.mem_of_getElem? (i := 12) rfl))) (hw _ (List.mem_of_getElem? (i := 2) rfl)) (ty := (.array .double)) (by decide) rfl rfl hgt (pc' := 15) rfl (hb hby d3_12) (fun T269 h269 X269 W269 => ?_)
  have f270 := f268.wr W269
  have f271 := f266.same W269
  have f272 := f267.other W269 (Or.inr (slot_ne (Or.inl (hw _ (List.mem_of_getElem? (i := 19) rfl))) (Or.inl (hw _ (List.mem_of_getElem? (i := 12) rfl))) (by decide) (t := .int) (t' := (.array .double)) (by decide) (by decide)))
  have f273 := (by have q := (Keep.of_wr W269).1; exact Nat.le_trans zs265 q : n0 ≤ h269.size)
  have f274 := Kb.wr W269 (Or.inl (List.mem_of_getElem? (i := 0) rfl))
  have f275 := V265.other W269 hnb
  refine g_aloadN X269 hx (pc' := 16) rfl (hb hby d3_15) rfl rfl ?_
  refine g_getF X269 hx hZ hown (hw _ (List.mem_of_getElem? (i := 11) rfl)) Via.refl f271 (pc' := 19) rfl (hb hby d3_16) (fun T276 X276 => ?_)
  refine g_callS X276 hx hZ hown (hw _ (List.mem_of_getElem? (i := 32) rfl)) (hw _ (List.mem_of_getElem? (i := 33) rfl)) (hw _ (List.mem_of_getElem? (i := 22) rfl)) (hw _ (List.mem_of_getElem? (i := 34) rfl)) (by decide) (rm6_0 l Z a0 hw [] n0 bb  h269 f273 f275 G265) pd_5 rfl rfl (by rw [hml]; rfl) (pc' := 22) rfl (hb hby d3_19) (argsL := [(.ref bb)]) (rest := []) rfl (W := 0) (Nat.le_of_eq rfl) (by decide) (by decide) (by decide) (by decide) (fun v277 T277 h277 X277 hQ277 => ?_)
  obtain ⟨rfl, KS, SS⟩ := hQ277
  have f278 := f271.keep KS (ninS hnb.symm nin0)
  have f279 := f272.keep KS (ninS hnb.symm nin0)
  have f280 := f274.trans KS (allS (Or.inr Sb) all0)
  show Go p e below s n0 _ _ _ (T277.setTop (mkF m 22 #[.val (.ref t)] []))
  exact g_retV X277 hx hlk hret (hb hby d3_22) (by decide) (by decide) (⟨rfl, bb, G265, Sb, f280, f278, f279, SS⟩)
set_option maxRecDepth 65536 in
set_option maxHeartbeats 40000000 in
theorem rm3_1 (l : Launch) (Z : State) (a0 : Array Value) (hw : ∀ d ∈ tables_1, d.before a0 Z = true) (ws : List Jvm.Cond) (n0 : Nat) (t aa : Addr) (x0 : Int32) (h0 : Heap) (hn0 : n0 ≤ h0.size) (Et : Exa Z h0 t "com/example/loads_to_headways/loadstoheadways/replay/Times") (hgt : n0 ≤ t) (Fs : Fld Z h0 t "com/example/loads_to_headways/loadstoheadways/replay/Times" "seconds" "[D" (.ref aa)) (Fz : Fld Z h0 t "com/example/loads_to_headways/loadstoheadways/replay/Times" "size" "I" (.int (1 : Int32))) (Aa : AD Z h0 aa [(FP.i2d x0), (0 : UInt64), (0 : UInt64), (0 : UInt64), (0 : UInt64), (0 : UInt64), (0 : UInt64), (0 : UInt64), (0 : UInt64), (0 : UInt64), (0 : UInt64), (0 : UInt64), (0 : UInt64), (0 : UInt64), (0 : UInt64), (0 : UInt64)]) :
    Con l Z n0 (⟨"com/example/loads_to_headways/loadstoheadways/replay/Times", "sort", "()V"⟩ : MethodName) prog_31_method_3_code 1 none ws ({ frames := 4, cells := 1, slots := 1, locals := 120 } : Room) #[(.ref t)] h0 (fun v h => v = none ∧ ∃ bb, n0 ≤ bb ∧ h0.size ≤ bb ∧ Keep h0 h [t] ∧ Fld Z h t "com/example/loads_to_headways/loadstoheadways/replay/Times" "seconds" "[D" (.ref bb) ∧ Fld Z h t "com/example/loads_to_headways/loadstoheadways/replay/Times" "size" "I" (.int (1 : Int32)) ∧ ∃ y0 : Int32, AD Z h bb [(FP.i2d y0)] ∧ ∀ q : Int32, Cq q y0 = Cq q x0) := by
  refine con_start (plainFor_of_name (by first | (simp [plainName, overriddenIn]; done) | decide +kernel)) (fr0 := fun m => mkF m 0 #[.val (.ref t)] []) (fun m => by first | (simp [entryFrame, mkF, argsToLocals, Value.category]; done) | rfl) ?_
  intro p e s m below meth c T0 hx hZ hby hml hown hnm hret hlk X0
  replace hown : s.vm.findClass "com/example/loads_to_headways/loadstoheadways/replay/Times" = some m.cls := hown
  replace hml : c.maxLocals = 1 := hml
  refine g_aloadN X0 hx (pc' := 1) rfl (hb hby d3_0) rfl rfl ?_
  refine g_aloadN X0 hx (pc' := 2) rfl (hb hby d3_1) rfl rfl ?_
  refine g_getF X0 hx hZ hown (hw _ (List.mem_of_getElem? (i := 11) rfl)) Via.refl Fs (pc' := 5) rfl (hb hby d3_2) (fun T281 X281 => ?_)
  refine g_aloadN X281 hx (pc' := 6) rfl (hb hby d3_5) rfl rfl ?_
  refine g_getF X281 hx hZ hown (hw _ (List.mem_of_getElem? (i := 18) rfl)) Via.refl Fz (pc' := 9) rfl (hb hby d3_6) (fun T282 X282 => ?_)
  refine g_callS X282 hx hZ hown (hw _ (List.mem_of_getElem? (i := 20) rfl)) (hw _ (List.mem_of_getElem? (i := 21) rfl)) (hw _ (List.mem_of_getElem? (i := 22) rfl)) (hw _ (List.mem_of_getElem? (i := 23) rfl)) (by decide) (rm4_1 l Z a0 hw [] n0 aa (FP.i2d x0) (0 : UInt64) (0 : UInt64) (0 : UInt64) (0 : UInt64) (0 : UInt64) (0 : UInt64) (0 : UInt64) (0 : UInt64) (0 : UInt64) (0 : UInt64) (0 : UInt64) (0 : UInt64) (0 : UInt64) (0 : UInt64) (0 : UInt64) h0 hn0 Aa) pd_4 rfl rfl (by rw [hml]; rfl) (pc' := 12) rfl (hb hby d3_9) (argsL := [(.ref aa), (.int (1 : Int32))]) (rest := [(.ref t)]) rfl (W := 1) (Nat.le_of_eq rfl) (by decide) (by decide) (by decide) (by decide) (fun v283 T283 h283 X283 hQ283 => ?_)
  obtain ⟨bb, rfl, G283, S283, K283, V283⟩ := hQ283
  have hnb : bb ≠ t := (Nat.ne_of_lt (Nat.lt_of_lt_of_le Et.lt S283)).symm
  have f284 := Fs.keep K283 nin0
  have f285 := Fz.keep K283 nin0
  have f286 := Et.keep K283
  have zs283 : n0 ≤ h283.size := Nat.le_trans hn0 K283.1
  have Kb : Keep h0 h283 [t] := (Keep.refl h0 [t]).trans K283 all0
  have Sb : h0.size ≤ bb := S283
  show Go p e below s n0 _ _ _ (T283.setTop (mkF m 12 #[.val (.ref t)] [(.ref bb), (.ref t)]))
  refine g_putF X283 hx hZ hown (hw _ (List.mem_of_getElem? (i := 11) rfl)) Via.refl f284 f286 (Or.inl (hw _ (List.mem_of_getElem? (i := 12) rfl))) (hw _ (List.mem_of_getElem? (i := 2) rfl)) (ty := (.array .double)) (by decide) rfl rfl hgt (pc' := 15) rfl (hb hby d3_12) (fun T287 h287 X287 W287 => ?_)
  have f288 := f286.wr W287
  have f289 := f284.same W287
  have f290 := f285.other W287 (Or.inr (slot_ne (Or.inl (hw _ (List.mem_of_getElem? (i := 19) rfl))) (Or.inl (hw _ (List.mem_of_getElem? (i := 12) rfl))) (by decide) (t := .int) (t' := (.array .double)) (by decide) (by decide)))
  have f291 := (by have q := (Keep.of_wr W287).1; exact Nat.le_trans zs283 q : n0 ≤ h287.size)
  have f292 := Kb.wr W287 (Or.inl (List.mem_of_getElem? (i := 0) rfl))
  have f293 := V283.other W287 hnb
  refine g_aloadN X287 hx (pc' := 16) rfl (hb hby d3_15) rfl rfl ?_
  refine g_getF X287 hx hZ hown (hw _ (List.mem_of_getElem? (i := 11) rfl)) Via.refl f289 (pc' := 19) rfl (hb hby d3_16) (fun T294 X294 => ?_)
  refine g_callS X294 hx hZ hown (hw _ (List.mem_of_getElem? (i := 32) rfl)) (hw _ (List.mem_of_getElem? (i := 33) rfl)) (hw _ (List.mem_of_getElem? (i := 22) rfl)) (hw _ (List.mem_of_getElem? (i := 34) rfl)) (by decide) (rm6_1 l Z a0 hw [] n0 bb x0 h287 f291 f293 G283) pd_5 rfl rfl (by rw [hml]; rfl) (pc' := 22) rfl (hb hby d3_19) (argsL := [(.ref bb)]) (rest := []) rfl (W := 0) (Nat.le_of_eq rfl) (by decide) (by decide) (by decide) (by decide) (fun v295 T295 h295 X295 hQ295 => ?_)
  obtain ⟨rfl, KS, SS⟩ := hQ295
  have f296 := f289.keep KS (ninS hnb.symm nin0)
  have f297 := f290.keep KS (ninS hnb.symm nin0)
  have f298 := f292.trans KS (allS (Or.inr Sb) all0)
  show Go p e below s n0 _ _ _ (T295.setTop (mkF m 22 #[.val (.ref t)] []))
  exact g_retV X295 hx hlk hret (hb hby d3_22) (by decide) (by decide) (⟨rfl, bb, G283, Sb, f298, f296, f297, SS⟩)
set_option maxRecDepth 65536 in
set_option maxHeartbeats 40000000 in
theorem rm3_2 (l : Launch) (Z : State) (a0 : Array Value) (hw : ∀ d ∈ tables_1, d.before a0 Z = true) (ws : List Jvm.Cond) (n0 : Nat) (t aa : Addr) (x0 : Int32) (x1 : Int32) (h0 : Heap) (hn0 : n0 ≤ h0.size) (Et : Exa Z h0 t "com/example/loads_to_headways/loadstoheadways/replay/Times") (hgt : n0 ≤ t) (Fs : Fld Z h0 t "com/example/loads_to_headways/loadstoheadways/replay/Times" "seconds" "[D" (.ref aa)) (Fz : Fld Z h0 t "com/example/loads_to_headways/loadstoheadways/replay/Times" "size" "I" (.int (2 : Int32))) (Aa : AD Z h0 aa [(FP.i2d x0), (FP.i2d x1), (0 : UInt64), (0 : UInt64), (0 : UInt64), (0 : UInt64), (0 : UInt64), (0 : UInt64), (0 : UInt64), (0 : UInt64), (0 : UInt64), (0 : UInt64), (0 : UInt64), (0 : UInt64), (0 : UInt64), (0 : UInt64)]) :
    Con l Z n0 (⟨"com/example/loads_to_headways/loadstoheadways/replay/Times", "sort", "()V"⟩ : MethodName) prog_31_method_3_code 1 none ws ({ frames := 4, cells := 1, slots := 2, locals := 120 } : Room) #[(.ref t)] h0 (fun v h => v = none ∧ ∃ bb, n0 ≤ bb ∧ h0.size ≤ bb ∧ Keep h0 h [t] ∧ Fld Z h t "com/example/loads_to_headways/loadstoheadways/replay/Times" "seconds" "[D" (.ref bb) ∧ Fld Z h t "com/example/loads_to_headways/loadstoheadways/replay/Times" "size" "I" (.int (2 : Int32)) ∧ ∃ y0 : Int32, ∃ y1 : Int32, AD Z h bb [(FP.i2d y0), (FP.i2d y1)] ∧ y0.toInt ≤ y1.toInt ∧ ∀ q : Int32, Cq q y0 + Cq q y1 = Cq q x0 + Cq q x1) := by
  refine con_start (plainFor_of_name (by first | (simp [plainName, overriddenIn]; done) | decide +kernel)) (fr0 := fun m => mkF m 0 #[.val (.ref t)] []) (fun m => by first | (simp [entryFrame, mkF, argsToLocals, Value.category]; done) | rfl) ?_
  intro p e s m below meth c T0 hx hZ hby hml hown hnm hret hlk X0
  replace hown : s.vm.findClass "com/example/loads_to_headways/loadstoheadways/replay/Times" = some m.cls := hown
  replace hml : c.maxLocals = 1 := hml
  refine g_aloadN X0 hx (pc' := 1) rfl (hb hby d3_0) rfl rfl ?_
  refine g_aloadN X0 hx (pc' := 2) rfl (hb hby d3_1) rfl rfl ?_
  refine g_getF X0 hx hZ hown (hw _ (List.mem_of_getElem? (i := 11) rfl)) Via.refl Fs (pc' := 5) rfl (hb hby d3_2) (fun T299 X299 => ?_)
  refine g_aloadN X299 hx (pc' := 6) rfl (hb hby d3_5) rfl rfl ?_
  refine g_getF X299 hx hZ hown (hw _ (List.mem_of_getElem? (i := 18) rfl)) Via.refl Fz (pc' := 9) rfl (hb hby d3_6) (fun T300 X300 => ?_)
  refine g_callS X300 hx hZ hown (hw _ (List.mem_of_getElem? (i := 20) rfl)) (hw _ (List.mem_of_getElem? (i := 21) rfl)) (hw _ (List.mem_of_getElem? (i := 22) rfl)) (hw _ (List.mem_of_getElem? (i := 23) rfl)) (by decide) (rm4_2 l Z a0 hw [] n0 aa (FP.i2d x0) (FP.i2d x1) (0 : UInt64) (0 : UInt64) (0 : UInt64) (0 : UInt64) (0 : UInt64) (0 : UInt64) (0 : UInt64) (0 : UInt64) (0 : UInt64) (0 : UInt64) (0 : UInt64) (0 : UInt64) (0 : UInt64) (0 : UInt64) h0 hn0 Aa) pd_4 rfl rfl (by rw [hml]; rfl) (pc' := 12) rfl (hb hby d3_9) (argsL := [(.ref aa), (.int (2 : Int32))]) (rest := [(.ref t)]) rfl (W := 1) (Nat.le_of_eq rfl) (by decide) (by decide) (by decide) (by decide) (fun v301 T301 h301 X301 hQ301 => ?_)
  obtain ⟨bb, rfl, G301, S301, K301, V301⟩ := hQ301
  have hnb : bb ≠ t := (Nat.ne_of_lt (Nat.lt_of_lt_of_le Et.lt S301)).symm
  have f302 := Fs.keep K301 nin0
  have f303 := Fz.keep K301 nin0
  have f304 := Et.keep K301
  have zs301 : n0 ≤ h301.size := Nat.le_trans hn0 K301.1
  have Kb : Keep h0 h301 [t] := (Keep.refl h0 [t]).trans K301 all0
  have Sb : h0.size ≤ bb := S301
  show Go p e below s n0 _ _ _ (T301.setTop (mkF m 12 #[.val (.ref t)] [(.ref bb), (.ref t)]))
  refine g_putF X301 hx hZ hown (hw _ (List.mem_of_getElem? (i := 11) rfl)) Via.refl f302 f304 (Or.inl (hw _ (List.mem_of_getElem? (i := 12) rfl))) (hw _ (List.mem_of_getElem? (i := 2) rfl)) (ty := (.array .double)) (by decide) rfl rfl hgt (pc' := 15) rfl (hb hby d3_12) (fun T305 h305 X305 W305 => ?_)
  have f306 := f304.wr W305
  have f307 := f302.same W305
  have f308 := f303.other W305 (Or.inr (slot_ne (Or.inl (hw _ (List.mem_of_getElem? (i := 19) rfl))) (Or.inl (hw _ (List.mem_of_getElem? (i := 12) rfl))) (by decide) (t := .int) (t' := (.array .double)) (by decide) (by decide)))
  have f309 := (by have q := (Keep.of_wr W305).1; exact Nat.le_trans zs301 q : n0 ≤ h305.size)
  have f310 := Kb.wr W305 (Or.inl (List.mem_of_getElem? (i := 0) rfl))
  have f311 := V301.other W305 hnb
  refine g_aloadN X305 hx (pc' := 16) rfl (hb hby d3_15) rfl rfl ?_
  refine g_getF X305 hx hZ hown (hw _ (List.mem_of_getElem? (i := 11) rfl)) Via.refl f307 (pc' := 19) rfl (hb hby d3_16) (fun T312 X312 => ?_)
  refine g_callS X312 hx hZ hown (hw _ (List.mem_of_getElem? (i := 32) rfl)) (hw _ (List.mem_of_getElem? (i := 33) rfl)) (hw _ (List.mem_of_getElem? (i := 22) rfl)) (hw _ (List.mem_of_getElem? (i := 34) rfl)) (by decide) (rm6_2 l Z a0 hw [] n0 bb x0 x1 h305 f309 f311 G301) pd_5 rfl rfl (by rw [hml]; rfl) (pc' := 22) rfl (hb hby d3_19) (argsL := [(.ref bb)]) (rest := []) rfl (W := 0) (Nat.le_of_eq rfl) (by decide) (by decide) (by decide) (by decide) (fun v313 T313 h313 X313 hQ313 => ?_)
  obtain ⟨rfl, KS, SS⟩ := hQ313
  have f314 := f307.keep KS (ninS hnb.symm nin0)
  have f315 := f308.keep KS (ninS hnb.symm nin0)
  have f316 := f310.trans KS (allS (Or.inr Sb) all0)
  show Go p e below s n0 _ _ _ (T313.setTop (mkF m 22 #[.val (.ref t)] []))
  exact g_retV X313 hx hlk hret (hb hby d3_22) (by decide) (by decide) (⟨rfl, bb, G301, Sb, f316, f314, f315, SS⟩)
set_option maxRecDepth 65536 in
set_option maxHeartbeats 40000000 in
theorem rm3_3 (l : Launch) (Z : State) (a0 : Array Value) (hw : ∀ d ∈ tables_1, d.before a0 Z = true) (ws : List Jvm.Cond) (n0 : Nat) (t aa : Addr) (x0 : Int32) (x1 : Int32) (x2 : Int32) (h0 : Heap) (hn0 : n0 ≤ h0.size) (Et : Exa Z h0 t "com/example/loads_to_headways/loadstoheadways/replay/Times") (hgt : n0 ≤ t) (Fs : Fld Z h0 t "com/example/loads_to_headways/loadstoheadways/replay/Times" "seconds" "[D" (.ref aa)) (Fz : Fld Z h0 t "com/example/loads_to_headways/loadstoheadways/replay/Times" "size" "I" (.int (3 : Int32))) (Aa : AD Z h0 aa [(FP.i2d x0), (FP.i2d x1), (FP.i2d x2), (0 : UInt64), (0 : UInt64), (0 : UInt64), (0 : UInt64), (0 : UInt64), (0 : UInt64), (0 : UInt64), (0 : UInt64), (0 : UInt64), (0 : UInt64), (0 : UInt64), (0 : UInt64), (0 : UInt64)]) :
    Con l Z n0 (⟨"com/example/loads_to_headways/loadstoheadways/replay/Times", "sort", "()V"⟩ : MethodName) prog_31_method_3_code 1 none ws ({ frames := 4, cells := 1, slots := 3, locals := 120 } : Room) #[(.ref t)] h0 (fun v h => v = none ∧ ∃ bb, n0 ≤ bb ∧ h0.size ≤ bb ∧ Keep h0 h [t] ∧ Fld Z h t "com/example/loads_to_headways/loadstoheadways/replay/Times" "seconds" "[D" (.ref bb) ∧ Fld Z h t "com/example/loads_to_headways/loadstoheadways/replay/Times" "size" "I" (.int (3 : Int32)) ∧ ∃ y0 : Int32, ∃ y1 : Int32, ∃ y2 : Int32, AD Z h bb [(FP.i2d y0), (FP.i2d y1), (FP.i2d y2)] ∧ y0.toInt ≤ y1.toInt ∧ y1.toInt ≤ y2.toInt ∧ ∀ q : Int32, Cq q y0 + Cq q y1 + Cq q y2 = Cq q x0 + Cq q x1 + Cq q x2) := by
  refine con_start (plainFor_of_name (by first | (simp [plainName, overriddenIn]; done) | decide +kernel)) (fr0 := fun m => mkF m 0 #[.val (.ref t)] []) (fun m => by first | (simp [entryFrame, mkF, argsToLocals, Value.category]; done) | rfl) ?_
  intro p e s m below meth c T0 hx hZ hby hml hown hnm hret hlk X0
  replace hown : s.vm.findClass "com/example/loads_to_headways/loadstoheadways/replay/Times" = some m.cls := hown
  replace hml : c.maxLocals = 1 := hml
  refine g_aloadN X0 hx (pc' := 1) rfl (hb hby d3_0) rfl rfl ?_
  refine g_aloadN X0 hx (pc' := 2) rfl (hb hby d3_1) rfl rfl ?_
  refine g_getF X0 hx hZ hown (hw _ (List.mem_of_getElem? (i := 11) rfl)) Via.refl Fs (pc' := 5) rfl (hb hby d3_2) (fun T317 X317 => ?_)
  refine g_aloadN X317 hx (pc' := 6) rfl (hb hby d3_5) rfl rfl ?_
  refine g_getF X317 hx hZ hown (hw _ (List.mem_of_getElem? (i := 18) rfl)) Via.refl Fz (pc' := 9) rfl (hb hby d3_6) (fun T318 X318 => ?_)
  refine g_callS X318 hx hZ hown (hw _ (List.mem_of_getElem? (i := 20) rfl)) (hw _ (List.mem_of_getElem? (i := 21) rfl)) (hw _ (List.mem_of_getElem? (i := 22) rfl)) (hw _ (List.mem_of_getElem? (i := 23) rfl)) (by decide) (rm4_3 l Z a0 hw [] n0 aa (FP.i2d x0) (FP.i2d x1) (FP.i2d x2) (0 : UInt64) (0 : UInt64) (0 : UInt64) (0 : UInt64) (0 : UInt64) (0 : UInt64) (0 : UInt64) (0 : UInt64) (0 : UInt64) (0 : UInt64) (0 : UInt64) (0 : UInt64) (0 : UInt64) h0 hn0 Aa) pd_4 rfl rfl (by rw [hml]; rfl) (pc' := 12) rfl (hb hby d3_9) (argsL := [(.ref aa), (.int (3 : Int32))]) (rest := [(.ref t)]) rfl (W := 1) (Nat.le_of_eq rfl) (by decide) (by decide) (by decide) (by decide) (fun v319 T319 h319 X319 hQ319 => ?_)
  obtain ⟨bb, rfl, G319, S319, K319, V319⟩ := hQ319
  have hnb : bb ≠ t := (Nat.ne_of_lt (Nat.lt_of_lt_of_le Et.lt S319)).symm
  have f320 := Fs.keep K319 nin0
  have f321 := Fz.keep K319 nin0
  have f322 := Et.keep K319
  have zs319 : n0 ≤ h319.size := Nat.le_trans hn0 K319.1
  have Kb : Keep h0 h319 [t] := (Keep.refl h0 [t]).trans K319 all0
  have Sb : h0.size ≤ bb := S319
  show Go p e below s n0 _ _ _ (T319.setTop (mkF m 12 #[.val (.ref t)] [(.ref bb), (.ref t)]))
  refine g_putF X319 hx hZ hown (hw _ (List.mem_of_getElem? (i := 11) rfl)) Via.refl f320 f322 (Or.inl (hw _ (List.mem_of_getElem? (i := 12) rfl))) (hw _ (List.mem_of_getElem? (i := 2) rfl)) (ty := (.array .double)) (by decide) rfl rfl hgt (pc' := 15) rfl (hb hby d3_12) (fun T323 h323 X323 W323 => ?_)
  have f324 := f322.wr W323
  have f325 := f320.same W323
  have f326 := f321.other W323 (Or.inr (slot_ne (Or.inl (hw _ (List.mem_of_getElem? (i := 19) rfl))) (Or.inl (hw _ (List.mem_of_getElem? (i := 12) rfl))) (by decide) (t := .int) (t' := (.array .double)) (by decide) (by decide)))
  have f327 := (by have q := (Keep.of_wr W323).1; exact Nat.le_trans zs319 q : n0 ≤ h323.size)
  have f328 := Kb.wr W323 (Or.inl (List.mem_of_getElem? (i := 0) rfl))
  have f329 := V319.other W323 hnb
  refine g_aloadN X323 hx (pc' := 16) rfl (hb hby d3_15) rfl rfl ?_
  refine g_getF X323 hx hZ hown (hw _ (List.mem_of_getElem? (i := 11) rfl)) Via.refl f325 (pc' := 19) rfl (hb hby d3_16) (fun T330 X330 => ?_)
  refine g_callS X330 hx hZ hown (hw _ (List.mem_of_getElem? (i := 32) rfl)) (hw _ (List.mem_of_getElem? (i := 33) rfl)) (hw _ (List.mem_of_getElem? (i := 22) rfl)) (hw _ (List.mem_of_getElem? (i := 34) rfl)) (by decide) (rm6_3 l Z a0 hw [] n0 bb x0 x1 x2 h323 f327 f329 G319) pd_5 rfl rfl (by rw [hml]; rfl) (pc' := 22) rfl (hb hby d3_19) (argsL := [(.ref bb)]) (rest := []) rfl (W := 0) (Nat.le_of_eq rfl) (by decide) (by decide) (by decide) (by decide) (fun v331 T331 h331 X331 hQ331 => ?_)
  obtain ⟨rfl, KS, SS⟩ := hQ331
  have f332 := f325.keep KS (ninS hnb.symm nin0)
  have f333 := f326.keep KS (ninS hnb.symm nin0)
  have f334 := f328.trans KS (allS (Or.inr Sb) all0)
  show Go p e below s n0 _ _ _ (T331.setTop (mkF m 22 #[.val (.ref t)] []))
  exact g_retV X331 hx hlk hret (hb hby d3_22) (by decide) (by decide) (⟨rfl, bb, G319, Sb, f334, f332, f333, SS⟩)
set_option maxRecDepth 65536 in
set_option maxHeartbeats 40000000 in
theorem rm3_4 (l : Launch) (Z : State) (a0 : Array Value) (hw : ∀ d ∈ tables_1, d.before a0 Z = true) (ws : List Jvm.Cond) (n0 : Nat) (t aa : Addr) (x0 : Int32) (x1 : Int32) (x2 : Int32) (x3 : Int32) (h0 : Heap) (hn0 : n0 ≤ h0.size) (Et : Exa Z h0 t "com/example/loads_to_headways/loadstoheadways/replay/Times") (hgt : n0 ≤ t) (Fs : Fld Z h0 t "com/example/loads_to_headways/loadstoheadways/replay/Times" "seconds" "[D" (.ref aa)) (Fz : Fld Z h0 t "com/example/loads_to_headways/loadstoheadways/replay/Times" "size" "I" (.int (4 : Int32))) (Aa : AD Z h0 aa [(FP.i2d x0), (FP.i2d x1), (FP.i2d x2), (FP.i2d x3), (0 : UInt64), (0 : UInt64), (0 : UInt64), (0 : UInt64), (0 : UInt64), (0 : UInt64), (0 : UInt64), (0 : UInt64), (0 : UInt64), (0 : UInt64), (0 : UInt64), (0 : UInt64)]) :
    Con l Z n0 (⟨"com/example/loads_to_headways/loadstoheadways/replay/Times", "sort", "()V"⟩ : MethodName) prog_31_method_3_code 1 none ws ({ frames := 4, cells := 1, slots := 4, locals := 120 } : Room) #[(.ref t)] h0 (fun v h => v = none ∧ ∃ bb, n0 ≤ bb ∧ h0.size ≤ bb ∧ Keep h0 h [t] ∧ Fld Z h t "com/example/loads_to_headways/loadstoheadways/replay/Times" "seconds" "[D" (.ref bb) ∧ Fld Z h t "com/example/loads_to_headways/loadstoheadways/replay/Times" "size" "I" (.int (4 : Int32)) ∧ ∃ y0 : Int32, ∃ y1 : Int32, ∃ y2 : Int32, ∃ y3 : Int32, AD Z h bb [(FP.i2d y0), (FP.i2d y1), (FP.i2d y2), (FP.i2d y3)] ∧ y0.toInt ≤ y1.toInt ∧ y1.toInt ≤ y2.toInt ∧ y2.toInt ≤ y3.toInt ∧ ∀ q : Int32, Cq q y0 + Cq q y1 + Cq q y2 + Cq q y3 = Cq q x0 + Cq q x1 + Cq q x2 + Cq q x3) := by
  refine con_start (plainFor_of_name (by first | (simp [plainName, overriddenIn]; done) | decide +kernel)) (fr0 := fun m => mkF m 0 #[.val (.ref t)] []) (fun m => by first | (simp [entryFrame, mkF, argsToLocals, Value.category]; done) | rfl) ?_
  intro p e s m below meth c T0 hx hZ hby hml hown hnm hret hlk X0
  replace hown : s.vm.findClass "com/example/loads_to_headways/loadstoheadways/replay/Times" = some m.cls := hown
  replace hml : c.maxLocals = 1 := hml
  refine g_aloadN X0 hx (pc' := 1) rfl (hb hby d3_0) rfl rfl ?_
  refine g_aloadN X0 hx (pc' := 2) rfl (hb hby d3_1) rfl rfl ?_
  refine g_getF X0 hx hZ hown (hw _ (List.mem_of_getElem? (i := 11) rfl)) Via.refl Fs (pc' := 5) rfl (hb hby d3_2) (fun T335 X335 => ?_)
  refine g_aloadN X335 hx (pc' := 6) rfl (hb hby d3_5) rfl rfl ?_
  refine g_getF X335 hx hZ hown (hw _ (List.mem_of_getElem? (i := 18) rfl)) Via.refl Fz (pc' := 9) rfl (hb hby d3_6) (fun T336 X336 => ?_)
  refine g_callS X336 hx hZ hown (hw _ (List.mem_of_getElem? (i := 20) rfl)) (hw _ (List.mem_of_getElem? (i := 21) rfl)) (hw _ (List.mem_of_getElem? (i := 22) rfl)) (hw _ (List.mem_of_getElem? (i := 23) rfl)) (by decide) (rm4_4 l Z a0 hw [] n0 aa (FP.i2d x0) (FP.i2d x1) (FP.i2d x2) (FP.i2d x3) (0 : UInt64) (0 : UInt64) (0 : UInt64) (0 : UInt64) (0 : UInt64) (0 : UInt64) (0 : UInt64) (0 : UInt64) (0 : UInt64) (0 : UInt64) (0 : UInt64) (0 : UInt64) h0 hn0 Aa) pd_4 rfl rfl (by rw [hml]; rfl) (pc' := 12) rfl (hb hby d3_9) (argsL := [(.ref aa), (.int (4 : Int32))]) (rest := [(.ref t)]) rfl (W := 1) (Nat.le_of_eq rfl) (by decide) (by decide) (by decide) (by decide) (fun v337 T337 h337 X337 hQ337 => ?_)
  obtain ⟨bb, rfl, G337, S337, K337, V337⟩ := hQ337
  have hnb : bb ≠ t := (Nat.ne_of_lt (Nat.lt_of_lt_of_le Et.lt S337)).symm
  have f338 := Fs.keep K337 nin0
  have f339 := Fz.keep K337 nin0
  have f340 := Et.keep K337
  have zs337 : n0 ≤ h337.size := Nat.le_trans hn0 K337.1
  have Kb : Keep h0 h337 [t] := (Keep.refl h0 [t]).trans K337 all0
  have Sb : h0.size ≤ bb := S337
  show Go p e below s n0 _ _ _ (T337.setTop (mkF m 12 #[.val (.ref t)] [(.ref bb), (.ref t)]))
  refine g_putF X337 hx hZ hown (hw _ (List.mem_of_getElem? (i := 11) rfl)) Via.refl f338 f340 (Or.inl (hw _ (List.mem_of_getElem? (i := 12) rfl))) (hw _ (List.mem_of_getElem? (i := 2) rfl)) (ty := (.array .double)) (by decide) rfl rfl hgt (pc' := 15) rfl (hb hby d3_12) (fun T341 h341 X341 W341 => ?_)
  have f342 := f340.wr W341
  have f343 := f338.same W341
  have f344 := f339.other W341 (Or.inr (slot_ne (Or.inl (hw _ (List.mem_of_getElem? (i := 19) rfl))) (Or.inl (hw _ (List.mem_of_getElem? (i := 12) rfl))) (by decide) (t := .int) (t' := (.array .double)) (by decide) (by decide)))
  have f345 := (by have q := (Keep.of_wr W341).1; exact Nat.le_trans zs337 q : n0 ≤ h341.size)
  have f346 := Kb.wr W341 (Or.inl (List.mem_of_getElem? (i := 0) rfl))
  have f347 := V337.other W341 hnb
  refine g_aloadN X341 hx (pc' := 16) rfl (hb hby d3_15) rfl rfl ?_
  refine g_getF X341 hx hZ hown (hw _ (List.mem_of_getElem? (i := 11) rfl)) Via.refl f343 (pc' := 19) rfl (hb hby d3_16) (fun T348 X348 => ?_)
  refine g_callS X348 hx hZ hown (hw _ (List.mem_of_getElem? (i := 32) rfl)) (hw _ (List.mem_of_getElem? (i := 33) rfl)) (hw _ (List.mem_of_getElem? (i := 22) rfl)) (hw _ (List.mem_of_getElem? (i := 34) rfl)) (by decide) (rm6_4 l Z a0 hw [] n0 bb x0 x1 x2 x3 h341 f345 f347 G337) pd_5 rfl rfl (by rw [hml]; rfl) (pc' := 22) rfl (hb hby d3_19) (argsL := [(.ref bb)]) (rest := []) rfl (W := 0) (Nat.le_of_eq rfl) (by decide) (by decide) (by decide) (by decide) (fun v349 T349 h349 X349 hQ349 => ?_)
  obtain ⟨rfl, KS, SS⟩ := hQ349
  have f350 := f343.keep KS (ninS hnb.symm nin0)
  have f351 := f344.keep KS (ninS hnb.symm nin0)
  have f352 := f346.trans KS (allS (Or.inr Sb) all0)
  show Go p e below s n0 _ _ _ (T349.setTop (mkF m 22 #[.val (.ref t)] []))
  exact g_retV X349 hx hlk hret (hb hby d3_22) (by decide) (by decide) (⟨rfl, bb, G337, Sb, f352, f350, f351, SS⟩)
set_option maxRecDepth 65536 in
set_option maxHeartbeats 40000000 in
theorem rm10_0 (l : Launch) (Z : State) (a0 : Array Value) (hw : ∀ d ∈ tables_1, d.before a0 Z = true) (ws : List Jvm.Cond) (n0 : Nat) (t aa : Addr) (q : Int32) (h0 : Heap) (hn0 : n0 ≤ h0.size) (Et : Exa Z h0 t "com/example/loads_to_headways/loadstoheadways/replay/Times") (hgt : n0 ≤ t) (Fs : Fld Z h0 t "com/example/loads_to_headways/loadstoheadways/replay/Times" "seconds" "[D" (.ref aa)) (Fz : Fld Z h0 t "com/example/loads_to_headways/loadstoheadways/replay/Times" "size" "I" (.int (0 : Int32))) (Aa : AD Z h0 aa [])  :
    Con l Z n0 (⟨"com/example/loads_to_headways/loadstoheadways/replay/Times", "countAtOrBefore", "(D)I"⟩ : MethodName) prog_31_method_4_code 6 (some .int) ws ({ frames := 0, cells := 0, slots := 0, locals := 0 } : Room) #[(.ref t), (.double (FP.i2d q))] h0 (fun v h => ∃ z : Int32, v = some (.int z) ∧ h = h0 ∧ z.toInt = (0 : Int)) := by
  refine con_start (plainFor_of_name (by first | (simp [plainName, overriddenIn]; done) | decide +kernel)) (fr0 := fun m => mkF m 0 #[.val (.ref t), .val (.double (FP.i2d q)), .second, .unset, .unset, .unset] []) (fun m => by first | (simp [entryFrame, mkF, argsToLocals, Value.category]; done) | rfl) ?_
  intro p e s m below meth c T0 hx hZ hby hml hown hnm hret hlk X0
  replace hown : s.vm.findClass "com/example/loads_to_headways/loadstoheadways/replay/Times" = some m.cls := hown
  replace hml : c.maxLocals = 6 := hml
  refine g_iconst X0 hx (pc' := 1) (z := (0 : Int32)) rfl (hb hby d10_0) rfl ?_
  refine g_istoreN X0 hx (pc' := 2) rfl (hb hby d10_1) (l' := #[.val (.ref t), .val (.double (FP.i2d q)), .second, .val (.int (0 : Int32)), .unset, .unset]) rfl ?_
  refine g_aloadN X0 hx (pc' := 3) rfl (hb hby d10_2) rfl rfl ?_
  refine g_getF X0 hx hZ hown (hw _ (List.mem_of_getElem? (i := 18) rfl)) Via.refl Fz (pc' := 6) rfl (hb hby d10_3) (fun T353 X353 => ?_)
  refine g_istore X353 hx (pc' := 8) rfl (hb hby d10_6) (l' := #[.val (.ref t), .val (.double (FP.i2d q)), .second, .val (.int (0 : Int32)), .val (.int (0 : Int32)), .unset]) rfl ?_
  refine g_iloadN X353 hx (pc' := 9) rfl (hb hby d10_8) rfl ?_
  refine g_iload X353 hx (pc' := 11) rfl (hb hby d10_9) rfl ?_
  refine g_icmpY X353 hx (pcY := 49) (hb hby d10_11) (by decide) (by decide) (show ¬ (0 : Int32) < (0 : Int32) from by decide) ?_
  refine g_iloadN X353 hx (pc' := 50) rfl (hb hby d10_49) rfl ?_
  exact g_retI X353 hx hlk hret (hb hby d10_50) (by decide) (by decide) (⟨_, rfl, rfl, by have e : (0 : Int32).toInt = 0 := rfl;  omega⟩)
set_option maxRecDepth 65536 in
set_option maxHeartbeats 40000000 in
theorem rm10_1 (l : Launch) (Z : State) (a0 : Array Value) (hw : ∀ d ∈ tables_1, d.before a0 Z = true) (ws : List Jvm.Cond) (n0 : Nat) (t aa : Addr) (q : Int32) (y0 : Int32) (h0 : Heap) (hn0 : n0 ≤ h0.size) (Et : Exa Z h0 t "com/example/loads_to_headways/loadstoheadways/replay/Times") (hgt : n0 ≤ t) (Fs : Fld Z h0 t "com/example/loads_to_headways/loadstoheadways/replay/Times" "seconds" "[D" (.ref aa)) (Fz : Fld Z h0 t "com/example/loads_to_headways/loadstoheadways/replay/Times" "size" "I" (.int (1 : Int32))) (Aa : AD Z h0 aa [(FP.i2d y0)])  :
    Con l Z n0 (⟨"com/example/loads_to_headways/loadstoheadways/replay/Times", "countAtOrBefore", "(D)I"⟩ : MethodName) prog_31_method_4_code 6 (some .int) ws ({ frames := 0, cells := 0, slots := 0, locals := 0 } : Room) #[(.ref t), (.double (FP.i2d q))] h0 (fun v h => ∃ z : Int32, v = some (.int z) ∧ h = h0 ∧ z.toInt = Cq q y0) := by
  refine con_start (plainFor_of_name (by first | (simp [plainName, overriddenIn]; done) | decide +kernel)) (fr0 := fun m => mkF m 0 #[.val (.ref t), .val (.double (FP.i2d q)), .second, .unset, .unset, .unset] []) (fun m => by first | (simp [entryFrame, mkF, argsToLocals, Value.category]; done) | rfl) ?_
  intro p e s m below meth c T0 hx hZ hby hml hown hnm hret hlk X0
  replace hown : s.vm.findClass "com/example/loads_to_headways/loadstoheadways/replay/Times" = some m.cls := hown
  replace hml : c.maxLocals = 6 := hml
  refine g_iconst X0 hx (pc' := 1) (z := (0 : Int32)) rfl (hb hby d10_0) rfl ?_
  refine g_istoreN X0 hx (pc' := 2) rfl (hb hby d10_1) (l' := #[.val (.ref t), .val (.double (FP.i2d q)), .second, .val (.int (0 : Int32)), .unset, .unset]) rfl ?_
  refine g_aloadN X0 hx (pc' := 3) rfl (hb hby d10_2) rfl rfl ?_
  refine g_getF X0 hx hZ hown (hw _ (List.mem_of_getElem? (i := 18) rfl)) Via.refl Fz (pc' := 6) rfl (hb hby d10_3) (fun T354 X354 => ?_)
  refine g_istore X354 hx (pc' := 8) rfl (hb hby d10_6) (l' := #[.val (.ref t), .val (.double (FP.i2d q)), .second, .val (.int (0 : Int32)), .val (.int (1 : Int32)), .unset]) rfl ?_
  refine g_iloadN X354 hx (pc' := 9) rfl (hb hby d10_8) rfl ?_
  refine g_iload X354 hx (pc' := 11) rfl (hb hby d10_9) rfl ?_
  refine g_icmpN X354 hx (pcN := 14) (hb hby d10_11) rfl (show ¬ (¬ (0 : Int32) < (1 : Int32)) from by decide) ?_
  refine g_iloadN X354 hx (pc' := 15) rfl (hb hby d10_14) rfl ?_
  refine g_iload X354 hx (pc' := 17) rfl (hb hby d10_15) rfl ?_
  refine g_iadd X354 hx (pc' := 18) rfl (hb hby d10_17) ?_
  refine g_normI (z := (1 : Int32)) (by decide) ?_
  refine g_iconst X354 hx (pc' := 19) (z := (1 : Int32)) rfl (hb hby d10_18) rfl ?_
  refine g_iushr X354 hx (pc' := 20) rfl (hb hby d10_19) ?_
  refine g_normI (z := (0 : Int32)) (by decide) ?_
  refine g_istore X354 hx (pc' := 22) rfl (hb hby d10_20) (l' := #[.val (.ref t), .val (.double (FP.i2d q)), .second, .val (.int (0 : Int32)), .val (.int (1 : Int32)), .val (.int (0 : Int32))]) rfl ?_
  refine g_aloadN X354 hx (pc' := 23) rfl (hb hby d10_22) rfl rfl ?_
  refine g_getF X354 hx hZ hown (hw _ (List.mem_of_getElem? (i := 11) rfl)) Via.refl Fs (pc' := 26) rfl (hb hby d10_23) (fun T355 X355 => ?_)
  refine g_iload X355 hx (pc' := 28) rfl (hb hby d10_26) rfl ?_
  refine g_daload X355 hx hZ Aa (i := 0) (by decide) (show (0 : Nat) < 1 by decide) (v := (FP.i2d y0)) rfl (pc' := 29) rfl (hb hby d10_28) ?_
  refine g_dloadN X355 hx (pc' := 30) rfl (hb hby d10_29) rfl ?_
  refine g_dcmp X355 hx (pc' := 31) (z := (cmpValue (FP.dcmp (FP.i2d y0) (FP.i2d q)) .g)) rfl (hb hby d10_30) rfl ?_
  refine g_if X355 hx (pcY := 42) (pcN := 34) (hb hby d10_31) (by decide) (by decide) rfl (fun hc31 => ?_) (fun hc31 => ?_)
  · replace hc31 : 0 < (cmpValue (FP.dcmp (FP.i2d y0) (FP.i2d q)) .g) := hc31
    have g356 : q.toInt < y0.toInt := (own_gt y0 q).mp hc31
    refine g_iload X355 hx (pc' := 44) rfl (hb hby d10_42) rfl ?_
    refine g_istore X355 hx (pc' := 46) rfl (hb hby d10_44) (l' := #[.val (.ref t), .val (.double (FP.i2d q)), .second, .val (.int (0 : Int32)), .val (.int (0 : Int32)), .val (.int (0 : Int32))]) rfl ?_
    refine g_goto X355 hx (pc' := 8) (hb hby d10_46) (by decide) (by decide) ?_
    refine g_iloadN X355 hx (pc' := 9) rfl (hb hby d10_8) rfl ?_
    refine g_iload X355 hx (pc' := 11) rfl (hb hby d10_9) rfl ?_
    refine g_icmpY X355 hx (pcY := 49) (hb hby d10_11) (by decide) (by decide) (show ¬ (0 : Int32) < (0 : Int32) from by decide) ?_
    refine g_iloadN X355 hx (pc' := 50) rfl (hb hby d10_49) rfl ?_
    exact g_retI X355 hx hlk hret (hb hby d10_50) (by decide) (by decide) (⟨_, rfl, rfl, by have e : (0 : Int32).toInt = 0 := rfl; have c0 := Cq_0 (q := q) (y := y0) (by omega); omega⟩)
  · replace hc31 : ¬ 0 < (cmpValue (FP.dcmp (FP.i2d y0) (FP.i2d q)) .g) := hc31
    have g357 : y0.toInt ≤ q.toInt := Int.not_lt.mp (fun z => hc31 ((own_gt y0 q).mpr z))
    refine g_iload X355 hx (pc' := 36) rfl (hb hby d10_34) rfl ?_
    refine g_iconst X355 hx (pc' := 37) (z := (1 : Int32)) rfl (hb hby d10_36) rfl ?_
    refine g_iadd X355 hx (pc' := 38) rfl (hb hby d10_37) ?_
    refine g_normI (z := (1 : Int32)) (by decide) ?_
    refine g_istoreN X355 hx (pc' := 39) rfl (hb hby d10_38) (l' := #[.val (.ref t), .val (.double (FP.i2d q)), .second, .val (.int (1 : Int32)), .val (.int (1 : Int32)), .val (.int (0 : Int32))]) rfl ?_
    refine g_goto X355 hx (pc' := 46) (hb hby d10_39) (by decide) (by decide) ?_
    refine g_goto X355 hx (pc' := 8) (hb hby d10_46) (by decide) (by decide) ?_
    refine g_iloadN X355 hx (pc' := 9) rfl (hb hby d10_8) rfl ?_
    refine g_iload X355 hx (pc' := 11) rfl (hb hby d10_9) rfl ?_
    refine g_icmpY X355 hx (pcY := 49) (hb hby d10_11) (by decide) (by decide) (show ¬ (1 : Int32) < (1 : Int32) from by decide) ?_
    refine g_iloadN X355 hx (pc' := 50) rfl (hb hby d10_49) rfl ?_
    exact g_retI X355 hx hlk hret (hb hby d10_50) (by decide) (by decide) (⟨_, rfl, rfl, by have e : (1 : Int32).toInt = 1 := rfl; have c0 := Cq_1 (q := q) (y := y0) (by omega); omega⟩)
set_option maxRecDepth 65536 in
set_option maxHeartbeats 40000000 in
theorem rm10_2 (l : Launch) (Z : State) (a0 : Array Value) (hw : ∀ d ∈ tables_1, d.before a0 Z = true) (ws : List Jvm.Cond) (n0 : Nat) (t aa : Addr) (q : Int32) (y0 : Int32) (y1 : Int32) (h0 : Heap) (hn0 : n0 ≤ h0.size) (Et : Exa Z h0 t "com/example/loads_to_headways/loadstoheadways/replay/Times") (hgt : n0 ≤ t) (Fs : Fld Z h0 t "com/example/loads_to_headways/loadstoheadways/replay/Times" "seconds" "[D" (.ref aa)) (Fz : Fld Z h0 t "com/example/loads_to_headways/loadstoheadways/replay/Times" "size" "I" (.int (2 : Int32))) (Aa : AD Z h0 aa [(FP.i2d y0), (FP.i2d y1)]) (s0 : y0.toInt ≤ y1.toInt) :
    Con l Z n0 (⟨"com/example/loads_to_headways/loadstoheadways/replay/Times", "countAtOrBefore", "(D)I"⟩ : MethodName) prog_31_method_4_code 6 (some .int) ws ({ frames := 0, cells := 0, slots := 0, locals := 0 } : Room) #[(.ref t), (.double (FP.i2d q))] h0 (fun v h => ∃ z : Int32, v = some (.int z) ∧ h = h0 ∧ z.toInt = Cq q y0 + Cq q y1) := by
  refine con_start (plainFor_of_name (by first | (simp [plainName, overriddenIn]; done) | decide +kernel)) (fr0 := fun m => mkF m 0 #[.val (.ref t), .val (.double (FP.i2d q)), .second, .unset, .unset, .unset] []) (fun m => by first | (simp [entryFrame, mkF, argsToLocals, Value.category]; done) | rfl) ?_
  intro p e s m below meth c T0 hx hZ hby hml hown hnm hret hlk X0
  replace hown : s.vm.findClass "com/example/loads_to_headways/loadstoheadways/replay/Times" = some m.cls := hown
  replace hml : c.maxLocals = 6 := hml
  refine g_iconst X0 hx (pc' := 1) (z := (0 : Int32)) rfl (hb hby d10_0) rfl ?_
  refine g_istoreN X0 hx (pc' := 2) rfl (hb hby d10_1) (l' := #[.val (.ref t), .val (.double (FP.i2d q)), .second, .val (.int (0 : Int32)), .unset, .unset]) rfl ?_
  refine g_aloadN X0 hx (pc' := 3) rfl (hb hby d10_2) rfl rfl ?_
  refine g_getF X0 hx hZ hown (hw _ (List.mem_of_getElem? (i := 18) rfl)) Via.refl Fz (pc' := 6) rfl (hb hby d10_3) (fun T358 X358 => ?_)
  refine g_istore X358 hx (pc' := 8) rfl (hb hby d10_6) (l' := #[.val (.ref t), .val (.double (FP.i2d q)), .second, .val (.int (0 : Int32)), .val (.int (2 : Int32)), .unset]) rfl ?_
  refine g_iloadN X358 hx (pc' := 9) rfl (hb hby d10_8) rfl ?_
  refine g_iload X358 hx (pc' := 11) rfl (hb hby d10_9) rfl ?_
  refine g_icmpN X358 hx (pcN := 14) (hb hby d10_11) rfl (show ¬ (¬ (0 : Int32) < (2 : Int32)) from by decide) ?_
  refine g_iloadN X358 hx (pc' := 15) rfl (hb hby d10_14) rfl ?_
  refine g_iload X358 hx (pc' := 17) rfl (hb hby d10_15) rfl ?_
  refine g_iadd X358 hx (pc' := 18) rfl (hb hby d10_17) ?_
  refine g_normI (z := (2 : Int32)) (by decide) ?_
  refine g_iconst X358 hx (pc' := 19) (z := (1 : Int32)) rfl (hb hby d10_18) rfl ?_
  refine g_iushr X358 hx (pc' := 20) rfl (hb hby d10_19) ?_
  refine g_normI (z := (1 : Int32)) (by decide) ?_
  refine g_istore X358 hx (pc' := 22) rfl (hb hby d10_20) (l' := #[.val (.ref t), .val (.double (FP.i2d q)), .second, .val (.int (0 : Int32)), .val (.int (2 : Int32)), .val (.int (1 : Int32))]) rfl ?_
  refine g_aloadN X358 hx (pc' := 23) rfl (hb hby d10_22) rfl rfl ?_
  refine g_getF X358 hx hZ hown (hw _ (List.mem_of_getElem? (i := 11) rfl)) Via.refl Fs (pc' := 26) rfl (hb hby d10_23) (fun T359 X359 => ?_)
  refine g_iload X359 hx (pc' := 28) rfl (hb hby d10_26) rfl ?_
  refine g_daload X359 hx hZ Aa (i := 1) (by decide) (show (1 : Nat) < 2 by decide) (v := (FP.i2d y1)) rfl (pc' := 29) rfl (hb hby d10_28) ?_
  refine g_dloadN X359 hx (pc' := 30) rfl (hb hby d10_29) rfl ?_
  refine g_dcmp X359 hx (pc' := 31) (z := (cmpValue (FP.dcmp (FP.i2d y1) (FP.i2d q)) .g)) rfl (hb hby d10_30) rfl ?_
  refine g_if X359 hx (pcY := 42) (pcN := 34) (hb hby d10_31) (by decide) (by decide) rfl (fun hc31 => ?_) (fun hc31 => ?_)
  · replace hc31 : 0 < (cmpValue (FP.dcmp (FP.i2d y1) (FP.i2d q)) .g) := hc31
    have g360 : q.toInt < y1.toInt := (own_gt y1 q).mp hc31
    refine g_iload X359 hx (pc' := 44) rfl (hb hby d10_42) rfl ?_
    refine g_istore X359 hx (pc' := 46) rfl (hb hby d10_44) (l' := #[.val (.ref t), .val (.double (FP.i2d q)), .second, .val (.int (0 : Int32)), .val (.int (1 : Int32)), .val (.int (1 : Int32))]) rfl ?_
    refine g_goto X359 hx (pc' := 8) (hb hby d10_46) (by decide) (by decide) ?_
    refine g_iloadN X359 hx (pc' := 9) rfl (hb hby d10_8) rfl ?_
    refine g_iload X359 hx (pc' := 11) rfl (hb hby d10_9) rfl ?_
    refine g_icmpN X359 hx (pcN := 14) (hb hby d10_11) rfl (show ¬ (¬ (0 : Int32) < (1 : Int32)) from by decide) ?_
    refine g_iloadN X359 hx (pc' := 15) rfl (hb hby d10_14) rfl ?_
    refine g_iload X359 hx (pc' := 17) rfl (hb hby d10_15) rfl ?_
    refine g_iadd X359 hx (pc' := 18) rfl (hb hby d10_17) ?_
    refine g_normI (z := (1 : Int32)) (by decide) ?_
    refine g_iconst X359 hx (pc' := 19) (z := (1 : Int32)) rfl (hb hby d10_18) rfl ?_
    refine g_iushr X359 hx (pc' := 20) rfl (hb hby d10_19) ?_
    refine g_normI (z := (0 : Int32)) (by decide) ?_
    refine g_istore X359 hx (pc' := 22) rfl (hb hby d10_20) (l' := #[.val (.ref t), .val (.double (FP.i2d q)), .second, .val (.int (0 : Int32)), .val (.int (1 : Int32)), .val (.int (0 : Int32))]) rfl ?_
    refine g_aloadN X359 hx (pc' := 23) rfl (hb hby d10_22) rfl rfl ?_
    refine g_getF X359 hx hZ hown (hw _ (List.mem_of_getElem? (i := 11) rfl)) Via.refl Fs (pc' := 26) rfl (hb hby d10_23) (fun T361 X361 => ?_)
    refine g_iload X361 hx (pc' := 28) rfl (hb hby d10_26) rfl ?_
    refine g_daload X361 hx hZ Aa (i := 0) (by decide) (show (0 : Nat) < 2 by decide) (v := (FP.i2d y0)) rfl (pc' := 29) rfl (hb hby d10_28) ?_
    refine g_dloadN X361 hx (pc' := 30) rfl (hb hby d10_29) rfl ?_
    refine g_dcmp X361 hx (pc' := 31) (z := (cmpValue (FP.dcmp (FP.i2d y0) (FP.i2d q)) .g)) rfl (hb hby d10_30) rfl ?_
    refine g_if X361 hx (pcY := 42) (pcN := 34) (hb hby d10_31) (by decide) (by decide) rfl (fun hc31 => ?_) (fun hc31 => ?_)
    · replace hc31 : 0 < (cmpValue (FP.dcmp (FP.i2d y0) (FP.i2d q)) .g) := hc31
      have g362 : q.toInt < y0.toInt := (own_gt y0 q).mp hc31
      refine g_iload X361 hx (pc' := 44) rfl (hb hby d10_42) rfl ?_
      refine g_istore X361 hx (pc' := 46) rfl (hb hby d10_44) (l' := #[.val (.ref t), .val (.double (FP.i2d q)), .second, .val (.int (0 : Int32)), .val (.int (0 : Int32)), .val (.int (0 : Int32))]) rfl ?_
      refine g_goto X361 hx (pc' := 8) (hb hby d10_46) (by decide) (by decide) ?_
      refine g_iloadN X361 hx (pc' := 9) rfl (hb hby d10_8) rfl ?_
      refine g_iload X361 hx (pc' := 11) rfl (hb hby d10_9) rfl ?_
      refine g_icmpY X361 hx (pcY := 49) (hb hby d10_11) (by decide) (by decide) (show ¬ (0 : Int32) < (0 : Int32) from by decide) ?_
      refine g_iloadN X361 hx (pc' := 50) rfl (hb hby d10_49) rfl ?_
      exact g_retI X361 hx hlk hret (hb hby d10_50) (by decide) (by decide) (⟨_, rfl, rfl, by have e : (0 : Int32).toInt = 0 := rfl; have c0 := Cq_0 (q := q) (y := y0) (by omega); have c1 := Cq_0 (q := q) (y := y1) (by omega); omega⟩)
    · replace hc31 : ¬ 0 < (cmpValue (FP.dcmp (FP.i2d y0) (FP.i2d q)) .g) := hc31
      have g363 : y0.toInt ≤ q.toInt := Int.not_lt.mp (fun z => hc31 ((own_gt y0 q).mpr z))
      refine g_iload X361 hx (pc' := 36) rfl (hb hby d10_34) rfl ?_
      refine g_iconst X361 hx (pc' := 37) (z := (1 : Int32)) rfl (hb hby d10_36) rfl ?_
      refine g_iadd X361 hx (pc' := 38) rfl (hb hby d10_37) ?_
      refine g_normI (z := (1 : Int32)) (by decide) ?_
      refine g_istoreN X361 hx (pc' := 39) rfl (hb hby d10_38) (l' := #[.val (.ref t), .val (.double (FP.i2d q)), .second, .val (.int (1 : Int32)), .val (.int (1 : Int32)), .val (.int (0 : Int32))]) rfl ?_
      refine g_goto X361 hx (pc' := 46) (hb hby d10_39) (by decide) (by decide) ?_
      refine g_goto X361 hx (pc' := 8) (hb hby d10_46) (by decide) (by decide) ?_
      refine g_iloadN X361 hx (pc' := 9) rfl (hb hby d10_8) rfl ?_
      refine g_iload X361 hx (pc' := 11) rfl (hb hby d10_9) rfl ?_
      refine g_icmpY X361 hx (pcY := 49) (hb hby d10_11) (by decide) (by decide) (show ¬ (1 : Int32) < (1 : Int32) from by decide) ?_
      refine g_iloadN X361 hx (pc' := 50) rfl (hb hby d10_49) rfl ?_
      exact g_retI X361 hx hlk hret (hb hby d10_50) (by decide) (by decide) (⟨_, rfl, rfl, by have e : (1 : Int32).toInt = 1 := rfl; have c0 := Cq_1 (q := q) (y := y0) (by omega); have c1 := Cq_0 (q := q) (y := y1) (by omega); omega⟩)
  · replace hc31 : ¬ 0 < (cmpValue (FP.dcmp (FP.i2d y1) (FP.i2d q)) .g) := hc31
    have g364 : y1.toInt ≤ q.toInt := Int.not_lt.mp (fun z => hc31 ((own_gt y1 q).mpr z))
    refine g_iload X359 hx (pc' := 36) rfl (hb hby d10_34) rfl ?_
    refine g_iconst X359 hx (pc' := 37) (z := (1 : Int32)) rfl (hb hby d10_36) rfl ?_
    refine g_iadd X359 hx (pc' := 38) rfl (hb hby d10_37) ?_
    refine g_normI (z := (2 : Int32)) (by decide) ?_
    refine g_istoreN X359 hx (pc' := 39) rfl (hb hby d10_38) (l' := #[.val (.ref t), .val (.double (FP.i2d q)), .second, .val (.int (2 : Int32)), .val (.int (2 : Int32)), .val (.int (1 : Int32))]) rfl ?_
    refine g_goto X359 hx (pc' := 46) (hb hby d10_39) (by decide) (by decide) ?_
    refine g_goto X359 hx (pc' := 8) (hb hby d10_46) (by decide) (by decide) ?_
    refine g_iloadN X359 hx (pc' := 9) rfl (hb hby d10_8) rfl ?_
    refine g_iload X359 hx (pc' := 11) rfl (hb hby d10_9) rfl ?_
    refine g_icmpY X359 hx (pcY := 49) (hb hby d10_11) (by decide) (by decide) (show ¬ (2 : Int32) < (2 : Int32) from by decide) ?_
    refine g_iloadN X359 hx (pc' := 50) rfl (hb hby d10_49) rfl ?_
    exact g_retI X359 hx hlk hret (hb hby d10_50) (by decide) (by decide) (⟨_, rfl, rfl, by have e : (2 : Int32).toInt = 2 := rfl; have c0 := Cq_1 (q := q) (y := y0) (by omega); have c1 := Cq_1 (q := q) (y := y1) (by omega); omega⟩)
set_option maxRecDepth 65536 in
set_option maxHeartbeats 40000000 in
theorem rm10_3 (l : Launch) (Z : State) (a0 : Array Value) (hw : ∀ d ∈ tables_1, d.before a0 Z = true) (ws : List Jvm.Cond) (n0 : Nat) (t aa : Addr) (q : Int32) (y0 : Int32) (y1 : Int32) (y2 : Int32) (h0 : Heap) (hn0 : n0 ≤ h0.size) (Et : Exa Z h0 t "com/example/loads_to_headways/loadstoheadways/replay/Times") (hgt : n0 ≤ t) (Fs : Fld Z h0 t "com/example/loads_to_headways/loadstoheadways/replay/Times" "seconds" "[D" (.ref aa)) (Fz : Fld Z h0 t "com/example/loads_to_headways/loadstoheadways/replay/Times" "size" "I" (.int (3 : Int32))) (Aa : AD Z h0 aa [(FP.i2d y0), (FP.i2d y1), (FP.i2d y2)]) (s0 : y0.toInt ≤ y1.toInt) (s1 : y1.toInt ≤ y2.toInt) :
    Con l Z n0 (⟨"com/example/loads_to_headways/loadstoheadways/replay/Times", "countAtOrBefore", "(D)I"⟩ : MethodName) prog_31_method_4_code 6 (some .int) ws ({ frames := 0, cells := 0, slots := 0, locals := 0 } : Room) #[(.ref t), (.double (FP.i2d q))] h0 (fun v h => ∃ z : Int32, v = some (.int z) ∧ h = h0 ∧ z.toInt = Cq q y0 + Cq q y1 + Cq q y2) := by
  refine con_start (plainFor_of_name (by first | (simp [plainName, overriddenIn]; done) | decide +kernel)) (fr0 := fun m => mkF m 0 #[.val (.ref t), .val (.double (FP.i2d q)), .second, .unset, .unset, .unset] []) (fun m => by first | (simp [entryFrame, mkF, argsToLocals, Value.category]; done) | rfl) ?_
  intro p e s m below meth c T0 hx hZ hby hml hown hnm hret hlk X0
  replace hown : s.vm.findClass "com/example/loads_to_headways/loadstoheadways/replay/Times" = some m.cls := hown
  replace hml : c.maxLocals = 6 := hml
  refine g_iconst X0 hx (pc' := 1) (z := (0 : Int32)) rfl (hb hby d10_0) rfl ?_
  refine g_istoreN X0 hx (pc' := 2) rfl (hb hby d10_1) (l' := #[.val (.ref t), .val (.double (FP.i2d q)), .second, .val (.int (0 : Int32)), .unset, .unset]) rfl ?_
  refine g_aloadN X0 hx (pc' := 3) rfl (hb hby d10_2) rfl rfl ?_
  refine g_getF X0 hx hZ hown (hw _ (List.mem_of_getElem? (i := 18) rfl)) Via.refl Fz (pc' := 6) rfl (hb hby d10_3) (fun T365 X365 => ?_)
  refine g_istore X365 hx (pc' := 8) rfl (hb hby d10_6) (l' := #[.val (.ref t), .val (.double (FP.i2d q)), .second, .val (.int (0 : Int32)), .val (.int (3 : Int32)), .unset]) rfl ?_
  refine g_iloadN X365 hx (pc' := 9) rfl (hb hby d10_8) rfl ?_
  refine g_iload X365 hx (pc' := 11) rfl (hb hby d10_9) rfl ?_
  refine g_icmpN X365 hx (pcN := 14) (hb hby d10_11) rfl (show ¬ (¬ (0 : Int32) < (3 : Int32)) from by decide) ?_
  refine g_iloadN X365 hx (pc' := 15) rfl (hb hby d10_14) rfl ?_
  refine g_iload X365 hx (pc' := 17) rfl (hb hby d10_15) rfl ?_
  refine g_iadd X365 hx (pc' := 18) rfl (hb hby d10_17) ?_
  refine g_normI (z := (3 : Int32)) (by decide) ?_
  refine g_iconst X365 hx (pc' := 19) (z := (1 : Int32)) rfl (hb hby d10_18) rfl ?_
  refine g_iushr X365 hx (pc' := 20) rfl (hb hby d10_19) ?_
  refine g_normI (z := (1 : Int32)) (by decide) ?_
  refine g_istore X365 hx (pc' := 22) rfl (hb hby d10_20) (l' := #[.val (.ref t), .val (.double (FP.i2d q)), .second, .val (.int (0 : Int32)), .val (.int (3 : Int32)), .val (.int (1 : Int32))]) rfl ?_
  refine g_aloadN X365 hx (pc' := 23) rfl (hb hby d10_22) rfl rfl ?_
  refine g_getF X365 hx hZ hown (hw _ (List.mem_of_getElem? (i := 11) rfl)) Via.refl Fs (pc' := 26) rfl (hb hby d10_23) (fun T366 X366 => ?_)
  refine g_iload X366 hx (pc' := 28) rfl (hb hby d10_26) rfl ?_
  refine g_daload X366 hx hZ Aa (i := 1) (by decide) (show (1 : Nat) < 3 by decide) (v := (FP.i2d y1)) rfl (pc' := 29) rfl (hb hby d10_28) ?_
  refine g_dloadN X366 hx (pc' := 30) rfl (hb hby d10_29) rfl ?_
  refine g_dcmp X366 hx (pc' := 31) (z := (cmpValue (FP.dcmp (FP.i2d y1) (FP.i2d q)) .g)) rfl (hb hby d10_30) rfl ?_
  refine g_if X366 hx (pcY := 42) (pcN := 34) (hb hby d10_31) (by decide) (by decide) rfl (fun hc31 => ?_) (fun hc31 => ?_)
  · replace hc31 : 0 < (cmpValue (FP.dcmp (FP.i2d y1) (FP.i2d q)) .g) := hc31
    have g367 : q.toInt < y1.toInt := (own_gt y1 q).mp hc31
    refine g_iload X366 hx (pc' := 44) rfl (hb hby d10_42) rfl ?_
    refine g_istore X366 hx (pc' := 46) rfl (hb hby d10_44) (l' := #[.val (.ref t), .val (.double (FP.i2d q)), .second, .val (.int (0 : Int32)), .val (.int (1 : Int32)), .val (.int (1 : Int32))]) rfl ?_
    refine g_goto X366 hx (pc' := 8) (hb hby d10_46) (by decide) (by decide) ?_
    refine g_iloadN X366 hx (pc' := 9) rfl (hb hby d10_8) rfl ?_
    refine g_iload X366 hx (pc' := 11) rfl (hb hby d10_9) rfl ?_
    refine g_icmpN X366 hx (pcN := 14) (hb hby d10_11) rfl (show ¬ (¬ (0 : Int32) < (1 : Int32)) from by decide) ?_
    refine g_iloadN X366 hx (pc' := 15) rfl (hb hby d10_14) rfl ?_
    refine g_iload X366 hx (pc' := 17) rfl (hb hby d10_15) rfl ?_
    refine g_iadd X366 hx (pc' := 18) rfl (hb hby d10_17) ?_
    refine g_normI (z := (1 : Int32)) (by decide) ?_
    refine g_iconst X366 hx (pc' := 19) (z := (1 : Int32)) rfl (hb hby d10_18) rfl ?_
    refine g_iushr X366 hx (pc' := 20) rfl (hb hby d10_19) ?_
    refine g_normI (z := (0 : Int32)) (by decide) ?_
    refine g_istore X366 hx (pc' := 22) rfl (hb hby d10_20) (l' := #[.val (.ref t), .val (.double (FP.i2d q)), .second, .val (.int (0 : Int32)), .val (.int (1 : Int32)), .val (.int (0 : Int32))]) rfl ?_
    refine g_aloadN X366 hx (pc' := 23) rfl (hb hby d10_22) rfl rfl ?_
    refine g_getF X366 hx hZ hown (hw _ (List.mem_of_getElem? (i := 11) rfl)) Via.refl Fs (pc' := 26) rfl (hb hby d10_23) (fun T368 X368 => ?_)
    refine g_iload X368 hx (pc' := 28) rfl (hb hby d10_26) rfl ?_
    refine g_daload X368 hx hZ Aa (i := 0) (by decide) (show (0 : Nat) < 3 by decide) (v := (FP.i2d y0)) rfl (pc' := 29) rfl (hb hby d10_28) ?_
    refine g_dloadN X368 hx (pc' := 30) rfl (hb hby d10_29) rfl ?_
    refine g_dcmp X368 hx (pc' := 31) (z := (cmpValue (FP.dcmp (FP.i2d y0) (FP.i2d q)) .g)) rfl (hb hby d10_30) rfl ?_
    refine g_if X368 hx (pcY := 42) (pcN := 34) (hb hby d10_31) (by decide) (by decide) rfl (fun hc31 => ?_) (fun hc31 => ?_)
    · replace hc31 : 0 < (cmpValue (FP.dcmp (FP.i2d y0) (FP.i2d q)) .g) := hc31
      have g369 : q.toInt < y0.toInt := (own_gt y0 q).mp hc31
      refine g_iload X368 hx (pc' := 44) rfl (hb hby d10_42) rfl ?_
      refine g_istore X368 hx (pc' := 46) rfl (hb hby d10_44) (l' := #[.val (.ref t), .val (.double (FP.i2d q)), .second, .val (.int (0 : Int32)), .val (.int (0 : Int32)), .val (.int (0 : Int32))]) rfl ?_
      refine g_goto X368 hx (pc' := 8) (hb hby d10_46) (by decide) (by decide) ?_
      refine g_iloadN X368 hx (pc' := 9) rfl (hb hby d10_8) rfl ?_
      refine g_iload X368 hx (pc' := 11) rfl (hb hby d10_9) rfl ?_
      refine g_icmpY X368 hx (pcY := 49) (hb hby d10_11) (by decide) (by decide) (show ¬ (0 : Int32) < (0 : Int32) from by decide) ?_
      refine g_iloadN X368 hx (pc' := 50) rfl (hb hby d10_49) rfl ?_
      exact g_retI X368 hx hlk hret (hb hby d10_50) (by decide) (by decide) (⟨_, rfl, rfl, by have e : (0 : Int32).toInt = 0 := rfl; have c0 := Cq_0 (q := q) (y := y0) (by omega); have c1 := Cq_0 (q := q) (y := y1) (by omega); have c2 := Cq_0 (q := q) (y := y2) (by omega); omega⟩)
    · replace hc31 : ¬ 0 < (cmpValue (FP.dcmp (FP.i2d y0) (FP.i2d q)) .g) := hc31
      have g370 : y0.toInt ≤ q.toInt := Int.not_lt.mp (fun z => hc31 ((own_gt y0 q).mpr z))
      refine g_iload X368 hx (pc' := 36) rfl (hb hby d10_34) rfl ?_
      refine g_iconst X368 hx (pc' := 37) (z := (1 : Int32)) rfl (hb hby d10_36) rfl ?_
      refine g_iadd X368 hx (pc' := 38) rfl (hb hby d10_37) ?_
      refine g_normI (z := (1 : Int32)) (by decide) ?_
      refine g_istoreN X368 hx (pc' := 39) rfl (hb hby d10_38) (l' := #[.val (.ref t), .val (.double (FP.i2d q)), .second, .val (.int (1 : Int32)), .val (.int (1 : Int32)), .val (.int (0 : Int32))]) rfl ?_
      refine g_goto X368 hx (pc' := 46) (hb hby d10_39) (by decide) (by decide) ?_
      refine g_goto X368 hx (pc' := 8) (hb hby d10_46) (by decide) (by decide) ?_
      refine g_iloadN X368 hx (pc' := 9) rfl (hb hby d10_8) rfl ?_
      refine g_iload X368 hx (pc' := 11) rfl (hb hby d10_9) rfl ?_
      refine g_icmpY X368 hx (pcY := 49) (hb hby d10_11) (by decide) (by decide) (show ¬ (1 : Int32) < (1 : Int32) from by decide) ?_
      refine g_iloadN X368 hx (pc' := 50) rfl (hb hby d10_49) rfl ?_
      exact g_retI X368 hx hlk hret (hb hby d10_50) (by decide) (by decide) (⟨_, rfl, rfl, by have e : (1 : Int32).toInt = 1 := rfl; have c0 := Cq_1 (q := q) (y := y0) (by omega); have c1 := Cq_0 (q := q) (y := y1) (by omega); have c2 := Cq_0 (q := q) (y := y2) (by omega); omega⟩)
  · replace hc31 : ¬ 0 < (cmpValue (FP.dcmp (FP.i2d y1) (FP.i2d q)) .g) := hc31
    have g371 : y1.toInt ≤ q.toInt := Int.not_lt.mp (fun z => hc31 ((own_gt y1 q).mpr z))
    refine g_iload X366 hx (pc' := 36) rfl (hb hby d10_34) rfl ?_
    refine g_iconst X366 hx (pc' := 37) (z := (1 : Int32)) rfl (hb hby d10_36) rfl ?_
    refine g_iadd X366 hx (pc' := 38) rfl (hb hby d10_37) ?_
    refine g_normI (z := (2 : Int32)) (by decide) ?_
    refine g_istoreN X366 hx (pc' := 39) rfl (hb hby d10_38) (l' := #[.val (.ref t), .val (.double (FP.i2d q)), .second, .val (.int (2 : Int32)), .val (.int (3 : Int32)), .val (.int (1 : Int32))]) rfl ?_
    refine g_goto X366 hx (pc' := 46) (hb hby d10_39) (by decide) (by decide) ?_
    refine g_goto X366 hx (pc' := 8) (hb hby d10_46) (by decide) (by decide) ?_
    refine g_iloadN X366 hx (pc' := 9) rfl (hb hby d10_8) rfl ?_
    refine g_iload X366 hx (pc' := 11) rfl (hb hby d10_9) rfl ?_
    refine g_icmpN X366 hx (pcN := 14) (hb hby d10_11) rfl (show ¬ (¬ (2 : Int32) < (3 : Int32)) from by decide) ?_
    refine g_iloadN X366 hx (pc' := 15) rfl (hb hby d10_14) rfl ?_
    refine g_iload X366 hx (pc' := 17) rfl (hb hby d10_15) rfl ?_
    refine g_iadd X366 hx (pc' := 18) rfl (hb hby d10_17) ?_
    refine g_normI (z := (5 : Int32)) (by decide) ?_
    refine g_iconst X366 hx (pc' := 19) (z := (1 : Int32)) rfl (hb hby d10_18) rfl ?_
    refine g_iushr X366 hx (pc' := 20) rfl (hb hby d10_19) ?_
    refine g_normI (z := (2 : Int32)) (by decide) ?_
    refine g_istore X366 hx (pc' := 22) rfl (hb hby d10_20) (l' := #[.val (.ref t), .val (.double (FP.i2d q)), .second, .val (.int (2 : Int32)), .val (.int (3 : Int32)), .val (.int (2 : Int32))]) rfl ?_
    refine g_aloadN X366 hx (pc' := 23) rfl (hb hby d10_22) rfl rfl ?_
    refine g_getF X366 hx hZ hown (hw _ (List.mem_of_getElem? (i := 11) rfl)) Via.refl Fs (pc' := 26) rfl (hb hby d10_23) (fun T372 X372 => ?_)
    refine g_iload X372 hx (pc' := 28) rfl (hb hby d10_26) rfl ?_
    refine g_daload X372 hx hZ Aa (i := 2) (by decide) (show (2 : Nat) < 3 by decide) (v := (FP.i2d y2)) rfl (pc' := 29) rfl (hb hby d10_28) ?_
    refine g_dloadN X372 hx (pc' := 30) rfl (hb hby d10_29) rfl ?_
    refine g_dcmp X372 hx (pc' := 31) (z := (cmpValue (FP.dcmp (FP.i2d y2) (FP.i2d q)) .g)) rfl (hb hby d10_30) rfl ?_
    refine g_if X372 hx (pcY := 42) (pcN := 34) (hb hby d10_31) (by decide) (by decide) rfl (fun hc31 => ?_) (fun hc31 => ?_)
    · replace hc31 : 0 < (cmpValue (FP.dcmp (FP.i2d y2) (FP.i2d q)) .g) := hc31
      have g373 : q.toInt < y2.toInt := (own_gt y2 q).mp hc31
      refine g_iload X372 hx (pc' := 44) rfl (hb hby d10_42) rfl ?_
      refine g_istore X372 hx (pc' := 46) rfl (hb hby d10_44) (l' := #[.val (.ref t), .val (.double (FP.i2d q)), .second, .val (.int (2 : Int32)), .val (.int (2 : Int32)), .val (.int (2 : Int32))]) rfl ?_
      refine g_goto X372 hx (pc' := 8) (hb hby d10_46) (by decide) (by decide) ?_
      refine g_iloadN X372 hx (pc' := 9) rfl (hb hby d10_8) rfl ?_
      refine g_iload X372 hx (pc' := 11) rfl (hb hby d10_9) rfl ?_
      refine g_icmpY X372 hx (pcY := 49) (hb hby d10_11) (by decide) (by decide) (show ¬ (2 : Int32) < (2 : Int32) from by decide) ?_
      refine g_iloadN X372 hx (pc' := 50) rfl (hb hby d10_49) rfl ?_
      exact g_retI X372 hx hlk hret (hb hby d10_50) (by decide) (by decide) (⟨_, rfl, rfl, by have e : (2 : Int32).toInt = 2 := rfl; have c0 := Cq_1 (q := q) (y := y0) (by omega); have c1 := Cq_1 (q := q) (y := y1) (by omega); have c2 := Cq_0 (q := q) (y := y2) (by omega); omega⟩)
    · replace hc31 : ¬ 0 < (cmpValue (FP.dcmp (FP.i2d y2) (FP.i2d q)) .g) := hc31
      have g374 : y2.toInt ≤ q.toInt := Int.not_lt.mp (fun z => hc31 ((own_gt y2 q).mpr z))
      refine g_iload X372 hx (pc' := 36) rfl (hb hby d10_34) rfl ?_
      refine g_iconst X372 hx (pc' := 37) (z := (1 : Int32)) rfl (hb hby d10_36) rfl ?_
      refine g_iadd X372 hx (pc' := 38) rfl (hb hby d10_37) ?_
      refine g_normI (z := (3 : Int32)) (by decide) ?_
      refine g_istoreN X372 hx (pc' := 39) rfl (hb hby d10_38) (l' := #[.val (.ref t), .val (.double (FP.i2d q)), .second, .val (.int (3 : Int32)), .val (.int (3 : Int32)), .val (.int (2 : Int32))]) rfl ?_
      refine g_goto X372 hx (pc' := 46) (hb hby d10_39) (by decide) (by decide) ?_
      refine g_goto X372 hx (pc' := 8) (hb hby d10_46) (by decide) (by decide) ?_
      refine g_iloadN X372 hx (pc' := 9) rfl (hb hby d10_8) rfl ?_
      refine g_iload X372 hx (pc' := 11) rfl (hb hby d10_9) rfl ?_
      refine g_icmpY X372 hx (pcY := 49) (hb hby d10_11) (by decide) (by decide) (show ¬ (3 : Int32) < (3 : Int32) from by decide) ?_
      refine g_iloadN X372 hx (pc' := 50) rfl (hb hby d10_49) rfl ?_
      exact g_retI X372 hx hlk hret (hb hby d10_50) (by decide) (by decide) (⟨_, rfl, rfl, by have e : (3 : Int32).toInt = 3 := rfl; have c0 := Cq_1 (q := q) (y := y0) (by omega); have c1 := Cq_1 (q := q) (y := y1) (by omega); have c2 := Cq_1 (q := q) (y := y2) (by omega); omega⟩)
set_option maxRecDepth 65536 in
set_option maxHeartbeats 40000000 in
theorem rm10_4 (l : Launch) (Z : State) (a0 : Array Value) (hw : ∀ d ∈ tables_1, d.before a0 Z = true) (ws : List Jvm.Cond) (n0 : Nat) (t aa : Addr) (q : Int32) (y0 : Int32) (y1 : Int32) (y2 : Int32) (y3 : Int32) (h0 : Heap) (hn0 : n0 ≤ h0.size) (Et : Exa Z h0 t "com/example/loads_to_headways/loadstoheadways/replay/Times") (hgt : n0 ≤ t) (Fs : Fld Z h0 t "com/example/loads_to_headways/loadstoheadways/replay/Times" "seconds" "[D" (.ref aa)) (Fz : Fld Z h0 t "com/example/loads_to_headways/loadstoheadways/replay/Times" "size" "I" (.int (4 : Int32))) (Aa : AD Z h0 aa [(FP.i2d y0), (FP.i2d y1), (FP.i2d y2), (FP.i2d y3)]) (s0 : y0.toInt ≤ y1.toInt) (s1 : y1.toInt ≤ y2.toInt) (s2 : y2.toInt ≤ y3.toInt) :
    Con l Z n0 (⟨"com/example/loads_to_headways/loadstoheadways/replay/Times", "countAtOrBefore", "(D)I"⟩ : MethodName) prog_31_method_4_code 6 (some .int) ws ({ frames := 0, cells := 0, slots := 0, locals := 0 } : Room) #[(.ref t), (.double (FP.i2d q))] h0 (fun v h => ∃ z : Int32, v = some (.int z) ∧ h = h0 ∧ z.toInt = Cq q y0 + Cq q y1 + Cq q y2 + Cq q y3) := by
  refine con_start (plainFor_of_name (by first | (simp [plainName, overriddenIn]; done) | decide +kernel)) (fr0 := fun m => mkF m 0 #[.val (.ref t), .val (.double (FP.i2d q)), .second, .unset, .unset, .unset] []) (fun m => by first | (simp [entryFrame, mkF, argsToLocals, Value.category]; done) | rfl) ?_
  intro p e s m below meth c T0 hx hZ hby hml hown hnm hret hlk X0
  replace hown : s.vm.findClass "com/example/loads_to_headways/loadstoheadways/replay/Times" = some m.cls := hown
  replace hml : c.maxLocals = 6 := hml
  refine g_iconst X0 hx (pc' := 1) (z := (0 : Int32)) rfl (hb hby d10_0) rfl ?_
  refine g_istoreN X0 hx (pc' := 2) rfl (hb hby d10_1) (l' := #[.val (.ref t), .val (.double (FP.i2d q)), .second, .val (.int (0 : Int32)), .unset, .unset]) rfl ?_
  refine g_aloadN X0 hx (pc' := 3) rfl (hb hby d10_2) rfl rfl ?_
  refine g_getF X0 hx hZ hown (hw _ (List.mem_of_getElem? (i := 18) rfl)) Via.refl Fz (pc' := 6) rfl (hb hby d10_3) (fun T375 X375 => ?_)
  refine g_istore X375 hx (pc' := 8) rfl (hb hby d10_6) (l' := #[.val (.ref t), .val (.double (FP.i2d q)), .second, .val (.int (0 : Int32)), .val (.int (4 : Int32)), .unset]) rfl ?_
  refine g_iloadN X375 hx (pc' := 9) rfl (hb hby d10_8) rfl ?_
  refine g_iload X375 hx (pc' := 11) rfl (hb hby d10_9) rfl ?_
  refine g_icmpN X375 hx (pcN := 14) (hb hby d10_11) rfl (show ¬ (¬ (0 : Int32) < (4 : Int32)) from by decide) ?_
  refine g_iloadN X375 hx (pc' := 15) rfl (hb hby d10_14) rfl ?_
  refine g_iload X375 hx (pc' := 17) rfl (hb hby d10_15) rfl ?_
  refine g_iadd X375 hx (pc' := 18) rfl (hb hby d10_17) ?_
  refine g_normI (z := (4 : Int32)) (by decide) ?_
  refine g_iconst X375 hx (pc' := 19) (z := (1 : Int32)) rfl (hb hby d10_18) rfl ?_
  refine g_iushr X375 hx (pc' := 20) rfl (hb hby d10_19) ?_
  refine g_normI (z := (2 : Int32)) (by decide) ?_
  refine g_istore X375 hx (pc' := 22) rfl (hb hby d10_20) (l' := #[.val (.ref t), .val (.double (FP.i2d q)), .second, .val (.int (0 : Int32)), .val (.int (4 : Int32)), .val (.int (2 : Int32))]) rfl ?_
  refine g_aloadN X375 hx (pc' := 23) rfl (hb hby d10_22) rfl rfl ?_
  refine g_getF X375 hx hZ hown (hw _ (List.mem_of_getElem? (i := 11) rfl)) Via.refl Fs (pc' := 26) rfl (hb hby d10_23) (fun T376 X376 => ?_)
  refine g_iload X376 hx (pc' := 28) rfl (hb hby d10_26) rfl ?_
  refine g_daload X376 hx hZ Aa (i := 2) (by decide) (show (2 : Nat) < 4 by decide) (v := (FP.i2d y2)) rfl (pc' := 29) rfl (hb hby d10_28) ?_
  refine g_dloadN X376 hx (pc' := 30) rfl (hb hby d10_29) rfl ?_
  refine g_dcmp X376 hx (pc' := 31) (z := (cmpValue (FP.dcmp (FP.i2d y2) (FP.i2d q)) .g)) rfl (hb hby d10_30) rfl ?_
  refine g_if X376 hx (pcY := 42) (pcN := 34) (hb hby d10_31) (by decide) (by decide) rfl (fun hc31 => ?_) (fun hc31 => ?_)
  · replace hc31 : 0 < (cmpValue (FP.dcmp (FP.i2d y2) (FP.i2d q)) .g) := hc31
    have g377 : q.toInt < y2.toInt := (own_gt y2 q).mp hc31
    refine g_iload X376 hx (pc' := 44) rfl (hb hby d10_42) rfl ?_
    refine g_istore X376 hx (pc' := 46) rfl (hb hby d10_44) (l' := #[.val (.ref t), .val (.double (FP.i2d q)), .second, .val (.int (0 : Int32)), .val (.int (2 : Int32)), .val (.int (2 : Int32))]) rfl ?_
    refine g_goto X376 hx (pc' := 8) (hb hby d10_46) (by decide) (by decide) ?_
    refine g_iloadN X376 hx (pc' := 9) rfl (hb hby d10_8) rfl ?_
    refine g_iload X376 hx (pc' := 11) rfl (hb hby d10_9) rfl ?_
    refine g_icmpN X376 hx (pcN := 14) (hb hby d10_11) rfl (show ¬ (¬ (0 : Int32) < (2 : Int32)) from by decide) ?_
    refine g_iloadN X376 hx (pc' := 15) rfl (hb hby d10_14) rfl ?_
    refine g_iload X376 hx (pc' := 17) rfl (hb hby d10_15) rfl ?_
    refine g_iadd X376 hx (pc' := 18) rfl (hb hby d10_17) ?_
    refine g_normI (z := (2 : Int32)) (by decide) ?_
    refine g_iconst X376 hx (pc' := 19) (z := (1 : Int32)) rfl (hb hby d10_18) rfl ?_
    refine g_iushr X376 hx (pc' := 20) rfl (hb hby d10_19) ?_
    refine g_normI (z := (1 : Int32)) (by decide) ?_
    refine g_istore X376 hx (pc' := 22) rfl (hb hby d10_20) (l' := #[.val (.ref t), .val (.double (FP.i2d q)), .second, .val (.int (0 : Int32)), .val (.int (2 : Int32)), .val (.int (1 : Int32))]) rfl ?_
    refine g_aloadN X376 hx (pc' := 23) rfl (hb hby d10_22) rfl rfl ?_
    refine g_getF X376 hx hZ hown (hw _ (List.mem_of_getElem? (i := 11) rfl)) Via.refl Fs (pc' := 26) rfl (hb hby d10_23) (fun T378 X378 => ?_)
    refine g_iload X378 hx (pc' := 28) rfl (hb hby d10_26) rfl ?_
    refine g_daload X378 hx hZ Aa (i := 1) (by decide) (show (1 : Nat) < 4 by decide) (v := (FP.i2d y1)) rfl (pc' := 29) rfl (hb hby d10_28) ?_
    refine g_dloadN X378 hx (pc' := 30) rfl (hb hby d10_29) rfl ?_
    refine g_dcmp X378 hx (pc' := 31) (z := (cmpValue (FP.dcmp (FP.i2d y1) (FP.i2d q)) .g)) rfl (hb hby d10_30) rfl ?_
    refine g_if X378 hx (pcY := 42) (pcN := 34) (hb hby d10_31) (by decide) (by decide) rfl (fun hc31 => ?_) (fun hc31 => ?_)
    · replace hc31 : 0 < (cmpValue (FP.dcmp (FP.i2d y1) (FP.i2d q)) .g) := hc31
      have g379 : q.toInt < y1.toInt := (own_gt y1 q).mp hc31
      refine g_iload X378 hx (pc' := 44) rfl (hb hby d10_42) rfl ?_
      refine g_istore X378 hx (pc' := 46) rfl (hb hby d10_44) (l' := #[.val (.ref t), .val (.double (FP.i2d q)), .second, .val (.int (0 : Int32)), .val (.int (1 : Int32)), .val (.int (1 : Int32))]) rfl ?_
      refine g_goto X378 hx (pc' := 8) (hb hby d10_46) (by decide) (by decide) ?_
      refine g_iloadN X378 hx (pc' := 9) rfl (hb hby d10_8) rfl ?_
      refine g_iload X378 hx (pc' := 11) rfl (hb hby d10_9) rfl ?_
      refine g_icmpN X378 hx (pcN := 14) (hb hby d10_11) rfl (show ¬ (¬ (0 : Int32) < (1 : Int32)) from by decide) ?_
      refine g_iloadN X378 hx (pc' := 15) rfl (hb hby d10_14) rfl ?_
      refine g_iload X378 hx (pc' := 17) rfl (hb hby d10_15) rfl ?_
      refine g_iadd X378 hx (pc' := 18) rfl (hb hby d10_17) ?_
      refine g_normI (z := (1 : Int32)) (by decide) ?_
      refine g_iconst X378 hx (pc' := 19) (z := (1 : Int32)) rfl (hb hby d10_18) rfl ?_
      refine g_iushr X378 hx (pc' := 20) rfl (hb hby d10_19) ?_
      refine g_normI (z := (0 : Int32)) (by decide) ?_
      refine g_istore X378 hx (pc' := 22) rfl (hb hby d10_20) (l' := #[.val (.ref t), .val (.double (FP.i2d q)), .second, .val (.int (0 : Int32)), .val (.int (1 : Int32)), .val (.int (0 : Int32))]) rfl ?_
      refine g_aloadN X378 hx (pc' := 23) rfl (hb hby d10_22) rfl rfl ?_
      refine g_getF X378 hx hZ hown (hw _ (List.mem_of_getElem? (i := 11) rfl)) Via.refl Fs (pc' := 26) rfl (hb hby d10_23) (fun T380 X380 => ?_)
      refine g_iload X380 hx (pc' := 28) rfl (hb hby d10_26) rfl ?_
      refine g_daload X380 hx hZ Aa (i := 0) (by decide) (show (0 : Nat) < 4 by decide) (v := (FP.i2d y0)) rfl (pc' := 29) rfl (hb hby d10_28) ?_
      refine g_dloadN X380 hx (pc' := 30) rfl (hb hby d10_29) rfl ?_
      refine g_dcmp X380 hx (pc' := 31) (z := (cmpValue (FP.dcmp (FP.i2d y0) (FP.i2d q)) .g)) rfl (hb hby d10_30) rfl ?_
      refine g_if X380 hx (pcY := 42) (pcN := 34) (hb hby d10_31) (by decide) (by decide) rfl (fun hc31 => ?_) (fun hc31 => ?_)
      · replace hc31 : 0 < (cmpValue (FP.dcmp (FP.i2d y0) (FP.i2d q)) .g) := hc31
        have g381 : q.toInt < y0.toInt := (own_gt y0 q).mp hc31
        refine g_iload X380 hx (pc' := 44) rfl (hb hby d10_42) rfl ?_
        refine g_istore X380 hx (pc' := 46) rfl (hb hby d10_44) (l' := #[.val (.ref t), .val (.double (FP.i2d q)), .second, .val (.int (0 : Int32)), .val (.int (0 : Int32)), .val (.int (0 : Int32))]) rfl ?_
        refine g_goto X380 hx (pc' := 8) (hb hby d10_46) (by decide) (by decide) ?_
        refine g_iloadN X380 hx (pc' := 9) rfl (hb hby d10_8) rfl ?_
        refine g_iload X380 hx (pc' := 11) rfl (hb hby d10_9) rfl ?_
        refine g_icmpY X380 hx (pcY := 49) (hb hby d10_11) (by decide) (by decide) (show ¬ (0 : Int32) < (0 : Int32) from by decide) ?_
        refine g_iloadN X380 hx (pc' := 50) rfl (hb hby d10_49) rfl ?_
        exact g_retI X380 hx hlk hret (hb hby d10_50) (by decide) (by decide) (⟨_, rfl, rfl, by have e : (0 : Int32).toInt = 0 := rfl; have c0 := Cq_0 (q := q) (y := y0) (by omega); have c1 := Cq_0 (q := q) (y := y1) (by omega); have c2 := Cq_0 (q := q) (y := y2) (by omega); have c3 := Cq_0 (q := q) (y := y3) (by omega); omega⟩)
      · replace hc31 : ¬ 0 < (cmpValue (FP.dcmp (FP.i2d y0) (FP.i2d q)) .g) := hc31
        have g382 : y0.toInt ≤ q.toInt := Int.not_lt.mp (fun z => hc31 ((own_gt y0 q).mpr z))
        refine g_iload X380 hx (pc' := 36) rfl (hb hby d10_34) rfl ?_
        refine g_iconst X380 hx (pc' := 37) (z := (1 : Int32)) rfl (hb hby d10_36) rfl ?_
        refine g_iadd X380 hx (pc' := 38) rfl (hb hby d10_37) ?_
        refine g_normI (z := (1 : Int32)) (by decide) ?_
        refine g_istoreN X380 hx (pc' := 39) rfl (hb hby d10_38) (l' := #[.val (.ref t), .val (.double (FP.i2d q)), .second, .val (.int (1 : Int32)), .val (.int (1 : Int32)), .val (.int (0 : Int32))]) rfl ?_
        refine g_goto X380 hx (pc' := 46) (hb hby d10_39) (by decide) (by decide) ?_
        refine g_goto X380 hx (pc' := 8) (hb hby d10_46) (by decide) (by decide) ?_
        refine g_iloadN X380 hx (pc' := 9) rfl (hb hby d10_8) rfl ?_
        refine g_iload X380 hx (pc' := 11) rfl (hb hby d10_9) rfl ?_
        refine g_icmpY X380 hx (pcY := 49) (hb hby d10_11) (by decide) (by decide) (show ¬ (1 : Int32) < (1 : Int32) from by decide) ?_
        refine g_iloadN X380 hx (pc' := 50) rfl (hb hby d10_49) rfl ?_
        exact g_retI X380 hx hlk hret (hb hby d10_50) (by decide) (by decide) (⟨_, rfl, rfl, by have e : (1 : Int32).toInt = 1 := rfl; have c0 := Cq_1 (q := q) (y := y0) (by omega); have c1 := Cq_0 (q := q) (y := y1) (by omega); have c2 := Cq_0 (q := q) (y := y2) (by omega); have c3 := Cq_0 (q := q) (y := y3) (by omega); omega⟩)
    · replace hc31 : ¬ 0 < (cmpValue (FP.dcmp (FP.i2d y1) (FP.i2d q)) .g) := hc31
      have g383 : y1.toInt ≤ q.toInt := Int.not_lt.mp (fun z => hc31 ((own_gt y1 q).mpr z))
      refine g_iload X378 hx (pc' := 36) rfl (hb hby d10_34) rfl ?_
      refine g_iconst X378 hx (pc' := 37) (z := (1 : Int32)) rfl (hb hby d10_36) rfl ?_
      refine g_iadd X378 hx (pc' := 38) rfl (hb hby d10_37) ?_
      refine g_normI (z := (2 : Int32)) (by decide) ?_
      refine g_istoreN X378 hx (pc' := 39) rfl (hb hby d10_38) (l' := #[.val (.ref t), .val (.double (FP.i2d q)), .second, .val (.int (2 : Int32)), .val (.int (2 : Int32)), .val (.int (1 : Int32))]) rfl ?_
      refine g_goto X378 hx (pc' := 46) (hb hby d10_39) (by decide) (by decide) ?_
      refine g_goto X378 hx (pc' := 8) (hb hby d10_46) (by decide) (by decide) ?_
      refine g_iloadN X378 hx (pc' := 9) rfl (hb hby d10_8) rfl ?_
      refine g_iload X378 hx (pc' := 11) rfl (hb hby d10_9) rfl ?_
      refine g_icmpY X378 hx (pcY := 49) (hb hby d10_11) (by decide) (by decide) (show ¬ (2 : Int32) < (2 : Int32) from by decide) ?_
      refine g_iloadN X378 hx (pc' := 50) rfl (hb hby d10_49) rfl ?_
      exact g_retI X378 hx hlk hret (hb hby d10_50) (by decide) (by decide) (⟨_, rfl, rfl, by have e : (2 : Int32).toInt = 2 := rfl; have c0 := Cq_1 (q := q) (y := y0) (by omega); have c1 := Cq_1 (q := q) (y := y1) (by omega); have c2 := Cq_0 (q := q) (y := y2) (by omega); have c3 := Cq_0 (q := q) (y := y3) (by omega); omega⟩)
  · replace hc31 : ¬ 0 < (cmpValue (FP.dcmp (FP.i2d y2) (FP.i2d q)) .g) := hc31
    have g384 : y2.toInt ≤ q.toInt := Int.not_lt.mp (fun z => hc31 ((own_gt y2 q).mpr z))
    refine g_iload X376 hx (pc' := 36) rfl (hb hby d10_34) rfl ?_
    refine g_iconst X376 hx (pc' := 37) (z := (1 : Int32)) rfl (hb hby d10_36) rfl ?_
    refine g_iadd X376 hx (pc' := 38) rfl (hb hby d10_37) ?_
    refine g_normI (z := (3 : Int32)) (by decide) ?_
    refine g_istoreN X376 hx (pc' := 39) rfl (hb hby d10_38) (l' := #[.val (.ref t), .val (.double (FP.i2d q)), .second, .val (.int (3 : Int32)), .val (.int (4 : Int32)), .val (.int (2 : Int32))]) rfl ?_
    refine g_goto X376 hx (pc' := 46) (hb hby d10_39) (by decide) (by decide) ?_
    refine g_goto X376 hx (pc' := 8) (hb hby d10_46) (by decide) (by decide) ?_
    refine g_iloadN X376 hx (pc' := 9) rfl (hb hby d10_8) rfl ?_
    refine g_iload X376 hx (pc' := 11) rfl (hb hby d10_9) rfl ?_
    refine g_icmpN X376 hx (pcN := 14) (hb hby d10_11) rfl (show ¬ (¬ (3 : Int32) < (4 : Int32)) from by decide) ?_
    refine g_iloadN X376 hx (pc' := 15) rfl (hb hby d10_14) rfl ?_
    refine g_iload X376 hx (pc' := 17) rfl (hb hby d10_15) rfl ?_
    refine g_iadd X376 hx (pc' := 18) rfl (hb hby d10_17) ?_
    refine g_normI (z := (7 : Int32)) (by decide) ?_
    refine g_iconst X376 hx (pc' := 19) (z := (1 : Int32)) rfl (hb hby d10_18) rfl ?_
    refine g_iushr X376 hx (pc' := 20) rfl (hb hby d10_19) ?_
    refine g_normI (z := (3 : Int32)) (by decide) ?_
    refine g_istore X376 hx (pc' := 22) rfl (hb hby d10_20) (l' := #[.val (.ref t), .val (.double (FP.i2d q)), .second, .val (.int (3 : Int32)), .val (.int (4 : Int32)), .val (.int (3 : Int32))]) rfl ?_
    refine g_aloadN X376 hx (pc' := 23) rfl (hb hby d10_22) rfl rfl ?_
    refine g_getF X376 hx hZ hown (hw _ (List.mem_of_getElem? (i := 11) rfl)) Via.refl Fs (pc' := 26) rfl (hb hby d10_23) (fun T385 X385 => ?_)
    refine g_iload X385 hx (pc' := 28) rfl (hb hby d10_26) rfl ?_
    refine g_daload X385 hx hZ Aa (i := 3) (by decide) (show (3 : Nat) < 4 by decide) (v := (FP.i2d y3)) rfl (pc' := 29) rfl (hb hby d10_28) ?_
    refine g_dloadN X385 hx (pc' := 30) rfl (hb hby d10_29) rfl ?_
    refine g_dcmp X385 hx (pc' := 31) (z := (cmpValue (FP.dcmp (FP.i2d y3) (FP.i2d q)) .g)) rfl (hb hby d10_30) rfl ?_
    refine g_if X385 hx (pcY := 42) (pcN := 34) (hb hby d10_31) (by decide) (by decide) rfl (fun hc31 => ?_) (fun hc31 => ?_)
    · replace hc31 : 0 < (cmpValue (FP.dcmp (FP.i2d y3) (FP.i2d q)) .g) := hc31
      have g386 : q.toInt < y3.toInt := (own_gt y3 q).mp hc31
      refine g_iload X385 hx (pc' := 44) rfl (hb hby d10_42) rfl ?_
      refine g_istore X385 hx (pc' := 46) rfl (hb hby d10_44) (l' := #[.val (.ref t), .val (.double (FP.i2d q)), .second, .val (.int (3 : Int32)), .val (.int (3 : Int32)), .val (.int (3 : Int32))]) rfl ?_
      refine g_goto X385 hx (pc' := 8) (hb hby d10_46) (by decide) (by decide) ?_
      refine g_iloadN X385 hx (pc' := 9) rfl (hb hby d10_8) rfl ?_
      refine g_iload X385 hx (pc' := 11) rfl (hb hby d10_9) rfl ?_
      refine g_icmpY X385 hx (pcY := 49) (hb hby d10_11) (by decide) (by decide) (show ¬ (3 : Int32) < (3 : Int32) from by decide) ?_
      refine g_iloadN X385 hx (pc' := 50) rfl (hb hby d10_49) rfl ?_
      exact g_retI X385 hx hlk hret (hb hby d10_50) (by decide) (by decide) (⟨_, rfl, rfl, by have e : (3 : Int32).toInt = 3 := rfl; have c0 := Cq_1 (q := q) (y := y0) (by omega); have c1 := Cq_1 (q := q) (y := y1) (by omega); have c2 := Cq_1 (q := q) (y := y2) (by omega); have c3 := Cq_0 (q := q) (y := y3) (by omega); omega⟩)
    · replace hc31 : ¬ 0 < (cmpValue (FP.dcmp (FP.i2d y3) (FP.i2d q)) .g) := hc31
      have g387 : y3.toInt ≤ q.toInt := Int.not_lt.mp (fun z => hc31 ((own_gt y3 q).mpr z))
      refine g_iload X385 hx (pc' := 36) rfl (hb hby d10_34) rfl ?_
      refine g_iconst X385 hx (pc' := 37) (z := (1 : Int32)) rfl (hb hby d10_36) rfl ?_
      refine g_iadd X385 hx (pc' := 38) rfl (hb hby d10_37) ?_
      refine g_normI (z := (4 : Int32)) (by decide) ?_
      refine g_istoreN X385 hx (pc' := 39) rfl (hb hby d10_38) (l' := #[.val (.ref t), .val (.double (FP.i2d q)), .second, .val (.int (4 : Int32)), .val (.int (4 : Int32)), .val (.int (3 : Int32))]) rfl ?_
      refine g_goto X385 hx (pc' := 46) (hb hby d10_39) (by decide) (by decide) ?_
      refine g_goto X385 hx (pc' := 8) (hb hby d10_46) (by decide) (by decide) ?_
      refine g_iloadN X385 hx (pc' := 9) rfl (hb hby d10_8) rfl ?_
      refine g_iload X385 hx (pc' := 11) rfl (hb hby d10_9) rfl ?_
      refine g_icmpY X385 hx (pcY := 49) (hb hby d10_11) (by decide) (by decide) (show ¬ (4 : Int32) < (4 : Int32) from by decide) ?_
      refine g_iloadN X385 hx (pc' := 50) rfl (hb hby d10_49) rfl ?_
      exact g_retI X385 hx hlk hret (hb hby d10_50) (by decide) (by decide) (⟨_, rfl, rfl, by have e : (4 : Int32).toInt = 4 := rfl; have c0 := Cq_1 (q := q) (y := y0) (by omega); have c1 := Cq_1 (q := q) (y := y1) (by omega); have c2 := Cq_1 (q := q) (y := y2) (by omega); have c3 := Cq_1 (q := q) (y := y3) (by omega); omega⟩)
set_option maxRecDepth 65536 in
set_option maxHeartbeats 40000000 in
theorem rm0 (l : Launch) (Z : State) (a0 : Array Value) (hw : ∀ d ∈ tables_1, d.before a0 Z = true) (ws : List Jvm.Cond) (n0 : Nat) (x0 : Int32) (x1 : Int32) (x2 : Int32) (x3 : Int32) (x4 : Int32) (x5 : Int32) (h0 : Heap) (hn0 : n0 ≤ h0.size)  :
    Con l Z n0 x code maxLocals ret ws room_1 #[(.int x0), (.int x1), (.int x2), (.int x3), (.int x4), (.int x5)] h0 (fun v h => v = some (.int 1)) := by
  refine con_start (plainFor_of_name (by first | (simp [plainName, overriddenIn]; done) | decide +kernel)) (fr0 := fun m => mkF m 0 #[.val (.int x0), .val (.int x1), .val (.int x2), .val (.int x3), .val (.int x4), .val (.int x5), .unset, .unset, .unset, .unset] []) (fun m => by first | (simp [entryFrame, mkF, argsToLocals, Value.category, maxLocals]; done) | rfl) ?_
  intro p e s m below meth c T0 hx hZ hby hml hown hnm hret hlk X0
  replace hown : s.vm.findClass "com/example/loads_to_headways/loadstoheadways/replay/TimesCountAtOrBeforePinLaw" = some m.cls := hown
  replace hml : c.maxLocals = 10 := hml
  refine g_iload X0 hx (pc' := 2) rfl (hb hby at_0) rfl ?_
  refine g_ldcI X0 hx hZ hown (hw _ (List.mem_of_getElem? (i := 0) rfl)) (pc' := 4) (v := (2147483647 : Int32)) rfl (hb hby at_2) ?_
  refine g_iand X0 hx (pc' := 5) rfl (hb hby at_4) ?_
  refine g_iconst X0 hx (pc' := 6) (z := (5 : Int32)) rfl (hb hby at_5) rfl ?_
  refine g_irem X0 hx (pc' := 7) rfl (hb hby at_6) (by decide) ?_
  refine g_absI (fun k h_k => ?_)
  refine g_istore X0 hx (pc' := 9) rfl (hb hby at_7) (l' := #[.val (.int x0), .val (.int x1), .val (.int x2), .val (.int x3), .val (.int x4), .val (.int x5), .val (.int k), .unset, .unset, .unset]) rfl ?_
  have hk5 : k = 0 ∨ k = 1 ∨ k = 2 ∨ k = 3 ∨ k = 4 := by rw [h_k]; exact own_mod5 x4
  clear h_k
  have b0 := Cq_b x5 x0
  have b1 := Cq_b x5 x1
  have b2 := Cq_b x5 x2
  have b3 := Cq_b x5 x3
  rcases hk5 with qk | qk | qk | qk | qk
  · subst qk
    refine g_newO X0 hx hZ hown (hw _ (List.mem_of_getElem? (i := 1) rfl)) (hw _ (List.mem_of_getElem? (i := 2) rfl)) (hw _ (List.mem_of_getElem? (i := 3) rfl)) (pc' := 12) rfl (hb hby at_9) (by decide) (by decide) (fun T388 h388 a388 ha388 X388 E388 A388 D388 => ?_)
    have G_a388 : n0 ≤ a388 := by rw [ha388]; exact hn0
    have Zs388 : n0 ≤ h388.size := Nat.le_trans hn0 E388.1
    have F388_seconds : Fld Z h388 a388 "com/example/loads_to_headways/loadstoheadways/replay/Times" "seconds" "[D" .null := D388 (Or.inl (hw _ (List.mem_of_getElem? (i := 12) rfl))) (ty := (.array .double)) (by decide)
    have F388_size : Fld Z h388 a388 "com/example/loads_to_headways/loadstoheadways/replay/Times" "size" "I" (.int (0 : Int32)) := D388 (Or.inl (hw _ (List.mem_of_getElem? (i := 19) rfl))) (ty := .int) (by decide)
    refine g_dup X388 hx (pc' := 13) rfl (hb hby at_12) rfl ?_
    refine g_callI X388 hx hZ hown rfl (hw _ (List.mem_of_getElem? (i := 4) rfl)) (hw _ (List.mem_of_getElem? (i := 5) rfl)) (hw _ (List.mem_of_getElem? (i := 3) rfl)) (hw _ (List.mem_of_getElem? (i := 6) rfl)) (by decide) (a := a388) (rm1 l Z a0 hw [] n0 a388 h388 Zs388 A388 G_a388 F388_seconds F388_size) pd_6 rfl rfl (by rw [hml]; rfl) (pc' := 16) rfl (hb hby at_13) (argsL := []) (rest := [(.ref a388)]) rfl (W := 1) (Nat.le_of_eq rfl) (by decide) (by decide) (by decide) (by decide) (fun v389 T389 h389 X389 hQ389 => ?_)
    obtain ⟨rfl, aa, ga, sa, K389, Fs389, Fz389, V389⟩ := hQ389
    have hne : aa ≠ a388 := (Nat.ne_of_lt (Nat.lt_of_lt_of_le A388.lt sa)).symm
    have f390 := A388.keep K389
    have zs389 : n0 ≤ h389.size := Nat.le_trans Zs388 K389.1
    show Go p e below s n0 _ _ _ (T389.setTop (mkF m 16 #[.val (.int x0), .val (.int x1), .val (.int x2), .val (.int x3), .val (.int x4), .val (.int x5), .val (.int (0 : Int32)), .unset, .unset, .unset] [(.ref a388)]))
    refine g_astore X389 hx (pc' := 18) rfl (hb hby at_16) rfl (l' := #[.val (.int x0), .val (.int x1), .val (.int x2), .val (.int x3), .val (.int x4), .val (.int x5), .val (.int (0 : Int32)), .val (.ref a388), .unset, .unset]) rfl ?_
    refine g_iload X389 hx (pc' := 20) rfl (hb hby at_18) rfl ?_
    refine g_ifY X389 hx (pcY := 30) (hb hby at_20) (by decide) (by decide) (show ¬ 0 < (0 : Int32) from by decide) ?_
    refine g_iload X389 hx (pc' := 32) rfl (hb hby at_30) rfl ?_
    refine g_iconst X389 hx (pc' := 33) (z := (1 : Int32)) rfl (hb hby at_32) rfl ?_
    refine g_icmpY X389 hx (pcY := 43) (hb hby at_33) (by decide) (by decide) (show ¬ (1 : Int32) < (0 : Int32) from by decide) ?_
    refine g_iload X389 hx (pc' := 45) rfl (hb hby at_43) rfl ?_
    refine g_iconst X389 hx (pc' := 46) (z := (2 : Int32)) rfl (hb hby at_45) rfl ?_
    refine g_icmpY X389 hx (pcY := 56) (hb hby at_46) (by decide) (by decide) (show ¬ (2 : Int32) < (0 : Int32) from by decide) ?_
    refine g_iload X389 hx (pc' := 58) rfl (hb hby at_56) rfl ?_
    refine g_iconst X389 hx (pc' := 59) (z := (3 : Int32)) rfl (hb hby at_58) rfl ?_
    refine g_icmpY X389 hx (pcY := 69) (hb hby at_59) (by decide) (by decide) (show ¬ (3 : Int32) < (0 : Int32) from by decide) ?_
    refine g_aload X389 hx (pc' := 71) rfl (hb hby at_69) rfl rfl ?_
    refine g_callV X389 hx hZ hown (hw _ (List.mem_of_getElem? (i := 13) rfl)) (hw _ (List.mem_of_getElem? (i := 14) rfl)) (hw _ (List.mem_of_getElem? (i := 16) rfl)) (hw _ (List.mem_of_getElem? (i := 15) rfl)) (hw _ (List.mem_of_getElem? (i := 3) rfl)) (hw _ (List.mem_of_getElem? (i := 17) rfl)) (by decide) (a := a388) f390 (rm3_0 l Z a0 hw [] n0 a388 aa  h389 zs389 f390 G_a388 Fs389 Fz389 V389) pd_6 rfl rfl (by rw [hml]; rfl) (pc' := 74) rfl (hb hby at_71) (argsL := []) (rest := []) rfl (W := 0) (Nat.le_of_eq rfl) (by decide) (by decide) (by decide) (by decide) (fun v391 T391 h391 X391 hQ391 => ?_)
    obtain ⟨rfl, bb, gb, sb, K391, Fs391, Fz391, V391, hcn⟩ := hQ391
    have f392 := f390.keep K391
    have zs391 : n0 ≤ h391.size := Nat.le_trans zs389 K391.1
    show Go p e below s n0 _ _ _ (T391.setTop (mkF m 74 #[.val (.int x0), .val (.int x1), .val (.int x2), .val (.int x3), .val (.int x4), .val (.int x5), .val (.int (0 : Int32)), .val (.ref a388), .unset, .unset] []))
    refine g_aload X391 hx (pc' := 76) rfl (hb hby at_74) rfl rfl ?_
    refine g_iload X391 hx (pc' := 78) rfl (hb hby at_76) rfl ?_
    refine g_i2d X391 hx (pc' := 79) rfl (hb hby at_78) ?_
    refine g_callV X391 hx hZ hown (hw _ (List.mem_of_getElem? (i := 45) rfl)) (hw _ (List.mem_of_getElem? (i := 46) rfl)) (hw _ (List.mem_of_getElem? (i := 48) rfl)) (hw _ (List.mem_of_getElem? (i := 47) rfl)) (hw _ (List.mem_of_getElem? (i := 3) rfl)) (hw _ (List.mem_of_getElem? (i := 49) rfl)) (by decide) (a := a388) f392 (rm10_0 l Z a0 hw [] n0 a388 bb x5  h391 zs391 f392 G_a388 Fs391 Fz391 V391 ) pd_7 rfl rfl (by rw [hml]; rfl) (pc' := 82) rfl (hb hby at_79) (argsL := [(.double (FP.i2d x5))]) (rest := []) rfl (W := 0) (Nat.le_of_eq rfl) (by decide) (by decide) (by decide) (by decide) (fun v393 T393 h393 X393 hQ393 => ?_)
    obtain ⟨got, rfl, he393, hgot⟩ := hQ393
    rw [he393] at X393
    show Go p e below s n0 _ _ _ (T393.setTop (mkF m 82 #[.val (.int x0), .val (.int x1), .val (.int x2), .val (.int x3), .val (.int x4), .val (.int x5), .val (.int (0 : Int32)), .val (.ref a388), .unset, .unset] [(.int got)]))
    refine g_istore X393 hx (pc' := 84) rfl (hb hby at_82) (l' := #[.val (.int x0), .val (.int x1), .val (.int x2), .val (.int x3), .val (.int x4), .val (.int x5), .val (.int (0 : Int32)), .val (.ref a388), .val (.int got), .unset]) rfl ?_
    refine g_iconst X393 hx (pc' := 85) (z := (0 : Int32)) rfl (hb hby at_84) rfl ?_
    refine g_absI (fun w0 h_w0 => ?_)
    refine g_istore X393 hx (pc' := 87) rfl (hb hby at_85) (l' := #[.val (.int x0), .val (.int x1), .val (.int x2), .val (.int x3), .val (.int x4), .val (.int x5), .val (.int (0 : Int32)), .val (.ref a388), .val (.int got), .val (.int w0)]) rfl ?_
    replace h_w0 : w0.toInt = 0 := by rw [h_w0]; rfl
    refine g_iload X393 hx (pc' := 89) rfl (hb hby at_87) rfl ?_
    refine g_ifY X393 hx (pcY := 104) (hb hby at_89) (by decide) (by decide) (show ¬ 0 < (0 : Int32) from by decide) ?_
    refine g_iload X393 hx (pc' := 106) rfl (hb hby at_104) rfl ?_
    refine g_iconst X393 hx (pc' := 107) (z := (1 : Int32)) rfl (hb hby at_106) rfl ?_
    refine g_icmpY X393 hx (pcY := 122) (hb hby at_107) (by decide) (by decide) (show ¬ (1 : Int32) < (0 : Int32) from by decide) ?_
    refine g_iload X393 hx (pc' := 124) rfl (hb hby at_122) rfl ?_
    refine g_iconst X393 hx (pc' := 125) (z := (2 : Int32)) rfl (hb hby at_124) rfl ?_
    refine g_icmpY X393 hx (pcY := 140) (hb hby at_125) (by decide) (by decide) (show ¬ (2 : Int32) < (0 : Int32) from by decide) ?_
    refine g_iload X393 hx (pc' := 142) rfl (hb hby at_140) rfl ?_
    refine g_iconst X393 hx (pc' := 143) (z := (3 : Int32)) rfl (hb hby at_142) rfl ?_
    refine g_icmpY X393 hx (pcY := 158) (hb hby at_143) (by decide) (by decide) (show ¬ (3 : Int32) < (0 : Int32) from by decide) ?_
    refine g_iload X393 hx (pc' := 160) rfl (hb hby at_158) rfl ?_
    refine g_iload X393 hx (pc' := 162) rfl (hb hby at_160) rfl ?_
    refine g_icmpN X393 hx (pcN := 165) (hb hby at_162) rfl (show ¬ (¬ got = w0) from fun q => q (Int32.toInt_inj.mp (by have c := hcn x5; omega))) ?_
    refine g_iconst X393 hx (pc' := 166) (z := (1 : Int32)) rfl (hb hby at_165) rfl ?_
    refine g_goto X393 hx (pc' := 170) (hb hby at_166) (by decide) (by decide) ?_
    exact g_retZ X393 hx hlk hret (Or.inr rfl) (hb hby at_170) (by decide) (by decide) (rfl)
  · subst qk
    refine g_newO X0 hx hZ hown (hw _ (List.mem_of_getElem? (i := 1) rfl)) (hw _ (List.mem_of_getElem? (i := 2) rfl)) (hw _ (List.mem_of_getElem? (i := 3) rfl)) (pc' := 12) rfl (hb hby at_9) (by decide) (by decide) (fun T394 h394 a394 ha394 X394 E394 A394 D394 => ?_)
    have G_a394 : n0 ≤ a394 := by rw [ha394]; exact hn0
    have Zs394 : n0 ≤ h394.size := Nat.le_trans hn0 E394.1
    have F394_seconds : Fld Z h394 a394 "com/example/loads_to_headways/loadstoheadways/replay/Times" "seconds" "[D" .null := D394 (Or.inl (hw _ (List.mem_of_getElem? (i := 12) rfl))) (ty := (.array .double)) (by decide)
    have F394_size : Fld Z h394 a394 "com/example/loads_to_headways/loadstoheadways/replay/Times" "size" "I" (.int (0 : Int32)) := D394 (Or.inl (hw _ (List.mem_of_getElem? (i := 19) rfl))) (ty := .int) (by decide)
    refine g_dup X394 hx (pc' := 13) rfl (hb hby at_12) rfl ?_
    refine g_callI X394 hx hZ hown rfl (hw _ (List.mem_of_getElem? (i := 4) rfl)) (hw _ (List.mem_of_getElem? (i := 5) rfl)) (hw _ (List.mem_of_getElem? (i := 3) rfl)) (hw _ (List.mem_of_getElem? (i := 6) rfl)) (by decide) (a := a394) (rm1 l Z a0 hw [] n0 a394 h394 Zs394 A394 G_a394 F394_seconds F394_size) pd_6 rfl rfl (by rw [hml]; rfl) (pc' := 16) rfl (hb hby at_13) (argsL := []) (rest := [(.ref a394)]) rfl (W := 1) (Nat.le_of_eq rfl) (by decide) (by decide) (by decide) (by decide) (fun v395 T395 h395 X395 hQ395 => ?_)
    obtain ⟨rfl, aa, ga, sa, K395, Fs395, Fz395, V395⟩ := hQ395
    have hne : aa ≠ a394 := (Nat.ne_of_lt (Nat.lt_of_lt_of_le A394.lt sa)).symm
    have f396 := A394.keep K395
    have zs395 : n0 ≤ h395.size := Nat.le_trans Zs394 K395.1
    show Go p e below s n0 _ _ _ (T395.setTop (mkF m 16 #[.val (.int x0), .val (.int x1), .val (.int x2), .val (.int x3), .val (.int x4), .val (.int x5), .val (.int (1 : Int32)), .unset, .unset, .unset] [(.ref a394)]))
    refine g_astore X395 hx (pc' := 18) rfl (hb hby at_16) rfl (l' := #[.val (.int x0), .val (.int x1), .val (.int x2), .val (.int x3), .val (.int x4), .val (.int x5), .val (.int (1 : Int32)), .val (.ref a394), .unset, .unset]) rfl ?_
    refine g_iload X395 hx (pc' := 20) rfl (hb hby at_18) rfl ?_
    refine g_ifN X395 hx (pcN := 23) (hb hby at_20) rfl (show ¬ (¬ 0 < (1 : Int32)) from by decide) ?_
    refine g_aload X395 hx (pc' := 25) rfl (hb hby at_23) rfl rfl ?_
    refine g_iloadN X395 hx (pc' := 26) rfl (hb hby at_25) rfl ?_
    refine g_i2d X395 hx (pc' := 27) rfl (hb hby at_26) ?_
    refine g_callV X395 hx hZ hown (hw _ (List.mem_of_getElem? (i := 50) rfl)) (hw _ (List.mem_of_getElem? (i := 51) rfl)) (hw _ (List.mem_of_getElem? (i := 53) rfl)) (hw _ (List.mem_of_getElem? (i := 52) rfl)) (hw _ (List.mem_of_getElem? (i := 3) rfl)) (hw _ (List.mem_of_getElem? (i := 54) rfl)) (by decide) (a := a394) f396 (rm11_0 l Z a0 hw [] n0 a394 aa (FP.i2d x0) (0 : UInt64) (0 : UInt64) (0 : UInt64) (0 : UInt64) (0 : UInt64) (0 : UInt64) (0 : UInt64) (0 : UInt64) (0 : UInt64) (0 : UInt64) (0 : UInt64) (0 : UInt64) (0 : UInt64) (0 : UInt64) (0 : UInt64) (0 : UInt64) h395 zs395 f396 G_a394 Fs395 Fz395 V395 ga hne) pd_8 rfl rfl (by rw [hml]; rfl) (pc' := 30) rfl (hb hby at_27) (argsL := [(.double (FP.i2d x0))]) (rest := []) rfl (W := 0) (Nat.le_of_eq rfl) (by decide) (by decide) (by decide) (by decide) (fun v397 T397 h397 X397 hQ397 => ?_)
    obtain ⟨rfl, K397, Fs397, Fz397, V397⟩ := hQ397
    have f398 := f396.keep K397
    have zs397 : n0 ≤ h397.size := Nat.le_trans zs395 K397.1
    show Go p e below s n0 _ _ _ (T397.setTop (mkF m 30 #[.val (.int x0), .val (.int x1), .val (.int x2), .val (.int x3), .val (.int x4), .val (.int x5), .val (.int (1 : Int32)), .val (.ref a394), .unset, .unset] []))
    refine g_iload X397 hx (pc' := 32) rfl (hb hby at_30) rfl ?_
    refine g_iconst X397 hx (pc' := 33) (z := (1 : Int32)) rfl (hb hby at_32) rfl ?_
    refine g_icmpY X397 hx (pcY := 43) (hb hby at_33) (by decide) (by decide) (show ¬ (1 : Int32) < (1 : Int32) from by decide) ?_
    refine g_iload X397 hx (pc' := 45) rfl (hb hby at_43) rfl ?_
    refine g_iconst X397 hx (pc' := 46) (z := (2 : Int32)) rfl (hb hby at_45) rfl ?_
    refine g_icmpY X397 hx (pcY := 56) (hb hby at_46) (by decide) (by decide) (show ¬ (2 : Int32) < (1 : Int32) from by decide) ?_
    refine g_iload X397 hx (pc' := 58) rfl (hb hby at_56) rfl ?_
    refine g_iconst X397 hx (pc' := 59) (z := (3 : Int32)) rfl (hb hby at_58) rfl ?_
    refine g_icmpY X397 hx (pcY := 69) (hb hby at_59) (by decide) (by decide) (show ¬ (3 : Int32) < (1 : Int32) from by decide) ?_
    refine g_aload X397 hx (pc' := 71) rfl (hb hby at_69) rfl rfl ?_
    refine g_callV X397 hx hZ hown (hw _ (List.mem_of_getElem? (i := 13) rfl)) (hw _ (List.mem_of_getElem? (i := 14) rfl)) (hw _ (List.mem_of_getElem? (i := 16) rfl)) (hw _ (List.mem_of_getElem? (i := 15) rfl)) (hw _ (List.mem_of_getElem? (i := 3) rfl)) (hw _ (List.mem_of_getElem? (i := 17) rfl)) (by decide) (a := a394) f398 (rm3_1 l Z a0 hw [] n0 a394 aa x0 h397 zs397 f398 G_a394 Fs397 Fz397 V397) pd_6 rfl rfl (by rw [hml]; rfl) (pc' := 74) rfl (hb hby at_71) (argsL := []) (rest := []) rfl (W := 0) (Nat.le_of_eq rfl) (by decide) (by decide) (by decide) (by decide) (fun v399 T399 h399 X399 hQ399 => ?_)
    obtain ⟨rfl, bb, gb, sb, K399, Fs399, Fz399, y0, V399, hcn⟩ := hQ399
    have f400 := f398.keep K399
    have zs399 : n0 ≤ h399.size := Nat.le_trans zs397 K399.1
    show Go p e below s n0 _ _ _ (T399.setTop (mkF m 74 #[.val (.int x0), .val (.int x1), .val (.int x2), .val (.int x3), .val (.int x4), .val (.int x5), .val (.int (1 : Int32)), .val (.ref a394), .unset, .unset] []))
    refine g_aload X399 hx (pc' := 76) rfl (hb hby at_74) rfl rfl ?_
    refine g_iload X399 hx (pc' := 78) rfl (hb hby at_76) rfl ?_
    refine g_i2d X399 hx (pc' := 79) rfl (hb hby at_78) ?_
    refine g_callV X399 hx hZ hown (hw _ (List.mem_of_getElem? (i := 45) rfl)) (hw _ (List.mem_of_getElem? (i := 46) rfl)) (hw _ (List.mem_of_getElem? (i := 48) rfl)) (hw _ (List.mem_of_getElem? (i := 47) rfl)) (hw _ (List.mem_of_getElem? (i := 3) rfl)) (hw _ (List.mem_of_getElem? (i := 49) rfl)) (by decide) (a := a394) f400 (rm10_1 l Z a0 hw [] n0 a394 bb x5 y0 h399 zs399 f400 G_a394 Fs399 Fz399 V399 ) pd_7 rfl rfl (by rw [hml]; rfl) (pc' := 82) rfl (hb hby at_79) (argsL := [(.double (FP.i2d x5))]) (rest := []) rfl (W := 0) (Nat.le_of_eq rfl) (by decide) (by decide) (by decide) (by decide) (fun v401 T401 h401 X401 hQ401 => ?_)
    obtain ⟨got, rfl, he401, hgot⟩ := hQ401
    rw [he401] at X401
    show Go p e below s n0 _ _ _ (T401.setTop (mkF m 82 #[.val (.int x0), .val (.int x1), .val (.int x2), .val (.int x3), .val (.int x4), .val (.int x5), .val (.int (1 : Int32)), .val (.ref a394), .unset, .unset] [(.int got)]))
    refine g_istore X401 hx (pc' := 84) rfl (hb hby at_82) (l' := #[.val (.int x0), .val (.int x1), .val (.int x2), .val (.int x3), .val (.int x4), .val (.int x5), .val (.int (1 : Int32)), .val (.ref a394), .val (.int got), .unset]) rfl ?_
    refine g_iconst X401 hx (pc' := 85) (z := (0 : Int32)) rfl (hb hby at_84) rfl ?_
    refine g_absI (fun w0 h_w0 => ?_)
    refine g_istore X401 hx (pc' := 87) rfl (hb hby at_85) (l' := #[.val (.int x0), .val (.int x1), .val (.int x2), .val (.int x3), .val (.int x4), .val (.int x5), .val (.int (1 : Int32)), .val (.ref a394), .val (.int got), .val (.int w0)]) rfl ?_
    replace h_w0 : w0.toInt = 0 := by rw [h_w0]; rfl
    refine g_iload X401 hx (pc' := 89) rfl (hb hby at_87) rfl ?_
    refine g_ifN X401 hx (pcN := 92) (hb hby at_89) rfl (show ¬ (¬ 0 < (1 : Int32)) from by decide) ?_
    refine g_iloadN X401 hx (pc' := 93) rfl (hb hby at_92) rfl ?_
    refine g_iload X401 hx (pc' := 95) rfl (hb hby at_93) rfl ?_
    suffices J95 : ∀ (w1 : Int32), (w1.toInt = (0 : Int) + Cq x5 x0) → Go p e below s n0 (fun v h => v = some (.int 1)) room_1.cells room_1.slots (T401.setTop (mkF m 104 #[.val (.int x0), .val (.int x1), .val (.int x2), .val (.int x3), .val (.int x4), .val (.int x5), .val (.int (1 : Int32)), .val (.ref a394), .val (.int got), .val (.int w1)] [])) by
      refine g_icmp X401 hx (pcY := 104) (pcN := 98) (hb hby at_95) (by decide) (by decide) rfl (fun hc95 => ?_) (fun hc95 => ?_)
      · replace hc95 : x5 < x0 := hc95
        exact J95 _ (by first | exact own_wY hc95 h_w0 | exact own_wN hc95 h_w0 (by omega))
      · replace hc95 : ¬ x5 < x0 := hc95
        refine g_iload X401 hx (pc' := 100) rfl (hb hby at_98) rfl ?_
        refine g_iconst X401 hx (pc' := 101) (z := (1 : Int32)) rfl (hb hby at_100) rfl ?_
        refine g_iadd X401 hx (pc' := 102) rfl (hb hby at_101) ?_
        refine g_istore X401 hx (pc' := 104) rfl (hb hby at_102) (l' := #[.val (.int x0), .val (.int x1), .val (.int x2), .val (.int x3), .val (.int x4), .val (.int x5), .val (.int (1 : Int32)), .val (.ref a394), .val (.int got), .val (.int (w0 + (1 : Int32)))]) rfl ?_
        exact J95 _ (by first | exact own_wY hc95 h_w0 | exact own_wN hc95 h_w0 (by omega))
    intro w1 h_w1
    refine g_iload X401 hx (pc' := 106) rfl (hb hby at_104) rfl ?_
    refine g_iconst X401 hx (pc' := 107) (z := (1 : Int32)) rfl (hb hby at_106) rfl ?_
    refine g_icmpY X401 hx (pcY := 122) (hb hby at_107) (by decide) (by decide) (show ¬ (1 : Int32) < (1 : Int32) from by decide) ?_
    refine g_iload X401 hx (pc' := 124) rfl (hb hby at_122) rfl ?_
    refine g_iconst X401 hx (pc' := 125) (z := (2 : Int32)) rfl (hb hby at_124) rfl ?_
    refine g_icmpY X401 hx (pcY := 140) (hb hby at_125) (by decide) (by decide) (show ¬ (2 : Int32) < (1 : Int32) from by decide) ?_
    refine g_iload X401 hx (pc' := 142) rfl (hb hby at_140) rfl ?_
    refine g_iconst X401 hx (pc' := 143) (z := (3 : Int32)) rfl (hb hby at_142) rfl ?_
    refine g_icmpY X401 hx (pcY := 158) (hb hby at_143) (by decide) (by decide) (show ¬ (3 : Int32) < (1 : Int32) from by decide) ?_
    refine g_iload X401 hx (pc' := 160) rfl (hb hby at_158) rfl ?_
    refine g_iload X401 hx (pc' := 162) rfl (hb hby at_160) rfl ?_
    refine g_icmpN X401 hx (pcN := 165) (hb hby at_162) rfl (show ¬ (¬ got = w1) from fun q => q (Int32.toInt_inj.mp (by have c := hcn x5; omega))) ?_
    refine g_iconst X401 hx (pc' := 166) (z := (1 : Int32)) rfl (hb hby at_165) rfl ?_
    refine g_goto X401 hx (pc' := 170) (hb hby at_166) (by decide) (by decide) ?_
    exact g_retZ X401 hx hlk hret (Or.inr rfl) (hb hby at_170) (by decide) (by decide) (rfl)
  · subst qk
    refine g_newO X0 hx hZ hown (hw _ (List.mem_of_getElem? (i := 1) rfl)) (hw _ (List.mem_of_getElem? (i := 2) rfl)) (hw _ (List.mem_of_getElem? (i := 3) rfl)) (pc' := 12) rfl (hb hby at_9) (by decide) (by decide) (fun T402 h402 a402 ha402 X402 E402 A402 D402 => ?_)
    have G_a402 : n0 ≤ a402 := by rw [ha402]; exact hn0
    have Zs402 : n0 ≤ h402.size := Nat.le_trans hn0 E402.1
    have F402_seconds : Fld Z h402 a402 "com/example/loads_to_headways/loadstoheadways/replay/Times" "seconds" "[D" .null := D402 (Or.inl (hw _ (List.mem_of_getElem? (i := 12) rfl))) (ty := (.array .double)) (by decide)
    have F402_size : Fld Z h402 a402 "com/example/loads_to_headways/loadstoheadways/replay/Times" "size" "I" (.int (0 : Int32)) := D402 (Or.inl (hw _ (List.mem_of_getElem? (i := 19) rfl))) (ty := .int) (by decide)
    refine g_dup X402 hx (pc' := 13) rfl (hb hby at_12) rfl ?_
    refine g_callI X402 hx hZ hown rfl (hw _ (List.mem_of_getElem? (i := 4) rfl)) (hw _ (List.mem_of_getElem? (i := 5) rfl)) (hw _ (List.mem_of_getElem? (i := 3) rfl)) (hw _ (List.mem_of_getElem? (i := 6) rfl)) (by decide) (a := a402) (rm1 l Z a0 hw [] n0 a402 h402 Zs402 A402 G_a402 F402_seconds F402_size) pd_6 rfl rfl (by rw [hml]; rfl) (pc' := 16) rfl (hb hby at_13) (argsL := []) (rest := [(.ref a402)]) rfl (W := 1) (Nat.le_of_eq rfl) (by decide) (by decide) (by decide) (by decide) (fun v403 T403 h403 X403 hQ403 => ?_)
    obtain ⟨rfl, aa, ga, sa, K403, Fs403, Fz403, V403⟩ := hQ403
    have hne : aa ≠ a402 := (Nat.ne_of_lt (Nat.lt_of_lt_of_le A402.lt sa)).symm
    have f404 := A402.keep K403
    have zs403 : n0 ≤ h403.size := Nat.le_trans Zs402 K403.1
    show Go p e below s n0 _ _ _ (T403.setTop (mkF m 16 #[.val (.int x0), .val (.int x1), .val (.int x2), .val (.int x3), .val (.int x4), .val (.int x5), .val (.int (2 : Int32)), .unset, .unset, .unset] [(.ref a402)]))
    refine g_astore X403 hx (pc' := 18) rfl (hb hby at_16) rfl (l' := #[.val (.int x0), .val (.int x1), .val (.int x2), .val (.int x3), .val (.int x4), .val (.int x5), .val (.int (2 : Int32)), .val (.ref a402), .unset, .unset]) rfl ?_
    refine g_iload X403 hx (pc' := 20) rfl (hb hby at_18) rfl ?_
    refine g_ifN X403 hx (pcN := 23) (hb hby at_20) rfl (show ¬ (¬ 0 < (2 : Int32)) from by decide) ?_
    refine g_aload X403 hx (pc' := 25) rfl (hb hby at_23) rfl rfl ?_
    refine g_iloadN X403 hx (pc' := 26) rfl (hb hby at_25) rfl ?_
    refine g_i2d X403 hx (pc' := 27) rfl (hb hby at_26) ?_
    refine g_callV X403 hx hZ hown (hw _ (List.mem_of_getElem? (i := 50) rfl)) (hw _ (List.mem_of_getElem? (i := 51) rfl)) (hw _ (List.mem_of_getElem? (i := 53) rfl)) (hw _ (List.mem_of_getElem? (i := 52) rfl)) (hw _ (List.mem_of_getElem? (i := 3) rfl)) (hw _ (List.mem_of_getElem? (i := 54) rfl)) (by decide) (a := a402) f404 (rm11_0 l Z a0 hw [] n0 a402 aa (FP.i2d x0) (0 : UInt64) (0 : UInt64) (0 : UInt64) (0 : UInt64) (0 : UInt64) (0 : UInt64) (0 : UInt64) (0 : UInt64) (0 : UInt64) (0 : UInt64) (0 : UInt64) (0 : UInt64) (0 : UInt64) (0 : UInt64) (0 : UInt64) (0 : UInt64) h403 zs403 f404 G_a402 Fs403 Fz403 V403 ga hne) pd_8 rfl rfl (by rw [hml]; rfl) (pc' := 30) rfl (hb hby at_27) (argsL := [(.double (FP.i2d x0))]) (rest := []) rfl (W := 0) (Nat.le_of_eq rfl) (by decide) (by decide) (by decide) (by decide) (fun v405 T405 h405 X405 hQ405 => ?_)
    obtain ⟨rfl, K405, Fs405, Fz405, V405⟩ := hQ405
    have f406 := f404.keep K405
    have zs405 : n0 ≤ h405.size := Nat.le_trans zs403 K405.1
    show Go p e below s n0 _ _ _ (T405.setTop (mkF m 30 #[.val (.int x0), .val (.int x1), .val (.int x2), .val (.int x3), .val (.int x4), .val (.int x5), .val (.int (2 : Int32)), .val (.ref a402), .unset, .unset] []))
    refine g_iload X405 hx (pc' := 32) rfl (hb hby at_30) rfl ?_
    refine g_iconst X405 hx (pc' := 33) (z := (1 : Int32)) rfl (hb hby at_32) rfl ?_
    refine g_icmpN X405 hx (pcN := 36) (hb hby at_33) rfl (show ¬ (¬ (1 : Int32) < (2 : Int32)) from by decide) ?_
    refine g_aload X405 hx (pc' := 38) rfl (hb hby at_36) rfl rfl ?_
    refine g_iloadN X405 hx (pc' := 39) rfl (hb hby at_38) rfl ?_
    refine g_i2d X405 hx (pc' := 40) rfl (hb hby at_39) ?_
    refine g_callV X405 hx hZ hown (hw _ (List.mem_of_getElem? (i := 50) rfl)) (hw _ (List.mem_of_getElem? (i := 51) rfl)) (hw _ (List.mem_of_getElem? (i := 53) rfl)) (hw _ (List.mem_of_getElem? (i := 52) rfl)) (hw _ (List.mem_of_getElem? (i := 3) rfl)) (hw _ (List.mem_of_getElem? (i := 54) rfl)) (by decide) (a := a402) f406 (rm11_1 l Z a0 hw [] n0 a402 aa (FP.i2d x1) (FP.i2d x0) (0 : UInt64) (0 : UInt64) (0 : UInt64) (0 : UInt64) (0 : UInt64) (0 : UInt64) (0 : UInt64) (0 : UInt64) (0 : UInt64) (0 : UInt64) (0 : UInt64) (0 : UInt64) (0 : UInt64) (0 : UInt64) (0 : UInt64) h405 zs405 f406 G_a402 Fs405 Fz405 V405 ga hne) pd_8 rfl rfl (by rw [hml]; rfl) (pc' := 43) rfl (hb hby at_40) (argsL := [(.double (FP.i2d x1))]) (rest := []) rfl (W := 0) (Nat.le_of_eq rfl) (by decide) (by decide) (by decide) (by decide) (fun v407 T407 h407 X407 hQ407 => ?_)
    obtain ⟨rfl, K407, Fs407, Fz407, V407⟩ := hQ407
    have f408 := f406.keep K407
    have zs407 : n0 ≤ h407.size := Nat.le_trans zs405 K407.1
    show Go p e below s n0 _ _ _ (T407.setTop (mkF m 43 #[.val (.int x0), .val (.int x1), .val (.int x2), .val (.int x3), .val (.int x4), .val (.int x5), .val (.int (2 : Int32)), .val (.ref a402), .unset, .unset] []))
    refine g_iload X407 hx (pc' := 45) rfl (hb hby at_43) rfl ?_
    refine g_iconst X407 hx (pc' := 46) (z := (2 : Int32)) rfl (hb hby at_45) rfl ?_
    refine g_icmpY X407 hx (pcY := 56) (hb hby at_46) (by decide) (by decide) (show ¬ (2 : Int32) < (2 : Int32) from by decide) ?_
    refine g_iload X407 hx (pc' := 58) rfl (hb hby at_56) rfl ?_
    refine g_iconst X407 hx (pc' := 59) (z := (3 : Int32)) rfl (hb hby at_58) rfl ?_
    refine g_icmpY X407 hx (pcY := 69) (hb hby at_59) (by decide) (by decide) (show ¬ (3 : Int32) < (2 : Int32) from by decide) ?_
    refine g_aload X407 hx (pc' := 71) rfl (hb hby at_69) rfl rfl ?_
    refine g_callV X407 hx hZ hown (hw _ (List.mem_of_getElem? (i := 13) rfl)) (hw _ (List.mem_of_getElem? (i := 14) rfl)) (hw _ (List.mem_of_getElem? (i := 16) rfl)) (hw _ (List.mem_of_getElem? (i := 15) rfl)) (hw _ (List.mem_of_getElem? (i := 3) rfl)) (hw _ (List.mem_of_getElem? (i := 17) rfl)) (by decide) (a := a402) f408 (rm3_2 l Z a0 hw [] n0 a402 aa x0 x1 h407 zs407 f408 G_a402 Fs407 Fz407 V407) pd_6 rfl rfl (by rw [hml]; rfl) (pc' := 74) rfl (hb hby at_71) (argsL := []) (rest := []) rfl (W := 0) (Nat.le_of_eq rfl) (by decide) (by decide) (by decide) (by decide) (fun v409 T409 h409 X409 hQ409 => ?_)
    obtain ⟨rfl, bb, gb, sb, K409, Fs409, Fz409, y0, y1, V409, s0, hcn⟩ := hQ409
    have f410 := f408.keep K409
    have zs409 : n0 ≤ h409.size := Nat.le_trans zs407 K409.1
    show Go p e below s n0 _ _ _ (T409.setTop (mkF m 74 #[.val (.int x0), .val (.int x1), .val (.int x2), .val (.int x3), .val (.int x4), .val (.int x5), .val (.int (2 : Int32)), .val (.ref a402), .unset, .unset] []))
    refine g_aload X409 hx (pc' := 76) rfl (hb hby at_74) rfl rfl ?_
    refine g_iload X409 hx (pc' := 78) rfl (hb hby at_76) rfl ?_
    refine g_i2d X409 hx (pc' := 79) rfl (hb hby at_78) ?_
    refine g_callV X409 hx hZ hown (hw _ (List.mem_of_getElem? (i := 45) rfl)) (hw _ (List.mem_of_getElem? (i := 46) rfl)) (hw _ (List.mem_of_getElem? (i := 48) rfl)) (hw _ (List.mem_of_getElem? (i := 47) rfl)) (hw _ (List.mem_of_getElem? (i := 3) rfl)) (hw _ (List.mem_of_getElem? (i := 49) rfl)) (by decide) (a := a402) f410 (rm10_2 l Z a0 hw [] n0 a402 bb x5 y0 y1 h409 zs409 f410 G_a402 Fs409 Fz409 V409 s0) pd_7 rfl rfl (by rw [hml]; rfl) (pc' := 82) rfl (hb hby at_79) (argsL := [(.double (FP.i2d x5))]) (rest := []) rfl (W := 0) (Nat.le_of_eq rfl) (by decide) (by decide) (by decide) (by decide) (fun v411 T411 h411 X411 hQ411 => ?_)
    obtain ⟨got, rfl, he411, hgot⟩ := hQ411
    rw [he411] at X411
    show Go p e below s n0 _ _ _ (T411.setTop (mkF m 82 #[.val (.int x0), .val (.int x1), .val (.int x2), .val (.int x3), .val (.int x4), .val (.int x5), .val (.int (2 : Int32)), .val (.ref a402), .unset, .unset] [(.int got)]))
    refine g_istore X411 hx (pc' := 84) rfl (hb hby at_82) (l' := #[.val (.int x0), .val (.int x1), .val (.int x2), .val (.int x3), .val (.int x4), .val (.int x5), .val (.int (2 : Int32)), .val (.ref a402), .val (.int got), .unset]) rfl ?_
    refine g_iconst X411 hx (pc' := 85) (z := (0 : Int32)) rfl (hb hby at_84) rfl ?_
    refine g_absI (fun w0 h_w0 => ?_)
    refine g_istore X411 hx (pc' := 87) rfl (hb hby at_85) (l' := #[.val (.int x0), .val (.int x1), .val (.int x2), .val (.int x3), .val (.int x4), .val (.int x5), .val (.int (2 : Int32)), .val (.ref a402), .val (.int got), .val (.int w0)]) rfl ?_
    replace h_w0 : w0.toInt = 0 := by rw [h_w0]; rfl
    refine g_iload X411 hx (pc' := 89) rfl (hb hby at_87) rfl ?_
    refine g_ifN X411 hx (pcN := 92) (hb hby at_89) rfl (show ¬ (¬ 0 < (2 : Int32)) from by decide) ?_
    refine g_iloadN X411 hx (pc' := 93) rfl (hb hby at_92) rfl ?_
    refine g_iload X411 hx (pc' := 95) rfl (hb hby at_93) rfl ?_
    suffices J95 : ∀ (w1 : Int32), (w1.toInt = (0 : Int) + Cq x5 x0) → Go p e below s n0 (fun v h => v = some (.int 1)) room_1.cells room_1.slots (T411.setTop (mkF m 104 #[.val (.int x0), .val (.int x1), .val (.int x2), .val (.int x3), .val (.int x4), .val (.int x5), .val (.int (2 : Int32)), .val (.ref a402), .val (.int got), .val (.int w1)] [])) by
      refine g_icmp X411 hx (pcY := 104) (pcN := 98) (hb hby at_95) (by decide) (by decide) rfl (fun hc95 => ?_) (fun hc95 => ?_)
      · replace hc95 : x5 < x0 := hc95
        exact J95 _ (by first | exact own_wY hc95 h_w0 | exact own_wN hc95 h_w0 (by omega))
      · replace hc95 : ¬ x5 < x0 := hc95
        refine g_iload X411 hx (pc' := 100) rfl (hb hby at_98) rfl ?_
        refine g_iconst X411 hx (pc' := 101) (z := (1 : Int32)) rfl (hb hby at_100) rfl ?_
        refine g_iadd X411 hx (pc' := 102) rfl (hb hby at_101) ?_
        refine g_istore X411 hx (pc' := 104) rfl (hb hby at_102) (l' := #[.val (.int x0), .val (.int x1), .val (.int x2), .val (.int x3), .val (.int x4), .val (.int x5), .val (.int (2 : Int32)), .val (.ref a402), .val (.int got), .val (.int (w0 + (1 : Int32)))]) rfl ?_
        exact J95 _ (by first | exact own_wY hc95 h_w0 | exact own_wN hc95 h_w0 (by omega))
    intro w1 h_w1
    refine g_iload X411 hx (pc' := 106) rfl (hb hby at_104) rfl ?_
    refine g_iconst X411 hx (pc' := 107) (z := (1 : Int32)) rfl (hb hby at_106) rfl ?_
    refine g_icmpN X411 hx (pcN := 110) (hb hby at_107) rfl (show ¬ (¬ (1 : Int32) < (2 : Int32)) from by decide) ?_
    refine g_iloadN X411 hx (pc' := 111) rfl (hb hby at_110) rfl ?_
    refine g_iload X411 hx (pc' := 113) rfl (hb hby at_111) rfl ?_
    suffices J113 : ∀ (w2 : Int32), (w2.toInt = (0 : Int) + Cq x5 x0 + Cq x5 x1) → Go p e below s n0 (fun v h => v = some (.int 1)) room_1.cells room_1.slots (T411.setTop (mkF m 122 #[.val (.int x0), .val (.int x1), .val (.int x2), .val (.int x3), .val (.int x4), .val (.int x5), .val (.int (2 : Int32)), .val (.ref a402), .val (.int got), .val (.int w2)] [])) by
      refine g_icmp X411 hx (pcY := 122) (pcN := 116) (hb hby at_113) (by decide) (by decide) rfl (fun hc113 => ?_) (fun hc113 => ?_)
      · replace hc113 : x5 < x1 := hc113
        exact J113 _ (by first | exact own_wY hc113 h_w1 | exact own_wN hc113 h_w1 (by omega))
      · replace hc113 : ¬ x5 < x1 := hc113
        refine g_iload X411 hx (pc' := 118) rfl (hb hby at_116) rfl ?_
        refine g_iconst X411 hx (pc' := 119) (z := (1 : Int32)) rfl (hb hby at_118) rfl ?_
        refine g_iadd X411 hx (pc' := 120) rfl (hb hby at_119) ?_
        refine g_istore X411 hx (pc' := 122) rfl (hb hby at_120) (l' := #[.val (.int x0), .val (.int x1), .val (.int x2), .val (.int x3), .val (.int x4), .val (.int x5), .val (.int (2 : Int32)), .val (.ref a402), .val (.int got), .val (.int (w1 + (1 : Int32)))]) rfl ?_
        exact J113 _ (by first | exact own_wY hc113 h_w1 | exact own_wN hc113 h_w1 (by omega))
    intro w2 h_w2
    refine g_iload X411 hx (pc' := 124) rfl (hb hby at_122) rfl ?_
    refine g_iconst X411 hx (pc' := 125) (z := (2 : Int32)) rfl (hb hby at_124) rfl ?_
    refine g_icmpY X411 hx (pcY := 140) (hb hby at_125) (by decide) (by decide) (show ¬ (2 : Int32) < (2 : Int32) from by decide) ?_
    refine g_iload X411 hx (pc' := 142) rfl (hb hby at_140) rfl ?_
    refine g_iconst X411 hx (pc' := 143) (z := (3 : Int32)) rfl (hb hby at_142) rfl ?_
    refine g_icmpY X411 hx (pcY := 158) (hb hby at_143) (by decide) (by decide) (show ¬ (3 : Int32) < (2 : Int32) from by decide) ?_
    refine g_iload X411 hx (pc' := 160) rfl (hb hby at_158) rfl ?_
    refine g_iload X411 hx (pc' := 162) rfl (hb hby at_160) rfl ?_
    refine g_icmpN X411 hx (pcN := 165) (hb hby at_162) rfl (show ¬ (¬ got = w2) from fun q => q (Int32.toInt_inj.mp (by have c := hcn x5; omega))) ?_
    refine g_iconst X411 hx (pc' := 166) (z := (1 : Int32)) rfl (hb hby at_165) rfl ?_
    refine g_goto X411 hx (pc' := 170) (hb hby at_166) (by decide) (by decide) ?_
    exact g_retZ X411 hx hlk hret (Or.inr rfl) (hb hby at_170) (by decide) (by decide) (rfl)
  · subst qk
    refine g_newO X0 hx hZ hown (hw _ (List.mem_of_getElem? (i := 1) rfl)) (hw _ (List.mem_of_getElem? (i := 2) rfl)) (hw _ (List.mem_of_getElem? (i := 3) rfl)) (pc' := 12) rfl (hb hby at_9) (by decide) (by decide) (fun T412 h412 a412 ha412 X412 E412 A412 D412 => ?_)
    have G_a412 : n0 ≤ a412 := by rw [ha412]; exact hn0
    have Zs412 : n0 ≤ h412.size := Nat.le_trans hn0 E412.1
    have F412_seconds : Fld Z h412 a412 "com/example/loads_to_headways/loadstoheadways/replay/Times" "seconds" "[D" .null := D412 (Or.inl (hw _ (List.mem_of_getElem? (i := 12) rfl))) (ty := (.array .double)) (by decide)
    have F412_size : Fld Z h412 a412 "com/example/loads_to_headways/loadstoheadways/replay/Times" "size" "I" (.int (0 : Int32)) := D412 (Or.inl (hw _ (List.mem_of_getElem? (i := 19) rfl))) (ty := .int) (by decide)
    refine g_dup X412 hx (pc' := 13) rfl (hb hby at_12) rfl ?_
    refine g_callI X412 hx hZ hown rfl (hw _ (List.mem_of_getElem? (i := 4) rfl)) (hw _ (List.mem_of_getElem? (i := 5) rfl)) (hw _ (List.mem_of_getElem? (i := 3) rfl)) (hw _ (List.mem_of_getElem? (i := 6) rfl)) (by decide) (a := a412) (rm1 l Z a0 hw [] n0 a412 h412 Zs412 A412 G_a412 F412_seconds F412_size) pd_6 rfl rfl (by rw [hml]; rfl) (pc' := 16) rfl (hb hby at_13) (argsL := []) (rest := [(.ref a412)]) rfl (W := 1) (Nat.le_of_eq rfl) (by decide) (by decide) (by decide) (by decide) (fun v413 T413 h413 X413 hQ413 => ?_)
    obtain ⟨rfl, aa, ga, sa, K413, Fs413, Fz413, V413⟩ := hQ413
    have hne : aa ≠ a412 := (Nat.ne_of_lt (Nat.lt_of_lt_of_le A412.lt sa)).symm
    have f414 := A412.keep K413
    have zs413 : n0 ≤ h413.size := Nat.le_trans Zs412 K413.1
    show Go p e below s n0 _ _ _ (T413.setTop (mkF m 16 #[.val (.int x0), .val (.int x1), .val (.int x2), .val (.int x3), .val (.int x4), .val (.int x5), .val (.int (3 : Int32)), .unset, .unset, .unset] [(.ref a412)]))
    refine g_astore X413 hx (pc' := 18) rfl (hb hby at_16) rfl (l' := #[.val (.int x0), .val (.int x1), .val (.int x2), .val (.int x3), .val (.int x4), .val (.int x5), .val (.int (3 : Int32)), .val (.ref a412), .unset, .unset]) rfl ?_
    refine g_iload X413 hx (pc' := 20) rfl (hb hby at_18) rfl ?_
    refine g_ifN X413 hx (pcN := 23) (hb hby at_20) rfl (show ¬ (¬ 0 < (3 : Int32)) from by decide) ?_
    refine g_aload X413 hx (pc' := 25) rfl (hb hby at_23) rfl rfl ?_
    refine g_iloadN X413 hx (pc' := 26) rfl (hb hby at_25) rfl ?_
    refine g_i2d X413 hx (pc' := 27) rfl (hb hby at_26) ?_
    refine g_callV X413 hx hZ hown (hw _ (List.mem_of_getElem? (i := 50) rfl)) (hw _ (List.mem_of_getElem? (i := 51) rfl)) (hw _ (List.mem_of_getElem? (i := 53) rfl)) (hw _ (List.mem_of_getElem? (i := 52) rfl)) (hw _ (List.mem_of_getElem? (i := 3) rfl)) (hw _ (List.mem_of_getElem? (i := 54) rfl)) (by decide) (a := a412) f414 (rm11_0 l Z a0 hw [] n0 a412 aa (FP.i2d x0) (0 : UInt64) (0 : UInt64) (0 : UInt64) (0 : UInt64) (0 : UInt64) (0 : UInt64) (0 : UInt64) (0 : UInt64) (0 : UInt64) (0 : UInt64) (0 : UInt64) (0 : UInt64) (0 : UInt64) (0 : UInt64) (0 : UInt64) (0 : UInt64) h413 zs413 f414 G_a412 Fs413 Fz413 V413 ga hne) pd_8 rfl rfl (by rw [hml]; rfl) (pc' := 30) rfl (hb hby at_27) (argsL := [(.double (FP.i2d x0))]) (rest := []) rfl (W := 0) (Nat.le_of_eq rfl) (by decide) (by decide) (by decide) (by decide) (fun v415 T415 h415 X415 hQ415 => ?_)
    obtain ⟨rfl, K415, Fs415, Fz415, V415⟩ := hQ415
    have f416 := f414.keep K415
    have zs415 : n0 ≤ h415.size := Nat.le_trans zs413 K415.1
    show Go p e below s n0 _ _ _ (T415.setTop (mkF m 30 #[.val (.int x0), .val (.int x1), .val (.int x2), .val (.int x3), .val (.int x4), .val (.int x5), .val (.int (3 : Int32)), .val (.ref a412), .unset, .unset] []))
    refine g_iload X415 hx (pc' := 32) rfl (hb hby at_30) rfl ?_
    refine g_iconst X415 hx (pc' := 33) (z := (1 : Int32)) rfl (hb hby at_32) rfl ?_
    refine g_icmpN X415 hx (pcN := 36) (hb hby at_33) rfl (show ¬ (¬ (1 : Int32) < (3 : Int32)) from by decide) ?_
    refine g_aload X415 hx (pc' := 38) rfl (hb hby at_36) rfl rfl ?_
    refine g_iloadN X415 hx (pc' := 39) rfl (hb hby at_38) rfl ?_
    refine g_i2d X415 hx (pc' := 40) rfl (hb hby at_39) ?_
    refine g_callV X415 hx hZ hown (hw _ (List.mem_of_getElem? (i := 50) rfl)) (hw _ (List.mem_of_getElem? (i := 51) rfl)) (hw _ (List.mem_of_getElem? (i := 53) rfl)) (hw _ (List.mem_of_getElem? (i := 52) rfl)) (hw _ (List.mem_of_getElem? (i := 3) rfl)) (hw _ (List.mem_of_getElem? (i := 54) rfl)) (by decide) (a := a412) f416 (rm11_1 l Z a0 hw [] n0 a412 aa (FP.i2d x1) (FP.i2d x0) (0 : UInt64) (0 : UInt64) (0 : UInt64) (0 : UInt64) (0 : UInt64) (0 : UInt64) (0 : UInt64) (0 : UInt64) (0 : UInt64) (0 : UInt64) (0 : UInt64) (0 : UInt64) (0 : UInt64) (0 : UInt64) (0 : UInt64) h415 zs415 f416 G_a412 Fs415 Fz415 V415 ga hne) pd_8 rfl rfl (by rw [hml]; rfl) (pc' := 43) rfl (hb hby at_40) (argsL := [(.double (FP.i2d x1))]) (rest := []) rfl (W := 0) (Nat.le_of_eq rfl) (by decide) (by decide) (by decide) (by decide) (fun v417 T417 h417 X417 hQ417 => ?_)
    obtain ⟨rfl, K417, Fs417, Fz417, V417⟩ := hQ417
    have f418 := f416.keep K417
    have zs417 : n0 ≤ h417.size := Nat.le_trans zs415 K417.1
    show Go p e below s n0 _ _ _ (T417.setTop (mkF m 43 #[.val (.int x0), .val (.int x1), .val (.int x2), .val (.int x3), .val (.int x4), .val (.int x5), .val (.int (3 : Int32)), .val (.ref a412), .unset, .unset] []))
    refine g_iload X417 hx (pc' := 45) rfl (hb hby at_43) rfl ?_
    refine g_iconst X417 hx (pc' := 46) (z := (2 : Int32)) rfl (hb hby at_45) rfl ?_
    refine g_icmpN X417 hx (pcN := 49) (hb hby at_46) rfl (show ¬ (¬ (2 : Int32) < (3 : Int32)) from by decide) ?_
    refine g_aload X417 hx (pc' := 51) rfl (hb hby at_49) rfl rfl ?_
    refine g_iloadN X417 hx (pc' := 52) rfl (hb hby at_51) rfl ?_
    refine g_i2d X417 hx (pc' := 53) rfl (hb hby at_52) ?_
    refine g_callV X417 hx hZ hown (hw _ (List.mem_of_getElem? (i := 50) rfl)) (hw _ (List.mem_of_getElem? (i := 51) rfl)) (hw _ (List.mem_of_getElem? (i := 53) rfl)) (hw _ (List.mem_of_getElem? (i := 52) rfl)) (hw _ (List.mem_of_getElem? (i := 3) rfl)) (hw _ (List.mem_of_getElem? (i := 54) rfl)) (by decide) (a := a412) f418 (rm11_2 l Z a0 hw [] n0 a412 aa (FP.i2d x2) (FP.i2d x0) (FP.i2d x1) (0 : UInt64) (0 : UInt64) (0 : UInt64) (0 : UInt64) (0 : UInt64) (0 : UInt64) (0 : UInt64) (0 : UInt64) (0 : UInt64) (0 : UInt64) (0 : UInt64) (0 : UInt64) (0 : UInt64) (0 : UInt64) h417 zs417 f418 G_a412 Fs417 Fz417 V417 ga hne) pd_8 rfl rfl (by rw [hml]; rfl) (pc' := 56) rfl (hb hby at_53) (argsL := [(.double (FP.i2d x2))]) (rest := []) rfl (W := 0) (Nat.le_of_eq rfl) (by decide) (by decide) (by decide) (by decide) (fun v419 T419 h419 X419 hQ419 => ?_)
    obtain ⟨rfl, K419, Fs419, Fz419, V419⟩ := hQ419
    have f420 := f418.keep K419
    have zs419 : n0 ≤ h419.size := Nat.le_trans zs417 K419.1
    show Go p e below s n0 _ _ _ (T419.setTop (mkF m 56 #[.val (.int x0), .val (.int x1), .val (.int x2), .val (.int x3), .val (.int x4), .val (.int x5), .val (.int (3 : Int32)), .val (.ref a412), .unset, .unset] []))
    refine g_iload X419 hx (pc' := 58) rfl (hb hby at_56) rfl ?_
    refine g_iconst X419 hx (pc' := 59) (z := (3 : Int32)) rfl (hb hby at_58) rfl ?_
    refine g_icmpY X419 hx (pcY := 69) (hb hby at_59) (by decide) (by decide) (show ¬ (3 : Int32) < (3 : Int32) from by decide) ?_
    refine g_aload X419 hx (pc' := 71) rfl (hb hby at_69) rfl rfl ?_
    refine g_callV X419 hx hZ hown (hw _ (List.mem_of_getElem? (i := 13) rfl)) (hw _ (List.mem_of_getElem? (i := 14) rfl)) (hw _ (List.mem_of_getElem? (i := 16) rfl)) (hw _ (List.mem_of_getElem? (i := 15) rfl)) (hw _ (List.mem_of_getElem? (i := 3) rfl)) (hw _ (List.mem_of_getElem? (i := 17) rfl)) (by decide) (a := a412) f420 (rm3_3 l Z a0 hw [] n0 a412 aa x0 x1 x2 h419 zs419 f420 G_a412 Fs419 Fz419 V419) pd_6 rfl rfl (by rw [hml]; rfl) (pc' := 74) rfl (hb hby at_71) (argsL := []) (rest := []) rfl (W := 0) (Nat.le_of_eq rfl) (by decide) (by decide) (by decide) (by decide) (fun v421 T421 h421 X421 hQ421 => ?_)
    obtain ⟨rfl, bb, gb, sb, K421, Fs421, Fz421, y0, y1, y2, V421, s0, s1, hcn⟩ := hQ421
    have f422 := f420.keep K421
    have zs421 : n0 ≤ h421.size := Nat.le_trans zs419 K421.1
    show Go p e below s n0 _ _ _ (T421.setTop (mkF m 74 #[.val (.int x0), .val (.int x1), .val (.int x2), .val (.int x3), .val (.int x4), .val (.int x5), .val (.int (3 : Int32)), .val (.ref a412), .unset, .unset] []))
    refine g_aload X421 hx (pc' := 76) rfl (hb hby at_74) rfl rfl ?_
    refine g_iload X421 hx (pc' := 78) rfl (hb hby at_76) rfl ?_
    refine g_i2d X421 hx (pc' := 79) rfl (hb hby at_78) ?_
    refine g_callV X421 hx hZ hown (hw _ (List.mem_of_getElem? (i := 45) rfl)) (hw _ (List.mem_of_getElem? (i := 46) rfl)) (hw _ (List.mem_of_getElem? (i := 48) rfl)) (hw _ (List.mem_of_getElem? (i := 47) rfl)) (hw _ (List.mem_of_getElem? (i := 3) rfl)) (hw _ (List.mem_of_getElem? (i := 49) rfl)) (by decide) (a := a412) f422 (rm10_3 l Z a0 hw [] n0 a412 bb x5 y0 y1 y2 h421 zs421 f422 G_a412 Fs421 Fz421 V421 s0 s1) pd_7 rfl rfl (by rw [hml]; rfl) (pc' := 82) rfl (hb hby at_79) (argsL := [(.double (FP.i2d x5))]) (rest := []) rfl (W := 0) (Nat.le_of_eq rfl) (by decide) (by decide) (by decide) (by decide) (fun v423 T423 h423 X423 hQ423 => ?_)
    obtain ⟨got, rfl, he423, hgot⟩ := hQ423
    rw [he423] at X423
    show Go p e below s n0 _ _ _ (T423.setTop (mkF m 82 #[.val (.int x0), .val (.int x1), .val (.int x2), .val (.int x3), .val (.int x4), .val (.int x5), .val (.int (3 : Int32)), .val (.ref a412), .unset, .unset] [(.int got)]))
    refine g_istore X423 hx (pc' := 84) rfl (hb hby at_82) (l' := #[.val (.int x0), .val (.int x1), .val (.int x2), .val (.int x3), .val (.int x4), .val (.int x5), .val (.int (3 : Int32)), .val (.ref a412), .val (.int got), .unset]) rfl ?_
    refine g_iconst X423 hx (pc' := 85) (z := (0 : Int32)) rfl (hb hby at_84) rfl ?_
    refine g_absI (fun w0 h_w0 => ?_)
    refine g_istore X423 hx (pc' := 87) rfl (hb hby at_85) (l' := #[.val (.int x0), .val (.int x1), .val (.int x2), .val (.int x3), .val (.int x4), .val (.int x5), .val (.int (3 : Int32)), .val (.ref a412), .val (.int got), .val (.int w0)]) rfl ?_
    replace h_w0 : w0.toInt = 0 := by rw [h_w0]; rfl
    refine g_iload X423 hx (pc' := 89) rfl (hb hby at_87) rfl ?_
    refine g_ifN X423 hx (pcN := 92) (hb hby at_89) rfl (show ¬ (¬ 0 < (3 : Int32)) from by decide) ?_
    refine g_iloadN X423 hx (pc' := 93) rfl (hb hby at_92) rfl ?_
    refine g_iload X423 hx (pc' := 95) rfl (hb hby at_93) rfl ?_
    suffices J95 : ∀ (w1 : Int32), (w1.toInt = (0 : Int) + Cq x5 x0) → Go p e below s n0 (fun v h => v = some (.int 1)) room_1.cells room_1.slots (T423.setTop (mkF m 104 #[.val (.int x0), .val (.int x1), .val (.int x2), .val (.int x3), .val (.int x4), .val (.int x5), .val (.int (3 : Int32)), .val (.ref a412), .val (.int got), .val (.int w1)] [])) by
      refine g_icmp X423 hx (pcY := 104) (pcN := 98) (hb hby at_95) (by decide) (by decide) rfl (fun hc95 => ?_) (fun hc95 => ?_)
      · replace hc95 : x5 < x0 := hc95
        exact J95 _ (by first | exact own_wY hc95 h_w0 | exact own_wN hc95 h_w0 (by omega))
      · replace hc95 : ¬ x5 < x0 := hc95
        refine g_iload X423 hx (pc' := 100) rfl (hb hby at_98) rfl ?_
        refine g_iconst X423 hx (pc' := 101) (z := (1 : Int32)) rfl (hb hby at_100) rfl ?_
        refine g_iadd X423 hx (pc' := 102) rfl (hb hby at_101) ?_
        refine g_istore X423 hx (pc' := 104) rfl (hb hby at_102) (l' := #[.val (.int x0), .val (.int x1), .val (.int x2), .val (.int x3), .val (.int x4), .val (.int x5), .val (.int (3 : Int32)), .val (.ref a412), .val (.int got), .val (.int (w0 + (1 : Int32)))]) rfl ?_
        exact J95 _ (by first | exact own_wY hc95 h_w0 | exact own_wN hc95 h_w0 (by omega))
    intro w1 h_w1
    refine g_iload X423 hx (pc' := 106) rfl (hb hby at_104) rfl ?_
    refine g_iconst X423 hx (pc' := 107) (z := (1 : Int32)) rfl (hb hby at_106) rfl ?_
    refine g_icmpN X423 hx (pcN := 110) (hb hby at_107) rfl (show ¬ (¬ (1 : Int32) < (3 : Int32)) from by decide) ?_
    refine g_iloadN X423 hx (pc' := 111) rfl (hb hby at_110) rfl ?_
    refine g_iload X423 hx (pc' := 113) rfl (hb hby at_111) rfl ?_
    suffices J113 : ∀ (w2 : Int32), (w2.toInt = (0 : Int) + Cq x5 x0 + Cq x5 x1) → Go p e below s n0 (fun v h => v = some (.int 1)) room_1.cells room_1.slots (T423.setTop (mkF m 122 #[.val (.int x0), .val (.int x1), .val (.int x2), .val (.int x3), .val (.int x4), .val (.int x5), .val (.int (3 : Int32)), .val (.ref a412), .val (.int got), .val (.int w2)] [])) by
      refine g_icmp X423 hx (pcY := 122) (pcN := 116) (hb hby at_113) (by decide) (by decide) rfl (fun hc113 => ?_) (fun hc113 => ?_)
      · replace hc113 : x5 < x1 := hc113
        exact J113 _ (by first | exact own_wY hc113 h_w1 | exact own_wN hc113 h_w1 (by omega))
      · replace hc113 : ¬ x5 < x1 := hc113
        refine g_iload X423 hx (pc' := 118) rfl (hb hby at_116) rfl ?_
        refine g_iconst X423 hx (pc' := 119) (z := (1 : Int32)) rfl (hb hby at_118) rfl ?_
        refine g_iadd X423 hx (pc' := 120) rfl (hb hby at_119) ?_
        refine g_istore X423 hx (pc' := 122) rfl (hb hby at_120) (l' := #[.val (.int x0), .val (.int x1), .val (.int x2), .val (.int x3), .val (.int x4), .val (.int x5), .val (.int (3 : Int32)), .val (.ref a412), .val (.int got), .val (.int (w1 + (1 : Int32)))]) rfl ?_
        exact J113 _ (by first | exact own_wY hc113 h_w1 | exact own_wN hc113 h_w1 (by omega))
    intro w2 h_w2
    refine g_iload X423 hx (pc' := 124) rfl (hb hby at_122) rfl ?_
    refine g_iconst X423 hx (pc' := 125) (z := (2 : Int32)) rfl (hb hby at_124) rfl ?_
    refine g_icmpN X423 hx (pcN := 128) (hb hby at_125) rfl (show ¬ (¬ (2 : Int32) < (3 : Int32)) from by decide) ?_
    refine g_iloadN X423 hx (pc' := 129) rfl (hb hby at_128) rfl ?_
    refine g_iload X423 hx (pc' := 131) rfl (hb hby at_129) rfl ?_
    suffices J131 : ∀ (w3 : Int32), (w3.toInt = (0 : Int) + Cq x5 x0 + Cq x5 x1 + Cq x5 x2) → Go p e below s n0 (fun v h => v = some (.int 1)) room_1.cells room_1.slots (T423.setTop (mkF m 140 #[.val (.int x0), .val (.int x1), .val (.int x2), .val (.int x3), .val (.int x4), .val (.int x5), .val (.int (3 : Int32)), .val (.ref a412), .val (.int got), .val (.int w3)] [])) by
      refine g_icmp X423 hx (pcY := 140) (pcN := 134) (hb hby at_131) (by decide) (by decide) rfl (fun hc131 => ?_) (fun hc131 => ?_)
      · replace hc131 : x5 < x2 := hc131
        exact J131 _ (by first | exact own_wY hc131 h_w2 | exact own_wN hc131 h_w2 (by omega))
      · replace hc131 : ¬ x5 < x2 := hc131
        refine g_iload X423 hx (pc' := 136) rfl (hb hby at_134) rfl ?_
        refine g_iconst X423 hx (pc' := 137) (z := (1 : Int32)) rfl (hb hby at_136) rfl ?_
        refine g_iadd X423 hx (pc' := 138) rfl (hb hby at_137) ?_
        refine g_istore X423 hx (pc' := 140) rfl (hb hby at_138) (l' := #[.val (.int x0), .val (.int x1), .val (.int x2), .val (.int x3), .val (.int x4), .val (.int x5), .val (.int (3 : Int32)), .val (.ref a412), .val (.int got), .val (.int (w2 + (1 : Int32)))]) rfl ?_
        exact J131 _ (by first | exact own_wY hc131 h_w2 | exact own_wN hc131 h_w2 (by omega))
    intro w3 h_w3
    refine g_iload X423 hx (pc' := 142) rfl (hb hby at_140) rfl ?_
    refine g_iconst X423 hx (pc' := 143) (z := (3 : Int32)) rfl (hb hby at_142) rfl ?_
    refine g_icmpY X423 hx (pcY := 158) (hb hby at_143) (by decide) (by decide) (show ¬ (3 : Int32) < (3 : Int32) from by decide) ?_
    refine g_iload X423 hx (pc' := 160) rfl (hb hby at_158) rfl ?_
    refine g_iload X423 hx (pc' := 162) rfl (hb hby at_160) rfl ?_
    refine g_icmpN X423 hx (pcN := 165) (hb hby at_162) rfl (show ¬ (¬ got = w3) from fun q => q (Int32.toInt_inj.mp (by have c := hcn x5; omega))) ?_
    refine g_iconst X423 hx (pc' := 166) (z := (1 : Int32)) rfl (hb hby at_165) rfl ?_
    refine g_goto X423 hx (pc' := 170) (hb hby at_166) (by decide) (by decide) ?_
    exact g_retZ X423 hx hlk hret (Or.inr rfl) (hb hby at_170) (by decide) (by decide) (rfl)
  · subst qk
    refine g_newO X0 hx hZ hown (hw _ (List.mem_of_getElem? (i := 1) rfl)) (hw _ (List.mem_of_getElem? (i := 2) rfl)) (hw _ (List.mem_of_getElem? (i := 3) rfl)) (pc' := 12) rfl (hb hby at_9) (by decide) (by decide) (fun T424 h424 a424 ha424 X424 E424 A424 D424 => ?_)
    have G_a424 : n0 ≤ a424 := by rw [ha424]; exact hn0
    have Zs424 : n0 ≤ h424.size := Nat.le_trans hn0 E424.1
    have F424_seconds : Fld Z h424 a424 "com/example/loads_to_headways/loadstoheadways/replay/Times" "seconds" "[D" .null := D424 (Or.inl (hw _ (List.mem_of_getElem? (i := 12) rfl))) (ty := (.array .double)) (by decide)
    have F424_size : Fld Z h424 a424 "com/example/loads_to_headways/loadstoheadways/replay/Times" "size" "I" (.int (0 : Int32)) := D424 (Or.inl (hw _ (List.mem_of_getElem? (i := 19) rfl))) (ty := .int) (by decide)
    refine g_dup X424 hx (pc' := 13) rfl (hb hby at_12) rfl ?_
    refine g_callI X424 hx hZ hown rfl (hw _ (List.mem_of_getElem? (i := 4) rfl)) (hw _ (List.mem_of_getElem? (i := 5) rfl)) (hw _ (List.mem_of_getElem? (i := 3) rfl)) (hw _ (List.mem_of_getElem? (i := 6) rfl)) (by decide) (a := a424) (rm1 l Z a0 hw [] n0 a424 h424 Zs424 A424 G_a424 F424_seconds F424_size) pd_6 rfl rfl (by rw [hml]; rfl) (pc' := 16) rfl (hb hby at_13) (argsL := []) (rest := [(.ref a424)]) rfl (W := 1) (Nat.le_of_eq rfl) (by decide) (by decide) (by decide) (by decide) (fun v425 T425 h425 X425 hQ425 => ?_)
    obtain ⟨rfl, aa, ga, sa, K425, Fs425, Fz425, V425⟩ := hQ425
    have hne : aa ≠ a424 := (Nat.ne_of_lt (Nat.lt_of_lt_of_le A424.lt sa)).symm
    have f426 := A424.keep K425
    have zs425 : n0 ≤ h425.size := Nat.le_trans Zs424 K425.1
    show Go p e below s n0 _ _ _ (T425.setTop (mkF m 16 #[.val (.int x0), .val (.int x1), .val (.int x2), .val (.int x3), .val (.int x4), .val (.int x5), .val (.int (4 : Int32)), .unset, .unset, .unset] [(.ref a424)]))
    refine g_astore X425 hx (pc' := 18) rfl (hb hby at_16) rfl (l' := #[.val (.int x0), .val (.int x1), .val (.int x2), .val (.int x3), .val (.int x4), .val (.int x5), .val (.int (4 : Int32)), .val (.ref a424), .unset, .unset]) rfl ?_
    refine g_iload X425 hx (pc' := 20) rfl (hb hby at_18) rfl ?_
    refine g_ifN X425 hx (pcN := 23) (hb hby at_20) rfl (show ¬ (¬ 0 < (4 : Int32)) from by decide) ?_
    refine g_aload X425 hx (pc' := 25) rfl (hb hby at_23) rfl rfl ?_
    refine g_iloadN X425 hx (pc' := 26) rfl (hb hby at_25) rfl ?_
    refine g_i2d X425 hx (pc' := 27) rfl (hb hby at_26) ?_
    refine g_callV X425 hx hZ hown (hw _ (List.mem_of_getElem? (i := 50) rfl)) (hw _ (List.mem_of_getElem? (i := 51) rfl)) (hw _ (List.mem_of_getElem? (i := 53) rfl)) (hw _ (List.mem_of_getElem? (i := 52) rfl)) (hw _ (List.mem_of_getElem? (i := 3) rfl)) (hw _ (List.mem_of_getElem? (i := 54) rfl)) (by decide) (a := a424) f426 (rm11_0 l Z a0 hw [] n0 a424 aa (FP.i2d x0) (0 : UInt64) (0 : UInt64) (0 : UInt64) (0 : UInt64) (0 : UInt64) (0 : UInt64) (0 : UInt64) (0 : UInt64) (0 : UInt64) (0 : UInt64) (0 : UInt64) (0 : UInt64) (0 : UInt64) (0 : UInt64) (0 : UInt64) (0 : UInt64) h425 zs425 f426 G_a424 Fs425 Fz425 V425 ga hne) pd_8 rfl rfl (by rw [hml]; rfl) (pc' := 30) rfl (hb hby at_27) (argsL := [(.double (FP.i2d x0))]) (rest := []) rfl (W := 0) (Nat.le_of_eq rfl) (by decide) (by decide) (by decide) (by decide) (fun v427 T427 h427 X427 hQ427 => ?_)
    obtain ⟨rfl, K427, Fs427, Fz427, V427⟩ := hQ427
    have f428 := f426.keep K427
    have zs427 : n0 ≤ h427.size := Nat.le_trans zs425 K427.1
    show Go p e below s n0 _ _ _ (T427.setTop (mkF m 30 #[.val (.int x0), .val (.int x1), .val (.int x2), .val (.int x3), .val (.int x4), .val (.int x5), .val (.int (4 : Int32)), .val (.ref a424), .unset, .unset] []))
    refine g_iload X427 hx (pc' := 32) rfl (hb hby at_30) rfl ?_
    refine g_iconst X427 hx (pc' := 33) (z := (1 : Int32)) rfl (hb hby at_32) rfl ?_
    refine g_icmpN X427 hx (pcN := 36) (hb hby at_33) rfl (show ¬ (¬ (1 : Int32) < (4 : Int32)) from by decide) ?_
    refine g_aload X427 hx (pc' := 38) rfl (hb hby at_36) rfl rfl ?_
    refine g_iloadN X427 hx (pc' := 39) rfl (hb hby at_38) rfl ?_
    refine g_i2d X427 hx (pc' := 40) rfl (hb hby at_39) ?_
    refine g_callV X427 hx hZ hown (hw _ (List.mem_of_getElem? (i := 50) rfl)) (hw _ (List.mem_of_getElem? (i := 51) rfl)) (hw _ (List.mem_of_getElem? (i := 53) rfl)) (hw _ (List.mem_of_getElem? (i := 52) rfl)) (hw _ (List.mem_of_getElem? (i := 3) rfl)) (hw _ (List.mem_of_getElem? (i := 54) rfl)) (by decide) (a := a424) f428 (rm11_1 l Z a0 hw [] n0 a424 aa (FP.i2d x1) (FP.i2d x0) (0 : UInt64) (0 : UInt64) (0 : UInt64) (0 : UInt64) (0 : UInt64) (0 : UInt64) (0 : UInt64) (0 : UInt64) (0 : UInt64) (0 : UInt64) (0 : UInt64) (0 : UInt64) (0 : UInt64) (0 : UInt64) (0 : UInt64) h427 zs427 f428 G_a424 Fs427 Fz427 V427 ga hne) pd_8 rfl rfl (by rw [hml]; rfl) (pc' := 43) rfl (hb hby at_40) (argsL := [(.double (FP.i2d x1))]) (rest := []) rfl (W := 0) (Nat.le_of_eq rfl) (by decide) (by decide) (by decide) (by decide) (fun v429 T429 h429 X429 hQ429 => ?_)
    obtain ⟨rfl, K429, Fs429, Fz429, V429⟩ := hQ429
    have f430 := f428.keep K429
    have zs429 : n0 ≤ h429.size := Nat.le_trans zs427 K429.1
    show Go p e below s n0 _ _ _ (T429.setTop (mkF m 43 #[.val (.int x0), .val (.int x1), .val (.int x2), .val (.int x3), .val (.int x4), .val (.int x5), .val (.int (4 : Int32)), .val (.ref a424), .unset, .unset] []))
    refine g_iload X429 hx (pc' := 45) rfl (hb hby at_43) rfl ?_
    refine g_iconst X429 hx (pc' := 46) (z := (2 : Int32)) rfl (hb hby at_45) rfl ?_
    refine g_icmpN X429 hx (pcN := 49) (hb hby at_46) rfl (show ¬ (¬ (2 : Int32) < (4 : Int32)) from by decide) ?_
    refine g_aload X429 hx (pc' := 51) rfl (hb hby at_49) rfl rfl ?_
    refine g_iloadN X429 hx (pc' := 52) rfl (hb hby at_51) rfl ?_
    refine g_i2d X429 hx (pc' := 53) rfl (hb hby at_52) ?_
    refine g_callV X429 hx hZ hown (hw _ (List.mem_of_getElem? (i := 50) rfl)) (hw _ (List.mem_of_getElem? (i := 51) rfl)) (hw _ (List.mem_of_getElem? (i := 53) rfl)) (hw _ (List.mem_of_getElem? (i := 52) rfl)) (hw _ (List.mem_of_getElem? (i := 3) rfl)) (hw _ (List.mem_of_getElem? (i := 54) rfl)) (by decide) (a := a424) f430 (rm11_2 l Z a0 hw [] n0 a424 aa (FP.i2d x2) (FP.i2d x0) (FP.i2d x1) (0 : UInt64) (0 : UInt64) (0 : UInt64) (0 : UInt64) (0 : UInt64) (0 : UInt64) (0 : UInt64) (0 : UInt64) (0 : UInt64) (0 : UInt64) (0 : UInt64) (0 : UInt64) (0 : UInt64) (0 : UInt64) h429 zs429 f430 G_a424 Fs429 Fz429 V429 ga hne) pd_8 rfl rfl (by rw [hml]; rfl) (pc' := 56) rfl (hb hby at_53) (argsL := [(.double (FP.i2d x2))]) (rest := []) rfl (W := 0) (Nat.le_of_eq rfl) (by decide) (by decide) (by decide) (by decide) (fun v431 T431 h431 X431 hQ431 => ?_)
    obtain ⟨rfl, K431, Fs431, Fz431, V431⟩ := hQ431
    have f432 := f430.keep K431
    have zs431 : n0 ≤ h431.size := Nat.le_trans zs429 K431.1
    show Go p e below s n0 _ _ _ (T431.setTop (mkF m 56 #[.val (.int x0), .val (.int x1), .val (.int x2), .val (.int x3), .val (.int x4), .val (.int x5), .val (.int (4 : Int32)), .val (.ref a424), .unset, .unset] []))
    refine g_iload X431 hx (pc' := 58) rfl (hb hby at_56) rfl ?_
    refine g_iconst X431 hx (pc' := 59) (z := (3 : Int32)) rfl (hb hby at_58) rfl ?_
    refine g_icmpN X431 hx (pcN := 62) (hb hby at_59) rfl (show ¬ (¬ (3 : Int32) < (4 : Int32)) from by decide) ?_
    refine g_aload X431 hx (pc' := 64) rfl (hb hby at_62) rfl rfl ?_
    refine g_iloadN X431 hx (pc' := 65) rfl (hb hby at_64) rfl ?_
    refine g_i2d X431 hx (pc' := 66) rfl (hb hby at_65) ?_
    refine g_callV X431 hx hZ hown (hw _ (List.mem_of_getElem? (i := 50) rfl)) (hw _ (List.mem_of_getElem? (i := 51) rfl)) (hw _ (List.mem_of_getElem? (i := 53) rfl)) (hw _ (List.mem_of_getElem? (i := 52) rfl)) (hw _ (List.mem_of_getElem? (i := 3) rfl)) (hw _ (List.mem_of_getElem? (i := 54) rfl)) (by decide) (a := a424) f432 (rm11_3 l Z a0 hw [] n0 a424 aa (FP.i2d x3) (FP.i2d x0) (FP.i2d x1) (FP.i2d x2) (0 : UInt64) (0 : UInt64) (0 : UInt64) (0 : UInt64) (0 : UInt64) (0 : UInt64) (0 : UInt64) (0 : UInt64) (0 : UInt64) (0 : UInt64) (0 : UInt64) (0 : UInt64) (0 : UInt64) h431 zs431 f432 G_a424 Fs431 Fz431 V431 ga hne) pd_8 rfl rfl (by rw [hml]; rfl) (pc' := 69) rfl (hb hby at_66) (argsL := [(.double (FP.i2d x3))]) (rest := []) rfl (W := 0) (Nat.le_of_eq rfl) (by decide) (by decide) (by decide) (by decide) (fun v433 T433 h433 X433 hQ433 => ?_)
    obtain ⟨rfl, K433, Fs433, Fz433, V433⟩ := hQ433
    have f434 := f432.keep K433
    have zs433 : n0 ≤ h433.size := Nat.le_trans zs431 K433.1
    show Go p e below s n0 _ _ _ (T433.setTop (mkF m 69 #[.val (.int x0), .val (.int x1), .val (.int x2), .val (.int x3), .val (.int x4), .val (.int x5), .val (.int (4 : Int32)), .val (.ref a424), .unset, .unset] []))
    refine g_aload X433 hx (pc' := 71) rfl (hb hby at_69) rfl rfl ?_
    refine g_callV X433 hx hZ hown (hw _ (List.mem_of_getElem? (i := 13) rfl)) (hw _ (List.mem_of_getElem? (i := 14) rfl)) (hw _ (List.mem_of_getElem? (i := 16) rfl)) (hw _ (List.mem_of_getElem? (i := 15) rfl)) (hw _ (List.mem_of_getElem? (i := 3) rfl)) (hw _ (List.mem_of_getElem? (i := 17) rfl)) (by decide) (a := a424) f434 (rm3_4 l Z a0 hw [] n0 a424 aa x0 x1 x2 x3 h433 zs433 f434 G_a424 Fs433 Fz433 V433) pd_6 rfl rfl (by rw [hml]; rfl) (pc' := 74) rfl (hb hby at_71) (argsL := []) (rest := []) rfl (W := 0) (Nat.le_of_eq rfl) (by decide) (by decide) (by decide) (by decide) (fun v435 T435 h435 X435 hQ435 => ?_)
    obtain ⟨rfl, bb, gb, sb, K435, Fs435, Fz435, y0, y1, y2, y3, V435, s0, s1, s2, hcn⟩ := hQ435
    have f436 := f434.keep K435
    have zs435 : n0 ≤ h435.size := Nat.le_trans zs433 K435.1
    show Go p e below s n0 _ _ _ (T435.setTop (mkF m 74 #[.val (.int x0), .val (.int x1), .val (.int x2), .val (.int x3), .val (.int x4), .val (.int x5), .val (.int (4 : Int32)), .val (.ref a424), .unset, .unset] []))
    refine g_aload X435 hx (pc' := 76) rfl (hb hby at_74) rfl rfl ?_
    refine g_iload X435 hx (pc' := 78) rfl (hb hby at_76) rfl ?_
    refine g_i2d X435 hx (pc' := 79) rfl (hb hby at_78) ?_
    refine g_callV X435 hx hZ hown (hw _ (List.mem_of_getElem? (i := 45) rfl)) (hw _ (List.mem_of_getElem? (i := 46) rfl)) (hw _ (List.mem_of_getElem? (i := 48) rfl)) (hw _ (List.mem_of_getElem? (i := 47) rfl)) (hw _ (List.mem_of_getElem? (i := 3) rfl)) (hw _ (List.mem_of_getElem? (i := 49) rfl)) (by decide) (a := a424) f436 (rm10_4 l Z a0 hw [] n0 a424 bb x5 y0 y1 y2 y3 h435 zs435 f436 G_a424 Fs435 Fz435 V435 s0 s1 s2) pd_7 rfl rfl (by rw [hml]; rfl) (pc' := 82) rfl (hb hby at_79) (argsL := [(.double (FP.i2d x5))]) (rest := []) rfl (W := 0) (Nat.le_of_eq rfl) (by decide) (by decide) (by decide) (by decide) (fun v437 T437 h437 X437 hQ437 => ?_)
    obtain ⟨got, rfl, he437, hgot⟩ := hQ437
    rw [he437] at X437
    show Go p e below s n0 _ _ _ (T437.setTop (mkF m 82 #[.val (.int x0), .val (.int x1), .val (.int x2), .val (.int x3), .val (.int x4), .val (.int x5), .val (.int (4 : Int32)), .val (.ref a424), .unset, .unset] [(.int got)]))
    refine g_istore X437 hx (pc' := 84) rfl (hb hby at_82) (l' := #[.val (.int x0), .val (.int x1), .val (.int x2), .val (.int x3), .val (.int x4), .val (.int x5), .val (.int (4 : Int32)), .val (.ref a424), .val (.int got), .unset]) rfl ?_
    refine g_iconst X437 hx (pc' := 85) (z := (0 : Int32)) rfl (hb hby at_84) rfl ?_
    refine g_absI (fun w0 h_w0 => ?_)
    refine g_istore X437 hx (pc' := 87) rfl (hb hby at_85) (l' := #[.val (.int x0), .val (.int x1), .val (.int x2), .val (.int x3), .val (.int x4), .val (.int x5), .val (.int (4 : Int32)), .val (.ref a424), .val (.int got), .val (.int w0)]) rfl ?_
    replace h_w0 : w0.toInt = 0 := by rw [h_w0]; rfl
    refine g_iload X437 hx (pc' := 89) rfl (hb hby at_87) rfl ?_
    refine g_ifN X437 hx (pcN := 92) (hb hby at_89) rfl (show ¬ (¬ 0 < (4 : Int32)) from by decide) ?_
    refine g_iloadN X437 hx (pc' := 93) rfl (hb hby at_92) rfl ?_
    refine g_iload X437 hx (pc' := 95) rfl (hb hby at_93) rfl ?_
    suffices J95 : ∀ (w1 : Int32), (w1.toInt = (0 : Int) + Cq x5 x0) → Go p e below s n0 (fun v h => v = some (.int 1)) room_1.cells room_1.slots (T437.setTop (mkF m 104 #[.val (.int x0), .val (.int x1), .val (.int x2), .val (.int x3), .val (.int x4), .val (.int x5), .val (.int (4 : Int32)), .val (.ref a424), .val (.int got), .val (.int w1)] [])) by
      refine g_icmp X437 hx (pcY := 104) (pcN := 98) (hb hby at_95) (by decide) (by decide) rfl (fun hc95 => ?_) (fun hc95 => ?_)
      · replace hc95 : x5 < x0 := hc95
        exact J95 _ (by first | exact own_wY hc95 h_w0 | exact own_wN hc95 h_w0 (by omega))
      · replace hc95 : ¬ x5 < x0 := hc95
        refine g_iload X437 hx (pc' := 100) rfl (hb hby at_98) rfl ?_
        refine g_iconst X437 hx (pc' := 101) (z := (1 : Int32)) rfl (hb hby at_100) rfl ?_
        refine g_iadd X437 hx (pc' := 102) rfl (hb hby at_101) ?_
        refine g_istore X437 hx (pc' := 104) rfl (hb hby at_102) (l' := #[.val (.int x0), .val (.int x1), .val (.int x2), .val (.int x3), .val (.int x4), .val (.int x5), .val (.int (4 : Int32)), .val (.ref a424), .val (.int got), .val (.int (w0 + (1 : Int32)))]) rfl ?_
        exact J95 _ (by first | exact own_wY hc95 h_w0 | exact own_wN hc95 h_w0 (by omega))
    intro w1 h_w1
    refine g_iload X437 hx (pc' := 106) rfl (hb hby at_104) rfl ?_
    refine g_iconst X437 hx (pc' := 107) (z := (1 : Int32)) rfl (hb hby at_106) rfl ?_
    refine g_icmpN X437 hx (pcN := 110) (hb hby at_107) rfl (show ¬ (¬ (1 : Int32) < (4 : Int32)) from by decide) ?_
    refine g_iloadN X437 hx (pc' := 111) rfl (hb hby at_110) rfl ?_
    refine g_iload X437 hx (pc' := 113) rfl (hb hby at_111) rfl ?_
    suffices J113 : ∀ (w2 : Int32), (w2.toInt = (0 : Int) + Cq x5 x0 + Cq x5 x1) → Go p e below s n0 (fun v h => v = some (.int 1)) room_1.cells room_1.slots (T437.setTop (mkF m 122 #[.val (.int x0), .val (.int x1), .val (.int x2), .val (.int x3), .val (.int x4), .val (.int x5), .val (.int (4 : Int32)), .val (.ref a424), .val (.int got), .val (.int w2)] [])) by
      refine g_icmp X437 hx (pcY := 122) (pcN := 116) (hb hby at_113) (by decide) (by decide) rfl (fun hc113 => ?_) (fun hc113 => ?_)
      · replace hc113 : x5 < x1 := hc113
        exact J113 _ (by first | exact own_wY hc113 h_w1 | exact own_wN hc113 h_w1 (by omega))
      · replace hc113 : ¬ x5 < x1 := hc113
        refine g_iload X437 hx (pc' := 118) rfl (hb hby at_116) rfl ?_
        refine g_iconst X437 hx (pc' := 119) (z := (1 : Int32)) rfl (hb hby at_118) rfl ?_
        refine g_iadd X437 hx (pc' := 120) rfl (hb hby at_119) ?_
        refine g_istore X437 hx (pc' := 122) rfl (hb hby at_120) (l' := #[.val (.int x0), .val (.int x1), .val (.int x2), .val (.int x3), .val (.int x4), .val (.int x5), .val (.int (4 : Int32)), .val (.ref a424), .val (.int got), .val (.int (w1 + (1 : Int32)))]) rfl ?_
        exact J113 _ (by first | exact own_wY hc113 h_w1 | exact own_wN hc113 h_w1 (by omega))
    intro w2 h_w2
    refine g_iload X437 hx (pc' := 124) rfl (hb hby at_122) rfl ?_
    refine g_iconst X437 hx (pc' := 125) (z := (2 : Int32)) rfl (hb hby at_124) rfl ?_
    refine g_icmpN X437 hx (pcN := 128) (hb hby at_125) rfl (show ¬ (¬ (2 : Int32) < (4 : Int32)) from by decide) ?_
    refine g_iloadN X437 hx (pc' := 129) rfl (hb hby at_128) rfl ?_
    refine g_iload X437 hx (pc' := 131) rfl (hb hby at_129) rfl ?_
    suffices J131 : ∀ (w3 : Int32), (w3.toInt = (0 : Int) + Cq x5 x0 + Cq x5 x1 + Cq x5 x2) → Go p e below s n0 (fun v h => v = some (.int 1)) room_1.cells room_1.slots (T437.setTop (mkF m 140 #[.val (.int x0), .val (.int x1), .val (.int x2), .val (.int x3), .val (.int x4), .val (.int x5), .val (.int (4 : Int32)), .val (.ref a424), .val (.int got), .val (.int w3)] [])) by
      refine g_icmp X437 hx (pcY := 140) (pcN := 134) (hb hby at_131) (by decide) (by decide) rfl (fun hc131 => ?_) (fun hc131 => ?_)
      · replace hc131 : x5 < x2 := hc131
        exact J131 _ (by first | exact own_wY hc131 h_w2 | exact own_wN hc131 h_w2 (by omega))
      · replace hc131 : ¬ x5 < x2 := hc131
        refine g_iload X437 hx (pc' := 136) rfl (hb hby at_134) rfl ?_
        refine g_iconst X437 hx (pc' := 137) (z := (1 : Int32)) rfl (hb hby at_136) rfl ?_
        refine g_iadd X437 hx (pc' := 138) rfl (hb hby at_137) ?_
        refine g_istore X437 hx (pc' := 140) rfl (hb hby at_138) (l' := #[.val (.int x0), .val (.int x1), .val (.int x2), .val (.int x3), .val (.int x4), .val (.int x5), .val (.int (4 : Int32)), .val (.ref a424), .val (.int got), .val (.int (w2 + (1 : Int32)))]) rfl ?_
        exact J131 _ (by first | exact own_wY hc131 h_w2 | exact own_wN hc131 h_w2 (by omega))
    intro w3 h_w3
    refine g_iload X437 hx (pc' := 142) rfl (hb hby at_140) rfl ?_
    refine g_iconst X437 hx (pc' := 143) (z := (3 : Int32)) rfl (hb hby at_142) rfl ?_
    refine g_icmpN X437 hx (pcN := 146) (hb hby at_143) rfl (show ¬ (¬ (3 : Int32) < (4 : Int32)) from by decide) ?_
    refine g_iloadN X437 hx (pc' := 147) rfl (hb hby at_146) rfl ?_
    refine g_iload X437 hx (pc' := 149) rfl (hb hby at_147) rfl ?_
    suffices J149 : ∀ (w4 : Int32), (w4.toInt = (0 : Int) + Cq x5 x0 + Cq x5 x1 + Cq x5 x2 + Cq x5 x3) → Go p e below s n0 (fun v h => v = some (.int 1)) room_1.cells room_1.slots (T437.setTop (mkF m 158 #[.val (.int x0), .val (.int x1), .val (.int x2), .val (.int x3), .val (.int x4), .val (.int x5), .val (.int (4 : Int32)), .val (.ref a424), .val (.int got), .val (.int w4)] [])) by
      refine g_icmp X437 hx (pcY := 158) (pcN := 152) (hb hby at_149) (by decide) (by decide) rfl (fun hc149 => ?_) (fun hc149 => ?_)
      · replace hc149 : x5 < x3 := hc149
        exact J149 _ (by first | exact own_wY hc149 h_w3 | exact own_wN hc149 h_w3 (by omega))
      · replace hc149 : ¬ x5 < x3 := hc149
        refine g_iload X437 hx (pc' := 154) rfl (hb hby at_152) rfl ?_
        refine g_iconst X437 hx (pc' := 155) (z := (1 : Int32)) rfl (hb hby at_154) rfl ?_
        refine g_iadd X437 hx (pc' := 156) rfl (hb hby at_155) ?_
        refine g_istore X437 hx (pc' := 158) rfl (hb hby at_156) (l' := #[.val (.int x0), .val (.int x1), .val (.int x2), .val (.int x3), .val (.int x4), .val (.int x5), .val (.int (4 : Int32)), .val (.ref a424), .val (.int got), .val (.int (w3 + (1 : Int32)))]) rfl ?_
        exact J149 _ (by first | exact own_wY hc149 h_w3 | exact own_wN hc149 h_w3 (by omega))
    intro w4 h_w4
    refine g_iload X437 hx (pc' := 160) rfl (hb hby at_158) rfl ?_
    refine g_iload X437 hx (pc' := 162) rfl (hb hby at_160) rfl ?_
    refine g_icmpN X437 hx (pcN := 165) (hb hby at_162) rfl (show ¬ (¬ got = w4) from fun q => q (Int32.toInt_inj.mp (by have c := hcn x5; omega))) ?_
    refine g_iconst X437 hx (pc' := 166) (z := (1 : Int32)) rfl (hb hby at_165) rfl ?_
    refine g_goto X437 hx (pc' := 170) (hb hby at_166) (by decide) (by decide) ?_
    exact g_retZ X437 hx hlk hret (Or.inr rfl) (hb hby at_170) (by decide) (by decide) (rfl)
set_option maxRecDepth 65536 in
set_option maxHeartbeats 40000000 in
theorem comes_1 {Post : Tables → Env → Array Value → State → Outcome → State → Prop} (hpost : ∀ tb e args s v u, (limb_1_1.after args s (.returned v) u = true ∧ limb_1_2.after args s (.returned v) u = true ∧ True) → FrameEnd s (.returned v) u (Jvm.fieldLocs frame_1_writes args s ++ Jvm.arrayLocs frame_1_arrays args s ++ Jvm.staticLocs frame_1_statics s) 16 128 → Post tb e args s (.returned v) u) :
    ArmFor flags0 classFile x code maxLocals ret World_1 tables_1 room_1 Calls_1 rest_1 Pre_1 Post := by
  intro l hfl _ _ p e ha hc hk s m args below hf hA hF happ hP
  obtain ⟨hcalls, hrest, hpre⟩ := hP
  obtain ⟨-, -, -, hnamed, -, -, -, hat⟩ := (Spec.applies_iff hf).mp happ
  obtain ⟨hg, hn⟩ := and_e (Cond.before_iff.mp (show (Jvm.Cond.and given_1 narrow_1).before args s = true from hpre))
  obtain ⟨hcount, hg0⟩ := and_e hg
  obtain ⟨ha0, hg1⟩ := and_e hg0
  obtain ⟨ha1, hg2⟩ := and_e hg1
  obtain ⟨ha2, hg3⟩ := and_e hg2
  obtain ⟨ha3, hg4⟩ := and_e hg3
  obtain ⟨ha4, hg5⟩ := and_e hg4
  have ha5 := hg5
  obtain ⟨w0, w1, w2, w3, w4, w5, rfl⟩ : ∃ w0 w1 w2 w3 w4 w5 : Value, args = #[w0, w1, w2, w3, w4, w5] := by
    have hs : args.size = 6 := by simpa [Cond.value, given_1] using hcount
    obtain ⟨L⟩ := args
    match L, hs with
    | [w0, w1, w2, w3, w4, w5], _ => exact ⟨w0, w1, w2, w3, w4, w5, rfl⟩
  have hw := fun d (hd : d ∈ tables_1) => atoms_spec (ws := Jvm.Cond.code x code maxLocals ret :: tables_1) hat d (List.mem_cons_of_mem _ hd)
  obtain ⟨i0, ei0⟩ := is_v ha0
  obtain rfl : w0 = (.int i0) := Option.some.inj ei0
  obtain ⟨i1, ei1⟩ := is_v ha1
  obtain rfl : w1 = (.int i1) := Option.some.inj ei1
  obtain ⟨i2, ei2⟩ := is_v ha2
  obtain rfl : w2 = (.int i2) := Option.some.inj ei2
  obtain ⟨i3, ei3⟩ := is_v ha3
  obtain rfl : w3 = (.int i3) := Option.some.inj ei3
  obtain ⟨i4, ei4⟩ := is_v ha4
  obtain rfl : w4 = (.int i4) := Option.some.inj ei4
  obtain ⟨i5, ei5⟩ := is_v ha5
  obtain rfl : w5 = (.int i5) := Option.some.inj ei5
  obtain ⟨n, o, h1, h2, h3, _, L, rfl, ⟨N, rfl⟩, hq⟩ := rm0 l s _ hw tables_1 s.heap.size i0 i1 i2 i3 i4 i5 s.heap (Nat.le_refl _)  p e ha hc hk s m _ below hf ((Spec.applies_iff_loose hf).mp happ).1 ⟨rfl, State.Warmed39.refl s, rfl⟩ trivial
  refine ⟨n, _, h1, h2, h3, hpost _ _ _ _ _ _ ⟨Cond.after_iff.mpr rfl, Cond.after_iff.mpr (eq_i res_at (Term.int_eval (1)) rfl), trivial⟩ ⟨hq.1, hq.2.1, (hq.2.2.sift fun y hy => Or.inr (N y hy)).mono (by decide) (by decide)⟩⟩
theorem main_1_1 : Claimed_1_1 := comes_1 fun _ _ _ _ _ _ h hF => ⟨h.1, hF⟩
theorem main_1_2 : Claimed_1_2 := comes_1 fun _ _ _ _ _ _ h hF => ⟨h.2.1, hF⟩
end Jvm.Pilot.@@N@@
-- WITNESS
namespace Jvm.Pilot.@@N@@
open Jvm Jvm.ClassFile Sem Op Lib Jvm.Free Jvm.Stand Jvm.Pilot.@@N@@.Jvm.D
/-! MADE BY PROGRAM (witnessworld.py) out of the Statement's table words and the real class files: 20 classes; the members and pool entries that the words name. The judged class is class 1, her method 1. -/
namespace start1
open Jvm.ClassFile
def u (s : String) : CpInfo := .utf8 (stringToUtf16 s)
/-- a pool by its gaps: so many unusable entries, then the entry; so many at the end -/
def gap : Nat → List CpInfo → List CpInfo
  | 0, r => r
  | n + 1, r => .unusable :: gap n r
def poolList (es : List (Nat × CpInfo)) (last : Nat) : List CpInfo := es.foldr (fun e r => gap e.1 (e.2 :: r)) (gap last [])
def pool (es : List (Nat × CpInfo)) (last : Nat) : Array CpInfo := ⟨poolList es last⟩
def fileOf (pool : Array CpInfo) (this : Nat) (attrs : Array Attribute := #[]) (ms : Array MethodInfo := #[]) (fl : Nat := 33) (sup : Nat := 0) (ifs : Array Nat := #[]) (fds : Array FieldInfo := #[]) : ClassFile where
  minorVersion := 0
  majorVersion := 65
  constantPool := pool
  accessFlags := fl
  thisClass := this
  superClass := sup
  interfaces := ifs
  fields := fds
  methods := ms
  attributes := attrs
def plain (name : String) (sup : Option ClassId) : Class where
  name := name
  kind := .ordinary
  loader := none
  accessFlags := 33
  super := sup
  interfaces := #[]
  cf := none
  fields := #[]
  methods := #[]
  instanceTypes := #[]
  staticTypes := #[]
  resolved := #[]
  callSites := []
  init := .initialized
  statics := none
  mirror := none

def pool0 : Array CpInfo := pool [(5, u "<init>"), (0, u "()V"), (1, .class_ 10), (1, u "java/lang/Object")] 113

def k0c0 : Code := { maxStack := 0, maxLocals := 1, code := object_method_1_code, exceptionTable := #[], attributes := #[] }
def k0m0 : Method := { name := "<init>", desc := "()V", sig := { parameters := [], returnType := none }, accessFlags := 1, code := some k0c0 }
/-- java/lang/Object -/
def k0 : Class := { plain "java/lang/Object" none with
  accessFlags := 33
  interfaces := #[]
  cf := some (fileOf pool0 8 #[] #[{ accessFlags := 1, nameIndex := 5, descriptorIndex := 6, attributes := #[] }] 33 0 #[] #[])
  fields := #[]
  methods := #[k0m0]
  instanceTypes := #[]
  staticTypes := #[]
  resolved := Array.replicate 124 none
  statics := none }

def pool1 : Array CpInfo := pool [(2, .class_ 4), (0, .nameAndType 5 6), (0, u "java/lang/Object"), (0, u "<init>"), (0, u "()V"), (0, .integer 2147483647), (0, .class_ 9), (0, u "com/example/loads_to_headways/loadstoheadways/replay/Times"), (0, .methodref 8 3), (0, .methodref 8 12), (0, .nameAndType 13 14), (0, u "add"), (0, u "(D)V"), (0, .methodref 8 16), (0, .nameAndType 17 6), (0, u "sort"), (0, .methodref 8 19), (0, .nameAndType 20 21), (0, u "countAtOrBefore"), (0, u "(D)I"), (0, .class_ 23), (0, u "com/example/loads_to_headways/loadstoheadways/replay/TimesCountAtOrBeforePinLaw"), (2, u "law"), (0, u "(IIIIII)Z")] 3

def k1m0 : Method := { name := "<init>", desc := "()V", sig := { parameters := [], returnType := none }, accessFlags := 1, code := none }
def k1c1 : Code := { maxStack := 3, maxLocals := 10, code := code, exceptionTable := #[], attributes := #[] }
def k1m1 : Method := { name := "law", desc := "(IIIIII)Z", sig := { parameters := [.int, .int, .int, .int, .int, .int], returnType := some .boolean }, accessFlags := 9, code := some k1c1 }
/-- com/example/loads_to_headways/loadstoheadways/replay/TimesCountAtOrBeforePinLaw -/
def k1 : Class := { plain "com/example/loads_to_headways/loadstoheadways/replay/TimesCountAtOrBeforePinLaw" (some 0) with
  accessFlags := 49
  interfaces := #[]
  cf := some (fileOf pool1 22 #[] #[{ accessFlags := 1, nameIndex := 5, descriptorIndex := 6, attributes := #[] }, { accessFlags := 9, nameIndex := 26, descriptorIndex := 27, attributes := #[] }] 49 2 #[] #[])
  fields := #[]
  methods := #[k1m0, k1m1]
  instanceTypes := #[]
  staticTypes := #[]
  resolved := Array.replicate 31 none
  statics := none }

def pool2 : Array CpInfo := pool [(1, .methodref 2 3), (0, .class_ 4), (0, .nameAndType 5 6), (0, u "java/lang/Object"), (0, u "<init>"), (0, u "()V"), (0, .fieldref 8 9), (0, .class_ 10), (0, .nameAndType 11 12), (0, u "com/example/loads_to_headways/loadstoheadways/replay/Times"), (0, u "seconds"), (0, u "[D"), (0, .fieldref 8 14), (0, .nameAndType 15 16), (0, u "size"), (0, u "I"), (0, .methodref 18 19), (0, .class_ 20), (0, .nameAndType 21 22), (0, u "java/util/Arrays"), (0, u "copyOf"), (0, u "([DI)[D"), (0, .methodref 18 24), (0, .nameAndType 25 26), (0, u "sort"), (0, u "([D)V"), (2, u "add"), (0, u "(D)V"), (1, u "countAtOrBefore"), (0, u "(D)I")] 2

def k2c0 : Code := { maxStack := 2, maxLocals := 1, code := prog_31_method_1_code, exceptionTable := #[], attributes := #[] }
def k2m0 : Method := { name := "<init>", desc := "()V", sig := { parameters := [], returnType := none }, accessFlags := 0, code := some k2c0 }
def k2c1 : Code := { maxStack := 5, maxLocals := 3, code := prog_31_method_2_code, exceptionTable := #[], attributes := #[] }
def k2m1 : Method := { name := "add", desc := "(D)V", sig := { parameters := [.double], returnType := none }, accessFlags := 0, code := some k2c1 }
def k2c2 : Code := { maxStack := 3, maxLocals := 1, code := prog_31_method_3_code, exceptionTable := #[], attributes := #[] }
def k2m2 : Method := { name := "sort", desc := "()V", sig := { parameters := [], returnType := none }, accessFlags := 0, code := some k2c2 }
def k2c3 : Code := { maxStack := 4, maxLocals := 6, code := prog_31_method_4_code, exceptionTable := #[], attributes := #[] }
def k2m3 : Method := { name := "countAtOrBefore", desc := "(D)I", sig := { parameters := [.double], returnType := some .int }, accessFlags := 0, code := some k2c3 }
/-- com/example/loads_to_headways/loadstoheadways/replay/Times -/
def k2 : Class := { plain "com/example/loads_to_headways/loadstoheadways/replay/Times" (some 0) with
  accessFlags := 48
  interfaces := #[]
  cf := some (fileOf pool2 8 #[] #[{ accessFlags := 0, nameIndex := 5, descriptorIndex := 6, attributes := #[] }, { accessFlags := 0, nameIndex := 29, descriptorIndex := 30, attributes := #[] }, { accessFlags := 0, nameIndex := 25, descriptorIndex := 6, attributes := #[] }, { accessFlags := 0, nameIndex := 32, descriptorIndex := 33, attributes := #[] }] 48 2 #[] #[{ accessFlags := 2, nameIndex := 11, descriptorIndex := 12, attributes := #[] }, { accessFlags := 2, nameIndex := 15, descriptorIndex := 16, attributes := #[] }])
  fields := #[{ name := "seconds", type := (.array .double), accessFlags := 2, slot := 0, constantValue := 0 }, { name := "size", type := .int, accessFlags := 2, slot := 1, constantValue := 0 }]
  methods := #[k2m0, k2m1, k2m2, k2m3]
  instanceTypes := #[(.array .double), .int]
  staticTypes := #[]
  resolved := Array.replicate 36 none
  statics := none }

def pool3 : Array CpInfo := pool [(2, .class_ 4), (1, u "java/lang/Object"), (0, u "<init>"), (0, u "()V"), (1, .class_ 10), (1, u "java/util/DualPivotQuicksort"), (0, u "sort"), (2, .class_ 16), (1, u "java/util/Arrays"), (17, .methodref 8 35), (0, .nameAndType 11 36), (0, u "([DIII)V"), (37, .class_ 76), (1, u "java/util/Arrays$NaturalOrder"), (36, .class_ 115), (1, u "java/util/Arrays$LegacyMergeSort"), (1, u "Z"), (32, .methodref 151 152), (0, .class_ 153), (0, .nameAndType 154 155), (0, u "java/lang/System"), (0, u "arraycopy"), (0, u "(Ljava/lang/Object;ILjava/lang/Object;II)V"), (146, u "copyOf"), (1, .methodref 305 306), (0, .class_ 307), (0, .nameAndType 308 309), (0, u "java/lang/Math"), (0, u "min"), (0, u "(II)I"), (65, .class_ 376), (0, u "java/util/Arrays$ArrayList"), (68, u "$assertionsDisabled"), (269, u "MIN_ARRAY_SORT_GRAN"), (0, u "I"), (2, u "INSERTIONSORT_THRESHOLD"), (18, u "([D)V"), (136, u "([DI)[D"), (99, .class_ 976), (0, u "java/util/Arrays$ArrayItr")] 52

def k3m0 : Method := { name := "<init>", desc := "()V", sig := { parameters := [], returnType := none }, accessFlags := 2, code := none }
def k3c1 : Code := { maxStack := 4, maxLocals := 1, code := jdk_65_method_14_code, exceptionTable := #[], attributes := #[] }
def k3m1 : Method := { name := "sort", desc := "([D)V", sig := { parameters := [(.array .double)], returnType := none }, accessFlags := 9, code := some k3c1 }
def k3c2 : Code := { maxStack := 6, maxLocals := 3, code := jdk_65_method_127_code, exceptionTable := #[], attributes := #[] }
def k3m2 : Method := { name := "copyOf", desc := "([DI)[D", sig := { parameters := [(.array .double), .int], returnType := some (.array .double) }, accessFlags := 9, code := some k3c2 }
/-- java/util/Arrays -/
def k3 : Class := { plain "java/util/Arrays" (some 0) with
  accessFlags := 49
  interfaces := #[]
  cf := some (fileOf pool3 14 #[.nestMembers #[975, 375, 113, 74]] #[{ accessFlags := 2, nameIndex := 5, descriptorIndex := 6, attributes := #[] }, { accessFlags := 9, nameIndex := 11, descriptorIndex := 738, attributes := #[] }, { accessFlags := 9, nameIndex := 302, descriptorIndex := 875, attributes := #[] }] 49 2 #[] #[{ accessFlags := 26, nameIndex := 715, descriptorIndex := 716, attributes := #[] }, { accessFlags := 26, nameIndex := 719, descriptorIndex := 716, attributes := #[] }, { accessFlags := 4120, nameIndex := 445, descriptorIndex := 117, attributes := #[] }])
  fields := #[{ name := "MIN_ARRAY_SORT_GRAN", type := .int, accessFlags := 26, slot := 0, constantValue := 0 }, { name := "INSERTIONSORT_THRESHOLD", type := .int, accessFlags := 26, slot := 1, constantValue := 0 }, { name := "$assertionsDisabled", type := .boolean, accessFlags := 4120, slot := 2, constantValue := 0 }]
  methods := #[k3m0, k3m1, k3m2]
  instanceTypes := #[]
  staticTypes := #[.int, .int, .boolean]
  resolved := Array.replicate 1029 none
  statics := none }

def pool4 : Array CpInfo := pool [(1, .class_ 2), (0, u "java/lang/Math"), (1, .class_ 6), (1, u "java/lang/Object"), (0, u "<init>"), (0, u "()V"), (89, .class_ 100), (1, u "java/lang/Math$RandomNumberGeneratorHolder"), (71, u "negativeZeroFloatBits"), (0, u "J"), (2, u "negativeZeroDoubleBits"), (24, u "min"), (43, u "$assertionsDisabled"), (0, u "Z"), (88, u "(II)I"), (2, u "twoToTheDoubleScaleDown"), (0, u "D"), (4, u "twoToTheDoubleScaleUp"), (9, u "E"), (3, u "PI"), (2, u "TAU"), (2, u "DEGREES_TO_RADIANS"), (0, u "RADIANS_TO_DEGREES")] 94

def k4m0 : Method := { name := "<init>", desc := "()V", sig := { parameters := [], returnType := none }, accessFlags := 2, code := none }
def k4c1 : Code := { maxStack := 2, maxLocals := 2, code := jdk_29_method_69_code, exceptionTable := #[], attributes := #[] }
def k4m1 : Method := { name := "min", desc := "(II)I", sig := { parameters := [.int, .int], returnType := some .int }, accessFlags := 9, code := some k4c1 }
/-- java/lang/Math -/
def k4 : Class := { plain "java/lang/Math" (some 0) with
  accessFlags := 49
  interfaces := #[]
  cf := some (fileOf pool4 1 #[.nestMembers #[98]] #[{ accessFlags := 2, nameIndex := 7, descriptorIndex := 8, attributes := #[] }, { accessFlags := 9, nameIndex := 201, descriptorIndex := 335, attributes := #[] }] 49 4 #[] #[{ accessFlags := 25, nameIndex := 354, descriptorIndex := 339, attributes := #[] }, { accessFlags := 25, nameIndex := 358, descriptorIndex := 339, attributes := #[] }, { accessFlags := 25, nameIndex := 361, descriptorIndex := 339, attributes := #[] }, { accessFlags := 26, nameIndex := 364, descriptorIndex := 339, attributes := #[] }, { accessFlags := 26, nameIndex := 365, descriptorIndex := 339, attributes := #[] }, { accessFlags := 26, nameIndex := 172, descriptorIndex := 173, attributes := #[] }, { accessFlags := 26, nameIndex := 176, descriptorIndex := 173, attributes := #[] }, { accessFlags := 8, nameIndex := 344, descriptorIndex := 339, attributes := #[] }, { accessFlags := 8, nameIndex := 338, descriptorIndex := 339, attributes := #[] }, { accessFlags := 4120, nameIndex := 245, descriptorIndex := 246, attributes := #[] }])
  fields := #[{ name := "E", type := .double, accessFlags := 25, slot := 0, constantValue := 0 }, { name := "PI", type := .double, accessFlags := 25, slot := 1, constantValue := 0 }, { name := "TAU", type := .double, accessFlags := 25, slot := 2, constantValue := 0 }, { name := "DEGREES_TO_RADIANS", type := .double, accessFlags := 26, slot := 3, constantValue := 0 }, { name := "RADIANS_TO_DEGREES", type := .double, accessFlags := 26, slot := 4, constantValue := 0 }, { name := "negativeZeroFloatBits", type := .long, accessFlags := 26, slot := 5, constantValue := 0 }, { name := "negativeZeroDoubleBits", type := .long, accessFlags := 26, slot := 6, constantValue := 0 }, { name := "twoToTheDoubleScaleUp", type := .double, accessFlags := 8, slot := 7, constantValue := 0 }, { name := "twoToTheDoubleScaleDown", type := .double, accessFlags := 8, slot := 8, constantValue := 0 }, { name := "$assertionsDisabled", type := .boolean, accessFlags := 4120, slot := 9, constantValue := 0 }]
  methods := #[k4m0, k4m1]
  instanceTypes := #[]
  staticTypes := #[.double, .double, .double, .double, .double, .long, .long, .double, .double, .boolean]
  resolved := Array.replicate 460 none
  statics := none }

def pool5 : Array CpInfo := pool [(2, .class_ 4), (1, u "java/lang/Object"), (0, u "<init>"), (0, u "()V"), (1, .class_ 10), (1, u "java/lang/System"), (0, u "allowSecurityManager"), (0, u "I"), (16, u "cons"), (0, u "Ljava/io/Console;"), (77, .class_ 110), (1, u "java/lang/System$CallersHolder"), (43, u "initialErrStream"), (0, u "Ljava/io/PrintStream;"), (19, u "security"), (0, u "Ljava/lang/SecurityManager;"), (31, .class_ 209), (0, u "java/lang/System$1"), (7, u "props"), (0, u "Ljava/util/Properties;"), (2, u "lineSeparator"), (0, u "Ljava/lang/String;"), (96, .class_ 321), (1, u "java/lang/System$LoggerFinder"), (5, .class_ 328), (0, u "java/lang/System$Logger"), (67, u "err"), (2, u "out"), (91, u "notSupportedJnuEncoding"), (15, u "in"), (17, u "initialIn"), (0, u "Ljava/io/InputStream;"), (35, u "bootLayer"), (0, u "Ljava/lang/ModuleLayer;"), (99, .class_ 664), (0, u "java/lang/System$2"), (9, u "NEVER"), (2, u "MAYBE"), (49, u "arraycopy"), (0, u "(Ljava/lang/Object;ILjava/lang/Object;II)V"), (72, .class_ 802), (0, u "java/lang/System$Logger$Level")] 31

def k5m0 : Method := { name := "<init>", desc := "()V", sig := { parameters := [], returnType := none }, accessFlags := 2, code := none }
def k5m1 : Method := { name := "arraycopy", desc := "(Ljava/lang/Object;ILjava/lang/Object;II)V", sig := { parameters := [(.object "java/lang/Object"), .int, (.object "java/lang/Object"), .int, .int], returnType := none }, accessFlags := 265, code := none }
/-- java/lang/System -/
def k5 : Class := { plain "java/lang/System" (some 0) with
  accessFlags := 49
  interfaces := #[]
  cf := some (fileOf pool5 8 #[.nestMembers #[319, 327, 801, 108, 663, 208]] #[{ accessFlags := 2, nameIndex := 5, descriptorIndex := 6, attributes := #[] }, { accessFlags := 265, nameIndex := 727, descriptorIndex := 728, attributes := #[] }] 49 2 #[] #[{ accessFlags := 25, nameIndex := 507, descriptorIndex := 526, attributes := #[] }, { accessFlags := 25, nameIndex := 399, descriptorIndex := 155, attributes := #[] }, { accessFlags := 25, nameIndex := 396, descriptorIndex := 155, attributes := #[] }, { accessFlags := 10, nameIndex := 525, descriptorIndex := 526, attributes := #[] }, { accessFlags := 26, nameIndex := 674, descriptorIndex := 12, attributes := #[] }, { accessFlags := 26, nameIndex := 677, descriptorIndex := 12, attributes := #[] }, { accessFlags := 10, nameIndex := 11, descriptorIndex := 12, attributes := #[] }, { accessFlags := 74, nameIndex := 175, descriptorIndex := 176, attributes := #[] }, { accessFlags := 10, nameIndex := 491, descriptorIndex := 222, attributes := #[] }, { accessFlags := 74, nameIndex := 29, descriptorIndex := 30, attributes := #[] }, { accessFlags := 74, nameIndex := 154, descriptorIndex := 155, attributes := #[] }, { accessFlags := 10, nameIndex := 217, descriptorIndex := 218, attributes := #[] }, { accessFlags := 10, nameIndex := 221, descriptorIndex := 222, attributes := #[] }, { accessFlags := 8, nameIndex := 562, descriptorIndex := 563, attributes := #[] }])
  fields := #[{ name := "in", type := (.object "java/io/InputStream"), accessFlags := 25, slot := 0, constantValue := 0 }, { name := "out", type := (.object "java/io/PrintStream"), accessFlags := 25, slot := 1, constantValue := 0 }, { name := "err", type := (.object "java/io/PrintStream"), accessFlags := 25, slot := 2, constantValue := 0 }, { name := "initialIn", type := (.object "java/io/InputStream"), accessFlags := 10, slot := 3, constantValue := 0 }, { name := "NEVER", type := .int, accessFlags := 26, slot := 4, constantValue := 0 }, { name := "MAYBE", type := .int, accessFlags := 26, slot := 5, constantValue := 0 }, { name := "allowSecurityManager", type := .int, accessFlags := 10, slot := 6, constantValue := 0 }, { name := "security", type := (.object "java/lang/SecurityManager"), accessFlags := 74, slot := 7, constantValue := 0 }, { name := "notSupportedJnuEncoding", type := (.object "java/lang/String"), accessFlags := 10, slot := 8, constantValue := 0 }, { name := "cons", type := (.object "java/io/Console"), accessFlags := 74, slot := 9, constantValue := 0 }, { name := "initialErrStream", type := (.object "java/io/PrintStream"), accessFlags := 74, slot := 10, constantValue := 0 }, { name := "props", type := (.object "java/util/Properties"), accessFlags := 10, slot := 11, constantValue := 0 }, { name := "lineSeparator", type := (.object "java/lang/String"), accessFlags := 10, slot := 12, constantValue := 0 }, { name := "bootLayer", type := (.object "java/lang/ModuleLayer"), accessFlags := 8, slot := 13, constantValue := 0 }]
  methods := #[k5m0, k5m1]
  instanceTypes := #[]
  staticTypes := #[(.object "java/io/InputStream"), (.object "java/io/PrintStream"), (.object "java/io/PrintStream"), (.object "java/io/InputStream"), .int, .int, .int, (.object "java/lang/SecurityManager"), (.object "java/lang/String"), (.object "java/io/Console"), (.object "java/io/PrintStream"), (.object "java/util/Properties"), (.object "java/lang/String"), (.object "java/lang/ModuleLayer")]
  resolved := Array.replicate 834 none
  statics := none }

def pool6 : Array CpInfo := pool [(1, .class_ 2), (0, u "java/util/DualPivotQuicksort"), (5, .class_ 10), (1, u "java/lang/Object"), (0, u "<init>"), (0, u "()V"), (4, .class_ 18), (0, u "java/util/DualPivotQuicksort$Sorter"), (9, u "sort"), (7, u "insertionSort"), (31, u "I"), (4, .class_ 74), (0, u "java/util/DualPivotQuicksort$RunMerger"), (10, .class_ 86), (0, u "java/util/DualPivotQuicksort$Merger"), (94, .methodref 182 183), (0, .class_ 184), (0, .nameAndType 185 186), (0, u "java/lang/Double"), (0, u "doubleToRawLongBits"), (0, u "(D)J"), (0, .methodref 1 188), (0, .nameAndType 28 189), (0, u "(Ljava/util/DualPivotQuicksort$Sorter;[DIII)V"), (4, u "([DIII)V"), (0, .methodref 1 196), (0, .nameAndType 36 197), (0, u "([DII)V"), (16, u "MAX_MIXED_INSERTION_SORT_SIZE"), (2, u "MAX_INSERTION_SORT_SIZE"), (1, u "MIN_PARALLEL_SORT_SIZE"), (1, u "MIN_TRY_MERGE_SIZE"), (0, u "MIN_FIRST_RUN_SIZE"), (1, u "MIN_FIRST_RUNS_FACTOR"), (1, u "MAX_RUN_CAPACITY"), (1, u "MIN_RUN_COUNT"), (1, u "MIN_PARALLEL_MERGE_PARTS_SIZE"), (0, u "MIN_BYTE_COUNTING_SORT_SIZE"), (1, u "MIN_SHORT_OR_CHAR_COUNTING_SORT_SIZE"), (1, u "DELTA"), (1, u "MAX_RECURSION_DEPTH"), (1, u "NUM_BYTE_VALUES"), (1, u "MAX_BYTE_INDEX"), (0, u "NUM_CHAR_VALUES"), (0, u "NUM_SHORT_VALUES"), (0, u "MAX_SHORT_INDEX")] 86

def k6m0 : Method := { name := "<init>", desc := "()V", sig := { parameters := [], returnType := none }, accessFlags := 2, code := none }
def k6c1 : Code := { maxStack := 9, maxLocals := 8, code := jdk_2529_method_41_code, exceptionTable := #[], attributes := #[] }
def k6m1 : Method := { name := "sort", desc := "([DIII)V", sig := { parameters := [(.array .double), .int, .int, .int], returnType := none }, accessFlags := 8, code := some k6c1 }
def k6c2 : Code := { maxStack := 6, maxLocals := 25, code := jdk_2529_method_42_code, exceptionTable := #[], attributes := #[] }
def k6m2 : Method := { name := "sort", desc := "(Ljava/util/DualPivotQuicksort$Sorter;[DIII)V", sig := { parameters := [(.object "java/util/DualPivotQuicksort$Sorter"), (.array .double), .int, .int, .int], returnType := none }, accessFlags := 8, code := some k6c2 }
def k6c3 : Code := { maxStack := 5, maxLocals := 7, code := jdk_2529_method_44_code, exceptionTable := #[], attributes := #[] }
def k6m3 : Method := { name := "insertionSort", desc := "([DII)V", sig := { parameters := [(.array .double), .int, .int], returnType := none }, accessFlags := 10, code := some k6c3 }
/-- java/util/DualPivotQuicksort -/
def k6 : Class := { plain "java/util/DualPivotQuicksort" (some 0) with
  accessFlags := 48
  interfaces := #[]
  cf := some (fileOf pool6 1 #[.nestMembers #[73, 85, 17]] #[{ accessFlags := 2, nameIndex := 11, descriptorIndex := 12, attributes := #[] }, { accessFlags := 8, nameIndex := 28, descriptorIndex := 194, attributes := #[] }, { accessFlags := 8, nameIndex := 28, descriptorIndex := 189, attributes := #[] }, { accessFlags := 10, nameIndex := 36, descriptorIndex := 197, attributes := #[] }] 48 8 #[] #[{ accessFlags := 26, nameIndex := 214, descriptorIndex := 68, attributes := #[] }, { accessFlags := 26, nameIndex := 217, descriptorIndex := 68, attributes := #[] }, { accessFlags := 26, nameIndex := 219, descriptorIndex := 68, attributes := #[] }, { accessFlags := 26, nameIndex := 221, descriptorIndex := 68, attributes := #[] }, { accessFlags := 26, nameIndex := 222, descriptorIndex := 68, attributes := #[] }, { accessFlags := 26, nameIndex := 224, descriptorIndex := 68, attributes := #[] }, { accessFlags := 26, nameIndex := 226, descriptorIndex := 68, attributes := #[] }, { accessFlags := 26, nameIndex := 228, descriptorIndex := 68, attributes := #[] }, { accessFlags := 26, nameIndex := 230, descriptorIndex := 68, attributes := #[] }, { accessFlags := 26, nameIndex := 231, descriptorIndex := 68, attributes := #[] }, { accessFlags := 26, nameIndex := 233, descriptorIndex := 68, attributes := #[] }, { accessFlags := 26, nameIndex := 235, descriptorIndex := 68, attributes := #[] }, { accessFlags := 26, nameIndex := 237, descriptorIndex := 68, attributes := #[] }, { accessFlags := 26, nameIndex := 239, descriptorIndex := 68, attributes := #[] }, { accessFlags := 26, nameIndex := 241, descriptorIndex := 68, attributes := #[] }, { accessFlags := 26, nameIndex := 242, descriptorIndex := 68, attributes := #[] }, { accessFlags := 26, nameIndex := 243, descriptorIndex := 68, attributes := #[] }, { accessFlags := 26, nameIndex := 244, descriptorIndex := 68, attributes := #[] }])
  fields := #[{ name := "MAX_MIXED_INSERTION_SORT_SIZE", type := .int, accessFlags := 26, slot := 0, constantValue := 0 }, { name := "MAX_INSERTION_SORT_SIZE", type := .int, accessFlags := 26, slot := 1, constantValue := 0 }, { name := "MIN_PARALLEL_SORT_SIZE", type := .int, accessFlags := 26, slot := 2, constantValue := 0 }, { name := "MIN_TRY_MERGE_SIZE", type := .int, accessFlags := 26, slot := 3, constantValue := 0 }, { name := "MIN_FIRST_RUN_SIZE", type := .int, accessFlags := 26, slot := 4, constantValue := 0 }, { name := "MIN_FIRST_RUNS_FACTOR", type := .int, accessFlags := 26, slot := 5, constantValue := 0 }, { name := "MAX_RUN_CAPACITY", type := .int, accessFlags := 26, slot := 6, constantValue := 0 }, { name := "MIN_RUN_COUNT", type := .int, accessFlags := 26, slot := 7, constantValue := 0 }, { name := "MIN_PARALLEL_MERGE_PARTS_SIZE", type := .int, accessFlags := 26, slot := 8, constantValue := 0 }, { name := "MIN_BYTE_COUNTING_SORT_SIZE", type := .int, accessFlags := 26, slot := 9, constantValue := 0 }, { name := "MIN_SHORT_OR_CHAR_COUNTING_SORT_SIZE", type := .int, accessFlags := 26, slot := 10, constantValue := 0 }, { name := "DELTA", type := .int, accessFlags := 26, slot := 11, constantValue := 0 }, { name := "MAX_RECURSION_DEPTH", type := .int, accessFlags := 26, slot := 12, constantValue := 0 }, { name := "NUM_BYTE_VALUES", type := .int, accessFlags := 26, slot := 13, constantValue := 0 }, { name := "MAX_BYTE_INDEX", type := .int, accessFlags := 26, slot := 14, constantValue := 0 }, { name := "NUM_CHAR_VALUES", type := .int, accessFlags := 26, slot := 15, constantValue := 0 }, { name := "NUM_SHORT_VALUES", type := .int, accessFlags := 26, slot := 16, constantValue := 0 }, { name := "MAX_SHORT_INDEX", type := .int, accessFlags := 26, slot := 17, constantValue := 0 }]
  methods := #[k6m0, k6m1, k6m2, k6m3]
  instanceTypes := #[]
  staticTypes := #[.int, .int, .int, .int, .int, .int, .int, .int, .int, .int, .int, .int, .int, .int, .int, .int, .int, .int]
  resolved := Array.replicate 331 none
  statics := none }

def pool7 : Array CpInfo := pool [(1, .class_ 2), (0, u "java/io/Serializable"), (0, .class_ 4), (0, u "java/lang/Object")] 2

/-- java/io/Serializable -/
def k7 : Class := { plain "java/io/Serializable" (some 0) with
  accessFlags := 1537
  interfaces := #[]
  cf := some (fileOf pool7 1 #[] #[] 1537 3 #[] #[])
  fields := #[]
  methods := #[]
  instanceTypes := #[]
  staticTypes := #[]
  resolved := Array.replicate 7 none
  statics := none }

def pool8 : Array CpInfo := pool [(2, .class_ 4), (1, u "java/lang/Object"), (0, u "<init>"), (0, u "()V"), (1, .class_ 10), (1, u "java/lang/Number"), (2, .class_ 14), (0, u "java/io/Serializable"), (0, u "serialVersionUID"), (0, u "J")] 20

def k8m0 : Method := { name := "<init>", desc := "()V", sig := { parameters := [], returnType := none }, accessFlags := 1, code := none }
/-- java/lang/Number -/
def k8 : Class := { plain "java/lang/Number" (some 0) with
  accessFlags := 1057
  interfaces := #[7]
  cf := some (fileOf pool8 8 #[] #[{ accessFlags := 1, nameIndex := 5, descriptorIndex := 6, attributes := #[] }] 1057 2 #[13] #[{ accessFlags := 26, nameIndex := 15, descriptorIndex := 16, attributes := #[] }])
  fields := #[{ name := "serialVersionUID", type := .long, accessFlags := 26, slot := 0, constantValue := 0 }]
  methods := #[k8m0]
  instanceTypes := #[]
  staticTypes := #[.long]
  resolved := Array.replicate 37 none
  statics := none }

def pool9 : Array CpInfo := pool [(1, .class_ 2), (0, u "java/lang/Comparable"), (0, .class_ 4), (0, u "java/lang/Object")] 7

/-- java/lang/Comparable -/
def k9 : Class := { plain "java/lang/Comparable" (some 0) with
  accessFlags := 1537
  interfaces := #[]
  cf := some (fileOf pool9 1 #[] #[] 1537 3 #[] #[])
  fields := #[]
  methods := #[]
  instanceTypes := #[]
  staticTypes := #[]
  resolved := Array.replicate 12 none
  statics := none }

def pool10 : Array CpInfo := pool [(1, .class_ 2), (0, u "java/lang/constant/Constable"), (0, .class_ 4), (0, u "java/lang/Object")] 6

/-- java/lang/constant/Constable -/
def k10 : Class := { plain "java/lang/constant/Constable" (some 0) with
  accessFlags := 1537
  interfaces := #[]
  cf := some (fileOf pool10 1 #[] #[] 1537 3 #[] #[])
  fields := #[]
  methods := #[]
  instanceTypes := #[]
  staticTypes := #[]
  resolved := Array.replicate 11 none
  statics := none }

def pool11 : Array CpInfo := pool [(1, .class_ 2), (0, u "java/lang/constant/ConstantDesc"), (0, .class_ 4), (0, u "java/lang/Object")] 32

/-- java/lang/constant/ConstantDesc -/
def k11 : Class := { plain "java/lang/constant/ConstantDesc" (some 0) with
  accessFlags := 1537
  interfaces := #[]
  cf := some (fileOf pool11 1 #[] #[] 1537 3 #[] #[])
  fields := #[]
  methods := #[]
  instanceTypes := #[]
  staticTypes := #[]
  resolved := Array.replicate 37 none
  statics := none }

def pool12 : Array CpInfo := pool [(1, .class_ 2), (0, u "java/lang/Double"), (46, u "(D)J"), (64, .class_ 116), (1, u "java/lang/Number"), (3, u "value"), (0, u "D"), (14, u "doubleToRawLongBits"), (36, u "TYPE"), (0, u "Ljava/lang/Class;"), (0, .class_ 176), (0, u "java/lang/Comparable"), (0, .class_ 178), (0, u "java/lang/constant/Constable"), (0, .class_ 180), (0, u "java/lang/constant/ConstantDesc"), (0, u "POSITIVE_INFINITY"), (3, u "NEGATIVE_INFINITY"), (2, u "NaN"), (2, u "MAX_VALUE"), (0, u "MIN_NORMAL"), (0, u "MIN_VALUE"), (2, u "SIZE"), (0, u "I"), (1, u "PRECISION"), (1, u "MAX_EXPONENT"), (1, u "MIN_EXPONENT"), (1, u "BYTES"), (3, u "serialVersionUID"), (0, u "J")] 79

def k12m0 : Method := { name := "doubleToRawLongBits", desc := "(D)J", sig := { parameters := [.double], returnType := some .long }, accessFlags := 265, code := none }
/-- java/lang/Double -/
def k12 : Class := { plain "java/lang/Double" (some 8) with
  accessFlags := 49
  interfaces := #[9, 10, 11]
  cf := some (fileOf pool12 1 #[] #[{ accessFlags := 265, nameIndex := 136, descriptorIndex := 49, attributes := #[] }] 49 114 #[175, 177, 179] #[{ accessFlags := 25, nameIndex := 181, descriptorIndex := 121, attributes := #[] }, { accessFlags := 25, nameIndex := 185, descriptorIndex := 121, attributes := #[] }, { accessFlags := 25, nameIndex := 188, descriptorIndex := 121, attributes := #[] }, { accessFlags := 25, nameIndex := 191, descriptorIndex := 121, attributes := #[] }, { accessFlags := 25, nameIndex := 192, descriptorIndex := 121, attributes := #[] }, { accessFlags := 25, nameIndex := 193, descriptorIndex := 121, attributes := #[] }, { accessFlags := 25, nameIndex := 196, descriptorIndex := 197, attributes := #[] }, { accessFlags := 25, nameIndex := 199, descriptorIndex := 197, attributes := #[] }, { accessFlags := 25, nameIndex := 201, descriptorIndex := 197, attributes := #[] }, { accessFlags := 25, nameIndex := 203, descriptorIndex := 197, attributes := #[] }, { accessFlags := 25, nameIndex := 205, descriptorIndex := 197, attributes := #[] }, { accessFlags := 25, nameIndex := 173, descriptorIndex := 174, attributes := #[] }, { accessFlags := 18, nameIndex := 120, descriptorIndex := 121, attributes := #[] }, { accessFlags := 26, nameIndex := 209, descriptorIndex := 210, attributes := #[] }])
  fields := #[{ name := "POSITIVE_INFINITY", type := .double, accessFlags := 25, slot := 0, constantValue := 0 }, { name := "NEGATIVE_INFINITY", type := .double, accessFlags := 25, slot := 1, constantValue := 0 }, { name := "NaN", type := .double, accessFlags := 25, slot := 2, constantValue := 0 }, { name := "MAX_VALUE", type := .double, accessFlags := 25, slot := 3, constantValue := 0 }, { name := "MIN_NORMAL", type := .double, accessFlags := 25, slot := 4, constantValue := 0 }, { name := "MIN_VALUE", type := .double, accessFlags := 25, slot := 5, constantValue := 0 }, { name := "SIZE", type := .int, accessFlags := 25, slot := 6, constantValue := 0 }, { name := "PRECISION", type := .int, accessFlags := 25, slot := 7, constantValue := 0 }, { name := "MAX_EXPONENT", type := .int, accessFlags := 25, slot := 8, constantValue := 0 }, { name := "MIN_EXPONENT", type := .int, accessFlags := 25, slot := 9, constantValue := 0 }, { name := "BYTES", type := .int, accessFlags := 25, slot := 10, constantValue := 0 }, { name := "TYPE", type := (.object "java/lang/Class"), accessFlags := 25, slot := 11, constantValue := 0 }, { name := "value", type := .double, accessFlags := 18, slot := 0, constantValue := 0 }, { name := "serialVersionUID", type := .long, accessFlags := 26, slot := 12, constantValue := 0 }]
  methods := #[k12m0]
  instanceTypes := #[.double]
  staticTypes := #[.double, .double, .double, .double, .double, .double, .int, .int, .int, .int, .int, (.object "java/lang/Class"), .long]
  resolved := Array.replicate 290 none
  statics := none }

def pool13 : Array CpInfo := pool [(1, u "java/lang/Cloneable"), (0, .class_ 1), (0, u "java/lang/Object"), (0, .class_ 3)] 3

/-- java/lang/Cloneable -/
def k13 : Class := { plain "java/lang/Cloneable" (some 0) with
  accessFlags := 1537
  interfaces := #[]
  cf := some (fileOf pool13 2 #[] #[] 1537 4 #[] #[])
  fields := #[]
  methods := #[]
  instanceTypes := #[]
  staticTypes := #[]
  resolved := Array.replicate 8 none
  statics := none }

/-- the primitive byte -/
def k14 : Class := { plain "byte" none with kind := .primitive 'B', accessFlags := 0x411 }
/-- [B -/
def k15 : Class := { plain "[B" (some 0) with kind := .array 14 .byte, interfaces := #[13, 7], accessFlags := 1041 }

/-- the primitive int -/
def k16 : Class := { plain "int" none with kind := .primitive 'I', accessFlags := 0x411 }
/-- [I -/
def k17 : Class := { plain "[I" (some 0) with kind := .array 16 .int, interfaces := #[13, 7], accessFlags := 1041 }

/-- the primitive short -/
def k18 : Class := { plain "double" none with kind := .primitive 'D', accessFlags := 0x411 }
/-- [S -/
def k19 : Class := { plain "[D" (some 0) with kind := .array 18 .double, interfaces := #[13, 7], accessFlags := 1041 }

def heap : Heap := #[]
def classes : Array Class := #[k0, k1, k2, k3, k4, k5, k6, k7, k8, k9, k10, k11, k12, k13, k14, k15, k16, k17, k18, k19]
def interned : List (Array UInt16 × Addr) := []
def slotsUsed : Nat := 0
def theMethod : MethodId := ⟨1, 1⟩
def args0 : Array Value := #[.int 5, .int 3, .int 2, .int 7, .int 2, .int 4]
def aboutOver (below : List Frame) : State where
  vm := { classes := classes, interned := interned.toArray }
  heap := heap
  slotsUsed := slotsUsed
  threads := #[{ frames := .invoking theMethod args0 :: below }]
def below0 : List Frame := [.native { method := ⟨0, 0⟩, args := #[] }]
def about1 : State := aboutOver below0
def p0 : Program := .bare "" "" ""
def e0 : Env := launch0.env 0 0 0
theorem w_frames : about1.frames = Frame.invoking theMethod args0 :: below0 := rfl
set_option maxRecDepth 65536 in
theorem w_args : argsFit about1.vm theMethod args0 = true := by decide +kernel
set_option maxRecDepth 65536 in
theorem w_heap : heapFits about1 = true := by decide +kernel
set_option maxRecDepth 65536 in
theorem w_runnable : about1.curStatus? = some .runnable := by decide +kernel
set_option maxRecDepth 65536 in
theorem w_alone : about1.alone = true := by decide +kernel
set_option maxRecDepth 65536 in
theorem w_named : about1.methodNamed? x = some theMethod := by decide +kernel
set_option maxRecDepth 65536 in
theorem w_hears : about1.hears theMethod below0 = true := by decide +kernel
set_option maxRecDepth 65536 in
theorem w_ripe : about1.ripe theMethod args0 below0 = true := by decide +kernel
theorem w_running : about1.status = .running := rfl
set_option maxRecDepth 65536 in
theorem w_room : about1.hasRoom e0.platform room_1 = true :=
  launch0.hasRoom_least _ room_1 (by decide +kernel) (by decide +kernel) (by decide +kernel) (by decide +kernel) (by decide +kernel) (by decide +kernel)
theorem allAtoms_all (ts : List Jvm.Cond) (a : Array Jvm.Value) (st : Jvm.State) : (allAtoms ts).before a st = ts.all (fun c => c.before a st) := by
  induction ts with
  | nil => rfl
  | cons c t ih =>
    show (Jvm.Cond.and c (allAtoms t)).before a st = _
    rw [Jvm.Cond.before_and, ih, List.all_cons]
def words1 : List Jvm.Cond := Jvm.Cond.code x code maxLocals ret :: tables_1
/-- a 'code' word, met by the world's own term for the bytes: nothing is compared byte by byte -/
theorem code_word {y : MethodName} {bytes : ByteArray} {mx : Nat} {rt : Option FieldType} {a : Array Value} {s : State} {m : MethodId} {meth : Method} {c : Code} (h1 : s.methodNamed? y = some m) (h2 : s.vm.method? m = some meth) (h3 : meth.code = some c) (h4 : c.code = bytes)
    (h5 : (c.maxLocals == mx && c.exceptionTable.isEmpty && decide (c.maxStack ≤ mostOperands) && decide (meth.sig.returnType = rt) && !meth.locks && decide (parseMethodDescriptor y.desc = some meth.sig)) = true) : (Jvm.Cond.code y bytes mx rt).before a s = true := by
  simp only [Bool.and_eq_true, beq_iff_eq, Bool.not_eq_true', decide_eq_true_eq] at h5
  obtain ⟨⟨⟨⟨⟨g1, g2⟩, g3⟩, g4⟩, g5⟩, g6⟩ := h5
  simp [Cond.before, Cond.holds, Cond.value, h1, h2, h3, h4, g1, g2, g3, g4, g5, g6]
def isCode : Jvm.Cond → Bool
  | .code _ _ _ _ => true
  | _ => false
theorem all_split {L : List Jvm.Cond} {P : Jvm.Cond → Bool} (h1 : L.all (fun c => isCode c || P c) = true) (h2 : ∀ c ∈ L.filter isCode, P c = true) : L.all P = true := by
  refine List.all_eq_true.mpr fun c hc => ?_
  have h := List.all_eq_true.mp h1 c hc
  rcases Bool.eq_false_or_eq_true (isCode c) with hi | hi
  · exact h2 c (List.mem_filter.mpr ⟨hc, hi⟩)
  · simpa [hi] using h
set_option maxRecDepth 65536 in
theorem w_c0 : (Jvm.Cond.code x code maxLocals ret).before args0 about1 = true := code_word (m := ⟨1, 1⟩) (meth := k1m1) (c := k1c1) (by decide +kernel) rfl rfl rfl (by decide +kernel)
set_option maxRecDepth 65536 in
theorem w_c1 : (Jvm.Cond.code ({ cls := "com/example/loads_to_headways/loadstoheadways/replay/Times", name := "<init>", desc := "()V" } : Jvm.MethodName) prog_31_method_1_code (1 : Nat) (Option.none : Option Jvm.ClassFile.FieldType)).before args0 about1 = true := code_word (m := ⟨2, 0⟩) (meth := k2m0) (c := k2c0) (by decide +kernel) rfl rfl rfl (by decide +kernel)
set_option maxRecDepth 65536 in
theorem w_c2 : (Jvm.Cond.code ({ cls := "java/lang/Object", name := "<init>", desc := "()V" } : Jvm.MethodName) object_method_1_code (1 : Nat) (Option.none : Option Jvm.ClassFile.FieldType)).before args0 about1 = true := code_word (m := ⟨0, 0⟩) (meth := k0m0) (c := k0c0) (by decide +kernel) rfl rfl rfl (by decide +kernel)
set_option maxRecDepth 65536 in
theorem w_c3 : (Jvm.Cond.code ({ cls := "com/example/loads_to_headways/loadstoheadways/replay/Times", name := "sort", desc := "()V" } : Jvm.MethodName) prog_31_method_3_code (1 : Nat) (Option.none : Option Jvm.ClassFile.FieldType)).before args0 about1 = true := code_word (m := ⟨2, 2⟩) (meth := k2m2) (c := k2c2) (by decide +kernel) rfl rfl rfl (by decide +kernel)
set_option maxRecDepth 65536 in
theorem w_c4 : (Jvm.Cond.code ({ cls := "java/util/Arrays", name := "copyOf", desc := "([DI)[D" } : Jvm.MethodName) jdk_65_method_127_code (3 : Nat) (Option.some (Jvm.ClassFile.FieldType.array Jvm.ClassFile.FieldType.double))).before args0 about1 = true := code_word (m := ⟨3, 2⟩) (meth := k3m2) (c := k3c2) (by decide +kernel) rfl rfl rfl (by decide +kernel)
set_option maxRecDepth 65536 in
theorem w_c5 : (Jvm.Cond.code ({ cls := "java/lang/Math", name := "min", desc := "(II)I" } : Jvm.MethodName) jdk_29_method_69_code (2 : Nat) (Option.some Jvm.ClassFile.FieldType.int)).before args0 about1 = true := code_word (m := ⟨4, 1⟩) (meth := k4m1) (c := k4c1) (by decide +kernel) rfl rfl rfl (by decide +kernel)
set_option maxRecDepth 65536 in
theorem w_c6 : (Jvm.Cond.code ({ cls := "java/util/Arrays", name := "sort", desc := "([D)V" } : Jvm.MethodName) jdk_65_method_14_code (1 : Nat) (Option.none : Option Jvm.ClassFile.FieldType)).before args0 about1 = true := code_word (m := ⟨3, 1⟩) (meth := k3m1) (c := k3c1) (by decide +kernel) rfl rfl rfl (by decide +kernel)
set_option maxRecDepth 65536 in
theorem w_c7 : (Jvm.Cond.code ({ cls := "java/util/DualPivotQuicksort", name := "sort", desc := "([DIII)V" } : Jvm.MethodName) jdk_2529_method_41_code (8 : Nat) (Option.none : Option Jvm.ClassFile.FieldType)).before args0 about1 = true := code_word (m := ⟨6, 1⟩) (meth := k6m1) (c := k6c1) (by decide +kernel) rfl rfl rfl (by decide +kernel)
set_option maxRecDepth 65536 in
theorem w_c8 : (Jvm.Cond.code ({ cls := "java/util/DualPivotQuicksort", name := "sort", desc := "(Ljava/util/DualPivotQuicksort$Sorter;[DIII)V" } : Jvm.MethodName) jdk_2529_method_42_code (25 : Nat) (Option.none : Option Jvm.ClassFile.FieldType)).before args0 about1 = true := code_word (m := ⟨6, 2⟩) (meth := k6m2) (c := k6c2) (by decide +kernel) rfl rfl rfl (by decide +kernel)
set_option maxRecDepth 65536 in
theorem w_c9 : (Jvm.Cond.code ({ cls := "java/util/DualPivotQuicksort", name := "insertionSort", desc := "([DII)V" } : Jvm.MethodName) jdk_2529_method_44_code (7 : Nat) (Option.none : Option Jvm.ClassFile.FieldType)).before args0 about1 = true := code_word (m := ⟨6, 3⟩) (meth := k6m3) (c := k6c3) (by decide +kernel) rfl rfl rfl (by decide +kernel)
set_option maxRecDepth 65536 in
theorem w_c10 : (Jvm.Cond.code ({ cls := "com/example/loads_to_headways/loadstoheadways/replay/Times", name := "countAtOrBefore", desc := "(D)I" } : Jvm.MethodName) prog_31_method_4_code (6 : Nat) (Option.some Jvm.ClassFile.FieldType.int)).before args0 about1 = true := code_word (m := ⟨2, 3⟩) (meth := k2m3) (c := k2c3) (by decide +kernel) rfl rfl rfl (by decide +kernel)
set_option maxRecDepth 65536 in
theorem w_c11 : (Jvm.Cond.code ({ cls := "com/example/loads_to_headways/loadstoheadways/replay/Times", name := "add", desc := "(D)V" } : Jvm.MethodName) prog_31_method_2_code (3 : Nat) (Option.none : Option Jvm.ClassFile.FieldType)).before args0 about1 = true := code_word (m := ⟨2, 1⟩) (meth := k2m1) (c := k2c1) (by decide +kernel) rfl rfl rfl (by decide +kernel)
def codes1 : List Jvm.Cond := [Jvm.Cond.code x code maxLocals ret, Jvm.Cond.code ({ cls := "com/example/loads_to_headways/loadstoheadways/replay/Times", name := "<init>", desc := "()V" } : Jvm.MethodName) prog_31_method_1_code (1 : Nat) (Option.none : Option Jvm.ClassFile.FieldType), Jvm.Cond.code ({ cls := "java/lang/Object", name := "<init>", desc := "()V" } : Jvm.MethodName) object_method_1_code (1 : Nat) (Option.none : Option Jvm.ClassFile.FieldType), Jvm.Cond.code ({ cls := "com/example/loads_to_headways/loadstoheadways/replay/Times", name := "sort", desc := "()V" } : Jvm.MethodName) prog_31_method_3_code (1 : Nat) (Option.none : Option Jvm.ClassFile.FieldType), Jvm.Cond.code ({ cls := "java/util/Arrays", name := "copyOf", desc := "([DI)[D" } : Jvm.MethodName) jdk_65_method_127_code (3 : Nat) (Option.some (Jvm.ClassFile.FieldType.array Jvm.ClassFile.FieldType.double)), Jvm.Cond.code ({ cls := "java/lang/Math", name := "min", desc := "(II)I" } : Jvm.MethodName) jdk_29_method_69_code (2 : Nat) (Option.some Jvm.ClassFile.FieldType.int), Jvm.Cond.code ({ cls := "java/util/Arrays", name := "sort", desc := "([D)V" } : Jvm.MethodName) jdk_65_method_14_code (1 : Nat) (Option.none : Option Jvm.ClassFile.FieldType), Jvm.Cond.code ({ cls := "java/util/DualPivotQuicksort", name := "sort", desc := "([DIII)V" } : Jvm.MethodName) jdk_2529_method_41_code (8 : Nat) (Option.none : Option Jvm.ClassFile.FieldType), Jvm.Cond.code ({ cls := "java/util/DualPivotQuicksort", name := "sort", desc := "(Ljava/util/DualPivotQuicksort$Sorter;[DIII)V" } : Jvm.MethodName) jdk_2529_method_42_code (25 : Nat) (Option.none : Option Jvm.ClassFile.FieldType), Jvm.Cond.code ({ cls := "java/util/DualPivotQuicksort", name := "insertionSort", desc := "([DII)V" } : Jvm.MethodName) jdk_2529_method_44_code (7 : Nat) (Option.none : Option Jvm.ClassFile.FieldType), Jvm.Cond.code ({ cls := "com/example/loads_to_headways/loadstoheadways/replay/Times", name := "countAtOrBefore", desc := "(D)I" } : Jvm.MethodName) prog_31_method_4_code (6 : Nat) (Option.some Jvm.ClassFile.FieldType.int), Jvm.Cond.code ({ cls := "com/example/loads_to_headways/loadstoheadways/replay/Times", name := "add", desc := "(D)V" } : Jvm.MethodName) prog_31_method_2_code (3 : Nat) (Option.none : Option Jvm.ClassFile.FieldType)]
set_option maxRecDepth 65536 in
theorem codes_eq : words1.filter isCode = codes1 := rfl
theorem w_codes : ∀ c ∈ words1.filter isCode, c.before args0 about1 = true := by
  rw [codes_eq]
  intro c hc
  simp only [codes1, List.mem_cons, List.not_mem_nil, or_false] at hc
  rcases hc with rfl | rfl | rfl | rfl | rfl | rfl | rfl | rfl | rfl | rfl | rfl | rfl
  · exact w_c0
  · exact w_c1
  · exact w_c2
  · exact w_c3
  · exact w_c4
  · exact w_c5
  · exact w_c6
  · exact w_c7
  · exact w_c8
  · exact w_c9
  · exact w_c10
  · exact w_c11
set_option maxRecDepth 65536 in
theorem w_t1 : (words1.take 24).all (fun c => isCode c || c.before args0 about1) = true := by decide +kernel
set_option maxRecDepth 65536 in
theorem w_t2 : ((words1.drop 24).take 24).all (fun c => isCode c || c.before args0 about1) = true := by decide +kernel
set_option maxRecDepth 65536 in
theorem w_t3 : ((words1.drop 24).drop 24).all (fun c => isCode c || c.before args0 about1) = true := by decide +kernel
theorem w_tables : (allAtoms (Jvm.Cond.code x code maxLocals ret :: tables_1)).before args0 about1 = true := by
  rw [allAtoms_all]
  show words1.all (fun c => c.before args0 about1) = true
  refine all_split ?_ w_codes
  rw [← List.take_append_drop 24 words1, List.all_append, w_t1, ← List.take_append_drop 24 (words1.drop 24), List.all_append, w_t2, w_t3]
  rfl
set_option maxRecDepth 65536 in
theorem w_case : (Jvm.Cond.and given_1 narrow_1).before args0 about1 = true := by decide +kernel
theorem w_applies : (headSpec (Jvm.Cond.code x code maxLocals ret :: tables_1) room_1).applies x e0.platform about1 = true :=
  (Spec.applies_iff w_frames).mpr ⟨w_running, w_runnable, w_alone, w_named, w_hears, w_ripe, w_room, w_tables⟩
theorem atStart : AtStart classFile x code maxLocals ret World_1 tables_1 room_1 Calls_1 rest_1 Pre_1 launch0 p0 e0 about1 theMethod args0 below0 :=
  ⟨lists_1, trivial, launch0.admits_env _ _ _, launch0.least_env, fairChoices_fair.cas, fairChoices_fair.clock, w_frames, w_args, w_heap, w_applies, trivial, trivial, w_case⟩
end start1
theorem witness_1 : WitnessClaimed_1 := ⟨start1.p0, start1.e0, start1.about1, start1.theMethod, start1.args0, start1.below0, start1.atStart⟩
end Jvm.Pilot.@@N@@
