import JvmDerived
import JvmDerived.Pilot.@@N@@Statement
import JvmDerived.Pilot.@@N@@Code
set_option linter.unusedVariables false
set_option linter.unusedSimpArgs false
namespace Jvm.Pilot.@@N@@
open Jvm Jvm.ClassFile Sem Op Lib Jvm.Free Jvm.Stand Jvm.LawKit Jvm.RoadKit Bundle Jvm.Pilot.@@N@@.Jvm.D
section OwnKit
open Jvm.FP Jvm.Free.Fl
variable {p : Program} {l : Launch} {e : Env} {R : Room} {s : State} {m : MethodId} {args : Array Value} {below : List Frame} {meth : Method} {c : Code} {T : State} {Z : State} {a0 : Array Value} {h : Heap} {n0 cells slots nc ns pc pc' : Nat} {Ls : Array Slot} {st rest : List Value} {Q : Option Value → Heap → Prop}
/-- a contract: the method returns, what it leaves is Q, and nothing below n0 is written -/
def Con (l : Launch) (Z : State) (n0 : Nat) (y : MethodName) (bytes : ByteArray) (ml : Nat) (ret : Option FieldType) (ws : List Jvm.Cond) (rm : Room) (as : Array Value) (h0 : Heap) (Q : Option Value → Heap → Prop) : Prop :=
  MetFree l y (head1 (Jvm.Cond.code y bytes ml ret :: ws) rm) (fun a U => a = as ∧ Z.Warmed39 U.vm ∧ U.heap = h0) (fun _ _ _ _ _ => True) (fun _ U o U' => ∃ v L, o = .returned v ∧ (Fr n0 L ∧ Q v U'.heap) ∧ FrameEnd U o U' L rm.cells rm.slots)
/-- where a walk stands, the places written kept to themselves -/
def Wk (p : Program) (l : Launch) (e : Env) (R : Room) (s : State) (m : MethodId) (args : Array Value) (below : List Frame) (meth : Method) (c : Code) (n0 : Nat) (T : State) (h : Heap) (cells slots : Nat) : Prop :=
  ∃ locs, Stand p l e R s m args below meth c T locs cells slots ∧ Fr n0 locs ∧ T.heap = h
/-- from t the run ends, and leaves Q -/
def Go (p : Program) (e : Env) (below : List Frame) (s : State) (n0 : Nat) (Q : Option Value → Heap → Prop) (nc ns : Nat) (t : State) : Prop :=
  ∃ s₂ o, Steps p.tables e below t s₂ ∧ s₂.status = .running ∧ Ended s₂ below o ∧ ∃ v L, o = .returned v ∧ (Fr n0 L ∧ Q v s₂.heap) ∧ FrameEnd s o s₂ L nc ns
theorem Wk.here (X : Wk p l e R s m args below meth c n0 T h cells slots) : At T m c below := by obtain ⟨_, X, -⟩ := X; exact X.here
theorem Wk.heap (X : Wk p l e R s m args below meth c n0 T h cells slots) : T.heap = h := by obtain ⟨_, -, -, q⟩ := X; exact q
theorem go_back {t t' : State} (b : ∀ target, Steps p.tables e below t' target → Steps p.tables e below t target) (k : Go p e below s n0 Q nc ns t') : Go p e below s n0 Q nc ns t := by
  obtain ⟨u, o, h1, r⟩ := k
  exact ⟨u, o, b u h1, r⟩
theorem con_start {y : MethodName} {bytes : ByteArray} {ml : Nat} {ret : Option FieldType} {ws : List Jvm.Cond} {rm : Room} {as : Array Value} {h0 : Heap} (hpl : plainFor y = true) {fr0 : MethodId → JFrame} (hfr : ∀ m, entryFrame m as ml = fr0 m)
    (k : ∀ (p : Program) (e : Env) (s : State) (m : MethodId) (below : List Frame) (meth : Method) (c : Code) (s₁ : State), p.tables.exec = Jvm.exec → Z.Warmed39 s.vm → c.code = bytes → c.maxLocals = ml → s.vm.findClass y.cls = some m.cls → meth.name = y.name → meth.sig.returnType = ret → meth.locks = false →
      Wk p l e rm s m as below meth c n0 s₁ h0 0 0 → Go p e below s n0 Q rm.cells rm.slots (s₁.setTop (fr0 m))) : Con l Z n0 y bytes ml ret ws rm as h0 Q := by
  refine MetFree.of_bodySF hpl hisR ?_
  intro p e s m args below meth c s₁ Bd hml0 hP hK
  obtain ⟨rfl, hZ, hh⟩ := hP
  rw [hfr]
  exact k p e s m below meth c s₁ Bd.exec hZ Bd.bytes hml0 (findClass_of_methodNamed Bd.named) (name_of_methodNamed Bd.named Bd.method).1 Bd.returns Bd.notSynchronized ⟨[], Stand.of_body Bd, Fr.nil n0, by rw [← hh, Bd.state]; rfl⟩
/-- what an int branch asks -/
def cP : ClassFile.Cond → Int32 → Int32 → Prop
  | .eq, x, y => x = y
  | .ne, x, y => ¬ x = y
  | .lt, x, y => x < y
  | .ge, x, y => ¬ x < y
  | .gt, x, y => y < x
  | .le, x, y => ¬ y < x
theorem cP_yes {cd : ClassFile.Cond} {x y : Int32} (q : cP cd x y) : if_icmp.holds cd x y = true := by
  cases cd
  · exact (teq q).1
  · exact (feq q).2
  · exact (tlt q).1
  · exact (flt q).2.1
  · exact (tlt q).2.2.1
  · exact (flt q).2.2.2
theorem cP_no {cd : ClassFile.Cond} {x y : Int32} (q : ¬ cP cd x y) : if_icmp.holds cd x y = false := by
  cases cd
  · exact (feq q).1
  · exact (teq (Classical.not_not.mp q)).2
  · exact (flt q).1
  · exact (tlt (Classical.not_not.mp q)).2.1
  · exact (flt q).2.2.1
  · exact (tlt (Classical.not_not.mp q)).2.2.2
theorem g_iload (X : Wk p l e R s m args below meth c n0 T h cells slots) (hx : p.tables.exec = Jvm.exec) {k : Nat} {v : Int32} (hp : pc + 2 = pc') (hd : decode c.code pc = .ok (.iload k, 2)) (hl : Ls[k]? = some (.val (.int v))) (k : Go p e below s n0 Q nc ns (T.setTop (mkF m pc' Ls (.int v :: st)))) : Go p e below s n0 Q nc ns (T.setTop (mkF m pc Ls (st))) := by
  subst hp; exact go_back (fun _ j => XS.iload X.here hx rfl hd hl j) k
theorem g_iloadN (X : Wk p l e R s m args below meth c n0 T h cells slots) (hx : p.tables.exec = Jvm.exec) {k : Fin 4} {v : Int32} (hp : pc + 1 = pc') (hd : decode c.code pc = .ok (.iload_n k, 1)) (hl : Ls[k.val]? = some (.val (.int v))) (k : Go p e below s n0 Q nc ns (T.setTop (mkF m pc' Ls (.int v :: st)))) : Go p e below s n0 Q nc ns (T.setTop (mkF m pc Ls (st))) := by
  subst hp; exact go_back (fun _ j => XS.iloadN X.here hx rfl hd hl j) k
theorem g_istore (X : Wk p l e R s m args below meth c n0 T h cells slots) (hx : p.tables.exec = Jvm.exec) {k : Nat} {x : Int32} {l' : Array Slot} (hp : pc + 2 = pc') (hd : decode c.code pc = .ok (.istore k, 2)) (hl : storeLocals Ls k (.int x) = some l') (k : Go p e below s n0 Q nc ns (T.setTop (mkF m pc' l' (rest)))) : Go p e below s n0 Q nc ns (T.setTop (mkF m pc Ls (.int x :: rest))) := by
  subst hp; exact go_back (fun _ j => XS.istore X.here hx rfl hd rfl hl j) k
theorem g_istoreN (X : Wk p l e R s m args below meth c n0 T h cells slots) (hx : p.tables.exec = Jvm.exec) {k : Fin 4} {x : Int32} {l' : Array Slot} (hp : pc + 1 = pc') (hd : decode c.code pc = .ok (.istore_n k, 1)) (hl : storeLocals Ls k.val (.int x) = some l') (k : Go p e below s n0 Q nc ns (T.setTop (mkF m pc' l' (rest)))) : Go p e below s n0 Q nc ns (T.setTop (mkF m pc Ls (.int x :: rest))) := by
  subst hp; exact go_back (fun _ j => XS.istoreN X.here hx rfl hd rfl hl j) k
theorem g_absI {x : Int32} (k : ∀ z : Int32, z = x → Go p e below s n0 Q nc ns (T.setTop (mkF m pc Ls (.int z :: rest)))) : Go p e below s n0 Q nc ns (T.setTop (mkF m pc Ls (.int x :: rest))) := k x rfl
theorem g_lload (X : Wk p l e R s m args below meth c n0 T h cells slots) (hx : p.tables.exec = Jvm.exec) {k : Nat} {v : Int64} (hp : pc + 2 = pc') (hd : decode c.code pc = .ok (.lload k, 2)) (hl : Ls[k]? = some (.val (.long v))) (k : Go p e below s n0 Q nc ns (T.setTop (mkF m pc' Ls (.long v :: st)))) : Go p e below s n0 Q nc ns (T.setTop (mkF m pc Ls (st))) := by
  subst hp; exact go_back (fun _ j => XS.lload X.here hx rfl hd hl j) k
theorem g_lloadN (X : Wk p l e R s m args below meth c n0 T h cells slots) (hx : p.tables.exec = Jvm.exec) {k : Fin 4} {v : Int64} (hp : pc + 1 = pc') (hd : decode c.code pc = .ok (.lload_n k, 1)) (hl : Ls[k.val]? = some (.val (.long v))) (k : Go p e below s n0 Q nc ns (T.setTop (mkF m pc' Ls (.long v :: st)))) : Go p e below s n0 Q nc ns (T.setTop (mkF m pc Ls (st))) := by
  subst hp; exact go_back (fun _ j => XS.lloadN X.here hx rfl hd hl j) k
theorem g_lstore (X : Wk p l e R s m args below meth c n0 T h cells slots) (hx : p.tables.exec = Jvm.exec) {k : Nat} {x : Int64} {l' : Array Slot} (hp : pc + 2 = pc') (hd : decode c.code pc = .ok (.lstore k, 2)) (hl : storeLocals Ls k (.long x) = some l') (k : Go p e below s n0 Q nc ns (T.setTop (mkF m pc' l' (rest)))) : Go p e below s n0 Q nc ns (T.setTop (mkF m pc Ls (.long x :: rest))) := by
  subst hp; exact go_back (fun _ j => XS.lstore X.here hx rfl hd rfl hl j) k
theorem g_lstoreN (X : Wk p l e R s m args below meth c n0 T h cells slots) (hx : p.tables.exec = Jvm.exec) {k : Fin 4} {x : Int64} {l' : Array Slot} (hp : pc + 1 = pc') (hd : decode c.code pc = .ok (.lstore_n k, 1)) (hl : storeLocals Ls k.val (.long x) = some l') (k : Go p e below s n0 Q nc ns (T.setTop (mkF m pc' l' (rest)))) : Go p e below s n0 Q nc ns (T.setTop (mkF m pc Ls (.long x :: rest))) := by
  subst hp; exact go_back (fun _ j => XS.lstoreN X.here hx rfl hd rfl hl j) k
theorem g_absL {x : Int64} (k : ∀ z : Int64, z = x → Go p e below s n0 Q nc ns (T.setTop (mkF m pc Ls (.long z :: rest)))) : Go p e below s n0 Q nc ns (T.setTop (mkF m pc Ls (.long x :: rest))) := k x rfl
theorem g_dload (X : Wk p l e R s m args below meth c n0 T h cells slots) (hx : p.tables.exec = Jvm.exec) {k : Nat} {v : UInt64} (hp : pc + 2 = pc') (hd : decode c.code pc = .ok (.dload k, 2)) (hl : Ls[k]? = some (.val (.double v))) (k : Go p e below s n0 Q nc ns (T.setTop (mkF m pc' Ls (.double v :: st)))) : Go p e below s n0 Q nc ns (T.setTop (mkF m pc Ls (st))) := by
  subst hp; exact go_back (fun _ j => XS.dload X.here hx rfl hd hl j) k
theorem g_dloadN (X : Wk p l e R s m args below meth c n0 T h cells slots) (hx : p.tables.exec = Jvm.exec) {k : Fin 4} {v : UInt64} (hp : pc + 1 = pc') (hd : decode c.code pc = .ok (.dload_n k, 1)) (hl : Ls[k.val]? = some (.val (.double v))) (k : Go p e below s n0 Q nc ns (T.setTop (mkF m pc' Ls (.double v :: st)))) : Go p e below s n0 Q nc ns (T.setTop (mkF m pc Ls (st))) := by
  subst hp; exact go_back (fun _ j => XS.dloadN X.here hx rfl hd hl j) k
theorem g_dstore (X : Wk p l e R s m args below meth c n0 T h cells slots) (hx : p.tables.exec = Jvm.exec) {k : Nat} {x : UInt64} {l' : Array Slot} (hp : pc + 2 = pc') (hd : decode c.code pc = .ok (.dstore k, 2)) (hl : storeLocals Ls k (.double x) = some l') (k : Go p e below s n0 Q nc ns (T.setTop (mkF m pc' l' (rest)))) : Go p e below s n0 Q nc ns (T.setTop (mkF m pc Ls (.double x :: rest))) := by
  subst hp; exact go_back (fun _ j => XS.dstore X.here hx rfl hd rfl hl j) k
theorem g_dstoreN (X : Wk p l e R s m args below meth c n0 T h cells slots) (hx : p.tables.exec = Jvm.exec) {k : Fin 4} {x : UInt64} {l' : Array Slot} (hp : pc + 1 = pc') (hd : decode c.code pc = .ok (.dstore_n k, 1)) (hl : storeLocals Ls k.val (.double x) = some l') (k : Go p e below s n0 Q nc ns (T.setTop (mkF m pc' l' (rest)))) : Go p e below s n0 Q nc ns (T.setTop (mkF m pc Ls (.double x :: rest))) := by
  subst hp; exact go_back (fun _ j => XS.dstoreN X.here hx rfl hd rfl hl j) k
theorem g_absD {x : UInt64} (k : ∀ z : UInt64, z = x → Go p e below s n0 Q nc ns (T.setTop (mkF m pc Ls (.double z :: rest)))) : Go p e below s n0 Q nc ns (T.setTop (mkF m pc Ls (.double x :: rest))) := k x rfl
theorem g_aload (X : Wk p l e R s m args below meth c n0 T h cells slots) (hx : p.tables.exec = Jvm.exec) {k : Nat} {v : Value} (hp : pc + 2 = pc') (hd : decode c.code pc = .ok (.aload k, 2)) (hl : Ls[k]? = some (.val v)) (hv : v.isRef = true) (k : Go p e below s n0 Q nc ns (T.setTop (mkF m pc' Ls (v :: st)))) : Go p e below s n0 Q nc ns (T.setTop (mkF m pc Ls (st))) := by
  subst hp; exact go_back (fun _ j => XS.aload X.here hx rfl hd hl hv j) k
theorem g_aloadN (X : Wk p l e R s m args below meth c n0 T h cells slots) (hx : p.tables.exec = Jvm.exec) {k : Fin 4} {v : Value} (hp : pc + 1 = pc') (hd : decode c.code pc = .ok (.aload_n k, 1)) (hl : Ls[k.val]? = some (.val v)) (hv : v.isRef = true) (k : Go p e below s n0 Q nc ns (T.setTop (mkF m pc' Ls (v :: st)))) : Go p e below s n0 Q nc ns (T.setTop (mkF m pc Ls (st))) := by
  subst hp; exact go_back (fun _ j => XS.aloadN X.here hx rfl hd hl hv j) k
theorem g_astore (X : Wk p l e R s m args below meth c n0 T h cells slots) (hx : p.tables.exec = Jvm.exec) {k : Nat} {x : Value} {l' : Array Slot} (hp : pc + 2 = pc') (hd : decode c.code pc = .ok (.astore k, 2)) (hv : x.isRef = true) (hl : storeLocals Ls k x = some l') (k : Go p e below s n0 Q nc ns (T.setTop (mkF m pc' l' (rest)))) : Go p e below s n0 Q nc ns (T.setTop (mkF m pc Ls (x :: rest))) := by
  subst hp; exact go_back (fun _ j => XS.astore X.here hx rfl hd rfl hv hl j) k
theorem g_astoreN (X : Wk p l e R s m args below meth c n0 T h cells slots) (hx : p.tables.exec = Jvm.exec) {k : Fin 4} {x : Value} {l' : Array Slot} (hp : pc + 1 = pc') (hd : decode c.code pc = .ok (.astore_n k, 1)) (hv : x.isRef = true) (hl : storeLocals Ls k.val x = some l') (k : Go p e below s n0 Q nc ns (T.setTop (mkF m pc' l' (rest)))) : Go p e below s n0 Q nc ns (T.setTop (mkF m pc Ls (x :: rest))) := by
  subst hp; exact go_back (fun _ j => XS.astoreN X.here hx rfl hd rfl hv hl j) k
theorem g_iconst (X : Wk p l e R s m args below meth c n0 T h cells slots) (hx : p.tables.exec = Jvm.exec) {i : Int} {z : Int32} (hp : pc + 1 = pc') (hd : decode c.code pc = .ok (.iconst i, 1)) (hz : Int32.ofInt i = z) (k : Go p e below s n0 Q nc ns (T.setTop (mkF m pc' Ls (.int z :: st)))) : Go p e below s n0 Q nc ns (T.setTop (mkF m pc Ls (st))) := by
  subst hp; exact go_back (fun _ j => XS.iconst X.here hx rfl hd (show Steps _ _ _ (T.setTop (mkF m (pc + 1) Ls (.int (Int32.ofInt i) :: st))) _ from hz ▸ j)) k
theorem g_bipush (X : Wk p l e R s m args below meth c n0 T h cells slots) (hx : p.tables.exec = Jvm.exec) {i : Int} {z : Int32} (hp : pc + 2 = pc') (hd : decode c.code pc = .ok (.bipush i, 2)) (hz : (Int8.ofInt i).toInt32 = z) (k : Go p e below s n0 Q nc ns (T.setTop (mkF m pc' Ls (.int z :: st)))) : Go p e below s n0 Q nc ns (T.setTop (mkF m pc Ls (st))) := by
  subst hp; exact go_back (fun _ j => XS.bipush X.here hx rfl hd (show Steps _ _ _ (T.setTop (mkF m (pc + 2) Ls (.int (Int8.ofInt i).toInt32 :: st))) _ from hz ▸ j)) k
theorem g_sipush (X : Wk p l e R s m args below meth c n0 T h cells slots) (hx : p.tables.exec = Jvm.exec) {i : Int} {z : Int32} (hp : pc + 3 = pc') (hd : decode c.code pc = .ok (.sipush i, 3)) (hz : (Int16.ofInt i).toInt32 = z) (k : Go p e below s n0 Q nc ns (T.setTop (mkF m pc' Ls (.int z :: st)))) : Go p e below s n0 Q nc ns (T.setTop (mkF m pc Ls (st))) := by
  subst hp; exact go_back (fun _ j => XS.sipush X.here hx rfl hd (show Steps _ _ _ (T.setTop (mkF m (pc + 3) Ls (.int (Int16.ofInt i).toInt32 :: st))) _ from hz ▸ j)) k
theorem g_lconst (X : Wk p l e R s m args below meth c n0 T h cells slots) (hx : p.tables.exec = Jvm.exec) {i : Fin 2} {z : Int64} (hp : pc + 1 = pc') (hd : decode c.code pc = .ok (.lconst i, 1)) (hz : Int64.ofNat i = z) (k : Go p e below s n0 Q nc ns (T.setTop (mkF m pc' Ls (.long z :: st)))) : Go p e below s n0 Q nc ns (T.setTop (mkF m pc Ls (st))) := by
  subst hp; exact go_back (fun _ j => XS.lconst X.here hx rfl hd (show Steps _ _ _ (T.setTop (mkF m (pc + 1) Ls (.long (Int64.ofNat i) :: st))) _ from hz ▸ j)) k
theorem g_dconst0 (X : Wk p l e R s m args below meth c n0 T h cells slots) (hx : p.tables.exec = Jvm.exec)  (hp : pc + 1 = pc') (hd : decode c.code pc = .ok (.dconst 0, 1))  (k : Go p e below s n0 Q nc ns (T.setTop (mkF m pc' Ls (.double 0 :: st)))) : Go p e below s n0 Q nc ns (T.setTop (mkF m pc Ls (st))) := by
  subst hp; exact go_back (fun _ j => XS.dconst0 X.here hx rfl hd rfl j) k
theorem g_dconst1 (X : Wk p l e R s m args below meth c n0 T h cells slots) (hx : p.tables.exec = Jvm.exec)  (hp : pc + 1 = pc') (hd : decode c.code pc = .ok (.dconst 1, 1))  (k : Go p e below s n0 Q nc ns (T.setTop (mkF m pc' Ls (.double 4607182418800017408 :: st)))) : Go p e below s n0 Q nc ns (T.setTop (mkF m pc Ls (st))) := by
  subst hp; exact go_back (fun _ j => XS.dconst1 X.here hx rfl hd rfl j) k
theorem g_aconst_null (X : Wk p l e R s m args below meth c n0 T h cells slots) (hx : p.tables.exec = Jvm.exec)  (hp : pc + 1 = pc') (hd : decode c.code pc = .ok (.aconst_null, 1))  (k : Go p e below s n0 Q nc ns (T.setTop (mkF m pc' Ls (.null :: st)))) : Go p e below s n0 Q nc ns (T.setTop (mkF m pc Ls (st))) := by
  subst hp; exact go_back (fun _ j => XS.aconstNull X.here hx rfl hd j) k
theorem g_iadd (X : Wk p l e R s m args below meth c n0 T h cells slots) (hx : p.tables.exec = Jvm.exec) {x y : Int32} (hp : pc + 1 = pc') (hd : decode c.code pc = .ok (.iadd, 1))  (k : Go p e below s n0 Q nc ns (T.setTop (mkF m pc' Ls (.int (x + y) :: rest)))) : Go p e below s n0 Q nc ns (T.setTop (mkF m pc Ls (.int y :: .int x :: rest))) := by
  subst hp; exact go_back (fun _ j => XS.iadd X.here hx rfl hd rfl j) k
theorem g_ladd (X : Wk p l e R s m args below meth c n0 T h cells slots) (hx : p.tables.exec = Jvm.exec) {x y : Int64} (hp : pc + 1 = pc') (hd : decode c.code pc = .ok (.ladd, 1))  (k : Go p e below s n0 Q nc ns (T.setTop (mkF m pc' Ls (.long (x + y) :: rest)))) : Go p e below s n0 Q nc ns (T.setTop (mkF m pc Ls (.long y :: .long x :: rest))) := by
  subst hp; exact go_back (fun _ j => XS.ladd X.here hx rfl hd rfl j) k
theorem g_isub (X : Wk p l e R s m args below meth c n0 T h cells slots) (hx : p.tables.exec = Jvm.exec) {x y : Int32} (hp : pc + 1 = pc') (hd : decode c.code pc = .ok (.isub, 1))  (k : Go p e below s n0 Q nc ns (T.setTop (mkF m pc' Ls (.int (x - y) :: rest)))) : Go p e below s n0 Q nc ns (T.setTop (mkF m pc Ls (.int y :: .int x :: rest))) := by
  subst hp; exact go_back (fun _ j => XS.isub X.here hx rfl hd rfl j) k
theorem g_lsub (X : Wk p l e R s m args below meth c n0 T h cells slots) (hx : p.tables.exec = Jvm.exec) {x y : Int64} (hp : pc + 1 = pc') (hd : decode c.code pc = .ok (.lsub, 1))  (k : Go p e below s n0 Q nc ns (T.setTop (mkF m pc' Ls (.long (x - y) :: rest)))) : Go p e below s n0 Q nc ns (T.setTop (mkF m pc Ls (.long y :: .long x :: rest))) := by
  subst hp; exact go_back (fun _ j => XS.lsub X.here hx rfl hd rfl j) k
theorem g_imul (X : Wk p l e R s m args below meth c n0 T h cells slots) (hx : p.tables.exec = Jvm.exec) {x y : Int32} (hp : pc + 1 = pc') (hd : decode c.code pc = .ok (.imul, 1))  (k : Go p e below s n0 Q nc ns (T.setTop (mkF m pc' Ls (.int (x * y) :: rest)))) : Go p e below s n0 Q nc ns (T.setTop (mkF m pc Ls (.int y :: .int x :: rest))) := by
  subst hp; exact go_back (fun _ j => XS.imul X.here hx rfl hd rfl j) k
theorem g_lmul (X : Wk p l e R s m args below meth c n0 T h cells slots) (hx : p.tables.exec = Jvm.exec) {x y : Int64} (hp : pc + 1 = pc') (hd : decode c.code pc = .ok (.lmul, 1))  (k : Go p e below s n0 Q nc ns (T.setTop (mkF m pc' Ls (.long (x * y) :: rest)))) : Go p e below s n0 Q nc ns (T.setTop (mkF m pc Ls (.long y :: .long x :: rest))) := by
  subst hp; exact go_back (fun _ j => XS.lmul X.here hx rfl hd rfl j) k
theorem g_iand (X : Wk p l e R s m args below meth c n0 T h cells slots) (hx : p.tables.exec = Jvm.exec) {x y : Int32} (hp : pc + 1 = pc') (hd : decode c.code pc = .ok (.iand, 1))  (k : Go p e below s n0 Q nc ns (T.setTop (mkF m pc' Ls (.int (x &&& y) :: rest)))) : Go p e below s n0 Q nc ns (T.setTop (mkF m pc Ls (.int y :: .int x :: rest))) := by
  subst hp; exact go_back (fun _ j => XS.iand X.here hx rfl hd rfl j) k
theorem g_land (X : Wk p l e R s m args below meth c n0 T h cells slots) (hx : p.tables.exec = Jvm.exec) {x y : Int64} (hp : pc + 1 = pc') (hd : decode c.code pc = .ok (.land, 1))  (k : Go p e below s n0 Q nc ns (T.setTop (mkF m pc' Ls (.long (x &&& y) :: rest)))) : Go p e below s n0 Q nc ns (T.setTop (mkF m pc Ls (.long y :: .long x :: rest))) := by
  subst hp; exact go_back (fun _ j => XS.land X.here hx rfl hd rfl j) k
theorem g_ior (X : Wk p l e R s m args below meth c n0 T h cells slots) (hx : p.tables.exec = Jvm.exec) {x y : Int32} (hp : pc + 1 = pc') (hd : decode c.code pc = .ok (.ior, 1))  (k : Go p e below s n0 Q nc ns (T.setTop (mkF m pc' Ls (.int (x ||| y) :: rest)))) : Go p e below s n0 Q nc ns (T.setTop (mkF m pc Ls (.int y :: .int x :: rest))) := by
  subst hp; exact go_back (fun _ j => XS.ior X.here hx rfl hd rfl j) k
theorem g_lor (X : Wk p l e R s m args below meth c n0 T h cells slots) (hx : p.tables.exec = Jvm.exec) {x y : Int64} (hp : pc + 1 = pc') (hd : decode c.code pc = .ok (.lor, 1))  (k : Go p e below s n0 Q nc ns (T.setTop (mkF m pc' Ls (.long (x ||| y) :: rest)))) : Go p e below s n0 Q nc ns (T.setTop (mkF m pc Ls (.long y :: .long x :: rest))) := by
  subst hp; exact go_back (fun _ j => XS.lor X.here hx rfl hd rfl j) k
theorem g_ixor (X : Wk p l e R s m args below meth c n0 T h cells slots) (hx : p.tables.exec = Jvm.exec) {x y : Int32} (hp : pc + 1 = pc') (hd : decode c.code pc = .ok (.ixor, 1))  (k : Go p e below s n0 Q nc ns (T.setTop (mkF m pc' Ls (.int (x ^^^ y) :: rest)))) : Go p e below s n0 Q nc ns (T.setTop (mkF m pc Ls (.int y :: .int x :: rest))) := by
  subst hp; exact go_back (fun _ j => XS.ixor X.here hx rfl hd rfl j) k
theorem g_lxor (X : Wk p l e R s m args below meth c n0 T h cells slots) (hx : p.tables.exec = Jvm.exec) {x y : Int64} (hp : pc + 1 = pc') (hd : decode c.code pc = .ok (.lxor, 1))  (k : Go p e below s n0 Q nc ns (T.setTop (mkF m pc' Ls (.long (x ^^^ y) :: rest)))) : Go p e below s n0 Q nc ns (T.setTop (mkF m pc Ls (.long y :: .long x :: rest))) := by
  subst hp; exact go_back (fun _ j => XS.lxor X.here hx rfl hd rfl j) k
theorem g_idiv (X : Wk p l e R s m args below meth c n0 T h cells slots) (hx : p.tables.exec = Jvm.exec) {x y : Int32} (hp : pc + 1 = pc') (hd : decode c.code pc = .ok (.idiv, 1)) (hy : y ≠ 0) (k : Go p e below s n0 Q nc ns (T.setTop (mkF m pc' Ls (.int (x / y) :: rest)))) : Go p e below s n0 Q nc ns (T.setTop (mkF m pc Ls (.int y :: .int x :: rest))) := by
  subst hp; exact go_back (fun _ j => XS.idiv X.here hx rfl hd rfl hy j) k
theorem g_irem (X : Wk p l e R s m args below meth c n0 T h cells slots) (hx : p.tables.exec = Jvm.exec) {x y : Int32} (hp : pc + 1 = pc') (hd : decode c.code pc = .ok (.irem, 1)) (hy : y ≠ 0) (k : Go p e below s n0 Q nc ns (T.setTop (mkF m pc' Ls (.int (x % y) :: rest)))) : Go p e below s n0 Q nc ns (T.setTop (mkF m pc Ls (.int y :: .int x :: rest))) := by
  subst hp; obtain ⟨_, X, -⟩ := X; exact go_back (fun _ j => iremM X hx (g := mkF m pc Ls (.int y :: .int x :: rest)) rfl hd rfl hy j) k
theorem g_ldiv (X : Wk p l e R s m args below meth c n0 T h cells slots) (hx : p.tables.exec = Jvm.exec) {x y : Int64} (hp : pc + 1 = pc') (hd : decode c.code pc = .ok (.ldiv, 1)) (hy : y ≠ 0) (k : Go p e below s n0 Q nc ns (T.setTop (mkF m pc' Ls (.long (x / y) :: rest)))) : Go p e below s n0 Q nc ns (T.setTop (mkF m pc Ls (.long y :: .long x :: rest))) := by
  subst hp; exact go_back (fun _ j => XS.ldiv X.here hx rfl hd rfl hy j) k
theorem g_lrem (X : Wk p l e R s m args below meth c n0 T h cells slots) (hx : p.tables.exec = Jvm.exec) {x y : Int64} (hp : pc + 1 = pc') (hd : decode c.code pc = .ok (.lrem, 1)) (hy : y ≠ 0) (k : Go p e below s n0 Q nc ns (T.setTop (mkF m pc' Ls (.long (x - (x / y) * y) :: rest)))) : Go p e below s n0 Q nc ns (T.setTop (mkF m pc Ls (.long y :: .long x :: rest))) := by
  subst hp; exact go_back (fun _ j => XS.lrem X.here hx rfl hd rfl hy j) k
theorem g_ishl (X : Wk p l e R s m args below meth c n0 T h cells slots) (hx : p.tables.exec = Jvm.exec) {x y : Int32} (hp : pc + 1 = pc') (hd : decode c.code pc = .ok (.ishl, 1))  (k : Go p e below s n0 Q nc ns (T.setTop (mkF m pc' Ls (.int (x <<< (y &&& 31)) :: rest)))) : Go p e below s n0 Q nc ns (T.setTop (mkF m pc Ls (.int y :: .int x :: rest))) := by
  subst hp; exact go_back (fun _ j => XS.ishl X.here hx rfl hd rfl j) k
theorem g_ishr (X : Wk p l e R s m args below meth c n0 T h cells slots) (hx : p.tables.exec = Jvm.exec) {x y : Int32} (hp : pc + 1 = pc') (hd : decode c.code pc = .ok (.ishr, 1))  (k : Go p e below s n0 Q nc ns (T.setTop (mkF m pc' Ls (.int (x >>> (y &&& 31)) :: rest)))) : Go p e below s n0 Q nc ns (T.setTop (mkF m pc Ls (.int y :: .int x :: rest))) := by
  subst hp; exact go_back (fun _ j => XS.ishr X.here hx rfl hd rfl j) k
theorem g_iushr (X : Wk p l e R s m args below meth c n0 T h cells slots) (hx : p.tables.exec = Jvm.exec) {x y : Int32} (hp : pc + 1 = pc') (hd : decode c.code pc = .ok (.iushr, 1))  (k : Go p e below s n0 Q nc ns (T.setTop (mkF m pc' Ls (.int ((x.toUInt32 >>> (y &&& 31).toUInt32).toInt32) :: rest)))) : Go p e below s n0 Q nc ns (T.setTop (mkF m pc Ls (.int y :: .int x :: rest))) := by
  subst hp; exact go_back (fun _ j => XS.iushr X.here hx rfl hd rfl j) k
theorem g_lshl (X : Wk p l e R s m args below meth c n0 T h cells slots) (hx : p.tables.exec = Jvm.exec) {x : Int64} {y : Int32} (hp : pc + 1 = pc') (hd : decode c.code pc = .ok (.lshl, 1))  (k : Go p e below s n0 Q nc ns (T.setTop (mkF m pc' Ls (.long (x <<< (y &&& 0x3f).toInt64) :: rest)))) : Go p e below s n0 Q nc ns (T.setTop (mkF m pc Ls (.int y :: .long x :: rest))) := by
  subst hp; exact go_back (fun _ j => XS.lshl X.here hx rfl hd rfl j) k
theorem g_lshr (X : Wk p l e R s m args below meth c n0 T h cells slots) (hx : p.tables.exec = Jvm.exec) {x : Int64} {y : Int32} (hp : pc + 1 = pc') (hd : decode c.code pc = .ok (.lshr, 1))  (k : Go p e below s n0 Q nc ns (T.setTop (mkF m pc' Ls (.long (x >>> (y &&& 0x3f).toInt64) :: rest)))) : Go p e below s n0 Q nc ns (T.setTop (mkF m pc Ls (.int y :: .long x :: rest))) := by
  subst hp; exact go_back (fun _ j => XS.lshr X.here hx rfl hd rfl j) k
theorem g_lushr (X : Wk p l e R s m args below meth c n0 T h cells slots) (hx : p.tables.exec = Jvm.exec) {x : Int64} {y : Int32} (hp : pc + 1 = pc') (hd : decode c.code pc = .ok (.lushr, 1))  (k : Go p e below s n0 Q nc ns (T.setTop (mkF m pc' Ls (.long ((x.toUInt64 >>> (y &&& 0x3f).toInt64.toUInt64).toInt64) :: rest)))) : Go p e below s n0 Q nc ns (T.setTop (mkF m pc Ls (.int y :: .long x :: rest))) := by
  subst hp; exact go_back (fun _ j => XS.lushr X.here hx rfl hd rfl j) k
theorem g_ineg (X : Wk p l e R s m args below meth c n0 T h cells slots) (hx : p.tables.exec = Jvm.exec) {x : Int32} (hp : pc + 1 = pc') (hd : decode c.code pc = .ok (.ineg, 1))  (k : Go p e below s n0 Q nc ns (T.setTop (mkF m pc' Ls (.int (-x) :: rest)))) : Go p e below s n0 Q nc ns (T.setTop (mkF m pc Ls (.int x :: rest))) := by
  subst hp; exact go_back (fun _ j => XS.ineg X.here hx rfl hd rfl j) k
theorem g_lneg (X : Wk p l e R s m args below meth c n0 T h cells slots) (hx : p.tables.exec = Jvm.exec) {x : Int64} (hp : pc + 1 = pc') (hd : decode c.code pc = .ok (.lneg, 1))  (k : Go p e below s n0 Q nc ns (T.setTop (mkF m pc' Ls (.long (-x) :: rest)))) : Go p e below s n0 Q nc ns (T.setTop (mkF m pc Ls (.long x :: rest))) := by
  subst hp; exact go_back (fun _ j => XS.lneg X.here hx rfl hd rfl j) k
theorem g_i2l (X : Wk p l e R s m args below meth c n0 T h cells slots) (hx : p.tables.exec = Jvm.exec) {x : Int32} (hp : pc + 1 = pc') (hd : decode c.code pc = .ok (.i2l, 1))  (k : Go p e below s n0 Q nc ns (T.setTop (mkF m pc' Ls (.long x.toInt64 :: rest)))) : Go p e below s n0 Q nc ns (T.setTop (mkF m pc Ls (.int x :: rest))) := by
  subst hp; exact go_back (fun _ j => XS.i2l X.here hx rfl hd rfl j) k
theorem g_l2i (X : Wk p l e R s m args below meth c n0 T h cells slots) (hx : p.tables.exec = Jvm.exec) {x : Int64} (hp : pc + 1 = pc') (hd : decode c.code pc = .ok (.l2i, 1))  (k : Go p e below s n0 Q nc ns (T.setTop (mkF m pc' Ls (.int x.toInt32 :: rest)))) : Go p e below s n0 Q nc ns (T.setTop (mkF m pc Ls (.long x :: rest))) := by
  subst hp; exact go_back (fun _ j => XS.l2i X.here hx rfl hd rfl j) k
theorem g_i2b (X : Wk p l e R s m args below meth c n0 T h cells slots) (hx : p.tables.exec = Jvm.exec) {x : Int32} (hp : pc + 1 = pc') (hd : decode c.code pc = .ok (.i2b, 1))  (k : Go p e below s n0 Q nc ns (T.setTop (mkF m pc' Ls (.int x.toInt8.toInt32 :: rest)))) : Go p e below s n0 Q nc ns (T.setTop (mkF m pc Ls (.int x :: rest))) := by
  subst hp; exact go_back (fun _ j => XS.i2b X.here hx rfl hd rfl j) k
theorem g_i2s (X : Wk p l e R s m args below meth c n0 T h cells slots) (hx : p.tables.exec = Jvm.exec) {x : Int32} (hp : pc + 1 = pc') (hd : decode c.code pc = .ok (.i2s, 1))  (k : Go p e below s n0 Q nc ns (T.setTop (mkF m pc' Ls (.int x.toInt16.toInt32 :: rest)))) : Go p e below s n0 Q nc ns (T.setTop (mkF m pc Ls (.int x :: rest))) := by
  subst hp; exact go_back (fun _ j => XS.i2s X.here hx rfl hd rfl j) k
theorem g_i2c (X : Wk p l e R s m args below meth c n0 T h cells slots) (hx : p.tables.exec = Jvm.exec) {x : Int32} (hp : pc + 1 = pc') (hd : decode c.code pc = .ok (.i2c, 1))  (k : Go p e below s n0 Q nc ns (T.setTop (mkF m pc' Ls (.int x.toUInt32.toUInt16.toUInt32.toInt32 :: rest)))) : Go p e below s n0 Q nc ns (T.setTop (mkF m pc Ls (.int x :: rest))) := by
  subst hp; exact go_back (fun _ j => XS.i2c X.here hx rfl hd rfl j) k
theorem g_lcmp (X : Wk p l e R s m args below meth c n0 T h cells slots) (hx : p.tables.exec = Jvm.exec) {x y : Int64} (hp : pc + 1 = pc') (hd : decode c.code pc = .ok (.lcmp, 1))  (k : Go p e below s n0 Q nc ns (T.setTop (mkF m pc' Ls (.int (lcmpW x y) :: rest)))) : Go p e below s n0 Q nc ns (T.setTop (mkF m pc Ls (.long y :: .long x :: rest))) := by
  subst hp; exact go_back (fun _ j => XS.lcmp X.here hx rfl hd rfl j) k
theorem g_i2d (X : Wk p l e R s m args below meth c n0 T h cells slots) (hx : p.tables.exec = Jvm.exec) {x : Int32} (hp : pc + 1 = pc') (hd : decode c.code pc = .ok (.i2d, 1))  (k : Go p e below s n0 Q nc ns (T.setTop (mkF m pc' Ls (.double (FP.i2d x) :: rest)))) : Go p e below s n0 Q nc ns (T.setTop (mkF m pc Ls (.int x :: rest))) := by
  subst hp; exact go_back (fun _ j => XS.i2dS X.here hx rfl hd rfl rfl j) k
theorem g_l2d (X : Wk p l e R s m args below meth c n0 T h cells slots) (hx : p.tables.exec = Jvm.exec) {x : Int64} (hp : pc + 1 = pc') (hd : decode c.code pc = .ok (.l2d, 1))  (k : Go p e below s n0 Q nc ns (T.setTop (mkF m pc' Ls (.double (FP.l2d x) :: rest)))) : Go p e below s n0 Q nc ns (T.setTop (mkF m pc Ls (.long x :: rest))) := by
  subst hp; exact go_back (fun _ j => XS.l2dS X.here hx rfl hd rfl rfl j) k
theorem g_dneg (X : Wk p l e R s m args below meth c n0 T h cells slots) (hx : p.tables.exec = Jvm.exec) {x : UInt64} (hp : pc + 1 = pc') (hd : decode c.code pc = .ok (.dneg, 1))  (k : Go p e below s n0 Q nc ns (T.setTop (mkF m pc' Ls (.double (FP.dneg x) :: rest)))) : Go p e below s n0 Q nc ns (T.setTop (mkF m pc Ls (.double x :: rest))) := by
  subst hp; exact go_back (fun _ j => XS.dnegS X.here hx rfl hd rfl rfl j) k
theorem g_dcmp (X : Wk p l e R s m args below meth c n0 T h cells slots) (hx : p.tables.exec = Jvm.exec) {o : CmpOp} {x y : UInt64} {z : Int32} (hp : pc + 1 = pc') (hd : decode c.code pc = .ok (.dcmp o, 1)) (hz : cmpValue (FP.dcmp x y) o = z) (k : Go p e below s n0 Q nc ns (T.setTop (mkF m pc' Ls (.int z :: rest)))) : Go p e below s n0 Q nc ns (T.setTop (mkF m pc Ls (.double y :: .double x :: rest))) := by
  subst hp; exact go_back (fun _ j => XS.dcmpS X.here hx rfl hd rfl hz j) k
theorem g_dadd (X : Wk p l e R s m args below meth c n0 T h cells slots) (hx : p.tables.exec = Jvm.exec) {x y z : UInt64} (hp : pc + 1 = pc') (hd : decode c.code pc = .ok (.dadd, 1)) (hn : NoNaN64 (FP.dadd x y)) (hz : FP.dadd x y = z) (k : Go p e below s n0 Q nc ns (T.setTop (mkF m pc' Ls (.double z :: rest)))) : Go p e below s n0 Q nc ns (T.setTop (mkF m pc Ls (.double y :: .double x :: rest))) := by
  subst hp; exact go_back (fun _ j => XS.daddS X.here hx rfl hd rfl hn hz j) k
theorem g_dsub (X : Wk p l e R s m args below meth c n0 T h cells slots) (hx : p.tables.exec = Jvm.exec) {x y z : UInt64} (hp : pc + 1 = pc') (hd : decode c.code pc = .ok (.dsub, 1)) (hn : NoNaN64 (FP.dsub x y)) (hz : FP.dsub x y = z) (k : Go p e below s n0 Q nc ns (T.setTop (mkF m pc' Ls (.double z :: rest)))) : Go p e below s n0 Q nc ns (T.setTop (mkF m pc Ls (.double y :: .double x :: rest))) := by
  subst hp; exact go_back (fun _ j => XS.dsubS X.here hx rfl hd rfl hn hz j) k
theorem g_dmul (X : Wk p l e R s m args below meth c n0 T h cells slots) (hx : p.tables.exec = Jvm.exec) {x y z : UInt64} (hp : pc + 1 = pc') (hd : decode c.code pc = .ok (.dmul, 1)) (hn : NoNaN64 (FP.dmul x y)) (hz : FP.dmul x y = z) (k : Go p e below s n0 Q nc ns (T.setTop (mkF m pc' Ls (.double z :: rest)))) : Go p e below s n0 Q nc ns (T.setTop (mkF m pc Ls (.double y :: .double x :: rest))) := by
  subst hp; exact go_back (fun _ j => XS.dmulS X.here hx rfl hd rfl hn hz j) k
theorem g_ddiv (X : Wk p l e R s m args below meth c n0 T h cells slots) (hx : p.tables.exec = Jvm.exec) {x y z : UInt64} (hp : pc + 1 = pc') (hd : decode c.code pc = .ok (.ddiv, 1)) (hn : NoNaN64 (FP.ddiv x y)) (hz : FP.ddiv x y = z) (k : Go p e below s n0 Q nc ns (T.setTop (mkF m pc' Ls (.double z :: rest)))) : Go p e below s n0 Q nc ns (T.setTop (mkF m pc Ls (.double y :: .double x :: rest))) := by
  subst hp; exact go_back (fun _ j => XS.ddivS X.here hx rfl hd rfl hn hz j) k
theorem g_dup (X : Wk p l e R s m args below meth c n0 T h cells slots) (hx : p.tables.exec = Jvm.exec) {x : Value} (hp : pc + 1 = pc') (hd : decode c.code pc = .ok (.dup, 1)) (hc : x.category = 1) (k : Go p e below s n0 Q nc ns (T.setTop (mkF m pc' Ls (x :: x :: rest)))) : Go p e below s n0 Q nc ns (T.setTop (mkF m pc Ls (x :: rest))) := by
  subst hp; exact go_back (fun _ j => XS.dup X.here hx rfl hd rfl hc j) k
theorem g_dup_x1 (X : Wk p l e R s m args below meth c n0 T h cells slots) (hx : p.tables.exec = Jvm.exec) {x y : Value} (hp : pc + 1 = pc') (hd : decode c.code pc = .ok (.dup_x1, 1)) (hc : x.category = 1) (hc' : y.category = 1) (k : Go p e below s n0 Q nc ns (T.setTop (mkF m pc' Ls (x :: y :: x :: rest)))) : Go p e below s n0 Q nc ns (T.setTop (mkF m pc Ls (x :: y :: rest))) := by
  subst hp; exact go_back (fun _ j => XS.dupX1 X.here hx rfl hd rfl hc hc' j) k
theorem g_pop (X : Wk p l e R s m args below meth c n0 T h cells slots) (hx : p.tables.exec = Jvm.exec) {x : Value} (hp : pc + 1 = pc') (hd : decode c.code pc = .ok (.pop, 1)) (hc : x.category = 1) (k : Go p e below s n0 Q nc ns (T.setTop (mkF m pc' Ls (rest)))) : Go p e below s n0 Q nc ns (T.setTop (mkF m pc Ls (x :: rest))) := by
  subst hp; exact go_back (fun _ j => XS.pop X.here hx rfl hd rfl hc j) k
theorem g_dup2 (X : Wk p l e R s m args below meth c n0 T h cells slots) (hx : p.tables.exec = Jvm.exec) {x y : Value} (hp : pc + 1 = pc') (hd : decode c.code pc = .ok (.dup2, 1)) (hc : x.category = 1) (hc' : y.category = 1) (k : Go p e below s n0 Q nc ns (T.setTop (mkF m pc' Ls (x :: y :: x :: y :: rest)))) : Go p e below s n0 Q nc ns (T.setTop (mkF m pc Ls (x :: y :: rest))) := by
  subst hp; exact go_back (fun _ j => Jvm.Free.XT.dup2 X.here hx rfl hd rfl hc hc' j) k
theorem g_iinc (X : Wk p l e R s m args below meth c n0 T h cells slots) (hx : p.tables.exec = Jvm.exec) {k : Nat} {cst : Int} {x : Int32} {l' : Array Slot} (hp : pc + 3 = pc') (hd : decode c.code pc = .ok (.iinc k cst, 3)) (hl : Ls[k]? = some (.val (.int x))) (hl' : storeLocals Ls k (.int (x + Int32.ofInt cst)) = some l') (q : Go p e below s n0 Q nc ns (T.setTop (mkF m pc' l' st))) : Go p e below s n0 Q nc ns (T.setTop (mkF m pc Ls st)) := by
  subst hp; exact go_back (fun _ j => XS.iinc X.here hx rfl hd hl hl' j) q
theorem g_goto (X : Wk p l e R s m args below meth c n0 T h cells slots) (hx : p.tables.exec = Jvm.exec) {o : Int} (hd : decode c.code pc = .ok (.goto o, 3)) (ho : 0 ≤ (pc : Int) + o) (hp : ((pc : Int) + o).toNat = pc') (k : Go p e below s n0 Q nc ns (T.setTop (mkF m pc' Ls st))) : Go p e below s n0 Q nc ns (T.setTop (mkF m pc Ls st)) :=
  go_back (fun _ j => XS.goto X.here hx rfl rfl hd ho hp j) k
theorem g_ifY (X : Wk p l e R s m args below meth c n0 T h cells slots) (hx : p.tables.exec = Jvm.exec) {cd : ClassFile.Cond} {o : Int} {x : Int32} {pcY : Nat} (hd : decode c.code pc = .ok (.ifCond cd o, 3)) (ho : 0 ≤ (pc : Int) + o) (hY : ((pc : Int) + o).toNat = pcY) (q : cP cd x 0) (k : Go p e below s n0 Q nc ns (T.setTop (mkF m pcY Ls rest))) : Go p e below s n0 Q nc ns (T.setTop (mkF m pc Ls (.int x :: rest))) :=
  go_back (fun _ j => XS.ifYes X.here hx rfl rfl hd rfl ((if0 _ _).trans (cP_yes q)) ho hY j) k
theorem g_ifN (X : Wk p l e R s m args below meth c n0 T h cells slots) (hx : p.tables.exec = Jvm.exec) {cd : ClassFile.Cond} {o : Int} {x : Int32} {pcN : Nat} (hd : decode c.code pc = .ok (.ifCond cd o, 3)) (hN : pc + 3 = pcN) (q : ¬ cP cd x 0) (k : Go p e below s n0 Q nc ns (T.setTop (mkF m pcN Ls rest))) : Go p e below s n0 Q nc ns (T.setTop (mkF m pc Ls (.int x :: rest))) := by
  subst hN; exact go_back (fun _ j => XS.ifNo X.here hx rfl hd rfl ((if0 _ _).trans (cP_no q)) j) k
theorem g_if (X : Wk p l e R s m args below meth c n0 T h cells slots) (hx : p.tables.exec = Jvm.exec) {cd : ClassFile.Cond} {o : Int} {x : Int32} {pcY pcN : Nat} (hd : decode c.code pc = .ok (.ifCond cd o, 3)) (ho : 0 ≤ (pc : Int) + o) (hY : ((pc : Int) + o).toNat = pcY) (hN : pc + 3 = pcN) (kY : cP cd x 0 → Go p e below s n0 Q nc ns (T.setTop (mkF m pcY Ls rest))) (kN : ¬ cP cd x 0 → Go p e below s n0 Q nc ns (T.setTop (mkF m pcN Ls rest))) : Go p e below s n0 Q nc ns (T.setTop (mkF m pc Ls (.int x :: rest))) := by
  by_cases q : cP cd x 0
  · exact g_ifY X hx hd ho hY q (kY q)
  · exact g_ifN X hx hd hN q (kN q)
theorem g_icmpY (X : Wk p l e R s m args below meth c n0 T h cells slots) (hx : p.tables.exec = Jvm.exec) {cd : ClassFile.Cond} {o : Int} {x y : Int32} {pcY : Nat} (hd : decode c.code pc = .ok (.if_icmp cd o, 3)) (ho : 0 ≤ (pc : Int) + o) (hY : ((pc : Int) + o).toNat = pcY) (q : cP cd x y) (k : Go p e below s n0 Q nc ns (T.setTop (mkF m pcY Ls rest))) : Go p e below s n0 Q nc ns (T.setTop (mkF m pc Ls (.int y :: .int x :: rest))) :=
  go_back (fun _ j => XS.icmpYes X.here hx rfl rfl hd rfl (cP_yes q) ho hY j) k
theorem g_icmpN (X : Wk p l e R s m args below meth c n0 T h cells slots) (hx : p.tables.exec = Jvm.exec) {cd : ClassFile.Cond} {o : Int} {x y : Int32} {pcN : Nat} (hd : decode c.code pc = .ok (.if_icmp cd o, 3)) (hN : pc + 3 = pcN) (q : ¬ cP cd x y) (k : Go p e below s n0 Q nc ns (T.setTop (mkF m pcN Ls rest))) : Go p e below s n0 Q nc ns (T.setTop (mkF m pc Ls (.int y :: .int x :: rest))) := by
  subst hN; exact go_back (fun _ j => XS.icmpNo X.here hx rfl hd rfl (cP_no q) j) k
theorem g_icmp (X : Wk p l e R s m args below meth c n0 T h cells slots) (hx : p.tables.exec = Jvm.exec) {cd : ClassFile.Cond} {o : Int} {x y : Int32} {pcY pcN : Nat} (hd : decode c.code pc = .ok (.if_icmp cd o, 3)) (ho : 0 ≤ (pc : Int) + o) (hY : ((pc : Int) + o).toNat = pcY) (hN : pc + 3 = pcN) (kY : cP cd x y → Go p e below s n0 Q nc ns (T.setTop (mkF m pcY Ls rest))) (kN : ¬ cP cd x y → Go p e below s n0 Q nc ns (T.setTop (mkF m pcN Ls rest))) : Go p e below s n0 Q nc ns (T.setTop (mkF m pc Ls (.int y :: .int x :: rest))) := by
  by_cases q : cP cd x y
  · exact g_icmpY X hx hd ho hY q (kY q)
  · exact g_icmpN X hx hd hN q (kN q)
theorem g_ifnullY (X : Wk p l e R s m args below meth c n0 T h cells slots) (hx : p.tables.exec = Jvm.exec) {o : Int} {pcY : Nat} (hd : decode c.code pc = .ok (.ifnull o, 3)) (ho : 0 ≤ (pc : Int) + o) (hY : ((pc : Int) + o).toNat = pcY) (k : Go p e below s n0 Q nc ns (T.setTop (mkF m pcY Ls rest))) : Go p e below s n0 Q nc ns (T.setTop (mkF m pc Ls (.null :: rest))) :=
  go_back (fun _ j => XS.ifnullYes X.here hx rfl rfl hd rfl ho hY j) k
theorem g_ifnullN (X : Wk p l e R s m args below meth c n0 T h cells slots) (hx : p.tables.exec = Jvm.exec) {o : Int} {b : Addr} {pcN : Nat} (hd : decode c.code pc = .ok (.ifnull o, 3)) (hN : pc + 3 = pcN) (k : Go p e below s n0 Q nc ns (T.setTop (mkF m pcN Ls rest))) : Go p e below s n0 Q nc ns (T.setTop (mkF m pc Ls (.ref b :: rest))) := by
  subst hN; exact go_back (fun _ j => XS.ifnullNo X.here hx rfl hd rfl j) k
theorem g_ifnonnullY (X : Wk p l e R s m args below meth c n0 T h cells slots) (hx : p.tables.exec = Jvm.exec) {o : Int} {b : Addr} {pcY : Nat} (hd : decode c.code pc = .ok (.ifnonnull o, 3)) (ho : 0 ≤ (pc : Int) + o) (hY : ((pc : Int) + o).toNat = pcY) (k : Go p e below s n0 Q nc ns (T.setTop (mkF m pcY Ls rest))) : Go p e below s n0 Q nc ns (T.setTop (mkF m pc Ls (.ref b :: rest))) :=
  go_back (fun _ j => XS.ifnonnullYes X.here hx rfl rfl hd rfl ho hY j) k
theorem g_ifnonnullN (X : Wk p l e R s m args below meth c n0 T h cells slots) (hx : p.tables.exec = Jvm.exec) {o : Int} {pcN : Nat} (hd : decode c.code pc = .ok (.ifnonnull o, 3)) (hN : pc + 3 = pcN) (k : Go p e below s n0 Q nc ns (T.setTop (mkF m pcN Ls rest))) : Go p e below s n0 Q nc ns (T.setTop (mkF m pc Ls (.null :: rest))) := by
  subst hN; exact go_back (fun _ j => XS.ifnonnullNo X.here hx rfl hd rfl j) k
theorem g_normI {x z : Int32} (hz : x = z) (k : Go p e below s n0 Q nc ns (T.setTop (mkF m pc Ls (.int z :: rest)))) : Go p e below s n0 Q nc ns (T.setTop (mkF m pc Ls (.int x :: rest))) := hz ▸ k
theorem g_normD {x z : UInt64} (hz : x = z) (k : Go p e below s n0 Q nc ns (T.setTop (mkF m pc Ls (.double z :: rest)))) : Go p e below s n0 Q nc ns (T.setTop (mkF m pc Ls (.double x :: rest))) := hz ▸ k
theorem g_iincC (X : Wk p l e R s m args below meth c n0 T h cells slots) (hx : p.tables.exec = Jvm.exec) {k : Nat} {cst : Int} {x z : Int32} {l' : Array Slot} (hp : pc + 3 = pc') (hd : decode c.code pc = .ok (.iinc k cst, 3)) (hl : Ls[k]? = some (.val (.int x))) (hz : x + Int32.ofInt cst = z) (hl' : storeLocals Ls k (.int z) = some l') (q : Go p e below s n0 Q nc ns (T.setTop (mkF m pc' l' st))) : Go p e below s n0 Q nc ns (T.setTop (mkF m pc Ls st)) := by
  subst hz; exact g_iinc X hx hp hd hl hl' q
theorem g_ldcI (X : Wk p l e R s m args below meth c n0 T h cells slots) (hx : p.tables.exec = Jvm.exec) (hZ : Z.Warmed39 s.vm) {own : String} {index : Nat} {v : Int32} (hown : s.vm.findClass own = some m.cls) (w : (Jvm.Cond.constant own index v).before a0 Z = true) (hp : pc + 2 = pc') (hd : decode c.code pc = .ok (.ldc index, 2))
    (k : Go p e below s n0 Q nc ns (T.setTop (mkF m pc' Ls (.int v :: st)))) : Go p e below s n0 Q nc ns (T.setTop (mkF m pc Ls st)) := by
  subst hp; obtain ⟨_, X, -⟩ := X
  exact go_back (X.ldcInt hx hown (mvT hZ w) (g := mkF m pc Ls st) rfl hd) k
theorem g_ldc2L (X : Wk p l e R s m args below meth c n0 T h cells slots) (hx : p.tables.exec = Jvm.exec) (hZ : Z.Warmed39 s.vm) {own : String} {index : Nat} {v : Int64} (hown : s.vm.findClass own = some m.cls) (w : (Jvm.Cond.constantLong own index v).before a0 Z = true) (hp : pc + 3 = pc') (hd : decode c.code pc = .ok (.ldc2_w index, 3))
    (k : Go p e below s n0 Q nc ns (T.setTop (mkF m pc' Ls (.long v :: st)))) : Go p e below s n0 Q nc ns (T.setTop (mkF m pc Ls st)) := by
  subst hp; obtain ⟨_, X, -⟩ := X
  exact go_back (X.ldc2Long hx hown (mvT hZ w) (g := mkF m pc Ls st) rfl hd) k
theorem g_ldc2D (X : Wk p l e R s m args below meth c n0 T h cells slots) (hx : p.tables.exec = Jvm.exec) (hZ : Z.Warmed39 s.vm) {own : String} {index : Nat} {v : UInt64} (hown : s.vm.findClass own = some m.cls) (w : (Jvm.Cond.constantDouble own index v).before a0 Z = true) (hp : pc + 3 = pc') (hd : decode c.code pc = .ok (.ldc2_w index, 3))
    (k : Go p e below s n0 Q nc ns (T.setTop (mkF m pc' Ls (.double v :: st)))) : Go p e below s n0 Q nc ns (T.setTop (mkF m pc Ls st)) := by
  subst hp; obtain ⟨_, X, -⟩ := X
  exact go_back (X.ldc2DoubleC hx hown (mvT hZ w) (g := mkF m pc Ls st) rfl hd) k
theorem g_getF (X : Wk p l e R s m args below meth c n0 T h cells slots) (hx : p.tables.exec = Jvm.exec) (hZ : Z.Warmed39 s.vm) {own R0 O n d : String} {index : Nat} (hown : s.vm.findClass own = some m.cls) (w : (Jvm.Cond.fieldLink own index R0 n d).before a0 Z = true) (via : Via Z R0 O n d) {a : Addr} {v : Value} (F : Fld Z h a O n d v) (hp : pc + 3 = pc') (hd : decode c.code pc = .ok (.getfield index, 3))
    (k : ∀ T', Wk p l e R s m args below meth c n0 T' h cells slots → Go p e below s n0 Q nc ns (T'.setTop (mkF m pc' Ls (v :: rest)))) : Go p e below s n0 Q nc ns (T.setTop (mkF m pc Ls (.ref a :: rest))) := by
  subst hp; obtain ⟨locs, X, N, eT⟩ := X
  obtain ⟨T', X', e', b⟩ := getF X hx hZ hown (host := "") (Or.inl w) via eT F (g := mkF m pc Ls (.ref a :: rest)) rfl rfl hd
  exact go_back b (k T' ⟨locs, X', N, e'⟩)
theorem g_getS (X : Wk p l e R s m args below meth c n0 T h cells slots) (hx : p.tables.exec = Jvm.exec) (hZ : Z.Warmed39 s.vm) {own R0 O n d : String} {index : Nat} (hown : s.vm.findClass own = some m.cls) (w : (Jvm.Cond.fieldLink own index R0 n d).before a0 Z = true) (via : Via Z R0 O n d) {v : Value} (F : Sta Z h O n d v) (hp : pc + 3 = pc') (hd : decode c.code pc = .ok (.getstatic index, 3))
    (k : ∀ T', Wk p l e R s m args below meth c n0 T' h cells slots → Go p e below s n0 Q nc ns (T'.setTop (mkF m pc' Ls (v :: st)))) : Go p e below s n0 Q nc ns (T.setTop (mkF m pc Ls st)) := by
  subst hp; obtain ⟨locs, X, N, eT⟩ := X
  obtain ⟨T', X', e', b⟩ := getS X hx hZ hown w via eT F (g := mkF m pc Ls st) rfl hd (host := "")
  exact go_back b (k T' ⟨locs, X', N, e'⟩)
theorem g_putF (X : Wk p l e R s m args below meth c n0 T h cells slots) (hx : p.tables.exec = Jvm.exec) (hZ : Z.Warmed39 s.vm) {own R0 O n d C : String} {index kk : Nat} {ty : FieldType} (hown : s.vm.findClass own = some m.cls) (w : (Jvm.Cond.fieldLink own index R0 n d).before a0 Z = true) (via : Via Z R0 O n d) {a : Addr} {v old : Value} (F : Fld Z h a O n d old) (E : Exa Z h a C)
    (L : (Jvm.Cond.lays C O n d).before a0 Z = true ∨ ((Jvm.Cond.laysFinal C O n d).before a0 Z = true ∧ own = O ∧ meth.name = "<init>")) (wi : (Jvm.Cond.instantiable C kk).before a0 Z = true) (hty : parseFieldDescriptor d = some ty) (hn : narrow ty v = v) (hf : fits ty v = true) (hna : n0 ≤ a) (hp : pc + 3 = pc') (hd : decode c.code pc = .ok (.putfield index, 3))
    (k : ∀ T' h', Wk p l e R s m args below meth c n0 T' h' cells slots → Wr h h' a (Jvm.RoadKit.slotOf Z O n d) v → Go p e below s n0 Q nc ns (T'.setTop (mkF m pc' Ls rest))) : Go p e below s n0 Q nc ns (T.setTop (mkF m pc Ls (v :: .ref a :: rest))) := by
  subst hp; obtain ⟨locs, X, N, eT⟩ := X
  obtain ⟨T', h', X', e', W', b⟩ := putF X hx hZ hown (host := "") (Or.inl w) via eT F E L wi hty hn hf (g := mkF m pc Ls (v :: .ref a :: rest)) rfl rfl hd
  exact go_back b (k T' h' ⟨_, X', Fr.snoc X' N hna, e'⟩ W')
theorem g_newO (X : Wk p l e R s m args below meth c n0 T h cells slots) (hx : p.tables.exec = Jvm.exec) (hZ : Z.Warmed39 s.vm) {own C : String} {index n : Nat} (hown : s.vm.findClass own = some m.cls) (w : (Jvm.Cond.classLink own index C).before a0 Z = true) (wi : (Jvm.Cond.instantiable C n).before a0 Z = true) (wz : (Jvm.Cond.initialized C).before a0 Z = true) (hp : pc + 3 = pc') (hd : decode c.code pc = .ok (.new index, 3)) (hc : cells + 1 ≤ R.cells) (hl : slots + n ≤ R.slots)
    (k : ∀ T' h' a, a = h.size → Wk p l e R s m args below meth c n0 T' h' (cells + 1) (slots + n) → Ext h h' → Exa Z h' a C → (∀ {O nm d : String} {ty : FieldType}, Laid Z a0 C O nm d → parseFieldDescriptor d = some ty → Fld Z h' a O nm d (defaultValue ty)) → Go p e below s n0 Q nc ns (T'.setTop (mkF m pc' Ls (.ref a :: st)))) : Go p e below s n0 Q nc ns (T.setTop (mkF m pc Ls st)) := by
  subst hp; obtain ⟨locs, X, N, eT⟩ := X
  obtain ⟨T', h', X', e', E', A', D', -, b⟩ := newO X hx hZ hown w wi wz eT (g := mkF m pc Ls st) rfl hd hc hl
  exact go_back b (k T' h' h.size rfl ⟨_, X', N, e'⟩ E' A' (fun L q => D' L q))
theorem g_initO (X : Wk p l e R s m args below meth c n0 T h cells slots) (hx : p.tables.exec = Jvm.exec) (hZ : Z.Warmed39 s.vm) {own : String} {index : Nat} (hown : s.vm.findClass own = some m.cls) (w1 : (Jvm.Cond.methodLink own index Lib.objectInit).before a0 Z = true) (w2 : (Jvm.Cond.instanceMethod Lib.objectInit).before a0 Z = true) (w3 : (Jvm.Cond.code Lib.objectInit ⟨#[0xb1]⟩ 1 none).before a0 Z = true) {a : Addr} (hsz : Ls.size = c.maxLocals) (hp : pc + 3 = pc') (hd : decode c.code pc = .ok (.invokespecial index, 3)) (hf : 1 ≤ R.frames) {W : Nat} (hW : 2 * 0 + (rest.map fun v => v.category).sum ≤ W) (hl : W + 12 ≤ R.locals)
    (k : ∀ T', Wk p l e R s m args below meth c n0 T' h cells slots → Go p e below s n0 Q nc ns (T'.setTop (mkF m pc' Ls rest))) : Go p e below s n0 Q nc ns (T.setTop (mkF m pc Ls (.ref a :: rest))) := by
  subst hp; obtain ⟨locs, X, N, eT⟩ := X
  obtain ⟨T', X', e', b⟩ := initO X hx hZ hown w1 w2 w3 eT (g := mkF m pc Ls (.ref a :: rest)) rfl hsz rfl hd hf hW hl
  exact go_back b (k T' ⟨_, X', N, e'⟩)
section Calls
variable {y z : MethodName} {bytes : ByteArray} {maxL : Nat} {ret : Option FieldType} {rm : Room} {as : Array Value} {Qc : Option Value → Heap → Prop} {own : String} {index W : Nat} {argsL : List Value} {ps : List FieldType} {r : Option FieldType}
theorem g_callS (X : Wk p l e R s m args below meth c n0 T h cells slots) (hx : p.tables.exec = Jvm.exec) (hZ : Z.Warmed39 s.vm) (hown : s.vm.findClass own = some m.cls) (w1 : (Jvm.Cond.methodLink own index y).before a0 Z = true) (w2 : (Jvm.Cond.static y).before a0 Z = true) (w3 : (Jvm.Cond.initialized y.cls).before a0 Z = true) (w4 : (Jvm.Cond.code y bytes maxL ret).before a0 Z = true)
    (hy : y.cls ≠ "java/lang/invoke/MethodHandle" ∧ y.cls ≠ "java/lang/invoke/VarHandle") (hM : Con l Z n0 y bytes maxL ret [] rm as h Qc) (hlen : parseMethodDescriptor y.desc = some ⟨ps, r⟩) (hl : argsL.length = ps.length) (has : as = argsL.toArray) (hsz : Ls.size = c.maxLocals) (hp : pc + 3 = pc') (hd : decode c.code pc = .ok (.invokestatic index, 3))
    (hst : st = argsL.reverse ++ rest) (hW : 2 * 0 + (rest.map fun v => v.category).sum ≤ W) (hf : rm.frames + 1 ≤ R.frames) (hlo : W + (maxL + 11) + rm.locals ≤ R.locals) (hc : cells + rm.cells ≤ R.cells) (hs : slots + rm.slots ≤ R.slots)
    (k : ∀ v T' h', Wk p l e R s m args below meth c n0 T' h' (cells + rm.cells) (slots + rm.slots) → Qc v h' → Go p e below s n0 Q nc ns (T'.setTop (mkF m pc' Ls (v.toList ++ rest)))) : Go p e below s n0 Q nc ns (T.setTop (mkF m pc Ls st)) := by
  subst hp; subst has; obtain ⟨locs, X, N, eT⟩ := X
  obtain ⟨v, vm1, ⟨U, L1, c1, s1⟩, -, X', ⟨Lc, hQ, l1, y1, z1⟩, b⟩ := Jvm.LawKit.callS X hx hown (mvT hZ w1) (mvT hZ w2) (mvT hZ w3) (mvT hZ w4) hy (backOf (W := W) (Q := fun v h L => Fr n0 L ∧ Qc v h) hM hZ w4 w3 hf hlo) (g := mkF m pc Ls st) rfl hsz (argsL := argsL) (rest := rest) (lenOf hlen hl) hst hW hd (fun _ _ => ⟨rfl, eT, hc, hs⟩)
  dsimp only [Pt.U, Pt.locs, Pt.cells, Pt.slots] at X' l1 y1 z1 b hQ
  subst l1 y1 z1
  exact go_back b (k v U U.heap ⟨_, X', Fr.app N hQ.1, rfl⟩ hQ.2)
theorem g_callI (X : Wk p l e R s m args below meth c n0 T h cells slots) (hx : p.tables.exec = Jvm.exec) (hZ : Z.Warmed39 s.vm) (hown : s.vm.findClass own = some m.cls) (hy1 : y.name = "<init>") (w1 : (Jvm.Cond.methodLink own index y).before a0 Z = true) (w2 : (Jvm.Cond.instanceMethod y).before a0 Z = true) (w3 : (Jvm.Cond.initialized y.cls).before a0 Z = true) (w4 : (Jvm.Cond.code y bytes maxL none).before a0 Z = true)
    (hy : y.cls ≠ "java/lang/invoke/MethodHandle" ∧ y.cls ≠ "java/lang/invoke/VarHandle") {a : Addr} (hM : Con l Z n0 y bytes maxL none [] rm as h Qc) (hlen : parseMethodDescriptor y.desc = some ⟨ps, r⟩) (hl : argsL.length = ps.length) (has : as = (Value.ref a :: argsL).toArray) (hsz : Ls.size = c.maxLocals) (hp : pc + 3 = pc') (hd : decode c.code pc = .ok (.invokespecial index, 3))
    (hst : st = argsL.reverse ++ .ref a :: rest) (hW : 2 * 0 + (rest.map fun v => v.category).sum ≤ W) (hf : rm.frames + 1 ≤ R.frames) (hlo : W + (maxL + 11) + rm.locals ≤ R.locals) (hc : cells + rm.cells ≤ R.cells) (hs : slots + rm.slots ≤ R.slots)
    (k : ∀ v T' h', Wk p l e R s m args below meth c n0 T' h' (cells + rm.cells) (slots + rm.slots) → Qc v h' → Go p e below s n0 Q nc ns (T'.setTop (mkF m pc' Ls (v.toList ++ rest)))) : Go p e below s n0 Q nc ns (T.setTop (mkF m pc Ls st)) := by
  subst hp; subst has; obtain ⟨locs, X, N, eT⟩ := X
  obtain ⟨v, vm1, ⟨U, L1, c1, s1⟩, -, X', ⟨Lc, hQ, l1, y1, z1⟩, b⟩ := X.specialBack hx hy1 hown (mvT hZ w1) (mvT hZ w2) (mvT hZ w4) hy (backOf (W := W) (Q := fun v h L => Fr n0 L ∧ Qc v h) hM hZ w4 w3 hf hlo) (g := mkF m pc Ls st) rfl hsz (Steps.refl _) (a := a) (argsL := argsL) (rest := rest) (lenOf hlen hl) hst hW hd (fun _ _ => ⟨rfl, eT, hc, hs⟩)
  dsimp only [Pt.U, Pt.locs, Pt.cells, Pt.slots] at X' l1 y1 z1 b hQ
  subst l1 y1 z1
  exact go_back (fun _ j => b.trans j) (k v U U.heap ⟨_, X', Fr.app N hQ.1, rfl⟩ hQ.2)
theorem g_callV (X : Wk p l e R s m args below meth c n0 T h cells slots) (hx : p.tables.exec = Jvm.exec) (hZ : Z.Warmed39 s.vm) (hown : s.vm.findClass own = some m.cls) {C : String} (w1 : (Jvm.Cond.methodLink own index y).before a0 Z = true) (w2 : (Jvm.Cond.declares y).before a0 Z = true) (w5 : (Jvm.Cond.selects C y y).before a0 Z = true) (w6 : (Jvm.Cond.instanceMethod y).before a0 Z = true) (w3 : (Jvm.Cond.initialized y.cls).before a0 Z = true) (w4 : (Jvm.Cond.code y bytes maxL ret).before a0 Z = true)
    (hy : y.cls ≠ "java/lang/invoke/MethodHandle" ∧ y.cls ≠ "java/lang/invoke/VarHandle") {a : Addr} (E : Exa Z h a C) (hM : Con l Z n0 y bytes maxL ret [] rm as h Qc) (hlen : parseMethodDescriptor y.desc = some ⟨ps, r⟩) (hl : argsL.length = ps.length) (has : as = (Value.ref a :: argsL).toArray) (hsz : Ls.size = c.maxLocals) (hp : pc + 3 = pc') (hd : decode c.code pc = .ok (.invokevirtual index, 3))
    (hst : st = argsL.reverse ++ .ref a :: rest) (hW : 2 * 0 + (rest.map fun v => v.category).sum ≤ W) (hf : rm.frames + 1 ≤ R.frames) (hlo : W + (maxL + 11) + rm.locals ≤ R.locals) (hc : cells + rm.cells ≤ R.cells) (hs : slots + rm.slots ≤ R.slots)
    (k : ∀ v T' h', Wk p l e R s m args below meth c n0 T' h' (cells + rm.cells) (slots + rm.slots) → Qc v h' → Go p e below s n0 Q nc ns (T'.setTop (mkF m pc' Ls (v.toList ++ rest)))) : Go p e below s n0 Q nc ns (T.setTop (mkF m pc Ls st)) := by
  subst hp; subst has; obtain ⟨locs, X, N, eT⟩ := X
  obtain ⟨cq, kq, qa, qb, qc⟩ := isOf hZ eT E
  obtain ⟨v, vm1, ⟨U, L1, c1, s1⟩, -, X', ⟨Lc, hQ, l1, y1, z1⟩, b⟩ := X.virtualBack hx (y := y) (z := y) hown (mvT hZ w1) (mvT hZ w2) (notFace_of_selects (args := #[]) (mvT hZ w5)) (mvT hZ w5) (mvT hZ w6) hy (backOf (W := W) (Q := fun v h L => Fr n0 L ∧ Qc v h) hM hZ w4 w3 hf hlo) qa qc (g := mkF m pc Ls st) rfl hsz (Steps.refl _) (argsL := argsL) (rest := rest) (lenOf hlen hl) hst hW hd (fun _ _ => ⟨rfl, eT, hc, hs⟩)
  dsimp only [Pt.U, Pt.locs, Pt.cells, Pt.slots] at X' l1 y1 z1 b hQ
  subst l1 y1 z1
  exact go_back (fun _ j => b.trans j) (k v U U.heap ⟨_, X', Fr.app N hQ.1, rfl⟩ hQ.2)
theorem g_nat (X : Wk p l e R s m args below meth c n0 T h cells slots) (hx : p.tables.exec = Jvm.exec) (hZ : Z.Warmed39 s.vm) (hown : s.vm.findClass own = some m.cls) (w1 : (Jvm.Cond.methodLink own index y).before a0 Z = true) (w2 : (Jvm.Cond.static y).before a0 Z = true) (w3 : (Jvm.Cond.initialized y.cls).before a0 Z = true) (w4 : (Jvm.Cond.code y bytes maxL ret).before a0 Z = true)
    (hy : y.cls ≠ "java/lang/invoke/MethodHandle" ∧ y.cls ≠ "java/lang/invoke/VarHandle") {F : Array Value → Prop} {val : Value} (hK : (Jvm.Cond.code y bytes maxL ret).before args s = true → Back l R p e below s args y 3 W (fun A a' => A.cells ≤ R.cells ∧ A.slots ≤ R.slots ∧ F a') (fun A _ v B => v = some val ∧ B = A)) (hlen : parseMethodDescriptor y.desc = some ⟨ps, r⟩) (hl : argsL.length = ps.length) (hsz : Ls.size = c.maxLocals) (hp : pc + 3 = pc') (hd : decode c.code pc = .ok (.invokestatic index, 3))
    (hst : st = argsL.reverse ++ rest) (hW : 2 * 0 + (rest.map fun v => v.category).sum ≤ W) (hc : cells ≤ R.cells) (hs : slots ≤ R.slots) (hF : F argsL.toArray)
    (k : ∀ T', Wk p l e R s m args below meth c n0 T' h cells slots → Go p e below s n0 Q nc ns (T'.setTop (mkF m pc' Ls (val :: rest)))) : Go p e below s n0 Q nc ns (T.setTop (mkF m pc Ls st)) := by
  subst hp; obtain ⟨locs, X, N, eT⟩ := X
  obtain ⟨T', X', e', b⟩ := natS X hx hZ hown w1 w2 w3 w4 hy eT hK (g := mkF m pc Ls st) rfl hsz (argsL := argsL) (rest := rest) (lenOf hlen hl) hst hW hd hc hs hF rfl
  exact go_back b (k T' ⟨_, X', N, e'⟩)
end Calls
theorem g_absD2 (X : Wk p l e R s m args below meth c n0 T h cells slots) (hx : p.tables.exec = Jvm.exec) (hZ : Z.Warmed39 s.vm) {own : String} {index W : Nat} (hown : s.vm.findClass own = some m.cls) (w1 : (Jvm.Cond.methodLink own index Jvm.Free.Fl.Abs.absDN).before a0 Z = true) (w2 : (Jvm.Cond.static Jvm.Free.Fl.Abs.absDN).before a0 Z = true) (w3 : (Jvm.Cond.initialized Jvm.Free.Fl.Abs.absDN.cls).before a0 Z = true) (w4 : (Jvm.Cond.code Jvm.Free.Fl.Abs.absDN Jvm.Free.Fl.Abs.absDCode 2 (some .double)).before a0 Z = true)
    {x : UInt64} (hn : NoNaN64 x) (hsz : Ls.size = c.maxLocals) (hp : pc + 3 = pc') (hd : decode c.code pc = .ok (.invokestatic index, 3)) (hW : 2 * 0 + (rest.map fun v => v.category).sum ≤ W) (hf : 1 ≤ R.frames) (hlo : W + 13 ≤ R.locals) (hc : cells ≤ R.cells) (hs : slots ≤ R.slots)
    (k : ∀ T', Wk p l e R s m args below meth c n0 T' h cells slots → Go p e below s n0 Q nc ns (T'.setTop (mkF m pc' Ls (.double (x &&& 0x7fffffffffffffff) :: rest)))) : Go p e below s n0 Q nc ns (T.setTop (mkF m pc Ls (.double x :: rest))) :=
  g_nat X hx hZ hown w1 w2 w3 w4 (by decide) (fun q => Jvm.Free.Fl.Abs.absD_pays x q hf hlo) (ps := [.double]) (r := some .double) (by decide +kernel) (argsL := [.double x]) rfl hsz hp hd rfl hW hc hs ⟨rfl, hn⟩ k
theorem g_ret (X : Wk p l e R s m args below meth c n0 T h cells slots) (hx : p.tables.exec = Jvm.exec) (hlk : meth.locks = false) {t : FieldType} {w : Value} {i : Instr} (hret : meth.sig.returnType = some t) (hn : narrow t w = w)
    (hi : (i = .ireturn ∧ (t = .int ∨ t = .boolean ∨ t = .byte ∨ t = .char ∨ t = .short) ∧ ∃ z, w = .int z) ∨ (i = .lreturn ∧ t = .long ∧ ∃ z, w = .long z) ∨ (i = .dreturn ∧ t = .double ∧ ∃ z, w = .double z) ∨ (i = .freturn ∧ t = .float ∧ ∃ z, w = .float z) ∨ (i = .areturn ∧ t.isReference = true ∧ w.isRef = true))
    (hd : decode c.code pc = .ok (i, 1)) (hc : cells ≤ nc) (hs : slots ≤ ns) (hQ : Q (some w) h) : Go p e below s n0 Q nc ns (T.setTop (mkF m pc Ls (w :: rest))) := by
  obtain ⟨locs, X, N, eT⟩ := X
  obtain ⟨fs, hr, hrun, hended, hW, hsame⟩ := X.leave (v := some w) (fun q => by rw [hret] at q; cases q) hlk
  exact ⟨_, _, retOut X hx hret hn hi hd hr, hrun, hended, _, _, rfl, ⟨N, by show Q (some w) T.heap; rw [eT]; exact hQ⟩, ⟨_, rfl⟩, hW, hsame.mono hc hs⟩
theorem g_retI (X : Wk p l e R s m args below meth c n0 T h cells slots) (hx : p.tables.exec = Jvm.exec) (hlk : meth.locks = false) {z : Int32} (hret : meth.sig.returnType = some .int) (hd : decode c.code pc = .ok (.ireturn, 1)) (hc : cells ≤ nc) (hs : slots ≤ ns) (hQ : Q (some (.int z)) h) : Go p e below s n0 Q nc ns (T.setTop (mkF m pc Ls (.int z :: rest))) :=
  g_ret X hx hlk hret rfl (Or.inl ⟨rfl, Or.inl rfl, z, rfl⟩) hd hc hs hQ
theorem g_retZ (X : Wk p l e R s m args below meth c n0 T h cells slots) (hx : p.tables.exec = Jvm.exec) (hlk : meth.locks = false) {z : Int32} (hret : meth.sig.returnType = some .boolean) (hz : z = 0 ∨ z = 1) (hd : decode c.code pc = .ok (.ireturn, 1)) (hc : cells ≤ nc) (hs : slots ≤ ns) (hQ : Q (some (.int z)) h) : Go p e below s n0 Q nc ns (T.setTop (mkF m pc Ls (.int z :: rest))) :=
  g_ret X hx hlk hret (by rcases hz with rfl | rfl <;> rfl) (Or.inl ⟨rfl, Or.inr (Or.inl rfl), z, rfl⟩) hd hc hs hQ
theorem g_retL (X : Wk p l e R s m args below meth c n0 T h cells slots) (hx : p.tables.exec = Jvm.exec) (hlk : meth.locks = false) {z : Int64} (hret : meth.sig.returnType = some .long) (hd : decode c.code pc = .ok (.lreturn, 1)) (hc : cells ≤ nc) (hs : slots ≤ ns) (hQ : Q (some (.long z)) h) : Go p e below s n0 Q nc ns (T.setTop (mkF m pc Ls (.long z :: rest))) :=
  g_ret X hx hlk hret rfl (Or.inr (Or.inl ⟨rfl, rfl, z, rfl⟩)) hd hc hs hQ
theorem g_retD (X : Wk p l e R s m args below meth c n0 T h cells slots) (hx : p.tables.exec = Jvm.exec) (hlk : meth.locks = false) {z : UInt64} (hret : meth.sig.returnType = some .double) (hd : decode c.code pc = .ok (.dreturn, 1)) (hc : cells ≤ nc) (hs : slots ≤ ns) (hQ : Q (some (.double z)) h) : Go p e below s n0 Q nc ns (T.setTop (mkF m pc Ls (.double z :: rest))) :=
  g_ret X hx hlk hret rfl (Or.inr (Or.inr (Or.inl ⟨rfl, rfl, z, rfl⟩))) hd hc hs hQ
theorem g_retV (X : Wk p l e R s m args below meth c n0 T h cells slots) (hx : p.tables.exec = Jvm.exec) (hlk : meth.locks = false) (hret : meth.sig.returnType = none) (hd : decode c.code pc = .ok (.return_, 1)) (hc : cells ≤ nc) (hs : slots ≤ ns) (hQ : Q none h) : Go p e below s n0 Q nc ns (T.setTop (mkF m pc Ls [])) := by
  obtain ⟨locs, X, N, eT⟩ := X
  obtain ⟨fs, hr, hrun, hended, hW, hsame⟩ := X.leave (v := none) (fun _ => rfl) hlk
  exact ⟨_, _, X.returnOut hx hret hd hr, hrun, hended, _, _, rfl, ⟨N, by show Q none T.heap; rw [eT]; exact hQ⟩, ⟨_, rfl⟩, hW, hsame.mono hc hs⟩
end OwnKit
theorem d1_0 : decode method_2_code 0 = .ok (.iload_n 0, 1) := by decide +kernel
theorem d1_1 : decode method_2_code 1 = .ok (.iconst 1, 1) := by decide +kernel
theorem d1_2 : decode method_2_code 2 = .ok (.if_icmp .ne 11, 3) := by decide +kernel
theorem d1_5 : decode method_2_code 5 = .ok (.iconst 1, 1) := by decide +kernel
theorem d1_6 : decode method_2_code 6 = .ok (.newarray .double, 2) := by decide +kernel
theorem d1_8 : decode method_2_code 8 = .ok (.dup, 1) := by decide +kernel
theorem d1_9 : decode method_2_code 9 = .ok (.iconst 0, 1) := by decide +kernel
theorem d1_10 : decode method_2_code 10 = .ok (.dload_n 1, 1) := by decide +kernel
theorem d1_11 : decode method_2_code 11 = .ok (.dastore, 1) := by decide +kernel
theorem d1_12 : decode method_2_code 12 = .ok (.areturn, 1) := by decide +kernel
theorem d1_13 : decode method_2_code 13 = .ok (.iload_n 0, 1) := by decide +kernel
theorem d1_14 : decode method_2_code 14 = .ok (.iconst 2, 1) := by decide +kernel
theorem d1_15 : decode method_2_code 15 = .ok (.if_icmp .ne 15, 3) := by decide +kernel
theorem d1_18 : decode method_2_code 18 = .ok (.iconst 2, 1) := by decide +kernel
theorem d1_19 : decode method_2_code 19 = .ok (.newarray .double, 2) := by decide +kernel
theorem d1_21 : decode method_2_code 21 = .ok (.dup, 1) := by decide +kernel
theorem d1_22 : decode method_2_code 22 = .ok (.iconst 0, 1) := by decide +kernel
theorem d1_23 : decode method_2_code 23 = .ok (.dload_n 1, 1) := by decide +kernel
theorem d1_24 : decode method_2_code 24 = .ok (.dastore, 1) := by decide +kernel
theorem d1_25 : decode method_2_code 25 = .ok (.dup, 1) := by decide +kernel
theorem d1_26 : decode method_2_code 26 = .ok (.iconst 1, 1) := by decide +kernel
theorem d1_27 : decode method_2_code 27 = .ok (.dload_n 3, 1) := by decide +kernel
theorem d1_28 : decode method_2_code 28 = .ok (.dastore, 1) := by decide +kernel
theorem d1_29 : decode method_2_code 29 = .ok (.areturn, 1) := by decide +kernel
theorem d1_30 : decode method_2_code 30 = .ok (.iload_n 0, 1) := by decide +kernel
theorem d1_31 : decode method_2_code 31 = .ok (.iconst 3, 1) := by decide +kernel
theorem d1_32 : decode method_2_code 32 = .ok (.if_icmp .ne 20, 3) := by decide +kernel
theorem d1_35 : decode method_2_code 35 = .ok (.iconst 3, 1) := by decide +kernel
theorem d1_36 : decode method_2_code 36 = .ok (.newarray .double, 2) := by decide +kernel
theorem d1_38 : decode method_2_code 38 = .ok (.dup, 1) := by decide +kernel
theorem d1_39 : decode method_2_code 39 = .ok (.iconst 0, 1) := by decide +kernel
theorem d1_40 : decode method_2_code 40 = .ok (.dload_n 1, 1) := by decide +kernel
theorem d1_41 : decode method_2_code 41 = .ok (.dastore, 1) := by decide +kernel
theorem d1_42 : decode method_2_code 42 = .ok (.dup, 1) := by decide +kernel
theorem d1_43 : decode method_2_code 43 = .ok (.iconst 1, 1) := by decide +kernel
theorem d1_44 : decode method_2_code 44 = .ok (.dload_n 3, 1) := by decide +kernel
theorem d1_45 : decode method_2_code 45 = .ok (.dastore, 1) := by decide +kernel
theorem d1_46 : decode method_2_code 46 = .ok (.dup, 1) := by decide +kernel
theorem d1_47 : decode method_2_code 47 = .ok (.iconst 2, 1) := by decide +kernel
theorem d1_48 : decode method_2_code 48 = .ok (.dload 5, 2) := by decide +kernel
theorem d1_50 : decode method_2_code 50 = .ok (.dastore, 1) := by decide +kernel
theorem d1_51 : decode method_2_code 51 = .ok (.areturn, 1) := by decide +kernel
theorem d1_52 : decode method_2_code 52 = .ok (.iconst 4, 1) := by decide +kernel
theorem d1_53 : decode method_2_code 53 = .ok (.newarray .double, 2) := by decide +kernel
theorem d1_55 : decode method_2_code 55 = .ok (.dup, 1) := by decide +kernel
theorem d1_56 : decode method_2_code 56 = .ok (.iconst 0, 1) := by decide +kernel
theorem d1_57 : decode method_2_code 57 = .ok (.dload_n 1, 1) := by decide +kernel
theorem d1_58 : decode method_2_code 58 = .ok (.dastore, 1) := by decide +kernel
theorem d1_59 : decode method_2_code 59 = .ok (.dup, 1) := by decide +kernel
theorem d1_60 : decode method_2_code 60 = .ok (.iconst 1, 1) := by decide +kernel
theorem d1_61 : decode method_2_code 61 = .ok (.dload_n 3, 1) := by decide +kernel
theorem d1_62 : decode method_2_code 62 = .ok (.dastore, 1) := by decide +kernel
theorem d1_63 : decode method_2_code 63 = .ok (.dup, 1) := by decide +kernel
theorem d1_64 : decode method_2_code 64 = .ok (.iconst 2, 1) := by decide +kernel
theorem d1_65 : decode method_2_code 65 = .ok (.dload 5, 2) := by decide +kernel
theorem d1_67 : decode method_2_code 67 = .ok (.dastore, 1) := by decide +kernel
theorem d1_68 : decode method_2_code 68 = .ok (.dup, 1) := by decide +kernel
theorem d1_69 : decode method_2_code 69 = .ok (.iconst 3, 1) := by decide +kernel
theorem d1_70 : decode method_2_code 70 = .ok (.dload 7, 2) := by decide +kernel
theorem d1_72 : decode method_2_code 72 = .ok (.dastore, 1) := by decide +kernel
theorem d1_73 : decode method_2_code 73 = .ok (.areturn, 1) := by decide +kernel
theorem d2_0 : decode method_3_code 0 = .ok (.lload_n 0, 1) := by decide +kernel
theorem d2_1 : decode method_3_code 1 = .ok (.lload 6, 2) := by decide +kernel
theorem d2_3 : decode method_3_code 3 = .ok (.lmul, 1) := by decide +kernel
theorem d2_4 : decode method_3_code 4 = .ok (.lload 6, 2) := by decide +kernel
theorem d2_6 : decode method_3_code 6 = .ok (.lmul, 1) := by decide +kernel
theorem d2_7 : decode method_3_code 7 = .ok (.lload_n 2, 1) := by decide +kernel
theorem d2_8 : decode method_3_code 8 = .ok (.lload 6, 2) := by decide +kernel
theorem d2_10 : decode method_3_code 10 = .ok (.lmul, 1) := by decide +kernel
theorem d2_11 : decode method_3_code 11 = .ok (.ladd, 1) := by decide +kernel
theorem d2_12 : decode method_3_code 12 = .ok (.lload 4, 2) := by decide +kernel
theorem d2_14 : decode method_3_code 14 = .ok (.ladd, 1) := by decide +kernel
theorem d2_15 : decode method_3_code 15 = .ok (.l2d, 1) := by decide +kernel
theorem d2_16 : decode method_3_code 16 = .ok (.dreturn, 1) := by decide +kernel
theorem d3_0 : decode prog_25_method_2_code 0 = .ok (.aload_n 0, 1) := by decide +kernel
theorem d3_1 : decode prog_25_method_2_code 1 = .ok (.arraylength, 1) := by decide +kernel
theorem d3_2 : decode prog_25_method_2_code 2 = .ok (.iconst 1, 1) := by decide +kernel
theorem d3_3 : decode prog_25_method_2_code 3 = .ok (.isub, 1) := by decide +kernel
theorem d3_4 : decode prog_25_method_2_code 4 = .ok (.istore_n 2, 1) := by decide +kernel
theorem d3_5 : decode prog_25_method_2_code 5 = .ok (.aload_n 0, 1) := by decide +kernel
theorem d3_6 : decode prog_25_method_2_code 6 = .ok (.arraylength, 1) := by decide +kernel
theorem d3_7 : decode prog_25_method_2_code 7 = .ok (.newarray .double, 2) := by decide +kernel
theorem d3_9 : decode prog_25_method_2_code 9 = .ok (.astore_n 3, 1) := by decide +kernel
theorem d3_10 : decode prog_25_method_2_code 10 = .ok (.iload_n 2, 1) := by decide +kernel
theorem d3_11 : decode prog_25_method_2_code 11 = .ok (.ifCond .le 43, 3) := by decide +kernel
theorem d3_14 : decode prog_25_method_2_code 14 = .ok (.aload_n 3, 1) := by decide +kernel
theorem d3_15 : decode prog_25_method_2_code 15 = .ok (.iconst 0, 1) := by decide +kernel
theorem d3_16 : decode prog_25_method_2_code 16 = .ok (.aload_n 1, 1) := by decide +kernel
theorem d3_17 : decode prog_25_method_2_code 17 = .ok (.iconst 1, 1) := by decide +kernel
theorem d3_18 : decode prog_25_method_2_code 18 = .ok (.daload, 1) := by decide +kernel
theorem d3_19 : decode prog_25_method_2_code 19 = .ok (.aload_n 1, 1) := by decide +kernel
theorem d3_20 : decode prog_25_method_2_code 20 = .ok (.iconst 0, 1) := by decide +kernel
theorem d3_21 : decode prog_25_method_2_code 21 = .ok (.daload, 1) := by decide +kernel
theorem d3_22 : decode prog_25_method_2_code 22 = .ok (.dsub, 1) := by decide +kernel
theorem d3_23 : decode prog_25_method_2_code 23 = .ok (.aload_n 0, 1) := by decide +kernel
theorem d3_24 : decode prog_25_method_2_code 24 = .ok (.iconst 1, 1) := by decide +kernel
theorem d3_25 : decode prog_25_method_2_code 25 = .ok (.daload, 1) := by decide +kernel
theorem d3_26 : decode prog_25_method_2_code 26 = .ok (.aload_n 0, 1) := by decide +kernel
theorem d3_27 : decode prog_25_method_2_code 27 = .ok (.iconst 0, 1) := by decide +kernel
theorem d3_28 : decode prog_25_method_2_code 28 = .ok (.daload, 1) := by decide +kernel
theorem d3_29 : decode prog_25_method_2_code 29 = .ok (.dsub, 1) := by decide +kernel
theorem d3_30 : decode prog_25_method_2_code 30 = .ok (.ddiv, 1) := by decide +kernel
theorem d3_31 : decode prog_25_method_2_code 31 = .ok (.dastore, 1) := by decide +kernel
theorem d3_32 : decode prog_25_method_2_code 32 = .ok (.aload_n 3, 1) := by decide +kernel
theorem d3_33 : decode prog_25_method_2_code 33 = .ok (.iload_n 2, 1) := by decide +kernel
theorem d3_34 : decode prog_25_method_2_code 34 = .ok (.aload_n 1, 1) := by decide +kernel
theorem d3_35 : decode prog_25_method_2_code 35 = .ok (.iload_n 2, 1) := by decide +kernel
theorem d3_36 : decode prog_25_method_2_code 36 = .ok (.daload, 1) := by decide +kernel
theorem d3_37 : decode prog_25_method_2_code 37 = .ok (.aload_n 1, 1) := by decide +kernel
theorem d3_38 : decode prog_25_method_2_code 38 = .ok (.iload_n 2, 1) := by decide +kernel
theorem d3_39 : decode prog_25_method_2_code 39 = .ok (.iconst 1, 1) := by decide +kernel
theorem d3_40 : decode prog_25_method_2_code 40 = .ok (.isub, 1) := by decide +kernel
theorem d3_41 : decode prog_25_method_2_code 41 = .ok (.daload, 1) := by decide +kernel
theorem d3_42 : decode prog_25_method_2_code 42 = .ok (.dsub, 1) := by decide +kernel
theorem d3_43 : decode prog_25_method_2_code 43 = .ok (.aload_n 0, 1) := by decide +kernel
theorem d3_44 : decode prog_25_method_2_code 44 = .ok (.iload_n 2, 1) := by decide +kernel
theorem d3_45 : decode prog_25_method_2_code 45 = .ok (.daload, 1) := by decide +kernel
theorem d3_46 : decode prog_25_method_2_code 46 = .ok (.aload_n 0, 1) := by decide +kernel
theorem d3_47 : decode prog_25_method_2_code 47 = .ok (.iload_n 2, 1) := by decide +kernel
theorem d3_48 : decode prog_25_method_2_code 48 = .ok (.iconst 1, 1) := by decide +kernel
theorem d3_49 : decode prog_25_method_2_code 49 = .ok (.isub, 1) := by decide +kernel
theorem d3_50 : decode prog_25_method_2_code 50 = .ok (.daload, 1) := by decide +kernel
theorem d3_51 : decode prog_25_method_2_code 51 = .ok (.dsub, 1) := by decide +kernel
theorem d3_52 : decode prog_25_method_2_code 52 = .ok (.ddiv, 1) := by decide +kernel
theorem d3_53 : decode prog_25_method_2_code 53 = .ok (.dastore, 1) := by decide +kernel
theorem d3_54 : decode prog_25_method_2_code 54 = .ok (.iconst 1, 1) := by decide +kernel
theorem d3_55 : decode prog_25_method_2_code 55 = .ok (.istore 4, 2) := by decide +kernel
theorem d3_57 : decode prog_25_method_2_code 57 = .ok (.iload 4, 2) := by decide +kernel
theorem d3_59 : decode prog_25_method_2_code 59 = .ok (.iload_n 2, 1) := by decide +kernel
theorem d3_60 : decode prog_25_method_2_code 60 = .ok (.if_icmp .ge 106, 3) := by decide +kernel
theorem d3_63 : decode prog_25_method_2_code 63 = .ok (.aload_n 0, 1) := by decide +kernel
theorem d3_64 : decode prog_25_method_2_code 64 = .ok (.iload 4, 2) := by decide +kernel
theorem d3_66 : decode prog_25_method_2_code 66 = .ok (.daload, 1) := by decide +kernel
theorem d3_67 : decode prog_25_method_2_code 67 = .ok (.aload_n 0, 1) := by decide +kernel
theorem d3_68 : decode prog_25_method_2_code 68 = .ok (.iload 4, 2) := by decide +kernel
theorem d3_70 : decode prog_25_method_2_code 70 = .ok (.iconst 1, 1) := by decide +kernel
theorem d3_71 : decode prog_25_method_2_code 71 = .ok (.isub, 1) := by decide +kernel
theorem d3_72 : decode prog_25_method_2_code 72 = .ok (.daload, 1) := by decide +kernel
theorem d3_73 : decode prog_25_method_2_code 73 = .ok (.dsub, 1) := by decide +kernel
theorem d3_74 : decode prog_25_method_2_code 74 = .ok (.dstore 5, 2) := by decide +kernel
theorem d3_76 : decode prog_25_method_2_code 76 = .ok (.aload_n 0, 1) := by decide +kernel
theorem d3_77 : decode prog_25_method_2_code 77 = .ok (.iload 4, 2) := by decide +kernel
theorem d3_79 : decode prog_25_method_2_code 79 = .ok (.iconst 1, 1) := by decide +kernel
theorem d3_80 : decode prog_25_method_2_code 80 = .ok (.iadd, 1) := by decide +kernel
theorem d3_81 : decode prog_25_method_2_code 81 = .ok (.daload, 1) := by decide +kernel
theorem d3_82 : decode prog_25_method_2_code 82 = .ok (.aload_n 0, 1) := by decide +kernel
theorem d3_83 : decode prog_25_method_2_code 83 = .ok (.iload 4, 2) := by decide +kernel
theorem d3_85 : decode prog_25_method_2_code 85 = .ok (.daload, 1) := by decide +kernel
theorem d3_86 : decode prog_25_method_2_code 86 = .ok (.dsub, 1) := by decide +kernel
theorem d3_87 : decode prog_25_method_2_code 87 = .ok (.dstore 7, 2) := by decide +kernel
theorem d3_89 : decode prog_25_method_2_code 89 = .ok (.dload 7, 2) := by decide +kernel
theorem d3_91 : decode prog_25_method_2_code 91 = .ok (.dneg, 1) := by decide +kernel
theorem d3_92 : decode prog_25_method_2_code 92 = .ok (.dload 5, 2) := by decide +kernel
theorem d3_94 : decode prog_25_method_2_code 94 = .ok (.dload 5, 2) := by decide +kernel
theorem d3_96 : decode prog_25_method_2_code 96 = .ok (.dload 7, 2) := by decide +kernel
theorem d3_98 : decode prog_25_method_2_code 98 = .ok (.dadd, 1) := by decide +kernel
theorem d3_99 : decode prog_25_method_2_code 99 = .ok (.dmul, 1) := by decide +kernel
theorem d3_100 : decode prog_25_method_2_code 100 = .ok (.ddiv, 1) := by decide +kernel
theorem d3_101 : decode prog_25_method_2_code 101 = .ok (.dstore 9, 2) := by decide +kernel
theorem d3_103 : decode prog_25_method_2_code 103 = .ok (.dload 7, 2) := by decide +kernel
theorem d3_105 : decode prog_25_method_2_code 105 = .ok (.dload 5, 2) := by decide +kernel
theorem d3_107 : decode prog_25_method_2_code 107 = .ok (.dsub, 1) := by decide +kernel
theorem d3_108 : decode prog_25_method_2_code 108 = .ok (.dload 5, 2) := by decide +kernel
theorem d3_110 : decode prog_25_method_2_code 110 = .ok (.dload 7, 2) := by decide +kernel
theorem d3_112 : decode prog_25_method_2_code 112 = .ok (.dmul, 1) := by decide +kernel
theorem d3_113 : decode prog_25_method_2_code 113 = .ok (.ddiv, 1) := by decide +kernel
theorem d3_114 : decode prog_25_method_2_code 114 = .ok (.dstore 11, 2) := by decide +kernel
theorem d3_116 : decode prog_25_method_2_code 116 = .ok (.dload 5, 2) := by decide +kernel
theorem d3_118 : decode prog_25_method_2_code 118 = .ok (.dload 7, 2) := by decide +kernel
theorem d3_120 : decode prog_25_method_2_code 120 = .ok (.dload 5, 2) := by decide +kernel
theorem d3_122 : decode prog_25_method_2_code 122 = .ok (.dload 7, 2) := by decide +kernel
theorem d3_124 : decode prog_25_method_2_code 124 = .ok (.dadd, 1) := by decide +kernel
theorem d3_125 : decode prog_25_method_2_code 125 = .ok (.dmul, 1) := by decide +kernel
theorem d3_126 : decode prog_25_method_2_code 126 = .ok (.ddiv, 1) := by decide +kernel
theorem d3_127 : decode prog_25_method_2_code 127 = .ok (.dstore 13, 2) := by decide +kernel
theorem d3_129 : decode prog_25_method_2_code 129 = .ok (.aload_n 3, 1) := by decide +kernel
theorem d3_130 : decode prog_25_method_2_code 130 = .ok (.iload 4, 2) := by decide +kernel
theorem d3_132 : decode prog_25_method_2_code 132 = .ok (.dload 9, 2) := by decide +kernel
theorem d3_134 : decode prog_25_method_2_code 134 = .ok (.aload_n 1, 1) := by decide +kernel
theorem d3_135 : decode prog_25_method_2_code 135 = .ok (.iload 4, 2) := by decide +kernel
theorem d3_137 : decode prog_25_method_2_code 137 = .ok (.iconst 1, 1) := by decide +kernel
theorem d3_138 : decode prog_25_method_2_code 138 = .ok (.isub, 1) := by decide +kernel
theorem d3_139 : decode prog_25_method_2_code 139 = .ok (.daload, 1) := by decide +kernel
theorem d3_140 : decode prog_25_method_2_code 140 = .ok (.dmul, 1) := by decide +kernel
theorem d3_141 : decode prog_25_method_2_code 141 = .ok (.dload 11, 2) := by decide +kernel
theorem d3_143 : decode prog_25_method_2_code 143 = .ok (.aload_n 1, 1) := by decide +kernel
theorem d3_144 : decode prog_25_method_2_code 144 = .ok (.iload 4, 2) := by decide +kernel
theorem d3_146 : decode prog_25_method_2_code 146 = .ok (.daload, 1) := by decide +kernel
theorem d3_147 : decode prog_25_method_2_code 147 = .ok (.dmul, 1) := by decide +kernel
theorem d3_148 : decode prog_25_method_2_code 148 = .ok (.dadd, 1) := by decide +kernel
theorem d3_149 : decode prog_25_method_2_code 149 = .ok (.dload 13, 2) := by decide +kernel
theorem d3_151 : decode prog_25_method_2_code 151 = .ok (.aload_n 1, 1) := by decide +kernel
theorem d3_152 : decode prog_25_method_2_code 152 = .ok (.iload 4, 2) := by decide +kernel
theorem d3_154 : decode prog_25_method_2_code 154 = .ok (.iconst 1, 1) := by decide +kernel
theorem d3_155 : decode prog_25_method_2_code 155 = .ok (.iadd, 1) := by decide +kernel
theorem d3_156 : decode prog_25_method_2_code 156 = .ok (.daload, 1) := by decide +kernel
theorem d3_157 : decode prog_25_method_2_code 157 = .ok (.dmul, 1) := by decide +kernel
theorem d3_158 : decode prog_25_method_2_code 158 = .ok (.dadd, 1) := by decide +kernel
theorem d3_159 : decode prog_25_method_2_code 159 = .ok (.dastore, 1) := by decide +kernel
theorem d3_160 : decode prog_25_method_2_code 160 = .ok (.iinc 4 1, 3) := by decide +kernel
theorem d3_163 : decode prog_25_method_2_code 163 = .ok (.goto (-106), 3) := by decide +kernel
theorem d3_166 : decode prog_25_method_2_code 166 = .ok (.aload_n 3, 1) := by decide +kernel
theorem d3_167 : decode prog_25_method_2_code 167 = .ok (.areturn, 1) := by decide +kernel
theorem d4_0 : decode method_4_code 0 = .ok (.dload_n 0, 1) := by decide +kernel
theorem d4_1 : decode method_4_code 1 = .ok (.lload_n 2, 1) := by decide +kernel
theorem d4_2 : decode method_4_code 2 = .ok (.l2d, 1) := by decide +kernel
theorem d4_3 : decode method_4_code 3 = .ok (.dsub, 1) := by decide +kernel
theorem d4_4 : decode method_4_code 4 = .ok (.dstore 4, 2) := by decide +kernel
theorem d4_6 : decode method_4_code 6 = .ok (.ldc2_w 7, 3) := by decide +kernel
theorem d4_9 : decode method_4_code 9 = .ok (.dstore 6, 2) := by decide +kernel
theorem d4_11 : decode method_4_code 11 = .ok (.dload 4, 2) := by decide +kernel
theorem d4_13 : decode method_4_code 13 = .ok (.dload 6, 2) := by decide +kernel
theorem d4_15 : decode method_4_code 15 = .ok (.dcmp .g, 1) := by decide +kernel
theorem d4_16 : decode method_4_code 16 = .ok (.ifCond .ge 16, 3) := by decide +kernel
theorem d4_19 : decode method_4_code 19 = .ok (.dload 6, 2) := by decide +kernel
theorem d4_21 : decode method_4_code 21 = .ok (.dneg, 1) := by decide +kernel
theorem d4_22 : decode method_4_code 22 = .ok (.dload 4, 2) := by decide +kernel
theorem d4_24 : decode method_4_code 24 = .ok (.dcmp .g, 1) := by decide +kernel
theorem d4_25 : decode method_4_code 25 = .ok (.ifCond .ge 7, 3) := by decide +kernel
theorem d4_28 : decode method_4_code 28 = .ok (.iconst 1, 1) := by decide +kernel
theorem d4_29 : decode method_4_code 29 = .ok (.goto 4, 3) := by decide +kernel
theorem d4_33 : decode method_4_code 33 = .ok (.ireturn, 1) := by decide +kernel
theorem pd_0 : parseMethodDescriptor "(IDDDD)[D" = some ⟨[.int, .double, .double, .double, .double], some (.array .double)⟩ := by decide +kernel
theorem pd_1 : parseMethodDescriptor "(JJJJ)D" = some ⟨[.long, .long, .long, .long], some .double⟩ := by decide +kernel
theorem pd_2 : parseMethodDescriptor "([D[D)[D" = some ⟨[(.array .double), (.array .double)], some (.array .double)⟩ := by decide +kernel
theorem pd_3 : parseMethodDescriptor "(DJ)Z" = some ⟨[.double, .long], some .boolean⟩ := by decide +kernel
section OwnFP
open Jvm.FP Jvm.FP.Core Jvm.Free.Fl
/-- a double's value, counted in the format's least numbers (2^-1074) -/
def dv (x : UInt64) : Int := zval b64 (val64 x)
/-- what the whole number 1 counts -/
def oneU : Int := (one64 : Int)
/-- z least numbers are a finite double -/
def Rep (z : Int) : Prop := ∃ V : Datum, FP.Core.fits b64 V ∧ (∃ s c q, V = .fin s c q) ∧ zval b64 V = z
theorem oneU_pos : 0 < oneU := by have := one64_pos; unfold oneU; omega
theorem rep_neg {z : Int} (h : Rep z) : Rep (-z) := by
  obtain ⟨V, h1, ⟨s, c, q, rfl⟩, h3⟩ := h
  exact ⟨negate (.fin s c q), negate_fits h1, ⟨_, _, _, rfl⟩, by rw [zval_negate, h3]⟩
theorem rep_nat {c j : Nat} (hc : c < 2 ^ 53) (hj : j ≤ 2045) : Rep ((c * 2 ^ j : Nat) : Int) := by
  have hm : b64.qmax = 971 := by decide
  obtain ⟨c', q', h1, h2⟩ := round_exact good_b64 false (c := c) (q := -1074 + (j : Int)) hc (by rw [qmin_b64]; omega) (by rw [hm]; omega)
  refine ⟨round b64 (.fin false c (-1074 + (j : Int))), round_fits good_b64 _, ⟨_, _, _, h1⟩, ?_⟩
  rw [h1]
  show signed false (inUnits c' q' b64.qmin) = _
  rw [h2]
  show ((inUnits c (-1074 + (j : Int)) b64.qmin : Nat) : Int) = _
  unfold inUnits
  rw [qmin_b64, show (-1074 + (j : Int) - -1074).toNat = j by omega]
theorem rep_int {z : Int} {c j : Nat} (hc : c < 2 ^ 53) (hj : j ≤ 2045) (h : z.natAbs = c * 2 ^ j) : Rep z := by
  have q := rep_nat hc hj
  rw [← h] at q
  rcases Int.natAbs_eq z with e | e
  · rw [e]; exact q
  · rw [e]; exact rep_neg q
theorem rep_dv {x : UInt64} (h : DFin x) : Rep (dv x) := ⟨val64 x, val64_fits x, h, rfl⟩
theorem squeeze {d : Datum} (hf : FP.Core.fits b64 d) (hn : d ≠ .nan) {z : Int} (hr : Rep z) (h1 : ∀ V, FP.Core.fits b64 V → V ≠ .nan → zval b64 V = z → zval b64 d ≤ zval b64 V) (h2 : ∀ V, FP.Core.fits b64 V → V ≠ .nan → zval b64 V = z → zval b64 V ≤ zval b64 d) :
    (∃ s c q, d = .fin s c q) ∧ zval b64 d = z := by
  obtain ⟨V, v1, ⟨s, c, q, rfl⟩, v3⟩ := hr
  have e1 := h1 _ v1 (by simp) v3
  have e2 := h2 _ v1 (by simp) v3
  have e : zval b64 d = z := by omega
  refine ⟨?_, e⟩
  have ht := zmag_lt_top good_b64 v1
  cases d with
  | nan => exact absurd rfl hn
  | fin s' c' q' => exact ⟨_, _, _, rfl⟩
  | inf t =>
    exfalso
    rw [← v3] at e
    have a1 : (zval b64 (.inf t)).natAbs = b64.tails * 2 ^ (b64.exps - 2) := natAbs_signed _ _
    have a2 : (zval b64 (.fin s c q)).natAbs = inUnits c q b64.qmin := natAbs_signed _ _
    rw [e, a2] at a1
    omega
theorem add_le {x y : UInt64} (hx : DFin x) (hy : DFin y) {V : Datum} (fV : FP.Core.fits b64 V) (hV : V ≠ .nan) (h : dv x + dv y ≤ zval b64 V) : dv (FP.dadd x y) ≤ zval b64 V := by
  unfold dv; rw [val64_dadd]; exact sum_le good_b64 hx hy (val64_fits x) (val64_fits y) fV hV h
theorem add_ge {x y : UInt64} (hx : DFin x) (hy : DFin y) {V : Datum} (fV : FP.Core.fits b64 V) (hV : V ≠ .nan) (h : zval b64 V ≤ dv x + dv y) : zval b64 V ≤ dv (FP.dadd x y) := by
  unfold dv; rw [val64_dadd]; exact sum_ge good_b64 hx hy (val64_fits x) (val64_fits y) fV hV h
theorem add_exact {x y : UInt64} (hx : DFin x) (hy : DFin y) {z : Int} (h : dv x + dv y = z) (hr : Rep z) : DFin (FP.dadd x y) ∧ dv (FP.dadd x y) = z :=
  squeeze (val64_fits _) ((notNaN_iff _).mp (dadd_out hx.notNaN hy)) hr (fun V f n e => add_le hx hy f n (by omega)) (fun V f n e => add_ge hx hy f n (by omega))
theorem neg_fin {x : UInt64} (hx : DFin x) : DFin (FP.dneg x) ∧ dv (FP.dneg x) = -dv x := by
  obtain ⟨s, c, q, h⟩ := hx
  unfold dv DFin; rw [FP.val64_dneg, zval_negate, h]
  exact ⟨⟨_, _, _, rfl⟩, rfl⟩
theorem sub_dneg {x y : UInt64} (hy : DFin y) : FP.dsub x y = FP.dadd x (FP.dneg y) := by
  rw [FP.dneg_core hy.notNaN]; exact dsub_eq x y
theorem sub_exact {x y : UInt64} (hx : DFin x) (hy : DFin y) {z : Int} (h : dv x - dv y = z) (hr : Rep z) : DFin (FP.dsub x y) ∧ dv (FP.dsub x y) = z := by
  rw [sub_dneg hy]
  exact add_exact hx (neg_fin hy).1 (by rw [(neg_fin hy).2]; omega) hr
theorem mul_units {x y : UInt64} (hx : DFin x) (hy : DFin y) : ∃ s c q, exactProduct (val64 x) (val64 y) = .fin s c q ∧ 2 * b64.qmin ≤ q ∧ signed s (inUnits c q (2 * b64.qmin)) = dv x * dv y := by
  obtain ⟨s, c, q, h1⟩ := hx
  obtain ⟨t, d, r, h2⟩ := hy
  have f1 := val64_fits x
  have f2 := val64_fits y
  unfold dv
  rw [h1] at f1 ⊢
  rw [h2] at f2 ⊢
  obtain ⟨p1, p2, p3⟩ := product_units f1 f2
  refine ⟨_, _, _, p1, p2, ?_⟩
  rw [p3, signed_xor]
  rfl
theorem two_qmin : 2 ^ (b64.qmin - 2 * b64.qmin).toNat = one64 := by rw [← pow_qmin64]; congr 1
theorem mul_le {x y : UInt64} (hx : DFin x) (hy : DFin y) {V : Datum} (fV : FP.Core.fits b64 V) (hV : V ≠ .nan) (h : dv x * dv y ≤ zval b64 V * oneU) : dv (FP.dmul x y) ≤ zval b64 V := by
  obtain ⟨s, c, q, h1, h2, h3⟩ := mul_units hx hy
  show zval b64 (val64 (FP.dmul x y)) ≤ _
  rw [val64_dmul, h1]
  refine zval_round_le good_b64 fV hV (e0 := 2 * b64.qmin) (by rw [qmin_b64]; omega) h2 ?_
  rw [h3, two_qmin]; exact h
theorem mul_ge {x y : UInt64} (hx : DFin x) (hy : DFin y) {V : Datum} (fV : FP.Core.fits b64 V) (hV : V ≠ .nan) (h : zval b64 V * oneU ≤ dv x * dv y) : zval b64 V ≤ dv (FP.dmul x y) := by
  obtain ⟨s, c, q, h1, h2, h3⟩ := mul_units hx hy
  show _ ≤ zval b64 (val64 (FP.dmul x y))
  rw [val64_dmul, h1]
  refine zval_round_ge good_b64 fV hV (e0 := 2 * b64.qmin) (by rw [qmin_b64]; omega) h2 ?_
  rw [h3, two_qmin]; exact h
theorem mul_exact {x y : UInt64} (hx : DFin x) (hy : DFin y) {z : Int} (h : dv x * dv y = z * oneU) (hr : Rep z) : DFin (FP.dmul x y) ∧ dv (FP.dmul x y) = z :=
  squeeze (val64_fits _) ((notNaN_iff _).mp (dmul_out hx hy)) hr (fun V f n e => mul_le hx hy f n (by rw [e, h]; exact Int.le_refl _)) (fun V f n e => mul_ge hx hy f n (by rw [e, h]; exact Int.le_refl _))
theorem dv_zero_iff {x : UInt64} (hx : DFin x) : DZero x ↔ dv x = 0 := by
  obtain ⟨s, c, q, h⟩ := hx
  constructor
  · intro hz; exact hz.zval
  · intro hz; exact (zero_bits2 x).mpr ((zval_eq_zero (by rw [h]; simp)).mp hz)
theorem div_units {x y : UInt64} (hx : DFin x) (hy : DFin y) (h0 : dv y ≠ 0) : ∃ (s t : Bool) (c d : Nat) (q r : Int), val64 (FP.ddiv x y) = roundRatio b64 (s != t) c d (q - r) ∧ 0 < d ∧ b64.qmin ≤ q ∧ b64.qmin ≤ r ∧ dv x = signed s (inUnits c q b64.qmin) ∧ dv y = signed t (inUnits d r b64.qmin) := by
  obtain ⟨s, c, q, h1⟩ := hx
  obtain ⟨t, d, r, h2⟩ := hy
  have f1 := val64_fits x
  have f2 := val64_fits y
  have hd : d ≠ 0 := by
    intro e; apply h0; unfold dv; rw [h2, e]; show signed t (inUnits 0 r b64.qmin) = 0; unfold inUnits; rw [Nat.zero_mul, signed_zero]
  refine ⟨s, t, c, d, q, r, ?_, Nat.pos_of_ne_zero hd, ?_, ?_, ?_, ?_⟩
  · rw [val64_ddiv, h1, h2]; show (if d = 0 then _ else _) = _; rw [if_neg hd]
  · rw [h1] at f1; exact f1.2.1
  · rw [h2] at f2; exact f2.2.1
  · unfold dv; rw [h1]; rfl
  · unfold dv; rw [h2]; rfl
theorem div_scale {c d : Nat} {q r : Int} (h1 : b64.qmin ≤ q) (h2 : b64.qmin ≤ r) (v : Nat) :
    inUnits c (q - r) (2 * b64.qmin - r) = inUnits c q b64.qmin * one64 ∧ v * 2 ^ (b64.qmin - (2 * b64.qmin - r)).toNat * d = v * inUnits d r b64.qmin := by
  unfold inUnits
  rw [← pow_qmin64]
  rw [qmin_b64] at h1 h2 ⊢
  constructor
  · rw [show (q - r - (2 * -1074 - r)).toNat = (q - -1074).toNat + (- -1074 : Int).toNat by omega, Nat.pow_add, Nat.mul_assoc]
  · rw [show (-1074 - (2 * -1074 - r)).toNat = (r - -1074).toNat by omega, Nat.mul_assoc, Nat.mul_comm (2 ^ _) d]
/-- a quotient of two that are not below nought, by monotony -/
theorem div_le {x y : UInt64} (hx : DFin x) (hy : DFin y) (px : 0 ≤ dv x) (py : 0 < dv y) {V : Datum} (fV : FP.Core.fits b64 V) (hV : V ≠ .nan) (h : dv x * oneU ≤ zval b64 V * dv y) : dv (FP.ddiv x y) ≤ zval b64 V := by
  obtain ⟨s, t, c, d, q, r, e, hd, hq, hr, ex, ey⟩ := div_units hx hy (by omega)
  show zval b64 (val64 (FP.ddiv x y)) ≤ _
  rw [e]
  have nv : 0 ≤ zval b64 V := by
    rcases Int.lt_or_le (zval b64 V) 0 with g | g
    · have := oneU_pos
      have a1 : 0 ≤ dv x * oneU := Int.mul_nonneg px (by omega)
      have a2 : zval b64 V * dv y < 0 := Int.mul_neg_of_neg_of_pos g py
      omega
    · exact g
  obtain ⟨k1, k2⟩ := div_scale (c := c) (d := d) hq hr (zmag b64 V)
  have ax : dv x = (inUnits c q b64.qmin : Int) := by
    rw [ex] at px ⊢; unfold signed at px ⊢; split <;> rename_i g <;> simp only [g, if_true] at px <;> omega
  have ay : dv y = (inUnits d r b64.qmin : Int) := by
    rw [ey] at py ⊢; unfold signed at py ⊢; split <;> rename_i g <;> simp only [g, if_true] at py <;> omega
  have av : zval b64 V = (zmag b64 V : Int) := by
    unfold zval at nv ⊢; unfold signed at nv ⊢; split <;> rename_i g <;> simp only [g, if_true] at nv <;> omega
  have hz := zmag_roundRatio_le good_b64 (s := (s != t)) (A := c) (B := d) (e := q - r) (e0 := 2 * b64.qmin - r) hd fV hV (by omega) (by rw [qmin_b64] at hq ⊢; omega) (by
    rw [k1, k2]
    rw [ax, ay, av] at h
    unfold oneU at h
    exact_mod_cast h)
  rw [av]
  unfold zval signed
  split <;> omega
theorem div_ge {x y : UInt64} (hx : DFin x) (hy : DFin y) (px : 0 ≤ dv x) (py : 0 < dv y) (hs : ∀ s c q, val64 x = .fin s c q → s = false) (hs' : ∀ s c q, val64 y = .fin s c q → s = false) {V : Datum} (fV : FP.Core.fits b64 V) (h : zval b64 V * dv y ≤ dv x * oneU) : zval b64 V ≤ dv (FP.ddiv x y) := by
  obtain ⟨s, c, q, h1⟩ := hx
  obtain ⟨t, d, r, h2⟩ := hy
  have es := hs _ _ _ h1
  have et := hs' _ _ _ h2
  subst es et
  have f1 := val64_fits x
  have f2 := val64_fits y
  have ax : dv x = (inUnits c q b64.qmin : Int) := by unfold dv; rw [h1]; rfl
  have ay : dv y = (inUnits d r b64.qmin : Int) := by unfold dv; rw [h2]; rfl
  have hd : d ≠ 0 := by
    intro e; rw [ay, e] at py; unfold inUnits at py; rw [Nat.zero_mul] at py; exact absurd py (by decide)
  rw [h1] at f1
  rw [h2] at f2
  show _ ≤ zval b64 (val64 (FP.ddiv x y))
  rw [val64_ddiv, h1, h2]
  show _ ≤ zval b64 (if d = 0 then _ else _)
  rw [if_neg hd]
  obtain ⟨k1, k2⟩ := div_scale (c := c) (d := d) f1.2.1 f2.2.1 (zmag b64 V)
  have hz := fun g => zmag_roundRatio_ge good_b64 (s := (false != false)) (A := c) (B := d) (e := q - r) (e0 := 2 * b64.qmin - r) (V := V) (Nat.pos_of_ne_zero hd) fV (by have := f2.2.1; omega) (by have := f1.2.1; rw [qmin_b64] at this ⊢; omega) g
  have e : zval b64 (roundRatio b64 (false != false) c d (q - r)) = (zmag b64 (roundRatio b64 (false != false) c d (q - r)) : Int) := by
    unfold zval; rw [sgn_roundRatio]; rfl
  rw [e]
  rcases Int.lt_or_le (zval b64 V) 0 with g | g
  · omega
  · have av : zval b64 V = (zmag b64 V : Int) := by
      unfold zval at g ⊢; unfold signed at g ⊢; split <;> rename_i w <;> simp only [w, if_true] at g <;> omega
    rw [av] at h ⊢
    have := hz (by
      rw [k1, k2]
      rw [ax, ay] at h
      unfold oneU at h
      exact_mod_cast h)
    omega
theorem noNaN_of_fin {x : UInt64} (h : DFin x) : NoNaN64 x := (fin64_core.mpr h).noNaN
theorem dint_fin {i : Int} {x : UInt64} (h : DInt i x) : DFin x ∧ dv x = i * oneU := by
  refine ⟨?_, DInt_zval h⟩
  unfold DInt at h
  cases hv : val64 x with
  | nan => rw [hv] at h; exact h.elim
  | inf s => rw [hv] at h; exact h.elim
  | fin s c q => exact ⟨s, c, q, hv⟩
theorem cmp_dv {x y : UInt64} (hx : DFin x) (hy : DFin y) : FP.dcmp x y = some (compare (dv x) (dv y)) := dcmp_zval hx.ne_nan hy.ne_nan
end OwnFP
section OwnProb
open Jvm.FP Jvm.FP.Core Jvm.Free.Fl
theorem fin_of_bound {q : UInt64} (hn : FP.dIsNaN q = false) {s : Bool} {c : Nat} {e : Int} (fV : FP.Core.fits b64 (.fin s c e)) (h : (dv q).natAbs ≤ (zval b64 (.fin s c e)).natAbs) : DFin q := by
  have ht := zmag_lt_top good_b64 fV
  have hm := (notNaN_iff q).mp hn
  unfold dv at h
  unfold DFin
  cases hv : val64 q with
  | nan => exact absurd hv hm
  | fin s' c' q' => exact ⟨_, _, _, rfl⟩
  | inf t =>
    exfalso
    rw [hv] at h
    have a1 : (zval b64 (.inf t)).natAbs = b64.tails * 2 ^ (b64.exps - 2) := natAbs_signed _ _
    have a2 : (zval b64 (.fin s c e)).natAbs = inUnits c e b64.qmin := natAbs_signed _ _
    rw [a1, a2] at h
    omega
theorem i2d_sign {k : Int32} (h : 0 ≤ k.toInt) {s : Bool} {c : Nat} {q : Int} (e : val64 (FP.i2d k) = .fin s c q) : s = false := by
  obtain ⟨c', q', e'⟩ := l2d_shape k.toInt64
  rw [show FP.i2d k = FP.l2d k.toInt64 from i2d_l2d k] at e
  have e2 := e.symm.trans e'
  injection e2 with e3
  rw [e3]
  have := c_i2l k
  exact decide_eq_false (by omega)
theorem one_dv : DFin 4607182418800017408 ∧ dv 4607182418800017408 = oneU := by
  have h := dint_fin dint_one
  exact ⟨h.1, by rw [h.2]; omega⟩
theorem zero_dv : DFin 0 ∧ dv 0 = 0 := ⟨⟨_, _, _, val64_zero⟩, zval64_zero⟩
theorem own_one64 : 4294967296 ≤ oneU := by
  have h : 4294967296 ≤ one64 := Nat.le_trans (by decide : 4294967296 ≤ 2 ^ 32) (Nat.pow_le_pow_right (by decide) (by decide))
  have g : ∀ n : Nat, 4294967296 ≤ n → (4294967296 : Int) ≤ (n : Int) := fun n h => by omega
  exact g one64 h
theorem own_quot {k d : Int32} (h0 : 0 ≤ k.toInt) (h1 : k.toInt ≤ d.toInt) (h2 : 0 < d.toInt) :
    DFin (FP.ddiv (FP.i2d k) (FP.i2d d)) ∧ 0 ≤ dv (FP.ddiv (FP.i2d k) (FP.i2d d)) ∧ dv (FP.ddiv (FP.i2d k) (FP.i2d d)) ≤ oneU ∧ (0 < k.toInt → 0 < dv (FP.ddiv (FP.i2d k) (FP.i2d d))) ∧ (k.toInt = 0 → dv (FP.ddiv (FP.i2d k) (FP.i2d d)) = 0) := by
  obtain ⟨fx, ex⟩ : DFin (FP.i2d k) ∧ dv (FP.i2d k) = k.toInt * oneU := dint_fin (i2d_int k)
  obtain ⟨fy, ey⟩ : DFin (FP.i2d d) ∧ dv (FP.i2d d) = d.toInt * oneU := dint_fin (i2d_int d)
  have hU := own_one64
  have py : 0 < dv (FP.i2d d) := by rw [ey]; exact Int.mul_pos h2 (by omega)
  have px : 0 ≤ dv (FP.i2d k) := by rw [ex]; exact Int.mul_nonneg h0 (by omega)
  obtain ⟨⟨s1, c1, q1, v1⟩, w1⟩ := one_dv
  have f1 := val64_fits 4607182418800017408
  have z1 : zval b64 (val64 4607182418800017408) = oneU := w1
  have z0 : zval b64 (val64 0) = 0 := zero_dv.2
  have hn : FP.dIsNaN (FP.ddiv (FP.i2d k) (FP.i2d d)) = false := ddiv_out fx.notNaN fy (fun z => by rw [dv_zero_iff fy] at z; omega)
  have b1 : dv (FP.ddiv (FP.i2d k) (FP.i2d d)) ≤ oneU := by
    rw [← z1]
    refine div_le fx fy px py f1 (by rw [v1]; simp) ?_
    rw [z1, ex, ey, Int.mul_comm oneU]
    exact Int.mul_le_mul_of_nonneg_right (Int.mul_le_mul_of_nonneg_right h1 (by omega)) (by omega)
  have b0 : 0 ≤ dv (FP.ddiv (FP.i2d k) (FP.i2d d)) := by
    have := div_ge fx fy px py (fun _ _ _ e => i2d_sign h0 e) (fun _ _ _ e => i2d_sign (by omega) e) (val64_fits 0) (by rw [z0, Int.zero_mul]; exact Int.mul_nonneg px (by omega))
    rw [z0] at this; exact this
  refine ⟨?_, b0, b1, fun hk => ?_, fun hk => ?_⟩
  · rw [v1] at f1 z1
    refine fin_of_bound hn f1 ?_
    rw [z1]; omega
  · have z2 : zval b64 (val64 1) = 1 := by decide +kernel
    have := div_ge fx fy px py (fun _ _ _ e => i2d_sign h0 e) (fun _ _ _ e => i2d_sign (by omega) e) (val64_fits 1) (by
      rw [z2, Int.one_mul, ex, ey]
      have hd := rng32 d
      exact Int.mul_le_mul_of_nonneg_right (show d.toInt ≤ k.toInt * oneU by
        have : oneU ≤ k.toInt * oneU := by
          have := Int.mul_le_mul_of_nonneg_right (show (1 : Int) ≤ k.toInt by omega) (show 0 ≤ oneU by omega)
          omega
        omega) (by omega))
    rw [z2] at this; omega
  · have := div_le fx fy px py (val64_fits 0) (by rw [val64_zero]; simp) (by rw [z0, ex, hk]; omega)
    rw [z0] at this; omega
/-- what dcmp pushes, by the values -/
theorem cmpV_lt {x y : UInt64} (hx : DFin x) (hy : DFin y) (h : dv x < dv y) (op : CmpOp) : cmpValue (FP.dcmp x y) op = -1 := by rw [cmp_dv hx hy, (compare_lt_iff _ _).mpr h]; rfl
theorem cmpV_eq {x y : UInt64} (hx : DFin x) (hy : DFin y) (h : dv x = dv y) (op : CmpOp) : cmpValue (FP.dcmp x y) op = 0 := by rw [cmp_dv hx hy, (compare_eq_iff _ _).mpr h]; rfl
theorem cmpV_gt {x y : UInt64} (hx : DFin x) (hy : DFin y) (h : dv y < dv x) (op : CmpOp) : cmpValue (FP.dcmp x y) op = 1 := by rw [cmp_dv hx hy, (compare_gt_iff _ _).mpr h]; rfl
theorem cmpV_notlt {x y : UInt64} (hx : DFin x) (hy : DFin y) (h : dv y ≤ dv x) (op : CmpOp) : ¬ cmpValue (FP.dcmp x y) op < 0 := by
  rcases Int.lt_or_eq_of_le h with q | q
  · rw [cmpV_gt hx hy q]; decide
  · rw [cmpV_eq hx hy q.symm]; decide
theorem cmpV_notgt {x y : UInt64} (hx : DFin x) (hy : DFin y) (h : dv x ≤ dv y) (op : CmpOp) : ¬ (0 : Int32) < cmpValue (FP.dcmp x y) op := by
  rcases Int.lt_or_eq_of_le h with q | q
  · rw [cmpV_lt hx hy q]; decide
  · rw [cmpV_eq hx hy q]; decide
end OwnProb
section OwnDy
open Jvm.FP Jvm.FP.Core Jvm.Free.Fl
/-- 2^j, as an Int -/
def pw (j : Nat) : Int := ((2 ^ j : Nat) : Int)
theorem pw_mul (i j : Nat) : pw i * pw j = pw (i + j) := by unfold pw; rw [Nat.pow_add]; exact (Int.natCast_mul _ _).symm
theorem pw_pos (j : Nat) : 0 < pw j := by unfold pw; have := Nat.two_pow_pos j; omega
theorem pw_abs (j : Nat) : (pw j).natAbs = 2 ^ j := by unfold pw; exact Int.natAbs_natCast _
theorem oneU_pw : oneU = pw 1074 := rfl
/-- the double x is n * 2^j least numbers (n whole: j = 1074) -/
def Dy (n : Int) (j : Nat) (x : UInt64) : Prop := DFin x ∧ dv x = n * pw j
theorem dy_int {i : Int} {x : UInt64} (h : DInt i x) : Dy i 1074 x := by
  have q := dint_fin h
  exact ⟨q.1, by rw [q.2, oneU_pw]⟩
theorem rep_pw {n : Int} {j : Nat} (hn : n.natAbs < 2 ^ 53) (hj : j ≤ 2045) : Rep (n * pw j) := rep_int hn hj (by rw [Int.natAbs_mul, pw_abs])
theorem dy_add {n m : Int} {j : Nat} {x y : UInt64} (hx : Dy n j x) (hy : Dy m j y) (h : (n + m).natAbs < 2 ^ 53) (hj : j ≤ 2045) : Dy (n + m) j (FP.dadd x y) :=
  add_exact hx.1 hy.1 (by rw [hx.2, hy.2, Int.add_mul]) (rep_pw h hj)
theorem dy_sub {n m : Int} {j : Nat} {x y : UInt64} (hx : Dy n j x) (hy : Dy m j y) (h : (n - m).natAbs < 2 ^ 53) (hj : j ≤ 2045) : Dy (n - m) j (FP.dsub x y) :=
  sub_exact hx.1 hy.1 (by rw [hx.2, hy.2, Int.sub_mul]) (rep_pw h hj)
theorem dy_neg {n : Int} {j : Nat} {x : UInt64} (hx : Dy n j x) : Dy (-n) j (FP.dneg x) :=
  ⟨(neg_fin hx.1).1, by rw [(neg_fin hx.1).2, hx.2, Int.neg_mul]⟩
theorem dy_mul {n m : Int} {i j k : Nat} {x y : UInt64} (hx : Dy n i x) (hy : Dy m j y) (hk : i + j = k + 1074) (h : (n * m).natAbs < 2 ^ 53) (hj : k ≤ 2045) : Dy (n * m) k (FP.dmul x y) :=
  mul_exact hx.1 hy.1 (by
    have e : pw i * pw j = pw k * oneU := by rw [oneU_pw, pw_mul, pw_mul, hk]
    rw [hx.2, hy.2, Int.mul_assoc (n * m), ← e]
    ac_rfl) (rep_pw h hj)
theorem dy_shift {n : Int} {j : Nat} {x : UInt64} (t : Nat) (h : Dy n (j + t) x) : Dy (n * pw t) j x := by
  refine ⟨h.1, ?_⟩
  rw [h.2, ← pw_mul]
  ac_rfl
theorem compare_pw (n m : Int) (j : Nat) : compare (n * pw j) (m * pw j) = compare n m := compare_mul_pos _ _ _ (pw_pos j)
theorem dy_cmp {n m : Int} {j : Nat} {x y : UInt64} (hx : Dy n j x) (hy : Dy m j y) : FP.dcmp x y = some (compare n m) := by
  rw [cmp_dv hx.1 hy.1, hx.2, hy.2, compare_pw]
theorem signed_cases (s : Bool) (n : Nat) : signed s n = (n : Int) ∨ signed s n = -(n : Int) := by cases s <;> simp [signed]
/-- an exact quotient -/
theorem div_exact {x y : UInt64} (hx : DFin x) (hy : DFin y) (h0 : dv y ≠ 0) {z : Int} (h : dv x * oneU = z * dv y) (hr : Rep z) : DFin (FP.ddiv x y) ∧ dv (FP.ddiv x y) = z := by
  obtain ⟨s, t, c, d, q, r, e, hd, hq, hr1, ex, ey⟩ := div_units hx hy h0
  obtain ⟨V, fV, ⟨s', c', q', rfl⟩, hz⟩ := hr
  have az : zmag b64 (.fin s' c' q') = z.natAbs := by rw [← hz]; exact (natAbs_signed _ _).symm
  have ax : (dv x).natAbs = inUnits c q b64.qmin := by rw [ex, natAbs_signed]
  have ay : (dv y).natAbs = inUnits d r b64.qmin := by rw [ey, natAbs_signed]
  have ha : inUnits c q b64.qmin * one64 = z.natAbs * inUnits d r b64.qmin := by
    have := congrArg Int.natAbs h
    rw [Int.natAbs_mul, Int.natAbs_mul, ax, ay] at this
    exact this
  obtain ⟨k1, k2⟩ := div_scale (c := c) (d := d) hq hr1 (zmag b64 (.fin s' c' q'))
  have l1 := zmag_roundRatio_le good_b64 (s := (s != t)) (A := c) (B := d) (e := q - r) (e0 := 2 * b64.qmin - r) hd fV (by simp) (by omega) (by rw [qmin_b64] at hq ⊢; omega) (by rw [k1, k2, az, ha]; exact Nat.le_refl _)
  have l2 := zmag_roundRatio_ge good_b64 (s := (s != t)) (A := c) (B := d) (e := q - r) (e0 := 2 * b64.qmin - r) hd fV (by omega) (by rw [qmin_b64] at hq ⊢; omega) (by rw [k1, k2, az, ha]; exact Nat.le_refl _)
  have lz : zmag b64 (roundRatio b64 (s != t) c d (q - r)) = z.natAbs := by omega
  have ez : zval b64 (val64 (FP.ddiv x y)) = signed (s != t) z.natAbs := by
    rw [e]; unfold zval; rw [sgn_roundRatio, lz]
  have es : signed (s != t) z.natAbs = z := by
    by_cases hz0 : z = 0
    · rw [hz0]; exact signed_zero _
    · have hu := oneU_pos
      rw [ex, ey] at h
      have hc : 0 < inUnits c q b64.qmin := by
        rcases Nat.eq_zero_or_pos (inUnits c q b64.qmin) with w | w
        · rw [w, Nat.zero_mul] at ha
          have : 0 < z.natAbs * inUnits d r b64.qmin := Nat.mul_pos (by omega) (by unfold inUnits; exact Nat.mul_pos hd (Nat.two_pow_pos _))
          omega
        · exact w
      have hdd : 0 < inUnits d r b64.qmin := by unfold inUnits; exact Nat.mul_pos hd (Nat.two_pow_pos _)
      generalize inUnits c q b64.qmin = C at *
      generalize inUnits d r b64.qmin = D at *
      have p1 : (0 : Int) < (C : Int) * oneU := Int.mul_pos (by omega) hu
      cases s <;> cases t <;> simp only [signed, bne_self_eq_false, Bool.false_eq_true, if_false, if_true, Bool.true_bne, Bool.false_bne, Bool.not_false] at h ⊢
      · have : 0 < z := by
          rcases Int.lt_or_le 0 z with w | w
          · exact w
          · have := Int.mul_nonpos_of_nonpos_of_nonneg w (show (0 : Int) ≤ (D : Int) by omega); omega
        omega
      · have : z < 0 := by
          rcases Int.lt_or_le z 0 with w | w
          · exact w
          · have := Int.mul_nonneg w (show (0 : Int) ≤ (D : Int) by omega); rw [Int.mul_neg] at h; omega
        omega
      · have : z < 0 := by
          rcases Int.lt_or_le z 0 with w | w
          · exact w
          · have := Int.mul_nonneg w (show (0 : Int) ≤ (D : Int) by omega); rw [Int.neg_mul] at h; omega
        omega
      · have : 0 < z := by
          rcases Int.lt_or_le 0 z with w | w
          · exact w
          · have := Int.mul_nonpos_of_nonpos_of_nonneg w (show (0 : Int) ≤ (D : Int) by omega); rw [Int.neg_mul, Int.mul_neg] at h; omega
        omega
  refine ⟨?_, ez.trans es⟩
  have hn : FP.dIsNaN (FP.ddiv x y) = false := ddiv_out hx.notNaN hy (fun w => h0 ((dv_zero_iff hy).mp w))
  have ht := zmag_lt_top good_b64 fV
  unfold DFin
  cases hv : val64 (FP.ddiv x y) with
  | nan => exact absurd hv ((notNaN_iff _).mp hn)
  | fin s2 c2 q2 => exact ⟨_, _, _, rfl⟩
  | inf t2 =>
    exfalso
    rw [hv] at e
    rw [← e] at lz
    have a1 : zmag b64 (.inf t2) = b64.tails * 2 ^ (b64.exps - 2) := rfl
    have a2 : zmag b64 (.fin s' c' q') = inUnits c' q' b64.qmin := rfl
    rw [a1] at lz
    omega
theorem dy_div {n m q : Int} {i j k : Nat} {x y : UInt64} (hx : Dy n i x) (hy : Dy m j y) (hm : m ≠ 0) (hq : n = q * m) (hk : i + 1074 = k + j) (h : q.natAbs < 2 ^ 53) (hj : k ≤ 2045) : Dy q k (FP.ddiv x y) :=
  div_exact hx.1 hy.1 (by rw [hy.2]; exact Int.mul_ne_zero hm (Int.ne_of_gt (pw_pos j))) (by
    have e : pw i * oneU = pw k * pw j := by rw [oneU_pw, pw_mul, pw_mul, hk]
    rw [hx.2, hy.2, hq, Int.mul_assoc (q * m), e]
    ac_rfl) (rep_pw h hj)
theorem dy_noNaN {n : Int} {j : Nat} {x : UInt64} (h : Dy n j x) : NoNaN64 x := noNaN_of_fin h.1
/-- two quotients of the same ratio are one double -/
theorem div_congr {x y x' y' : UInt64} (hx : DFin x) (hy : DFin y) (hx' : DFin x') (hy' : DFin y') (px : 0 < dv x) (py : 0 < dv y) (px' : 0 < dv x') (py' : 0 < dv y') (h : dv x * dv y' = dv x' * dv y) : FP.ddiv x y = FP.ddiv x' y' := by
  have sg : ∀ {s : Bool} {n : Nat}, 0 < signed s n → s = false ∧ signed s n = (n : Int) := by
    intro s n q; cases s
    · exact ⟨rfl, rfl⟩
    · simp only [signed, if_true] at q; omega
  obtain ⟨s, t, c, d, q, r, e, hd, hq, hr, ex, ey⟩ := div_units hx hy (by omega)
  obtain ⟨s', t', c', d', q', r', e', hd', hq', hr', ex', ey'⟩ := div_units hx' hy' (by omega)
  rw [ex] at px; rw [ey] at py; rw [ex'] at px'; rw [ey'] at py'
  rw [ex, ey, ex', ey', (sg px).2, (sg py).2, (sg px').2, (sg py').2] at h
  have hn : val64 (FP.ddiv x y) ≠ .nan := by rw [e]; exact roundRatio_ne_nan _ _ _ _ _
  refine val64_inj hn ?_
  rw [e, e', (sg px).1, (sg py).1, (sg px').1, (sg py').1]
  refine roundRatio_congr hd hd' ?_
  have hN : inUnits c q b64.qmin * inUnits d' r' b64.qmin = inUnits c' q' b64.qmin * inUnits d r b64.qmin := by exact_mod_cast h
  unfold inUnits at hN
  generalize ha1 : (q - b64.qmin).toNat = a1 at hN
  generalize ha2 : (r' - b64.qmin).toNat = a2 at hN
  generalize ha3 : (q' - b64.qmin).toNat = a3 at hN
  generalize ha4 : (r - b64.qmin).toNat = a4 at hN
  have h1 : c * d' * 2 ^ (a1 + a2) = c' * d * 2 ^ (a3 + a4) := by
    rw [Nat.pow_add, Nat.pow_add]
    calc c * d' * (2 ^ a1 * 2 ^ a2) = c * 2 ^ a1 * (d' * 2 ^ a2) := by ac_rfl
      _ = c' * 2 ^ a3 * (d * 2 ^ a4) := hN
      _ = _ := by ac_rfl
  rcases Nat.le_total (a3 + a4) (a1 + a2) with w | w
  · obtain ⟨k, hk⟩ := Nat.le.dest w
    rw [← hk, Nat.pow_add 2 (a3 + a4) k, Nat.mul_comm (2 ^ (a3 + a4)), ← Nat.mul_assoc] at h1
    have h2 := Nat.eq_of_mul_eq_mul_right (Nat.two_pow_pos _) h1
    rw [show (q - r - (q' - r')).toNat = k by omega, show (q' - r' - (q - r)).toNat = 0 by omega, h2]; omega
  · obtain ⟨k, hk⟩ := Nat.le.dest w
    rw [← hk, Nat.pow_add 2 (a1 + a2) k, Nat.mul_comm (2 ^ (a1 + a2)), ← Nat.mul_assoc] at h1
    have h2 := Nat.eq_of_mul_eq_mul_right (Nat.two_pow_pos _) h1
    rw [show (q - r - (q' - r')).toNat = 0 by omega, show (q' - r' - (q - r)).toNat = k by omega, ← h2]; omega
theorem own_p53 : (2 : Nat) ^ 53 = 9007199254740992 := by decide +kernel
theorem own_mb {a b : Int} {A B : Nat} (ha : a.natAbs ≤ A) (hb : b.natAbs ≤ B) (h : A * B < 9007199254740992) : (a * b).natAbs < 2 ^ 53 := by
  rw [own_p53, Int.natAbs_mul]; exact Nat.lt_of_le_of_lt (Nat.mul_le_mul ha hb) h
theorem own_addl {a b : Int} {A B : Nat} (ha : a.natAbs ≤ A) (hb : b.natAbs ≤ B) : (a + b).natAbs ≤ A + B := by omega
theorem own_subl {a b : Int} {A B : Nat} (ha : a.natAbs ≤ A) (hb : b.natAbs ≤ B) : (a - b).natAbs ≤ A + B := by omega
theorem own_addb {a b : Int} {A B : Nat} (ha : a.natAbs ≤ A) (hb : b.natAbs ≤ B) (h : A + B < 9007199254740992) : (a + b).natAbs < 2 ^ 53 := by rw [own_p53]; omega
theorem own_subb {a b : Int} {A B : Nat} (ha : a.natAbs ≤ A) (hb : b.natAbs ≤ B) (h : A + B < 9007199254740992) : (a - b).natAbs < 2 ^ 53 := by rw [own_p53]; omega
theorem own_shl {a k : Int} {A B : Nat} (ha : a.natAbs ≤ A) (h : A * k.natAbs ≤ B) : (a * k).natAbs ≤ B := by rw [Int.natAbs_mul]; exact Nat.le_trans (Nat.mul_le_mul_right _ ha) h
theorem own_dyeq {n m : Int} {j : Nat} {x y : UInt64} (hx : Dy n j x) (hy : Dy m j y) (h : n = m) {op : CmpOp} : cmpValue (FP.dcmp x y) op = 0 := by
  rw [dy_cmp hx hy, (compare_eq_iff _ _).mpr h]; rfl
end OwnDy
section OwnAp
open Jvm.FP Jvm.FP.Core Jvm.Free.Fl
/-- x and y lie no further apart than e -/
def Ap (x y e : Int) : Prop := x - y ≤ e ∧ y - x ≤ e
theorem Ap.sym {x y e : Int} (h : Ap x y e) : Ap y x e := ⟨h.2, h.1⟩
theorem Ap.trans {x y z e f : Int} (h : Ap x y e) (g : Ap y z f) : Ap x z (e + f) := by obtain ⟨a, b⟩ := h; obtain ⟨c, d⟩ := g; exact ⟨by omega, by omega⟩
theorem Ap.add {x y x' y' e f : Int} (h : Ap x y e) (g : Ap x' y' f) : Ap (x + x') (y + y') (e + f) := by obtain ⟨a, b⟩ := h; obtain ⟨c, d⟩ := g; exact ⟨by omega, by omega⟩
theorem Ap.le {x y e f : Int} (h : Ap x y e) (g : e ≤ f) : Ap x y f := ⟨Int.le_trans h.1 g, Int.le_trans h.2 g⟩
theorem Ap.mul {x y e : Int} (h : Ap x y e) (c : Int) (hc : 0 ≤ c) : Ap (c * x) (c * y) (c * e) := by
  refine ⟨?_, ?_⟩
  · rw [← Int.mul_sub]; exact Int.mul_le_mul_of_nonneg_left h.1 hc
  · rw [← Int.mul_sub]; exact Int.mul_le_mul_of_nonneg_left h.2 hc
theorem Ap.cancel {x y e c : Int} (hc : 0 < c) (h : Ap (c * x) (c * y) (c * e)) : Ap x y e := by
  refine ⟨?_, ?_⟩
  · have q := h.1; rw [← Int.mul_sub] at q; exact Int.le_of_mul_le_mul_left q hc
  · have q := h.2; rw [← Int.mul_sub] at q; exact Int.le_of_mul_le_mul_left q hc
/-- a product: x x' against y y', 0 ≤ x' ≤ B', 0 ≤ y ≤ B -/
theorem Ap.prod {x y e x' y' e' B B' : Int} (h : Ap x y e) (g : Ap x' y' e') (h0 : 0 ≤ x') (h1 : x' ≤ B') (g0 : 0 ≤ y) (g1 : y ≤ B) (he : 0 ≤ e) (he' : 0 ≤ e') : Ap (x * x') (y * y') (e * B' + B * e') := by
  have a := (h.mul x' h0).le (Int.mul_le_mul_of_nonneg_right h1 he)
  have b := (g.mul y g0).le (Int.mul_le_mul_of_nonneg_right g1 he')
  rw [Int.mul_comm x' x, Int.mul_comm x' y, Int.mul_comm B' e] at a
  exact a.trans b
theorem Ap.eq {x y x' y' e : Int} (h : Ap x y e) (hx : x = x') (hy : y = y') : Ap x' y' e := hx ▸ hy ▸ h
theorem Ap.ub {x y e : Int} (h : Ap x y e) : x ≤ y + e := by have := h.1; omega
theorem Ap.lb {x y e : Int} (h : Ap x y e) : y - e ≤ x := by have := h.2; omega
theorem fin_of_rep {q : UInt64} (hn : FP.dIsNaN q = false) {z : Int} (hr : Rep z) (h : (dv q).natAbs ≤ z.natAbs) : DFin q := by
  obtain ⟨V, fV, ⟨s, c, e, rfl⟩, hz⟩ := hr
  have ht := zmag_lt_top good_b64 fV
  have hm := (notNaN_iff q).mp hn
  rw [← hz] at h
  unfold dv at h
  unfold DFin
  cases hv : val64 q with
  | nan => exact absurd hv hm
  | fin s' c' q' => exact ⟨_, _, _, rfl⟩
  | inf t =>
    exfalso
    rw [hv] at h
    have a1 : (zval b64 (.inf t)).natAbs = b64.tails * 2 ^ (b64.exps - 2) := natAbs_signed _ _
    have a2 : (zval b64 (.fin s c e)).natAbs = inUnits c e b64.qmin := natAbs_signed _ _
    rw [a1, a2] at h
    omega
/-- what is squeezed between neighbours c and c + 1, in units of g -/
theorem ap_squeeze {v z c g : Int} (hg : 0 < g) (h1 : c * g ≤ z) (h2 : z < (c + 1) * g) (l : c * g ≤ v) (u : v ≤ (c + 1) * g) : Ap v z g := by
  have e : (c + 1) * g = c * g + g := by rw [Int.add_mul, Int.one_mul]
  exact ⟨by omega, by omega⟩
theorem floor_facts (z : Int) {g : Int} (hg : 0 < g) {M : Int} (h : -(M * g) ≤ z ∧ z ≤ M * g) : z / g * g ≤ z ∧ z < (z / g + 1) * g ∧ -M ≤ z / g ∧ z / g ≤ M := by
  have a := Int.mul_ediv_add_emod z g
  have b := Int.emod_nonneg z (Int.ne_of_gt hg)
  have c := Int.emod_lt_of_pos z hg
  rw [Int.mul_comm] at a
  have e : (z / g + 1) * g = z / g * g + g := by rw [Int.add_mul, Int.one_mul]
  refine ⟨by omega, by omega, ?_, ?_⟩
  · rw [Int.le_ediv_iff_mul_le hg, Int.neg_mul]; exact h.1
  · exact Int.le_of_mul_le_mul_right (by omega : z / g * g ≤ M * g) hg
theorem pw52 : (2 : Int) ^ 52 = 4503599627370496 := by decide +kernel
theorem rep_near {c : Int} {t : Nat} (ht : t ≤ 1990) (h : -4503599627370497 ≤ c ∧ c ≤ 4503599627370497) : Rep (c * pw t) := rep_pw (by rw [own_p53]; omega) (by omega)
theorem rnd_add {x y : UInt64} (hx : DFin x) (hy : DFin y) {t : Nat} (ht : t ≤ 1990) (h : -(4503599627370496 * pw t) ≤ dv x + dv y ∧ dv x + dv y ≤ 4503599627370496 * pw t) : DFin (FP.dadd x y) ∧ Ap (dv (FP.dadd x y)) (dv x + dv y) (pw t) := by
  have hg := pw_pos t
  obtain ⟨f1, f2, f3, f4⟩ := floor_facts (dv x + dv y) hg h
  generalize (dv x + dv y) / pw t = c at *
  obtain ⟨V, v1, ⟨s1, c1, q1, rfl⟩, v3⟩ := rep_near (c := c) ht ⟨by omega, by omega⟩
  obtain ⟨W, w1, ⟨s2, c2, q2, rfl⟩, w3⟩ := rep_near (c := c + 1) ht ⟨by omega, by omega⟩
  have l := add_ge hx hy v1 (by simp) (by rw [v3]; exact f1)
  have u := add_le hx hy w1 (by simp) (by rw [w3]; omega)
  rw [v3] at l; rw [w3] at u
  refine ⟨fin_of_rep (dadd_out hx.notNaN hy) (rep_pw (n := 9007199254740991) (j := t) (by decide) (by omega)) ?_, ap_squeeze hg f1 f2 l u⟩
  have b1 : -(4503599627370497 * pw t) ≤ c * pw t := by rw [← Int.neg_mul]; exact Int.mul_le_mul_of_nonneg_right (by omega) (by omega)
  have b2 : (c + 1) * pw t ≤ 4503599627370497 * pw t := Int.mul_le_mul_of_nonneg_right (by omega) (by omega)
  omega
theorem rnd_sub {x y : UInt64} (hx : DFin x) (hy : DFin y) {t : Nat} (ht : t ≤ 1990) (h : -(4503599627370496 * pw t) ≤ dv x - dv y ∧ dv x - dv y ≤ 4503599627370496 * pw t) : DFin (FP.dsub x y) ∧ Ap (dv (FP.dsub x y)) (dv x - dv y) (pw t) := by
  rw [sub_dneg hy]
  have e := (neg_fin hy).2
  have q := rnd_add hx (neg_fin hy).1 ht (by rw [e]; omega)
  rw [e] at q
  exact ⟨q.1, q.2.eq rfl (by omega)⟩
theorem rnd_mul {x y : UInt64} (hx : DFin x) (hy : DFin y) {t : Nat} (ht : t ≤ 1990) (h : -(4503599627370496 * (pw t * oneU)) ≤ dv x * dv y ∧ dv x * dv y ≤ 4503599627370496 * (pw t * oneU)) : DFin (FP.dmul x y) ∧ Ap (dv (FP.dmul x y) * oneU) (dv x * dv y) (pw t * oneU) := by
  have hg := pw_pos t
  have hU := oneU_pos
  have hG : 0 < pw t * oneU := Int.mul_pos hg hU
  obtain ⟨f1, f2, f3, f4⟩ := floor_facts (dv x * dv y) hG h
  generalize (dv x * dv y) / (pw t * oneU) = c at *
  obtain ⟨V, v1, ⟨s1, c1, q1, rfl⟩, v3⟩ := rep_near (c := c) ht ⟨by omega, by omega⟩
  obtain ⟨W, w1, ⟨s2, c2, q2, rfl⟩, w3⟩ := rep_near (c := c + 1) ht ⟨by omega, by omega⟩
  have l := mul_ge hx hy v1 (by simp) (by rw [v3, Int.mul_assoc]; exact f1)
  have u := mul_le hx hy w1 (by simp) (by rw [w3, Int.mul_assoc]; omega)
  rw [v3] at l; rw [w3] at u
  refine ⟨fin_of_rep (dmul_out hx hy) (rep_pw (n := 9007199254740991) (j := t) (by decide) (by omega)) ?_, ap_squeeze hG f1 f2 ?_ ?_⟩
  · have b1 : -(4503599627370497 * pw t) ≤ c * pw t := by rw [← Int.neg_mul]; exact Int.mul_le_mul_of_nonneg_right (by omega) (by omega)
    have b2 : (c + 1) * pw t ≤ 4503599627370497 * pw t := Int.mul_le_mul_of_nonneg_right (by omega) (by omega)
    omega
  · rw [← Int.mul_assoc]; exact Int.mul_le_mul_of_nonneg_right l (by omega)
  · rw [← Int.mul_assoc]; exact Int.mul_le_mul_of_nonneg_right u (by omega)
theorem pos_sign {x : UInt64} (h : 0 < dv x) {s : Bool} {c : Nat} {q : Int} (e : val64 x = .fin s c q) : s = false := by
  unfold dv at h; rw [e] at h
  have h' : 0 < signed s (inUnits c q b64.qmin) := h
  cases s
  · rfl
  · simp only [signed, if_true] at h'; omega
theorem rnd_div {x y : UInt64} (hx : DFin x) (hy : DFin y) (px : 0 < dv x) (py : 0 < dv y) {t : Nat} (ht : t ≤ 1990) (h : dv x * oneU ≤ 4503599627370496 * (pw t * dv y)) : DFin (FP.ddiv x y) ∧ Ap (dv (FP.ddiv x y) * dv y) (dv x * oneU) (pw t * dv y) := by
  have hg := pw_pos t
  have hU := oneU_pos
  have hG : 0 < pw t * dv y := Int.mul_pos hg py
  have hp : 0 < dv x * oneU := Int.mul_pos px hU
  obtain ⟨f1, f2, f3, f4⟩ := floor_facts (dv x * oneU) hG (M := 4503599627370496) ⟨by omega, h⟩
  generalize (dv x * oneU) / (pw t * dv y) = c at *
  have c0 : 0 ≤ c := by
    rcases Int.lt_or_le c 0 with w | w
    · have := Int.mul_le_mul_of_nonneg_right (show c + 1 ≤ 0 by omega) (show 0 ≤ pw t * dv y by omega)
      rw [Int.zero_mul] at this
      omega
    · exact w
  obtain ⟨V, v1, ⟨s1, c1, q1, rfl⟩, v3⟩ := rep_near (c := c) ht ⟨by omega, by omega⟩
  obtain ⟨W, w1, ⟨s2, c2, q2, rfl⟩, w3⟩ := rep_near (c := c + 1) ht ⟨by omega, by omega⟩
  have l := div_ge hx hy (by omega) py (fun _ _ _ e => pos_sign px e) (fun _ _ _ e => pos_sign py e) v1 (by rw [v3, Int.mul_assoc]; exact f1)
  have u := div_le hx hy (by omega) py w1 (by simp) (by rw [w3, Int.mul_assoc]; omega)
  rw [v3] at l; rw [w3] at u
  have hn : FP.dIsNaN (FP.ddiv x y) = false := ddiv_out hx.notNaN hy (fun z => by rw [dv_zero_iff hy] at z; omega)
  refine ⟨fin_of_rep hn (rep_pw (n := 9007199254740991) (j := t) (by decide) (by omega)) ?_, ap_squeeze hG f1 f2 ?_ ?_⟩
  · have b1 : 0 ≤ c * pw t := Int.mul_nonneg c0 (by omega)
    have b2 : (c + 1) * pw t ≤ 4503599627370497 * pw t := Int.mul_le_mul_of_nonneg_right (by omega) (by omega)
    omega
  · rw [← Int.mul_assoc]; exact Int.mul_le_mul_of_nonneg_right l (by omega)
  · rw [← Int.mul_assoc]; exact Int.mul_le_mul_of_nonneg_right u (by omega)
end OwnAp
section
theorem ac1 (k e x : Int) : k * (e * x) = x * (k * e) := by ac_rfl
theorem ac2 (a b c : Int) : a * (b * c) = c * (b * a) := by ac_rfl
theorem ac3 (a b : Int) : a * b * b = b * (a * b) := by ac_rfl
theorem ac4 (a b c : Int) : a * (b * c) = b * (a * c) := by ac_rfl
theorem ac5 (k n e u : Int) : k * (n * e * u) = n * (k * e * u) := by ac_rfl
open Jvm.FP Jvm.FP.Core Jvm.Free.Fl
theorem own_E : oneU = 4503599627370496 * pw 1022 := by rw [oneU_pw, show (1074 : Nat) = 52 + 1022 from rfl, ← pw_mul, show pw 52 = 4503599627370496 from by decide +kernel]
theorem own_pwn (t k : Nat) (n : Int) (hn : pw k = n) : pw (t + k) = n * pw t := by rw [← pw_mul, hn, Int.mul_comm]
/-- the quotient, whatever the dividend's sign -/
theorem rnd_divs {x y : UInt64} (hx : DFin x) (hy : DFin y) (py : 0 < dv y) {t : Nat} (ht : t ≤ 1990) (h1 : dv x * oneU ≤ 4503599627370496 * (pw t * dv y)) (h2 : -(4503599627370496 * (pw t * dv y)) ≤ dv x * oneU) : DFin (FP.ddiv x y) ∧ Ap (dv (FP.ddiv x y) * dv y) (dv x * oneU) (pw t * dv y) := by
  rcases Int.lt_trichotomy (dv x) 0 with q | q | q
  · obtain ⟨f, a⟩ := rnd_div (neg_fin hx).1 hy (by rw [(neg_fin hx).2]; omega) py ht (by rw [(neg_fin hx).2, Int.neg_mul]; omega)
    have e : FP.ddiv (FP.dneg x) y = FP.dneg (FP.ddiv x y) := by
      have hn : FP.dIsNaN (FP.ddiv x y) = false := ddiv_out hx.notNaN hy (fun z => by rw [dv_zero_iff hy] at z; omega)
      rw [FP.dneg_core hx.notNaN, FP.dneg_core hn]; exact ddiv_dneg x y
    rw [e] at f a
    have f' : DFin (FP.ddiv x y) := by
      have g := neg_fin f
      have e2 : FP.dneg (FP.dneg (FP.ddiv x y)) = FP.ddiv x y := by
        unfold FP.dneg; rw [UInt64.xor_assoc, UInt64.xor_self, UInt64.xor_zero]
      rw [e2] at g; exact g.1
    refine ⟨f', ?_⟩
    rw [(neg_fin f').2, (neg_fin hx).2, Int.neg_mul, Int.neg_mul] at a
    obtain ⟨u, v⟩ := a
    exact ⟨by omega, by omega⟩
  · obtain ⟨f, a⟩ := div_exact hx hy (by omega) (z := 0) (by rw [q]; omega) (by have := rep_pw (n := 0) (j := 0) (by decide) (by decide); rw [Int.zero_mul] at this; exact this)
    refine ⟨f, ?_⟩
    rw [a, q, Int.zero_mul, Int.zero_mul]
    have := Int.mul_pos (pw_pos t) py
    exact ⟨by omega, by omega⟩
  · exact rnd_div hx hy q py ht h1
/-- a weight: a / b, |a| ≤ b -/
theorem own_wt {x y : UInt64} {a b : Int} (hx : Dy a 1074 x) (hy : Dy b 1074 y) (hb : 1 ≤ b) (h1 : a ≤ b) (h2 : -b ≤ a) : DFin (FP.ddiv x y) ∧ (-(2 * oneU) ≤ dv (FP.ddiv x y) ∧ dv (FP.ddiv x y) ≤ 2 * oneU) ∧ Ap (b * dv (FP.ddiv x y)) (a * oneU) (b * pw 1022) := by
  obtain ⟨fx, ex⟩ := hx
  obtain ⟨fy, ey⟩ := hy
  rw [← oneU_pw] at ex ey
  have U0 := oneU_pos
  have E0 := pw_pos 1022
  have hU := own_E
  have k : 4503599627370496 * (pw 1022 * (b * oneU)) = b * oneU * oneU := by
    rw [ac1, ← hU]
  have l1 : a * oneU * oneU ≤ b * oneU * oneU := Int.mul_le_mul_of_nonneg_right (Int.mul_le_mul_of_nonneg_right h1 (by omega)) (by omega)
  have l2 : -b * oneU * oneU ≤ a * oneU * oneU := Int.mul_le_mul_of_nonneg_right (Int.mul_le_mul_of_nonneg_right h2 (by omega)) (by omega)
  rw [Int.neg_mul, Int.neg_mul] at l2
  obtain ⟨f, g⟩ := rnd_divs fx fy (by rw [ey]; exact Int.mul_pos (by omega) U0) (t := 1022) (by decide) (by rw [ex, ey, k]; exact l1) (by rw [ex, ey, k]; exact l2)
  rw [ex, ey] at g
  generalize dv (FP.ddiv x y) = q at *
  have r : Ap (b * q) (a * oneU) (b * pw 1022) := Ap.cancel U0 ((g.eq (ac2 q b oneU) (ac3 a oneU)).le (Int.le_of_eq (ac2 (pw 1022) b oneU)))
  refine ⟨f, ?_, r⟩
  have b0 : 0 < b := by omega
  have m1 := Int.mul_le_mul_of_nonneg_right h1 (show 0 ≤ oneU by omega)
  have m2 := Int.mul_le_mul_of_nonneg_right h2 (show 0 ≤ oneU by omega)
  have m3 := Int.mul_le_mul_of_nonneg_left (show pw 1022 ≤ oneU by omega) (show 0 ≤ b by omega)
  rw [Int.neg_mul] at m2
  have r1 := r.1
  have r2 := r.2
  constructor
  · refine Int.le_of_mul_le_mul_left ?_ b0
    rw [Int.mul_neg, ac4 b 2 oneU]; omega
  · refine Int.le_of_mul_le_mul_left ?_ b0
    rw [ac4 b 2 oneU]; omega
/-- a weight times a value -/
theorem own_wv {w v : UInt64} {n : Int} (fw : DFin w) (bw : -(2 * oneU) ≤ dv w ∧ dv w ≤ 2 * oneU) (hv : Dy n 1074 v) (b1 : -262144 ≤ n) (b2 : n ≤ 262144) : DFin (FP.dmul w v) ∧ (-(1048576 * oneU) ≤ dv (FP.dmul w v) ∧ dv (FP.dmul w v) ≤ 1048576 * oneU) ∧ Ap (dv (FP.dmul w v)) (dv w * n) (524288 * pw 1022) := by
  obtain ⟨fv, ev⟩ := hv
  rw [← oneU_pw] at ev
  have U0 := oneU_pos
  have E0 := pw_pos 1022
  have hU := own_E
  have t1 : pw 1041 = 524288 * pw 1022 := own_pwn 1022 19 524288 rfl
  have k : 4503599627370496 * (pw 1041 * oneU) = 524288 * (oneU * oneU) := by rw [t1, ac5, ← hU]
  have UU : 0 < oneU * oneU := Int.mul_pos U0 U0
  -- |dv w * n| ≤ 524288 U
  have m : -(524288 * oneU) ≤ dv w * n ∧ dv w * n ≤ 524288 * oneU := by
    have a : (dv w * n).natAbs ≤ (2 * oneU).natAbs * 262144 := by
      rw [Int.natAbs_mul]; exact Nat.mul_le_mul (by omega) (by omega)
    omega
  have m2 : -(524288 * (oneU * oneU)) ≤ dv w * (n * oneU) ∧ dv w * (n * oneU) ≤ 524288 * (oneU * oneU) := by
    have e : dv w * (n * oneU) = dv w * n * oneU := (Int.mul_assoc _ _ _).symm
    have p1 := Int.mul_le_mul_of_nonneg_right m.1 (show 0 ≤ oneU by omega)
    have p2 := Int.mul_le_mul_of_nonneg_right m.2 (show 0 ≤ oneU by omega)
    rw [Int.neg_mul, Int.mul_assoc] at p1
    rw [Int.mul_assoc] at p2
    rw [e]
    rw [Int.mul_assoc] at p1 p2 ⊢
    exact ⟨p1, p2⟩
  obtain ⟨f, g⟩ := rnd_mul fw fv (t := 1041) (by decide) (by rw [k, ev]; exact m2)
  rw [ev] at g
  have g2 : Ap (dv (FP.dmul w v)) (dv w * n) (pw 1041) := by
    refine Ap.cancel U0 ?_
    have e1 : dv (FP.dmul w v) * oneU = oneU * dv (FP.dmul w v) := Int.mul_comm _ _
    have e2 : dv w * (n * oneU) = oneU * (dv w * n) := by rw [← Int.mul_assoc, Int.mul_comm]
    rw [← e1, ← e2, Int.mul_comm oneU]; exact g
  rw [t1] at g2
  refine ⟨f, ?_, g2⟩
  have r1 := g2.1
  have r2 := g2.2
  omega
theorem own_add {x y : UInt64} (fx : DFin x) (fy : DFin y) (hx : -(4194304 * oneU) ≤ dv x ∧ dv x ≤ 4194304 * oneU) (hy : -(4194304 * oneU) ≤ dv y ∧ dv y ≤ 4194304 * oneU) : DFin (FP.dadd x y) ∧ Ap (dv (FP.dadd x y)) (dv x + dv y) (8388608 * pw 1022) := by
  have t1 : pw 1045 = 8388608 * pw 1022 := own_pwn 1022 23 8388608 rfl
  have hU := own_E
  have E0 := pw_pos 1022
  obtain ⟨f, g⟩ := rnd_add fx fy (t := 1045) (by decide) (by rw [t1]; omega)
  rw [t1] at g
  exact ⟨f, g⟩
theorem Ap.muln {x y e n N : Int} (h : Ap x y e) (he : 0 ≤ e) (l : -N ≤ n) (u : n ≤ N) : Ap (x * n) (y * n) (N * e) := by
  rcases Int.lt_or_le n 0 with w | w
  · have q := h.mul (-n) (by omega)
    have r := Int.mul_le_mul_of_nonneg_right (show -n ≤ N by omega) he
    obtain ⟨a, b⟩ := q
    rw [Int.neg_mul, Int.neg_mul, Int.mul_comm n x, Int.mul_comm n y] at a b
    exact ⟨by omega, by omega⟩
  · have q := h.mul n w
    rw [Int.mul_comm n x, Int.mul_comm n y] at q
    exact q.le (Int.mul_le_mul_of_nonneg_right u he)
theorem own_join {A B S M A' w0 w1 w2 n0 n1 n2 U E s : Int} (q0 : Ap (A * (B * S * w0) * n0) (A * (A' * U) * n0) (262144 * (A * (B * S * E)))) (q1 : Ap (S * (B * A * w1) * n1) (S * (M * U) * n1) (262144 * (S * (B * A * E)))) (q2 : Ap (B * (A * S * w2) * n2) (B * (B * U) * n2) (262144 * (B * (A * S * E)))) (hs : A' * A * n0 + M * S * n1 + B * B * n2 = A * B * S * s) :
    Ap (A * B * S * (w0 * n0 + w1 * n1 + w2 * n2)) (A * B * S * (s * U)) (A * B * S * (786432 * E)) := by
  have r0 := q0.eq (show A * (B * S * w0) * n0 = A * B * S * (w0 * n0) by ac_rfl) (show A * (A' * U) * n0 = U * (A' * A * n0) by ac_rfl)
  have r1 := q1.eq (show S * (B * A * w1) * n1 = A * B * S * (w1 * n1) by ac_rfl) (show S * (M * U) * n1 = U * (M * S * n1) by ac_rfl)
  have r2 := q2.eq (show B * (A * S * w2) * n2 = A * B * S * (w2 * n2) by ac_rfl) (show B * (B * U) * n2 = U * (B * B * n2) by ac_rfl)
  have r := ((r0.add r1).add r2).eq (by rw [← Int.mul_add, ← Int.mul_add]) (by rw [← Int.mul_add, ← Int.mul_add, hs])
  refine (r.eq rfl (show U * (A * B * S * s) = A * B * S * (s * U) by ac_rfl)).le ?_
  rw [show A * (B * S * E) = A * B * S * E by ac_rfl, show S * (B * A * E) = A * B * S * E by ac_rfl, show B * (A * S * E) = A * B * S * E by ac_rfl, show A * B * S * (786432 * E) = 786432 * (A * B * S * E) by ac_rfl]
  omega
/-- the three weights' sum, as the instructions have it -/
theorem own_pt {w0 w1 w2 v0 v1 v2 : UInt64} {A B n0 n1 n2 s : Int} (hA : 1 ≤ A) (hB : 1 ≤ B) (f0 : DFin w0) (b0 : -(2 * oneU) ≤ dv w0 ∧ dv w0 ≤ 2 * oneU) (a0 : Ap (B * (B + A) * dv w0) (-A * oneU) (B * (B + A) * pw 1022)) (f1 : DFin w1) (b1 : -(2 * oneU) ≤ dv w1 ∧ dv w1 ≤ 2 * oneU) (a1 : Ap (B * A * dv w1) ((A - B) * oneU) (B * A * pw 1022)) (f2 : DFin w2) (b2 : -(2 * oneU) ≤ dv w2 ∧ dv w2 ≤ 2 * oneU) (a2 : Ap (A * (B + A) * dv w2) (B * oneU) (A * (B + A) * pw 1022))
    (h0 : Dy n0 1074 v0) (c0 : -262144 ≤ n0 ∧ n0 ≤ 262144) (h1 : Dy n1 1074 v1) (c1 : -262144 ≤ n1 ∧ n1 ≤ 262144) (h2 : Dy n2 1074 v2) (c2 : -262144 ≤ n2 ∧ n2 ≤ 262144) (hs : -A * A * n0 + (A - B) * (B + A) * n1 + B * B * n2 = A * B * (B + A) * s) :
    DFin (FP.dmul w0 v0) ∧ DFin (FP.dmul w1 v1) ∧ DFin (FP.dadd (FP.dmul w0 v0) (FP.dmul w1 v1)) ∧ DFin (FP.dmul w2 v2) ∧ DFin (FP.dadd (FP.dadd (FP.dmul w0 v0) (FP.dmul w1 v1)) (FP.dmul w2 v2)) ∧ Ap (dv (FP.dadd (FP.dadd (FP.dmul w0 v0) (FP.dmul w1 v1)) (FP.dmul w2 v2))) (s * oneU) (33554432 * pw 1022) := by
  have U0 := oneU_pos
  have E0 := pw_pos 1022
  have hU := own_E
  obtain ⟨g0, d0, e0⟩ := own_wv f0 b0 h0 c0.1 c0.2
  obtain ⟨g1, d1, e1⟩ := own_wv f1 b1 h1 c1.1 c1.2
  obtain ⟨g2, d2, e2⟩ := own_wv f2 b2 h2 c2.1 c2.2
  obtain ⟨g3, e3⟩ := own_add g0 g1 (by omega) (by omega)
  have d3 : -(4194304 * oneU) ≤ dv (FP.dadd (FP.dmul w0 v0) (FP.dmul w1 v1)) ∧ dv (FP.dadd (FP.dmul w0 v0) (FP.dmul w1 v1)) ≤ 4194304 * oneU := by
    have r1 := e3.1; have r2 := e3.2; omega
  obtain ⟨g4, e4⟩ := own_add g3 g2 d3 (by omega)
  refine ⟨g0, g1, g3, g2, g4, ?_⟩
  -- the sum of the weights times the values, against s
  have T0 : 0 < A * B * (B + A) := Int.mul_pos (Int.mul_pos (by omega) (by omega)) (by omega)
  have key : Ap (dv w0 * n0 + dv w1 * n1 + dv w2 * n2) (s * oneU) (786432 * pw 1022) := by
    refine Ap.cancel T0 ?_
    generalize B + A = S at *
    generalize A - B = M at *
    generalize -A = A' at *
    have S0 : 0 ≤ S := by
      rcases Int.lt_or_le S 0 with w | w
      · have := Int.mul_neg_of_pos_of_neg (Int.mul_pos (show 0 < A by omega) (show 0 < B by omega)) w; omega
      · exact w
    have q0 := (a0.mul A (by omega)).muln (n := n0) (N := 262144) (Int.mul_nonneg (by omega) (Int.mul_nonneg (Int.mul_nonneg (by omega) S0) (by omega))) c0.1 c0.2
    have q1 := (a1.mul S S0).muln (n := n1) (N := 262144) (Int.mul_nonneg S0 (Int.mul_nonneg (Int.mul_nonneg (by omega) (by omega)) (by omega))) c1.1 c1.2
    have q2 := (a2.mul B (by omega)).muln (n := n2) (N := 262144) (Int.mul_nonneg (by omega) (Int.mul_nonneg (Int.mul_nonneg (by omega) S0) (by omega))) c2.1 c2.2
    exact own_join q0 q1 q2 hs
  have m := ((e4.trans ((e3.trans (e0.add e1)).add e2)).trans key)
  exact m.le (by omega)
abbrev TOL : UInt64 := 4517110426252607488
theorem own_TOL : DFin TOL ∧ dv TOL = pw 1054 := ⟨⟨_, _, _, (by decide +kernel : val64 TOL = .fin false 4503599627370496 (-72))⟩, by decide +kernel⟩
theorem own_near {g : UInt64} {w : Int64} {s : Int} (fg : DFin g) (hs : w.toInt = s) (b1 : -100000 ≤ s) (b2 : s ≤ 100000) (a : Ap (dv g) (s * oneU) (33554432 * pw 1022)) : NoNaN64 (FP.dsub g (FP.l2d w)) ∧ cmpValue (FP.dcmp (FP.dsub g (FP.l2d w)) TOL) .g = -1 ∧ cmpValue (FP.dcmp (FP.dneg TOL) (FP.dsub g (FP.l2d w))) .g = -1 := by
  have p53 := own_p53
  obtain ⟨fx, ex⟩ : DFin (FP.l2d w) ∧ dv (FP.l2d w) = w.toInt * oneU := dint_fin (l2d_int (by rw [p53]; omega))
  have hU := own_E
  have E0 := pw_pos 1022
  have t2 : pw 1054 = 4294967296 * pw 1022 := own_pwn 1022 32 4294967296 rfl
  have a1 := a.1
  have a2 := a.2
  obtain ⟨fe, ae⟩ := rnd_sub fg fx (t := 1022) (by decide) (by rw [ex, hs]; omega)
  rw [ex, hs] at ae
  have c1 := ae.1
  have c2 := ae.2
  refine ⟨noNaN_of_fin fe, ?_, ?_⟩
  · rw [cmp_dv fe own_TOL.1, own_TOL.2, (compare_lt_iff _ _).mpr (by omega)]; rfl
  · rw [cmp_dv (neg_fin own_TOL.1).1 fe, (neg_fin own_TOL.1).2, own_TOL.2, (compare_lt_iff _ _).mpr (by omega)]; rfl
end
theorem own_pos {A B : Int} (hA : 1 ≤ A) (hB : 1 ≤ B) : 1 ≤ B * (B + A) ∧ -A ≤ B * (B + A) ∧ -(B * (B + A)) ≤ -A ∧ 1 ≤ B * A ∧ A - B ≤ B * A ∧ -(B * A) ≤ A - B ∧ 1 ≤ A * (B + A) ∧ B ≤ A * (B + A) ∧ -(A * (B + A)) ≤ B := by
  have h1 : 1 * (B + A) ≤ B * (B + A) := Int.mul_le_mul_of_nonneg_right hB (by omega)
  have h2 : 1 * A ≤ B * A := Int.mul_le_mul_of_nonneg_right hB (by omega)
  have h3 : B * 1 ≤ B * A := Int.mul_le_mul_of_nonneg_left hA (by omega)
  have h4 : 1 * (B + A) ≤ A * (B + A) := Int.mul_le_mul_of_nonneg_right hA (by omega)
  omega
theorem own_slope (p q r t0 t1 : Int) : (p * t1 * t1 + q * t1 + r) - (p * t0 * t0 + q * t0 + r) = (p * (t1 + t0) + q) * (t1 - t0) := by grind
theorem own_centre (p q r t0 t1 t2 : Int) : -(t2 - t1) * (t2 - t1) * (p * t0 * t0 + q * t0 + r) + (t2 - t1 - (t1 - t0)) * (t1 - t0 + (t2 - t1)) * (p * t1 * t1 + q * t1 + r) + (t1 - t0) * (t1 - t0) * (p * t2 * t2 + q * t2 + r) = (t2 - t1) * (t1 - t0) * (t1 - t0 + (t2 - t1)) * (2 * p * t1 + q) := by grind
section OwnArr
variable {p : Program} {l : Launch} {e : Env} {R : Room} {s : State} {m : MethodId} {args : Array Value} {below : List Frame} {meth : Method} {c : Code} {T : State} {Z : State} {a0 : Array Value} {h h' : Heap} {n0 cells slots nc ns pc pc' : Nat} {Ls : Array Slot} {st rest : List Value} {Q : Option Value → Heap → Prop} {a b : Addr} {vs : List UInt64}
/-- in heap h, at a, there is a double[] that holds just these -/
def AD (Z : State) (h : Heap) (a : Addr) (vs : List UInt64) : Prop := ∃ c : Cell, Arr Z h a c .double ∧ c.slots.size = vs.length ∧ vs.length < 2147483648 ∧ ∀ i, i < vs.length → c.slots[i]? = some (.double (vs.getD i 0))
theorem AD.lt (F : AD Z h a vs) : a < h.size := by obtain ⟨c, A, -⟩ := F; exact A.lt
theorem AD.ext (F : AD Z h a vs) (E : Ext h h') : AD Z h' a vs := by obtain ⟨c, A, r⟩ := F; exact ⟨c, A.ext E, r⟩
theorem AD.other {sl : Nat} {v : Value} (F : AD Z h b vs) (W : Wr h h' a sl v) (q : b ≠ a) : AD Z h' b vs := by obtain ⟨c, A, r⟩ := F; exact ⟨c, A.other W q, r⟩
theorem AD.keep {ws : List Addr} (F : AD Z h a vs) (K : Keep h h' ws) (q : a ∉ ws) : AD Z h' a vs := by obtain ⟨c, A, r⟩ := F; exact ⟨c, ⟨K.2.1 a c A.1 q, A.2⟩, r⟩
theorem own_idx {j : Int32} {i : Nat} (hj : j.toInt = (i : Int)) : j.toNatClampNeg = i ∧ ¬ j < 0 := by
  constructor
  · unfold Int32.toNatClampNeg; rw [hj]; rfl
  · rw [Int32.lt_iff_toInt_lt, hj]; have : (0 : Int32).toInt = 0 := rfl
    omega
theorem g_daload (X : Wk p l e R s m args below meth c n0 T h cells slots) (hx : p.tables.exec = Jvm.exec) (hZ : Z.Warmed39 s.vm) (F : AD Z h a vs) {j : Int32} {i : Nat} (hj : j.toInt = (i : Int)) (hi : i < vs.length) {v : UInt64} (hv : vs.getD i 0 = v) (hp : pc + 1 = pc') (hd : decode c.code pc = .ok (.daload, 1))
    (k : Go p e below s n0 Q nc ns (T.setTop (mkF m pc' Ls (.double v :: rest)))) : Go p e below s n0 Q nc ns (T.setTop (mkF m pc Ls (.int j :: .ref a :: rest))) := by
  subst hp; subst hv; obtain ⟨locs, X, N, eT⟩ := X
  obtain ⟨cl, A, S, -, H⟩ := F
  obtain ⟨e1, e2⟩ := own_idx hj
  have hin : ¬ (j < 0 ∨ cl.slots.size ≤ j.toNatClampNeg) := by rw [e1, S]; intro q; rcases q with q | q; exact e2 q; omega
  exact go_back (fun t q => X.daload hx (j := j) (v := .double (vs.getD i 0)) (by rw [eT]; exact A.1) (State.isArrayOf_alike hZ.alike A.2.1) A.2.2 hin (by rw [e1]; exact H i hi) (g := mkF m pc Ls (.int j :: .ref a :: rest)) rfl rfl hd t q) k
theorem AD.set {j : Int32} {i : Nat} {x : UInt64} (F : AD Z h a vs) (hj : j.toNatClampNeg = i) (hi : i < vs.length) (W : Wr h h' a j.toNatClampNeg (.double x)) : AD Z h' a (vs.set i x) := by
  obtain ⟨cl, A, S, hl, H⟩ := F
  refine ⟨_, A.same W, by rw [sz_set, S, List.length_set], by rw [List.length_set]; exact hl, fun k hk => ?_⟩
  rw [List.length_set] at hk
  rw [hj]
  by_cases u : i = k
  · subst u; simp [Cell.setSlot, S, hi]
  · have q := H k hk
    simp only [Cell.setSlot, List.getD_eq_getElem?_getD] at q ⊢
    rw [Array.getElem?_setIfInBounds_ne u, List.getElem?_set_ne u]; exact q
theorem g_dastore (X : Wk p l e R s m args below meth c n0 T h cells slots) (hx : p.tables.exec = Jvm.exec) (hZ : Z.Warmed39 s.vm) (F : AD Z h a vs) {j : Int32} {i : Nat} (hj : j.toInt = (i : Int)) (hi : i < vs.length) (hna : n0 ≤ a) {x : UInt64} (hp : pc + 1 = pc') (hd : decode c.code pc = .ok (.dastore, 1))
    (k : ∀ T' h', Wk p l e R s m args below meth c n0 T' h' cells slots → Wr h h' a j.toNatClampNeg (.double x) → AD Z h' a (vs.set i x) → Go p e below s n0 Q nc ns (T'.setTop (mkF m pc' Ls rest))) : Go p e below s n0 Q nc ns (T.setTop (mkF m pc Ls (.double x :: .int j :: .ref a :: rest))) := by
  subst hp; obtain ⟨locs, X, N, eT⟩ := X
  obtain ⟨e1, e2⟩ := own_idx hj
  obtain ⟨cl, A, S, hl, H⟩ := F
  have hin : ¬ (j < 0 ∨ cl.slots.size ≤ j.toNatClampNeg) := by rw [e1, S]; intro q; rcases q with q | q; exact e2 q; omega
  obtain ⟨T', h', X', e', W', b⟩ := stD X hx hZ eT A (x := x) hin (g := mkF m pc Ls (.double x :: .int j :: .ref a :: rest)) rfl rfl hd
  exact go_back b (k T' h' ⟨_, X', Fr.snoc X' N hna, e'⟩ W' (AD.set ⟨cl, A, S, hl, H⟩ e1 hi W'))
theorem g_newD (X : Wk p l e R s m args below meth c n0 T h cells slots) (hx : p.tables.exec = Jvm.exec) (hZ : Z.Warmed39 s.vm) (w : (Jvm.Cond.arrayClass .double).before a0 Z = true) {n : Int32} {N : Nat} (hn : n.toInt = (N : Int)) {cap : Nat} (hcap : N ≤ cap) (hb : cap * 8 ≤ 536870912) (hp : pc + 2 = pc') (hd : decode c.code pc = .ok (.newarray .double, 2)) (hc : cells + 1 ≤ R.cells) (hl : slots + cap ≤ R.slots)
    (k : ∀ T' h' a, a = h.size → Wk p l e R s m args below meth c n0 T' h' (cells + 1) (slots + cap) → Ext h h' → AD Z h' a (List.replicate N 0) → Go p e below s n0 Q nc ns (T'.setTop (mkF m pc' Ls (.ref a :: rest)))) : Go p e below s n0 Q nc ns (T.setTop (mkF m pc Ls (.int n :: rest))) := by
  subst hp; obtain ⟨locs, X, Nf, eT⟩ := X
  obtain ⟨e1, e2⟩ := own_idx hn
  obtain ⟨T', h', cA, X', e', E', A', b⟩ := newP X hx hZ (aty := .double) w eT (g := mkF m pc Ls (.int n :: rest)) rfl hd rfl e2 (cap := cap) (by rw [e1]; exact hcap) hb hc hl
  obtain ⟨cl, A, -, S, -, H, -⟩ := Arv.new A' e2
  refine go_back b (k T' h' h.size rfl ⟨_, X', Nf, e'⟩ E' ⟨cl, A, by rw [S, e1, List.length_replicate], by rw [List.length_replicate]; omega, fun i hi => ?_⟩)
  rw [List.length_replicate] at hi
  rw [H i (by rw [S, e1]; exact hi)]
  simp only [List.getD_eq_getElem?_getD, List.getElem?_replicate, hi, if_true, List.getElem?_nil, Option.getD_none, Option.getD_some]; rfl
theorem g_alenD (X : Wk p l e R s m args below meth c n0 T h cells slots) (hx : p.tables.exec = Jvm.exec) (hZ : Z.Warmed39 s.vm) (F : AD Z h a vs) {z : Int32} (hz : z.toInt = (vs.length : Int)) (hp : pc + 1 = pc') (hd : decode c.code pc = .ok (.arraylength, 1))
    (k : Go p e below s n0 Q nc ns (T.setTop (mkF m pc' Ls (.int z :: rest)))) : Go p e below s n0 Q nc ns (T.setTop (mkF m pc Ls (.ref a :: rest))) := by
  subst hp; obtain ⟨locs, X, N, eT⟩ := X
  obtain ⟨cl, A, S, -, H⟩ := F
  obtain ⟨e1, e2⟩ := own_idx hz
  have e3 : cl.slots.size.toInt32 = z := len_of (by rw [S, e1]) e2
  refine go_back (fun t q => X.arraylength hx (by rw [eT]; exact A.1) (State.isArrayOf_alike hZ.alike A.2.1) (g := mkF m pc Ls (.ref a :: rest)) rfl rfl hd t ?_) k
  rw [e3]; exact q
end OwnArr
set_option maxRecDepth 65536 in
set_option maxHeartbeats 40000000 in
theorem rm1_1 (l : Launch) (Z : State) (a0 : Array Value) (hw : ∀ d ∈ tables_1, d.before a0 Z = true) (ws : List Jvm.Cond) (n0 : Nat) (a' b' c' d' : UInt64) (h0 : Heap) (hn0 : n0 ≤ h0.size)  :
    Con l Z n0 (⟨"com/example/measured_traces/measuredtraces/DerivativesEstimatePinLaw", "pick", "(IDDDD)[D"⟩ : MethodName) method_2_code 9 (some (.array .double)) ws ({ frames := 0, cells := 1, slots := 4, locals := 0 } : Room) #[(.int (1 : Int32)), (.double a'), (.double b'), (.double c'), (.double d')] h0 (fun v h => ∃ aa : Addr, v = some (.ref aa) ∧ n0 ≤ aa ∧ h0.size ≤ aa ∧ Keep h0 h [] ∧ AD Z h aa [a']) := by
  refine con_start (plainFor_of_name (by first | (simp [plainName, overriddenIn]; done) | decide +kernel)) (fr0 := fun m => mkF m 0 #[.val (.int (1 : Int32)), .val (.double a'), .second, .val (.double b'), .second, .val (.double c'), .second, .val (.double d'), .second] []) (fun m => by first | (simp [entryFrame, mkF, argsToLocals, Value.category]; done) | rfl) ?_
  intro p e s m below meth c T0 hx hZ hby hml hown hnm hret hlk X0
  replace hown : s.vm.findClass "com/example/measured_traces/measuredtraces/DerivativesEstimatePinLaw" = some m.cls := hown
  replace hml : c.maxLocals = 9 := hml
  refine g_iloadN X0 hx (pc' := 1) rfl (hb hby d1_0) rfl ?_
  refine g_iconst X0 hx (pc' := 2) (z := (1 : Int32)) rfl (hb hby d1_1) rfl ?_
  refine g_icmpN X0 hx (pcN := 5) (hb hby d1_2) rfl (show ¬ (¬ (1 : Int32) = (1 : Int32)) from by decide) ?_
  refine g_iconst X0 hx (pc' := 6) (z := (1 : Int32)) rfl (hb hby d1_5) rfl ?_
  refine g_newD X0 hx hZ (hw _ (List.mem_of_getElem? (i := 4) rfl)) (N := 1) (by decide) (cap := 1) (Nat.le_refl _) (by decide) (pc' := 8) rfl (hb hby d1_6) (by decide) (by decide) (fun T1 h1 a1 ha1 X1 E1 N1 => ?_)
  have sz1 : h0.size ≤ a1 := by rw [ha1]; exact (Keep.refl h0 []).1
  have f2 := (Keep.refl h0 []).ext E1
  have G_a1 : n0 ≤ a1 := by rw [ha1]; exact hn0
  have Zs1 : n0 ≤ h1.size := Nat.le_trans hn0 E1.1
  have V1 : AD Z h1 a1 [(0 : UInt64)] := N1
  refine g_dup X1 hx (pc' := 9) rfl (hb hby d1_8) rfl ?_
  refine g_iconst X1 hx (pc' := 10) (z := (0 : Int32)) rfl (hb hby d1_9) rfl ?_
  refine g_dloadN X1 hx (pc' := 11) rfl (hb hby d1_10) rfl ?_
  refine g_dastore X1 hx hZ V1 (i := 0) (by decide) (show (0 : Nat) < 1 by decide) G_a1 (pc' := 12) rfl (hb hby d1_11) (fun T3 h3 X3 W3 N3 => ?_)
  have f4 := (by have q := (Keep.of_wr W3).1; exact Nat.le_trans Zs1 q : n0 ≤ h3.size)
  have f5 := f2.wr W3 (Or.inr sz1)
  have V3 : AD Z h3 a1 [a'] := N3
  exact g_ret X3 hx hlk hret rfl (Or.inr (Or.inr (Or.inr (Or.inr ⟨rfl, rfl, rfl⟩)))) (hb hby d1_12) (by decide) (by decide) (⟨a1, rfl, G_a1, sz1, f5, V3⟩)
set_option maxRecDepth 65536 in
set_option maxHeartbeats 40000000 in
theorem rm1_2 (l : Launch) (Z : State) (a0 : Array Value) (hw : ∀ d ∈ tables_1, d.before a0 Z = true) (ws : List Jvm.Cond) (n0 : Nat) (a' b' c' d' : UInt64) (h0 : Heap) (hn0 : n0 ≤ h0.size)  :
    Con l Z n0 (⟨"com/example/measured_traces/measuredtraces/DerivativesEstimatePinLaw", "pick", "(IDDDD)[D"⟩ : MethodName) method_2_code 9 (some (.array .double)) ws ({ frames := 0, cells := 1, slots := 4, locals := 0 } : Room) #[(.int (2 : Int32)), (.double a'), (.double b'), (.double c'), (.double d')] h0 (fun v h => ∃ aa : Addr, v = some (.ref aa) ∧ n0 ≤ aa ∧ h0.size ≤ aa ∧ Keep h0 h [] ∧ AD Z h aa [a', b']) := by
  refine con_start (plainFor_of_name (by first | (simp [plainName, overriddenIn]; done) | decide +kernel)) (fr0 := fun m => mkF m 0 #[.val (.int (2 : Int32)), .val (.double a'), .second, .val (.double b'), .second, .val (.double c'), .second, .val (.double d'), .second] []) (fun m => by first | (simp [entryFrame, mkF, argsToLocals, Value.category]; done) | rfl) ?_
  intro p e s m below meth c T0 hx hZ hby hml hown hnm hret hlk X0
  replace hown : s.vm.findClass "com/example/measured_traces/measuredtraces/DerivativesEstimatePinLaw" = some m.cls := hown
  replace hml : c.maxLocals = 9 := hml
  refine g_iloadN X0 hx (pc' := 1) rfl (hb hby d1_0) rfl ?_
  refine g_iconst X0 hx (pc' := 2) (z := (1 : Int32)) rfl (hb hby d1_1) rfl ?_
  refine g_icmpY X0 hx (pcY := 13) (hb hby d1_2) (by decide) (by decide) (show ¬ (2 : Int32) = (1 : Int32) from by decide) ?_
  refine g_iloadN X0 hx (pc' := 14) rfl (hb hby d1_13) rfl ?_
  refine g_iconst X0 hx (pc' := 15) (z := (2 : Int32)) rfl (hb hby d1_14) rfl ?_
  refine g_icmpN X0 hx (pcN := 18) (hb hby d1_15) rfl (show ¬ (¬ (2 : Int32) = (2 : Int32)) from by decide) ?_
  refine g_iconst X0 hx (pc' := 19) (z := (2 : Int32)) rfl (hb hby d1_18) rfl ?_
  refine g_newD X0 hx hZ (hw _ (List.mem_of_getElem? (i := 4) rfl)) (N := 2) (by decide) (cap := 2) (Nat.le_refl _) (by decide) (pc' := 21) rfl (hb hby d1_19) (by decide) (by decide) (fun T6 h6 a6 ha6 X6 E6 N6 => ?_)
  have sz6 : h0.size ≤ a6 := by rw [ha6]; exact (Keep.refl h0 []).1
  have f7 := (Keep.refl h0 []).ext E6
  have G_a6 : n0 ≤ a6 := by rw [ha6]; exact hn0
  have Zs6 : n0 ≤ h6.size := Nat.le_trans hn0 E6.1
  have V6 : AD Z h6 a6 [(0 : UInt64), (0 : UInt64)] := N6
  refine g_dup X6 hx (pc' := 22) rfl (hb hby d1_21) rfl ?_
  refine g_iconst X6 hx (pc' := 23) (z := (0 : Int32)) rfl (hb hby d1_22) rfl ?_
  refine g_dloadN X6 hx (pc' := 24) rfl (hb hby d1_23) rfl ?_
  refine g_dastore X6 hx hZ V6 (i := 0) (by decide) (show (0 : Nat) < 2 by decide) G_a6 (pc' := 25) rfl (hb hby d1_24) (fun T8 h8 X8 W8 N8 => ?_)
  have f9 := (by have q := (Keep.of_wr W8).1; exact Nat.le_trans Zs6 q : n0 ≤ h8.size)
  have f10 := f7.wr W8 (Or.inr sz6)
  have V8 : AD Z h8 a6 [a', (0 : UInt64)] := N8
  refine g_dup X8 hx (pc' := 26) rfl (hb hby d1_25) rfl ?_
  refine g_iconst X8 hx (pc' := 27) (z := (1 : Int32)) rfl (hb hby d1_26) rfl ?_
  refine g_dloadN X8 hx (pc' := 28) rfl (hb hby d1_27) rfl ?_
  refine g_dastore X8 hx hZ V8 (i := 1) (by decide) (show (1 : Nat) < 2 by decide) G_a6 (pc' := 29) rfl (hb hby d1_28) (fun T11 h11 X11 W11 N11 => ?_)
  have f12 := (by have q := (Keep.of_wr W11).1; exact Nat.le_trans f9 q : n0 ≤ h11.size)
  have f13 := f10.wr W11 (Or.inr sz6)
  have V11 : AD Z h11 a6 [a', b'] := N11
  exact g_ret X11 hx hlk hret rfl (Or.inr (Or.inr (Or.inr (Or.inr ⟨rfl, rfl, rfl⟩)))) (hb hby d1_29) (by decide) (by decide) (⟨a6, rfl, G_a6, sz6, f13, V11⟩)
set_option maxRecDepth 65536 in
set_option maxHeartbeats 40000000 in
theorem rm1_3 (l : Launch) (Z : State) (a0 : Array Value) (hw : ∀ d ∈ tables_1, d.before a0 Z = true) (ws : List Jvm.Cond) (n0 : Nat) (a' b' c' d' : UInt64) (h0 : Heap) (hn0 : n0 ≤ h0.size)  :
    Con l Z n0 (⟨"com/example/measured_traces/measuredtraces/DerivativesEstimatePinLaw", "pick", "(IDDDD)[D"⟩ : MethodName) method_2_code 9 (some (.array .double)) ws ({ frames := 0, cells := 1, slots := 4, locals := 0 } : Room) #[(.int (3 : Int32)), (.double a'), (.double b'), (.double c'), (.double d')] h0 (fun v h => ∃ aa : Addr, v = some (.ref aa) ∧ n0 ≤ aa ∧ h0.size ≤ aa ∧ Keep h0 h [] ∧ AD Z h aa [a', b', c']) := by
  refine con_start (plainFor_of_name (by first | (simp [plainName, overriddenIn]; done) | decide +kernel)) (fr0 := fun m => mkF m 0 #[.val (.int (3 : Int32)), .val (.double a'), .second, .val (.double b'), .second, .val (.double c'), .second, .val (.double d'), .second] []) (fun m => by first | (simp [entryFrame, mkF, argsToLocals, Value.category]; done) | rfl) ?_
  intro p e s m below meth c T0 hx hZ hby hml hown hnm hret hlk X0
  replace hown : s.vm.findClass "com/example/measured_traces/measuredtraces/DerivativesEstimatePinLaw" = some m.cls := hown
  replace hml : c.maxLocals = 9 := hml
  refine g_iloadN X0 hx (pc' := 1) rfl (hb hby d1_0) rfl ?_
  refine g_iconst X0 hx (pc' := 2) (z := (1 : Int32)) rfl (hb hby d1_1) rfl ?_
  refine g_icmpY X0 hx (pcY := 13) (hb hby d1_2) (by decide) (by decide) (show ¬ (3 : Int32) = (1 : Int32) from by decide) ?_
  refine g_iloadN X0 hx (pc' := 14) rfl (hb hby d1_13) rfl ?_
  refine g_iconst X0 hx (pc' := 15) (z := (2 : Int32)) rfl (hb hby d1_14) rfl ?_
  refine g_icmpY X0 hx (pcY := 30) (hb hby d1_15) (by decide) (by decide) (show ¬ (3 : Int32) = (2 : Int32) from by decide) ?_
  refine g_iloadN X0 hx (pc' := 31) rfl (hb hby d1_30) rfl ?_
  refine g_iconst X0 hx (pc' := 32) (z := (3 : Int32)) rfl (hb hby d1_31) rfl ?_
  refine g_icmpN X0 hx (pcN := 35) (hb hby d1_32) rfl (show ¬ (¬ (3 : Int32) = (3 : Int32)) from by decide) ?_
  refine g_iconst X0 hx (pc' := 36) (z := (3 : Int32)) rfl (hb hby d1_35) rfl ?_
  refine g_newD X0 hx hZ (hw _ (List.mem_of_getElem? (i := 4) rfl)) (N := 3) (by decide) (cap := 3) (Nat.le_refl _) (by decide) (pc' := 38) rfl (hb hby d1_36) (by decide) (by decide) (fun T14 h14 a14 ha14 X14 E14 N14 => ?_)
  have sz14 : h0.size ≤ a14 := by rw [ha14]; exact (Keep.refl h0 []).1
  have f15 := (Keep.refl h0 []).ext E14
  have G_a14 : n0 ≤ a14 := by rw [ha14]; exact hn0
  have Zs14 : n0 ≤ h14.size := Nat.le_trans hn0 E14.1
  have V14 : AD Z h14 a14 [(0 : UInt64), (0 : UInt64), (0 : UInt64)] := N14
  refine g_dup X14 hx (pc' := 39) rfl (hb hby d1_38) rfl ?_
  refine g_iconst X14 hx (pc' := 40) (z := (0 : Int32)) rfl (hb hby d1_39) rfl ?_
  refine g_dloadN X14 hx (pc' := 41) rfl (hb hby d1_40) rfl ?_
  refine g_dastore X14 hx hZ V14 (i := 0) (by decide) (show (0 : Nat) < 3 by decide) G_a14 (pc' := 42) rfl (hb hby d1_41) (fun T16 h16 X16 W16 N16 => ?_)
  have f17 := (by have q := (Keep.of_wr W16).1; exact Nat.le_trans Zs14 q : n0 ≤ h16.size)
  have f18 := f15.wr W16 (Or.inr sz14)
  have V16 : AD Z h16 a14 [a', (0 : UInt64), (0 : UInt64)] := N16
  refine g_dup X16 hx (pc' := 43) rfl (hb hby d1_42) rfl ?_
  refine g_iconst X16 hx (pc' := 44) (z := (1 : Int32)) rfl (hb hby d1_43) rfl ?_
  refine g_dloadN X16 hx (pc' := 45) rfl (hb hby d1_44) rfl ?_
  refine g_dastore X16 hx hZ V16 (i := 1) (by decide) (show (1 : Nat) < 3 by decide) G_a14 (pc' := 46) rfl (hb hby d1_45) (fun T19 h19 X19 W19 N19 => ?_)
  have f20 := (by have q := (Keep.of_wr W19).1; exact Nat.le_trans f17 q : n0 ≤ h19.size)
  have f21 := f18.wr W19 (Or.inr sz14)
  have V19 : AD Z h19 a14 [a', b', (0 : UInt64)] := N19
  refine g_dup X19 hx (pc' := 47) rfl (hb hby d1_46) rfl ?_
  refine g_iconst X19 hx (pc' := 48) (z := (2 : Int32)) rfl (hb hby d1_47) rfl ?_
  refine g_dload X19 hx (pc' := 50) rfl (hb hby d1_48) rfl ?_
  refine g_dastore X19 hx hZ V19 (i := 2) (by decide) (show (2 : Nat) < 3 by decide) G_a14 (pc' := 51) rfl (hb hby d1_50) (fun T22 h22 X22 W22 N22 => ?_)
  have f23 := (by have q := (Keep.of_wr W22).1; exact Nat.le_trans f20 q : n0 ≤ h22.size)
  have f24 := f21.wr W22 (Or.inr sz14)
  have V22 : AD Z h22 a14 [a', b', c'] := N22
  exact g_ret X22 hx hlk hret rfl (Or.inr (Or.inr (Or.inr (Or.inr ⟨rfl, rfl, rfl⟩)))) (hb hby d1_51) (by decide) (by decide) (⟨a14, rfl, G_a14, sz14, f24, V22⟩)
set_option maxRecDepth 65536 in
set_option maxHeartbeats 40000000 in
theorem rm1_4 (l : Launch) (Z : State) (a0 : Array Value) (hw : ∀ d ∈ tables_1, d.before a0 Z = true) (ws : List Jvm.Cond) (n0 : Nat) (a' b' c' d' : UInt64) (h0 : Heap) (hn0 : n0 ≤ h0.size)  :
    Con l Z n0 (⟨"com/example/measured_traces/measuredtraces/DerivativesEstimatePinLaw", "pick", "(IDDDD)[D"⟩ : MethodName) method_2_code 9 (some (.array .double)) ws ({ frames := 0, cells := 1, slots := 4, locals := 0 } : Room) #[(.int (4 : Int32)), (.double a'), (.double b'), (.double c'), (.double d')] h0 (fun v h => ∃ aa : Addr, v = some (.ref aa) ∧ n0 ≤ aa ∧ h0.size ≤ aa ∧ Keep h0 h [] ∧ AD Z h aa [a', b', c', d']) := by
  refine con_start (plainFor_of_name (by first | (simp [plainName, overriddenIn]; done) | decide +kernel)) (fr0 := fun m => mkF m 0 #[.val (.int (4 : Int32)), .val (.double a'), .second, .val (.double b'), .second, .val (.double c'), .second, .val (.double d'), .second] []) (fun m => by first | (simp [entryFrame, mkF, argsToLocals, Value.category]; done) | rfl) ?_
  intro p e s m below meth c T0 hx hZ hby hml hown hnm hret hlk X0
  replace hown : s.vm.findClass "com/example/measured_traces/measuredtraces/DerivativesEstimatePinLaw" = some m.cls := hown
  replace hml : c.maxLocals = 9 := hml
  refine g_iloadN X0 hx (pc' := 1) rfl (hb hby d1_0) rfl ?_
  refine g_iconst X0 hx (pc' := 2) (z := (1 : Int32)) rfl (hb hby d1_1) rfl ?_
  refine g_icmpY X0 hx (pcY := 13) (hb hby d1_2) (by decide) (by decide) (show ¬ (4 : Int32) = (1 : Int32) from by decide) ?_
  refine g_iloadN X0 hx (pc' := 14) rfl (hb hby d1_13) rfl ?_
  refine g_iconst X0 hx (pc' := 15) (z := (2 : Int32)) rfl (hb hby d1_14) rfl ?_
  refine g_icmpY X0 hx (pcY := 30) (hb hby d1_15) (by decide) (by decide) (show ¬ (4 : Int32) = (2 : Int32) from by decide) ?_
  refine g_iloadN X0 hx (pc' := 31) rfl (hb hby d1_30) rfl ?_
  refine g_iconst X0 hx (pc' := 32) (z := (3 : Int32)) rfl (hb hby d1_31) rfl ?_
  refine g_icmpY X0 hx (pcY := 52) (hb hby d1_32) (by decide) (by decide) (show ¬ (4 : Int32) = (3 : Int32) from by decide) ?_
  refine g_iconst X0 hx (pc' := 53) (z := (4 : Int32)) rfl (hb hby d1_52) rfl ?_
  refine g_newD X0 hx hZ (hw _ (List.mem_of_getElem? (i := 4) rfl)) (N := 4) (by decide) (cap := 4) (Nat.le_refl _) (by decide) (pc' := 55) rfl (hb hby d1_53) (by decide) (by decide) (fun T25 h25 a25 ha25 X25 E25 N25 => ?_)
  have sz25 : h0.size ≤ a25 := by rw [ha25]; exact (Keep.refl h0 []).1
  have f26 := (Keep.refl h0 []).ext E25
  have G_a25 : n0 ≤ a25 := by rw [ha25]; exact hn0
  have Zs25 : n0 ≤ h25.size := Nat.le_trans hn0 E25.1
  have V25 : AD Z h25 a25 [(0 : UInt64), (0 : UInt64), (0 : UInt64), (0 : UInt64)] := N25
  refine g_dup X25 hx (pc' := 56) rfl (hb hby d1_55) rfl ?_
  refine g_iconst X25 hx (pc' := 57) (z := (0 : Int32)) rfl (hb hby d1_56) rfl ?_
  refine g_dloadN X25 hx (pc' := 58) rfl (hb hby d1_57) rfl ?_
  refine g_dastore X25 hx hZ V25 (i := 0) (by decide) (show (0 : Nat) < 4 by decide) G_a25 (pc' := 59) rfl (hb hby d1_58) (fun T27 h27 X27 W27 N27 => ?_)
  have f28 := (by have q := (Keep.of_wr W27).1; exact Nat.le_trans Zs25 q : n0 ≤ h27.size)
  have f29 := f26.wr W27 (Or.inr sz25)
  have V27 : AD Z h27 a25 [a', (0 : UInt64), (0 : UInt64), (0 : UInt64)] := N27
  refine g_dup X27 hx (pc' := 60) rfl (hb hby d1_59) rfl ?_
  refine g_iconst X27 hx (pc' := 61) (z := (1 : Int32)) rfl (hb hby d1_60) rfl ?_
  refine g_dloadN X27 hx (pc' := 62) rfl (hb hby d1_61) rfl ?_
  refine g_dastore X27 hx hZ V27 (i := 1) (by decide) (show (1 : Nat) < 4 by decide) G_a25 (pc' := 63) rfl (hb hby d1_62) (fun T30 h30 X30 W30 N30 => ?_)
  have f31 := (by have q := (Keep.of_wr W30).1; exact Nat.le_trans f28 q : n0 ≤ h30.size)
  have f32 := f29.wr W30 (Or.inr sz25)
  have V30 : AD Z h30 a25 [a', b', (0 : UInt64), (0 : UInt64)] := N30
  refine g_dup X30 hx (pc' := 64) rfl (hb hby d1_63) rfl ?_
  refine g_iconst X30 hx (pc' := 65) (z := (2 : Int32)) rfl (hb hby d1_64) rfl ?_
  refine g_dload X30 hx (pc' := 67) rfl (hb hby d1_65) rfl ?_
  refine g_dastore X30 hx hZ V30 (i := 2) (by decide) (show (2 : Nat) < 4 by decide) G_a25 (pc' := 68) rfl (hb hby d1_67) (fun T33 h33 X33 W33 N33 => ?_)
  have f34 := (by have q := (Keep.of_wr W33).1; exact Nat.le_trans f31 q : n0 ≤ h33.size)
  have f35 := f32.wr W33 (Or.inr sz25)
  have V33 : AD Z h33 a25 [a', b', c', (0 : UInt64)] := N33
  refine g_dup X33 hx (pc' := 69) rfl (hb hby d1_68) rfl ?_
  refine g_iconst X33 hx (pc' := 70) (z := (3 : Int32)) rfl (hb hby d1_69) rfl ?_
  refine g_dload X33 hx (pc' := 72) rfl (hb hby d1_70) rfl ?_
  refine g_dastore X33 hx hZ V33 (i := 3) (by decide) (show (3 : Nat) < 4 by decide) G_a25 (pc' := 73) rfl (hb hby d1_72) (fun T36 h36 X36 W36 N36 => ?_)
  have f37 := (by have q := (Keep.of_wr W36).1; exact Nat.le_trans f34 q : n0 ≤ h36.size)
  have f38 := f35.wr W36 (Or.inr sz25)
  have V36 : AD Z h36 a25 [a', b', c', d'] := N36
  exact g_ret X36 hx hlk hret rfl (Or.inr (Or.inr (Or.inr (Or.inr ⟨rfl, rfl, rfl⟩)))) (hb hby d1_73) (by decide) (by decide) (⟨a25, rfl, G_a25, sz25, f38, V36⟩)
set_option maxRecDepth 65536 in
set_option maxHeartbeats 40000000 in
theorem rm2 (l : Launch) (Z : State) (a0 : Array Value) (hw : ∀ d ∈ tables_1, d.before a0 Z = true) (ws : List Jvm.Cond) (n0 : Nat) (p' q' r' t' : Int64) (h0 : Heap) (hn0 : n0 ≤ h0.size)  :
    Con l Z n0 (⟨"com/example/measured_traces/measuredtraces/DerivativesEstimatePinLaw", "val", "(JJJJ)D"⟩ : MethodName) method_3_code 8 (some .double) ws ({ frames := 0, cells := 0, slots := 0, locals := 0 } : Room) #[(.long p'), (.long q'), (.long r'), (.long t')] h0 (fun v h => v = some (.double (FP.l2d (p' * t' * t' + q' * t' + r'))) ∧ h = h0) := by
  refine con_start (plainFor_of_name (by first | (simp [plainName, overriddenIn]; done) | decide +kernel)) (fr0 := fun m => mkF m 0 #[.val (.long p'), .second, .val (.long q'), .second, .val (.long r'), .second, .val (.long t'), .second] []) (fun m => by first | (simp [entryFrame, mkF, argsToLocals, Value.category]; done) | rfl) ?_
  intro p e s m below meth c T0 hx hZ hby hml hown hnm hret hlk X0
  replace hown : s.vm.findClass "com/example/measured_traces/measuredtraces/DerivativesEstimatePinLaw" = some m.cls := hown
  replace hml : c.maxLocals = 8 := hml
  refine g_lloadN X0 hx (pc' := 1) rfl (hb hby d2_0) rfl ?_
  refine g_lload X0 hx (pc' := 3) rfl (hb hby d2_1) rfl ?_
  refine g_lmul X0 hx (pc' := 4) rfl (hb hby d2_3) ?_
  refine g_lload X0 hx (pc' := 6) rfl (hb hby d2_4) rfl ?_
  refine g_lmul X0 hx (pc' := 7) rfl (hb hby d2_6) ?_
  refine g_lloadN X0 hx (pc' := 8) rfl (hb hby d2_7) rfl ?_
  refine g_lload X0 hx (pc' := 10) rfl (hb hby d2_8) rfl ?_
  refine g_lmul X0 hx (pc' := 11) rfl (hb hby d2_10) ?_
  refine g_ladd X0 hx (pc' := 12) rfl (hb hby d2_11) ?_
  refine g_lload X0 hx (pc' := 14) rfl (hb hby d2_12) rfl ?_
  refine g_ladd X0 hx (pc' := 15) rfl (hb hby d2_14) ?_
  refine g_l2d X0 hx (pc' := 16) rfl (hb hby d2_15) ?_
  exact g_retD X0 hx hlk hret (hb hby d2_16) (by decide) (by decide) (⟨rfl, rfl⟩)
set_option maxRecDepth 65536 in
set_option maxHeartbeats 40000000 in
theorem rm4 (l : Launch) (Z : State) (a0 : Array Value) (hw : ∀ d ∈ tables_1, d.before a0 Z = true) (ws : List Jvm.Cond) (n0 : Nat) (g : UInt64) (w' : Int64) (s' : Int) (h0 : Heap) (hn0 : n0 ≤ h0.size) (fg : FP.Core.DFin g) (hs : w'.toInt = s') (b1 : -100000 ≤ s') (b2 : s' ≤ 100000) (ha : Ap (dv g) (s' * oneU) (33554432 * pw 1022)) :
    Con l Z n0 (⟨"com/example/measured_traces/measuredtraces/DerivativesEstimatePinLaw", "near", "(DJ)Z"⟩ : MethodName) method_4_code 8 (some .boolean) ws ({ frames := 0, cells := 0, slots := 0, locals := 0 } : Room) #[(.double g), (.long w')] h0 (fun v h => v = some (.int 1) ∧ h = h0) := by
  refine con_start (plainFor_of_name (by first | (simp [plainName, overriddenIn]; done) | decide +kernel)) (fr0 := fun m => mkF m 0 #[.val (.double g), .second, .val (.long w'), .second, .unset, .unset, .unset, .unset] []) (fun m => by first | (simp [entryFrame, mkF, argsToLocals, Value.category]; done) | rfl) ?_
  intro p e s m below meth c T0 hx hZ hby hml hown hnm hret hlk X0
  replace hown : s.vm.findClass "com/example/measured_traces/measuredtraces/DerivativesEstimatePinLaw" = some m.cls := hown
  replace hml : c.maxLocals = 8 := hml
  have nr := own_near fg hs b1 b2 ha
  refine g_dloadN X0 hx (pc' := 1) rfl (hb hby d4_0) rfl ?_
  refine g_lloadN X0 hx (pc' := 2) rfl (hb hby d4_1) rfl ?_
  refine g_l2d X0 hx (pc' := 3) rfl (hb hby d4_2) ?_
  refine g_dsub X0 hx (pc' := 4) (z := (FP.dsub g (FP.l2d w'))) rfl (hb hby d4_3) nr.1 rfl ?_
  refine g_dstore X0 hx (pc' := 6) rfl (hb hby d4_4) (l' := #[.val (.double g), .second, .val (.long w'), .second, .val (.double (FP.dsub g (FP.l2d w'))), .second, .unset, .unset]) rfl ?_
  refine g_ldc2D X0 hx hZ hown (hw _ (List.mem_of_getElem? (i := 16) rfl)) (pc' := 9) (v := (4517110426252607488 : UInt64)) rfl (hb hby d4_6) ?_
  refine g_dstore X0 hx (pc' := 11) rfl (hb hby d4_9) (l' := #[.val (.double g), .second, .val (.long w'), .second, .val (.double (FP.dsub g (FP.l2d w'))), .second, .val (.double (4517110426252607488 : UInt64)), .second]) rfl ?_
  refine g_dload X0 hx (pc' := 13) rfl (hb hby d4_11) rfl ?_
  refine g_dload X0 hx (pc' := 15) rfl (hb hby d4_13) rfl ?_
  refine g_dcmp X0 hx (pc' := 16) (z := (-1 : Int32)) rfl (hb hby d4_15) nr.2.1 ?_
  refine g_ifN X0 hx (pcN := 19) (hb hby d4_16) rfl (show ¬ (¬ (-1 : Int32) < 0) from by decide) ?_
  refine g_dload X0 hx (pc' := 21) rfl (hb hby d4_19) rfl ?_
  refine g_dneg X0 hx (pc' := 22) rfl (hb hby d4_21) ?_
  refine g_dload X0 hx (pc' := 24) rfl (hb hby d4_22) rfl ?_
  refine g_dcmp X0 hx (pc' := 25) (z := (-1 : Int32)) rfl (hb hby d4_24) nr.2.2 ?_
  refine g_ifN X0 hx (pcN := 28) (hb hby d4_25) rfl (show ¬ (¬ (-1 : Int32) < 0) from by decide) ?_
  refine g_iconst X0 hx (pc' := 29) (z := (1 : Int32)) rfl (hb hby d4_28) rfl ?_
  refine g_goto X0 hx (pc' := 33) (hb hby d4_29) (by decide) (by decide) ?_
  exact g_retZ X0 hx hlk hret (by first | exact Or.inl rfl | exact Or.inr rfl) (hb hby d4_33) (by decide) (by decide) (⟨rfl, rfl⟩)
set_option maxRecDepth 65536 in
set_option maxHeartbeats 40000000 in
theorem rm3_1 (l : Launch) (Z : State) (a0 : Array Value) (hw : ∀ d ∈ tables_1, d.before a0 Z = true) (ws : List Jvm.Cond) (n0 : Nat) (ta va : Addr) (t0 v0 : UInt64) (mt0 mv0 s0 : Int) (h0 : Heap) (hn0 : n0 ≤ h0.size) (At : AD Z h0 ta [t0]) (Av : AD Z h0 va [v0]) (yt0 : Dy mt0 1074 t0) (bt0 : mt0.natAbs ≤ 200) (yv0 : Dy mv0 1074 v0) (bv0 : mv0.natAbs ≤ 262144)  (bs0 : s0.natAbs ≤ 100000) :
    Con l Z n0 (⟨"com/example/measured_traces/measuredtraces/Derivatives", "estimate", "([D[D)[D"⟩ : MethodName) prog_25_method_2_code 15 (some (.array .double)) ws ({ frames := 0, cells := 1, slots := 4, locals := 0 } : Room) #[(.ref ta), (.ref va)] h0 (fun v h => ∃ da : Addr, v = some (.ref da) ∧ n0 ≤ da ∧ Keep h0 h [] ∧ ∃ y0 : UInt64, AD Z h da [y0] ∧ y0 = 0) := by
  refine con_start (plainFor_of_name (by first | (simp [plainName, overriddenIn]; done) | decide +kernel)) (fr0 := fun m => mkF m 0 #[.val (.ref ta), .val (.ref va), .unset, .unset, .unset, .unset, .unset, .unset, .unset, .unset, .unset, .unset, .unset, .unset, .unset] []) (fun m => by first | (simp [entryFrame, mkF, argsToLocals, Value.category]; done) | rfl) ?_
  intro p e s m below meth c T0 hx hZ hby hml hown hnm hret hlk X0
  replace hown : s.vm.findClass "com/example/measured_traces/measuredtraces/Derivatives" = some m.cls := hown
  replace hml : c.maxLocals = 15 := hml
  have cv0 : -262144 ≤ mv0 ∧ mv0 ≤ 262144 := by omega
  refine g_aloadN X0 hx (pc' := 1) rfl (hb hby d3_0) rfl rfl ?_
  refine g_alenD X0 hx hZ At (z := (1 : Int32)) rfl (pc' := 2) rfl (hb hby d3_1) ?_
  refine g_iconst X0 hx (pc' := 3) (z := (1 : Int32)) rfl (hb hby d3_2) rfl ?_
  refine g_isub X0 hx (pc' := 4) rfl (hb hby d3_3) ?_
  refine g_normI (z := (0 : Int32)) (by decide) ?_
  refine g_istoreN X0 hx (pc' := 5) rfl (hb hby d3_4) (l' := #[.val (.ref ta), .val (.ref va), .val (.int (0 : Int32)), .unset, .unset, .unset, .unset, .unset, .unset, .unset, .unset, .unset, .unset, .unset, .unset]) rfl ?_
  refine g_aloadN X0 hx (pc' := 6) rfl (hb hby d3_5) rfl rfl ?_
  refine g_alenD X0 hx hZ At (z := (1 : Int32)) rfl (pc' := 7) rfl (hb hby d3_6) ?_
  refine g_newD X0 hx hZ (hw _ (List.mem_of_getElem? (i := 4) rfl)) (N := 1) (by decide) (cap := 1) (Nat.le_refl _) (by decide) (pc' := 9) rfl (hb hby d3_7) (by decide) (by decide) (fun T39 h39 a39 ha39 X39 E39 N39 => ?_)
  have ne39_ta : ta ≠ a39 := by rw [ha39]; exact Nat.ne_of_lt At.lt
  have ne39_va : va ≠ a39 := by rw [ha39]; exact Nat.ne_of_lt Av.lt
  have f40 := At.ext E39
  have f41 := Av.ext E39
  have sz39 : h0.size ≤ a39 := by rw [ha39]; exact (Keep.refl h0 []).1
  have f42 := (Keep.refl h0 []).ext E39
  have G_a39 : n0 ≤ a39 := by rw [ha39]; exact hn0
  have Zs39 : n0 ≤ h39.size := Nat.le_trans hn0 E39.1
  have V39 : AD Z h39 a39 [(0 : UInt64)] := N39
  refine g_astoreN X39 hx (pc' := 10) rfl (hb hby d3_9) rfl (l' := #[.val (.ref ta), .val (.ref va), .val (.int (0 : Int32)), .val (.ref a39), .unset, .unset, .unset, .unset, .unset, .unset, .unset, .unset, .unset, .unset, .unset]) rfl ?_
  refine g_iloadN X39 hx (pc' := 11) rfl (hb hby d3_10) rfl ?_
  refine g_ifY X39 hx (pcY := 54) (hb hby d3_11) (by decide) (by decide) (show ¬ 0 < (0 : Int32) from by decide) ?_
  refine g_iconst X39 hx (pc' := 55) (z := (1 : Int32)) rfl (hb hby d3_54) rfl ?_
  refine g_istore X39 hx (pc' := 57) rfl (hb hby d3_55) (l' := #[.val (.ref ta), .val (.ref va), .val (.int (0 : Int32)), .val (.ref a39), .val (.int (1 : Int32)), .unset, .unset, .unset, .unset, .unset, .unset, .unset, .unset, .unset, .unset]) rfl ?_
  refine g_iload X39 hx (pc' := 59) rfl (hb hby d3_57) rfl ?_
  refine g_iloadN X39 hx (pc' := 60) rfl (hb hby d3_59) rfl ?_
  refine g_icmpY X39 hx (pcY := 166) (hb hby d3_60) (by decide) (by decide) (show ¬ (1 : Int32) < (0 : Int32) from by decide) ?_
  refine g_aloadN X39 hx (pc' := 167) rfl (hb hby d3_166) rfl rfl ?_
  exact g_ret X39 hx hlk hret rfl (Or.inr (Or.inr (Or.inr (Or.inr ⟨rfl, rfl, rfl⟩)))) (hb hby d3_167) (by decide) (by decide) (⟨a39, rfl, G_a39, f42, (0 : UInt64), V39, rfl⟩)
set_option maxRecDepth 65536 in
set_option maxHeartbeats 40000000 in
theorem rm3_2 (l : Launch) (Z : State) (a0 : Array Value) (hw : ∀ d ∈ tables_1, d.before a0 Z = true) (ws : List Jvm.Cond) (n0 : Nat) (ta va : Addr) (t0 v0 : UInt64) (mt0 mv0 s0 : Int) (t1 v1 : UInt64) (mt1 mv1 s1 : Int) (h0 : Heap) (hn0 : n0 ≤ h0.size) (At : AD Z h0 ta [t0, t1]) (Av : AD Z h0 va [v0, v1]) (yt0 : Dy mt0 1074 t0) (bt0 : mt0.natAbs ≤ 200) (yv0 : Dy mv0 1074 v0) (bv0 : mv0.natAbs ≤ 262144) (yt1 : Dy mt1 1074 t1) (bt1 : mt1.natAbs ≤ 200) (yv1 : Dy mv1 1074 v1) (bv1 : mv1.natAbs ≤ 262144) (o0 : 1 ≤ mt1 - mt0) (bs0 : s0.natAbs ≤ 100000) (bs1 : s1.natAbs ≤ 100000) (e0 : mv1 - mv0 = s0 * (mt1 - mt0)) (e1 : mv1 - mv0 = s1 * (mt1 - mt0)) :
    Con l Z n0 (⟨"com/example/measured_traces/measuredtraces/Derivatives", "estimate", "([D[D)[D"⟩ : MethodName) prog_25_method_2_code 15 (some (.array .double)) ws ({ frames := 0, cells := 1, slots := 4, locals := 0 } : Room) #[(.ref ta), (.ref va)] h0 (fun v h => ∃ da : Addr, v = some (.ref da) ∧ n0 ≤ da ∧ Keep h0 h [] ∧ ∃ y0 y1 : UInt64, AD Z h da [y0, y1] ∧ Dy s0 1074 y0 ∧ Dy s1 1074 y1) := by
  refine con_start (plainFor_of_name (by first | (simp [plainName, overriddenIn]; done) | decide +kernel)) (fr0 := fun m => mkF m 0 #[.val (.ref ta), .val (.ref va), .unset, .unset, .unset, .unset, .unset, .unset, .unset, .unset, .unset, .unset, .unset, .unset, .unset] []) (fun m => by first | (simp [entryFrame, mkF, argsToLocals, Value.category]; done) | rfl) ?_
  intro p e s m below meth c T0 hx hZ hby hml hown hnm hret hlk X0
  replace hown : s.vm.findClass "com/example/measured_traces/measuredtraces/Derivatives" = some m.cls := hown
  replace hml : c.maxLocals = 15 := hml
  have cv0 : -262144 ≤ mv0 ∧ mv0 ≤ 262144 := by omega
  have cv1 : -262144 ≤ mv1 ∧ mv1 ≤ 262144 := by omega
  refine g_aloadN X0 hx (pc' := 1) rfl (hb hby d3_0) rfl rfl ?_
  refine g_alenD X0 hx hZ At (z := (2 : Int32)) rfl (pc' := 2) rfl (hb hby d3_1) ?_
  refine g_iconst X0 hx (pc' := 3) (z := (1 : Int32)) rfl (hb hby d3_2) rfl ?_
  refine g_isub X0 hx (pc' := 4) rfl (hb hby d3_3) ?_
  refine g_normI (z := (1 : Int32)) (by decide) ?_
  refine g_istoreN X0 hx (pc' := 5) rfl (hb hby d3_4) (l' := #[.val (.ref ta), .val (.ref va), .val (.int (1 : Int32)), .unset, .unset, .unset, .unset, .unset, .unset, .unset, .unset, .unset, .unset, .unset, .unset]) rfl ?_
  refine g_aloadN X0 hx (pc' := 6) rfl (hb hby d3_5) rfl rfl ?_
  refine g_alenD X0 hx hZ At (z := (2 : Int32)) rfl (pc' := 7) rfl (hb hby d3_6) ?_
  refine g_newD X0 hx hZ (hw _ (List.mem_of_getElem? (i := 4) rfl)) (N := 2) (by decide) (cap := 2) (Nat.le_refl _) (by decide) (pc' := 9) rfl (hb hby d3_7) (by decide) (by decide) (fun T43 h43 a43 ha43 X43 E43 N43 => ?_)
  have ne43_ta : ta ≠ a43 := by rw [ha43]; exact Nat.ne_of_lt At.lt
  have ne43_va : va ≠ a43 := by rw [ha43]; exact Nat.ne_of_lt Av.lt
  have f44 := At.ext E43
  have f45 := Av.ext E43
  have sz43 : h0.size ≤ a43 := by rw [ha43]; exact (Keep.refl h0 []).1
  have f46 := (Keep.refl h0 []).ext E43
  have G_a43 : n0 ≤ a43 := by rw [ha43]; exact hn0
  have Zs43 : n0 ≤ h43.size := Nat.le_trans hn0 E43.1
  have V43 : AD Z h43 a43 [(0 : UInt64), (0 : UInt64)] := N43
  refine g_astoreN X43 hx (pc' := 10) rfl (hb hby d3_9) rfl (l' := #[.val (.ref ta), .val (.ref va), .val (.int (1 : Int32)), .val (.ref a43), .unset, .unset, .unset, .unset, .unset, .unset, .unset, .unset, .unset, .unset, .unset]) rfl ?_
  refine g_iloadN X43 hx (pc' := 11) rfl (hb hby d3_10) rfl ?_
  refine g_ifN X43 hx (pcN := 14) (hb hby d3_11) rfl (show ¬ (¬ 0 < (1 : Int32)) from by decide) ?_
  refine g_aloadN X43 hx (pc' := 15) rfl (hb hby d3_14) rfl rfl ?_
  refine g_iconst X43 hx (pc' := 16) (z := (0 : Int32)) rfl (hb hby d3_15) rfl ?_
  refine g_aloadN X43 hx (pc' := 17) rfl (hb hby d3_16) rfl rfl ?_
  refine g_iconst X43 hx (pc' := 18) (z := (1 : Int32)) rfl (hb hby d3_17) rfl ?_
  refine g_daload X43 hx hZ f45 (i := 1) (by decide) (show (1 : Nat) < 2 by decide) (v := v1) rfl (pc' := 19) rfl (hb hby d3_18) ?_
  refine g_aloadN X43 hx (pc' := 20) rfl (hb hby d3_19) rfl rfl ?_
  refine g_iconst X43 hx (pc' := 21) (z := (0 : Int32)) rfl (hb hby d3_20) rfl ?_
  refine g_daload X43 hx hZ f45 (i := 0) (by decide) (show (0 : Nat) < 2 by decide) (v := v0) rfl (pc' := 22) rfl (hb hby d3_21) ?_
  have q47 : Dy (mv1 - mv0) 1074 (FP.dsub v1 v0) := dy_sub yv1 yv0 (own_subb bv1 bv0 (by decide)) (by decide)
  refine g_dsub X43 hx (pc' := 23) (z := (FP.dsub v1 v0)) rfl (hb hby d3_22) (dy_noNaN q47) rfl ?_
  refine g_absD (fun d47 hd47 => ?_)
  rw [← hd47] at q47
  obtain ⟨n47, en47⟩ : ∃ z : Int, z = mv1 - mv0 := ⟨_, rfl⟩
  rw [← en47] at q47
  have b47 : n47.natAbs ≤ 524288 := by rw [en47]; exact Nat.le_trans (own_subl bv1 bv0) (by decide)
  refine g_aloadN X43 hx (pc' := 24) rfl (hb hby d3_23) rfl rfl ?_
  refine g_iconst X43 hx (pc' := 25) (z := (1 : Int32)) rfl (hb hby d3_24) rfl ?_
  refine g_daload X43 hx hZ f44 (i := 1) (by decide) (show (1 : Nat) < 2 by decide) (v := t1) rfl (pc' := 26) rfl (hb hby d3_25) ?_
  refine g_aloadN X43 hx (pc' := 27) rfl (hb hby d3_26) rfl rfl ?_
  refine g_iconst X43 hx (pc' := 28) (z := (0 : Int32)) rfl (hb hby d3_27) rfl ?_
  refine g_daload X43 hx hZ f44 (i := 0) (by decide) (show (0 : Nat) < 2 by decide) (v := t0) rfl (pc' := 29) rfl (hb hby d3_28) ?_
  have q48 : Dy (mt1 - mt0) 1074 (FP.dsub t1 t0) := dy_sub yt1 yt0 (own_subb bt1 bt0 (by decide)) (by decide)
  refine g_dsub X43 hx (pc' := 30) (z := (FP.dsub t1 t0)) rfl (hb hby d3_29) (dy_noNaN q48) rfl ?_
  refine g_absD (fun d48 hd48 => ?_)
  rw [← hd48] at q48
  obtain ⟨n48, en48⟩ : ∃ z : Int, z = mt1 - mt0 := ⟨_, rfl⟩
  rw [← en48] at q48
  have b48 : n48.natAbs ≤ 400 := by rw [en48]; exact Nat.le_trans (own_subl bt1 bt0) (by decide)
  have q49 : Dy s0 1074 (FP.ddiv d47 d48) := dy_div q47 q48 (by rw [en48]; omega) (by rw [en47, en48]; exact e0) (by decide) (by rw [own_p53]; omega) (by decide)
  refine g_ddiv X43 hx (pc' := 31) (z := (FP.ddiv d47 d48)) rfl (hb hby d3_30) (dy_noNaN q49) rfl ?_
  refine g_absD (fun d49 hd49 => ?_)
  rw [← hd49] at q49
  refine g_dastore X43 hx hZ V43 (i := 0) (by decide) (show (0 : Nat) < 2 by decide) G_a43 (pc' := 32) rfl (hb hby d3_31) (fun T50 h50 X50 W50 N50 => ?_)
  have f51 := (by have q := (Keep.of_wr W50).1; exact Nat.le_trans Zs43 q : n0 ≤ h50.size)
  have f52 := f46.wr W50 (Or.inr sz43)
  have f53 := f44.other W50 ne43_ta
  have f54 := f45.other W50 ne43_va
  have V50 : AD Z h50 a43 [d49, (0 : UInt64)] := N50
  refine g_aloadN X50 hx (pc' := 33) rfl (hb hby d3_32) rfl rfl ?_
  refine g_iloadN X50 hx (pc' := 34) rfl (hb hby d3_33) rfl ?_
  refine g_aloadN X50 hx (pc' := 35) rfl (hb hby d3_34) rfl rfl ?_
  refine g_iloadN X50 hx (pc' := 36) rfl (hb hby d3_35) rfl ?_
  refine g_daload X50 hx hZ f54 (i := 1) (by decide) (show (1 : Nat) < 2 by decide) (v := v1) rfl (pc' := 37) rfl (hb hby d3_36) ?_
  refine g_aloadN X50 hx (pc' := 38) rfl (hb hby d3_37) rfl rfl ?_
  refine g_iloadN X50 hx (pc' := 39) rfl (hb hby d3_38) rfl ?_
  refine g_iconst X50 hx (pc' := 40) (z := (1 : Int32)) rfl (hb hby d3_39) rfl ?_
  refine g_isub X50 hx (pc' := 41) rfl (hb hby d3_40) ?_
  refine g_normI (z := (0 : Int32)) (by decide) ?_
  refine g_daload X50 hx hZ f54 (i := 0) (by decide) (show (0 : Nat) < 2 by decide) (v := v0) rfl (pc' := 42) rfl (hb hby d3_41) ?_
  have q55 : Dy (mv1 - mv0) 1074 (FP.dsub v1 v0) := dy_sub yv1 yv0 (own_subb bv1 bv0 (by decide)) (by decide)
  refine g_dsub X50 hx (pc' := 43) (z := (FP.dsub v1 v0)) rfl (hb hby d3_42) (dy_noNaN q55) rfl ?_
  refine g_absD (fun d55 hd55 => ?_)
  rw [← hd55] at q55
  obtain ⟨n55, en55⟩ : ∃ z : Int, z = mv1 - mv0 := ⟨_, rfl⟩
  rw [← en55] at q55
  have b55 : n55.natAbs ≤ 524288 := by rw [en55]; exact Nat.le_trans (own_subl bv1 bv0) (by decide)
  refine g_aloadN X50 hx (pc' := 44) rfl (hb hby d3_43) rfl rfl ?_
  refine g_iloadN X50 hx (pc' := 45) rfl (hb hby d3_44) rfl ?_
  refine g_daload X50 hx hZ f53 (i := 1) (by decide) (show (1 : Nat) < 2 by decide) (v := t1) rfl (pc' := 46) rfl (hb hby d3_45) ?_
  refine g_aloadN X50 hx (pc' := 47) rfl (hb hby d3_46) rfl rfl ?_
  refine g_iloadN X50 hx (pc' := 48) rfl (hb hby d3_47) rfl ?_
  refine g_iconst X50 hx (pc' := 49) (z := (1 : Int32)) rfl (hb hby d3_48) rfl ?_
  refine g_isub X50 hx (pc' := 50) rfl (hb hby d3_49) ?_
  refine g_normI (z := (0 : Int32)) (by decide) ?_
  refine g_daload X50 hx hZ f53 (i := 0) (by decide) (show (0 : Nat) < 2 by decide) (v := t0) rfl (pc' := 51) rfl (hb hby d3_50) ?_
  have q56 : Dy (mt1 - mt0) 1074 (FP.dsub t1 t0) := dy_sub yt1 yt0 (own_subb bt1 bt0 (by decide)) (by decide)
  refine g_dsub X50 hx (pc' := 52) (z := (FP.dsub t1 t0)) rfl (hb hby d3_51) (dy_noNaN q56) rfl ?_
  refine g_absD (fun d56 hd56 => ?_)
  rw [← hd56] at q56
  obtain ⟨n56, en56⟩ : ∃ z : Int, z = mt1 - mt0 := ⟨_, rfl⟩
  rw [← en56] at q56
  have b56 : n56.natAbs ≤ 400 := by rw [en56]; exact Nat.le_trans (own_subl bt1 bt0) (by decide)
  have q57 : Dy s1 1074 (FP.ddiv d55 d56) := dy_div q55 q56 (by rw [en56]; omega) (by rw [en55, en56]; exact e1) (by decide) (by rw [own_p53]; omega) (by decide)
  refine g_ddiv X50 hx (pc' := 53) (z := (FP.ddiv d55 d56)) rfl (hb hby d3_52) (dy_noNaN q57) rfl ?_
  refine g_absD (fun d57 hd57 => ?_)
  rw [← hd57] at q57
  refine g_dastore X50 hx hZ V50 (i := 1) (by decide) (show (1 : Nat) < 2 by decide) G_a43 (pc' := 54) rfl (hb hby d3_53) (fun T58 h58 X58 W58 N58 => ?_)
  have f59 := (by have q := (Keep.of_wr W58).1; exact Nat.le_trans f51 q : n0 ≤ h58.size)
  have f60 := f52.wr W58 (Or.inr sz43)
  have f61 := f53.other W58 ne43_ta
  have f62 := f54.other W58 ne43_va
  have V58 : AD Z h58 a43 [d49, d57] := N58
  refine g_iconst X58 hx (pc' := 55) (z := (1 : Int32)) rfl (hb hby d3_54) rfl ?_
  refine g_istore X58 hx (pc' := 57) rfl (hb hby d3_55) (l' := #[.val (.ref ta), .val (.ref va), .val (.int (1 : Int32)), .val (.ref a43), .val (.int (1 : Int32)), .unset, .unset, .unset, .unset, .unset, .unset, .unset, .unset, .unset, .unset]) rfl ?_
  refine g_iload X58 hx (pc' := 59) rfl (hb hby d3_57) rfl ?_
  refine g_iloadN X58 hx (pc' := 60) rfl (hb hby d3_59) rfl ?_
  refine g_icmpY X58 hx (pcY := 166) (hb hby d3_60) (by decide) (by decide) (show ¬ (1 : Int32) < (1 : Int32) from by decide) ?_
  refine g_aloadN X58 hx (pc' := 167) rfl (hb hby d3_166) rfl rfl ?_
  exact g_ret X58 hx hlk hret rfl (Or.inr (Or.inr (Or.inr (Or.inr ⟨rfl, rfl, rfl⟩)))) (hb hby d3_167) (by decide) (by decide) (⟨a43, rfl, G_a43, f60, d49, d57, V58, q49, q57⟩)
set_option maxRecDepth 65536 in
set_option maxHeartbeats 40000000 in
theorem rm3_3 (l : Launch) (Z : State) (a0 : Array Value) (hw : ∀ d ∈ tables_1, d.before a0 Z = true) (ws : List Jvm.Cond) (n0 : Nat) (ta va : Addr) (t0 v0 : UInt64) (mt0 mv0 s0 : Int) (t1 v1 : UInt64) (mt1 mv1 s1 : Int) (t2 v2 : UInt64) (mt2 mv2 s2 : Int) (h0 : Heap) (hn0 : n0 ≤ h0.size) (At : AD Z h0 ta [t0, t1, t2]) (Av : AD Z h0 va [v0, v1, v2]) (yt0 : Dy mt0 1074 t0) (bt0 : mt0.natAbs ≤ 200) (yv0 : Dy mv0 1074 v0) (bv0 : mv0.natAbs ≤ 262144) (yt1 : Dy mt1 1074 t1) (bt1 : mt1.natAbs ≤ 200) (yv1 : Dy mv1 1074 v1) (bv1 : mv1.natAbs ≤ 262144) (yt2 : Dy mt2 1074 t2) (bt2 : mt2.natAbs ≤ 200) (yv2 : Dy mv2 1074 v2) (bv2 : mv2.natAbs ≤ 262144) (o0 : 1 ≤ mt1 - mt0) (o1 : 1 ≤ mt2 - mt1) (bs0 : s0.natAbs ≤ 100000) (bs1 : s1.natAbs ≤ 100000) (bs2 : s2.natAbs ≤ 100000) (e0 : mv1 - mv0 = s0 * (mt1 - mt0)) (e2 : mv2 - mv1 = s2 * (mt2 - mt1)) (e1 : -(mt2 - mt1) * (mt2 - mt1) * mv0 + (mt2 - mt1 - (mt1 - mt0)) * (mt1 - mt0 + (mt2 - mt1)) * mv1 + (mt1 - mt0) * (mt1 - mt0) * mv2 = (mt2 - mt1) * (mt1 - mt0) * (mt1 - mt0 + (mt2 - mt1)) * s1) :
    Con l Z n0 (⟨"com/example/measured_traces/measuredtraces/Derivatives", "estimate", "([D[D)[D"⟩ : MethodName) prog_25_method_2_code 15 (some (.array .double)) ws ({ frames := 0, cells := 1, slots := 4, locals := 0 } : Room) #[(.ref ta), (.ref va)] h0 (fun v h => ∃ da : Addr, v = some (.ref da) ∧ n0 ≤ da ∧ Keep h0 h [] ∧ ∃ y0 y1 y2 : UInt64, AD Z h da [y0, y1, y2] ∧ Dy s0 1074 y0 ∧ (FP.Core.DFin y1 ∧ Ap (dv y1) (s1 * oneU) (33554432 * pw 1022)) ∧ Dy s2 1074 y2) := by
  refine con_start (plainFor_of_name (by first | (simp [plainName, overriddenIn]; done) | decide +kernel)) (fr0 := fun m => mkF m 0 #[.val (.ref ta), .val (.ref va), .unset, .unset, .unset, .unset, .unset, .unset, .unset, .unset, .unset, .unset, .unset, .unset, .unset] []) (fun m => by first | (simp [entryFrame, mkF, argsToLocals, Value.category]; done) | rfl) ?_
  intro p e s m below meth c T0 hx hZ hby hml hown hnm hret hlk X0
  replace hown : s.vm.findClass "com/example/measured_traces/measuredtraces/Derivatives" = some m.cls := hown
  replace hml : c.maxLocals = 15 := hml
  have cv0 : -262144 ≤ mv0 ∧ mv0 ≤ 262144 := by omega
  have cv1 : -262144 ≤ mv1 ∧ mv1 ≤ 262144 := by omega
  have cv2 : -262144 ≤ mv2 ∧ mv2 ≤ 262144 := by omega
  refine g_aloadN X0 hx (pc' := 1) rfl (hb hby d3_0) rfl rfl ?_
  refine g_alenD X0 hx hZ At (z := (3 : Int32)) rfl (pc' := 2) rfl (hb hby d3_1) ?_
  refine g_iconst X0 hx (pc' := 3) (z := (1 : Int32)) rfl (hb hby d3_2) rfl ?_
  refine g_isub X0 hx (pc' := 4) rfl (hb hby d3_3) ?_
  refine g_normI (z := (2 : Int32)) (by decide) ?_
  refine g_istoreN X0 hx (pc' := 5) rfl (hb hby d3_4) (l' := #[.val (.ref ta), .val (.ref va), .val (.int (2 : Int32)), .unset, .unset, .unset, .unset, .unset, .unset, .unset, .unset, .unset, .unset, .unset, .unset]) rfl ?_
  refine g_aloadN X0 hx (pc' := 6) rfl (hb hby d3_5) rfl rfl ?_
  refine g_alenD X0 hx hZ At (z := (3 : Int32)) rfl (pc' := 7) rfl (hb hby d3_6) ?_
  refine g_newD X0 hx hZ (hw _ (List.mem_of_getElem? (i := 4) rfl)) (N := 3) (by decide) (cap := 3) (Nat.le_refl _) (by decide) (pc' := 9) rfl (hb hby d3_7) (by decide) (by decide) (fun T63 h63 a63 ha63 X63 E63 N63 => ?_)
  have ne63_ta : ta ≠ a63 := by rw [ha63]; exact Nat.ne_of_lt At.lt
  have ne63_va : va ≠ a63 := by rw [ha63]; exact Nat.ne_of_lt Av.lt
  have f64 := At.ext E63
  have f65 := Av.ext E63
  have sz63 : h0.size ≤ a63 := by rw [ha63]; exact (Keep.refl h0 []).1
  have f66 := (Keep.refl h0 []).ext E63
  have G_a63 : n0 ≤ a63 := by rw [ha63]; exact hn0
  have Zs63 : n0 ≤ h63.size := Nat.le_trans hn0 E63.1
  have V63 : AD Z h63 a63 [(0 : UInt64), (0 : UInt64), (0 : UInt64)] := N63
  refine g_astoreN X63 hx (pc' := 10) rfl (hb hby d3_9) rfl (l' := #[.val (.ref ta), .val (.ref va), .val (.int (2 : Int32)), .val (.ref a63), .unset, .unset, .unset, .unset, .unset, .unset, .unset, .unset, .unset, .unset, .unset]) rfl ?_
  refine g_iloadN X63 hx (pc' := 11) rfl (hb hby d3_10) rfl ?_
  refine g_ifN X63 hx (pcN := 14) (hb hby d3_11) rfl (show ¬ (¬ 0 < (2 : Int32)) from by decide) ?_
  refine g_aloadN X63 hx (pc' := 15) rfl (hb hby d3_14) rfl rfl ?_
  refine g_iconst X63 hx (pc' := 16) (z := (0 : Int32)) rfl (hb hby d3_15) rfl ?_
  refine g_aloadN X63 hx (pc' := 17) rfl (hb hby d3_16) rfl rfl ?_
  refine g_iconst X63 hx (pc' := 18) (z := (1 : Int32)) rfl (hb hby d3_17) rfl ?_
  refine g_daload X63 hx hZ f65 (i := 1) (by decide) (show (1 : Nat) < 3 by decide) (v := v1) rfl (pc' := 19) rfl (hb hby d3_18) ?_
  refine g_aloadN X63 hx (pc' := 20) rfl (hb hby d3_19) rfl rfl ?_
  refine g_iconst X63 hx (pc' := 21) (z := (0 : Int32)) rfl (hb hby d3_20) rfl ?_
  refine g_daload X63 hx hZ f65 (i := 0) (by decide) (show (0 : Nat) < 3 by decide) (v := v0) rfl (pc' := 22) rfl (hb hby d3_21) ?_
  have q67 : Dy (mv1 - mv0) 1074 (FP.dsub v1 v0) := dy_sub yv1 yv0 (own_subb bv1 bv0 (by decide)) (by decide)
  refine g_dsub X63 hx (pc' := 23) (z := (FP.dsub v1 v0)) rfl (hb hby d3_22) (dy_noNaN q67) rfl ?_
  refine g_absD (fun d67 hd67 => ?_)
  rw [← hd67] at q67
  obtain ⟨n67, en67⟩ : ∃ z : Int, z = mv1 - mv0 := ⟨_, rfl⟩
  rw [← en67] at q67
  have b67 : n67.natAbs ≤ 524288 := by rw [en67]; exact Nat.le_trans (own_subl bv1 bv0) (by decide)
  refine g_aloadN X63 hx (pc' := 24) rfl (hb hby d3_23) rfl rfl ?_
  refine g_iconst X63 hx (pc' := 25) (z := (1 : Int32)) rfl (hb hby d3_24) rfl ?_
  refine g_daload X63 hx hZ f64 (i := 1) (by decide) (show (1 : Nat) < 3 by decide) (v := t1) rfl (pc' := 26) rfl (hb hby d3_25) ?_
  refine g_aloadN X63 hx (pc' := 27) rfl (hb hby d3_26) rfl rfl ?_
  refine g_iconst X63 hx (pc' := 28) (z := (0 : Int32)) rfl (hb hby d3_27) rfl ?_
  refine g_daload X63 hx hZ f64 (i := 0) (by decide) (show (0 : Nat) < 3 by decide) (v := t0) rfl (pc' := 29) rfl (hb hby d3_28) ?_
  have q68 : Dy (mt1 - mt0) 1074 (FP.dsub t1 t0) := dy_sub yt1 yt0 (own_subb bt1 bt0 (by decide)) (by decide)
  refine g_dsub X63 hx (pc' := 30) (z := (FP.dsub t1 t0)) rfl (hb hby d3_29) (dy_noNaN q68) rfl ?_
  refine g_absD (fun d68 hd68 => ?_)
  rw [← hd68] at q68
  obtain ⟨n68, en68⟩ : ∃ z : Int, z = mt1 - mt0 := ⟨_, rfl⟩
  rw [← en68] at q68
  have b68 : n68.natAbs ≤ 400 := by rw [en68]; exact Nat.le_trans (own_subl bt1 bt0) (by decide)
  have q69 : Dy s0 1074 (FP.ddiv d67 d68) := dy_div q67 q68 (by rw [en68]; omega) (by rw [en67, en68]; exact e0) (by decide) (by rw [own_p53]; omega) (by decide)
  refine g_ddiv X63 hx (pc' := 31) (z := (FP.ddiv d67 d68)) rfl (hb hby d3_30) (dy_noNaN q69) rfl ?_
  refine g_absD (fun d69 hd69 => ?_)
  rw [← hd69] at q69
  refine g_dastore X63 hx hZ V63 (i := 0) (by decide) (show (0 : Nat) < 3 by decide) G_a63 (pc' := 32) rfl (hb hby d3_31) (fun T70 h70 X70 W70 N70 => ?_)
  have f71 := (by have q := (Keep.of_wr W70).1; exact Nat.le_trans Zs63 q : n0 ≤ h70.size)
  have f72 := f66.wr W70 (Or.inr sz63)
  have f73 := f64.other W70 ne63_ta
  have f74 := f65.other W70 ne63_va
  have V70 : AD Z h70 a63 [d69, (0 : UInt64), (0 : UInt64)] := N70
  refine g_aloadN X70 hx (pc' := 33) rfl (hb hby d3_32) rfl rfl ?_
  refine g_iloadN X70 hx (pc' := 34) rfl (hb hby d3_33) rfl ?_
  refine g_aloadN X70 hx (pc' := 35) rfl (hb hby d3_34) rfl rfl ?_
  refine g_iloadN X70 hx (pc' := 36) rfl (hb hby d3_35) rfl ?_
  refine g_daload X70 hx hZ f74 (i := 2) (by decide) (show (2 : Nat) < 3 by decide) (v := v2) rfl (pc' := 37) rfl (hb hby d3_36) ?_
  refine g_aloadN X70 hx (pc' := 38) rfl (hb hby d3_37) rfl rfl ?_
  refine g_iloadN X70 hx (pc' := 39) rfl (hb hby d3_38) rfl ?_
  refine g_iconst X70 hx (pc' := 40) (z := (1 : Int32)) rfl (hb hby d3_39) rfl ?_
  refine g_isub X70 hx (pc' := 41) rfl (hb hby d3_40) ?_
  refine g_normI (z := (1 : Int32)) (by decide) ?_
  refine g_daload X70 hx hZ f74 (i := 1) (by decide) (show (1 : Nat) < 3 by decide) (v := v1) rfl (pc' := 42) rfl (hb hby d3_41) ?_
  have q75 : Dy (mv2 - mv1) 1074 (FP.dsub v2 v1) := dy_sub yv2 yv1 (own_subb bv2 bv1 (by decide)) (by decide)
  refine g_dsub X70 hx (pc' := 43) (z := (FP.dsub v2 v1)) rfl (hb hby d3_42) (dy_noNaN q75) rfl ?_
  refine g_absD (fun d75 hd75 => ?_)
  rw [← hd75] at q75
  obtain ⟨n75, en75⟩ : ∃ z : Int, z = mv2 - mv1 := ⟨_, rfl⟩
  rw [← en75] at q75
  have b75 : n75.natAbs ≤ 524288 := by rw [en75]; exact Nat.le_trans (own_subl bv2 bv1) (by decide)
  refine g_aloadN X70 hx (pc' := 44) rfl (hb hby d3_43) rfl rfl ?_
  refine g_iloadN X70 hx (pc' := 45) rfl (hb hby d3_44) rfl ?_
  refine g_daload X70 hx hZ f73 (i := 2) (by decide) (show (2 : Nat) < 3 by decide) (v := t2) rfl (pc' := 46) rfl (hb hby d3_45) ?_
  refine g_aloadN X70 hx (pc' := 47) rfl (hb hby d3_46) rfl rfl ?_
  refine g_iloadN X70 hx (pc' := 48) rfl (hb hby d3_47) rfl ?_
  refine g_iconst X70 hx (pc' := 49) (z := (1 : Int32)) rfl (hb hby d3_48) rfl ?_
  refine g_isub X70 hx (pc' := 50) rfl (hb hby d3_49) ?_
  refine g_normI (z := (1 : Int32)) (by decide) ?_
  refine g_daload X70 hx hZ f73 (i := 1) (by decide) (show (1 : Nat) < 3 by decide) (v := t1) rfl (pc' := 51) rfl (hb hby d3_50) ?_
  have q76 : Dy (mt2 - mt1) 1074 (FP.dsub t2 t1) := dy_sub yt2 yt1 (own_subb bt2 bt1 (by decide)) (by decide)
  refine g_dsub X70 hx (pc' := 52) (z := (FP.dsub t2 t1)) rfl (hb hby d3_51) (dy_noNaN q76) rfl ?_
  refine g_absD (fun d76 hd76 => ?_)
  rw [← hd76] at q76
  obtain ⟨n76, en76⟩ : ∃ z : Int, z = mt2 - mt1 := ⟨_, rfl⟩
  rw [← en76] at q76
  have b76 : n76.natAbs ≤ 400 := by rw [en76]; exact Nat.le_trans (own_subl bt2 bt1) (by decide)
  have q77 : Dy s2 1074 (FP.ddiv d75 d76) := dy_div q75 q76 (by rw [en76]; omega) (by rw [en75, en76]; exact e2) (by decide) (by rw [own_p53]; omega) (by decide)
  refine g_ddiv X70 hx (pc' := 53) (z := (FP.ddiv d75 d76)) rfl (hb hby d3_52) (dy_noNaN q77) rfl ?_
  refine g_absD (fun d77 hd77 => ?_)
  rw [← hd77] at q77
  refine g_dastore X70 hx hZ V70 (i := 2) (by decide) (show (2 : Nat) < 3 by decide) G_a63 (pc' := 54) rfl (hb hby d3_53) (fun T78 h78 X78 W78 N78 => ?_)
  have f79 := (by have q := (Keep.of_wr W78).1; exact Nat.le_trans f71 q : n0 ≤ h78.size)
  have f80 := f72.wr W78 (Or.inr sz63)
  have f81 := f73.other W78 ne63_ta
  have f82 := f74.other W78 ne63_va
  have V78 : AD Z h78 a63 [d69, (0 : UInt64), d77] := N78
  refine g_iconst X78 hx (pc' := 55) (z := (1 : Int32)) rfl (hb hby d3_54) rfl ?_
  refine g_istore X78 hx (pc' := 57) rfl (hb hby d3_55) (l' := #[.val (.ref ta), .val (.ref va), .val (.int (2 : Int32)), .val (.ref a63), .val (.int (1 : Int32)), .unset, .unset, .unset, .unset, .unset, .unset, .unset, .unset, .unset, .unset]) rfl ?_
  refine g_iload X78 hx (pc' := 59) rfl (hb hby d3_57) rfl ?_
  refine g_iloadN X78 hx (pc' := 60) rfl (hb hby d3_59) rfl ?_
  refine g_icmpN X78 hx (pcN := 63) (hb hby d3_60) rfl (show ¬ (¬ (1 : Int32) < (2 : Int32)) from by decide) ?_
  refine g_aloadN X78 hx (pc' := 64) rfl (hb hby d3_63) rfl rfl ?_
  refine g_iload X78 hx (pc' := 66) rfl (hb hby d3_64) rfl ?_
  refine g_daload X78 hx hZ f81 (i := 1) (by decide) (show (1 : Nat) < 3 by decide) (v := t1) rfl (pc' := 67) rfl (hb hby d3_66) ?_
  refine g_aloadN X78 hx (pc' := 68) rfl (hb hby d3_67) rfl rfl ?_
  refine g_iload X78 hx (pc' := 70) rfl (hb hby d3_68) rfl ?_
  refine g_iconst X78 hx (pc' := 71) (z := (1 : Int32)) rfl (hb hby d3_70) rfl ?_
  refine g_isub X78 hx (pc' := 72) rfl (hb hby d3_71) ?_
  refine g_normI (z := (0 : Int32)) (by decide) ?_
  refine g_daload X78 hx hZ f81 (i := 0) (by decide) (show (0 : Nat) < 3 by decide) (v := t0) rfl (pc' := 73) rfl (hb hby d3_72) ?_
  have q83 : Dy (mt1 - mt0) 1074 (FP.dsub t1 t0) := dy_sub yt1 yt0 (own_subb bt1 bt0 (by decide)) (by decide)
  refine g_dsub X78 hx (pc' := 74) (z := (FP.dsub t1 t0)) rfl (hb hby d3_73) (dy_noNaN q83) rfl ?_
  refine g_absD (fun d83 hd83 => ?_)
  rw [← hd83] at q83
  obtain ⟨n83, en83⟩ : ∃ z : Int, z = mt1 - mt0 := ⟨_, rfl⟩
  rw [← en83] at q83
  have b83 : n83.natAbs ≤ 400 := by rw [en83]; exact Nat.le_trans (own_subl bt1 bt0) (by decide)
  refine g_dstore X78 hx (pc' := 76) rfl (hb hby d3_74) (l' := #[.val (.ref ta), .val (.ref va), .val (.int (2 : Int32)), .val (.ref a63), .val (.int (1 : Int32)), .val (.double d83), .second, .unset, .unset, .unset, .unset, .unset, .unset, .unset, .unset]) rfl ?_
  refine g_aloadN X78 hx (pc' := 77) rfl (hb hby d3_76) rfl rfl ?_
  refine g_iload X78 hx (pc' := 79) rfl (hb hby d3_77) rfl ?_
  refine g_iconst X78 hx (pc' := 80) (z := (1 : Int32)) rfl (hb hby d3_79) rfl ?_
  refine g_iadd X78 hx (pc' := 81) rfl (hb hby d3_80) ?_
  refine g_normI (z := (2 : Int32)) (by decide) ?_
  refine g_daload X78 hx hZ f81 (i := 2) (by decide) (show (2 : Nat) < 3 by decide) (v := t2) rfl (pc' := 82) rfl (hb hby d3_81) ?_
  refine g_aloadN X78 hx (pc' := 83) rfl (hb hby d3_82) rfl rfl ?_
  refine g_iload X78 hx (pc' := 85) rfl (hb hby d3_83) rfl ?_
  refine g_daload X78 hx hZ f81 (i := 1) (by decide) (show (1 : Nat) < 3 by decide) (v := t1) rfl (pc' := 86) rfl (hb hby d3_85) ?_
  have q84 : Dy (mt2 - mt1) 1074 (FP.dsub t2 t1) := dy_sub yt2 yt1 (own_subb bt2 bt1 (by decide)) (by decide)
  refine g_dsub X78 hx (pc' := 87) (z := (FP.dsub t2 t1)) rfl (hb hby d3_86) (dy_noNaN q84) rfl ?_
  refine g_absD (fun d84 hd84 => ?_)
  rw [← hd84] at q84
  obtain ⟨n84, en84⟩ : ∃ z : Int, z = mt2 - mt1 := ⟨_, rfl⟩
  rw [← en84] at q84
  have b84 : n84.natAbs ≤ 400 := by rw [en84]; exact Nat.le_trans (own_subl bt2 bt1) (by decide)
  refine g_dstore X78 hx (pc' := 89) rfl (hb hby d3_87) (l' := #[.val (.ref ta), .val (.ref va), .val (.int (2 : Int32)), .val (.ref a63), .val (.int (1 : Int32)), .val (.double d83), .second, .val (.double d84), .second, .unset, .unset, .unset, .unset, .unset, .unset]) rfl ?_
  have hB1 : 1 ≤ n83 := by rw [en83]; omega
  have hA1 : 1 ≤ n84 := by rw [en84]; omega
  have ps1 := own_pos hA1 hB1
  refine g_dload X78 hx (pc' := 91) rfl (hb hby d3_89) rfl ?_
  refine g_dneg X78 hx (pc' := 92) rfl (hb hby d3_91) ?_
  refine g_absD (fun d85 hd85 => ?_)
  have q85 : Dy (-n84) 1074 d85 := by rw [hd85]; exact dy_neg q84
  refine g_dload X78 hx (pc' := 94) rfl (hb hby d3_92) rfl ?_
  refine g_dload X78 hx (pc' := 96) rfl (hb hby d3_94) rfl ?_
  refine g_dload X78 hx (pc' := 98) rfl (hb hby d3_96) rfl ?_
  have q86 : Dy (n83 + n84) 1074 (FP.dadd d83 d84) := dy_add q83 q84 (own_addb b83 b84 (by decide)) (by decide)
  refine g_dadd X78 hx (pc' := 99) (z := (FP.dadd d83 d84)) rfl (hb hby d3_98) (dy_noNaN q86) rfl ?_
  refine g_absD (fun d86 hd86 => ?_)
  rw [← hd86] at q86
  obtain ⟨n86, en86⟩ : ∃ z : Int, z = n83 + n84 := ⟨_, rfl⟩
  rw [← en86] at q86
  have b86 : n86.natAbs ≤ 800 := by rw [en86]; exact Nat.le_trans (own_addl b83 b84) (by decide)
  have q87 : Dy (n83 * n86) 1074 (FP.dmul d83 d86) := dy_mul q83 q86 (by decide) (own_mb b83 b86 (by decide)) (by decide)
  refine g_dmul X78 hx (pc' := 100) (z := (FP.dmul d83 d86)) rfl (hb hby d3_99) (dy_noNaN q87) rfl ?_
  refine g_absD (fun d87 hd87 => ?_)
  rw [← hd87] at q87
  obtain ⟨n87, en87⟩ : ∃ z : Int, z = n83 * n86 := ⟨_, rfl⟩
  rw [← en87] at q87
  have b87 : n87.natAbs ≤ 320000 := by rw [en87, Int.natAbs_mul]; exact Nat.le_trans (Nat.mul_le_mul b83 b86) (by decide)
  have Wwa_1 := own_wt (a := -n84) (b := n83 * (n83 + n84)) (q85) (by rw [← en86, ← en87]; exact q87) ps1.1 ps1.2.1 ps1.2.2.1
  refine g_ddiv X78 hx (pc' := 101) (z := (FP.ddiv d85 d87)) rfl (hb hby d3_100) (noNaN_of_fin Wwa_1.1) rfl ?_
  refine g_absD (fun wa_1 hwa_1 => ?_)
  rw [← hwa_1] at Wwa_1
  refine g_dstore X78 hx (pc' := 103) rfl (hb hby d3_101) (l' := #[.val (.ref ta), .val (.ref va), .val (.int (2 : Int32)), .val (.ref a63), .val (.int (1 : Int32)), .val (.double d83), .second, .val (.double d84), .second, .val (.double wa_1), .second, .unset, .unset, .unset, .unset]) rfl ?_
  refine g_dload X78 hx (pc' := 105) rfl (hb hby d3_103) rfl ?_
  refine g_dload X78 hx (pc' := 107) rfl (hb hby d3_105) rfl ?_
  have q88 : Dy (n84 - n83) 1074 (FP.dsub d84 d83) := dy_sub q84 q83 (own_subb b84 b83 (by decide)) (by decide)
  refine g_dsub X78 hx (pc' := 108) (z := (FP.dsub d84 d83)) rfl (hb hby d3_107) (dy_noNaN q88) rfl ?_
  refine g_absD (fun d88 hd88 => ?_)
  rw [← hd88] at q88
  obtain ⟨n88, en88⟩ : ∃ z : Int, z = n84 - n83 := ⟨_, rfl⟩
  rw [← en88] at q88
  have b88 : n88.natAbs ≤ 800 := by rw [en88]; exact Nat.le_trans (own_subl b84 b83) (by decide)
  refine g_dload X78 hx (pc' := 110) rfl (hb hby d3_108) rfl ?_
  refine g_dload X78 hx (pc' := 112) rfl (hb hby d3_110) rfl ?_
  have q89 : Dy (n83 * n84) 1074 (FP.dmul d83 d84) := dy_mul q83 q84 (by decide) (own_mb b83 b84 (by decide)) (by decide)
  refine g_dmul X78 hx (pc' := 113) (z := (FP.dmul d83 d84)) rfl (hb hby d3_112) (dy_noNaN q89) rfl ?_
  refine g_absD (fun d89 hd89 => ?_)
  rw [← hd89] at q89
  obtain ⟨n89, en89⟩ : ∃ z : Int, z = n83 * n84 := ⟨_, rfl⟩
  rw [← en89] at q89
  have b89 : n89.natAbs ≤ 160000 := by rw [en89, Int.natAbs_mul]; exact Nat.le_trans (Nat.mul_le_mul b83 b84) (by decide)
  have Wwb_1 := own_wt (a := n84 - n83) (b := n83 * n84) (by rw [← en88]; exact q88) (by rw [← en89]; exact q89) ps1.2.2.2.1 ps1.2.2.2.2.1 ps1.2.2.2.2.2.1
  refine g_ddiv X78 hx (pc' := 114) (z := (FP.ddiv d88 d89)) rfl (hb hby d3_113) (noNaN_of_fin Wwb_1.1) rfl ?_
  refine g_absD (fun wb_1 hwb_1 => ?_)
  rw [← hwb_1] at Wwb_1
  refine g_dstore X78 hx (pc' := 116) rfl (hb hby d3_114) (l' := #[.val (.ref ta), .val (.ref va), .val (.int (2 : Int32)), .val (.ref a63), .val (.int (1 : Int32)), .val (.double d83), .second, .val (.double d84), .second, .val (.double wa_1), .second, .val (.double wb_1), .second, .unset, .unset]) rfl ?_
  refine g_dload X78 hx (pc' := 118) rfl (hb hby d3_116) rfl ?_
  refine g_dload X78 hx (pc' := 120) rfl (hb hby d3_118) rfl ?_
  refine g_dload X78 hx (pc' := 122) rfl (hb hby d3_120) rfl ?_
  refine g_dload X78 hx (pc' := 124) rfl (hb hby d3_122) rfl ?_
  have q90 : Dy (n83 + n84) 1074 (FP.dadd d83 d84) := dy_add q83 q84 (own_addb b83 b84 (by decide)) (by decide)
  refine g_dadd X78 hx (pc' := 125) (z := (FP.dadd d83 d84)) rfl (hb hby d3_124) (dy_noNaN q90) rfl ?_
  refine g_absD (fun d90 hd90 => ?_)
  rw [← hd90] at q90
  obtain ⟨n90, en90⟩ : ∃ z : Int, z = n83 + n84 := ⟨_, rfl⟩
  rw [← en90] at q90
  have b90 : n90.natAbs ≤ 800 := by rw [en90]; exact Nat.le_trans (own_addl b83 b84) (by decide)
  have q91 : Dy (n84 * n90) 1074 (FP.dmul d84 d90) := dy_mul q84 q90 (by decide) (own_mb b84 b90 (by decide)) (by decide)
  refine g_dmul X78 hx (pc' := 126) (z := (FP.dmul d84 d90)) rfl (hb hby d3_125) (dy_noNaN q91) rfl ?_
  refine g_absD (fun d91 hd91 => ?_)
  rw [← hd91] at q91
  obtain ⟨n91, en91⟩ : ∃ z : Int, z = n84 * n90 := ⟨_, rfl⟩
  rw [← en91] at q91
  have b91 : n91.natAbs ≤ 320000 := by rw [en91, Int.natAbs_mul]; exact Nat.le_trans (Nat.mul_le_mul b84 b90) (by decide)
  have Wwc_1 := own_wt (a := n83) (b := n84 * (n83 + n84)) (q83) (by rw [← en90, ← en91]; exact q91) ps1.2.2.2.2.2.2.1 ps1.2.2.2.2.2.2.2.1 ps1.2.2.2.2.2.2.2.2
  refine g_ddiv X78 hx (pc' := 127) (z := (FP.ddiv d83 d91)) rfl (hb hby d3_126) (noNaN_of_fin Wwc_1.1) rfl ?_
  refine g_absD (fun wc_1 hwc_1 => ?_)
  rw [← hwc_1] at Wwc_1
  refine g_dstore X78 hx (pc' := 129) rfl (hb hby d3_127) (l' := #[.val (.ref ta), .val (.ref va), .val (.int (2 : Int32)), .val (.ref a63), .val (.int (1 : Int32)), .val (.double d83), .second, .val (.double d84), .second, .val (.double wa_1), .second, .val (.double wb_1), .second, .val (.double wc_1), .second]) rfl ?_
  have pt1 := own_pt hA1 hB1 Wwa_1.1 Wwa_1.2.1 Wwa_1.2.2 Wwb_1.1 Wwb_1.2.1 Wwb_1.2.2 Wwc_1.1 Wwc_1.2.1 Wwc_1.2.2 yv0 cv0 yv1 cv1 yv2 cv2 (by rw [en84, en83]; exact e1)
  refine g_aloadN X78 hx (pc' := 130) rfl (hb hby d3_129) rfl rfl ?_
  refine g_iload X78 hx (pc' := 132) rfl (hb hby d3_130) rfl ?_
  refine g_dload X78 hx (pc' := 134) rfl (hb hby d3_132) rfl ?_
  refine g_aloadN X78 hx (pc' := 135) rfl (hb hby d3_134) rfl rfl ?_
  refine g_iload X78 hx (pc' := 137) rfl (hb hby d3_135) rfl ?_
  refine g_iconst X78 hx (pc' := 138) (z := (1 : Int32)) rfl (hb hby d3_137) rfl ?_
  refine g_isub X78 hx (pc' := 139) rfl (hb hby d3_138) ?_
  refine g_normI (z := (0 : Int32)) (by decide) ?_
  refine g_daload X78 hx hZ f82 (i := 0) (by decide) (show (0 : Nat) < 3 by decide) (v := v0) rfl (pc' := 140) rfl (hb hby d3_139) ?_
  refine g_dmul X78 hx (pc' := 141) (z := (FP.dmul wa_1 v0)) rfl (hb hby d3_140) (noNaN_of_fin pt1.1) rfl ?_
  refine g_dload X78 hx (pc' := 143) rfl (hb hby d3_141) rfl ?_
  refine g_aloadN X78 hx (pc' := 144) rfl (hb hby d3_143) rfl rfl ?_
  refine g_iload X78 hx (pc' := 146) rfl (hb hby d3_144) rfl ?_
  refine g_daload X78 hx hZ f82 (i := 1) (by decide) (show (1 : Nat) < 3 by decide) (v := v1) rfl (pc' := 147) rfl (hb hby d3_146) ?_
  refine g_dmul X78 hx (pc' := 148) (z := (FP.dmul wb_1 v1)) rfl (hb hby d3_147) (noNaN_of_fin pt1.2.1) rfl ?_
  refine g_dadd X78 hx (pc' := 149) (z := (FP.dadd (FP.dmul wa_1 v0) (FP.dmul wb_1 v1))) rfl (hb hby d3_148) (noNaN_of_fin pt1.2.2.1) rfl ?_
  refine g_dload X78 hx (pc' := 151) rfl (hb hby d3_149) rfl ?_
  refine g_aloadN X78 hx (pc' := 152) rfl (hb hby d3_151) rfl rfl ?_
  refine g_iload X78 hx (pc' := 154) rfl (hb hby d3_152) rfl ?_
  refine g_iconst X78 hx (pc' := 155) (z := (1 : Int32)) rfl (hb hby d3_154) rfl ?_
  refine g_iadd X78 hx (pc' := 156) rfl (hb hby d3_155) ?_
  refine g_normI (z := (2 : Int32)) (by decide) ?_
  refine g_daload X78 hx hZ f82 (i := 2) (by decide) (show (2 : Nat) < 3 by decide) (v := v2) rfl (pc' := 157) rfl (hb hby d3_156) ?_
  refine g_dmul X78 hx (pc' := 158) (z := (FP.dmul wc_1 v2)) rfl (hb hby d3_157) (noNaN_of_fin pt1.2.2.2.1) rfl ?_
  refine g_dadd X78 hx (pc' := 159) (z := (FP.dadd (FP.dadd (FP.dmul wa_1 v0) (FP.dmul wb_1 v1)) (FP.dmul wc_1 v2))) rfl (hb hby d3_158) (noNaN_of_fin pt1.2.2.2.2.1) rfl ?_
  refine g_absD (fun y_1 hy_1 => ?_)
  rw [← hy_1] at pt1
  refine g_dastore X78 hx hZ V78 (i := 1) (by decide) (show (1 : Nat) < 3 by decide) G_a63 (pc' := 160) rfl (hb hby d3_159) (fun T92 h92 X92 W92 N92 => ?_)
  have f93 := (by have q := (Keep.of_wr W92).1; exact Nat.le_trans f79 q : n0 ≤ h92.size)
  have f94 := f80.wr W92 (Or.inr sz63)
  have f95 := f81.other W92 ne63_ta
  have f96 := f82.other W92 ne63_va
  have V92 : AD Z h92 a63 [d69, y_1, d77] := N92
  refine g_iincC X92 hx (pc' := 163) (x := (1 : Int32)) (z := (2 : Int32)) rfl (hb hby d3_160) rfl (by decide) (l' := #[.val (.ref ta), .val (.ref va), .val (.int (2 : Int32)), .val (.ref a63), .val (.int (2 : Int32)), .val (.double d83), .second, .val (.double d84), .second, .val (.double wa_1), .second, .val (.double wb_1), .second, .val (.double wc_1), .second]) rfl ?_
  refine g_goto X92 hx (pc' := 57) (hb hby d3_163) (by decide) (by decide) ?_
  refine g_iload X92 hx (pc' := 59) rfl (hb hby d3_57) rfl ?_
  refine g_iloadN X92 hx (pc' := 60) rfl (hb hby d3_59) rfl ?_
  refine g_icmpY X92 hx (pcY := 166) (hb hby d3_60) (by decide) (by decide) (show ¬ (2 : Int32) < (2 : Int32) from by decide) ?_
  refine g_aloadN X92 hx (pc' := 167) rfl (hb hby d3_166) rfl rfl ?_
  exact g_ret X92 hx hlk hret rfl (Or.inr (Or.inr (Or.inr (Or.inr ⟨rfl, rfl, rfl⟩)))) (hb hby d3_167) (by decide) (by decide) (⟨a63, rfl, G_a63, f94, d69, y_1, d77, V92, q69, ⟨pt1.2.2.2.2.1, pt1.2.2.2.2.2⟩, q77⟩)
set_option maxRecDepth 65536 in
set_option maxHeartbeats 40000000 in
theorem rm3_4 (l : Launch) (Z : State) (a0 : Array Value) (hw : ∀ d ∈ tables_1, d.before a0 Z = true) (ws : List Jvm.Cond) (n0 : Nat) (ta va : Addr) (t0 v0 : UInt64) (mt0 mv0 s0 : Int) (t1 v1 : UInt64) (mt1 mv1 s1 : Int) (t2 v2 : UInt64) (mt2 mv2 s2 : Int) (t3 v3 : UInt64) (mt3 mv3 s3 : Int) (h0 : Heap) (hn0 : n0 ≤ h0.size) (At : AD Z h0 ta [t0, t1, t2, t3]) (Av : AD Z h0 va [v0, v1, v2, v3]) (yt0 : Dy mt0 1074 t0) (bt0 : mt0.natAbs ≤ 200) (yv0 : Dy mv0 1074 v0) (bv0 : mv0.natAbs ≤ 262144) (yt1 : Dy mt1 1074 t1) (bt1 : mt1.natAbs ≤ 200) (yv1 : Dy mv1 1074 v1) (bv1 : mv1.natAbs ≤ 262144) (yt2 : Dy mt2 1074 t2) (bt2 : mt2.natAbs ≤ 200) (yv2 : Dy mv2 1074 v2) (bv2 : mv2.natAbs ≤ 262144) (yt3 : Dy mt3 1074 t3) (bt3 : mt3.natAbs ≤ 200) (yv3 : Dy mv3 1074 v3) (bv3 : mv3.natAbs ≤ 262144) (o0 : 1 ≤ mt1 - mt0) (o1 : 1 ≤ mt2 - mt1) (o2 : 1 ≤ mt3 - mt2) (bs0 : s0.natAbs ≤ 100000) (bs1 : s1.natAbs ≤ 100000) (bs2 : s2.natAbs ≤ 100000) (bs3 : s3.natAbs ≤ 100000) (e0 : mv1 - mv0 = s0 * (mt1 - mt0)) (e3 : mv3 - mv2 = s3 * (mt3 - mt2)) (e1 : -(mt2 - mt1) * (mt2 - mt1) * mv0 + (mt2 - mt1 - (mt1 - mt0)) * (mt1 - mt0 + (mt2 - mt1)) * mv1 + (mt1 - mt0) * (mt1 - mt0) * mv2 = (mt2 - mt1) * (mt1 - mt0) * (mt1 - mt0 + (mt2 - mt1)) * s1) (e2 : -(mt3 - mt2) * (mt3 - mt2) * mv1 + (mt3 - mt2 - (mt2 - mt1)) * (mt2 - mt1 + (mt3 - mt2)) * mv2 + (mt2 - mt1) * (mt2 - mt1) * mv3 = (mt3 - mt2) * (mt2 - mt1) * (mt2 - mt1 + (mt3 - mt2)) * s2) :
    Con l Z n0 (⟨"com/example/measured_traces/measuredtraces/Derivatives", "estimate", "([D[D)[D"⟩ : MethodName) prog_25_method_2_code 15 (some (.array .double)) ws ({ frames := 0, cells := 1, slots := 4, locals := 0 } : Room) #[(.ref ta), (.ref va)] h0 (fun v h => ∃ da : Addr, v = some (.ref da) ∧ n0 ≤ da ∧ Keep h0 h [] ∧ ∃ y0 y1 y2 y3 : UInt64, AD Z h da [y0, y1, y2, y3] ∧ Dy s0 1074 y0 ∧ (FP.Core.DFin y1 ∧ Ap (dv y1) (s1 * oneU) (33554432 * pw 1022)) ∧ (FP.Core.DFin y2 ∧ Ap (dv y2) (s2 * oneU) (33554432 * pw 1022)) ∧ Dy s3 1074 y3) := by
  refine con_start (plainFor_of_name (by first | (simp [plainName, overriddenIn]; done) | decide +kernel)) (fr0 := fun m => mkF m 0 #[.val (.ref ta), .val (.ref va), .unset, .unset, .unset, .unset, .unset, .unset, .unset, .unset, .unset, .unset, .unset, .unset, .unset] []) (fun m => by first | (simp [entryFrame, mkF, argsToLocals, Value.category]; done) | rfl) ?_
  intro p e s m below meth c T0 hx hZ hby hml hown hnm hret hlk X0
  replace hown : s.vm.findClass "com/example/measured_traces/measuredtraces/Derivatives" = some m.cls := hown
  replace hml : c.maxLocals = 15 := hml
  have cv0 : -262144 ≤ mv0 ∧ mv0 ≤ 262144 := by omega
  have cv1 : -262144 ≤ mv1 ∧ mv1 ≤ 262144 := by omega
  have cv2 : -262144 ≤ mv2 ∧ mv2 ≤ 262144 := by omega
  have cv3 : -262144 ≤ mv3 ∧ mv3 ≤ 262144 := by omega
  refine g_aloadN X0 hx (pc' := 1) rfl (hb hby d3_0) rfl rfl ?_
  refine g_alenD X0 hx hZ At (z := (4 : Int32)) rfl (pc' := 2) rfl (hb hby d3_1) ?_
  refine g_iconst X0 hx (pc' := 3) (z := (1 : Int32)) rfl (hb hby d3_2) rfl ?_
  refine g_isub X0 hx (pc' := 4) rfl (hb hby d3_3) ?_
  refine g_normI (z := (3 : Int32)) (by decide) ?_
  refine g_istoreN X0 hx (pc' := 5) rfl (hb hby d3_4) (l' := #[.val (.ref ta), .val (.ref va), .val (.int (3 : Int32)), .unset, .unset, .unset, .unset, .unset, .unset, .unset, .unset, .unset, .unset, .unset, .unset]) rfl ?_
  refine g_aloadN X0 hx (pc' := 6) rfl (hb hby d3_5) rfl rfl ?_
  refine g_alenD X0 hx hZ At (z := (4 : Int32)) rfl (pc' := 7) rfl (hb hby d3_6) ?_
  refine g_newD X0 hx hZ (hw _ (List.mem_of_getElem? (i := 4) rfl)) (N := 4) (by decide) (cap := 4) (Nat.le_refl _) (by decide) (pc' := 9) rfl (hb hby d3_7) (by decide) (by decide) (fun T97 h97 a97 ha97 X97 E97 N97 => ?_)
  have ne97_ta : ta ≠ a97 := by rw [ha97]; exact Nat.ne_of_lt At.lt
  have ne97_va : va ≠ a97 := by rw [ha97]; exact Nat.ne_of_lt Av.lt
  have f98 := At.ext E97
  have f99 := Av.ext E97
  have sz97 : h0.size ≤ a97 := by rw [ha97]; exact (Keep.refl h0 []).1
  have f100 := (Keep.refl h0 []).ext E97
  have G_a97 : n0 ≤ a97 := by rw [ha97]; exact hn0
  have Zs97 : n0 ≤ h97.size := Nat.le_trans hn0 E97.1
  have V97 : AD Z h97 a97 [(0 : UInt64), (0 : UInt64), (0 : UInt64), (0 : UInt64)] := N97
  refine g_astoreN X97 hx (pc' := 10) rfl (hb hby d3_9) rfl (l' := #[.val (.ref ta), .val (.ref va), .val (.int (3 : Int32)), .val (.ref a97), .unset, .unset, .unset, .unset, .unset, .unset, .unset, .unset, .unset, .unset, .unset]) rfl ?_
  refine g_iloadN X97 hx (pc' := 11) rfl (hb hby d3_10) rfl ?_
  refine g_ifN X97 hx (pcN := 14) (hb hby d3_11) rfl (show ¬ (¬ 0 < (3 : Int32)) from by decide) ?_
  refine g_aloadN X97 hx (pc' := 15) rfl (hb hby d3_14) rfl rfl ?_
  refine g_iconst X97 hx (pc' := 16) (z := (0 : Int32)) rfl (hb hby d3_15) rfl ?_
  refine g_aloadN X97 hx (pc' := 17) rfl (hb hby d3_16) rfl rfl ?_
  refine g_iconst X97 hx (pc' := 18) (z := (1 : Int32)) rfl (hb hby d3_17) rfl ?_
  refine g_daload X97 hx hZ f99 (i := 1) (by decide) (show (1 : Nat) < 4 by decide) (v := v1) rfl (pc' := 19) rfl (hb hby d3_18) ?_
  refine g_aloadN X97 hx (pc' := 20) rfl (hb hby d3_19) rfl rfl ?_
  refine g_iconst X97 hx (pc' := 21) (z := (0 : Int32)) rfl (hb hby d3_20) rfl ?_
  refine g_daload X97 hx hZ f99 (i := 0) (by decide) (show (0 : Nat) < 4 by decide) (v := v0) rfl (pc' := 22) rfl (hb hby d3_21) ?_
  have q101 : Dy (mv1 - mv0) 1074 (FP.dsub v1 v0) := dy_sub yv1 yv0 (own_subb bv1 bv0 (by decide)) (by decide)
  refine g_dsub X97 hx (pc' := 23) (z := (FP.dsub v1 v0)) rfl (hb hby d3_22) (dy_noNaN q101) rfl ?_
  refine g_absD (fun d101 hd101 => ?_)
  rw [← hd101] at q101
  obtain ⟨n101, en101⟩ : ∃ z : Int, z = mv1 - mv0 := ⟨_, rfl⟩
  rw [← en101] at q101
  have b101 : n101.natAbs ≤ 524288 := by rw [en101]; exact Nat.le_trans (own_subl bv1 bv0) (by decide)
  refine g_aloadN X97 hx (pc' := 24) rfl (hb hby d3_23) rfl rfl ?_
  refine g_iconst X97 hx (pc' := 25) (z := (1 : Int32)) rfl (hb hby d3_24) rfl ?_
  refine g_daload X97 hx hZ f98 (i := 1) (by decide) (show (1 : Nat) < 4 by decide) (v := t1) rfl (pc' := 26) rfl (hb hby d3_25) ?_
  refine g_aloadN X97 hx (pc' := 27) rfl (hb hby d3_26) rfl rfl ?_
  refine g_iconst X97 hx (pc' := 28) (z := (0 : Int32)) rfl (hb hby d3_27) rfl ?_
  refine g_daload X97 hx hZ f98 (i := 0) (by decide) (show (0 : Nat) < 4 by decide) (v := t0) rfl (pc' := 29) rfl (hb hby d3_28) ?_
  have q102 : Dy (mt1 - mt0) 1074 (FP.dsub t1 t0) := dy_sub yt1 yt0 (own_subb bt1 bt0 (by decide)) (by decide)
  refine g_dsub X97 hx (pc' := 30) (z := (FP.dsub t1 t0)) rfl (hb hby d3_29) (dy_noNaN q102) rfl ?_
  refine g_absD (fun d102 hd102 => ?_)
  rw [← hd102] at q102
  obtain ⟨n102, en102⟩ : ∃ z : Int, z = mt1 - mt0 := ⟨_, rfl⟩
  rw [← en102] at q102
  have b102 : n102.natAbs ≤ 400 := by rw [en102]; exact Nat.le_trans (own_subl bt1 bt0) (by decide)
  have q103 : Dy s0 1074 (FP.ddiv d101 d102) := dy_div q101 q102 (by rw [en102]; omega) (by rw [en101, en102]; exact e0) (by decide) (by rw [own_p53]; omega) (by decide)
  refine g_ddiv X97 hx (pc' := 31) (z := (FP.ddiv d101 d102)) rfl (hb hby d3_30) (dy_noNaN q103) rfl ?_
  refine g_absD (fun d103 hd103 => ?_)
  rw [← hd103] at q103
  refine g_dastore X97 hx hZ V97 (i := 0) (by decide) (show (0 : Nat) < 4 by decide) G_a97 (pc' := 32) rfl (hb hby d3_31) (fun T104 h104 X104 W104 N104 => ?_)
  have f105 := (by have q := (Keep.of_wr W104).1; exact Nat.le_trans Zs97 q : n0 ≤ h104.size)
  have f106 := f100.wr W104 (Or.inr sz97)
  have f107 := f98.other W104 ne97_ta
  have f108 := f99.other W104 ne97_va
  have V104 : AD Z h104 a97 [d103, (0 : UInt64), (0 : UInt64), (0 : UInt64)] := N104
  refine g_aloadN X104 hx (pc' := 33) rfl (hb hby d3_32) rfl rfl ?_
  refine g_iloadN X104 hx (pc' := 34) rfl (hb hby d3_33) rfl ?_
  refine g_aloadN X104 hx (pc' := 35) rfl (hb hby d3_34) rfl rfl ?_
  refine g_iloadN X104 hx (pc' := 36) rfl (hb hby d3_35) rfl ?_
  refine g_daload X104 hx hZ f108 (i := 3) (by decide) (show (3 : Nat) < 4 by decide) (v := v3) rfl (pc' := 37) rfl (hb hby d3_36) ?_
  refine g_aloadN X104 hx (pc' := 38) rfl (hb hby d3_37) rfl rfl ?_
  refine g_iloadN X104 hx (pc' := 39) rfl (hb hby d3_38) rfl ?_
  refine g_iconst X104 hx (pc' := 40) (z := (1 : Int32)) rfl (hb hby d3_39) rfl ?_
  refine g_isub X104 hx (pc' := 41) rfl (hb hby d3_40) ?_
  refine g_normI (z := (2 : Int32)) (by decide) ?_
  refine g_daload X104 hx hZ f108 (i := 2) (by decide) (show (2 : Nat) < 4 by decide) (v := v2) rfl (pc' := 42) rfl (hb hby d3_41) ?_
  have q109 : Dy (mv3 - mv2) 1074 (FP.dsub v3 v2) := dy_sub yv3 yv2 (own_subb bv3 bv2 (by decide)) (by decide)
  refine g_dsub X104 hx (pc' := 43) (z := (FP.dsub v3 v2)) rfl (hb hby d3_42) (dy_noNaN q109) rfl ?_
  refine g_absD (fun d109 hd109 => ?_)
  rw [← hd109] at q109
  obtain ⟨n109, en109⟩ : ∃ z : Int, z = mv3 - mv2 := ⟨_, rfl⟩
  rw [← en109] at q109
  have b109 : n109.natAbs ≤ 524288 := by rw [en109]; exact Nat.le_trans (own_subl bv3 bv2) (by decide)
  refine g_aloadN X104 hx (pc' := 44) rfl (hb hby d3_43) rfl rfl ?_
  refine g_iloadN X104 hx (pc' := 45) rfl (hb hby d3_44) rfl ?_
  refine g_daload X104 hx hZ f107 (i := 3) (by decide) (show (3 : Nat) < 4 by decide) (v := t3) rfl (pc' := 46) rfl (hb hby d3_45) ?_
  refine g_aloadN X104 hx (pc' := 47) rfl (hb hby d3_46) rfl rfl ?_
  refine g_iloadN X104 hx (pc' := 48) rfl (hb hby d3_47) rfl ?_
  refine g_iconst X104 hx (pc' := 49) (z := (1 : Int32)) rfl (hb hby d3_48) rfl ?_
  refine g_isub X104 hx (pc' := 50) rfl (hb hby d3_49) ?_
  refine g_normI (z := (2 : Int32)) (by decide) ?_
  refine g_daload X104 hx hZ f107 (i := 2) (by decide) (show (2 : Nat) < 4 by decide) (v := t2) rfl (pc' := 51) rfl (hb hby d3_50) ?_
  have q110 : Dy (mt3 - mt2) 1074 (FP.dsub t3 t2) := dy_sub yt3 yt2 (own_subb bt3 bt2 (by decide)) (by decide)
  refine g_dsub X104 hx (pc' := 52) (z := (FP.dsub t3 t2)) rfl (hb hby d3_51) (dy_noNaN q110) rfl ?_
  refine g_absD (fun d110 hd110 => ?_)
  rw [← hd110] at q110
  obtain ⟨n110, en110⟩ : ∃ z : Int, z = mt3 - mt2 := ⟨_, rfl⟩
  rw [← en110] at q110
  have b110 : n110.natAbs ≤ 400 := by rw [en110]; exact Nat.le_trans (own_subl bt3 bt2) (by decide)
  have q111 : Dy s3 1074 (FP.ddiv d109 d110) := dy_div q109 q110 (by rw [en110]; omega) (by rw [en109, en110]; exact e3) (by decide) (by rw [own_p53]; omega) (by decide)
  refine g_ddiv X104 hx (pc' := 53) (z := (FP.ddiv d109 d110)) rfl (hb hby d3_52) (dy_noNaN q111) rfl ?_
  refine g_absD (fun d111 hd111 => ?_)
  rw [← hd111] at q111
  refine g_dastore X104 hx hZ V104 (i := 3) (by decide) (show (3 : Nat) < 4 by decide) G_a97 (pc' := 54) rfl (hb hby d3_53) (fun T112 h112 X112 W112 N112 => ?_)
  have f113 := (by have q := (Keep.of_wr W112).1; exact Nat.le_trans f105 q : n0 ≤ h112.size)
  have f114 := f106.wr W112 (Or.inr sz97)
  have f115 := f107.other W112 ne97_ta
  have f116 := f108.other W112 ne97_va
  have V112 : AD Z h112 a97 [d103, (0 : UInt64), (0 : UInt64), d111] := N112
  refine g_iconst X112 hx (pc' := 55) (z := (1 : Int32)) rfl (hb hby d3_54) rfl ?_
  refine g_istore X112 hx (pc' := 57) rfl (hb hby d3_55) (l' := #[.val (.ref ta), .val (.ref va), .val (.int (3 : Int32)), .val (.ref a97), .val (.int (1 : Int32)), .unset, .unset, .unset, .unset, .unset, .unset, .unset, .unset, .unset, .unset]) rfl ?_
  refine g_iload X112 hx (pc' := 59) rfl (hb hby d3_57) rfl ?_
  refine g_iloadN X112 hx (pc' := 60) rfl (hb hby d3_59) rfl ?_
  refine g_icmpN X112 hx (pcN := 63) (hb hby d3_60) rfl (show ¬ (¬ (1 : Int32) < (3 : Int32)) from by decide) ?_
  refine g_aloadN X112 hx (pc' := 64) rfl (hb hby d3_63) rfl rfl ?_
  refine g_iload X112 hx (pc' := 66) rfl (hb hby d3_64) rfl ?_
  refine g_daload X112 hx hZ f115 (i := 1) (by decide) (show (1 : Nat) < 4 by decide) (v := t1) rfl (pc' := 67) rfl (hb hby d3_66) ?_
  refine g_aloadN X112 hx (pc' := 68) rfl (hb hby d3_67) rfl rfl ?_
  refine g_iload X112 hx (pc' := 70) rfl (hb hby d3_68) rfl ?_
  refine g_iconst X112 hx (pc' := 71) (z := (1 : Int32)) rfl (hb hby d3_70) rfl ?_
  refine g_isub X112 hx (pc' := 72) rfl (hb hby d3_71) ?_
  refine g_normI (z := (0 : Int32)) (by decide) ?_
  refine g_daload X112 hx hZ f115 (i := 0) (by decide) (show (0 : Nat) < 4 by decide) (v := t0) rfl (pc' := 73) rfl (hb hby d3_72) ?_
  have q117 : Dy (mt1 - mt0) 1074 (FP.dsub t1 t0) := dy_sub yt1 yt0 (own_subb bt1 bt0 (by decide)) (by decide)
  refine g_dsub X112 hx (pc' := 74) (z := (FP.dsub t1 t0)) rfl (hb hby d3_73) (dy_noNaN q117) rfl ?_
  refine g_absD (fun d117 hd117 => ?_)
  rw [← hd117] at q117
  obtain ⟨n117, en117⟩ : ∃ z : Int, z = mt1 - mt0 := ⟨_, rfl⟩
  rw [← en117] at q117
  have b117 : n117.natAbs ≤ 400 := by rw [en117]; exact Nat.le_trans (own_subl bt1 bt0) (by decide)
  refine g_dstore X112 hx (pc' := 76) rfl (hb hby d3_74) (l' := #[.val (.ref ta), .val (.ref va), .val (.int (3 : Int32)), .val (.ref a97), .val (.int (1 : Int32)), .val (.double d117), .second, .unset, .unset, .unset, .unset, .unset, .unset, .unset, .unset]) rfl ?_
  refine g_aloadN X112 hx (pc' := 77) rfl (hb hby d3_76) rfl rfl ?_
  refine g_iload X112 hx (pc' := 79) rfl (hb hby d3_77) rfl ?_
  refine g_iconst X112 hx (pc' := 80) (z := (1 : Int32)) rfl (hb hby d3_79) rfl ?_
  refine g_iadd X112 hx (pc' := 81) rfl (hb hby d3_80) ?_
  refine g_normI (z := (2 : Int32)) (by decide) ?_
  refine g_daload X112 hx hZ f115 (i := 2) (by decide) (show (2 : Nat) < 4 by decide) (v := t2) rfl (pc' := 82) rfl (hb hby d3_81) ?_
  refine g_aloadN X112 hx (pc' := 83) rfl (hb hby d3_82) rfl rfl ?_
  refine g_iload X112 hx (pc' := 85) rfl (hb hby d3_83) rfl ?_
  refine g_daload X112 hx hZ f115 (i := 1) (by decide) (show (1 : Nat) < 4 by decide) (v := t1) rfl (pc' := 86) rfl (hb hby d3_85) ?_
  have q118 : Dy (mt2 - mt1) 1074 (FP.dsub t2 t1) := dy_sub yt2 yt1 (own_subb bt2 bt1 (by decide)) (by decide)
  refine g_dsub X112 hx (pc' := 87) (z := (FP.dsub t2 t1)) rfl (hb hby d3_86) (dy_noNaN q118) rfl ?_
  refine g_absD (fun d118 hd118 => ?_)
  rw [← hd118] at q118
  obtain ⟨n118, en118⟩ : ∃ z : Int, z = mt2 - mt1 := ⟨_, rfl⟩
  rw [← en118] at q118
  have b118 : n118.natAbs ≤ 400 := by rw [en118]; exact Nat.le_trans (own_subl bt2 bt1) (by decide)
  refine g_dstore X112 hx (pc' := 89) rfl (hb hby d3_87) (l' := #[.val (.ref ta), .val (.ref va), .val (.int (3 : Int32)), .val (.ref a97), .val (.int (1 : Int32)), .val (.double d117), .second, .val (.double d118), .second, .unset, .unset, .unset, .unset, .unset, .unset]) rfl ?_
  have hB1 : 1 ≤ n117 := by rw [en117]; omega
  have hA1 : 1 ≤ n118 := by rw [en118]; omega
  have ps1 := own_pos hA1 hB1
  refine g_dload X112 hx (pc' := 91) rfl (hb hby d3_89) rfl ?_
  refine g_dneg X112 hx (pc' := 92) rfl (hb hby d3_91) ?_
  refine g_absD (fun d119 hd119 => ?_)
  have q119 : Dy (-n118) 1074 d119 := by rw [hd119]; exact dy_neg q118
  refine g_dload X112 hx (pc' := 94) rfl (hb hby d3_92) rfl ?_
  refine g_dload X112 hx (pc' := 96) rfl (hb hby d3_94) rfl ?_
  refine g_dload X112 hx (pc' := 98) rfl (hb hby d3_96) rfl ?_
  have q120 : Dy (n117 + n118) 1074 (FP.dadd d117 d118) := dy_add q117 q118 (own_addb b117 b118 (by decide)) (by decide)
  refine g_dadd X112 hx (pc' := 99) (z := (FP.dadd d117 d118)) rfl (hb hby d3_98) (dy_noNaN q120) rfl ?_
  refine g_absD (fun d120 hd120 => ?_)
  rw [← hd120] at q120
  obtain ⟨n120, en120⟩ : ∃ z : Int, z = n117 + n118 := ⟨_, rfl⟩
  rw [← en120] at q120
  have b120 : n120.natAbs ≤ 800 := by rw [en120]; exact Nat.le_trans (own_addl b117 b118) (by decide)
  have q121 : Dy (n117 * n120) 1074 (FP.dmul d117 d120) := dy_mul q117 q120 (by decide) (own_mb b117 b120 (by decide)) (by decide)
  refine g_dmul X112 hx (pc' := 100) (z := (FP.dmul d117 d120)) rfl (hb hby d3_99) (dy_noNaN q121) rfl ?_
  refine g_absD (fun d121 hd121 => ?_)
  rw [← hd121] at q121
  obtain ⟨n121, en121⟩ : ∃ z : Int, z = n117 * n120 := ⟨_, rfl⟩
  rw [← en121] at q121
  have b121 : n121.natAbs ≤ 320000 := by rw [en121, Int.natAbs_mul]; exact Nat.le_trans (Nat.mul_le_mul b117 b120) (by decide)
  have Wwa_1 := own_wt (a := -n118) (b := n117 * (n117 + n118)) (q119) (by rw [← en120, ← en121]; exact q121) ps1.1 ps1.2.1 ps1.2.2.1
  refine g_ddiv X112 hx (pc' := 101) (z := (FP.ddiv d119 d121)) rfl (hb hby d3_100) (noNaN_of_fin Wwa_1.1) rfl ?_
  refine g_absD (fun wa_1 hwa_1 => ?_)
  rw [← hwa_1] at Wwa_1
  refine g_dstore X112 hx (pc' := 103) rfl (hb hby d3_101) (l' := #[.val (.ref ta), .val (.ref va), .val (.int (3 : Int32)), .val (.ref a97), .val (.int (1 : Int32)), .val (.double d117), .second, .val (.double d118), .second, .val (.double wa_1), .second, .unset, .unset, .unset, .unset]) rfl ?_
  refine g_dload X112 hx (pc' := 105) rfl (hb hby d3_103) rfl ?_
  refine g_dload X112 hx (pc' := 107) rfl (hb hby d3_105) rfl ?_
  have q122 : Dy (n118 - n117) 1074 (FP.dsub d118 d117) := dy_sub q118 q117 (own_subb b118 b117 (by decide)) (by decide)
  refine g_dsub X112 hx (pc' := 108) (z := (FP.dsub d118 d117)) rfl (hb hby d3_107) (dy_noNaN q122) rfl ?_
  refine g_absD (fun d122 hd122 => ?_)
  rw [← hd122] at q122
  obtain ⟨n122, en122⟩ : ∃ z : Int, z = n118 - n117 := ⟨_, rfl⟩
  rw [← en122] at q122
  have b122 : n122.natAbs ≤ 800 := by rw [en122]; exact Nat.le_trans (own_subl b118 b117) (by decide)
  refine g_dload X112 hx (pc' := 110) rfl (hb hby d3_108) rfl ?_
  refine g_dload X112 hx (pc' := 112) rfl (hb hby d3_110) rfl ?_
  have q123 : Dy (n117 * n118) 1074 (FP.dmul d117 d118) := dy_mul q117 q118 (by decide) (own_mb b117 b118 (by decide)) (by decide)
  refine g_dmul X112 hx (pc' := 113) (z := (FP.dmul d117 d118)) rfl (hb hby d3_112) (dy_noNaN q123) rfl ?_
  refine g_absD (fun d123 hd123 => ?_)
  rw [← hd123] at q123
  obtain ⟨n123, en123⟩ : ∃ z : Int, z = n117 * n118 := ⟨_, rfl⟩
  rw [← en123] at q123
  have b123 : n123.natAbs ≤ 160000 := by rw [en123, Int.natAbs_mul]; exact Nat.le_trans (Nat.mul_le_mul b117 b118) (by decide)
  have Wwb_1 := own_wt (a := n118 - n117) (b := n117 * n118) (by rw [← en122]; exact q122) (by rw [← en123]; exact q123) ps1.2.2.2.1 ps1.2.2.2.2.1 ps1.2.2.2.2.2.1
  refine g_ddiv X112 hx (pc' := 114) (z := (FP.ddiv d122 d123)) rfl (hb hby d3_113) (noNaN_of_fin Wwb_1.1) rfl ?_
  refine g_absD (fun wb_1 hwb_1 => ?_)
  rw [← hwb_1] at Wwb_1
  refine g_dstore X112 hx (pc' := 116) rfl (hb hby d3_114) (l' := #[.val (.ref ta), .val (.ref va), .val (.int (3 : Int32)), .val (.ref a97), .val (.int (1 : Int32)), .val (.double d117), .second, .val (.double d118), .second, .val (.double wa_1), .second, .val (.double wb_1), .second, .unset, .unset]) rfl ?_
  refine g_dload X112 hx (pc' := 118) rfl (hb hby d3_116) rfl ?_
  refine g_dload X112 hx (pc' := 120) rfl (hb hby d3_118) rfl ?_
  refine g_dload X112 hx (pc' := 122) rfl (hb hby d3_120) rfl ?_
  refine g_dload X112 hx (pc' := 124) rfl (hb hby d3_122) rfl ?_
  have q124 : Dy (n117 + n118) 1074 (FP.dadd d117 d118) := dy_add q117 q118 (own_addb b117 b118 (by decide)) (by decide)
  refine g_dadd X112 hx (pc' := 125) (z := (FP.dadd d117 d118)) rfl (hb hby d3_124) (dy_noNaN q124) rfl ?_
  refine g_absD (fun d124 hd124 => ?_)
  rw [← hd124] at q124
  obtain ⟨n124, en124⟩ : ∃ z : Int, z = n117 + n118 := ⟨_, rfl⟩
  rw [← en124] at q124
  have b124 : n124.natAbs ≤ 800 := by rw [en124]; exact Nat.le_trans (own_addl b117 b118) (by decide)
  have q125 : Dy (n118 * n124) 1074 (FP.dmul d118 d124) := dy_mul q118 q124 (by decide) (own_mb b118 b124 (by decide)) (by decide)
  refine g_dmul X112 hx (pc' := 126) (z := (FP.dmul d118 d124)) rfl (hb hby d3_125) (dy_noNaN q125) rfl ?_
  refine g_absD (fun d125 hd125 => ?_)
  rw [← hd125] at q125
  obtain ⟨n125, en125⟩ : ∃ z : Int, z = n118 * n124 := ⟨_, rfl⟩
  rw [← en125] at q125
  have b125 : n125.natAbs ≤ 320000 := by rw [en125, Int.natAbs_mul]; exact Nat.le_trans (Nat.mul_le_mul b118 b124) (by decide)
  have Wwc_1 := own_wt (a := n117) (b := n118 * (n117 + n118)) (q117) (by rw [← en124, ← en125]; exact q125) ps1.2.2.2.2.2.2.1 ps1.2.2.2.2.2.2.2.1 ps1.2.2.2.2.2.2.2.2
  refine g_ddiv X112 hx (pc' := 127) (z := (FP.ddiv d117 d125)) rfl (hb hby d3_126) (noNaN_of_fin Wwc_1.1) rfl ?_
  refine g_absD (fun wc_1 hwc_1 => ?_)
  rw [← hwc_1] at Wwc_1
  refine g_dstore X112 hx (pc' := 129) rfl (hb hby d3_127) (l' := #[.val (.ref ta), .val (.ref va), .val (.int (3 : Int32)), .val (.ref a97), .val (.int (1 : Int32)), .val (.double d117), .second, .val (.double d118), .second, .val (.double wa_1), .second, .val (.double wb_1), .second, .val (.double wc_1), .second]) rfl ?_
  have pt1 := own_pt hA1 hB1 Wwa_1.1 Wwa_1.2.1 Wwa_1.2.2 Wwb_1.1 Wwb_1.2.1 Wwb_1.2.2 Wwc_1.1 Wwc_1.2.1 Wwc_1.2.2 yv0 cv0 yv1 cv1 yv2 cv2 (by rw [en118, en117]; exact e1)
  refine g_aloadN X112 hx (pc' := 130) rfl (hb hby d3_129) rfl rfl ?_
  refine g_iload X112 hx (pc' := 132) rfl (hb hby d3_130) rfl ?_
  refine g_dload X112 hx (pc' := 134) rfl (hb hby d3_132) rfl ?_
  refine g_aloadN X112 hx (pc' := 135) rfl (hb hby d3_134) rfl rfl ?_
  refine g_iload X112 hx (pc' := 137) rfl (hb hby d3_135) rfl ?_
  refine g_iconst X112 hx (pc' := 138) (z := (1 : Int32)) rfl (hb hby d3_137) rfl ?_
  refine g_isub X112 hx (pc' := 139) rfl (hb hby d3_138) ?_
  refine g_normI (z := (0 : Int32)) (by decide) ?_
  refine g_daload X112 hx hZ f116 (i := 0) (by decide) (show (0 : Nat) < 4 by decide) (v := v0) rfl (pc' := 140) rfl (hb hby d3_139) ?_
  refine g_dmul X112 hx (pc' := 141) (z := (FP.dmul wa_1 v0)) rfl (hb hby d3_140) (noNaN_of_fin pt1.1) rfl ?_
  refine g_dload X112 hx (pc' := 143) rfl (hb hby d3_141) rfl ?_
  refine g_aloadN X112 hx (pc' := 144) rfl (hb hby d3_143) rfl rfl ?_
  refine g_iload X112 hx (pc' := 146) rfl (hb hby d3_144) rfl ?_
  refine g_daload X112 hx hZ f116 (i := 1) (by decide) (show (1 : Nat) < 4 by decide) (v := v1) rfl (pc' := 147) rfl (hb hby d3_146) ?_
  refine g_dmul X112 hx (pc' := 148) (z := (FP.dmul wb_1 v1)) rfl (hb hby d3_147) (noNaN_of_fin pt1.2.1) rfl ?_
  refine g_dadd X112 hx (pc' := 149) (z := (FP.dadd (FP.dmul wa_1 v0) (FP.dmul wb_1 v1))) rfl (hb hby d3_148) (noNaN_of_fin pt1.2.2.1) rfl ?_
  refine g_dload X112 hx (pc' := 151) rfl (hb hby d3_149) rfl ?_
  refine g_aloadN X112 hx (pc' := 152) rfl (hb hby d3_151) rfl rfl ?_
  refine g_iload X112 hx (pc' := 154) rfl (hb hby d3_152) rfl ?_
  refine g_iconst X112 hx (pc' := 155) (z := (1 : Int32)) rfl (hb hby d3_154) rfl ?_
  refine g_iadd X112 hx (pc' := 156) rfl (hb hby d3_155) ?_
  refine g_normI (z := (2 : Int32)) (by decide) ?_
  refine g_daload X112 hx hZ f116 (i := 2) (by decide) (show (2 : Nat) < 4 by decide) (v := v2) rfl (pc' := 157) rfl (hb hby d3_156) ?_
  refine g_dmul X112 hx (pc' := 158) (z := (FP.dmul wc_1 v2)) rfl (hb hby d3_157) (noNaN_of_fin pt1.2.2.2.1) rfl ?_
  refine g_dadd X112 hx (pc' := 159) (z := (FP.dadd (FP.dadd (FP.dmul wa_1 v0) (FP.dmul wb_1 v1)) (FP.dmul wc_1 v2))) rfl (hb hby d3_158) (noNaN_of_fin pt1.2.2.2.2.1) rfl ?_
  refine g_absD (fun y_1 hy_1 => ?_)
  rw [← hy_1] at pt1
  refine g_dastore X112 hx hZ V112 (i := 1) (by decide) (show (1 : Nat) < 4 by decide) G_a97 (pc' := 160) rfl (hb hby d3_159) (fun T126 h126 X126 W126 N126 => ?_)
  have f127 := (by have q := (Keep.of_wr W126).1; exact Nat.le_trans f113 q : n0 ≤ h126.size)
  have f128 := f114.wr W126 (Or.inr sz97)
  have f129 := f115.other W126 ne97_ta
  have f130 := f116.other W126 ne97_va
  have V126 : AD Z h126 a97 [d103, y_1, (0 : UInt64), d111] := N126
  refine g_iincC X126 hx (pc' := 163) (x := (1 : Int32)) (z := (2 : Int32)) rfl (hb hby d3_160) rfl (by decide) (l' := #[.val (.ref ta), .val (.ref va), .val (.int (3 : Int32)), .val (.ref a97), .val (.int (2 : Int32)), .val (.double d117), .second, .val (.double d118), .second, .val (.double wa_1), .second, .val (.double wb_1), .second, .val (.double wc_1), .second]) rfl ?_
  refine g_goto X126 hx (pc' := 57) (hb hby d3_163) (by decide) (by decide) ?_
  refine g_iload X126 hx (pc' := 59) rfl (hb hby d3_57) rfl ?_
  refine g_iloadN X126 hx (pc' := 60) rfl (hb hby d3_59) rfl ?_
  refine g_icmpN X126 hx (pcN := 63) (hb hby d3_60) rfl (show ¬ (¬ (2 : Int32) < (3 : Int32)) from by decide) ?_
  refine g_aloadN X126 hx (pc' := 64) rfl (hb hby d3_63) rfl rfl ?_
  refine g_iload X126 hx (pc' := 66) rfl (hb hby d3_64) rfl ?_
  refine g_daload X126 hx hZ f129 (i := 2) (by decide) (show (2 : Nat) < 4 by decide) (v := t2) rfl (pc' := 67) rfl (hb hby d3_66) ?_
  refine g_aloadN X126 hx (pc' := 68) rfl (hb hby d3_67) rfl rfl ?_
  refine g_iload X126 hx (pc' := 70) rfl (hb hby d3_68) rfl ?_
  refine g_iconst X126 hx (pc' := 71) (z := (1 : Int32)) rfl (hb hby d3_70) rfl ?_
  refine g_isub X126 hx (pc' := 72) rfl (hb hby d3_71) ?_
  refine g_normI (z := (1 : Int32)) (by decide) ?_
  refine g_daload X126 hx hZ f129 (i := 1) (by decide) (show (1 : Nat) < 4 by decide) (v := t1) rfl (pc' := 73) rfl (hb hby d3_72) ?_
  have q131 : Dy (mt2 - mt1) 1074 (FP.dsub t2 t1) := dy_sub yt2 yt1 (own_subb bt2 bt1 (by decide)) (by decide)
  refine g_dsub X126 hx (pc' := 74) (z := (FP.dsub t2 t1)) rfl (hb hby d3_73) (dy_noNaN q131) rfl ?_
  refine g_absD (fun d131 hd131 => ?_)
  rw [← hd131] at q131
  obtain ⟨n131, en131⟩ : ∃ z : Int, z = mt2 - mt1 := ⟨_, rfl⟩
  rw [← en131] at q131
  have b131 : n131.natAbs ≤ 400 := by rw [en131]; exact Nat.le_trans (own_subl bt2 bt1) (by decide)
  refine g_dstore X126 hx (pc' := 76) rfl (hb hby d3_74) (l' := #[.val (.ref ta), .val (.ref va), .val (.int (3 : Int32)), .val (.ref a97), .val (.int (2 : Int32)), .val (.double d131), .second, .val (.double d118), .second, .val (.double wa_1), .second, .val (.double wb_1), .second, .val (.double wc_1), .second]) rfl ?_
  refine g_aloadN X126 hx (pc' := 77) rfl (hb hby d3_76) rfl rfl ?_
  refine g_iload X126 hx (pc' := 79) rfl (hb hby d3_77) rfl ?_
  refine g_iconst X126 hx (pc' := 80) (z := (1 : Int32)) rfl (hb hby d3_79) rfl ?_
  refine g_iadd X126 hx (pc' := 81) rfl (hb hby d3_80) ?_
  refine g_normI (z := (3 : Int32)) (by decide) ?_
  refine g_daload X126 hx hZ f129 (i := 3) (by decide) (show (3 : Nat) < 4 by decide) (v := t3) rfl (pc' := 82) rfl (hb hby d3_81) ?_
  refine g_aloadN X126 hx (pc' := 83) rfl (hb hby d3_82) rfl rfl ?_
  refine g_iload X126 hx (pc' := 85) rfl (hb hby d3_83) rfl ?_
  refine g_daload X126 hx hZ f129 (i := 2) (by decide) (show (2 : Nat) < 4 by decide) (v := t2) rfl (pc' := 86) rfl (hb hby d3_85) ?_
  have q132 : Dy (mt3 - mt2) 1074 (FP.dsub t3 t2) := dy_sub yt3 yt2 (own_subb bt3 bt2 (by decide)) (by decide)
  refine g_dsub X126 hx (pc' := 87) (z := (FP.dsub t3 t2)) rfl (hb hby d3_86) (dy_noNaN q132) rfl ?_
  refine g_absD (fun d132 hd132 => ?_)
  rw [← hd132] at q132
  obtain ⟨n132, en132⟩ : ∃ z : Int, z = mt3 - mt2 := ⟨_, rfl⟩
  rw [← en132] at q132
  have b132 : n132.natAbs ≤ 400 := by rw [en132]; exact Nat.le_trans (own_subl bt3 bt2) (by decide)
  refine g_dstore X126 hx (pc' := 89) rfl (hb hby d3_87) (l' := #[.val (.ref ta), .val (.ref va), .val (.int (3 : Int32)), .val (.ref a97), .val (.int (2 : Int32)), .val (.double d131), .second, .val (.double d132), .second, .val (.double wa_1), .second, .val (.double wb_1), .second, .val (.double wc_1), .second]) rfl ?_
  have hB2 : 1 ≤ n131 := by rw [en131]; omega
  have hA2 : 1 ≤ n132 := by rw [en132]; omega
  have ps2 := own_pos hA2 hB2
  refine g_dload X126 hx (pc' := 91) rfl (hb hby d3_89) rfl ?_
  refine g_dneg X126 hx (pc' := 92) rfl (hb hby d3_91) ?_
  refine g_absD (fun d133 hd133 => ?_)
  have q133 : Dy (-n132) 1074 d133 := by rw [hd133]; exact dy_neg q132
  refine g_dload X126 hx (pc' := 94) rfl (hb hby d3_92) rfl ?_
  refine g_dload X126 hx (pc' := 96) rfl (hb hby d3_94) rfl ?_
  refine g_dload X126 hx (pc' := 98) rfl (hb hby d3_96) rfl ?_
  have q134 : Dy (n131 + n132) 1074 (FP.dadd d131 d132) := dy_add q131 q132 (own_addb b131 b132 (by decide)) (by decide)
  refine g_dadd X126 hx (pc' := 99) (z := (FP.dadd d131 d132)) rfl (hb hby d3_98) (dy_noNaN q134) rfl ?_
  refine g_absD (fun d134 hd134 => ?_)
  rw [← hd134] at q134
  obtain ⟨n134, en134⟩ : ∃ z : Int, z = n131 + n132 := ⟨_, rfl⟩
  rw [← en134] at q134
  have b134 : n134.natAbs ≤ 800 := by rw [en134]; exact Nat.le_trans (own_addl b131 b132) (by decide)
  have q135 : Dy (n131 * n134) 1074 (FP.dmul d131 d134) := dy_mul q131 q134 (by decide) (own_mb b131 b134 (by decide)) (by decide)
  refine g_dmul X126 hx (pc' := 100) (z := (FP.dmul d131 d134)) rfl (hb hby d3_99) (dy_noNaN q135) rfl ?_
  refine g_absD (fun d135 hd135 => ?_)
  rw [← hd135] at q135
  obtain ⟨n135, en135⟩ : ∃ z : Int, z = n131 * n134 := ⟨_, rfl⟩
  rw [← en135] at q135
  have b135 : n135.natAbs ≤ 320000 := by rw [en135, Int.natAbs_mul]; exact Nat.le_trans (Nat.mul_le_mul b131 b134) (by decide)
  have Wwa_2 := own_wt (a := -n132) (b := n131 * (n131 + n132)) (q133) (by rw [← en134, ← en135]; exact q135) ps2.1 ps2.2.1 ps2.2.2.1
  refine g_ddiv X126 hx (pc' := 101) (z := (FP.ddiv d133 d135)) rfl (hb hby d3_100) (noNaN_of_fin Wwa_2.1) rfl ?_
  refine g_absD (fun wa_2 hwa_2 => ?_)
  rw [← hwa_2] at Wwa_2
  refine g_dstore X126 hx (pc' := 103) rfl (hb hby d3_101) (l' := #[.val (.ref ta), .val (.ref va), .val (.int (3 : Int32)), .val (.ref a97), .val (.int (2 : Int32)), .val (.double d131), .second, .val (.double d132), .second, .val (.double wa_2), .second, .val (.double wb_1), .second, .val (.double wc_1), .second]) rfl ?_
  refine g_dload X126 hx (pc' := 105) rfl (hb hby d3_103) rfl ?_
  refine g_dload X126 hx (pc' := 107) rfl (hb hby d3_105) rfl ?_
  have q136 : Dy (n132 - n131) 1074 (FP.dsub d132 d131) := dy_sub q132 q131 (own_subb b132 b131 (by decide)) (by decide)
  refine g_dsub X126 hx (pc' := 108) (z := (FP.dsub d132 d131)) rfl (hb hby d3_107) (dy_noNaN q136) rfl ?_
  refine g_absD (fun d136 hd136 => ?_)
  rw [← hd136] at q136
  obtain ⟨n136, en136⟩ : ∃ z : Int, z = n132 - n131 := ⟨_, rfl⟩
  rw [← en136] at q136
  have b136 : n136.natAbs ≤ 800 := by rw [en136]; exact Nat.le_trans (own_subl b132 b131) (by decide)
  refine g_dload X126 hx (pc' := 110) rfl (hb hby d3_108) rfl ?_
  refine g_dload X126 hx (pc' := 112) rfl (hb hby d3_110) rfl ?_
  have q137 : Dy (n131 * n132) 1074 (FP.dmul d131 d132) := dy_mul q131 q132 (by decide) (own_mb b131 b132 (by decide)) (by decide)
  refine g_dmul X126 hx (pc' := 113) (z := (FP.dmul d131 d132)) rfl (hb hby d3_112) (dy_noNaN q137) rfl ?_
  refine g_absD (fun d137 hd137 => ?_)
  rw [← hd137] at q137
  obtain ⟨n137, en137⟩ : ∃ z : Int, z = n131 * n132 := ⟨_, rfl⟩
  rw [← en137] at q137
  have b137 : n137.natAbs ≤ 160000 := by rw [en137, Int.natAbs_mul]; exact Nat.le_trans (Nat.mul_le_mul b131 b132) (by decide)
  have Wwb_2 := own_wt (a := n132 - n131) (b := n131 * n132) (by rw [← en136]; exact q136) (by rw [← en137]; exact q137) ps2.2.2.2.1 ps2.2.2.2.2.1 ps2.2.2.2.2.2.1
  refine g_ddiv X126 hx (pc' := 114) (z := (FP.ddiv d136 d137)) rfl (hb hby d3_113) (noNaN_of_fin Wwb_2.1) rfl ?_
  refine g_absD (fun wb_2 hwb_2 => ?_)
  rw [← hwb_2] at Wwb_2
  refine g_dstore X126 hx (pc' := 116) rfl (hb hby d3_114) (l' := #[.val (.ref ta), .val (.ref va), .val (.int (3 : Int32)), .val (.ref a97), .val (.int (2 : Int32)), .val (.double d131), .second, .val (.double d132), .second, .val (.double wa_2), .second, .val (.double wb_2), .second, .val (.double wc_1), .second]) rfl ?_
  refine g_dload X126 hx (pc' := 118) rfl (hb hby d3_116) rfl ?_
  refine g_dload X126 hx (pc' := 120) rfl (hb hby d3_118) rfl ?_
  refine g_dload X126 hx (pc' := 122) rfl (hb hby d3_120) rfl ?_
  refine g_dload X126 hx (pc' := 124) rfl (hb hby d3_122) rfl ?_
  have q138 : Dy (n131 + n132) 1074 (FP.dadd d131 d132) := dy_add q131 q132 (own_addb b131 b132 (by decide)) (by decide)
  refine g_dadd X126 hx (pc' := 125) (z := (FP.dadd d131 d132)) rfl (hb hby d3_124) (dy_noNaN q138) rfl ?_
  refine g_absD (fun d138 hd138 => ?_)
  rw [← hd138] at q138
  obtain ⟨n138, en138⟩ : ∃ z : Int, z = n131 + n132 := ⟨_, rfl⟩
  rw [← en138] at q138
  have b138 : n138.natAbs ≤ 800 := by rw [en138]; exact Nat.le_trans (own_addl b131 b132) (by decide)
  have q139 : Dy (n132 * n138) 1074 (FP.dmul d132 d138) := dy_mul q132 q138 (by decide) (own_mb b132 b138 (by decide)) (by decide)
  refine g_dmul X126 hx (pc' := 126) (z := (FP.dmul d132 d138)) rfl (hb hby d3_125) (dy_noNaN q139) rfl ?_
  refine g_absD (fun d139 hd139 => ?_)
  rw [← hd139] at q139
  obtain ⟨n139, en139⟩ : ∃ z : Int, z = n132 * n138 := ⟨_, rfl⟩
  rw [← en139] at q139
  have b139 : n139.natAbs ≤ 320000 := by rw [en139, Int.natAbs_mul]; exact Nat.le_trans (Nat.mul_le_mul b132 b138) (by decide)
  have Wwc_2 := own_wt (a := n131) (b := n132 * (n131 + n132)) (q131) (by rw [← en138, ← en139]; exact q139) ps2.2.2.2.2.2.2.1 ps2.2.2.2.2.2.2.2.1 ps2.2.2.2.2.2.2.2.2
  refine g_ddiv X126 hx (pc' := 127) (z := (FP.ddiv d131 d139)) rfl (hb hby d3_126) (noNaN_of_fin Wwc_2.1) rfl ?_
  refine g_absD (fun wc_2 hwc_2 => ?_)
  rw [← hwc_2] at Wwc_2
  refine g_dstore X126 hx (pc' := 129) rfl (hb hby d3_127) (l' := #[.val (.ref ta), .val (.ref va), .val (.int (3 : Int32)), .val (.ref a97), .val (.int (2 : Int32)), .val (.double d131), .second, .val (.double d132), .second, .val (.double wa_2), .second, .val (.double wb_2), .second, .val (.double wc_2), .second]) rfl ?_
  have pt2 := own_pt hA2 hB2 Wwa_2.1 Wwa_2.2.1 Wwa_2.2.2 Wwb_2.1 Wwb_2.2.1 Wwb_2.2.2 Wwc_2.1 Wwc_2.2.1 Wwc_2.2.2 yv1 cv1 yv2 cv2 yv3 cv3 (by rw [en132, en131]; exact e2)
  refine g_aloadN X126 hx (pc' := 130) rfl (hb hby d3_129) rfl rfl ?_
  refine g_iload X126 hx (pc' := 132) rfl (hb hby d3_130) rfl ?_
  refine g_dload X126 hx (pc' := 134) rfl (hb hby d3_132) rfl ?_
  refine g_aloadN X126 hx (pc' := 135) rfl (hb hby d3_134) rfl rfl ?_
  refine g_iload X126 hx (pc' := 137) rfl (hb hby d3_135) rfl ?_
  refine g_iconst X126 hx (pc' := 138) (z := (1 : Int32)) rfl (hb hby d3_137) rfl ?_
  refine g_isub X126 hx (pc' := 139) rfl (hb hby d3_138) ?_
  refine g_normI (z := (1 : Int32)) (by decide) ?_
  refine g_daload X126 hx hZ f130 (i := 1) (by decide) (show (1 : Nat) < 4 by decide) (v := v1) rfl (pc' := 140) rfl (hb hby d3_139) ?_
  refine g_dmul X126 hx (pc' := 141) (z := (FP.dmul wa_2 v1)) rfl (hb hby d3_140) (noNaN_of_fin pt2.1) rfl ?_
  refine g_dload X126 hx (pc' := 143) rfl (hb hby d3_141) rfl ?_
  refine g_aloadN X126 hx (pc' := 144) rfl (hb hby d3_143) rfl rfl ?_
  refine g_iload X126 hx (pc' := 146) rfl (hb hby d3_144) rfl ?_
  refine g_daload X126 hx hZ f130 (i := 2) (by decide) (show (2 : Nat) < 4 by decide) (v := v2) rfl (pc' := 147) rfl (hb hby d3_146) ?_
  refine g_dmul X126 hx (pc' := 148) (z := (FP.dmul wb_2 v2)) rfl (hb hby d3_147) (noNaN_of_fin pt2.2.1) rfl ?_
  refine g_dadd X126 hx (pc' := 149) (z := (FP.dadd (FP.dmul wa_2 v1) (FP.dmul wb_2 v2))) rfl (hb hby d3_148) (noNaN_of_fin pt2.2.2.1) rfl ?_
  refine g_dload X126 hx (pc' := 151) rfl (hb hby d3_149) rfl ?_
  refine g_aloadN X126 hx (pc' := 152) rfl (hb hby d3_151) rfl rfl ?_
  refine g_iload X126 hx (pc' := 154) rfl (hb hby d3_152) rfl ?_
  refine g_iconst X126 hx (pc' := 155) (z := (1 : Int32)) rfl (hb hby d3_154) rfl ?_
  refine g_iadd X126 hx (pc' := 156) rfl (hb hby d3_155) ?_
  refine g_normI (z := (3 : Int32)) (by decide) ?_
  refine g_daload X126 hx hZ f130 (i := 3) (by decide) (show (3 : Nat) < 4 by decide) (v := v3) rfl (pc' := 157) rfl (hb hby d3_156) ?_
  refine g_dmul X126 hx (pc' := 158) (z := (FP.dmul wc_2 v3)) rfl (hb hby d3_157) (noNaN_of_fin pt2.2.2.2.1) rfl ?_
  refine g_dadd X126 hx (pc' := 159) (z := (FP.dadd (FP.dadd (FP.dmul wa_2 v1) (FP.dmul wb_2 v2)) (FP.dmul wc_2 v3))) rfl (hb hby d3_158) (noNaN_of_fin pt2.2.2.2.2.1) rfl ?_
  refine g_absD (fun y_2 hy_2 => ?_)
  rw [← hy_2] at pt2
  refine g_dastore X126 hx hZ V126 (i := 2) (by decide) (show (2 : Nat) < 4 by decide) G_a97 (pc' := 160) rfl (hb hby d3_159) (fun T140 h140 X140 W140 N140 => ?_)
  have f141 := (by have q := (Keep.of_wr W140).1; exact Nat.le_trans f127 q : n0 ≤ h140.size)
  have f142 := f128.wr W140 (Or.inr sz97)
  have f143 := f129.other W140 ne97_ta
  have f144 := f130.other W140 ne97_va
  have V140 : AD Z h140 a97 [d103, y_1, y_2, d111] := N140
  refine g_iincC X140 hx (pc' := 163) (x := (2 : Int32)) (z := (3 : Int32)) rfl (hb hby d3_160) rfl (by decide) (l' := #[.val (.ref ta), .val (.ref va), .val (.int (3 : Int32)), .val (.ref a97), .val (.int (3 : Int32)), .val (.double d131), .second, .val (.double d132), .second, .val (.double wa_2), .second, .val (.double wb_2), .second, .val (.double wc_2), .second]) rfl ?_
  refine g_goto X140 hx (pc' := 57) (hb hby d3_163) (by decide) (by decide) ?_
  refine g_iload X140 hx (pc' := 59) rfl (hb hby d3_57) rfl ?_
  refine g_iloadN X140 hx (pc' := 60) rfl (hb hby d3_59) rfl ?_
  refine g_icmpY X140 hx (pcY := 166) (hb hby d3_60) (by decide) (by decide) (show ¬ (3 : Int32) < (3 : Int32) from by decide) ?_
  refine g_aloadN X140 hx (pc' := 167) rfl (hb hby d3_166) rfl rfl ?_
  exact g_ret X140 hx hlk hret rfl (Or.inr (Or.inr (Or.inr (Or.inr ⟨rfl, rfl, rfl⟩)))) (hb hby d3_167) (by decide) (by decide) (⟨a97, rfl, G_a97, f142, d103, y_1, y_2, d111, V140, q103, ⟨pt1.2.2.2.2.1, pt1.2.2.2.2.2⟩, ⟨pt2.2.2.2.2.1, pt2.2.2.2.2.2⟩, q111⟩)
theorem own_and3 (x : Int32) : x &&& 3 = 0 ∨ x &&& 3 = 1 ∨ x &&& 3 = 2 ∨ x &&& 3 = 3 := by
  have h : 0 ≤ (x &&& 3).toInt ∧ (x &&& 3).toInt ≤ 3 := c_and x 3 (by decide)
  have e0 : (0 : Int32).toInt = 0 := rfl
  have e1 : (1 : Int32).toInt = 1 := rfl
  have e2 : (2 : Int32).toInt = 2 := rfl
  have e3 : (3 : Int32).toInt = 3 := rfl
  rw [← Int32.toInt_inj, ← Int32.toInt_inj, ← Int32.toInt_inj, ← Int32.toInt_inj]
  omega
theorem own_msub (x m k : Int32) (hm : 0 ≤ m.toInt) (hm2 : m.toInt ≤ 255) (hk : 0 ≤ k.toInt) (hk2 : k.toInt ≤ 255) : -k.toInt ≤ (((x &&& m) - k).toInt64).toInt ∧ (((x &&& m) - k).toInt64).toInt ≤ m.toInt - k.toInt := by
  have h1 := c_and x m hm
  have h2 := c_isub (x &&& m) k
  have h3 := rng32 ((x &&& m) - k)
  have h4 := c_i2l ((x &&& m) - k)
  omega
theorem own_step {t x t' : Int64} (b1 : -1000 ≤ t.toInt) (b2 : t.toInt ≤ 1000) {y : Int32} (hx : x = (y &&& 15).toInt64) (h : t' = t + x + 1) : 1 ≤ t'.toInt - t.toInt ∧ t'.toInt - t.toInt ≤ 16 := by
  have h1 : 0 ≤ (y &&& 15).toInt ∧ (y &&& 15).toInt ≤ 15 := c_and y 15 (by decide)
  have h2 := c_i2l (y &&& 15)
  rw [← hx] at h2
  have h3 := c_ladd t x
  have h4 := rng64 (t + x)
  have h5 := c_ladd (t + x) 1
  have h6 := rng64 (t + x + 1)
  have h7 : (1 : Int64).toInt = 1 := rfl
  rw [← h] at h5 h6
  omega
theorem own_mb2 {a b A B : Int} (h1 : -A ≤ a) (h2 : a ≤ A) (h3 : -B ≤ b) (h4 : b ≤ B) (hA : 0 ≤ A) (hB : 0 ≤ B) : -(A * B) ≤ a * b ∧ a * b ≤ A * B := by
  have h : (a * b).natAbs ≤ A.natAbs * B.natAbs := by rw [Int.natAbs_mul]; exact Nat.mul_le_mul (by omega) (by omega)
  have e : ((A.natAbs * B.natAbs : Nat) : Int) = A * B := by rw [Int.natCast_mul, Int.natAbs_of_nonneg hA, Int.natAbs_of_nonneg hB]
  omega
theorem own_lm {x y : Int64} {A B : Int} (h1 : -A ≤ x.toInt) (h2 : x.toInt ≤ A) (h3 : -B ≤ y.toInt) (h4 : y.toInt ≤ B) (hA : 0 ≤ A) (hB : 0 ≤ B) (hAB : A * B ≤ 1000000000) : (x * y).toInt = x.toInt * y.toInt ∧ -(A * B) ≤ x.toInt * y.toInt ∧ x.toInt * y.toInt ≤ A * B := by
  have k := own_mb2 h1 h2 h3 h4 hA hB
  have q1 := c_lmul x y
  have q2 := rng64 (x * y)
  refine ⟨?_, k⟩
  omega
theorem own_val {p q r t : Int64} (p1 : -16 ≤ p.toInt) (p2 : p.toInt ≤ 16) (q1 : -16 ≤ q.toInt) (q2 : q.toInt ≤ 16) (r1 : -128 ≤ r.toInt) (r2 : r.toInt ≤ 128) (t1 : -120 ≤ t.toInt) (t2 : t.toInt ≤ 120) : (p * t * t + q * t + r).toInt = p.toInt * t.toInt * t.toInt + q.toInt * t.toInt + r.toInt ∧ (p * t * t + q * t + r).toInt.natAbs ≤ 262144 := by
  have a := own_lm (x := p) (y := t) p1 p2 t1 t2 (by decide) (by decide) (by decide)
  have b := own_lm (x := p * t) (y := t) (A := 1920) (by rw [a.1]; have := a.2; omega) (by rw [a.1]; have := a.2; omega) t1 t2 (by decide) (by decide) (by decide)
  have c := own_lm (x := q) (y := t) q1 q2 t1 t2 (by decide) (by decide) (by decide)
  have d1 := c_ladd (p * t * t) (q * t)
  have d2 := rng64 (p * t * t + q * t)
  have d3 := c_ladd (p * t * t + q * t) r
  have d4 := rng64 (p * t * t + q * t + r)
  have bb := b.2
  have cc := c.2
  have b1 := b.1
  have c1 := c.1
  rw [a.1] at b1 bb
  generalize p.toInt * t.toInt * t.toInt = P at *
  generalize q.toInt * t.toInt = Q at *
  omega
theorem own_sl {p q a b : Int64} (p1 : -16 ≤ p.toInt) (p2 : p.toInt ≤ 16) (q1 : -16 ≤ q.toInt) (q2 : q.toInt ≤ 16) (a1 : -120 ≤ a.toInt) (a2 : a.toInt ≤ 120) (b1 : -120 ≤ b.toInt) (b2 : b.toInt ≤ 120) : (p * (a + b) + q).toInt = p.toInt * (a.toInt + b.toInt) + q.toInt ∧ (p * (a + b) + q).toInt.natAbs ≤ 100000 := by
  have e1 := c_ladd a b
  have e2 := rng64 (a + b)
  have e : (a + b).toInt = a.toInt + b.toInt := by omega
  have k := own_lm (x := p) (y := a + b) (B := 240) p1 p2 (by omega) (by omega) (by decide) (by decide) (by decide)
  have d1 := c_ladd (p * (a + b)) q
  have d2 := rng64 (p * (a + b) + q)
  have kk := k.2
  have k1 := k.1
  rw [e] at k1 kk
  generalize p.toInt * (a.toInt + b.toInt) = P at *
  omega
theorem own_cn {p q t : Int64} (p1 : -16 ≤ p.toInt) (p2 : p.toInt ≤ 16) (q1 : -16 ≤ q.toInt) (q2 : q.toInt ≤ 16) (t1 : -120 ≤ t.toInt) (t2 : t.toInt ≤ 120) : (2 * p * t + q).toInt = 2 * p.toInt * t.toInt + q.toInt ∧ (2 * p * t + q).toInt.natAbs ≤ 100000 := by
  have a := own_lm (x := 2) (y := p) (A := 2) (B := 16) (by decide) (by decide) p1 p2 (by decide) (by decide) (by decide)
  have z : (2 : Int64).toInt = 2 := rfl
  have a1 := a.1
  have aa := a.2
  rw [z] at a1 aa
  have b := own_lm (x := 2 * p) (y := t) (A := 32) (by omega) (by omega) t1 t2 (by decide) (by decide) (by decide)
  have d1 := c_ladd (2 * p * t) q
  have d2 := rng64 (2 * p * t + q)
  have bb := b.2
  have b1 := b.1
  rw [a1] at b1 bb
  generalize 2 * p.toInt * t.toInt = P at *
  omega
theorem own_l2d {v : Int64} (h : v.toInt.natAbs ≤ 262144) : Dy v.toInt 1074 (FP.l2d v) := dy_int (FP.Core.l2d_int (by rw [own_p53]; omega))
set_option maxRecDepth 65536 in
set_option maxHeartbeats 40000000 in
theorem rm0 (l : Launch) (Z : State) (a0 : Array Value) (hw : ∀ d ∈ tables_1, d.before a0 Z = true) (ws : List Jvm.Cond) (n0 : Nat) (x0 : Int32) (x1 : Int32) (x2 : Int32) (x3 : Int32) (x4 : Int32) (x5 : Int32) (h0 : Heap) (hn0 : n0 ≤ h0.size)  :
    Con l Z n0 x code maxLocals ret ws room_1 #[(.int x0), (.int x1), (.int x2), (.int x3), (.int x4), (.int x5)] h0 (fun v h => v = some (.int 1)) := by
  refine con_start (plainFor_of_name (by first | (simp [plainName, overriddenIn]; done) | decide +kernel)) (fr0 := fun m => mkF m 0 #[.val (.int x0), .val (.int x1), .val (.int x2), .val (.int x3), .val (.int x4), .val (.int x5), .unset, .unset, .unset, .unset, .unset, .unset, .unset, .unset, .unset, .unset, .unset, .unset, .unset, .unset, .unset, .unset, .unset, .unset, .unset, .unset] []) (fun m => by first | (simp [entryFrame, mkF, argsToLocals, Value.category, maxLocals]; done) | rfl) ?_
  intro p e s m below meth c T0 hx hZ hby hml hown hnm hret hlk X0
  replace hown : s.vm.findClass "com/example/measured_traces/measuredtraces/DerivativesEstimatePinLaw" = some m.cls := hown
  replace hml : c.maxLocals = 26 := hml
  refine g_iloadN X0 hx (pc' := 1) rfl (hb hby at_0) rfl ?_
  refine g_iconst X0 hx (pc' := 2) (z := (3 : Int32)) rfl (hb hby at_1) rfl ?_
  refine g_iand X0 hx (pc' := 3) rfl (hb hby at_2) ?_
  refine g_iconst X0 hx (pc' := 4) (z := (1 : Int32)) rfl (hb hby at_3) rfl ?_
  refine g_iadd X0 hx (pc' := 5) rfl (hb hby at_4) ?_
  refine g_absI (fun n h_n => ?_)
  refine g_istore X0 hx (pc' := 7) rfl (hb hby at_5) (l' := #[.val (.int x0), .val (.int x1), .val (.int x2), .val (.int x3), .val (.int x4), .val (.int x5), .val (.int n), .unset, .unset, .unset, .unset, .unset, .unset, .unset, .unset, .unset, .unset, .unset, .unset, .unset, .unset, .unset, .unset, .unset, .unset, .unset]) rfl ?_
  refine g_iloadN X0 hx (pc' := 8) rfl (hb hby at_7) rfl ?_
  refine g_bipush X0 hx (pc' := 10) (z := (31 : Int32)) rfl (hb hby at_8) rfl ?_
  refine g_iand X0 hx (pc' := 11) rfl (hb hby at_10) ?_
  refine g_bipush X0 hx (pc' := 13) (z := (16 : Int32)) rfl (hb hby at_11) rfl ?_
  refine g_isub X0 hx (pc' := 14) rfl (hb hby at_13) ?_
  refine g_i2l X0 hx (pc' := 15) rfl (hb hby at_14) ?_
  refine g_absL (fun P' h_P' => ?_)
  refine g_lstore X0 hx (pc' := 17) rfl (hb hby at_15) (l' := #[.val (.int x0), .val (.int x1), .val (.int x2), .val (.int x3), .val (.int x4), .val (.int x5), .val (.int n), .val (.long P'), .second, .unset, .unset, .unset, .unset, .unset, .unset, .unset, .unset, .unset, .unset, .unset, .unset, .unset, .unset, .unset, .unset, .unset]) rfl ?_
  refine g_iload X0 hx (pc' := 19) rfl (hb hby at_17) rfl ?_
  refine g_bipush X0 hx (pc' := 21) (z := (31 : Int32)) rfl (hb hby at_19) rfl ?_
  refine g_iand X0 hx (pc' := 22) rfl (hb hby at_21) ?_
  refine g_bipush X0 hx (pc' := 24) (z := (16 : Int32)) rfl (hb hby at_22) rfl ?_
  refine g_isub X0 hx (pc' := 25) rfl (hb hby at_24) ?_
  refine g_i2l X0 hx (pc' := 26) rfl (hb hby at_25) ?_
  refine g_absL (fun Q' h_Q' => ?_)
  refine g_lstore X0 hx (pc' := 28) rfl (hb hby at_26) (l' := #[.val (.int x0), .val (.int x1), .val (.int x2), .val (.int x3), .val (.int x4), .val (.int x5), .val (.int n), .val (.long P'), .second, .val (.long Q'), .second, .unset, .unset, .unset, .unset, .unset, .unset, .unset, .unset, .unset, .unset, .unset, .unset, .unset, .unset, .unset]) rfl ?_
  refine g_iload X0 hx (pc' := 30) rfl (hb hby at_28) rfl ?_
  refine g_sipush X0 hx (pc' := 33) (z := (255 : Int32)) rfl (hb hby at_30) rfl ?_
  refine g_iand X0 hx (pc' := 34) rfl (hb hby at_33) ?_
  refine g_sipush X0 hx (pc' := 37) (z := (128 : Int32)) rfl (hb hby at_34) rfl ?_
  refine g_isub X0 hx (pc' := 38) rfl (hb hby at_37) ?_
  refine g_i2l X0 hx (pc' := 39) rfl (hb hby at_38) ?_
  refine g_absL (fun R' h_R' => ?_)
  refine g_lstore X0 hx (pc' := 41) rfl (hb hby at_39) (l' := #[.val (.int x0), .val (.int x1), .val (.int x2), .val (.int x3), .val (.int x4), .val (.int x5), .val (.int n), .val (.long P'), .second, .val (.long Q'), .second, .val (.long R'), .second, .unset, .unset, .unset, .unset, .unset, .unset, .unset, .unset, .unset, .unset, .unset, .unset, .unset]) rfl ?_
  refine g_iloadN X0 hx (pc' := 42) rfl (hb hby at_41) rfl ?_
  refine g_bipush X0 hx (pc' := 44) (z := (127 : Int32)) rfl (hb hby at_42) rfl ?_
  refine g_iand X0 hx (pc' := 45) rfl (hb hby at_44) ?_
  refine g_bipush X0 hx (pc' := 47) (z := (64 : Int32)) rfl (hb hby at_45) rfl ?_
  refine g_isub X0 hx (pc' := 48) rfl (hb hby at_47) ?_
  refine g_i2l X0 hx (pc' := 49) rfl (hb hby at_48) ?_
  refine g_absL (fun T0' h_T0' => ?_)
  refine g_lstore X0 hx (pc' := 51) rfl (hb hby at_49) (l' := #[.val (.int x0), .val (.int x1), .val (.int x2), .val (.int x3), .val (.int x4), .val (.int x5), .val (.int n), .val (.long P'), .second, .val (.long Q'), .second, .val (.long R'), .second, .val (.long T0'), .second, .unset, .unset, .unset, .unset, .unset, .unset, .unset, .unset, .unset, .unset, .unset]) rfl ?_
  refine g_lload X0 hx (pc' := 53) rfl (hb hby at_51) rfl ?_
  refine g_iloadN X0 hx (pc' := 54) rfl (hb hby at_53) rfl ?_
  refine g_bipush X0 hx (pc' := 56) (z := (15 : Int32)) rfl (hb hby at_54) rfl ?_
  refine g_iand X0 hx (pc' := 57) rfl (hb hby at_56) ?_
  refine g_i2l X0 hx (pc' := 58) rfl (hb hby at_57) ?_
  refine g_ladd X0 hx (pc' := 59) rfl (hb hby at_58) ?_
  refine g_lconst X0 hx (pc' := 60) (z := (1 : Int64)) rfl (hb hby at_59) rfl ?_
  refine g_ladd X0 hx (pc' := 61) rfl (hb hby at_60) ?_
  refine g_absL (fun T1' h_T1' => ?_)
  refine g_lstore X0 hx (pc' := 63) rfl (hb hby at_61) (l' := #[.val (.int x0), .val (.int x1), .val (.int x2), .val (.int x3), .val (.int x4), .val (.int x5), .val (.int n), .val (.long P'), .second, .val (.long Q'), .second, .val (.long R'), .second, .val (.long T0'), .second, .val (.long T1'), .second, .unset, .unset, .unset, .unset, .unset, .unset, .unset, .unset, .unset]) rfl ?_
  refine g_lload X0 hx (pc' := 65) rfl (hb hby at_63) rfl ?_
  refine g_iloadN X0 hx (pc' := 66) rfl (hb hby at_65) rfl ?_
  refine g_iconst X0 hx (pc' := 67) (z := (4 : Int32)) rfl (hb hby at_66) rfl ?_
  refine g_iushr X0 hx (pc' := 68) rfl (hb hby at_67) ?_
  refine g_bipush X0 hx (pc' := 70) (z := (15 : Int32)) rfl (hb hby at_68) rfl ?_
  refine g_iand X0 hx (pc' := 71) rfl (hb hby at_70) ?_
  refine g_i2l X0 hx (pc' := 72) rfl (hb hby at_71) ?_
  refine g_ladd X0 hx (pc' := 73) rfl (hb hby at_72) ?_
  refine g_lconst X0 hx (pc' := 74) (z := (1 : Int64)) rfl (hb hby at_73) rfl ?_
  refine g_ladd X0 hx (pc' := 75) rfl (hb hby at_74) ?_
  refine g_absL (fun T2' h_T2' => ?_)
  refine g_lstore X0 hx (pc' := 77) rfl (hb hby at_75) (l' := #[.val (.int x0), .val (.int x1), .val (.int x2), .val (.int x3), .val (.int x4), .val (.int x5), .val (.int n), .val (.long P'), .second, .val (.long Q'), .second, .val (.long R'), .second, .val (.long T0'), .second, .val (.long T1'), .second, .val (.long T2'), .second, .unset, .unset, .unset, .unset, .unset, .unset, .unset]) rfl ?_
  refine g_lload X0 hx (pc' := 79) rfl (hb hby at_77) rfl ?_
  refine g_iloadN X0 hx (pc' := 80) rfl (hb hby at_79) rfl ?_
  refine g_bipush X0 hx (pc' := 82) (z := (8 : Int32)) rfl (hb hby at_80) rfl ?_
  refine g_iushr X0 hx (pc' := 83) rfl (hb hby at_82) ?_
  refine g_bipush X0 hx (pc' := 85) (z := (15 : Int32)) rfl (hb hby at_83) rfl ?_
  refine g_iand X0 hx (pc' := 86) rfl (hb hby at_85) ?_
  refine g_i2l X0 hx (pc' := 87) rfl (hb hby at_86) ?_
  refine g_ladd X0 hx (pc' := 88) rfl (hb hby at_87) ?_
  refine g_lconst X0 hx (pc' := 89) (z := (1 : Int64)) rfl (hb hby at_88) rfl ?_
  refine g_ladd X0 hx (pc' := 90) rfl (hb hby at_89) ?_
  refine g_absL (fun T3' h_T3' => ?_)
  refine g_lstore X0 hx (pc' := 92) rfl (hb hby at_90) (l' := #[.val (.int x0), .val (.int x1), .val (.int x2), .val (.int x3), .val (.int x4), .val (.int x5), .val (.int n), .val (.long P'), .second, .val (.long Q'), .second, .val (.long R'), .second, .val (.long T0'), .second, .val (.long T1'), .second, .val (.long T2'), .second, .val (.long T3'), .second, .unset, .unset, .unset, .unset, .unset]) rfl ?_
  have bP : -16 ≤ P'.toInt ∧ P'.toInt ≤ 16 := by have q := own_msub x3 31 16 (by decide) (by decide) (by decide) (by decide); rw [← h_P'] at q; exact ⟨q.1, Int.le_trans q.2 (by decide)⟩
  have bQ : -16 ≤ Q'.toInt ∧ Q'.toInt ≤ 16 := by have q := own_msub x4 31 16 (by decide) (by decide) (by decide) (by decide); rw [← h_Q'] at q; exact ⟨q.1, Int.le_trans q.2 (by decide)⟩
  have bR : -128 ≤ R'.toInt ∧ R'.toInt ≤ 128 := by have q := own_msub x5 255 128 (by decide) (by decide) (by decide) (by decide); rw [← h_R'] at q; exact ⟨q.1, Int.le_trans q.2 (by decide)⟩
  have bT : -64 ≤ T0'.toInt ∧ T0'.toInt ≤ 63 := by have q := own_msub x1 127 64 (by decide) (by decide) (by decide) (by decide); rw [← h_T0'] at q; exact q
  have g0 := own_step (by omega) (by omega) rfl h_T1'
  have g1 := own_step (by omega) (by omega) rfl h_T2'
  have g2 := own_step (by omega) (by omega) rfl h_T3'
  have b0 : -120 ≤ T0'.toInt ∧ T0'.toInt ≤ 120 := by omega
  have b1 : -120 ≤ T1'.toInt ∧ T1'.toInt ≤ 120 := by omega
  have b2 : -120 ≤ T2'.toInt ∧ T2'.toInt ≤ 120 := by omega
  have b3 : -120 ≤ T3'.toInt ∧ T3'.toInt ≤ 120 := by omega
  have hn : n = 1 ∨ n = 2 ∨ n = 3 ∨ n = 4 := by rw [h_n]; rcases own_and3 x0 with q | q | q | q <;> rw [q] <;> decide
  clear h_n
  rcases hn with q | q | q | q
  · subst q
    refine g_iload X0 hx (pc' := 94) rfl (hb hby at_92) rfl ?_
    refine g_lload X0 hx (pc' := 96) rfl (hb hby at_94) rfl ?_
    refine g_l2d X0 hx (pc' := 97) rfl (hb hby at_96) ?_
    refine g_lload X0 hx (pc' := 99) rfl (hb hby at_97) rfl ?_
    refine g_l2d X0 hx (pc' := 100) rfl (hb hby at_99) ?_
    refine g_lload X0 hx (pc' := 102) rfl (hb hby at_100) rfl ?_
    refine g_l2d X0 hx (pc' := 103) rfl (hb hby at_102) ?_
    refine g_lload X0 hx (pc' := 105) rfl (hb hby at_103) rfl ?_
    refine g_l2d X0 hx (pc' := 106) rfl (hb hby at_105) ?_
    refine g_callS X0 hx hZ hown (hw _ (List.mem_of_getElem? (i := 0) rfl)) (hw _ (List.mem_of_getElem? (i := 1) rfl)) (hw _ (List.mem_of_getElem? (i := 2) rfl)) (hw _ (List.mem_of_getElem? (i := 3) rfl)) (by decide) (rm1_1 l Z a0 hw [] n0 (FP.l2d T0') (FP.l2d T1') (FP.l2d T2') (FP.l2d T3') h0 hn0) pd_0 rfl rfl (by rw [hml]; rfl) (pc' := 109) rfl (hb hby at_106) (argsL := [(.int (1 : Int32)), (.double (FP.l2d T0')), (.double (FP.l2d T1')), (.double (FP.l2d T2')), (.double (FP.l2d T3'))]) (rest := []) rfl (W := 0) (Nat.le_of_eq rfl) (by decide) (by decide) (by decide) (by decide) (fun v145 T145 h145 X145 hQ145 => ?_)
    obtain ⟨ta, rfl, G145, S145, K145, A145⟩ := hQ145
    have zs145 : n0 ≤ h145.size := Nat.le_trans hn0 K145.1
    show Go p e below s n0 _ _ _ (T145.setTop (mkF m 109 #[.val (.int x0), .val (.int x1), .val (.int x2), .val (.int x3), .val (.int x4), .val (.int x5), .val (.int (1 : Int32)), .val (.long P'), .second, .val (.long Q'), .second, .val (.long R'), .second, .val (.long T0'), .second, .val (.long T1'), .second, .val (.long T2'), .second, .val (.long T3'), .second, .unset, .unset, .unset, .unset, .unset] [(.ref ta)]))
    refine g_astore X145 hx (pc' := 111) rfl (hb hby at_109) rfl (l' := #[.val (.int x0), .val (.int x1), .val (.int x2), .val (.int x3), .val (.int x4), .val (.int x5), .val (.int (1 : Int32)), .val (.long P'), .second, .val (.long Q'), .second, .val (.long R'), .second, .val (.long T0'), .second, .val (.long T1'), .second, .val (.long T2'), .second, .val (.long T3'), .second, .val (.ref ta), .unset, .unset, .unset, .unset]) rfl ?_
    refine g_iload X145 hx (pc' := 113) rfl (hb hby at_111) rfl ?_
    refine g_lload X145 hx (pc' := 115) rfl (hb hby at_113) rfl ?_
    refine g_lload X145 hx (pc' := 117) rfl (hb hby at_115) rfl ?_
    refine g_lload X145 hx (pc' := 119) rfl (hb hby at_117) rfl ?_
    refine g_lload X145 hx (pc' := 121) rfl (hb hby at_119) rfl ?_
    refine g_callS X145 hx hZ hown (hw _ (List.mem_of_getElem? (i := 5) rfl)) (hw _ (List.mem_of_getElem? (i := 6) rfl)) (hw _ (List.mem_of_getElem? (i := 2) rfl)) (hw _ (List.mem_of_getElem? (i := 7) rfl)) (by decide) (rm2 l Z a0 hw [] n0 P' Q' R' T0' h145 zs145) pd_1 rfl rfl (by rw [hml]; rfl) (pc' := 124) rfl (hb hby at_121) (argsL := [(.long P'), (.long Q'), (.long R'), (.long T0')]) (rest := [(.int (1 : Int32))]) rfl (W := 1) (Nat.le_of_eq rfl) (by decide) (by decide) (by decide) (by decide) (fun v146 T146 h146 X146 hQ146 => ?_)
    obtain ⟨rfl, he146⟩ := hQ146
    rw [he146] at X146
    show Go p e below s n0 _ _ _ (T146.setTop (mkF m 124 #[.val (.int x0), .val (.int x1), .val (.int x2), .val (.int x3), .val (.int x4), .val (.int x5), .val (.int (1 : Int32)), .val (.long P'), .second, .val (.long Q'), .second, .val (.long R'), .second, .val (.long T0'), .second, .val (.long T1'), .second, .val (.long T2'), .second, .val (.long T3'), .second, .val (.ref ta), .unset, .unset, .unset, .unset] [(.double (FP.l2d (P' * T0' * T0' + Q' * T0' + R'))), (.int (1 : Int32))]))
    refine g_lload X146 hx (pc' := 126) rfl (hb hby at_124) rfl ?_
    refine g_lload X146 hx (pc' := 128) rfl (hb hby at_126) rfl ?_
    refine g_lload X146 hx (pc' := 130) rfl (hb hby at_128) rfl ?_
    refine g_lload X146 hx (pc' := 132) rfl (hb hby at_130) rfl ?_
    refine g_callS X146 hx hZ hown (hw _ (List.mem_of_getElem? (i := 5) rfl)) (hw _ (List.mem_of_getElem? (i := 6) rfl)) (hw _ (List.mem_of_getElem? (i := 2) rfl)) (hw _ (List.mem_of_getElem? (i := 7) rfl)) (by decide) (rm2 l Z a0 hw [] n0 P' Q' R' T1' h145 zs145) pd_1 rfl rfl (by rw [hml]; rfl) (pc' := 135) rfl (hb hby at_132) (argsL := [(.long P'), (.long Q'), (.long R'), (.long T1')]) (rest := [(.double (FP.l2d (P' * T0' * T0' + Q' * T0' + R'))), (.int (1 : Int32))]) rfl (W := 3) (Nat.le_of_eq rfl) (by decide) (by decide) (by decide) (by decide) (fun v147 T147 h147 X147 hQ147 => ?_)
    obtain ⟨rfl, he147⟩ := hQ147
    rw [he147] at X147
    show Go p e below s n0 _ _ _ (T147.setTop (mkF m 135 #[.val (.int x0), .val (.int x1), .val (.int x2), .val (.int x3), .val (.int x4), .val (.int x5), .val (.int (1 : Int32)), .val (.long P'), .second, .val (.long Q'), .second, .val (.long R'), .second, .val (.long T0'), .second, .val (.long T1'), .second, .val (.long T2'), .second, .val (.long T3'), .second, .val (.ref ta), .unset, .unset, .unset, .unset] [(.double (FP.l2d (P' * T1' * T1' + Q' * T1' + R'))), (.double (FP.l2d (P' * T0' * T0' + Q' * T0' + R'))), (.int (1 : Int32))]))
    refine g_lload X147 hx (pc' := 137) rfl (hb hby at_135) rfl ?_
    refine g_lload X147 hx (pc' := 139) rfl (hb hby at_137) rfl ?_
    refine g_lload X147 hx (pc' := 141) rfl (hb hby at_139) rfl ?_
    refine g_lload X147 hx (pc' := 143) rfl (hb hby at_141) rfl ?_
    refine g_callS X147 hx hZ hown (hw _ (List.mem_of_getElem? (i := 5) rfl)) (hw _ (List.mem_of_getElem? (i := 6) rfl)) (hw _ (List.mem_of_getElem? (i := 2) rfl)) (hw _ (List.mem_of_getElem? (i := 7) rfl)) (by decide) (rm2 l Z a0 hw [] n0 P' Q' R' T2' h145 zs145) pd_1 rfl rfl (by rw [hml]; rfl) (pc' := 146) rfl (hb hby at_143) (argsL := [(.long P'), (.long Q'), (.long R'), (.long T2')]) (rest := [(.double (FP.l2d (P' * T1' * T1' + Q' * T1' + R'))), (.double (FP.l2d (P' * T0' * T0' + Q' * T0' + R'))), (.int (1 : Int32))]) rfl (W := 5) (Nat.le_of_eq rfl) (by decide) (by decide) (by decide) (by decide) (fun v148 T148 h148 X148 hQ148 => ?_)
    obtain ⟨rfl, he148⟩ := hQ148
    rw [he148] at X148
    show Go p e below s n0 _ _ _ (T148.setTop (mkF m 146 #[.val (.int x0), .val (.int x1), .val (.int x2), .val (.int x3), .val (.int x4), .val (.int x5), .val (.int (1 : Int32)), .val (.long P'), .second, .val (.long Q'), .second, .val (.long R'), .second, .val (.long T0'), .second, .val (.long T1'), .second, .val (.long T2'), .second, .val (.long T3'), .second, .val (.ref ta), .unset, .unset, .unset, .unset] [(.double (FP.l2d (P' * T2' * T2' + Q' * T2' + R'))), (.double (FP.l2d (P' * T1' * T1' + Q' * T1' + R'))), (.double (FP.l2d (P' * T0' * T0' + Q' * T0' + R'))), (.int (1 : Int32))]))
    refine g_lload X148 hx (pc' := 148) rfl (hb hby at_146) rfl ?_
    refine g_lload X148 hx (pc' := 150) rfl (hb hby at_148) rfl ?_
    refine g_lload X148 hx (pc' := 152) rfl (hb hby at_150) rfl ?_
    refine g_lload X148 hx (pc' := 154) rfl (hb hby at_152) rfl ?_
    refine g_callS X148 hx hZ hown (hw _ (List.mem_of_getElem? (i := 5) rfl)) (hw _ (List.mem_of_getElem? (i := 6) rfl)) (hw _ (List.mem_of_getElem? (i := 2) rfl)) (hw _ (List.mem_of_getElem? (i := 7) rfl)) (by decide) (rm2 l Z a0 hw [] n0 P' Q' R' T3' h145 zs145) pd_1 rfl rfl (by rw [hml]; rfl) (pc' := 157) rfl (hb hby at_154) (argsL := [(.long P'), (.long Q'), (.long R'), (.long T3')]) (rest := [(.double (FP.l2d (P' * T2' * T2' + Q' * T2' + R'))), (.double (FP.l2d (P' * T1' * T1' + Q' * T1' + R'))), (.double (FP.l2d (P' * T0' * T0' + Q' * T0' + R'))), (.int (1 : Int32))]) rfl (W := 7) (Nat.le_of_eq rfl) (by decide) (by decide) (by decide) (by decide) (fun v149 T149 h149 X149 hQ149 => ?_)
    obtain ⟨rfl, he149⟩ := hQ149
    rw [he149] at X149
    show Go p e below s n0 _ _ _ (T149.setTop (mkF m 157 #[.val (.int x0), .val (.int x1), .val (.int x2), .val (.int x3), .val (.int x4), .val (.int x5), .val (.int (1 : Int32)), .val (.long P'), .second, .val (.long Q'), .second, .val (.long R'), .second, .val (.long T0'), .second, .val (.long T1'), .second, .val (.long T2'), .second, .val (.long T3'), .second, .val (.ref ta), .unset, .unset, .unset, .unset] [(.double (FP.l2d (P' * T3' * T3' + Q' * T3' + R'))), (.double (FP.l2d (P' * T2' * T2' + Q' * T2' + R'))), (.double (FP.l2d (P' * T1' * T1' + Q' * T1' + R'))), (.double (FP.l2d (P' * T0' * T0' + Q' * T0' + R'))), (.int (1 : Int32))]))
    refine g_callS X149 hx hZ hown (hw _ (List.mem_of_getElem? (i := 0) rfl)) (hw _ (List.mem_of_getElem? (i := 1) rfl)) (hw _ (List.mem_of_getElem? (i := 2) rfl)) (hw _ (List.mem_of_getElem? (i := 3) rfl)) (by decide) (rm1_1 l Z a0 hw [] n0 (FP.l2d (P' * T0' * T0' + Q' * T0' + R')) (FP.l2d (P' * T1' * T1' + Q' * T1' + R')) (FP.l2d (P' * T2' * T2' + Q' * T2' + R')) (FP.l2d (P' * T3' * T3' + Q' * T3' + R')) h145 zs145) pd_0 rfl rfl (by rw [hml]; rfl) (pc' := 160) rfl (hb hby at_157) (argsL := [(.int (1 : Int32)), (.double (FP.l2d (P' * T0' * T0' + Q' * T0' + R'))), (.double (FP.l2d (P' * T1' * T1' + Q' * T1' + R'))), (.double (FP.l2d (P' * T2' * T2' + Q' * T2' + R'))), (.double (FP.l2d (P' * T3' * T3' + Q' * T3' + R')))]) (rest := []) rfl (W := 0) (Nat.le_of_eq rfl) (by decide) (by decide) (by decide) (by decide) (fun v150 T150 h150 X150 hQ150 => ?_)
    obtain ⟨va, rfl, G150, S150, K150, A150⟩ := hQ150
    have zs150 : n0 ≤ h150.size := Nat.le_trans zs145 K150.1
    have O150_ta := A145.keep K150 nin0
    show Go p e below s n0 _ _ _ (T150.setTop (mkF m 160 #[.val (.int x0), .val (.int x1), .val (.int x2), .val (.int x3), .val (.int x4), .val (.int x5), .val (.int (1 : Int32)), .val (.long P'), .second, .val (.long Q'), .second, .val (.long R'), .second, .val (.long T0'), .second, .val (.long T1'), .second, .val (.long T2'), .second, .val (.long T3'), .second, .val (.ref ta), .unset, .unset, .unset, .unset] [(.ref va)]))
    refine g_astore X150 hx (pc' := 162) rfl (hb hby at_160) rfl (l' := #[.val (.int x0), .val (.int x1), .val (.int x2), .val (.int x3), .val (.int x4), .val (.int x5), .val (.int (1 : Int32)), .val (.long P'), .second, .val (.long Q'), .second, .val (.long R'), .second, .val (.long T0'), .second, .val (.long T1'), .second, .val (.long T2'), .second, .val (.long T3'), .second, .val (.ref ta), .val (.ref va), .unset, .unset, .unset]) rfl ?_
    refine g_aload X150 hx (pc' := 164) rfl (hb hby at_162) rfl rfl ?_
    refine g_aload X150 hx (pc' := 166) rfl (hb hby at_164) rfl rfl ?_
    have vb0 := own_val bP.1 bP.2 bQ.1 bQ.2 bR.1 bR.2 b0.1 b0.2
    refine g_callS X150 hx hZ hown (hw _ (List.mem_of_getElem? (i := 8) rfl)) (hw _ (List.mem_of_getElem? (i := 9) rfl)) (hw _ (List.mem_of_getElem? (i := 10) rfl)) (hw _ (List.mem_of_getElem? (i := 11) rfl)) (by decide) (rm3_1 l Z a0 hw [] n0 ta va (FP.l2d T0') (FP.l2d (P' * T0' * T0' + Q' * T0' + R')) T0'.toInt (P' * T0' * T0' + Q' * T0' + R').toInt 0 h150 zs150 O150_ta A150 (own_l2d (by omega)) (by omega) (own_l2d vb0.2) vb0.2  (by decide)) pd_2 rfl rfl (by rw [hml]; rfl) (pc' := 169) rfl (hb hby at_166) (argsL := [(.ref ta), (.ref va)]) (rest := []) rfl (W := 0) (Nat.le_of_eq rfl) (by decide) (by decide) (by decide) (by decide) (fun v151 T151 h151 X151 hQ151 => ?_)
    obtain ⟨da, rfl, G151, K151, y0, A151, fy0⟩ := hQ151
    have zs151 : n0 ≤ h151.size := Nat.le_trans zs150 K151.1
    show Go p e below s n0 _ _ _ (T151.setTop (mkF m 169 #[.val (.int x0), .val (.int x1), .val (.int x2), .val (.int x3), .val (.int x4), .val (.int x5), .val (.int (1 : Int32)), .val (.long P'), .second, .val (.long Q'), .second, .val (.long R'), .second, .val (.long T0'), .second, .val (.long T1'), .second, .val (.long T2'), .second, .val (.long T3'), .second, .val (.ref ta), .val (.ref va), .unset, .unset, .unset] [(.ref da)]))
    refine g_astore X151 hx (pc' := 171) rfl (hb hby at_169) rfl (l' := #[.val (.int x0), .val (.int x1), .val (.int x2), .val (.int x3), .val (.int x4), .val (.int x5), .val (.int (1 : Int32)), .val (.long P'), .second, .val (.long Q'), .second, .val (.long R'), .second, .val (.long T0'), .second, .val (.long T1'), .second, .val (.long T2'), .second, .val (.long T3'), .second, .val (.ref ta), .val (.ref va), .val (.ref da), .unset, .unset]) rfl ?_
    refine g_aload X151 hx (pc' := 173) rfl (hb hby at_171) rfl rfl ?_
    refine g_alenD X151 hx hZ A151 (z := (1 : Int32)) rfl (pc' := 174) rfl (hb hby at_173) ?_
    refine g_iload X151 hx (pc' := 176) rfl (hb hby at_174) rfl ?_
    refine g_icmpY X151 hx (pcY := 181) (hb hby at_176) (by decide) (by decide) (show (1 : Int32) = (1 : Int32) from by decide) ?_
    refine g_iload X151 hx (pc' := 183) rfl (hb hby at_181) rfl ?_
    refine g_iconst X151 hx (pc' := 184) (z := (1 : Int32)) rfl (hb hby at_183) rfl ?_
    refine g_icmpN X151 hx (pcN := 187) (hb hby at_184) rfl (show ¬ (¬ (1 : Int32) = (1 : Int32)) from by decide) ?_
    refine g_aload X151 hx (pc' := 189) rfl (hb hby at_187) rfl rfl ?_
    refine g_iconst X151 hx (pc' := 190) (z := (0 : Int32)) rfl (hb hby at_189) rfl ?_
    refine g_daload X151 hx hZ A151 (i := 0) (by decide) (show (0 : Nat) < 1 by decide) (v := y0) rfl (pc' := 191) rfl (hb hby at_190) ?_
    refine g_dconst0 X151 hx (pc' := 192) rfl (hb hby at_191) ?_
    refine g_dcmp X151 hx (pc' := 193) (z := (0 : Int32)) rfl (hb hby at_192) (by rw [fy0]; decide +kernel) ?_
    refine g_ifN X151 hx (pcN := 196) (hb hby at_193) rfl (show ¬ (¬ (0 : Int32) = 0) from by decide) ?_
    refine g_iconst X151 hx (pc' := 197) (z := (1 : Int32)) rfl (hb hby at_196) rfl ?_
    refine g_goto X151 hx (pc' := 201) (hb hby at_197) (by decide) (by decide) ?_
    exact g_retZ X151 hx hlk hret (Or.inr rfl) (hb hby at_201) (by decide) (by decide) (rfl)
  · subst q
    refine g_iload X0 hx (pc' := 94) rfl (hb hby at_92) rfl ?_
    refine g_lload X0 hx (pc' := 96) rfl (hb hby at_94) rfl ?_
    refine g_l2d X0 hx (pc' := 97) rfl (hb hby at_96) ?_
    refine g_lload X0 hx (pc' := 99) rfl (hb hby at_97) rfl ?_
    refine g_l2d X0 hx (pc' := 100) rfl (hb hby at_99) ?_
    refine g_lload X0 hx (pc' := 102) rfl (hb hby at_100) rfl ?_
    refine g_l2d X0 hx (pc' := 103) rfl (hb hby at_102) ?_
    refine g_lload X0 hx (pc' := 105) rfl (hb hby at_103) rfl ?_
    refine g_l2d X0 hx (pc' := 106) rfl (hb hby at_105) ?_
    refine g_callS X0 hx hZ hown (hw _ (List.mem_of_getElem? (i := 0) rfl)) (hw _ (List.mem_of_getElem? (i := 1) rfl)) (hw _ (List.mem_of_getElem? (i := 2) rfl)) (hw _ (List.mem_of_getElem? (i := 3) rfl)) (by decide) (rm1_2 l Z a0 hw [] n0 (FP.l2d T0') (FP.l2d T1') (FP.l2d T2') (FP.l2d T3') h0 hn0) pd_0 rfl rfl (by rw [hml]; rfl) (pc' := 109) rfl (hb hby at_106) (argsL := [(.int (2 : Int32)), (.double (FP.l2d T0')), (.double (FP.l2d T1')), (.double (FP.l2d T2')), (.double (FP.l2d T3'))]) (rest := []) rfl (W := 0) (Nat.le_of_eq rfl) (by decide) (by decide) (by decide) (by decide) (fun v152 T152 h152 X152 hQ152 => ?_)
    obtain ⟨ta, rfl, G152, S152, K152, A152⟩ := hQ152
    have zs152 : n0 ≤ h152.size := Nat.le_trans hn0 K152.1
    show Go p e below s n0 _ _ _ (T152.setTop (mkF m 109 #[.val (.int x0), .val (.int x1), .val (.int x2), .val (.int x3), .val (.int x4), .val (.int x5), .val (.int (2 : Int32)), .val (.long P'), .second, .val (.long Q'), .second, .val (.long R'), .second, .val (.long T0'), .second, .val (.long T1'), .second, .val (.long T2'), .second, .val (.long T3'), .second, .unset, .unset, .unset, .unset, .unset] [(.ref ta)]))
    refine g_astore X152 hx (pc' := 111) rfl (hb hby at_109) rfl (l' := #[.val (.int x0), .val (.int x1), .val (.int x2), .val (.int x3), .val (.int x4), .val (.int x5), .val (.int (2 : Int32)), .val (.long P'), .second, .val (.long Q'), .second, .val (.long R'), .second, .val (.long T0'), .second, .val (.long T1'), .second, .val (.long T2'), .second, .val (.long T3'), .second, .val (.ref ta), .unset, .unset, .unset, .unset]) rfl ?_
    refine g_iload X152 hx (pc' := 113) rfl (hb hby at_111) rfl ?_
    refine g_lload X152 hx (pc' := 115) rfl (hb hby at_113) rfl ?_
    refine g_lload X152 hx (pc' := 117) rfl (hb hby at_115) rfl ?_
    refine g_lload X152 hx (pc' := 119) rfl (hb hby at_117) rfl ?_
    refine g_lload X152 hx (pc' := 121) rfl (hb hby at_119) rfl ?_
    refine g_callS X152 hx hZ hown (hw _ (List.mem_of_getElem? (i := 5) rfl)) (hw _ (List.mem_of_getElem? (i := 6) rfl)) (hw _ (List.mem_of_getElem? (i := 2) rfl)) (hw _ (List.mem_of_getElem? (i := 7) rfl)) (by decide) (rm2 l Z a0 hw [] n0 P' Q' R' T0' h152 zs152) pd_1 rfl rfl (by rw [hml]; rfl) (pc' := 124) rfl (hb hby at_121) (argsL := [(.long P'), (.long Q'), (.long R'), (.long T0')]) (rest := [(.int (2 : Int32))]) rfl (W := 1) (Nat.le_of_eq rfl) (by decide) (by decide) (by decide) (by decide) (fun v153 T153 h153 X153 hQ153 => ?_)
    obtain ⟨rfl, he153⟩ := hQ153
    rw [he153] at X153
    show Go p e below s n0 _ _ _ (T153.setTop (mkF m 124 #[.val (.int x0), .val (.int x1), .val (.int x2), .val (.int x3), .val (.int x4), .val (.int x5), .val (.int (2 : Int32)), .val (.long P'), .second, .val (.long Q'), .second, .val (.long R'), .second, .val (.long T0'), .second, .val (.long T1'), .second, .val (.long T2'), .second, .val (.long T3'), .second, .val (.ref ta), .unset, .unset, .unset, .unset] [(.double (FP.l2d (P' * T0' * T0' + Q' * T0' + R'))), (.int (2 : Int32))]))
    refine g_lload X153 hx (pc' := 126) rfl (hb hby at_124) rfl ?_
    refine g_lload X153 hx (pc' := 128) rfl (hb hby at_126) rfl ?_
    refine g_lload X153 hx (pc' := 130) rfl (hb hby at_128) rfl ?_
    refine g_lload X153 hx (pc' := 132) rfl (hb hby at_130) rfl ?_
    refine g_callS X153 hx hZ hown (hw _ (List.mem_of_getElem? (i := 5) rfl)) (hw _ (List.mem_of_getElem? (i := 6) rfl)) (hw _ (List.mem_of_getElem? (i := 2) rfl)) (hw _ (List.mem_of_getElem? (i := 7) rfl)) (by decide) (rm2 l Z a0 hw [] n0 P' Q' R' T1' h152 zs152) pd_1 rfl rfl (by rw [hml]; rfl) (pc' := 135) rfl (hb hby at_132) (argsL := [(.long P'), (.long Q'), (.long R'), (.long T1')]) (rest := [(.double (FP.l2d (P' * T0' * T0' + Q' * T0' + R'))), (.int (2 : Int32))]) rfl (W := 3) (Nat.le_of_eq rfl) (by decide) (by decide) (by decide) (by decide) (fun v154 T154 h154 X154 hQ154 => ?_)
    obtain ⟨rfl, he154⟩ := hQ154
    rw [he154] at X154
    show Go p e below s n0 _ _ _ (T154.setTop (mkF m 135 #[.val (.int x0), .val (.int x1), .val (.int x2), .val (.int x3), .val (.int x4), .val (.int x5), .val (.int (2 : Int32)), .val (.long P'), .second, .val (.long Q'), .second, .val (.long R'), .second, .val (.long T0'), .second, .val (.long T1'), .second, .val (.long T2'), .second, .val (.long T3'), .second, .val (.ref ta), .unset, .unset, .unset, .unset] [(.double (FP.l2d (P' * T1' * T1' + Q' * T1' + R'))), (.double (FP.l2d (P' * T0' * T0' + Q' * T0' + R'))), (.int (2 : Int32))]))
    refine g_lload X154 hx (pc' := 137) rfl (hb hby at_135) rfl ?_
    refine g_lload X154 hx (pc' := 139) rfl (hb hby at_137) rfl ?_
    refine g_lload X154 hx (pc' := 141) rfl (hb hby at_139) rfl ?_
    refine g_lload X154 hx (pc' := 143) rfl (hb hby at_141) rfl ?_
    refine g_callS X154 hx hZ hown (hw _ (List.mem_of_getElem? (i := 5) rfl)) (hw _ (List.mem_of_getElem? (i := 6) rfl)) (hw _ (List.mem_of_getElem? (i := 2) rfl)) (hw _ (List.mem_of_getElem? (i := 7) rfl)) (by decide) (rm2 l Z a0 hw [] n0 P' Q' R' T2' h152 zs152) pd_1 rfl rfl (by rw [hml]; rfl) (pc' := 146) rfl (hb hby at_143) (argsL := [(.long P'), (.long Q'), (.long R'), (.long T2')]) (rest := [(.double (FP.l2d (P' * T1' * T1' + Q' * T1' + R'))), (.double (FP.l2d (P' * T0' * T0' + Q' * T0' + R'))), (.int (2 : Int32))]) rfl (W := 5) (Nat.le_of_eq rfl) (by decide) (by decide) (by decide) (by decide) (fun v155 T155 h155 X155 hQ155 => ?_)
    obtain ⟨rfl, he155⟩ := hQ155
    rw [he155] at X155
    show Go p e below s n0 _ _ _ (T155.setTop (mkF m 146 #[.val (.int x0), .val (.int x1), .val (.int x2), .val (.int x3), .val (.int x4), .val (.int x5), .val (.int (2 : Int32)), .val (.long P'), .second, .val (.long Q'), .second, .val (.long R'), .second, .val (.long T0'), .second, .val (.long T1'), .second, .val (.long T2'), .second, .val (.long T3'), .second, .val (.ref ta), .unset, .unset, .unset, .unset] [(.double (FP.l2d (P' * T2' * T2' + Q' * T2' + R'))), (.double (FP.l2d (P' * T1' * T1' + Q' * T1' + R'))), (.double (FP.l2d (P' * T0' * T0' + Q' * T0' + R'))), (.int (2 : Int32))]))
    refine g_lload X155 hx (pc' := 148) rfl (hb hby at_146) rfl ?_
    refine g_lload X155 hx (pc' := 150) rfl (hb hby at_148) rfl ?_
    refine g_lload X155 hx (pc' := 152) rfl (hb hby at_150) rfl ?_
    refine g_lload X155 hx (pc' := 154) rfl (hb hby at_152) rfl ?_
    refine g_callS X155 hx hZ hown (hw _ (List.mem_of_getElem? (i := 5) rfl)) (hw _ (List.mem_of_getElem? (i := 6) rfl)) (hw _ (List.mem_of_getElem? (i := 2) rfl)) (hw _ (List.mem_of_getElem? (i := 7) rfl)) (by decide) (rm2 l Z a0 hw [] n0 P' Q' R' T3' h152 zs152) pd_1 rfl rfl (by rw [hml]; rfl) (pc' := 157) rfl (hb hby at_154) (argsL := [(.long P'), (.long Q'), (.long R'), (.long T3')]) (rest := [(.double (FP.l2d (P' * T2' * T2' + Q' * T2' + R'))), (.double (FP.l2d (P' * T1' * T1' + Q' * T1' + R'))), (.double (FP.l2d (P' * T0' * T0' + Q' * T0' + R'))), (.int (2 : Int32))]) rfl (W := 7) (Nat.le_of_eq rfl) (by decide) (by decide) (by decide) (by decide) (fun v156 T156 h156 X156 hQ156 => ?_)
    obtain ⟨rfl, he156⟩ := hQ156
    rw [he156] at X156
    show Go p e below s n0 _ _ _ (T156.setTop (mkF m 157 #[.val (.int x0), .val (.int x1), .val (.int x2), .val (.int x3), .val (.int x4), .val (.int x5), .val (.int (2 : Int32)), .val (.long P'), .second, .val (.long Q'), .second, .val (.long R'), .second, .val (.long T0'), .second, .val (.long T1'), .second, .val (.long T2'), .second, .val (.long T3'), .second, .val (.ref ta), .unset, .unset, .unset, .unset] [(.double (FP.l2d (P' * T3' * T3' + Q' * T3' + R'))), (.double (FP.l2d (P' * T2' * T2' + Q' * T2' + R'))), (.double (FP.l2d (P' * T1' * T1' + Q' * T1' + R'))), (.double (FP.l2d (P' * T0' * T0' + Q' * T0' + R'))), (.int (2 : Int32))]))
    refine g_callS X156 hx hZ hown (hw _ (List.mem_of_getElem? (i := 0) rfl)) (hw _ (List.mem_of_getElem? (i := 1) rfl)) (hw _ (List.mem_of_getElem? (i := 2) rfl)) (hw _ (List.mem_of_getElem? (i := 3) rfl)) (by decide) (rm1_2 l Z a0 hw [] n0 (FP.l2d (P' * T0' * T0' + Q' * T0' + R')) (FP.l2d (P' * T1' * T1' + Q' * T1' + R')) (FP.l2d (P' * T2' * T2' + Q' * T2' + R')) (FP.l2d (P' * T3' * T3' + Q' * T3' + R')) h152 zs152) pd_0 rfl rfl (by rw [hml]; rfl) (pc' := 160) rfl (hb hby at_157) (argsL := [(.int (2 : Int32)), (.double (FP.l2d (P' * T0' * T0' + Q' * T0' + R'))), (.double (FP.l2d (P' * T1' * T1' + Q' * T1' + R'))), (.double (FP.l2d (P' * T2' * T2' + Q' * T2' + R'))), (.double (FP.l2d (P' * T3' * T3' + Q' * T3' + R')))]) (rest := []) rfl (W := 0) (Nat.le_of_eq rfl) (by decide) (by decide) (by decide) (by decide) (fun v157 T157 h157 X157 hQ157 => ?_)
    obtain ⟨va, rfl, G157, S157, K157, A157⟩ := hQ157
    have zs157 : n0 ≤ h157.size := Nat.le_trans zs152 K157.1
    have O157_ta := A152.keep K157 nin0
    show Go p e below s n0 _ _ _ (T157.setTop (mkF m 160 #[.val (.int x0), .val (.int x1), .val (.int x2), .val (.int x3), .val (.int x4), .val (.int x5), .val (.int (2 : Int32)), .val (.long P'), .second, .val (.long Q'), .second, .val (.long R'), .second, .val (.long T0'), .second, .val (.long T1'), .second, .val (.long T2'), .second, .val (.long T3'), .second, .val (.ref ta), .unset, .unset, .unset, .unset] [(.ref va)]))
    refine g_astore X157 hx (pc' := 162) rfl (hb hby at_160) rfl (l' := #[.val (.int x0), .val (.int x1), .val (.int x2), .val (.int x3), .val (.int x4), .val (.int x5), .val (.int (2 : Int32)), .val (.long P'), .second, .val (.long Q'), .second, .val (.long R'), .second, .val (.long T0'), .second, .val (.long T1'), .second, .val (.long T2'), .second, .val (.long T3'), .second, .val (.ref ta), .val (.ref va), .unset, .unset, .unset]) rfl ?_
    refine g_aload X157 hx (pc' := 164) rfl (hb hby at_162) rfl rfl ?_
    refine g_aload X157 hx (pc' := 166) rfl (hb hby at_164) rfl rfl ?_
    have vb0 := own_val bP.1 bP.2 bQ.1 bQ.2 bR.1 bR.2 b0.1 b0.2
    have vb1 := own_val bP.1 bP.2 bQ.1 bQ.2 bR.1 bR.2 b1.1 b1.2
    have sb0 := own_sl bP.1 bP.2 bQ.1 bQ.2 b1.1 b1.2 b0.1 b0.2
    have sb1 := own_sl bP.1 bP.2 bQ.1 bQ.2 b1.1 b1.2 b0.1 b0.2
    refine g_callS X157 hx hZ hown (hw _ (List.mem_of_getElem? (i := 8) rfl)) (hw _ (List.mem_of_getElem? (i := 9) rfl)) (hw _ (List.mem_of_getElem? (i := 10) rfl)) (hw _ (List.mem_of_getElem? (i := 11) rfl)) (by decide) (rm3_2 l Z a0 hw [] n0 ta va (FP.l2d T0') (FP.l2d (P' * T0' * T0' + Q' * T0' + R')) T0'.toInt (P' * T0' * T0' + Q' * T0' + R').toInt (P' * (T1' + T0') + Q').toInt (FP.l2d T1') (FP.l2d (P' * T1' * T1' + Q' * T1' + R')) T1'.toInt (P' * T1' * T1' + Q' * T1' + R').toInt (P' * (T1' + T0') + Q').toInt h157 zs157 O157_ta A157 (own_l2d (by omega)) (by omega) (own_l2d vb0.2) vb0.2 (own_l2d (by omega)) (by omega) (own_l2d vb1.2) vb1.2 g0.1 sb0.2 sb1.2 (by rw [vb1.1, vb0.1, sb0.1]; exact own_slope _ _ _ _ _) (by rw [vb1.1, vb0.1, sb1.1]; exact own_slope _ _ _ _ _)) pd_2 rfl rfl (by rw [hml]; rfl) (pc' := 169) rfl (hb hby at_166) (argsL := [(.ref ta), (.ref va)]) (rest := []) rfl (W := 0) (Nat.le_of_eq rfl) (by decide) (by decide) (by decide) (by decide) (fun v158 T158 h158 X158 hQ158 => ?_)
    obtain ⟨da, rfl, G158, K158, y0, y1, A158, fy0, fy1⟩ := hQ158
    have zs158 : n0 ≤ h158.size := Nat.le_trans zs157 K158.1
    show Go p e below s n0 _ _ _ (T158.setTop (mkF m 169 #[.val (.int x0), .val (.int x1), .val (.int x2), .val (.int x3), .val (.int x4), .val (.int x5), .val (.int (2 : Int32)), .val (.long P'), .second, .val (.long Q'), .second, .val (.long R'), .second, .val (.long T0'), .second, .val (.long T1'), .second, .val (.long T2'), .second, .val (.long T3'), .second, .val (.ref ta), .val (.ref va), .unset, .unset, .unset] [(.ref da)]))
    refine g_astore X158 hx (pc' := 171) rfl (hb hby at_169) rfl (l' := #[.val (.int x0), .val (.int x1), .val (.int x2), .val (.int x3), .val (.int x4), .val (.int x5), .val (.int (2 : Int32)), .val (.long P'), .second, .val (.long Q'), .second, .val (.long R'), .second, .val (.long T0'), .second, .val (.long T1'), .second, .val (.long T2'), .second, .val (.long T3'), .second, .val (.ref ta), .val (.ref va), .val (.ref da), .unset, .unset]) rfl ?_
    refine g_aload X158 hx (pc' := 173) rfl (hb hby at_171) rfl rfl ?_
    refine g_alenD X158 hx hZ A158 (z := (2 : Int32)) rfl (pc' := 174) rfl (hb hby at_173) ?_
    refine g_iload X158 hx (pc' := 176) rfl (hb hby at_174) rfl ?_
    refine g_icmpY X158 hx (pcY := 181) (hb hby at_176) (by decide) (by decide) (show (2 : Int32) = (2 : Int32) from by decide) ?_
    refine g_iload X158 hx (pc' := 183) rfl (hb hby at_181) rfl ?_
    refine g_iconst X158 hx (pc' := 184) (z := (1 : Int32)) rfl (hb hby at_183) rfl ?_
    refine g_icmpY X158 hx (pcY := 202) (hb hby at_184) (by decide) (by decide) (show ¬ (2 : Int32) = (1 : Int32) from by decide) ?_
    refine g_lload X158 hx (pc' := 204) rfl (hb hby at_202) rfl ?_
    refine g_lload X158 hx (pc' := 206) rfl (hb hby at_204) rfl ?_
    refine g_lload X158 hx (pc' := 208) rfl (hb hby at_206) rfl ?_
    refine g_ladd X158 hx (pc' := 209) rfl (hb hby at_208) ?_
    refine g_lmul X158 hx (pc' := 210) rfl (hb hby at_209) ?_
    refine g_lload X158 hx (pc' := 212) rfl (hb hby at_210) rfl ?_
    refine g_ladd X158 hx (pc' := 213) rfl (hb hby at_212) ?_
    refine g_lstore X158 hx (pc' := 215) rfl (hb hby at_213) (l' := #[.val (.int x0), .val (.int x1), .val (.int x2), .val (.int x3), .val (.int x4), .val (.int x5), .val (.int (2 : Int32)), .val (.long P'), .second, .val (.long Q'), .second, .val (.long R'), .second, .val (.long T0'), .second, .val (.long T1'), .second, .val (.long T2'), .second, .val (.long T3'), .second, .val (.ref ta), .val (.ref va), .val (.ref da), .val (.long ((P' * (T1' + T0')) + Q')), .second]) rfl ?_
    refine g_iload X158 hx (pc' := 217) rfl (hb hby at_215) rfl ?_
    refine g_iconst X158 hx (pc' := 218) (z := (2 : Int32)) rfl (hb hby at_217) rfl ?_
    refine g_icmpN X158 hx (pcN := 221) (hb hby at_218) rfl (show ¬ (¬ (2 : Int32) = (2 : Int32)) from by decide) ?_
    refine g_aload X158 hx (pc' := 223) rfl (hb hby at_221) rfl rfl ?_
    refine g_iconst X158 hx (pc' := 224) (z := (0 : Int32)) rfl (hb hby at_223) rfl ?_
    refine g_daload X158 hx hZ A158 (i := 0) (by decide) (show (0 : Nat) < 2 by decide) (v := y0) rfl (pc' := 225) rfl (hb hby at_224) ?_
    refine g_lload X158 hx (pc' := 227) rfl (hb hby at_225) rfl ?_
    refine g_l2d X158 hx (pc' := 228) rfl (hb hby at_227) ?_
    refine g_dcmp X158 hx (pc' := 229) (z := (0 : Int32)) rfl (hb hby at_228) (own_dyeq fy0 (own_l2d (by have := sb0.2; omega)) (by exact rfl)) ?_
    refine g_ifN X158 hx (pcN := 232) (hb hby at_229) rfl (show ¬ (¬ (0 : Int32) = 0) from by decide) ?_
    refine g_aload X158 hx (pc' := 234) rfl (hb hby at_232) rfl rfl ?_
    refine g_iconst X158 hx (pc' := 235) (z := (1 : Int32)) rfl (hb hby at_234) rfl ?_
    refine g_daload X158 hx hZ A158 (i := 1) (by decide) (show (1 : Nat) < 2 by decide) (v := y1) rfl (pc' := 236) rfl (hb hby at_235) ?_
    refine g_lload X158 hx (pc' := 238) rfl (hb hby at_236) rfl ?_
    refine g_l2d X158 hx (pc' := 239) rfl (hb hby at_238) ?_
    refine g_dcmp X158 hx (pc' := 240) (z := (0 : Int32)) rfl (hb hby at_239) (own_dyeq fy1 (own_l2d (by have := sb1.2; omega)) (by exact rfl)) ?_
    refine g_ifN X158 hx (pcN := 243) (hb hby at_240) rfl (show ¬ (¬ (0 : Int32) = 0) from by decide) ?_
    refine g_iconst X158 hx (pc' := 244) (z := (1 : Int32)) rfl (hb hby at_243) rfl ?_
    refine g_goto X158 hx (pc' := 248) (hb hby at_244) (by decide) (by decide) ?_
    exact g_retZ X158 hx hlk hret (Or.inr rfl) (hb hby at_248) (by decide) (by decide) (rfl)
  · subst q
    refine g_iload X0 hx (pc' := 94) rfl (hb hby at_92) rfl ?_
    refine g_lload X0 hx (pc' := 96) rfl (hb hby at_94) rfl ?_
    refine g_l2d X0 hx (pc' := 97) rfl (hb hby at_96) ?_
    refine g_lload X0 hx (pc' := 99) rfl (hb hby at_97) rfl ?_
    refine g_l2d X0 hx (pc' := 100) rfl (hb hby at_99) ?_
    refine g_lload X0 hx (pc' := 102) rfl (hb hby at_100) rfl ?_
    refine g_l2d X0 hx (pc' := 103) rfl (hb hby at_102) ?_
    refine g_lload X0 hx (pc' := 105) rfl (hb hby at_103) rfl ?_
    refine g_l2d X0 hx (pc' := 106) rfl (hb hby at_105) ?_
    refine g_callS X0 hx hZ hown (hw _ (List.mem_of_getElem? (i := 0) rfl)) (hw _ (List.mem_of_getElem? (i := 1) rfl)) (hw _ (List.mem_of_getElem? (i := 2) rfl)) (hw _ (List.mem_of_getElem? (i := 3) rfl)) (by decide) (rm1_3 l Z a0 hw [] n0 (FP.l2d T0') (FP.l2d T1') (FP.l2d T2') (FP.l2d T3') h0 hn0) pd_0 rfl rfl (by rw [hml]; rfl) (pc' := 109) rfl (hb hby at_106) (argsL := [(.int (3 : Int32)), (.double (FP.l2d T0')), (.double (FP.l2d T1')), (.double (FP.l2d T2')), (.double (FP.l2d T3'))]) (rest := []) rfl (W := 0) (Nat.le_of_eq rfl) (by decide) (by decide) (by decide) (by decide) (fun v159 T159 h159 X159 hQ159 => ?_)
    obtain ⟨ta, rfl, G159, S159, K159, A159⟩ := hQ159
    have zs159 : n0 ≤ h159.size := Nat.le_trans hn0 K159.1
    show Go p e below s n0 _ _ _ (T159.setTop (mkF m 109 #[.val (.int x0), .val (.int x1), .val (.int x2), .val (.int x3), .val (.int x4), .val (.int x5), .val (.int (3 : Int32)), .val (.long P'), .second, .val (.long Q'), .second, .val (.long R'), .second, .val (.long T0'), .second, .val (.long T1'), .second, .val (.long T2'), .second, .val (.long T3'), .second, .unset, .unset, .unset, .unset, .unset] [(.ref ta)]))
    refine g_astore X159 hx (pc' := 111) rfl (hb hby at_109) rfl (l' := #[.val (.int x0), .val (.int x1), .val (.int x2), .val (.int x3), .val (.int x4), .val (.int x5), .val (.int (3 : Int32)), .val (.long P'), .second, .val (.long Q'), .second, .val (.long R'), .second, .val (.long T0'), .second, .val (.long T1'), .second, .val (.long T2'), .second, .val (.long T3'), .second, .val (.ref ta), .unset, .unset, .unset, .unset]) rfl ?_
    refine g_iload X159 hx (pc' := 113) rfl (hb hby at_111) rfl ?_
    refine g_lload X159 hx (pc' := 115) rfl (hb hby at_113) rfl ?_
    refine g_lload X159 hx (pc' := 117) rfl (hb hby at_115) rfl ?_
    refine g_lload X159 hx (pc' := 119) rfl (hb hby at_117) rfl ?_
    refine g_lload X159 hx (pc' := 121) rfl (hb hby at_119) rfl ?_
    refine g_callS X159 hx hZ hown (hw _ (List.mem_of_getElem? (i := 5) rfl)) (hw _ (List.mem_of_getElem? (i := 6) rfl)) (hw _ (List.mem_of_getElem? (i := 2) rfl)) (hw _ (List.mem_of_getElem? (i := 7) rfl)) (by decide) (rm2 l Z a0 hw [] n0 P' Q' R' T0' h159 zs159) pd_1 rfl rfl (by rw [hml]; rfl) (pc' := 124) rfl (hb hby at_121) (argsL := [(.long P'), (.long Q'), (.long R'), (.long T0')]) (rest := [(.int (3 : Int32))]) rfl (W := 1) (Nat.le_of_eq rfl) (by decide) (by decide) (by decide) (by decide) (fun v160 T160 h160 X160 hQ160 => ?_)
    obtain ⟨rfl, he160⟩ := hQ160
    rw [he160] at X160
    show Go p e below s n0 _ _ _ (T160.setTop (mkF m 124 #[.val (.int x0), .val (.int x1), .val (.int x2), .val (.int x3), .val (.int x4), .val (.int x5), .val (.int (3 : Int32)), .val (.long P'), .second, .val (.long Q'), .second, .val (.long R'), .second, .val (.long T0'), .second, .val (.long T1'), .second, .val (.long T2'), .second, .val (.long T3'), .second, .val (.ref ta), .unset, .unset, .unset, .unset] [(.double (FP.l2d (P' * T0' * T0' + Q' * T0' + R'))), (.int (3 : Int32))]))
    refine g_lload X160 hx (pc' := 126) rfl (hb hby at_124) rfl ?_
    refine g_lload X160 hx (pc' := 128) rfl (hb hby at_126) rfl ?_
    refine g_lload X160 hx (pc' := 130) rfl (hb hby at_128) rfl ?_
    refine g_lload X160 hx (pc' := 132) rfl (hb hby at_130) rfl ?_
    refine g_callS X160 hx hZ hown (hw _ (List.mem_of_getElem? (i := 5) rfl)) (hw _ (List.mem_of_getElem? (i := 6) rfl)) (hw _ (List.mem_of_getElem? (i := 2) rfl)) (hw _ (List.mem_of_getElem? (i := 7) rfl)) (by decide) (rm2 l Z a0 hw [] n0 P' Q' R' T1' h159 zs159) pd_1 rfl rfl (by rw [hml]; rfl) (pc' := 135) rfl (hb hby at_132) (argsL := [(.long P'), (.long Q'), (.long R'), (.long T1')]) (rest := [(.double (FP.l2d (P' * T0' * T0' + Q' * T0' + R'))), (.int (3 : Int32))]) rfl (W := 3) (Nat.le_of_eq rfl) (by decide) (by decide) (by decide) (by decide) (fun v161 T161 h161 X161 hQ161 => ?_)
    obtain ⟨rfl, he161⟩ := hQ161
    rw [he161] at X161
    show Go p e below s n0 _ _ _ (T161.setTop (mkF m 135 #[.val (.int x0), .val (.int x1), .val (.int x2), .val (.int x3), .val (.int x4), .val (.int x5), .val (.int (3 : Int32)), .val (.long P'), .second, .val (.long Q'), .second, .val (.long R'), .second, .val (.long T0'), .second, .val (.long T1'), .second, .val (.long T2'), .second, .val (.long T3'), .second, .val (.ref ta), .unset, .unset, .unset, .unset] [(.double (FP.l2d (P' * T1' * T1' + Q' * T1' + R'))), (.double (FP.l2d (P' * T0' * T0' + Q' * T0' + R'))), (.int (3 : Int32))]))
    refine g_lload X161 hx (pc' := 137) rfl (hb hby at_135) rfl ?_
    refine g_lload X161 hx (pc' := 139) rfl (hb hby at_137) rfl ?_
    refine g_lload X161 hx (pc' := 141) rfl (hb hby at_139) rfl ?_
    refine g_lload X161 hx (pc' := 143) rfl (hb hby at_141) rfl ?_
    refine g_callS X161 hx hZ hown (hw _ (List.mem_of_getElem? (i := 5) rfl)) (hw _ (List.mem_of_getElem? (i := 6) rfl)) (hw _ (List.mem_of_getElem? (i := 2) rfl)) (hw _ (List.mem_of_getElem? (i := 7) rfl)) (by decide) (rm2 l Z a0 hw [] n0 P' Q' R' T2' h159 zs159) pd_1 rfl rfl (by rw [hml]; rfl) (pc' := 146) rfl (hb hby at_143) (argsL := [(.long P'), (.long Q'), (.long R'), (.long T2')]) (rest := [(.double (FP.l2d (P' * T1' * T1' + Q' * T1' + R'))), (.double (FP.l2d (P' * T0' * T0' + Q' * T0' + R'))), (.int (3 : Int32))]) rfl (W := 5) (Nat.le_of_eq rfl) (by decide) (by decide) (by decide) (by decide) (fun v162 T162 h162 X162 hQ162 => ?_)
    obtain ⟨rfl, he162⟩ := hQ162
    rw [he162] at X162
    show Go p e below s n0 _ _ _ (T162.setTop (mkF m 146 #[.val (.int x0), .val (.int x1), .val (.int x2), .val (.int x3), .val (.int x4), .val (.int x5), .val (.int (3 : Int32)), .val (.long P'), .second, .val (.long Q'), .second, .val (.long R'), .second, .val (.long T0'), .second, .val (.long T1'), .second, .val (.long T2'), .second, .val (.long T3'), .second, .val (.ref ta), .unset, .unset, .unset, .unset] [(.double (FP.l2d (P' * T2' * T2' + Q' * T2' + R'))), (.double (FP.l2d (P' * T1' * T1' + Q' * T1' + R'))), (.double (FP.l2d (P' * T0' * T0' + Q' * T0' + R'))), (.int (3 : Int32))]))
    refine g_lload X162 hx (pc' := 148) rfl (hb hby at_146) rfl ?_
    refine g_lload X162 hx (pc' := 150) rfl (hb hby at_148) rfl ?_
    refine g_lload X162 hx (pc' := 152) rfl (hb hby at_150) rfl ?_
    refine g_lload X162 hx (pc' := 154) rfl (hb hby at_152) rfl ?_
    refine g_callS X162 hx hZ hown (hw _ (List.mem_of_getElem? (i := 5) rfl)) (hw _ (List.mem_of_getElem? (i := 6) rfl)) (hw _ (List.mem_of_getElem? (i := 2) rfl)) (hw _ (List.mem_of_getElem? (i := 7) rfl)) (by decide) (rm2 l Z a0 hw [] n0 P' Q' R' T3' h159 zs159) pd_1 rfl rfl (by rw [hml]; rfl) (pc' := 157) rfl (hb hby at_154) (argsL := [(.long P'), (.long Q'), (.long R'), (.long T3')]) (rest := [(.double (FP.l2d (P' * T2' * T2' + Q' * T2' + R'))), (.double (FP.l2d (P' * T1' * T1' + Q' * T1' + R'))), (.double (FP.l2d (P' * T0' * T0' + Q' * T0' + R'))), (.int (3 : Int32))]) rfl (W := 7) (Nat.le_of_eq rfl) (by decide) (by decide) (by decide) (by decide) (fun v163 T163 h163 X163 hQ163 => ?_)
    obtain ⟨rfl, he163⟩ := hQ163
    rw [he163] at X163
    show Go p e below s n0 _ _ _ (T163.setTop (mkF m 157 #[.val (.int x0), .val (.int x1), .val (.int x2), .val (.int x3), .val (.int x4), .val (.int x5), .val (.int (3 : Int32)), .val (.long P'), .second, .val (.long Q'), .second, .val (.long R'), .second, .val (.long T0'), .second, .val (.long T1'), .second, .val (.long T2'), .second, .val (.long T3'), .second, .val (.ref ta), .unset, .unset, .unset, .unset] [(.double (FP.l2d (P' * T3' * T3' + Q' * T3' + R'))), (.double (FP.l2d (P' * T2' * T2' + Q' * T2' + R'))), (.double (FP.l2d (P' * T1' * T1' + Q' * T1' + R'))), (.double (FP.l2d (P' * T0' * T0' + Q' * T0' + R'))), (.int (3 : Int32))]))
    refine g_callS X163 hx hZ hown (hw _ (List.mem_of_getElem? (i := 0) rfl)) (hw _ (List.mem_of_getElem? (i := 1) rfl)) (hw _ (List.mem_of_getElem? (i := 2) rfl)) (hw _ (List.mem_of_getElem? (i := 3) rfl)) (by decide) (rm1_3 l Z a0 hw [] n0 (FP.l2d (P' * T0' * T0' + Q' * T0' + R')) (FP.l2d (P' * T1' * T1' + Q' * T1' + R')) (FP.l2d (P' * T2' * T2' + Q' * T2' + R')) (FP.l2d (P' * T3' * T3' + Q' * T3' + R')) h159 zs159) pd_0 rfl rfl (by rw [hml]; rfl) (pc' := 160) rfl (hb hby at_157) (argsL := [(.int (3 : Int32)), (.double (FP.l2d (P' * T0' * T0' + Q' * T0' + R'))), (.double (FP.l2d (P' * T1' * T1' + Q' * T1' + R'))), (.double (FP.l2d (P' * T2' * T2' + Q' * T2' + R'))), (.double (FP.l2d (P' * T3' * T3' + Q' * T3' + R')))]) (rest := []) rfl (W := 0) (Nat.le_of_eq rfl) (by decide) (by decide) (by decide) (by decide) (fun v164 T164 h164 X164 hQ164 => ?_)
    obtain ⟨va, rfl, G164, S164, K164, A164⟩ := hQ164
    have zs164 : n0 ≤ h164.size := Nat.le_trans zs159 K164.1
    have O164_ta := A159.keep K164 nin0
    show Go p e below s n0 _ _ _ (T164.setTop (mkF m 160 #[.val (.int x0), .val (.int x1), .val (.int x2), .val (.int x3), .val (.int x4), .val (.int x5), .val (.int (3 : Int32)), .val (.long P'), .second, .val (.long Q'), .second, .val (.long R'), .second, .val (.long T0'), .second, .val (.long T1'), .second, .val (.long T2'), .second, .val (.long T3'), .second, .val (.ref ta), .unset, .unset, .unset, .unset] [(.ref va)]))
    refine g_astore X164 hx (pc' := 162) rfl (hb hby at_160) rfl (l' := #[.val (.int x0), .val (.int x1), .val (.int x2), .val (.int x3), .val (.int x4), .val (.int x5), .val (.int (3 : Int32)), .val (.long P'), .second, .val (.long Q'), .second, .val (.long R'), .second, .val (.long T0'), .second, .val (.long T1'), .second, .val (.long T2'), .second, .val (.long T3'), .second, .val (.ref ta), .val (.ref va), .unset, .unset, .unset]) rfl ?_
    refine g_aload X164 hx (pc' := 164) rfl (hb hby at_162) rfl rfl ?_
    refine g_aload X164 hx (pc' := 166) rfl (hb hby at_164) rfl rfl ?_
    have vb0 := own_val bP.1 bP.2 bQ.1 bQ.2 bR.1 bR.2 b0.1 b0.2
    have vb1 := own_val bP.1 bP.2 bQ.1 bQ.2 bR.1 bR.2 b1.1 b1.2
    have vb2 := own_val bP.1 bP.2 bQ.1 bQ.2 bR.1 bR.2 b2.1 b2.2
    have sb0 := own_sl bP.1 bP.2 bQ.1 bQ.2 b1.1 b1.2 b0.1 b0.2
    have sb2 := own_sl bP.1 bP.2 bQ.1 bQ.2 b2.1 b2.2 b1.1 b1.2
    have cb1 := own_cn bP.1 bP.2 bQ.1 bQ.2 b1.1 b1.2
    refine g_callS X164 hx hZ hown (hw _ (List.mem_of_getElem? (i := 8) rfl)) (hw _ (List.mem_of_getElem? (i := 9) rfl)) (hw _ (List.mem_of_getElem? (i := 10) rfl)) (hw _ (List.mem_of_getElem? (i := 11) rfl)) (by decide) (rm3_3 l Z a0 hw [] n0 ta va (FP.l2d T0') (FP.l2d (P' * T0' * T0' + Q' * T0' + R')) T0'.toInt (P' * T0' * T0' + Q' * T0' + R').toInt (P' * (T1' + T0') + Q').toInt (FP.l2d T1') (FP.l2d (P' * T1' * T1' + Q' * T1' + R')) T1'.toInt (P' * T1' * T1' + Q' * T1' + R').toInt (2 * P' * T1' + Q').toInt (FP.l2d T2') (FP.l2d (P' * T2' * T2' + Q' * T2' + R')) T2'.toInt (P' * T2' * T2' + Q' * T2' + R').toInt (P' * (T2' + T1') + Q').toInt h164 zs164 O164_ta A164 (own_l2d (by omega)) (by omega) (own_l2d vb0.2) vb0.2 (own_l2d (by omega)) (by omega) (own_l2d vb1.2) vb1.2 (own_l2d (by omega)) (by omega) (own_l2d vb2.2) vb2.2 g0.1 g1.1 sb0.2 cb1.2 sb2.2 (by rw [vb1.1, vb0.1, sb0.1]; exact own_slope _ _ _ _ _) (by rw [vb2.1, vb1.1, sb2.1]; exact own_slope _ _ _ _ _) (by rw [vb0.1, vb1.1, vb2.1, cb1.1]; exact own_centre _ _ _ _ _ _)) pd_2 rfl rfl (by rw [hml]; rfl) (pc' := 169) rfl (hb hby at_166) (argsL := [(.ref ta), (.ref va)]) (rest := []) rfl (W := 0) (Nat.le_of_eq rfl) (by decide) (by decide) (by decide) (by decide) (fun v165 T165 h165 X165 hQ165 => ?_)
    obtain ⟨da, rfl, G165, K165, y0, y1, y2, A165, fy0, fy1, fy2⟩ := hQ165
    have zs165 : n0 ≤ h165.size := Nat.le_trans zs164 K165.1
    show Go p e below s n0 _ _ _ (T165.setTop (mkF m 169 #[.val (.int x0), .val (.int x1), .val (.int x2), .val (.int x3), .val (.int x4), .val (.int x5), .val (.int (3 : Int32)), .val (.long P'), .second, .val (.long Q'), .second, .val (.long R'), .second, .val (.long T0'), .second, .val (.long T1'), .second, .val (.long T2'), .second, .val (.long T3'), .second, .val (.ref ta), .val (.ref va), .unset, .unset, .unset] [(.ref da)]))
    refine g_astore X165 hx (pc' := 171) rfl (hb hby at_169) rfl (l' := #[.val (.int x0), .val (.int x1), .val (.int x2), .val (.int x3), .val (.int x4), .val (.int x5), .val (.int (3 : Int32)), .val (.long P'), .second, .val (.long Q'), .second, .val (.long R'), .second, .val (.long T0'), .second, .val (.long T1'), .second, .val (.long T2'), .second, .val (.long T3'), .second, .val (.ref ta), .val (.ref va), .val (.ref da), .unset, .unset]) rfl ?_
    refine g_aload X165 hx (pc' := 173) rfl (hb hby at_171) rfl rfl ?_
    refine g_alenD X165 hx hZ A165 (z := (3 : Int32)) rfl (pc' := 174) rfl (hb hby at_173) ?_
    refine g_iload X165 hx (pc' := 176) rfl (hb hby at_174) rfl ?_
    refine g_icmpY X165 hx (pcY := 181) (hb hby at_176) (by decide) (by decide) (show (3 : Int32) = (3 : Int32) from by decide) ?_
    refine g_iload X165 hx (pc' := 183) rfl (hb hby at_181) rfl ?_
    refine g_iconst X165 hx (pc' := 184) (z := (1 : Int32)) rfl (hb hby at_183) rfl ?_
    refine g_icmpY X165 hx (pcY := 202) (hb hby at_184) (by decide) (by decide) (show ¬ (3 : Int32) = (1 : Int32) from by decide) ?_
    refine g_lload X165 hx (pc' := 204) rfl (hb hby at_202) rfl ?_
    refine g_lload X165 hx (pc' := 206) rfl (hb hby at_204) rfl ?_
    refine g_lload X165 hx (pc' := 208) rfl (hb hby at_206) rfl ?_
    refine g_ladd X165 hx (pc' := 209) rfl (hb hby at_208) ?_
    refine g_lmul X165 hx (pc' := 210) rfl (hb hby at_209) ?_
    refine g_lload X165 hx (pc' := 212) rfl (hb hby at_210) rfl ?_
    refine g_ladd X165 hx (pc' := 213) rfl (hb hby at_212) ?_
    refine g_lstore X165 hx (pc' := 215) rfl (hb hby at_213) (l' := #[.val (.int x0), .val (.int x1), .val (.int x2), .val (.int x3), .val (.int x4), .val (.int x5), .val (.int (3 : Int32)), .val (.long P'), .second, .val (.long Q'), .second, .val (.long R'), .second, .val (.long T0'), .second, .val (.long T1'), .second, .val (.long T2'), .second, .val (.long T3'), .second, .val (.ref ta), .val (.ref va), .val (.ref da), .val (.long ((P' * (T1' + T0')) + Q')), .second]) rfl ?_
    refine g_iload X165 hx (pc' := 217) rfl (hb hby at_215) rfl ?_
    refine g_iconst X165 hx (pc' := 218) (z := (2 : Int32)) rfl (hb hby at_217) rfl ?_
    refine g_icmpY X165 hx (pcY := 249) (hb hby at_218) (by decide) (by decide) (show ¬ (3 : Int32) = (2 : Int32) from by decide) ?_
    refine g_iload X165 hx (pc' := 251) rfl (hb hby at_249) rfl ?_
    refine g_iconst X165 hx (pc' := 252) (z := (3 : Int32)) rfl (hb hby at_251) rfl ?_
    refine g_icmpN X165 hx (pcN := 255) (hb hby at_252) rfl (show ¬ (¬ (3 : Int32) = (3 : Int32)) from by decide) ?_
    refine g_aload X165 hx (pc' := 257) rfl (hb hby at_255) rfl rfl ?_
    refine g_iconst X165 hx (pc' := 258) (z := (0 : Int32)) rfl (hb hby at_257) rfl ?_
    refine g_daload X165 hx hZ A165 (i := 0) (by decide) (show (0 : Nat) < 3 by decide) (v := y0) rfl (pc' := 259) rfl (hb hby at_258) ?_
    refine g_lload X165 hx (pc' := 261) rfl (hb hby at_259) rfl ?_
    refine g_l2d X165 hx (pc' := 262) rfl (hb hby at_261) ?_
    refine g_dcmp X165 hx (pc' := 263) (z := (0 : Int32)) rfl (hb hby at_262) (own_dyeq fy0 (own_l2d (by have := sb0.2; omega)) (by exact rfl)) ?_
    refine g_ifN X165 hx (pcN := 266) (hb hby at_263) rfl (show ¬ (¬ (0 : Int32) = 0) from by decide) ?_
    refine g_aload X165 hx (pc' := 268) rfl (hb hby at_266) rfl rfl ?_
    refine g_iconst X165 hx (pc' := 269) (z := (2 : Int32)) rfl (hb hby at_268) rfl ?_
    refine g_daload X165 hx hZ A165 (i := 2) (by decide) (show (2 : Nat) < 3 by decide) (v := y2) rfl (pc' := 270) rfl (hb hby at_269) ?_
    refine g_lload X165 hx (pc' := 272) rfl (hb hby at_270) rfl ?_
    refine g_lload X165 hx (pc' := 274) rfl (hb hby at_272) rfl ?_
    refine g_lload X165 hx (pc' := 276) rfl (hb hby at_274) rfl ?_
    refine g_ladd X165 hx (pc' := 277) rfl (hb hby at_276) ?_
    refine g_lmul X165 hx (pc' := 278) rfl (hb hby at_277) ?_
    refine g_lload X165 hx (pc' := 280) rfl (hb hby at_278) rfl ?_
    refine g_ladd X165 hx (pc' := 281) rfl (hb hby at_280) ?_
    refine g_l2d X165 hx (pc' := 282) rfl (hb hby at_281) ?_
    refine g_dcmp X165 hx (pc' := 283) (z := (0 : Int32)) rfl (hb hby at_282) (own_dyeq fy2 (own_l2d (by have := sb2.2; omega)) (by exact rfl)) ?_
    refine g_ifN X165 hx (pcN := 286) (hb hby at_283) rfl (show ¬ (¬ (0 : Int32) = 0) from by decide) ?_
    refine g_aload X165 hx (pc' := 288) rfl (hb hby at_286) rfl rfl ?_
    refine g_iconst X165 hx (pc' := 289) (z := (1 : Int32)) rfl (hb hby at_288) rfl ?_
    refine g_daload X165 hx hZ A165 (i := 1) (by decide) (show (1 : Nat) < 3 by decide) (v := y1) rfl (pc' := 290) rfl (hb hby at_289) ?_
    refine g_ldc2L X165 hx hZ hown (hw _ (List.mem_of_getElem? (i := 12) rfl)) (pc' := 293) (v := (2 : Int64)) rfl (hb hby at_290) ?_
    refine g_lload X165 hx (pc' := 295) rfl (hb hby at_293) rfl ?_
    refine g_lmul X165 hx (pc' := 296) rfl (hb hby at_295) ?_
    refine g_lload X165 hx (pc' := 298) rfl (hb hby at_296) rfl ?_
    refine g_lmul X165 hx (pc' := 299) rfl (hb hby at_298) ?_
    refine g_lload X165 hx (pc' := 301) rfl (hb hby at_299) rfl ?_
    refine g_ladd X165 hx (pc' := 302) rfl (hb hby at_301) ?_
    refine g_callS X165 hx hZ hown (hw _ (List.mem_of_getElem? (i := 13) rfl)) (hw _ (List.mem_of_getElem? (i := 14) rfl)) (hw _ (List.mem_of_getElem? (i := 2) rfl)) (hw _ (List.mem_of_getElem? (i := 15) rfl)) (by decide) (rm4 l Z a0 hw [] n0 y1 ((((2 : Int64) * P') * T1') + Q') (2 * P' * T1' + Q').toInt h165 zs165 fy1.1 rfl (by have := cb1.2; omega) (by have := cb1.2; omega) fy1.2) pd_3 rfl rfl (by rw [hml]; rfl) (pc' := 305) rfl (hb hby at_302) (argsL := [(.double y1), (.long ((((2 : Int64) * P') * T1') + Q'))]) (rest := []) rfl (W := 0) (Nat.le_of_eq rfl) (by decide) (by decide) (by decide) (by decide) (fun v166 T166 h166 X166 hQ166 => ?_)
    obtain ⟨rfl, he166⟩ := hQ166
    rw [he166] at X166
    show Go p e below s n0 _ _ _ (T166.setTop (mkF m 305 #[.val (.int x0), .val (.int x1), .val (.int x2), .val (.int x3), .val (.int x4), .val (.int x5), .val (.int (3 : Int32)), .val (.long P'), .second, .val (.long Q'), .second, .val (.long R'), .second, .val (.long T0'), .second, .val (.long T1'), .second, .val (.long T2'), .second, .val (.long T3'), .second, .val (.ref ta), .val (.ref va), .val (.ref da), .val (.long ((P' * (T1' + T0')) + Q')), .second] [(.int (1 : Int32))]))
    refine g_ifN X166 hx (pcN := 308) (hb hby at_305) rfl (show ¬ ((1 : Int32) = 0) from by decide) ?_
    refine g_iconst X166 hx (pc' := 309) (z := (1 : Int32)) rfl (hb hby at_308) rfl ?_
    refine g_goto X166 hx (pc' := 313) (hb hby at_309) (by decide) (by decide) ?_
    exact g_retZ X166 hx hlk hret (Or.inr rfl) (hb hby at_313) (by decide) (by decide) (rfl)
  · subst q
    refine g_iload X0 hx (pc' := 94) rfl (hb hby at_92) rfl ?_
    refine g_lload X0 hx (pc' := 96) rfl (hb hby at_94) rfl ?_
    refine g_l2d X0 hx (pc' := 97) rfl (hb hby at_96) ?_
    refine g_lload X0 hx (pc' := 99) rfl (hb hby at_97) rfl ?_
    refine g_l2d X0 hx (pc' := 100) rfl (hb hby at_99) ?_
    refine g_lload X0 hx (pc' := 102) rfl (hb hby at_100) rfl ?_
    refine g_l2d X0 hx (pc' := 103) rfl (hb hby at_102) ?_
    refine g_lload X0 hx (pc' := 105) rfl (hb hby at_103) rfl ?_
    refine g_l2d X0 hx (pc' := 106) rfl (hb hby at_105) ?_
    refine g_callS X0 hx hZ hown (hw _ (List.mem_of_getElem? (i := 0) rfl)) (hw _ (List.mem_of_getElem? (i := 1) rfl)) (hw _ (List.mem_of_getElem? (i := 2) rfl)) (hw _ (List.mem_of_getElem? (i := 3) rfl)) (by decide) (rm1_4 l Z a0 hw [] n0 (FP.l2d T0') (FP.l2d T1') (FP.l2d T2') (FP.l2d T3') h0 hn0) pd_0 rfl rfl (by rw [hml]; rfl) (pc' := 109) rfl (hb hby at_106) (argsL := [(.int (4 : Int32)), (.double (FP.l2d T0')), (.double (FP.l2d T1')), (.double (FP.l2d T2')), (.double (FP.l2d T3'))]) (rest := []) rfl (W := 0) (Nat.le_of_eq rfl) (by decide) (by decide) (by decide) (by decide) (fun v167 T167 h167 X167 hQ167 => ?_)
    obtain ⟨ta, rfl, G167, S167, K167, A167⟩ := hQ167
    have zs167 : n0 ≤ h167.size := Nat.le_trans hn0 K167.1
    show Go p e below s n0 _ _ _ (T167.setTop (mkF m 109 #[.val (.int x0), .val (.int x1), .val (.int x2), .val (.int x3), .val (.int x4), .val (.int x5), .val (.int (4 : Int32)), .val (.long P'), .second, .val (.long Q'), .second, .val (.long R'), .second, .val (.long T0'), .second, .val (.long T1'), .second, .val (.long T2'), .second, .val (.long T3'), .second, .unset, .unset, .unset, .unset, .unset] [(.ref ta)]))
    refine g_astore X167 hx (pc' := 111) rfl (hb hby at_109) rfl (l' := #[.val (.int x0), .val (.int x1), .val (.int x2), .val (.int x3), .val (.int x4), .val (.int x5), .val (.int (4 : Int32)), .val (.long P'), .second, .val (.long Q'), .second, .val (.long R'), .second, .val (.long T0'), .second, .val (.long T1'), .second, .val (.long T2'), .second, .val (.long T3'), .second, .val (.ref ta), .unset, .unset, .unset, .unset]) rfl ?_
    refine g_iload X167 hx (pc' := 113) rfl (hb hby at_111) rfl ?_
    refine g_lload X167 hx (pc' := 115) rfl (hb hby at_113) rfl ?_
    refine g_lload X167 hx (pc' := 117) rfl (hb hby at_115) rfl ?_
    refine g_lload X167 hx (pc' := 119) rfl (hb hby at_117) rfl ?_
    refine g_lload X167 hx (pc' := 121) rfl (hb hby at_119) rfl ?_
    refine g_callS X167 hx hZ hown (hw _ (List.mem_of_getElem? (i := 5) rfl)) (hw _ (List.mem_of_getElem? (i := 6) rfl)) (hw _ (List.mem_of_getElem? (i := 2) rfl)) (hw _ (List.mem_of_getElem? (i := 7) rfl)) (by decide) (rm2 l Z a0 hw [] n0 P' Q' R' T0' h167 zs167) pd_1 rfl rfl (by rw [hml]; rfl) (pc' := 124) rfl (hb hby at_121) (argsL := [(.long P'), (.long Q'), (.long R'), (.long T0')]) (rest := [(.int (4 : Int32))]) rfl (W := 1) (Nat.le_of_eq rfl) (by decide) (by decide) (by decide) (by decide) (fun v168 T168 h168 X168 hQ168 => ?_)
    obtain ⟨rfl, he168⟩ := hQ168
    rw [he168] at X168
    show Go p e below s n0 _ _ _ (T168.setTop (mkF m 124 #[.val (.int x0), .val (.int x1), .val (.int x2), .val (.int x3), .val (.int x4), .val (.int x5), .val (.int (4 : Int32)), .val (.long P'), .second, .val (.long Q'), .second, .val (.long R'), .second, .val (.long T0'), .second, .val (.long T1'), .second, .val (.long T2'), .second, .val (.long T3'), .second, .val (.ref ta), .unset, .unset, .unset, .unset] [(.double (FP.l2d (P' * T0' * T0' + Q' * T0' + R'))), (.int (4 : Int32))]))
    refine g_lload X168 hx (pc' := 126) rfl (hb hby at_124) rfl ?_
    refine g_lload X168 hx (pc' := 128) rfl (hb hby at_126) rfl ?_
    refine g_lload X168 hx (pc' := 130) rfl (hb hby at_128) rfl ?_
    refine g_lload X168 hx (pc' := 132) rfl (hb hby at_130) rfl ?_
    refine g_callS X168 hx hZ hown (hw _ (List.mem_of_getElem? (i := 5) rfl)) (hw _ (List.mem_of_getElem? (i := 6) rfl)) (hw _ (List.mem_of_getElem? (i := 2) rfl)) (hw _ (List.mem_of_getElem? (i := 7) rfl)) (by decide) (rm2 l Z a0 hw [] n0 P' Q' R' T1' h167 zs167) pd_1 rfl rfl (by rw [hml]; rfl) (pc' := 135) rfl (hb hby at_132) (argsL := [(.long P'), (.long Q'), (.long R'), (.long T1')]) (rest := [(.double (FP.l2d (P' * T0' * T0' + Q' * T0' + R'))), (.int (4 : Int32))]) rfl (W := 3) (Nat.le_of_eq rfl) (by decide) (by decide) (by decide) (by decide) (fun v169 T169 h169 X169 hQ169 => ?_)
    obtain ⟨rfl, he169⟩ := hQ169
    rw [he169] at X169
    show Go p e below s n0 _ _ _ (T169.setTop (mkF m 135 #[.val (.int x0), .val (.int x1), .val (.int x2), .val (.int x3), .val (.int x4), .val (.int x5), .val (.int (4 : Int32)), .val (.long P'), .second, .val (.long Q'), .second, .val (.long R'), .second, .val (.long T0'), .second, .val (.long T1'), .second, .val (.long T2'), .second, .val (.long T3'), .second, .val (.ref ta), .unset, .unset, .unset, .unset] [(.double (FP.l2d (P' * T1' * T1' + Q' * T1' + R'))), (.double (FP.l2d (P' * T0' * T0' + Q' * T0' + R'))), (.int (4 : Int32))]))
    refine g_lload X169 hx (pc' := 137) rfl (hb hby at_135) rfl ?_
    refine g_lload X169 hx (pc' := 139) rfl (hb hby at_137) rfl ?_
    refine g_lload X169 hx (pc' := 141) rfl (hb hby at_139) rfl ?_
    refine g_lload X169 hx (pc' := 143) rfl (hb hby at_141) rfl ?_
    refine g_callS X169 hx hZ hown (hw _ (List.mem_of_getElem? (i := 5) rfl)) (hw _ (List.mem_of_getElem? (i := 6) rfl)) (hw _ (List.mem_of_getElem? (i := 2) rfl)) (hw _ (List.mem_of_getElem? (i := 7) rfl)) (by decide) (rm2 l Z a0 hw [] n0 P' Q' R' T2' h167 zs167) pd_1 rfl rfl (by rw [hml]; rfl) (pc' := 146) rfl (hb hby at_143) (argsL := [(.long P'), (.long Q'), (.long R'), (.long T2')]) (rest := [(.double (FP.l2d (P' * T1' * T1' + Q' * T1' + R'))), (.double (FP.l2d (P' * T0' * T0' + Q' * T0' + R'))), (.int (4 : Int32))]) rfl (W := 5) (Nat.le_of_eq rfl) (by decide) (by decide) (by decide) (by decide) (fun v170 T170 h170 X170 hQ170 => ?_)
    obtain ⟨rfl, he170⟩ := hQ170
    rw [he170] at X170
    show Go p e below s n0 _ _ _ (T170.setTop (mkF m 146 #[.val (.int x0), .val (.int x1), .val (.int x2), .val (.int x3), .val (.int x4), .val (.int x5), .val (.int (4 : Int32)), .val (.long P'), .second, .val (.long Q'), .second, .val (.long R'), .second, .val (.long T0'), .second, .val (.long T1'), .second, .val (.long T2'), .second, .val (.long T3'), .second, .val (.ref ta), .unset, .unset, .unset, .unset] [(.double (FP.l2d (P' * T2' * T2' + Q' * T2' + R'))), (.double (FP.l2d (P' * T1' * T1' + Q' * T1' + R'))), (.double (FP.l2d (P' * T0' * T0' + Q' * T0' + R'))), (.int (4 : Int32))]))
    refine g_lload X170 hx (pc' := 148) rfl (hb hby at_146) rfl ?_
    refine g_lload X170 hx (pc' := 150) rfl (hb hby at_148) rfl ?_
    refine g_lload X170 hx (pc' := 152) rfl (hb hby at_150) rfl ?_
    refine g_lload X170 hx (pc' := 154) rfl (hb hby at_152) rfl ?_
    refine g_callS X170 hx hZ hown (hw _ (List.mem_of_getElem? (i := 5) rfl)) (hw _ (List.mem_of_getElem? (i := 6) rfl)) (hw _ (List.mem_of_getElem? (i := 2) rfl)) (hw _ (List.mem_of_getElem? (i := 7) rfl)) (by decide) (rm2 l Z a0 hw [] n0 P' Q' R' T3' h167 zs167) pd_1 rfl rfl (by rw [hml]; rfl) (pc' := 157) rfl (hb hby at_154) (argsL := [(.long P'), (.long Q'), (.long R'), (.long T3')]) (rest := [(.double (FP.l2d (P' * T2' * T2' + Q' * T2' + R'))), (.double (FP.l2d (P' * T1' * T1' + Q' * T1' + R'))), (.double (FP.l2d (P' * T0' * T0' + Q' * T0' + R'))), (.int (4 : Int32))]) rfl (W := 7) (Nat.le_of_eq rfl) (by decide) (by decide) (by decide) (by decide) (fun v171 T171 h171 X171 hQ171 => ?_)
    obtain ⟨rfl, he171⟩ := hQ171
    rw [he171] at X171
    show Go p e below s n0 _ _ _ (T171.setTop (mkF m 157 #[.val (.int x0), .val (.int x1), .val (.int x2), .val (.int x3), .val (.int x4), .val (.int x5), .val (.int (4 : Int32)), .val (.long P'), .second, .val (.long Q'), .second, .val (.long R'), .second, .val (.long T0'), .second, .val (.long T1'), .second, .val (.long T2'), .second, .val (.long T3'), .second, .val (.ref ta), .unset, .unset, .unset, .unset] [(.double (FP.l2d (P' * T3' * T3' + Q' * T3' + R'))), (.double (FP.l2d (P' * T2' * T2' + Q' * T2' + R'))), (.double (FP.l2d (P' * T1' * T1' + Q' * T1' + R'))), (.double (FP.l2d (P' * T0' * T0' + Q' * T0' + R'))), (.int (4 : Int32))]))
    refine g_callS X171 hx hZ hown (hw _ (List.mem_of_getElem? (i := 0) rfl)) (hw _ (List.mem_of_getElem? (i := 1) rfl)) (hw _ (List.mem_of_getElem? (i := 2) rfl)) (hw _ (List.mem_of_getElem? (i := 3) rfl)) (by decide) (rm1_4 l Z a0 hw [] n0 (FP.l2d (P' * T0' * T0' + Q' * T0' + R')) (FP.l2d (P' * T1' * T1' + Q' * T1' + R')) (FP.l2d (P' * T2' * T2' + Q' * T2' + R')) (FP.l2d (P' * T3' * T3' + Q' * T3' + R')) h167 zs167) pd_0 rfl rfl (by rw [hml]; rfl) (pc' := 160) rfl (hb hby at_157) (argsL := [(.int (4 : Int32)), (.double (FP.l2d (P' * T0' * T0' + Q' * T0' + R'))), (.double (FP.l2d (P' * T1' * T1' + Q' * T1' + R'))), (.double (FP.l2d (P' * T2' * T2' + Q' * T2' + R'))), (.double (FP.l2d (P' * T3' * T3' + Q' * T3' + R')))]) (rest := []) rfl (W := 0) (Nat.le_of_eq rfl) (by decide) (by decide) (by decide) (by decide) (fun v172 T172 h172 X172 hQ172 => ?_)
    obtain ⟨va, rfl, G172, S172, K172, A172⟩ := hQ172
    have zs172 : n0 ≤ h172.size := Nat.le_trans zs167 K172.1
    have O172_ta := A167.keep K172 nin0
    show Go p e below s n0 _ _ _ (T172.setTop (mkF m 160 #[.val (.int x0), .val (.int x1), .val (.int x2), .val (.int x3), .val (.int x4), .val (.int x5), .val (.int (4 : Int32)), .val (.long P'), .second, .val (.long Q'), .second, .val (.long R'), .second, .val (.long T0'), .second, .val (.long T1'), .second, .val (.long T2'), .second, .val (.long T3'), .second, .val (.ref ta), .unset, .unset, .unset, .unset] [(.ref va)]))
    refine g_astore X172 hx (pc' := 162) rfl (hb hby at_160) rfl (l' := #[.val (.int x0), .val (.int x1), .val (.int x2), .val (.int x3), .val (.int x4), .val (.int x5), .val (.int (4 : Int32)), .val (.long P'), .second, .val (.long Q'), .second, .val (.long R'), .second, .val (.long T0'), .second, .val (.long T1'), .second, .val (.long T2'), .second, .val (.long T3'), .second, .val (.ref ta), .val (.ref va), .unset, .unset, .unset]) rfl ?_
    refine g_aload X172 hx (pc' := 164) rfl (hb hby at_162) rfl rfl ?_
    refine g_aload X172 hx (pc' := 166) rfl (hb hby at_164) rfl rfl ?_
    have vb0 := own_val bP.1 bP.2 bQ.1 bQ.2 bR.1 bR.2 b0.1 b0.2
    have vb1 := own_val bP.1 bP.2 bQ.1 bQ.2 bR.1 bR.2 b1.1 b1.2
    have vb2 := own_val bP.1 bP.2 bQ.1 bQ.2 bR.1 bR.2 b2.1 b2.2
    have vb3 := own_val bP.1 bP.2 bQ.1 bQ.2 bR.1 bR.2 b3.1 b3.2
    have sb0 := own_sl bP.1 bP.2 bQ.1 bQ.2 b1.1 b1.2 b0.1 b0.2
    have sb3 := own_sl bP.1 bP.2 bQ.1 bQ.2 b3.1 b3.2 b2.1 b2.2
    have cb1 := own_cn bP.1 bP.2 bQ.1 bQ.2 b1.1 b1.2
    have cb2 := own_cn bP.1 bP.2 bQ.1 bQ.2 b2.1 b2.2
    refine g_callS X172 hx hZ hown (hw _ (List.mem_of_getElem? (i := 8) rfl)) (hw _ (List.mem_of_getElem? (i := 9) rfl)) (hw _ (List.mem_of_getElem? (i := 10) rfl)) (hw _ (List.mem_of_getElem? (i := 11) rfl)) (by decide) (rm3_4 l Z a0 hw [] n0 ta va (FP.l2d T0') (FP.l2d (P' * T0' * T0' + Q' * T0' + R')) T0'.toInt (P' * T0' * T0' + Q' * T0' + R').toInt (P' * (T1' + T0') + Q').toInt (FP.l2d T1') (FP.l2d (P' * T1' * T1' + Q' * T1' + R')) T1'.toInt (P' * T1' * T1' + Q' * T1' + R').toInt (2 * P' * T1' + Q').toInt (FP.l2d T2') (FP.l2d (P' * T2' * T2' + Q' * T2' + R')) T2'.toInt (P' * T2' * T2' + Q' * T2' + R').toInt (2 * P' * T2' + Q').toInt (FP.l2d T3') (FP.l2d (P' * T3' * T3' + Q' * T3' + R')) T3'.toInt (P' * T3' * T3' + Q' * T3' + R').toInt (P' * (T3' + T2') + Q').toInt h172 zs172 O172_ta A172 (own_l2d (by omega)) (by omega) (own_l2d vb0.2) vb0.2 (own_l2d (by omega)) (by omega) (own_l2d vb1.2) vb1.2 (own_l2d (by omega)) (by omega) (own_l2d vb2.2) vb2.2 (own_l2d (by omega)) (by omega) (own_l2d vb3.2) vb3.2 g0.1 g1.1 g2.1 sb0.2 cb1.2 cb2.2 sb3.2 (by rw [vb1.1, vb0.1, sb0.1]; exact own_slope _ _ _ _ _) (by rw [vb3.1, vb2.1, sb3.1]; exact own_slope _ _ _ _ _) (by rw [vb0.1, vb1.1, vb2.1, cb1.1]; exact own_centre _ _ _ _ _ _) (by rw [vb1.1, vb2.1, vb3.1, cb2.1]; exact own_centre _ _ _ _ _ _)) pd_2 rfl rfl (by rw [hml]; rfl) (pc' := 169) rfl (hb hby at_166) (argsL := [(.ref ta), (.ref va)]) (rest := []) rfl (W := 0) (Nat.le_of_eq rfl) (by decide) (by decide) (by decide) (by decide) (fun v173 T173 h173 X173 hQ173 => ?_)
    obtain ⟨da, rfl, G173, K173, y0, y1, y2, y3, A173, fy0, fy1, fy2, fy3⟩ := hQ173
    have zs173 : n0 ≤ h173.size := Nat.le_trans zs172 K173.1
    show Go p e below s n0 _ _ _ (T173.setTop (mkF m 169 #[.val (.int x0), .val (.int x1), .val (.int x2), .val (.int x3), .val (.int x4), .val (.int x5), .val (.int (4 : Int32)), .val (.long P'), .second, .val (.long Q'), .second, .val (.long R'), .second, .val (.long T0'), .second, .val (.long T1'), .second, .val (.long T2'), .second, .val (.long T3'), .second, .val (.ref ta), .val (.ref va), .unset, .unset, .unset] [(.ref da)]))
    refine g_astore X173 hx (pc' := 171) rfl (hb hby at_169) rfl (l' := #[.val (.int x0), .val (.int x1), .val (.int x2), .val (.int x3), .val (.int x4), .val (.int x5), .val (.int (4 : Int32)), .val (.long P'), .second, .val (.long Q'), .second, .val (.long R'), .second, .val (.long T0'), .second, .val (.long T1'), .second, .val (.long T2'), .second, .val (.long T3'), .second, .val (.ref ta), .val (.ref va), .val (.ref da), .unset, .unset]) rfl ?_
    refine g_aload X173 hx (pc' := 173) rfl (hb hby at_171) rfl rfl ?_
    refine g_alenD X173 hx hZ A173 (z := (4 : Int32)) rfl (pc' := 174) rfl (hb hby at_173) ?_
    refine g_iload X173 hx (pc' := 176) rfl (hb hby at_174) rfl ?_
    refine g_icmpY X173 hx (pcY := 181) (hb hby at_176) (by decide) (by decide) (show (4 : Int32) = (4 : Int32) from by decide) ?_
    refine g_iload X173 hx (pc' := 183) rfl (hb hby at_181) rfl ?_
    refine g_iconst X173 hx (pc' := 184) (z := (1 : Int32)) rfl (hb hby at_183) rfl ?_
    refine g_icmpY X173 hx (pcY := 202) (hb hby at_184) (by decide) (by decide) (show ¬ (4 : Int32) = (1 : Int32) from by decide) ?_
    refine g_lload X173 hx (pc' := 204) rfl (hb hby at_202) rfl ?_
    refine g_lload X173 hx (pc' := 206) rfl (hb hby at_204) rfl ?_
    refine g_lload X173 hx (pc' := 208) rfl (hb hby at_206) rfl ?_
    refine g_ladd X173 hx (pc' := 209) rfl (hb hby at_208) ?_
    refine g_lmul X173 hx (pc' := 210) rfl (hb hby at_209) ?_
    refine g_lload X173 hx (pc' := 212) rfl (hb hby at_210) rfl ?_
    refine g_ladd X173 hx (pc' := 213) rfl (hb hby at_212) ?_
    refine g_lstore X173 hx (pc' := 215) rfl (hb hby at_213) (l' := #[.val (.int x0), .val (.int x1), .val (.int x2), .val (.int x3), .val (.int x4), .val (.int x5), .val (.int (4 : Int32)), .val (.long P'), .second, .val (.long Q'), .second, .val (.long R'), .second, .val (.long T0'), .second, .val (.long T1'), .second, .val (.long T2'), .second, .val (.long T3'), .second, .val (.ref ta), .val (.ref va), .val (.ref da), .val (.long ((P' * (T1' + T0')) + Q')), .second]) rfl ?_
    refine g_iload X173 hx (pc' := 217) rfl (hb hby at_215) rfl ?_
    refine g_iconst X173 hx (pc' := 218) (z := (2 : Int32)) rfl (hb hby at_217) rfl ?_
    refine g_icmpY X173 hx (pcY := 249) (hb hby at_218) (by decide) (by decide) (show ¬ (4 : Int32) = (2 : Int32) from by decide) ?_
    refine g_iload X173 hx (pc' := 251) rfl (hb hby at_249) rfl ?_
    refine g_iconst X173 hx (pc' := 252) (z := (3 : Int32)) rfl (hb hby at_251) rfl ?_
    refine g_icmpY X173 hx (pcY := 314) (hb hby at_252) (by decide) (by decide) (show ¬ (4 : Int32) = (3 : Int32) from by decide) ?_
    refine g_aload X173 hx (pc' := 316) rfl (hb hby at_314) rfl rfl ?_
    refine g_iconst X173 hx (pc' := 317) (z := (0 : Int32)) rfl (hb hby at_316) rfl ?_
    refine g_daload X173 hx hZ A173 (i := 0) (by decide) (show (0 : Nat) < 4 by decide) (v := y0) rfl (pc' := 318) rfl (hb hby at_317) ?_
    refine g_lload X173 hx (pc' := 320) rfl (hb hby at_318) rfl ?_
    refine g_l2d X173 hx (pc' := 321) rfl (hb hby at_320) ?_
    refine g_dcmp X173 hx (pc' := 322) (z := (0 : Int32)) rfl (hb hby at_321) (own_dyeq fy0 (own_l2d (by have := sb0.2; omega)) (by exact rfl)) ?_
    refine g_ifN X173 hx (pcN := 325) (hb hby at_322) rfl (show ¬ (¬ (0 : Int32) = 0) from by decide) ?_
    refine g_aload X173 hx (pc' := 327) rfl (hb hby at_325) rfl rfl ?_
    refine g_iconst X173 hx (pc' := 328) (z := (3 : Int32)) rfl (hb hby at_327) rfl ?_
    refine g_daload X173 hx hZ A173 (i := 3) (by decide) (show (3 : Nat) < 4 by decide) (v := y3) rfl (pc' := 329) rfl (hb hby at_328) ?_
    refine g_lload X173 hx (pc' := 331) rfl (hb hby at_329) rfl ?_
    refine g_lload X173 hx (pc' := 333) rfl (hb hby at_331) rfl ?_
    refine g_lload X173 hx (pc' := 335) rfl (hb hby at_333) rfl ?_
    refine g_ladd X173 hx (pc' := 336) rfl (hb hby at_335) ?_
    refine g_lmul X173 hx (pc' := 337) rfl (hb hby at_336) ?_
    refine g_lload X173 hx (pc' := 339) rfl (hb hby at_337) rfl ?_
    refine g_ladd X173 hx (pc' := 340) rfl (hb hby at_339) ?_
    refine g_l2d X173 hx (pc' := 341) rfl (hb hby at_340) ?_
    refine g_dcmp X173 hx (pc' := 342) (z := (0 : Int32)) rfl (hb hby at_341) (own_dyeq fy3 (own_l2d (by have := sb3.2; omega)) (by exact rfl)) ?_
    refine g_ifN X173 hx (pcN := 345) (hb hby at_342) rfl (show ¬ (¬ (0 : Int32) = 0) from by decide) ?_
    refine g_aload X173 hx (pc' := 347) rfl (hb hby at_345) rfl rfl ?_
    refine g_iconst X173 hx (pc' := 348) (z := (1 : Int32)) rfl (hb hby at_347) rfl ?_
    refine g_daload X173 hx hZ A173 (i := 1) (by decide) (show (1 : Nat) < 4 by decide) (v := y1) rfl (pc' := 349) rfl (hb hby at_348) ?_
    refine g_ldc2L X173 hx hZ hown (hw _ (List.mem_of_getElem? (i := 12) rfl)) (pc' := 352) (v := (2 : Int64)) rfl (hb hby at_349) ?_
    refine g_lload X173 hx (pc' := 354) rfl (hb hby at_352) rfl ?_
    refine g_lmul X173 hx (pc' := 355) rfl (hb hby at_354) ?_
    refine g_lload X173 hx (pc' := 357) rfl (hb hby at_355) rfl ?_
    refine g_lmul X173 hx (pc' := 358) rfl (hb hby at_357) ?_
    refine g_lload X173 hx (pc' := 360) rfl (hb hby at_358) rfl ?_
    refine g_ladd X173 hx (pc' := 361) rfl (hb hby at_360) ?_
    refine g_callS X173 hx hZ hown (hw _ (List.mem_of_getElem? (i := 13) rfl)) (hw _ (List.mem_of_getElem? (i := 14) rfl)) (hw _ (List.mem_of_getElem? (i := 2) rfl)) (hw _ (List.mem_of_getElem? (i := 15) rfl)) (by decide) (rm4 l Z a0 hw [] n0 y1 ((((2 : Int64) * P') * T1') + Q') (2 * P' * T1' + Q').toInt h173 zs173 fy1.1 rfl (by have := cb1.2; omega) (by have := cb1.2; omega) fy1.2) pd_3 rfl rfl (by rw [hml]; rfl) (pc' := 364) rfl (hb hby at_361) (argsL := [(.double y1), (.long ((((2 : Int64) * P') * T1') + Q'))]) (rest := []) rfl (W := 0) (Nat.le_of_eq rfl) (by decide) (by decide) (by decide) (by decide) (fun v174 T174 h174 X174 hQ174 => ?_)
    obtain ⟨rfl, he174⟩ := hQ174
    rw [he174] at X174
    show Go p e below s n0 _ _ _ (T174.setTop (mkF m 364 #[.val (.int x0), .val (.int x1), .val (.int x2), .val (.int x3), .val (.int x4), .val (.int x5), .val (.int (4 : Int32)), .val (.long P'), .second, .val (.long Q'), .second, .val (.long R'), .second, .val (.long T0'), .second, .val (.long T1'), .second, .val (.long T2'), .second, .val (.long T3'), .second, .val (.ref ta), .val (.ref va), .val (.ref da), .val (.long ((P' * (T1' + T0')) + Q')), .second] [(.int (1 : Int32))]))
    refine g_ifN X174 hx (pcN := 367) (hb hby at_364) rfl (show ¬ ((1 : Int32) = 0) from by decide) ?_
    refine g_aload X174 hx (pc' := 369) rfl (hb hby at_367) rfl rfl ?_
    refine g_iconst X174 hx (pc' := 370) (z := (2 : Int32)) rfl (hb hby at_369) rfl ?_
    refine g_daload X174 hx hZ A173 (i := 2) (by decide) (show (2 : Nat) < 4 by decide) (v := y2) rfl (pc' := 371) rfl (hb hby at_370) ?_
    refine g_ldc2L X174 hx hZ hown (hw _ (List.mem_of_getElem? (i := 12) rfl)) (pc' := 374) (v := (2 : Int64)) rfl (hb hby at_371) ?_
    refine g_lload X174 hx (pc' := 376) rfl (hb hby at_374) rfl ?_
    refine g_lmul X174 hx (pc' := 377) rfl (hb hby at_376) ?_
    refine g_lload X174 hx (pc' := 379) rfl (hb hby at_377) rfl ?_
    refine g_lmul X174 hx (pc' := 380) rfl (hb hby at_379) ?_
    refine g_lload X174 hx (pc' := 382) rfl (hb hby at_380) rfl ?_
    refine g_ladd X174 hx (pc' := 383) rfl (hb hby at_382) ?_
    refine g_callS X174 hx hZ hown (hw _ (List.mem_of_getElem? (i := 13) rfl)) (hw _ (List.mem_of_getElem? (i := 14) rfl)) (hw _ (List.mem_of_getElem? (i := 2) rfl)) (hw _ (List.mem_of_getElem? (i := 15) rfl)) (by decide) (rm4 l Z a0 hw [] n0 y2 ((((2 : Int64) * P') * T2') + Q') (2 * P' * T2' + Q').toInt h173 zs173 fy2.1 rfl (by have := cb2.2; omega) (by have := cb2.2; omega) fy2.2) pd_3 rfl rfl (by rw [hml]; rfl) (pc' := 386) rfl (hb hby at_383) (argsL := [(.double y2), (.long ((((2 : Int64) * P') * T2') + Q'))]) (rest := []) rfl (W := 0) (Nat.le_of_eq rfl) (by decide) (by decide) (by decide) (by decide) (fun v175 T175 h175 X175 hQ175 => ?_)
    obtain ⟨rfl, he175⟩ := hQ175
    rw [he175] at X175
    show Go p e below s n0 _ _ _ (T175.setTop (mkF m 386 #[.val (.int x0), .val (.int x1), .val (.int x2), .val (.int x3), .val (.int x4), .val (.int x5), .val (.int (4 : Int32)), .val (.long P'), .second, .val (.long Q'), .second, .val (.long R'), .second, .val (.long T0'), .second, .val (.long T1'), .second, .val (.long T2'), .second, .val (.long T3'), .second, .val (.ref ta), .val (.ref va), .val (.ref da), .val (.long ((P' * (T1' + T0')) + Q')), .second] [(.int (1 : Int32))]))
    refine g_ifN X175 hx (pcN := 389) (hb hby at_386) rfl (show ¬ ((1 : Int32) = 0) from by decide) ?_
    refine g_iconst X175 hx (pc' := 390) (z := (1 : Int32)) rfl (hb hby at_389) rfl ?_
    refine g_goto X175 hx (pc' := 394) (hb hby at_390) (by decide) (by decide) ?_
    exact g_retZ X175 hx hlk hret (Or.inr rfl) (hb hby at_394) (by decide) (by decide) (rfl)
set_option maxRecDepth 65536 in
set_option maxHeartbeats 40000000 in
theorem comes_1 {Post : Tables → Env → Array Value → State → Outcome → State → Prop} (hpost : ∀ tb e args s v u, (limb_1_1.after args s (.returned v) u = true ∧ limb_1_2.after args s (.returned v) u = true ∧ True) → FrameEnd s (.returned v) u (Jvm.fieldLocs frame_1_writes args s ++ Jvm.arrayLocs frame_1_arrays args s ++ Jvm.staticLocs frame_1_statics s) 16 128 → Post tb e args s (.returned v) u) :
    ArmFor flags0 classFile x code maxLocals ret World_1 tables_1 room_1 Calls_1 rest_1 Pre_1 Post := by
  intro l hfl _ _ p e ha hc hk s m args below hf hA hF happ hP
  obtain ⟨hcalls, hrest, hpre⟩ := hP
  obtain ⟨-, -, -, hnamed, -, -, -, hat⟩ := (Spec.applies_iff hf).mp happ
  obtain ⟨hg, hn⟩ := and_e (Cond.before_iff.mp (show (Jvm.Cond.and given_1 narrow_1).before args s = true from hpre))
  obtain ⟨hcount, hg0⟩ := and_e hg
  obtain ⟨ha0, hg1⟩ := and_e hg0
  obtain ⟨ha1, hg2⟩ := and_e hg1
  obtain ⟨ha2, hg3⟩ := and_e hg2
  obtain ⟨ha3, hg4⟩ := and_e hg3
  obtain ⟨ha4, hg5⟩ := and_e hg4
  have ha5 := hg5
  obtain ⟨w0, w1, w2, w3, w4, w5, rfl⟩ : ∃ w0 w1 w2 w3 w4 w5 : Value, args = #[w0, w1, w2, w3, w4, w5] := by
    have hs : args.size = 6 := by simpa [Cond.value, given_1] using hcount
    obtain ⟨L⟩ := args
    match L, hs with
    | [w0, w1, w2, w3, w4, w5], _ => exact ⟨w0, w1, w2, w3, w4, w5, rfl⟩
  have hw := fun d (hd : d ∈ tables_1) => atoms_spec (ws := Jvm.Cond.code x code maxLocals ret :: tables_1) hat d (List.mem_cons_of_mem _ hd)
  obtain ⟨i0, ei0⟩ := is_v ha0
  obtain rfl : w0 = (.int i0) := Option.some.inj ei0
  obtain ⟨i1, ei1⟩ := is_v ha1
  obtain rfl : w1 = (.int i1) := Option.some.inj ei1
  obtain ⟨i2, ei2⟩ := is_v ha2
  obtain rfl : w2 = (.int i2) := Option.some.inj ei2
  obtain ⟨i3, ei3⟩ := is_v ha3
  obtain rfl : w3 = (.int i3) := Option.some.inj ei3
  obtain ⟨i4, ei4⟩ := is_v ha4
  obtain rfl : w4 = (.int i4) := Option.some.inj ei4
  obtain ⟨i5, ei5⟩ := is_v ha5
  obtain rfl : w5 = (.int i5) := Option.some.inj ei5
  obtain ⟨n, o, h1, h2, h3, _, L, rfl, ⟨N, rfl⟩, hq⟩ := rm0 l s _ hw tables_1 s.heap.size i0 i1 i2 i3 i4 i5 s.heap (Nat.le_refl _)  p e ha hc hk s m _ below hf ((Spec.applies_iff_loose hf).mp happ).1 ⟨rfl, State.Warmed39.refl s, rfl⟩ trivial
  refine ⟨n, _, h1, h2, h3, hpost _ _ _ _ _ _ ⟨Cond.after_iff.mpr rfl, Cond.after_iff.mpr (eq_i res_at (Term.int_eval (1)) rfl), trivial⟩ ⟨hq.1, hq.2.1, (hq.2.2.sift fun y hy => Or.inr (N y hy)).mono (by decide) (by decide)⟩⟩
theorem main_1_1 : Claimed_1_1 := comes_1 fun _ _ _ _ _ _ h hF => ⟨h.1, hF⟩
theorem main_1_2 : Claimed_1_2 := comes_1 fun _ _ _ _ _ _ h hF => ⟨h.2.1, hF⟩
end Jvm.Pilot.@@N@@
-- WITNESS
namespace Jvm.Pilot.@@N@@
open Jvm Jvm.ClassFile Sem Op Lib Jvm.Free Jvm.Stand Jvm.Pilot.@@N@@.Jvm.D
/-! MADE BY PROGRAM (witnessworld.py) out of the Statement's table words and the real class files: 11 classes; the members and pool entries that the words name. The judged class is class 1, her method 4. -/
namespace start1
open Jvm.ClassFile
def u (s : String) : CpInfo := .utf8 (stringToUtf16 s)
/-- a pool by its gaps: so many unusable entries, then the entry; so many at the end -/
def gap : Nat → List CpInfo → List CpInfo
  | 0, r => r
  | n + 1, r => .unusable :: gap n r
def poolList (es : List (Nat × CpInfo)) (last : Nat) : List CpInfo := es.foldr (fun e r => gap e.1 (e.2 :: r)) (gap last [])
def pool (es : List (Nat × CpInfo)) (last : Nat) : Array CpInfo := ⟨poolList es last⟩
def fileOf (pool : Array CpInfo) (this : Nat) (attrs : Array Attribute := #[]) (ms : Array MethodInfo := #[]) (fl : Nat := 33) (sup : Nat := 0) (ifs : Array Nat := #[]) (fds : Array FieldInfo := #[]) : ClassFile where
  minorVersion := 0
  majorVersion := 65
  constantPool := pool
  accessFlags := fl
  thisClass := this
  superClass := sup
  interfaces := ifs
  fields := fds
  methods := ms
  attributes := attrs
def plain (name : String) (sup : Option ClassId) : Class where
  name := name
  kind := .ordinary
  loader := none
  accessFlags := 33
  super := sup
  interfaces := #[]
  cf := none
  fields := #[]
  methods := #[]
  instanceTypes := #[]
  staticTypes := #[]
  resolved := #[]
  callSites := []
  init := .initialized
  statics := none
  mirror := none

def pool0 : Array CpInfo := pool [(5, u "<init>"), (0, u "()V"), (1, .class_ 10), (1, u "java/lang/Object")] 113

def k0m0 : Method := { name := "<init>", desc := "()V", sig := { parameters := [], returnType := none }, accessFlags := 1, code := none }
/-- java/lang/Object -/
def k0 : Class := { plain "java/lang/Object" none with
  accessFlags := 33
  interfaces := #[]
  cf := some (fileOf pool0 8 #[] #[{ accessFlags := 1, nameIndex := 5, descriptorIndex := 6, attributes := #[] }] 33 0 #[] #[])
  fields := #[]
  methods := #[k0m0]
  instanceTypes := #[]
  staticTypes := #[]
  resolved := Array.replicate 124 none
  statics := none }

def pool1 : Array CpInfo := pool [(2, .class_ 4), (1, u "java/lang/Object"), (0, u "<init>"), (0, u "()V"), (0, .double 4517110426252607488), (1, .methodref 10 11), (0, .class_ 12), (0, .nameAndType 13 14), (0, u "com/example/measured_traces/measuredtraces/DerivativesEstimatePinLaw"), (0, u "pick"), (0, u "(IDDDD)[D"), (0, .methodref 10 16), (0, .nameAndType 17 18), (0, u "val"), (0, u "(JJJJ)D"), (0, .methodref 20 21), (0, .class_ 22), (0, .nameAndType 23 24), (0, u "com/example/measured_traces/measuredtraces/Derivatives"), (0, u "estimate"), (0, u "([D[D)[D"), (0, .long 2), (1, .methodref 10 28), (0, .nameAndType 29 30), (0, u "near"), (0, u "(DJ)Z"), (3, u "law"), (0, u "(IIIIII)Z")] 4

def k1m0 : Method := { name := "<init>", desc := "()V", sig := { parameters := [], returnType := none }, accessFlags := 2, code := none }
def k1c1 : Code := { maxStack := 5, maxLocals := 9, code := method_2_code, exceptionTable := #[], attributes := #[] }
def k1m1 : Method := { name := "pick", desc := "(IDDDD)[D", sig := { parameters := [.int, .double, .double, .double, .double], returnType := some (.array .double) }, accessFlags := 10, code := some k1c1 }
def k1c2 : Code := { maxStack := 6, maxLocals := 8, code := method_3_code, exceptionTable := #[], attributes := #[] }
def k1m2 : Method := { name := "val", desc := "(JJJJ)D", sig := { parameters := [.long, .long, .long, .long], returnType := some .double }, accessFlags := 10, code := some k1c2 }
def k1c3 : Code := { maxStack := 4, maxLocals := 8, code := method_4_code, exceptionTable := #[], attributes := #[] }
def k1m3 : Method := { name := "near", desc := "(DJ)Z", sig := { parameters := [.double, .long], returnType := some .boolean }, accessFlags := 10, code := some k1c3 }
def k1c4 : Code := { maxStack := 15, maxLocals := 26, code := code, exceptionTable := #[], attributes := #[] }
def k1m4 : Method := { name := "law", desc := "(IIIIII)Z", sig := { parameters := [.int, .int, .int, .int, .int, .int], returnType := some .boolean }, accessFlags := 9, code := some k1c4 }
/-- com/example/measured_traces/measuredtraces/DerivativesEstimatePinLaw -/
def k1 : Class := { plain "com/example/measured_traces/measuredtraces/DerivativesEstimatePinLaw" (some 0) with
  accessFlags := 49
  interfaces := #[]
  cf := some (fileOf pool1 10 #[] #[{ accessFlags := 2, nameIndex := 5, descriptorIndex := 6, attributes := #[] }, { accessFlags := 10, nameIndex := 13, descriptorIndex := 14, attributes := #[] }, { accessFlags := 10, nameIndex := 17, descriptorIndex := 18, attributes := #[] }, { accessFlags := 10, nameIndex := 29, descriptorIndex := 30, attributes := #[] }, { accessFlags := 9, nameIndex := 34, descriptorIndex := 35, attributes := #[] }] 49 2 #[] #[])
  fields := #[]
  methods := #[k1m0, k1m1, k1m2, k1m3, k1m4]
  instanceTypes := #[]
  staticTypes := #[]
  resolved := Array.replicate 40 none
  statics := none }

def pool2 : Array CpInfo := pool [(2, .class_ 4), (1, u "java/lang/Object"), (0, u "<init>"), (0, u "()V"), (0, .class_ 8), (0, u "com/example/measured_traces/measuredtraces/Derivatives"), (2, u "estimate"), (0, u "([D[D)[D")] 5

def k2m0 : Method := { name := "<init>", desc := "()V", sig := { parameters := [], returnType := none }, accessFlags := 2, code := none }
def k2c1 : Code := { maxStack := 9, maxLocals := 15, code := prog_25_method_2_code, exceptionTable := #[], attributes := #[] }
def k2m1 : Method := { name := "estimate", desc := "([D[D)[D", sig := { parameters := [(.array .double), (.array .double)], returnType := some (.array .double) }, accessFlags := 8, code := some k2c1 }
/-- com/example/measured_traces/measuredtraces/Derivatives -/
def k2 : Class := { plain "com/example/measured_traces/measuredtraces/Derivatives" (some 0) with
  accessFlags := 32
  interfaces := #[]
  cf := some (fileOf pool2 7 #[] #[{ accessFlags := 2, nameIndex := 5, descriptorIndex := 6, attributes := #[] }, { accessFlags := 8, nameIndex := 11, descriptorIndex := 12, attributes := #[] }] 32 2 #[] #[])
  fields := #[]
  methods := #[k2m0, k2m1]
  instanceTypes := #[]
  staticTypes := #[]
  resolved := Array.replicate 18 none
  statics := none }

def pool3 : Array CpInfo := pool [(1, u "java/lang/Cloneable"), (0, .class_ 1), (0, u "java/lang/Object"), (0, .class_ 3)] 3

/-- java/lang/Cloneable -/
def k3 : Class := { plain "java/lang/Cloneable" (some 0) with
  accessFlags := 1537
  interfaces := #[]
  cf := some (fileOf pool3 2 #[] #[] 1537 4 #[] #[])
  fields := #[]
  methods := #[]
  instanceTypes := #[]
  staticTypes := #[]
  resolved := Array.replicate 8 none
  statics := none }

def pool4 : Array CpInfo := pool [(1, u "java/io/Serializable"), (0, .class_ 1), (0, u "java/lang/Object"), (0, .class_ 3)] 3

/-- java/io/Serializable -/
def k4 : Class := { plain "java/io/Serializable" (some 0) with
  accessFlags := 1537
  interfaces := #[]
  cf := some (fileOf pool4 2 #[] #[] 1537 4 #[] #[])
  fields := #[]
  methods := #[]
  instanceTypes := #[]
  staticTypes := #[]
  resolved := Array.replicate 8 none
  statics := none }

/-- the primitive byte -/
def k5 : Class := { plain "byte" none with kind := .primitive 'B', accessFlags := 0x411 }
/-- [B -/
def k6 : Class := { plain "[B" (some 0) with kind := .array 5 .byte, interfaces := #[3, 4], accessFlags := 1041 }

/-- the primitive int -/
def k7 : Class := { plain "int" none with kind := .primitive 'I', accessFlags := 0x411 }
/-- [I -/
def k8 : Class := { plain "[I" (some 0) with kind := .array 7 .int, interfaces := #[3, 4], accessFlags := 1041 }

/-- the primitive short -/
def k9 : Class := { plain "double" none with kind := .primitive 'D', accessFlags := 0x411 }
/-- [S -/
def k10 : Class := { plain "[D" (some 0) with kind := .array 9 .double, interfaces := #[3, 4], accessFlags := 1041 }

def heap : Heap := #[]
def classes : Array Class := #[k0, k1, k2, k3, k4, k5, k6, k7, k8, k9, k10]
def interned : List (Array UInt16 × Addr) := []
def slotsUsed : Nat := 0
def theMethod : MethodId := ⟨1, 4⟩
def args0 : Array Value := #[.int 5, .int 3, .int 2, .int 7, .int 1, .int 4]
def aboutOver (below : List Frame) : State where
  vm := { classes := classes, interned := interned.toArray }
  heap := heap
  slotsUsed := slotsUsed
  threads := #[{ frames := .invoking theMethod args0 :: below }]
def below0 : List Frame := [.native { method := ⟨0, 0⟩, args := #[] }]
def about1 : State := aboutOver below0
def p0 : Program := .bare "" "" ""
def e0 : Env := launch0.env 0 0 0
theorem w_frames : about1.frames = Frame.invoking theMethod args0 :: below0 := rfl
set_option maxRecDepth 65536 in
theorem w_args : argsFit about1.vm theMethod args0 = true := by decide +kernel
set_option maxRecDepth 65536 in
theorem w_heap : heapFits about1 = true := by decide +kernel
set_option maxRecDepth 65536 in
theorem w_runnable : about1.curStatus? = some .runnable := by decide +kernel
set_option maxRecDepth 65536 in
theorem w_alone : about1.alone = true := by decide +kernel
set_option maxRecDepth 65536 in
theorem w_named : about1.methodNamed? x = some theMethod := by decide +kernel
set_option maxRecDepth 65536 in
theorem w_hears : about1.hears theMethod below0 = true := by decide +kernel
set_option maxRecDepth 65536 in
theorem w_ripe : about1.ripe theMethod args0 below0 = true := by decide +kernel
theorem w_running : about1.status = .running := rfl
set_option maxRecDepth 65536 in
theorem w_room : about1.hasRoom e0.platform room_1 = true :=
  launch0.hasRoom_least _ room_1 (by decide +kernel) (by decide +kernel) (by decide +kernel) (by decide +kernel) (by decide +kernel) (by decide +kernel)
theorem allAtoms_all (ts : List Jvm.Cond) (a : Array Jvm.Value) (st : Jvm.State) : (allAtoms ts).before a st = ts.all (fun c => c.before a st) := by
  induction ts with
  | nil => rfl
  | cons c t ih =>
    show (Jvm.Cond.and c (allAtoms t)).before a st = _
    rw [Jvm.Cond.before_and, ih, List.all_cons]
def words1 : List Jvm.Cond := Jvm.Cond.code x code maxLocals ret :: tables_1
/-- a 'code' word, met by the world's own term for the bytes: nothing is compared byte by byte -/
theorem code_word {y : MethodName} {bytes : ByteArray} {mx : Nat} {rt : Option FieldType} {a : Array Value} {s : State} {m : MethodId} {meth : Method} {c : Code} (h1 : s.methodNamed? y = some m) (h2 : s.vm.method? m = some meth) (h3 : meth.code = some c) (h4 : c.code = bytes)
    (h5 : (c.maxLocals == mx && c.exceptionTable.isEmpty && decide (c.maxStack ≤ mostOperands) && decide (meth.sig.returnType = rt) && !meth.locks && decide (parseMethodDescriptor y.desc = some meth.sig)) = true) : (Jvm.Cond.code y bytes mx rt).before a s = true := by
  simp only [Bool.and_eq_true, beq_iff_eq, Bool.not_eq_true', decide_eq_true_eq] at h5
  obtain ⟨⟨⟨⟨⟨g1, g2⟩, g3⟩, g4⟩, g5⟩, g6⟩ := h5
  simp [Cond.before, Cond.holds, Cond.value, h1, h2, h3, h4, g1, g2, g3, g4, g5, g6]
def isCode : Jvm.Cond → Bool
  | .code _ _ _ _ => true
  | _ => false
theorem all_split {L : List Jvm.Cond} {P : Jvm.Cond → Bool} (h1 : L.all (fun c => isCode c || P c) = true) (h2 : ∀ c ∈ L.filter isCode, P c = true) : L.all P = true := by
  refine List.all_eq_true.mpr fun c hc => ?_
  have h := List.all_eq_true.mp h1 c hc
  rcases Bool.eq_false_or_eq_true (isCode c) with hi | hi
  · exact h2 c (List.mem_filter.mpr ⟨hc, hi⟩)
  · simpa [hi] using h
set_option maxRecDepth 65536 in
theorem w_c0 : (Jvm.Cond.code x code maxLocals ret).before args0 about1 = true := code_word (m := ⟨1, 4⟩) (meth := k1m4) (c := k1c4) (by decide +kernel) rfl rfl rfl (by decide +kernel)
set_option maxRecDepth 65536 in
theorem w_c1 : (Jvm.Cond.code ({ cls := "com/example/measured_traces/measuredtraces/DerivativesEstimatePinLaw", name := "pick", desc := "(IDDDD)[D" } : Jvm.MethodName) method_2_code (9 : Nat) (Option.some (Jvm.ClassFile.FieldType.array Jvm.ClassFile.FieldType.double))).before args0 about1 = true := code_word (m := ⟨1, 1⟩) (meth := k1m1) (c := k1c1) (by decide +kernel) rfl rfl rfl (by decide +kernel)
set_option maxRecDepth 65536 in
theorem w_c2 : (Jvm.Cond.code ({ cls := "com/example/measured_traces/measuredtraces/DerivativesEstimatePinLaw", name := "val", desc := "(JJJJ)D" } : Jvm.MethodName) method_3_code (8 : Nat) (Option.some Jvm.ClassFile.FieldType.double)).before args0 about1 = true := code_word (m := ⟨1, 2⟩) (meth := k1m2) (c := k1c2) (by decide +kernel) rfl rfl rfl (by decide +kernel)
set_option maxRecDepth 65536 in
theorem w_c3 : (Jvm.Cond.code ({ cls := "com/example/measured_traces/measuredtraces/Derivatives", name := "estimate", desc := "([D[D)[D" } : Jvm.MethodName) prog_25_method_2_code (15 : Nat) (Option.some (Jvm.ClassFile.FieldType.array Jvm.ClassFile.FieldType.double))).before args0 about1 = true := code_word (m := ⟨2, 1⟩) (meth := k2m1) (c := k2c1) (by decide +kernel) rfl rfl rfl (by decide +kernel)
set_option maxRecDepth 65536 in
theorem w_c4 : (Jvm.Cond.code ({ cls := "com/example/measured_traces/measuredtraces/DerivativesEstimatePinLaw", name := "near", desc := "(DJ)Z" } : Jvm.MethodName) method_4_code (8 : Nat) (Option.some Jvm.ClassFile.FieldType.boolean)).before args0 about1 = true := code_word (m := ⟨1, 3⟩) (meth := k1m3) (c := k1c3) (by decide +kernel) rfl rfl rfl (by decide +kernel)
def codes1 : List Jvm.Cond := [Jvm.Cond.code x code maxLocals ret, Jvm.Cond.code ({ cls := "com/example/measured_traces/measuredtraces/DerivativesEstimatePinLaw", name := "pick", desc := "(IDDDD)[D" } : Jvm.MethodName) method_2_code (9 : Nat) (Option.some (Jvm.ClassFile.FieldType.array Jvm.ClassFile.FieldType.double)), Jvm.Cond.code ({ cls := "com/example/measured_traces/measuredtraces/DerivativesEstimatePinLaw", name := "val", desc := "(JJJJ)D" } : Jvm.MethodName) method_3_code (8 : Nat) (Option.some Jvm.ClassFile.FieldType.double), Jvm.Cond.code ({ cls := "com/example/measured_traces/measuredtraces/Derivatives", name := "estimate", desc := "([D[D)[D" } : Jvm.MethodName) prog_25_method_2_code (15 : Nat) (Option.some (Jvm.ClassFile.FieldType.array Jvm.ClassFile.FieldType.double)), Jvm.Cond.code ({ cls := "com/example/measured_traces/measuredtraces/DerivativesEstimatePinLaw", name := "near", desc := "(DJ)Z" } : Jvm.MethodName) method_4_code (8 : Nat) (Option.some Jvm.ClassFile.FieldType.boolean)]
set_option maxRecDepth 65536 in
theorem codes_eq : words1.filter isCode = codes1 := rfl
theorem w_codes : ∀ c ∈ words1.filter isCode, c.before args0 about1 = true := by
  rw [codes_eq]
  intro c hc
  simp only [codes1, List.mem_cons, List.not_mem_nil, or_false] at hc
  rcases hc with rfl | rfl | rfl | rfl | rfl
  · exact w_c0
  · exact w_c1
  · exact w_c2
  · exact w_c3
  · exact w_c4
set_option maxRecDepth 65536 in
theorem w_t1 : words1.all (fun c => isCode c || c.before args0 about1) = true := by decide +kernel
theorem w_tables : (allAtoms (Jvm.Cond.code x code maxLocals ret :: tables_1)).before args0 about1 = true := by
  rw [allAtoms_all]
  show words1.all (fun c => c.before args0 about1) = true
  refine all_split ?_ w_codes
  rw [w_t1]
set_option maxRecDepth 65536 in
theorem w_case : (Jvm.Cond.and given_1 narrow_1).before args0 about1 = true := by decide +kernel
theorem w_applies : (headSpec (Jvm.Cond.code x code maxLocals ret :: tables_1) room_1).applies x e0.platform about1 = true :=
  (Spec.applies_iff w_frames).mpr ⟨w_running, w_runnable, w_alone, w_named, w_hears, w_ripe, w_room, w_tables⟩
theorem atStart : AtStart classFile x code maxLocals ret World_1 tables_1 room_1 Calls_1 rest_1 Pre_1 launch0 p0 e0 about1 theMethod args0 below0 :=
  ⟨lists_1, trivial, launch0.admits_env _ _ _, launch0.least_env, fairChoices_fair.cas, fairChoices_fair.clock, w_frames, w_args, w_heap, w_applies, trivial, trivial, w_case⟩
end start1
theorem witness_1 : WitnessClaimed_1 := ⟨start1.p0, start1.e0, start1.about1, start1.theMethod, start1.args0, start1.below0, start1.atStart⟩
end Jvm.Pilot.@@N@@
