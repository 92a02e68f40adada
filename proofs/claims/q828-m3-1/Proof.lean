import JvmDerived
import JvmDerived.Pilot.@@N@@Statement
import JvmDerived.Pilot.@@N@@Code
set_option linter.unusedVariables false
set_option linter.unusedSimpArgs false
namespace Jvm.Pilot.@@N@@
open Jvm Jvm.ClassFile Sem Op Lib Jvm.Free Jvm.Stand Jvm.LawKit Jvm.RoadKit Bundle Jvm.Pilot.@@N@@.Jvm.D
section OwnKit
open Jvm.FP Jvm.Free.Fl
variable {p : Program} {l : Launch} {e : Env} {R : Room} {s : State} {m : MethodId} {args : Array Value} {below : List Frame} {meth : Method} {c : Code} {T : State} {Z : State} {a0 : Array Value} {h : Heap} {n0 cells slots nc ns pc pc' : Nat} {Ls : Array Slot} {st rest : List Value} {Q : Option Value → Heap → Prop}
/-- a contract: the method returns, what it leaves is Q, and nothing below n0 is written -/
def Con (l : Launch) (Z : State) (n0 : Nat) (y : MethodName) (bytes : ByteArray) (ml : Nat) (ret : Option FieldType) (ws : List Jvm.Cond) (rm : Room) (as : Array Value) (h0 : Heap) (Q : Option Value → Heap → Prop) : Prop :=
  MetFree l y (head1 (Jvm.Cond.code y bytes ml ret :: ws) rm) (fun a U => a = as ∧ Z.Warmed39 U.vm ∧ U.heap = h0) (fun _ _ _ _ _ => True) (fun _ U o U' => ∃ v L, o = .returned v ∧ (Fr n0 L ∧ Q v U'.heap) ∧ FrameEnd U o U' L rm.cells rm.slots)
/-- where a walk stands, the places written kept to themselves -/
def Wk (p : Program) (l : Launch) (e : Env) (R : Room) (s : State) (m : MethodId) (args : Array Value) (below : List Frame) (meth : Method) (c : Code) (n0 : Nat) (T : State) (h : Heap) (cells slots : Nat) : Prop :=
  ∃ locs, Stand p l e R s m args below meth c T locs cells slots ∧ Fr n0 locs ∧ T.heap = h
/-- from t the run ends, and leaves Q -/
def Go (p : Program) (e : Env) (below : List Frame) (s : State) (n0 : Nat) (Q : Option Value → Heap → Prop) (nc ns : Nat) (t : State) : Prop :=
  ∃ s₂ o, Steps p.tables e below t s₂ ∧ s₂.status = .running ∧ Ended s₂ below o ∧ ∃ v L, o = .returned v ∧ (Fr n0 L ∧ Q v s₂.heap) ∧ FrameEnd s o s₂ L nc ns
theorem Wk.here (X : Wk p l e R s m args below meth c n0 T h cells slots) : At T m c below := by obtain ⟨_, X, -⟩ := X; exact X.here
theorem Wk.heap (X : Wk p l e R s m args below meth c n0 T h cells slots) : T.heap = h := by obtain ⟨_, -, -, q⟩ := X; exact q
theorem go_back {t t' : State} (b : ∀ target, Steps p.tables e below t' target → Steps p.tables e below t target) (k : Go p e below s n0 Q nc ns t') : Go p e below s n0 Q nc ns t := by
  obtain ⟨u, o, h1, r⟩ := k
  exact ⟨u, o, b u h1, r⟩
theorem con_start {y : MethodName} {bytes : ByteArray} {ml : Nat} {ret : Option FieldType} {ws : List Jvm.Cond} {rm : Room} {as : Array Value} {h0 : Heap} (hpl : plainFor y = true) {fr0 : MethodId → JFrame} (hfr : ∀ m, entryFrame m as ml = fr0 m)
    (k : ∀ (p : Program) (e : Env) (s : State) (m : MethodId) (below : List Frame) (meth : Method) (c : Code) (s₁ : State), p.tables.exec = Jvm.exec → Z.Warmed39 s.vm → c.code = bytes → c.maxLocals = ml → s.vm.findClass y.cls = some m.cls → meth.name = y.name → meth.sig.returnType = ret → meth.locks = false →
      Wk p l e rm s m as below meth c n0 s₁ h0 0 0 → Go p e below s n0 Q rm.cells rm.slots (s₁.setTop (fr0 m))) : Con l Z n0 y bytes ml ret ws rm as h0 Q := by
  refine MetFree.of_bodySF hpl hisR ?_
  intro p e s m args below meth c s₁ Bd hml0 hP hK
  obtain ⟨rfl, hZ, hh⟩ := hP
  rw [hfr]
  exact k p e s m below meth c s₁ Bd.exec hZ Bd.bytes hml0 (findClass_of_methodNamed Bd.named) (name_of_methodNamed Bd.named Bd.method).1 Bd.returns Bd.notSynchronized ⟨[], Stand.of_body Bd, Fr.nil n0, by rw [← hh, Bd.state]; rfl⟩
/-- what an int branch asks -/
def cP : ClassFile.Cond → Int32 → Int32 → Prop
  | .eq, x, y => x = y
  | .ne, x, y => ¬ x = y
  | .lt, x, y => x < y
  | .ge, x, y => ¬ x < y
  | .gt, x, y => y < x
  | .le, x, y => ¬ y < x
theorem cP_yes {cd : ClassFile.Cond} {x y : Int32} (q : cP cd x y) : if_icmp.holds cd x y = true := by
  cases cd
  · exact (teq q).1
  · exact (feq q).2
  · exact (tlt q).1
  · exact (flt q).2.1
  · exact (tlt q).2.2.1
  · exact (flt q).2.2.2
theorem cP_no {cd : ClassFile.Cond} {x y : Int32} (q : ¬ cP cd x y) : if_icmp.holds cd x y = false := by
  cases cd
  · exact (feq q).1
  · exact (teq (Classical.not_not.mp q)).2
  · exact (flt q).1
  · exact (tlt (Classical.not_not.mp q)).2.1
  · exact (flt q).2.2.1
  · exact (tlt (Classical.not_not.mp q)).2.2.2
theorem g_iload (X : Wk p l e R s m args below meth c n0 T h cells slots) (hx : p.tables.exec = Jvm.exec) {k : Nat} {v : Int32} (hp : pc + 2 = pc') (hd : decode c.code pc = .ok (.iload k, 2)) (hl : Ls[k]? = some (.val (.int v))) (k : Go p e below s n0 Q nc ns (T.setTop (mkF m pc' Ls (.int v :: st)))) : Go p e below s n0 Q nc ns (T.setTop (mkF m pc Ls (st))) := by
  subst hp; exact go_back (fun _ j => XS.iload X.here hx rfl hd hl j) k
theorem g_iloadN (X : Wk p l e R s m args below meth c n0 T h cells slots) (hx : p.tables.exec = Jvm.exec) {k : Fin 4} {v : Int32} (hp : pc + 1 = pc') (hd : decode c.code pc = .ok (.iload_n k, 1)) (hl : Ls[k.val]? = some (.val (.int v))) (k : Go p e below s n0 Q nc ns (T.setTop (mkF m pc' Ls (.int v :: st)))) : Go p e below s n0 Q nc ns (T.setTop (mkF m pc Ls (st))) := by
  subst hp; exact go_back (fun _ j => XS.iloadN X.here hx rfl hd hl j) k
theorem g_istore (X : Wk p l e R s m args below meth c n0 T h cells slots) (hx : p.tables.exec = Jvm.exec) {k : Nat} {x : Int32} {l' : Array Slot} (hp : pc + 2 = pc') (hd : decode c.code pc = .ok (.istore k, 2)) (hl : storeLocals Ls k (.int x) = some l') (k : Go p e below s n0 Q nc ns (T.setTop (mkF m pc' l' (rest)))) : Go p e below s n0 Q nc ns (T.setTop (mkF m pc Ls (.int x :: rest))) := by
  subst hp; exact go_back (fun _ j => XS.istore X.here hx rfl hd rfl hl j) k
theorem g_istoreN (X : Wk p l e R s m args below meth c n0 T h cells slots) (hx : p.tables.exec = Jvm.exec) {k : Fin 4} {x : Int32} {l' : Array Slot} (hp : pc + 1 = pc') (hd : decode c.code pc = .ok (.istore_n k, 1)) (hl : storeLocals Ls k.val (.int x) = some l') (k : Go p e below s n0 Q nc ns (T.setTop (mkF m pc' l' (rest)))) : Go p e below s n0 Q nc ns (T.setTop (mkF m pc Ls (.int x :: rest))) := by
  subst hp; exact go_back (fun _ j => XS.istoreN X.here hx rfl hd rfl hl j) k
theorem g_absI {x : Int32} (k : ∀ z : Int32, z = x → Go p e below s n0 Q nc ns (T.setTop (mkF m pc Ls (.int z :: rest)))) : Go p e below s n0 Q nc ns (T.setTop (mkF m pc Ls (.int x :: rest))) := k x rfl
theorem g_lload (X : Wk p l e R s m args below meth c n0 T h cells slots) (hx : p.tables.exec = Jvm.exec) {k : Nat} {v : Int64} (hp : pc + 2 = pc') (hd : decode c.code pc = .ok (.lload k, 2)) (hl : Ls[k]? = some (.val (.long v))) (k : Go p e below s n0 Q nc ns (T.setTop (mkF m pc' Ls (.long v :: st)))) : Go p e below s n0 Q nc ns (T.setTop (mkF m pc Ls (st))) := by
  subst hp; exact go_back (fun _ j => XS.lload X.here hx rfl hd hl j) k
theorem g_lloadN (X : Wk p l e R s m args below meth c n0 T h cells slots) (hx : p.tables.exec = Jvm.exec) {k : Fin 4} {v : Int64} (hp : pc + 1 = pc') (hd : decode c.code pc = .ok (.lload_n k, 1)) (hl : Ls[k.val]? = some (.val (.long v))) (k : Go p e below s n0 Q nc ns (T.setTop (mkF m pc' Ls (.long v :: st)))) : Go p e below s n0 Q nc ns (T.setTop (mkF m pc Ls (st))) := by
  subst hp; exact go_back (fun _ j => XS.lloadN X.here hx rfl hd hl j) k
theorem g_lstore (X : Wk p l e R s m args below meth c n0 T h cells slots) (hx : p.tables.exec = Jvm.exec) {k : Nat} {x : Int64} {l' : Array Slot} (hp : pc + 2 = pc') (hd : decode c.code pc = .ok (.lstore k, 2)) (hl : storeLocals Ls k (.long x) = some l') (k : Go p e below s n0 Q nc ns (T.setTop (mkF m pc' l' (rest)))) : Go p e below s n0 Q nc ns (T.setTop (mkF m pc Ls (.long x :: rest))) := by
  subst hp; exact go_back (fun _ j => XS.lstore X.here hx rfl hd rfl hl j) k
theorem g_lstoreN (X : Wk p l e R s m args below meth c n0 T h cells slots) (hx : p.tables.exec = Jvm.exec) {k : Fin 4} {x : Int64} {l' : Array Slot} (hp : pc + 1 = pc') (hd : decode c.code pc = .ok (.lstore_n k, 1)) (hl : storeLocals Ls k.val (.long x) = some l') (k : Go p e below s n0 Q nc ns (T.setTop (mkF m pc' l' (rest)))) : Go p e below s n0 Q nc ns (T.setTop (mkF m pc Ls (.long x :: rest))) := by
  subst hp; exact go_back (fun _ j => XS.lstoreN X.here hx rfl hd rfl hl j) k
theorem g_absL {x : Int64} (k : ∀ z : Int64, z = x → Go p e below s n0 Q nc ns (T.setTop (mkF m pc Ls (.long z :: rest)))) : Go p e below s n0 Q nc ns (T.setTop (mkF m pc Ls (.long x :: rest))) := k x rfl
theorem g_dload (X : Wk p l e R s m args below meth c n0 T h cells slots) (hx : p.tables.exec = Jvm.exec) {k : Nat} {v : UInt64} (hp : pc + 2 = pc') (hd : decode c.code pc = .ok (.dload k, 2)) (hl : Ls[k]? = some (.val (.double v))) (k : Go p e below s n0 Q nc ns (T.setTop (mkF m pc' Ls (.double v :: st)))) : Go p e below s n0 Q nc ns (T.setTop (mkF m pc Ls (st))) := by
  subst hp; exact go_back (fun _ j => XS.dload X.here hx rfl hd hl j) k
theorem g_dloadN (X : Wk p l e R s m args below meth c n0 T h cells slots) (hx : p.tables.exec = Jvm.exec) {k : Fin 4} {v : UInt64} (hp : pc + 1 = pc') (hd : decode c.code pc = .ok (.dload_n k, 1)) (hl : Ls[k.val]? = some (.val (.double v))) (k : Go p e below s n0 Q nc ns (T.setTop (mkF m pc' Ls (.double v :: st)))) : Go p e below s n0 Q nc ns (T.setTop (mkF m pc Ls (st))) := by
  subst hp; exact go_back (fun _ j => XS.dloadN X.here hx rfl hd hl j) k
theorem g_dstore (X : Wk p l e R s m args below meth c n0 T h cells slots) (hx : p.tables.exec = Jvm.exec) {k : Nat} {x : UInt64} {l' : Array Slot} (hp : pc + 2 = pc') (hd : decode c.code pc = .ok (.dstore k, 2)) (hl : storeLocals Ls k (.double x) = some l') (k : Go p e below s n0 Q nc ns (T.setTop (mkF m pc' l' (rest)))) : Go p e below s n0 Q nc ns (T.setTop (mkF m pc Ls (.double x :: rest))) := by
  subst hp; exact go_back (fun _ j => XS.dstore X.here hx rfl hd rfl hl j) k
theorem g_dstoreN (X : Wk p l e R s m args below meth c n0 T h cells slots) (hx : p.tables.exec = Jvm.exec) {k : Fin 4} {x : UInt64} {l' : Array Slot} (hp : pc + 1 = pc') (hd : decode c.code pc = .ok (.dstore_n k, 1)) (hl : storeLocals Ls k.val (.double x) = some l') (k : Go p e below s n0 Q nc ns (T.setTop (mkF m pc' l' (rest)))) : Go p e below s n0 Q nc ns (T.setTop (mkF m pc Ls (.double x :: rest))) := by
  subst hp; exact go_back (fun _ j => XS.dstoreN X.here hx rfl hd rfl hl j) k
theorem g_absD {x : UInt64} (k : ∀ z : UInt64, z = x → Go p e below s n0 Q nc ns (T.setTop (mkF m pc Ls (.double z :: rest)))) : Go p e below s n0 Q nc ns (T.setTop (mkF m pc Ls (.double x :: rest))) := k x rfl
theorem g_aload (X : Wk p l e R s m args below meth c n0 T h cells slots) (hx : p.tables.exec = Jvm.exec) {k : Nat} {v : Value} (hp : pc + 2 = pc') (hd : decode c.code pc = .ok (.aload k, 2)) (hl : Ls[k]? = some (.val v)) (hv : v.isRef = true) (k : Go p e below s n0 Q nc ns (T.setTop (mkF m pc' Ls (v :: st)))) : Go p e below s n0 Q nc ns (T.setTop (mkF m pc Ls (st))) := by
  subst hp; exact go_back (fun _ j => XS.aload X.here hx rfl hd hl hv j) k
theorem g_aloadN (X : Wk p l e R s m args below meth c n0 T h cells slots) (hx : p.tables.exec = Jvm.exec) {k : Fin 4} {v : Value} (hp : pc + 1 = pc') (hd : decode c.code pc = .ok (.aload_n k, 1)) (hl : Ls[k.val]? = some (.val v)) (hv : v.isRef = true) (k : Go p e below s n0 Q nc ns (T.setTop (mkF m pc' Ls (v :: st)))) : Go p e below s n0 Q nc ns (T.setTop (mkF m pc Ls (st))) := by
  subst hp; exact go_back (fun _ j => XS.aloadN X.here hx rfl hd hl hv j) k
theorem g_astore (X : Wk p l e R s m args below meth c n0 T h cells slots) (hx : p.tables.exec = Jvm.exec) {k : Nat} {x : Value} {l' : Array Slot} (hp : pc + 2 = pc') (hd : decode c.code pc = .ok (.astore k, 2)) (hv : x.isRef = true) (hl : storeLocals Ls k x = some l') (k : Go p e below s n0 Q nc ns (T.setTop (mkF m pc' l' (rest)))) : Go p e below s n0 Q nc ns (T.setTop (mkF m pc Ls (x :: rest))) := by
  subst hp; exact go_back (fun _ j => XS.astore X.here hx rfl hd rfl hv hl j) k
theorem g_astoreN (X : Wk p l e R s m args below meth c n0 T h cells slots) (hx : p.tables.exec = Jvm.exec) {k : Fin 4} {x : Value} {l' : Array Slot} (hp : pc + 1 = pc') (hd : decode c.code pc = .ok (.astore_n k, 1)) (hv : x.isRef = true) (hl : storeLocals Ls k.val x = some l') (k : Go p e below s n0 Q nc ns (T.setTop (mkF m pc' l' (rest)))) : Go p e below s n0 Q nc ns (T.setTop (mkF m pc Ls (x :: rest))) := by
  subst hp; exact go_back (fun _ j => XS.astoreN X.here hx rfl hd rfl hv hl j) k
theorem g_iconst (X : Wk p l e R s m args below meth c n0 T h cells slots) (hx : p.tables.exec = Jvm.exec) {i : Int} {z : Int32} (hp : pc + 1 = pc') (hd : decode c.code pc = .ok (.iconst i, 1)) (hz : Int32.ofInt i = z) (k : Go p e below s n0 Q nc ns (T.setTop (mkF m pc' Ls (.int z :: st)))) : Go p e below s n0 Q nc ns (T.setTop (mkF m pc Ls (st))) := by
  subst hp; exact go_back (fun _ j => XS.iconst X.here hx rfl hd (show Steps _ _ _ (T.setTop (mkF m (pc + 1) Ls (.int (Int32.ofInt i) :: st))) _ from hz ▸ j)) k
theorem g_bipush (X : Wk p l e R s m args below meth c n0 T h cells slots) (hx : p.tables.exec = Jvm.exec) {i : Int} {z : Int32} (hp : pc + 2 = pc') (hd : decode c.code pc = .ok (.bipush i, 2)) (hz : (Int8.ofInt i).toInt32 = z) (k : Go p e below s n0 Q nc ns (T.setTop (mkF m pc' Ls (.int z :: st)))) : Go p e below s n0 Q nc ns (T.setTop (mkF m pc Ls (st))) := by
  subst hp; exact go_back (fun _ j => XS.bipush X.here hx rfl hd (show Steps _ _ _ (T.setTop (mkF m (pc + 2) Ls (.int (Int8.ofInt i).toInt32 :: st))) _ from hz ▸ j)) k
theorem g_sipush (X : Wk p l e R s m args below meth c n0 T h cells slots) (hx : p.tables.exec = Jvm.exec) {i : Int} {z : Int32} (hp : pc + 3 = pc') (hd : decode c.code pc = .ok (.sipush i, 3)) (hz : (Int16.ofInt i).toInt32 = z) (k : Go p e below s n0 Q nc ns (T.setTop (mkF m pc' Ls (.int z :: st)))) : Go p e below s n0 Q nc ns (T.setTop (mkF m pc Ls (st))) := by
  subst hp; exact go_back (fun _ j => XS.sipush X.here hx rfl hd (show Steps _ _ _ (T.setTop (mkF m (pc + 3) Ls (.int (Int16.ofInt i).toInt32 :: st))) _ from hz ▸ j)) k
theorem g_lconst (X : Wk p l e R s m args below meth c n0 T h cells slots) (hx : p.tables.exec = Jvm.exec) {i : Fin 2} {z : Int64} (hp : pc + 1 = pc') (hd : decode c.code pc = .ok (.lconst i, 1)) (hz : Int64.ofNat i = z) (k : Go p e below s n0 Q nc ns (T.setTop (mkF m pc' Ls (.long z :: st)))) : Go p e below s n0 Q nc ns (T.setTop (mkF m pc Ls (st))) := by
  subst hp; exact go_back (fun _ j => XS.lconst X.here hx rfl hd (show Steps _ _ _ (T.setTop (mkF m (pc + 1) Ls (.long (Int64.ofNat i) :: st))) _ from hz ▸ j)) k
theorem g_dconst0 (X : Wk p l e R s m args below meth c n0 T h cells slots) (hx : p.tables.exec = Jvm.exec)  (hp : pc + 1 = pc') (hd : decode c.code pc = .ok (.dconst 0, 1))  (k : Go p e below s n0 Q nc ns (T.setTop (mkF m pc' Ls (.double 0 :: st)))) : Go p e below s n0 Q nc ns (T.setTop (mkF m pc Ls (st))) := by
  subst hp; exact go_back (fun _ j => XS.dconst0 X.here hx rfl hd rfl j) k
theorem g_dconst1 (X : Wk p l e R s m args below meth c n0 T h cells slots) (hx : p.tables.exec = Jvm.exec)  (hp : pc + 1 = pc') (hd : decode c.code pc = .ok (.dconst 1, 1))  (k : Go p e below s n0 Q nc ns (T.setTop (mkF m pc' Ls (.double 4607182418800017408 :: st)))) : Go p e below s n0 Q nc ns (T.setTop (mkF m pc Ls (st))) := by
  subst hp; exact go_back (fun _ j => XS.dconst1 X.here hx rfl hd rfl j) k
theorem g_aconst_null (X : Wk p l e R s m args below meth c n0 T h cells slots) (hx : p.tables.exec = Jvm.exec)  (hp : pc + 1 = pc') (hd : decode c.code pc = .ok (.aconst_null, 1))  (k : Go p e below s n0 Q nc ns (T.setTop (mkF m pc' Ls (.null :: st)))) : Go p e below s n0 Q nc ns (T.setTop (mkF m pc Ls (st))) := by
  subst hp; exact go_back (fun _ j => XS.aconstNull X.here hx rfl hd j) k
theorem g_iadd (X : Wk p l e R s m args below meth c n0 T h cells slots) (hx : p.tables.exec = Jvm.exec) {x y : Int32} (hp : pc + 1 = pc') (hd : decode c.code pc = .ok (.iadd, 1))  (k : Go p e below s n0 Q nc ns (T.setTop (mkF m pc' Ls (.int (x + y) :: rest)))) : Go p e below s n0 Q nc ns (T.setTop (mkF m pc Ls (.int y :: .int x :: rest))) := by
  subst hp; exact go_back (fun _ j => XS.iadd X.here hx rfl hd rfl j) k
theorem g_ladd (X : Wk p l e R s m args below meth c n0 T h cells slots) (hx : p.tables.exec = Jvm.exec) {x y : Int64} (hp : pc + 1 = pc') (hd : decode c.code pc = .ok (.ladd, 1))  (k : Go p e below s n0 Q nc ns (T.setTop (mkF m pc' Ls (.long (x + y) :: rest)))) : Go p e below s n0 Q nc ns (T.setTop (mkF m pc Ls (.long y :: .long x :: rest))) := by
  subst hp; exact go_back (fun _ j => XS.ladd X.here hx rfl hd rfl j) k
theorem g_isub (X : Wk p l e R s m args below meth c n0 T h cells slots) (hx : p.tables.exec = Jvm.exec) {x y : Int32} (hp : pc + 1 = pc') (hd : decode c.code pc = .ok (.isub, 1))  (k : Go p e below s n0 Q nc ns (T.setTop (mkF m pc' Ls (.int (x - y) :: rest)))) : Go p e below s n0 Q nc ns (T.setTop (mkF m pc Ls (.int y :: .int x :: rest))) := by
  subst hp; exact go_back (fun _ j => XS.isub X.here hx rfl hd rfl j) k
theorem g_lsub (X : Wk p l e R s m args below meth c n0 T h cells slots) (hx : p.tables.exec = Jvm.exec) {x y : Int64} (hp : pc + 1 = pc') (hd : decode c.code pc = .ok (.lsub, 1))  (k : Go p e below s n0 Q nc ns (T.setTop (mkF m pc' Ls (.long (x - y) :: rest)))) : Go p e below s n0 Q nc ns (T.setTop (mkF m pc Ls (.long y :: .long x :: rest))) := by
  subst hp; exact go_back (fun _ j => XS.lsub X.here hx rfl hd rfl j) k
theorem g_imul (X : Wk p l e R s m args below meth c n0 T h cells slots) (hx : p.tables.exec = Jvm.exec) {x y : Int32} (hp : pc + 1 = pc') (hd : decode c.code pc = .ok (.imul, 1))  (k : Go p e below s n0 Q nc ns (T.setTop (mkF m pc' Ls (.int (x * y) :: rest)))) : Go p e below s n0 Q nc ns (T.setTop (mkF m pc Ls (.int y :: .int x :: rest))) := by
  subst hp; exact go_back (fun _ j => XS.imul X.here hx rfl hd rfl j) k
theorem g_lmul (X : Wk p l e R s m args below meth c n0 T h cells slots) (hx : p.tables.exec = Jvm.exec) {x y : Int64} (hp : pc + 1 = pc') (hd : decode c.code pc = .ok (.lmul, 1))  (k : Go p e below s n0 Q nc ns (T.setTop (mkF m pc' Ls (.long (x * y) :: rest)))) : Go p e below s n0 Q nc ns (T.setTop (mkF m pc Ls (.long y :: .long x :: rest))) := by
  subst hp; exact go_back (fun _ j => XS.lmul X.here hx rfl hd rfl j) k
theorem g_iand (X : Wk p l e R s m args below meth c n0 T h cells slots) (hx : p.tables.exec = Jvm.exec) {x y : Int32} (hp : pc + 1 = pc') (hd : decode c.code pc = .ok (.iand, 1))  (k : Go p e below s n0 Q nc ns (T.setTop (mkF m pc' Ls (.int (x &&& y) :: rest)))) : Go p e below s n0 Q nc ns (T.setTop (mkF m pc Ls (.int y :: .int x :: rest))) := by
  subst hp; exact go_back (fun _ j => XS.iand X.here hx rfl hd rfl j) k
theorem g_land (X : Wk p l e R s m args below meth c n0 T h cells slots) (hx : p.tables.exec = Jvm.exec) {x y : Int64} (hp : pc + 1 = pc') (hd : decode c.code pc = .ok (.land, 1))  (k : Go p e below s n0 Q nc ns (T.setTop (mkF m pc' Ls (.long (x &&& y) :: rest)))) : Go p e below s n0 Q nc ns (T.setTop (mkF m pc Ls (.long y :: .long x :: rest))) := by
  subst hp; exact go_back (fun _ j => XS.land X.here hx rfl hd rfl j) k
theorem g_ior (X : Wk p l e R s m args below meth c n0 T h cells slots) (hx : p.tables.exec = Jvm.exec) {x y : Int32} (hp : pc + 1 = pc') (hd : decode c.code pc = .ok (.ior, 1))  (k : Go p e below s n0 Q nc ns (T.setTop (mkF m pc' Ls (.int (x ||| y) :: rest)))) : Go p e below s n0 Q nc ns (T.setTop (mkF m pc Ls (.int y :: .int x :: rest))) := by
  subst hp; exact go_back (fun _ j => XS.ior X.here hx rfl hd rfl j) k
theorem g_lor (X : Wk p l e R s m args below meth c n0 T h cells slots) (hx : p.tables.exec = Jvm.exec) {x y : Int64} (hp : pc + 1 = pc') (hd : decode c.code pc = .ok (.lor, 1))  (k : Go p e below s n0 Q nc ns (T.setTop (mkF m pc' Ls (.long (x ||| y) :: rest)))) : Go p e below s n0 Q nc ns (T.setTop (mkF m pc Ls (.long y :: .long x :: rest))) := by
  subst hp; exact go_back (fun _ j => XS.lor X.here hx rfl hd rfl j) k
theorem g_ixor (X : Wk p l e R s m args below meth c n0 T h cells slots) (hx : p.tables.exec = Jvm.exec) {x y : Int32} (hp : pc + 1 = pc') (hd : decode c.code pc = .ok (.ixor, 1))  (k : Go p e below s n0 Q nc ns (T.setTop (mkF m pc' Ls (.int (x ^^^ y) :: rest)))) : Go p e below s n0 Q nc ns (T.setTop (mkF m pc Ls (.int y :: .int x :: rest))) := by
  subst hp; exact go_back (fun _ j => XS.ixor X.here hx rfl hd rfl j) k
theorem g_lxor (X : Wk p l e R s m args below meth c n0 T h cells slots) (hx : p.tables.exec = Jvm.exec) {x y : Int64} (hp : pc + 1 = pc') (hd : decode c.code pc = .ok (.lxor, 1))  (k : Go p e below s n0 Q nc ns (T.setTop (mkF m pc' Ls (.long (x ^^^ y) :: rest)))) : Go p e below s n0 Q nc ns (T.setTop (mkF m pc Ls (.long y :: .long x :: rest))) := by
  subst hp; exact go_back (fun _ j => XS.lxor X.here hx rfl hd rfl j) k
theorem g_idiv (X : Wk p l e R s m args below meth c n0 T h cells slots) (hx : p.tables.exec = Jvm.exec) {x y : Int32} (hp : pc + 1 = pc') (hd : decode c.code pc = .ok (.idiv, 1)) (hy : y ≠ 0) (k : Go p e below s n0 Q nc ns (T.setTop (mkF m pc' Ls (.int (x / y) :: rest)))) : Go p e below s n0 Q nc ns (T.setTop (mkF m pc Ls (.int y :: .int x :: rest))) := by
  subst hp; exact go_back (fun _ j => XS.idiv X.here hx rfl hd rfl hy j) k
theorem g_irem (X : Wk p l e R s m args below meth c n0 T h cells slots) (hx : p.tables.exec = Jvm.exec) {x y : Int32} (hp : pc + 1 = pc') (hd : decode c.code pc = .ok (.irem, 1)) (hy : y ≠ 0) (k : Go p e below s n0 Q nc ns (T.setTop (mkF m pc' Ls (.int (x % y) :: rest)))) : Go p e below s n0 Q nc ns (T.setTop (mkF m pc Ls (.int y :: .int x :: rest))) := by
  subst hp; obtain ⟨_, X, -⟩ := X; exact go_back (fun _ j => iremM X hx (g := mkF m pc Ls (.int y :: .int x :: rest)) rfl hd rfl hy j) k
theorem g_ldiv (X : Wk p l e R s m args below meth c n0 T h cells slots) (hx : p.tables.exec = Jvm.exec) {x y : Int64} (hp : pc + 1 = pc') (hd : decode c.code pc = .ok (.ldiv, 1)) (hy : y ≠ 0) (k : Go p e below s n0 Q nc ns (T.setTop (mkF m pc' Ls (.long (x / y) :: rest)))) : Go p e below s n0 Q nc ns (T.setTop (mkF m pc Ls (.long y :: .long x :: rest))) := by
  subst hp; exact go_back (fun _ j => XS.ldiv X.here hx rfl hd rfl hy j) k
theorem g_lrem (X : Wk p l e R s m args below meth c n0 T h cells slots) (hx : p.tables.exec = Jvm.exec) {x y : Int64} (hp : pc + 1 = pc') (hd : decode c.code pc = .ok (.lrem, 1)) (hy : y ≠ 0) (k : Go p e below s n0 Q nc ns (T.setTop (mkF m pc' Ls (.long (x - (x / y) * y) :: rest)))) : Go p e below s n0 Q nc ns (T.setTop (mkF m pc Ls (.long y :: .long x :: rest))) := by
  subst hp; exact go_back (fun _ j => XS.lrem X.here hx rfl hd rfl hy j) k
theorem g_ishl (X : Wk p l e R s m args below meth c n0 T h cells slots) (hx : p.tables.exec = Jvm.exec) {x y : Int32} (hp : pc + 1 = pc') (hd : decode c.code pc = .ok (.ishl, 1))  (k : Go p e below s n0 Q nc ns (T.setTop (mkF m pc' Ls (.int (x <<< (y &&& 31)) :: rest)))) : Go p e below s n0 Q nc ns (T.setTop (mkF m pc Ls (.int y :: .int x :: rest))) := by
  subst hp; exact go_back (fun _ j => XS.ishl X.here hx rfl hd rfl j) k
theorem g_ishr (X : Wk p l e R s m args below meth c n0 T h cells slots) (hx : p.tables.exec = Jvm.exec) {x y : Int32} (hp : pc + 1 = pc') (hd : decode c.code pc = .ok (.ishr, 1))  (k : Go p e below s n0 Q nc ns (T.setTop (mkF m pc' Ls (.int (x >>> (y &&& 31)) :: rest)))) : Go p e below s n0 Q nc ns (T.setTop (mkF m pc Ls (.int y :: .int x :: rest))) := by
  subst hp; exact go_back (fun _ j => XS.ishr X.here hx rfl hd rfl j) k
theorem g_iushr (X : Wk p l e R s m args below meth c n0 T h cells slots) (hx : p.tables.exec = Jvm.exec) {x y : Int32} (hp : pc + 1 = pc') (hd : decode c.code pc = .ok (.iushr, 1))  (k : Go p e below s n0 Q nc ns (T.setTop (mkF m pc' Ls (.int ((x.toUInt32 >>> (y &&& 31).toUInt32).toInt32) :: rest)))) : Go p e below s n0 Q nc ns (T.setTop (mkF m pc Ls (.int y :: .int x :: rest))) := by
  subst hp; exact go_back (fun _ j => XS.iushr X.here hx rfl hd rfl j) k
theorem g_lshl (X : Wk p l e R s m args below meth c n0 T h cells slots) (hx : p.tables.exec = Jvm.exec) {x : Int64} {y : Int32} (hp : pc + 1 = pc') (hd : decode c.code pc = .ok (.lshl, 1))  (k : Go p e below s n0 Q nc ns (T.setTop (mkF m pc' Ls (.long (x <<< (y &&& 0x3f).toInt64) :: rest)))) : Go p e below s n0 Q nc ns (T.setTop (mkF m pc Ls (.int y :: .long x :: rest))) := by
  subst hp; exact go_back (fun _ j => XS.lshl X.here hx rfl hd rfl j) k
theorem g_lshr (X : Wk p l e R s m args below meth c n0 T h cells slots) (hx : p.tables.exec = Jvm.exec) {x : Int64} {y : Int32} (hp : pc + 1 = pc') (hd : decode c.code pc = .ok (.lshr, 1))  (k : Go p e below s n0 Q nc ns (T.setTop (mkF m pc' Ls (.long (x >>> (y &&& 0x3f).toInt64) :: rest)))) : Go p e below s n0 Q nc ns (T.setTop (mkF m pc Ls (.int y :: .long x :: rest))) := by
  subst hp; exact go_back (fun _ j => XS.lshr X.here hx rfl hd rfl j) k
theorem g_lushr (X : Wk p l e R s m args below meth c n0 T h cells slots) (hx : p.tables.exec = Jvm.exec) {x : Int64} {y : Int32} (hp : pc + 1 = pc') (hd : decode c.code pc = .ok (.lushr, 1))  (k : Go p e below s n0 Q nc ns (T.setTop (mkF m pc' Ls (.long ((x.toUInt64 >>> (y &&& 0x3f).toInt64.toUInt64).toInt64) :: rest)))) : Go p e below s n0 Q nc ns (T.setTop (mkF m pc Ls (.int y :: .long x :: rest))) := by
  subst hp; exact go_back (fun _ j => XS.lushr X.here hx rfl hd rfl j) k
theorem g_ineg (X : Wk p l e R s m args below meth c n0 T h cells slots) (hx : p.tables.exec = Jvm.exec) {x : Int32} (hp : pc + 1 = pc') (hd : decode c.code pc = .ok (.ineg, 1))  (k : Go p e below s n0 Q nc ns (T.setTop (mkF m pc' Ls (.int (-x) :: rest)))) : Go p e below s n0 Q nc ns (T.setTop (mkF m pc Ls (.int x :: rest))) := by
  subst hp; exact go_back (fun _ j => XS.ineg X.here hx rfl hd rfl j) k
theorem g_lneg (X : Wk p l e R s m args below meth c n0 T h cells slots) (hx : p.tables.exec = Jvm.exec) {x : Int64} (hp : pc + 1 = pc') (hd : decode c.code pc = .ok (.lneg, 1))  (k : Go p e below s n0 Q nc ns (T.setTop (mkF m pc' Ls (.long (-x) :: rest)))) : Go p e below s n0 Q nc ns (T.setTop (mkF m pc Ls (.long x :: rest))) := by
  subst hp; exact go_back (fun _ j => XS.lneg X.here hx rfl hd rfl j) k
theorem g_i2l (X : Wk p l e R s m args below meth c n0 T h cells slots) (hx : p.tables.exec = Jvm.exec) {x : Int32} (hp : pc + 1 = pc') (hd : decode c.code pc = .ok (.i2l, 1))  (k : Go p e below s n0 Q nc ns (T.setTop (mkF m pc' Ls (.long x.toInt64 :: rest)))) : Go p e below s n0 Q nc ns (T.setTop (mkF m pc Ls (.int x :: rest))) := by
  subst hp; exact go_back (fun _ j => XS.i2l X.here hx rfl hd rfl j) k
theorem g_l2i (X : Wk p l e R s m args below meth c n0 T h cells slots) (hx : p.tables.exec = Jvm.exec) {x : Int64} (hp : pc + 1 = pc') (hd : decode c.code pc = .ok (.l2i, 1))  (k : Go p e below s n0 Q nc ns (T.setTop (mkF m pc' Ls (.int x.toInt32 :: rest)))) : Go p e below s n0 Q nc ns (T.setTop (mkF m pc Ls (.long x :: rest))) := by
  subst hp; exact go_back (fun _ j => XS.l2i X.here hx rfl hd rfl j) k
theorem g_i2b (X : Wk p l e R s m args below meth c n0 T h cells slots) (hx : p.tables.exec = Jvm.exec) {x : Int32} (hp : pc + 1 = pc') (hd : decode c.code pc = .ok (.i2b, 1))  (k : Go p e below s n0 Q nc ns (T.setTop (mkF m pc' Ls (.int x.toInt8.toInt32 :: rest)))) : Go p e below s n0 Q nc ns (T.setTop (mkF m pc Ls (.int x :: rest))) := by
  subst hp; exact go_back (fun _ j => XS.i2b X.here hx rfl hd rfl j) k
theorem g_i2s (X : Wk p l e R s m args below meth c n0 T h cells slots) (hx : p.tables.exec = Jvm.exec) {x : Int32} (hp : pc + 1 = pc') (hd : decode c.code pc = .ok (.i2s, 1))  (k : Go p e below s n0 Q nc ns (T.setTop (mkF m pc' Ls (.int x.toInt16.toInt32 :: rest)))) : Go p e below s n0 Q nc ns (T.setTop (mkF m pc Ls (.int x :: rest))) := by
  subst hp; exact go_back (fun _ j => XS.i2s X.here hx rfl hd rfl j) k
theorem g_i2c (X : Wk p l e R s m args below meth c n0 T h cells slots) (hx : p.tables.exec = Jvm.exec) {x : Int32} (hp : pc + 1 = pc') (hd : decode c.code pc = .ok (.i2c, 1))  (k : Go p e below s n0 Q nc ns (T.setTop (mkF m pc' Ls (.int x.toUInt32.toUInt16.toUInt32.toInt32 :: rest)))) : Go p e below s n0 Q nc ns (T.setTop (mkF m pc Ls (.int x :: rest))) := by
  subst hp; exact go_back (fun _ j => XS.i2c X.here hx rfl hd rfl j) k
theorem g_lcmp (X : Wk p l e R s m args below meth c n0 T h cells slots) (hx : p.tables.exec = Jvm.exec) {x y : Int64} (hp : pc + 1 = pc') (hd : decode c.code pc = .ok (.lcmp, 1))  (k : Go p e below s n0 Q nc ns (T.setTop (mkF m pc' Ls (.int (lcmpW x y) :: rest)))) : Go p e below s n0 Q nc ns (T.setTop (mkF m pc Ls (.long y :: .long x :: rest))) := by
  subst hp; exact go_back (fun _ j => XS.lcmp X.here hx rfl hd rfl j) k
theorem g_i2d (X : Wk p l e R s m args below meth c n0 T h cells slots) (hx : p.tables.exec = Jvm.exec) {x : Int32} (hp : pc + 1 = pc') (hd : decode c.code pc = .ok (.i2d, 1))  (k : Go p e below s n0 Q nc ns (T.setTop (mkF m pc' Ls (.double (FP.i2d x) :: rest)))) : Go p e below s n0 Q nc ns (T.setTop (mkF m pc Ls (.int x :: rest))) := by
  subst hp; exact go_back (fun _ j => XS.i2dS X.here hx rfl hd rfl rfl j) k
theorem g_l2d (X : Wk p l e R s m args below meth c n0 T h cells slots) (hx : p.tables.exec = Jvm.exec) {x : Int64} (hp : pc + 1 = pc') (hd : decode c.code pc = .ok (.l2d, 1))  (k : Go p e below s n0 Q nc ns (T.setTop (mkF m pc' Ls (.double (FP.l2d x) :: rest)))) : Go p e below s n0 Q nc ns (T.setTop (mkF m pc Ls (.long x :: rest))) := by
  subst hp; exact go_back (fun _ j => XS.l2dS X.here hx rfl hd rfl rfl j) k
theorem g_dneg (X : Wk p l e R s m args below meth c n0 T h cells slots) (hx : p.tables.exec = Jvm.exec) {x : UInt64} (hp : pc + 1 = pc') (hd : decode c.code pc = .ok (.dneg, 1))  (k : Go p e below s n0 Q nc ns (T.setTop (mkF m pc' Ls (.double (FP.dneg x) :: rest)))) : Go p e below s n0 Q nc ns (T.setTop (mkF m pc Ls (.double x :: rest))) := by
  subst hp; exact go_back (fun _ j => XS.dnegS X.here hx rfl hd rfl rfl j) k
theorem g_dcmp (X : Wk p l e R s m args below meth c n0 T h cells slots) (hx : p.tables.exec = Jvm.exec) {o : CmpOp} {x y : UInt64} {z : Int32} (hp : pc + 1 = pc') (hd : decode c.code pc = .ok (.dcmp o, 1)) (hz : cmpValue (FP.dcmp x y) o = z) (k : Go p e below s n0 Q nc ns (T.setTop (mkF m pc' Ls (.int z :: rest)))) : Go p e below s n0 Q nc ns (T.setTop (mkF m pc Ls (.double y :: .double x :: rest))) := by
  subst hp; exact go_back (fun _ j => XS.dcmpS X.here hx rfl hd rfl hz j) k
theorem g_dadd (X : Wk p l e R s m args below meth c n0 T h cells slots) (hx : p.tables.exec = Jvm.exec) {x y z : UInt64} (hp : pc + 1 = pc') (hd : decode c.code pc = .ok (.dadd, 1)) (hn : NoNaN64 (FP.dadd x y)) (hz : FP.dadd x y = z) (k : Go p e below s n0 Q nc ns (T.setTop (mkF m pc' Ls (.double z :: rest)))) : Go p e below s n0 Q nc ns (T.setTop (mkF m pc Ls (.double y :: .double x :: rest))) := by
  subst hp; exact go_back (fun _ j => XS.daddS X.here hx rfl hd rfl hn hz j) k
theorem g_dsub (X : Wk p l e R s m args below meth c n0 T h cells slots) (hx : p.tables.exec = Jvm.exec) {x y z : UInt64} (hp : pc + 1 = pc') (hd : decode c.code pc = .ok (.dsub, 1)) (hn : NoNaN64 (FP.dsub x y)) (hz : FP.dsub x y = z) (k : Go p e below s n0 Q nc ns (T.setTop (mkF m pc' Ls (.double z :: rest)))) : Go p e below s n0 Q nc ns (T.setTop (mkF m pc Ls (.double y :: .double x :: rest))) := by
  subst hp; exact go_back (fun _ j => XS.dsubS X.here hx rfl hd rfl hn hz j) k
theorem g_dmul (X : Wk p l e R s m args below meth c n0 T h cells slots) (hx : p.tables.exec = Jvm.exec) {x y z : UInt64} (hp : pc + 1 = pc') (hd : decode c.code pc = .ok (.dmul, 1)) (hn : NoNaN64 (FP.dmul x y)) (hz : FP.dmul x y = z) (k : Go p e below s n0 Q nc ns (T.setTop (mkF m pc' Ls (.double z :: rest)))) : Go p e below s n0 Q nc ns (T.setTop (mkF m pc Ls (.double y :: .double x :: rest))) := by
  subst hp; exact go_back (fun _ j => XS.dmulS X.here hx rfl hd rfl hn hz j) k
theorem g_ddiv (X : Wk p l e R s m args below meth c n0 T h cells slots) (hx : p.tables.exec = Jvm.exec) {x y z : UInt64} (hp : pc + 1 = pc') (hd : decode c.code pc = .ok (.ddiv, 1)) (hn : NoNaN64 (FP.ddiv x y)) (hz : FP.ddiv x y = z) (k : Go p e below s n0 Q nc ns (T.setTop (mkF m pc' Ls (.double z :: rest)))) : Go p e below s n0 Q nc ns (T.setTop (mkF m pc Ls (.double y :: .double x :: rest))) := by
  subst hp; exact go_back (fun _ j => XS.ddivS X.here hx rfl hd rfl hn hz j) k
theorem g_dup (X : Wk p l e R s m args below meth c n0 T h cells slots) (hx : p.tables.exec = Jvm.exec) {x : Value} (hp : pc + 1 = pc') (hd : decode c.code pc = .ok (.dup, 1)) (hc : x.category = 1) (k : Go p e below s n0 Q nc ns (T.setTop (mkF m pc' Ls (x :: x :: rest)))) : Go p e below s n0 Q nc ns (T.setTop (mkF m pc Ls (x :: rest))) := by
  subst hp; exact go_back (fun _ j => XS.dup X.here hx rfl hd rfl hc j) k
theorem g_dup_x1 (X : Wk p l e R s m args below meth c n0 T h cells slots) (hx : p.tables.exec = Jvm.exec) {x y : Value} (hp : pc + 1 = pc') (hd : decode c.code pc = .ok (.dup_x1, 1)) (hc : x.category = 1) (hc' : y.category = 1) (k : Go p e below s n0 Q nc ns (T.setTop (mkF m pc' Ls (x :: y :: x :: rest)))) : Go p e below s n0 Q nc ns (T.setTop (mkF m pc Ls (x :: y :: rest))) := by
  subst hp; exact go_back (fun _ j => XS.dupX1 X.here hx rfl hd rfl hc hc' j) k
theorem g_pop (X : Wk p l e R s m args below meth c n0 T h cells slots) (hx : p.tables.exec = Jvm.exec) {x : Value} (hp : pc + 1 = pc') (hd : decode c.code pc = .ok (.pop, 1)) (hc : x.category = 1) (k : Go p e below s n0 Q nc ns (T.setTop (mkF m pc' Ls (rest)))) : Go p e below s n0 Q nc ns (T.setTop (mkF m pc Ls (x :: rest))) := by
  subst hp; exact go_back (fun _ j => XS.pop X.here hx rfl hd rfl hc j) k
theorem g_dup2 (X : Wk p l e R s m args below meth c n0 T h cells slots) (hx : p.tables.exec = Jvm.exec) {x y : Value} (hp : pc + 1 = pc') (hd : decode c.code pc = .ok (.dup2, 1)) (hc : x.category = 1) (hc' : y.category = 1) (k : Go p e below s n0 Q nc ns (T.setTop (mkF m pc' Ls (x :: y :: x :: y :: rest)))) : Go p e below s n0 Q nc ns (T.setTop (mkF m pc Ls (x :: y :: rest))) := by
  subst hp; exact go_back (fun _ j => Jvm.Free.XT.dup2 X.here hx rfl hd rfl hc hc' j) k
theorem g_iinc (X : Wk p l e R s m args below meth c n0 T h cells slots) (hx : p.tables.exec = Jvm.exec) {k : Nat} {cst : Int} {x : Int32} {l' : Array Slot} (hp : pc + 3 = pc') (hd : decode c.code pc = .ok (.iinc k cst, 3)) (hl : Ls[k]? = some (.val (.int x))) (hl' : storeLocals Ls k (.int (x + Int32.ofInt cst)) = some l') (q : Go p e below s n0 Q nc ns (T.setTop (mkF m pc' l' st))) : Go p e below s n0 Q nc ns (T.setTop (mkF m pc Ls st)) := by
  subst hp; exact go_back (fun _ j => XS.iinc X.here hx rfl hd hl hl' j) q
theorem g_goto (X : Wk p l e R s m args below meth c n0 T h cells slots) (hx : p.tables.exec = Jvm.exec) {o : Int} (hd : decode c.code pc = .ok (.goto o, 3)) (ho : 0 ≤ (pc : Int) + o) (hp : ((pc : Int) + o).toNat = pc') (k : Go p e below s n0 Q nc ns (T.setTop (mkF m pc' Ls st))) : Go p e below s n0 Q nc ns (T.setTop (mkF m pc Ls st)) :=
  go_back (fun _ j => XS.goto X.here hx rfl rfl hd ho hp j) k
theorem g_ifY (X : Wk p l e R s m args below meth c n0 T h cells slots) (hx : p.tables.exec = Jvm.exec) {cd : ClassFile.Cond} {o : Int} {x : Int32} {pcY : Nat} (hd : decode c.code pc = .ok (.ifCond cd o, 3)) (ho : 0 ≤ (pc : Int) + o) (hY : ((pc : Int) + o).toNat = pcY) (q : cP cd x 0) (k : Go p e below s n0 Q nc ns (T.setTop (mkF m pcY Ls rest))) : Go p e below s n0 Q nc ns (T.setTop (mkF m pc Ls (.int x :: rest))) :=
  go_back (fun _ j => XS.ifYes X.here hx rfl rfl hd rfl ((if0 _ _).trans (cP_yes q)) ho hY j) k
theorem g_ifN (X : Wk p l e R s m args below meth c n0 T h cells slots) (hx : p.tables.exec = Jvm.exec) {cd : ClassFile.Cond} {o : Int} {x : Int32} {pcN : Nat} (hd : decode c.code pc = .ok (.ifCond cd o, 3)) (hN : pc + 3 = pcN) (q : ¬ cP cd x 0) (k : Go p e below s n0 Q nc ns (T.setTop (mkF m pcN Ls rest))) : Go p e below s n0 Q nc ns (T.setTop (mkF m pc Ls (.int x :: rest))) := by
  subst hN; exact go_back (fun _ j => XS.ifNo X.here hx rfl hd rfl ((if0 _ _).trans (cP_no q)) j) k
theorem g_if (X : Wk p l e R s m args below meth c n0 T h cells slots) (hx : p.tables.exec = Jvm.exec) {cd : ClassFile.Cond} {o : Int} {x : Int32} {pcY pcN : Nat} (hd : decode c.code pc = .ok (.ifCond cd o, 3)) (ho : 0 ≤ (pc : Int) + o) (hY : ((pc : Int) + o).toNat = pcY) (hN : pc + 3 = pcN) (kY : cP cd x 0 → Go p e below s n0 Q nc ns (T.setTop (mkF m pcY Ls rest))) (kN : ¬ cP cd x 0 → Go p e below s n0 Q nc ns (T.setTop (mkF m pcN Ls rest))) : Go p e below s n0 Q nc ns (T.setTop (mkF m pc Ls (.int x :: rest))) := by
  by_cases q : cP cd x 0
  · exact g_ifY X hx hd ho hY q (kY q)
  · exact g_ifN X hx hd hN q (kN q)
theorem g_icmpY (X : Wk p l e R s m args below meth c n0 T h cells slots) (hx : p.tables.exec = Jvm.exec) {cd : ClassFile.Cond} {o : Int} {x y : Int32} {pcY : Nat} (hd : decode c.code pc = .ok (.if_icmp cd o, 3)) (ho : 0 ≤ (pc : Int) + o) (hY : ((pc : Int) + o).toNat = pcY) (q : cP cd x y) (k : Go p e below s n0 Q nc ns (T.setTop (mkF m pcY Ls rest))) : Go p e below s n0 Q nc ns (T.setTop (mkF m pc Ls (.int y :: .int x :: rest))) :=
  go_back (fun _ j => XS.icmpYes X.here hx rfl rfl hd rfl (cP_yes q) ho hY j) k
theorem g_icmpN (X : Wk p l e R s m args below meth c n0 T h cells slots) (hx : p.tables.exec = Jvm.exec) {cd : ClassFile.Cond} {o : Int} {x y : Int32} {pcN : Nat} (hd : decode c.code pc = .ok (.if_icmp cd o, 3)) (hN : pc + 3 = pcN) (q : ¬ cP cd x y) (k : Go p e below s n0 Q nc ns (T.setTop (mkF m pcN Ls rest))) : Go p e below s n0 Q nc ns (T.setTop (mkF m pc Ls (.int y :: .int x :: rest))) := by
  subst hN; exact go_back (fun _ j => XS.icmpNo X.here hx rfl hd rfl (cP_no q) j) k
theorem g_icmp (X : Wk p l e R s m args below meth c n0 T h cells slots) (hx : p.tables.exec = Jvm.exec) {cd : ClassFile.Cond} {o : Int} {x y : Int32} {pcY pcN : Nat} (hd : decode c.code pc = .ok (.if_icmp cd o, 3)) (ho : 0 ≤ (pc : Int) + o) (hY : ((pc : Int) + o).toNat = pcY) (hN : pc + 3 = pcN) (kY : cP cd x y → Go p e below s n0 Q nc ns (T.setTop (mkF m pcY Ls rest))) (kN : ¬ cP cd x y → Go p e below s n0 Q nc ns (T.setTop (mkF m pcN Ls rest))) : Go p e below s n0 Q nc ns (T.setTop (mkF m pc Ls (.int y :: .int x :: rest))) := by
  by_cases q : cP cd x y
  · exact g_icmpY X hx hd ho hY q (kY q)
  · exact g_icmpN X hx hd hN q (kN q)
theorem g_ifnullY (X : Wk p l e R s m args below meth c n0 T h cells slots) (hx : p.tables.exec = Jvm.exec) {o : Int} {pcY : Nat} (hd : decode c.code pc = .ok (.ifnull o, 3)) (ho : 0 ≤ (pc : Int) + o) (hY : ((pc : Int) + o).toNat = pcY) (k : Go p e below s n0 Q nc ns (T.setTop (mkF m pcY Ls rest))) : Go p e below s n0 Q nc ns (T.setTop (mkF m pc Ls (.null :: rest))) :=
  go_back (fun _ j => XS.ifnullYes X.here hx rfl rfl hd rfl ho hY j) k
theorem g_ifnullN (X : Wk p l e R s m args below meth c n0 T h cells slots) (hx : p.tables.exec = Jvm.exec) {o : Int} {b : Addr} {pcN : Nat} (hd : decode c.code pc = .ok (.ifnull o, 3)) (hN : pc + 3 = pcN) (k : Go p e below s n0 Q nc ns (T.setTop (mkF m pcN Ls rest))) : Go p e below s n0 Q nc ns (T.setTop (mkF m pc Ls (.ref b :: rest))) := by
  subst hN; exact go_back (fun _ j => XS.ifnullNo X.here hx rfl hd rfl j) k
theorem g_ifnonnullY (X : Wk p l e R s m args below meth c n0 T h cells slots) (hx : p.tables.exec = Jvm.exec) {o : Int} {b : Addr} {pcY : Nat} (hd : decode c.code pc = .ok (.ifnonnull o, 3)) (ho : 0 ≤ (pc : Int) + o) (hY : ((pc : Int) + o).toNat = pcY) (k : Go p e below s n0 Q nc ns (T.setTop (mkF m pcY Ls rest))) : Go p e below s n0 Q nc ns (T.setTop (mkF m pc Ls (.ref b :: rest))) :=
  go_back (fun _ j => XS.ifnonnullYes X.here hx rfl rfl hd rfl ho hY j) k
theorem g_ifnonnullN (X : Wk p l e R s m args below meth c n0 T h cells slots) (hx : p.tables.exec = Jvm.exec) {o : Int} {pcN : Nat} (hd : decode c.code pc = .ok (.ifnonnull o, 3)) (hN : pc + 3 = pcN) (k : Go p e below s n0 Q nc ns (T.setTop (mkF m pcN Ls rest))) : Go p e below s n0 Q nc ns (T.setTop (mkF m pc Ls (.null :: rest))) := by
  subst hN; exact go_back (fun _ j => XS.ifnonnullNo X.here hx rfl hd rfl j) k
theorem g_normI {x z : Int32} (hz : x = z) (k : Go p e below s n0 Q nc ns (T.setTop (mkF m pc Ls (.int z :: rest)))) : Go p e below s n0 Q nc ns (T.setTop (mkF m pc Ls (.int x :: rest))) := hz ▸ k
theorem g_iincC (X : Wk p l e R s m args below meth c n0 T h cells slots) (hx : p.tables.exec = Jvm.exec) {k : Nat} {cst : Int} {x z : Int32} {l' : Array Slot} (hp : pc + 3 = pc') (hd : decode c.code pc = .ok (.iinc k cst, 3)) (hl : Ls[k]? = some (.val (.int x))) (hz : x + Int32.ofInt cst = z) (hl' : storeLocals Ls k (.int z) = some l') (q : Go p e below s n0 Q nc ns (T.setTop (mkF m pc' l' st))) : Go p e below s n0 Q nc ns (T.setTop (mkF m pc Ls st)) := by
  subst hz; exact g_iinc X hx hp hd hl hl' q
theorem g_ldcI (X : Wk p l e R s m args below meth c n0 T h cells slots) (hx : p.tables.exec = Jvm.exec) (hZ : Z.Warmed39 s.vm) {own : String} {index : Nat} {v : Int32} (hown : s.vm.findClass own = some m.cls) (w : (Jvm.Cond.constant own index v).before a0 Z = true) (hp : pc + 2 = pc') (hd : decode c.code pc = .ok (.ldc index, 2))
    (k : Go p e below s n0 Q nc ns (T.setTop (mkF m pc' Ls (.int v :: st)))) : Go p e below s n0 Q nc ns (T.setTop (mkF m pc Ls st)) := by
  subst hp; obtain ⟨_, X, -⟩ := X
  exact go_back (X.ldcInt hx hown (mvT hZ w) (g := mkF m pc Ls st) rfl hd) k
theorem g_ldc2L (X : Wk p l e R s m args below meth c n0 T h cells slots) (hx : p.tables.exec = Jvm.exec) (hZ : Z.Warmed39 s.vm) {own : String} {index : Nat} {v : Int64} (hown : s.vm.findClass own = some m.cls) (w : (Jvm.Cond.constantLong own index v).before a0 Z = true) (hp : pc + 3 = pc') (hd : decode c.code pc = .ok (.ldc2_w index, 3))
    (k : Go p e below s n0 Q nc ns (T.setTop (mkF m pc' Ls (.long v :: st)))) : Go p e below s n0 Q nc ns (T.setTop (mkF m pc Ls st)) := by
  subst hp; obtain ⟨_, X, -⟩ := X
  exact go_back (X.ldc2Long hx hown (mvT hZ w) (g := mkF m pc Ls st) rfl hd) k
theorem g_ldc2D (X : Wk p l e R s m args below meth c n0 T h cells slots) (hx : p.tables.exec = Jvm.exec) (hZ : Z.Warmed39 s.vm) {own : String} {index : Nat} {v : UInt64} (hown : s.vm.findClass own = some m.cls) (w : (Jvm.Cond.constantDouble own index v).before a0 Z = true) (hp : pc + 3 = pc') (hd : decode c.code pc = .ok (.ldc2_w index, 3))
    (k : Go p e below s n0 Q nc ns (T.setTop (mkF m pc' Ls (.double v :: st)))) : Go p e below s n0 Q nc ns (T.setTop (mkF m pc Ls st)) := by
  subst hp; obtain ⟨_, X, -⟩ := X
  exact go_back (X.ldc2DoubleC hx hown (mvT hZ w) (g := mkF m pc Ls st) rfl hd) k
theorem g_getF (X : Wk p l e R s m args below meth c n0 T h cells slots) (hx : p.tables.exec = Jvm.exec) (hZ : Z.Warmed39 s.vm) {own R0 O n d : String} {index : Nat} (hown : s.vm.findClass own = some m.cls) (w : (Jvm.Cond.fieldLink own index R0 n d).before a0 Z = true) (via : Via Z R0 O n d) {a : Addr} {v : Value} (F : Fld Z h a O n d v) (hp : pc + 3 = pc') (hd : decode c.code pc = .ok (.getfield index, 3))
    (k : ∀ T', Wk p l e R s m args below meth c n0 T' h cells slots → Go p e below s n0 Q nc ns (T'.setTop (mkF m pc' Ls (v :: rest)))) : Go p e below s n0 Q nc ns (T.setTop (mkF m pc Ls (.ref a :: rest))) := by
  subst hp; obtain ⟨locs, X, N, eT⟩ := X
  obtain ⟨T', X', e', b⟩ := getF X hx hZ hown (host := "") (Or.inl w) via eT F (g := mkF m pc Ls (.ref a :: rest)) rfl rfl hd
  exact go_back b (k T' ⟨locs, X', N, e'⟩)
theorem g_getS (X : Wk p l e R s m args below meth c n0 T h cells slots) (hx : p.tables.exec = Jvm.exec) (hZ : Z.Warmed39 s.vm) {own R0 O n d : String} {index : Nat} (hown : s.vm.findClass own = some m.cls) (w : (Jvm.Cond.fieldLink own index R0 n d).before a0 Z = true) (via : Via Z R0 O n d) {v : Value} (F : Sta Z h O n d v) (hp : pc + 3 = pc') (hd : decode c.code pc = .ok (.getstatic index, 3))
    (k : ∀ T', Wk p l e R s m args below meth c n0 T' h cells slots → Go p e below s n0 Q nc ns (T'.setTop (mkF m pc' Ls (v :: st)))) : Go p e below s n0 Q nc ns (T.setTop (mkF m pc Ls st)) := by
  subst hp; obtain ⟨locs, X, N, eT⟩ := X
  obtain ⟨T', X', e', b⟩ := getS X hx hZ hown w via eT F (g := mkF m pc Ls st) rfl hd (host := "")
  exact go_back b (k T' ⟨locs, X', N, e'⟩)
theorem g_putF (X : Wk p l e R s m args below meth c n0 T h cells slots) (hx : p.tables.exec = Jvm.exec) (hZ : Z.Warmed39 s.vm) {own R0 O n d C : String} {index kk : Nat} {ty : FieldType} (hown : s.vm.findClass own = some m.cls) (w : (Jvm.Cond.fieldLink own index R0 n d).before a0 Z = true) (via : Via Z R0 O n d) {a : Addr} {v old : Value} (F : Fld Z h a O n d old) (E : Exa Z h a C)
    (L : (Jvm.Cond.lays C O n d).before a0 Z = true ∨ ((Jvm.Cond.laysFinal C O n d).before a0 Z = true ∧ own = O ∧ meth.name = "<init>")) (wi : (Jvm.Cond.instantiable C kk).before a0 Z = true) (hty : parseFieldDescriptor d = some ty) (hn : narrow ty v = v) (hf : fits ty v = true) (hna : n0 ≤ a) (hp : pc + 3 = pc') (hd : decode c.code pc = .ok (.putfield index, 3))
    (k : ∀ T' h', Wk p l e R s m args below meth c n0 T' h' cells slots → Wr h h' a (Jvm.RoadKit.slotOf Z O n d) v → Go p e below s n0 Q nc ns (T'.setTop (mkF m pc' Ls rest))) : Go p e below s n0 Q nc ns (T.setTop (mkF m pc Ls (v :: .ref a :: rest))) := by
  subst hp; obtain ⟨locs, X, N, eT⟩ := X
  obtain ⟨T', h', X', e', W', b⟩ := putF X hx hZ hown (host := "") (Or.inl w) via eT F E L wi hty hn hf (g := mkF m pc Ls (v :: .ref a :: rest)) rfl rfl hd
  exact go_back b (k T' h' ⟨_, X', Fr.snoc X' N hna, e'⟩ W')
theorem g_newO (X : Wk p l e R s m args below meth c n0 T h cells slots) (hx : p.tables.exec = Jvm.exec) (hZ : Z.Warmed39 s.vm) {own C : String} {index n : Nat} (hown : s.vm.findClass own = some m.cls) (w : (Jvm.Cond.classLink own index C).before a0 Z = true) (wi : (Jvm.Cond.instantiable C n).before a0 Z = true) (wz : (Jvm.Cond.initialized C).before a0 Z = true) (hp : pc + 3 = pc') (hd : decode c.code pc = .ok (.new index, 3)) (hc : cells + 1 ≤ R.cells) (hl : slots + n ≤ R.slots)
    (k : ∀ T' h' a, a = h.size → Wk p l e R s m args below meth c n0 T' h' (cells + 1) (slots + n) → Ext h h' → Exa Z h' a C → (∀ {O nm d : String} {ty : FieldType}, Laid Z a0 C O nm d → parseFieldDescriptor d = some ty → Fld Z h' a O nm d (defaultValue ty)) → Go p e below s n0 Q nc ns (T'.setTop (mkF m pc' Ls (.ref a :: st)))) : Go p e below s n0 Q nc ns (T.setTop (mkF m pc Ls st)) := by
  subst hp; obtain ⟨locs, X, N, eT⟩ := X
  obtain ⟨T', h', X', e', E', A', D', -, b⟩ := newO X hx hZ hown w wi wz eT (g := mkF m pc Ls st) rfl hd hc hl
  exact go_back b (k T' h' h.size rfl ⟨_, X', N, e'⟩ E' A' (fun L q => D' L q))
theorem g_initO (X : Wk p l e R s m args below meth c n0 T h cells slots) (hx : p.tables.exec = Jvm.exec) (hZ : Z.Warmed39 s.vm) {own : String} {index : Nat} (hown : s.vm.findClass own = some m.cls) (w1 : (Jvm.Cond.methodLink own index Lib.objectInit).before a0 Z = true) (w2 : (Jvm.Cond.instanceMethod Lib.objectInit).before a0 Z = true) (w3 : (Jvm.Cond.code Lib.objectInit ⟨#[0xb1]⟩ 1 none).before a0 Z = true) {a : Addr} (hsz : Ls.size = c.maxLocals) (hp : pc + 3 = pc') (hd : decode c.code pc = .ok (.invokespecial index, 3)) (hf : 1 ≤ R.frames) {W : Nat} (hW : 2 * 0 + (rest.map fun v => v.category).sum ≤ W) (hl : W + 12 ≤ R.locals)
    (k : ∀ T', Wk p l e R s m args below meth c n0 T' h cells slots → Go p e below s n0 Q nc ns (T'.setTop (mkF m pc' Ls rest))) : Go p e below s n0 Q nc ns (T.setTop (mkF m pc Ls (.ref a :: rest))) := by
  subst hp; obtain ⟨locs, X, N, eT⟩ := X
  obtain ⟨T', X', e', b⟩ := initO X hx hZ hown w1 w2 w3 eT (g := mkF m pc Ls (.ref a :: rest)) rfl hsz rfl hd hf hW hl
  exact go_back b (k T' ⟨_, X', N, e'⟩)
section Calls
variable {y z : MethodName} {bytes : ByteArray} {maxL : Nat} {ret : Option FieldType} {rm : Room} {as : Array Value} {Qc : Option Value → Heap → Prop} {own : String} {index W : Nat} {argsL : List Value} {ps : List FieldType} {r : Option FieldType}
theorem g_callS (X : Wk p l e R s m args below meth c n0 T h cells slots) (hx : p.tables.exec = Jvm.exec) (hZ : Z.Warmed39 s.vm) (hown : s.vm.findClass own = some m.cls) (w1 : (Jvm.Cond.methodLink own index y).before a0 Z = true) (w2 : (Jvm.Cond.static y).before a0 Z = true) (w3 : (Jvm.Cond.initialized y.cls).before a0 Z = true) (w4 : (Jvm.Cond.code y bytes maxL ret).before a0 Z = true)
    (hy : y.cls ≠ "java/lang/invoke/MethodHandle" ∧ y.cls ≠ "java/lang/invoke/VarHandle") (hM : Con l Z n0 y bytes maxL ret [] rm as h Qc) (hlen : parseMethodDescriptor y.desc = some ⟨ps, r⟩) (hl : argsL.length = ps.length) (has : as = argsL.toArray) (hsz : Ls.size = c.maxLocals) (hp : pc + 3 = pc') (hd : decode c.code pc = .ok (.invokestatic index, 3))
    (hst : st = argsL.reverse ++ rest) (hW : 2 * 0 + (rest.map fun v => v.category).sum ≤ W) (hf : rm.frames + 1 ≤ R.frames) (hlo : W + (maxL + 11) + rm.locals ≤ R.locals) (hc : cells + rm.cells ≤ R.cells) (hs : slots + rm.slots ≤ R.slots)
    (k : ∀ v T' h', Wk p l e R s m args below meth c n0 T' h' (cells + rm.cells) (slots + rm.slots) → Qc v h' → Go p e below s n0 Q nc ns (T'.setTop (mkF m pc' Ls (v.toList ++ rest)))) : Go p e below s n0 Q nc ns (T.setTop (mkF m pc Ls st)) := by
  subst hp; subst has; obtain ⟨locs, X, N, eT⟩ := X
  obtain ⟨v, vm1, ⟨U, L1, c1, s1⟩, -, X', ⟨Lc, hQ, l1, y1, z1⟩, b⟩ := Jvm.LawKit.callS X hx hown (mvT hZ w1) (mvT hZ w2) (mvT hZ w3) (mvT hZ w4) hy (backOf (W := W) (Q := fun v h L => Fr n0 L ∧ Qc v h) hM hZ w4 w3 hf hlo) (g := mkF m pc Ls st) rfl hsz (argsL := argsL) (rest := rest) (lenOf hlen hl) hst hW hd (fun _ _ => ⟨rfl, eT, hc, hs⟩)
  dsimp only [Pt.U, Pt.locs, Pt.cells, Pt.slots] at X' l1 y1 z1 b hQ
  subst l1 y1 z1
  exact go_back b (k v U U.heap ⟨_, X', Fr.app N hQ.1, rfl⟩ hQ.2)
theorem g_callI (X : Wk p l e R s m args below meth c n0 T h cells slots) (hx : p.tables.exec = Jvm.exec) (hZ : Z.Warmed39 s.vm) (hown : s.vm.findClass own = some m.cls) (hy1 : y.name = "<init>") (w1 : (Jvm.Cond.methodLink own index y).before a0 Z = true) (w2 : (Jvm.Cond.instanceMethod y).before a0 Z = true) (w3 : (Jvm.Cond.initialized y.cls).before a0 Z = true) (w4 : (Jvm.Cond.code y bytes maxL none).before a0 Z = true)
    (hy : y.cls ≠ "java/lang/invoke/MethodHandle" ∧ y.cls ≠ "java/lang/invoke/VarHandle") {a : Addr} (hM : Con l Z n0 y bytes maxL none [] rm as h Qc) (hlen : parseMethodDescriptor y.desc = some ⟨ps, r⟩) (hl : argsL.length = ps.length) (has : as = (Value.ref a :: argsL).toArray) (hsz : Ls.size = c.maxLocals) (hp : pc + 3 = pc') (hd : decode c.code pc = .ok (.invokespecial index, 3))
    (hst : st = argsL.reverse ++ .ref a :: rest) (hW : 2 * 0 + (rest.map fun v => v.category).sum ≤ W) (hf : rm.frames + 1 ≤ R.frames) (hlo : W + (maxL + 11) + rm.locals ≤ R.locals) (hc : cells + rm.cells ≤ R.cells) (hs : slots + rm.slots ≤ R.slots)
    (k : ∀ v T' h', Wk p l e R s m args below meth c n0 T' h' (cells + rm.cells) (slots + rm.slots) → Qc v h' → Go p e below s n0 Q nc ns (T'.setTop (mkF m pc' Ls (v.toList ++ rest)))) : Go p e below s n0 Q nc ns (T.setTop (mkF m pc Ls st)) := by
  subst hp; subst has; obtain ⟨locs, X, N, eT⟩ := X
  obtain ⟨v, vm1, ⟨U, L1, c1, s1⟩, -, X', ⟨Lc, hQ, l1, y1, z1⟩, b⟩ := X.specialBack hx hy1 hown (mvT hZ w1) (mvT hZ w2) (mvT hZ w4) hy (backOf (W := W) (Q := fun v h L => Fr n0 L ∧ Qc v h) hM hZ w4 w3 hf hlo) (g := mkF m pc Ls st) rfl hsz (Steps.refl _) (a := a) (argsL := argsL) (rest := rest) (lenOf hlen hl) hst hW hd (fun _ _ => ⟨rfl, eT, hc, hs⟩)
  dsimp only [Pt.U, Pt.locs, Pt.cells, Pt.slots] at X' l1 y1 z1 b hQ
  subst l1 y1 z1
  exact go_back (fun _ j => b.trans j) (k v U U.heap ⟨_, X', Fr.app N hQ.1, rfl⟩ hQ.2)
theorem g_callV (X : Wk p l e R s m args below meth c n0 T h cells slots) (hx : p.tables.exec = Jvm.exec) (hZ : Z.Warmed39 s.vm) (hown : s.vm.findClass own = some m.cls) {C : String} (w1 : (Jvm.Cond.methodLink own index y).before a0 Z = true) (w2 : (Jvm.Cond.declares y).before a0 Z = true) (w5 : (Jvm.Cond.selects C y y).before a0 Z = true) (w6 : (Jvm.Cond.instanceMethod y).before a0 Z = true) (w3 : (Jvm.Cond.initialized y.cls).before a0 Z = true) (w4 : (Jvm.Cond.code y bytes maxL ret).before a0 Z = true)
    (hy : y.cls ≠ "java/lang/invoke/MethodHandle" ∧ y.cls ≠ "java/lang/invoke/VarHandle") {a : Addr} (E : Exa Z h a C) (hM : Con l Z n0 y bytes maxL ret [] rm as h Qc) (hlen : parseMethodDescriptor y.desc = some ⟨ps, r⟩) (hl : argsL.length = ps.length) (has : as = (Value.ref a :: argsL).toArray) (hsz : Ls.size = c.maxLocals) (hp : pc + 3 = pc') (hd : decode c.code pc = .ok (.invokevirtual index, 3))
    (hst : st = argsL.reverse ++ .ref a :: rest) (hW : 2 * 0 + (rest.map fun v => v.category).sum ≤ W) (hf : rm.frames + 1 ≤ R.frames) (hlo : W + (maxL + 11) + rm.locals ≤ R.locals) (hc : cells + rm.cells ≤ R.cells) (hs : slots + rm.slots ≤ R.slots)
    (k : ∀ v T' h', Wk p l e R s m args below meth c n0 T' h' (cells + rm.cells) (slots + rm.slots) → Qc v h' → Go p e below s n0 Q nc ns (T'.setTop (mkF m pc' Ls (v.toList ++ rest)))) : Go p e below s n0 Q nc ns (T.setTop (mkF m pc Ls st)) := by
  subst hp; subst has; obtain ⟨locs, X, N, eT⟩ := X
  obtain ⟨cq, kq, qa, qb, qc⟩ := isOf hZ eT E
  obtain ⟨v, vm1, ⟨U, L1, c1, s1⟩, -, X', ⟨Lc, hQ, l1, y1, z1⟩, b⟩ := X.virtualBack hx (y := y) (z := y) hown (mvT hZ w1) (mvT hZ w2) (notFace_of_selects (args := #[]) (mvT hZ w5)) (mvT hZ w5) (mvT hZ w6) hy (backOf (W := W) (Q := fun v h L => Fr n0 L ∧ Qc v h) hM hZ w4 w3 hf hlo) qa qc (g := mkF m pc Ls st) rfl hsz (Steps.refl _) (argsL := argsL) (rest := rest) (lenOf hlen hl) hst hW hd (fun _ _ => ⟨rfl, eT, hc, hs⟩)
  dsimp only [Pt.U, Pt.locs, Pt.cells, Pt.slots] at X' l1 y1 z1 b hQ
  subst l1 y1 z1
  exact go_back (fun _ j => b.trans j) (k v U U.heap ⟨_, X', Fr.app N hQ.1, rfl⟩ hQ.2)
theorem g_nat (X : Wk p l e R s m args below meth c n0 T h cells slots) (hx : p.tables.exec = Jvm.exec) (hZ : Z.Warmed39 s.vm) (hown : s.vm.findClass own = some m.cls) (w1 : (Jvm.Cond.methodLink own index y).before a0 Z = true) (w2 : (Jvm.Cond.static y).before a0 Z = true) (w3 : (Jvm.Cond.initialized y.cls).before a0 Z = true) (w4 : (Jvm.Cond.code y bytes maxL ret).before a0 Z = true)
    (hy : y.cls ≠ "java/lang/invoke/MethodHandle" ∧ y.cls ≠ "java/lang/invoke/VarHandle") {F : Array Value → Prop} {val : Value} (hK : (Jvm.Cond.code y bytes maxL ret).before args s = true → Back l R p e below s args y 3 W (fun A a' => A.cells ≤ R.cells ∧ A.slots ≤ R.slots ∧ F a') (fun A _ v B => v = some val ∧ B = A)) (hlen : parseMethodDescriptor y.desc = some ⟨ps, r⟩) (hl : argsL.length = ps.length) (hsz : Ls.size = c.maxLocals) (hp : pc + 3 = pc') (hd : decode c.code pc = .ok (.invokestatic index, 3))
    (hst : st = argsL.reverse ++ rest) (hW : 2 * 0 + (rest.map fun v => v.category).sum ≤ W) (hc : cells ≤ R.cells) (hs : slots ≤ R.slots) (hF : F argsL.toArray)
    (k : ∀ T', Wk p l e R s m args below meth c n0 T' h cells slots → Go p e below s n0 Q nc ns (T'.setTop (mkF m pc' Ls (val :: rest)))) : Go p e below s n0 Q nc ns (T.setTop (mkF m pc Ls st)) := by
  subst hp; obtain ⟨locs, X, N, eT⟩ := X
  obtain ⟨T', X', e', b⟩ := natS X hx hZ hown w1 w2 w3 w4 hy eT hK (g := mkF m pc Ls st) rfl hsz (argsL := argsL) (rest := rest) (lenOf hlen hl) hst hW hd hc hs hF rfl
  exact go_back b (k T' ⟨_, X', N, e'⟩)
end Calls
theorem g_absD2 (X : Wk p l e R s m args below meth c n0 T h cells slots) (hx : p.tables.exec = Jvm.exec) (hZ : Z.Warmed39 s.vm) {own : String} {index W : Nat} (hown : s.vm.findClass own = some m.cls) (w1 : (Jvm.Cond.methodLink own index Jvm.Free.Fl.Abs.absDN).before a0 Z = true) (w2 : (Jvm.Cond.static Jvm.Free.Fl.Abs.absDN).before a0 Z = true) (w3 : (Jvm.Cond.initialized Jvm.Free.Fl.Abs.absDN.cls).before a0 Z = true) (w4 : (Jvm.Cond.code Jvm.Free.Fl.Abs.absDN Jvm.Free.Fl.Abs.absDCode 2 (some .double)).before a0 Z = true)
    {x : UInt64} (hn : NoNaN64 x) (hsz : Ls.size = c.maxLocals) (hp : pc + 3 = pc') (hd : decode c.code pc = .ok (.invokestatic index, 3)) (hW : 2 * 0 + (rest.map fun v => v.category).sum ≤ W) (hf : 1 ≤ R.frames) (hlo : W + 13 ≤ R.locals) (hc : cells ≤ R.cells) (hs : slots ≤ R.slots)
    (k : ∀ T', Wk p l e R s m args below meth c n0 T' h cells slots → Go p e below s n0 Q nc ns (T'.setTop (mkF m pc' Ls (.double (x &&& 0x7fffffffffffffff) :: rest)))) : Go p e below s n0 Q nc ns (T.setTop (mkF m pc Ls (.double x :: rest))) :=
  g_nat X hx hZ hown w1 w2 w3 w4 (by decide) (fun q => Jvm.Free.Fl.Abs.absD_pays x q hf hlo) (ps := [.double]) (r := some .double) (by decide +kernel) (argsL := [.double x]) rfl hsz hp hd rfl hW hc hs ⟨rfl, hn⟩ k
theorem g_ret (X : Wk p l e R s m args below meth c n0 T h cells slots) (hx : p.tables.exec = Jvm.exec) (hlk : meth.locks = false) {t : FieldType} {w : Value} {i : Instr} (hret : meth.sig.returnType = some t) (hn : narrow t w = w)
    (hi : (i = .ireturn ∧ (t = .int ∨ t = .boolean ∨ t = .byte ∨ t = .char ∨ t = .short) ∧ ∃ z, w = .int z) ∨ (i = .lreturn ∧ t = .long ∧ ∃ z, w = .long z) ∨ (i = .dreturn ∧ t = .double ∧ ∃ z, w = .double z) ∨ (i = .freturn ∧ t = .float ∧ ∃ z, w = .float z) ∨ (i = .areturn ∧ t.isReference = true ∧ w.isRef = true))
    (hd : decode c.code pc = .ok (i, 1)) (hc : cells ≤ nc) (hs : slots ≤ ns) (hQ : Q (some w) h) : Go p e below s n0 Q nc ns (T.setTop (mkF m pc Ls (w :: rest))) := by
  obtain ⟨locs, X, N, eT⟩ := X
  obtain ⟨fs, hr, hrun, hended, hW, hsame⟩ := X.leave (v := some w) (fun q => by rw [hret] at q; cases q) hlk
  exact ⟨_, _, retOut X hx hret hn hi hd hr, hrun, hended, _, _, rfl, ⟨N, by show Q (some w) T.heap; rw [eT]; exact hQ⟩, ⟨_, rfl⟩, hW, hsame.mono hc hs⟩
theorem g_retI (X : Wk p l e R s m args below meth c n0 T h cells slots) (hx : p.tables.exec = Jvm.exec) (hlk : meth.locks = false) {z : Int32} (hret : meth.sig.returnType = some .int) (hd : decode c.code pc = .ok (.ireturn, 1)) (hc : cells ≤ nc) (hs : slots ≤ ns) (hQ : Q (some (.int z)) h) : Go p e below s n0 Q nc ns (T.setTop (mkF m pc Ls (.int z :: rest))) :=
  g_ret X hx hlk hret rfl (Or.inl ⟨rfl, Or.inl rfl, z, rfl⟩) hd hc hs hQ
theorem g_retZ (X : Wk p l e R s m args below meth c n0 T h cells slots) (hx : p.tables.exec = Jvm.exec) (hlk : meth.locks = false) {z : Int32} (hret : meth.sig.returnType = some .boolean) (hz : z = 0 ∨ z = 1) (hd : decode c.code pc = .ok (.ireturn, 1)) (hc : cells ≤ nc) (hs : slots ≤ ns) (hQ : Q (some (.int z)) h) : Go p e below s n0 Q nc ns (T.setTop (mkF m pc Ls (.int z :: rest))) :=
  g_ret X hx hlk hret (by rcases hz with rfl | rfl <;> rfl) (Or.inl ⟨rfl, Or.inr (Or.inl rfl), z, rfl⟩) hd hc hs hQ
theorem g_retL (X : Wk p l e R s m args below meth c n0 T h cells slots) (hx : p.tables.exec = Jvm.exec) (hlk : meth.locks = false) {z : Int64} (hret : meth.sig.returnType = some .long) (hd : decode c.code pc = .ok (.lreturn, 1)) (hc : cells ≤ nc) (hs : slots ≤ ns) (hQ : Q (some (.long z)) h) : Go p e below s n0 Q nc ns (T.setTop (mkF m pc Ls (.long z :: rest))) :=
  g_ret X hx hlk hret rfl (Or.inr (Or.inl ⟨rfl, rfl, z, rfl⟩)) hd hc hs hQ
theorem g_retD (X : Wk p l e R s m args below meth c n0 T h cells slots) (hx : p.tables.exec = Jvm.exec) (hlk : meth.locks = false) {z : UInt64} (hret : meth.sig.returnType = some .double) (hd : decode c.code pc = .ok (.dreturn, 1)) (hc : cells ≤ nc) (hs : slots ≤ ns) (hQ : Q (some (.double z)) h) : Go p e below s n0 Q nc ns (T.setTop (mkF m pc Ls (.double z :: rest))) :=
  g_ret X hx hlk hret rfl (Or.inr (Or.inr (Or.inl ⟨rfl, rfl, z, rfl⟩))) hd hc hs hQ
theorem g_retV (X : Wk p l e R s m args below meth c n0 T h cells slots) (hx : p.tables.exec = Jvm.exec) (hlk : meth.locks = false) (hret : meth.sig.returnType = none) (hd : decode c.code pc = .ok (.return_, 1)) (hc : cells ≤ nc) (hs : slots ≤ ns) (hQ : Q none h) : Go p e below s n0 Q nc ns (T.setTop (mkF m pc Ls [])) := by
  obtain ⟨locs, X, N, eT⟩ := X
  obtain ⟨fs, hr, hrun, hended, hW, hsame⟩ := X.leave (v := none) (fun _ => rfl) hlk
  exact ⟨_, _, X.returnOut hx hret hd hr, hrun, hended, _, _, rfl, ⟨N, by show Q none T.heap; rw [eT]; exact hQ⟩, ⟨_, rfl⟩, hW, hsame.mono hc hs⟩
end OwnKit
theorem d1_0 : decode prog_61_method_18_code 0 = .ok (.aload_n 0, 1) := by decide +kernel
theorem d1_1 : decode prog_61_method_18_code 1 = .ok (.getfield 30, 3) := by decide +kernel
theorem d1_4 : decode prog_61_method_18_code 4 = .ok (.dreturn, 1) := by decide +kernel
theorem d2_0 : decode prog_61_method_20_code 0 = .ok (.aload_n 0, 1) := by decide +kernel
theorem d2_1 : decode prog_61_method_20_code 1 = .ok (.getfield 38, 3) := by decide +kernel
theorem d2_4 : decode prog_61_method_20_code 4 = .ok (.dreturn, 1) := by decide +kernel
theorem d3_0 : decode prog_61_method_1_code 0 = .ok (.aload_n 0, 1) := by decide +kernel
theorem d3_1 : decode prog_61_method_1_code 1 = .ok (.invokespecial 1, 3) := by decide +kernel
theorem d3_4 : decode prog_61_method_1_code 4 = .ok (.iload_n 3, 1) := by decide +kernel
theorem d3_5 : decode prog_61_method_1_code 5 = .ok (.ifCond .eq 10, 3) := by decide +kernel
theorem d3_8 : decode prog_61_method_1_code 8 = .ok (.dload_n 1, 1) := by decide +kernel
theorem d3_9 : decode prog_61_method_1_code 9 = .ok (.invokestatic 7, 3) := by decide +kernel
theorem d3_12 : decode prog_61_method_1_code 12 = .ok (.ifCond .ne 16, 3) := by decide +kernel
theorem d3_15 : decode prog_61_method_1_code 15 = .ok (.iload 6, 2) := by decide +kernel
theorem d3_17 : decode prog_61_method_1_code 17 = .ok (.ifCond .eq 21, 3) := by decide +kernel
theorem d3_20 : decode prog_61_method_1_code 20 = .ok (.dload 4, 2) := by decide +kernel
theorem d3_22 : decode prog_61_method_1_code 22 = .ok (.invokestatic 7, 3) := by decide +kernel
theorem d3_25 : decode prog_61_method_1_code 25 = .ok (.ifCond .eq 13, 3) := by decide +kernel
theorem d3_38 : decode prog_61_method_1_code 38 = .ok (.dload_n 1, 1) := by decide +kernel
theorem d3_39 : decode prog_61_method_1_code 39 = .ok (.iload_n 3, 1) := by decide +kernel
theorem d3_40 : decode prog_61_method_1_code 40 = .ok (.dload 4, 2) := by decide +kernel
theorem d3_42 : decode prog_61_method_1_code 42 = .ok (.iload 6, 2) := by decide +kernel
theorem d3_44 : decode prog_61_method_1_code 44 = .ok (.invokestatic 20, 3) := by decide +kernel
theorem d3_47 : decode prog_61_method_1_code 47 = .ok (.ifCond .ne 19, 3) := by decide +kernel
theorem d3_66 : decode prog_61_method_1_code 66 = .ok (.dload_n 1, 1) := by decide +kernel
theorem d3_67 : decode prog_61_method_1_code 67 = .ok (.dconst 0, 1) := by decide +kernel
theorem d3_68 : decode prog_61_method_1_code 68 = .ok (.dcmp .l, 1) := by decide +kernel
theorem d3_69 : decode prog_61_method_1_code 69 = .ok (.ifCond .ne 7, 3) := by decide +kernel
theorem d3_72 : decode prog_61_method_1_code 72 = .ok (.dconst 0, 1) := by decide +kernel
theorem d3_73 : decode prog_61_method_1_code 73 = .ok (.goto 4, 3) := by decide +kernel
theorem d3_76 : decode prog_61_method_1_code 76 = .ok (.dload_n 1, 1) := by decide +kernel
theorem d3_77 : decode prog_61_method_1_code 77 = .ok (.dstore_n 1, 1) := by decide +kernel
theorem d3_78 : decode prog_61_method_1_code 78 = .ok (.dload 4, 2) := by decide +kernel
theorem d3_80 : decode prog_61_method_1_code 80 = .ok (.dconst 0, 1) := by decide +kernel
theorem d3_81 : decode prog_61_method_1_code 81 = .ok (.dcmp .l, 1) := by decide +kernel
theorem d3_82 : decode prog_61_method_1_code 82 = .ok (.ifCond .ne 7, 3) := by decide +kernel
theorem d3_85 : decode prog_61_method_1_code 85 = .ok (.dconst 0, 1) := by decide +kernel
theorem d3_86 : decode prog_61_method_1_code 86 = .ok (.goto 5, 3) := by decide +kernel
theorem d3_89 : decode prog_61_method_1_code 89 = .ok (.dload 4, 2) := by decide +kernel
theorem d3_91 : decode prog_61_method_1_code 91 = .ok (.dstore 4, 2) := by decide +kernel
theorem d3_93 : decode prog_61_method_1_code 93 = .ok (.aload_n 0, 1) := by decide +kernel
theorem d3_94 : decode prog_61_method_1_code 94 = .ok (.dload_n 1, 1) := by decide +kernel
theorem d3_95 : decode prog_61_method_1_code 95 = .ok (.putfield 30, 3) := by decide +kernel
theorem d3_98 : decode prog_61_method_1_code 98 = .ok (.aload_n 0, 1) := by decide +kernel
theorem d3_99 : decode prog_61_method_1_code 99 = .ok (.iload_n 3, 1) := by decide +kernel
theorem d3_100 : decode prog_61_method_1_code 100 = .ok (.putfield 34, 3) := by decide +kernel
theorem d3_103 : decode prog_61_method_1_code 103 = .ok (.aload_n 0, 1) := by decide +kernel
theorem d3_104 : decode prog_61_method_1_code 104 = .ok (.dload 4, 2) := by decide +kernel
theorem d3_106 : decode prog_61_method_1_code 106 = .ok (.putfield 38, 3) := by decide +kernel
theorem d3_109 : decode prog_61_method_1_code 109 = .ok (.aload_n 0, 1) := by decide +kernel
theorem d3_110 : decode prog_61_method_1_code 110 = .ok (.iload 6, 2) := by decide +kernel
theorem d3_112 : decode prog_61_method_1_code 112 = .ok (.putfield 41, 3) := by decide +kernel
theorem d3_115 : decode prog_61_method_1_code 115 = .ok (.return_, 1) := by decide +kernel
theorem d4_0 : decode jdk_30_method_1_code 0 = .ok (.aload_n 0, 1) := by decide +kernel
theorem d4_1 : decode jdk_30_method_1_code 1 = .ok (.invokespecial 1, 3) := by decide +kernel
theorem d4_4 : decode jdk_30_method_1_code 4 = .ok (.return_, 1) := by decide +kernel
theorem d6_0 : decode prog_61_method_10_code 0 = .ok (.dload_n 0, 1) := by decide +kernel
theorem d6_1 : decode prog_61_method_10_code 1 = .ok (.dload_n 3, 1) := by decide +kernel
theorem d6_2 : decode prog_61_method_10_code 2 = .ok (.dcmp .g, 1) := by decide +kernel
theorem d6_3 : decode prog_61_method_10_code 3 = .ok (.ifCond .lt 18, 3) := by decide +kernel
theorem d6_6 : decode prog_61_method_10_code 6 = .ok (.dload_n 0, 1) := by decide +kernel
theorem d6_7 : decode prog_61_method_10_code 7 = .ok (.dload_n 3, 1) := by decide +kernel
theorem d6_8 : decode prog_61_method_10_code 8 = .ok (.dcmp .l, 1) := by decide +kernel
theorem d6_9 : decode prog_61_method_10_code 9 = .ok (.ifCond .ne 16, 3) := by decide +kernel
theorem d6_12 : decode prog_61_method_10_code 12 = .ok (.iload_n 2, 1) := by decide +kernel
theorem d6_13 : decode prog_61_method_10_code 13 = .ok (.ifCond .eq 12, 3) := by decide +kernel
theorem d6_16 : decode prog_61_method_10_code 16 = .ok (.iload 5, 2) := by decide +kernel
theorem d6_18 : decode prog_61_method_10_code 18 = .ok (.ifCond .eq 7, 3) := by decide +kernel
theorem d6_21 : decode prog_61_method_10_code 21 = .ok (.iconst 1, 1) := by decide +kernel
theorem d6_22 : decode prog_61_method_10_code 22 = .ok (.goto 4, 3) := by decide +kernel
theorem d6_26 : decode prog_61_method_10_code 26 = .ok (.ireturn, 1) := by decide +kernel
theorem d7_0 : decode jdk_117_method_7_code 0 = .ok (.dload_n 0, 1) := by decide +kernel
theorem d7_1 : decode jdk_117_method_7_code 1 = .ok (.invokestatic 38, 3) := by decide +kernel
theorem d7_4 : decode jdk_117_method_7_code 4 = .ok (.ldc2_w 111, 3) := by decide +kernel
theorem d7_7 : decode jdk_117_method_7_code 7 = .ok (.dcmp .l, 1) := by decide +kernel
theorem d7_8 : decode jdk_117_method_7_code 8 = .ok (.ifCond .le 7, 3) := by decide +kernel
theorem d7_15 : decode jdk_117_method_7_code 15 = .ok (.iconst 0, 1) := by decide +kernel
theorem d7_16 : decode jdk_117_method_7_code 16 = .ok (.ireturn, 1) := by decide +kernel
theorem d9_0 : decode prog_61_method_11_code 0 = .ok (.aload_n 0, 1) := by decide +kernel
theorem d9_1 : decode prog_61_method_11_code 1 = .ok (.getfield 38, 3) := by decide +kernel
theorem d9_4 : decode prog_61_method_11_code 4 = .ok (.aload_n 1, 1) := by decide +kernel
theorem d9_5 : decode prog_61_method_11_code 5 = .ok (.getfield 30, 3) := by decide +kernel
theorem d9_8 : decode prog_61_method_11_code 8 = .ok (.dcmp .g, 1) := by decide +kernel
theorem d9_9 : decode prog_61_method_11_code 9 = .ok (.ifCond .lt 29, 3) := by decide +kernel
theorem d9_12 : decode prog_61_method_11_code 12 = .ok (.aload_n 0, 1) := by decide +kernel
theorem d9_13 : decode prog_61_method_11_code 13 = .ok (.getfield 38, 3) := by decide +kernel
theorem d9_16 : decode prog_61_method_11_code 16 = .ok (.aload_n 1, 1) := by decide +kernel
theorem d9_17 : decode prog_61_method_11_code 17 = .ok (.getfield 30, 3) := by decide +kernel
theorem d9_20 : decode prog_61_method_11_code 20 = .ok (.dcmp .l, 1) := by decide +kernel
theorem d9_21 : decode prog_61_method_11_code 21 = .ok (.ifCond .ne 21, 3) := by decide +kernel
theorem d9_24 : decode prog_61_method_11_code 24 = .ok (.aload_n 0, 1) := by decide +kernel
theorem d9_25 : decode prog_61_method_11_code 25 = .ok (.getfield 41, 3) := by decide +kernel
theorem d9_28 : decode prog_61_method_11_code 28 = .ok (.ifCond .ne 14, 3) := by decide +kernel
theorem d9_31 : decode prog_61_method_11_code 31 = .ok (.aload_n 1, 1) := by decide +kernel
theorem d9_32 : decode prog_61_method_11_code 32 = .ok (.getfield 34, 3) := by decide +kernel
theorem d9_35 : decode prog_61_method_11_code 35 = .ok (.ifCond .ne 7, 3) := by decide +kernel
theorem d9_38 : decode prog_61_method_11_code 38 = .ok (.iconst 1, 1) := by decide +kernel
theorem d9_39 : decode prog_61_method_11_code 39 = .ok (.goto 4, 3) := by decide +kernel
theorem d9_42 : decode prog_61_method_11_code 42 = .ok (.iconst 0, 1) := by decide +kernel
theorem d9_43 : decode prog_61_method_11_code 43 = .ok (.ireturn, 1) := by decide +kernel
theorem pd_0 : parseMethodDescriptor "()V" = some ⟨[], none⟩ := by decide +kernel
theorem pd_1 : parseMethodDescriptor "(D)Z" = some ⟨[.double], some .boolean⟩ := by decide +kernel
theorem pd_2 : parseMethodDescriptor "(DZDZ)Z" = some ⟨[.double, .boolean, .double, .boolean], some .boolean⟩ := by decide +kernel
theorem pd_3 : parseMethodDescriptor "()D" = some ⟨[], some .double⟩ := by decide +kernel
theorem pd_4 : parseMethodDescriptor "(DZDZ)V" = some ⟨[.double, .boolean, .double, .boolean], none⟩ := by decide +kernel
theorem pd_5 : parseMethodDescriptor "(Lcom/example/measured_traces/measuredtraces/Interval;Lcom/example/measured_traces/measuredtraces/Interval;)Z" = some ⟨[(.object "com/example/measured_traces/measuredtraces/Interval"), (.object "com/example/measured_traces/measuredtraces/Interval")], some .boolean⟩ := by decide +kernel
section OwnFP
open Jvm.FP Jvm.FP.Core Jvm.Free.Fl
/-- a double's value, counted in the format's least numbers (2^-1074) -/
def dv (x : UInt64) : Int := zval b64 (val64 x)
/-- what the whole number 1 counts -/
def oneU : Int := (one64 : Int)
/-- z least numbers are a finite double -/
def Rep (z : Int) : Prop := ∃ V : Datum, FP.Core.fits b64 V ∧ (∃ s c q, V = .fin s c q) ∧ zval b64 V = z
theorem oneU_pos : 0 < oneU := by have := one64_pos; unfold oneU; omega
theorem rep_neg {z : Int} (h : Rep z) : Rep (-z) := by
  obtain ⟨V, h1, ⟨s, c, q, rfl⟩, h3⟩ := h
  exact ⟨negate (.fin s c q), negate_fits h1, ⟨_, _, _, rfl⟩, by rw [zval_negate, h3]⟩
theorem rep_nat {c j : Nat} (hc : c < 2 ^ 53) (hj : j ≤ 2045) : Rep ((c * 2 ^ j : Nat) : Int) := by
  have hm : b64.qmax = 971 := by decide
  obtain ⟨c', q', h1, h2⟩ := round_exact good_b64 false (c := c) (q := -1074 + (j : Int)) hc (by rw [qmin_b64]; omega) (by rw [hm]; omega)
  refine ⟨round b64 (.fin false c (-1074 + (j : Int))), round_fits good_b64 _, ⟨_, _, _, h1⟩, ?_⟩
  rw [h1]
  show signed false (inUnits c' q' b64.qmin) = _
  rw [h2]
  show ((inUnits c (-1074 + (j : Int)) b64.qmin : Nat) : Int) = _
  unfold inUnits
  rw [qmin_b64, show (-1074 + (j : Int) - -1074).toNat = j by omega]
theorem rep_int {z : Int} {c j : Nat} (hc : c < 2 ^ 53) (hj : j ≤ 2045) (h : z.natAbs = c * 2 ^ j) : Rep z := by
  have q := rep_nat hc hj
  rw [← h] at q
  rcases Int.natAbs_eq z with e | e
  · rw [e]; exact q
  · rw [e]; exact rep_neg q
theorem rep_dv {x : UInt64} (h : DFin x) : Rep (dv x) := ⟨val64 x, val64_fits x, h, rfl⟩
theorem squeeze {d : Datum} (hf : FP.Core.fits b64 d) (hn : d ≠ .nan) {z : Int} (hr : Rep z) (h1 : ∀ V, FP.Core.fits b64 V → V ≠ .nan → zval b64 V = z → zval b64 d ≤ zval b64 V) (h2 : ∀ V, FP.Core.fits b64 V → V ≠ .nan → zval b64 V = z → zval b64 V ≤ zval b64 d) :
    (∃ s c q, d = .fin s c q) ∧ zval b64 d = z := by
  obtain ⟨V, v1, ⟨s, c, q, rfl⟩, v3⟩ := hr
  have e1 := h1 _ v1 (by simp) v3
  have e2 := h2 _ v1 (by simp) v3
  have e : zval b64 d = z := by omega
  refine ⟨?_, e⟩
  have ht := zmag_lt_top good_b64 v1
  cases d with
  | nan => exact absurd rfl hn
  | fin s' c' q' => exact ⟨_, _, _, rfl⟩
  | inf t =>
    exfalso
    rw [← v3] at e
    have a1 : (zval b64 (.inf t)).natAbs = b64.tails * 2 ^ (b64.exps - 2) := natAbs_signed _ _
    have a2 : (zval b64 (.fin s c q)).natAbs = inUnits c q b64.qmin := natAbs_signed _ _
    rw [e, a2] at a1
    omega
theorem add_le {x y : UInt64} (hx : DFin x) (hy : DFin y) {V : Datum} (fV : FP.Core.fits b64 V) (hV : V ≠ .nan) (h : dv x + dv y ≤ zval b64 V) : dv (FP.dadd x y) ≤ zval b64 V := by
  unfold dv; rw [val64_dadd]; exact sum_le good_b64 hx hy (val64_fits x) (val64_fits y) fV hV h
theorem add_ge {x y : UInt64} (hx : DFin x) (hy : DFin y) {V : Datum} (fV : FP.Core.fits b64 V) (hV : V ≠ .nan) (h : zval b64 V ≤ dv x + dv y) : zval b64 V ≤ dv (FP.dadd x y) := by
  unfold dv; rw [val64_dadd]; exact sum_ge good_b64 hx hy (val64_fits x) (val64_fits y) fV hV h
theorem add_exact {x y : UInt64} (hx : DFin x) (hy : DFin y) {z : Int} (h : dv x + dv y = z) (hr : Rep z) : DFin (FP.dadd x y) ∧ dv (FP.dadd x y) = z :=
  squeeze (val64_fits _) ((notNaN_iff _).mp (dadd_out hx.notNaN hy)) hr (fun V f n e => add_le hx hy f n (by omega)) (fun V f n e => add_ge hx hy f n (by omega))
theorem neg_fin {x : UInt64} (hx : DFin x) : DFin (FP.dneg x) ∧ dv (FP.dneg x) = -dv x := by
  obtain ⟨s, c, q, h⟩ := hx
  unfold dv DFin; rw [FP.val64_dneg, zval_negate, h]
  exact ⟨⟨_, _, _, rfl⟩, rfl⟩
theorem sub_dneg {x y : UInt64} (hy : DFin y) : FP.dsub x y = FP.dadd x (FP.dneg y) := by
  rw [FP.dneg_core hy.notNaN]; exact dsub_eq x y
theorem sub_exact {x y : UInt64} (hx : DFin x) (hy : DFin y) {z : Int} (h : dv x - dv y = z) (hr : Rep z) : DFin (FP.dsub x y) ∧ dv (FP.dsub x y) = z := by
  rw [sub_dneg hy]
  exact add_exact hx (neg_fin hy).1 (by rw [(neg_fin hy).2]; omega) hr
theorem mul_units {x y : UInt64} (hx : DFin x) (hy : DFin y) : ∃ s c q, exactProduct (val64 x) (val64 y) = .fin s c q ∧ 2 * b64.qmin ≤ q ∧ signed s (inUnits c q (2 * b64.qmin)) = dv x * dv y := by
  obtain ⟨s, c, q, h1⟩ := hx
  obtain ⟨t, d, r, h2⟩ := hy
  have f1 := val64_fits x
  have f2 := val64_fits y
  unfold dv
  rw [h1] at f1 ⊢
  rw [h2] at f2 ⊢
  obtain ⟨p1, p2, p3⟩ := product_units f1 f2
  refine ⟨_, _, _, p1, p2, ?_⟩
  rw [p3, signed_xor]
  rfl
theorem two_qmin : 2 ^ (b64.qmin - 2 * b64.qmin).toNat = one64 := by rw [← pow_qmin64]; congr 1
theorem mul_le {x y : UInt64} (hx : DFin x) (hy : DFin y) {V : Datum} (fV : FP.Core.fits b64 V) (hV : V ≠ .nan) (h : dv x * dv y ≤ zval b64 V * oneU) : dv (FP.dmul x y) ≤ zval b64 V := by
  obtain ⟨s, c, q, h1, h2, h3⟩ := mul_units hx hy
  show zval b64 (val64 (FP.dmul x y)) ≤ _
  rw [val64_dmul, h1]
  refine zval_round_le good_b64 fV hV (e0 := 2 * b64.qmin) (by rw [qmin_b64]; omega) h2 ?_
  rw [h3, two_qmin]; exact h
theorem mul_ge {x y : UInt64} (hx : DFin x) (hy : DFin y) {V : Datum} (fV : FP.Core.fits b64 V) (hV : V ≠ .nan) (h : zval b64 V * oneU ≤ dv x * dv y) : zval b64 V ≤ dv (FP.dmul x y) := by
  obtain ⟨s, c, q, h1, h2, h3⟩ := mul_units hx hy
  show _ ≤ zval b64 (val64 (FP.dmul x y))
  rw [val64_dmul, h1]
  refine zval_round_ge good_b64 fV hV (e0 := 2 * b64.qmin) (by rw [qmin_b64]; omega) h2 ?_
  rw [h3, two_qmin]; exact h
theorem mul_exact {x y : UInt64} (hx : DFin x) (hy : DFin y) {z : Int} (h : dv x * dv y = z * oneU) (hr : Rep z) : DFin (FP.dmul x y) ∧ dv (FP.dmul x y) = z :=
  squeeze (val64_fits _) ((notNaN_iff _).mp (dmul_out hx hy)) hr (fun V f n e => mul_le hx hy f n (by rw [e, h]; exact Int.le_refl _)) (fun V f n e => mul_ge hx hy f n (by rw [e, h]; exact Int.le_refl _))
theorem dv_zero_iff {x : UInt64} (hx : DFin x) : DZero x ↔ dv x = 0 := by
  obtain ⟨s, c, q, h⟩ := hx
  constructor
  · intro hz; exact hz.zval
  · intro hz; exact (zero_bits2 x).mpr ((zval_eq_zero (by rw [h]; simp)).mp hz)
theorem div_units {x y : UInt64} (hx : DFin x) (hy : DFin y) (h0 : dv y ≠ 0) : ∃ (s t : Bool) (c d : Nat) (q r : Int), val64 (FP.ddiv x y) = roundRatio b64 (s != t) c d (q - r) ∧ 0 < d ∧ b64.qmin ≤ q ∧ b64.qmin ≤ r ∧ dv x = signed s (inUnits c q b64.qmin) ∧ dv y = signed t (inUnits d r b64.qmin) := by
  obtain ⟨s, c, q, h1⟩ := hx
  obtain ⟨t, d, r, h2⟩ := hy
  have f1 := val64_fits x
  have f2 := val64_fits y
  have hd : d ≠ 0 := by
    intro e; apply h0; unfold dv; rw [h2, e]; show signed t (inUnits 0 r b64.qmin) = 0; unfold inUnits; rw [Nat.zero_mul, signed_zero]
  refine ⟨s, t, c, d, q, r, ?_, Nat.pos_of_ne_zero hd, ?_, ?_, ?_, ?_⟩
  · rw [val64_ddiv, h1, h2]; show (if d = 0 then _ else _) = _; rw [if_neg hd]
  · rw [h1] at f1; exact f1.2.1
  · rw [h2] at f2; exact f2.2.1
  · unfold dv; rw [h1]; rfl
  · unfold dv; rw [h2]; rfl
theorem div_scale {c d : Nat} {q r : Int} (h1 : b64.qmin ≤ q) (h2 : b64.qmin ≤ r) (v : Nat) :
    inUnits c (q - r) (2 * b64.qmin - r) = inUnits c q b64.qmin * one64 ∧ v * 2 ^ (b64.qmin - (2 * b64.qmin - r)).toNat * d = v * inUnits d r b64.qmin := by
  unfold inUnits
  rw [← pow_qmin64]
  rw [qmin_b64] at h1 h2 ⊢
  constructor
  · rw [show (q - r - (2 * -1074 - r)).toNat = (q - -1074).toNat + (- -1074 : Int).toNat by omega, Nat.pow_add, Nat.mul_assoc]
  · rw [show (-1074 - (2 * -1074 - r)).toNat = (r - -1074).toNat by omega, Nat.mul_assoc, Nat.mul_comm (2 ^ _) d]
/-- a quotient of two that are not below nought, by monotony -/
theorem div_le {x y : UInt64} (hx : DFin x) (hy : DFin y) (px : 0 ≤ dv x) (py : 0 < dv y) {V : Datum} (fV : FP.Core.fits b64 V) (hV : V ≠ .nan) (h : dv x * oneU ≤ zval b64 V * dv y) : dv (FP.ddiv x y) ≤ zval b64 V := by
  obtain ⟨s, t, c, d, q, r, e, hd, hq, hr, ex, ey⟩ := div_units hx hy (by omega)
  show zval b64 (val64 (FP.ddiv x y)) ≤ _
  rw [e]
  have nv : 0 ≤ zval b64 V := by
    rcases Int.lt_or_le (zval b64 V) 0 with g | g
    · have := oneU_pos
      have a1 : 0 ≤ dv x * oneU := Int.mul_nonneg px (by omega)
      have a2 : zval b64 V * dv y < 0 := Int.mul_neg_of_neg_of_pos g py
      omega
    · exact g
  obtain ⟨k1, k2⟩ := div_scale (c := c) (d := d) hq hr (zmag b64 V)
  have ax : dv x = (inUnits c q b64.qmin : Int) := by
    rw [ex] at px ⊢; unfold signed at px ⊢; split <;> rename_i g <;> simp only [g, if_true] at px <;> omega
  have ay : dv y = (inUnits d r b64.qmin : Int) := by
    rw [ey] at py ⊢; unfold signed at py ⊢; split <;> rename_i g <;> simp only [g, if_true] at py <;> omega
  have av : zval b64 V = (zmag b64 V : Int) := by
    unfold zval at nv ⊢; unfold signed at nv ⊢; split <;> rename_i g <;> simp only [g, if_true] at nv <;> omega
  have hz := zmag_roundRatio_le good_b64 (s := (s != t)) (A := c) (B := d) (e := q - r) (e0 := 2 * b64.qmin - r) hd fV hV (by omega) (by rw [qmin_b64] at hq ⊢; omega) (by
    rw [k1, k2]
    rw [ax, ay, av] at h
    unfold oneU at h
    exact_mod_cast h)
  rw [av]
  unfold zval signed
  split <;> omega
theorem div_ge {x y : UInt64} (hx : DFin x) (hy : DFin y) (px : 0 ≤ dv x) (py : 0 < dv y) (hs : ∀ s c q, val64 x = .fin s c q → s = false) (hs' : ∀ s c q, val64 y = .fin s c q → s = false) {V : Datum} (fV : FP.Core.fits b64 V) (h : zval b64 V * dv y ≤ dv x * oneU) : zval b64 V ≤ dv (FP.ddiv x y) := by
  obtain ⟨s, c, q, h1⟩ := hx
  obtain ⟨t, d, r, h2⟩ := hy
  have es := hs _ _ _ h1
  have et := hs' _ _ _ h2
  subst es et
  have f1 := val64_fits x
  have f2 := val64_fits y
  have ax : dv x = (inUnits c q b64.qmin : Int) := by unfold dv; rw [h1]; rfl
  have ay : dv y = (inUnits d r b64.qmin : Int) := by unfold dv; rw [h2]; rfl
  have hd : d ≠ 0 := by
    intro e; rw [ay, e] at py; unfold inUnits at py; rw [Nat.zero_mul] at py; exact absurd py (by decide)
  rw [h1] at f1
  rw [h2] at f2
  show _ ≤ zval b64 (val64 (FP.ddiv x y))
  rw [val64_ddiv, h1, h2]
  show _ ≤ zval b64 (if d = 0 then _ else _)
  rw [if_neg hd]
  obtain ⟨k1, k2⟩ := div_scale (c := c) (d := d) f1.2.1 f2.2.1 (zmag b64 V)
  have hz := fun g => zmag_roundRatio_ge good_b64 (s := (false != false)) (A := c) (B := d) (e := q - r) (e0 := 2 * b64.qmin - r) (V := V) (Nat.pos_of_ne_zero hd) fV (by have := f2.2.1; omega) (by have := f1.2.1; rw [qmin_b64] at this ⊢; omega) g
  have e : zval b64 (roundRatio b64 (false != false) c d (q - r)) = (zmag b64 (roundRatio b64 (false != false) c d (q - r)) : Int) := by
    unfold zval; rw [sgn_roundRatio]; rfl
  rw [e]
  rcases Int.lt_or_le (zval b64 V) 0 with g | g
  · omega
  · have av : zval b64 V = (zmag b64 V : Int) := by
      unfold zval at g ⊢; unfold signed at g ⊢; split <;> rename_i w <;> simp only [w, if_true] at g <;> omega
    rw [av] at h ⊢
    have := hz (by
      rw [k1, k2]
      rw [ax, ay] at h
      unfold oneU at h
      exact_mod_cast h)
    omega
theorem noNaN_of_fin {x : UInt64} (h : DFin x) : NoNaN64 x := (fin64_core.mpr h).noNaN
theorem dint_fin {i : Int} {x : UInt64} (h : DInt i x) : DFin x ∧ dv x = i * oneU := by
  refine ⟨?_, DInt_zval h⟩
  unfold DInt at h
  cases hv : val64 x with
  | nan => rw [hv] at h; exact h.elim
  | inf s => rw [hv] at h; exact h.elim
  | fin s c q => exact ⟨s, c, q, hv⟩
theorem cmp_dv {x y : UInt64} (hx : DFin x) (hy : DFin y) : FP.dcmp x y = some (compare (dv x) (dv y)) := dcmp_zval hx.ne_nan hy.ne_nan
end OwnFP
section
open Jvm.FP Jvm.FP.Core Jvm.Free.Fl
/-- what a double comparison pushes -/
def oV (o : Ordering) : Int32 := match o with | .lt => -1 | .eq => 0 | .gt => 1
theorem own_oV {x y : UInt64} {o : Ordering} (h : FP.dcmp x y = some o) (op : CmpOp) : cmpValue (FP.dcmp x y) op = oV o := by rw [h]; cases o <;> rfl
/-- negative nought becomes nought -/
def nz (d : UInt64) : UInt64 := if ¬ cmpValue (FP.dcmp d 0) .l = 0 then d else 0
theorem own_maxgt {g : UInt64} (h : DFin g) : ¬ (0 : Int32) < cmpValue (FP.dcmp (g &&& 0x7fffffffffffffff) 9218868437227405311) .l := by
  rcases (le_max h.notNaN).mpr h with q | q
  · rw [show FP.dcmp (g &&& 0x7fffffffffffffff) 9218868437227405311 = some .lt from q]; decide
  · rw [show FP.dcmp (g &&& 0x7fffffffffffffff) 9218868437227405311 = some .eq from q]; decide
theorem own_narz {z : Int32} (h : z = 0 ∨ z = 1) : narrow .boolean (.int z) = .int z ∧ fits .boolean (.int z) = true := by rcases h with rfl | rfl <;> exact ⟨rfl, rfl⟩
abbrev NEG : UInt64 := 18442240474082181120
abbrev POS : UInt64 := 9218868437227405312
theorem dint_zero : DInt 0 0 := by unfold DInt; rw [val64_zero]; show signed false (0 * _) = 0 * _; simp [signed]
theorem dint_nzero : DInt 0 9223372036854775808 := by
  unfold DInt; rw [show val64 9223372036854775808 = .fin true 0 b64.qmin from by decide +kernel]; show signed true (0 * _) = 0 * _; simp [signed]
theorem nz_int {i : Int} {d : UInt64} (h : DInt i d) : DInt i (nz d) := by
  unfold nz
  have q := dcmp_int h dint_zero
  split
  · exact h
  · rename_i w
    have w := Classical.not_not.mp w
    rw [show FP.dcmp d 0 = some (compare i 0) from q] at w
    have : i = 0 := by
      rcases Int.lt_trichotomy i 0 with u | u | u
      · rw [(compare_lt_iff i 0).mpr u] at w; exact absurd w (by decide)
      · exact u
      · rw [(compare_gt_iff i 0).mpr u] at w; exact absurd w (by decide)
    rw [this]; exact dint_zero
theorem nz_neg : nz NEG = NEG := by decide +kernel
theorem nz_pos : nz POS = POS := by decide +kernel
theorem dint_dfin {i : Int} {d : UInt64} (h : DInt i d) : DFin d := (dint_fin h).1
end
/-- what before says -/
def rB (o : Ordering) (uc lc : Int32) : Int32 := if o = .lt ∨ (o = .eq ∧ uc = 0 ∧ lc = 0) then 1 else 0
theorem own_rb {o : Ordering} {uc lc r : Int32} (h : r = if oV o < 0 then 1 else (if ¬ oV o = 0 then 0 else (if ¬ uc = 0 then 0 else (if ¬ lc = 0 then 0 else 1)))) : r = rB o uc lc := by
  subst h
  by_cases a : uc = 0 <;> by_cases b : lc = 0 <;> cases o <;> simp [rB, oV, a, b]
theorem own_01 {P : Prop} [Decidable P] : (if P then (1 : Int32) else 0) = 0 ∨ (if P then (1 : Int32) else 0) = 1 := by split; exact Or.inr rfl; exact Or.inl rfl
theorem own_inc {c : Prop} [Decidable c] {inf v : Int32} (h : v = if c then 0 else (if ¬ inf = 0 then 0 else 1)) : (v = 0 ∨ v = 1) ∧ (¬ v = 0 → inf = 0) := by
  subst h
  by_cases a : c <;> by_cases b : inf = 0 <;> simp [a, b]
theorem own_w {w w' : Int64} {a b : Int32} (hw : 0 ≤ w.toInt ∧ w.toInt ≤ 3) (h : w' = if ¬ lcmpW w 0 = 0 then w else (if a = 0 then 1 else (if ¬ b = 0 then w else 1))) : 0 ≤ w'.toInt ∧ w'.toInt ≤ 3 ∧ (w'.toInt = 0 → ¬ a = 0 ∧ ¬ b = 0) := by
  have e1 : (1 : Int64).toInt = 1 := rfl
  by_cases q : lcmpW w 0 = 0
  · rw [if_neg (not_not_intro q)] at h
    by_cases u : a = 0
    · rw [if_pos u] at h; rw [h, e1]; omega
    · rw [if_neg u] at h
      by_cases v : b = 0
      · rw [if_neg (not_not_intro v)] at h; rw [h, e1]; omega
      · rw [if_pos v] at h; rw [h]; exact ⟨hw.1, hw.2, fun _ => ⟨u, v⟩⟩
  · rw [if_pos q] at h
    rw [h]
    refine ⟨hw.1, hw.2, fun z => absurd ((lw_eq _ _).mpr (Int64.toInt_inj.mp z)) q⟩
theorem own_w3 (x : Int32) : 0 ≤ (x &&& 3).toInt64.toInt ∧ (x &&& 3).toInt64.toInt ≤ 3 := by
  have a3 : 0 ≤ (x &&& 3).toInt ∧ (x &&& 3).toInt ≤ 3 := c_and x 3 (by decide)
  rw [c_i2l]; exact a3
section
open Jvm.FP Jvm.FP.Core Jvm.Free.Fl
theorem own_l2d {v : Int64} (h : v.toInt.natAbs < 4294967296) : DInt v.toInt (FP.l2d v) := by
  have q : (2 : Nat) ^ 53 = 9007199254740992 := by decide +kernel
  exact l2d_int (by rw [q]; omega)
theorem own_sel {inf : Int32} {v : Int64} (I : UInt64) (h : v.toInt.natAbs < 4294967296) {d : UInt64} (hd : d = if inf = 0 then FP.l2d v else I) : (inf = 0 ∧ DInt v.toInt d) ∨ (¬ inf = 0 ∧ d = I) := by
  by_cases q : inf = 0
  · rw [if_pos q] at hd; exact Or.inl ⟨q, hd ▸ own_l2d h⟩
  · rw [if_neg q] at hd; exact Or.inr ⟨q, hd⟩
theorem own_oh {linf uinf li ui : Int32} {lo up : Int} {lod upd : UInt64} (hl : (linf = 0 ∧ DInt lo lod) ∨ (¬ linf = 0 ∧ lod = NEG)) (hu : (uinf = 0 ∧ DInt up upd) ∨ (¬ uinf = 0 ∧ upd = POS)) (hle : lo ≤ up) (h1 : lo = up → ¬ li = 0 ∧ ¬ ui = 0) :
    FP.dcmp lod upd = some .lt ∨ (FP.dcmp lod upd = some .eq ∧ ¬ li = 0 ∧ ¬ ui = 0) := by
  rcases hl with ⟨a, b⟩ | ⟨a, b⟩ <;> rcases hu with ⟨d, f⟩ | ⟨d, f⟩
  · have q : FP.dcmp lod upd = some (compare lo up) := dcmp_int b f
    rw [q]
    rcases Int.lt_or_eq_of_le hle with w | w
    · exact Or.inl (by rw [(compare_lt_iff _ _).mpr w])
    · exact Or.inr ⟨by rw [(compare_eq_iff _ _).mpr w], h1 w⟩
  · rw [f]; exact Or.inl (fin_lt_inf (dint_dfin b)).1
  · rw [b]; exact Or.inl (fin_lt_inf (dint_dfin f)).2.2.2
  · rw [b, f]; exact Or.inl (by decide +kernel)
theorem own_o {linf uinf : Int32} {lo up : Int} {lod upd : UInt64} (hl : (linf = 0 ∧ DInt lo lod) ∨ (¬ linf = 0 ∧ lod = NEG)) (hu : (uinf = 0 ∧ DInt up upd) ∨ (¬ uinf = 0 ∧ upd = POS)) :
    ∃ o, FP.dcmp (nz upd) (nz lod) = some o ∧ (¬ uinf = 0 → o = .gt) ∧ (¬ linf = 0 → o = .gt) ∧ (uinf = 0 → linf = 0 → o = compare up lo) := by
  rcases hl with ⟨a, b⟩ | ⟨a, b⟩ <;> rcases hu with ⟨d, f⟩ | ⟨d, f⟩
  · exact ⟨compare up lo, dcmp_int (nz_int f) (nz_int b), fun q => absurd d q, fun q => absurd a q, fun _ _ => rfl⟩
  · exact ⟨.gt, by rw [f, nz_pos]; exact (fin_lt_inf (dint_dfin (nz_int b))).2.2.1, fun _ => rfl, fun _ => rfl, fun q => absurd q d⟩
  · exact ⟨.gt, by rw [b, nz_neg]; exact (fin_lt_inf (dint_dfin (nz_int f))).2.1, fun _ => rfl, fun _ => rfl, fun _ q => absurd q a⟩
  · exact ⟨.gt, by rw [b, f, nz_pos, nz_neg]; decide +kernel, fun _ => rfl, fun _ => rfl, fun q => absurd q d⟩
end
theorem own_rng {x0 x1 : Int32} {w1 w2 up1 lo1 lo2 up2 dl : Int64} (b1 : 0 ≤ w1.toInt ∧ w1.toInt ≤ 3) (b2 : 0 ≤ w2.toInt ∧ w2.toInt ≤ 3) (hd : dl = ((x1 &&& 7) - 3).toInt64) (h1 : up1 = x0.toInt64) (h2 : lo1 = up1 - w1) (h3 : lo2 = up1 + dl) (h4 : up2 = lo2 + w2) :
    up1.toInt.natAbs < 4294967296 ∧ lo1.toInt.natAbs < 4294967296 ∧ lo2.toInt.natAbs < 4294967296 ∧ up2.toInt.natAbs < 4294967296 ∧ lo1.toInt = up1.toInt - w1.toInt ∧ up2.toInt = lo2.toInt + w2.toInt := by
  have a1 := c_i2l x0
  have a2 := rng32 x0
  have a3 : 0 ≤ (x1 &&& 7).toInt ∧ (x1 &&& 7).toInt ≤ 7 := c_and x1 7 (by decide)
  have a4 := c_isub (x1 &&& 7) 3
  have a5 := rng32 ((x1 &&& 7) - 3)
  have a6 : (3 : Int32).toInt = 3 := rfl
  have a7 := c_i2l ((x1 &&& 7) - 3)
  rw [← hd] at a7
  rw [← h1] at a1
  have c1 := c_lsub up1 w1
  have c2 := rng64 (up1 - w1)
  have c3 := c_ladd up1 dl
  have c4 := rng64 (up1 + dl)
  have c5 := c_ladd lo2 w2
  have c6 := rng64 (lo2 + w2)
  rw [← h2] at c1 c2
  rw [← h3] at c3 c4
  rw [← h4] at c5 c6
  omega
theorem own_gt {o : Ordering} {uc lc : Int32} (h : o = .gt) : rB o uc lc = 0 := by subst h; simp [rB]
theorem own_fin {o : Ordering} {uc lc ex : Int32} {up lo kA kB tA tB : Int64} (bu : up.toInt.natAbs < 4294967296) (bl : lo.toInt.natAbs < 4294967296) (ho : o = compare up.toInt lo.toInt) (hA : kA = if uc = 0 then 1 else 0) (hB : kB = if lc = 0 then 1 else 0) (htA : tA = 2 * up - kA) (htB : tB = 2 * lo + kB)
    (hx : ex = if ¬ lcmpW (tA + 1) tB < 0 then 0 else 1) : rB o uc lc = ex := by
  have z1 : (1 : Int64).toInt = 1 := rfl
  have z0 : (0 : Int64).toInt = 0 := rfl
  have z2 : (2 : Int64).toInt = 2 := rfl
  have c1 := c_lmul 2 up
  have c2 := rng64 (2 * up)
  have c3 := c_lmul 2 lo
  have c4 := rng64 (2 * lo)
  have c5 := c_lsub (2 * up) kA
  have c6 := rng64 (2 * up - kA)
  have c7 := c_ladd (2 * lo) kB
  have c8 := rng64 (2 * lo + kB)
  have c9 := c_ladd tA 1
  have d1 := rng64 (tA + 1)
  rw [z2] at c1 c3
  rw [← htA] at c5 c6
  rw [← htB] at c7 c8
  have eA : kA.toInt = if uc = 0 then 1 else 0 := by rw [hA]; split <;> rfl
  have eB : kB.toInt = if lc = 0 then 1 else 0 := by rw [hB]; split <;> rfl
  rw [hx, ho]
  unfold rB
  simp only [lw_lt, Int64.lt_iff_toInt_lt, FP.Core.compare_lt_iff, FP.Core.compare_eq_iff]
  by_cases a : uc = 0 <;> by_cases b : lc = 0 <;> simp only [a, b, if_true, if_false, and_true, and_false, or_false] at eA eB ⊢
  all_goals
    by_cases q : (tA + 1).toInt < tB.toInt
    · rw [if_neg (not_not_intro q), if_pos (by omega)]
    · rw [if_pos q, if_neg (by omega)]
theorem own_fldv {s : State} {args : Array Value} {t : Term} {a : Addr} {C n : String} {b : Int64} (et : t.eval args s none [] s = some (.ref a)) (h : (Jvm.Cond.eq (Jvm.Term.field t C n "D") (Jvm.Term.op1 Jvm.Unary.bitsD (Jvm.Term.long b))).value args s none s [] = some true) : Fld s s.heap a C n "D" (.double b.toUInt64) := by
  obtain ⟨x, y, e1, e2, e3, -⟩ := cmp_v (Or.inl h)
  have e4 : (Jvm.Term.op1 Jvm.Unary.bitsD (Jvm.Term.long b)).eval args s none [] s = some (.double b.toUInt64) := rfl
  cases e4.symm.trans e2
  have e5 : x = .double b.toUInt64 := by
    cases x <;> simp [Kin, Value.isRef] at e3
    rename_i w
    simp only [Cond.value, e1, e4] at h
    simpa using h
  rw [fld_at et, e5] at e1
  exact Fld.start e1
set_option maxRecDepth 65536 in
set_option maxHeartbeats 40000000 in
theorem rm4 (l : Launch) (Z : State) (a0 : Array Value) (hw : ∀ d ∈ tables_1, d.before a0 Z = true) (ws : List Jvm.Cond) (n0 : Nat) (a : Addr) (h0 : Heap) (hn0 : n0 ≤ h0.size)  :
    Con l Z n0 (⟨"java/lang/Record", "<init>", "()V"⟩ : MethodName) jdk_30_method_1_code 1 none ws ({ frames := 1, cells := 0, slots := 0, locals := 12 } : Room) #[(.ref a)] h0 (fun v h => v = none ∧ h = h0) := by
  refine con_start (plainFor_of_name (by first | (simp [plainName, overriddenIn]; done) | decide +kernel)) (fr0 := fun m => mkF m 0 #[.val (.ref a)] []) (fun m => by first | (simp [entryFrame, mkF, argsToLocals, Value.category]; done) | rfl) ?_
  intro p e s m below meth c T0 hx hZ hby hml hown hnm hret hlk X0
  replace hown : s.vm.findClass "java/lang/Record" = some m.cls := hown
  replace hml : c.maxLocals = 1 := hml
  refine g_aloadN X0 hx (pc' := 1) rfl (hb hby d4_0) rfl rfl ?_
  refine g_initO X0 hx hZ hown (hw _ (List.mem_of_getElem? (i := 27) rfl)) (hw _ (List.mem_of_getElem? (i := 28) rfl)) (hw _ (List.mem_of_getElem? (i := 29) rfl)) (by rw [hml]; rfl) (pc' := 4) rfl (hb hby d4_1) (by decide) (W := 0) (Nat.le_of_eq rfl) (by decide) (fun T1 X1 => ?_)
  show Go p e below s n0 _ _ _ (T1.setTop (mkF m 4 #[.val (.ref a)] []))
  exact g_retV X1 hx hlk hret (hb hby d4_4) (by decide) (by decide) (⟨rfl, rfl⟩)
set_option maxRecDepth 65536 in
set_option maxHeartbeats 40000000 in
theorem rm1 (l : Launch) (Z : State) (a0 : Array Value) (hw : ∀ d ∈ tables_1, d.before a0 Z = true) (ws : List Jvm.Cond) (n0 : Nat) (a : Addr) (d : UInt64) (h0 : Heap) (hn0 : n0 ≤ h0.size) (F1 : Fld Z h0 a "com/example/measured_traces/measuredtraces/Interval" "lower" "D" (.double d)) :
    Con l Z n0 (⟨"com/example/measured_traces/measuredtraces/Interval", "lower", "()D"⟩ : MethodName) prog_61_method_18_code 1 (some .double) ws ({ frames := 0, cells := 0, slots := 0, locals := 0 } : Room) #[(.ref a)] h0 (fun v h => v = some (.double d) ∧ h = h0) := by
  refine con_start (plainFor_of_name (by first | (simp [plainName, overriddenIn]; done) | decide +kernel)) (fr0 := fun m => mkF m 0 #[.val (.ref a)] []) (fun m => by first | (simp [entryFrame, mkF, argsToLocals, Value.category]; done) | rfl) ?_
  intro p e s m below meth c T0 hx hZ hby hml hown hnm hret hlk X0
  replace hown : s.vm.findClass "com/example/measured_traces/measuredtraces/Interval" = some m.cls := hown
  replace hml : c.maxLocals = 1 := hml
  refine g_aloadN X0 hx (pc' := 1) rfl (hb hby d1_0) rfl rfl ?_
  refine g_getF X0 hx hZ hown (hw _ (List.mem_of_getElem? (i := 8) rfl)) Via.refl F1 (pc' := 4) rfl (hb hby d1_1) (fun T2 X2 => ?_)
  exact g_retD X2 hx hlk hret (hb hby d1_4) (by decide) (by decide) (⟨rfl, rfl⟩)
set_option maxRecDepth 65536 in
set_option maxHeartbeats 40000000 in
theorem rm2 (l : Launch) (Z : State) (a0 : Array Value) (hw : ∀ d ∈ tables_1, d.before a0 Z = true) (ws : List Jvm.Cond) (n0 : Nat) (a : Addr) (d : UInt64) (h0 : Heap) (hn0 : n0 ≤ h0.size) (F1 : Fld Z h0 a "com/example/measured_traces/measuredtraces/Interval" "upper" "D" (.double d)) :
    Con l Z n0 (⟨"com/example/measured_traces/measuredtraces/Interval", "upper", "()D"⟩ : MethodName) prog_61_method_20_code 1 (some .double) ws ({ frames := 0, cells := 0, slots := 0, locals := 0 } : Room) #[(.ref a)] h0 (fun v h => v = some (.double d) ∧ h = h0) := by
  refine con_start (plainFor_of_name (by first | (simp [plainName, overriddenIn]; done) | decide +kernel)) (fr0 := fun m => mkF m 0 #[.val (.ref a)] []) (fun m => by first | (simp [entryFrame, mkF, argsToLocals, Value.category]; done) | rfl) ?_
  intro p e s m below meth c T0 hx hZ hby hml hown hnm hret hlk X0
  replace hown : s.vm.findClass "com/example/measured_traces/measuredtraces/Interval" = some m.cls := hown
  replace hml : c.maxLocals = 1 := hml
  refine g_aloadN X0 hx (pc' := 1) rfl (hb hby d2_0) rfl rfl ?_
  refine g_getF X0 hx hZ hown (hw _ (List.mem_of_getElem? (i := 15) rfl)) Via.refl F1 (pc' := 4) rfl (hb hby d2_1) (fun T3 X3 => ?_)
  exact g_retD X3 hx hlk hret (hb hby d2_4) (by decide) (by decide) (⟨rfl, rfl⟩)
set_option maxRecDepth 65536 in
set_option maxHeartbeats 40000000 in
theorem rm7 (l : Launch) (Z : State) (a0 : Array Value) (hw : ∀ d ∈ tables_1, d.before a0 Z = true) (ws : List Jvm.Cond) (n0 : Nat) (g : UInt64) (h0 : Heap) (hn0 : n0 ≤ h0.size) (hf : FP.Core.DFin g) :
    Con l Z n0 (⟨"java/lang/Double", "isInfinite", "(D)Z"⟩ : MethodName) jdk_117_method_7_code 2 (some .boolean) ws ({ frames := 1, cells := 0, slots := 0, locals := 13 } : Room) #[(.double g)] h0 (fun v h => v = some (.int 0) ∧ h = h0) := by
  refine con_start (plainFor_of_name (by first | (simp [plainName, overriddenIn]; done) | decide +kernel)) (fr0 := fun m => mkF m 0 #[.val (.double g), .second] []) (fun m => by first | (simp [entryFrame, mkF, argsToLocals, Value.category]; done) | rfl) ?_
  intro p e s m below meth c T0 hx hZ hby hml hown hnm hret hlk X0
  replace hown : s.vm.findClass "java/lang/Double" = some m.cls := hown
  replace hml : c.maxLocals = 2 := hml
  have hn := noNaN_of_fin hf
  refine g_dloadN X0 hx (pc' := 1) rfl (hb hby d7_0) rfl ?_
  refine g_absD2 X0 hx hZ hown (hw _ (List.mem_of_getElem? (i := 41) rfl)) (hw _ (List.mem_of_getElem? (i := 42) rfl)) (hw _ (List.mem_of_getElem? (i := 43) rfl)) (hw _ (List.mem_of_getElem? (i := 44) rfl)) hn (by rw [hml]; rfl) (pc' := 4) rfl (hb hby d7_1) (W := 0) (Nat.le_of_eq rfl) (by decide) (by decide) (by decide) (by decide) (fun T4 X4 => ?_)
  refine g_ldc2D X4 hx hZ hown (hw _ (List.mem_of_getElem? (i := 45) rfl)) (pc' := 7) (v := (9218868437227405311 : UInt64)) rfl (hb hby d7_4) ?_
  refine g_dcmp X4 hx (pc' := 8) (z := (cmpValue (FP.dcmp (g &&& 0x7fffffffffffffff) (9218868437227405311 : UInt64)) .l)) rfl (hb hby d7_7) rfl ?_
  refine g_ifY X4 hx (pcY := 15) (hb hby d7_8) (by decide) (by decide) (show ¬ 0 < (cmpValue (FP.dcmp (g &&& 0x7fffffffffffffff) (9218868437227405311 : UInt64)) .l) from own_maxgt hf) ?_
  refine g_iconst X4 hx (pc' := 16) (z := (0 : Int32)) rfl (hb hby d7_15) rfl ?_
  exact g_retZ X4 hx hlk hret (by first | exact Or.inl rfl | exact Or.inr rfl) (hb hby d7_16) (by decide) (by decide) (⟨rfl, rfl⟩)
set_option maxRecDepth 65536 in
set_option maxHeartbeats 40000000 in
theorem rm6 (l : Launch) (Z : State) (a0 : Array Value) (hw : ∀ d ∈ tables_1, d.before a0 Z = true) (ws : List Jvm.Cond) (n0 : Nat) (lo up : UInt64) (li ui : Int32) (h0 : Heap) (hn0 : n0 ≤ h0.size) (ho : FP.dcmp lo up = some .lt ∨ (FP.dcmp lo up = some .eq ∧ ¬ li = 0 ∧ ¬ ui = 0)) :
    Con l Z n0 (⟨"com/example/measured_traces/measuredtraces/Interval", "holdsNumbers", "(DZDZ)Z"⟩ : MethodName) prog_61_method_10_code 6 (some .boolean) ws ({ frames := 0, cells := 0, slots := 0, locals := 0 } : Room) #[(.double lo), (.int li), (.double up), (.int ui)] h0 (fun v h => v = some (.int 1) ∧ h = h0) := by
  refine con_start (plainFor_of_name (by first | (simp [plainName, overriddenIn]; done) | decide +kernel)) (fr0 := fun m => mkF m 0 #[.val (.double lo), .second, .val (.int li), .val (.double up), .second, .val (.int ui)] []) (fun m => by first | (simp [entryFrame, mkF, argsToLocals, Value.category]; done) | rfl) ?_
  intro p e s m below meth c T0 hx hZ hby hml hown hnm hret hlk X0
  replace hown : s.vm.findClass "com/example/measured_traces/measuredtraces/Interval" = some m.cls := hown
  replace hml : c.maxLocals = 6 := hml
  rcases ho with ho | ⟨ho, hl, hu⟩
  · skip
    refine g_dloadN X0 hx (pc' := 1) rfl (hb hby d6_0) rfl ?_
    refine g_dloadN X0 hx (pc' := 2) rfl (hb hby d6_1) rfl ?_
    refine g_dcmp X0 hx (pc' := 3) (z := (-1 : Int32)) rfl (hb hby d6_2) (own_oV ho _) ?_
    refine g_ifY X0 hx (pcY := 21) (hb hby d6_3) (by decide) (by decide) (show (-1 : Int32) < 0 from by decide) ?_
    refine g_iconst X0 hx (pc' := 22) (z := (1 : Int32)) rfl (hb hby d6_21) rfl ?_
    refine g_goto X0 hx (pc' := 26) (hb hby d6_22) (by decide) (by decide) ?_
    exact g_retZ X0 hx hlk hret (by first | exact Or.inl rfl | exact Or.inr rfl) (hb hby d6_26) (by decide) (by decide) (⟨rfl, rfl⟩)
  · skip
    refine g_dloadN X0 hx (pc' := 1) rfl (hb hby d6_0) rfl ?_
    refine g_dloadN X0 hx (pc' := 2) rfl (hb hby d6_1) rfl ?_
    refine g_dcmp X0 hx (pc' := 3) (z := (0 : Int32)) rfl (hb hby d6_2) (own_oV ho _) ?_
    refine g_ifN X0 hx (pcN := 6) (hb hby d6_3) rfl (show ¬ ((0 : Int32) < 0) from by decide) ?_
    refine g_dloadN X0 hx (pc' := 7) rfl (hb hby d6_6) rfl ?_
    refine g_dloadN X0 hx (pc' := 8) rfl (hb hby d6_7) rfl ?_
    refine g_dcmp X0 hx (pc' := 9) (z := (0 : Int32)) rfl (hb hby d6_8) (own_oV ho _) ?_
    refine g_ifN X0 hx (pcN := 12) (hb hby d6_9) rfl (show ¬ (¬ (0 : Int32) = 0) from not_not_intro rfl) ?_
    refine g_iloadN X0 hx (pc' := 13) rfl (hb hby d6_12) rfl ?_
    refine g_ifN X0 hx (pcN := 16) (hb hby d6_13) rfl (show ¬ (li = 0) from hl) ?_
    refine g_iload X0 hx (pc' := 18) rfl (hb hby d6_16) rfl ?_
    refine g_ifN X0 hx (pcN := 21) (hb hby d6_18) rfl (show ¬ (ui = 0) from hu) ?_
    refine g_iconst X0 hx (pc' := 22) (z := (1 : Int32)) rfl (hb hby d6_21) rfl ?_
    refine g_goto X0 hx (pc' := 26) (hb hby d6_22) (by decide) (by decide) ?_
    exact g_retZ X0 hx hlk hret (by first | exact Or.inl rfl | exact Or.inr rfl) (hb hby d6_26) (by decide) (by decide) (⟨rfl, rfl⟩)
set_option maxRecDepth 65536 in
set_option maxHeartbeats 40000000 in
theorem rm3 (l : Launch) (Z : State) (a0 : Array Value) (hw : ∀ d ∈ tables_1, d.before a0 Z = true) (ws : List Jvm.Cond) (n0 : Nat) (a : Addr) (lo : UInt64) (li : Int32) (up : UInt64) (ui : Int32) (h0 : Heap) (hn0 : n0 ≤ h0.size) (E : Exa Z h0 a "com/example/measured_traces/measuredtraces/Interval") (hg : n0 ≤ a) (F_lower : Fld Z h0 a "com/example/measured_traces/measuredtraces/Interval" "lower" "D" (.double (0 : UInt64))) (F_lowerIncluded : Fld Z h0 a "com/example/measured_traces/measuredtraces/Interval" "lowerIncluded" "Z" (.int (0 : Int32))) (F_upper : Fld Z h0 a "com/example/measured_traces/measuredtraces/Interval" "upper" "D" (.double (0 : UInt64))) (F_upperIncluded : Fld Z h0 a "com/example/measured_traces/measuredtraces/Interval" "upperIncluded" "Z" (.int (0 : Int32))) (zl : li = 0 ∨ li = 1) (zu : ui = 0 ∨ ui = 1) (fl : ¬ li = 0 → FP.Core.DFin lo) (fu : ¬ ui = 0 → FP.Core.DFin up) (ho : FP.dcmp lo up = some .lt ∨ (FP.dcmp lo up = some .eq ∧ ¬ li = 0 ∧ ¬ ui = 0)) :
    Con l Z n0 (⟨"com/example/measured_traces/measuredtraces/Interval", "<init>", "(DZDZ)V"⟩ : MethodName) prog_61_method_1_code 7 none ws ({ frames := 2, cells := 0, slots := 0, locals := 48 } : Room) #[(.ref a), (.double lo), (.int li), (.double up), (.int ui)] h0 (fun v h => v = none ∧ Keep h0 h [a] ∧ Exa Z h a "com/example/measured_traces/measuredtraces/Interval" ∧ Fld Z h a "com/example/measured_traces/measuredtraces/Interval" "lower" "D" (.double (nz lo)) ∧ Fld Z h a "com/example/measured_traces/measuredtraces/Interval" "lowerIncluded" "Z" (.int li) ∧ Fld Z h a "com/example/measured_traces/measuredtraces/Interval" "upper" "D" (.double (nz up)) ∧ Fld Z h a "com/example/measured_traces/measuredtraces/Interval" "upperIncluded" "Z" (.int ui)) := by
  refine con_start (plainFor_of_name (by first | (simp [plainName, overriddenIn]; done) | decide +kernel)) (fr0 := fun m => mkF m 0 #[.val (.ref a), .val (.double lo), .second, .val (.int li), .val (.double up), .second, .val (.int ui)] []) (fun m => by first | (simp [entryFrame, mkF, argsToLocals, Value.category]; done) | rfl) ?_
  intro p e s m below meth c T0 hx hZ hby hml hown hnm hret hlk X0
  replace hown : s.vm.findClass "com/example/measured_traces/measuredtraces/Interval" = some m.cls := hown
  replace hml : c.maxLocals = 7 := hml
  refine g_aloadN X0 hx (pc' := 1) rfl (hb hby d3_0) rfl rfl ?_
  refine g_callI X0 hx hZ hown rfl (hw _ (List.mem_of_getElem? (i := 22) rfl)) (hw _ (List.mem_of_getElem? (i := 23) rfl)) (hw _ (List.mem_of_getElem? (i := 25) rfl)) (hw _ (List.mem_of_getElem? (i := 26) rfl)) (by decide) (a := a) (rm4 l Z a0 hw [] n0 a h0 hn0) pd_0 rfl rfl (by rw [hml]; rfl) (pc' := 4) rfl (hb hby d3_1) (argsL := []) (rest := []) rfl (W := 0) (Nat.le_of_eq rfl) (by decide) (by decide) (by decide) (by decide) (fun v5 T5 h5 X5 hQ5 => ?_)
  obtain ⟨rfl, he5⟩ := hQ5
  rw [he5] at X5
  show Go p e below s n0 _ _ _ (T5.setTop (mkF m 4 #[.val (.ref a), .val (.double lo), .second, .val (.int li), .val (.double up), .second, .val (.int ui)] []))
  refine g_iloadN X5 hx (pc' := 5) rfl (hb hby d3_4) rfl ?_
  suffices J5 : ∀ (T7 : State) (X7 : Wk p l e ({ frames := 2, cells := 0, slots := 0, locals := 48 } : Room) s m #[(.ref a), (.double lo), (.int li), (.double up), (.int ui)] below meth c n0 T7 h0 0 0) , Go p e below s n0 (fun v h => v = none ∧ Keep h0 h [a] ∧ Exa Z h a "com/example/measured_traces/measuredtraces/Interval" ∧ Fld Z h a "com/example/measured_traces/measuredtraces/Interval" "lower" "D" (.double (nz lo)) ∧ Fld Z h a "com/example/measured_traces/measuredtraces/Interval" "lowerIncluded" "Z" (.int li) ∧ Fld Z h a "com/example/measured_traces/measuredtraces/Interval" "upper" "D" (.double (nz up)) ∧ Fld Z h a "com/example/measured_traces/measuredtraces/Interval" "upperIncluded" "Z" (.int ui)) ({ frames := 2, cells := 0, slots := 0, locals := 48 } : Room).cells ({ frames := 2, cells := 0, slots := 0, locals := 48 } : Room).slots (T7.setTop (mkF m 15 #[.val (.ref a), .val (.double lo), .second, .val (.int li), .val (.double up), .second, .val (.int ui)] [])) by
    refine g_if X5 hx (pcY := 15) (pcN := 8) (hb hby d3_5) (by decide) (by decide) rfl (fun hc5 => ?_) (fun hc5 => ?_)
    · replace hc5 : li = 0 := hc5
      exact J5 T5 X5  
    · replace hc5 : ¬ li = 0 := hc5
      refine g_dloadN X5 hx (pc' := 9) rfl (hb hby d3_8) rfl ?_
      refine g_callS X5 hx hZ hown (hw _ (List.mem_of_getElem? (i := 37) rfl)) (hw _ (List.mem_of_getElem? (i := 38) rfl)) (hw _ (List.mem_of_getElem? (i := 39) rfl)) (hw _ (List.mem_of_getElem? (i := 40) rfl)) (by decide) (rm7 l Z a0 hw [] n0 lo h0 hn0 (fl hc5)) pd_1 rfl rfl (by rw [hml]; rfl) (pc' := 12) rfl (hb hby d3_9) (argsL := [(.double lo)]) (rest := []) rfl (W := 0) (Nat.le_of_eq rfl) (by decide) (by decide) (by decide) (by decide) (fun v6 T6 h6 X6 hQ6 => ?_)
      obtain ⟨rfl, he6⟩ := hQ6
      rw [he6] at X6
      show Go p e below s n0 _ _ _ (T6.setTop (mkF m 12 #[.val (.ref a), .val (.double lo), .second, .val (.int li), .val (.double up), .second, .val (.int ui)] [(.int (0 : Int32))]))
      refine g_ifN X6 hx (pcN := 15) (hb hby d3_12) rfl (show ¬ (¬ (0 : Int32) = 0) from by decide) ?_
      exact J5 T6 X6  
  intro T7 X7  
  refine g_iload X7 hx (pc' := 17) rfl (hb hby d3_15) rfl ?_
  suffices J17 : ∀ (T9 : State) (X9 : Wk p l e ({ frames := 2, cells := 0, slots := 0, locals := 48 } : Room) s m #[(.ref a), (.double lo), (.int li), (.double up), (.int ui)] below meth c n0 T9 h0 0 0) , Go p e below s n0 (fun v h => v = none ∧ Keep h0 h [a] ∧ Exa Z h a "com/example/measured_traces/measuredtraces/Interval" ∧ Fld Z h a "com/example/measured_traces/measuredtraces/Interval" "lower" "D" (.double (nz lo)) ∧ Fld Z h a "com/example/measured_traces/measuredtraces/Interval" "lowerIncluded" "Z" (.int li) ∧ Fld Z h a "com/example/measured_traces/measuredtraces/Interval" "upper" "D" (.double (nz up)) ∧ Fld Z h a "com/example/measured_traces/measuredtraces/Interval" "upperIncluded" "Z" (.int ui)) ({ frames := 2, cells := 0, slots := 0, locals := 48 } : Room).cells ({ frames := 2, cells := 0, slots := 0, locals := 48 } : Room).slots (T9.setTop (mkF m 38 #[.val (.ref a), .val (.double lo), .second, .val (.int li), .val (.double up), .second, .val (.int ui)] [])) by
    refine g_if X7 hx (pcY := 38) (pcN := 20) (hb hby d3_17) (by decide) (by decide) rfl (fun hc17 => ?_) (fun hc17 => ?_)
    · replace hc17 : ui = 0 := hc17
      exact J17 T7 X7  
    · replace hc17 : ¬ ui = 0 := hc17
      refine g_dload X7 hx (pc' := 22) rfl (hb hby d3_20) rfl ?_
      refine g_callS X7 hx hZ hown (hw _ (List.mem_of_getElem? (i := 37) rfl)) (hw _ (List.mem_of_getElem? (i := 38) rfl)) (hw _ (List.mem_of_getElem? (i := 39) rfl)) (hw _ (List.mem_of_getElem? (i := 40) rfl)) (by decide) (rm7 l Z a0 hw [] n0 up h0 hn0 (fu hc17)) pd_1 rfl rfl (by rw [hml]; rfl) (pc' := 25) rfl (hb hby d3_22) (argsL := [(.double up)]) (rest := []) rfl (W := 0) (Nat.le_of_eq rfl) (by decide) (by decide) (by decide) (by decide) (fun v8 T8 h8 X8 hQ8 => ?_)
      obtain ⟨rfl, he8⟩ := hQ8
      rw [he8] at X8
      show Go p e below s n0 _ _ _ (T8.setTop (mkF m 25 #[.val (.ref a), .val (.double lo), .second, .val (.int li), .val (.double up), .second, .val (.int ui)] [(.int (0 : Int32))]))
      refine g_ifY X8 hx (pcY := 38) (hb hby d3_25) (by decide) (by decide) (show (0 : Int32) = 0 from rfl) ?_
      exact J17 T8 X8  
  intro T9 X9  
  refine g_dloadN X9 hx (pc' := 39) rfl (hb hby d3_38) rfl ?_
  refine g_iloadN X9 hx (pc' := 40) rfl (hb hby d3_39) rfl ?_
  refine g_dload X9 hx (pc' := 42) rfl (hb hby d3_40) rfl ?_
  refine g_iload X9 hx (pc' := 44) rfl (hb hby d3_42) rfl ?_
  refine g_callS X9 hx hZ hown (hw _ (List.mem_of_getElem? (i := 30) rfl)) (hw _ (List.mem_of_getElem? (i := 31) rfl)) (hw _ (List.mem_of_getElem? (i := 1) rfl)) (hw _ (List.mem_of_getElem? (i := 32) rfl)) (by decide) (rm6 l Z a0 hw [] n0 lo up li ui h0 hn0 ho) pd_2 rfl rfl (by rw [hml]; rfl) (pc' := 47) rfl (hb hby d3_44) (argsL := [(.double lo), (.int li), (.double up), (.int ui)]) (rest := []) rfl (W := 0) (Nat.le_of_eq rfl) (by decide) (by decide) (by decide) (by decide) (fun v10 T10 h10 X10 hQ10 => ?_)
  obtain ⟨rfl, he10⟩ := hQ10
  rw [he10] at X10
  show Go p e below s n0 _ _ _ (T10.setTop (mkF m 47 #[.val (.ref a), .val (.double lo), .second, .val (.int li), .val (.double up), .second, .val (.int ui)] [(.int (1 : Int32))]))
  refine g_ifY X10 hx (pcY := 66) (hb hby d3_47) (by decide) (by decide) (show ¬ (1 : Int32) = 0 from by decide) ?_
  refine g_dloadN X10 hx (pc' := 67) rfl (hb hby d3_66) rfl ?_
  refine g_dconst0 X10 hx (pc' := 68) rfl (hb hby d3_67) ?_
  refine g_dcmp X10 hx (pc' := 69) (z := (cmpValue (FP.dcmp lo (0 : UInt64)) .l)) rfl (hb hby d3_68) rfl ?_
  suffices J69 : ∀ (lo1 : UInt64), (lo1 = (if ¬ (cmpValue (FP.dcmp lo (0 : UInt64)) .l) = 0 then lo else (0 : UInt64))) → Go p e below s n0 (fun v h => v = none ∧ Keep h0 h [a] ∧ Exa Z h a "com/example/measured_traces/measuredtraces/Interval" ∧ Fld Z h a "com/example/measured_traces/measuredtraces/Interval" "lower" "D" (.double (nz lo)) ∧ Fld Z h a "com/example/measured_traces/measuredtraces/Interval" "lowerIncluded" "Z" (.int li) ∧ Fld Z h a "com/example/measured_traces/measuredtraces/Interval" "upper" "D" (.double (nz up)) ∧ Fld Z h a "com/example/measured_traces/measuredtraces/Interval" "upperIncluded" "Z" (.int ui)) ({ frames := 2, cells := 0, slots := 0, locals := 48 } : Room).cells ({ frames := 2, cells := 0, slots := 0, locals := 48 } : Room).slots (T10.setTop (mkF m 77 #[.val (.ref a), .val (.double lo), .second, .val (.int li), .val (.double up), .second, .val (.int ui)] [(.double lo1)])) by
    refine g_if X10 hx (pcY := 76) (pcN := 72) (hb hby d3_69) (by decide) (by decide) rfl (fun hc69 => ?_) (fun hc69 => ?_)
    · replace hc69 : ¬ (cmpValue (FP.dcmp lo (0 : UInt64)) .l) = 0 := hc69
      refine g_dloadN X10 hx (pc' := 77) rfl (hb hby d3_76) rfl ?_
      exact J69 _ (by rw [if_pos hc69])
    · replace hc69 : (cmpValue (FP.dcmp lo (0 : UInt64)) .l) = 0 := Classical.not_not.mp hc69
      refine g_dconst0 X10 hx (pc' := 73) rfl (hb hby d3_72) ?_
      refine g_goto X10 hx (pc' := 77) (hb hby d3_73) (by decide) (by decide) ?_
      exact J69 _ (by rw [if_neg (fun q => q hc69)])
  intro lo1 h_lo1
  replace h_lo1 : lo1 = nz lo := h_lo1
  subst h_lo1
  refine g_dstoreN X10 hx (pc' := 78) rfl (hb hby d3_77) (l' := #[.val (.ref a), .val (.double (nz lo)), .second, .val (.int li), .val (.double up), .second, .val (.int ui)]) rfl ?_
  refine g_dload X10 hx (pc' := 80) rfl (hb hby d3_78) rfl ?_
  refine g_dconst0 X10 hx (pc' := 81) rfl (hb hby d3_80) ?_
  refine g_dcmp X10 hx (pc' := 82) (z := (cmpValue (FP.dcmp up (0 : UInt64)) .l)) rfl (hb hby d3_81) rfl ?_
  suffices J82 : ∀ (up1 : UInt64), (up1 = (if ¬ (cmpValue (FP.dcmp up (0 : UInt64)) .l) = 0 then up else (0 : UInt64))) → Go p e below s n0 (fun v h => v = none ∧ Keep h0 h [a] ∧ Exa Z h a "com/example/measured_traces/measuredtraces/Interval" ∧ Fld Z h a "com/example/measured_traces/measuredtraces/Interval" "lower" "D" (.double (nz lo)) ∧ Fld Z h a "com/example/measured_traces/measuredtraces/Interval" "lowerIncluded" "Z" (.int li) ∧ Fld Z h a "com/example/measured_traces/measuredtraces/Interval" "upper" "D" (.double (nz up)) ∧ Fld Z h a "com/example/measured_traces/measuredtraces/Interval" "upperIncluded" "Z" (.int ui)) ({ frames := 2, cells := 0, slots := 0, locals := 48 } : Room).cells ({ frames := 2, cells := 0, slots := 0, locals := 48 } : Room).slots (T10.setTop (mkF m 91 #[.val (.ref a), .val (.double (nz lo)), .second, .val (.int li), .val (.double up), .second, .val (.int ui)] [(.double up1)])) by
    refine g_if X10 hx (pcY := 89) (pcN := 85) (hb hby d3_82) (by decide) (by decide) rfl (fun hc82 => ?_) (fun hc82 => ?_)
    · replace hc82 : ¬ (cmpValue (FP.dcmp up (0 : UInt64)) .l) = 0 := hc82
      refine g_dload X10 hx (pc' := 91) rfl (hb hby d3_89) rfl ?_
      exact J82 _ (by rw [if_pos hc82])
    · replace hc82 : (cmpValue (FP.dcmp up (0 : UInt64)) .l) = 0 := Classical.not_not.mp hc82
      refine g_dconst0 X10 hx (pc' := 86) rfl (hb hby d3_85) ?_
      refine g_goto X10 hx (pc' := 91) (hb hby d3_86) (by decide) (by decide) ?_
      exact J82 _ (by rw [if_neg (fun q => q hc82)])
  intro up1 h_up1
  replace h_up1 : up1 = nz up := h_up1
  subst h_up1
  refine g_dstore X10 hx (pc' := 93) rfl (hb hby d3_91) (l' := #[.val (.ref a), .val (.double (nz lo)), .second, .val (.int li), .val (.double (nz up)), .second, .val (.int ui)]) rfl ?_
  refine g_aloadN X10 hx (pc' := 94) rfl (hb hby d3_93) rfl rfl ?_
  refine g_dloadN X10 hx (pc' := 95) rfl (hb hby d3_94) rfl ?_
  refine g_putF X10 hx hZ hown (hw _ (List.mem_of_getElem? (i := 8) rfl)) Via.refl F_lower E (Or.inr ⟨(hw _ (List.mem_of_getElem? (i := 9) rfl)), rfl, hnm⟩) (hw _ (List.mem_of_getElem? (i := 18) rfl)) (ty := .double) (by decide) rfl rfl hg (pc' := 98) rfl (hb hby d3_95) (fun T11 h11 X11 W11 => ?_)
  have f12 := E.wr W11
  have f13 := (by have q := (Keep.of_wr W11).1; exact Nat.le_trans hn0 q : n0 ≤ h11.size)
  have f14 := F_lower.same W11
  have f15 := F_lowerIncluded.other W11 (Or.inr (slot_ne (Or.inr (hw _ (List.mem_of_getElem? (i := 34) rfl))) (Or.inr (hw _ (List.mem_of_getElem? (i := 9) rfl))) (by decide) (t := .boolean) (t' := .double) (by decide) (by decide)))
  have f16 := F_upper.other W11 (Or.inr (slot_ne (Or.inr (hw _ (List.mem_of_getElem? (i := 16) rfl))) (Or.inr (hw _ (List.mem_of_getElem? (i := 9) rfl))) (by decide) (t := .double) (t' := .double) (by decide) (by decide)))
  have f17 := F_upperIncluded.other W11 (Or.inr (slot_ne (Or.inr (hw _ (List.mem_of_getElem? (i := 36) rfl))) (Or.inr (hw _ (List.mem_of_getElem? (i := 9) rfl))) (by decide) (t := .boolean) (t' := .double) (by decide) (by decide)))
  have K11 : Keep h0 h11 [a] := (Keep.refl h0 [a]).wr W11 (Or.inl (List.mem_of_getElem? (i := 0) rfl))
  refine g_aloadN X11 hx (pc' := 99) rfl (hb hby d3_98) rfl rfl ?_
  refine g_iloadN X11 hx (pc' := 100) rfl (hb hby d3_99) rfl ?_
  refine g_putF X11 hx hZ hown (hw _ (List.mem_of_getElem? (i := 33) rfl)) Via.refl f15 f12 (Or.inr ⟨(hw _ (List.mem_of_getElem? (i := 34) rfl)), rfl, hnm⟩) (hw _ (List.mem_of_getElem? (i := 18) rfl)) (ty := .boolean) (by decide) (own_narz zl).1 (own_narz zl).2 hg (pc' := 103) rfl (hb hby d3_100) (fun T18 h18 X18 W18 => ?_)
  have f19 := f12.wr W18
  have f20 := (by have q := (Keep.of_wr W18).1; exact Nat.le_trans f13 q : n0 ≤ h18.size)
  have f21 := f14.other W18 (Or.inr (slot_ne (Or.inr (hw _ (List.mem_of_getElem? (i := 9) rfl))) (Or.inr (hw _ (List.mem_of_getElem? (i := 34) rfl))) (by decide) (t := .double) (t' := .boolean) (by decide) (by decide)))
  have f22 := f15.same W18
  have f23 := f16.other W18 (Or.inr (slot_ne (Or.inr (hw _ (List.mem_of_getElem? (i := 16) rfl))) (Or.inr (hw _ (List.mem_of_getElem? (i := 34) rfl))) (by decide) (t := .double) (t' := .boolean) (by decide) (by decide)))
  have f24 := f17.other W18 (Or.inr (slot_ne (Or.inr (hw _ (List.mem_of_getElem? (i := 36) rfl))) (Or.inr (hw _ (List.mem_of_getElem? (i := 34) rfl))) (by decide) (t := .boolean) (t' := .boolean) (by decide) (by decide)))
  have K18 : Keep h0 h18 [a] := K11.wr W18 (Or.inl (List.mem_of_getElem? (i := 0) rfl))
  refine g_aloadN X18 hx (pc' := 104) rfl (hb hby d3_103) rfl rfl ?_
  refine g_dload X18 hx (pc' := 106) rfl (hb hby d3_104) rfl ?_
  refine g_putF X18 hx hZ hown (hw _ (List.mem_of_getElem? (i := 15) rfl)) Via.refl f23 f19 (Or.inr ⟨(hw _ (List.mem_of_getElem? (i := 16) rfl)), rfl, hnm⟩) (hw _ (List.mem_of_getElem? (i := 18) rfl)) (ty := .double) (by decide) rfl rfl hg (pc' := 109) rfl (hb hby d3_106) (fun T25 h25 X25 W25 => ?_)
  have f26 := f19.wr W25
  have f27 := (by have q := (Keep.of_wr W25).1; exact Nat.le_trans f20 q : n0 ≤ h25.size)
  have f28 := f21.other W25 (Or.inr (slot_ne (Or.inr (hw _ (List.mem_of_getElem? (i := 9) rfl))) (Or.inr (hw _ (List.mem_of_getElem? (i := 16) rfl))) (by decide) (t := .double) (t' := .double) (by decide) (by decide)))
  have f29 := f22.other W25 (Or.inr (slot_ne (Or.inr (hw _ (List.mem_of_getElem? (i := 34) rfl))) (Or.inr (hw _ (List.mem_of_getElem? (i := 16) rfl))) (by decide) (t := .boolean) (t' := .double) (by decide) (by decide)))
  have f30 := f23.same W25
  have f31 := f24.other W25 (Or.inr (slot_ne (Or.inr (hw _ (List.mem_of_getElem? (i := 36) rfl))) (Or.inr (hw _ (List.mem_of_getElem? (i := 16) rfl))) (by decide) (t := .boolean) (t' := .double) (by decide) (by decide)))
  have K25 : Keep h0 h25 [a] := K18.wr W25 (Or.inl (List.mem_of_getElem? (i := 0) rfl))
  refine g_aloadN X25 hx (pc' := 110) rfl (hb hby d3_109) rfl rfl ?_
  refine g_iload X25 hx (pc' := 112) rfl (hb hby d3_110) rfl ?_
  refine g_putF X25 hx hZ hown (hw _ (List.mem_of_getElem? (i := 35) rfl)) Via.refl f31 f26 (Or.inr ⟨(hw _ (List.mem_of_getElem? (i := 36) rfl)), rfl, hnm⟩) (hw _ (List.mem_of_getElem? (i := 18) rfl)) (ty := .boolean) (by decide) (own_narz zu).1 (own_narz zu).2 hg (pc' := 115) rfl (hb hby d3_112) (fun T32 h32 X32 W32 => ?_)
  have f33 := f26.wr W32
  have f34 := (by have q := (Keep.of_wr W32).1; exact Nat.le_trans f27 q : n0 ≤ h32.size)
  have f35 := f28.other W32 (Or.inr (slot_ne (Or.inr (hw _ (List.mem_of_getElem? (i := 9) rfl))) (Or.inr (hw _ (List.mem_of_getElem? (i := 36) rfl))) (by decide) (t := .double) (t' := .boolean) (by decide) (by decide)))
  have f36 := f29.other W32 (Or.inr (slot_ne (Or.inr (hw _ (List.mem_of_getElem? (i := 34) rfl))) (Or.inr (hw _ (List.mem_of_getElem? (i := 36) rfl))) (by decide) (t := .boolean) (t' := .boolean) (by decide) (by decide)))
  have f37 := f30.other W32 (Or.inr (slot_ne (Or.inr (hw _ (List.mem_of_getElem? (i := 16) rfl))) (Or.inr (hw _ (List.mem_of_getElem? (i := 36) rfl))) (by decide) (t := .double) (t' := .boolean) (by decide) (by decide)))
  have f38 := f31.same W32
  have K32 : Keep h0 h32 [a] := K25.wr W32 (Or.inl (List.mem_of_getElem? (i := 0) rfl))
  exact g_retV X32 hx hlk hret (hb hby d3_115) (by decide) (by decide) (⟨rfl, K32, f33, f35, f36, f37, f38⟩)
set_option maxRecDepth 65536 in
set_option maxHeartbeats 40000000 in
theorem rm9 (l : Launch) (Z : State) (a0 : Array Value) (hw : ∀ d ∈ tables_1, d.before a0 Z = true) (ws : List Jvm.Cond) (n0 : Nat) (a b : Addr) (up lo : UInt64) (uc lc : Int32) (o : Ordering) (h0 : Heap) (hn0 : n0 ≤ h0.size) (F1 : Fld Z h0 a "com/example/measured_traces/measuredtraces/Interval" "upper" "D" (.double up)) (F2 : Fld Z h0 a "com/example/measured_traces/measuredtraces/Interval" "upperIncluded" "Z" (.int uc)) (F3 : Fld Z h0 b "com/example/measured_traces/measuredtraces/Interval" "lower" "D" (.double lo)) (F4 : Fld Z h0 b "com/example/measured_traces/measuredtraces/Interval" "lowerIncluded" "Z" (.int lc)) (ho : FP.dcmp up lo = some o) :
    Con l Z n0 (⟨"com/example/measured_traces/measuredtraces/Interval", "before", "(Lcom/example/measured_traces/measuredtraces/Interval;Lcom/example/measured_traces/measuredtraces/Interval;)Z"⟩ : MethodName) prog_61_method_11_code 2 (some .boolean) ws ({ frames := 0, cells := 0, slots := 0, locals := 0 } : Room) #[(.ref a), (.ref b)] h0 (fun v h => v = some (.int (rB o uc lc)) ∧ h = h0) := by
  refine con_start (plainFor_of_name (by first | (simp [plainName, overriddenIn]; done) | decide +kernel)) (fr0 := fun m => mkF m 0 #[.val (.ref a), .val (.ref b)] []) (fun m => by first | (simp [entryFrame, mkF, argsToLocals, Value.category]; done) | rfl) ?_
  intro p e s m below meth c T0 hx hZ hby hml hown hnm hret hlk X0
  replace hown : s.vm.findClass "com/example/measured_traces/measuredtraces/Interval" = some m.cls := hown
  replace hml : c.maxLocals = 2 := hml
  refine g_aloadN X0 hx (pc' := 1) rfl (hb hby d9_0) rfl rfl ?_
  refine g_getF X0 hx hZ hown (hw _ (List.mem_of_getElem? (i := 15) rfl)) Via.refl F1 (pc' := 4) rfl (hb hby d9_1) (fun T39 X39 => ?_)
  refine g_aloadN X39 hx (pc' := 5) rfl (hb hby d9_4) rfl rfl ?_
  refine g_getF X39 hx hZ hown (hw _ (List.mem_of_getElem? (i := 8) rfl)) Via.refl F3 (pc' := 8) rfl (hb hby d9_5) (fun T40 X40 => ?_)
  refine g_dcmp X40 hx (pc' := 9) (z := (oV o)) rfl (hb hby d9_8) (own_oV ho _) ?_
  suffices J9 : ∀ (T45 : State) (X45 : Wk p l e ({ frames := 0, cells := 0, slots := 0, locals := 0 } : Room) s m #[(.ref a), (.ref b)] below meth c n0 T45 h0 0 0) (r : Int32), (r = (if (oV o) < 0 then (1 : Int32) else (if ¬ (oV o) = 0 then (0 : Int32) else (if ¬ uc = 0 then (0 : Int32) else (if ¬ lc = 0 then (0 : Int32) else (1 : Int32)))))) → Go p e below s n0 (fun v h => v = some (.int (rB o uc lc)) ∧ h = h0) ({ frames := 0, cells := 0, slots := 0, locals := 0 } : Room).cells ({ frames := 0, cells := 0, slots := 0, locals := 0 } : Room).slots (T45.setTop (mkF m 43 #[.val (.ref a), .val (.ref b)] [(.int r)])) by
    refine g_if X40 hx (pcY := 38) (pcN := 12) (hb hby d9_9) (by decide) (by decide) rfl (fun hc9 => ?_) (fun hc9 => ?_)
    · replace hc9 : (oV o) < 0 := hc9
      refine g_iconst X40 hx (pc' := 39) (z := (1 : Int32)) rfl (hb hby d9_38) rfl ?_
      refine g_goto X40 hx (pc' := 43) (hb hby d9_39) (by decide) (by decide) ?_
      exact J9 T40 X40 _ (by rw [if_pos hc9])
    · replace hc9 : ¬ (oV o) < 0 := hc9
      refine g_aloadN X40 hx (pc' := 13) rfl (hb hby d9_12) rfl rfl ?_
      refine g_getF X40 hx hZ hown (hw _ (List.mem_of_getElem? (i := 15) rfl)) Via.refl F1 (pc' := 16) rfl (hb hby d9_13) (fun T41 X41 => ?_)
      refine g_aloadN X41 hx (pc' := 17) rfl (hb hby d9_16) rfl rfl ?_
      refine g_getF X41 hx hZ hown (hw _ (List.mem_of_getElem? (i := 8) rfl)) Via.refl F3 (pc' := 20) rfl (hb hby d9_17) (fun T42 X42 => ?_)
      refine g_dcmp X42 hx (pc' := 21) (z := (oV o)) rfl (hb hby d9_20) (own_oV ho _) ?_
      refine g_if X42 hx (pcY := 42) (pcN := 24) (hb hby d9_21) (by decide) (by decide) rfl (fun hc21 => ?_) (fun hc21 => ?_)
      · replace hc21 : ¬ (oV o) = 0 := hc21
        refine g_iconst X42 hx (pc' := 43) (z := (0 : Int32)) rfl (hb hby d9_42) rfl ?_
        exact J9 T42 X42 _ (by rw [if_neg hc9, if_pos hc21])
      · replace hc21 : (oV o) = 0 := Classical.not_not.mp hc21
        refine g_aloadN X42 hx (pc' := 25) rfl (hb hby d9_24) rfl rfl ?_
        refine g_getF X42 hx hZ hown (hw _ (List.mem_of_getElem? (i := 35) rfl)) Via.refl F2 (pc' := 28) rfl (hb hby d9_25) (fun T43 X43 => ?_)
        refine g_if X43 hx (pcY := 42) (pcN := 31) (hb hby d9_28) (by decide) (by decide) rfl (fun hc28 => ?_) (fun hc28 => ?_)
        · replace hc28 : ¬ uc = 0 := hc28
          refine g_iconst X43 hx (pc' := 43) (z := (0 : Int32)) rfl (hb hby d9_42) rfl ?_
          exact J9 T43 X43 _ (by rw [if_neg hc9, if_neg (fun q => q hc21), if_pos hc28])
        · replace hc28 : uc = 0 := Classical.not_not.mp hc28
          refine g_aloadN X43 hx (pc' := 32) rfl (hb hby d9_31) rfl rfl ?_
          refine g_getF X43 hx hZ hown (hw _ (List.mem_of_getElem? (i := 33) rfl)) Via.refl F4 (pc' := 35) rfl (hb hby d9_32) (fun T44 X44 => ?_)
          refine g_if X44 hx (pcY := 42) (pcN := 38) (hb hby d9_35) (by decide) (by decide) rfl (fun hc35 => ?_) (fun hc35 => ?_)
          · replace hc35 : ¬ lc = 0 := hc35
            refine g_iconst X44 hx (pc' := 43) (z := (0 : Int32)) rfl (hb hby d9_42) rfl ?_
            exact J9 T44 X44 _ (by rw [if_neg hc9, if_neg (fun q => q hc21), if_neg (fun q => q hc28), if_pos hc35])
          · replace hc35 : lc = 0 := Classical.not_not.mp hc35
            refine g_iconst X44 hx (pc' := 39) (z := (1 : Int32)) rfl (hb hby d9_38) rfl ?_
            refine g_goto X44 hx (pc' := 43) (hb hby d9_39) (by decide) (by decide) ?_
            exact J9 T44 X44 _ (by rw [if_neg hc9, if_neg (fun q => q hc21), if_neg (fun q => q hc28), if_neg (fun q => q hc35)])
  intro T45 X45 r h_r
  exact g_retZ X45 hx hlk hret (own_rb h_r ▸ own_01) (hb hby d9_43) (by decide) (by decide) (⟨congrArg (fun z => some (Value.int z)) (own_rb h_r), rfl⟩)
set_option maxRecDepth 65536 in
set_option maxHeartbeats 40000000 in
theorem rm0 (l : Launch) (Z : State) (a0 : Array Value) (hw : ∀ d ∈ tables_1, d.before a0 Z = true) (ws : List Jvm.Cond) (n0 : Nat) (x0 : Int32) (x1 : Int32) (x2 : Int32) (x3 : Int32) (x4 : Int32) (h0 : Heap) (hn0 : n0 ≤ h0.size) (aa : Addr) (S_ALL : Sta Z h0 "com/example/measured_traces/measuredtraces/Interval" "ALL" "Lcom/example/measured_traces/measuredtraces/Interval;" (.ref aa)) (E_aa : Exa Z h0 aa "com/example/measured_traces/measuredtraces/Interval") (F_lo : Fld Z h0 aa "com/example/measured_traces/measuredtraces/Interval" "lower" "D" (.double (18442240474082181120 : UInt64))) (F_up : Fld Z h0 aa "com/example/measured_traces/measuredtraces/Interval" "upper" "D" (.double (9218868437227405312 : UInt64))) :
    Con l Z n0 x code maxLocals ret ws room_1 #[(.int x0), (.int x1), (.int x2), (.int x3), (.int x4)] h0 (fun v h => v = some (.int 1)) := by
  refine con_start (plainFor_of_name (by first | (simp [plainName, overriddenIn]; done) | decide +kernel)) (fr0 := fun m => mkF m 0 #[.val (.int x0), .val (.int x1), .val (.int x2), .val (.int x3), .val (.int x4), .unset, .unset, .unset, .unset, .unset, .unset, .unset, .unset, .unset, .unset, .unset, .unset, .unset, .unset, .unset, .unset, .unset, .unset, .unset, .unset, .unset, .unset, .unset, .unset, .unset, .unset, .unset, .unset, .unset, .unset, .unset, .unset, .unset, .unset, .unset, .unset, .unset, .unset, .unset, .unset, .unset] []) (fun m => by first | (simp [entryFrame, mkF, argsToLocals, Value.category, maxLocals]; done) | rfl) ?_
  intro p e s m below meth c T0 hx hZ hby hml hown hnm hret hlk X0
  replace hown : s.vm.findClass "com/example/measured_traces/measuredtraces/IntervalBeforePinLaw" = some m.cls := hown
  replace hml : c.maxLocals = 46 := hml
  refine g_iloadN X0 hx (pc' := 1) rfl (hb hby at_0) rfl ?_
  refine g_bipush X0 hx (pc' := 3) (z := (7 : Int32)) rfl (hb hby at_1) rfl ?_
  refine g_iand X0 hx (pc' := 4) rfl (hb hby at_3) ?_
  refine g_iconst X0 hx (pc' := 5) (z := (3 : Int32)) rfl (hb hby at_4) rfl ?_
  refine g_isub X0 hx (pc' := 6) rfl (hb hby at_5) ?_
  refine g_i2l X0 hx (pc' := 7) rfl (hb hby at_6) ?_
  refine g_absL (fun dl h_dl => ?_)
  refine g_lstore X0 hx (pc' := 9) rfl (hb hby at_7) (l' := #[.val (.int x0), .val (.int x1), .val (.int x2), .val (.int x3), .val (.int x4), .val (.long dl), .second, .unset, .unset, .unset, .unset, .unset, .unset, .unset, .unset, .unset, .unset, .unset, .unset, .unset, .unset, .unset, .unset, .unset, .unset, .unset, .unset, .unset, .unset, .unset, .unset, .unset, .unset, .unset, .unset, .unset, .unset, .unset, .unset, .unset, .unset, .unset, .unset, .unset, .unset, .unset]) rfl ?_
  refine g_iloadN X0 hx (pc' := 10) rfl (hb hby at_9) rfl ?_
  refine g_iconst X0 hx (pc' := 11) (z := (4 : Int32)) rfl (hb hby at_10) rfl ?_
  refine g_iand X0 hx (pc' := 12) rfl (hb hby at_11) ?_
  suffices J12 : ∀ (ui1 : Int32), (ui1 = (if (x2 &&& (4 : Int32)) = 0 then (0 : Int32) else (1 : Int32))) → Go p e below s n0 (fun v h => v = some (.int 1)) room_1.cells room_1.slots (T0.setTop (mkF m 20 #[.val (.int x0), .val (.int x1), .val (.int x2), .val (.int x3), .val (.int x4), .val (.long dl), .second, .unset, .unset, .unset, .unset, .unset, .unset, .unset, .unset, .unset, .unset, .unset, .unset, .unset, .unset, .unset, .unset, .unset, .unset, .unset, .unset, .unset, .unset, .unset, .unset, .unset, .unset, .unset, .unset, .unset, .unset, .unset, .unset, .unset, .unset, .unset, .unset, .unset, .unset, .unset] [(.int ui1)])) by
    refine g_if X0 hx (pcY := 19) (pcN := 15) (hb hby at_12) (by decide) (by decide) rfl (fun hc12 => ?_) (fun hc12 => ?_)
    · replace hc12 : (x2 &&& (4 : Int32)) = 0 := hc12
      refine g_iconst X0 hx (pc' := 20) (z := (0 : Int32)) rfl (hb hby at_19) rfl ?_
      exact J12 _ (by rw [if_pos hc12])
    · replace hc12 : ¬ (x2 &&& (4 : Int32)) = 0 := hc12
      refine g_iconst X0 hx (pc' := 16) (z := (1 : Int32)) rfl (hb hby at_15) rfl ?_
      refine g_goto X0 hx (pc' := 20) (hb hby at_16) (by decide) (by decide) ?_
      exact J12 _ (by rw [if_neg hc12])
  intro ui1 h_ui1
  refine g_istore X0 hx (pc' := 22) rfl (hb hby at_20) (l' := #[.val (.int x0), .val (.int x1), .val (.int x2), .val (.int x3), .val (.int x4), .val (.long dl), .second, .val (.int ui1), .unset, .unset, .unset, .unset, .unset, .unset, .unset, .unset, .unset, .unset, .unset, .unset, .unset, .unset, .unset, .unset, .unset, .unset, .unset, .unset, .unset, .unset, .unset, .unset, .unset, .unset, .unset, .unset, .unset, .unset, .unset, .unset, .unset, .unset, .unset, .unset, .unset, .unset]) rfl ?_
  refine g_iloadN X0 hx (pc' := 23) rfl (hb hby at_22) rfl ?_
  refine g_bipush X0 hx (pc' := 25) (z := (64 : Int32)) rfl (hb hby at_23) rfl ?_
  refine g_iand X0 hx (pc' := 26) rfl (hb hby at_25) ?_
  suffices J26 : ∀ (li1 : Int32), (li1 = (if (x2 &&& (64 : Int32)) = 0 then (0 : Int32) else (1 : Int32))) → Go p e below s n0 (fun v h => v = some (.int 1)) room_1.cells room_1.slots (T0.setTop (mkF m 34 #[.val (.int x0), .val (.int x1), .val (.int x2), .val (.int x3), .val (.int x4), .val (.long dl), .second, .val (.int ui1), .unset, .unset, .unset, .unset, .unset, .unset, .unset, .unset, .unset, .unset, .unset, .unset, .unset, .unset, .unset, .unset, .unset, .unset, .unset, .unset, .unset, .unset, .unset, .unset, .unset, .unset, .unset, .unset, .unset, .unset, .unset, .unset, .unset, .unset, .unset, .unset, .unset, .unset] [(.int li1)])) by
    refine g_if X0 hx (pcY := 33) (pcN := 29) (hb hby at_26) (by decide) (by decide) rfl (fun hc26 => ?_) (fun hc26 => ?_)
    · replace hc26 : (x2 &&& (64 : Int32)) = 0 := hc26
      refine g_iconst X0 hx (pc' := 34) (z := (0 : Int32)) rfl (hb hby at_33) rfl ?_
      exact J26 _ (by rw [if_pos hc26])
    · replace hc26 : ¬ (x2 &&& (64 : Int32)) = 0 := hc26
      refine g_iconst X0 hx (pc' := 30) (z := (1 : Int32)) rfl (hb hby at_29) rfl ?_
      refine g_goto X0 hx (pc' := 34) (hb hby at_30) (by decide) (by decide) ?_
      exact J26 _ (by rw [if_neg hc26])
  intro li1 h_li1
  refine g_istore X0 hx (pc' := 36) rfl (hb hby at_34) (l' := #[.val (.int x0), .val (.int x1), .val (.int x2), .val (.int x3), .val (.int x4), .val (.long dl), .second, .val (.int ui1), .val (.int li1), .unset, .unset, .unset, .unset, .unset, .unset, .unset, .unset, .unset, .unset, .unset, .unset, .unset, .unset, .unset, .unset, .unset, .unset, .unset, .unset, .unset, .unset, .unset, .unset, .unset, .unset, .unset, .unset, .unset, .unset, .unset, .unset, .unset, .unset, .unset, .unset, .unset]) rfl ?_
  refine g_iloadN X0 hx (pc' := 37) rfl (hb hby at_36) rfl ?_
  refine g_bipush X0 hx (pc' := 39) (z := (8 : Int32)) rfl (hb hby at_37) rfl ?_
  refine g_iand X0 hx (pc' := 40) rfl (hb hby at_39) ?_
  suffices J40 : ∀ (li2 : Int32), (li2 = (if (x2 &&& (8 : Int32)) = 0 then (0 : Int32) else (1 : Int32))) → Go p e below s n0 (fun v h => v = some (.int 1)) room_1.cells room_1.slots (T0.setTop (mkF m 48 #[.val (.int x0), .val (.int x1), .val (.int x2), .val (.int x3), .val (.int x4), .val (.long dl), .second, .val (.int ui1), .val (.int li1), .unset, .unset, .unset, .unset, .unset, .unset, .unset, .unset, .unset, .unset, .unset, .unset, .unset, .unset, .unset, .unset, .unset, .unset, .unset, .unset, .unset, .unset, .unset, .unset, .unset, .unset, .unset, .unset, .unset, .unset, .unset, .unset, .unset, .unset, .unset, .unset, .unset] [(.int li2)])) by
    refine g_if X0 hx (pcY := 47) (pcN := 43) (hb hby at_40) (by decide) (by decide) rfl (fun hc40 => ?_) (fun hc40 => ?_)
    · replace hc40 : (x2 &&& (8 : Int32)) = 0 := hc40
      refine g_iconst X0 hx (pc' := 48) (z := (0 : Int32)) rfl (hb hby at_47) rfl ?_
      exact J40 _ (by rw [if_pos hc40])
    · replace hc40 : ¬ (x2 &&& (8 : Int32)) = 0 := hc40
      refine g_iconst X0 hx (pc' := 44) (z := (1 : Int32)) rfl (hb hby at_43) rfl ?_
      refine g_goto X0 hx (pc' := 48) (hb hby at_44) (by decide) (by decide) ?_
      exact J40 _ (by rw [if_neg hc40])
  intro li2 h_li2
  refine g_istore X0 hx (pc' := 50) rfl (hb hby at_48) (l' := #[.val (.int x0), .val (.int x1), .val (.int x2), .val (.int x3), .val (.int x4), .val (.long dl), .second, .val (.int ui1), .val (.int li1), .val (.int li2), .unset, .unset, .unset, .unset, .unset, .unset, .unset, .unset, .unset, .unset, .unset, .unset, .unset, .unset, .unset, .unset, .unset, .unset, .unset, .unset, .unset, .unset, .unset, .unset, .unset, .unset, .unset, .unset, .unset, .unset, .unset, .unset, .unset, .unset, .unset, .unset]) rfl ?_
  refine g_iloadN X0 hx (pc' := 51) rfl (hb hby at_50) rfl ?_
  refine g_sipush X0 hx (pc' := 54) (z := (128 : Int32)) rfl (hb hby at_51) rfl ?_
  refine g_iand X0 hx (pc' := 55) rfl (hb hby at_54) ?_
  suffices J55 : ∀ (ui2 : Int32), (ui2 = (if (x2 &&& (128 : Int32)) = 0 then (0 : Int32) else (1 : Int32))) → Go p e below s n0 (fun v h => v = some (.int 1)) room_1.cells room_1.slots (T0.setTop (mkF m 63 #[.val (.int x0), .val (.int x1), .val (.int x2), .val (.int x3), .val (.int x4), .val (.long dl), .second, .val (.int ui1), .val (.int li1), .val (.int li2), .unset, .unset, .unset, .unset, .unset, .unset, .unset, .unset, .unset, .unset, .unset, .unset, .unset, .unset, .unset, .unset, .unset, .unset, .unset, .unset, .unset, .unset, .unset, .unset, .unset, .unset, .unset, .unset, .unset, .unset, .unset, .unset, .unset, .unset, .unset, .unset] [(.int ui2)])) by
    refine g_if X0 hx (pcY := 62) (pcN := 58) (hb hby at_55) (by decide) (by decide) rfl (fun hc55 => ?_) (fun hc55 => ?_)
    · replace hc55 : (x2 &&& (128 : Int32)) = 0 := hc55
      refine g_iconst X0 hx (pc' := 63) (z := (0 : Int32)) rfl (hb hby at_62) rfl ?_
      exact J55 _ (by rw [if_pos hc55])
    · replace hc55 : ¬ (x2 &&& (128 : Int32)) = 0 := hc55
      refine g_iconst X0 hx (pc' := 59) (z := (1 : Int32)) rfl (hb hby at_58) rfl ?_
      refine g_goto X0 hx (pc' := 63) (hb hby at_59) (by decide) (by decide) ?_
      exact J55 _ (by rw [if_neg hc55])
  intro ui2 h_ui2
  refine g_istore X0 hx (pc' := 65) rfl (hb hby at_63) (l' := #[.val (.int x0), .val (.int x1), .val (.int x2), .val (.int x3), .val (.int x4), .val (.long dl), .second, .val (.int ui1), .val (.int li1), .val (.int li2), .val (.int ui2), .unset, .unset, .unset, .unset, .unset, .unset, .unset, .unset, .unset, .unset, .unset, .unset, .unset, .unset, .unset, .unset, .unset, .unset, .unset, .unset, .unset, .unset, .unset, .unset, .unset, .unset, .unset, .unset, .unset, .unset, .unset, .unset, .unset, .unset, .unset]) rfl ?_
  refine g_iloadN X0 hx (pc' := 66) rfl (hb hby at_65) rfl ?_
  refine g_iconst X0 hx (pc' := 67) (z := (1 : Int32)) rfl (hb hby at_66) rfl ?_
  refine g_iand X0 hx (pc' := 68) rfl (hb hby at_67) ?_
  suffices J68 : ∀ (uc1 : Int32), (uc1 = (if (x2 &&& (1 : Int32)) = 0 then (0 : Int32) else (if ¬ ui1 = 0 then (0 : Int32) else (1 : Int32)))) → Go p e below s n0 (fun v h => v = some (.int 1)) room_1.cells room_1.slots (T0.setTop (mkF m 81 #[.val (.int x0), .val (.int x1), .val (.int x2), .val (.int x3), .val (.int x4), .val (.long dl), .second, .val (.int ui1), .val (.int li1), .val (.int li2), .val (.int ui2), .unset, .unset, .unset, .unset, .unset, .unset, .unset, .unset, .unset, .unset, .unset, .unset, .unset, .unset, .unset, .unset, .unset, .unset, .unset, .unset, .unset, .unset, .unset, .unset, .unset, .unset, .unset, .unset, .unset, .unset, .unset, .unset, .unset, .unset, .unset] [(.int uc1)])) by
    refine g_if X0 hx (pcY := 80) (pcN := 71) (hb hby at_68) (by decide) (by decide) rfl (fun hc68 => ?_) (fun hc68 => ?_)
    · replace hc68 : (x2 &&& (1 : Int32)) = 0 := hc68
      refine g_iconst X0 hx (pc' := 81) (z := (0 : Int32)) rfl (hb hby at_80) rfl ?_
      exact J68 _ (by rw [if_pos hc68])
    · replace hc68 : ¬ (x2 &&& (1 : Int32)) = 0 := hc68
      refine g_iload X0 hx (pc' := 73) rfl (hb hby at_71) rfl ?_
      refine g_if X0 hx (pcY := 80) (pcN := 76) (hb hby at_73) (by decide) (by decide) rfl (fun hc73 => ?_) (fun hc73 => ?_)
      · replace hc73 : ¬ ui1 = 0 := hc73
        refine g_iconst X0 hx (pc' := 81) (z := (0 : Int32)) rfl (hb hby at_80) rfl ?_
        exact J68 _ (by rw [if_neg hc68, if_pos hc73])
      · replace hc73 : ui1 = 0 := Classical.not_not.mp hc73
        refine g_iconst X0 hx (pc' := 77) (z := (1 : Int32)) rfl (hb hby at_76) rfl ?_
        refine g_goto X0 hx (pc' := 81) (hb hby at_77) (by decide) (by decide) ?_
        exact J68 _ (by rw [if_neg hc68, if_neg (fun q => q hc73)])
  intro uc1 h_uc1
  refine g_istore X0 hx (pc' := 83) rfl (hb hby at_81) (l' := #[.val (.int x0), .val (.int x1), .val (.int x2), .val (.int x3), .val (.int x4), .val (.long dl), .second, .val (.int ui1), .val (.int li1), .val (.int li2), .val (.int ui2), .val (.int uc1), .unset, .unset, .unset, .unset, .unset, .unset, .unset, .unset, .unset, .unset, .unset, .unset, .unset, .unset, .unset, .unset, .unset, .unset, .unset, .unset, .unset, .unset, .unset, .unset, .unset, .unset, .unset, .unset, .unset, .unset, .unset, .unset, .unset, .unset]) rfl ?_
  refine g_iloadN X0 hx (pc' := 84) rfl (hb hby at_83) rfl ?_
  refine g_iconst X0 hx (pc' := 85) (z := (2 : Int32)) rfl (hb hby at_84) rfl ?_
  refine g_iand X0 hx (pc' := 86) rfl (hb hby at_85) ?_
  suffices J86 : ∀ (lc2 : Int32), (lc2 = (if (x2 &&& (2 : Int32)) = 0 then (0 : Int32) else (if ¬ li2 = 0 then (0 : Int32) else (1 : Int32)))) → Go p e below s n0 (fun v h => v = some (.int 1)) room_1.cells room_1.slots (T0.setTop (mkF m 99 #[.val (.int x0), .val (.int x1), .val (.int x2), .val (.int x3), .val (.int x4), .val (.long dl), .second, .val (.int ui1), .val (.int li1), .val (.int li2), .val (.int ui2), .val (.int uc1), .unset, .unset, .unset, .unset, .unset, .unset, .unset, .unset, .unset, .unset, .unset, .unset, .unset, .unset, .unset, .unset, .unset, .unset, .unset, .unset, .unset, .unset, .unset, .unset, .unset, .unset, .unset, .unset, .unset, .unset, .unset, .unset, .unset, .unset] [(.int lc2)])) by
    refine g_if X0 hx (pcY := 98) (pcN := 89) (hb hby at_86) (by decide) (by decide) rfl (fun hc86 => ?_) (fun hc86 => ?_)
    · replace hc86 : (x2 &&& (2 : Int32)) = 0 := hc86
      refine g_iconst X0 hx (pc' := 99) (z := (0 : Int32)) rfl (hb hby at_98) rfl ?_
      exact J86 _ (by rw [if_pos hc86])
    · replace hc86 : ¬ (x2 &&& (2 : Int32)) = 0 := hc86
      refine g_iload X0 hx (pc' := 91) rfl (hb hby at_89) rfl ?_
      refine g_if X0 hx (pcY := 98) (pcN := 94) (hb hby at_91) (by decide) (by decide) rfl (fun hc91 => ?_) (fun hc91 => ?_)
      · replace hc91 : ¬ li2 = 0 := hc91
        refine g_iconst X0 hx (pc' := 99) (z := (0 : Int32)) rfl (hb hby at_98) rfl ?_
        exact J86 _ (by rw [if_neg hc86, if_pos hc91])
      · replace hc91 : li2 = 0 := Classical.not_not.mp hc91
        refine g_iconst X0 hx (pc' := 95) (z := (1 : Int32)) rfl (hb hby at_94) rfl ?_
        refine g_goto X0 hx (pc' := 99) (hb hby at_95) (by decide) (by decide) ?_
        exact J86 _ (by rw [if_neg hc86, if_neg (fun q => q hc91)])
  intro lc2 h_lc2
  refine g_istore X0 hx (pc' := 101) rfl (hb hby at_99) (l' := #[.val (.int x0), .val (.int x1), .val (.int x2), .val (.int x3), .val (.int x4), .val (.long dl), .second, .val (.int ui1), .val (.int li1), .val (.int li2), .val (.int ui2), .val (.int uc1), .val (.int lc2), .unset, .unset, .unset, .unset, .unset, .unset, .unset, .unset, .unset, .unset, .unset, .unset, .unset, .unset, .unset, .unset, .unset, .unset, .unset, .unset, .unset, .unset, .unset, .unset, .unset, .unset, .unset, .unset, .unset, .unset, .unset, .unset, .unset]) rfl ?_
  refine g_iloadN X0 hx (pc' := 102) rfl (hb hby at_101) rfl ?_
  refine g_bipush X0 hx (pc' := 104) (z := (16 : Int32)) rfl (hb hby at_102) rfl ?_
  refine g_iand X0 hx (pc' := 105) rfl (hb hby at_104) ?_
  suffices J105 : ∀ (lc1 : Int32), (lc1 = (if (x2 &&& (16 : Int32)) = 0 then (0 : Int32) else (if ¬ li1 = 0 then (0 : Int32) else (1 : Int32)))) → Go p e below s n0 (fun v h => v = some (.int 1)) room_1.cells room_1.slots (T0.setTop (mkF m 118 #[.val (.int x0), .val (.int x1), .val (.int x2), .val (.int x3), .val (.int x4), .val (.long dl), .second, .val (.int ui1), .val (.int li1), .val (.int li2), .val (.int ui2), .val (.int uc1), .val (.int lc2), .unset, .unset, .unset, .unset, .unset, .unset, .unset, .unset, .unset, .unset, .unset, .unset, .unset, .unset, .unset, .unset, .unset, .unset, .unset, .unset, .unset, .unset, .unset, .unset, .unset, .unset, .unset, .unset, .unset, .unset, .unset, .unset, .unset] [(.int lc1)])) by
    refine g_if X0 hx (pcY := 117) (pcN := 108) (hb hby at_105) (by decide) (by decide) rfl (fun hc105 => ?_) (fun hc105 => ?_)
    · replace hc105 : (x2 &&& (16 : Int32)) = 0 := hc105
      refine g_iconst X0 hx (pc' := 118) (z := (0 : Int32)) rfl (hb hby at_117) rfl ?_
      exact J105 _ (by rw [if_pos hc105])
    · replace hc105 : ¬ (x2 &&& (16 : Int32)) = 0 := hc105
      refine g_iload X0 hx (pc' := 110) rfl (hb hby at_108) rfl ?_
      refine g_if X0 hx (pcY := 117) (pcN := 113) (hb hby at_110) (by decide) (by decide) rfl (fun hc110 => ?_) (fun hc110 => ?_)
      · replace hc110 : ¬ li1 = 0 := hc110
        refine g_iconst X0 hx (pc' := 118) (z := (0 : Int32)) rfl (hb hby at_117) rfl ?_
        exact J105 _ (by rw [if_neg hc105, if_pos hc110])
      · replace hc110 : li1 = 0 := Classical.not_not.mp hc110
        refine g_iconst X0 hx (pc' := 114) (z := (1 : Int32)) rfl (hb hby at_113) rfl ?_
        refine g_goto X0 hx (pc' := 118) (hb hby at_114) (by decide) (by decide) ?_
        exact J105 _ (by rw [if_neg hc105, if_neg (fun q => q hc110)])
  intro lc1 h_lc1
  refine g_istore X0 hx (pc' := 120) rfl (hb hby at_118) (l' := #[.val (.int x0), .val (.int x1), .val (.int x2), .val (.int x3), .val (.int x4), .val (.long dl), .second, .val (.int ui1), .val (.int li1), .val (.int li2), .val (.int ui2), .val (.int uc1), .val (.int lc2), .val (.int lc1), .unset, .unset, .unset, .unset, .unset, .unset, .unset, .unset, .unset, .unset, .unset, .unset, .unset, .unset, .unset, .unset, .unset, .unset, .unset, .unset, .unset, .unset, .unset, .unset, .unset, .unset, .unset, .unset, .unset, .unset, .unset, .unset]) rfl ?_
  refine g_iloadN X0 hx (pc' := 121) rfl (hb hby at_120) rfl ?_
  refine g_bipush X0 hx (pc' := 123) (z := (32 : Int32)) rfl (hb hby at_121) rfl ?_
  refine g_iand X0 hx (pc' := 124) rfl (hb hby at_123) ?_
  suffices J124 : ∀ (uc2 : Int32), (uc2 = (if (x2 &&& (32 : Int32)) = 0 then (0 : Int32) else (if ¬ ui2 = 0 then (0 : Int32) else (1 : Int32)))) → Go p e below s n0 (fun v h => v = some (.int 1)) room_1.cells room_1.slots (T0.setTop (mkF m 137 #[.val (.int x0), .val (.int x1), .val (.int x2), .val (.int x3), .val (.int x4), .val (.long dl), .second, .val (.int ui1), .val (.int li1), .val (.int li2), .val (.int ui2), .val (.int uc1), .val (.int lc2), .val (.int lc1), .unset, .unset, .unset, .unset, .unset, .unset, .unset, .unset, .unset, .unset, .unset, .unset, .unset, .unset, .unset, .unset, .unset, .unset, .unset, .unset, .unset, .unset, .unset, .unset, .unset, .unset, .unset, .unset, .unset, .unset, .unset, .unset] [(.int uc2)])) by
    refine g_if X0 hx (pcY := 136) (pcN := 127) (hb hby at_124) (by decide) (by decide) rfl (fun hc124 => ?_) (fun hc124 => ?_)
    · replace hc124 : (x2 &&& (32 : Int32)) = 0 := hc124
      refine g_iconst X0 hx (pc' := 137) (z := (0 : Int32)) rfl (hb hby at_136) rfl ?_
      exact J124 _ (by rw [if_pos hc124])
    · replace hc124 : ¬ (x2 &&& (32 : Int32)) = 0 := hc124
      refine g_iload X0 hx (pc' := 129) rfl (hb hby at_127) rfl ?_
      refine g_if X0 hx (pcY := 136) (pcN := 132) (hb hby at_129) (by decide) (by decide) rfl (fun hc129 => ?_) (fun hc129 => ?_)
      · replace hc129 : ¬ ui2 = 0 := hc129
        refine g_iconst X0 hx (pc' := 137) (z := (0 : Int32)) rfl (hb hby at_136) rfl ?_
        exact J124 _ (by rw [if_neg hc124, if_pos hc129])
      · replace hc129 : ui2 = 0 := Classical.not_not.mp hc129
        refine g_iconst X0 hx (pc' := 133) (z := (1 : Int32)) rfl (hb hby at_132) rfl ?_
        refine g_goto X0 hx (pc' := 137) (hb hby at_133) (by decide) (by decide) ?_
        exact J124 _ (by rw [if_neg hc124, if_neg (fun q => q hc129)])
  intro uc2 h_uc2
  refine g_istore X0 hx (pc' := 139) rfl (hb hby at_137) (l' := #[.val (.int x0), .val (.int x1), .val (.int x2), .val (.int x3), .val (.int x4), .val (.long dl), .second, .val (.int ui1), .val (.int li1), .val (.int li2), .val (.int ui2), .val (.int uc1), .val (.int lc2), .val (.int lc1), .val (.int uc2), .unset, .unset, .unset, .unset, .unset, .unset, .unset, .unset, .unset, .unset, .unset, .unset, .unset, .unset, .unset, .unset, .unset, .unset, .unset, .unset, .unset, .unset, .unset, .unset, .unset, .unset, .unset, .unset, .unset, .unset, .unset]) rfl ?_
  refine g_iloadN X0 hx (pc' := 140) rfl (hb hby at_139) rfl ?_
  refine g_iconst X0 hx (pc' := 141) (z := (3 : Int32)) rfl (hb hby at_140) rfl ?_
  refine g_iand X0 hx (pc' := 142) rfl (hb hby at_141) ?_
  refine g_i2l X0 hx (pc' := 143) rfl (hb hby at_142) ?_
  refine g_absL (fun w1 h_w1 => ?_)
  refine g_lstore X0 hx (pc' := 145) rfl (hb hby at_143) (l' := #[.val (.int x0), .val (.int x1), .val (.int x2), .val (.int x3), .val (.int x4), .val (.long dl), .second, .val (.int ui1), .val (.int li1), .val (.int li2), .val (.int ui2), .val (.int uc1), .val (.int lc2), .val (.int lc1), .val (.int uc2), .val (.long w1), .second, .unset, .unset, .unset, .unset, .unset, .unset, .unset, .unset, .unset, .unset, .unset, .unset, .unset, .unset, .unset, .unset, .unset, .unset, .unset, .unset, .unset, .unset, .unset, .unset, .unset, .unset, .unset, .unset, .unset]) rfl ?_
  refine g_lload X0 hx (pc' := 147) rfl (hb hby at_145) rfl ?_
  refine g_lconst X0 hx (pc' := 148) (z := (0 : Int64)) rfl (hb hby at_147) rfl ?_
  refine g_lcmp X0 hx (pc' := 149) rfl (hb hby at_148) ?_
  suffices J149 : ∀ (w1b : Int64), (w1b = (if ¬ (lcmpW w1 (0 : Int64)) = 0 then w1 else (if lc1 = 0 then (1 : Int64) else (if ¬ uc1 = 0 then w1 else (1 : Int64))))) → Go p e below s n0 (fun v h => v = some (.int 1)) room_1.cells room_1.slots (T0.setTop (mkF m 165 #[.val (.int x0), .val (.int x1), .val (.int x2), .val (.int x3), .val (.int x4), .val (.long dl), .second, .val (.int ui1), .val (.int li1), .val (.int li2), .val (.int ui2), .val (.int uc1), .val (.int lc2), .val (.int lc1), .val (.int uc2), .val (.long w1b), .second, .unset, .unset, .unset, .unset, .unset, .unset, .unset, .unset, .unset, .unset, .unset, .unset, .unset, .unset, .unset, .unset, .unset, .unset, .unset, .unset, .unset, .unset, .unset, .unset, .unset, .unset, .unset, .unset, .unset] [])) by
    refine g_if X0 hx (pcY := 165) (pcN := 152) (hb hby at_149) (by decide) (by decide) rfl (fun hc149 => ?_) (fun hc149 => ?_)
    · replace hc149 : ¬ (lcmpW w1 (0 : Int64)) = 0 := hc149
      exact J149 _ (by rw [if_pos hc149])
    · replace hc149 : (lcmpW w1 (0 : Int64)) = 0 := Classical.not_not.mp hc149
      refine g_iload X0 hx (pc' := 154) rfl (hb hby at_152) rfl ?_
      refine g_if X0 hx (pcY := 162) (pcN := 157) (hb hby at_154) (by decide) (by decide) rfl (fun hc154 => ?_) (fun hc154 => ?_)
      · replace hc154 : lc1 = 0 := hc154
        refine g_lconst X0 hx (pc' := 163) (z := (1 : Int64)) rfl (hb hby at_162) rfl ?_
        refine g_lstore X0 hx (pc' := 165) rfl (hb hby at_163) (l' := #[.val (.int x0), .val (.int x1), .val (.int x2), .val (.int x3), .val (.int x4), .val (.long dl), .second, .val (.int ui1), .val (.int li1), .val (.int li2), .val (.int ui2), .val (.int uc1), .val (.int lc2), .val (.int lc1), .val (.int uc2), .val (.long (1 : Int64)), .second, .unset, .unset, .unset, .unset, .unset, .unset, .unset, .unset, .unset, .unset, .unset, .unset, .unset, .unset, .unset, .unset, .unset, .unset, .unset, .unset, .unset, .unset, .unset, .unset, .unset, .unset, .unset, .unset, .unset]) rfl ?_
        exact J149 _ (by rw [if_neg (fun q => q hc149), if_pos hc154])
      · replace hc154 : ¬ lc1 = 0 := hc154
        refine g_iload X0 hx (pc' := 159) rfl (hb hby at_157) rfl ?_
        refine g_if X0 hx (pcY := 165) (pcN := 162) (hb hby at_159) (by decide) (by decide) rfl (fun hc159 => ?_) (fun hc159 => ?_)
        · replace hc159 : ¬ uc1 = 0 := hc159
          exact J149 _ (by rw [if_neg (fun q => q hc149), if_neg hc154, if_pos hc159])
        · replace hc159 : uc1 = 0 := Classical.not_not.mp hc159
          refine g_lconst X0 hx (pc' := 163) (z := (1 : Int64)) rfl (hb hby at_162) rfl ?_
          refine g_lstore X0 hx (pc' := 165) rfl (hb hby at_163) (l' := #[.val (.int x0), .val (.int x1), .val (.int x2), .val (.int x3), .val (.int x4), .val (.long dl), .second, .val (.int ui1), .val (.int li1), .val (.int li2), .val (.int ui2), .val (.int uc1), .val (.int lc2), .val (.int lc1), .val (.int uc2), .val (.long (1 : Int64)), .second, .unset, .unset, .unset, .unset, .unset, .unset, .unset, .unset, .unset, .unset, .unset, .unset, .unset, .unset, .unset, .unset, .unset, .unset, .unset, .unset, .unset, .unset, .unset, .unset, .unset, .unset, .unset, .unset, .unset]) rfl ?_
          exact J149 _ (by rw [if_neg (fun q => q hc149), if_neg hc154, if_neg (fun q => q hc159)])
  intro w1b h_w1b
  refine g_iload X0 hx (pc' := 167) rfl (hb hby at_165) rfl ?_
  refine g_iconst X0 hx (pc' := 168) (z := (3 : Int32)) rfl (hb hby at_167) rfl ?_
  refine g_iand X0 hx (pc' := 169) rfl (hb hby at_168) ?_
  refine g_i2l X0 hx (pc' := 170) rfl (hb hby at_169) ?_
  refine g_absL (fun w2 h_w2 => ?_)
  refine g_lstore X0 hx (pc' := 172) rfl (hb hby at_170) (l' := #[.val (.int x0), .val (.int x1), .val (.int x2), .val (.int x3), .val (.int x4), .val (.long dl), .second, .val (.int ui1), .val (.int li1), .val (.int li2), .val (.int ui2), .val (.int uc1), .val (.int lc2), .val (.int lc1), .val (.int uc2), .val (.long w1b), .second, .val (.long w2), .second, .unset, .unset, .unset, .unset, .unset, .unset, .unset, .unset, .unset, .unset, .unset, .unset, .unset, .unset, .unset, .unset, .unset, .unset, .unset, .unset, .unset, .unset, .unset, .unset, .unset, .unset, .unset]) rfl ?_
  refine g_lload X0 hx (pc' := 174) rfl (hb hby at_172) rfl ?_
  refine g_lconst X0 hx (pc' := 175) (z := (0 : Int64)) rfl (hb hby at_174) rfl ?_
  refine g_lcmp X0 hx (pc' := 176) rfl (hb hby at_175) ?_
  suffices J176 : ∀ (w2b : Int64), (w2b = (if ¬ (lcmpW w2 (0 : Int64)) = 0 then w2 else (if lc2 = 0 then (1 : Int64) else (if ¬ uc2 = 0 then w2 else (1 : Int64))))) → Go p e below s n0 (fun v h => v = some (.int 1)) room_1.cells room_1.slots (T0.setTop (mkF m 192 #[.val (.int x0), .val (.int x1), .val (.int x2), .val (.int x3), .val (.int x4), .val (.long dl), .second, .val (.int ui1), .val (.int li1), .val (.int li2), .val (.int ui2), .val (.int uc1), .val (.int lc2), .val (.int lc1), .val (.int uc2), .val (.long w1b), .second, .val (.long w2b), .second, .unset, .unset, .unset, .unset, .unset, .unset, .unset, .unset, .unset, .unset, .unset, .unset, .unset, .unset, .unset, .unset, .unset, .unset, .unset, .unset, .unset, .unset, .unset, .unset, .unset, .unset, .unset] [])) by
    refine g_if X0 hx (pcY := 192) (pcN := 179) (hb hby at_176) (by decide) (by decide) rfl (fun hc176 => ?_) (fun hc176 => ?_)
    · replace hc176 : ¬ (lcmpW w2 (0 : Int64)) = 0 := hc176
      exact J176 _ (by rw [if_pos hc176])
    · replace hc176 : (lcmpW w2 (0 : Int64)) = 0 := Classical.not_not.mp hc176
      refine g_iload X0 hx (pc' := 181) rfl (hb hby at_179) rfl ?_
      refine g_if X0 hx (pcY := 189) (pcN := 184) (hb hby at_181) (by decide) (by decide) rfl (fun hc181 => ?_) (fun hc181 => ?_)
      · replace hc181 : lc2 = 0 := hc181
        refine g_lconst X0 hx (pc' := 190) (z := (1 : Int64)) rfl (hb hby at_189) rfl ?_
        refine g_lstore X0 hx (pc' := 192) rfl (hb hby at_190) (l' := #[.val (.int x0), .val (.int x1), .val (.int x2), .val (.int x3), .val (.int x4), .val (.long dl), .second, .val (.int ui1), .val (.int li1), .val (.int li2), .val (.int ui2), .val (.int uc1), .val (.int lc2), .val (.int lc1), .val (.int uc2), .val (.long w1b), .second, .val (.long (1 : Int64)), .second, .unset, .unset, .unset, .unset, .unset, .unset, .unset, .unset, .unset, .unset, .unset, .unset, .unset, .unset, .unset, .unset, .unset, .unset, .unset, .unset, .unset, .unset, .unset, .unset, .unset, .unset, .unset]) rfl ?_
        exact J176 _ (by rw [if_neg (fun q => q hc176), if_pos hc181])
      · replace hc181 : ¬ lc2 = 0 := hc181
        refine g_iload X0 hx (pc' := 186) rfl (hb hby at_184) rfl ?_
        refine g_if X0 hx (pcY := 192) (pcN := 189) (hb hby at_186) (by decide) (by decide) rfl (fun hc186 => ?_) (fun hc186 => ?_)
        · replace hc186 : ¬ uc2 = 0 := hc186
          exact J176 _ (by rw [if_neg (fun q => q hc176), if_neg hc181, if_pos hc186])
        · replace hc186 : uc2 = 0 := Classical.not_not.mp hc186
          refine g_lconst X0 hx (pc' := 190) (z := (1 : Int64)) rfl (hb hby at_189) rfl ?_
          refine g_lstore X0 hx (pc' := 192) rfl (hb hby at_190) (l' := #[.val (.int x0), .val (.int x1), .val (.int x2), .val (.int x3), .val (.int x4), .val (.long dl), .second, .val (.int ui1), .val (.int li1), .val (.int li2), .val (.int ui2), .val (.int uc1), .val (.int lc2), .val (.int lc1), .val (.int uc2), .val (.long w1b), .second, .val (.long (1 : Int64)), .second, .unset, .unset, .unset, .unset, .unset, .unset, .unset, .unset, .unset, .unset, .unset, .unset, .unset, .unset, .unset, .unset, .unset, .unset, .unset, .unset, .unset, .unset, .unset, .unset, .unset, .unset, .unset]) rfl ?_
          exact J176 _ (by rw [if_neg (fun q => q hc176), if_neg hc181, if_neg (fun q => q hc186)])
  intro w2b h_w2b
  refine g_iloadN X0 hx (pc' := 193) rfl (hb hby at_192) rfl ?_
  refine g_i2l X0 hx (pc' := 194) rfl (hb hby at_193) ?_
  refine g_absL (fun up1 h_up1 => ?_)
  refine g_lstore X0 hx (pc' := 196) rfl (hb hby at_194) (l' := #[.val (.int x0), .val (.int x1), .val (.int x2), .val (.int x3), .val (.int x4), .val (.long dl), .second, .val (.int ui1), .val (.int li1), .val (.int li2), .val (.int ui2), .val (.int uc1), .val (.int lc2), .val (.int lc1), .val (.int uc2), .val (.long w1b), .second, .val (.long w2b), .second, .val (.long up1), .second, .unset, .unset, .unset, .unset, .unset, .unset, .unset, .unset, .unset, .unset, .unset, .unset, .unset, .unset, .unset, .unset, .unset, .unset, .unset, .unset, .unset, .unset, .unset, .unset, .unset]) rfl ?_
  refine g_lload X0 hx (pc' := 198) rfl (hb hby at_196) rfl ?_
  refine g_lload X0 hx (pc' := 200) rfl (hb hby at_198) rfl ?_
  refine g_lsub X0 hx (pc' := 201) rfl (hb hby at_200) ?_
  refine g_absL (fun lo1 h_lo1 => ?_)
  refine g_lstore X0 hx (pc' := 203) rfl (hb hby at_201) (l' := #[.val (.int x0), .val (.int x1), .val (.int x2), .val (.int x3), .val (.int x4), .val (.long dl), .second, .val (.int ui1), .val (.int li1), .val (.int li2), .val (.int ui2), .val (.int uc1), .val (.int lc2), .val (.int lc1), .val (.int uc2), .val (.long w1b), .second, .val (.long w2b), .second, .val (.long up1), .second, .val (.long lo1), .second, .unset, .unset, .unset, .unset, .unset, .unset, .unset, .unset, .unset, .unset, .unset, .unset, .unset, .unset, .unset, .unset, .unset, .unset, .unset, .unset, .unset, .unset, .unset]) rfl ?_
  refine g_lload X0 hx (pc' := 205) rfl (hb hby at_203) rfl ?_
  refine g_lload X0 hx (pc' := 207) rfl (hb hby at_205) rfl ?_
  refine g_ladd X0 hx (pc' := 208) rfl (hb hby at_207) ?_
  refine g_absL (fun lo2 h_lo2 => ?_)
  refine g_lstore X0 hx (pc' := 210) rfl (hb hby at_208) (l' := #[.val (.int x0), .val (.int x1), .val (.int x2), .val (.int x3), .val (.int x4), .val (.long dl), .second, .val (.int ui1), .val (.int li1), .val (.int li2), .val (.int ui2), .val (.int uc1), .val (.int lc2), .val (.int lc1), .val (.int uc2), .val (.long w1b), .second, .val (.long w2b), .second, .val (.long up1), .second, .val (.long lo1), .second, .val (.long lo2), .second, .unset, .unset, .unset, .unset, .unset, .unset, .unset, .unset, .unset, .unset, .unset, .unset, .unset, .unset, .unset, .unset, .unset, .unset, .unset, .unset, .unset]) rfl ?_
  refine g_lload X0 hx (pc' := 212) rfl (hb hby at_210) rfl ?_
  refine g_lload X0 hx (pc' := 214) rfl (hb hby at_212) rfl ?_
  refine g_ladd X0 hx (pc' := 215) rfl (hb hby at_214) ?_
  refine g_absL (fun up2 h_up2 => ?_)
  refine g_lstore X0 hx (pc' := 217) rfl (hb hby at_215) (l' := #[.val (.int x0), .val (.int x1), .val (.int x2), .val (.int x3), .val (.int x4), .val (.long dl), .second, .val (.int ui1), .val (.int li1), .val (.int li2), .val (.int ui2), .val (.int uc1), .val (.int lc2), .val (.int lc1), .val (.int uc2), .val (.long w1b), .second, .val (.long w2b), .second, .val (.long up1), .second, .val (.long lo1), .second, .val (.long lo2), .second, .val (.long up2), .second, .unset, .unset, .unset, .unset, .unset, .unset, .unset, .unset, .unset, .unset, .unset, .unset, .unset, .unset, .unset, .unset, .unset, .unset, .unset]) rfl ?_
  refine g_getS X0 hx hZ hown (hw _ (List.mem_of_getElem? (i := 0) rfl)) Via.refl S_ALL (pc' := 220) rfl (hb hby at_217) (fun T46 X46 => ?_)
  refine g_callV X46 hx hZ hown (hw _ (List.mem_of_getElem? (i := 3) rfl)) (hw _ (List.mem_of_getElem? (i := 4) rfl)) (hw _ (List.mem_of_getElem? (i := 6) rfl)) (hw _ (List.mem_of_getElem? (i := 5) rfl)) (hw _ (List.mem_of_getElem? (i := 1) rfl)) (hw _ (List.mem_of_getElem? (i := 7) rfl)) (by decide) (a := aa) E_aa (rm1 l Z a0 hw [] n0 aa (18442240474082181120 : UInt64) h0 hn0 F_lo) pd_3 rfl rfl (by rw [hml]; rfl) (pc' := 223) rfl (hb hby at_220) (argsL := []) (rest := []) rfl (W := 0) (Nat.le_of_eq rfl) (by decide) (by decide) (by decide) (by decide) (fun v47 T47 h47 X47 hQ47 => ?_)
  obtain ⟨rfl, he47⟩ := hQ47
  rw [he47] at X47
  show Go p e below s n0 _ _ _ (T47.setTop (mkF m 223 #[.val (.int x0), .val (.int x1), .val (.int x2), .val (.int x3), .val (.int x4), .val (.long dl), .second, .val (.int ui1), .val (.int li1), .val (.int li2), .val (.int ui2), .val (.int uc1), .val (.int lc2), .val (.int lc1), .val (.int uc2), .val (.long w1b), .second, .val (.long w2b), .second, .val (.long up1), .second, .val (.long lo1), .second, .val (.long lo2), .second, .val (.long up2), .second, .unset, .unset, .unset, .unset, .unset, .unset, .unset, .unset, .unset, .unset, .unset, .unset, .unset, .unset, .unset, .unset, .unset, .unset, .unset] [(.double (18442240474082181120 : UInt64))]))
  refine g_dstore X47 hx (pc' := 225) rfl (hb hby at_223) (l' := #[.val (.int x0), .val (.int x1), .val (.int x2), .val (.int x3), .val (.int x4), .val (.long dl), .second, .val (.int ui1), .val (.int li1), .val (.int li2), .val (.int ui2), .val (.int uc1), .val (.int lc2), .val (.int lc1), .val (.int uc2), .val (.long w1b), .second, .val (.long w2b), .second, .val (.long up1), .second, .val (.long lo1), .second, .val (.long lo2), .second, .val (.long up2), .second, .val (.double (18442240474082181120 : UInt64)), .second, .unset, .unset, .unset, .unset, .unset, .unset, .unset, .unset, .unset, .unset, .unset, .unset, .unset, .unset, .unset, .unset, .unset]) rfl ?_
  refine g_getS X47 hx hZ hown (hw _ (List.mem_of_getElem? (i := 0) rfl)) Via.refl S_ALL (pc' := 228) rfl (hb hby at_225) (fun T48 X48 => ?_)
  refine g_callV X48 hx hZ hown (hw _ (List.mem_of_getElem? (i := 10) rfl)) (hw _ (List.mem_of_getElem? (i := 11) rfl)) (hw _ (List.mem_of_getElem? (i := 13) rfl)) (hw _ (List.mem_of_getElem? (i := 12) rfl)) (hw _ (List.mem_of_getElem? (i := 1) rfl)) (hw _ (List.mem_of_getElem? (i := 14) rfl)) (by decide) (a := aa) E_aa (rm2 l Z a0 hw [] n0 aa (9218868437227405312 : UInt64) h0 hn0 F_up) pd_3 rfl rfl (by rw [hml]; rfl) (pc' := 231) rfl (hb hby at_228) (argsL := []) (rest := []) rfl (W := 0) (Nat.le_of_eq rfl) (by decide) (by decide) (by decide) (by decide) (fun v49 T49 h49 X49 hQ49 => ?_)
  obtain ⟨rfl, he49⟩ := hQ49
  rw [he49] at X49
  show Go p e below s n0 _ _ _ (T49.setTop (mkF m 231 #[.val (.int x0), .val (.int x1), .val (.int x2), .val (.int x3), .val (.int x4), .val (.long dl), .second, .val (.int ui1), .val (.int li1), .val (.int li2), .val (.int ui2), .val (.int uc1), .val (.int lc2), .val (.int lc1), .val (.int uc2), .val (.long w1b), .second, .val (.long w2b), .second, .val (.long up1), .second, .val (.long lo1), .second, .val (.long lo2), .second, .val (.long up2), .second, .val (.double (18442240474082181120 : UInt64)), .second, .unset, .unset, .unset, .unset, .unset, .unset, .unset, .unset, .unset, .unset, .unset, .unset, .unset, .unset, .unset, .unset, .unset] [(.double (9218868437227405312 : UInt64))]))
  refine g_dstore X49 hx (pc' := 233) rfl (hb hby at_231) (l' := #[.val (.int x0), .val (.int x1), .val (.int x2), .val (.int x3), .val (.int x4), .val (.long dl), .second, .val (.int ui1), .val (.int li1), .val (.int li2), .val (.int ui2), .val (.int uc1), .val (.int lc2), .val (.int lc1), .val (.int uc2), .val (.long w1b), .second, .val (.long w2b), .second, .val (.long up1), .second, .val (.long lo1), .second, .val (.long lo2), .second, .val (.long up2), .second, .val (.double (18442240474082181120 : UInt64)), .second, .val (.double (9218868437227405312 : UInt64)), .second, .unset, .unset, .unset, .unset, .unset, .unset, .unset, .unset, .unset, .unset, .unset, .unset, .unset, .unset, .unset]) rfl ?_
  refine g_iload X49 hx (pc' := 235) rfl (hb hby at_233) rfl ?_
  suffices J235 : ∀ (lod1 : UInt64), (lod1 = (if li1 = 0 then (FP.l2d lo1) else (18442240474082181120 : UInt64))) → Go p e below s n0 (fun v h => v = some (.int 1)) room_1.cells room_1.slots (T49.setTop (mkF m 246 #[.val (.int x0), .val (.int x1), .val (.int x2), .val (.int x3), .val (.int x4), .val (.long dl), .second, .val (.int ui1), .val (.int li1), .val (.int li2), .val (.int ui2), .val (.int uc1), .val (.int lc2), .val (.int lc1), .val (.int uc2), .val (.long w1b), .second, .val (.long w2b), .second, .val (.long up1), .second, .val (.long lo1), .second, .val (.long lo2), .second, .val (.long up2), .second, .val (.double (18442240474082181120 : UInt64)), .second, .val (.double (9218868437227405312 : UInt64)), .second, .unset, .unset, .unset, .unset, .unset, .unset, .unset, .unset, .unset, .unset, .unset, .unset, .unset, .unset, .unset] [(.double lod1)])) by
    refine g_if X49 hx (pcY := 243) (pcN := 238) (hb hby at_235) (by decide) (by decide) rfl (fun hc235 => ?_) (fun hc235 => ?_)
    · replace hc235 : li1 = 0 := hc235
      refine g_lload X49 hx (pc' := 245) rfl (hb hby at_243) rfl ?_
      refine g_l2d X49 hx (pc' := 246) rfl (hb hby at_245) ?_
      exact J235 _ (by rw [if_pos hc235])
    · replace hc235 : ¬ li1 = 0 := hc235
      refine g_dload X49 hx (pc' := 240) rfl (hb hby at_238) rfl ?_
      refine g_goto X49 hx (pc' := 246) (hb hby at_240) (by decide) (by decide) ?_
      exact J235 _ (by rw [if_neg hc235])
  intro lod1 h_lod1
  refine g_dstore X49 hx (pc' := 248) rfl (hb hby at_246) (l' := #[.val (.int x0), .val (.int x1), .val (.int x2), .val (.int x3), .val (.int x4), .val (.long dl), .second, .val (.int ui1), .val (.int li1), .val (.int li2), .val (.int ui2), .val (.int uc1), .val (.int lc2), .val (.int lc1), .val (.int uc2), .val (.long w1b), .second, .val (.long w2b), .second, .val (.long up1), .second, .val (.long lo1), .second, .val (.long lo2), .second, .val (.long up2), .second, .val (.double (18442240474082181120 : UInt64)), .second, .val (.double (9218868437227405312 : UInt64)), .second, .val (.double lod1), .second, .unset, .unset, .unset, .unset, .unset, .unset, .unset, .unset, .unset, .unset, .unset, .unset, .unset]) rfl ?_
  refine g_iload X49 hx (pc' := 250) rfl (hb hby at_248) rfl ?_
  suffices J250 : ∀ (upd1 : UInt64), (upd1 = (if ui1 = 0 then (FP.l2d up1) else (9218868437227405312 : UInt64))) → Go p e below s n0 (fun v h => v = some (.int 1)) room_1.cells room_1.slots (T49.setTop (mkF m 261 #[.val (.int x0), .val (.int x1), .val (.int x2), .val (.int x3), .val (.int x4), .val (.long dl), .second, .val (.int ui1), .val (.int li1), .val (.int li2), .val (.int ui2), .val (.int uc1), .val (.int lc2), .val (.int lc1), .val (.int uc2), .val (.long w1b), .second, .val (.long w2b), .second, .val (.long up1), .second, .val (.long lo1), .second, .val (.long lo2), .second, .val (.long up2), .second, .val (.double (18442240474082181120 : UInt64)), .second, .val (.double (9218868437227405312 : UInt64)), .second, .val (.double lod1), .second, .unset, .unset, .unset, .unset, .unset, .unset, .unset, .unset, .unset, .unset, .unset, .unset, .unset] [(.double upd1)])) by
    refine g_if X49 hx (pcY := 258) (pcN := 253) (hb hby at_250) (by decide) (by decide) rfl (fun hc250 => ?_) (fun hc250 => ?_)
    · replace hc250 : ui1 = 0 := hc250
      refine g_lload X49 hx (pc' := 260) rfl (hb hby at_258) rfl ?_
      refine g_l2d X49 hx (pc' := 261) rfl (hb hby at_260) ?_
      exact J250 _ (by rw [if_pos hc250])
    · replace hc250 : ¬ ui1 = 0 := hc250
      refine g_dload X49 hx (pc' := 255) rfl (hb hby at_253) rfl ?_
      refine g_goto X49 hx (pc' := 261) (hb hby at_255) (by decide) (by decide) ?_
      exact J250 _ (by rw [if_neg hc250])
  intro upd1 h_upd1
  refine g_dstore X49 hx (pc' := 263) rfl (hb hby at_261) (l' := #[.val (.int x0), .val (.int x1), .val (.int x2), .val (.int x3), .val (.int x4), .val (.long dl), .second, .val (.int ui1), .val (.int li1), .val (.int li2), .val (.int ui2), .val (.int uc1), .val (.int lc2), .val (.int lc1), .val (.int uc2), .val (.long w1b), .second, .val (.long w2b), .second, .val (.long up1), .second, .val (.long lo1), .second, .val (.long lo2), .second, .val (.long up2), .second, .val (.double (18442240474082181120 : UInt64)), .second, .val (.double (9218868437227405312 : UInt64)), .second, .val (.double lod1), .second, .val (.double upd1), .second, .unset, .unset, .unset, .unset, .unset, .unset, .unset, .unset, .unset, .unset, .unset]) rfl ?_
  refine g_iload X49 hx (pc' := 265) rfl (hb hby at_263) rfl ?_
  suffices J265 : ∀ (lod2 : UInt64), (lod2 = (if li2 = 0 then (FP.l2d lo2) else (18442240474082181120 : UInt64))) → Go p e below s n0 (fun v h => v = some (.int 1)) room_1.cells room_1.slots (T49.setTop (mkF m 276 #[.val (.int x0), .val (.int x1), .val (.int x2), .val (.int x3), .val (.int x4), .val (.long dl), .second, .val (.int ui1), .val (.int li1), .val (.int li2), .val (.int ui2), .val (.int uc1), .val (.int lc2), .val (.int lc1), .val (.int uc2), .val (.long w1b), .second, .val (.long w2b), .second, .val (.long up1), .second, .val (.long lo1), .second, .val (.long lo2), .second, .val (.long up2), .second, .val (.double (18442240474082181120 : UInt64)), .second, .val (.double (9218868437227405312 : UInt64)), .second, .val (.double lod1), .second, .val (.double upd1), .second, .unset, .unset, .unset, .unset, .unset, .unset, .unset, .unset, .unset, .unset, .unset] [(.double lod2)])) by
    refine g_if X49 hx (pcY := 273) (pcN := 268) (hb hby at_265) (by decide) (by decide) rfl (fun hc265 => ?_) (fun hc265 => ?_)
    · replace hc265 : li2 = 0 := hc265
      refine g_lload X49 hx (pc' := 275) rfl (hb hby at_273) rfl ?_
      refine g_l2d X49 hx (pc' := 276) rfl (hb hby at_275) ?_
      exact J265 _ (by rw [if_pos hc265])
    · replace hc265 : ¬ li2 = 0 := hc265
      refine g_dload X49 hx (pc' := 270) rfl (hb hby at_268) rfl ?_
      refine g_goto X49 hx (pc' := 276) (hb hby at_270) (by decide) (by decide) ?_
      exact J265 _ (by rw [if_neg hc265])
  intro lod2 h_lod2
  refine g_dstore X49 hx (pc' := 278) rfl (hb hby at_276) (l' := #[.val (.int x0), .val (.int x1), .val (.int x2), .val (.int x3), .val (.int x4), .val (.long dl), .second, .val (.int ui1), .val (.int li1), .val (.int li2), .val (.int ui2), .val (.int uc1), .val (.int lc2), .val (.int lc1), .val (.int uc2), .val (.long w1b), .second, .val (.long w2b), .second, .val (.long up1), .second, .val (.long lo1), .second, .val (.long lo2), .second, .val (.long up2), .second, .val (.double (18442240474082181120 : UInt64)), .second, .val (.double (9218868437227405312 : UInt64)), .second, .val (.double lod1), .second, .val (.double upd1), .second, .val (.double lod2), .second, .unset, .unset, .unset, .unset, .unset, .unset, .unset, .unset, .unset]) rfl ?_
  refine g_iload X49 hx (pc' := 280) rfl (hb hby at_278) rfl ?_
  suffices J280 : ∀ (upd2 : UInt64), (upd2 = (if ui2 = 0 then (FP.l2d up2) else (9218868437227405312 : UInt64))) → Go p e below s n0 (fun v h => v = some (.int 1)) room_1.cells room_1.slots (T49.setTop (mkF m 291 #[.val (.int x0), .val (.int x1), .val (.int x2), .val (.int x3), .val (.int x4), .val (.long dl), .second, .val (.int ui1), .val (.int li1), .val (.int li2), .val (.int ui2), .val (.int uc1), .val (.int lc2), .val (.int lc1), .val (.int uc2), .val (.long w1b), .second, .val (.long w2b), .second, .val (.long up1), .second, .val (.long lo1), .second, .val (.long lo2), .second, .val (.long up2), .second, .val (.double (18442240474082181120 : UInt64)), .second, .val (.double (9218868437227405312 : UInt64)), .second, .val (.double lod1), .second, .val (.double upd1), .second, .val (.double lod2), .second, .unset, .unset, .unset, .unset, .unset, .unset, .unset, .unset, .unset] [(.double upd2)])) by
    refine g_if X49 hx (pcY := 288) (pcN := 283) (hb hby at_280) (by decide) (by decide) rfl (fun hc280 => ?_) (fun hc280 => ?_)
    · replace hc280 : ui2 = 0 := hc280
      refine g_lload X49 hx (pc' := 290) rfl (hb hby at_288) rfl ?_
      refine g_l2d X49 hx (pc' := 291) rfl (hb hby at_290) ?_
      exact J280 _ (by rw [if_pos hc280])
    · replace hc280 : ¬ ui2 = 0 := hc280
      refine g_dload X49 hx (pc' := 285) rfl (hb hby at_283) rfl ?_
      refine g_goto X49 hx (pc' := 291) (hb hby at_285) (by decide) (by decide) ?_
      exact J280 _ (by rw [if_neg hc280])
  intro upd2 h_upd2
  refine g_dstore X49 hx (pc' := 293) rfl (hb hby at_291) (l' := #[.val (.int x0), .val (.int x1), .val (.int x2), .val (.int x3), .val (.int x4), .val (.long dl), .second, .val (.int ui1), .val (.int li1), .val (.int li2), .val (.int ui2), .val (.int uc1), .val (.int lc2), .val (.int lc1), .val (.int uc2), .val (.long w1b), .second, .val (.long w2b), .second, .val (.long up1), .second, .val (.long lo1), .second, .val (.long lo2), .second, .val (.long up2), .second, .val (.double (18442240474082181120 : UInt64)), .second, .val (.double (9218868437227405312 : UInt64)), .second, .val (.double lod1), .second, .val (.double upd1), .second, .val (.double lod2), .second, .val (.double upd2), .second, .unset, .unset, .unset, .unset, .unset, .unset, .unset]) rfl ?_
  have pl1 := own_inc h_lc1
  have pu1 := own_inc h_uc1
  have pl2 := own_inc h_lc2
  have pu2 := own_inc h_uc2
  have bw1 := own_w (h_w1 ▸ own_w3 x3) h_w1b
  have bw2 := own_w (h_w2 ▸ own_w3 x4) h_w2b
  have rg := own_rng ⟨bw1.1, bw1.2.1⟩ ⟨bw2.1, bw2.2.1⟩ h_dl h_up1 h_lo1 h_lo2 h_up2
  have hl1 := own_sel NEG rg.2.1 h_lod1
  have hu1 := own_sel POS rg.1 h_upd1
  have hl2 := own_sel NEG rg.2.2.1 h_lod2
  have hu2 := own_sel POS rg.2.2.2.1 h_upd2
  have ho1 := own_oh (li := lc1) (ui := uc1) hl1 hu1 (by omega) (fun q => bw1.2.2 (by omega))
  have ho2 := own_oh (li := lc2) (ui := uc2) hl2 hu2 (by omega) (fun q => bw2.2.2 (by omega))
  obtain ⟨o, ho, po1, po2, po3⟩ := own_o hl2 hu1
  refine g_newO X49 hx hZ hown (hw _ (List.mem_of_getElem? (i := 17) rfl)) (hw _ (List.mem_of_getElem? (i := 18) rfl)) (hw _ (List.mem_of_getElem? (i := 1) rfl)) (pc' := 296) rfl (hb hby at_293) (by decide) (by decide) (fun T50 h50 a50 ha50 X50 E50 A50 D50 => ?_)
  have f51 := S_ALL.ext E50
  have f52 := E_aa.ext E50
  have f53 := F_lo.ext E50
  have f54 := F_up.ext E50
  have G_a50 : n0 ≤ a50 := by rw [ha50]; exact hn0
  have Zs50 : n0 ≤ h50.size := Nat.le_trans hn0 E50.1
  have F50_lower : Fld Z h50 a50 "com/example/measured_traces/measuredtraces/Interval" "lower" "D" (.double (0 : UInt64)) := D50 (Or.inr (hw _ (List.mem_of_getElem? (i := 9) rfl))) (ty := .double) (by decide)
  have F50_upper : Fld Z h50 a50 "com/example/measured_traces/measuredtraces/Interval" "upper" "D" (.double (0 : UInt64)) := D50 (Or.inr (hw _ (List.mem_of_getElem? (i := 16) rfl))) (ty := .double) (by decide)
  have F50_lowerIncluded : Fld Z h50 a50 "com/example/measured_traces/measuredtraces/Interval" "lowerIncluded" "Z" (.int (0 : Int32)) := D50 (Or.inr (hw _ (List.mem_of_getElem? (i := 34) rfl))) (ty := .boolean) (by decide)
  have F50_upperIncluded : Fld Z h50 a50 "com/example/measured_traces/measuredtraces/Interval" "upperIncluded" "Z" (.int (0 : Int32)) := D50 (Or.inr (hw _ (List.mem_of_getElem? (i := 36) rfl))) (ty := .boolean) (by decide)
  refine g_dup X50 hx (pc' := 297) rfl (hb hby at_296) rfl ?_
  refine g_dload X50 hx (pc' := 299) rfl (hb hby at_297) rfl ?_
  refine g_iload X50 hx (pc' := 301) rfl (hb hby at_299) rfl ?_
  refine g_dload X50 hx (pc' := 303) rfl (hb hby at_301) rfl ?_
  refine g_iload X50 hx (pc' := 305) rfl (hb hby at_303) rfl ?_
  refine g_callI X50 hx hZ hown rfl (hw _ (List.mem_of_getElem? (i := 19) rfl)) (hw _ (List.mem_of_getElem? (i := 20) rfl)) (hw _ (List.mem_of_getElem? (i := 1) rfl)) (hw _ (List.mem_of_getElem? (i := 21) rfl)) (by decide) (a := a50) (rm3 l Z a0 hw [] n0 a50 lod1 lc1 upd1 uc1 h50 Zs50 A50 G_a50 F50_lower F50_lowerIncluded F50_upper F50_upperIncluded pl1.1 pu1.1 (fun q => by rcases hl1 with u | u; exact dint_dfin u.2; exact absurd (pl1.2 q) u.1) (fun q => by rcases hu1 with u | u; exact dint_dfin u.2; exact absurd (pu1.2 q) u.1) ho1) pd_4 rfl rfl (by rw [hml]; rfl) (pc' := 308) rfl (hb hby at_305) (argsL := [(.double lod1), (.int lc1), (.double upd1), (.int uc1)]) (rest := [(.ref a50)]) rfl (W := 1) (Nat.le_of_eq rfl) (by decide) (by decide) (by decide) (by decide) (fun v55 T55 h55 X55 hQ55 => ?_)
  obtain ⟨rfl, K55, E55, FA55, FB55, FC55, FD55⟩ := hQ55
  have zs55 : n0 ≤ h55.size := Nat.le_trans Zs50 K55.1
  show Go p e below s n0 _ _ _ (T55.setTop (mkF m 308 #[.val (.int x0), .val (.int x1), .val (.int x2), .val (.int x3), .val (.int x4), .val (.long dl), .second, .val (.int ui1), .val (.int li1), .val (.int li2), .val (.int ui2), .val (.int uc1), .val (.int lc2), .val (.int lc1), .val (.int uc2), .val (.long w1b), .second, .val (.long w2b), .second, .val (.long up1), .second, .val (.long lo1), .second, .val (.long lo2), .second, .val (.long up2), .second, .val (.double (18442240474082181120 : UInt64)), .second, .val (.double (9218868437227405312 : UInt64)), .second, .val (.double lod1), .second, .val (.double upd1), .second, .val (.double lod2), .second, .val (.double upd2), .second, .unset, .unset, .unset, .unset, .unset, .unset, .unset] [(.ref a50)]))
  refine g_astore X55 hx (pc' := 310) rfl (hb hby at_308) rfl (l' := #[.val (.int x0), .val (.int x1), .val (.int x2), .val (.int x3), .val (.int x4), .val (.long dl), .second, .val (.int ui1), .val (.int li1), .val (.int li2), .val (.int ui2), .val (.int uc1), .val (.int lc2), .val (.int lc1), .val (.int uc2), .val (.long w1b), .second, .val (.long w2b), .second, .val (.long up1), .second, .val (.long lo1), .second, .val (.long lo2), .second, .val (.long up2), .second, .val (.double (18442240474082181120 : UInt64)), .second, .val (.double (9218868437227405312 : UInt64)), .second, .val (.double lod1), .second, .val (.double upd1), .second, .val (.double lod2), .second, .val (.double upd2), .second, .val (.ref a50), .unset, .unset, .unset, .unset, .unset, .unset]) rfl ?_
  have eba56 := E55.lt
  refine g_newO X55 hx hZ hown (hw _ (List.mem_of_getElem? (i := 17) rfl)) (hw _ (List.mem_of_getElem? (i := 18) rfl)) (hw _ (List.mem_of_getElem? (i := 1) rfl)) (pc' := 313) rfl (hb hby at_310) (by decide) (by decide) (fun T56 h56 a56 ha56 X56 E56 A56 D56 => ?_)
  have f57 := E55.ext E56
  have f58 := FA55.ext E56
  have f59 := FB55.ext E56
  have f60 := FC55.ext E56
  have f61 := FD55.ext E56
  have G_a56 : n0 ≤ a56 := by rw [ha56]; exact zs55
  have Zs56 : n0 ≤ h56.size := Nat.le_trans zs55 E56.1
  have F56_lower : Fld Z h56 a56 "com/example/measured_traces/measuredtraces/Interval" "lower" "D" (.double (0 : UInt64)) := D56 (Or.inr (hw _ (List.mem_of_getElem? (i := 9) rfl))) (ty := .double) (by decide)
  have F56_upper : Fld Z h56 a56 "com/example/measured_traces/measuredtraces/Interval" "upper" "D" (.double (0 : UInt64)) := D56 (Or.inr (hw _ (List.mem_of_getElem? (i := 16) rfl))) (ty := .double) (by decide)
  have F56_lowerIncluded : Fld Z h56 a56 "com/example/measured_traces/measuredtraces/Interval" "lowerIncluded" "Z" (.int (0 : Int32)) := D56 (Or.inr (hw _ (List.mem_of_getElem? (i := 34) rfl))) (ty := .boolean) (by decide)
  have F56_upperIncluded : Fld Z h56 a56 "com/example/measured_traces/measuredtraces/Interval" "upperIncluded" "Z" (.int (0 : Int32)) := D56 (Or.inr (hw _ (List.mem_of_getElem? (i := 36) rfl))) (ty := .boolean) (by decide)
  refine g_dup X56 hx (pc' := 314) rfl (hb hby at_313) rfl ?_
  refine g_dload X56 hx (pc' := 316) rfl (hb hby at_314) rfl ?_
  refine g_iload X56 hx (pc' := 318) rfl (hb hby at_316) rfl ?_
  refine g_dload X56 hx (pc' := 320) rfl (hb hby at_318) rfl ?_
  refine g_iload X56 hx (pc' := 322) rfl (hb hby at_320) rfl ?_
  refine g_callI X56 hx hZ hown rfl (hw _ (List.mem_of_getElem? (i := 19) rfl)) (hw _ (List.mem_of_getElem? (i := 20) rfl)) (hw _ (List.mem_of_getElem? (i := 1) rfl)) (hw _ (List.mem_of_getElem? (i := 21) rfl)) (by decide) (a := a56) (rm3 l Z a0 hw [] n0 a56 lod2 lc2 upd2 uc2 h56 Zs56 A56 G_a56 F56_lower F56_lowerIncluded F56_upper F56_upperIncluded pl2.1 pu2.1 (fun q => by rcases hl2 with u | u; exact dint_dfin u.2; exact absurd (pl2.2 q) u.1) (fun q => by rcases hu2 with u | u; exact dint_dfin u.2; exact absurd (pu2.2 q) u.1) ho2) pd_4 rfl rfl (by rw [hml]; rfl) (pc' := 325) rfl (hb hby at_322) (argsL := [(.double lod2), (.int lc2), (.double upd2), (.int uc2)]) (rest := [(.ref a56)]) rfl (W := 1) (Nat.le_of_eq rfl) (by decide) (by decide) (by decide) (by decide) (fun v62 T62 h62 X62 hQ62 => ?_)
  obtain ⟨rfl, K62, E62, FA62, FB62, FC62, FD62⟩ := hQ62
  have zs62 : n0 ≤ h62.size := Nat.le_trans Zs56 K62.1
  have ne62 : a50 ≠ a56 := by rw [ha56]; exact Nat.ne_of_lt eba56
  have fk62_upper := f60.keep K62 (ninS ne62 nin0)
  have fk62_upperIncluded := f61.keep K62 (ninS ne62 nin0)
  show Go p e below s n0 _ _ _ (T62.setTop (mkF m 325 #[.val (.int x0), .val (.int x1), .val (.int x2), .val (.int x3), .val (.int x4), .val (.long dl), .second, .val (.int ui1), .val (.int li1), .val (.int li2), .val (.int ui2), .val (.int uc1), .val (.int lc2), .val (.int lc1), .val (.int uc2), .val (.long w1b), .second, .val (.long w2b), .second, .val (.long up1), .second, .val (.long lo1), .second, .val (.long lo2), .second, .val (.long up2), .second, .val (.double (18442240474082181120 : UInt64)), .second, .val (.double (9218868437227405312 : UInt64)), .second, .val (.double lod1), .second, .val (.double upd1), .second, .val (.double lod2), .second, .val (.double upd2), .second, .val (.ref a50), .unset, .unset, .unset, .unset, .unset, .unset] [(.ref a56)]))
  refine g_astore X62 hx (pc' := 327) rfl (hb hby at_325) rfl (l' := #[.val (.int x0), .val (.int x1), .val (.int x2), .val (.int x3), .val (.int x4), .val (.long dl), .second, .val (.int ui1), .val (.int li1), .val (.int li2), .val (.int ui2), .val (.int uc1), .val (.int lc2), .val (.int lc1), .val (.int uc2), .val (.long w1b), .second, .val (.long w2b), .second, .val (.long up1), .second, .val (.long lo1), .second, .val (.long lo2), .second, .val (.long up2), .second, .val (.double (18442240474082181120 : UInt64)), .second, .val (.double (9218868437227405312 : UInt64)), .second, .val (.double lod1), .second, .val (.double upd1), .second, .val (.double lod2), .second, .val (.double upd2), .second, .val (.ref a50), .val (.ref a56), .unset, .unset, .unset, .unset, .unset]) rfl ?_
  refine g_iload X62 hx (pc' := 329) rfl (hb hby at_327) rfl ?_
  refine g_if X62 hx (pcY := 337) (pcN := 332) (hb hby at_329) (by decide) (by decide) rfl (fun kU => ?_) (fun kU => ?_)
  · replace kU : ¬ ui1 = 0 := kU
    refine g_iconst X62 hx (pc' := 338) (z := (0 : Int32)) rfl (hb hby at_337) rfl ?_
    refine g_istore X62 hx (pc' := 340) rfl (hb hby at_338) (l' := #[.val (.int x0), .val (.int x1), .val (.int x2), .val (.int x3), .val (.int x4), .val (.long dl), .second, .val (.int ui1), .val (.int li1), .val (.int li2), .val (.int ui2), .val (.int uc1), .val (.int lc2), .val (.int lc1), .val (.int uc2), .val (.long w1b), .second, .val (.long w2b), .second, .val (.long up1), .second, .val (.long lo1), .second, .val (.long lo2), .second, .val (.long up2), .second, .val (.double (18442240474082181120 : UInt64)), .second, .val (.double (9218868437227405312 : UInt64)), .second, .val (.double lod1), .second, .val (.double upd1), .second, .val (.double lod2), .second, .val (.double upd2), .second, .val (.ref a50), .val (.ref a56), .val (.int (0 : Int32)), .unset, .unset, .unset, .unset]) rfl ?_
    refine g_goto X62 hx (pc' := 398) (hb hby at_340) (by decide) (by decide) ?_
    refine g_aload X62 hx (pc' := 400) rfl (hb hby at_398) rfl rfl ?_
    refine g_aload X62 hx (pc' := 402) rfl (hb hby at_400) rfl rfl ?_
    refine g_callS X62 hx hZ hown (hw _ (List.mem_of_getElem? (i := 47) rfl)) (hw _ (List.mem_of_getElem? (i := 48) rfl)) (hw _ (List.mem_of_getElem? (i := 1) rfl)) (hw _ (List.mem_of_getElem? (i := 49) rfl)) (by decide) (rm9 l Z a0 hw [] n0 a50 a56 (nz upd1) (nz lod2) uc1 lc2 o h62 zs62 fk62_upper fk62_upperIncluded FA62 FB62 ho) pd_5 rfl rfl (by rw [hml]; rfl) (pc' := 405) rfl (hb hby at_402) (argsL := [(.ref a50), (.ref a56)]) (rest := []) rfl (W := 0) (Nat.le_of_eq rfl) (by decide) (by decide) (by decide) (by decide) (fun v63 T63 h63 X63 hQ63 => ?_)
    obtain ⟨rfl, he63⟩ := hQ63
    rw [he63] at X63
    show Go p e below s n0 _ _ _ (T63.setTop (mkF m 405 #[.val (.int x0), .val (.int x1), .val (.int x2), .val (.int x3), .val (.int x4), .val (.long dl), .second, .val (.int ui1), .val (.int li1), .val (.int li2), .val (.int ui2), .val (.int uc1), .val (.int lc2), .val (.int lc1), .val (.int uc2), .val (.long w1b), .second, .val (.long w2b), .second, .val (.long up1), .second, .val (.long lo1), .second, .val (.long lo2), .second, .val (.long up2), .second, .val (.double (18442240474082181120 : UInt64)), .second, .val (.double (9218868437227405312 : UInt64)), .second, .val (.double lod1), .second, .val (.double upd1), .second, .val (.double lod2), .second, .val (.double upd2), .second, .val (.ref a50), .val (.ref a56), .val (.int (0 : Int32)), .unset, .unset, .unset, .unset] [(.int (rB o uc1 lc2))]))
    refine g_iload X63 hx (pc' := 407) rfl (hb hby at_405) rfl ?_
    refine g_icmpN X63 hx (pcN := 410) (hb hby at_407) rfl (show ¬ (¬ (rB o uc1 lc2) = (0 : Int32)) from not_not_intro (own_gt (po1 kU))) ?_
    refine g_iconst X63 hx (pc' := 411) (z := (1 : Int32)) rfl (hb hby at_410) rfl ?_
    refine g_goto X63 hx (pc' := 415) (hb hby at_411) (by decide) (by decide) ?_
    exact g_retZ X63 hx hlk hret (by first | exact Or.inl rfl | exact Or.inr rfl) (hb hby at_415) (by decide) (by decide) (rfl)
  · replace kU : ui1 = 0 := Classical.not_not.mp kU
    refine g_iload X62 hx (pc' := 334) rfl (hb hby at_332) rfl ?_
    refine g_if X62 hx (pcY := 343) (pcN := 337) (hb hby at_334) (by decide) (by decide) rfl (fun kL => ?_) (fun kL => ?_)
    · replace kL : li2 = 0 := kL
      refine g_ldc2L X62 hx hZ hown (hw _ (List.mem_of_getElem? (i := 46) rfl)) (pc' := 346) (v := (2 : Int64)) rfl (hb hby at_343) ?_
      refine g_lload X62 hx (pc' := 348) rfl (hb hby at_346) rfl ?_
      refine g_lmul X62 hx (pc' := 349) rfl (hb hby at_348) ?_
      refine g_iload X62 hx (pc' := 351) rfl (hb hby at_349) rfl ?_
      suffices J351 : ∀ (kA : Int64), (kA = (if uc1 = 0 then (1 : Int64) else (0 : Int64))) → Go p e below s n0 (fun v h => v = some (.int 1)) room_1.cells room_1.slots (T62.setTop (mkF m 359 #[.val (.int x0), .val (.int x1), .val (.int x2), .val (.int x3), .val (.int x4), .val (.long dl), .second, .val (.int ui1), .val (.int li1), .val (.int li2), .val (.int ui2), .val (.int uc1), .val (.int lc2), .val (.int lc1), .val (.int uc2), .val (.long w1b), .second, .val (.long w2b), .second, .val (.long up1), .second, .val (.long lo1), .second, .val (.long lo2), .second, .val (.long up2), .second, .val (.double (18442240474082181120 : UInt64)), .second, .val (.double (9218868437227405312 : UInt64)), .second, .val (.double lod1), .second, .val (.double upd1), .second, .val (.double lod2), .second, .val (.double upd2), .second, .val (.ref a50), .val (.ref a56), .unset, .unset, .unset, .unset, .unset] [(.long kA), (.long ((2 : Int64) * up1))])) by
        refine g_if X62 hx (pcY := 358) (pcN := 354) (hb hby at_351) (by decide) (by decide) rfl (fun hc351 => ?_) (fun hc351 => ?_)
        · replace hc351 : uc1 = 0 := hc351
          refine g_lconst X62 hx (pc' := 359) (z := (1 : Int64)) rfl (hb hby at_358) rfl ?_
          exact J351 _ (by rw [if_pos hc351])
        · replace hc351 : ¬ uc1 = 0 := hc351
          refine g_lconst X62 hx (pc' := 355) (z := (0 : Int64)) rfl (hb hby at_354) rfl ?_
          refine g_goto X62 hx (pc' := 359) (hb hby at_355) (by decide) (by decide) ?_
          exact J351 _ (by rw [if_neg hc351])
      intro kA h_kA
      refine g_lsub X62 hx (pc' := 360) rfl (hb hby at_359) ?_
      refine g_absL (fun tA h_tA => ?_)
      refine g_lstore X62 hx (pc' := 362) rfl (hb hby at_360) (l' := #[.val (.int x0), .val (.int x1), .val (.int x2), .val (.int x3), .val (.int x4), .val (.long dl), .second, .val (.int ui1), .val (.int li1), .val (.int li2), .val (.int ui2), .val (.int uc1), .val (.int lc2), .val (.int lc1), .val (.int uc2), .val (.long w1b), .second, .val (.long w2b), .second, .val (.long up1), .second, .val (.long lo1), .second, .val (.long lo2), .second, .val (.long up2), .second, .val (.double (18442240474082181120 : UInt64)), .second, .val (.double (9218868437227405312 : UInt64)), .second, .val (.double lod1), .second, .val (.double upd1), .second, .val (.double lod2), .second, .val (.double upd2), .second, .val (.ref a50), .val (.ref a56), .unset, .val (.long tA), .second, .unset, .unset]) rfl ?_
      refine g_ldc2L X62 hx hZ hown (hw _ (List.mem_of_getElem? (i := 46) rfl)) (pc' := 365) (v := (2 : Int64)) rfl (hb hby at_362) ?_
      refine g_lload X62 hx (pc' := 367) rfl (hb hby at_365) rfl ?_
      refine g_lmul X62 hx (pc' := 368) rfl (hb hby at_367) ?_
      refine g_iload X62 hx (pc' := 370) rfl (hb hby at_368) rfl ?_
      suffices J370 : ∀ (kB : Int64), (kB = (if lc2 = 0 then (1 : Int64) else (0 : Int64))) → Go p e below s n0 (fun v h => v = some (.int 1)) room_1.cells room_1.slots (T62.setTop (mkF m 378 #[.val (.int x0), .val (.int x1), .val (.int x2), .val (.int x3), .val (.int x4), .val (.long dl), .second, .val (.int ui1), .val (.int li1), .val (.int li2), .val (.int ui2), .val (.int uc1), .val (.int lc2), .val (.int lc1), .val (.int uc2), .val (.long w1b), .second, .val (.long w2b), .second, .val (.long up1), .second, .val (.long lo1), .second, .val (.long lo2), .second, .val (.long up2), .second, .val (.double (18442240474082181120 : UInt64)), .second, .val (.double (9218868437227405312 : UInt64)), .second, .val (.double lod1), .second, .val (.double upd1), .second, .val (.double lod2), .second, .val (.double upd2), .second, .val (.ref a50), .val (.ref a56), .unset, .val (.long tA), .second, .unset, .unset] [(.long kB), (.long ((2 : Int64) * lo2))])) by
        refine g_if X62 hx (pcY := 377) (pcN := 373) (hb hby at_370) (by decide) (by decide) rfl (fun hc370 => ?_) (fun hc370 => ?_)
        · replace hc370 : lc2 = 0 := hc370
          refine g_lconst X62 hx (pc' := 378) (z := (1 : Int64)) rfl (hb hby at_377) rfl ?_
          exact J370 _ (by rw [if_pos hc370])
        · replace hc370 : ¬ lc2 = 0 := hc370
          refine g_lconst X62 hx (pc' := 374) (z := (0 : Int64)) rfl (hb hby at_373) rfl ?_
          refine g_goto X62 hx (pc' := 378) (hb hby at_374) (by decide) (by decide) ?_
          exact J370 _ (by rw [if_neg hc370])
      intro kB h_kB
      refine g_ladd X62 hx (pc' := 379) rfl (hb hby at_378) ?_
      refine g_absL (fun tB h_tB => ?_)
      refine g_lstore X62 hx (pc' := 381) rfl (hb hby at_379) (l' := #[.val (.int x0), .val (.int x1), .val (.int x2), .val (.int x3), .val (.int x4), .val (.long dl), .second, .val (.int ui1), .val (.int li1), .val (.int li2), .val (.int ui2), .val (.int uc1), .val (.int lc2), .val (.int lc1), .val (.int uc2), .val (.long w1b), .second, .val (.long w2b), .second, .val (.long up1), .second, .val (.long lo1), .second, .val (.long lo2), .second, .val (.long up2), .second, .val (.double (18442240474082181120 : UInt64)), .second, .val (.double (9218868437227405312 : UInt64)), .second, .val (.double lod1), .second, .val (.double upd1), .second, .val (.double lod2), .second, .val (.double upd2), .second, .val (.ref a50), .val (.ref a56), .unset, .val (.long tA), .second, .val (.long tB), .second]) rfl ?_
      refine g_lload X62 hx (pc' := 383) rfl (hb hby at_381) rfl ?_
      refine g_lconst X62 hx (pc' := 384) (z := (1 : Int64)) rfl (hb hby at_383) rfl ?_
      refine g_ladd X62 hx (pc' := 385) rfl (hb hby at_384) ?_
      refine g_lload X62 hx (pc' := 387) rfl (hb hby at_385) rfl ?_
      refine g_lcmp X62 hx (pc' := 388) rfl (hb hby at_387) ?_
      suffices J388 : ∀ (ex : Int32), (ex = (if ¬ (lcmpW (tA + (1 : Int64)) tB) < 0 then (0 : Int32) else (1 : Int32))) → Go p e below s n0 (fun v h => v = some (.int 1)) room_1.cells room_1.slots (T62.setTop (mkF m 396 #[.val (.int x0), .val (.int x1), .val (.int x2), .val (.int x3), .val (.int x4), .val (.long dl), .second, .val (.int ui1), .val (.int li1), .val (.int li2), .val (.int ui2), .val (.int uc1), .val (.int lc2), .val (.int lc1), .val (.int uc2), .val (.long w1b), .second, .val (.long w2b), .second, .val (.long up1), .second, .val (.long lo1), .second, .val (.long lo2), .second, .val (.long up2), .second, .val (.double (18442240474082181120 : UInt64)), .second, .val (.double (9218868437227405312 : UInt64)), .second, .val (.double lod1), .second, .val (.double upd1), .second, .val (.double lod2), .second, .val (.double upd2), .second, .val (.ref a50), .val (.ref a56), .unset, .val (.long tA), .second, .val (.long tB), .second] [(.int ex)])) by
        refine g_if X62 hx (pcY := 395) (pcN := 391) (hb hby at_388) (by decide) (by decide) rfl (fun hc388 => ?_) (fun hc388 => ?_)
        · replace hc388 : ¬ (lcmpW (tA + (1 : Int64)) tB) < 0 := hc388
          refine g_iconst X62 hx (pc' := 396) (z := (0 : Int32)) rfl (hb hby at_395) rfl ?_
          exact J388 _ (by rw [if_pos hc388])
        · replace hc388 : (lcmpW (tA + (1 : Int64)) tB) < 0 := Classical.not_not.mp hc388
          refine g_iconst X62 hx (pc' := 392) (z := (1 : Int32)) rfl (hb hby at_391) rfl ?_
          refine g_goto X62 hx (pc' := 396) (hb hby at_392) (by decide) (by decide) ?_
          exact J388 _ (by rw [if_neg (fun q => q hc388)])
      intro ex h_ex
      refine g_istore X62 hx (pc' := 398) rfl (hb hby at_396) (l' := #[.val (.int x0), .val (.int x1), .val (.int x2), .val (.int x3), .val (.int x4), .val (.long dl), .second, .val (.int ui1), .val (.int li1), .val (.int li2), .val (.int ui2), .val (.int uc1), .val (.int lc2), .val (.int lc1), .val (.int uc2), .val (.long w1b), .second, .val (.long w2b), .second, .val (.long up1), .second, .val (.long lo1), .second, .val (.long lo2), .second, .val (.long up2), .second, .val (.double (18442240474082181120 : UInt64)), .second, .val (.double (9218868437227405312 : UInt64)), .second, .val (.double lod1), .second, .val (.double upd1), .second, .val (.double lod2), .second, .val (.double upd2), .second, .val (.ref a50), .val (.ref a56), .val (.int ex), .val (.long tA), .second, .val (.long tB), .second]) rfl ?_
      refine g_aload X62 hx (pc' := 400) rfl (hb hby at_398) rfl rfl ?_
      refine g_aload X62 hx (pc' := 402) rfl (hb hby at_400) rfl rfl ?_
      refine g_callS X62 hx hZ hown (hw _ (List.mem_of_getElem? (i := 47) rfl)) (hw _ (List.mem_of_getElem? (i := 48) rfl)) (hw _ (List.mem_of_getElem? (i := 1) rfl)) (hw _ (List.mem_of_getElem? (i := 49) rfl)) (by decide) (rm9 l Z a0 hw [] n0 a50 a56 (nz upd1) (nz lod2) uc1 lc2 o h62 zs62 fk62_upper fk62_upperIncluded FA62 FB62 ho) pd_5 rfl rfl (by rw [hml]; rfl) (pc' := 405) rfl (hb hby at_402) (argsL := [(.ref a50), (.ref a56)]) (rest := []) rfl (W := 0) (Nat.le_of_eq rfl) (by decide) (by decide) (by decide) (by decide) (fun v64 T64 h64 X64 hQ64 => ?_)
      obtain ⟨rfl, he64⟩ := hQ64
      rw [he64] at X64
      show Go p e below s n0 _ _ _ (T64.setTop (mkF m 405 #[.val (.int x0), .val (.int x1), .val (.int x2), .val (.int x3), .val (.int x4), .val (.long dl), .second, .val (.int ui1), .val (.int li1), .val (.int li2), .val (.int ui2), .val (.int uc1), .val (.int lc2), .val (.int lc1), .val (.int uc2), .val (.long w1b), .second, .val (.long w2b), .second, .val (.long up1), .second, .val (.long lo1), .second, .val (.long lo2), .second, .val (.long up2), .second, .val (.double (18442240474082181120 : UInt64)), .second, .val (.double (9218868437227405312 : UInt64)), .second, .val (.double lod1), .second, .val (.double upd1), .second, .val (.double lod2), .second, .val (.double upd2), .second, .val (.ref a50), .val (.ref a56), .val (.int ex), .val (.long tA), .second, .val (.long tB), .second] [(.int (rB o uc1 lc2))]))
      refine g_iload X64 hx (pc' := 407) rfl (hb hby at_405) rfl ?_
      refine g_icmpN X64 hx (pcN := 410) (hb hby at_407) rfl (show ¬ (¬ (rB o uc1 lc2) = ex) from not_not_intro (own_fin rg.1 rg.2.2.1 (po3 kU kL) h_kA h_kB h_tA h_tB h_ex)) ?_
      refine g_iconst X64 hx (pc' := 411) (z := (1 : Int32)) rfl (hb hby at_410) rfl ?_
      refine g_goto X64 hx (pc' := 415) (hb hby at_411) (by decide) (by decide) ?_
      exact g_retZ X64 hx hlk hret (by first | exact Or.inl rfl | exact Or.inr rfl) (hb hby at_415) (by decide) (by decide) (rfl)
    · replace kL : ¬ li2 = 0 := kL
      refine g_iconst X62 hx (pc' := 338) (z := (0 : Int32)) rfl (hb hby at_337) rfl ?_
      refine g_istore X62 hx (pc' := 340) rfl (hb hby at_338) (l' := #[.val (.int x0), .val (.int x1), .val (.int x2), .val (.int x3), .val (.int x4), .val (.long dl), .second, .val (.int ui1), .val (.int li1), .val (.int li2), .val (.int ui2), .val (.int uc1), .val (.int lc2), .val (.int lc1), .val (.int uc2), .val (.long w1b), .second, .val (.long w2b), .second, .val (.long up1), .second, .val (.long lo1), .second, .val (.long lo2), .second, .val (.long up2), .second, .val (.double (18442240474082181120 : UInt64)), .second, .val (.double (9218868437227405312 : UInt64)), .second, .val (.double lod1), .second, .val (.double upd1), .second, .val (.double lod2), .second, .val (.double upd2), .second, .val (.ref a50), .val (.ref a56), .val (.int (0 : Int32)), .unset, .unset, .unset, .unset]) rfl ?_
      refine g_goto X62 hx (pc' := 398) (hb hby at_340) (by decide) (by decide) ?_
      refine g_aload X62 hx (pc' := 400) rfl (hb hby at_398) rfl rfl ?_
      refine g_aload X62 hx (pc' := 402) rfl (hb hby at_400) rfl rfl ?_
      refine g_callS X62 hx hZ hown (hw _ (List.mem_of_getElem? (i := 47) rfl)) (hw _ (List.mem_of_getElem? (i := 48) rfl)) (hw _ (List.mem_of_getElem? (i := 1) rfl)) (hw _ (List.mem_of_getElem? (i := 49) rfl)) (by decide) (rm9 l Z a0 hw [] n0 a50 a56 (nz upd1) (nz lod2) uc1 lc2 o h62 zs62 fk62_upper fk62_upperIncluded FA62 FB62 ho) pd_5 rfl rfl (by rw [hml]; rfl) (pc' := 405) rfl (hb hby at_402) (argsL := [(.ref a50), (.ref a56)]) (rest := []) rfl (W := 0) (Nat.le_of_eq rfl) (by decide) (by decide) (by decide) (by decide) (fun v65 T65 h65 X65 hQ65 => ?_)
      obtain ⟨rfl, he65⟩ := hQ65
      rw [he65] at X65
      show Go p e below s n0 _ _ _ (T65.setTop (mkF m 405 #[.val (.int x0), .val (.int x1), .val (.int x2), .val (.int x3), .val (.int x4), .val (.long dl), .second, .val (.int ui1), .val (.int li1), .val (.int li2), .val (.int ui2), .val (.int uc1), .val (.int lc2), .val (.int lc1), .val (.int uc2), .val (.long w1b), .second, .val (.long w2b), .second, .val (.long up1), .second, .val (.long lo1), .second, .val (.long lo2), .second, .val (.long up2), .second, .val (.double (18442240474082181120 : UInt64)), .second, .val (.double (9218868437227405312 : UInt64)), .second, .val (.double lod1), .second, .val (.double upd1), .second, .val (.double lod2), .second, .val (.double upd2), .second, .val (.ref a50), .val (.ref a56), .val (.int (0 : Int32)), .unset, .unset, .unset, .unset] [(.int (rB o uc1 lc2))]))
      refine g_iload X65 hx (pc' := 407) rfl (hb hby at_405) rfl ?_
      refine g_icmpN X65 hx (pcN := 410) (hb hby at_407) rfl (show ¬ (¬ (rB o uc1 lc2) = (0 : Int32)) from not_not_intro (own_gt (po2 kL))) ?_
      refine g_iconst X65 hx (pc' := 411) (z := (1 : Int32)) rfl (hb hby at_410) rfl ?_
      refine g_goto X65 hx (pc' := 415) (hb hby at_411) (by decide) (by decide) ?_
      exact g_retZ X65 hx hlk hret (by first | exact Or.inl rfl | exact Or.inr rfl) (hb hby at_415) (by decide) (by decide) (rfl)
set_option maxRecDepth 65536 in
set_option maxHeartbeats 40000000 in
theorem comes_1 {Post : Tables → Env → Array Value → State → Outcome → State → Prop} (hpost : ∀ tb e args s v u, (limb_1_1.after args s (.returned v) u = true ∧ limb_1_2.after args s (.returned v) u = true ∧ True) → FrameEnd s (.returned v) u (Jvm.fieldLocs frame_1_writes args s ++ Jvm.arrayLocs frame_1_arrays args s ++ Jvm.staticLocs frame_1_statics s) 16 128 → Post tb e args s (.returned v) u) :
    ArmFor flags0 classFile x code maxLocals ret World_1 tables_1 room_1 Calls_1 rest_1 Pre_1 Post := by
  intro l hfl _ _ p e ha hc hk s m args below hf hA hF happ hP
  obtain ⟨hcalls, hrest, hpre⟩ := hP
  obtain ⟨-, -, -, hnamed, -, -, -, hat⟩ := (Spec.applies_iff hf).mp happ
  obtain ⟨hg, hn⟩ := and_e (Cond.before_iff.mp (show (Jvm.Cond.and given_1 narrow_1).before args s = true from hpre))
  obtain ⟨hcount, hg0⟩ := and_e hg
  obtain ⟨ha0, hg1⟩ := and_e hg0
  obtain ⟨ha1, hg2⟩ := and_e hg1
  obtain ⟨ha2, hg3⟩ := and_e hg2
  obtain ⟨ha3, hg4⟩ := and_e hg3
  have ha4 := hg4
  obtain ⟨w0, w1, w2, w3, w4, rfl⟩ : ∃ w0 w1 w2 w3 w4 : Value, args = #[w0, w1, w2, w3, w4] := by
    have hs : args.size = 5 := by simpa [Cond.value, given_1] using hcount
    obtain ⟨L⟩ := args
    match L, hs with
    | [w0, w1, w2, w3, w4], _ => exact ⟨w0, w1, w2, w3, w4, rfl⟩
  have hw := fun d (hd : d ∈ tables_1) => atoms_spec (ws := Jvm.Cond.code x code maxLocals ret :: tables_1) hat d (List.mem_cons_of_mem _ hd)
  obtain ⟨i0, ei0⟩ := is_v ha0
  obtain rfl : w0 = (.int i0) := Option.some.inj ei0
  obtain ⟨i1, ei1⟩ := is_v ha1
  obtain rfl : w1 = (.int i1) := Option.some.inj ei1
  obtain ⟨i2, ei2⟩ := is_v ha2
  obtain rfl : w2 = (.int i2) := Option.some.inj ei2
  obtain ⟨i3, ei3⟩ := is_v ha3
  obtain rfl : w3 = (.int i3) := Option.some.inj ei3
  obtain ⟨i4, ei4⟩ := is_v ha4
  obtain rfl : w4 = (.int i4) := Option.some.inj ei4
  obtain ⟨hn1, hn23⟩ := and_e hn
  obtain ⟨hn2, hn3⟩ := and_e hn23
  obtain ⟨aa, ea⟩ := exa_v hn1
  have E_aa := Exa.start ea hn1
  have S_ALL := Sta.start ea (Or.inr ⟨hw _ (List.mem_of_getElem? (i := 1) rfl), hw _ (List.mem_of_getElem? (i := 2) rfl)⟩)
  have F_lo := own_fldv ea hn2
  have F_up := own_fldv ea hn3
  obtain ⟨n, o, h1, h2, h3, _, L, rfl, ⟨N, rfl⟩, hq⟩ := rm0 l s _ hw tables_1 s.heap.size i0 i1 i2 i3 i4 s.heap (Nat.le_refl _) aa S_ALL E_aa F_lo F_up p e ha hc hk s m _ below hf ((Spec.applies_iff_loose hf).mp happ).1 ⟨rfl, State.Warmed39.refl s, rfl⟩ trivial
  refine ⟨n, _, h1, h2, h3, hpost _ _ _ _ _ _ ⟨Cond.after_iff.mpr rfl, Cond.after_iff.mpr (eq_i res_at (Term.int_eval (1)) rfl), trivial⟩ ⟨hq.1, hq.2.1, (hq.2.2.sift fun y hy => Or.inr (N y hy)).mono (by decide) (by decide)⟩⟩
theorem main_1_1 : Claimed_1_1 := comes_1 fun _ _ _ _ _ _ h hF => ⟨h.1, hF⟩
theorem main_1_2 : Claimed_1_2 := comes_1 fun _ _ _ _ _ _ h hF => ⟨h.2.1, hF⟩
end Jvm.Pilot.@@N@@
-- WITNESS
namespace Jvm.Pilot.@@N@@
open Jvm Jvm.ClassFile Sem Op Lib Jvm.Free Jvm.Stand Jvm.Pilot.@@N@@.Jvm.D
/-! MADE BY PROGRAM (witnessworld.py) out of the Statement's table words and the real class files: 16 classes; the members and pool entries that the words name. The judged class is class 1, her method 1. -/
namespace start1
open Jvm.ClassFile
def u (s : String) : CpInfo := .utf8 (stringToUtf16 s)
/-- a pool by its gaps: so many unusable entries, then the entry; so many at the end -/
def gap : Nat → List CpInfo → List CpInfo
  | 0, r => r
  | n + 1, r => .unusable :: gap n r
def poolList (es : List (Nat × CpInfo)) (last : Nat) : List CpInfo := es.foldr (fun e r => gap e.1 (e.2 :: r)) (gap last [])
def pool (es : List (Nat × CpInfo)) (last : Nat) : Array CpInfo := ⟨poolList es last⟩
def fileOf (pool : Array CpInfo) (this : Nat) (attrs : Array Attribute := #[]) (ms : Array MethodInfo := #[]) (fl : Nat := 33) (sup : Nat := 0) (ifs : Array Nat := #[]) (fds : Array FieldInfo := #[]) : ClassFile where
  minorVersion := 0
  majorVersion := 65
  constantPool := pool
  accessFlags := fl
  thisClass := this
  superClass := sup
  interfaces := ifs
  fields := fds
  methods := ms
  attributes := attrs
def plain (name : String) (sup : Option ClassId) : Class where
  name := name
  kind := .ordinary
  loader := none
  accessFlags := 33
  super := sup
  interfaces := #[]
  cf := none
  fields := #[]
  methods := #[]
  instanceTypes := #[]
  staticTypes := #[]
  resolved := #[]
  callSites := []
  init := .initialized
  statics := none
  mirror := none

def pool0 : Array CpInfo := pool [(5, u "<init>"), (0, u "()V"), (1, .class_ 10), (1, u "java/lang/Object")] 113

def k0c0 : Code := { maxStack := 0, maxLocals := 1, code := object_method_1_code, exceptionTable := #[], attributes := #[] }
def k0m0 : Method := { name := "<init>", desc := "()V", sig := { parameters := [], returnType := none }, accessFlags := 1, code := some k0c0 }
/-- java/lang/Object -/
def k0 : Class := { plain "java/lang/Object" none with
  accessFlags := 33
  interfaces := #[]
  cf := some (fileOf pool0 8 #[] #[{ accessFlags := 1, nameIndex := 5, descriptorIndex := 6, attributes := #[] }] 33 0 #[] #[])
  fields := #[]
  methods := #[k0m0]
  instanceTypes := #[]
  staticTypes := #[]
  resolved := Array.replicate 124 none
  statics := none }

def pool1 : Array CpInfo := pool [(2, .class_ 4), (1, u "java/lang/Object"), (0, u "<init>"), (0, u "()V"), (0, .fieldref 8 9), (0, .class_ 10), (0, .nameAndType 11 12), (0, u "com/example/measured_traces/measuredtraces/Interval"), (0, u "ALL"), (0, u "Lcom/example/measured_traces/measuredtraces/Interval;"), (0, .methodref 8 14), (0, .nameAndType 15 16), (0, u "lower"), (0, u "()D"), (0, .methodref 8 18), (0, .nameAndType 19 16), (0, u "upper"), (0, .methodref 8 21), (0, .nameAndType 5 22), (0, u "(DZDZ)V"), (0, .long 2), (1, .methodref 8 26), (0, .nameAndType 27 28), (0, u "before"), (0, u "(Lcom/example/measured_traces/measuredtraces/Interval;Lcom/example/measured_traces/measuredtraces/Interval;)Z"), (0, .class_ 30), (0, u "com/example/measured_traces/measuredtraces/IntervalBeforePinLaw"), (2, u "law"), (0, u "(IIIII)Z")] 3

def k1m0 : Method := { name := "<init>", desc := "()V", sig := { parameters := [], returnType := none }, accessFlags := 1, code := none }
def k1c1 : Code := { maxStack := 8, maxLocals := 46, code := code, exceptionTable := #[], attributes := #[] }
def k1m1 : Method := { name := "law", desc := "(IIIII)Z", sig := { parameters := [.int, .int, .int, .int, .int], returnType := some .boolean }, accessFlags := 9, code := some k1c1 }
/-- com/example/measured_traces/measuredtraces/IntervalBeforePinLaw -/
def k1 : Class := { plain "com/example/measured_traces/measuredtraces/IntervalBeforePinLaw" (some 0) with
  accessFlags := 49
  interfaces := #[]
  cf := some (fileOf pool1 29 #[] #[{ accessFlags := 1, nameIndex := 5, descriptorIndex := 6, attributes := #[] }, { accessFlags := 9, nameIndex := 33, descriptorIndex := 34, attributes := #[] }] 49 2 #[] #[])
  fields := #[]
  methods := #[k1m0, k1m1]
  instanceTypes := #[]
  staticTypes := #[]
  resolved := Array.replicate 38 none
  statics := none }

def pool2 : Array CpInfo := pool [(1, .methodref 2 3), (0, .class_ 4), (0, .nameAndType 5 6), (0, u "java/lang/Object"), (0, u "<init>"), (0, u "()V"), (0, .class_ 8), (0, u "java/lang/Record")] 13

def k2c0 : Code := { maxStack := 1, maxLocals := 1, code := jdk_30_method_1_code, exceptionTable := #[], attributes := #[] }
def k2m0 : Method := { name := "<init>", desc := "()V", sig := { parameters := [], returnType := none }, accessFlags := 4, code := some k2c0 }
/-- java/lang/Record -/
def k2 : Class := { plain "java/lang/Record" (some 0) with
  accessFlags := 1057
  interfaces := #[]
  cf := some (fileOf pool2 7 #[] #[{ accessFlags := 4, nameIndex := 5, descriptorIndex := 6, attributes := #[] }] 1057 2 #[] #[])
  fields := #[]
  methods := #[k2m0]
  instanceTypes := #[]
  staticTypes := #[]
  resolved := Array.replicate 22 none
  statics := none }

def pool3 : Array CpInfo := pool [(1, .methodref 2 3), (0, .class_ 4), (0, .nameAndType 5 6), (0, u "java/lang/Record"), (0, u "<init>"), (0, u "()V"), (0, .methodref 8 9), (0, .class_ 10), (0, .nameAndType 11 12), (0, u "java/lang/Double"), (0, u "isInfinite"), (0, u "(D)Z"), (7, .methodref 21 22), (0, .class_ 23), (0, .nameAndType 24 25), (0, u "com/example/measured_traces/measuredtraces/Interval"), (0, u "holdsNumbers"), (0, u "(DZDZ)Z"), (4, .fieldref 21 31), (0, .nameAndType 32 33), (0, u "lower"), (0, u "D"), (0, .fieldref 21 35), (0, .nameAndType 36 37), (0, u "lowerIncluded"), (0, u "Z"), (0, .fieldref 21 39), (0, .nameAndType 40 33), (0, u "upper"), (0, .fieldref 21 42), (0, .nameAndType 43 37), (0, u "upperIncluded"), (8, .class_ 54), (1, u "com/example/measured_traces/measuredtraces/Interval$1"), (17, u "(DZDZ)V"), (4, u "before"), (0, u "(Lcom/example/measured_traces/measuredtraces/Interval;Lcom/example/measured_traces/measuredtraces/Interval;)Z"), (44, u "ALL"), (0, u "Lcom/example/measured_traces/measuredtraces/Interval;"), (19, u "()D")] 42

def k3c0 : Code := { maxStack := 6, maxLocals := 7, code := prog_61_method_1_code, exceptionTable := #[], attributes := #[] }
def k3m0 : Method := { name := "<init>", desc := "(DZDZ)V", sig := { parameters := [.double, .boolean, .double, .boolean], returnType := none }, accessFlags := 1, code := some k3c0 }
def k3c1 : Code := { maxStack := 4, maxLocals := 6, code := prog_61_method_10_code, exceptionTable := #[], attributes := #[] }
def k3m1 : Method := { name := "holdsNumbers", desc := "(DZDZ)Z", sig := { parameters := [.double, .boolean, .double, .boolean], returnType := some .boolean }, accessFlags := 10, code := some k3c1 }
def k3c2 : Code := { maxStack := 4, maxLocals := 2, code := prog_61_method_11_code, exceptionTable := #[], attributes := #[] }
def k3m2 : Method := { name := "before", desc := "(Lcom/example/measured_traces/measuredtraces/Interval;Lcom/example/measured_traces/measuredtraces/Interval;)Z", sig := { parameters := [(.object "com/example/measured_traces/measuredtraces/Interval"), (.object "com/example/measured_traces/measuredtraces/Interval")], returnType := some .boolean }, accessFlags := 8, code := some k3c2 }
def k3c3 : Code := { maxStack := 2, maxLocals := 1, code := prog_61_method_18_code, exceptionTable := #[], attributes := #[] }
def k3m3 : Method := { name := "lower", desc := "()D", sig := { parameters := [], returnType := some .double }, accessFlags := 1, code := some k3c3 }
def k3c4 : Code := { maxStack := 2, maxLocals := 1, code := prog_61_method_20_code, exceptionTable := #[], attributes := #[] }
def k3m4 : Method := { name := "upper", desc := "()D", sig := { parameters := [], returnType := some .double }, accessFlags := 1, code := some k3c4 }
/-- com/example/measured_traces/measuredtraces/Interval -/
def k3 : Class := { plain "com/example/measured_traces/measuredtraces/Interval" (some 2) with
  accessFlags := 49
  interfaces := #[]
  cf := some (fileOf pool3 21 #[.nestMembers #[52]] #[{ accessFlags := 1, nameIndex := 5, descriptorIndex := 72, attributes := #[] }, { accessFlags := 10, nameIndex := 24, descriptorIndex := 25, attributes := #[] }, { accessFlags := 8, nameIndex := 77, descriptorIndex := 78, attributes := #[] }, { accessFlags := 1, nameIndex := 32, descriptorIndex := 144, attributes := #[] }, { accessFlags := 1, nameIndex := 40, descriptorIndex := 144, attributes := #[] }] 49 2 #[] #[{ accessFlags := 18, nameIndex := 32, descriptorIndex := 33, attributes := #[] }, { accessFlags := 18, nameIndex := 36, descriptorIndex := 37, attributes := #[] }, { accessFlags := 18, nameIndex := 40, descriptorIndex := 33, attributes := #[] }, { accessFlags := 18, nameIndex := 43, descriptorIndex := 37, attributes := #[] }, { accessFlags := 25, nameIndex := 123, descriptorIndex := 124, attributes := #[] }])
  fields := #[{ name := "lower", type := .double, accessFlags := 18, slot := 0, constantValue := 0 }, { name := "lowerIncluded", type := .boolean, accessFlags := 18, slot := 1, constantValue := 0 }, { name := "upper", type := .double, accessFlags := 18, slot := 2, constantValue := 0 }, { name := "upperIncluded", type := .boolean, accessFlags := 18, slot := 3, constantValue := 0 }, { name := "ALL", type := (.object "com/example/measured_traces/measuredtraces/Interval"), accessFlags := 25, slot := 0, constantValue := 0 }]
  methods := #[k3m0, k3m1, k3m2, k3m3, k3m4]
  instanceTypes := #[.double, .boolean, .double, .boolean]
  staticTypes := #[(.object "com/example/measured_traces/measuredtraces/Interval")]
  resolved := Array.replicate 187 none
  statics := some 0 }

def pool4 : Array CpInfo := pool [(1, .class_ 2), (0, u "java/io/Serializable"), (0, .class_ 4), (0, u "java/lang/Object")] 2

/-- java/io/Serializable -/
def k4 : Class := { plain "java/io/Serializable" (some 0) with
  accessFlags := 1537
  interfaces := #[]
  cf := some (fileOf pool4 1 #[] #[] 1537 3 #[] #[])
  fields := #[]
  methods := #[]
  instanceTypes := #[]
  staticTypes := #[]
  resolved := Array.replicate 7 none
  statics := none }

def pool5 : Array CpInfo := pool [(2, .class_ 4), (1, u "java/lang/Object"), (0, u "<init>"), (0, u "()V"), (1, .class_ 10), (1, u "java/lang/Number"), (2, .class_ 14), (0, u "java/io/Serializable"), (0, u "serialVersionUID"), (0, u "J")] 20

def k5m0 : Method := { name := "<init>", desc := "()V", sig := { parameters := [], returnType := none }, accessFlags := 1, code := none }
/-- java/lang/Number -/
def k5 : Class := { plain "java/lang/Number" (some 0) with
  accessFlags := 1057
  interfaces := #[4]
  cf := some (fileOf pool5 8 #[] #[{ accessFlags := 1, nameIndex := 5, descriptorIndex := 6, attributes := #[] }] 1057 2 #[13] #[{ accessFlags := 26, nameIndex := 15, descriptorIndex := 16, attributes := #[] }])
  fields := #[{ name := "serialVersionUID", type := .long, accessFlags := 26, slot := 0, constantValue := 0 }]
  methods := #[k5m0]
  instanceTypes := #[]
  staticTypes := #[.long]
  resolved := Array.replicate 37 none
  statics := none }

def pool6 : Array CpInfo := pool [(1, .class_ 2), (0, u "java/lang/Comparable"), (0, .class_ 4), (0, u "java/lang/Object")] 7

/-- java/lang/Comparable -/
def k6 : Class := { plain "java/lang/Comparable" (some 0) with
  accessFlags := 1537
  interfaces := #[]
  cf := some (fileOf pool6 1 #[] #[] 1537 3 #[] #[])
  fields := #[]
  methods := #[]
  instanceTypes := #[]
  staticTypes := #[]
  resolved := Array.replicate 12 none
  statics := none }

def pool7 : Array CpInfo := pool [(1, .class_ 2), (0, u "java/lang/constant/Constable"), (0, .class_ 4), (0, u "java/lang/Object")] 6

/-- java/lang/constant/Constable -/
def k7 : Class := { plain "java/lang/constant/Constable" (some 0) with
  accessFlags := 1537
  interfaces := #[]
  cf := some (fileOf pool7 1 #[] #[] 1537 3 #[] #[])
  fields := #[]
  methods := #[]
  instanceTypes := #[]
  staticTypes := #[]
  resolved := Array.replicate 11 none
  statics := none }

def pool8 : Array CpInfo := pool [(1, .class_ 2), (0, u "java/lang/constant/ConstantDesc"), (0, .class_ 4), (0, u "java/lang/Object")] 32

/-- java/lang/constant/ConstantDesc -/
def k8 : Class := { plain "java/lang/constant/ConstantDesc" (some 0) with
  accessFlags := 1537
  interfaces := #[]
  cf := some (fileOf pool8 1 #[] #[] 1537 3 #[] #[])
  fields := #[]
  methods := #[]
  instanceTypes := #[]
  staticTypes := #[]
  resolved := Array.replicate 37 none
  statics := none }

def pool9 : Array CpInfo := pool [(1, .class_ 2), (0, u "java/lang/Double"), (11, u "(D)Z"), (8, .class_ 25), (1, u "java/lang/Math"), (12, .methodref 23 39), (0, .nameAndType 40 41), (0, u "abs"), (0, u "(D)D"), (69, .double 9218868437227405311), (2, .class_ 116), (1, u "java/lang/Number"), (3, u "value"), (0, u "D"), (5, u "isInfinite"), (45, u "TYPE"), (0, u "Ljava/lang/Class;"), (0, .class_ 176), (0, u "java/lang/Comparable"), (0, .class_ 178), (0, u "java/lang/constant/Constable"), (0, .class_ 180), (0, u "java/lang/constant/ConstantDesc"), (0, u "POSITIVE_INFINITY"), (3, u "NEGATIVE_INFINITY"), (2, u "NaN"), (2, u "MAX_VALUE"), (0, u "MIN_NORMAL"), (0, u "MIN_VALUE"), (2, u "SIZE"), (0, u "I"), (1, u "PRECISION"), (1, u "MAX_EXPONENT"), (1, u "MIN_EXPONENT"), (1, u "BYTES"), (3, u "serialVersionUID"), (0, u "J")] 79

def k9c0 : Code := { maxStack := 4, maxLocals := 2, code := jdk_117_method_7_code, exceptionTable := #[], attributes := #[] }
def k9m0 : Method := { name := "isInfinite", desc := "(D)Z", sig := { parameters := [.double], returnType := some .boolean }, accessFlags := 9, code := some k9c0 }
/-- java/lang/Double -/
def k9 : Class := { plain "java/lang/Double" (some 5) with
  accessFlags := 49
  interfaces := #[6, 7, 8]
  cf := some (fileOf pool9 1 #[] #[{ accessFlags := 9, nameIndex := 127, descriptorIndex := 14, attributes := #[] }] 49 114 #[175, 177, 179] #[{ accessFlags := 25, nameIndex := 181, descriptorIndex := 121, attributes := #[] }, { accessFlags := 25, nameIndex := 185, descriptorIndex := 121, attributes := #[] }, { accessFlags := 25, nameIndex := 188, descriptorIndex := 121, attributes := #[] }, { accessFlags := 25, nameIndex := 191, descriptorIndex := 121, attributes := #[] }, { accessFlags := 25, nameIndex := 192, descriptorIndex := 121, attributes := #[] }, { accessFlags := 25, nameIndex := 193, descriptorIndex := 121, attributes := #[] }, { accessFlags := 25, nameIndex := 196, descriptorIndex := 197, attributes := #[] }, { accessFlags := 25, nameIndex := 199, descriptorIndex := 197, attributes := #[] }, { accessFlags := 25, nameIndex := 201, descriptorIndex := 197, attributes := #[] }, { accessFlags := 25, nameIndex := 203, descriptorIndex := 197, attributes := #[] }, { accessFlags := 25, nameIndex := 205, descriptorIndex := 197, attributes := #[] }, { accessFlags := 25, nameIndex := 173, descriptorIndex := 174, attributes := #[] }, { accessFlags := 18, nameIndex := 120, descriptorIndex := 121, attributes := #[] }, { accessFlags := 26, nameIndex := 209, descriptorIndex := 210, attributes := #[] }])
  fields := #[{ name := "POSITIVE_INFINITY", type := .double, accessFlags := 25, slot := 0, constantValue := 0 }, { name := "NEGATIVE_INFINITY", type := .double, accessFlags := 25, slot := 1, constantValue := 0 }, { name := "NaN", type := .double, accessFlags := 25, slot := 2, constantValue := 0 }, { name := "MAX_VALUE", type := .double, accessFlags := 25, slot := 3, constantValue := 0 }, { name := "MIN_NORMAL", type := .double, accessFlags := 25, slot := 4, constantValue := 0 }, { name := "MIN_VALUE", type := .double, accessFlags := 25, slot := 5, constantValue := 0 }, { name := "SIZE", type := .int, accessFlags := 25, slot := 6, constantValue := 0 }, { name := "PRECISION", type := .int, accessFlags := 25, slot := 7, constantValue := 0 }, { name := "MAX_EXPONENT", type := .int, accessFlags := 25, slot := 8, constantValue := 0 }, { name := "MIN_EXPONENT", type := .int, accessFlags := 25, slot := 9, constantValue := 0 }, { name := "BYTES", type := .int, accessFlags := 25, slot := 10, constantValue := 0 }, { name := "TYPE", type := (.object "java/lang/Class"), accessFlags := 25, slot := 11, constantValue := 0 }, { name := "value", type := .double, accessFlags := 18, slot := 0, constantValue := 0 }, { name := "serialVersionUID", type := .long, accessFlags := 26, slot := 12, constantValue := 0 }]
  methods := #[k9m0]
  instanceTypes := #[.double]
  staticTypes := #[.double, .double, .double, .double, .double, .double, .int, .int, .int, .int, .int, (.object "java/lang/Class"), .long]
  resolved := Array.replicate 290 none
  statics := none }

def pool10 : Array CpInfo := pool [(1, .class_ 2), (0, u "java/lang/Math"), (1, .class_ 6), (1, u "java/lang/Object"), (0, u "<init>"), (0, u "()V"), (5, u "(D)D"), (83, .class_ 100), (1, u "java/lang/Math$RandomNumberGeneratorHolder"), (23, u "abs"), (47, u "negativeZeroFloatBits"), (0, u "J"), (2, u "negativeZeroDoubleBits"), (68, u "$assertionsDisabled"), (0, u "Z"), (91, u "twoToTheDoubleScaleDown"), (0, u "D"), (4, u "twoToTheDoubleScaleUp"), (9, u "E"), (3, u "PI"), (2, u "TAU"), (2, u "DEGREES_TO_RADIANS"), (0, u "RADIANS_TO_DEGREES")] 94

def k10m0 : Method := { name := "<init>", desc := "()V", sig := { parameters := [], returnType := none }, accessFlags := 2, code := none }
def k10c1 : Code := { maxStack := 4, maxLocals := 2, code := jdk_29_method_64_code, exceptionTable := #[], attributes := #[] }
def k10m1 : Method := { name := "abs", desc := "(D)D", sig := { parameters := [.double], returnType := some .double }, accessFlags := 9, code := some k10c1 }
/-- java/lang/Math -/
def k10 : Class := { plain "java/lang/Math" (some 0) with
  accessFlags := 49
  interfaces := #[]
  cf := some (fileOf pool10 1 #[.nestMembers #[98]] #[{ accessFlags := 2, nameIndex := 7, descriptorIndex := 8, attributes := #[] }, { accessFlags := 9, nameIndex := 124, descriptorIndex := 14, attributes := #[] }] 49 4 #[] #[{ accessFlags := 25, nameIndex := 354, descriptorIndex := 339, attributes := #[] }, { accessFlags := 25, nameIndex := 358, descriptorIndex := 339, attributes := #[] }, { accessFlags := 25, nameIndex := 361, descriptorIndex := 339, attributes := #[] }, { accessFlags := 26, nameIndex := 364, descriptorIndex := 339, attributes := #[] }, { accessFlags := 26, nameIndex := 365, descriptorIndex := 339, attributes := #[] }, { accessFlags := 26, nameIndex := 172, descriptorIndex := 173, attributes := #[] }, { accessFlags := 26, nameIndex := 176, descriptorIndex := 173, attributes := #[] }, { accessFlags := 8, nameIndex := 344, descriptorIndex := 339, attributes := #[] }, { accessFlags := 8, nameIndex := 338, descriptorIndex := 339, attributes := #[] }, { accessFlags := 4120, nameIndex := 245, descriptorIndex := 246, attributes := #[] }])
  fields := #[{ name := "E", type := .double, accessFlags := 25, slot := 0, constantValue := 0 }, { name := "PI", type := .double, accessFlags := 25, slot := 1, constantValue := 0 }, { name := "TAU", type := .double, accessFlags := 25, slot := 2, constantValue := 0 }, { name := "DEGREES_TO_RADIANS", type := .double, accessFlags := 26, slot := 3, constantValue := 0 }, { name := "RADIANS_TO_DEGREES", type := .double, accessFlags := 26, slot := 4, constantValue := 0 }, { name := "negativeZeroFloatBits", type := .long, accessFlags := 26, slot := 5, constantValue := 0 }, { name := "negativeZeroDoubleBits", type := .long, accessFlags := 26, slot := 6, constantValue := 0 }, { name := "twoToTheDoubleScaleUp", type := .double, accessFlags := 8, slot := 7, constantValue := 0 }, { name := "twoToTheDoubleScaleDown", type := .double, accessFlags := 8, slot := 8, constantValue := 0 }, { name := "$assertionsDisabled", type := .boolean, accessFlags := 4120, slot := 9, constantValue := 0 }]
  methods := #[k10m0, k10m1]
  instanceTypes := #[]
  staticTypes := #[.double, .double, .double, .double, .double, .long, .long, .double, .double, .boolean]
  resolved := Array.replicate 460 none
  statics := none }

def pool11 : Array CpInfo := pool [(1, u "java/lang/Cloneable"), (0, .class_ 1), (0, u "java/lang/Object"), (0, .class_ 3)] 3

/-- java/lang/Cloneable -/
def k11 : Class := { plain "java/lang/Cloneable" (some 0) with
  accessFlags := 1537
  interfaces := #[]
  cf := some (fileOf pool11 2 #[] #[] 1537 4 #[] #[])
  fields := #[]
  methods := #[]
  instanceTypes := #[]
  staticTypes := #[]
  resolved := Array.replicate 8 none
  statics := none }

/-- the primitive byte -/
def k12 : Class := { plain "byte" none with kind := .primitive 'B', accessFlags := 0x411 }
/-- [B -/
def k13 : Class := { plain "[B" (some 0) with kind := .array 12 .byte, interfaces := #[11, 4], accessFlags := 1041 }

/-- the primitive int -/
def k14 : Class := { plain "int" none with kind := .primitive 'I', accessFlags := 0x411 }
/-- [I -/
def k15 : Class := { plain "[I" (some 0) with kind := .array 14 .int, interfaces := #[11, 4], accessFlags := 1041 }

def heap : Heap := #[{ cls := 3, slots := #[.ref 1], vm := .statics 3 },
  { cls := 3, slots := #[.double 18442240474082181120, .int 0, .double 9218868437227405312, .int 0], vm := .none }]
def classes : Array Class := #[k0, k1, k2, k3, k4, k5, k6, k7, k8, k9, k10, k11, k12, k13, k14, k15]
def interned : List (Array UInt16 × Addr) := []
def slotsUsed : Nat := 5
def theMethod : MethodId := ⟨1, 1⟩
def args0 : Array Value := #[.int 5, .int 3, .int 2, .int 7, .int 1]
def aboutOver (below : List Frame) : State where
  vm := { classes := classes, interned := interned.toArray }
  heap := heap
  slotsUsed := slotsUsed
  threads := #[{ frames := .invoking theMethod args0 :: below }]
def below0 : List Frame := [.native { method := ⟨0, 0⟩, args := #[] }]
def about1 : State := aboutOver below0
def p0 : Program := .bare "" "" ""
def e0 : Env := launch0.env 0 0 0
theorem w_frames : about1.frames = Frame.invoking theMethod args0 :: below0 := rfl
set_option maxRecDepth 65536 in
theorem w_args : argsFit about1.vm theMethod args0 = true := by decide +kernel
set_option maxRecDepth 65536 in
theorem w_heap : heapFits about1 = true := by decide +kernel
set_option maxRecDepth 65536 in
theorem w_runnable : about1.curStatus? = some .runnable := by decide +kernel
set_option maxRecDepth 65536 in
theorem w_alone : about1.alone = true := by decide +kernel
set_option maxRecDepth 65536 in
theorem w_named : about1.methodNamed? x = some theMethod := by decide +kernel
set_option maxRecDepth 65536 in
theorem w_hears : about1.hears theMethod below0 = true := by decide +kernel
set_option maxRecDepth 65536 in
theorem w_ripe : about1.ripe theMethod args0 below0 = true := by decide +kernel
theorem w_running : about1.status = .running := rfl
set_option maxRecDepth 65536 in
theorem w_room : about1.hasRoom e0.platform room_1 = true :=
  launch0.hasRoom_least _ room_1 (by decide +kernel) (by decide +kernel) (by decide +kernel) (by decide +kernel) (by decide +kernel) (by decide +kernel)
theorem allAtoms_all (ts : List Jvm.Cond) (a : Array Jvm.Value) (st : Jvm.State) : (allAtoms ts).before a st = ts.all (fun c => c.before a st) := by
  induction ts with
  | nil => rfl
  | cons c t ih =>
    show (Jvm.Cond.and c (allAtoms t)).before a st = _
    rw [Jvm.Cond.before_and, ih, List.all_cons]
def words1 : List Jvm.Cond := Jvm.Cond.code x code maxLocals ret :: tables_1
/-- a 'code' word, met by the world's own term for the bytes: nothing is compared byte by byte -/
theorem code_word {y : MethodName} {bytes : ByteArray} {mx : Nat} {rt : Option FieldType} {a : Array Value} {s : State} {m : MethodId} {meth : Method} {c : Code} (h1 : s.methodNamed? y = some m) (h2 : s.vm.method? m = some meth) (h3 : meth.code = some c) (h4 : c.code = bytes)
    (h5 : (c.maxLocals == mx && c.exceptionTable.isEmpty && decide (c.maxStack ≤ mostOperands) && decide (meth.sig.returnType = rt) && !meth.locks && decide (parseMethodDescriptor y.desc = some meth.sig)) = true) : (Jvm.Cond.code y bytes mx rt).before a s = true := by
  simp only [Bool.and_eq_true, beq_iff_eq, Bool.not_eq_true', decide_eq_true_eq] at h5
  obtain ⟨⟨⟨⟨⟨g1, g2⟩, g3⟩, g4⟩, g5⟩, g6⟩ := h5
  simp [Cond.before, Cond.holds, Cond.value, h1, h2, h3, h4, g1, g2, g3, g4, g5, g6]
def isCode : Jvm.Cond → Bool
  | .code _ _ _ _ => true
  | _ => false
theorem all_split {L : List Jvm.Cond} {P : Jvm.Cond → Bool} (h1 : L.all (fun c => isCode c || P c) = true) (h2 : ∀ c ∈ L.filter isCode, P c = true) : L.all P = true := by
  refine List.all_eq_true.mpr fun c hc => ?_
  have h := List.all_eq_true.mp h1 c hc
  rcases Bool.eq_false_or_eq_true (isCode c) with hi | hi
  · exact h2 c (List.mem_filter.mpr ⟨hc, hi⟩)
  · simpa [hi] using h
set_option maxRecDepth 65536 in
theorem w_c0 : (Jvm.Cond.code x code maxLocals ret).before args0 about1 = true := code_word (m := ⟨1, 1⟩) (meth := k1m1) (c := k1c1) (by decide +kernel) rfl rfl rfl (by decide +kernel)
set_option maxRecDepth 65536 in
theorem w_c1 : (Jvm.Cond.code ({ cls := "com/example/measured_traces/measuredtraces/Interval", name := "lower", desc := "()D" } : Jvm.MethodName) prog_61_method_18_code (1 : Nat) (Option.some Jvm.ClassFile.FieldType.double)).before args0 about1 = true := code_word (m := ⟨3, 3⟩) (meth := k3m3) (c := k3c3) (by decide +kernel) rfl rfl rfl (by decide +kernel)
set_option maxRecDepth 65536 in
theorem w_c2 : (Jvm.Cond.code ({ cls := "com/example/measured_traces/measuredtraces/Interval", name := "upper", desc := "()D" } : Jvm.MethodName) prog_61_method_20_code (1 : Nat) (Option.some Jvm.ClassFile.FieldType.double)).before args0 about1 = true := code_word (m := ⟨3, 4⟩) (meth := k3m4) (c := k3c4) (by decide +kernel) rfl rfl rfl (by decide +kernel)
set_option maxRecDepth 65536 in
theorem w_c3 : (Jvm.Cond.code ({ cls := "com/example/measured_traces/measuredtraces/Interval", name := "<init>", desc := "(DZDZ)V" } : Jvm.MethodName) prog_61_method_1_code (7 : Nat) (Option.none : Option Jvm.ClassFile.FieldType)).before args0 about1 = true := code_word (m := ⟨3, 0⟩) (meth := k3m0) (c := k3c0) (by decide +kernel) rfl rfl rfl (by decide +kernel)
set_option maxRecDepth 65536 in
theorem w_c4 : (Jvm.Cond.code ({ cls := "java/lang/Record", name := "<init>", desc := "()V" } : Jvm.MethodName) jdk_30_method_1_code (1 : Nat) (Option.none : Option Jvm.ClassFile.FieldType)).before args0 about1 = true := code_word (m := ⟨2, 0⟩) (meth := k2m0) (c := k2c0) (by decide +kernel) rfl rfl rfl (by decide +kernel)
set_option maxRecDepth 65536 in
theorem w_c5 : (Jvm.Cond.code ({ cls := "java/lang/Object", name := "<init>", desc := "()V" } : Jvm.MethodName) object_method_1_code (1 : Nat) (Option.none : Option Jvm.ClassFile.FieldType)).before args0 about1 = true := code_word (m := ⟨0, 0⟩) (meth := k0m0) (c := k0c0) (by decide +kernel) rfl rfl rfl (by decide +kernel)
set_option maxRecDepth 65536 in
theorem w_c6 : (Jvm.Cond.code ({ cls := "com/example/measured_traces/measuredtraces/Interval", name := "holdsNumbers", desc := "(DZDZ)Z" } : Jvm.MethodName) prog_61_method_10_code (6 : Nat) (Option.some Jvm.ClassFile.FieldType.boolean)).before args0 about1 = true := code_word (m := ⟨3, 1⟩) (meth := k3m1) (c := k3c1) (by decide +kernel) rfl rfl rfl (by decide +kernel)
set_option maxRecDepth 65536 in
theorem w_c7 : (Jvm.Cond.code ({ cls := "java/lang/Double", name := "isInfinite", desc := "(D)Z" } : Jvm.MethodName) jdk_117_method_7_code (2 : Nat) (Option.some Jvm.ClassFile.FieldType.boolean)).before args0 about1 = true := code_word (m := ⟨9, 0⟩) (meth := k9m0) (c := k9c0) (by decide +kernel) rfl rfl rfl (by decide +kernel)
set_option maxRecDepth 65536 in
theorem w_c8 : (Jvm.Cond.code ({ cls := "java/lang/Math", name := "abs", desc := "(D)D" } : Jvm.MethodName) jdk_29_method_64_code (2 : Nat) (Option.some Jvm.ClassFile.FieldType.double)).before args0 about1 = true := code_word (m := ⟨10, 1⟩) (meth := k10m1) (c := k10c1) (by decide +kernel) rfl rfl rfl (by decide +kernel)
set_option maxRecDepth 65536 in
theorem w_c9 : (Jvm.Cond.code ({ cls := "com/example/measured_traces/measuredtraces/Interval", name := "before", desc := "(Lcom/example/measured_traces/measuredtraces/Interval;Lcom/example/measured_traces/measuredtraces/Interval;)Z" } : Jvm.MethodName) prog_61_method_11_code (2 : Nat) (Option.some Jvm.ClassFile.FieldType.boolean)).before args0 about1 = true := code_word (m := ⟨3, 2⟩) (meth := k3m2) (c := k3c2) (by decide +kernel) rfl rfl rfl (by decide +kernel)
def codes1 : List Jvm.Cond := [Jvm.Cond.code x code maxLocals ret, Jvm.Cond.code ({ cls := "com/example/measured_traces/measuredtraces/Interval", name := "lower", desc := "()D" } : Jvm.MethodName) prog_61_method_18_code (1 : Nat) (Option.some Jvm.ClassFile.FieldType.double), Jvm.Cond.code ({ cls := "com/example/measured_traces/measuredtraces/Interval", name := "upper", desc := "()D" } : Jvm.MethodName) prog_61_method_20_code (1 : Nat) (Option.some Jvm.ClassFile.FieldType.double), Jvm.Cond.code ({ cls := "com/example/measured_traces/measuredtraces/Interval", name := "<init>", desc := "(DZDZ)V" } : Jvm.MethodName) prog_61_method_1_code (7 : Nat) (Option.none : Option Jvm.ClassFile.FieldType), Jvm.Cond.code ({ cls := "java/lang/Record", name := "<init>", desc := "()V" } : Jvm.MethodName) jdk_30_method_1_code (1 : Nat) (Option.none : Option Jvm.ClassFile.FieldType), Jvm.Cond.code ({ cls := "java/lang/Object", name := "<init>", desc := "()V" } : Jvm.MethodName) object_method_1_code (1 : Nat) (Option.none : Option Jvm.ClassFile.FieldType), Jvm.Cond.code ({ cls := "com/example/measured_traces/measuredtraces/Interval", name := "holdsNumbers", desc := "(DZDZ)Z" } : Jvm.MethodName) prog_61_method_10_code (6 : Nat) (Option.some Jvm.ClassFile.FieldType.boolean), Jvm.Cond.code ({ cls := "java/lang/Double", name := "isInfinite", desc := "(D)Z" } : Jvm.MethodName) jdk_117_method_7_code (2 : Nat) (Option.some Jvm.ClassFile.FieldType.boolean), Jvm.Cond.code ({ cls := "java/lang/Math", name := "abs", desc := "(D)D" } : Jvm.MethodName) jdk_29_method_64_code (2 : Nat) (Option.some Jvm.ClassFile.FieldType.double), Jvm.Cond.code ({ cls := "com/example/measured_traces/measuredtraces/Interval", name := "before", desc := "(Lcom/example/measured_traces/measuredtraces/Interval;Lcom/example/measured_traces/measuredtraces/Interval;)Z" } : Jvm.MethodName) prog_61_method_11_code (2 : Nat) (Option.some Jvm.ClassFile.FieldType.boolean)]
set_option maxRecDepth 65536 in
theorem codes_eq : words1.filter isCode = codes1 := rfl
theorem w_codes : ∀ c ∈ words1.filter isCode, c.before args0 about1 = true := by
  rw [codes_eq]
  intro c hc
  simp only [codes1, List.mem_cons, List.not_mem_nil, or_false] at hc
  rcases hc with rfl | rfl | rfl | rfl | rfl | rfl | rfl | rfl | rfl | rfl
  · exact w_c0
  · exact w_c1
  · exact w_c2
  · exact w_c3
  · exact w_c4
  · exact w_c5
  · exact w_c6
  · exact w_c7
  · exact w_c8
  · exact w_c9
set_option maxRecDepth 65536 in
theorem w_t1 : (words1.take 24).all (fun c => isCode c || c.before args0 about1) = true := by decide +kernel
set_option maxRecDepth 65536 in
theorem w_t2 : ((words1.drop 24).take 24).all (fun c => isCode c || c.before args0 about1) = true := by decide +kernel
set_option maxRecDepth 65536 in
theorem w_t3 : ((words1.drop 24).drop 24).all (fun c => isCode c || c.before args0 about1) = true := by decide +kernel
theorem w_tables : (allAtoms (Jvm.Cond.code x code maxLocals ret :: tables_1)).before args0 about1 = true := by
  rw [allAtoms_all]
  show words1.all (fun c => c.before args0 about1) = true
  refine all_split ?_ w_codes
  rw [← List.take_append_drop 24 words1, List.all_append, w_t1, ← List.take_append_drop 24 (words1.drop 24), List.all_append, w_t2, w_t3]
  rfl
set_option maxRecDepth 65536 in
theorem w_case : (Jvm.Cond.and given_1 narrow_1).before args0 about1 = true := by decide +kernel
theorem w_applies : (headSpec (Jvm.Cond.code x code maxLocals ret :: tables_1) room_1).applies x e0.platform about1 = true :=
  (Spec.applies_iff w_frames).mpr ⟨w_running, w_runnable, w_alone, w_named, w_hears, w_ripe, w_room, w_tables⟩
theorem atStart : AtStart classFile x code maxLocals ret World_1 tables_1 room_1 Calls_1 rest_1 Pre_1 launch0 p0 e0 about1 theMethod args0 below0 :=
  ⟨lists_1, trivial, launch0.admits_env _ _ _, launch0.least_env, fairChoices_fair.cas, fairChoices_fair.clock, w_frames, w_args, w_heap, w_applies, trivial, trivial, w_case⟩
end start1
theorem witness_1 : WitnessClaimed_1 := ⟨start1.p0, start1.e0, start1.about1, start1.theMethod, start1.args0, start1.below0, start1.atStart⟩
end Jvm.Pilot.@@N@@
