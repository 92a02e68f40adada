import JvmDerived
import JvmDerived.Pilot.@@N@@Statement
import JvmDerived.Pilot.@@N@@Code
set_option linter.unusedVariables false
set_option linter.unusedSimpArgs false
namespace Jvm.Pilot.@@N@@
open Jvm Jvm.ClassFile Sem Op Lib Jvm.Free Jvm.Stand Jvm.LawKit Jvm.RoadKit Bundle Jvm.Pilot.@@N@@.Jvm.D
section OwnKit
open Jvm.FP Jvm.Free.Fl
/-- what a walk's end is asked: the start, the texts interned meanwhile, Q of value and heap -/
abbrev GQ : Type := State × List String × (Option Value → Heap → Prop)
variable {p : Program} {l : Launch} {e : Env} {R : Room} {s : State} {m : MethodId} {args : Array Value} {below : List Frame} {meth : Method} {c : Code} {T : State} {Z : State} {a0 : Array Value} {h h' : Heap} {n0 n1 cells slots nc ns pc pc' : Nat} {Ls : Array Slot} {st rest : List Value} {Q : GQ} {Ts Ts' : List String} {Lt : List (String × Nat × Addr)} {vm0 : Vm}
/-- a contract: the method returns, what it leaves is Q, nothing below n0 is written, only texts of Ts' are interned -/
def Con (l : Launch) (Z : State) (n0 : Nat) (Ts Ts' : List String) (y : MethodName) (bytes : ByteArray) (ml : Nat) (ret : Option FieldType) (ws : List Jvm.Cond) (rm : Room) (as : Array Value) (h0 : Heap) (Q : Option Value → Heap → Prop) : Prop :=
  MetFree l y (head1 (Jvm.Cond.code y bytes ml ret :: ws) rm) (fun a U => a = as ∧ Z.Warmed39 U.vm ∧ U.heap = h0 ∧ IB Z U.vm Ts) (fun _ _ _ _ _ => True) (fun _ U o U' => ∃ v L, o = .returned v ∧ (Fr n0 L ∧ Q v U'.heap ∧ IB Z U'.vm Ts') ∧ ReturnedEndW U o U' L rm.cells rm.slots)
/-- the tables at hand: grown from the true start, the texts interned, the constants resolved -/
abbrev Bs (Z s : State) (vm0 : Vm) (h : Heap) (Ts : List String) (Lt : List (String × Nat × Addr)) : Prop :=
  (∃ k0, s.Since vm0 k0 ∧ k0 ≤ h.size) ∧ IB Z vm0 Ts ∧ ∀ q ∈ Lt, Lit (s.setVm vm0) q.1 q.2.1 q.2.2
theorem Bs.ib (B : Bs Z s vm0 h Ts Lt) : IB Z vm0 Ts := B.2.1
theorem Bs.lt (B : Bs Z s vm0 h Ts Lt) : ∀ q ∈ Lt, Lit (s.setVm vm0) q.1 q.2.1 q.2.2 := B.2.2
theorem Bs.grow (B : Bs Z s vm0 h Ts Lt) (q : h.size ≤ h'.size) : Bs Z s vm0 h' Ts Lt := by
  obtain ⟨⟨k0, a, b⟩, i, t⟩ := B; exact ⟨⟨k0, a, Nat.le_trans b q⟩, i, t⟩
theorem Bs.hZ (B : Bs Z s vm0 h Ts Lt) (hZ : Z.Warmed39 s.vm) : Z.Warmed39 (s.setVm vm0).vm := by
  obtain ⟨⟨k0, a, b⟩, i, t⟩ := B; exact State.Warmed39.trans hZ a.1
theorem Bs.fc (B : Bs Z s vm0 h Ts Lt) {own : String} {k : ClassId} (hown : s.vm.findClass own = some k) : (s.setVm vm0).vm.findClass own = some k := by
  obtain ⟨⟨k0, a, b⟩, i, t⟩ := B
  show vm0.findClass own = some k
  rw [a.1.alike.findClass]; exact hown
theorem Bs.call {vm1 : Vm} (B : Bs Z s vm0 h Ts Lt) {n : Nat} (hS : (s.setVm vm0).Since vm1 n) (hn : h.size ≤ n) (hn' : n ≤ h'.size) (I : IB Z vm1 Ts') : Bs Z s vm1 h' Ts' Lt := by
  obtain ⟨⟨k0, a, b⟩, i, t⟩ := B
  exact ⟨⟨n, a.trans hS (Nat.le_trans b hn), hn'⟩, I, fun q hq => Lit.stays (t q hq) hS.1⟩
/-- where a walk stands, the places written kept to themselves -/
def Wk (p : Program) (l : Launch) (e : Env) (R : Room) (s : State) (m : MethodId) (args : Array Value) (below : List Frame) (meth : Method) (c : Code) (n1 : Nat) (Z : State) (Ts : List String) (Lt : List (String × Nat × Addr)) (T : State) (h : Heap) (cells slots : Nat) : Prop :=
  ∃ locs vm0, Stand p l e R (s.setVm vm0) m args below meth c T locs cells slots ∧ Fr n1 locs ∧ T.heap = h ∧ Bs Z s vm0 h Ts Lt
/-- from t the run ends, and leaves Q -/
def Go (p : Program) (e : Env) (below : List Frame) (s : State) (n0 : Nat) (Q : GQ) (nc ns : Nat) (t : State) : Prop :=
  ∃ s₂ o, Steps p.tables e below t s₂ ∧ s₂.status = .running ∧ Ended s₂ below o ∧ ∃ v L, o = .returned v ∧ (Fr n0 L ∧ Q.2.2 v s₂.heap ∧ IB Q.1 s₂.vm Q.2.1) ∧ ReturnedEndW s o s₂ L nc ns
theorem Wk.here (X : Wk p l e R s m args below meth c n1 Z Ts Lt T h cells slots) : At T m c below := by obtain ⟨_, _, X, -⟩ := X; exact X.here
theorem Wk.heap (X : Wk p l e R s m args below meth c n1 Z Ts Lt T h cells slots) : T.heap = h := by obtain ⟨_, _, -, -, q, -⟩ := X; exact q
theorem Wk.low (X : Wk p l e R s m args below meth c n1 Z Ts Lt T h cells slots) (q : n0 ≤ n1) : Wk p l e R s m args below meth c n0 Z Ts Lt T h cells slots := by
  obtain ⟨locs, vm0, X, N, r⟩ := X; exact ⟨locs, vm0, X, fun y hy => Nat.le_trans q (N y hy), r⟩
theorem go_back {t t' : State} (b : ∀ target, Steps p.tables e below t' target → Steps p.tables e below t target) (k : Go p e below s n0 Q nc ns t') : Go p e below s n0 Q nc ns t := by
  obtain ⟨u, o, h1, r⟩ := k
  exact ⟨u, o, b u h1, r⟩
theorem con_start {y : MethodName} {bytes : ByteArray} {ml : Nat} {ret : Option FieldType} {ws : List Jvm.Cond} {rm : Room} {as : Array Value} {h0 : Heap} {Qv : Option Value → Heap → Prop} (hpl : plainFor y = true) {fr0 : MethodId → JFrame} (hfr : ∀ m, entryFrame m as ml = fr0 m)
    (k : ∀ (p : Program) (e : Env) (s : State) (m : MethodId) (below : List Frame) (meth : Method) (c : Code) (s₁ : State), p.tables.exec = Jvm.exec → Z.Warmed39 s.vm → c.code = bytes → c.maxLocals = ml → s.vm.findClass y.cls = some m.cls → meth.name = y.name → meth.sig.returnType = ret → meth.locks = false →
      s.heap = h0 → (∀ n1, Wk p l e rm s m as below meth c n1 Z Ts [] s₁ h0 0 0) → Go p e below s n0 ⟨Z, Ts', Qv⟩ rm.cells rm.slots (s₁.setTop (fr0 m))) : Con l Z n0 Ts Ts' y bytes ml ret ws rm as h0 Qv := by
  refine MetFree.of_bodySF hpl hisR ?_
  intro p e s m args below meth c s₁ Bd hml0 hP hK
  obtain ⟨rfl, hZ, hh, hI⟩ := hP
  rw [hfr]
  exact k p e s m below meth c s₁ Bd.exec hZ Bd.bytes hml0 (findClass_of_methodNamed Bd.named) (name_of_methodNamed Bd.named Bd.method).1 Bd.returns Bd.notSynchronized hh
    (fun n1 => ⟨[], s.vm, Stand.of_body Bd, Fr.nil n1, by rw [← hh, Bd.state]; rfl, ⟨⟨0, (State.WarmedH.refl s).since 0, Nat.zero_le _⟩, hI, fun q hq => nomatch hq⟩⟩)
/-- what an int branch asks -/
def cP : ClassFile.Cond → Int32 → Int32 → Prop
  | .eq, x, y => x = y
  | .ne, x, y => ¬ x = y
  | .lt, x, y => x < y
  | .ge, x, y => ¬ x < y
  | .gt, x, y => y < x
  | .le, x, y => ¬ y < x
theorem cP_yes {cd : ClassFile.Cond} {x y : Int32} (q : cP cd x y) : if_icmp.holds cd x y = true := by
  cases cd
  · exact (teq q).1
  · exact (feq q).2
  · exact (tlt q).1
  · exact (flt q).2.1
  · exact (tlt q).2.2.1
  · exact (flt q).2.2.2
theorem cP_no {cd : ClassFile.Cond} {x y : Int32} (q : ¬ cP cd x y) : if_icmp.holds cd x y = false := by
  cases cd
  · exact (feq q).1
  · exact (teq (Classical.not_not.mp q)).2
  · exact (flt q).1
  · exact (tlt (Classical.not_not.mp q)).2.1
  · exact (flt q).2.2.1
  · exact (tlt (Classical.not_not.mp q)).2.2.2
theorem g_iload (X : Wk p l e R s m args below meth c n1 Z Ts Lt T h cells slots) (hx : p.tables.exec = Jvm.exec) {k : Nat} {v : Int32} (hp : pc + 2 = pc') (hd : decode c.code pc = .ok (.iload k, 2)) (hl : Ls[k]? = some (.val (.int v))) (k : Go p e below s n0 Q nc ns (T.setTop (mkF m pc' Ls (.int v :: st)))) : Go p e below s n0 Q nc ns (T.setTop (mkF m pc Ls (st))) := by
  subst hp; exact go_back (fun _ j => XS.iload X.here hx rfl hd hl j) k
theorem g_iloadN (X : Wk p l e R s m args below meth c n1 Z Ts Lt T h cells slots) (hx : p.tables.exec = Jvm.exec) {k : Fin 4} {v : Int32} (hp : pc + 1 = pc') (hd : decode c.code pc = .ok (.iload_n k, 1)) (hl : Ls[k.val]? = some (.val (.int v))) (k : Go p e below s n0 Q nc ns (T.setTop (mkF m pc' Ls (.int v :: st)))) : Go p e below s n0 Q nc ns (T.setTop (mkF m pc Ls (st))) := by
  subst hp; exact go_back (fun _ j => XS.iloadN X.here hx rfl hd hl j) k
theorem g_istore (X : Wk p l e R s m args below meth c n1 Z Ts Lt T h cells slots) (hx : p.tables.exec = Jvm.exec) {k : Nat} {x : Int32} {l' : Array Slot} (hp : pc + 2 = pc') (hd : decode c.code pc = .ok (.istore k, 2)) (hl : storeLocals Ls k (.int x) = some l') (k : Go p e below s n0 Q nc ns (T.setTop (mkF m pc' l' (rest)))) : Go p e below s n0 Q nc ns (T.setTop (mkF m pc Ls (.int x :: rest))) := by
  subst hp; exact go_back (fun _ j => XS.istore X.here hx rfl hd rfl hl j) k
theorem g_istoreN (X : Wk p l e R s m args below meth c n1 Z Ts Lt T h cells slots) (hx : p.tables.exec = Jvm.exec) {k : Fin 4} {x : Int32} {l' : Array Slot} (hp : pc + 1 = pc') (hd : decode c.code pc = .ok (.istore_n k, 1)) (hl : storeLocals Ls k.val (.int x) = some l') (k : Go p e below s n0 Q nc ns (T.setTop (mkF m pc' l' (rest)))) : Go p e below s n0 Q nc ns (T.setTop (mkF m pc Ls (.int x :: rest))) := by
  subst hp; exact go_back (fun _ j => XS.istoreN X.here hx rfl hd rfl hl j) k
theorem g_absI {x : Int32} (k : ∀ z : Int32, z = x → Go p e below s n0 Q nc ns (T.setTop (mkF m pc Ls (.int z :: rest)))) : Go p e below s n0 Q nc ns (T.setTop (mkF m pc Ls (.int x :: rest))) := k x rfl
theorem g_lload (X : Wk p l e R s m args below meth c n1 Z Ts Lt T h cells slots) (hx : p.tables.exec = Jvm.exec) {k : Nat} {v : Int64} (hp : pc + 2 = pc') (hd : decode c.code pc = .ok (.lload k, 2)) (hl : Ls[k]? = some (.val (.long v))) (k : Go p e below s n0 Q nc ns (T.setTop (mkF m pc' Ls (.long v :: st)))) : Go p e below s n0 Q nc ns (T.setTop (mkF m pc Ls (st))) := by
  subst hp; exact go_back (fun _ j => XS.lload X.here hx rfl hd hl j) k
theorem g_lloadN (X : Wk p l e R s m args below meth c n1 Z Ts Lt T h cells slots) (hx : p.tables.exec = Jvm.exec) {k : Fin 4} {v : Int64} (hp : pc + 1 = pc') (hd : decode c.code pc = .ok (.lload_n k, 1)) (hl : Ls[k.val]? = some (.val (.long v))) (k : Go p e below s n0 Q nc ns (T.setTop (mkF m pc' Ls (.long v :: st)))) : Go p e below s n0 Q nc ns (T.setTop (mkF m pc Ls (st))) := by
  subst hp; exact go_back (fun _ j => XS.lloadN X.here hx rfl hd hl j) k
theorem g_lstore (X : Wk p l e R s m args below meth c n1 Z Ts Lt T h cells slots) (hx : p.tables.exec = Jvm.exec) {k : Nat} {x : Int64} {l' : Array Slot} (hp : pc + 2 = pc') (hd : decode c.code pc = .ok (.lstore k, 2)) (hl : storeLocals Ls k (.long x) = some l') (k : Go p e below s n0 Q nc ns (T.setTop (mkF m pc' l' (rest)))) : Go p e below s n0 Q nc ns (T.setTop (mkF m pc Ls (.long x :: rest))) := by
  subst hp; exact go_back (fun _ j => XS.lstore X.here hx rfl hd rfl hl j) k
theorem g_lstoreN (X : Wk p l e R s m args below meth c n1 Z Ts Lt T h cells slots) (hx : p.tables.exec = Jvm.exec) {k : Fin 4} {x : Int64} {l' : Array Slot} (hp : pc + 1 = pc') (hd : decode c.code pc = .ok (.lstore_n k, 1)) (hl : storeLocals Ls k.val (.long x) = some l') (k : Go p e below s n0 Q nc ns (T.setTop (mkF m pc' l' (rest)))) : Go p e below s n0 Q nc ns (T.setTop (mkF m pc Ls (.long x :: rest))) := by
  subst hp; exact go_back (fun _ j => XS.lstoreN X.here hx rfl hd rfl hl j) k
theorem g_absL {x : Int64} (k : ∀ z : Int64, z = x → Go p e below s n0 Q nc ns (T.setTop (mkF m pc Ls (.long z :: rest)))) : Go p e below s n0 Q nc ns (T.setTop (mkF m pc Ls (.long x :: rest))) := k x rfl
theorem g_dload (X : Wk p l e R s m args below meth c n1 Z Ts Lt T h cells slots) (hx : p.tables.exec = Jvm.exec) {k : Nat} {v : UInt64} (hp : pc + 2 = pc') (hd : decode c.code pc = .ok (.dload k, 2)) (hl : Ls[k]? = some (.val (.double v))) (k : Go p e below s n0 Q nc ns (T.setTop (mkF m pc' Ls (.double v :: st)))) : Go p e below s n0 Q nc ns (T.setTop (mkF m pc Ls (st))) := by
  subst hp; exact go_back (fun _ j => XS.dload X.here hx rfl hd hl j) k
theorem g_dloadN (X : Wk p l e R s m args below meth c n1 Z Ts Lt T h cells slots) (hx : p.tables.exec = Jvm.exec) {k : Fin 4} {v : UInt64} (hp : pc + 1 = pc') (hd : decode c.code pc = .ok (.dload_n k, 1)) (hl : Ls[k.val]? = some (.val (.double v))) (k : Go p e below s n0 Q nc ns (T.setTop (mkF m pc' Ls (.double v :: st)))) : Go p e below s n0 Q nc ns (T.setTop (mkF m pc Ls (st))) := by
  subst hp; exact go_back (fun _ j => XS.dloadN X.here hx rfl hd hl j) k
theorem g_dstore (X : Wk p l e R s m args below meth c n1 Z Ts Lt T h cells slots) (hx : p.tables.exec = Jvm.exec) {k : Nat} {x : UInt64} {l' : Array Slot} (hp : pc + 2 = pc') (hd : decode c.code pc = .ok (.dstore k, 2)) (hl : storeLocals Ls k (.double x) = some l') (k : Go p e below s n0 Q nc ns (T.setTop (mkF m pc' l' (rest)))) : Go p e below s n0 Q nc ns (T.setTop (mkF m pc Ls (.double x :: rest))) := by
  subst hp; exact go_back (fun _ j => XS.dstore X.here hx rfl hd rfl hl j) k
theorem g_dstoreN (X : Wk p l e R s m args below meth c n1 Z Ts Lt T h cells slots) (hx : p.tables.exec = Jvm.exec) {k : Fin 4} {x : UInt64} {l' : Array Slot} (hp : pc + 1 = pc') (hd : decode c.code pc = .ok (.dstore_n k, 1)) (hl : storeLocals Ls k.val (.double x) = some l') (k : Go p e below s n0 Q nc ns (T.setTop (mkF m pc' l' (rest)))) : Go p e below s n0 Q nc ns (T.setTop (mkF m pc Ls (.double x :: rest))) := by
  subst hp; exact go_back (fun _ j => XS.dstoreN X.here hx rfl hd rfl hl j) k
theorem g_absD {x : UInt64} (k : ∀ z : UInt64, z = x → Go p e below s n0 Q nc ns (T.setTop (mkF m pc Ls (.double z :: rest)))) : Go p e below s n0 Q nc ns (T.setTop (mkF m pc Ls (.double x :: rest))) := k x rfl
theorem g_aload (X : Wk p l e R s m args below meth c n1 Z Ts Lt T h cells slots) (hx : p.tables.exec = Jvm.exec) {k : Nat} {v : Value} (hp : pc + 2 = pc') (hd : decode c.code pc = .ok (.aload k, 2)) (hl : Ls[k]? = some (.val v)) (hv : v.isRef = true) (k : Go p e below s n0 Q nc ns (T.setTop (mkF m pc' Ls (v :: st)))) : Go p e below s n0 Q nc ns (T.setTop (mkF m pc Ls (st))) := by
  subst hp; exact go_back (fun _ j => XS.aload X.here hx rfl hd hl hv j) k
theorem g_aloadN (X : Wk p l e R s m args below meth c n1 Z Ts Lt T h cells slots) (hx : p.tables.exec = Jvm.exec) {k : Fin 4} {v : Value} (hp : pc + 1 = pc') (hd : decode c.code pc = .ok (.aload_n k, 1)) (hl : Ls[k.val]? = some (.val v)) (hv : v.isRef = true) (k : Go p e below s n0 Q nc ns (T.setTop (mkF m pc' Ls (v :: st)))) : Go p e below s n0 Q nc ns (T.setTop (mkF m pc Ls (st))) := by
  subst hp; exact go_back (fun _ j => XS.aloadN X.here hx rfl hd hl hv j) k
theorem g_astore (X : Wk p l e R s m args below meth c n1 Z Ts Lt T h cells slots) (hx : p.tables.exec = Jvm.exec) {k : Nat} {x : Value} {l' : Array Slot} (hp : pc + 2 = pc') (hd : decode c.code pc = .ok (.astore k, 2)) (hv : x.isRef = true) (hl : storeLocals Ls k x = some l') (k : Go p e below s n0 Q nc ns (T.setTop (mkF m pc' l' (rest)))) : Go p e below s n0 Q nc ns (T.setTop (mkF m pc Ls (x :: rest))) := by
  subst hp; exact go_back (fun _ j => XS.astore X.here hx rfl hd rfl hv hl j) k
theorem g_astoreN (X : Wk p l e R s m args below meth c n1 Z Ts Lt T h cells slots) (hx : p.tables.exec = Jvm.exec) {k : Fin 4} {x : Value} {l' : Array Slot} (hp : pc + 1 = pc') (hd : decode c.code pc = .ok (.astore_n k, 1)) (hv : x.isRef = true) (hl : storeLocals Ls k.val x = some l') (k : Go p e below s n0 Q nc ns (T.setTop (mkF m pc' l' (rest)))) : Go p e below s n0 Q nc ns (T.setTop (mkF m pc Ls (x :: rest))) := by
  subst hp; exact go_back (fun _ j => XS.astoreN X.here hx rfl hd rfl hv hl j) k
theorem g_iconst (X : Wk p l e R s m args below meth c n1 Z Ts Lt T h cells slots) (hx : p.tables.exec = Jvm.exec) {i : Int} {z : Int32} (hp : pc + 1 = pc') (hd : decode c.code pc = .ok (.iconst i, 1)) (hz : Int32.ofInt i = z) (k : Go p e below s n0 Q nc ns (T.setTop (mkF m pc' Ls (.int z :: st)))) : Go p e below s n0 Q nc ns (T.setTop (mkF m pc Ls (st))) := by
  subst hp; exact go_back (fun _ j => XS.iconst X.here hx rfl hd (show Steps _ _ _ (T.setTop (mkF m (pc + 1) Ls (.int (Int32.ofInt i) :: st))) _ from hz ▸ j)) k
theorem g_bipush (X : Wk p l e R s m args below meth c n1 Z Ts Lt T h cells slots) (hx : p.tables.exec = Jvm.exec) {i : Int} {z : Int32} (hp : pc + 2 = pc') (hd : decode c.code pc = .ok (.bipush i, 2)) (hz : (Int8.ofInt i).toInt32 = z) (k : Go p e below s n0 Q nc ns (T.setTop (mkF m pc' Ls (.int z :: st)))) : Go p e below s n0 Q nc ns (T.setTop (mkF m pc Ls (st))) := by
  subst hp; exact go_back (fun _ j => XS.bipush X.here hx rfl hd (show Steps _ _ _ (T.setTop (mkF m (pc + 2) Ls (.int (Int8.ofInt i).toInt32 :: st))) _ from hz ▸ j)) k
theorem g_sipush (X : Wk p l e R s m args below meth c n1 Z Ts Lt T h cells slots) (hx : p.tables.exec = Jvm.exec) {i : Int} {z : Int32} (hp : pc + 3 = pc') (hd : decode c.code pc = .ok (.sipush i, 3)) (hz : (Int16.ofInt i).toInt32 = z) (k : Go p e below s n0 Q nc ns (T.setTop (mkF m pc' Ls (.int z :: st)))) : Go p e below s n0 Q nc ns (T.setTop (mkF m pc Ls (st))) := by
  subst hp; exact go_back (fun _ j => XS.sipush X.here hx rfl hd (show Steps _ _ _ (T.setTop (mkF m (pc + 3) Ls (.int (Int16.ofInt i).toInt32 :: st))) _ from hz ▸ j)) k
theorem g_lconst (X : Wk p l e R s m args below meth c n1 Z Ts Lt T h cells slots) (hx : p.tables.exec = Jvm.exec) {i : Fin 2} {z : Int64} (hp : pc + 1 = pc') (hd : decode c.code pc = .ok (.lconst i, 1)) (hz : Int64.ofNat i = z) (k : Go p e below s n0 Q nc ns (T.setTop (mkF m pc' Ls (.long z :: st)))) : Go p e below s n0 Q nc ns (T.setTop (mkF m pc Ls (st))) := by
  subst hp; exact go_back (fun _ j => XS.lconst X.here hx rfl hd (show Steps _ _ _ (T.setTop (mkF m (pc + 1) Ls (.long (Int64.ofNat i) :: st))) _ from hz ▸ j)) k
theorem g_dconst0 (X : Wk p l e R s m args below meth c n1 Z Ts Lt T h cells slots) (hx : p.tables.exec = Jvm.exec)  (hp : pc + 1 = pc') (hd : decode c.code pc = .ok (.dconst 0, 1))  (k : Go p e below s n0 Q nc ns (T.setTop (mkF m pc' Ls (.double 0 :: st)))) : Go p e below s n0 Q nc ns (T.setTop (mkF m pc Ls (st))) := by
  subst hp; exact go_back (fun _ j => XS.dconst0 X.here hx rfl hd rfl j) k
theorem g_dconst1 (X : Wk p l e R s m args below meth c n1 Z Ts Lt T h cells slots) (hx : p.tables.exec = Jvm.exec)  (hp : pc + 1 = pc') (hd : decode c.code pc = .ok (.dconst 1, 1))  (k : Go p e below s n0 Q nc ns (T.setTop (mkF m pc' Ls (.double 4607182418800017408 :: st)))) : Go p e below s n0 Q nc ns (T.setTop (mkF m pc Ls (st))) := by
  subst hp; exact go_back (fun _ j => XS.dconst1 X.here hx rfl hd rfl j) k
theorem g_aconst_null (X : Wk p l e R s m args below meth c n1 Z Ts Lt T h cells slots) (hx : p.tables.exec = Jvm.exec)  (hp : pc + 1 = pc') (hd : decode c.code pc = .ok (.aconst_null, 1))  (k : Go p e below s n0 Q nc ns (T.setTop (mkF m pc' Ls (.null :: st)))) : Go p e below s n0 Q nc ns (T.setTop (mkF m pc Ls (st))) := by
  subst hp; exact go_back (fun _ j => XS.aconstNull X.here hx rfl hd j) k
theorem g_iadd (X : Wk p l e R s m args below meth c n1 Z Ts Lt T h cells slots) (hx : p.tables.exec = Jvm.exec) {x y : Int32} (hp : pc + 1 = pc') (hd : decode c.code pc = .ok (.iadd, 1))  (k : Go p e below s n0 Q nc ns (T.setTop (mkF m pc' Ls (.int (x + y) :: rest)))) : Go p e below s n0 Q nc ns (T.setTop (mkF m pc Ls (.int y :: .int x :: rest))) := by
  subst hp; exact go_back (fun _ j => XS.iadd X.here hx rfl hd rfl j) k
theorem g_ladd (X : Wk p l e R s m args below meth c n1 Z Ts Lt T h cells slots) (hx : p.tables.exec = Jvm.exec) {x y : Int64} (hp : pc + 1 = pc') (hd : decode c.code pc = .ok (.ladd, 1))  (k : Go p e below s n0 Q nc ns (T.setTop (mkF m pc' Ls (.long (x + y) :: rest)))) : Go p e below s n0 Q nc ns (T.setTop (mkF m pc Ls (.long y :: .long x :: rest))) := by
  subst hp; exact go_back (fun _ j => XS.ladd X.here hx rfl hd rfl j) k
theorem g_isub (X : Wk p l e R s m args below meth c n1 Z Ts Lt T h cells slots) (hx : p.tables.exec = Jvm.exec) {x y : Int32} (hp : pc + 1 = pc') (hd : decode c.code pc = .ok (.isub, 1))  (k : Go p e below s n0 Q nc ns (T.setTop (mkF m pc' Ls (.int (x - y) :: rest)))) : Go p e below s n0 Q nc ns (T.setTop (mkF m pc Ls (.int y :: .int x :: rest))) := by
  subst hp; exact go_back (fun _ j => XS.isub X.here hx rfl hd rfl j) k
theorem g_lsub (X : Wk p l e R s m args below meth c n1 Z Ts Lt T h cells slots) (hx : p.tables.exec = Jvm.exec) {x y : Int64} (hp : pc + 1 = pc') (hd : decode c.code pc = .ok (.lsub, 1))  (k : Go p e below s n0 Q nc ns (T.setTop (mkF m pc' Ls (.long (x - y) :: rest)))) : Go p e below s n0 Q nc ns (T.setTop (mkF m pc Ls (.long y :: .long x :: rest))) := by
  subst hp; exact go_back (fun _ j => XS.lsub X.here hx rfl hd rfl j) k
theorem g_imul (X : Wk p l e R s m args below meth c n1 Z Ts Lt T h cells slots) (hx : p.tables.exec = Jvm.exec) {x y : Int32} (hp : pc + 1 = pc') (hd : decode c.code pc = .ok (.imul, 1))  (k : Go p e below s n0 Q nc ns (T.setTop (mkF m pc' Ls (.int (x * y) :: rest)))) : Go p e below s n0 Q nc ns (T.setTop (mkF m pc Ls (.int y :: .int x :: rest))) := by
  subst hp; exact go_back (fun _ j => XS.imul X.here hx rfl hd rfl j) k
theorem g_lmul (X : Wk p l e R s m args below meth c n1 Z Ts Lt T h cells slots) (hx : p.tables.exec = Jvm.exec) {x y : Int64} (hp : pc + 1 = pc') (hd : decode c.code pc = .ok (.lmul, 1))  (k : Go p e below s n0 Q nc ns (T.setTop (mkF m pc' Ls (.long (x * y) :: rest)))) : Go p e below s n0 Q nc ns (T.setTop (mkF m pc Ls (.long y :: .long x :: rest))) := by
  subst hp; exact go_back (fun _ j => XS.lmul X.here hx rfl hd rfl j) k
theorem g_iand (X : Wk p l e R s m args below meth c n1 Z Ts Lt T h cells slots) (hx : p.tables.exec = Jvm.exec) {x y : Int32} (hp : pc + 1 = pc') (hd : decode c.code pc = .ok (.iand, 1))  (k : Go p e below s n0 Q nc ns (T.setTop (mkF m pc' Ls (.int (x &&& y) :: rest)))) : Go p e below s n0 Q nc ns (T.setTop (mkF m pc Ls (.int y :: .int x :: rest))) := by
  subst hp; exact go_back (fun _ j => XS.iand X.here hx rfl hd rfl j) k
theorem g_land (X : Wk p l e R s m args below meth c n1 Z Ts Lt T h cells slots) (hx : p.tables.exec = Jvm.exec) {x y : Int64} (hp : pc + 1 = pc') (hd : decode c.code pc = .ok (.land, 1))  (k : Go p e below s n0 Q nc ns (T.setTop (mkF m pc' Ls (.long (x &&& y) :: rest)))) : Go p e below s n0 Q nc ns (T.setTop (mkF m pc Ls (.long y :: .long x :: rest))) := by
  subst hp; exact go_back (fun _ j => XS.land X.here hx rfl hd rfl j) k
theorem g_ior (X : Wk p l e R s m args below meth c n1 Z Ts Lt T h cells slots) (hx : p.tables.exec = Jvm.exec) {x y : Int32} (hp : pc + 1 = pc') (hd : decode c.code pc = .ok (.ior, 1))  (k : Go p e below s n0 Q nc ns (T.setTop (mkF m pc' Ls (.int (x ||| y) :: rest)))) : Go p e below s n0 Q nc ns (T.setTop (mkF m pc Ls (.int y :: .int x :: rest))) := by
  subst hp; exact go_back (fun _ j => XS.ior X.here hx rfl hd rfl j) k
theorem g_lor (X : Wk p l e R s m args below meth c n1 Z Ts Lt T h cells slots) (hx : p.tables.exec = Jvm.exec) {x y : Int64} (hp : pc + 1 = pc') (hd : decode c.code pc = .ok (.lor, 1))  (k : Go p e below s n0 Q nc ns (T.setTop (mkF m pc' Ls (.long (x ||| y) :: rest)))) : Go p e below s n0 Q nc ns (T.setTop (mkF m pc Ls (.long y :: .long x :: rest))) := by
  subst hp; exact go_back (fun _ j => XS.lor X.here hx rfl hd rfl j) k
theorem g_ixor (X : Wk p l e R s m args below meth c n1 Z Ts Lt T h cells slots) (hx : p.tables.exec = Jvm.exec) {x y : Int32} (hp : pc + 1 = pc') (hd : decode c.code pc = .ok (.ixor, 1))  (k : Go p e below s n0 Q nc ns (T.setTop (mkF m pc' Ls (.int (x ^^^ y) :: rest)))) : Go p e below s n0 Q nc ns (T.setTop (mkF m pc Ls (.int y :: .int x :: rest))) := by
  subst hp; exact go_back (fun _ j => XS.ixor X.here hx rfl hd rfl j) k
theorem g_lxor (X : Wk p l e R s m args below meth c n1 Z Ts Lt T h cells slots) (hx : p.tables.exec = Jvm.exec) {x y : Int64} (hp : pc + 1 = pc') (hd : decode c.code pc = .ok (.lxor, 1))  (k : Go p e below s n0 Q nc ns (T.setTop (mkF m pc' Ls (.long (x ^^^ y) :: rest)))) : Go p e below s n0 Q nc ns (T.setTop (mkF m pc Ls (.long y :: .long x :: rest))) := by
  subst hp; exact go_back (fun _ j => XS.lxor X.here hx rfl hd rfl j) k
theorem g_idiv (X : Wk p l e R s m args below meth c n1 Z Ts Lt T h cells slots) (hx : p.tables.exec = Jvm.exec) {x y : Int32} (hp : pc + 1 = pc') (hd : decode c.code pc = .ok (.idiv, 1)) (hy : y ≠ 0) (k : Go p e below s n0 Q nc ns (T.setTop (mkF m pc' Ls (.int (x / y) :: rest)))) : Go p e below s n0 Q nc ns (T.setTop (mkF m pc Ls (.int y :: .int x :: rest))) := by
  subst hp; exact go_back (fun _ j => XS.idiv X.here hx rfl hd rfl hy j) k
theorem g_irem (X : Wk p l e R s m args below meth c n1 Z Ts Lt T h cells slots) (hx : p.tables.exec = Jvm.exec) {x y : Int32} (hp : pc + 1 = pc') (hd : decode c.code pc = .ok (.irem, 1)) (hy : y ≠ 0) (k : Go p e below s n0 Q nc ns (T.setTop (mkF m pc' Ls (.int (x % y) :: rest)))) : Go p e below s n0 Q nc ns (T.setTop (mkF m pc Ls (.int y :: .int x :: rest))) := by
  subst hp; obtain ⟨_, _, X, -⟩ := X; exact go_back (fun _ j => iremM X hx (g := mkF m pc Ls (.int y :: .int x :: rest)) rfl hd rfl hy j) k
theorem g_ldiv (X : Wk p l e R s m args below meth c n1 Z Ts Lt T h cells slots) (hx : p.tables.exec = Jvm.exec) {x y : Int64} (hp : pc + 1 = pc') (hd : decode c.code pc = .ok (.ldiv, 1)) (hy : y ≠ 0) (k : Go p e below s n0 Q nc ns (T.setTop (mkF m pc' Ls (.long (x / y) :: rest)))) : Go p e below s n0 Q nc ns (T.setTop (mkF m pc Ls (.long y :: .long x :: rest))) := by
  subst hp; exact go_back (fun _ j => XS.ldiv X.here hx rfl hd rfl hy j) k
theorem g_lrem (X : Wk p l e R s m args below meth c n1 Z Ts Lt T h cells slots) (hx : p.tables.exec = Jvm.exec) {x y : Int64} (hp : pc + 1 = pc') (hd : decode c.code pc = .ok (.lrem, 1)) (hy : y ≠ 0) (k : Go p e below s n0 Q nc ns (T.setTop (mkF m pc' Ls (.long (x - (x / y) * y) :: rest)))) : Go p e below s n0 Q nc ns (T.setTop (mkF m pc Ls (.long y :: .long x :: rest))) := by
  subst hp; exact go_back (fun _ j => XS.lrem X.here hx rfl hd rfl hy j) k
theorem g_ishl (X : Wk p l e R s m args below meth c n1 Z Ts Lt T h cells slots) (hx : p.tables.exec = Jvm.exec) {x y : Int32} (hp : pc + 1 = pc') (hd : decode c.code pc = .ok (.ishl, 1))  (k : Go p e below s n0 Q nc ns (T.setTop (mkF m pc' Ls (.int (x <<< (y &&& 31)) :: rest)))) : Go p e below s n0 Q nc ns (T.setTop (mkF m pc Ls (.int y :: .int x :: rest))) := by
  subst hp; exact go_back (fun _ j => XS.ishl X.here hx rfl hd rfl j) k
theorem g_ishr (X : Wk p l e R s m args below meth c n1 Z Ts Lt T h cells slots) (hx : p.tables.exec = Jvm.exec) {x y : Int32} (hp : pc + 1 = pc') (hd : decode c.code pc = .ok (.ishr, 1))  (k : Go p e below s n0 Q nc ns (T.setTop (mkF m pc' Ls (.int (x >>> (y &&& 31)) :: rest)))) : Go p e below s n0 Q nc ns (T.setTop (mkF m pc Ls (.int y :: .int x :: rest))) := by
  subst hp; exact go_back (fun _ j => XS.ishr X.here hx rfl hd rfl j) k
theorem g_iushr (X : Wk p l e R s m args below meth c n1 Z Ts Lt T h cells slots) (hx : p.tables.exec = Jvm.exec) {x y : Int32} (hp : pc + 1 = pc') (hd : decode c.code pc = .ok (.iushr, 1))  (k : Go p e below s n0 Q nc ns (T.setTop (mkF m pc' Ls (.int ((x.toUInt32 >>> (y &&& 31).toUInt32).toInt32) :: rest)))) : Go p e below s n0 Q nc ns (T.setTop (mkF m pc Ls (.int y :: .int x :: rest))) := by
  subst hp; exact go_back (fun _ j => XS.iushr X.here hx rfl hd rfl j) k
theorem g_lshl (X : Wk p l e R s m args below meth c n1 Z Ts Lt T h cells slots) (hx : p.tables.exec = Jvm.exec) {x : Int64} {y : Int32} (hp : pc + 1 = pc') (hd : decode c.code pc = .ok (.lshl, 1))  (k : Go p e below s n0 Q nc ns (T.setTop (mkF m pc' Ls (.long (x <<< (y &&& 0x3f).toInt64) :: rest)))) : Go p e below s n0 Q nc ns (T.setTop (mkF m pc Ls (.int y :: .long x :: rest))) := by
  subst hp; exact go_back (fun _ j => XS.lshl X.here hx rfl hd rfl j) k
theorem g_lshr (X : Wk p l e R s m args below meth c n1 Z Ts Lt T h cells slots) (hx : p.tables.exec = Jvm.exec) {x : Int64} {y : Int32} (hp : pc + 1 = pc') (hd : decode c.code pc = .ok (.lshr, 1))  (k : Go p e below s n0 Q nc ns (T.setTop (mkF m pc' Ls (.long (x >>> (y &&& 0x3f).toInt64) :: rest)))) : Go p e below s n0 Q nc ns (T.setTop (mkF m pc Ls (.int y :: .long x :: rest))) := by
  subst hp; exact go_back (fun _ j => XS.lshr X.here hx rfl hd rfl j) k
theorem g_lushr (X : Wk p l e R s m args below meth c n1 Z Ts Lt T h cells slots) (hx : p.tables.exec = Jvm.exec) {x : Int64} {y : Int32} (hp : pc + 1 = pc') (hd : decode c.code pc = .ok (.lushr, 1))  (k : Go p e below s n0 Q nc ns (T.setTop (mkF m pc' Ls (.long ((x.toUInt64 >>> (y &&& 0x3f).toInt64.toUInt64).toInt64) :: rest)))) : Go p e below s n0 Q nc ns (T.setTop (mkF m pc Ls (.int y :: .long x :: rest))) := by
  subst hp; exact go_back (fun _ j => XS.lushr X.here hx rfl hd rfl j) k
theorem g_ineg (X : Wk p l e R s m args below meth c n1 Z Ts Lt T h cells slots) (hx : p.tables.exec = Jvm.exec) {x : Int32} (hp : pc + 1 = pc') (hd : decode c.code pc = .ok (.ineg, 1))  (k : Go p e below s n0 Q nc ns (T.setTop (mkF m pc' Ls (.int (-x) :: rest)))) : Go p e below s n0 Q nc ns (T.setTop (mkF m pc Ls (.int x :: rest))) := by
  subst hp; exact go_back (fun _ j => XS.ineg X.here hx rfl hd rfl j) k
theorem g_lneg (X : Wk p l e R s m args below meth c n1 Z Ts Lt T h cells slots) (hx : p.tables.exec = Jvm.exec) {x : Int64} (hp : pc + 1 = pc') (hd : decode c.code pc = .ok (.lneg, 1))  (k : Go p e below s n0 Q nc ns (T.setTop (mkF m pc' Ls (.long (-x) :: rest)))) : Go p e below s n0 Q nc ns (T.setTop (mkF m pc Ls (.long x :: rest))) := by
  subst hp; exact go_back (fun _ j => XS.lneg X.here hx rfl hd rfl j) k
theorem g_i2l (X : Wk p l e R s m args below meth c n1 Z Ts Lt T h cells slots) (hx : p.tables.exec = Jvm.exec) {x : Int32} (hp : pc + 1 = pc') (hd : decode c.code pc = .ok (.i2l, 1))  (k : Go p e below s n0 Q nc ns (T.setTop (mkF m pc' Ls (.long x.toInt64 :: rest)))) : Go p e below s n0 Q nc ns (T.setTop (mkF m pc Ls (.int x :: rest))) := by
  subst hp; exact go_back (fun _ j => XS.i2l X.here hx rfl hd rfl j) k
theorem g_l2i (X : Wk p l e R s m args below meth c n1 Z Ts Lt T h cells slots) (hx : p.tables.exec = Jvm.exec) {x : Int64} (hp : pc + 1 = pc') (hd : decode c.code pc = .ok (.l2i, 1))  (k : Go p e below s n0 Q nc ns (T.setTop (mkF m pc' Ls (.int x.toInt32 :: rest)))) : Go p e below s n0 Q nc ns (T.setTop (mkF m pc Ls (.long x :: rest))) := by
  subst hp; exact go_back (fun _ j => XS.l2i X.here hx rfl hd rfl j) k
theorem g_i2b (X : Wk p l e R s m args below meth c n1 Z Ts Lt T h cells slots) (hx : p.tables.exec = Jvm.exec) {x : Int32} (hp : pc + 1 = pc') (hd : decode c.code pc = .ok (.i2b, 1))  (k : Go p e below s n0 Q nc ns (T.setTop (mkF m pc' Ls (.int x.toInt8.toInt32 :: rest)))) : Go p e below s n0 Q nc ns (T.setTop (mkF m pc Ls (.int x :: rest))) := by
  subst hp; exact go_back (fun _ j => XS.i2b X.here hx rfl hd rfl j) k
theorem g_i2s (X : Wk p l e R s m args below meth c n1 Z Ts Lt T h cells slots) (hx : p.tables.exec = Jvm.exec) {x : Int32} (hp : pc + 1 = pc') (hd : decode c.code pc = .ok (.i2s, 1))  (k : Go p e below s n0 Q nc ns (T.setTop (mkF m pc' Ls (.int x.toInt16.toInt32 :: rest)))) : Go p e below s n0 Q nc ns (T.setTop (mkF m pc Ls (.int x :: rest))) := by
  subst hp; exact go_back (fun _ j => XS.i2s X.here hx rfl hd rfl j) k
theorem g_i2c (X : Wk p l e R s m args below meth c n1 Z Ts Lt T h cells slots) (hx : p.tables.exec = Jvm.exec) {x : Int32} (hp : pc + 1 = pc') (hd : decode c.code pc = .ok (.i2c, 1))  (k : Go p e below s n0 Q nc ns (T.setTop (mkF m pc' Ls (.int x.toUInt32.toUInt16.toUInt32.toInt32 :: rest)))) : Go p e below s n0 Q nc ns (T.setTop (mkF m pc Ls (.int x :: rest))) := by
  subst hp; exact go_back (fun _ j => XS.i2c X.here hx rfl hd rfl j) k
theorem g_lcmp (X : Wk p l e R s m args below meth c n1 Z Ts Lt T h cells slots) (hx : p.tables.exec = Jvm.exec) {x y : Int64} (hp : pc + 1 = pc') (hd : decode c.code pc = .ok (.lcmp, 1))  (k : Go p e below s n0 Q nc ns (T.setTop (mkF m pc' Ls (.int (lcmpW x y) :: rest)))) : Go p e below s n0 Q nc ns (T.setTop (mkF m pc Ls (.long y :: .long x :: rest))) := by
  subst hp; exact go_back (fun _ j => XS.lcmp X.here hx rfl hd rfl j) k
theorem g_i2d (X : Wk p l e R s m args below meth c n1 Z Ts Lt T h cells slots) (hx : p.tables.exec = Jvm.exec) {x : Int32} (hp : pc + 1 = pc') (hd : decode c.code pc = .ok (.i2d, 1))  (k : Go p e below s n0 Q nc ns (T.setTop (mkF m pc' Ls (.double (FP.i2d x) :: rest)))) : Go p e below s n0 Q nc ns (T.setTop (mkF m pc Ls (.int x :: rest))) := by
  subst hp; exact go_back (fun _ j => XS.i2dS X.here hx rfl hd rfl rfl j) k
theorem g_l2d (X : Wk p l e R s m args below meth c n1 Z Ts Lt T h cells slots) (hx : p.tables.exec = Jvm.exec) {x : Int64} (hp : pc + 1 = pc') (hd : decode c.code pc = .ok (.l2d, 1))  (k : Go p e below s n0 Q nc ns (T.setTop (mkF m pc' Ls (.double (FP.l2d x) :: rest)))) : Go p e below s n0 Q nc ns (T.setTop (mkF m pc Ls (.long x :: rest))) := by
  subst hp; exact go_back (fun _ j => XS.l2dS X.here hx rfl hd rfl rfl j) k
theorem g_dneg (X : Wk p l e R s m args below meth c n1 Z Ts Lt T h cells slots) (hx : p.tables.exec = Jvm.exec) {x : UInt64} (hp : pc + 1 = pc') (hd : decode c.code pc = .ok (.dneg, 1))  (k : Go p e below s n0 Q nc ns (T.setTop (mkF m pc' Ls (.double (FP.dneg x) :: rest)))) : Go p e below s n0 Q nc ns (T.setTop (mkF m pc Ls (.double x :: rest))) := by
  subst hp; exact go_back (fun _ j => XS.dnegS X.here hx rfl hd rfl rfl j) k
theorem g_dcmp (X : Wk p l e R s m args below meth c n1 Z Ts Lt T h cells slots) (hx : p.tables.exec = Jvm.exec) {o : CmpOp} {x y : UInt64} {z : Int32} (hp : pc + 1 = pc') (hd : decode c.code pc = .ok (.dcmp o, 1)) (hz : cmpValue (FP.dcmp x y) o = z) (k : Go p e below s n0 Q nc ns (T.setTop (mkF m pc' Ls (.int z :: rest)))) : Go p e below s n0 Q nc ns (T.setTop (mkF m pc Ls (.double y :: .double x :: rest))) := by
  subst hp; exact go_back (fun _ j => XS.dcmpS X.here hx rfl hd rfl hz j) k
theorem g_dadd (X : Wk p l e R s m args below meth c n1 Z Ts Lt T h cells slots) (hx : p.tables.exec = Jvm.exec) {x y z : UInt64} (hp : pc + 1 = pc') (hd : decode c.code pc = .ok (.dadd, 1)) (hn : NoNaN64 (FP.dadd x y)) (hz : FP.dadd x y = z) (k : Go p e below s n0 Q nc ns (T.setTop (mkF m pc' Ls (.double z :: rest)))) : Go p e below s n0 Q nc ns (T.setTop (mkF m pc Ls (.double y :: .double x :: rest))) := by
  subst hp; exact go_back (fun _ j => XS.daddS X.here hx rfl hd rfl hn hz j) k
theorem g_dsub (X : Wk p l e R s m args below meth c n1 Z Ts Lt T h cells slots) (hx : p.tables.exec = Jvm.exec) {x y z : UInt64} (hp : pc + 1 = pc') (hd : decode c.code pc = .ok (.dsub, 1)) (hn : NoNaN64 (FP.dsub x y)) (hz : FP.dsub x y = z) (k : Go p e below s n0 Q nc ns (T.setTop (mkF m pc' Ls (.double z :: rest)))) : Go p e below s n0 Q nc ns (T.setTop (mkF m pc Ls (.double y :: .double x :: rest))) := by
  subst hp; exact go_back (fun _ j => XS.dsubS X.here hx rfl hd rfl hn hz j) k
theorem g_dmul (X : Wk p l e R s m args below meth c n1 Z Ts Lt T h cells slots) (hx : p.tables.exec = Jvm.exec) {x y z : UInt64} (hp : pc + 1 = pc') (hd : decode c.code pc = .ok (.dmul, 1)) (hn : NoNaN64 (FP.dmul x y)) (hz : FP.dmul x y = z) (k : Go p e below s n0 Q nc ns (T.setTop (mkF m pc' Ls (.double z :: rest)))) : Go p e below s n0 Q nc ns (T.setTop (mkF m pc Ls (.double y :: .double x :: rest))) := by
  subst hp; exact go_back (fun _ j => XS.dmulS X.here hx rfl hd rfl hn hz j) k
theorem g_ddiv (X : Wk p l e R s m args below meth c n1 Z Ts Lt T h cells slots) (hx : p.tables.exec = Jvm.exec) {x y z : UInt64} (hp : pc + 1 = pc') (hd : decode c.code pc = .ok (.ddiv, 1)) (hn : NoNaN64 (FP.ddiv x y)) (hz : FP.ddiv x y = z) (k : Go p e below s n0 Q nc ns (T.setTop (mkF m pc' Ls (.double z :: rest)))) : Go p e below s n0 Q nc ns (T.setTop (mkF m pc Ls (.double y :: .double x :: rest))) := by
  subst hp; exact go_back (fun _ j => XS.ddivS X.here hx rfl hd rfl hn hz j) k
theorem g_dup (X : Wk p l e R s m args below meth c n1 Z Ts Lt T h cells slots) (hx : p.tables.exec = Jvm.exec) {x : Value} (hp : pc + 1 = pc') (hd : decode c.code pc = .ok (.dup, 1)) (hc : x.category = 1) (k : Go p e below s n0 Q nc ns (T.setTop (mkF m pc' Ls (x :: x :: rest)))) : Go p e below s n0 Q nc ns (T.setTop (mkF m pc Ls (x :: rest))) := by
  subst hp; exact go_back (fun _ j => XS.dup X.here hx rfl hd rfl hc j) k
theorem g_dup_x1 (X : Wk p l e R s m args below meth c n1 Z Ts Lt T h cells slots) (hx : p.tables.exec = Jvm.exec) {x y : Value} (hp : pc + 1 = pc') (hd : decode c.code pc = .ok (.dup_x1, 1)) (hc : x.category = 1) (hc' : y.category = 1) (k : Go p e below s n0 Q nc ns (T.setTop (mkF m pc' Ls (x :: y :: x :: rest)))) : Go p e below s n0 Q nc ns (T.setTop (mkF m pc Ls (x :: y :: rest))) := by
  subst hp; exact go_back (fun _ j => XS.dupX1 X.here hx rfl hd rfl hc hc' j) k
theorem g_pop (X : Wk p l e R s m args below meth c n1 Z Ts Lt T h cells slots) (hx : p.tables.exec = Jvm.exec) {x : Value} (hp : pc + 1 = pc') (hd : decode c.code pc = .ok (.pop, 1)) (hc : x.category = 1) (k : Go p e below s n0 Q nc ns (T.setTop (mkF m pc' Ls (rest)))) : Go p e below s n0 Q nc ns (T.setTop (mkF m pc Ls (x :: rest))) := by
  subst hp; exact go_back (fun _ j => XS.pop X.here hx rfl hd rfl hc j) k
theorem g_dup2 (X : Wk p l e R s m args below meth c n1 Z Ts Lt T h cells slots) (hx : p.tables.exec = Jvm.exec) {x y : Value} (hp : pc + 1 = pc') (hd : decode c.code pc = .ok (.dup2, 1)) (hc : x.category = 1) (hc' : y.category = 1) (k : Go p e below s n0 Q nc ns (T.setTop (mkF m pc' Ls (x :: y :: x :: y :: rest)))) : Go p e below s n0 Q nc ns (T.setTop (mkF m pc Ls (x :: y :: rest))) := by
  subst hp; exact go_back (fun _ j => Jvm.Free.XT.dup2 X.here hx rfl hd rfl hc hc' j) k
theorem g_iinc (X : Wk p l e R s m args below meth c n1 Z Ts Lt T h cells slots) (hx : p.tables.exec = Jvm.exec) {k : Nat} {cst : Int} {x : Int32} {l' : Array Slot} (hp : pc + 3 = pc') (hd : decode c.code pc = .ok (.iinc k cst, 3)) (hl : Ls[k]? = some (.val (.int x))) (hl' : storeLocals Ls k (.int (x + Int32.ofInt cst)) = some l') (q : Go p e below s n0 Q nc ns (T.setTop (mkF m pc' l' st))) : Go p e below s n0 Q nc ns (T.setTop (mkF m pc Ls st)) := by
  subst hp; exact go_back (fun _ j => XS.iinc X.here hx rfl hd hl hl' j) q
theorem g_goto (X : Wk p l e R s m args below meth c n1 Z Ts Lt T h cells slots) (hx : p.tables.exec = Jvm.exec) {o : Int} (hd : decode c.code pc = .ok (.goto o, 3)) (ho : 0 ≤ (pc : Int) + o) (hp : ((pc : Int) + o).toNat = pc') (k : Go p e below s n0 Q nc ns (T.setTop (mkF m pc' Ls st))) : Go p e below s n0 Q nc ns (T.setTop (mkF m pc Ls st)) :=
  go_back (fun _ j => XS.goto X.here hx rfl rfl hd ho hp j) k
theorem g_ifY (X : Wk p l e R s m args below meth c n1 Z Ts Lt T h cells slots) (hx : p.tables.exec = Jvm.exec) {cd : ClassFile.Cond} {o : Int} {x : Int32} {pcY : Nat} (hd : decode c.code pc = .ok (.ifCond cd o, 3)) (ho : 0 ≤ (pc : Int) + o) (hY : ((pc : Int) + o).toNat = pcY) (q : cP cd x 0) (k : Go p e below s n0 Q nc ns (T.setTop (mkF m pcY Ls rest))) : Go p e below s n0 Q nc ns (T.setTop (mkF m pc Ls (.int x :: rest))) :=
  go_back (fun _ j => XS.ifYes X.here hx rfl rfl hd rfl ((if0 _ _).trans (cP_yes q)) ho hY j) k
theorem g_ifN (X : Wk p l e R s m args below meth c n1 Z Ts Lt T h cells slots) (hx : p.tables.exec = Jvm.exec) {cd : ClassFile.Cond} {o : Int} {x : Int32} {pcN : Nat} (hd : decode c.code pc = .ok (.ifCond cd o, 3)) (hN : pc + 3 = pcN) (q : ¬ cP cd x 0) (k : Go p e below s n0 Q nc ns (T.setTop (mkF m pcN Ls rest))) : Go p e below s n0 Q nc ns (T.setTop (mkF m pc Ls (.int x :: rest))) := by
  subst hN; exact go_back (fun _ j => XS.ifNo X.here hx rfl hd rfl ((if0 _ _).trans (cP_no q)) j) k
theorem g_if (X : Wk p l e R s m args below meth c n1 Z Ts Lt T h cells slots) (hx : p.tables.exec = Jvm.exec) {cd : ClassFile.Cond} {o : Int} {x : Int32} {pcY pcN : Nat} (hd : decode c.code pc = .ok (.ifCond cd o, 3)) (ho : 0 ≤ (pc : Int) + o) (hY : ((pc : Int) + o).toNat = pcY) (hN : pc + 3 = pcN) (kY : cP cd x 0 → Go p e below s n0 Q nc ns (T.setTop (mkF m pcY Ls rest))) (kN : ¬ cP cd x 0 → Go p e below s n0 Q nc ns (T.setTop (mkF m pcN Ls rest))) : Go p e below s n0 Q nc ns (T.setTop (mkF m pc Ls (.int x :: rest))) := by
  by_cases q : cP cd x 0
  · exact g_ifY X hx hd ho hY q (kY q)
  · exact g_ifN X hx hd hN q (kN q)
theorem g_icmpY (X : Wk p l e R s m args below meth c n1 Z Ts Lt T h cells slots) (hx : p.tables.exec = Jvm.exec) {cd : ClassFile.Cond} {o : Int} {x y : Int32} {pcY : Nat} (hd : decode c.code pc = .ok (.if_icmp cd o, 3)) (ho : 0 ≤ (pc : Int) + o) (hY : ((pc : Int) + o).toNat = pcY) (q : cP cd x y) (k : Go p e below s n0 Q nc ns (T.setTop (mkF m pcY Ls rest))) : Go p e below s n0 Q nc ns (T.setTop (mkF m pc Ls (.int y :: .int x :: rest))) :=
  go_back (fun _ j => XS.icmpYes X.here hx rfl rfl hd rfl (cP_yes q) ho hY j) k
theorem g_icmpN (X : Wk p l e R s m args below meth c n1 Z Ts Lt T h cells slots) (hx : p.tables.exec = Jvm.exec) {cd : ClassFile.Cond} {o : Int} {x y : Int32} {pcN : Nat} (hd : decode c.code pc = .ok (.if_icmp cd o, 3)) (hN : pc + 3 = pcN) (q : ¬ cP cd x y) (k : Go p e below s n0 Q nc ns (T.setTop (mkF m pcN Ls rest))) : Go p e below s n0 Q nc ns (T.setTop (mkF m pc Ls (.int y :: .int x :: rest))) := by
  subst hN; exact go_back (fun _ j => XS.icmpNo X.here hx rfl hd rfl (cP_no q) j) k
theorem g_icmp (X : Wk p l e R s m args below meth c n1 Z Ts Lt T h cells slots) (hx : p.tables.exec = Jvm.exec) {cd : ClassFile.Cond} {o : Int} {x y : Int32} {pcY pcN : Nat} (hd : decode c.code pc = .ok (.if_icmp cd o, 3)) (ho : 0 ≤ (pc : Int) + o) (hY : ((pc : Int) + o).toNat = pcY) (hN : pc + 3 = pcN) (kY : cP cd x y → Go p e below s n0 Q nc ns (T.setTop (mkF m pcY Ls rest))) (kN : ¬ cP cd x y → Go p e below s n0 Q nc ns (T.setTop (mkF m pcN Ls rest))) : Go p e below s n0 Q nc ns (T.setTop (mkF m pc Ls (.int y :: .int x :: rest))) := by
  by_cases q : cP cd x y
  · exact g_icmpY X hx hd ho hY q (kY q)
  · exact g_icmpN X hx hd hN q (kN q)
theorem g_ifnullY (X : Wk p l e R s m args below meth c n1 Z Ts Lt T h cells slots) (hx : p.tables.exec = Jvm.exec) {o : Int} {pcY : Nat} (hd : decode c.code pc = .ok (.ifnull o, 3)) (ho : 0 ≤ (pc : Int) + o) (hY : ((pc : Int) + o).toNat = pcY) (k : Go p e below s n0 Q nc ns (T.setTop (mkF m pcY Ls rest))) : Go p e below s n0 Q nc ns (T.setTop (mkF m pc Ls (.null :: rest))) :=
  go_back (fun _ j => XS.ifnullYes X.here hx rfl rfl hd rfl ho hY j) k
theorem g_ifnullN (X : Wk p l e R s m args below meth c n1 Z Ts Lt T h cells slots) (hx : p.tables.exec = Jvm.exec) {o : Int} {b : Addr} {pcN : Nat} (hd : decode c.code pc = .ok (.ifnull o, 3)) (hN : pc + 3 = pcN) (k : Go p e below s n0 Q nc ns (T.setTop (mkF m pcN Ls rest))) : Go p e below s n0 Q nc ns (T.setTop (mkF m pc Ls (.ref b :: rest))) := by
  subst hN; exact go_back (fun _ j => XS.ifnullNo X.here hx rfl hd rfl j) k
theorem g_ifnonnullY (X : Wk p l e R s m args below meth c n1 Z Ts Lt T h cells slots) (hx : p.tables.exec = Jvm.exec) {o : Int} {b : Addr} {pcY : Nat} (hd : decode c.code pc = .ok (.ifnonnull o, 3)) (ho : 0 ≤ (pc : Int) + o) (hY : ((pc : Int) + o).toNat = pcY) (k : Go p e below s n0 Q nc ns (T.setTop (mkF m pcY Ls rest))) : Go p e below s n0 Q nc ns (T.setTop (mkF m pc Ls (.ref b :: rest))) :=
  go_back (fun _ j => XS.ifnonnullYes X.here hx rfl rfl hd rfl ho hY j) k
theorem g_ifnonnullN (X : Wk p l e R s m args below meth c n1 Z Ts Lt T h cells slots) (hx : p.tables.exec = Jvm.exec) {o : Int} {pcN : Nat} (hd : decode c.code pc = .ok (.ifnonnull o, 3)) (hN : pc + 3 = pcN) (k : Go p e below s n0 Q nc ns (T.setTop (mkF m pcN Ls rest))) : Go p e below s n0 Q nc ns (T.setTop (mkF m pc Ls (.null :: rest))) := by
  subst hN; exact go_back (fun _ j => XS.ifnonnullNo X.here hx rfl hd rfl j) k
theorem g_normI {x z : Int32} (hz : x = z) (k : Go p e below s n0 Q nc ns (T.setTop (mkF m pc Ls (.int z :: rest)))) : Go p e below s n0 Q nc ns (T.setTop (mkF m pc Ls (.int x :: rest))) := hz ▸ k
theorem g_normD {x z : UInt64} (hz : x = z) (k : Go p e below s n0 Q nc ns (T.setTop (mkF m pc Ls (.double z :: rest)))) : Go p e below s n0 Q nc ns (T.setTop (mkF m pc Ls (.double x :: rest))) := hz ▸ k
theorem g_iincC (X : Wk p l e R s m args below meth c n1 Z Ts Lt T h cells slots) (hx : p.tables.exec = Jvm.exec) {k : Nat} {cst : Int} {x z : Int32} {l' : Array Slot} (hp : pc + 3 = pc') (hd : decode c.code pc = .ok (.iinc k cst, 3)) (hl : Ls[k]? = some (.val (.int x))) (hz : x + Int32.ofInt cst = z) (hl' : storeLocals Ls k (.int z) = some l') (q : Go p e below s n0 Q nc ns (T.setTop (mkF m pc' l' st))) : Go p e below s n0 Q nc ns (T.setTop (mkF m pc Ls st)) := by
  subst hz; exact g_iinc X hx hp hd hl hl' q
theorem g_ldcI (X : Wk p l e R s m args below meth c n1 Z Ts Lt T h cells slots) (hx : p.tables.exec = Jvm.exec) (hZ : Z.Warmed39 s.vm) {own : String} {index : Nat} {v : Int32} (hown : s.vm.findClass own = some m.cls) (w : (Jvm.Cond.constant own index v).before a0 Z = true) (hp : pc + 2 = pc') (hd : decode c.code pc = .ok (.ldc index, 2))
    (k : Go p e below s n0 Q nc ns (T.setTop (mkF m pc' Ls (.int v :: st)))) : Go p e below s n0 Q nc ns (T.setTop (mkF m pc Ls st)) := by
  subst hp; obtain ⟨_, _, X, -, -, B⟩ := X; replace hZ := B.hZ hZ; replace hown := B.fc hown
  exact go_back (X.ldcInt hx hown (mvT hZ w) (g := mkF m pc Ls st) rfl hd) k
theorem g_ldc2L (X : Wk p l e R s m args below meth c n1 Z Ts Lt T h cells slots) (hx : p.tables.exec = Jvm.exec) (hZ : Z.Warmed39 s.vm) {own : String} {index : Nat} {v : Int64} (hown : s.vm.findClass own = some m.cls) (w : (Jvm.Cond.constantLong own index v).before a0 Z = true) (hp : pc + 3 = pc') (hd : decode c.code pc = .ok (.ldc2_w index, 3))
    (k : Go p e below s n0 Q nc ns (T.setTop (mkF m pc' Ls (.long v :: st)))) : Go p e below s n0 Q nc ns (T.setTop (mkF m pc Ls st)) := by
  subst hp; obtain ⟨_, _, X, -, -, B⟩ := X; replace hZ := B.hZ hZ; replace hown := B.fc hown
  exact go_back (X.ldc2Long hx hown (mvT hZ w) (g := mkF m pc Ls st) rfl hd) k
theorem g_ldc2D (X : Wk p l e R s m args below meth c n1 Z Ts Lt T h cells slots) (hx : p.tables.exec = Jvm.exec) (hZ : Z.Warmed39 s.vm) {own : String} {index : Nat} {v : UInt64} (hown : s.vm.findClass own = some m.cls) (w : (Jvm.Cond.constantDouble own index v).before a0 Z = true) (hp : pc + 3 = pc') (hd : decode c.code pc = .ok (.ldc2_w index, 3))
    (k : Go p e below s n0 Q nc ns (T.setTop (mkF m pc' Ls (.double v :: st)))) : Go p e below s n0 Q nc ns (T.setTop (mkF m pc Ls st)) := by
  subst hp; obtain ⟨_, _, X, -, -, B⟩ := X; replace hZ := B.hZ hZ; replace hown := B.fc hown
  exact go_back (X.ldc2DoubleC hx hown (mvT hZ w) (g := mkF m pc Ls st) rfl hd) k
theorem g_getF (X : Wk p l e R s m args below meth c n1 Z Ts Lt T h cells slots) (hx : p.tables.exec = Jvm.exec) (hZ : Z.Warmed39 s.vm) {own R0 O n d : String} {index : Nat} (hown : s.vm.findClass own = some m.cls) (w : (Jvm.Cond.fieldLink own index R0 n d).before a0 Z = true) (via : Via Z R0 O n d) {a : Addr} {v : Value} (F : Fld Z h a O n d v) (hp : pc + 3 = pc') (hd : decode c.code pc = .ok (.getfield index, 3))
    (k : ∀ T', Wk p l e R s m args below meth c n1 Z Ts Lt T' h cells slots → Go p e below s n0 Q nc ns (T'.setTop (mkF m pc' Ls (v :: rest)))) : Go p e below s n0 Q nc ns (T.setTop (mkF m pc Ls (.ref a :: rest))) := by
  subst hp; obtain ⟨locs, vm0, X, N, eT, B⟩ := X; replace hZ := B.hZ hZ; replace hown := B.fc hown
  obtain ⟨T', X', e', b⟩ := getF X hx hZ hown (host := "") (Or.inl w) via eT F (g := mkF m pc Ls (.ref a :: rest)) rfl rfl hd
  exact go_back b (k T' ⟨locs, vm0, X', N, e', B⟩)
theorem g_getS (X : Wk p l e R s m args below meth c n1 Z Ts Lt T h cells slots) (hx : p.tables.exec = Jvm.exec) (hZ : Z.Warmed39 s.vm) {own R0 O n d : String} {index : Nat} (hown : s.vm.findClass own = some m.cls) (w : (Jvm.Cond.fieldLink own index R0 n d).before a0 Z = true) (via : Via Z R0 O n d) {v : Value} (F : Sta Z h O n d v) (hp : pc + 3 = pc') (hd : decode c.code pc = .ok (.getstatic index, 3))
    (k : ∀ T', Wk p l e R s m args below meth c n1 Z Ts Lt T' h cells slots → Go p e below s n0 Q nc ns (T'.setTop (mkF m pc' Ls (v :: st)))) : Go p e below s n0 Q nc ns (T.setTop (mkF m pc Ls st)) := by
  subst hp; obtain ⟨locs, vm0, X, N, eT, B⟩ := X; replace hZ := B.hZ hZ; replace hown := B.fc hown
  obtain ⟨T', X', e', b⟩ := getS X hx hZ hown w via eT F (g := mkF m pc Ls st) rfl hd (host := "")
  exact go_back b (k T' ⟨locs, vm0, X', N, e', B⟩)
theorem g_putF (X : Wk p l e R s m args below meth c n1 Z Ts Lt T h cells slots) (hx : p.tables.exec = Jvm.exec) (hZ : Z.Warmed39 s.vm) {own R0 O n d C : String} {index kk : Nat} {ty : FieldType} (hown : s.vm.findClass own = some m.cls) (w : (Jvm.Cond.fieldLink own index R0 n d).before a0 Z = true) (via : Via Z R0 O n d) {a : Addr} {v old : Value} (F : Fld Z h a O n d old) (E : Exa Z h a C)
    (L : (Jvm.Cond.lays C O n d).before a0 Z = true ∨ ((Jvm.Cond.laysFinal C O n d).before a0 Z = true ∧ own = O ∧ meth.name = "<init>")) (wi : (Jvm.Cond.instantiable C kk).before a0 Z = true) (hty : parseFieldDescriptor d = some ty) (hn : narrow ty v = v) (hf : fits ty v = true) (hna : n1 ≤ a) (hp : pc + 3 = pc') (hd : decode c.code pc = .ok (.putfield index, 3))
    (k : ∀ T' h', Wk p l e R s m args below meth c n1 Z Ts Lt T' h' cells slots → Wr h h' a (Jvm.RoadKit.slotOf Z O n d) v → Go p e below s n0 Q nc ns (T'.setTop (mkF m pc' Ls rest))) : Go p e below s n0 Q nc ns (T.setTop (mkF m pc Ls (v :: .ref a :: rest))) := by
  subst hp; obtain ⟨locs, vm0, X, N, eT, B⟩ := X; replace hZ := B.hZ hZ; replace hown := B.fc hown
  obtain ⟨T', h', X', e', W', b⟩ := putF X hx hZ hown (host := "") (Or.inl w) via eT F E L wi hty hn hf (g := mkF m pc Ls (v :: .ref a :: rest)) rfl rfl hd
  exact go_back b (k T' h' ⟨_, vm0, X', Fr.snoc X' N hna, e', B.grow (Nat.le_of_eq W'.size.symm)⟩ W')
theorem g_newO (X : Wk p l e R s m args below meth c n1 Z Ts Lt T h cells slots) (hx : p.tables.exec = Jvm.exec) (hZ : Z.Warmed39 s.vm) {own C : String} {index n : Nat} (hown : s.vm.findClass own = some m.cls) (w : (Jvm.Cond.classLink own index C).before a0 Z = true) (wi : (Jvm.Cond.instantiable C n).before a0 Z = true) (wz : (Jvm.Cond.initialized C).before a0 Z = true) (hp : pc + 3 = pc') (hd : decode c.code pc = .ok (.new index, 3)) (hc : cells + 1 ≤ R.cells) (hl : slots + n ≤ R.slots)
    (k : ∀ T' h' a, a = h.size → Wk p l e R s m args below meth c n1 Z Ts Lt T' h' (cells + 1) (slots + n) → Ext h h' → Exa Z h' a C → (∀ {O nm d : String} {ty : FieldType}, Laid Z a0 C O nm d → parseFieldDescriptor d = some ty → Fld Z h' a O nm d (defaultValue ty)) → Go p e below s n0 Q nc ns (T'.setTop (mkF m pc' Ls (.ref a :: st)))) : Go p e below s n0 Q nc ns (T.setTop (mkF m pc Ls st)) := by
  subst hp; obtain ⟨locs, vm0, X, N, eT, B⟩ := X; replace hZ := B.hZ hZ; replace hown := B.fc hown
  obtain ⟨T', h', X', e', E', A', D', -, b⟩ := newO X hx hZ hown w wi wz eT (g := mkF m pc Ls st) rfl hd hc hl
  exact go_back b (k T' h' h.size rfl ⟨_, vm0, X', N, e', B.grow E'.1⟩ E' A' (fun L q => D' L q))
theorem g_initO (X : Wk p l e R s m args below meth c n1 Z Ts Lt T h cells slots) (hx : p.tables.exec = Jvm.exec) (hZ : Z.Warmed39 s.vm) {own : String} {index : Nat} (hown : s.vm.findClass own = some m.cls) (w1 : (Jvm.Cond.methodLink own index Lib.objectInit).before a0 Z = true) (w2 : (Jvm.Cond.instanceMethod Lib.objectInit).before a0 Z = true) (w3 : (Jvm.Cond.code Lib.objectInit ⟨#[0xb1]⟩ 1 none).before a0 Z = true) {a : Addr} (hsz : Ls.size = c.maxLocals) (hp : pc + 3 = pc') (hd : decode c.code pc = .ok (.invokespecial index, 3)) (hf : 1 ≤ R.frames) {W : Nat} (hW : 2 * 0 + (rest.map fun v => v.category).sum ≤ W) (hl : W + 12 ≤ R.locals)
    (k : ∀ T', Wk p l e R s m args below meth c n1 Z Ts Lt T' h cells slots → Go p e below s n0 Q nc ns (T'.setTop (mkF m pc' Ls rest))) : Go p e below s n0 Q nc ns (T.setTop (mkF m pc Ls (.ref a :: rest))) := by
  subst hp; obtain ⟨locs, vm0, X, N, eT, B⟩ := X; replace hZ := B.hZ hZ; replace hown := B.fc hown
  obtain ⟨T', X', e', b⟩ := initO X hx hZ hown w1 w2 w3 eT (g := mkF m pc Ls (.ref a :: rest)) rfl hsz rfl hd hf hW hl
  exact go_back b (k T' ⟨_, vm0, X', N, e', B⟩)

theorem own_nf {s : State} {args : Array Value} {C : String} {y y' y0 : MethodName} (hcl : y'.cls = y.cls) (w : (Jvm.Cond.selects C y0 y').before args s = true) : NotFace s y := fun r0 h0 => by
  obtain ⟨c2, r2, m2, q1, q2, q3, q4, kP, hkP, hkPi⟩ := Cond.selects_spec w
  have a := findClass_of_methodNamed h0
  have b := findClass_of_methodNamed q3
  rw [hcl] at b
  have q : m2.cls = r0.cls := Option.some.inj (b.symm.trans a)
  rw [q] at hkP
  exact ⟨kP, hkP, hkPi⟩
theorem own_same {s : State} {args a1 : Array Value} {y : MethodName} (nf : NotFace s y) (wi : (Jvm.Cond.instanceMethod y).before args s = true) (hy : y.cls ≠ "java/lang/invoke/MethodHandle" ∧ y.cls ≠ "java/lang/invoke/VarHandle") : (Jvm.Cond.sameMethod y.cls y.cls y.name y.desc).before a1 s = true := by
  obtain ⟨mk, methM, hn, hm, -, -⟩ := Cond.instanceMethod_spec wi
  obtain ⟨kr, hk, hi⟩ := nf _ hn
  have hc := findClass_of_methodNamed hn
  have hn' : s.methodNamed? ⟨y.cls, y.name, y.desc⟩ = some mk := hn
  simp [Cond.before, Cond.holds, Cond.value, hc, State.methodFound?_of_named hn hy, hn', hk, hi]
/-- a private method, the word 'selects' said of a subclass -/
theorem own_privS {locs : List Loc} (X : Stand p l e R s m args below meth c T locs cells slots) (hexec : p.tables.exec = Jvm.exec) {own C : String} {index : Nat} {y : MethodName} {bytes : ByteArray} {maxL : Nat} {ret : Option FieldType}
    (hown : s.vm.findClass own = some m.cls) (hlink : (Cond.methodLink own index y).before args s = true) (hinst : (Cond.instanceMethod y).before args s = true) (hsel : (Cond.selects C y y).before args s = true)
    (hpriv : s.PrivateAt y) (hcode : (Cond.code y bytes maxL ret).before args s = true) (hy : y.cls ≠ "java/lang/invoke/MethodHandle" ∧ y.cls ≠ "java/lang/invoke/VarHandle")
    {W : Nat} {Pre : Free.Pt → Array Value → Prop} {Post : Free.Pt → Array Value → Option Value → Free.Pt → Prop} (hK : Free.BackS l R p e below s args y 3 W Pre Post)
    {g : JFrame} (hg : g.method = m) (hsize : g.locals.size = c.maxLocals) {s₀ : State} (hcome : Steps p.tables e below s₀ (T.setTop g)) {a : Addr} {cell : Cell} (hcell : T.heap[a]? = some cell) (hobj : ∀ q, cell.vm ≠ .statics q)
    {argsL rest : List Value} (hlen : ∀ sig, parseMethodDescriptor y.desc = some sig → argsL.length = sig.parameters.length)
    (hstack : g.stack = argsL.reverse ++ .ref a :: rest) (hW : 2 * g.monitorRoom + (rest.map fun v => v.category).sum ≤ W) (hdg : decode c.code g.pc = .ok (.invokevirtual index, 3))
    (hpre : ∀ vm₁, s.WarmedH vm₁ → Pre ⟨T.setVm vm₁, locs, cells, slots⟩ (.ref a :: argsL).toArray) :
    ∃ (v : Option Value) (vm₁ : Vm) (B : Free.Pt), s.WarmedH vm₁ ∧ Stand p l e R (s.setVm B.U.vm) m args below meth c B.U B.locs B.cells B.slots ∧ s.Since B.U.vm B.U.heap.size ∧ T.heap.size ≤ B.U.heap.size ∧ Post ⟨T.setVm vm₁, locs, cells, slots⟩ (.ref a :: argsL).toArray v B ∧
      Steps p.tables e below s₀ (B.U.setTop { g with pc := g.pc + 3, stack := v.toList ++ rest }) := by
  obtain ⟨mk, mM, hn, hmM, hst, hab⟩ := Cond.instanceMethod_spec hinst
  obtain ⟨m3, cM, hm3, -, -, -, -, -, -, hsig⟩ := Cond.code_spec hn hcode
  cases hmM.symm.trans hm3
  obtain ⟨c2, r2, m2, -, -, q3, -, kP, hkP, hkPi⟩ := Cond.selects_spec hsel
  cases hn.symm.trans q3
  obtain ⟨vm₁, X₁, st₁⟩ := X.invokevirtual hexec hown hlink hn hmM hst hkP hkPi hy (a := a) (cell := cell) hcell hobj (selectMethod_private hmM (hpriv mk mM hn hmM)) hmM hab hkP hkPi (g := g) hg (argsL := argsL) (rest := rest) (hlen _ hsig) hstack hdg
  obtain ⟨v, B, X', hS, hgr, hpost, hsteps⟩ := hK m meth c ⟨T.setVm vm₁, locs, cells, slots⟩ { g with stack := rest } (.invokevirtual index) mk (.ref a :: argsL).toArray X₁ hg hsize hdg hW (X₁.named hn) (hpre vm₁ X₁.warmed)
  exact ⟨v, vm₁, B, X₁.warmed, X', hS, hgr, hpost, (hcome.trans (st₁ _ fun acts => by rw [doInvoke_state]; exact Steps.refl _)).trans hsteps⟩
/-- more texts may be told of -/
theorem Wk.more (X : Wk p l e R s m args below meth c n1 Z Ts Lt T h cells slots) (q : ∀ t ∈ Ts, t ∈ Ts') : Wk p l e R s m args below meth c n1 Z Ts' Lt T h cells slots := by
  obtain ⟨locs, vm0, X, N, eT, B⟩ := X
  obtain ⟨w, ⟨more, e1, e2⟩, t⟩ := B
  exact ⟨locs, vm0, X, N, eT, w, ⟨more, e1, fun r hr => by obtain ⟨t, ht, u⟩ := e2 r hr; exact ⟨t, q t ht, u⟩⟩, t⟩
section Calls
variable {y z : MethodName} {bytes : ByteArray} {maxL : Nat} {ret : Option FieldType} {rm : Room} {as : Array Value} {Qc : Option Value → Heap → Prop} {own : String} {index W : Nat} {argsL : List Value} {ps : List FieldType} {r : Option FieldType}
theorem backW {len : Nat} (hM : Con l Z n1 Ts Ts' y bytes maxL ret [] rm as h Qc) (hZ : Z.Warmed39 vm0) (wc : (Jvm.Cond.code y bytes maxL ret).before a0 Z = true) (wz : (Jvm.Cond.initialized y.cls).before a0 Z = true) (hf : rm.frames + 1 ≤ R.frames) (hl : W + (maxL + 11) + rm.locals ≤ R.locals) (I : IB Z vm0 Ts) :
    BackS l R p e below (s.setVm vm0) args y len W (fun A a => a = as ∧ A.U.heap = h ∧ A.cells + rm.cells ≤ R.cells ∧ A.slots + rm.slots ≤ R.slots)
      (fun A _ v B => ∃ L, (Fr n1 L ∧ Qc v B.U.heap ∧ IB Z B.U.vm Ts') ∧ B.locs = A.locs ++ L ∧ B.cells = A.cells + rm.cells ∧ B.slots = A.slots + rm.slots) :=
  BackS.of_freeW (bytes := bytes) (maxL := maxL) (ret := ret) (E := fun _ first o t L k n => k = rm.cells ∧ n = rm.slots ∧ ∃ v, o = .returned v ∧ (Fr n1 L ∧ Qc v t.heap ∧ IB Z t.vm Ts')) hM hf hl
    (fun m meth c A a Y hp => have hU : Z.Warmed39 A.U.vm := wtrans (s := s.setVm vm0) hZ Y.warmed
      ⟨by show (Jvm.Cond.and _ .tt).before a A.U = true; rw [Cond.before_and, mv hU wc]; rfl, mv hU wc, mv hU wz, hp.2.2.1, hp.2.2.2⟩)
    (fun m meth c A a g mk Y hp => ⟨hp.1, wtrans (s := s.setVm vm0) hZ Y.warmed, hp.2.1, by
      obtain ⟨more, e1, e2⟩ := I
      exact ⟨more, (show A.U.vm.interned = _ from Y.warmed.interned_eq).trans e1, e2⟩⟩) (fun _ _ _ _ _ _ _ _ _ => trivial)
    (fun _ _ _ _ ⟨v, L, h1, h2, h3⟩ => ⟨L, _, _, h3, rfl, rfl, v, h1, h2⟩)
    (fun m meth c A a g mk v t L k n Y hp _ _ ⟨e1, e2, v', e3, e4⟩ => by cases e3; subst e1 e2; exact ⟨L, e4, rfl, rfl, rfl⟩)
theorem g_callS (X : Wk p l e R s m args below meth c n1 Z Ts Lt T h cells slots) (hx : p.tables.exec = Jvm.exec) (hZ : Z.Warmed39 s.vm) (hown : s.vm.findClass own = some m.cls) (w1 : (Jvm.Cond.methodLink own index y).before a0 Z = true) (w2 : (Jvm.Cond.static y).before a0 Z = true) (w3 : (Jvm.Cond.initialized y.cls).before a0 Z = true) (w4 : (Jvm.Cond.code y bytes maxL ret).before a0 Z = true) 
    (hy : y.cls ≠ "java/lang/invoke/MethodHandle" ∧ y.cls ≠ "java/lang/invoke/VarHandle") (hM : Con l Z n1 Ts Ts' y bytes maxL ret [] rm as h Qc) (hlen : parseMethodDescriptor y.desc = some ⟨ps, r⟩) (hl : argsL.length = ps.length) (has : as = argsL.toArray) (hsz : Ls.size = c.maxLocals) (hp : pc + 3 = pc') (hd : decode c.code pc = .ok (.invokestatic index, 3))
    (hst : st = argsL.reverse ++ rest) (hW : 2 * 0 + (rest.map fun v => v.category).sum ≤ W) (hf : rm.frames + 1 ≤ R.frames) (hlo : W + (maxL + 11) + rm.locals ≤ R.locals) (hc : cells + rm.cells ≤ R.cells) (hs : slots + rm.slots ≤ R.slots)
    (k : ∀ v T' h', Wk p l e R s m args below meth c n1 Z Ts' Lt T' h' (cells + rm.cells) (slots + rm.slots) → Qc v h' → Go p e below s n0 Q nc ns (T'.setTop (mkF m pc' Ls (v.toList ++ rest)))) : Go p e below s n0 Q nc ns (T.setTop (mkF m pc Ls st)) := by
  subst hp; subst has; obtain ⟨locs, vm0, X, N, eT, B⟩ := X; replace hZ := B.hZ hZ; replace hown := B.fc hown
  obtain ⟨v, vm1, ⟨U, L1, c1, s1⟩, -, X', hS, hgr, ⟨Lc, hQ, l1, y1, z1⟩, b⟩ := Jvm.RoadKit.callSS X hx hown (mvT hZ w1) (mvT hZ w2) (mvT hZ w3) (mvT hZ w4) hy (backW (W := W) hM hZ w4 w3 hf hlo B.ib) (g := mkF m pc Ls st) rfl hsz (argsL := argsL) (rest := rest) (lenOf hlen hl) hst hW hd (fun _ _ => ⟨rfl, eT, hc, hs⟩)
  dsimp only [Pt.U, Pt.locs, Pt.cells, Pt.slots] at X' l1 y1 z1 b hQ hS hgr
  subst l1 y1 z1
  exact go_back (fun _ j => b.trans j) (k v U U.heap ⟨_, U.vm, X', Fr.app N hQ.1, rfl, B.call hS (by rw [← eT]; exact hgr) (Nat.le_refl _) hQ.2.2⟩ hQ.2.1)
theorem g_callI (X : Wk p l e R s m args below meth c n1 Z Ts Lt T h cells slots) (hx : p.tables.exec = Jvm.exec) (hZ : Z.Warmed39 s.vm) (hown : s.vm.findClass own = some m.cls) (hy1 : y.name = "<init>") (w1 : (Jvm.Cond.methodLink own index y).before a0 Z = true) (w2 : (Jvm.Cond.instanceMethod y).before a0 Z = true) (w3 : (Jvm.Cond.initialized y.cls).before a0 Z = true) (w4 : (Jvm.Cond.code y bytes maxL none).before a0 Z = true) 
    (hy : y.cls ≠ "java/lang/invoke/MethodHandle" ∧ y.cls ≠ "java/lang/invoke/VarHandle") {a : Addr} (hM : Con l Z n1 Ts Ts' y bytes maxL none [] rm as h Qc) (hlen : parseMethodDescriptor y.desc = some ⟨ps, r⟩) (hl : argsL.length = ps.length) (has : as = (Value.ref a :: argsL).toArray) (hsz : Ls.size = c.maxLocals) (hp : pc + 3 = pc') (hd : decode c.code pc = .ok (.invokespecial index, 3))
    (hst : st = argsL.reverse ++ .ref a :: rest) (hW : 2 * 0 + (rest.map fun v => v.category).sum ≤ W) (hf : rm.frames + 1 ≤ R.frames) (hlo : W + (maxL + 11) + rm.locals ≤ R.locals) (hc : cells + rm.cells ≤ R.cells) (hs : slots + rm.slots ≤ R.slots)
    (k : ∀ v T' h', Wk p l e R s m args below meth c n1 Z Ts' Lt T' h' (cells + rm.cells) (slots + rm.slots) → Qc v h' → Go p e below s n0 Q nc ns (T'.setTop (mkF m pc' Ls (v.toList ++ rest)))) : Go p e below s n0 Q nc ns (T.setTop (mkF m pc Ls st)) := by
  subst hp; subst has; obtain ⟨locs, vm0, X, N, eT, B⟩ := X; replace hZ := B.hZ hZ; replace hown := B.fc hown
  obtain ⟨v, vm1, ⟨U, L1, c1, s1⟩, -, X', hS, hgr, ⟨Lc, hQ, l1, y1, z1⟩, b⟩ := X.specialBackS hx hy1 hown (mvT hZ w1) (mvT hZ w2) (mvT hZ w4) hy (backW (W := W) hM hZ w4 w3 hf hlo B.ib) (g := mkF m pc Ls st) rfl hsz (Steps.refl _) (argsL := argsL) (rest := rest) (lenOf hlen hl) hst hW hd (fun _ _ => ⟨rfl, eT, hc, hs⟩)
  dsimp only [Pt.U, Pt.locs, Pt.cells, Pt.slots] at X' l1 y1 z1 b hQ hS hgr
  subst l1 y1 z1
  exact go_back (fun _ j => b.trans j) (k v U U.heap ⟨_, U.vm, X', Fr.app N hQ.1, rfl, B.call hS (by rw [← eT]; exact hgr) (Nat.le_refl _) hQ.2.2⟩ hQ.2.1)
theorem g_callV (X : Wk p l e R s m args below meth c n1 Z Ts Lt T h cells slots) (hx : p.tables.exec = Jvm.exec) (hZ : Z.Warmed39 s.vm) (hown : s.vm.findClass own = some m.cls) {C : String} (w1 : (Jvm.Cond.methodLink own index y).before a0 Z = true) (w2 : (Jvm.Cond.declares y).before a0 Z = true) (w5 : (Jvm.Cond.selects C y y).before a0 Z = true) (w6 : (Jvm.Cond.instanceMethod y).before a0 Z = true) (w3 : (Jvm.Cond.initialized y.cls).before a0 Z = true) (w4 : (Jvm.Cond.code y bytes maxL ret).before a0 Z = true) 
    (hy : y.cls ≠ "java/lang/invoke/MethodHandle" ∧ y.cls ≠ "java/lang/invoke/VarHandle") {a : Addr} (E : Exa Z h a C) (hM : Con l Z n1 Ts Ts' y bytes maxL ret [] rm as h Qc) (hlen : parseMethodDescriptor y.desc = some ⟨ps, r⟩) (hl : argsL.length = ps.length) (has : as = (Value.ref a :: argsL).toArray) (hsz : Ls.size = c.maxLocals) (hp : pc + 3 = pc') (hd : decode c.code pc = .ok (.invokevirtual index, 3))
    (hst : st = argsL.reverse ++ .ref a :: rest) (hW : 2 * 0 + (rest.map fun v => v.category).sum ≤ W) (hf : rm.frames + 1 ≤ R.frames) (hlo : W + (maxL + 11) + rm.locals ≤ R.locals) (hc : cells + rm.cells ≤ R.cells) (hs : slots + rm.slots ≤ R.slots)
    (k : ∀ v T' h', Wk p l e R s m args below meth c n1 Z Ts' Lt T' h' (cells + rm.cells) (slots + rm.slots) → Qc v h' → Go p e below s n0 Q nc ns (T'.setTop (mkF m pc' Ls (v.toList ++ rest)))) : Go p e below s n0 Q nc ns (T.setTop (mkF m pc Ls st)) := by
  subst hp; subst has; obtain ⟨locs, vm0, X, N, eT, B⟩ := X; replace hZ := B.hZ hZ; replace hown := B.fc hown
  obtain ⟨cq, kq, qa, qb, qc⟩ := isOf hZ eT E
  obtain ⟨v, vm1, ⟨U, L1, c1, s1⟩, -, X', hS, hgr, ⟨Lc, hQ, l1, y1, z1⟩, b⟩ := X.virtualBackS hx (y := y) (z := y) hown (mvT hZ w1) (mvT hZ w2) (notFace_of_selects (args := #[]) (mvT hZ w5)) (mvT hZ w5) (mvT hZ w6) hy (backW (W := W) hM hZ w4 w3 hf hlo B.ib) qa qc (g := mkF m pc Ls st) rfl hsz (Steps.refl _) (argsL := argsL) (rest := rest) (lenOf hlen hl) hst hW hd (fun _ _ => ⟨rfl, eT, hc, hs⟩)
  dsimp only [Pt.U, Pt.locs, Pt.cells, Pt.slots] at X' l1 y1 z1 b hQ hS hgr
  subst l1 y1 z1
  exact go_back (fun _ j => b.trans j) (k v U U.heap ⟨_, U.vm, X', Fr.app N hQ.1, rfl, B.call hS (by rw [← eT]; exact hgr) (Nat.le_refl _) hQ.2.2⟩ hQ.2.1)
theorem g_callVS (X : Wk p l e R s m args below meth c n1 Z Ts Lt T h cells slots) (hx : p.tables.exec = Jvm.exec) (hZ : Z.Warmed39 s.vm) (hown : s.vm.findClass own = some m.cls) {C S : String} (w1 : (Jvm.Cond.methodLink own index y).before a0 Z = true) (w2 : (Jvm.Cond.declares y).before a0 Z = true) (w0 : (Jvm.Cond.superclass y.cls S).before a0 Z = true) (w5 : (Jvm.Cond.selects C y z).before a0 Z = true) (w6 : (Jvm.Cond.instanceMethod z).before a0 Z = true) (w3 : (Jvm.Cond.initialized z.cls).before a0 Z = true) (w4 : (Jvm.Cond.code z bytes maxL ret).before a0 Z = true) 
    (hy : y.cls ≠ "java/lang/invoke/MethodHandle" ∧ y.cls ≠ "java/lang/invoke/VarHandle") {a : Addr} (E : Exa Z h a C) (hM : Con l Z n1 Ts Ts' z bytes maxL ret [] rm as h Qc) (hlen : parseMethodDescriptor y.desc = some ⟨ps, r⟩) (hl : argsL.length = ps.length) (has : as = (Value.ref a :: argsL).toArray) (hsz : Ls.size = c.maxLocals) (hp : pc + 3 = pc') (hd : decode c.code pc = .ok (.invokevirtual index, 3))
    (hst : st = argsL.reverse ++ .ref a :: rest) (hW : 2 * 0 + (rest.map fun v => v.category).sum ≤ W) (hf : rm.frames + 1 ≤ R.frames) (hlo : W + (maxL + 11) + rm.locals ≤ R.locals) (hc : cells + rm.cells ≤ R.cells) (hs : slots + rm.slots ≤ R.slots)
    (k : ∀ v T' h', Wk p l e R s m args below meth c n1 Z Ts' Lt T' h' (cells + rm.cells) (slots + rm.slots) → Qc v h' → Go p e below s n0 Q nc ns (T'.setTop (mkF m pc' Ls (v.toList ++ rest)))) : Go p e below s n0 Q nc ns (T.setTop (mkF m pc Ls st)) := by
  subst hp; subst has; obtain ⟨locs, vm0, X, N, eT, B⟩ := X; replace hZ := B.hZ hZ; replace hown := B.fc hown
  obtain ⟨cq, kq, qa, qb, qc⟩ := isOf hZ eT E
  obtain ⟨v, vm1, ⟨U, L1, c1, s1⟩, -, X', hS, hgr, ⟨Lc, hQ, l1, y1, z1⟩, b⟩ := X.virtualBackS hx (y := y) (z := z) hown (mvT hZ w1) (mvT hZ w2) (nf_super (args := #[]) (mvT hZ w0)) (mvT hZ w5) (mvT hZ w6) hy (backW (W := W) hM hZ w4 w3 hf hlo B.ib) qa qc (g := mkF m pc Ls st) rfl hsz (Steps.refl _) (argsL := argsL) (rest := rest) (lenOf hlen hl) hst hW hd (fun _ _ => ⟨rfl, eT, hc, hs⟩)
  dsimp only [Pt.U, Pt.locs, Pt.cells, Pt.slots] at X' l1 y1 z1 b hQ hS hgr
  subst l1 y1 z1
  exact go_back (fun _ j => b.trans j) (k v U U.heap ⟨_, U.vm, X', Fr.app N hQ.1, rfl, B.call hS (by rw [← eT]; exact hgr) (Nat.le_refl _) hQ.2.2⟩ hQ.2.1)
theorem g_callVT (X : Wk p l e R s m args below meth c n1 Z Ts Lt T h cells slots) (hx : p.tables.exec = Jvm.exec) (hZ : Z.Warmed39 s.vm) (hown : s.vm.findClass own = some m.cls) {C : String} (w1 : (Jvm.Cond.methodLink own index y).before a0 Z = true) (w2 : (Jvm.Cond.declares y).before a0 Z = true) (w0 : (Jvm.Cond.noSuperclass y.cls).before a0 Z = true) (w5 : (Jvm.Cond.selects C y z).before a0 Z = true) (w6 : (Jvm.Cond.instanceMethod z).before a0 Z = true) (w3 : (Jvm.Cond.initialized z.cls).before a0 Z = true) (w4 : (Jvm.Cond.code z bytes maxL ret).before a0 Z = true) 
    (hy : y.cls ≠ "java/lang/invoke/MethodHandle" ∧ y.cls ≠ "java/lang/invoke/VarHandle") {a : Addr} (E : Exa Z h a C) (hM : Con l Z n1 Ts Ts' z bytes maxL ret [] rm as h Qc) (hlen : parseMethodDescriptor y.desc = some ⟨ps, r⟩) (hl : argsL.length = ps.length) (has : as = (Value.ref a :: argsL).toArray) (hsz : Ls.size = c.maxLocals) (hp : pc + 3 = pc') (hd : decode c.code pc = .ok (.invokevirtual index, 3))
    (hst : st = argsL.reverse ++ .ref a :: rest) (hW : 2 * 0 + (rest.map fun v => v.category).sum ≤ W) (hf : rm.frames + 1 ≤ R.frames) (hlo : W + (maxL + 11) + rm.locals ≤ R.locals) (hc : cells + rm.cells ≤ R.cells) (hs : slots + rm.slots ≤ R.slots)
    (k : ∀ v T' h', Wk p l e R s m args below meth c n1 Z Ts' Lt T' h' (cells + rm.cells) (slots + rm.slots) → Qc v h' → Go p e below s n0 Q nc ns (T'.setTop (mkF m pc' Ls (v.toList ++ rest)))) : Go p e below s n0 Q nc ns (T.setTop (mkF m pc Ls st)) := by
  subst hp; subst has; obtain ⟨locs, vm0, X, N, eT, B⟩ := X; replace hZ := B.hZ hZ; replace hown := B.fc hown
  obtain ⟨cq, kq, qa, qb, qc⟩ := isOf hZ eT E
  obtain ⟨v, vm1, ⟨U, L1, c1, s1⟩, -, X', hS, hgr, ⟨Lc, hQ, l1, y1, z1⟩, b⟩ := X.virtualBackS hx (y := y) (z := z) hown (mvT hZ w1) (mvT hZ w2) (nf_top (args := #[]) (mvT hZ w0)) (mvT hZ w5) (mvT hZ w6) hy (backW (W := W) hM hZ w4 w3 hf hlo B.ib) qa qc (g := mkF m pc Ls st) rfl hsz (Steps.refl _) (argsL := argsL) (rest := rest) (lenOf hlen hl) hst hW hd (fun _ _ => ⟨rfl, eT, hc, hs⟩)
  dsimp only [Pt.U, Pt.locs, Pt.cells, Pt.slots] at X' l1 y1 z1 b hQ hS hgr
  subst l1 y1 z1
  exact go_back (fun _ j => b.trans j) (k v U U.heap ⟨_, U.vm, X', Fr.app N hQ.1, rfl, B.call hS (by rw [← eT]; exact hgr) (Nat.le_refl _) hQ.2.2⟩ hQ.2.1)
theorem g_callIf (X : Wk p l e R s m args below meth c n1 Z Ts Lt T h cells slots) (hx : p.tables.exec = Jvm.exec) (hZ : Z.Warmed39 s.vm) (hown : s.vm.findClass own = some m.cls) {C : String} {count : Nat} (w1 : (Jvm.Cond.methodLink own index y).before a0 Z = true) (w2 : (Jvm.Cond.declares y).before a0 Z = true) (w7 : (Jvm.Cond.interfaceMethod y.cls y.cls y.name y.desc).before a0 Z = true) (hfa : ((Jvm.Cond.interfaceMethod y.cls y.cls y.name y.desc).onTables && (Jvm.Cond.interfaceMethod y.cls y.cls y.name y.desc).keepsFace) = true) (w5 : (Jvm.Cond.selects C y z).before a0 Z = true) (w6 : (Jvm.Cond.instanceMethod z).before a0 Z = true) (w8 : (Jvm.Cond.publicMethod z).before a0 Z = true) (w9 : (Jvm.Cond.unhidden C y.name y.desc).before a0 Z = true) (w10 : (Jvm.Cond.castable C y.cls).before a0 Z = true) (w3 : (Jvm.Cond.initialized z.cls).before a0 Z = true) (w4 : (Jvm.Cond.code z bytes maxL ret).before a0 Z = true) 
    (hy : y.cls ≠ "java/lang/invoke/MethodHandle" ∧ y.cls ≠ "java/lang/invoke/VarHandle") {a : Addr} (E : Exa Z h a C) (hM : Con l Z n1 Ts Ts' z bytes maxL ret [] rm as h Qc) (hlen : parseMethodDescriptor y.desc = some ⟨ps, r⟩) (hl : argsL.length = ps.length) (has : as = (Value.ref a :: argsL).toArray) (hsz : Ls.size = c.maxLocals) (hp : pc + 5 = pc') (hd : decode c.code pc = .ok (.invokeinterface index count, 5))
    (hst : st = argsL.reverse ++ .ref a :: rest) (hW : 2 * 0 + (rest.map fun v => v.category).sum ≤ W) (hf : rm.frames + 1 ≤ R.frames) (hlo : W + (maxL + 11) + rm.locals ≤ R.locals) (hc : cells + rm.cells ≤ R.cells) (hs : slots + rm.slots ≤ R.slots)
    (k : ∀ v T' h', Wk p l e R s m args below meth c n1 Z Ts' Lt T' h' (cells + rm.cells) (slots + rm.slots) → Qc v h' → Go p e below s n0 Q nc ns (T'.setTop (mkF m pc' Ls (v.toList ++ rest)))) : Go p e below s n0 Q nc ns (T.setTop (mkF m pc Ls st)) := by
  subst hp; subst has; obtain ⟨locs, vm0, X, N, eT, B⟩ := X; replace hZ := B.hZ hZ; replace hown := B.fc hown
  obtain ⟨cq, kq, qa, qb, qc⟩ := isOf hZ eT E
  obtain ⟨v, vm1, ⟨U, L1, c1, s1⟩, -, X', hS, hgr, ⟨Lc, hQ, l1, y1, z1⟩, b⟩ := X.interfaceBackS hx hown (mvT hZ w1) (mvT hZ w2) (mvT hZ w7 hfa) (mvT hZ w5) (mvT hZ w6) (mvT hZ w8) (mvT hZ w9) (mvT hZ w10) hy (backW (W := W) hM hZ w4 w3 hf hlo B.ib) qa qb qc (g := mkF m pc Ls st) rfl hsz (Steps.refl _) (argsL := argsL) (rest := rest) (lenOf hlen hl) hst hW hd (fun _ _ => ⟨rfl, eT, hc, hs⟩)
  dsimp only [Pt.U, Pt.locs, Pt.cells, Pt.slots] at X' l1 y1 z1 b hQ hS hgr
  subst l1 y1 z1
  exact go_back (fun _ j => b.trans j) (k v U U.heap ⟨_, U.vm, X', Fr.app N hQ.1, rfl, B.call hS (by rw [← eT]; exact hgr) (Nat.le_refl _) hQ.2.2⟩ hQ.2.1)
theorem g_callP (X : Wk p l e R s m args below meth c n1 Z Ts Lt T h cells slots) (hx : p.tables.exec = Jvm.exec) (hZ : Z.Warmed39 s.vm) (hown : s.vm.findClass own = some m.cls) {C : String} (w1 : (Jvm.Cond.methodLink own index y).before a0 Z = true) (w2 : (Jvm.Cond.instanceMethod y).before a0 Z = true) (w5 : (Jvm.Cond.selects y.cls y y).before a0 Z = true) (w6 : (Jvm.Cond.privateMethod y).before a0 Z = true) (w3 : (Jvm.Cond.initialized y.cls).before a0 Z = true) (w4 : (Jvm.Cond.code y bytes maxL ret).before a0 Z = true) 
    (hy : y.cls ≠ "java/lang/invoke/MethodHandle" ∧ y.cls ≠ "java/lang/invoke/VarHandle") {a : Addr} (E : Exa Z h a C) (hM : Con l Z n1 Ts Ts' y bytes maxL ret [] rm as h Qc) (hlen : parseMethodDescriptor y.desc = some ⟨ps, r⟩) (hl : argsL.length = ps.length) (has : as = (Value.ref a :: argsL).toArray) (hsz : Ls.size = c.maxLocals) (hp : pc + 3 = pc') (hd : decode c.code pc = .ok (.invokevirtual index, 3))
    (hst : st = argsL.reverse ++ .ref a :: rest) (hW : 2 * 0 + (rest.map fun v => v.category).sum ≤ W) (hf : rm.frames + 1 ≤ R.frames) (hlo : W + (maxL + 11) + rm.locals ≤ R.locals) (hc : cells + rm.cells ≤ R.cells) (hs : slots + rm.slots ≤ R.slots)
    (k : ∀ v T' h', Wk p l e R s m args below meth c n1 Z Ts' Lt T' h' (cells + rm.cells) (slots + rm.slots) → Qc v h' → Go p e below s n0 Q nc ns (T'.setTop (mkF m pc' Ls (v.toList ++ rest)))) : Go p e below s n0 Q nc ns (T.setTop (mkF m pc Ls st)) := by
  subst hp; subst has; obtain ⟨locs, vm0, X, N, eT, B⟩ := X; replace hZ := B.hZ hZ; replace hown := B.fc hown
  obtain ⟨cE, hE1, hE2⟩ := Exa.cell E
  obtain ⟨v, vm1, ⟨U, L1, c1, s1⟩, -, X', hS, hgr, ⟨Lc, hQ, l1, y1, z1⟩, b⟩ := X.privateBackS hx hown (mvT hZ w1) (mvT hZ w2) (mvT hZ w5) (Cond.privateMethod_at (args := #[]) (mvP hZ w6)) (mvT hZ w4) hy (backW (W := W) hM hZ w4 w3 hf hlo B.ib) (g := mkF m pc Ls st) rfl hsz (Steps.refl _) (a := a) (cell := cE) (by rw [eT]; exact hE1) hE2 (argsL := argsL) (rest := rest) (lenOf hlen hl) hst hW hd (fun _ _ => ⟨rfl, eT, hc, hs⟩)
  dsimp only [Pt.U, Pt.locs, Pt.cells, Pt.slots] at X' l1 y1 z1 b hQ hS hgr
  subst l1 y1 z1
  exact go_back (fun _ j => b.trans j) (k v U U.heap ⟨_, U.vm, X', Fr.app N hQ.1, rfl, B.call hS (by rw [← eT]; exact hgr) (Nat.le_refl _) hQ.2.2⟩ hQ.2.1)
theorem g_callSup (X : Wk p l e R s m args below meth c n1 Z Ts Lt T h cells slots) (hx : p.tables.exec = Jvm.exec) (hZ : Z.Warmed39 s.vm) (hown : s.vm.findClass own = some m.cls) {C C' : String} {y' y0 : MethodName} (hn : y.name ≠ "<init>") (w1 : (Jvm.Cond.methodLink own index y).before a0 Z = true) (w2 : (Jvm.Cond.instanceMethod y).before a0 Z = true) (hcl : y'.cls = y.cls) (w7 : (Jvm.Cond.selects C' y0 y').before a0 Z = true) (w8 : (Jvm.Cond.superclass own y.cls).before a0 Z = true) (w3 : (Jvm.Cond.initialized y.cls).before a0 Z = true) (w4 : (Jvm.Cond.code y bytes maxL ret).before a0 Z = true) 
    (hy : y.cls ≠ "java/lang/invoke/MethodHandle" ∧ y.cls ≠ "java/lang/invoke/VarHandle") {a : Addr} (E : Exa Z h a C) (hM : Con l Z n1 Ts Ts' y bytes maxL ret [] rm as h Qc) (hlen : parseMethodDescriptor y.desc = some ⟨ps, r⟩) (hl : argsL.length = ps.length) (has : as = (Value.ref a :: argsL).toArray) (hsz : Ls.size = c.maxLocals) (hp : pc + 3 = pc') (hd : decode c.code pc = .ok (.invokespecial index, 3))
    (hst : st = argsL.reverse ++ .ref a :: rest) (hW : 2 * 0 + (rest.map fun v => v.category).sum ≤ W) (hf : rm.frames + 1 ≤ R.frames) (hlo : W + (maxL + 11) + rm.locals ≤ R.locals) (hc : cells + rm.cells ≤ R.cells) (hs : slots + rm.slots ≤ R.slots)
    (k : ∀ v T' h', Wk p l e R s m args below meth c n1 Z Ts' Lt T' h' (cells + rm.cells) (slots + rm.slots) → Qc v h' → Go p e below s n0 Q nc ns (T'.setTop (mkF m pc' Ls (v.toList ++ rest)))) : Go p e below s n0 Q nc ns (T.setTop (mkF m pc Ls st)) := by
  subst hp; subst has; obtain ⟨locs, vm0, X, N, eT, B⟩ := X; replace hZ := B.hZ hZ; replace hown := B.fc hown
  obtain ⟨v, vm1, ⟨U, L1, c1, s1⟩, -, X', hS, hgr, ⟨Lc, hQ, l1, y1, z1⟩, b⟩ := superBackS X hx hZ hown w1 (own_same (own_nf hcl w7) w2 hy) w2 w8 hn (backW (W := W) hM hZ w4 w3 hf hlo B.ib) eT (Ins.self E) (g := mkF m pc Ls st) rfl hsz w4 (argsL := argsL) (rest := rest) (lenOf hlen hl) hst hW hd (fun _ _ => ⟨rfl, eT, hc, hs⟩)
  dsimp only [Pt.U, Pt.locs, Pt.cells, Pt.slots] at X' l1 y1 z1 b hQ hS hgr
  subst l1 y1 z1
  exact go_back (fun _ j => b.trans j) (k v U U.heap ⟨_, U.vm, X', Fr.app N hQ.1, rfl, B.call hS (by rw [← eT]; exact hgr) (Nat.le_refl _) hQ.2.2⟩ hQ.2.1)
theorem g_callVN (X : Wk p l e R s m args below meth c n1 Z Ts Lt T h cells slots) (hx : p.tables.exec = Jvm.exec) (hZ : Z.Warmed39 s.vm) (hown : s.vm.findClass own = some m.cls) {C : String} (w1 : (Jvm.Cond.methodLink own index y).before a0 Z = true) (w2 : (Jvm.Cond.declares y).before a0 Z = true) {C' : String} {y' y0 : MethodName} (hcl : y'.cls = y.cls) (w0 : (Jvm.Cond.selects C' y0 y').before a0 Z = true) (w5 : (Jvm.Cond.selects C y z).before a0 Z = true) (w6 : (Jvm.Cond.instanceMethod z).before a0 Z = true) (w3 : (Jvm.Cond.initialized z.cls).before a0 Z = true) (w4 : (Jvm.Cond.code z bytes maxL ret).before a0 Z = true) 
    (hy : y.cls ≠ "java/lang/invoke/MethodHandle" ∧ y.cls ≠ "java/lang/invoke/VarHandle") {a : Addr} (E : Exa Z h a C) (hM : Con l Z n1 Ts Ts' z bytes maxL ret [] rm as h Qc) (hlen : parseMethodDescriptor y.desc = some ⟨ps, r⟩) (hl : argsL.length = ps.length) (has : as = (Value.ref a :: argsL).toArray) (hsz : Ls.size = c.maxLocals) (hp : pc + 3 = pc') (hd : decode c.code pc = .ok (.invokevirtual index, 3))
    (hst : st = argsL.reverse ++ .ref a :: rest) (hW : 2 * 0 + (rest.map fun v => v.category).sum ≤ W) (hf : rm.frames + 1 ≤ R.frames) (hlo : W + (maxL + 11) + rm.locals ≤ R.locals) (hc : cells + rm.cells ≤ R.cells) (hs : slots + rm.slots ≤ R.slots)
    (k : ∀ v T' h', Wk p l e R s m args below meth c n1 Z Ts' Lt T' h' (cells + rm.cells) (slots + rm.slots) → Qc v h' → Go p e below s n0 Q nc ns (T'.setTop (mkF m pc' Ls (v.toList ++ rest)))) : Go p e below s n0 Q nc ns (T.setTop (mkF m pc Ls st)) := by
  subst hp; subst has; obtain ⟨locs, vm0, X, N, eT, B⟩ := X; replace hZ := B.hZ hZ; replace hown := B.fc hown
  obtain ⟨cq, kq, qa, qb, qc⟩ := isOf hZ eT E
  obtain ⟨v, vm1, ⟨U, L1, c1, s1⟩, -, X', hS, hgr, ⟨Lc, hQ, l1, y1, z1⟩, b⟩ := X.virtualBackS hx (y := y) (z := z) hown (mvT hZ w1) (mvT hZ w2) (own_nf (args := #[]) hcl (mvT hZ w0)) (mvT hZ w5) (mvT hZ w6) hy (backW (W := W) hM hZ w4 w3 hf hlo B.ib) qa qc (g := mkF m pc Ls st) rfl hsz (Steps.refl _) (argsL := argsL) (rest := rest) (lenOf hlen hl) hst hW hd (fun _ _ => ⟨rfl, eT, hc, hs⟩)
  dsimp only [Pt.U, Pt.locs, Pt.cells, Pt.slots] at X' l1 y1 z1 b hQ hS hgr
  subst l1 y1 z1
  exact go_back (fun _ j => b.trans j) (k v U U.heap ⟨_, U.vm, X', Fr.app N hQ.1, rfl, B.call hS (by rw [← eT]; exact hgr) (Nat.le_refl _) hQ.2.2⟩ hQ.2.1)
theorem g_callPS (X : Wk p l e R s m args below meth c n1 Z Ts Lt T h cells slots) (hx : p.tables.exec = Jvm.exec) (hZ : Z.Warmed39 s.vm) (hown : s.vm.findClass own = some m.cls) {C C' : String} (w1 : (Jvm.Cond.methodLink own index y).before a0 Z = true) (w2 : (Jvm.Cond.instanceMethod y).before a0 Z = true) (w5 : (Jvm.Cond.selects C' y y).before a0 Z = true) (w6 : (Jvm.Cond.privateMethod y).before a0 Z = true) (w3 : (Jvm.Cond.initialized y.cls).before a0 Z = true) (w4 : (Jvm.Cond.code y bytes maxL ret).before a0 Z = true) 
    (hy : y.cls ≠ "java/lang/invoke/MethodHandle" ∧ y.cls ≠ "java/lang/invoke/VarHandle") {a : Addr} (E : Exa Z h a C) (hM : Con l Z n1 Ts Ts' y bytes maxL ret [] rm as h Qc) (hlen : parseMethodDescriptor y.desc = some ⟨ps, r⟩) (hl : argsL.length = ps.length) (has : as = (Value.ref a :: argsL).toArray) (hsz : Ls.size = c.maxLocals) (hp : pc + 3 = pc') (hd : decode c.code pc = .ok (.invokevirtual index, 3))
    (hst : st = argsL.reverse ++ .ref a :: rest) (hW : 2 * 0 + (rest.map fun v => v.category).sum ≤ W) (hf : rm.frames + 1 ≤ R.frames) (hlo : W + (maxL + 11) + rm.locals ≤ R.locals) (hc : cells + rm.cells ≤ R.cells) (hs : slots + rm.slots ≤ R.slots)
    (k : ∀ v T' h', Wk p l e R s m args below meth c n1 Z Ts' Lt T' h' (cells + rm.cells) (slots + rm.slots) → Qc v h' → Go p e below s n0 Q nc ns (T'.setTop (mkF m pc' Ls (v.toList ++ rest)))) : Go p e below s n0 Q nc ns (T.setTop (mkF m pc Ls st)) := by
  subst hp; subst has; obtain ⟨locs, vm0, X, N, eT, B⟩ := X; replace hZ := B.hZ hZ; replace hown := B.fc hown
  obtain ⟨cE, hE1, hE2⟩ := Exa.cell E
  obtain ⟨v, vm1, ⟨U, L1, c1, s1⟩, -, X', hS, hgr, ⟨Lc, hQ, l1, y1, z1⟩, b⟩ := own_privS X hx hown (mvT hZ w1) (mvT hZ w2) (mvT hZ w5) (Cond.privateMethod_at (args := #[]) (mvP hZ w6)) (mvT hZ w4) hy (backW (W := W) hM hZ w4 w3 hf hlo B.ib) (g := mkF m pc Ls st) rfl hsz (Steps.refl _) (a := a) (cell := cE) (by rw [eT]; exact hE1) hE2 (argsL := argsL) (rest := rest) (lenOf hlen hl) hst hW hd (fun _ _ => ⟨rfl, eT, hc, hs⟩)
  dsimp only [Pt.U, Pt.locs, Pt.cells, Pt.slots] at X' l1 y1 z1 b hQ hS hgr
  subst l1 y1 z1
  exact go_back (fun _ j => b.trans j) (k v U U.heap ⟨_, U.vm, X', Fr.app N hQ.1, rfl, B.call hS (by rw [← eT]; exact hgr) (Nat.le_refl _) hQ.2.2⟩ hQ.2.1)
theorem g_nat (X : Wk p l e R s m args below meth c n1 Z Ts Lt T h cells slots) (hx : p.tables.exec = Jvm.exec) (hZ : Z.Warmed39 s.vm) (hown : s.vm.findClass own = some m.cls) (w1 : (Jvm.Cond.methodLink own index y).before a0 Z = true) (w2 : (Jvm.Cond.static y).before a0 Z = true) (w3 : (Jvm.Cond.initialized y.cls).before a0 Z = true) (w4 : (Jvm.Cond.code y bytes maxL ret).before a0 Z = true)
    (hy : y.cls ≠ "java/lang/invoke/MethodHandle" ∧ y.cls ≠ "java/lang/invoke/VarHandle") {F : Array Value → Prop} {val : Value} (hK : ∀ s', (Jvm.Cond.code y bytes maxL ret).before args s' = true → Back l R p e below s' args y 3 W (fun A a' => A.cells ≤ R.cells ∧ A.slots ≤ R.slots ∧ F a') (fun A _ v B => v = some val ∧ B = A)) (hlen : parseMethodDescriptor y.desc = some ⟨ps, r⟩) (hl : argsL.length = ps.length) (hsz : Ls.size = c.maxLocals) (hp : pc + 3 = pc') (hd : decode c.code pc = .ok (.invokestatic index, 3))
    (hst : st = argsL.reverse ++ rest) (hW : 2 * 0 + (rest.map fun v => v.category).sum ≤ W) (hc : cells ≤ R.cells) (hs : slots ≤ R.slots) (hF : F argsL.toArray)
    (k : ∀ T', Wk p l e R s m args below meth c n1 Z Ts Lt T' h cells slots → Go p e below s n0 Q nc ns (T'.setTop (mkF m pc' Ls (val :: rest)))) : Go p e below s n0 Q nc ns (T.setTop (mkF m pc Ls st)) := by
  subst hp; obtain ⟨locs, vm0, X, N, eT, B⟩ := X; replace hZ := B.hZ hZ; replace hown := B.fc hown
  obtain ⟨T', X', e', b⟩ := natS X hx hZ hown w1 w2 w3 w4 hy eT (hK _) (g := mkF m pc Ls st) rfl hsz (argsL := argsL) (rest := rest) (lenOf hlen hl) hst hW hd hc hs hF rfl
  exact go_back b (k T' ⟨_, vm0, X', N, e', B⟩)
end Calls
theorem g_absD2 (X : Wk p l e R s m args below meth c n1 Z Ts Lt T h cells slots) (hx : p.tables.exec = Jvm.exec) (hZ : Z.Warmed39 s.vm) {own : String} {index W : Nat} (hown : s.vm.findClass own = some m.cls) (w1 : (Jvm.Cond.methodLink own index Jvm.Free.Fl.Abs.absDN).before a0 Z = true) (w2 : (Jvm.Cond.static Jvm.Free.Fl.Abs.absDN).before a0 Z = true) (w3 : (Jvm.Cond.initialized Jvm.Free.Fl.Abs.absDN.cls).before a0 Z = true) (w4 : (Jvm.Cond.code Jvm.Free.Fl.Abs.absDN Jvm.Free.Fl.Abs.absDCode 2 (some .double)).before a0 Z = true)
    {x : UInt64} (hn : NoNaN64 x) (hsz : Ls.size = c.maxLocals) (hp : pc + 3 = pc') (hd : decode c.code pc = .ok (.invokestatic index, 3)) (hW : 2 * 0 + (rest.map fun v => v.category).sum ≤ W) (hf : 1 ≤ R.frames) (hlo : W + 13 ≤ R.locals) (hc : cells ≤ R.cells) (hs : slots ≤ R.slots)
    (k : ∀ T', Wk p l e R s m args below meth c n1 Z Ts Lt T' h cells slots → Go p e below s n0 Q nc ns (T'.setTop (mkF m pc' Ls (.double (x &&& 0x7fffffffffffffff) :: rest)))) : Go p e below s n0 Q nc ns (T.setTop (mkF m pc Ls (.double x :: rest))) :=
  g_nat X hx hZ hown w1 w2 w3 w4 (by decide) (fun _ q => Jvm.Free.Fl.Abs.absD_pays x q hf hlo) (ps := [.double]) (r := some .double) (by decide +kernel) (argsL := [.double x]) rfl hsz hp hd rfl hW hc hs ⟨rfl, hn⟩ k
theorem g_ret {Qv : Option Value → Heap → Prop} (X : Wk p l e R s m args below meth c n1 Z Ts Lt T h cells slots) (hx : p.tables.exec = Jvm.exec) (hlk : meth.locks = false) {t : FieldType} {w : Value} {i : Instr} (hret : meth.sig.returnType = some t) (hn : narrow t w = w)
    (hi : (i = .ireturn ∧ (t = .int ∨ t = .boolean ∨ t = .byte ∨ t = .char ∨ t = .short) ∧ ∃ z, w = .int z) ∨ (i = .lreturn ∧ t = .long ∧ ∃ z, w = .long z) ∨ (i = .dreturn ∧ t = .double ∧ ∃ z, w = .double z) ∨ (i = .freturn ∧ t = .float ∧ ∃ z, w = .float z) ∨ (i = .areturn ∧ t.isReference = true ∧ w.isRef = true))
    (hd : decode c.code pc = .ok (i, 1)) (hc : cells ≤ nc) (hs : slots ≤ ns) (hle : n0 ≤ n1) (hQ : Qv (some w) h) : Go p e below s n0 ⟨Z, Ts, Qv⟩ nc ns (T.setTop (mkF m pc Ls (w :: rest))) := by
  obtain ⟨locs, vm0, X, N, eT, ⟨⟨k0, hS, hk⟩, I, -⟩⟩ := X
  obtain ⟨fs, hr, hrun, hended, hE⟩ := X.leaveW hS (by rw [eT]; exact hk) (v := some w) (fun q => by rw [hret] at q; cases q) hlk
  exact ⟨_, _, retOut X hx hret hn hi hd hr, hrun, hended, _, _, rfl, ⟨fun y hy => Nat.le_trans hle (N y hy), by show Qv (some w) T.heap; rw [eT]; exact hQ, by obtain ⟨more, e1, e2⟩ := I; exact ⟨more, (show T.vm.interned = _ from X.warmed.interned_eq).trans e1, e2⟩⟩, hE.1, hE.2.1, hE.2.2.1, hE.2.2.2.mono hc hs⟩
theorem g_retI {Qv : Option Value → Heap → Prop} (X : Wk p l e R s m args below meth c n1 Z Ts Lt T h cells slots) (hx : p.tables.exec = Jvm.exec) (hlk : meth.locks = false) {z : Int32} (hret : meth.sig.returnType = some .int) (hd : decode c.code pc = .ok (.ireturn, 1)) (hc : cells ≤ nc) (hs : slots ≤ ns) (hle : n0 ≤ n1) (hQ : Qv (some (.int z)) h) : Go p e below s n0 ⟨Z, Ts, Qv⟩ nc ns (T.setTop (mkF m pc Ls (.int z :: rest))) :=
  g_ret X hx hlk hret rfl (Or.inl ⟨rfl, Or.inl rfl, z, rfl⟩) hd hc hs hle hQ
theorem g_retZ {Qv : Option Value → Heap → Prop} (X : Wk p l e R s m args below meth c n1 Z Ts Lt T h cells slots) (hx : p.tables.exec = Jvm.exec) (hlk : meth.locks = false) {z : Int32} (hret : meth.sig.returnType = some .boolean) (hz : z = 0 ∨ z = 1) (hd : decode c.code pc = .ok (.ireturn, 1)) (hc : cells ≤ nc) (hs : slots ≤ ns) (hle : n0 ≤ n1) (hQ : Qv (some (.int z)) h) : Go p e below s n0 ⟨Z, Ts, Qv⟩ nc ns (T.setTop (mkF m pc Ls (.int z :: rest))) :=
  g_ret X hx hlk hret (by rcases hz with rfl | rfl <;> rfl) (Or.inl ⟨rfl, Or.inr (Or.inl rfl), z, rfl⟩) hd hc hs hle hQ
theorem g_retL {Qv : Option Value → Heap → Prop} (X : Wk p l e R s m args below meth c n1 Z Ts Lt T h cells slots) (hx : p.tables.exec = Jvm.exec) (hlk : meth.locks = false) {z : Int64} (hret : meth.sig.returnType = some .long) (hd : decode c.code pc = .ok (.lreturn, 1)) (hc : cells ≤ nc) (hs : slots ≤ ns) (hle : n0 ≤ n1) (hQ : Qv (some (.long z)) h) : Go p e below s n0 ⟨Z, Ts, Qv⟩ nc ns (T.setTop (mkF m pc Ls (.long z :: rest))) :=
  g_ret X hx hlk hret rfl (Or.inr (Or.inl ⟨rfl, rfl, z, rfl⟩)) hd hc hs hle hQ
theorem g_retD {Qv : Option Value → Heap → Prop} (X : Wk p l e R s m args below meth c n1 Z Ts Lt T h cells slots) (hx : p.tables.exec = Jvm.exec) (hlk : meth.locks = false) {z : UInt64} (hret : meth.sig.returnType = some .double) (hd : decode c.code pc = .ok (.dreturn, 1)) (hc : cells ≤ nc) (hs : slots ≤ ns) (hle : n0 ≤ n1) (hQ : Qv (some (.double z)) h) : Go p e below s n0 ⟨Z, Ts, Qv⟩ nc ns (T.setTop (mkF m pc Ls (.double z :: rest))) :=
  g_ret X hx hlk hret rfl (Or.inr (Or.inr (Or.inl ⟨rfl, rfl, z, rfl⟩))) hd hc hs hle hQ
theorem g_retV {Qv : Option Value → Heap → Prop} (X : Wk p l e R s m args below meth c n1 Z Ts Lt T h cells slots) (hx : p.tables.exec = Jvm.exec) (hlk : meth.locks = false) (hret : meth.sig.returnType = none) (hd : decode c.code pc = .ok (.return_, 1)) (hc : cells ≤ nc) (hs : slots ≤ ns) (hle : n0 ≤ n1) (hQ : Qv none h) : Go p e below s n0 ⟨Z, Ts, Qv⟩ nc ns (T.setTop (mkF m pc Ls [])) := by
  obtain ⟨locs, vm0, X, N, eT, ⟨⟨k0, hS, hk⟩, I, -⟩⟩ := X
  obtain ⟨fs, hr, hrun, hended, hE⟩ := X.leaveW hS (by rw [eT]; exact hk) (v := none) (fun _ => rfl) hlk
  exact ⟨_, _, X.returnOut hx hret hd hr, hrun, hended, _, _, rfl, ⟨fun y hy => Nat.le_trans hle (N y hy), by show Qv none T.heap; rw [eT]; exact hQ, by obtain ⟨more, e1, e2⟩ := I; exact ⟨more, (show T.vm.interned = _ from X.warmed.interned_eq).trans e1, e2⟩⟩, hE.1, hE.2.1, hE.2.2.1, hE.2.2.2.mono hc hs⟩

end OwnKit
theorem hD {c : Code} {code : ByteArray} (h : c.code = code) {pc : Nat} {r : Except ClassFile.DecodeError (ClassFile.Instr × Nat)} (h2 : decode code pc = r) : decode c.code pc = r := h ▸ h2
theorem wat {Z : State} {a0 : Array Value} (hw : ∀ d ∈ tables_1, d.before a0 Z = true) (i : Nat) {d : Jvm.Cond} (q : tables_1[i]? = some d) : d.before a0 Z = true := hw _ (List.mem_of_getElem? q)
theorem d1_0 : decode prog_13_method_1_code 0 = .ok (.aload_n 0, 1) := by decide +kernel
theorem d1_1 : decode prog_13_method_1_code 1 = .ok (.invokespecial 1, 3) := by decide +kernel
theorem d1_4 : decode prog_13_method_1_code 4 = .ok (.iload_n 1, 1) := by decide +kernel
theorem d1_5 : decode prog_13_method_1_code 5 = .ok (.iconst 1, 1) := by decide +kernel
theorem d1_6 : decode prog_13_method_1_code 6 = .ok (.if_icmp .ge 17, 3) := by decide +kernel
theorem d1_23 : decode prog_13_method_1_code 23 = .ok (.aload_n 2, 1) := by decide +kernel
theorem d1_24 : decode prog_13_method_1_code 24 = .ok (.ldc 16, 2) := by decide +kernel
theorem d1_26 : decode prog_13_method_1_code 26 = .ok (.invokestatic 18, 3) := by decide +kernel
theorem d1_29 : decode prog_13_method_1_code 29 = .ok (.checkcast 24, 3) := by decide +kernel
theorem d1_32 : decode prog_13_method_1_code 32 = .ok (.invokevirtual 26, 3) := by decide +kernel
theorem d1_35 : decode prog_13_method_1_code 35 = .ok (.ifCond .eq 13, 3) := by decide +kernel
theorem d1_48 : decode prog_13_method_1_code 48 = .ok (.dload_n 3, 1) := by decide +kernel
theorem d1_49 : decode prog_13_method_1_code 49 = .ok (.dconst 0, 1) := by decide +kernel
theorem d1_50 : decode prog_13_method_1_code 50 = .ok (.dcmp .l, 1) := by decide +kernel
theorem d1_51 : decode prog_13_method_1_code 51 = .ok (.ifCond .lt 10, 3) := by decide +kernel
theorem d1_54 : decode prog_13_method_1_code 54 = .ok (.dload_n 3, 1) := by decide +kernel
theorem d1_55 : decode prog_13_method_1_code 55 = .ok (.invokestatic 32, 3) := by decide +kernel
theorem d1_58 : decode prog_13_method_1_code 58 = .ok (.ifCond .ne 17, 3) := by decide +kernel
theorem d1_75 : decode prog_13_method_1_code 75 = .ok (.aload_n 0, 1) := by decide +kernel
theorem d1_76 : decode prog_13_method_1_code 76 = .ok (.iload_n 1, 1) := by decide +kernel
theorem d1_77 : decode prog_13_method_1_code 77 = .ok (.putfield 41, 3) := by decide +kernel
theorem d1_80 : decode prog_13_method_1_code 80 = .ok (.aload_n 0, 1) := by decide +kernel
theorem d1_81 : decode prog_13_method_1_code 81 = .ok (.aload_n 2, 1) := by decide +kernel
theorem d1_82 : decode prog_13_method_1_code 82 = .ok (.putfield 47, 3) := by decide +kernel
theorem d1_85 : decode prog_13_method_1_code 85 = .ok (.aload_n 0, 1) := by decide +kernel
theorem d1_86 : decode prog_13_method_1_code 86 = .ok (.dload_n 3, 1) := by decide +kernel
theorem d1_87 : decode prog_13_method_1_code 87 = .ok (.putfield 50, 3) := by decide +kernel
theorem d1_90 : decode prog_13_method_1_code 90 = .ok (.return_, 1) := by decide +kernel
theorem d3_0 : decode jdk_31_method_11_code 0 = .ok (.aload_n 0, 1) := by decide +kernel
theorem d3_1 : decode jdk_31_method_11_code 1 = .ok (.ifnonnull 12, 3) := by decide +kernel
theorem d3_13 : decode jdk_31_method_11_code 13 = .ok (.aload_n 0, 1) := by decide +kernel
theorem d3_14 : decode jdk_31_method_11_code 14 = .ok (.areturn, 1) := by decide +kernel
theorem d4_0 : decode jdk_42_method_55_code 0 = .ok (.aload_n 0, 1) := by decide +kernel
theorem d4_1 : decode jdk_42_method_55_code 1 = .ok (.getfield 9, 3) := by decide +kernel
theorem d4_4 : decode jdk_42_method_55_code 4 = .ok (.arraylength, 1) := by decide +kernel
theorem d4_5 : decode jdk_42_method_55_code 5 = .ok (.ifCond .ne 7, 3) := by decide +kernel
theorem d4_12 : decode jdk_42_method_55_code 12 = .ok (.iconst 0, 1) := by decide +kernel
theorem d4_13 : decode jdk_42_method_55_code 13 = .ok (.ireturn, 1) := by decide +kernel
theorem d5_0 : decode jdk_117_method_8_code 0 = .ok (.dload_n 0, 1) := by decide +kernel
theorem d5_1 : decode jdk_117_method_8_code 1 = .ok (.invokestatic 38, 3) := by decide +kernel
theorem d5_4 : decode jdk_117_method_8_code 4 = .ok (.ldc2_w 111, 3) := by decide +kernel
theorem d5_7 : decode jdk_117_method_8_code 7 = .ok (.dcmp .g, 1) := by decide +kernel
theorem d5_8 : decode jdk_117_method_8_code 8 = .ok (.ifCond .gt 7, 3) := by decide +kernel
theorem d5_11 : decode jdk_117_method_8_code 11 = .ok (.iconst 1, 1) := by decide +kernel
theorem d5_12 : decode jdk_117_method_8_code 12 = .ok (.goto 4, 3) := by decide +kernel
theorem d5_16 : decode jdk_117_method_8_code 16 = .ok (.ireturn, 1) := by decide +kernel
theorem d7_0 : decode prog_48_method_1_code 0 = .ok (.aload_n 0, 1) := by decide +kernel
theorem d7_1 : decode prog_48_method_1_code 1 = .ok (.invokespecial 1, 3) := by decide +kernel
theorem d7_4 : decode prog_48_method_1_code 4 = .ok (.aload_n 0, 1) := by decide +kernel
theorem d7_5 : decode prog_48_method_1_code 5 = .ok (.ldc2_w 9, 3) := by decide +kernel
theorem d7_8 : decode prog_48_method_1_code 8 = .ok (.putfield 11, 3) := by decide +kernel
theorem d7_11 : decode prog_48_method_1_code 11 = .ok (.aload_n 0, 1) := by decide +kernel
theorem d7_12 : decode prog_48_method_1_code 12 = .ok (.ldc2_w 9, 3) := by decide +kernel
theorem d7_15 : decode prog_48_method_1_code 15 = .ok (.putfield 17, 3) := by decide +kernel
theorem d7_18 : decode prog_48_method_1_code 18 = .ok (.aload_n 0, 1) := by decide +kernel
theorem d7_19 : decode prog_48_method_1_code 19 = .ok (.invokestatic 20, 3) := by decide +kernel
theorem d7_22 : decode prog_48_method_1_code 22 = .ok (.putfield 26, 3) := by decide +kernel
theorem d7_25 : decode prog_48_method_1_code 25 = .ok (.aload_n 0, 1) := by decide +kernel
theorem d7_26 : decode prog_48_method_1_code 26 = .ok (.iload_n 1, 1) := by decide +kernel
theorem d7_27 : decode prog_48_method_1_code 27 = .ok (.putfield 30, 3) := by decide +kernel
theorem d7_30 : decode prog_48_method_1_code 30 = .ok (.aload_n 0, 1) := by decide +kernel
theorem d7_31 : decode prog_48_method_1_code 31 = .ok (.aload_n 2, 1) := by decide +kernel
theorem d7_32 : decode prog_48_method_1_code 32 = .ok (.putfield 34, 3) := by decide +kernel
theorem d7_35 : decode prog_48_method_1_code 35 = .ok (.aload_n 0, 1) := by decide +kernel
theorem d7_36 : decode prog_48_method_1_code 36 = .ok (.aload_n 3, 1) := by decide +kernel
theorem d7_37 : decode prog_48_method_1_code 37 = .ok (.putfield 38, 3) := by decide +kernel
theorem d7_40 : decode prog_48_method_1_code 40 = .ok (.aload_n 0, 1) := by decide +kernel
theorem d7_41 : decode prog_48_method_1_code 41 = .ok (.dload 4, 2) := by decide +kernel
theorem d7_43 : decode prog_48_method_1_code 43 = .ok (.putfield 41, 3) := by decide +kernel
theorem d7_46 : decode prog_48_method_1_code 46 = .ok (.return_, 1) := by decide +kernel
theorem d8_0 : decode jdk_40_method_36_code 0 = .ok (.getstatic 90, 3) := by decide +kernel
theorem d8_3 : decode jdk_40_method_36_code 3 = .ok (.areturn, 1) := by decide +kernel
theorem d9_0 : decode prog_48_method_6_code 0 = .ok (.aload_n 0, 1) := by decide +kernel
theorem d9_1 : decode prog_48_method_6_code 1 = .ok (.getfield 44, 3) := by decide +kernel
theorem d9_4 : decode prog_48_method_6_code 4 = .ok (.ifnull 7, 3) := by decide +kernel
theorem d9_7 : decode prog_48_method_6_code 7 = .ok (.iconst 1, 1) := by decide +kernel
theorem d9_8 : decode prog_48_method_6_code 8 = .ok (.goto 4, 3) := by decide +kernel
theorem d9_11 : decode prog_48_method_6_code 11 = .ok (.iconst 0, 1) := by decide +kernel
theorem d9_12 : decode prog_48_method_6_code 12 = .ok (.ireturn, 1) := by decide +kernel
theorem d10_0 : decode jdk_42_method_139_code 0 = .ok (.getstatic 38, 3) := by decide +kernel
theorem d10_3 : decode jdk_42_method_139_code 3 = .ok (.ifCond .eq 23, 3) := by decide +kernel
theorem d10_6 : decode jdk_42_method_139_code 6 = .ok (.iload_n 0, 1) := by decide +kernel
theorem d10_7 : decode jdk_42_method_139_code 7 = .ok (.invokestatic 1015, 3) := by decide +kernel
theorem d10_10 : decode jdk_42_method_139_code 10 = .ok (.ifCond .eq 16, 3) := by decide +kernel
theorem d10_13 : decode jdk_42_method_139_code 13 = .ok (.new 10, 3) := by decide +kernel
theorem d10_16 : decode jdk_42_method_139_code 16 = .ok (.dup, 1) := by decide +kernel
theorem d10_17 : decode jdk_42_method_139_code 17 = .ok (.iload_n 0, 1) := by decide +kernel
theorem d10_18 : decode jdk_42_method_139_code 18 = .ok (.invokestatic 1018, 3) := by decide +kernel
theorem d10_21 : decode jdk_42_method_139_code 21 = .ok (.iconst 0, 1) := by decide +kernel
theorem d10_22 : decode jdk_42_method_139_code 22 = .ok (.invokespecial 209, 3) := by decide +kernel
theorem d10_25 : decode jdk_42_method_139_code 25 = .ok (.areturn, 1) := by decide +kernel
theorem d11_0 : decode jdk_43_method_3_code 0 = .ok (.iload_n 0, 1) := by decide +kernel
theorem d11_1 : decode jdk_43_method_3_code 1 = .ok (.sipush 255, 3) := by decide +kernel
theorem d11_4 : decode jdk_43_method_3_code 4 = .ok (.if_icmp .gt 7, 3) := by decide +kernel
theorem d11_7 : decode jdk_43_method_3_code 7 = .ok (.iconst 1, 1) := by decide +kernel
theorem d11_8 : decode jdk_43_method_3_code 8 = .ok (.goto 4, 3) := by decide +kernel
theorem d11_12 : decode jdk_43_method_3_code 12 = .ok (.ireturn, 1) := by decide +kernel
theorem d12_0 : decode jdk_43_method_46_code 0 = .ok (.iconst 1, 1) := by decide +kernel
theorem d12_1 : decode jdk_43_method_46_code 1 = .ok (.newarray .byte, 2) := by decide +kernel
theorem d12_3 : decode jdk_43_method_46_code 3 = .ok (.dup, 1) := by decide +kernel
theorem d12_4 : decode jdk_43_method_46_code 4 = .ok (.iconst 0, 1) := by decide +kernel
theorem d12_5 : decode jdk_43_method_46_code 5 = .ok (.iload_n 0, 1) := by decide +kernel
theorem d12_6 : decode jdk_43_method_46_code 6 = .ok (.i2b, 1) := by decide +kernel
theorem d12_7 : decode jdk_43_method_46_code 7 = .ok (.bastore, 1) := by decide +kernel
theorem d12_8 : decode jdk_43_method_46_code 8 = .ok (.areturn, 1) := by decide +kernel
theorem d13_0 : decode jdk_42_method_151_code 0 = .ok (.aload_n 0, 1) := by decide +kernel
theorem d13_1 : decode jdk_42_method_151_code 1 = .ok (.invokespecial 1, 3) := by decide +kernel
theorem d13_4 : decode jdk_42_method_151_code 4 = .ok (.aload_n 0, 1) := by decide +kernel
theorem d13_5 : decode jdk_42_method_151_code 5 = .ok (.aload_n 1, 1) := by decide +kernel
theorem d13_6 : decode jdk_42_method_151_code 6 = .ok (.putfield 9, 3) := by decide +kernel
theorem d13_9 : decode jdk_42_method_151_code 9 = .ok (.aload_n 0, 1) := by decide +kernel
theorem d13_10 : decode jdk_42_method_151_code 10 = .ok (.iload_n 2, 1) := by decide +kernel
theorem d13_11 : decode jdk_42_method_151_code 11 = .ok (.putfield 15, 3) := by decide +kernel
theorem d13_14 : decode jdk_42_method_151_code 14 = .ok (.return_, 1) := by decide +kernel
theorem d14_0 : decode prog_48_method_17_code 0 = .ok (.aload_n 0, 1) := by decide +kernel
theorem d14_1 : decode prog_48_method_17_code 1 = .ok (.getfield 44, 3) := by decide +kernel
theorem d14_4 : decode prog_48_method_17_code 4 = .ok (.ifnonnull 16, 3) := by decide +kernel
theorem d14_7 : decode prog_48_method_17_code 7 = .ok (.aload_n 0, 1) := by decide +kernel
theorem d14_8 : decode prog_48_method_17_code 8 = .ok (.aload_n 1, 1) := by decide +kernel
theorem d14_9 : decode prog_48_method_17_code 9 = .ok (.putfield 44, 3) := by decide +kernel
theorem d14_12 : decode prog_48_method_17_code 12 = .ok (.aload_n 0, 1) := by decide +kernel
theorem d14_13 : decode prog_48_method_17_code 13 = .ok (.dload_n 2, 1) := by decide +kernel
theorem d14_14 : decode prog_48_method_17_code 14 = .ok (.putfield 11, 3) := by decide +kernel
theorem d14_17 : decode prog_48_method_17_code 17 = .ok (.goto 31, 3) := by decide +kernel
theorem d14_20 : decode prog_48_method_17_code 20 = .ok (.aload_n 0, 1) := by decide +kernel
theorem d14_21 : decode prog_48_method_17_code 21 = .ok (.getfield 26, 3) := by decide +kernel
theorem d14_24 : decode prog_48_method_17_code 24 = .ok (.aload_n 0, 1) := by decide +kernel
theorem d14_25 : decode prog_48_method_17_code 25 = .ok (.getfield 26, 3) := by decide +kernel
theorem d14_28 : decode prog_48_method_17_code 28 = .ok (.invokeinterface 83 1, 5) := by decide +kernel
theorem d14_33 : decode prog_48_method_17_code 33 = .ok (.iconst 1, 1) := by decide +kernel
theorem d14_34 : decode prog_48_method_17_code 34 = .ok (.isub, 1) := by decide +kernel
theorem d14_35 : decode prog_48_method_17_code 35 = .ok (.invokeinterface 63 2, 5) := by decide +kernel
theorem d14_40 : decode prog_48_method_17_code 40 = .ok (.checkcast 67, 3) := by decide +kernel
theorem d14_43 : decode prog_48_method_17_code 43 = .ok (.aload_n 1, 1) := by decide +kernel
theorem d14_44 : decode prog_48_method_17_code 44 = .ok (.dload_n 2, 1) := by decide +kernel
theorem d14_45 : decode prog_48_method_17_code 45 = .ok (.invokevirtual 87, 3) := by decide +kernel
theorem d14_48 : decode prog_48_method_17_code 48 = .ok (.aload_n 0, 1) := by decide +kernel
theorem d14_49 : decode prog_48_method_17_code 49 = .ok (.iconst 1, 1) := by decide +kernel
theorem d14_50 : decode prog_48_method_17_code 50 = .ok (.putfield 52, 3) := by decide +kernel
theorem d14_53 : decode prog_48_method_17_code 53 = .ok (.return_, 1) := by decide +kernel
theorem d15_0 : decode prog_48_method_19_code 0 = .ok (.aload_n 0, 1) := by decide +kernel
theorem d15_1 : decode prog_48_method_19_code 1 = .ok (.getfield 26, 3) := by decide +kernel
theorem d15_4 : decode prog_48_method_19_code 4 = .ok (.invokeinterface 56 1, 5) := by decide +kernel
theorem d15_9 : decode prog_48_method_19_code 9 = .ok (.ifCond .eq 15, 3) := by decide +kernel
theorem d15_12 : decode prog_48_method_19_code 12 = .ok (.aload_n 0, 1) := by decide +kernel
theorem d15_13 : decode prog_48_method_19_code 13 = .ok (.new 91, 3) := by decide +kernel
theorem d15_16 : decode prog_48_method_19_code 16 = .ok (.dup, 1) := by decide +kernel
theorem d15_17 : decode prog_48_method_19_code 17 = .ok (.iconst 1, 1) := by decide +kernel
theorem d15_18 : decode prog_48_method_19_code 18 = .ok (.invokespecial 93, 3) := by decide +kernel
theorem d15_21 : decode prog_48_method_19_code 21 = .ok (.putfield 26, 3) := by decide +kernel
theorem d15_24 : decode prog_48_method_19_code 24 = .ok (.aload_n 0, 1) := by decide +kernel
theorem d15_25 : decode prog_48_method_19_code 25 = .ok (.getfield 26, 3) := by decide +kernel
theorem d15_28 : decode prog_48_method_19_code 28 = .ok (.new 67, 3) := by decide +kernel
theorem d15_31 : decode prog_48_method_19_code 31 = .ok (.dup, 1) := by decide +kernel
theorem d15_32 : decode prog_48_method_19_code 32 = .ok (.aload_n 1, 1) := by decide +kernel
theorem d15_33 : decode prog_48_method_19_code 33 = .ok (.dload_n 2, 1) := by decide +kernel
theorem d15_34 : decode prog_48_method_19_code 34 = .ok (.invokespecial 96, 3) := by decide +kernel
theorem d15_37 : decode prog_48_method_19_code 37 = .ok (.invokeinterface 99 2, 5) := by decide +kernel
theorem d15_42 : decode prog_48_method_19_code 42 = .ok (.pop, 1) := by decide +kernel
theorem d15_43 : decode prog_48_method_19_code 43 = .ok (.aload_n 0, 1) := by decide +kernel
theorem d15_44 : decode prog_48_method_19_code 44 = .ok (.iconst 0, 1) := by decide +kernel
theorem d15_45 : decode prog_48_method_19_code 45 = .ok (.putfield 52, 3) := by decide +kernel
theorem d15_48 : decode prog_48_method_19_code 48 = .ok (.return_, 1) := by decide +kernel
theorem d16_0 : decode jdk_45_method_2_code 0 = .ok (.aload_n 0, 1) := by decide +kernel
theorem d16_1 : decode jdk_45_method_2_code 1 = .ok (.getfield 7, 3) := by decide +kernel
theorem d16_4 : decode jdk_45_method_2_code 4 = .ok (.arraylength, 1) := by decide +kernel
theorem d16_5 : decode jdk_45_method_2_code 5 = .ok (.ifCond .ne 7, 3) := by decide +kernel
theorem d16_8 : decode jdk_45_method_2_code 8 = .ok (.iconst 1, 1) := by decide +kernel
theorem d16_9 : decode jdk_45_method_2_code 9 = .ok (.goto 4, 3) := by decide +kernel
theorem d16_13 : decode jdk_45_method_2_code 13 = .ok (.ireturn, 1) := by decide +kernel
theorem d17_0 : decode jdk_38_method_1_code 0 = .ok (.aload_n 0, 1) := by decide +kernel
theorem d17_1 : decode jdk_38_method_1_code 1 = .ok (.invokespecial 1, 3) := by decide +kernel
theorem d17_4 : decode jdk_38_method_1_code 4 = .ok (.iload_n 1, 1) := by decide +kernel
theorem d17_5 : decode jdk_38_method_1_code 5 = .ok (.ifCond .le 14, 3) := by decide +kernel
theorem d17_8 : decode jdk_38_method_1_code 8 = .ok (.aload_n 0, 1) := by decide +kernel
theorem d17_9 : decode jdk_38_method_1_code 9 = .ok (.iload_n 1, 1) := by decide +kernel
theorem d17_10 : decode jdk_38_method_1_code 10 = .ok (.anewarray 7, 3) := by decide +kernel
theorem d17_13 : decode jdk_38_method_1_code 13 = .ok (.putfield 9, 3) := by decide +kernel
theorem d17_16 : decode jdk_38_method_1_code 16 = .ok (.goto 44, 3) := by decide +kernel
theorem d17_60 : decode jdk_38_method_1_code 60 = .ok (.return_, 1) := by decide +kernel
theorem d18_0 : decode jdk_39_method_1_code 0 = .ok (.aload_n 0, 1) := by decide +kernel
theorem d18_1 : decode jdk_39_method_1_code 1 = .ok (.invokespecial 1, 3) := by decide +kernel
theorem d18_4 : decode jdk_39_method_1_code 4 = .ok (.aload_n 0, 1) := by decide +kernel
theorem d18_5 : decode jdk_39_method_1_code 5 = .ok (.iconst 0, 1) := by decide +kernel
theorem d18_6 : decode jdk_39_method_1_code 6 = .ok (.putfield 7, 3) := by decide +kernel
theorem d18_9 : decode jdk_39_method_1_code 9 = .ok (.return_, 1) := by decide +kernel
theorem d19_0 : decode jdk_22_method_1_code 0 = .ok (.aload_n 0, 1) := by decide +kernel
theorem d19_1 : decode jdk_22_method_1_code 1 = .ok (.invokespecial 1, 3) := by decide +kernel
theorem d19_4 : decode jdk_22_method_1_code 4 = .ok (.return_, 1) := by decide +kernel
theorem d20_0 : decode prog_60_method_1_code 0 = .ok (.aload_n 0, 1) := by decide +kernel
theorem d20_1 : decode prog_60_method_1_code 1 = .ok (.invokespecial 1, 3) := by decide +kernel
theorem d20_4 : decode prog_60_method_1_code 4 = .ok (.aload_n 0, 1) := by decide +kernel
theorem d20_5 : decode prog_60_method_1_code 5 = .ok (.ldc2_w 9, 3) := by decide +kernel
theorem d20_8 : decode prog_60_method_1_code 8 = .ok (.putfield 11, 3) := by decide +kernel
theorem d20_11 : decode prog_60_method_1_code 11 = .ok (.aload_n 0, 1) := by decide +kernel
theorem d20_12 : decode prog_60_method_1_code 12 = .ok (.aload_n 1, 1) := by decide +kernel
theorem d20_13 : decode prog_60_method_1_code 13 = .ok (.putfield 17, 3) := by decide +kernel
theorem d20_16 : decode prog_60_method_1_code 16 = .ok (.aload_n 0, 1) := by decide +kernel
theorem d20_17 : decode prog_60_method_1_code 17 = .ok (.dload_n 2, 1) := by decide +kernel
theorem d20_18 : decode prog_60_method_1_code 18 = .ok (.putfield 21, 3) := by decide +kernel
theorem d20_21 : decode prog_60_method_1_code 21 = .ok (.return_, 1) := by decide +kernel
theorem d21_0 : decode jdk_38_method_25_code 0 = .ok (.aload_n 0, 1) := by decide +kernel
theorem d21_1 : decode jdk_38_method_25_code 1 = .ok (.dup, 1) := by decide +kernel
theorem d21_2 : decode jdk_38_method_25_code 2 = .ok (.getfield 63, 3) := by decide +kernel
theorem d21_5 : decode jdk_38_method_25_code 5 = .ok (.iconst 1, 1) := by decide +kernel
theorem d21_6 : decode jdk_38_method_25_code 6 = .ok (.iadd, 1) := by decide +kernel
theorem d21_7 : decode jdk_38_method_25_code 7 = .ok (.putfield 63, 3) := by decide +kernel
theorem d21_10 : decode jdk_38_method_25_code 10 = .ok (.aload_n 0, 1) := by decide +kernel
theorem d21_11 : decode jdk_38_method_25_code 11 = .ok (.aload_n 1, 1) := by decide +kernel
theorem d21_12 : decode jdk_38_method_25_code 12 = .ok (.aload_n 0, 1) := by decide +kernel
theorem d21_13 : decode jdk_38_method_25_code 13 = .ok (.getfield 9, 3) := by decide +kernel
theorem d21_16 : decode jdk_38_method_25_code 16 = .ok (.aload_n 0, 1) := by decide +kernel
theorem d21_17 : decode jdk_38_method_25_code 17 = .ok (.getfield 48, 3) := by decide +kernel
theorem d21_20 : decode jdk_38_method_25_code 20 = .ok (.invokevirtual 131, 3) := by decide +kernel
theorem d21_23 : decode jdk_38_method_25_code 23 = .ok (.iconst 1, 1) := by decide +kernel
theorem d21_24 : decode jdk_38_method_25_code 24 = .ok (.ireturn, 1) := by decide +kernel
theorem d22_0 : decode jdk_38_method_24_code 0 = .ok (.iload_n 3, 1) := by decide +kernel
theorem d22_1 : decode jdk_38_method_24_code 1 = .ok (.aload_n 2, 1) := by decide +kernel
theorem d22_2 : decode jdk_38_method_24_code 2 = .ok (.arraylength, 1) := by decide +kernel
theorem d22_3 : decode jdk_38_method_24_code 3 = .ok (.if_icmp .ne 8, 3) := by decide +kernel
theorem d22_6 : decode jdk_38_method_24_code 6 = .ok (.aload_n 0, 1) := by decide +kernel
theorem d22_7 : decode jdk_38_method_24_code 7 = .ok (.invokevirtual 129, 3) := by decide +kernel
theorem d22_10 : decode jdk_38_method_24_code 10 = .ok (.astore_n 2, 1) := by decide +kernel
theorem d22_11 : decode jdk_38_method_24_code 11 = .ok (.aload_n 2, 1) := by decide +kernel
theorem d22_12 : decode jdk_38_method_24_code 12 = .ok (.iload_n 3, 1) := by decide +kernel
theorem d22_13 : decode jdk_38_method_24_code 13 = .ok (.aload_n 1, 1) := by decide +kernel
theorem d22_14 : decode jdk_38_method_24_code 14 = .ok (.aastore, 1) := by decide +kernel
theorem d22_15 : decode jdk_38_method_24_code 15 = .ok (.aload_n 0, 1) := by decide +kernel
theorem d22_16 : decode jdk_38_method_24_code 16 = .ok (.iload_n 3, 1) := by decide +kernel
theorem d22_17 : decode jdk_38_method_24_code 17 = .ok (.iconst 1, 1) := by decide +kernel
theorem d22_18 : decode jdk_38_method_24_code 18 = .ok (.iadd, 1) := by decide +kernel
theorem d22_19 : decode jdk_38_method_24_code 19 = .ok (.putfield 48, 3) := by decide +kernel
theorem d22_22 : decode jdk_38_method_24_code 22 = .ok (.return_, 1) := by decide +kernel
theorem d23_0 : decode prog_48_method_18_code 0 = .ok (.aload_n 0, 1) := by decide +kernel
theorem d23_1 : decode prog_48_method_18_code 1 = .ok (.dload_n 1, 1) := by decide +kernel
theorem d23_2 : decode prog_48_method_18_code 2 = .ok (.putfield 17, 3) := by decide +kernel
theorem d23_5 : decode prog_48_method_18_code 5 = .ok (.aload_n 0, 1) := by decide +kernel
theorem d23_6 : decode prog_48_method_18_code 6 = .ok (.iconst 0, 1) := by decide +kernel
theorem d23_7 : decode prog_48_method_18_code 7 = .ok (.putfield 52, 3) := by decide +kernel
theorem d23_10 : decode prog_48_method_18_code 10 = .ok (.return_, 1) := by decide +kernel
theorem d24_0 : decode jdk_38_method_9_code 0 = .ok (.aload_n 0, 1) := by decide +kernel
theorem d24_1 : decode jdk_38_method_9_code 1 = .ok (.getfield 48, 3) := by decide +kernel
theorem d24_4 : decode jdk_38_method_9_code 4 = .ok (.ifCond .ne 7, 3) := by decide +kernel
theorem d24_11 : decode jdk_38_method_9_code 11 = .ok (.iconst 0, 1) := by decide +kernel
theorem d24_12 : decode jdk_38_method_9_code 12 = .ok (.ireturn, 1) := by decide +kernel
theorem d25_0 : decode jdk_38_method_7_code 0 = .ok (.aload_n 0, 1) := by decide +kernel
theorem d25_1 : decode jdk_38_method_7_code 1 = .ok (.aload_n 0, 1) := by decide +kernel
theorem d25_2 : decode jdk_38_method_7_code 2 = .ok (.getfield 48, 3) := by decide +kernel
theorem d25_5 : decode jdk_38_method_7_code 5 = .ok (.iconst 1, 1) := by decide +kernel
theorem d25_6 : decode jdk_38_method_7_code 6 = .ok (.iadd, 1) := by decide +kernel
theorem d25_7 : decode jdk_38_method_7_code 7 = .ok (.invokevirtual 69, 3) := by decide +kernel
theorem d25_10 : decode jdk_38_method_7_code 10 = .ok (.areturn, 1) := by decide +kernel
theorem d26_0 : decode jdk_38_method_6_code 0 = .ok (.aload_n 0, 1) := by decide +kernel
theorem d26_1 : decode jdk_38_method_6_code 1 = .ok (.getfield 9, 3) := by decide +kernel
theorem d26_4 : decode jdk_38_method_6_code 4 = .ok (.arraylength, 1) := by decide +kernel
theorem d26_5 : decode jdk_38_method_6_code 5 = .ok (.istore_n 2, 1) := by decide +kernel
theorem d26_6 : decode jdk_38_method_6_code 6 = .ok (.iload_n 2, 1) := by decide +kernel
theorem d26_7 : decode jdk_38_method_6_code 7 = .ok (.ifCond .gt 13, 3) := by decide +kernel
theorem d26_20 : decode jdk_38_method_6_code 20 = .ok (.iload_n 2, 1) := by decide +kernel
theorem d26_21 : decode jdk_38_method_6_code 21 = .ok (.iload_n 1, 1) := by decide +kernel
theorem d26_22 : decode jdk_38_method_6_code 22 = .ok (.iload_n 2, 1) := by decide +kernel
theorem d26_23 : decode jdk_38_method_6_code 23 = .ok (.isub, 1) := by decide +kernel
theorem d26_24 : decode jdk_38_method_6_code 24 = .ok (.iload_n 2, 1) := by decide +kernel
theorem d26_25 : decode jdk_38_method_6_code 25 = .ok (.iconst 1, 1) := by decide +kernel
theorem d26_26 : decode jdk_38_method_6_code 26 = .ok (.ishr, 1) := by decide +kernel
theorem d26_27 : decode jdk_38_method_6_code 27 = .ok (.invokestatic 73, 3) := by decide +kernel
theorem d26_30 : decode jdk_38_method_6_code 30 = .ok (.istore_n 3, 1) := by decide +kernel
theorem d26_31 : decode jdk_38_method_6_code 31 = .ok (.aload_n 0, 1) := by decide +kernel
theorem d26_32 : decode jdk_38_method_6_code 32 = .ok (.aload_n 0, 1) := by decide +kernel
theorem d26_33 : decode jdk_38_method_6_code 33 = .ok (.getfield 9, 3) := by decide +kernel
theorem d26_36 : decode jdk_38_method_6_code 36 = .ok (.iload_n 3, 1) := by decide +kernel
theorem d26_37 : decode jdk_38_method_6_code 37 = .ok (.invokestatic 66, 3) := by decide +kernel
theorem d26_40 : decode jdk_38_method_6_code 40 = .ok (.dup_x1, 1) := by decide +kernel
theorem d26_41 : decode jdk_38_method_6_code 41 = .ok (.putfield 9, 3) := by decide +kernel
theorem d26_44 : decode jdk_38_method_6_code 44 = .ok (.areturn, 1) := by decide +kernel
theorem d27_0 : decode jdk_48_method_27_code 0 = .ok (.iload_n 0, 1) := by decide +kernel
theorem d27_1 : decode jdk_48_method_27_code 1 = .ok (.iload_n 1, 1) := by decide +kernel
theorem d27_2 : decode jdk_48_method_27_code 2 = .ok (.iload_n 2, 1) := by decide +kernel
theorem d27_3 : decode jdk_48_method_27_code 3 = .ok (.invokestatic 194, 3) := by decide +kernel
theorem d27_6 : decode jdk_48_method_27_code 6 = .ok (.iadd, 1) := by decide +kernel
theorem d27_7 : decode jdk_48_method_27_code 7 = .ok (.istore_n 3, 1) := by decide +kernel
theorem d27_8 : decode jdk_48_method_27_code 8 = .ok (.iconst 0, 1) := by decide +kernel
theorem d27_9 : decode jdk_48_method_27_code 9 = .ok (.iload_n 3, 1) := by decide +kernel
theorem d27_10 : decode jdk_48_method_27_code 10 = .ok (.if_icmp .ge 11, 3) := by decide +kernel
theorem d27_13 : decode jdk_48_method_27_code 13 = .ok (.iload_n 3, 1) := by decide +kernel
theorem d27_14 : decode jdk_48_method_27_code 14 = .ok (.ldc 200, 2) := by decide +kernel
theorem d27_16 : decode jdk_48_method_27_code 16 = .ok (.if_icmp .gt 5, 3) := by decide +kernel
theorem d27_19 : decode jdk_48_method_27_code 19 = .ok (.iload_n 3, 1) := by decide +kernel
theorem d27_20 : decode jdk_48_method_27_code 20 = .ok (.ireturn, 1) := by decide +kernel
theorem d28_0 : decode jdk_29_method_65_code 0 = .ok (.iload_n 0, 1) := by decide +kernel
theorem d28_1 : decode jdk_29_method_65_code 1 = .ok (.iload_n 1, 1) := by decide +kernel
theorem d28_2 : decode jdk_29_method_65_code 2 = .ok (.if_icmp .lt 7, 3) := by decide +kernel
theorem d28_5 : decode jdk_29_method_65_code 5 = .ok (.iload_n 0, 1) := by decide +kernel
theorem d28_6 : decode jdk_29_method_65_code 6 = .ok (.goto 4, 3) := by decide +kernel
theorem d28_10 : decode jdk_29_method_65_code 10 = .ok (.ireturn, 1) := by decide +kernel
theorem d29_0 : decode jdk_65_method_119_code 0 = .ok (.aload_n 0, 1) := by decide +kernel
theorem d29_1 : decode jdk_65_method_119_code 1 = .ok (.iload_n 1, 1) := by decide +kernel
theorem d29_2 : decode jdk_65_method_119_code 2 = .ok (.aload_n 0, 1) := by decide +kernel
theorem d29_3 : decode jdk_65_method_119_code 3 = .ok (.invokevirtual 86, 3) := by decide +kernel
theorem d29_6 : decode jdk_65_method_119_code 6 = .ok (.invokestatic 300, 3) := by decide +kernel
theorem d29_9 : decode jdk_65_method_119_code 9 = .ok (.areturn, 1) := by decide +kernel
theorem d30_0 : decode jdk_65_method_120_code 0 = .ok (.aload_n 2, 1) := by decide +kernel
theorem d30_1 : decode jdk_65_method_120_code 1 = .ok (.ldc 110, 2) := by decide +kernel
theorem d30_3 : decode jdk_65_method_120_code 3 = .ok (.if_acmp .ne 10, 3) := by decide +kernel
theorem d30_6 : decode jdk_65_method_120_code 6 = .ok (.iload_n 1, 1) := by decide +kernel
theorem d30_7 : decode jdk_65_method_120_code 7 = .ok (.anewarray 2, 3) := by decide +kernel
theorem d30_10 : decode jdk_65_method_120_code 10 = .ok (.goto 14, 3) := by decide +kernel
theorem d30_24 : decode jdk_65_method_120_code 24 = .ok (.astore_n 3, 1) := by decide +kernel
theorem d30_25 : decode jdk_65_method_120_code 25 = .ok (.aload_n 0, 1) := by decide +kernel
theorem d30_26 : decode jdk_65_method_120_code 26 = .ok (.iconst 0, 1) := by decide +kernel
theorem d30_27 : decode jdk_65_method_120_code 27 = .ok (.aload_n 3, 1) := by decide +kernel
theorem d30_28 : decode jdk_65_method_120_code 28 = .ok (.iconst 0, 1) := by decide +kernel
theorem d30_29 : decode jdk_65_method_120_code 29 = .ok (.aload_n 0, 1) := by decide +kernel
theorem d30_30 : decode jdk_65_method_120_code 30 = .ok (.arraylength, 1) := by decide +kernel
theorem d30_31 : decode jdk_65_method_120_code 31 = .ok (.iload_n 1, 1) := by decide +kernel
theorem d30_32 : decode jdk_65_method_120_code 32 = .ok (.invokestatic 304, 3) := by decide +kernel
theorem d30_35 : decode jdk_65_method_120_code 35 = .ok (.invokestatic 150, 3) := by decide +kernel
theorem d30_38 : decode jdk_65_method_120_code 38 = .ok (.aload_n 3, 1) := by decide +kernel
theorem d30_39 : decode jdk_65_method_120_code 39 = .ok (.areturn, 1) := by decide +kernel
theorem d31_0 : decode jdk_29_method_69_code 0 = .ok (.iload_n 0, 1) := by decide +kernel
theorem d31_1 : decode jdk_29_method_69_code 1 = .ok (.iload_n 1, 1) := by decide +kernel
theorem d31_2 : decode jdk_29_method_69_code 2 = .ok (.if_icmp .gt 7, 3) := by decide +kernel
theorem d31_5 : decode jdk_29_method_69_code 5 = .ok (.iload_n 0, 1) := by decide +kernel
theorem d31_6 : decode jdk_29_method_69_code 6 = .ok (.goto 4, 3) := by decide +kernel
theorem d31_10 : decode jdk_29_method_69_code 10 = .ok (.ireturn, 1) := by decide +kernel
theorem d32_0 : decode jdk_38_method_8_code 0 = .ok (.aload_n 0, 1) := by decide +kernel
theorem d32_1 : decode jdk_38_method_8_code 1 = .ok (.getfield 48, 3) := by decide +kernel
theorem d32_4 : decode jdk_38_method_8_code 4 = .ok (.ireturn, 1) := by decide +kernel
theorem d33_0 : decode jdk_38_method_20_code 0 = .ok (.iload_n 1, 1) := by decide +kernel
theorem d33_1 : decode jdk_38_method_20_code 1 = .ok (.aload_n 0, 1) := by decide +kernel
theorem d33_2 : decode jdk_38_method_20_code 2 = .ok (.getfield 48, 3) := by decide +kernel
theorem d33_5 : decode jdk_38_method_20_code 5 = .ok (.invokestatic 118, 3) := by decide +kernel
theorem d33_8 : decode jdk_38_method_20_code 8 = .ok (.pop, 1) := by decide +kernel
theorem d33_9 : decode jdk_38_method_20_code 9 = .ok (.aload_n 0, 1) := by decide +kernel
theorem d33_10 : decode jdk_38_method_20_code 10 = .ok (.iload_n 1, 1) := by decide +kernel
theorem d33_11 : decode jdk_38_method_20_code 11 = .ok (.invokevirtual 123, 3) := by decide +kernel
theorem d33_14 : decode jdk_38_method_20_code 14 = .ok (.areturn, 1) := by decide +kernel
theorem d34_0 : decode jdk_31_method_17_code 0 = .ok (.iload_n 0, 1) := by decide +kernel
theorem d34_1 : decode jdk_31_method_17_code 1 = .ok (.iload_n 1, 1) := by decide +kernel
theorem d34_2 : decode jdk_31_method_17_code 2 = .ok (.aconst_null, 1) := by decide +kernel
theorem d34_3 : decode jdk_31_method_17_code 3 = .ok (.invokestatic 105, 3) := by decide +kernel
theorem d34_6 : decode jdk_31_method_17_code 6 = .ok (.ireturn, 1) := by decide +kernel
theorem d35_0 : decode jdk_41_method_11_code 0 = .ok (.iload_n 0, 1) := by decide +kernel
theorem d35_1 : decode jdk_41_method_11_code 1 = .ok (.ifCond .lt 8, 3) := by decide +kernel
theorem d35_4 : decode jdk_41_method_11_code 4 = .ok (.iload_n 0, 1) := by decide +kernel
theorem d35_5 : decode jdk_41_method_11_code 5 = .ok (.iload_n 1, 1) := by decide +kernel
theorem d35_6 : decode jdk_41_method_11_code 6 = .ok (.if_icmp .lt 10, 3) := by decide +kernel
theorem d35_16 : decode jdk_41_method_11_code 16 = .ok (.iload_n 0, 1) := by decide +kernel
theorem d35_17 : decode jdk_41_method_11_code 17 = .ok (.ireturn, 1) := by decide +kernel
theorem d36_0 : decode jdk_38_method_18_code 0 = .ok (.aload_n 0, 1) := by decide +kernel
theorem d36_1 : decode jdk_38_method_18_code 1 = .ok (.getfield 9, 3) := by decide +kernel
theorem d36_4 : decode jdk_38_method_18_code 4 = .ok (.iload_n 1, 1) := by decide +kernel
theorem d36_5 : decode jdk_38_method_18_code 5 = .ok (.aaload, 1) := by decide +kernel
theorem d36_6 : decode jdk_38_method_18_code 6 = .ok (.areturn, 1) := by decide +kernel
theorem d37_0 : decode prog_60_method_6_code 0 = .ok (.aload_n 0, 1) := by decide +kernel
theorem d37_1 : decode prog_60_method_6_code 1 = .ok (.aload_n 1, 1) := by decide +kernel
theorem d37_2 : decode prog_60_method_6_code 2 = .ok (.putfield 24, 3) := by decide +kernel
theorem d37_5 : decode prog_60_method_6_code 5 = .ok (.aload_n 0, 1) := by decide +kernel
theorem d37_6 : decode prog_60_method_6_code 6 = .ok (.dload_n 2, 1) := by decide +kernel
theorem d37_7 : decode prog_60_method_6_code 7 = .ok (.putfield 11, 3) := by decide +kernel
theorem d37_10 : decode prog_60_method_6_code 10 = .ok (.return_, 1) := by decide +kernel
theorem pd_0 : parseMethodDescriptor "(C)Z" = some ⟨[.char], some .boolean⟩ := by decide +kernel
theorem pd_1 : parseMethodDescriptor "(C)[B" = some ⟨[.char], some (.array .byte)⟩ := by decide +kernel
theorem pd_2 : parseMethodDescriptor "([BB)V" = some ⟨[(.array .byte), .byte], none⟩ := by decide +kernel
theorem pd_3 : parseMethodDescriptor "(Ljava/lang/Object;Ljava/lang/String;)Ljava/lang/Object;" = some ⟨[(.object "java/lang/Object"), (.object "java/lang/String")], some (.object "java/lang/Object")⟩ := by decide +kernel
theorem pd_4 : parseMethodDescriptor "()Z" = some ⟨[], some .boolean⟩ := by decide +kernel
theorem pd_5 : parseMethodDescriptor "(D)Z" = some ⟨[.double], some .boolean⟩ := by decide +kernel
theorem pd_6 : parseMethodDescriptor "()Ljava/util/List;" = some ⟨[], some (.object "java/util/List")⟩ := by decide +kernel
theorem pd_7 : parseMethodDescriptor "()V" = some ⟨[], none⟩ := by decide +kernel
theorem pd_8 : parseMethodDescriptor "(II)I" = some ⟨[.int, .int], some .int⟩ := by decide +kernel
theorem pd_9 : parseMethodDescriptor "(IILjava/util/function/BiFunction;)I" = some ⟨[.int, .int, (.object "java/util/function/BiFunction")], some .int⟩ := by decide +kernel
theorem pd_10 : parseMethodDescriptor "(I)Ljava/lang/Object;" = some ⟨[.int], some (.object "java/lang/Object")⟩ := by decide +kernel
theorem pd_11 : parseMethodDescriptor "([Ljava/lang/Object;ILjava/lang/Class;)[Ljava/lang/Object;" = some ⟨[(.array (.object "java/lang/Object")), .int, (.object "java/lang/Class")], some (.array (.object "java/lang/Object"))⟩ := by decide +kernel
theorem pd_12 : parseMethodDescriptor "(III)I" = some ⟨[.int, .int, .int], some .int⟩ := by decide +kernel
theorem pd_13 : parseMethodDescriptor "([Ljava/lang/Object;I)[Ljava/lang/Object;" = some ⟨[(.array (.object "java/lang/Object")), .int], some (.array (.object "java/lang/Object"))⟩ := by decide +kernel
theorem pd_14 : parseMethodDescriptor "(I)[Ljava/lang/Object;" = some ⟨[.int], some (.array (.object "java/lang/Object"))⟩ := by decide +kernel
theorem pd_15 : parseMethodDescriptor "(Ljava/lang/Object;[Ljava/lang/Object;I)V" = some ⟨[(.object "java/lang/Object"), (.array (.object "java/lang/Object")), .int], none⟩ := by decide +kernel
theorem pd_16 : parseMethodDescriptor "()[Ljava/lang/Object;" = some ⟨[], some (.array (.object "java/lang/Object"))⟩ := by decide +kernel
theorem pd_17 : parseMethodDescriptor "()I" = some ⟨[], some .int⟩ := by decide +kernel
theorem pd_18 : parseMethodDescriptor "(Ljava/lang/String;D)V" = some ⟨[(.object "java/lang/String"), .double], none⟩ := by decide +kernel
theorem pd_19 : parseMethodDescriptor "(I)V" = some ⟨[.int], none⟩ := by decide +kernel
theorem pd_20 : parseMethodDescriptor "(Lcom/example/loads_to_headways/loadstoheadways/corridor/Station;D)V" = some ⟨[(.object "com/example/loads_to_headways/loadstoheadways/corridor/Station"), .double], none⟩ := by decide +kernel
theorem pd_21 : parseMethodDescriptor "(Ljava/lang/Object;)Z" = some ⟨[(.object "java/lang/Object")], some .boolean⟩ := by decide +kernel
theorem pd_22 : parseMethodDescriptor "(ILjava/lang/String;D)V" = some ⟨[.int, (.object "java/lang/String"), .double], none⟩ := by decide +kernel
theorem pd_23 : parseMethodDescriptor "(ILcom/example/loads_to_headways/loadstoheadways/corridor/Station;Lcom/example/loads_to_headways/loadstoheadways/corridor/Station;D)V" = some ⟨[.int, (.object "com/example/loads_to_headways/loadstoheadways/corridor/Station"), (.object "com/example/loads_to_headways/loadstoheadways/corridor/Station"), .double], none⟩ := by decide +kernel
theorem pd_24 : parseMethodDescriptor "(C)Ljava/lang/String;" = some ⟨[.char], some (.object "java/lang/String")⟩ := by decide +kernel
theorem pd_25 : parseMethodDescriptor "(D)V" = some ⟨[.double], none⟩ := by decide +kernel
section OwnAv
variable {p : Program} {l : Launch} {e : Env} {R : Room} {s : State} {m : MethodId} {args : Array Value} {below : List Frame} {meth : Method} {c : Code} {T : State} {Z : State} {a0 : Array Value} {h h' : Heap} {n0 n1 cells slots nc ns pc pc' : Nat} {Ls : Array Slot} {st rest : List Value} {Q : GQ} {Ts Ts' : List String} {Lt : List (String × Nat × Addr)} {vm0 : Vm} {a b : Addr} {ty : FieldType} {vs ws : List Value}
/-- in heap h, at a, there is an array of ty that holds just these -/
def AV (Z : State) (h : Heap) (a : Addr) (ty : FieldType) (vs : List Value) : Prop := ∃ c : Cell, Arr Z h a c ty ∧ c.slots.size = vs.length ∧ vs.length < 2147483648 ∧ (∀ i, i < vs.length → c.slots[i]? = some (vs.getD i .null)) ∧ ∀ i, i < vs.length → Jvm.fits ty (vs.getD i .null) = true
theorem AV.lt (F : AV Z h a ty vs) : a < h.size := by obtain ⟨c, A, -⟩ := F; exact A.lt
theorem AV.ext (F : AV Z h a ty vs) (E : Ext h h') : AV Z h' a ty vs := by obtain ⟨c, A, r⟩ := F; exact ⟨c, A.ext E, r⟩
theorem AV.other {sl : Nat} {v : Value} (F : AV Z h b ty vs) (W : Wr h h' a sl v) (q : b ≠ a) : AV Z h' b ty vs := by obtain ⟨c, A, r⟩ := F; exact ⟨c, A.other W q, r⟩
theorem AV.keep {ws : List Addr} (F : AV Z h a ty vs) (K : Keep h h' ws) (q : a ∉ ws) : AV Z h' a ty vs := by obtain ⟨c, A, r⟩ := F; exact ⟨c, ⟨K.2.1 a c A.1 q, A.2⟩, r⟩
theorem own_len {n : Nat} (h : n < 2147483648) : (Nat.toInt32 n).toNatClampNeg = n ∧ ¬ Nat.toInt32 n < 0 := by
  have e : (Nat.toInt32 n).toInt = n := Int32.toInt_ofNat_small (by omega)
  constructor
  · simp only [Int32.toNatClampNeg, e]; rfl
  · rw [Int32.lt_iff_toInt_lt, e]; have : (0 : Int32).toInt = 0 := rfl
    omega
theorem AV.arv (F : AV Z h a ty vs) : ∃ k, Arv Z h a k ty (Nat.toInt32 vs.length) vs .null := by
  obtain ⟨c, A, S, L, H, G⟩ := F
  obtain ⟨q1, q2⟩ := own_len L
  exact ⟨c.cls, c, A, rfl, by rw [S, q1], q2, fun i hi => H i (by omega), fun i hi => G i (by omega)⟩
theorem Arv.av {k : ClassId} {z : Int32} {dv : Value} (F : Arv Z h a k ty z vs dv) (q : z.toNatClampNeg = vs.length) (L : vs.length < 2147483648) : AV Z h a ty vs := by
  obtain ⟨c, A, -, S, -, H, G⟩ := F
  have e : ∀ i, i < vs.length → vs.getD i dv = vs.getD i .null := fun i hi => by
    simp only [List.getD_eq_getElem?_getD, List.getElem?_eq_getElem hi, Option.getD_some]
  exact ⟨c, A, by rw [S, q], L, fun i hi => by rw [← e i hi]; exact H i (by omega), fun i hi => by rw [← e i hi]; exact G i (by omega)⟩

theorem own_idx {j : Int32} {i : Nat} (hj : j.toInt = (i : Int)) : j.toNatClampNeg = i ∧ ¬ j < 0 := by
  constructor
  · unfold Int32.toNatClampNeg; rw [hj]; rfl
  · rw [Int32.lt_iff_toInt_lt, hj]; have : (0 : Int32).toInt = 0 := rfl
    omega
theorem g_caload (X : Wk p l e R s m args below meth c n1 Z Ts Lt T h cells slots) (hx : p.tables.exec = Jvm.exec) (hZ : Z.Warmed39 s.vm) (F : AV Z h a .char vs) {j : Int32} {i : Nat} (hj : j.toInt = (i : Int)) (hi : i < vs.length) {x : Int32} (hv : vs.getD i .null = .int x) (hp : pc + 1 = pc') (hd : decode c.code pc = .ok (.caload, 1))
    (k : Go p e below s n0 Q nc ns (T.setTop (mkF m pc' Ls (.int x :: rest)))) : Go p e below s n0 Q nc ns (T.setTop (mkF m pc Ls (.int j :: .ref a :: rest))) := by
  subst hp; obtain ⟨locs, vm0, X, N, eT, B⟩ := X; replace hZ := B.hZ hZ
  obtain ⟨cl, A, S, -, H, -⟩ := F
  obtain ⟨e1, e2⟩ := own_idx hj
  have hin : ¬ (j < 0 ∨ cl.slots.size ≤ j.toNatClampNeg) := by rw [e1, S]; intro q; rcases q with q | q; exact e2 q; omega
  exact go_back (fun t q => X.caload hx (j := j) (v := .int x) (by rw [eT]; exact A.1) (State.isArrayOf_alike hZ.alike A.2.1) A.2.2 hin (by rw [e1, ← hv]; exact H i hi) (g := mkF m pc Ls (.int j :: .ref a :: rest)) rfl rfl hd t q) k
theorem g_baload (X : Wk p l e R s m args below meth c n1 Z Ts Lt T h cells slots) (hx : p.tables.exec = Jvm.exec) (hZ : Z.Warmed39 s.vm) (F : AV Z h a .byte vs) {j : Int32} {i : Nat} (hj : j.toInt = (i : Int)) (hi : i < vs.length) {x : Int32} (hv : vs.getD i .null = .int x) (hp : pc + 1 = pc') (hd : decode c.code pc = .ok (.baload, 1))
    (k : Go p e below s n0 Q nc ns (T.setTop (mkF m pc' Ls (.int x :: rest)))) : Go p e below s n0 Q nc ns (T.setTop (mkF m pc Ls (.int j :: .ref a :: rest))) := by
  subst hp; obtain ⟨locs, vm0, X, N, eT, B⟩ := X; replace hZ := B.hZ hZ
  obtain ⟨cl, A, S, -, H, -⟩ := F
  obtain ⟨e1, e2⟩ := own_idx hj
  have hin : ¬ (j < 0 ∨ cl.slots.size ≤ j.toNatClampNeg) := by rw [e1, S]; intro q; rcases q with q | q; exact e2 q; omega
  exact go_back (fun t q => X.baloadBytes hx (j := j) (v := .int x) (by rw [eT]; exact A.1) (State.isArrayOf_alike hZ.alike A.2.1) A.2.2 hin (by rw [e1, ← hv]; exact H i hi) (g := mkF m pc Ls (.int j :: .ref a :: rest)) rfl rfl hd t q) k
theorem AV.set {j : Int32} {i : Nat} {v : Value} (F : AV Z h a ty vs) (hj : j.toNatClampNeg = i) (hi : i < vs.length) (hf : Jvm.fits ty v = true) (W : Wr h h' a j.toNatClampNeg v) : AV Z h' a ty (vs.set i v) := by
  obtain ⟨cl, A, S, hl, H, G⟩ := F
  refine ⟨_, A.same W, by rw [sz_set, S, List.length_set], by rw [List.length_set]; exact hl, fun k hk => ?_, fun k hk => ?_⟩
  · rw [List.length_set] at hk
    rw [hj]
    by_cases u : i = k
    · subst u; simp [Cell.setSlot, S, hi]
    · have q := H k hk
      simp only [Cell.setSlot, List.getD_eq_getElem?_getD] at q ⊢
      rw [Array.getElem?_setIfInBounds_ne u, List.getElem?_set_ne u]; exact q
  · rw [List.length_set] at hk
    by_cases u : i = k
    · subst u; simpa [hi] using hf
    · have q := G k hk
      simp only [List.getD_eq_getElem?_getD] at q ⊢
      rw [List.getElem?_set_ne u]; exact q
theorem g_bastore (X : Wk p l e R s m args below meth c n1 Z Ts Lt T h cells slots) (hx : p.tables.exec = Jvm.exec) (hZ : Z.Warmed39 s.vm) (F : AV Z h a .byte vs) {j : Int32} {i : Nat} (hj : j.toInt = (i : Int)) (hi : i < vs.length) (hna : n1 ≤ a) {x y : Int32} (hxy : nar .byte x = y) (hp : pc + 1 = pc') (hd : decode c.code pc = .ok (.bastore, 1))
    (k : ∀ T' h', Wk p l e R s m args below meth c n1 Z Ts Lt T' h' cells slots → Wr h h' a j.toNatClampNeg (.int y) → AV Z h' a .byte (vs.set i (.int y)) → Go p e below s n0 Q nc ns (T'.setTop (mkF m pc' Ls rest))) : Go p e below s n0 Q nc ns (T.setTop (mkF m pc Ls (.int x :: .int j :: .ref a :: rest))) := by
  subst hp; subst hxy; obtain ⟨locs, vm0, X, N, eT, B⟩ := X; replace hZ := B.hZ hZ
  obtain ⟨e1, e2⟩ := own_idx hj
  obtain ⟨cl, A, S, hl, H⟩ := F
  have hin : ¬ (j < 0 ∨ cl.slots.size ≤ j.toNatClampNeg) := by rw [e1, S]; intro q; rcases q with q | q; exact e2 q; omega
  obtain ⟨T', h', X', e', W', b⟩ := stB X hx hZ eT A (x := x) hin (g := mkF m pc Ls (.int x :: .int j :: .ref a :: rest)) rfl rfl hd
  exact go_back b (k T' h' ⟨_, vm0, X', Fr.snoc X' N hna, e', B.grow (Nat.le_of_eq W'.size.symm)⟩ W' (AV.set ⟨cl, A, S, hl, H⟩ e1 hi (fits_nar_byte x) W'))
theorem g_castore (X : Wk p l e R s m args below meth c n1 Z Ts Lt T h cells slots) (hx : p.tables.exec = Jvm.exec) (hZ : Z.Warmed39 s.vm) (F : AV Z h a .char vs) {j : Int32} {i : Nat} (hj : j.toInt = (i : Int)) (hi : i < vs.length) (hna : n1 ≤ a) {x y : Int32} (hxy : nar .char x = y) (hp : pc + 1 = pc') (hd : decode c.code pc = .ok (.castore, 1))
    (k : ∀ T' h', Wk p l e R s m args below meth c n1 Z Ts Lt T' h' cells slots → Wr h h' a j.toNatClampNeg (.int y) → AV Z h' a .char (vs.set i (.int y)) → Go p e below s n0 Q nc ns (T'.setTop (mkF m pc' Ls rest))) : Go p e below s n0 Q nc ns (T.setTop (mkF m pc Ls (.int x :: .int j :: .ref a :: rest))) := by
  subst hp; subst hxy; obtain ⟨locs, vm0, X, N, eT, B⟩ := X; replace hZ := B.hZ hZ
  obtain ⟨e1, e2⟩ := own_idx hj
  obtain ⟨cl, A, S, hl, H⟩ := F
  have hin : ¬ (j < 0 ∨ cl.slots.size ≤ j.toNatClampNeg) := by rw [e1, S]; intro q; rcases q with q | q; exact e2 q; omega
  obtain ⟨T', h', X', e', W', b⟩ := stC X hx hZ eT A (x := x) hin (g := mkF m pc Ls (.int x :: .int j :: .ref a :: rest)) rfl rfl hd
  exact go_back b (k T' h' ⟨_, vm0, X', Fr.snoc X' N hna, e', B.grow (Nat.le_of_eq W'.size.symm)⟩ W' (AV.set ⟨cl, A, S, hl, H⟩ e1 hi (fits_nar_char x) W'))
theorem g_newA (X : Wk p l e R s m args below meth c n1 Z Ts Lt T h cells slots) (hx : p.tables.exec = Jvm.exec) (hZ : Z.Warmed39 s.vm) {aty : ArrayType} (w : (Jvm.Cond.arrayClass (newarray.typeOf aty)).before a0 Z = true) {n : Int32} {N : Nat} (hn : n.toInt = (N : Int)) {cap : Nat} (hcap : N ≤ cap) (hb : cap * 8 ≤ 536870912) (hp : pc + 2 = pc') (hd : decode c.code pc = .ok (.newarray aty, 2)) (hc : cells + 1 ≤ R.cells) (hl : slots + cap ≤ R.slots)
    (k : ∀ T' h' a, a = h.size → Wk p l e R s m args below meth c n1 Z Ts Lt T' h' (cells + 1) (slots + cap) → Ext h h' → AV Z h' a (newarray.typeOf aty) (List.replicate N (defaultValue (newarray.typeOf aty))) → Go p e below s n0 Q nc ns (T'.setTop (mkF m pc' Ls (.ref a :: rest)))) : Go p e below s n0 Q nc ns (T.setTop (mkF m pc Ls (.int n :: rest))) := by
  subst hp; obtain ⟨locs, vm0, X, Nf, eT, B⟩ := X; replace hZ := B.hZ hZ
  obtain ⟨e1, e2⟩ := own_idx hn
  obtain ⟨T', h', cA, X', e', E', A', b⟩ := newP X hx hZ (aty := aty) w eT (g := mkF m pc Ls (.int n :: rest)) rfl hd rfl e2 (cap := cap) (by rw [e1]; exact hcap) hb hc hl
  have V := Arv.pad (vs' := List.replicate N (defaultValue (newarray.typeOf aty))) (Arv.new A' e2) (fun i => by
    have q := pad_rep [] (defaultValue (newarray.typeOf aty)) N i
    simpa using q)
  exact go_back b (k T' h' h.size rfl ⟨_, vm0, X', Nf, e', B.grow E'.1⟩ E' (Arv.av V (by rw [e1, List.length_replicate]) (by rw [List.length_replicate]; omega)))
theorem g_alen (X : Wk p l e R s m args below meth c n1 Z Ts Lt T h cells slots) (hx : p.tables.exec = Jvm.exec) (hZ : Z.Warmed39 s.vm) (F : AV Z h a ty vs) {z : Int32} (hz : z.toInt = (vs.length : Int)) (hp : pc + 1 = pc') (hd : decode c.code pc = .ok (.arraylength, 1))
    (k : Go p e below s n0 Q nc ns (T.setTop (mkF m pc' Ls (.int z :: rest)))) : Go p e below s n0 Q nc ns (T.setTop (mkF m pc Ls (.ref a :: rest))) := by
  subst hp; obtain ⟨locs, vm0, X, N, eT, B⟩ := X; replace hZ := B.hZ hZ
  obtain ⟨cl, A, S, -, H⟩ := F
  obtain ⟨e1, e2⟩ := own_idx hz
  have e3 : cl.slots.size.toInt32 = z := len_of (by rw [S, e1]) e2
  refine go_back (fun t q => X.arraylength hx (by rw [eT]; exact A.1) (State.isArrayOf_alike hZ.alike A.2.1) (g := mkF m pc Ls (.ref a :: rest)) rfl rfl hd t ?_) k
  rw [e3]; exact q
theorem since_up {s : State} {vm : Vm} {n n' : Nat} (q : s.Since vm n) (hn : n ≤ n') : s.Since vm n' := ⟨q.1, fun j p hj hp => ⟨(q.2 j p hj hp).1, Nat.lt_of_lt_of_le (q.2 j p hj hp).2 hn⟩⟩
/-- ldc of a String constant, the first time (its text is not among those loaded) -/
theorem g_ldcS (X : Wk p l e R s m args below meth c s.heap.size Z Ts Lt T h cells slots) (hx : p.tables.exec = Jvm.exec) (hZ : Z.Warmed39 s.vm) {own text : String} {index : Nat} (hown : s.vm.findClass own = some m.cls) (w : (Jvm.Cond.stringLink own index text).before a0 Z = true) (wS : ∀ d ∈ Bundle.stringAtoms, d.before a0 Z = true)
    (hkeep : ∀ (b : Addr) (cl : Cell), Z.heap[b]? = some cl → s.heap[b]? = some cl) (hnot : text ∉ Ts) (hh : Jvm.Lit.constHeld Z own index) (hcw : Jvm.Lit.compactW.before a0 Z = true)
    (ht : (∀ q ∈ text.toList, q.toNat < 256) ∧ text.toList.map (fun q => Value.int (Jvm.Lit.byteI q.toNat.toUInt16)) = vs) (hL : vs.length < 2147483648) (hp : pc + 2 = pc') (hd : decode c.code pc = .ok (.ldc index, 2)) {n : Nat} (hn : 4 * text.toList.length ≤ n) (hbig : n ≤ 536870912) (hc : cells + 2 ≤ R.cells) (hl : slots + (n + 4) ≤ R.slots)
    (k : ∀ T' h' a b, Wk p l e R s m args below meth c s.heap.size Z (text :: Ts) ((own, index, a) :: Lt) T' h' (cells + 2) (slots + (n + 4)) → Ext h h' → Exa Z h' a "java/lang/String" → Fld Z h' a "java/lang/String" "coder" "B" (.int 0) → Fld Z h' a "java/lang/String" "value" "[B" (.ref b) → AV Z h' b .byte vs → ((a < s.heap.size ∧ b < s.heap.size) ∨ (h.size ≤ a ∧ h.size ≤ b)) →
      Go p e below s n0 Q nc ns (T'.setTop (mkF m pc' Ls (.ref a :: st)))) : Go p e below s n0 Q nc ns (T.setTop (mkF m pc Ls st)) := by
  subst hp; obtain ⟨locs, vm0, X, N, eT, B⟩ := X; replace hZ := B.hZ hZ; replace hown := B.fc hown
  obtain ⟨⟨k0, hS, hk⟩, I, t⟩ := B
  obtain ⟨a, T', h', k1, b, kk, X', e', E, hS', hk', hW, hf, h1, h2, h3, h4, -, -, I', L', hw, st'⟩ := ldcSVd (s := s.setVm vm0) (vm0 := vm0) X hx hZ hown w wS eT ((State.WarmedH.refl (s.setVm vm0)).since h.size) (Nat.le_refl _) N hkeep I hnot hh hcw (z := Nat.toInt32 vs.length) ht (own_len hL).2 (own_len hL).1 (g := mkF m pc Ls st) rfl hd hn hbig hc hl
  refine go_back st' (k T' h' a b ⟨_, T'.vm, X', N, e', ⟨⟨h'.size, hS.trans (since_up hS' hk') (Nat.le_trans hk E.1), Nat.le_refl _⟩, I', fun q hq => ?_⟩⟩ E h1 h2 h3 (Arv.av h4 (own_len hL).1 hL) hw)
  rcases List.mem_cons.mp hq with rfl | hq
  · exact L'
  · exact Lit.stays (t q hq) hS'.1
theorem g_ldcA (X : Wk p l e R s m args below meth c n1 Z Ts Lt T h cells slots) (hx : p.tables.exec = Jvm.exec) (hZ : Z.Warmed39 s.vm) {own text : String} {index : Nat} (hown : s.vm.findClass own = some m.cls) (w : (Jvm.Cond.stringLink own index text).before a0 Z = true) (hm : (own, index, a) ∈ Lt) (hp : pc + 2 = pc') (hd : decode c.code pc = .ok (.ldc index, 2))
    (k : Go p e below s n0 Q nc ns (T.setTop (mkF m pc' Ls (.ref a :: st)))) : Go p e below s n0 Q nc ns (T.setTop (mkF m pc Ls st)) := by
  subst hp; obtain ⟨locs, vm0, X, N, eT, B⟩ := X; replace hZ := B.hZ hZ; replace hown := B.fc hown
  exact go_back (ldcAgain X hx hZ hown w (B.lt _ hm) (g := mkF m pc Ls st) rfl hd) k
theorem g_cast (X : Wk p l e R s m args below meth c n1 Z Ts Lt T h cells slots) (hx : p.tables.exec = Jvm.exec) (hZ : Z.Warmed39 s.vm) {own K : String} {index : Nat} (hown : s.vm.findClass own = some m.cls) (w : (Jvm.Cond.classLink own index K).before a0 Z = true) (F : Ins Z h a K true) (hp : pc + 3 = pc') (hd : decode c.code pc = .ok (.checkcast index, 3))
    (k : ∀ T', Wk p l e R s m args below meth c n1 Z Ts Lt T' h cells slots → Go p e below s n0 Q nc ns (T'.setTop (mkF m pc' Ls (.ref a :: rest)))) : Go p e below s n0 Q nc ns (T.setTop (mkF m pc Ls (.ref a :: rest))) := by
  subst hp; obtain ⟨locs, vm0, X, N, eT, B⟩ := X; replace hZ := B.hZ hZ; replace hown := B.fc hown
  obtain ⟨T', X', e', b⟩ := castY X hx hZ hown w eT F (g := mkF m pc Ls (.ref a :: rest)) rfl rfl hd
  exact go_back b (k T' ⟨_, vm0, X', N, e', B⟩)
/-- System.arraycopy between arrays of one primitive type -/
theorem g_copyP (X : Wk p l e R s m args below meth c n1 Z Ts Lt T h cells slots) (hx : p.tables.exec = Jvm.exec) (hZ : Z.Warmed39 s.vm) {own : String} {index : Nat} (hown : s.vm.findClass own = some m.cls)
    (w1 : (Jvm.Cond.methodLink own index Jvm.Stand.acN).before a0 Z = true) (w2 : (Jvm.Cond.native Jvm.Stand.acN).before a0 Z = true) (w3 : (Jvm.Cond.static Jvm.Stand.acN).before a0 Z = true) (w4 : (Jvm.Cond.initialized "java/lang/System").before a0 Z = true)
    (A : AV Z h a ty vs) (B : AV Z h b ty ws) (hty : refKind ty = false) {sp dp nn : Int32} {i j n : Nat} (h1 : sp.toInt = (i : Int)) (h2 : dp.toInt = (j : Int)) (h3 : nn.toInt = (n : Int)) (h4 : i + n ≤ vs.length) (h5 : j + n ≤ ws.length) (ge : n1 ≤ b)
    (hsz : Ls.size = c.maxLocals) (hp : pc + 3 = pc') (hd : decode c.code pc = .ok (.invokestatic index, 3)) (hf : 1 ≤ R.frames) {W : Nat} (hW : 2 * 0 + (rest.map fun v => v.category).sum ≤ W) (hlo : W + (nativeFrameWords "java/lang/System" "arraycopy" 5 + 11) ≤ R.locals)
    (k : ∀ T' h', Wk p l e R s m args below meth c n1 Z Ts Lt T' h' cells slots → Keep h h' [b] → AV Z h' b ty (ws.take j ++ (vs.drop i).take n ++ ws.drop (j + n)) → Go p e below s n0 Q nc ns (T'.setTop (mkF m pc' Ls rest))) : Go p e below s n0 Q nc ns (T.setTop (mkF m pc Ls (.int nn :: .int dp :: .ref b :: .int sp :: .ref a :: rest))) := by
  subst hp; obtain ⟨locs, vm0, X, N, eT, B0⟩ := X; replace hZ := B0.hZ hZ; replace hown := B0.fc hown
  have LA := A
  have LB := B
  obtain ⟨-, -, -, LA, -⟩ := LA
  obtain ⟨-, -, -, LB, -⟩ := LB
  obtain ⟨ka, A⟩ := A.arv
  obtain ⟨kb, B⟩ := B.arv
  have idx : ∀ {z : Int32} {t : Nat}, z.toInt = (t : Int) → z.toNatClampNeg = t ∧ ¬ z < 0 := fun {z t} hj => by
    constructor
    · unfold Int32.toNatClampNeg; rw [hj]; rfl
    · rw [Int32.lt_iff_toInt_lt, hj]; have : (0 : Int32).toInt = 0 := rfl
      omega
  obtain ⟨s1, s2⟩ := idx h1
  obtain ⟨d1, d2⟩ := idx h2
  obtain ⟨n1, n2⟩ := idx h3
  have hus : (vs.drop i).take n = (List.range nn.toNatClampNeg).map fun t => vs.getD (sp.toNatClampNeg + t) .null := by
    rw [s1, n1]
    apply List.ext_getElem?
    intro t
    simp only [List.getElem?_map, List.getElem?_take, List.getElem?_drop, List.getElem?_range]
    by_cases ht : t < n
    · simp [ht, List.getElem?_eq_getElem (show i + t < vs.length by omega), List.getElem?_range ht]
    · simp [ht]
  obtain ⟨T', h', L, X', e', N', K, V, b'⟩ := cpA X hx hZ hown w1 w2 w3 w4 eT A B (Or.inl ⟨rfl, hty⟩) s2 d2 n2 (by rw [s1, n1, (own_len LA).1]; exact h4) (by rw [d1, n1, (own_len LB).1]; exact h5) hus (by rw [d1, n1]; exact h5) N ge (g := mkF m pc Ls (.int nn :: .int dp :: .ref b :: .int sp :: .ref a :: rest)) rfl hsz rfl hd hf hW hlo
  have el : (ws.take j ++ (vs.drop i).take n ++ ws.drop (j + n)).length = ws.length := by
    simp only [List.length_append, List.length_take, List.length_drop]; omega
  rw [d1, n1] at V
  exact go_back b' (k T' h' ⟨_, vm0, X', N', e', B0.grow K.1⟩ K (Arv.av V (by rw [(own_len LB).1, el]) (by rw [el]; exact LB)))
theorem nar_i2b (x : Int32) : nar .byte (x.toInt8.toInt32) = x.toInt8.toInt32 := by simp [nar]
theorem nar_i2c (x : Int32) : nar .char (x.toUInt32.toUInt16.toUInt32.toInt32) = x.toUInt32.toUInt16.toUInt32.toInt32 := by
  show (x.toUInt32.toUInt16.toUInt32.toInt32).toUInt32.toUInt16.toUInt32.toInt32 = _
  rw [UInt32.toUInt32_toInt32, UInt16.toUInt16_toUInt32]
end OwnAv
section OwnAr
variable {p : Program} {l : Launch} {e : Env} {R : Room} {s : State} {m : MethodId} {args : Array Value} {below : List Frame} {meth : Method} {c : Code} {T : State} {Z : State} {a0 : Array Value} {h h' : Heap} {n0 n1 cells slots nc ns pc pc' : Nat} {Ls : Array Slot} {st rest : List Value} {Q : GQ} {Ts Ts' : List String} {Lt : List (String × Nat × Addr)} {vm0 : Vm} {a b : Addr} {vs ws : List Value}
/-- in heap h, at a, there is an Object[] that holds just these -/
def AR (Z : State) (h : Heap) (a : Addr) (vs : List Value) : Prop := ∃ c : Cell, Arr Z h a c (.object "java/lang/Object") ∧ Ovr Z c.cls "java/lang/Object" ∧ c.slots.size = vs.length ∧ vs.length < 2147483648 ∧ (∀ i, i < vs.length → c.slots[i]? = some (vs.getD i .null)) ∧ ∀ i, i < vs.length → (vs.getD i .null).isRef = true
theorem AR.lt (F : AR Z h a vs) : a < h.size := by obtain ⟨c, A, -⟩ := F; exact A.lt
theorem AR.ext (F : AR Z h a vs) (E : Ext h h') : AR Z h' a vs := by obtain ⟨c, A, r⟩ := F; exact ⟨c, A.ext E, r⟩
theorem AR.other {sl : Nat} {v : Value} (F : AR Z h b vs) (W : Wr h h' a sl v) (q : b ≠ a) : AR Z h' b vs := by obtain ⟨c, A, r⟩ := F; exact ⟨c, A.other W q, r⟩
theorem AR.keep {ws : List Addr} (F : AR Z h a vs) (K : Keep h h' ws) (q : a ∉ ws) : AR Z h' a vs := by obtain ⟨c, A, r⟩ := F; exact ⟨c, ⟨K.2.1 a c A.1 q, A.2⟩, r⟩
theorem g_aaload (X : Wk p l e R s m args below meth c n1 Z Ts Lt T h cells slots) (hx : p.tables.exec = Jvm.exec) (hZ : Z.Warmed39 s.vm) (F : AR Z h a vs) {j : Int32} {i : Nat} (hj : j.toInt = (i : Int)) (hi : i < vs.length) {v : Value} (hv : vs.getD i .null = v) (hp : pc + 1 = pc') (hd : decode c.code pc = .ok (.aaload, 1))
    (k : Go p e below s n0 Q nc ns (T.setTop (mkF m pc' Ls (v :: rest)))) : Go p e below s n0 Q nc ns (T.setTop (mkF m pc Ls (.int j :: .ref a :: rest))) := by
  subst hp; subst hv; obtain ⟨locs, vm0, X, N, eT, B⟩ := X; replace hZ := B.hZ hZ
  obtain ⟨cl, A, -, S, -, H, G⟩ := F
  obtain ⟨e1, e2⟩ := own_idx hj
  have hin : ¬ (j < 0 ∨ cl.slots.size ≤ j.toNatClampNeg) := by rw [e1, S]; intro q; rcases q with q | q; exact e2 q; omega
  exact go_back (fun t q => X.aaload hx (j := j) (v := vs.getD i .null) (by rw [eT]; exact A.1) (State.isArrayOf_alike hZ.alike A.2.1) rfl A.2.2 hin (by rw [e1]; exact H i hi) (g := mkF m pc Ls (.int j :: .ref a :: rest)) rfl rfl hd t q) k
theorem g_alenR (X : Wk p l e R s m args below meth c n1 Z Ts Lt T h cells slots) (hx : p.tables.exec = Jvm.exec) (hZ : Z.Warmed39 s.vm) (F : AR Z h a vs) {z : Int32} (hz : z.toInt = (vs.length : Int)) (hp : pc + 1 = pc') (hd : decode c.code pc = .ok (.arraylength, 1))
    (k : Go p e below s n0 Q nc ns (T.setTop (mkF m pc' Ls (.int z :: rest)))) : Go p e below s n0 Q nc ns (T.setTop (mkF m pc Ls (.ref a :: rest))) := by
  subst hp; obtain ⟨locs, vm0, X, N, eT, B⟩ := X; replace hZ := B.hZ hZ
  obtain ⟨cl, A, -, S, -⟩ := F
  obtain ⟨e1, e2⟩ := own_idx hz
  have e3 : cl.slots.size.toInt32 = z := len_of (by rw [S, e1]) e2
  refine go_back (fun t q => X.arraylength hx (by rw [eT]; exact A.1) (State.isArrayOf_alike hZ.alike A.2.1) (g := mkF m pc Ls (.ref a :: rest)) rfl rfl hd t ?_) k
  rw [e3]; exact q
theorem g_aastore (X : Wk p l e R s m args below meth c n1 Z Ts Lt T h cells slots) (hx : p.tables.exec = Jvm.exec) (hZ : Z.Warmed39 s.vm) (F : AR Z h a vs) {j : Int32} {i : Nat} (hj : j.toInt = (i : Int)) (hi : i < vs.length) (hna : n1 ≤ a) {y : Addr} (I : Ins Z h y "java/lang/Object" true) (hp : pc + 1 = pc') (hd : decode c.code pc = .ok (.aastore, 1))
    (k : ∀ T' h', Wk p l e R s m args below meth c n1 Z Ts Lt T' h' cells slots → Wr h h' a j.toNatClampNeg (.ref y) → AR Z h' a (vs.set i (.ref y)) → Go p e below s n0 Q nc ns (T'.setTop (mkF m pc' Ls rest))) : Go p e below s n0 Q nc ns (T.setTop (mkF m pc Ls (.ref y :: .int j :: .ref a :: rest))) := by
  subst hp; obtain ⟨locs, vm0, X, N, eT, B⟩ := X; replace hZ := B.hZ hZ
  obtain ⟨e1, e2⟩ := own_idx hj
  obtain ⟨cl, A, O, S, hl, H, G⟩ := F
  have hin : ¬ (j < 0 ∨ cl.slots.size ≤ j.toNatClampNeg) := by rw [e1, S]; intro q; rcases q with q | q; exact e2 q; omega
  obtain ⟨T', h', X', e', W', b⟩ := stR X hx hZ eT A (v := .ref y) hin rfl (Sto.of A O I) (g := mkF m pc Ls (.ref y :: .int j :: .ref a :: rest)) rfl rfl hd
  refine go_back b (k T' h' ⟨_, vm0, X', Fr.snoc X' N hna, e', B.grow (Nat.le_of_eq W'.size.symm)⟩ W' ⟨_, A.same W', O, by rw [sz_set, S, List.length_set], by rw [List.length_set]; exact hl, fun k hk => ?_, fun k hk => ?_⟩)
  · rw [List.length_set] at hk
    rw [e1]
    by_cases u : i = k
    · subst u; simp [Cell.setSlot, S, hi]
    · have q := H k hk
      simp only [Cell.setSlot, List.getD_eq_getElem?_getD] at q ⊢
      rw [Array.getElem?_setIfInBounds_ne u, List.getElem?_set_ne u]; exact q
  · rw [List.length_set] at hk
    by_cases u : i = k
    · subst u; simp [hi, Value.isRef]
    · have q := G k hk
      simp only [List.getD_eq_getElem?_getD] at q ⊢
      rw [List.getElem?_set_ne u]; exact q
theorem g_newR (X : Wk p l e R s m args below meth c n1 Z Ts Lt T h cells slots) (hx : p.tables.exec = Jvm.exec) (hZ : Z.Warmed39 s.vm) {own : String} {index : Nat} (hown : s.vm.findClass own = some m.cls) (w1 : (Jvm.Cond.classLink own index "java/lang/Object").before a0 Z = true) (w2 : (Jvm.Cond.arrayOver (.object "java/lang/Object")).before a0 Z = true) {n : Int32} {N : Nat} (hn : n.toInt = (N : Int)) {cap : Nat} (hcap : N ≤ cap) (hb : cap * 8 ≤ 536870912) (hp : pc + 3 = pc') (hd : decode c.code pc = .ok (.anewarray index, 3)) (hc : cells + 1 ≤ R.cells) (hl : slots + cap ≤ R.slots)
    (k : ∀ T' h' a, a = h.size → Wk p l e R s m args below meth c n1 Z Ts Lt T' h' (cells + 1) (slots + cap) → Ext h h' → AR Z h' a (List.replicate N .null) → Exa Z h' a "[Ljava/lang/Object;" → Go p e below s n0 Q nc ns (T'.setTop (mkF m pc' Ls (.ref a :: rest)))) : Go p e below s n0 Q nc ns (T.setTop (mkF m pc Ls (.int n :: rest))) := by
  subst hp; obtain ⟨locs, vm0, X, Nf, eT, B⟩ := X; replace hZ := B.hZ hZ; replace hown := B.fc hown
  obtain ⟨e1, e2⟩ := own_idx hn
  obtain ⟨T', h', cA, X', e', E', A', EX, O, b⟩ := newRE X hx hZ hown w1 w2 eT (g := mkF m pc Ls (.int n :: rest)) rfl hd rfl e2 (cap := cap) (by rw [e1]; exact hcap) hb hc hl (ad := "[Ljava/lang/Object;") (by decide)
  refine go_back b (k T' h' h.size rfl ⟨_, vm0, X', Nf, e', B.grow E'.1⟩ E' ⟨_, A', O, by rw [sz_new, e1, List.length_replicate], by rw [List.length_replicate]; omega, fun i hi => ?_, fun i hi => ?_⟩ EX)
  · rw [List.length_replicate] at hi
    simp [newA, e1, hi, List.getD_eq_getElem?_getD, List.getElem?_replicate, defaultValue]
  · rw [List.length_replicate] at hi
    simp [List.getD_eq_getElem?_getD, List.getElem?_replicate, hi, Value.isRef]
theorem g_acmpY (X : Wk p l e R s m args below meth c n1 Z Ts Lt T h cells slots) (hx : p.tables.exec = Jvm.exec) {cd : ACond} {x y : Value} {o : Int} {pcY : Nat} (h1 : x.isRef = true) (h2 : y.isRef = true) (hd : decode c.code pc = .ok (.if_acmp cd o, 3)) (ho : 0 ≤ (pc : Int) + o) (hY : ((pc : Int) + o).toNat = pcY) (q : acV cd (decide (x = y)) = true)
    (k : Go p e below s n0 Q nc ns (T.setTop (mkF m pcY Ls rest))) : Go p e below s n0 Q nc ns (T.setTop (mkF m pc Ls (y :: x :: rest))) := by
  obtain ⟨locs, vm0, X, -⟩ := X
  exact go_back (fun _ j => acmp X hx (g := mkF m pc Ls (y :: x :: rest)) rfl h1 h2 rfl hd rfl rfl ho (by rw [if_pos q]; exact hY.symm) j) k
theorem g_acmpN (X : Wk p l e R s m args below meth c n1 Z Ts Lt T h cells slots) (hx : p.tables.exec = Jvm.exec) {cd : ACond} {x y : Value} {o : Int} {pcN : Nat} (h1 : x.isRef = true) (h2 : y.isRef = true) (hd : decode c.code pc = .ok (.if_acmp cd o, 3)) (ho : 0 ≤ (pc : Int) + o) (hN : pc + 3 = pcN) (q : ¬ acV cd (decide (x = y)) = true)
    (k : Go p e below s n0 Q nc ns (T.setTop (mkF m pcN Ls rest))) : Go p e below s n0 Q nc ns (T.setTop (mkF m pc Ls (y :: x :: rest))) := by
  obtain ⟨locs, vm0, X, -⟩ := X
  exact go_back (fun _ j => acmp X hx (g := mkF m pc Ls (y :: x :: rest)) rfl h1 h2 rfl hd rfl rfl ho (by rw [if_neg q]; exact hN.symm) j) k
/-- the class's mirror has been made -/
def Mir0 (Z : State) (C : String) (m : Addr) : Prop := ∃ (c : ClassId) (k : Class), Z.vm.findClass C = some c ∧ Z.vm.classes[c]? = some k ∧ k.mirror = some m
theorem g_gcls (X : Wk p l e R s m args below meth c n1 Z Ts Lt T h cells slots) (hx : p.tables.exec = Jvm.exec) (hZ : Z.Warmed39 s.vm) {own C : String} {index : Nat} (hown : s.vm.findClass own = some m.cls)
    (w1 : (Jvm.Cond.methodLink own index ⟨"java/lang/Object", "getClass", "()Ljava/lang/Class;"⟩).before a0 Z = true) (w2 : (Jvm.Cond.declares ⟨"java/lang/Object", "getClass", "()Ljava/lang/Class;"⟩).before a0 Z = true) (w4 : (Jvm.Cond.selects C ⟨"java/lang/Object", "getClass", "()Ljava/lang/Class;"⟩ ⟨"java/lang/Object", "getClass", "()Ljava/lang/Class;"⟩).before a0 Z = true)
    (w5 : (Jvm.Cond.instanceMethod ⟨"java/lang/Object", "getClass", "()Ljava/lang/Class;"⟩).before a0 Z = true) (w6 : (Jvm.Cond.native ⟨"java/lang/Object", "getClass", "()Ljava/lang/Class;"⟩).before a0 Z = true) (E : Exa Z h a C) {mr : Addr} (M : Mir0 Z C mr)
    (hsz : Ls.size = c.maxLocals) (hp : pc + 3 = pc') (hd : decode c.code pc = .ok (.invokevirtual index, 3)) (hf : 1 ≤ R.frames) (hl : 2 * 0 + (rest.map fun v => v.category).sum + (nativeFrameWords "java/lang/Object" "getClass" 1 + 11) ≤ R.locals)
    (k : ∀ T', Wk p l e R s m args below meth c n1 Z Ts Lt T' h cells slots → Go p e below s n0 Q nc ns (T'.setTop (mkF m pc' Ls (.ref mr :: rest)))) : Go p e below s n0 Q nc ns (T.setTop (mkF m pc Ls (.ref a :: rest))) := by
  subst hp; obtain ⟨locs, vm0, X, N, eT, B⟩ := X; replace hZ := B.hZ hZ; replace hown := B.fc hown
  obtain ⟨cB, kB, i1, i2, i3⟩ := isOf hZ eT E
  obtain ⟨cc, kc, m1, m2, m3⟩ := M
  rw [hZ.alike.findClass] at i1
  cases i1.symm.trans m1
  obtain ⟨k', q, ek⟩ := hZ.alike.2.2 _ _ m2
  obtain ⟨vm', X', st'⟩ := X.getClassOf hx hown (mvT hZ w1) (mvT hZ w2) (notFace_of_selects (args := #[]) (mvT hZ w4)) (mvT hZ w4) (mvT hZ w5) (mvT hZ w6) (by rw [hZ.alike.findClass]; exact m1) i3 q (by rw [ek]; exact m3) (g := mkF m pc Ls (.ref a :: rest)) rfl hsz rfl hd hf hl
  exact go_back st' (k _ ⟨_, vm0, X', N, eT, B⟩)
theorem g_ldcM (X : Wk p l e R s m args below meth c n1 Z Ts Lt T h cells slots) (hx : p.tables.exec = Jvm.exec) (hZ : Z.Warmed39 s.vm) {own C : String} {index : Nat} (hown : s.vm.findClass own = some m.cls) (w : (Jvm.Cond.classLink own index C).before a0 Z = true) {mr : Addr} (M : Mir0 Z C mr) (hp : pc + 2 = pc') (hd : decode c.code pc = .ok (.ldc index, 2))
    (k : ∀ T', Wk p l e R s m args below meth c n1 Z Ts Lt T' h cells slots → Go p e below s n0 Q nc ns (T'.setTop (mkF m pc' Ls (.ref mr :: st)))) : Go p e below s n0 Q nc ns (T.setTop (mkF m pc Ls st)) := by
  subst hp; obtain ⟨locs, vm0, X, N, eT, B⟩ := X; replace hZ := B.hZ hZ; replace hown := B.fc hown
  obtain ⟨cc, kc, m1, m2, m3⟩ := M
  obtain ⟨k', q, ek⟩ := hZ.alike.2.2 _ _ m2
  obtain ⟨vm', X', st'⟩ := X.ldcMirror hx hown (mvT hZ w) (a := mr) (by
    have f : (s.setVm vm0).vm.findClass C = some cc := by rw [hZ.alike.findClass]; exact m1
    have mk : k'.mirror = some mr := by rw [ek]; exact m3
    simp only [Term.eval, Option.bind_eq_bind, f, Option.bind_some, q, mk, Option.pure_def]) (g := mkF m pc Ls st) rfl hd
  exact go_back st' (k _ ⟨_, vm0, X', N, eT, B⟩)
/-- System.arraycopy of references between two Object[]s -/
theorem g_copyR (X : Wk p l e R s m args below meth c n1 Z Ts Lt T h cells slots) (hx : p.tables.exec = Jvm.exec) (hZ : Z.Warmed39 s.vm) {own : String} {index : Nat} (hown : s.vm.findClass own = some m.cls)
    (w1 : (Jvm.Cond.methodLink own index Jvm.Stand.acN).before a0 Z = true) (w2 : (Jvm.Cond.native Jvm.Stand.acN).before a0 Z = true) (w3 : (Jvm.Cond.static Jvm.Stand.acN).before a0 Z = true) (w4 : (Jvm.Cond.initialized "java/lang/System").before a0 Z = true)
    (A : AR Z h a vs) (B : AR Z h b ws) {sp dp nn : Int32} {n : Nat} (h1 : sp.toInt = 0) (h2 : dp.toInt = 0) (h3 : nn.toInt = (n : Int)) (h4 : n ≤ vs.length) (h5 : n ≤ ws.length) (hI : ∀ v ∈ vs.take n, ∃ y, v = .ref y ∧ Ins Z h y "java/lang/Object" true) (ge : n1 ≤ b)
    (hsz : Ls.size = c.maxLocals) (hp : pc + 3 = pc') (hd : decode c.code pc = .ok (.invokestatic index, 3)) (hf : 1 ≤ R.frames) {W : Nat} (hW : 2 * 0 + (rest.map fun v => v.category).sum ≤ W) (hlo : W + (nativeFrameWords "java/lang/System" "arraycopy" 5 + 11) ≤ R.locals)
    (k : ∀ T' h', Wk p l e R s m args below meth c n1 Z Ts Lt T' h' cells slots → Keep h h' [b] → AR Z h' b (vs.take n ++ ws.drop n) → Go p e below s n0 Q nc ns (T'.setTop (mkF m pc' Ls rest))) : Go p e below s n0 Q nc ns (T.setTop (mkF m pc Ls (.int nn :: .int dp :: .ref b :: .int sp :: .ref a :: rest))) := by
  subst hp; obtain ⟨locs, vm0, X, N, eT, B0⟩ := X; replace hZ := B0.hZ hZ; replace hown := B0.fc hown
  obtain ⟨ca, Aa, Oa, Sa, La, Ha, Ga⟩ := A
  obtain ⟨cb, Ab, Ob, Sb, Lb, Hb, Gb⟩ := B
  have fr : ∀ {v : Value}, v.isRef = true → Jvm.fits (.object "java/lang/Object") v = true := fun {v} q => by cases v <;> simp_all [Value.isRef, Jvm.fits]
  have VA : Arv Z h a ca.cls (.object "java/lang/Object") (Nat.toInt32 vs.length) vs .null := ⟨ca, Aa, rfl, by rw [Sa, (own_len La).1], (own_len La).2, fun i hi => Ha i (by omega), fun i hi => fr (Ga i (by omega))⟩
  have VB : Arv Z h b cb.cls (.object "java/lang/Object") (Nat.toInt32 ws.length) ws .null := ⟨cb, Ab, rfl, by rw [Sb, (own_len Lb).1], (own_len Lb).2, fun i hi => Hb i (by omega), fun i hi => fr (Gb i (by omega))⟩
  obtain ⟨s1, s2⟩ := own_idx (i := 0) h1
  obtain ⟨d1, d2⟩ := own_idx (i := 0) h2
  obtain ⟨n1', n2⟩ := own_idx h3
  have hus : vs.take n = (List.range nn.toNatClampNeg).map fun t => vs.getD (sp.toNatClampNeg + t) .null := by
    rw [s1, n1']
    apply List.ext_getElem?
    intro t
    simp only [List.getElem?_map, List.getElem?_take]
    by_cases ht : t < n
    · simp [ht, List.getElem?_eq_getElem (show t < vs.length by omega), List.getElem?_range ht]
    · simp [ht]
  have hSto : ∀ us : List Value, (∀ v ∈ us, ∃ y, v = .ref y ∧ Ins Z h y "java/lang/Object" true) → StoL Z h b us := fun us => by
    induction us with
    | nil => intro _; trivial
    | cons v r ih =>
      intro q
      obtain ⟨y, rfl, I⟩ := q v (List.mem_cons_self ..)
      exact ⟨Sto.of Ab Ob I, ih fun u hu => q u (List.mem_cons_of_mem _ hu)⟩
  obtain ⟨T', h', L, X', e', N', K, V, b'⟩ := cpA X hx hZ hown w1 w2 w3 w4 eT VA VB (Or.inr ⟨rfl, rfl, hSto _ hI⟩) s2 d2 n2 (by rw [s1, n1', (own_len La).1]; omega) (by rw [d1, n1', (own_len Lb).1]; omega) hus (by rw [d1, n1']; omega) N ge (g := mkF m pc Ls (.int nn :: .int dp :: .ref b :: .int sp :: .ref a :: rest)) rfl hsz rfl hd hf hW hlo
  rw [d1, n1', List.take_zero, List.nil_append, Nat.zero_add] at V
  have el : (vs.take n ++ ws.drop n).length = ws.length := by simp only [List.length_append, List.length_take, List.length_drop]; omega
  obtain ⟨cv, Av, qv, Sv, -, Hv, Gv⟩ := V
  have e0 : ∀ i, i < ws.length → (vs.take n ++ ws.drop n).getD i .null = (vs.take n ++ ws.drop n).getD i .null := fun _ _ => rfl
  refine go_back b' (k T' h' ⟨_, vm0, X', N', e', B0.grow K.1⟩ K ⟨cv, Av, qv ▸ Ob, by rw [Sv, (own_len Lb).1, el], by rw [el]; exact Lb, fun i hi => Hv i (by rw [Sv, (own_len Lb).1]; omega), fun i hi => ?_⟩)
  rw [el] at hi
  by_cases hin : i < n
  · simp only [List.getD_eq_getElem?_getD, List.getElem?_append_left (show i < (vs.take n).length by rw [List.length_take]; omega), List.getElem?_take, hin, if_true]
    have q := Ga i (by omega); simpa [List.getD_eq_getElem?_getD] using q
  · have q := Gb i hi
    simp only [List.getD_eq_getElem?_getD] at q ⊢
    rw [List.getElem?_append_right (by rw [List.length_take]; omega), List.getElem?_drop, List.length_take, show n + (i - min n vs.length) = i by omega]; exact q
end OwnAr
theorem own_wS {Z : State} {a0 : Array Value} (hw : ∀ d ∈ tables_1, d.before a0 Z = true) : ∀ d ∈ Bundle.stringAtoms, d.before a0 Z = true := by
  intro d hd
  simp only [Bundle.stringAtoms, Bundle.sN, List.mem_cons, List.not_mem_nil, or_false] at hd
  rcases hd with rfl | rfl | rfl | rfl | rfl | rfl | rfl
  · exact (wat hw 4 rfl)
  · exact (wat hw 5 rfl)
  · exact (wat hw 6 rfl)
  · exact (wat hw 7 rfl)
  · exact (wat hw 8 rfl)
  · exact (wat hw 9 rfl)
  · exact (wat hw 10 rfl)
section OwnFP
open Jvm.FP Jvm.FP.Core Jvm.Free.Fl
/-- a double's value, counted in the format's least numbers (2^-1074) -/
def dv (x : UInt64) : Int := zval b64 (val64 x)
/-- what the whole number 1 counts -/
def oneU : Int := (one64 : Int)
/-- z least numbers are a finite double -/
def Rep (z : Int) : Prop := ∃ V : Datum, FP.Core.fits b64 V ∧ (∃ s c q, V = .fin s c q) ∧ zval b64 V = z
theorem oneU_pos : 0 < oneU := by have := one64_pos; unfold oneU; omega
theorem rep_neg {z : Int} (h : Rep z) : Rep (-z) := by
  obtain ⟨V, h1, ⟨s, c, q, rfl⟩, h3⟩ := h
  exact ⟨negate (.fin s c q), negate_fits h1, ⟨_, _, _, rfl⟩, by rw [zval_negate, h3]⟩
theorem rep_nat {c j : Nat} (hc : c < 2 ^ 53) (hj : j ≤ 2045) : Rep ((c * 2 ^ j : Nat) : Int) := by
  have hm : b64.qmax = 971 := by decide
  obtain ⟨c', q', h1, h2⟩ := round_exact good_b64 false (c := c) (q := -1074 + (j : Int)) hc (by rw [qmin_b64]; omega) (by rw [hm]; omega)
  refine ⟨round b64 (.fin false c (-1074 + (j : Int))), round_fits good_b64 _, ⟨_, _, _, h1⟩, ?_⟩
  rw [h1]
  show signed false (inUnits c' q' b64.qmin) = _
  rw [h2]
  show ((inUnits c (-1074 + (j : Int)) b64.qmin : Nat) : Int) = _
  unfold inUnits
  rw [qmin_b64, show (-1074 + (j : Int) - -1074).toNat = j by omega]
theorem rep_int {z : Int} {c j : Nat} (hc : c < 2 ^ 53) (hj : j ≤ 2045) (h : z.natAbs = c * 2 ^ j) : Rep z := by
  have q := rep_nat hc hj
  rw [← h] at q
  rcases Int.natAbs_eq z with e | e
  · rw [e]; exact q
  · rw [e]; exact rep_neg q
theorem rep_dv {x : UInt64} (h : DFin x) : Rep (dv x) := ⟨val64 x, val64_fits x, h, rfl⟩
theorem squeeze {d : Datum} (hf : FP.Core.fits b64 d) (hn : d ≠ .nan) {z : Int} (hr : Rep z) (h1 : ∀ V, FP.Core.fits b64 V → V ≠ .nan → zval b64 V = z → zval b64 d ≤ zval b64 V) (h2 : ∀ V, FP.Core.fits b64 V → V ≠ .nan → zval b64 V = z → zval b64 V ≤ zval b64 d) :
    (∃ s c q, d = .fin s c q) ∧ zval b64 d = z := by
  obtain ⟨V, v1, ⟨s, c, q, rfl⟩, v3⟩ := hr
  have e1 := h1 _ v1 (by simp) v3
  have e2 := h2 _ v1 (by simp) v3
  have e : zval b64 d = z := by omega
  refine ⟨?_, e⟩
  have ht := zmag_lt_top good_b64 v1
  cases d with
  | nan => exact absurd rfl hn
  | fin s' c' q' => exact ⟨_, _, _, rfl⟩
  | inf t =>
    exfalso
    rw [← v3] at e
    have a1 : (zval b64 (.inf t)).natAbs = b64.tails * 2 ^ (b64.exps - 2) := natAbs_signed _ _
    have a2 : (zval b64 (.fin s c q)).natAbs = inUnits c q b64.qmin := natAbs_signed _ _
    rw [e, a2] at a1
    omega
theorem add_le {x y : UInt64} (hx : DFin x) (hy : DFin y) {V : Datum} (fV : FP.Core.fits b64 V) (hV : V ≠ .nan) (h : dv x + dv y ≤ zval b64 V) : dv (FP.dadd x y) ≤ zval b64 V := by
  unfold dv; rw [val64_dadd]; exact sum_le good_b64 hx hy (val64_fits x) (val64_fits y) fV hV h
theorem add_ge {x y : UInt64} (hx : DFin x) (hy : DFin y) {V : Datum} (fV : FP.Core.fits b64 V) (hV : V ≠ .nan) (h : zval b64 V ≤ dv x + dv y) : zval b64 V ≤ dv (FP.dadd x y) := by
  unfold dv; rw [val64_dadd]; exact sum_ge good_b64 hx hy (val64_fits x) (val64_fits y) fV hV h
theorem add_exact {x y : UInt64} (hx : DFin x) (hy : DFin y) {z : Int} (h : dv x + dv y = z) (hr : Rep z) : DFin (FP.dadd x y) ∧ dv (FP.dadd x y) = z :=
  squeeze (val64_fits _) ((notNaN_iff _).mp (dadd_out hx.notNaN hy)) hr (fun V f n e => add_le hx hy f n (by omega)) (fun V f n e => add_ge hx hy f n (by omega))
theorem neg_fin {x : UInt64} (hx : DFin x) : DFin (FP.dneg x) ∧ dv (FP.dneg x) = -dv x := by
  obtain ⟨s, c, q, h⟩ := hx
  unfold dv DFin; rw [FP.val64_dneg, zval_negate, h]
  exact ⟨⟨_, _, _, rfl⟩, rfl⟩
theorem sub_dneg {x y : UInt64} (hy : DFin y) : FP.dsub x y = FP.dadd x (FP.dneg y) := by
  rw [FP.dneg_core hy.notNaN]; exact dsub_eq x y
theorem sub_exact {x y : UInt64} (hx : DFin x) (hy : DFin y) {z : Int} (h : dv x - dv y = z) (hr : Rep z) : DFin (FP.dsub x y) ∧ dv (FP.dsub x y) = z := by
  rw [sub_dneg hy]
  exact add_exact hx (neg_fin hy).1 (by rw [(neg_fin hy).2]; omega) hr
theorem mul_units {x y : UInt64} (hx : DFin x) (hy : DFin y) : ∃ s c q, exactProduct (val64 x) (val64 y) = .fin s c q ∧ 2 * b64.qmin ≤ q ∧ signed s (inUnits c q (2 * b64.qmin)) = dv x * dv y := by
  obtain ⟨s, c, q, h1⟩ := hx
  obtain ⟨t, d, r, h2⟩ := hy
  have f1 := val64_fits x
  have f2 := val64_fits y
  unfold dv
  rw [h1] at f1 ⊢
  rw [h2] at f2 ⊢
  obtain ⟨p1, p2, p3⟩ := product_units f1 f2
  refine ⟨_, _, _, p1, p2, ?_⟩
  rw [p3, signed_xor]
  rfl
theorem two_qmin : 2 ^ (b64.qmin - 2 * b64.qmin).toNat = one64 := by rw [← pow_qmin64]; congr 1
theorem mul_le {x y : UInt64} (hx : DFin x) (hy : DFin y) {V : Datum} (fV : FP.Core.fits b64 V) (hV : V ≠ .nan) (h : dv x * dv y ≤ zval b64 V * oneU) : dv (FP.dmul x y) ≤ zval b64 V := by
  obtain ⟨s, c, q, h1, h2, h3⟩ := mul_units hx hy
  show zval b64 (val64 (FP.dmul x y)) ≤ _
  rw [val64_dmul, h1]
  refine zval_round_le good_b64 fV hV (e0 := 2 * b64.qmin) (by rw [qmin_b64]; omega) h2 ?_
  rw [h3, two_qmin]; exact h
theorem mul_ge {x y : UInt64} (hx : DFin x) (hy : DFin y) {V : Datum} (fV : FP.Core.fits b64 V) (hV : V ≠ .nan) (h : zval b64 V * oneU ≤ dv x * dv y) : zval b64 V ≤ dv (FP.dmul x y) := by
  obtain ⟨s, c, q, h1, h2, h3⟩ := mul_units hx hy
  show _ ≤ zval b64 (val64 (FP.dmul x y))
  rw [val64_dmul, h1]
  refine zval_round_ge good_b64 fV hV (e0 := 2 * b64.qmin) (by rw [qmin_b64]; omega) h2 ?_
  rw [h3, two_qmin]; exact h
theorem mul_exact {x y : UInt64} (hx : DFin x) (hy : DFin y) {z : Int} (h : dv x * dv y = z * oneU) (hr : Rep z) : DFin (FP.dmul x y) ∧ dv (FP.dmul x y) = z :=
  squeeze (val64_fits _) ((notNaN_iff _).mp (dmul_out hx hy)) hr (fun V f n e => mul_le hx hy f n (by rw [e, h]; exact Int.le_refl _)) (fun V f n e => mul_ge hx hy f n (by rw [e, h]; exact Int.le_refl _))
theorem dv_zero_iff {x : UInt64} (hx : DFin x) : DZero x ↔ dv x = 0 := by
  obtain ⟨s, c, q, h⟩ := hx
  constructor
  · intro hz; exact hz.zval
  · intro hz; exact (zero_bits2 x).mpr ((zval_eq_zero (by rw [h]; simp)).mp hz)
theorem div_units {x y : UInt64} (hx : DFin x) (hy : DFin y) (h0 : dv y ≠ 0) : ∃ (s t : Bool) (c d : Nat) (q r : Int), val64 (FP.ddiv x y) = roundRatio b64 (s != t) c d (q - r) ∧ 0 < d ∧ b64.qmin ≤ q ∧ b64.qmin ≤ r ∧ dv x = signed s (inUnits c q b64.qmin) ∧ dv y = signed t (inUnits d r b64.qmin) := by
  obtain ⟨s, c, q, h1⟩ := hx
  obtain ⟨t, d, r, h2⟩ := hy
  have f1 := val64_fits x
  have f2 := val64_fits y
  have hd : d ≠ 0 := by
    intro e; apply h0; unfold dv; rw [h2, e]; show signed t (inUnits 0 r b64.qmin) = 0; unfold inUnits; rw [Nat.zero_mul, signed_zero]
  refine ⟨s, t, c, d, q, r, ?_, Nat.pos_of_ne_zero hd, ?_, ?_, ?_, ?_⟩
  · rw [val64_ddiv, h1, h2]; show (if d = 0 then _ else _) = _; rw [if_neg hd]
  · rw [h1] at f1; exact f1.2.1
  · rw [h2] at f2; exact f2.2.1
  · unfold dv; rw [h1]; rfl
  · unfold dv; rw [h2]; rfl
theorem div_scale {c d : Nat} {q r : Int} (h1 : b64.qmin ≤ q) (h2 : b64.qmin ≤ r) (v : Nat) :
    inUnits c (q - r) (2 * b64.qmin - r) = inUnits c q b64.qmin * one64 ∧ v * 2 ^ (b64.qmin - (2 * b64.qmin - r)).toNat * d = v * inUnits d r b64.qmin := by
  unfold inUnits
  rw [← pow_qmin64]
  rw [qmin_b64] at h1 h2 ⊢
  constructor
  · rw [show (q - r - (2 * -1074 - r)).toNat = (q - -1074).toNat + (- -1074 : Int).toNat by omega, Nat.pow_add, Nat.mul_assoc]
  · rw [show (-1074 - (2 * -1074 - r)).toNat = (r - -1074).toNat by omega, Nat.mul_assoc, Nat.mul_comm (2 ^ _) d]
/-- a quotient of two that are not below nought, by monotony -/
theorem div_le {x y : UInt64} (hx : DFin x) (hy : DFin y) (px : 0 ≤ dv x) (py : 0 < dv y) {V : Datum} (fV : FP.Core.fits b64 V) (hV : V ≠ .nan) (h : dv x * oneU ≤ zval b64 V * dv y) : dv (FP.ddiv x y) ≤ zval b64 V := by
  obtain ⟨s, t, c, d, q, r, e, hd, hq, hr, ex, ey⟩ := div_units hx hy (by omega)
  show zval b64 (val64 (FP.ddiv x y)) ≤ _
  rw [e]
  have nv : 0 ≤ zval b64 V := by
    rcases Int.lt_or_le (zval b64 V) 0 with g | g
    · have := oneU_pos
      have a1 : 0 ≤ dv x * oneU := Int.mul_nonneg px (by omega)
      have a2 : zval b64 V * dv y < 0 := Int.mul_neg_of_neg_of_pos g py
      omega
    · exact g
  obtain ⟨k1, k2⟩ := div_scale (c := c) (d := d) hq hr (zmag b64 V)
  have ax : dv x = (inUnits c q b64.qmin : Int) := by
    rw [ex] at px ⊢; unfold signed at px ⊢; split <;> rename_i g <;> simp only [g, if_true] at px <;> omega
  have ay : dv y = (inUnits d r b64.qmin : Int) := by
    rw [ey] at py ⊢; unfold signed at py ⊢; split <;> rename_i g <;> simp only [g, if_true] at py <;> omega
  have av : zval b64 V = (zmag b64 V : Int) := by
    unfold zval at nv ⊢; unfold signed at nv ⊢; split <;> rename_i g <;> simp only [g, if_true] at nv <;> omega
  have hz := zmag_roundRatio_le good_b64 (s := (s != t)) (A := c) (B := d) (e := q - r) (e0 := 2 * b64.qmin - r) hd fV hV (by omega) (by rw [qmin_b64] at hq ⊢; omega) (by
    rw [k1, k2]
    rw [ax, ay, av] at h
    unfold oneU at h
    exact_mod_cast h)
  rw [av]
  unfold zval signed
  split <;> omega
theorem div_ge {x y : UInt64} (hx : DFin x) (hy : DFin y) (px : 0 ≤ dv x) (py : 0 < dv y) (hs : ∀ s c q, val64 x = .fin s c q → s = false) (hs' : ∀ s c q, val64 y = .fin s c q → s = false) {V : Datum} (fV : FP.Core.fits b64 V) (h : zval b64 V * dv y ≤ dv x * oneU) : zval b64 V ≤ dv (FP.ddiv x y) := by
  obtain ⟨s, c, q, h1⟩ := hx
  obtain ⟨t, d, r, h2⟩ := hy
  have es := hs _ _ _ h1
  have et := hs' _ _ _ h2
  subst es et
  have f1 := val64_fits x
  have f2 := val64_fits y
  have ax : dv x = (inUnits c q b64.qmin : Int) := by unfold dv; rw [h1]; rfl
  have ay : dv y = (inUnits d r b64.qmin : Int) := by unfold dv; rw [h2]; rfl
  have hd : d ≠ 0 := by
    intro e; rw [ay, e] at py; unfold inUnits at py; rw [Nat.zero_mul] at py; exact absurd py (by decide)
  rw [h1] at f1
  rw [h2] at f2
  show _ ≤ zval b64 (val64 (FP.ddiv x y))
  rw [val64_ddiv, h1, h2]
  show _ ≤ zval b64 (if d = 0 then _ else _)
  rw [if_neg hd]
  obtain ⟨k1, k2⟩ := div_scale (c := c) (d := d) f1.2.1 f2.2.1 (zmag b64 V)
  have hz := fun g => zmag_roundRatio_ge good_b64 (s := (false != false)) (A := c) (B := d) (e := q - r) (e0 := 2 * b64.qmin - r) (V := V) (Nat.pos_of_ne_zero hd) fV (by have := f2.2.1; omega) (by have := f1.2.1; rw [qmin_b64] at this ⊢; omega) g
  have e : zval b64 (roundRatio b64 (false != false) c d (q - r)) = (zmag b64 (roundRatio b64 (false != false) c d (q - r)) : Int) := by
    unfold zval; rw [sgn_roundRatio]; rfl
  rw [e]
  rcases Int.lt_or_le (zval b64 V) 0 with g | g
  · omega
  · have av : zval b64 V = (zmag b64 V : Int) := by
      unfold zval at g ⊢; unfold signed at g ⊢; split <;> rename_i w <;> simp only [w, if_true] at g <;> omega
    rw [av] at h ⊢
    have := hz (by
      rw [k1, k2]
      rw [ax, ay] at h
      unfold oneU at h
      exact_mod_cast h)
    omega
theorem noNaN_of_fin {x : UInt64} (h : DFin x) : NoNaN64 x := (fin64_core.mpr h).noNaN
theorem dint_fin {i : Int} {x : UInt64} (h : DInt i x) : DFin x ∧ dv x = i * oneU := by
  refine ⟨?_, DInt_zval h⟩
  unfold DInt at h
  cases hv : val64 x with
  | nan => rw [hv] at h; exact h.elim
  | inf s => rw [hv] at h; exact h.elim
  | fin s c q => exact ⟨s, c, q, hv⟩
theorem cmp_dv {x y : UInt64} (hx : DFin x) (hy : DFin y) : FP.dcmp x y = some (compare (dv x) (dv y)) := dcmp_zval hx.ne_nan hy.ne_nan
end OwnFP
section OwnDy
open Jvm.FP Jvm.FP.Core Jvm.Free.Fl
/-- 2^j, as an Int -/
def pw (j : Nat) : Int := ((2 ^ j : Nat) : Int)
theorem pw_mul (i j : Nat) : pw i * pw j = pw (i + j) := by unfold pw; rw [Nat.pow_add]; exact (Int.natCast_mul _ _).symm
theorem pw_pos (j : Nat) : 0 < pw j := by unfold pw; have := Nat.two_pow_pos j; omega
theorem pw_abs (j : Nat) : (pw j).natAbs = 2 ^ j := by unfold pw; exact Int.natAbs_natCast _
theorem oneU_pw : oneU = pw 1074 := rfl
/-- the double x is n * 2^j least numbers (n whole: j = 1074) -/
def Dy (n : Int) (j : Nat) (x : UInt64) : Prop := DFin x ∧ dv x = n * pw j
theorem dy_int {i : Int} {x : UInt64} (h : DInt i x) : Dy i 1074 x := by
  have q := dint_fin h
  exact ⟨q.1, by rw [q.2, oneU_pw]⟩
theorem rep_pw {n : Int} {j : Nat} (hn : n.natAbs < 2 ^ 53) (hj : j ≤ 2045) : Rep (n * pw j) := rep_int hn hj (by rw [Int.natAbs_mul, pw_abs])
theorem dy_add {n m : Int} {j : Nat} {x y : UInt64} (hx : Dy n j x) (hy : Dy m j y) (h : (n + m).natAbs < 2 ^ 53) (hj : j ≤ 2045) : Dy (n + m) j (FP.dadd x y) :=
  add_exact hx.1 hy.1 (by rw [hx.2, hy.2, Int.add_mul]) (rep_pw h hj)
theorem dy_sub {n m : Int} {j : Nat} {x y : UInt64} (hx : Dy n j x) (hy : Dy m j y) (h : (n - m).natAbs < 2 ^ 53) (hj : j ≤ 2045) : Dy (n - m) j (FP.dsub x y) :=
  sub_exact hx.1 hy.1 (by rw [hx.2, hy.2, Int.sub_mul]) (rep_pw h hj)
theorem dy_neg {n : Int} {j : Nat} {x : UInt64} (hx : Dy n j x) : Dy (-n) j (FP.dneg x) :=
  ⟨(neg_fin hx.1).1, by rw [(neg_fin hx.1).2, hx.2, Int.neg_mul]⟩
theorem dy_mul {n m : Int} {i j k : Nat} {x y : UInt64} (hx : Dy n i x) (hy : Dy m j y) (hk : i + j = k + 1074) (h : (n * m).natAbs < 2 ^ 53) (hj : k ≤ 2045) : Dy (n * m) k (FP.dmul x y) :=
  mul_exact hx.1 hy.1 (by
    have e : pw i * pw j = pw k * oneU := by rw [oneU_pw, pw_mul, pw_mul, hk]
    rw [hx.2, hy.2, Int.mul_assoc (n * m), ← e]
    ac_rfl) (rep_pw h hj)
theorem dy_shift {n : Int} {j : Nat} {x : UInt64} (t : Nat) (h : Dy n (j + t) x) : Dy (n * pw t) j x := by
  refine ⟨h.1, ?_⟩
  rw [h.2, ← pw_mul]
  ac_rfl
theorem compare_pw (n m : Int) (j : Nat) : compare (n * pw j) (m * pw j) = compare n m := compare_mul_pos _ _ _ (pw_pos j)
theorem dy_cmp {n m : Int} {j : Nat} {x y : UInt64} (hx : Dy n j x) (hy : Dy m j y) : FP.dcmp x y = some (compare n m) := by
  rw [cmp_dv hx.1 hy.1, hx.2, hy.2, compare_pw]
theorem signed_cases (s : Bool) (n : Nat) : signed s n = (n : Int) ∨ signed s n = -(n : Int) := by cases s <;> simp [signed]
/-- an exact quotient -/
theorem div_exact {x y : UInt64} (hx : DFin x) (hy : DFin y) (h0 : dv y ≠ 0) {z : Int} (h : dv x * oneU = z * dv y) (hr : Rep z) : DFin (FP.ddiv x y) ∧ dv (FP.ddiv x y) = z := by
  obtain ⟨s, t, c, d, q, r, e, hd, hq, hr1, ex, ey⟩ := div_units hx hy h0
  obtain ⟨V, fV, ⟨s', c', q', rfl⟩, hz⟩ := hr
  have az : zmag b64 (.fin s' c' q') = z.natAbs := by rw [← hz]; exact (natAbs_signed _ _).symm
  have ax : (dv x).natAbs = inUnits c q b64.qmin := by rw [ex, natAbs_signed]
  have ay : (dv y).natAbs = inUnits d r b64.qmin := by rw [ey, natAbs_signed]
  have ha : inUnits c q b64.qmin * one64 = z.natAbs * inUnits d r b64.qmin := by
    have := congrArg Int.natAbs h
    rw [Int.natAbs_mul, Int.natAbs_mul, ax, ay] at this
    exact this
  obtain ⟨k1, k2⟩ := div_scale (c := c) (d := d) hq hr1 (zmag b64 (.fin s' c' q'))
  have l1 := zmag_roundRatio_le good_b64 (s := (s != t)) (A := c) (B := d) (e := q - r) (e0 := 2 * b64.qmin - r) hd fV (by simp) (by omega) (by rw [qmin_b64] at hq ⊢; omega) (by rw [k1, k2, az, ha]; exact Nat.le_refl _)
  have l2 := zmag_roundRatio_ge good_b64 (s := (s != t)) (A := c) (B := d) (e := q - r) (e0 := 2 * b64.qmin - r) hd fV (by omega) (by rw [qmin_b64] at hq ⊢; omega) (by rw [k1, k2, az, ha]; exact Nat.le_refl _)
  have lz : zmag b64 (roundRatio b64 (s != t) c d (q - r)) = z.natAbs := by omega
  have ez : zval b64 (val64 (FP.ddiv x y)) = signed (s != t) z.natAbs := by
    rw [e]; unfold zval; rw [sgn_roundRatio, lz]
  have es : signed (s != t) z.natAbs = z := by
    by_cases hz0 : z = 0
    · rw [hz0]; exact signed_zero _
    · have hu := oneU_pos
      rw [ex, ey] at h
      have hc : 0 < inUnits c q b64.qmin := by
        rcases Nat.eq_zero_or_pos (inUnits c q b64.qmin) with w | w
        · rw [w, Nat.zero_mul] at ha
          have : 0 < z.natAbs * inUnits d r b64.qmin := Nat.mul_pos (by omega) (by unfold inUnits; exact Nat.mul_pos hd (Nat.two_pow_pos _))
          omega
        · exact w
      have hdd : 0 < inUnits d r b64.qmin := by unfold inUnits; exact Nat.mul_pos hd (Nat.two_pow_pos _)
      generalize inUnits c q b64.qmin = C at *
      generalize inUnits d r b64.qmin = D at *
      have p1 : (0 : Int) < (C : Int) * oneU := Int.mul_pos (by omega) hu
      cases s <;> cases t <;> simp only [signed, bne_self_eq_false, Bool.false_eq_true, if_false, if_true, Bool.true_bne, Bool.false_bne, Bool.not_false] at h ⊢
      · have : 0 < z := by
          rcases Int.lt_or_le 0 z with w | w
          · exact w
          · have := Int.mul_nonpos_of_nonpos_of_nonneg w (show (0 : Int) ≤ (D : Int) by omega); omega
        omega
      · have : z < 0 := by
          rcases Int.lt_or_le z 0 with w | w
          · exact w
          · have := Int.mul_nonneg w (show (0 : Int) ≤ (D : Int) by omega); rw [Int.mul_neg] at h; omega
        omega
      · have : z < 0 := by
          rcases Int.lt_or_le z 0 with w | w
          · exact w
          · have := Int.mul_nonneg w (show (0 : Int) ≤ (D : Int) by omega); rw [Int.neg_mul] at h; omega
        omega
      · have : 0 < z := by
          rcases Int.lt_or_le 0 z with w | w
          · exact w
          · have := Int.mul_nonpos_of_nonpos_of_nonneg w (show (0 : Int) ≤ (D : Int) by omega); rw [Int.neg_mul, Int.mul_neg] at h; omega
        omega
  refine ⟨?_, ez.trans es⟩
  have hn : FP.dIsNaN (FP.ddiv x y) = false := ddiv_out hx.notNaN hy (fun w => h0 ((dv_zero_iff hy).mp w))
  have ht := zmag_lt_top good_b64 fV
  unfold DFin
  cases hv : val64 (FP.ddiv x y) with
  | nan => exact absurd hv ((notNaN_iff _).mp hn)
  | fin s2 c2 q2 => exact ⟨_, _, _, rfl⟩
  | inf t2 =>
    exfalso
    rw [hv] at e
    rw [← e] at lz
    have a1 : zmag b64 (.inf t2) = b64.tails * 2 ^ (b64.exps - 2) := rfl
    have a2 : zmag b64 (.fin s' c' q') = inUnits c' q' b64.qmin := rfl
    rw [a1] at lz
    omega
theorem dy_div {n m q : Int} {i j k : Nat} {x y : UInt64} (hx : Dy n i x) (hy : Dy m j y) (hm : m ≠ 0) (hq : n = q * m) (hk : i + 1074 = k + j) (h : q.natAbs < 2 ^ 53) (hj : k ≤ 2045) : Dy q k (FP.ddiv x y) :=
  div_exact hx.1 hy.1 (by rw [hy.2]; exact Int.mul_ne_zero hm (Int.ne_of_gt (pw_pos j))) (by
    have e : pw i * oneU = pw k * pw j := by rw [oneU_pw, pw_mul, pw_mul, hk]
    rw [hx.2, hy.2, hq, Int.mul_assoc (q * m), e]
    ac_rfl) (rep_pw h hj)
theorem dy_noNaN {n : Int} {j : Nat} {x : UInt64} (h : Dy n j x) : NoNaN64 x := noNaN_of_fin h.1
/-- two quotients of the same ratio are one double -/
theorem div_congr {x y x' y' : UInt64} (hx : DFin x) (hy : DFin y) (hx' : DFin x') (hy' : DFin y') (px : 0 < dv x) (py : 0 < dv y) (px' : 0 < dv x') (py' : 0 < dv y') (h : dv x * dv y' = dv x' * dv y) : FP.ddiv x y = FP.ddiv x' y' := by
  have sg : ∀ {s : Bool} {n : Nat}, 0 < signed s n → s = false ∧ signed s n = (n : Int) := by
    intro s n q; cases s
    · exact ⟨rfl, rfl⟩
    · simp only [signed, if_true] at q; omega
  obtain ⟨s, t, c, d, q, r, e, hd, hq, hr, ex, ey⟩ := div_units hx hy (by omega)
  obtain ⟨s', t', c', d', q', r', e', hd', hq', hr', ex', ey'⟩ := div_units hx' hy' (by omega)
  rw [ex] at px; rw [ey] at py; rw [ex'] at px'; rw [ey'] at py'
  rw [ex, ey, ex', ey', (sg px).2, (sg py).2, (sg px').2, (sg py').2] at h
  have hn : val64 (FP.ddiv x y) ≠ .nan := by rw [e]; exact roundRatio_ne_nan _ _ _ _ _
  refine val64_inj hn ?_
  rw [e, e', (sg px).1, (sg py).1, (sg px').1, (sg py').1]
  refine roundRatio_congr hd hd' ?_
  have hN : inUnits c q b64.qmin * inUnits d' r' b64.qmin = inUnits c' q' b64.qmin * inUnits d r b64.qmin := by exact_mod_cast h
  unfold inUnits at hN
  generalize ha1 : (q - b64.qmin).toNat = a1 at hN
  generalize ha2 : (r' - b64.qmin).toNat = a2 at hN
  generalize ha3 : (q' - b64.qmin).toNat = a3 at hN
  generalize ha4 : (r - b64.qmin).toNat = a4 at hN
  have h1 : c * d' * 2 ^ (a1 + a2) = c' * d * 2 ^ (a3 + a4) := by
    rw [Nat.pow_add, Nat.pow_add]
    calc c * d' * (2 ^ a1 * 2 ^ a2) = c * 2 ^ a1 * (d' * 2 ^ a2) := by ac_rfl
      _ = c' * 2 ^ a3 * (d * 2 ^ a4) := hN
      _ = _ := by ac_rfl
  rcases Nat.le_total (a3 + a4) (a1 + a2) with w | w
  · obtain ⟨k, hk⟩ := Nat.le.dest w
    rw [← hk, Nat.pow_add 2 (a3 + a4) k, Nat.mul_comm (2 ^ (a3 + a4)), ← Nat.mul_assoc] at h1
    have h2 := Nat.eq_of_mul_eq_mul_right (Nat.two_pow_pos _) h1
    rw [show (q - r - (q' - r')).toNat = k by omega, show (q' - r' - (q - r)).toNat = 0 by omega, h2]; omega
  · obtain ⟨k, hk⟩ := Nat.le.dest w
    rw [← hk, Nat.pow_add 2 (a1 + a2) k, Nat.mul_comm (2 ^ (a1 + a2)), ← Nat.mul_assoc] at h1
    have h2 := Nat.eq_of_mul_eq_mul_right (Nat.two_pow_pos _) h1
    rw [show (q - r - (q' - r')).toNat = 0 by omega, show (q' - r' - (q - r)).toNat = k by omega, ← h2]; omega
theorem own_p53 : (2 : Nat) ^ 53 = 9007199254740992 := by decide +kernel
theorem own_mb {a b : Int} {A B : Nat} (ha : a.natAbs ≤ A) (hb : b.natAbs ≤ B) (h : A * B < 9007199254740992) : (a * b).natAbs < 2 ^ 53 := by
  rw [own_p53, Int.natAbs_mul]; exact Nat.lt_of_le_of_lt (Nat.mul_le_mul ha hb) h
theorem own_addl {a b : Int} {A B : Nat} (ha : a.natAbs ≤ A) (hb : b.natAbs ≤ B) : (a + b).natAbs ≤ A + B := by omega
theorem own_subl {a b : Int} {A B : Nat} (ha : a.natAbs ≤ A) (hb : b.natAbs ≤ B) : (a - b).natAbs ≤ A + B := by omega
theorem own_addb {a b : Int} {A B : Nat} (ha : a.natAbs ≤ A) (hb : b.natAbs ≤ B) (h : A + B < 9007199254740992) : (a + b).natAbs < 2 ^ 53 := by rw [own_p53]; omega
theorem own_subb {a b : Int} {A B : Nat} (ha : a.natAbs ≤ A) (hb : b.natAbs ≤ B) (h : A + B < 9007199254740992) : (a - b).natAbs < 2 ^ 53 := by rw [own_p53]; omega
theorem own_shl {a k : Int} {A B : Nat} (ha : a.natAbs ≤ A) (h : A * k.natAbs ≤ B) : (a * k).natAbs ≤ B := by rw [Int.natAbs_mul]; exact Nat.le_trans (Nat.mul_le_mul_right _ ha) h
theorem own_dyeq {n m : Int} {j : Nat} {x y : UInt64} (hx : Dy n j x) (hy : Dy m j y) (h : n = m) {op : CmpOp} : cmpValue (FP.dcmp x y) op = 0 := by
  rw [dy_cmp hx hy, (compare_eq_iff _ _).mpr h]; rfl
end OwnDy
set_option maxRecDepth 65536 in
set_option maxHeartbeats 40000000 in
theorem rm11 (l : Launch) (Z : State) (a0 : Array Value) (hw : ∀ d ∈ tables_1, d.before a0 Z = true) (ws : List Jvm.Cond) (n0 : Nat) (Ts : List String) (c' : Int32) (h0 : Heap) (hn0 : n0 ≤ h0.size) (hc : ¬ (255 : Int32) < c') :
    Con l Z n0 Ts (Ts) (⟨"java/lang/StringLatin1", "canEncode", "(C)Z"⟩ : MethodName) jdk_43_method_3_code 1 (some .boolean) ws ({ frames := 0, cells := 0, slots := 0, locals := 0 } : Room) #[(.int c')] h0 (fun v h => v = some (.int 1) ∧ h = h0) := by
  refine con_start (plainFor_of_name (by first | (simp [plainName, overriddenIn]; done) | decide +kernel)) (fr0 := fun m => mkF m 0 #[.val (.int c')] []) (fun m => by first | (simp [entryFrame, mkF, argsToLocals, Value.category]; done) | rfl) ?_
  intro p e s m below meth c T0 hx hZ hby hml hown hnm hret hlk hsh XA
  have X0 := XA n0
  have hlow : n0 ≤ s.heap.size := by rw [hsh]; exact hn0
  replace hown : s.vm.findClass "java/lang/StringLatin1" = some m.cls := hown
  replace hml : c.maxLocals = 1 := hml
  refine g_iloadN X0 hx (pc' := 1) rfl (hD hby d11_0) rfl ?_
  refine g_sipush X0 hx (pc' := 4) (z := (255 : Int32)) rfl (hD hby d11_1) rfl ?_
  refine g_icmpN X0 hx (pcN := 7) (hD hby d11_4) rfl (show ¬ ((255 : Int32) < c') from hc) ?_
  refine g_iconst X0 hx (pc' := 8) (z := (1 : Int32)) rfl (hD hby d11_7) rfl ?_
  refine g_goto X0 hx (pc' := 12) (hD hby d11_8) (by decide) (by decide) ?_
  exact g_retZ X0 hx hlk hret (by first | exact Or.inl rfl | exact Or.inr rfl) (hD hby d11_12) (by decide) (by decide) (Nat.le_refl _) (⟨rfl, rfl⟩)
set_option maxRecDepth 65536 in
set_option maxHeartbeats 40000000 in
theorem rm12 (l : Launch) (Z : State) (a0 : Array Value) (hw : ∀ d ∈ tables_1, d.before a0 Z = true) (ws : List Jvm.Cond) (n0 : Nat) (Ts : List String) (c' : Int32) (h0 : Heap) (hn0 : n0 ≤ h0.size)  :
    Con l Z n0 Ts (Ts) (⟨"java/lang/StringLatin1", "toBytes", "(C)[B"⟩ : MethodName) jdk_43_method_46_code 1 (some (.array .byte)) ws ({ frames := 0, cells := 1, slots := 1, locals := 0 } : Room) #[(.int c')] h0 (fun v h => ∃ b, v = some (.ref b) ∧ n0 ≤ b ∧ h0.size ≤ b ∧ Keep h0 h [] ∧ AV Z h b .byte [.int c'.toInt8.toInt32]) := by
  refine con_start (plainFor_of_name (by first | (simp [plainName, overriddenIn]; done) | decide +kernel)) (fr0 := fun m => mkF m 0 #[.val (.int c')] []) (fun m => by first | (simp [entryFrame, mkF, argsToLocals, Value.category]; done) | rfl) ?_
  intro p e s m below meth c T0 hx hZ hby hml hown hnm hret hlk hsh XA
  have X0 := XA n0
  have hlow : n0 ≤ s.heap.size := by rw [hsh]; exact hn0
  replace hown : s.vm.findClass "java/lang/StringLatin1" = some m.cls := hown
  replace hml : c.maxLocals = 1 := hml
  refine g_iconst X0 hx (pc' := 1) (z := (1 : Int32)) rfl (hD hby d12_0) rfl ?_
  refine g_newA X0 hx hZ (aty := .byte) (wat hw 6 rfl) (N := 1) (by decide) (cap := 1) (Nat.le_refl _) (by decide) (pc' := 3) rfl (hD hby d12_1) (by decide) (by decide) (fun T1 h1 a1 ha1 X1 E1 N1 => ?_)
  have sz1 : h0.size ≤ a1 := by rw [ha1]; exact (Keep.refl h0 []).1
  have f2 := (Keep.refl h0 []).ext E1
  have G_a1 : n0 ≤ a1 := by rw [ha1]; exact hn0
  have Zs1 : n0 ≤ h1.size := Nat.le_trans hn0 E1.1
  have V1 : AV Z h1 a1 .byte [.int 0] := N1
  refine g_dup X1 hx (pc' := 4) rfl (hD hby d12_3) rfl ?_
  refine g_iconst X1 hx (pc' := 5) (z := (0 : Int32)) rfl (hD hby d12_4) rfl ?_
  refine g_iloadN X1 hx (pc' := 6) rfl (hD hby d12_5) rfl ?_
  refine g_i2b X1 hx (pc' := 7) rfl (hD hby d12_6) ?_
  refine g_bastore X1 hx hZ V1 (i := 0) (by decide) (show (0 : Nat) < 1 by decide) G_a1 (y := (c').toInt8.toInt32) (nar_i2b _) (pc' := 8) rfl (hD hby d12_7) (fun T3 h3 X3 W3 N3 => ?_)
  have f4 := (by have q := (Keep.of_wr W3).1; exact Nat.le_trans Zs1 q : n0 ≤ h3.size)
  have f5 := f2.wr W3 (Or.inr sz1)
  have V3 : AV Z h3 a1 .byte [.int (c').toInt8.toInt32] := N3
  exact g_ret X3 hx hlk hret rfl (Or.inr (Or.inr (Or.inr (Or.inr ⟨rfl, rfl, rfl⟩)))) (hD hby d12_8) (by decide) (by decide) (Nat.le_refl _) (⟨a1, rfl, G_a1, sz1, f5, V3⟩)
set_option maxRecDepth 65536 in
set_option maxHeartbeats 40000000 in
theorem rm13 (l : Launch) (Z : State) (a0 : Array Value) (hw : ∀ d ∈ tables_1, d.before a0 Z = true) (ws : List Jvm.Cond) (n0 : Nat) (Ts : List String) (t b' : Addr) (h0 : Heap) (hn0 : n0 ≤ h0.size) (Et : Exa Z h0 t "java/lang/String") (hgt : n0 ≤ t) (Fv : Fld Z h0 t "java/lang/String" "value" "[B" .null) (Fc : Fld Z h0 t "java/lang/String" "coder" "B" (.int 0)) :
    Con l Z n0 Ts (Ts) (⟨"java/lang/String", "<init>", "([BB)V"⟩ : MethodName) jdk_42_method_151_code 3 none ws ({ frames := 1, cells := 0, slots := 0, locals := 16 } : Room) #[(.ref t), (.ref b'), (.int 0)] h0 (fun v h => v = none ∧ Keep h0 h [t]) := by
  refine con_start (plainFor_of_name (by first | (simp [plainName, overriddenIn]; done) | decide +kernel)) (fr0 := fun m => mkF m 0 #[.val (.ref t), .val (.ref b'), .val (.int 0)] []) (fun m => by first | (simp [entryFrame, mkF, argsToLocals, Value.category]; done) | rfl) ?_
  intro p e s m below meth c T0 hx hZ hby hml hown hnm hret hlk hsh XA
  have X0 := XA n0
  have hlow : n0 ≤ s.heap.size := by rw [hsh]; exact hn0
  replace hown : s.vm.findClass "java/lang/String" = some m.cls := hown
  replace hml : c.maxLocals = 3 := hml
  refine g_aloadN X0 hx (pc' := 1) rfl (hD hby d13_0) rfl rfl ?_
  refine g_initO X0 hx hZ hown (wat hw 95 rfl) (wat hw 15 rfl) (wat hw 16 rfl) (by rw [hml]; rfl) (pc' := 4) rfl (hD hby d13_1) (by decide) (W := 0) (Nat.le_of_eq rfl) (by decide) (fun T6 X6 => ?_)
  show Go p e below s n0 _ _ _ (T6.setTop (mkF m 4 _ []))
  refine g_aloadN X6 hx (pc' := 5) rfl (hD hby d13_4) rfl rfl ?_
  refine g_aloadN X6 hx (pc' := 6) rfl (hD hby d13_5) rfl rfl ?_
  refine g_putF X6 hx hZ hown (wat hw 29 rfl) Via.refl Fv Et (Or.inr ⟨(wat hw 7 rfl), rfl, hnm⟩) (wat hw 5 rfl) (ty := (.array .byte)) (by decide) rfl rfl hgt (pc' := 9) rfl (hD hby d13_6) (fun T7 h7 X7 W7 => ?_)
  have f8 := Et.wr W7
  have f9 := Fv.same W7
  have f10 := Fc.other W7 (Or.inr (slot_ne (Or.inr (wat hw 8 rfl)) (Or.inr (wat hw 7 rfl)) (by decide) (t := .byte) (t' := (.array .byte)) (by decide) (by decide)))
  have f11 := (by have q := (Keep.of_wr W7).1; exact Nat.le_trans hn0 q : n0 ≤ h7.size)
  have f12 := (Keep.refl h0 [t]).wr W7 (Or.inl (List.mem_of_getElem? (i := 0) rfl))
  refine g_aloadN X7 hx (pc' := 10) rfl (hD hby d13_9) rfl rfl ?_
  refine g_iloadN X7 hx (pc' := 11) rfl (hD hby d13_10) rfl ?_
  refine g_putF X7 hx hZ hown (wat hw 96 rfl) Via.refl f10 f8 (Or.inr ⟨(wat hw 8 rfl), rfl, hnm⟩) (wat hw 5 rfl) (ty := .byte) (by decide) rfl rfl hgt (pc' := 14) rfl (hD hby d13_11) (fun T13 h13 X13 W13 => ?_)
  have f14 := f8.wr W13
  have f15 := f9.other W13 (Or.inr (slot_ne (Or.inr (wat hw 7 rfl)) (Or.inr (wat hw 8 rfl)) (by decide) (t := (.array .byte)) (t' := .byte) (by decide) (by decide)))
  have f16 := f10.same W13
  have f17 := (by have q := (Keep.of_wr W13).1; exact Nat.le_trans f11 q : n0 ≤ h13.size)
  have f18 := f12.wr W13 (Or.inl (List.mem_of_getElem? (i := 0) rfl))
  exact g_retV X13 hx hlk hret (hD hby d13_14) (by decide) (by decide) (Nat.le_refl _) (⟨rfl, f18⟩)
set_option maxRecDepth 65536 in
set_option maxHeartbeats 40000000 in
theorem rm10 (l : Launch) (Z : State) (a0 : Array Value) (hw : ∀ d ∈ tables_1, d.before a0 Z = true) (ws : List Jvm.Cond) (n0 : Nat) (Ts : List String) (c' : Int32) (cz : Int32) (h0 : Heap) (hn0 : n0 ≤ h0.size) (O2 : Sta Z Z.heap "java/lang/String" "COMPACT_STRINGS" "Z" (.int cz)) (hcz : ¬ cz = 0) (OLD : Old Z n0 h0) (hc : ¬ (255 : Int32) < c') :
    Con l Z n0 Ts (Ts) (⟨"java/lang/String", "valueOf", "(C)Ljava/lang/String;"⟩ : MethodName) jdk_42_method_139_code 1 (some (.object "java/lang/String")) ws ({ frames := 2, cells := 2, slots := 5, locals := 64 } : Room) #[(.int c')] h0 (fun v h => ∃ b, v = some (.ref b) ∧ n0 ≤ b ∧ h0.size ≤ b ∧ Keep h0 h []) := by
  refine con_start (plainFor_of_name (by first | (simp [plainName, overriddenIn]; done) | decide +kernel)) (fr0 := fun m => mkF m 0 #[.val (.int c')] []) (fun m => by first | (simp [entryFrame, mkF, argsToLocals, Value.category]; done) | rfl) ?_
  intro p e s m below meth c T0 hx hZ hby hml hown hnm hret hlk hsh XA
  have X0 := XA n0
  have hlow : n0 ≤ s.heap.size := by rw [hsh]; exact hn0
  replace hown : s.vm.findClass "java/lang/String" = some m.cls := hown
  replace hml : c.maxLocals = 1 := hml
  refine g_getS X0 hx hZ hown (wat hw 83 rfl) Via.refl (Sta.ext OLD.2 O2) (pc' := 3) rfl (hD hby d10_0) (fun T19 X19 => ?_)
  refine g_ifN X19 hx (pcN := 6) (hD hby d10_3) rfl (show ¬ (cz = 0) from hcz) ?_
  refine g_iloadN X19 hx (pc' := 7) rfl (hD hby d10_6) rfl ?_
  refine g_callS X19 hx hZ hown (wat hw 84 rfl) (wat hw 85 rfl) (wat hw 86 rfl) (wat hw 87 rfl) (by decide) (rm11 l Z a0 hw [] n0 (Ts) c' h0 hn0 hc) pd_0 rfl rfl (by rw [hml]; rfl) (pc' := 10) rfl (hD hby d10_7) (argsL := [(.int c')]) (rest := []) rfl (W := 0) (Nat.le_of_eq rfl) (by decide) (by decide) (by decide) (by decide) (fun v20 T20 h20 X20 hQ20 => ?_)
  obtain ⟨rfl, he20⟩ := hQ20
  rw [he20] at X20
  show Go p e below s n0 _ _ _ (T20.setTop (mkF m 10 _ [(.int 1)]))
  refine g_ifN X20 hx (pcN := 13) (hD hby d10_10) rfl (show ¬ ((1 : Int32) = 0) from by decide) ?_
  refine g_newO X20 hx hZ hown (wat hw 88 rfl) (wat hw 5 rfl) (wat hw 4 rfl) (pc' := 16) rfl (hD hby d10_13) (by decide) (by decide) (fun T21 h21 a21 ha21 X21 E21 A21 D21 => ?_)
  have sz21 : h0.size ≤ a21 := by rw [ha21]; exact (Keep.refl h0 []).1
  have f22 := (Keep.refl h0 []).ext E21
  have G_a21 : n0 ≤ a21 := by rw [ha21]; exact hn0
  have Zs21 : n0 ≤ h21.size := Nat.le_trans hn0 E21.1
  have f23 := OLD.ext E21
  have F21_value : Fld Z h21 a21 "java/lang/String" "value" "[B" .null := D21 (Or.inr (wat hw 7 rfl)) (ty := (.array .byte)) (by decide)
  have F21_coder : Fld Z h21 a21 "java/lang/String" "coder" "B" (.int 0) := D21 (Or.inr (wat hw 8 rfl)) (ty := .byte) (by decide)
  refine g_dup X21 hx (pc' := 17) rfl (hD hby d10_16) rfl ?_
  refine g_iloadN X21 hx (pc' := 18) rfl (hD hby d10_17) rfl ?_
  refine g_callS X21 hx hZ hown (wat hw 89 rfl) (wat hw 90 rfl) (wat hw 86 rfl) (wat hw 91 rfl) (by decide) (rm12 l Z a0 hw [] n0 (Ts) c' h21 Zs21 ) pd_1 rfl rfl (by rw [hml]; rfl) (pc' := 21) rfl (hD hby d10_18) (argsL := [(.int c')]) (rest := [(.ref a21), (.ref a21)]) rfl (W := 2) (Nat.le_of_eq rfl) (by decide) (by decide) (by decide) (by decide) (fun v24 T24 h24 X24 hQ24 => ?_)
  obtain ⟨b24, rfl, G24, S24, K24, V24⟩ := hQ24
  have ne24_a21 : a21 ≠ b24 := Nat.ne_of_lt (Nat.lt_of_lt_of_le A21.lt S24)
  have sz24 : h0.size ≤ b24 := Nat.le_trans f22.1 S24
  have f25 := f22.trans K24 all0
  have f26 := f23.keep K24 all0
  have f27 := A21.keep K24
  have f28 := F21_value.keep K24 nin0
  have f29 := F21_coder.keep K24 nin0
  have zs24 : n0 ≤ h24.size := Nat.le_trans Zs21 K24.1
  show Go p e below s n0 _ _ _ (T24.setTop (mkF m 21 _ [(.ref b24), (.ref a21), (.ref a21)]))
  refine g_iconst X24 hx (pc' := 22) (z := (0 : Int32)) rfl (hD hby d10_21) rfl ?_
  refine g_callI X24 hx hZ hown rfl (wat hw 92 rfl) (wat hw 93 rfl) (wat hw 4 rfl) (wat hw 94 rfl) (by decide) (a := a21) (rm13 l Z a0 hw [] n0 (Ts) a21 b24 h24 zs24 f27 G_a21 f28 f29) pd_2 rfl rfl (by rw [hml]; rfl) (pc' := 25) rfl (hD hby d10_22) (argsL := [(.ref b24), (.int 0)]) (rest := [(.ref a21)]) rfl (W := 1) (Nat.le_of_eq rfl) (by decide) (by decide) (by decide) (by decide) (fun v30 T30 h30 X30 hQ30 => ?_)
  obtain ⟨rfl, K30⟩ := hQ30
  have f31 := f25.trans K30 (allS (Or.inr sz21) all0)
  have f32 := f26.keep K30 (allS G_a21 all0)
  have f33 := f27.keep K30
  have f34 := V24.keep K30 (ninS ne24_a21.symm nin0)
  have zs30 : n0 ≤ h30.size := Nat.le_trans zs24 K30.1
  show Go p e below s n0 _ _ _ (T30.setTop (mkF m 25 _ [(.ref a21)]))
  exact g_ret X30 hx hlk hret rfl (Or.inr (Or.inr (Or.inr (Or.inr ⟨rfl, rfl, rfl⟩)))) (hD hby d10_25) (by decide) (by decide) (Nat.le_refl _) (⟨a21, rfl, G_a21, sz21, f31⟩)
set_option maxRecDepth 65536 in
set_option maxHeartbeats 40000000 in
theorem rm3 (l : Launch) (Z : State) (a0 : Array Value) (hw : ∀ d ∈ tables_1, d.before a0 Z = true) (ws : List Jvm.Cond) (n0 : Nat) (Ts : List String) (o' m' : Addr) (h0 : Heap) (hn0 : n0 ≤ h0.size)  :
    Con l Z n0 Ts (Ts) (⟨"java/util/Objects", "requireNonNull", "(Ljava/lang/Object;Ljava/lang/String;)Ljava/lang/Object;"⟩ : MethodName) jdk_31_method_11_code 2 (some (.object "java/lang/Object")) ws ({ frames := 0, cells := 0, slots := 0, locals := 0 } : Room) #[(.ref o'), (.ref m')] h0 (fun v h => v = some (.ref o') ∧ h = h0) := by
  refine con_start (plainFor_of_name (by first | (simp [plainName, overriddenIn]; done) | decide +kernel)) (fr0 := fun m => mkF m 0 #[.val (.ref o'), .val (.ref m')] []) (fun m => by first | (simp [entryFrame, mkF, argsToLocals, Value.category]; done) | rfl) ?_
  intro p e s m below meth c T0 hx hZ hby hml hown hnm hret hlk hsh XA
  have X0 := XA n0
  have hlow : n0 ≤ s.heap.size := by rw [hsh]; exact hn0
  replace hown : s.vm.findClass "java/util/Objects" = some m.cls := hown
  replace hml : c.maxLocals = 2 := hml
  refine g_aloadN X0 hx (pc' := 1) rfl (hD hby d3_0) rfl rfl ?_
  refine g_ifnonnullY X0 hx (pcY := 13) (hD hby d3_1) (by decide) (by decide) ?_
  refine g_aloadN X0 hx (pc' := 14) rfl (hD hby d3_13) rfl rfl ?_
  exact g_ret X0 hx hlk hret rfl (Or.inr (Or.inr (Or.inr (Or.inr ⟨rfl, rfl, rfl⟩)))) (hD hby d3_14) (by decide) (by decide) (Nat.le_refl _) (⟨rfl, rfl⟩)
set_option maxRecDepth 65536 in
set_option maxHeartbeats 40000000 in
theorem rm4 (l : Launch) (Z : State) (a0 : Array Value) (hw : ∀ d ∈ tables_1, d.before a0 Z = true) (ws : List Jvm.Cond) (n0 : Nat) (Ts : List String) (t b' : Addr) (x' : Int32) (h0 : Heap) (hn0 : n0 ≤ h0.size) (Fv : Fld Z h0 t "java/lang/String" "value" "[B" (.ref b')) (Ab : AV Z h0 b' .byte [.int x']) :
    Con l Z n0 Ts (Ts) (⟨"java/lang/String", "isEmpty", "()Z"⟩ : MethodName) jdk_42_method_55_code 1 (some .boolean) ws ({ frames := 0, cells := 0, slots := 0, locals := 0 } : Room) #[(.ref t)] h0 (fun v h => v = some (.int 0) ∧ h = h0) := by
  refine con_start (plainFor_of_name (by first | (simp [plainName, overriddenIn]; done) | decide +kernel)) (fr0 := fun m => mkF m 0 #[.val (.ref t)] []) (fun m => by first | (simp [entryFrame, mkF, argsToLocals, Value.category]; done) | rfl) ?_
  intro p e s m below meth c T0 hx hZ hby hml hown hnm hret hlk hsh XA
  have X0 := XA n0
  have hlow : n0 ≤ s.heap.size := by rw [hsh]; exact hn0
  replace hown : s.vm.findClass "java/lang/String" = some m.cls := hown
  replace hml : c.maxLocals = 1 := hml
  refine g_aloadN X0 hx (pc' := 1) rfl (hD hby d4_0) rfl rfl ?_
  refine g_getF X0 hx hZ hown (wat hw 29 rfl) Via.refl Fv (pc' := 4) rfl (hD hby d4_1) (fun T35 X35 => ?_)
  refine g_alen X35 hx hZ Ab (z := (1 : Int32)) rfl (pc' := 5) rfl (hD hby d4_4) ?_
  refine g_ifY X35 hx (pcY := 12) (hD hby d4_5) (by decide) (by decide) (show ¬ (1 : Int32) = 0 from by decide) ?_
  refine g_iconst X35 hx (pc' := 13) (z := (0 : Int32)) rfl (hD hby d4_12) rfl ?_
  exact g_retZ X35 hx hlk hret (by first | exact Or.inl rfl | exact Or.inr rfl) (hD hby d4_13) (by decide) (by decide) (Nat.le_refl _) (⟨rfl, rfl⟩)
set_option maxRecDepth 65536 in
set_option maxHeartbeats 40000000 in
theorem rm5 (l : Launch) (Z : State) (a0 : Array Value) (hw : ∀ d ∈ tables_1, d.before a0 Z = true) (ws : List Jvm.Cond) (n0 : Nat) (Ts : List String)  (h0 : Heap) (hn0 : n0 ≤ h0.size)  :
    Con l Z n0 Ts (Ts) (⟨"java/lang/Double", "isFinite", "(D)Z"⟩ : MethodName) jdk_117_method_8_code 2 (some .boolean) ws ({ frames := 1, cells := 0, slots := 0, locals := 13 } : Room) #[(.double (0 : UInt64))] h0 (fun v h => v = some (.int 1) ∧ h = h0) := by
  refine con_start (plainFor_of_name (by first | (simp [plainName, overriddenIn]; done) | decide +kernel)) (fr0 := fun m => mkF m 0 #[.val (.double (0 : UInt64)), .second] []) (fun m => by first | (simp [entryFrame, mkF, argsToLocals, Value.category]; done) | rfl) ?_
  intro p e s m below meth c T0 hx hZ hby hml hown hnm hret hlk hsh XA
  have X0 := XA n0
  have hlow : n0 ≤ s.heap.size := by rw [hsh]; exact hn0
  replace hown : s.vm.findClass "java/lang/Double" = some m.cls := hown
  replace hml : c.maxLocals = 2 := hml
  refine g_dloadN X0 hx (pc' := 1) rfl (hD hby d5_0) rfl ?_
  refine g_absD2 X0 hx hZ hown (wat hw 34 rfl) (wat hw 35 rfl) (wat hw 36 rfl) (wat hw 37 rfl) (by decide +kernel) (by rw [hml]; rfl) (pc' := 4) rfl (hD hby d5_1) (W := 0) (Nat.le_of_eq rfl) (by decide) (by decide) (by decide) (by decide) (fun T36 X36 => ?_)
  refine g_ldc2D X36 hx hZ hown (wat hw 38 rfl) (pc' := 7) (v := (9218868437227405311 : UInt64)) rfl (hD hby d5_4) ?_
  refine g_dcmp X36 hx (pc' := 8) (z := (-1 : Int32)) rfl (hD hby d5_7) (by decide +kernel) ?_
  refine g_ifN X36 hx (pcN := 11) (hD hby d5_8) rfl (show ¬ (0 < (-1 : Int32)) from by decide) ?_
  refine g_iconst X36 hx (pc' := 12) (z := (1 : Int32)) rfl (hD hby d5_11) rfl ?_
  refine g_goto X36 hx (pc' := 16) (hD hby d5_12) (by decide) (by decide) ?_
  exact g_retZ X36 hx hlk hret (by first | exact Or.inl rfl | exact Or.inr rfl) (hD hby d5_16) (by decide) (by decide) (Nat.le_refl _) (⟨rfl, rfl⟩)
set_option maxRecDepth 65536 in
set_option maxHeartbeats 40000000 in
theorem rm1 (l : Launch) (Z : State) (a0 : Array Value) (hw : ∀ d ∈ tables_1, d.before a0 Z = true) (ws : List Jvm.Cond) (n0 : Nat) (Ts : List String) (t n' nb : Addr) (x' : Int32) (h0 : Heap) (hn0 : n0 ≤ h0.size) (hcw : Jvm.Lit.compactW.before a0 Z = true) (hkc : ∀ q ∈ consts_1, Jvm.Lit.constHeld Z q.1 q.2) (OLD : Old Z n0 h0) (hT : "id" ∉ Ts) (Et : Exa Z h0 t "com/example/loads_to_headways/loadstoheadways/corridor/Station") (hgt : n0 ≤ t) (F1 : Fld Z h0 t "com/example/loads_to_headways/loadstoheadways/corridor/Station" "seq" "I" (.int 0)) (F2 : Fld Z h0 t "com/example/loads_to_headways/loadstoheadways/corridor/Station" "id" "Ljava/lang/String;" .null) (F3 : Fld Z h0 t "com/example/loads_to_headways/loadstoheadways/corridor/Station" "arrivalRatePerMinute" "D" (.double 0)) (En : Exa Z h0 n' "java/lang/String") (Fn : Fld Z h0 n' "java/lang/String" "value" "[B" (.ref nb)) (An : AV Z h0 nb .byte [.int x']) (hnt : n' ≠ t) (hbt : nb ≠ t) :
    Con l Z n0 Ts ("id" :: Ts) (⟨"com/example/loads_to_headways/loadstoheadways/corridor/Station", "<init>", "(ILjava/lang/String;D)V"⟩ : MethodName) prog_13_method_1_code 5 none ws ({ frames := 2, cells := 2, slots := 12, locals := 40 } : Room) #[(.ref t), (.int 1), (.ref n'), (.double (0 : UInt64))] h0 (fun v h => v = none ∧ Keep h0 h [t]) := by
  refine con_start (plainFor_of_name (by first | (simp [plainName, overriddenIn]; done) | decide +kernel)) (fr0 := fun m => mkF m 0 #[.val (.ref t), .val (.int 1), .val (.ref n'), .val (.double (0 : UInt64)), .second] []) (fun m => by first | (simp [entryFrame, mkF, argsToLocals, Value.category]; done) | rfl) ?_
  intro p e s m below meth c T0 hx hZ hby hml hown hnm hret hlk hsh XA
  have X0 := XA s.heap.size
  have hlow : n0 ≤ s.heap.size := by rw [hsh]; exact hn0
  replace hown : s.vm.findClass "com/example/loads_to_headways/loadstoheadways/corridor/Station" = some m.cls := hown
  replace hml : c.maxLocals = 5 := hml
  refine g_aloadN X0 hx (pc' := 1) rfl (hD hby d1_0) rfl rfl ?_
  refine g_initO X0 hx hZ hown (wat hw 14 rfl) (wat hw 15 rfl) (wat hw 16 rfl) (by rw [hml]; rfl) (pc' := 4) rfl (hD hby d1_1) (by decide) (W := 0) (Nat.le_of_eq rfl) (by decide) (fun T37 X37 => ?_)
  show Go p e below s n0 _ _ _ (T37.setTop (mkF m 4 _ []))
  refine g_iloadN X37 hx (pc' := 5) rfl (hD hby d1_4) rfl ?_
  refine g_iconst X37 hx (pc' := 6) (z := (1 : Int32)) rfl (hD hby d1_5) rfl ?_
  refine g_icmpY X37 hx (pcY := 23) (hD hby d1_6) (by decide) (by decide) (show ¬ (1 : Int32) < (1 : Int32) from by decide) ?_
  refine g_aloadN X37 hx (pc' := 24) rfl (hD hby d1_23) rfl rfl ?_
  refine g_ldcS X37 hx hZ hown (wat hw 17 rfl) (own_wS hw) (fun b cl q => by rw [hsh]; exact OLD.2.2 b cl q) hT (hkc ("com/example/loads_to_headways/loadstoheadways/corridor/Station", 16) (by simp [consts_1])) hcw (vs := [.int 105, .int 100]) ⟨by decide, rfl⟩ (by decide) (pc' := 26) rfl (hD hby d1_24) (n := 8) (by decide) (by decide) (by decide) (by decide) (fun T38 h38 a38 b38 XX38 E38 EX38 FC38 FV38 AB38 WH38 => ?_)
  have X38 := XX38.low hlow
  have f39 := Et.ext E38
  have f40 := F1.ext E38
  have f41 := F2.ext E38
  have f42 := F3.ext E38
  have f43 := En.ext E38
  have f44 := Fn.ext E38
  have f45 := An.ext E38
  have f46 := (Keep.refl h0 [t]).ext E38
  have Zs38 : n0 ≤ h38.size := Nat.le_trans hn0 E38.1
  have f47 := OLD.ext E38
  show Go p e below s n0 _ _ _ (T38.setTop (mkF m 26 _ [(.ref a38), (.ref n')]))
  refine g_callS X38 hx hZ hown (wat hw 18 rfl) (wat hw 19 rfl) (wat hw 20 rfl) (wat hw 21 rfl) (by decide) (rm3 l Z a0 hw [] n0 ("id" :: Ts) n' a38 h38 Zs38 ) pd_3 rfl rfl (by rw [hml]; rfl) (pc' := 29) rfl (hD hby d1_26) (argsL := [(.ref n'), (.ref a38)]) (rest := []) rfl (W := 0) (Nat.le_of_eq rfl) (by decide) (by decide) (by decide) (by decide) (fun v48 T48 h48 X48 hQ48 => ?_)
  obtain ⟨rfl, he48⟩ := hQ48
  rw [he48] at X48
  show Go p e below s n0 _ _ _ (T48.setTop (mkF m 29 _ [(.ref n')]))
  refine g_cast X48 hx hZ hown (wat hw 22 rfl) (Ins.self f43) (pc' := 32) rfl (hD hby d1_29) (fun T49 X49 => ?_)
  refine g_callV X49 hx hZ hown (wat hw 24 rfl) (wat hw 25 rfl) (wat hw 27 rfl) (wat hw 26 rfl) (wat hw 4 rfl) (wat hw 28 rfl) (by decide) (a := n') f43 (rm4 l Z a0 hw [] n0 ("id" :: Ts) n' _ _ h38 Zs38 f44 f45) pd_4 rfl rfl (by rw [hml]; rfl) (pc' := 35) rfl (hD hby d1_32) (argsL := []) (rest := []) rfl (W := 0) (Nat.le_of_eq rfl) (by decide) (by decide) (by decide) (by decide) (fun v50 T50 h50 X50 hQ50 => ?_)
  obtain ⟨rfl, he50⟩ := hQ50
  rw [he50] at X50
  show Go p e below s n0 _ _ _ (T50.setTop (mkF m 35 _ [(.int 0)]))
  refine g_ifY X50 hx (pcY := 48) (hD hby d1_35) (by decide) (by decide) (show (0 : Int32) = 0 from by decide) ?_
  refine g_dloadN X50 hx (pc' := 49) rfl (hD hby d1_48) rfl ?_
  refine g_dconst0 X50 hx (pc' := 50) rfl (hD hby d1_49) ?_
  refine g_dcmp X50 hx (pc' := 51) (z := (0 : Int32)) rfl (hD hby d1_50) (by decide +kernel) ?_
  refine g_ifN X50 hx (pcN := 54) (hD hby d1_51) rfl (show ¬ ((0 : Int32) < 0) from by decide) ?_
  refine g_dloadN X50 hx (pc' := 55) rfl (hD hby d1_54) rfl ?_
  refine g_callS X50 hx hZ hown (wat hw 30 rfl) (wat hw 31 rfl) (wat hw 32 rfl) (wat hw 33 rfl) (by decide) (rm5 l Z a0 hw [] n0 ("id" :: Ts)  h38 Zs38 ) pd_5 rfl rfl (by rw [hml]; rfl) (pc' := 58) rfl (hD hby d1_55) (argsL := [(.double (0 : UInt64))]) (rest := []) rfl (W := 0) (Nat.le_of_eq rfl) (by decide) (by decide) (by decide) (by decide) (fun v51 T51 h51 X51 hQ51 => ?_)
  obtain ⟨rfl, he51⟩ := hQ51
  rw [he51] at X51
  show Go p e below s n0 _ _ _ (T51.setTop (mkF m 58 _ [(.int 1)]))
  refine g_ifY X51 hx (pcY := 75) (hD hby d1_58) (by decide) (by decide) (show ¬ (1 : Int32) = 0 from by decide) ?_
  refine g_aloadN X51 hx (pc' := 76) rfl (hD hby d1_75) rfl rfl ?_
  refine g_iloadN X51 hx (pc' := 77) rfl (hD hby d1_76) rfl ?_
  refine g_putF X51 hx hZ hown (wat hw 39 rfl) Via.refl f40 f39 (Or.inr ⟨(wat hw 40 rfl), rfl, hnm⟩) (wat hw 1 rfl) (ty := .int) (by decide) rfl rfl hgt (pc' := 80) rfl (hD hby d1_77) (fun T52 h52 X52 W52 => ?_)
  have f53 := f39.wr W52
  have f54 := f40.same W52
  have f55 := f41.other W52 (Or.inr (slot_ne (Or.inr (wat hw 42 rfl)) (Or.inr (wat hw 40 rfl)) (by decide) (t := (.object "java/lang/String")) (t' := .int) (by decide) (by decide)))
  have f56 := f42.other W52 (Or.inr (slot_ne (Or.inr (wat hw 44 rfl)) (Or.inr (wat hw 40 rfl)) (by decide) (t := .double) (t' := .int) (by decide) (by decide)))
  have f57 := (by have q := (Keep.of_wr W52).1; exact Nat.le_trans Zs38 q : n0 ≤ h52.size)
  have f58 := f46.wr W52 (Or.inl (List.mem_of_getElem? (i := 0) rfl))
  have f59 := f47.wr W52 hgt
  have f60 := f43.wr W52
  have f61 := f44.other W52 (Or.inl hnt)
  have f62 := f45.other W52 hbt
  have f63 := EX38.wr W52
  refine g_aloadN X52 hx (pc' := 81) rfl (hD hby d1_80) rfl rfl ?_
  refine g_aloadN X52 hx (pc' := 82) rfl (hD hby d1_81) rfl rfl ?_
  refine g_putF X52 hx hZ hown (wat hw 41 rfl) Via.refl f55 f53 (Or.inr ⟨(wat hw 42 rfl), rfl, hnm⟩) (wat hw 1 rfl) (ty := (.object "java/lang/String")) (by decide) rfl rfl hgt (pc' := 85) rfl (hD hby d1_82) (fun T64 h64 X64 W64 => ?_)
  have f65 := f53.wr W64
  have f66 := f54.other W64 (Or.inr (slot_ne (Or.inr (wat hw 40 rfl)) (Or.inr (wat hw 42 rfl)) (by decide) (t := .int) (t' := (.object "java/lang/String")) (by decide) (by decide)))
  have f67 := f55.same W64
  have f68 := f56.other W64 (Or.inr (slot_ne (Or.inr (wat hw 44 rfl)) (Or.inr (wat hw 42 rfl)) (by decide) (t := .double) (t' := (.object "java/lang/String")) (by decide) (by decide)))
  have f69 := (by have q := (Keep.of_wr W64).1; exact Nat.le_trans f57 q : n0 ≤ h64.size)
  have f70 := f58.wr W64 (Or.inl (List.mem_of_getElem? (i := 0) rfl))
  have f71 := f59.wr W64 hgt
  have f72 := f60.wr W64
  have f73 := f61.other W64 (Or.inl hnt)
  have f74 := f62.other W64 hbt
  have f75 := f63.wr W64
  refine g_aloadN X64 hx (pc' := 86) rfl (hD hby d1_85) rfl rfl ?_
  refine g_dloadN X64 hx (pc' := 87) rfl (hD hby d1_86) rfl ?_
  refine g_putF X64 hx hZ hown (wat hw 43 rfl) Via.refl f68 f65 (Or.inr ⟨(wat hw 44 rfl), rfl, hnm⟩) (wat hw 1 rfl) (ty := .double) (by decide) rfl rfl hgt (pc' := 90) rfl (hD hby d1_87) (fun T76 h76 X76 W76 => ?_)
  have f77 := f65.wr W76
  have f78 := f66.other W76 (Or.inr (slot_ne (Or.inr (wat hw 40 rfl)) (Or.inr (wat hw 44 rfl)) (by decide) (t := .int) (t' := .double) (by decide) (by decide)))
  have f79 := f67.other W76 (Or.inr (slot_ne (Or.inr (wat hw 42 rfl)) (Or.inr (wat hw 44 rfl)) (by decide) (t := (.object "java/lang/String")) (t' := .double) (by decide) (by decide)))
  have f80 := f68.same W76
  have f81 := (by have q := (Keep.of_wr W76).1; exact Nat.le_trans f69 q : n0 ≤ h76.size)
  have f82 := f70.wr W76 (Or.inl (List.mem_of_getElem? (i := 0) rfl))
  have f83 := f71.wr W76 hgt
  have f84 := f72.wr W76
  have f85 := f73.other W76 (Or.inl hnt)
  have f86 := f74.other W76 hbt
  have f87 := f75.wr W76
  exact g_retV X76 hx hlk hret (hD hby d1_90) (by decide) (by decide) (Nat.le_refl _) (⟨rfl, f82⟩)
def Pas (Z : State) (h : Heap) (t : Addr) (vid : Value) (lst : Addr) : Prop := Exa Z h t "com/example/loads_to_headways/loadstoheadways/sim/Passenger" ∧ Fld Z h t "com/example/loads_to_headways/loadstoheadways/sim/Passenger" "vehicleId" "Ljava/lang/String;" vid ∧ Fld Z h t "com/example/loads_to_headways/loadstoheadways/sim/Passenger" "strandings" "Ljava/util/List;" (.ref lst) ∧ (∃ d, Fld Z h t "com/example/loads_to_headways/loadstoheadways/sim/Passenger" "boardingSeconds" "D" (.double d)) ∧ (∃ d, Fld Z h t "com/example/loads_to_headways/loadstoheadways/sim/Passenger" "alightingSeconds" "D" (.double d)) ∧ ∃ z, Fld Z h t "com/example/loads_to_headways/loadstoheadways/sim/Passenger" "onBoard" "Z" (.int z)
theorem Pas.keep {Z : State} {h h' : Heap} {t lst : Addr} {vid : Value} {ws : List Addr} (F : Pas Z h t vid lst) (K : Keep h h' ws) (q : t ∉ ws) : Pas Z h' t vid lst := by
  obtain ⟨a, b, c, ⟨d, e⟩, ⟨f, g⟩, i, j⟩ := F
  exact ⟨a.keep K, b.keep K q, c.keep K q, ⟨d, e.keep K q⟩, ⟨f, g.keep K q⟩, i, j.keep K q⟩
set_option maxRecDepth 65536 in
set_option maxHeartbeats 40000000 in
theorem rm23 (l : Launch) (Z : State) (a0 : Array Value) (hw : ∀ d ∈ tables_1, d.before a0 Z = true) (ws : List Jvm.Cond) (n0 : Nat) (Ts : List String) (t lst : Addr) (vid : Value) (x' : UInt64) (h0 : Heap) (hn0 : n0 ≤ h0.size) (P0 : Pas Z h0 t vid lst) (hgt : n0 ≤ t) :
    Con l Z n0 Ts (Ts) (⟨"com/example/loads_to_headways/loadstoheadways/sim/Passenger", "alight", "(D)V"⟩ : MethodName) prog_48_method_18_code 3 none ws ({ frames := 0, cells := 0, slots := 0, locals := 0 } : Room) #[(.ref t), (.double x')] h0 (fun v h => v = none ∧ Keep h0 h [t] ∧ Pas Z h t vid lst) := by
  refine con_start (plainFor_of_name (by first | (simp [plainName, overriddenIn]; done) | decide +kernel)) (fr0 := fun m => mkF m 0 #[.val (.ref t), .val (.double x'), .second] []) (fun m => by first | (simp [entryFrame, mkF, argsToLocals, Value.category]; done) | rfl) ?_
  intro p e s m below meth c T0 hx hZ hby hml hown hnm hret hlk hsh XA
  have X0 := XA n0
  have hlow : n0 ≤ s.heap.size := by rw [hsh]; exact hn0
  replace hown : s.vm.findClass "com/example/loads_to_headways/loadstoheadways/sim/Passenger" = some m.cls := hown
  replace hml : c.maxLocals = 3 := hml
  obtain ⟨Ep, Fvid, Flst, ⟨bd, Fbd⟩, ⟨ad, Fad⟩, zb, Fzb⟩ := P0
  refine g_aloadN X0 hx (pc' := 1) rfl (hD hby d23_0) rfl rfl ?_
  refine g_dloadN X0 hx (pc' := 2) rfl (hD hby d23_1) rfl ?_
  refine g_putF X0 hx hZ hown (wat hw 55 rfl) Via.refl Fad Ep (Or.inl (wat hw 56 rfl)) (wat hw 46 rfl) (ty := .double) (by decide) rfl rfl hgt (pc' := 5) rfl (hD hby d23_2) (fun T88 h88 X88 W88 => ?_)
  have f89 := (by have q := (Keep.of_wr W88).1; exact Nat.le_trans hn0 q : n0 ≤ h88.size)
  have f90 := (Keep.refl h0 [t]).wr W88 (Or.inl (List.mem_of_getElem? (i := 0) rfl))
  have f91 := Ep.wr W88
  have f92 := Fvid.other W88 (Or.inr (slot_ne (Or.inl (wat hw 79 rfl)) (Or.inl (wat hw 56 rfl)) (by decide) (t := (.object "java/lang/String")) (t' := .double) (by decide) (by decide)))
  have f93 := Flst.other W88 (Or.inr (slot_ne (Or.inl (wat hw 64 rfl)) (Or.inl (wat hw 56 rfl)) (by decide) (t := (.object "java/util/List")) (t' := .double) (by decide) (by decide)))
  have f94 := Fbd.other W88 (Or.inr (slot_ne (Or.inl (wat hw 54 rfl)) (Or.inl (wat hw 56 rfl)) (by decide) (t := .double) (t' := .double) (by decide) (by decide)))
  have f95 := Fad.same W88
  have f96 := Fzb.other W88 (Or.inr (slot_ne (Or.inl (wat hw 104 rfl)) (Or.inl (wat hw 56 rfl)) (by decide) (t := .boolean) (t' := .double) (by decide) (by decide)))
  refine g_aloadN X88 hx (pc' := 6) rfl (hD hby d23_5) rfl rfl ?_
  refine g_iconst X88 hx (pc' := 7) (z := (0 : Int32)) rfl (hD hby d23_6) rfl ?_
  refine g_putF X88 hx hZ hown (wat hw 103 rfl) Via.refl f96 f91 (Or.inl (wat hw 104 rfl)) (wat hw 46 rfl) (ty := .boolean) (by decide) rfl rfl hgt (pc' := 10) rfl (hD hby d23_7) (fun T97 h97 X97 W97 => ?_)
  have f98 := (by have q := (Keep.of_wr W97).1; exact Nat.le_trans f89 q : n0 ≤ h97.size)
  have f99 := f90.wr W97 (Or.inl (List.mem_of_getElem? (i := 0) rfl))
  have f100 := f91.wr W97
  have f101 := f92.other W97 (Or.inr (slot_ne (Or.inl (wat hw 79 rfl)) (Or.inl (wat hw 104 rfl)) (by decide) (t := (.object "java/lang/String")) (t' := .boolean) (by decide) (by decide)))
  have f102 := f93.other W97 (Or.inr (slot_ne (Or.inl (wat hw 64 rfl)) (Or.inl (wat hw 104 rfl)) (by decide) (t := (.object "java/util/List")) (t' := .boolean) (by decide) (by decide)))
  have f103 := f94.other W97 (Or.inr (slot_ne (Or.inl (wat hw 54 rfl)) (Or.inl (wat hw 104 rfl)) (by decide) (t := .double) (t' := .boolean) (by decide) (by decide)))
  have f104 := f95.other W97 (Or.inr (slot_ne (Or.inl (wat hw 56 rfl)) (Or.inl (wat hw 104 rfl)) (by decide) (t := .double) (t' := .boolean) (by decide) (by decide)))
  have f105 := f96.same W97
  exact g_retV X97 hx hlk hret (hD hby d23_10) (by decide) (by decide) (Nat.le_refl _) (⟨rfl, f99, ⟨f100, f101, f102, ⟨_, f103⟩, ⟨_, f104⟩, _, f105⟩⟩)
set_option maxRecDepth 65536 in
set_option maxHeartbeats 40000000 in
theorem rm9_n (l : Launch) (Z : State) (a0 : Array Value) (hw : ∀ d ∈ tables_1, d.before a0 Z = true) (ws : List Jvm.Cond) (n0 : Nat) (Ts : List String) (t lst vr : Addr) (h0 : Heap) (hn0 : n0 ≤ h0.size) (P0 : Pas Z h0 t .null lst) :
    Con l Z n0 Ts (Ts) (⟨"com/example/loads_to_headways/loadstoheadways/sim/Passenger", "hasBoarded", "()Z"⟩ : MethodName) prog_48_method_6_code 1 (some .boolean) ws ({ frames := 0, cells := 0, slots := 0, locals := 0 } : Room) #[(.ref t)] h0 (fun v h => v = some (.int 0) ∧ h = h0) := by
  refine con_start (plainFor_of_name (by first | (simp [plainName, overriddenIn]; done) | decide +kernel)) (fr0 := fun m => mkF m 0 #[.val (.ref t)] []) (fun m => by first | (simp [entryFrame, mkF, argsToLocals, Value.category]; done) | rfl) ?_
  intro p e s m below meth c T0 hx hZ hby hml hown hnm hret hlk hsh XA
  have X0 := XA n0
  have hlow : n0 ≤ s.heap.size := by rw [hsh]; exact hn0
  replace hown : s.vm.findClass "com/example/loads_to_headways/loadstoheadways/sim/Passenger" = some m.cls := hown
  replace hml : c.maxLocals = 1 := hml
  obtain ⟨Ep, Fvid, Flst, ⟨bd, Fbd⟩, ⟨ad, Fad⟩, zb, Fzb⟩ := P0
  refine g_aloadN X0 hx (pc' := 1) rfl (hD hby d9_0) rfl rfl ?_
  refine g_getF X0 hx hZ hown (wat hw 78 rfl) Via.refl Fvid (pc' := 4) rfl (hD hby d9_1) (fun T106 X106 => ?_)
  refine g_ifnullY X106 hx (pcY := 11) (hD hby d9_4) (by decide) (by decide) ?_
  refine g_iconst X106 hx (pc' := 12) (z := (0 : Int32)) rfl (hD hby d9_11) rfl ?_
  exact g_retZ X106 hx hlk hret (by first | exact Or.inl rfl | exact Or.inr rfl) (hD hby d9_12) (by decide) (by decide) (Nat.le_refl _) (⟨rfl, rfl⟩)
set_option maxRecDepth 65536 in
set_option maxHeartbeats 40000000 in
theorem rm9_y (l : Launch) (Z : State) (a0 : Array Value) (hw : ∀ d ∈ tables_1, d.before a0 Z = true) (ws : List Jvm.Cond) (n0 : Nat) (Ts : List String) (t lst vr : Addr) (h0 : Heap) (hn0 : n0 ≤ h0.size) (P0 : Pas Z h0 t (.ref vr) lst) :
    Con l Z n0 Ts (Ts) (⟨"com/example/loads_to_headways/loadstoheadways/sim/Passenger", "hasBoarded", "()Z"⟩ : MethodName) prog_48_method_6_code 1 (some .boolean) ws ({ frames := 0, cells := 0, slots := 0, locals := 0 } : Room) #[(.ref t)] h0 (fun v h => v = some (.int 1) ∧ h = h0) := by
  refine con_start (plainFor_of_name (by first | (simp [plainName, overriddenIn]; done) | decide +kernel)) (fr0 := fun m => mkF m 0 #[.val (.ref t)] []) (fun m => by first | (simp [entryFrame, mkF, argsToLocals, Value.category]; done) | rfl) ?_
  intro p e s m below meth c T0 hx hZ hby hml hown hnm hret hlk hsh XA
  have X0 := XA n0
  have hlow : n0 ≤ s.heap.size := by rw [hsh]; exact hn0
  replace hown : s.vm.findClass "com/example/loads_to_headways/loadstoheadways/sim/Passenger" = some m.cls := hown
  replace hml : c.maxLocals = 1 := hml
  obtain ⟨Ep, Fvid, Flst, ⟨bd, Fbd⟩, ⟨ad, Fad⟩, zb, Fzb⟩ := P0
  refine g_aloadN X0 hx (pc' := 1) rfl (hD hby d9_0) rfl rfl ?_
  refine g_getF X0 hx hZ hown (wat hw 78 rfl) Via.refl Fvid (pc' := 4) rfl (hD hby d9_1) (fun T107 X107 => ?_)
  refine g_ifnullN X107 hx (pcN := 7) (hD hby d9_4) rfl ?_
  refine g_iconst X107 hx (pc' := 8) (z := (1 : Int32)) rfl (hD hby d9_7) rfl ?_
  refine g_goto X107 hx (pc' := 12) (hD hby d9_8) (by decide) (by decide) ?_
  exact g_retZ X107 hx hlk hret (by first | exact Or.inl rfl | exact Or.inr rfl) (hD hby d9_12) (by decide) (by decide) (Nat.le_refl _) (⟨rfl, rfl⟩)
set_option maxRecDepth 65536 in
set_option maxHeartbeats 40000000 in
theorem rm8 (l : Launch) (Z : State) (a0 : Array Value) (hw : ∀ d ∈ tables_1, d.before a0 Z = true) (ws : List Jvm.Cond) (n0 : Nat) (Ts : List String) (el : Addr) (h0 : Heap) (hn0 : n0 ≤ h0.size) (O3 : Sta Z Z.heap "java/util/ImmutableCollections" "EMPTY_LIST" "Ljava/util/ImmutableCollections$ListN;" (.ref el)) (OLD : Old Z n0 h0) :
    Con l Z n0 Ts (Ts) (⟨"java/util/List", "of", "()Ljava/util/List;"⟩ : MethodName) jdk_40_method_36_code 0 (some (.object "java/util/List")) ws ({ frames := 0, cells := 0, slots := 0, locals := 0 } : Room) #[] h0 (fun v h => v = some (.ref el) ∧ h = h0) := by
  refine con_start (plainFor_of_name (by first | (simp [plainName, overriddenIn]; done) | decide +kernel)) (fr0 := fun m => mkF m 0 #[] []) (fun m => by first | (simp [entryFrame, mkF, argsToLocals, Value.category]; done) | rfl) ?_
  intro p e s m below meth c T0 hx hZ hby hml hown hnm hret hlk hsh XA
  have X0 := XA n0
  have hlow : n0 ≤ s.heap.size := by rw [hsh]; exact hn0
  replace hown : s.vm.findClass "java/util/List" = some m.cls := hown
  replace hml : c.maxLocals = 0 := hml
  refine g_getS X0 hx hZ hown (wat hw 61 rfl) Via.refl (Sta.ext OLD.2 O3) (pc' := 3) rfl (hD hby d8_0) (fun T108 X108 => ?_)
  exact g_ret X108 hx hlk hret rfl (Or.inr (Or.inr (Or.inr (Or.inr ⟨rfl, rfl, rfl⟩)))) (hD hby d8_3) (by decide) (by decide) (Nat.le_refl _) (⟨rfl, rfl⟩)
set_option maxRecDepth 65536 in
set_option maxHeartbeats 40000000 in
theorem rm7 (l : Launch) (Z : State) (a0 : Array Value) (hw : ∀ d ∈ tables_1, d.before a0 Z = true) (ws : List Jvm.Cond) (n0 : Nat) (Ts : List String) (t st' el : Addr) (x' : UInt64) (h0 : Heap) (hn0 : n0 ≤ h0.size) (O3 : Sta Z Z.heap "java/util/ImmutableCollections" "EMPTY_LIST" "Ljava/util/ImmutableCollections$ListN;" (.ref el)) (OLD : Old Z n0 h0) (Et : Exa Z h0 t "com/example/loads_to_headways/loadstoheadways/sim/Passenger") (hgt : n0 ≤ t) (F_boardingSeconds : Fld Z h0 t "com/example/loads_to_headways/loadstoheadways/sim/Passenger" "boardingSeconds" "D" (.double (0 : UInt64))) (F_alightingSeconds : Fld Z h0 t "com/example/loads_to_headways/loadstoheadways/sim/Passenger" "alightingSeconds" "D" (.double (0 : UInt64))) (F_strandings : Fld Z h0 t "com/example/loads_to_headways/loadstoheadways/sim/Passenger" "strandings" "Ljava/util/List;" .null) (F_id : Fld Z h0 t "com/example/loads_to_headways/loadstoheadways/sim/Passenger" "id" "I" (.int 0)) (F_origin : Fld Z h0 t "com/example/loads_to_headways/loadstoheadways/sim/Passenger" "origin" "Lcom/example/loads_to_headways/loadstoheadways/corridor/Station;" .null) (F_destination : Fld Z h0 t "com/example/loads_to_headways/loadstoheadways/sim/Passenger" "destination" "Lcom/example/loads_to_headways/loadstoheadways/corridor/Station;" .null) (F_arrivalSeconds : Fld Z h0 t "com/example/loads_to_headways/loadstoheadways/sim/Passenger" "arrivalSeconds" "D" (.double (0 : UInt64))) (F_vehicleId : Fld Z h0 t "com/example/loads_to_headways/loadstoheadways/sim/Passenger" "vehicleId" "Ljava/lang/String;" .null) (F_onBoard : Fld Z h0 t "com/example/loads_to_headways/loadstoheadways/sim/Passenger" "onBoard" "Z" (.int 0)) :
    Con l Z n0 Ts (Ts) (⟨"com/example/loads_to_headways/loadstoheadways/sim/Passenger", "<init>", "(ILcom/example/loads_to_headways/loadstoheadways/corridor/Station;Lcom/example/loads_to_headways/loadstoheadways/corridor/Station;D)V"⟩ : MethodName) prog_48_method_1_code 6 none ws ({ frames := 1, cells := 0, slots := 0, locals := 16 } : Room) #[(.ref t), (.int 1), (.ref st'), (.ref st'), (.double x')] h0 (fun v h => v = none ∧ Keep h0 h [t] ∧ Pas Z h t .null el) := by
  refine con_start (plainFor_of_name (by first | (simp [plainName, overriddenIn]; done) | decide +kernel)) (fr0 := fun m => mkF m 0 #[.val (.ref t), .val (.int 1), .val (.ref st'), .val (.ref st'), .val (.double x'), .second] []) (fun m => by first | (simp [entryFrame, mkF, argsToLocals, Value.category]; done) | rfl) ?_
  intro p e s m below meth c T0 hx hZ hby hml hown hnm hret hlk hsh XA
  have X0 := XA n0
  have hlow : n0 ≤ s.heap.size := by rw [hsh]; exact hn0
  replace hown : s.vm.findClass "com/example/loads_to_headways/loadstoheadways/sim/Passenger" = some m.cls := hown
  replace hml : c.maxLocals = 6 := hml
  refine g_aloadN X0 hx (pc' := 1) rfl (hD hby d7_0) rfl rfl ?_
  refine g_initO X0 hx hZ hown (wat hw 51 rfl) (wat hw 15 rfl) (wat hw 16 rfl) (by rw [hml]; rfl) (pc' := 4) rfl (hD hby d7_1) (by decide) (W := 0) (Nat.le_of_eq rfl) (by decide) (fun T109 X109 => ?_)
  show Go p e below s n0 _ _ _ (T109.setTop (mkF m 4 _ []))
  refine g_aloadN X109 hx (pc' := 5) rfl (hD hby d7_4) rfl rfl ?_
  refine g_ldc2D X109 hx hZ hown (wat hw 52 rfl) (pc' := 8) (v := (9221120237041090560 : UInt64)) rfl (hD hby d7_5) ?_
  refine g_putF X109 hx hZ hown (wat hw 53 rfl) Via.refl F_boardingSeconds Et (Or.inl (wat hw 54 rfl)) (wat hw 46 rfl) (ty := .double) (by decide) rfl rfl hgt (pc' := 11) rfl (hD hby d7_8) (fun T110 h110 X110 W110 => ?_)
  have f111 := (by have q := (Keep.of_wr W110).1; exact Nat.le_trans hn0 q : n0 ≤ h110.size)
  have f112 := (Keep.refl h0 [t]).wr W110 (Or.inl (List.mem_of_getElem? (i := 0) rfl))
  have f113 := OLD.wr W110 hgt
  have f114 := Et.wr W110
  have f115 := F_boardingSeconds.same W110
  have f116 := F_alightingSeconds.other W110 (Or.inr (slot_ne (Or.inl (wat hw 56 rfl)) (Or.inl (wat hw 54 rfl)) (by decide) (t := .double) (t' := .double) (by decide) (by decide)))
  have f117 := F_strandings.other W110 (Or.inr (slot_ne (Or.inl (wat hw 64 rfl)) (Or.inl (wat hw 54 rfl)) (by decide) (t := (.object "java/util/List")) (t' := .double) (by decide) (by decide)))
  have f118 := F_id.other W110 (Or.inr (slot_ne (Or.inr (wat hw 66 rfl)) (Or.inl (wat hw 54 rfl)) (by decide) (t := .int) (t' := .double) (by decide) (by decide)))
  have f119 := F_origin.other W110 (Or.inr (slot_ne (Or.inr (wat hw 68 rfl)) (Or.inl (wat hw 54 rfl)) (by decide) (t := (.object "com/example/loads_to_headways/loadstoheadways/corridor/Station")) (t' := .double) (by decide) (by decide)))
  have f120 := F_destination.other W110 (Or.inr (slot_ne (Or.inr (wat hw 70 rfl)) (Or.inl (wat hw 54 rfl)) (by decide) (t := (.object "com/example/loads_to_headways/loadstoheadways/corridor/Station")) (t' := .double) (by decide) (by decide)))
  have f121 := F_arrivalSeconds.other W110 (Or.inr (slot_ne (Or.inr (wat hw 72 rfl)) (Or.inl (wat hw 54 rfl)) (by decide) (t := .double) (t' := .double) (by decide) (by decide)))
  have f122 := F_vehicleId.other W110 (Or.inr (slot_ne (Or.inl (wat hw 79 rfl)) (Or.inl (wat hw 54 rfl)) (by decide) (t := (.object "java/lang/String")) (t' := .double) (by decide) (by decide)))
  have f123 := F_onBoard.other W110 (Or.inr (slot_ne (Or.inl (wat hw 104 rfl)) (Or.inl (wat hw 54 rfl)) (by decide) (t := .boolean) (t' := .double) (by decide) (by decide)))
  refine g_aloadN X110 hx (pc' := 12) rfl (hD hby d7_11) rfl rfl ?_
  refine g_ldc2D X110 hx hZ hown (wat hw 52 rfl) (pc' := 15) (v := (9221120237041090560 : UInt64)) rfl (hD hby d7_12) ?_
  refine g_putF X110 hx hZ hown (wat hw 55 rfl) Via.refl f116 f114 (Or.inl (wat hw 56 rfl)) (wat hw 46 rfl) (ty := .double) (by decide) rfl rfl hgt (pc' := 18) rfl (hD hby d7_15) (fun T124 h124 X124 W124 => ?_)
  have f125 := (by have q := (Keep.of_wr W124).1; exact Nat.le_trans f111 q : n0 ≤ h124.size)
  have f126 := f112.wr W124 (Or.inl (List.mem_of_getElem? (i := 0) rfl))
  have f127 := f113.wr W124 hgt
  have f128 := f114.wr W124
  have f129 := f115.other W124 (Or.inr (slot_ne (Or.inl (wat hw 54 rfl)) (Or.inl (wat hw 56 rfl)) (by decide) (t := .double) (t' := .double) (by decide) (by decide)))
  have f130 := f116.same W124
  have f131 := f117.other W124 (Or.inr (slot_ne (Or.inl (wat hw 64 rfl)) (Or.inl (wat hw 56 rfl)) (by decide) (t := (.object "java/util/List")) (t' := .double) (by decide) (by decide)))
  have f132 := f118.other W124 (Or.inr (slot_ne (Or.inr (wat hw 66 rfl)) (Or.inl (wat hw 56 rfl)) (by decide) (t := .int) (t' := .double) (by decide) (by decide)))
  have f133 := f119.other W124 (Or.inr (slot_ne (Or.inr (wat hw 68 rfl)) (Or.inl (wat hw 56 rfl)) (by decide) (t := (.object "com/example/loads_to_headways/loadstoheadways/corridor/Station")) (t' := .double) (by decide) (by decide)))
  have f134 := f120.other W124 (Or.inr (slot_ne (Or.inr (wat hw 70 rfl)) (Or.inl (wat hw 56 rfl)) (by decide) (t := (.object "com/example/loads_to_headways/loadstoheadways/corridor/Station")) (t' := .double) (by decide) (by decide)))
  have f135 := f121.other W124 (Or.inr (slot_ne (Or.inr (wat hw 72 rfl)) (Or.inl (wat hw 56 rfl)) (by decide) (t := .double) (t' := .double) (by decide) (by decide)))
  have f136 := f122.other W124 (Or.inr (slot_ne (Or.inl (wat hw 79 rfl)) (Or.inl (wat hw 56 rfl)) (by decide) (t := (.object "java/lang/String")) (t' := .double) (by decide) (by decide)))
  have f137 := f123.other W124 (Or.inr (slot_ne (Or.inl (wat hw 104 rfl)) (Or.inl (wat hw 56 rfl)) (by decide) (t := .boolean) (t' := .double) (by decide) (by decide)))
  refine g_aloadN X124 hx (pc' := 19) rfl (hD hby d7_18) rfl rfl ?_
  refine g_callS X124 hx hZ hown (wat hw 57 rfl) (wat hw 58 rfl) (wat hw 59 rfl) (wat hw 60 rfl) (by decide) (rm8 l Z a0 hw [] n0 (Ts) el h124 f125 O3 f127) pd_6 rfl rfl (by rw [hml]; rfl) (pc' := 22) rfl (hD hby d7_19) (argsL := []) (rest := [(.ref t)]) rfl (W := 1) (Nat.le_of_eq rfl) (by decide) (by decide) (by decide) (by decide) (fun v138 T138 h138 X138 hQ138 => ?_)
  obtain ⟨rfl, he138⟩ := hQ138
  rw [he138] at X138
  show Go p e below s n0 _ _ _ (T138.setTop (mkF m 22 _ [(.ref el), (.ref t)]))
  refine g_putF X138 hx hZ hown (wat hw 63 rfl) Via.refl f131 f128 (Or.inl (wat hw 64 rfl)) (wat hw 46 rfl) (ty := (.object "java/util/List")) (by decide) rfl rfl hgt (pc' := 25) rfl (hD hby d7_22) (fun T139 h139 X139 W139 => ?_)
  have f140 := (by have q := (Keep.of_wr W139).1; exact Nat.le_trans f125 q : n0 ≤ h139.size)
  have f141 := f126.wr W139 (Or.inl (List.mem_of_getElem? (i := 0) rfl))
  have f142 := f127.wr W139 hgt
  have f143 := f128.wr W139
  have f144 := f129.other W139 (Or.inr (slot_ne (Or.inl (wat hw 54 rfl)) (Or.inl (wat hw 64 rfl)) (by decide) (t := .double) (t' := (.object "java/util/List")) (by decide) (by decide)))
  have f145 := f130.other W139 (Or.inr (slot_ne (Or.inl (wat hw 56 rfl)) (Or.inl (wat hw 64 rfl)) (by decide) (t := .double) (t' := (.object "java/util/List")) (by decide) (by decide)))
  have f146 := f131.same W139
  have f147 := f132.other W139 (Or.inr (slot_ne (Or.inr (wat hw 66 rfl)) (Or.inl (wat hw 64 rfl)) (by decide) (t := .int) (t' := (.object "java/util/List")) (by decide) (by decide)))
  have f148 := f133.other W139 (Or.inr (slot_ne (Or.inr (wat hw 68 rfl)) (Or.inl (wat hw 64 rfl)) (by decide) (t := (.object "com/example/loads_to_headways/loadstoheadways/corridor/Station")) (t' := (.object "java/util/List")) (by decide) (by decide)))
  have f149 := f134.other W139 (Or.inr (slot_ne (Or.inr (wat hw 70 rfl)) (Or.inl (wat hw 64 rfl)) (by decide) (t := (.object "com/example/loads_to_headways/loadstoheadways/corridor/Station")) (t' := (.object "java/util/List")) (by decide) (by decide)))
  have f150 := f135.other W139 (Or.inr (slot_ne (Or.inr (wat hw 72 rfl)) (Or.inl (wat hw 64 rfl)) (by decide) (t := .double) (t' := (.object "java/util/List")) (by decide) (by decide)))
  have f151 := f136.other W139 (Or.inr (slot_ne (Or.inl (wat hw 79 rfl)) (Or.inl (wat hw 64 rfl)) (by decide) (t := (.object "java/lang/String")) (t' := (.object "java/util/List")) (by decide) (by decide)))
  have f152 := f137.other W139 (Or.inr (slot_ne (Or.inl (wat hw 104 rfl)) (Or.inl (wat hw 64 rfl)) (by decide) (t := .boolean) (t' := (.object "java/util/List")) (by decide) (by decide)))
  refine g_aloadN X139 hx (pc' := 26) rfl (hD hby d7_25) rfl rfl ?_
  refine g_iloadN X139 hx (pc' := 27) rfl (hD hby d7_26) rfl ?_
  refine g_putF X139 hx hZ hown (wat hw 65 rfl) Via.refl f147 f143 (Or.inr ⟨(wat hw 66 rfl), rfl, hnm⟩) (wat hw 46 rfl) (ty := .int) (by decide) rfl rfl hgt (pc' := 30) rfl (hD hby d7_27) (fun T153 h153 X153 W153 => ?_)
  have f154 := (by have q := (Keep.of_wr W153).1; exact Nat.le_trans f140 q : n0 ≤ h153.size)
  have f155 := f141.wr W153 (Or.inl (List.mem_of_getElem? (i := 0) rfl))
  have f156 := f142.wr W153 hgt
  have f157 := f143.wr W153
  have f158 := f144.other W153 (Or.inr (slot_ne (Or.inl (wat hw 54 rfl)) (Or.inr (wat hw 66 rfl)) (by decide) (t := .double) (t' := .int) (by decide) (by decide)))
  have f159 := f145.other W153 (Or.inr (slot_ne (Or.inl (wat hw 56 rfl)) (Or.inr (wat hw 66 rfl)) (by decide) (t := .double) (t' := .int) (by decide) (by decide)))
  have f160 := f146.other W153 (Or.inr (slot_ne (Or.inl (wat hw 64 rfl)) (Or.inr (wat hw 66 rfl)) (by decide) (t := (.object "java/util/List")) (t' := .int) (by decide) (by decide)))
  have f161 := f147.same W153
  have f162 := f148.other W153 (Or.inr (slot_ne (Or.inr (wat hw 68 rfl)) (Or.inr (wat hw 66 rfl)) (by decide) (t := (.object "com/example/loads_to_headways/loadstoheadways/corridor/Station")) (t' := .int) (by decide) (by decide)))
  have f163 := f149.other W153 (Or.inr (slot_ne (Or.inr (wat hw 70 rfl)) (Or.inr (wat hw 66 rfl)) (by decide) (t := (.object "com/example/loads_to_headways/loadstoheadways/corridor/Station")) (t' := .int) (by decide) (by decide)))
  have f164 := f150.other W153 (Or.inr (slot_ne (Or.inr (wat hw 72 rfl)) (Or.inr (wat hw 66 rfl)) (by decide) (t := .double) (t' := .int) (by decide) (by decide)))
  have f165 := f151.other W153 (Or.inr (slot_ne (Or.inl (wat hw 79 rfl)) (Or.inr (wat hw 66 rfl)) (by decide) (t := (.object "java/lang/String")) (t' := .int) (by decide) (by decide)))
  have f166 := f152.other W153 (Or.inr (slot_ne (Or.inl (wat hw 104 rfl)) (Or.inr (wat hw 66 rfl)) (by decide) (t := .boolean) (t' := .int) (by decide) (by decide)))
  refine g_aloadN X153 hx (pc' := 31) rfl (hD hby d7_30) rfl rfl ?_
  refine g_aloadN X153 hx (pc' := 32) rfl (hD hby d7_31) rfl rfl ?_
  refine g_putF X153 hx hZ hown (wat hw 67 rfl) Via.refl f162 f157 (Or.inr ⟨(wat hw 68 rfl), rfl, hnm⟩) (wat hw 46 rfl) (ty := (.object "com/example/loads_to_headways/loadstoheadways/corridor/Station")) (by decide) rfl rfl hgt (pc' := 35) rfl (hD hby d7_32) (fun T167 h167 X167 W167 => ?_)
  have f168 := (by have q := (Keep.of_wr W167).1; exact Nat.le_trans f154 q : n0 ≤ h167.size)
  have f169 := f155.wr W167 (Or.inl (List.mem_of_getElem? (i := 0) rfl))
  have f170 := f156.wr W167 hgt
  have f171 := f157.wr W167
  have f172 := f158.other W167 (Or.inr (slot_ne (Or.inl (wat hw 54 rfl)) (Or.inr (wat hw 68 rfl)) (by decide) (t := .double) (t' := (.object "com/example/loads_to_headways/loadstoheadways/corridor/Station")) (by decide) (by decide)))
  have f173 := f159.other W167 (Or.inr (slot_ne (Or.inl (wat hw 56 rfl)) (Or.inr (wat hw 68 rfl)) (by decide) (t := .double) (t' := (.object "com/example/loads_to_headways/loadstoheadways/corridor/Station")) (by decide) (by decide)))
  have f174 := f160.other W167 (Or.inr (slot_ne (Or.inl (wat hw 64 rfl)) (Or.inr (wat hw 68 rfl)) (by decide) (t := (.object "java/util/List")) (t' := (.object "com/example/loads_to_headways/loadstoheadways/corridor/Station")) (by decide) (by decide)))
  have f175 := f161.other W167 (Or.inr (slot_ne (Or.inr (wat hw 66 rfl)) (Or.inr (wat hw 68 rfl)) (by decide) (t := .int) (t' := (.object "com/example/loads_to_headways/loadstoheadways/corridor/Station")) (by decide) (by decide)))
  have f176 := f162.same W167
  have f177 := f163.other W167 (Or.inr (slot_ne (Or.inr (wat hw 70 rfl)) (Or.inr (wat hw 68 rfl)) (by decide) (t := (.object "com/example/loads_to_headways/loadstoheadways/corridor/Station")) (t' := (.object "com/example/loads_to_headways/loadstoheadways/corridor/Station")) (by decide) (by decide)))
  have f178 := f164.other W167 (Or.inr (slot_ne (Or.inr (wat hw 72 rfl)) (Or.inr (wat hw 68 rfl)) (by decide) (t := .double) (t' := (.object "com/example/loads_to_headways/loadstoheadways/corridor/Station")) (by decide) (by decide)))
  have f179 := f165.other W167 (Or.inr (slot_ne (Or.inl (wat hw 79 rfl)) (Or.inr (wat hw 68 rfl)) (by decide) (t := (.object "java/lang/String")) (t' := (.object "com/example/loads_to_headways/loadstoheadways/corridor/Station")) (by decide) (by decide)))
  have f180 := f166.other W167 (Or.inr (slot_ne (Or.inl (wat hw 104 rfl)) (Or.inr (wat hw 68 rfl)) (by decide) (t := .boolean) (t' := (.object "com/example/loads_to_headways/loadstoheadways/corridor/Station")) (by decide) (by decide)))
  refine g_aloadN X167 hx (pc' := 36) rfl (hD hby d7_35) rfl rfl ?_
  refine g_aloadN X167 hx (pc' := 37) rfl (hD hby d7_36) rfl rfl ?_
  refine g_putF X167 hx hZ hown (wat hw 69 rfl) Via.refl f177 f171 (Or.inr ⟨(wat hw 70 rfl), rfl, hnm⟩) (wat hw 46 rfl) (ty := (.object "com/example/loads_to_headways/loadstoheadways/corridor/Station")) (by decide) rfl rfl hgt (pc' := 40) rfl (hD hby d7_37) (fun T181 h181 X181 W181 => ?_)
  have f182 := (by have q := (Keep.of_wr W181).1; exact Nat.le_trans f168 q : n0 ≤ h181.size)
  have f183 := f169.wr W181 (Or.inl (List.mem_of_getElem? (i := 0) rfl))
  have f184 := f170.wr W181 hgt
  have f185 := f171.wr W181
  have f186 := f172.other W181 (Or.inr (slot_ne (Or.inl (wat hw 54 rfl)) (Or.inr (wat hw 70 rfl)) (by decide) (t := .double) (t' := (.object "com/example/loads_to_headways/loadstoheadways/corridor/Station")) (by decide) (by decide)))
  have f187 := f173.other W181 (Or.inr (slot_ne (Or.inl (wat hw 56 rfl)) (Or.inr (wat hw 70 rfl)) (by decide) (t := .double) (t' := (.object "com/example/loads_to_headways/loadstoheadways/corridor/Station")) (by decide) (by decide)))
  have f188 := f174.other W181 (Or.inr (slot_ne (Or.inl (wat hw 64 rfl)) (Or.inr (wat hw 70 rfl)) (by decide) (t := (.object "java/util/List")) (t' := (.object "com/example/loads_to_headways/loadstoheadways/corridor/Station")) (by decide) (by decide)))
  have f189 := f175.other W181 (Or.inr (slot_ne (Or.inr (wat hw 66 rfl)) (Or.inr (wat hw 70 rfl)) (by decide) (t := .int) (t' := (.object "com/example/loads_to_headways/loadstoheadways/corridor/Station")) (by decide) (by decide)))
  have f190 := f176.other W181 (Or.inr (slot_ne (Or.inr (wat hw 68 rfl)) (Or.inr (wat hw 70 rfl)) (by decide) (t := (.object "com/example/loads_to_headways/loadstoheadways/corridor/Station")) (t' := (.object "com/example/loads_to_headways/loadstoheadways/corridor/Station")) (by decide) (by decide)))
  have f191 := f177.same W181
  have f192 := f178.other W181 (Or.inr (slot_ne (Or.inr (wat hw 72 rfl)) (Or.inr (wat hw 70 rfl)) (by decide) (t := .double) (t' := (.object "com/example/loads_to_headways/loadstoheadways/corridor/Station")) (by decide) (by decide)))
  have f193 := f179.other W181 (Or.inr (slot_ne (Or.inl (wat hw 79 rfl)) (Or.inr (wat hw 70 rfl)) (by decide) (t := (.object "java/lang/String")) (t' := (.object "com/example/loads_to_headways/loadstoheadways/corridor/Station")) (by decide) (by decide)))
  have f194 := f180.other W181 (Or.inr (slot_ne (Or.inl (wat hw 104 rfl)) (Or.inr (wat hw 70 rfl)) (by decide) (t := .boolean) (t' := (.object "com/example/loads_to_headways/loadstoheadways/corridor/Station")) (by decide) (by decide)))
  refine g_aloadN X181 hx (pc' := 41) rfl (hD hby d7_40) rfl rfl ?_
  refine g_dload X181 hx (pc' := 43) rfl (hD hby d7_41) rfl ?_
  refine g_putF X181 hx hZ hown (wat hw 71 rfl) Via.refl f192 f185 (Or.inr ⟨(wat hw 72 rfl), rfl, hnm⟩) (wat hw 46 rfl) (ty := .double) (by decide) rfl rfl hgt (pc' := 46) rfl (hD hby d7_43) (fun T195 h195 X195 W195 => ?_)
  have f196 := (by have q := (Keep.of_wr W195).1; exact Nat.le_trans f182 q : n0 ≤ h195.size)
  have f197 := f183.wr W195 (Or.inl (List.mem_of_getElem? (i := 0) rfl))
  have f198 := f184.wr W195 hgt
  have f199 := f185.wr W195
  have f200 := f186.other W195 (Or.inr (slot_ne (Or.inl (wat hw 54 rfl)) (Or.inr (wat hw 72 rfl)) (by decide) (t := .double) (t' := .double) (by decide) (by decide)))
  have f201 := f187.other W195 (Or.inr (slot_ne (Or.inl (wat hw 56 rfl)) (Or.inr (wat hw 72 rfl)) (by decide) (t := .double) (t' := .double) (by decide) (by decide)))
  have f202 := f188.other W195 (Or.inr (slot_ne (Or.inl (wat hw 64 rfl)) (Or.inr (wat hw 72 rfl)) (by decide) (t := (.object "java/util/List")) (t' := .double) (by decide) (by decide)))
  have f203 := f189.other W195 (Or.inr (slot_ne (Or.inr (wat hw 66 rfl)) (Or.inr (wat hw 72 rfl)) (by decide) (t := .int) (t' := .double) (by decide) (by decide)))
  have f204 := f190.other W195 (Or.inr (slot_ne (Or.inr (wat hw 68 rfl)) (Or.inr (wat hw 72 rfl)) (by decide) (t := (.object "com/example/loads_to_headways/loadstoheadways/corridor/Station")) (t' := .double) (by decide) (by decide)))
  have f205 := f191.other W195 (Or.inr (slot_ne (Or.inr (wat hw 70 rfl)) (Or.inr (wat hw 72 rfl)) (by decide) (t := (.object "com/example/loads_to_headways/loadstoheadways/corridor/Station")) (t' := .double) (by decide) (by decide)))
  have f206 := f192.same W195
  have f207 := f193.other W195 (Or.inr (slot_ne (Or.inl (wat hw 79 rfl)) (Or.inr (wat hw 72 rfl)) (by decide) (t := (.object "java/lang/String")) (t' := .double) (by decide) (by decide)))
  have f208 := f194.other W195 (Or.inr (slot_ne (Or.inl (wat hw 104 rfl)) (Or.inr (wat hw 72 rfl)) (by decide) (t := .boolean) (t' := .double) (by decide) (by decide)))
  exact g_retV X195 hx hlk hret (hD hby d7_46) (by decide) (by decide) (Nat.le_refl _) (⟨rfl, f197, ⟨f199, f207, f202, ⟨_, f200⟩, ⟨_, f201⟩, _, f208⟩⟩)
def Sdg (Z : State) (h : Heap) (t : Addr) : Prop := Exa Z h t "com/example/loads_to_headways/loadstoheadways/sim/Stranding" ∧ (∃ v, Fld Z h t "com/example/loads_to_headways/loadstoheadways/sim/Stranding" "vehicleId" "Ljava/lang/String;" v) ∧ ∃ d, Fld Z h t "com/example/loads_to_headways/loadstoheadways/sim/Stranding" "boardingSeconds" "D" (.double d)
theorem Sdg.keep {Z : State} {h h' : Heap} {t : Addr} {ws : List Addr} (F : Sdg Z h t) (K : Keep h h' ws) (q : t ∉ ws) : Sdg Z h' t := by
  obtain ⟨a, ⟨v, b⟩, d, c⟩ := F
  exact ⟨a.keep K, ⟨v, b.keep K q⟩, d, c.keep K q⟩
set_option maxRecDepth 65536 in
set_option maxHeartbeats 40000000 in
theorem rm20 (l : Launch) (Z : State) (a0 : Array Value) (hw : ∀ d ∈ tables_1, d.before a0 Z = true) (ws : List Jvm.Cond) (n0 : Nat) (Ts : List String) (t st' : Addr) (x' : UInt64) (h0 : Heap) (hn0 : n0 ≤ h0.size)  (Et : Exa Z h0 t "com/example/loads_to_headways/loadstoheadways/sim/Stranding") (hgt : n0 ≤ t) (F_boardingSeconds : Fld Z h0 t "com/example/loads_to_headways/loadstoheadways/sim/Stranding" "boardingSeconds" "D" (.double (0 : UInt64))) (F_station : Fld Z h0 t "com/example/loads_to_headways/loadstoheadways/sim/Stranding" "station" "Lcom/example/loads_to_headways/loadstoheadways/corridor/Station;" .null) (F_seconds : Fld Z h0 t "com/example/loads_to_headways/loadstoheadways/sim/Stranding" "seconds" "D" (.double (0 : UInt64))) (F_vehicleId : Fld Z h0 t "com/example/loads_to_headways/loadstoheadways/sim/Stranding" "vehicleId" "Ljava/lang/String;" .null) :
    Con l Z n0 Ts (Ts) (⟨"com/example/loads_to_headways/loadstoheadways/sim/Stranding", "<init>", "(Lcom/example/loads_to_headways/loadstoheadways/corridor/Station;D)V"⟩ : MethodName) prog_60_method_1_code 4 none ws ({ frames := 1, cells := 0, slots := 0, locals := 16 } : Room) #[(.ref t), (.ref st'), (.double x')] h0 (fun v h => v = none ∧ Keep h0 h [t] ∧ Sdg Z h t) := by
  refine con_start (plainFor_of_name (by first | (simp [plainName, overriddenIn]; done) | decide +kernel)) (fr0 := fun m => mkF m 0 #[.val (.ref t), .val (.ref st'), .val (.double x'), .second] []) (fun m => by first | (simp [entryFrame, mkF, argsToLocals, Value.category]; done) | rfl) ?_
  intro p e s m below meth c T0 hx hZ hby hml hown hnm hret hlk hsh XA
  have X0 := XA n0
  have hlow : n0 ≤ s.heap.size := by rw [hsh]; exact hn0
  replace hown : s.vm.findClass "com/example/loads_to_headways/loadstoheadways/sim/Stranding" = some m.cls := hown
  replace hml : c.maxLocals = 4 := hml
  refine g_aloadN X0 hx (pc' := 1) rfl (hD hby d20_0) rfl rfl ?_
  refine g_initO X0 hx hZ hown (wat hw 154 rfl) (wat hw 15 rfl) (wat hw 16 rfl) (by rw [hml]; rfl) (pc' := 4) rfl (hD hby d20_1) (by decide) (W := 0) (Nat.le_of_eq rfl) (by decide) (fun T209 X209 => ?_)
  show Go p e below s n0 _ _ _ (T209.setTop (mkF m 4 _ []))
  refine g_aloadN X209 hx (pc' := 5) rfl (hD hby d20_4) rfl rfl ?_
  refine g_ldc2D X209 hx hZ hown (wat hw 155 rfl) (pc' := 8) (v := (9221120237041090560 : UInt64)) rfl (hD hby d20_5) ?_
  refine g_putF X209 hx hZ hown (wat hw 156 rfl) Via.refl F_boardingSeconds Et (Or.inl (wat hw 157 rfl)) (wat hw 149 rfl) (ty := .double) (by decide) rfl rfl hgt (pc' := 11) rfl (hD hby d20_8) (fun T210 h210 X210 W210 => ?_)
  have f211 := (by have q := (Keep.of_wr W210).1; exact Nat.le_trans hn0 q : n0 ≤ h210.size)
  have f212 := (Keep.refl h0 [t]).wr W210 (Or.inl (List.mem_of_getElem? (i := 0) rfl))
  have f213 := Et.wr W210
  have f214 := F_boardingSeconds.same W210
  have f215 := F_station.other W210 (Or.inr (slot_ne (Or.inr (wat hw 159 rfl)) (Or.inl (wat hw 157 rfl)) (by decide) (t := (.object "com/example/loads_to_headways/loadstoheadways/corridor/Station")) (t' := .double) (by decide) (by decide)))
  have f216 := F_seconds.other W210 (Or.inr (slot_ne (Or.inr (wat hw 161 rfl)) (Or.inl (wat hw 157 rfl)) (by decide) (t := .double) (t' := .double) (by decide) (by decide)))
  have f217 := F_vehicleId.other W210 (Or.inr (slot_ne (Or.inl (wat hw 269 rfl)) (Or.inl (wat hw 157 rfl)) (by decide) (t := (.object "java/lang/String")) (t' := .double) (by decide) (by decide)))
  refine g_aloadN X210 hx (pc' := 12) rfl (hD hby d20_11) rfl rfl ?_
  refine g_aloadN X210 hx (pc' := 13) rfl (hD hby d20_12) rfl rfl ?_
  refine g_putF X210 hx hZ hown (wat hw 158 rfl) Via.refl f215 f213 (Or.inr ⟨(wat hw 159 rfl), rfl, hnm⟩) (wat hw 149 rfl) (ty := (.object "com/example/loads_to_headways/loadstoheadways/corridor/Station")) (by decide) rfl rfl hgt (pc' := 16) rfl (hD hby d20_13) (fun T218 h218 X218 W218 => ?_)
  have f219 := (by have q := (Keep.of_wr W218).1; exact Nat.le_trans f211 q : n0 ≤ h218.size)
  have f220 := f212.wr W218 (Or.inl (List.mem_of_getElem? (i := 0) rfl))
  have f221 := f213.wr W218
  have f222 := f214.other W218 (Or.inr (slot_ne (Or.inl (wat hw 157 rfl)) (Or.inr (wat hw 159 rfl)) (by decide) (t := .double) (t' := (.object "com/example/loads_to_headways/loadstoheadways/corridor/Station")) (by decide) (by decide)))
  have f223 := f215.same W218
  have f224 := f216.other W218 (Or.inr (slot_ne (Or.inr (wat hw 161 rfl)) (Or.inr (wat hw 159 rfl)) (by decide) (t := .double) (t' := (.object "com/example/loads_to_headways/loadstoheadways/corridor/Station")) (by decide) (by decide)))
  have f225 := f217.other W218 (Or.inr (slot_ne (Or.inl (wat hw 269 rfl)) (Or.inr (wat hw 159 rfl)) (by decide) (t := (.object "java/lang/String")) (t' := (.object "com/example/loads_to_headways/loadstoheadways/corridor/Station")) (by decide) (by decide)))
  refine g_aloadN X218 hx (pc' := 17) rfl (hD hby d20_16) rfl rfl ?_
  refine g_dloadN X218 hx (pc' := 18) rfl (hD hby d20_17) rfl ?_
  refine g_putF X218 hx hZ hown (wat hw 160 rfl) Via.refl f224 f221 (Or.inr ⟨(wat hw 161 rfl), rfl, hnm⟩) (wat hw 149 rfl) (ty := .double) (by decide) rfl rfl hgt (pc' := 21) rfl (hD hby d20_18) (fun T226 h226 X226 W226 => ?_)
  have f227 := (by have q := (Keep.of_wr W226).1; exact Nat.le_trans f219 q : n0 ≤ h226.size)
  have f228 := f220.wr W226 (Or.inl (List.mem_of_getElem? (i := 0) rfl))
  have f229 := f221.wr W226
  have f230 := f222.other W226 (Or.inr (slot_ne (Or.inl (wat hw 157 rfl)) (Or.inr (wat hw 161 rfl)) (by decide) (t := .double) (t' := .double) (by decide) (by decide)))
  have f231 := f223.other W226 (Or.inr (slot_ne (Or.inr (wat hw 159 rfl)) (Or.inr (wat hw 161 rfl)) (by decide) (t := (.object "com/example/loads_to_headways/loadstoheadways/corridor/Station")) (t' := .double) (by decide) (by decide)))
  have f232 := f224.same W226
  have f233 := f225.other W226 (Or.inr (slot_ne (Or.inl (wat hw 269 rfl)) (Or.inr (wat hw 161 rfl)) (by decide) (t := (.object "java/lang/String")) (t' := .double) (by decide) (by decide)))
  exact g_retV X226 hx hlk hret (hD hby d20_21) (by decide) (by decide) (Nat.le_refl _) (⟨rfl, f228, f229, ⟨_, f233⟩, _, f230⟩)
set_option maxRecDepth 65536 in
set_option maxHeartbeats 40000000 in
theorem rm37 (l : Launch) (Z : State) (a0 : Array Value) (hw : ∀ d ∈ tables_1, d.before a0 Z = true) (ws : List Jvm.Cond) (n0 : Nat) (Ts : List String) (t vr : Addr) (x' : UInt64) (h0 : Heap) (hn0 : n0 ≤ h0.size) (S0 : Sdg Z h0 t) (hgt : n0 ≤ t) :
    Con l Z n0 Ts (Ts) (⟨"com/example/loads_to_headways/loadstoheadways/sim/Stranding", "board", "(Ljava/lang/String;D)V"⟩ : MethodName) prog_60_method_6_code 4 none ws ({ frames := 0, cells := 0, slots := 0, locals := 0 } : Room) #[(.ref t), (.ref vr), (.double x')] h0 (fun v h => v = none ∧ Keep h0 h [t] ∧ Sdg Z h t) := by
  refine con_start (plainFor_of_name (by first | (simp [plainName, overriddenIn]; done) | decide +kernel)) (fr0 := fun m => mkF m 0 #[.val (.ref t), .val (.ref vr), .val (.double x'), .second] []) (fun m => by first | (simp [entryFrame, mkF, argsToLocals, Value.category]; done) | rfl) ?_
  intro p e s m below meth c T0 hx hZ hby hml hown hnm hret hlk hsh XA
  have X0 := XA n0
  have hlow : n0 ≤ s.heap.size := by rw [hsh]; exact hn0
  replace hown : s.vm.findClass "com/example/loads_to_headways/loadstoheadways/sim/Stranding" = some m.cls := hown
  replace hml : c.maxLocals = 4 := hml
  obtain ⟨Es, ⟨ov, Fo⟩, od, Fd⟩ := S0
  refine g_aloadN X0 hx (pc' := 1) rfl (hD hby d37_0) rfl rfl ?_
  refine g_aloadN X0 hx (pc' := 2) rfl (hD hby d37_1) rfl rfl ?_
  refine g_putF X0 hx hZ hown (wat hw 268 rfl) Via.refl Fo Es (Or.inl (wat hw 269 rfl)) (wat hw 149 rfl) (ty := (.object "java/lang/String")) (by decide) rfl rfl hgt (pc' := 5) rfl (hD hby d37_2) (fun T234 h234 X234 W234 => ?_)
  have f235 := (by have q := (Keep.of_wr W234).1; exact Nat.le_trans hn0 q : n0 ≤ h234.size)
  have f236 := (Keep.refl h0 [t]).wr W234 (Or.inl (List.mem_of_getElem? (i := 0) rfl))
  have f237 := Es.wr W234
  have f238 := Fo.same W234
  have f239 := Fd.other W234 (Or.inr (slot_ne (Or.inl (wat hw 157 rfl)) (Or.inl (wat hw 269 rfl)) (by decide) (t := .double) (t' := (.object "java/lang/String")) (by decide) (by decide)))
  refine g_aloadN X234 hx (pc' := 6) rfl (hD hby d37_5) rfl rfl ?_
  refine g_dloadN X234 hx (pc' := 7) rfl (hD hby d37_6) rfl ?_
  refine g_putF X234 hx hZ hown (wat hw 156 rfl) Via.refl f239 f237 (Or.inl (wat hw 157 rfl)) (wat hw 149 rfl) (ty := .double) (by decide) rfl rfl hgt (pc' := 10) rfl (hD hby d37_7) (fun T240 h240 X240 W240 => ?_)
  have f241 := (by have q := (Keep.of_wr W240).1; exact Nat.le_trans f235 q : n0 ≤ h240.size)
  have f242 := f236.wr W240 (Or.inl (List.mem_of_getElem? (i := 0) rfl))
  have f243 := f237.wr W240
  have f244 := f238.other W240 (Or.inr (slot_ne (Or.inl (wat hw 269 rfl)) (Or.inl (wat hw 157 rfl)) (by decide) (t := (.object "java/lang/String")) (t' := .double) (by decide) (by decide)))
  have f245 := f239.same W240
  exact g_retV X240 hx hlk hret (hD hby d37_10) (by decide) (by decide) (Nat.le_refl _) (⟨rfl, f242, f243, ⟨_, f244⟩, _, f245⟩)
set_option maxRecDepth 65536 in
set_option maxHeartbeats 40000000 in
theorem rm19 (l : Launch) (Z : State) (a0 : Array Value) (hw : ∀ d ∈ tables_1, d.before a0 Z = true) (ws : List Jvm.Cond) (n0 : Nat) (Ts : List String) (t : Addr) (h0 : Heap) (hn0 : n0 ≤ h0.size)  :
    Con l Z n0 Ts (Ts) (⟨"java/util/AbstractCollection", "<init>", "()V"⟩ : MethodName) jdk_22_method_1_code 1 none ws ({ frames := 1, cells := 0, slots := 0, locals := 16 } : Room) #[(.ref t)] h0 (fun v h => v = none ∧ h = h0) := by
  refine con_start (plainFor_of_name (by first | (simp [plainName, overriddenIn]; done) | decide +kernel)) (fr0 := fun m => mkF m 0 #[.val (.ref t)] []) (fun m => by first | (simp [entryFrame, mkF, argsToLocals, Value.category]; done) | rfl) ?_
  intro p e s m below meth c T0 hx hZ hby hml hown hnm hret hlk hsh XA
  have X0 := XA n0
  have hlow : n0 ≤ s.heap.size := by rw [hsh]; exact hn0
  replace hown : s.vm.findClass "java/util/AbstractCollection" = some m.cls := hown
  replace hml : c.maxLocals = 1 := hml
  refine g_aloadN X0 hx (pc' := 1) rfl (hD hby d19_0) rfl rfl ?_
  refine g_initO X0 hx hZ hown (wat hw 141 rfl) (wat hw 15 rfl) (wat hw 16 rfl) (by rw [hml]; rfl) (pc' := 4) rfl (hD hby d19_1) (by decide) (W := 0) (Nat.le_of_eq rfl) (by decide) (fun T246 X246 => ?_)
  show Go p e below s n0 _ _ _ (T246.setTop (mkF m 4 _ []))
  exact g_retV X246 hx hlk hret (hD hby d19_4) (by decide) (by decide) (Nat.le_refl _) (⟨rfl, rfl⟩)
set_option maxRecDepth 65536 in
set_option maxHeartbeats 40000000 in
theorem rm18 (l : Launch) (Z : State) (a0 : Array Value) (hw : ∀ d ∈ tables_1, d.before a0 Z = true) (ws : List Jvm.Cond) (n0 : Nat) (Ts : List String) (t : Addr) (h0 : Heap) (hn0 : n0 ≤ h0.size) (Et : Exa Z h0 t "java/util/ArrayList") (hgt : n0 ≤ t) (F_modCount : Fld Z h0 t "java/util/AbstractList" "modCount" "I" (.int 0)) (F_elementData : Fld Z h0 t "java/util/ArrayList" "elementData" "[Ljava/lang/Object;" .null) (F_size : Fld Z h0 t "java/util/ArrayList" "size" "I" (.int 0)) :
    Con l Z n0 Ts (Ts) (⟨"java/util/AbstractList", "<init>", "()V"⟩ : MethodName) jdk_39_method_1_code 1 none ws ({ frames := 2, cells := 0, slots := 0, locals := 32 } : Room) #[(.ref t)] h0 (fun v h => v = none ∧ Keep h0 h [t] ∧ Fld Z h t "java/util/AbstractList" "modCount" "I" (.int 0) ∧ Fld Z h t "java/util/ArrayList" "elementData" "[Ljava/lang/Object;" .null ∧ Fld Z h t "java/util/ArrayList" "size" "I" (.int 0) ∧ True) := by
  refine con_start (plainFor_of_name (by first | (simp [plainName, overriddenIn]; done) | decide +kernel)) (fr0 := fun m => mkF m 0 #[.val (.ref t)] []) (fun m => by first | (simp [entryFrame, mkF, argsToLocals, Value.category]; done) | rfl) ?_
  intro p e s m below meth c T0 hx hZ hby hml hown hnm hret hlk hsh XA
  have X0 := XA n0
  have hlow : n0 ≤ s.heap.size := by rw [hsh]; exact hn0
  replace hown : s.vm.findClass "java/util/AbstractList" = some m.cls := hown
  replace hml : c.maxLocals = 1 := hml
  refine g_aloadN X0 hx (pc' := 1) rfl (hD hby d18_0) rfl rfl ?_
  refine g_callI X0 hx hZ hown rfl (wat hw 135 rfl) (wat hw 136 rfl) (wat hw 139 rfl) (wat hw 140 rfl) (by decide) (a := t) (rm19 l Z a0 hw [] n0 (Ts) t h0 hn0 ) pd_7 rfl rfl (by rw [hml]; rfl) (pc' := 4) rfl (hD hby d18_1) (argsL := []) (rest := []) rfl (W := 0) (Nat.le_of_eq rfl) (by decide) (by decide) (by decide) (by decide) (fun v247 T247 h247 X247 hQ247 => ?_)
  obtain ⟨rfl, he247⟩ := hQ247
  rw [he247] at X247
  show Go p e below s n0 _ _ _ (T247.setTop (mkF m 4 _ []))
  refine g_aloadN X247 hx (pc' := 5) rfl (hD hby d18_4) rfl rfl ?_
  refine g_iconst X247 hx (pc' := 6) (z := (0 : Int32)) rfl (hD hby d18_5) rfl ?_
  refine g_putF X247 hx hZ hown (wat hw 142 rfl) Via.refl F_modCount Et (Or.inl (wat hw 143 rfl)) (wat hw 124 rfl) (ty := .int) (by decide) rfl rfl hgt (pc' := 9) rfl (hD hby d18_6) (fun T248 h248 X248 W248 => ?_)
  have f249 := (by have q := (Keep.of_wr W248).1; exact Nat.le_trans hn0 q : n0 ≤ h248.size)
  have f250 := (Keep.refl h0 [t]).wr W248 (Or.inl (List.mem_of_getElem? (i := 0) rfl))
  have f251 := Et.wr W248
  have f252 := F_modCount.same W248
  have f253 := F_elementData.other W248 (Or.inr (slot_ne (Or.inl (wat hw 147 rfl)) (Or.inl (wat hw 143 rfl)) (by decide) (t := (.array (.object "java/lang/Object"))) (t' := .int) (by decide) (by decide)))
  have f254 := F_size.other W248 (Or.inr (slot_ne (Or.inl (wat hw 174 rfl)) (Or.inl (wat hw 143 rfl)) (by decide) (t := .int) (t' := .int) (by decide) (by decide)))
  exact g_retV X248 hx hlk hret (hD hby d18_9) (by decide) (by decide) (Nat.le_refl _) (⟨rfl, f250, f252, f253, f254, trivial⟩)
set_option maxRecDepth 65536 in
set_option maxHeartbeats 40000000 in
theorem rm17 (l : Launch) (Z : State) (a0 : Array Value) (hw : ∀ d ∈ tables_1, d.before a0 Z = true) (ws : List Jvm.Cond) (n0 : Nat) (Ts : List String) (t : Addr) (h0 : Heap) (hn0 : n0 ≤ h0.size) (Et : Exa Z h0 t "java/util/ArrayList") (hgt : n0 ≤ t) (F_modCount : Fld Z h0 t "java/util/AbstractList" "modCount" "I" (.int 0)) (F_elementData : Fld Z h0 t "java/util/ArrayList" "elementData" "[Ljava/lang/Object;" .null) (F_size : Fld Z h0 t "java/util/ArrayList" "size" "I" (.int 0)) :
    Con l Z n0 Ts (Ts) (⟨"java/util/ArrayList", "<init>", "(I)V"⟩ : MethodName) jdk_38_method_1_code 2 none ws ({ frames := 3, cells := 1, slots := 1, locals := 48 } : Room) #[(.ref t), (.int 1)] h0 (fun v h => v = none ∧ Keep h0 h [t] ∧ ∃ ea, n0 ≤ ea ∧ h0.size ≤ ea ∧ AR Z h ea [.null] ∧ Exa Z h ea "[Ljava/lang/Object;" ∧ Fld Z h t "java/util/AbstractList" "modCount" "I" (.int 0) ∧ Fld Z h t "java/util/ArrayList" "elementData" "[Ljava/lang/Object;" (.ref ea) ∧ Fld Z h t "java/util/ArrayList" "size" "I" (.int 0)) := by
  refine con_start (plainFor_of_name (by first | (simp [plainName, overriddenIn]; done) | decide +kernel)) (fr0 := fun m => mkF m 0 #[.val (.ref t), .val (.int 1)] []) (fun m => by first | (simp [entryFrame, mkF, argsToLocals, Value.category]; done) | rfl) ?_
  intro p e s m below meth c T0 hx hZ hby hml hown hnm hret hlk hsh XA
  have X0 := XA n0
  have hlow : n0 ≤ s.heap.size := by rw [hsh]; exact hn0
  replace hown : s.vm.findClass "java/util/ArrayList" = some m.cls := hown
  replace hml : c.maxLocals = 2 := hml
  refine g_aloadN X0 hx (pc' := 1) rfl (hD hby d17_0) rfl rfl ?_
  refine g_callI X0 hx hZ hown rfl (wat hw 129 rfl) (wat hw 130 rfl) (wat hw 133 rfl) (wat hw 134 rfl) (by decide) (a := t) (rm18 l Z a0 hw [] n0 (Ts) t h0 hn0 Et hgt F_modCount F_elementData F_size) pd_7 rfl rfl (by rw [hml]; rfl) (pc' := 4) rfl (hD hby d17_1) (argsL := []) (rest := []) rfl (W := 0) (Nat.le_of_eq rfl) (by decide) (by decide) (by decide) (by decide) (fun v255 T255 h255 X255 hQ255 => ?_)
  obtain ⟨rfl, K255, m255, e255, s255, -⟩ := hQ255
  have f256 := (Keep.refl h0 [t]).trans K255 (allS (Or.inl (List.mem_of_getElem? (i := 0) rfl)) all0)
  have f257 := Et.keep K255
  have zs255 : n0 ≤ h255.size := Nat.le_trans hn0 K255.1
  show Go p e below s n0 _ _ _ (T255.setTop (mkF m 4 _ []))
  refine g_iloadN X255 hx (pc' := 5) rfl (hD hby d17_4) rfl ?_
  refine g_ifN X255 hx (pcN := 8) (hD hby d17_5) rfl (show ¬ (¬ 0 < (1 : Int32)) from by decide) ?_
  refine g_aloadN X255 hx (pc' := 9) rfl (hD hby d17_8) rfl rfl ?_
  refine g_iloadN X255 hx (pc' := 10) rfl (hD hby d17_9) rfl ?_
  refine g_newR X255 hx hZ hown (wat hw 144 rfl) (wat hw 145 rfl) (N := 1) (by decide) (cap := 1) (Nat.le_refl _) (by decide) (pc' := 13) rfl (hD hby d17_10) (by decide) (by decide) (fun T258 h258 a258 ha258 X258 E258 N258 EX258 => ?_)
  have ne258_t : t ≠ a258 := by rw [ha258]; exact Nat.ne_of_lt f257.lt
  have f259 := f257.ext E258
  have f260 := m255.ext E258
  have f261 := e255.ext E258
  have f262 := s255.ext E258
  have sz258 : h0.size ≤ a258 := by rw [ha258]; exact f256.1
  have f263 := f256.ext E258
  have G_a258 : n0 ≤ a258 := by rw [ha258]; exact zs255
  have Zs258 : n0 ≤ h258.size := Nat.le_trans zs255 E258.1
  have V258 : AR Z h258 a258 [.null] := N258
  refine g_putF X258 hx hZ hown (wat hw 146 rfl) Via.refl f261 f259 (Or.inl (wat hw 147 rfl)) (wat hw 124 rfl) (ty := (.array (.object "java/lang/Object"))) (by decide) rfl rfl hgt (pc' := 16) rfl (hD hby d17_13) (fun T264 h264 X264 W264 => ?_)
  have f265 := (by have q := (Keep.of_wr W264).1; exact Nat.le_trans Zs258 q : n0 ≤ h264.size)
  have f266 := f263.wr W264 (Or.inl (List.mem_of_getElem? (i := 0) rfl))
  have f267 := f259.wr W264
  have f268 := f260.other W264 (Or.inr (slot_ne (Or.inl (wat hw 143 rfl)) (Or.inl (wat hw 147 rfl)) (by decide) (t := .int) (t' := (.array (.object "java/lang/Object"))) (by decide) (by decide)))
  have f269 := f261.same W264
  have f270 := f262.other W264 (Or.inr (slot_ne (Or.inl (wat hw 174 rfl)) (Or.inl (wat hw 147 rfl)) (by decide) (t := .int) (t' := (.array (.object "java/lang/Object"))) (by decide) (by decide)))
  have f271 := V258.other W264 ne258_t.symm
  have f272 := EX258.wr W264
  refine g_goto X264 hx (pc' := 60) (hD hby d17_16) (by decide) (by decide) ?_
  exact g_retV X264 hx hlk hret (hD hby d17_60) (by decide) (by decide) (Nat.le_refl _) (⟨rfl, f266, a258, G_a258, sz258, f271, f272, f268, f269, f270⟩)
set_option maxRecDepth 65536 in
set_option maxHeartbeats 40000000 in
theorem rm24_1 (l : Launch) (Z : State) (a0 : Array Value) (hw : ∀ d ∈ tables_1, d.before a0 Z = true) (ws : List Jvm.Cond) (n0 : Nat) (Ts : List String) (t : Addr) (h0 : Heap) (hn0 : n0 ≤ h0.size) (Fs : Fld Z h0 t "java/util/ArrayList" "size" "I" (.int 1)) :
    Con l Z n0 Ts (Ts) (⟨"java/util/ArrayList", "isEmpty", "()Z"⟩ : MethodName) jdk_38_method_9_code 1 (some .boolean) ws ({ frames := 0, cells := 0, slots := 0, locals := 0 } : Room) #[(.ref t)] h0 (fun v h => v = some (.int 0) ∧ h = h0) := by
  refine con_start (plainFor_of_name (by first | (simp [plainName, overriddenIn]; done) | decide +kernel)) (fr0 := fun m => mkF m 0 #[.val (.ref t)] []) (fun m => by first | (simp [entryFrame, mkF, argsToLocals, Value.category]; done) | rfl) ?_
  intro p e s m below meth c T0 hx hZ hby hml hown hnm hret hlk hsh XA
  have X0 := XA n0
  have hlow : n0 ≤ s.heap.size := by rw [hsh]; exact hn0
  replace hown : s.vm.findClass "java/util/ArrayList" = some m.cls := hown
  replace hml : c.maxLocals = 1 := hml
  refine g_aloadN X0 hx (pc' := 1) rfl (hD hby d24_0) rfl rfl ?_
  refine g_getF X0 hx hZ hown (wat hw 173 rfl) Via.refl Fs (pc' := 4) rfl (hD hby d24_1) (fun T273 X273 => ?_)
  refine g_ifY X273 hx (pcY := 11) (hD hby d24_4) (by decide) (by decide) (show ¬ (1 : Int32) = 0 from by decide) ?_
  refine g_iconst X273 hx (pc' := 12) (z := (0 : Int32)) rfl (hD hby d24_11) rfl ?_
  exact g_retZ X273 hx hlk hret (by first | exact Or.inl rfl | exact Or.inr rfl) (hD hby d24_12) (by decide) (by decide) (Nat.le_refl _) (⟨rfl, rfl⟩)
set_option maxRecDepth 65536 in
set_option maxHeartbeats 40000000 in
theorem rm32_1 (l : Launch) (Z : State) (a0 : Array Value) (hw : ∀ d ∈ tables_1, d.before a0 Z = true) (ws : List Jvm.Cond) (n0 : Nat) (Ts : List String) (t : Addr) (h0 : Heap) (hn0 : n0 ≤ h0.size) (Fs : Fld Z h0 t "java/util/ArrayList" "size" "I" (.int 1)) :
    Con l Z n0 Ts (Ts) (⟨"java/util/ArrayList", "size", "()I"⟩ : MethodName) jdk_38_method_8_code 1 (some .int) ws ({ frames := 0, cells := 0, slots := 0, locals := 0 } : Room) #[(.ref t)] h0 (fun v h => v = some (.int 1) ∧ h = h0) := by
  refine con_start (plainFor_of_name (by first | (simp [plainName, overriddenIn]; done) | decide +kernel)) (fr0 := fun m => mkF m 0 #[.val (.ref t)] []) (fun m => by first | (simp [entryFrame, mkF, argsToLocals, Value.category]; done) | rfl) ?_
  intro p e s m below meth c T0 hx hZ hby hml hown hnm hret hlk hsh XA
  have X0 := XA n0
  have hlow : n0 ≤ s.heap.size := by rw [hsh]; exact hn0
  replace hown : s.vm.findClass "java/util/ArrayList" = some m.cls := hown
  replace hml : c.maxLocals = 1 := hml
  refine g_aloadN X0 hx (pc' := 1) rfl (hD hby d32_0) rfl rfl ?_
  refine g_getF X0 hx hZ hown (wat hw 173 rfl) Via.refl Fs (pc' := 4) rfl (hD hby d32_1) (fun T274 X274 => ?_)
  exact g_retI X274 hx hlk hret (hD hby d32_4) (by decide) (by decide) (Nat.le_refl _) (⟨rfl, rfl⟩)
set_option maxRecDepth 65536 in
set_option maxHeartbeats 40000000 in
theorem rm24_2 (l : Launch) (Z : State) (a0 : Array Value) (hw : ∀ d ∈ tables_1, d.before a0 Z = true) (ws : List Jvm.Cond) (n0 : Nat) (Ts : List String) (t : Addr) (h0 : Heap) (hn0 : n0 ≤ h0.size) (Fs : Fld Z h0 t "java/util/ArrayList" "size" "I" (.int 2)) :
    Con l Z n0 Ts (Ts) (⟨"java/util/ArrayList", "isEmpty", "()Z"⟩ : MethodName) jdk_38_method_9_code 1 (some .boolean) ws ({ frames := 0, cells := 0, slots := 0, locals := 0 } : Room) #[(.ref t)] h0 (fun v h => v = some (.int 0) ∧ h = h0) := by
  refine con_start (plainFor_of_name (by first | (simp [plainName, overriddenIn]; done) | decide +kernel)) (fr0 := fun m => mkF m 0 #[.val (.ref t)] []) (fun m => by first | (simp [entryFrame, mkF, argsToLocals, Value.category]; done) | rfl) ?_
  intro p e s m below meth c T0 hx hZ hby hml hown hnm hret hlk hsh XA
  have X0 := XA n0
  have hlow : n0 ≤ s.heap.size := by rw [hsh]; exact hn0
  replace hown : s.vm.findClass "java/util/ArrayList" = some m.cls := hown
  replace hml : c.maxLocals = 1 := hml
  refine g_aloadN X0 hx (pc' := 1) rfl (hD hby d24_0) rfl rfl ?_
  refine g_getF X0 hx hZ hown (wat hw 173 rfl) Via.refl Fs (pc' := 4) rfl (hD hby d24_1) (fun T275 X275 => ?_)
  refine g_ifY X275 hx (pcY := 11) (hD hby d24_4) (by decide) (by decide) (show ¬ (2 : Int32) = 0 from by decide) ?_
  refine g_iconst X275 hx (pc' := 12) (z := (0 : Int32)) rfl (hD hby d24_11) rfl ?_
  exact g_retZ X275 hx hlk hret (by first | exact Or.inl rfl | exact Or.inr rfl) (hD hby d24_12) (by decide) (by decide) (Nat.le_refl _) (⟨rfl, rfl⟩)
set_option maxRecDepth 65536 in
set_option maxHeartbeats 40000000 in
theorem rm32_2 (l : Launch) (Z : State) (a0 : Array Value) (hw : ∀ d ∈ tables_1, d.before a0 Z = true) (ws : List Jvm.Cond) (n0 : Nat) (Ts : List String) (t : Addr) (h0 : Heap) (hn0 : n0 ≤ h0.size) (Fs : Fld Z h0 t "java/util/ArrayList" "size" "I" (.int 2)) :
    Con l Z n0 Ts (Ts) (⟨"java/util/ArrayList", "size", "()I"⟩ : MethodName) jdk_38_method_8_code 1 (some .int) ws ({ frames := 0, cells := 0, slots := 0, locals := 0 } : Room) #[(.ref t)] h0 (fun v h => v = some (.int 2) ∧ h = h0) := by
  refine con_start (plainFor_of_name (by first | (simp [plainName, overriddenIn]; done) | decide +kernel)) (fr0 := fun m => mkF m 0 #[.val (.ref t)] []) (fun m => by first | (simp [entryFrame, mkF, argsToLocals, Value.category]; done) | rfl) ?_
  intro p e s m below meth c T0 hx hZ hby hml hown hnm hret hlk hsh XA
  have X0 := XA n0
  have hlow : n0 ≤ s.heap.size := by rw [hsh]; exact hn0
  replace hown : s.vm.findClass "java/util/ArrayList" = some m.cls := hown
  replace hml : c.maxLocals = 1 := hml
  refine g_aloadN X0 hx (pc' := 1) rfl (hD hby d32_0) rfl rfl ?_
  refine g_getF X0 hx hZ hown (wat hw 173 rfl) Via.refl Fs (pc' := 4) rfl (hD hby d32_1) (fun T276 X276 => ?_)
  exact g_retI X276 hx hlk hret (hD hby d32_4) (by decide) (by decide) (Nat.le_refl _) (⟨rfl, rfl⟩)
set_option maxRecDepth 65536 in
set_option maxHeartbeats 40000000 in
theorem rm16 (l : Launch) (Z : State) (a0 : Array Value) (hw : ∀ d ∈ tables_1, d.before a0 Z = true) (ws : List Jvm.Cond) (n0 : Nat) (Ts : List String) (t ee : Addr) (h0 : Heap) (hn0 : n0 ≤ h0.size) (Fe : Fld Z h0 t "java/util/ImmutableCollections$ListN" "elements" "[Ljava/lang/Object;" (.ref ee)) (Ae : AV Z h0 ee (.object "java/lang/Object") []) :
    Con l Z n0 Ts (Ts) (⟨"java/util/ImmutableCollections$ListN", "isEmpty", "()Z"⟩ : MethodName) jdk_45_method_2_code 1 (some .boolean) ws ({ frames := 0, cells := 0, slots := 0, locals := 0 } : Room) #[(.ref t)] h0 (fun v h => v = some (.int 1) ∧ h = h0) := by
  refine con_start (plainFor_of_name (by first | (simp [plainName, overriddenIn]; done) | decide +kernel)) (fr0 := fun m => mkF m 0 #[.val (.ref t)] []) (fun m => by first | (simp [entryFrame, mkF, argsToLocals, Value.category]; done) | rfl) ?_
  intro p e s m below meth c T0 hx hZ hby hml hown hnm hret hlk hsh XA
  have X0 := XA n0
  have hlow : n0 ≤ s.heap.size := by rw [hsh]; exact hn0
  replace hown : s.vm.findClass "java/util/ImmutableCollections$ListN" = some m.cls := hown
  replace hml : c.maxLocals = 1 := hml
  refine g_aloadN X0 hx (pc' := 1) rfl (hD hby d16_0) rfl rfl ?_
  refine g_getF X0 hx hZ hown (wat hw 121 rfl) Via.refl Fe (pc' := 4) rfl (hD hby d16_1) (fun T277 X277 => ?_)
  refine g_alen X277 hx hZ Ae (z := (0 : Int32)) rfl (pc' := 5) rfl (hD hby d16_4) ?_
  refine g_ifN X277 hx (pcN := 8) (hD hby d16_5) rfl (show ¬ (¬ (0 : Int32) = 0) from by decide) ?_
  refine g_iconst X277 hx (pc' := 9) (z := (1 : Int32)) rfl (hD hby d16_8) rfl ?_
  refine g_goto X277 hx (pc' := 13) (hD hby d16_9) (by decide) (by decide) ?_
  exact g_retZ X277 hx hlk hret (by first | exact Or.inl rfl | exact Or.inr rfl) (hD hby d16_13) (by decide) (by decide) (Nat.le_refl _) (⟨rfl, rfl⟩)
set_option maxRecDepth 65536 in
set_option maxHeartbeats 40000000 in
theorem rm28 (l : Launch) (Z : State) (a0 : Array Value) (hw : ∀ d ∈ tables_1, d.before a0 Z = true) (ws : List Jvm.Cond) (n0 : Nat) (Ts : List String)  (h0 : Heap) (hn0 : n0 ≤ h0.size)  :
    Con l Z n0 Ts (Ts) (⟨"java/lang/Math", "max", "(II)I"⟩ : MethodName) jdk_29_method_65_code 2 (some .int) ws ({ frames := 0, cells := 0, slots := 0, locals := 0 } : Room) #[(.int 1), (.int 0)] h0 (fun v h => v = some (.int 1) ∧ h = h0) := by
  refine con_start (Jvm.Free.JP.mathPlain rfl (by decide +kernel)) (fr0 := fun m => mkF m 0 #[.val (.int 1), .val (.int 0)] []) (fun m => by first | (simp [entryFrame, mkF, argsToLocals, Value.category]; done) | rfl) ?_
  intro p e s m below meth c T0 hx hZ hby hml hown hnm hret hlk hsh XA
  have X0 := XA n0
  have hlow : n0 ≤ s.heap.size := by rw [hsh]; exact hn0
  replace hown : s.vm.findClass "java/lang/Math" = some m.cls := hown
  replace hml : c.maxLocals = 2 := hml
  refine g_iloadN X0 hx (pc' := 1) rfl (hD hby d28_0) rfl ?_
  refine g_iloadN X0 hx (pc' := 2) rfl (hD hby d28_1) rfl ?_
  refine g_icmpN X0 hx (pcN := 5) (hD hby d28_2) rfl (show ¬ ((1 : Int32) < (0 : Int32)) from by decide) ?_
  refine g_iloadN X0 hx (pc' := 6) rfl (hD hby d28_5) rfl ?_
  refine g_goto X0 hx (pc' := 10) (hD hby d28_6) (by decide) (by decide) ?_
  exact g_retI X0 hx hlk hret (hD hby d28_10) (by decide) (by decide) (Nat.le_refl _) (⟨rfl, rfl⟩)
set_option maxRecDepth 65536 in
set_option maxHeartbeats 40000000 in
theorem rm31 (l : Launch) (Z : State) (a0 : Array Value) (hw : ∀ d ∈ tables_1, d.before a0 Z = true) (ws : List Jvm.Cond) (n0 : Nat) (Ts : List String)  (h0 : Heap) (hn0 : n0 ≤ h0.size)  :
    Con l Z n0 Ts (Ts) (⟨"java/lang/Math", "min", "(II)I"⟩ : MethodName) jdk_29_method_69_code 2 (some .int) ws ({ frames := 0, cells := 0, slots := 0, locals := 0 } : Room) #[(.int 1), (.int 2)] h0 (fun v h => v = some (.int 1) ∧ h = h0) := by
  refine con_start (Jvm.Free.JP.mathPlain rfl (by decide +kernel)) (fr0 := fun m => mkF m 0 #[.val (.int 1), .val (.int 2)] []) (fun m => by first | (simp [entryFrame, mkF, argsToLocals, Value.category]; done) | rfl) ?_
  intro p e s m below meth c T0 hx hZ hby hml hown hnm hret hlk hsh XA
  have X0 := XA n0
  have hlow : n0 ≤ s.heap.size := by rw [hsh]; exact hn0
  replace hown : s.vm.findClass "java/lang/Math" = some m.cls := hown
  replace hml : c.maxLocals = 2 := hml
  refine g_iloadN X0 hx (pc' := 1) rfl (hD hby d31_0) rfl ?_
  refine g_iloadN X0 hx (pc' := 2) rfl (hD hby d31_1) rfl ?_
  refine g_icmpN X0 hx (pcN := 5) (hD hby d31_2) rfl (show ¬ ((2 : Int32) < (1 : Int32)) from by decide) ?_
  refine g_iloadN X0 hx (pc' := 6) rfl (hD hby d31_5) rfl ?_
  refine g_goto X0 hx (pc' := 10) (hD hby d31_6) (by decide) (by decide) ?_
  exact g_retI X0 hx hlk hret (hD hby d31_10) (by decide) (by decide) (Nat.le_refl _) (⟨rfl, rfl⟩)
set_option maxRecDepth 65536 in
set_option maxHeartbeats 40000000 in
theorem rm27 (l : Launch) (Z : State) (a0 : Array Value) (hw : ∀ d ∈ tables_1, d.before a0 Z = true) (ws : List Jvm.Cond) (n0 : Nat) (Ts : List String)  (h0 : Heap) (hn0 : n0 ≤ h0.size)  :
    Con l Z n0 Ts (Ts) (⟨"jdk/internal/util/ArraysSupport", "newLength", "(III)I"⟩ : MethodName) jdk_48_method_27_code 4 (some .int) ws ({ frames := 1, cells := 0, slots := 0, locals := 16 } : Room) #[(.int 1), (.int 1), (.int 0)] h0 (fun v h => v = some (.int 2) ∧ h = h0) := by
  refine con_start (plainFor_of_name (by first | (simp [plainName, overriddenIn]; done) | decide +kernel)) (fr0 := fun m => mkF m 0 #[.val (.int 1), .val (.int 1), .val (.int 0), .unset] []) (fun m => by first | (simp [entryFrame, mkF, argsToLocals, Value.category]; done) | rfl) ?_
  intro p e s m below meth c T0 hx hZ hby hml hown hnm hret hlk hsh XA
  have X0 := XA n0
  have hlow : n0 ≤ s.heap.size := by rw [hsh]; exact hn0
  replace hown : s.vm.findClass "jdk/internal/util/ArraysSupport" = some m.cls := hown
  replace hml : c.maxLocals = 4 := hml
  refine g_iloadN X0 hx (pc' := 1) rfl (hD hby d27_0) rfl ?_
  refine g_iloadN X0 hx (pc' := 2) rfl (hD hby d27_1) rfl ?_
  refine g_iloadN X0 hx (pc' := 3) rfl (hD hby d27_2) rfl ?_
  refine g_callS X0 hx hZ hown (wat hw 206 rfl) (wat hw 207 rfl) (wat hw 36 rfl) (wat hw 208 rfl) (by decide) (rm28 l Z a0 hw [] n0 (Ts)  h0 hn0 ) pd_8 rfl rfl (by rw [hml]; rfl) (pc' := 6) rfl (hD hby d27_3) (argsL := [(.int 1), (.int 0)]) (rest := [(.int 1)]) rfl (W := 1) (Nat.le_of_eq rfl) (by decide) (by decide) (by decide) (by decide) (fun v278 T278 h278 X278 hQ278 => ?_)
  obtain ⟨rfl, he278⟩ := hQ278
  rw [he278] at X278
  show Go p e below s n0 _ _ _ (T278.setTop (mkF m 6 _ [(.int 1), (.int 1)]))
  refine g_iadd X278 hx (pc' := 7) rfl (hD hby d27_6) ?_
  refine g_normI (z := (2 : Int32)) (by decide) ?_
  refine g_istoreN X278 hx (pc' := 8) rfl (hD hby d27_7) (l' := #[.val (.int 1), .val (.int 1), .val (.int 0), .val (.int 2)]) rfl ?_
  refine g_iconst X278 hx (pc' := 9) (z := (0 : Int32)) rfl (hD hby d27_8) rfl ?_
  refine g_iloadN X278 hx (pc' := 10) rfl (hD hby d27_9) rfl ?_
  refine g_icmpN X278 hx (pcN := 13) (hD hby d27_10) rfl (show ¬ (¬ (0 : Int32) < (2 : Int32)) from by decide) ?_
  refine g_iloadN X278 hx (pc' := 14) rfl (hD hby d27_13) rfl ?_
  refine g_ldcI X278 hx hZ hown (wat hw 209 rfl) (pc' := 16) (v := (2147483639 : Int32)) rfl (hD hby d27_14) ?_
  refine g_icmpN X278 hx (pcN := 19) (hD hby d27_16) rfl (show ¬ ((2147483639 : Int32) < (2 : Int32)) from by decide) ?_
  refine g_iloadN X278 hx (pc' := 20) rfl (hD hby d27_19) rfl ?_
  exact g_retI X278 hx hlk hret (hD hby d27_20) (by decide) (by decide) (Nat.le_refl _) (⟨rfl, rfl⟩)
set_option maxRecDepth 65536 in
set_option maxHeartbeats 40000000 in
theorem rm35_1 (l : Launch) (Z : State) (a0 : Array Value) (hw : ∀ d ∈ tables_1, d.before a0 Z = true) (ws : List Jvm.Cond) (n0 : Nat) (Ts : List String)  (h0 : Heap) (hn0 : n0 ≤ h0.size)  :
    Con l Z n0 Ts (Ts) (⟨"jdk/internal/util/Preconditions", "checkIndex", "(IILjava/util/function/BiFunction;)I"⟩ : MethodName) jdk_41_method_11_code 3 (some .int) ws ({ frames := 0, cells := 0, slots := 0, locals := 0 } : Room) #[(.int 0), (.int 1), .null] h0 (fun v h => v = some (.int 0) ∧ h = h0) := by
  refine con_start (plainFor_of_name (by first | (simp [plainName, overriddenIn]; done) | decide +kernel)) (fr0 := fun m => mkF m 0 #[.val (.int 0), .val (.int 1), .val .null] []) (fun m => by first | (simp [entryFrame, mkF, argsToLocals, Value.category]; done) | rfl) ?_
  intro p e s m below meth c T0 hx hZ hby hml hown hnm hret hlk hsh XA
  have X0 := XA n0
  have hlow : n0 ≤ s.heap.size := by rw [hsh]; exact hn0
  replace hown : s.vm.findClass "jdk/internal/util/Preconditions" = some m.cls := hown
  replace hml : c.maxLocals = 3 := hml
  refine g_iloadN X0 hx (pc' := 1) rfl (hD hby d35_0) rfl ?_
  refine g_ifN X0 hx (pcN := 4) (hD hby d35_1) rfl (show ¬ ((0 : Int32) < 0) from by decide) ?_
  refine g_iloadN X0 hx (pc' := 5) rfl (hD hby d35_4) rfl ?_
  refine g_iloadN X0 hx (pc' := 6) rfl (hD hby d35_5) rfl ?_
  refine g_icmpY X0 hx (pcY := 16) (hD hby d35_6) (by decide) (by decide) (show (0 : Int32) < (1 : Int32) from by decide) ?_
  refine g_iloadN X0 hx (pc' := 17) rfl (hD hby d35_16) rfl ?_
  exact g_retI X0 hx hlk hret (hD hby d35_17) (by decide) (by decide) (Nat.le_refl _) (⟨rfl, rfl⟩)
set_option maxRecDepth 65536 in
set_option maxHeartbeats 40000000 in
theorem rm34_1 (l : Launch) (Z : State) (a0 : Array Value) (hw : ∀ d ∈ tables_1, d.before a0 Z = true) (ws : List Jvm.Cond) (n0 : Nat) (Ts : List String)  (h0 : Heap) (hn0 : n0 ≤ h0.size)  :
    Con l Z n0 Ts (Ts) (⟨"java/util/Objects", "checkIndex", "(II)I"⟩ : MethodName) jdk_31_method_17_code 2 (some .int) ws ({ frames := 1, cells := 0, slots := 0, locals := 16 } : Room) #[(.int 0), (.int 1)] h0 (fun v h => v = some (.int 0) ∧ h = h0) := by
  refine con_start (plainFor_of_name (by first | (simp [plainName, overriddenIn]; done) | decide +kernel)) (fr0 := fun m => mkF m 0 #[.val (.int 0), .val (.int 1)] []) (fun m => by first | (simp [entryFrame, mkF, argsToLocals, Value.category]; done) | rfl) ?_
  intro p e s m below meth c T0 hx hZ hby hml hown hnm hret hlk hsh XA
  have X0 := XA n0
  have hlow : n0 ≤ s.heap.size := by rw [hsh]; exact hn0
  replace hown : s.vm.findClass "java/util/Objects" = some m.cls := hown
  replace hml : c.maxLocals = 2 := hml
  refine g_iloadN X0 hx (pc' := 1) rfl (hD hby d34_0) rfl ?_
  refine g_iloadN X0 hx (pc' := 2) rfl (hD hby d34_1) rfl ?_
  refine g_aconst_null X0 hx (pc' := 3) rfl (hD hby d34_2) ?_
  refine g_callS X0 hx hZ hown (wat hw 253 rfl) (wat hw 254 rfl) (wat hw 255 rfl) (wat hw 256 rfl) (by decide) (rm35_1 l Z a0 hw [] n0 (Ts)  h0 hn0 ) pd_9 rfl rfl (by rw [hml]; rfl) (pc' := 6) rfl (hD hby d34_3) (argsL := [(.int 0), (.int 1), .null]) (rest := []) rfl (W := 0) (Nat.le_of_eq rfl) (by decide) (by decide) (by decide) (by decide) (fun v279 T279 h279 X279 hQ279 => ?_)
  obtain ⟨rfl, he279⟩ := hQ279
  rw [he279] at X279
  show Go p e below s n0 _ _ _ (T279.setTop (mkF m 6 _ [(.int 0)]))
  exact g_retI X279 hx hlk hret (hD hby d34_6) (by decide) (by decide) (Nat.le_refl _) (⟨rfl, rfl⟩)
set_option maxRecDepth 65536 in
set_option maxHeartbeats 40000000 in
theorem rm36_1 (l : Launch) (Z : State) (a0 : Array Value) (hw : ∀ d ∈ tables_1, d.before a0 Z = true) (ws : List Jvm.Cond) (n0 : Nat) (Ts : List String) (t ea s1 : Addr) (h0 : Heap) (hn0 : n0 ≤ h0.size) (Fe : Fld Z h0 t "java/util/ArrayList" "elementData" "[Ljava/lang/Object;" (.ref ea)) (Ae : AR Z h0 ea [(.ref s1)]) :
    Con l Z n0 Ts (Ts) (⟨"java/util/ArrayList", "elementData", "(I)Ljava/lang/Object;"⟩ : MethodName) jdk_38_method_18_code 2 (some (.object "java/lang/Object")) ws ({ frames := 0, cells := 0, slots := 0, locals := 0 } : Room) #[(.ref t), (.int 0)] h0 (fun v h => v = some (.ref s1) ∧ h = h0) := by
  refine con_start (plainFor_of_name (by first | (simp [plainName, overriddenIn]; done) | decide +kernel)) (fr0 := fun m => mkF m 0 #[.val (.ref t), .val (.int 0)] []) (fun m => by first | (simp [entryFrame, mkF, argsToLocals, Value.category]; done) | rfl) ?_
  intro p e s m below meth c T0 hx hZ hby hml hown hnm hret hlk hsh XA
  have X0 := XA n0
  have hlow : n0 ≤ s.heap.size := by rw [hsh]; exact hn0
  replace hown : s.vm.findClass "java/util/ArrayList" = some m.cls := hown
  replace hml : c.maxLocals = 2 := hml
  refine g_aloadN X0 hx (pc' := 1) rfl (hD hby d36_0) rfl rfl ?_
  refine g_getF X0 hx hZ hown (wat hw 146 rfl) Via.refl Fe (pc' := 4) rfl (hD hby d36_1) (fun T280 X280 => ?_)
  refine g_iloadN X280 hx (pc' := 5) rfl (hD hby d36_4) rfl ?_
  refine g_aaload X280 hx hZ Ae (i := 0) (by decide) (show (0 : Nat) < 1 by decide) (v := (.ref s1)) rfl (pc' := 6) rfl (hD hby d36_5) ?_
  exact g_ret X280 hx hlk hret rfl (Or.inr (Or.inr (Or.inr (Or.inr ⟨rfl, rfl, rfl⟩)))) (hD hby d36_6) (by decide) (by decide) (Nat.le_refl _) (⟨rfl, rfl⟩)
set_option maxRecDepth 65536 in
set_option maxHeartbeats 40000000 in
theorem rm33_1 (l : Launch) (Z : State) (a0 : Array Value) (hw : ∀ d ∈ tables_1, d.before a0 Z = true) (ws : List Jvm.Cond) (n0 : Nat) (Ts : List String) (t ea s1 : Addr) (h0 : Heap) (hn0 : n0 ≤ h0.size) (Et : Exa Z h0 t "java/util/ArrayList") (Fs : Fld Z h0 t "java/util/ArrayList" "size" "I" (.int 1)) (Fe : Fld Z h0 t "java/util/ArrayList" "elementData" "[Ljava/lang/Object;" (.ref ea)) (Ae : AR Z h0 ea [(.ref s1)]) :
    Con l Z n0 Ts (Ts) (⟨"java/util/ArrayList", "get", "(I)Ljava/lang/Object;"⟩ : MethodName) jdk_38_method_20_code 2 (some (.object "java/lang/Object")) ws ({ frames := 2, cells := 0, slots := 0, locals := 48 } : Room) #[(.ref t), (.int 0)] h0 (fun v h => v = some (.ref s1) ∧ h = h0) := by
  refine con_start (plainFor_of_name (by first | (simp [plainName, overriddenIn]; done) | decide +kernel)) (fr0 := fun m => mkF m 0 #[.val (.ref t), .val (.int 0)] []) (fun m => by first | (simp [entryFrame, mkF, argsToLocals, Value.category]; done) | rfl) ?_
  intro p e s m below meth c T0 hx hZ hby hml hown hnm hret hlk hsh XA
  have X0 := XA n0
  have hlow : n0 ≤ s.heap.size := by rw [hsh]; exact hn0
  replace hown : s.vm.findClass "java/util/ArrayList" = some m.cls := hown
  replace hml : c.maxLocals = 2 := hml
  refine g_iloadN X0 hx (pc' := 1) rfl (hD hby d33_0) rfl ?_
  refine g_aloadN X0 hx (pc' := 2) rfl (hD hby d33_1) rfl rfl ?_
  refine g_getF X0 hx hZ hown (wat hw 173 rfl) Via.refl Fs (pc' := 5) rfl (hD hby d33_2) (fun T281 X281 => ?_)
  refine g_callS X281 hx hZ hown (wat hw 250 rfl) (wat hw 251 rfl) (wat hw 20 rfl) (wat hw 252 rfl) (by decide) (rm34_1 l Z a0 hw [] n0 (Ts)  h0 hn0 ) pd_8 rfl rfl (by rw [hml]; rfl) (pc' := 8) rfl (hD hby d33_5) (argsL := [(.int 0), (.int 1)]) (rest := []) rfl (W := 0) (Nat.le_of_eq rfl) (by decide) (by decide) (by decide) (by decide) (fun v282 T282 h282 X282 hQ282 => ?_)
  obtain ⟨rfl, he282⟩ := hQ282
  rw [he282] at X282
  show Go p e below s n0 _ _ _ (T282.setTop (mkF m 8 _ [(.int 0)]))
  refine g_pop X282 hx (pc' := 9) rfl (hD hby d33_8) rfl ?_
  refine g_aloadN X282 hx (pc' := 10) rfl (hD hby d33_9) rfl rfl ?_
  refine g_iloadN X282 hx (pc' := 11) rfl (hD hby d33_10) rfl ?_
  refine g_callV X282 hx hZ hown (wat hw 257 rfl) (wat hw 258 rfl) (wat hw 260 rfl) (wat hw 259 rfl) (wat hw 125 rfl) (wat hw 261 rfl) (by decide) (a := t) Et (rm36_1 l Z a0 hw [] n0 (Ts) t ea s1 h0 hn0 Fe Ae) pd_10 rfl rfl (by rw [hml]; rfl) (pc' := 14) rfl (hD hby d33_11) (argsL := [(.int 0)]) (rest := []) rfl (W := 0) (Nat.le_of_eq rfl) (by decide) (by decide) (by decide) (by decide) (fun v283 T283 h283 X283 hQ283 => ?_)
  obtain ⟨rfl, he283⟩ := hQ283
  rw [he283] at X283
  show Go p e below s n0 _ _ _ (T283.setTop (mkF m 14 _ [(.ref s1)]))
  exact g_ret X283 hx hlk hret rfl (Or.inr (Or.inr (Or.inr (Or.inr ⟨rfl, rfl, rfl⟩)))) (hD hby d33_14) (by decide) (by decide) (Nat.le_refl _) (⟨rfl, rfl⟩)
set_option maxRecDepth 65536 in
set_option maxHeartbeats 40000000 in
theorem rm35_2 (l : Launch) (Z : State) (a0 : Array Value) (hw : ∀ d ∈ tables_1, d.before a0 Z = true) (ws : List Jvm.Cond) (n0 : Nat) (Ts : List String)  (h0 : Heap) (hn0 : n0 ≤ h0.size)  :
    Con l Z n0 Ts (Ts) (⟨"jdk/internal/util/Preconditions", "checkIndex", "(IILjava/util/function/BiFunction;)I"⟩ : MethodName) jdk_41_method_11_code 3 (some .int) ws ({ frames := 0, cells := 0, slots := 0, locals := 0 } : Room) #[(.int 1), (.int 2), .null] h0 (fun v h => v = some (.int 1) ∧ h = h0) := by
  refine con_start (plainFor_of_name (by first | (simp [plainName, overriddenIn]; done) | decide +kernel)) (fr0 := fun m => mkF m 0 #[.val (.int 1), .val (.int 2), .val .null] []) (fun m => by first | (simp [entryFrame, mkF, argsToLocals, Value.category]; done) | rfl) ?_
  intro p e s m below meth c T0 hx hZ hby hml hown hnm hret hlk hsh XA
  have X0 := XA n0
  have hlow : n0 ≤ s.heap.size := by rw [hsh]; exact hn0
  replace hown : s.vm.findClass "jdk/internal/util/Preconditions" = some m.cls := hown
  replace hml : c.maxLocals = 3 := hml
  refine g_iloadN X0 hx (pc' := 1) rfl (hD hby d35_0) rfl ?_
  refine g_ifN X0 hx (pcN := 4) (hD hby d35_1) rfl (show ¬ ((1 : Int32) < 0) from by decide) ?_
  refine g_iloadN X0 hx (pc' := 5) rfl (hD hby d35_4) rfl ?_
  refine g_iloadN X0 hx (pc' := 6) rfl (hD hby d35_5) rfl ?_
  refine g_icmpY X0 hx (pcY := 16) (hD hby d35_6) (by decide) (by decide) (show (1 : Int32) < (2 : Int32) from by decide) ?_
  refine g_iloadN X0 hx (pc' := 17) rfl (hD hby d35_16) rfl ?_
  exact g_retI X0 hx hlk hret (hD hby d35_17) (by decide) (by decide) (Nat.le_refl _) (⟨rfl, rfl⟩)
set_option maxRecDepth 65536 in
set_option maxHeartbeats 40000000 in
theorem rm34_2 (l : Launch) (Z : State) (a0 : Array Value) (hw : ∀ d ∈ tables_1, d.before a0 Z = true) (ws : List Jvm.Cond) (n0 : Nat) (Ts : List String)  (h0 : Heap) (hn0 : n0 ≤ h0.size)  :
    Con l Z n0 Ts (Ts) (⟨"java/util/Objects", "checkIndex", "(II)I"⟩ : MethodName) jdk_31_method_17_code 2 (some .int) ws ({ frames := 1, cells := 0, slots := 0, locals := 16 } : Room) #[(.int 1), (.int 2)] h0 (fun v h => v = some (.int 1) ∧ h = h0) := by
  refine con_start (plainFor_of_name (by first | (simp [plainName, overriddenIn]; done) | decide +kernel)) (fr0 := fun m => mkF m 0 #[.val (.int 1), .val (.int 2)] []) (fun m => by first | (simp [entryFrame, mkF, argsToLocals, Value.category]; done) | rfl) ?_
  intro p e s m below meth c T0 hx hZ hby hml hown hnm hret hlk hsh XA
  have X0 := XA n0
  have hlow : n0 ≤ s.heap.size := by rw [hsh]; exact hn0
  replace hown : s.vm.findClass "java/util/Objects" = some m.cls := hown
  replace hml : c.maxLocals = 2 := hml
  refine g_iloadN X0 hx (pc' := 1) rfl (hD hby d34_0) rfl ?_
  refine g_iloadN X0 hx (pc' := 2) rfl (hD hby d34_1) rfl ?_
  refine g_aconst_null X0 hx (pc' := 3) rfl (hD hby d34_2) ?_
  refine g_callS X0 hx hZ hown (wat hw 253 rfl) (wat hw 254 rfl) (wat hw 255 rfl) (wat hw 256 rfl) (by decide) (rm35_2 l Z a0 hw [] n0 (Ts)  h0 hn0 ) pd_9 rfl rfl (by rw [hml]; rfl) (pc' := 6) rfl (hD hby d34_3) (argsL := [(.int 1), (.int 2), .null]) (rest := []) rfl (W := 0) (Nat.le_of_eq rfl) (by decide) (by decide) (by decide) (by decide) (fun v284 T284 h284 X284 hQ284 => ?_)
  obtain ⟨rfl, he284⟩ := hQ284
  rw [he284] at X284
  show Go p e below s n0 _ _ _ (T284.setTop (mkF m 6 _ [(.int 1)]))
  exact g_retI X284 hx hlk hret (hD hby d34_6) (by decide) (by decide) (Nat.le_refl _) (⟨rfl, rfl⟩)
set_option maxRecDepth 65536 in
set_option maxHeartbeats 40000000 in
theorem rm36_2 (l : Launch) (Z : State) (a0 : Array Value) (hw : ∀ d ∈ tables_1, d.before a0 Z = true) (ws : List Jvm.Cond) (n0 : Nat) (Ts : List String) (t ea s1 s2 : Addr) (h0 : Heap) (hn0 : n0 ≤ h0.size) (Fe : Fld Z h0 t "java/util/ArrayList" "elementData" "[Ljava/lang/Object;" (.ref ea)) (Ae : AR Z h0 ea [(.ref s1), (.ref s2)]) :
    Con l Z n0 Ts (Ts) (⟨"java/util/ArrayList", "elementData", "(I)Ljava/lang/Object;"⟩ : MethodName) jdk_38_method_18_code 2 (some (.object "java/lang/Object")) ws ({ frames := 0, cells := 0, slots := 0, locals := 0 } : Room) #[(.ref t), (.int 1)] h0 (fun v h => v = some (.ref s2) ∧ h = h0) := by
  refine con_start (plainFor_of_name (by first | (simp [plainName, overriddenIn]; done) | decide +kernel)) (fr0 := fun m => mkF m 0 #[.val (.ref t), .val (.int 1)] []) (fun m => by first | (simp [entryFrame, mkF, argsToLocals, Value.category]; done) | rfl) ?_
  intro p e s m below meth c T0 hx hZ hby hml hown hnm hret hlk hsh XA
  have X0 := XA n0
  have hlow : n0 ≤ s.heap.size := by rw [hsh]; exact hn0
  replace hown : s.vm.findClass "java/util/ArrayList" = some m.cls := hown
  replace hml : c.maxLocals = 2 := hml
  refine g_aloadN X0 hx (pc' := 1) rfl (hD hby d36_0) rfl rfl ?_
  refine g_getF X0 hx hZ hown (wat hw 146 rfl) Via.refl Fe (pc' := 4) rfl (hD hby d36_1) (fun T285 X285 => ?_)
  refine g_iloadN X285 hx (pc' := 5) rfl (hD hby d36_4) rfl ?_
  refine g_aaload X285 hx hZ Ae (i := 1) (by decide) (show (1 : Nat) < 2 by decide) (v := (.ref s2)) rfl (pc' := 6) rfl (hD hby d36_5) ?_
  exact g_ret X285 hx hlk hret rfl (Or.inr (Or.inr (Or.inr (Or.inr ⟨rfl, rfl, rfl⟩)))) (hD hby d36_6) (by decide) (by decide) (Nat.le_refl _) (⟨rfl, rfl⟩)
set_option maxRecDepth 65536 in
set_option maxHeartbeats 40000000 in
theorem rm33_2 (l : Launch) (Z : State) (a0 : Array Value) (hw : ∀ d ∈ tables_1, d.before a0 Z = true) (ws : List Jvm.Cond) (n0 : Nat) (Ts : List String) (t ea s1 s2 : Addr) (h0 : Heap) (hn0 : n0 ≤ h0.size) (Et : Exa Z h0 t "java/util/ArrayList") (Fs : Fld Z h0 t "java/util/ArrayList" "size" "I" (.int 2)) (Fe : Fld Z h0 t "java/util/ArrayList" "elementData" "[Ljava/lang/Object;" (.ref ea)) (Ae : AR Z h0 ea [(.ref s1), (.ref s2)]) :
    Con l Z n0 Ts (Ts) (⟨"java/util/ArrayList", "get", "(I)Ljava/lang/Object;"⟩ : MethodName) jdk_38_method_20_code 2 (some (.object "java/lang/Object")) ws ({ frames := 2, cells := 0, slots := 0, locals := 48 } : Room) #[(.ref t), (.int 1)] h0 (fun v h => v = some (.ref s2) ∧ h = h0) := by
  refine con_start (plainFor_of_name (by first | (simp [plainName, overriddenIn]; done) | decide +kernel)) (fr0 := fun m => mkF m 0 #[.val (.ref t), .val (.int 1)] []) (fun m => by first | (simp [entryFrame, mkF, argsToLocals, Value.category]; done) | rfl) ?_
  intro p e s m below meth c T0 hx hZ hby hml hown hnm hret hlk hsh XA
  have X0 := XA n0
  have hlow : n0 ≤ s.heap.size := by rw [hsh]; exact hn0
  replace hown : s.vm.findClass "java/util/ArrayList" = some m.cls := hown
  replace hml : c.maxLocals = 2 := hml
  refine g_iloadN X0 hx (pc' := 1) rfl (hD hby d33_0) rfl ?_
  refine g_aloadN X0 hx (pc' := 2) rfl (hD hby d33_1) rfl rfl ?_
  refine g_getF X0 hx hZ hown (wat hw 173 rfl) Via.refl Fs (pc' := 5) rfl (hD hby d33_2) (fun T286 X286 => ?_)
  refine g_callS X286 hx hZ hown (wat hw 250 rfl) (wat hw 251 rfl) (wat hw 20 rfl) (wat hw 252 rfl) (by decide) (rm34_2 l Z a0 hw [] n0 (Ts)  h0 hn0 ) pd_8 rfl rfl (by rw [hml]; rfl) (pc' := 8) rfl (hD hby d33_5) (argsL := [(.int 1), (.int 2)]) (rest := []) rfl (W := 0) (Nat.le_of_eq rfl) (by decide) (by decide) (by decide) (by decide) (fun v287 T287 h287 X287 hQ287 => ?_)
  obtain ⟨rfl, he287⟩ := hQ287
  rw [he287] at X287
  show Go p e below s n0 _ _ _ (T287.setTop (mkF m 8 _ [(.int 1)]))
  refine g_pop X287 hx (pc' := 9) rfl (hD hby d33_8) rfl ?_
  refine g_aloadN X287 hx (pc' := 10) rfl (hD hby d33_9) rfl rfl ?_
  refine g_iloadN X287 hx (pc' := 11) rfl (hD hby d33_10) rfl ?_
  refine g_callV X287 hx hZ hown (wat hw 257 rfl) (wat hw 258 rfl) (wat hw 260 rfl) (wat hw 259 rfl) (wat hw 125 rfl) (wat hw 261 rfl) (by decide) (a := t) Et (rm36_2 l Z a0 hw [] n0 (Ts) t ea s1 s2 h0 hn0 Fe Ae) pd_10 rfl rfl (by rw [hml]; rfl) (pc' := 14) rfl (hD hby d33_11) (argsL := [(.int 1)]) (rest := []) rfl (W := 0) (Nat.le_of_eq rfl) (by decide) (by decide) (by decide) (by decide) (fun v288 T288 h288 X288 hQ288 => ?_)
  obtain ⟨rfl, he288⟩ := hQ288
  rw [he288] at X288
  show Go p e below s n0 _ _ _ (T288.setTop (mkF m 14 _ [(.ref s2)]))
  exact g_ret X288 hx hlk hret rfl (Or.inr (Or.inr (Or.inr (Or.inr ⟨rfl, rfl, rfl⟩)))) (hD hby d33_14) (by decide) (by decide) (Nat.le_refl _) (⟨rfl, rfl⟩)
set_option maxRecDepth 65536 in
set_option maxHeartbeats 40000000 in
theorem rm30 (l : Launch) (Z : State) (a0 : Array Value) (hw : ∀ d ∈ tables_1, d.before a0 Z = true) (ws : List Jvm.Cond) (n0 : Nat) (Ts : List String) (ea s1 mr : Addr) (h0 : Heap) (hn0 : n0 ≤ h0.size) (MR : Mir0 Z "[Ljava/lang/Object;" mr) (Ae : AR Z h0 ea [.ref s1]) (Es : Exa Z h0 s1 "com/example/loads_to_headways/loadstoheadways/sim/Stranding") :
    Con l Z n0 Ts (Ts) (⟨"java/util/Arrays", "copyOf", "([Ljava/lang/Object;ILjava/lang/Class;)[Ljava/lang/Object;"⟩ : MethodName) jdk_65_method_120_code 4 (some (.array (.object "java/lang/Object"))) ws ({ frames := 1, cells := 1, slots := 2, locals := 48 } : Room) #[(.ref ea), (.int 2), (.ref mr)] h0 (fun v h => ∃ b, v = some (.ref b) ∧ n0 ≤ b ∧ h0.size ≤ b ∧ Keep h0 h [] ∧ AR Z h b [.ref s1, .null] ∧ Exa Z h b "[Ljava/lang/Object;") := by
  refine con_start (plainFor_of_name (by first | (simp [plainName, overriddenIn]; done) | decide +kernel)) (fr0 := fun m => mkF m 0 #[.val (.ref ea), .val (.int 2), .val (.ref mr), .unset] []) (fun m => by first | (simp [entryFrame, mkF, argsToLocals, Value.category]; done) | rfl) ?_
  intro p e s m below meth c T0 hx hZ hby hml hown hnm hret hlk hsh XA
  have X0 := XA n0
  have hlow : n0 ≤ s.heap.size := by rw [hsh]; exact hn0
  replace hown : s.vm.findClass "java/util/Arrays" = some m.cls := hown
  replace hml : c.maxLocals = 4 := hml
  refine g_aloadN X0 hx (pc' := 1) rfl (hD hby d30_0) rfl rfl ?_
  refine g_ldcM X0 hx hZ hown (wat hw 223 rfl) MR (pc' := 3) rfl (hD hby d30_1) (fun T289 X289 => ?_)
  refine g_acmpN X289 hx (pcN := 6) rfl rfl (hD hby d30_3) (by decide) rfl (by simp [acV]) ?_
  refine g_iloadN X289 hx (pc' := 7) rfl (hD hby d30_6) rfl ?_
  refine g_newR X289 hx hZ hown (wat hw 224 rfl) (wat hw 145 rfl) (N := 2) (by decide) (cap := 2) (Nat.le_refl _) (by decide) (pc' := 10) rfl (hD hby d30_7) (by decide) (by decide) (fun T290 h290 a290 ha290 X290 E290 N290 EX290 => ?_)
  have ne290_ea : ea ≠ a290 := by rw [ha290]; exact Nat.ne_of_lt Ae.lt
  have ne290_s1 : s1 ≠ a290 := by rw [ha290]; exact Nat.ne_of_lt Es.lt
  have f291 := Ae.ext E290
  have f292 := Es.ext E290
  have sz290 : h0.size ≤ a290 := by rw [ha290]; exact (Keep.refl h0 []).1
  have f293 := (Keep.refl h0 []).ext E290
  have G_a290 : n0 ≤ a290 := by rw [ha290]; exact hn0
  have Zs290 : n0 ≤ h290.size := Nat.le_trans hn0 E290.1
  have V290 : AR Z h290 a290 [.null, .null] := N290
  refine g_goto X290 hx (pc' := 24) (hD hby d30_10) (by decide) (by decide) ?_
  refine g_astoreN X290 hx (pc' := 25) rfl (hD hby d30_24) rfl (l' := #[.val (.ref ea), .val (.int 2), .val (.ref mr), .val (.ref a290)]) rfl ?_
  refine g_aloadN X290 hx (pc' := 26) rfl (hD hby d30_25) rfl rfl ?_
  refine g_iconst X290 hx (pc' := 27) (z := (0 : Int32)) rfl (hD hby d30_26) rfl ?_
  refine g_aloadN X290 hx (pc' := 28) rfl (hD hby d30_27) rfl rfl ?_
  refine g_iconst X290 hx (pc' := 29) (z := (0 : Int32)) rfl (hD hby d30_28) rfl ?_
  refine g_aloadN X290 hx (pc' := 30) rfl (hD hby d30_29) rfl rfl ?_
  refine g_alenR X290 hx hZ f291 (z := (1 : Int32)) rfl (pc' := 31) rfl (hD hby d30_30) ?_
  refine g_iloadN X290 hx (pc' := 32) rfl (hD hby d30_31) rfl ?_
  refine g_callS X290 hx hZ hown (wat hw 225 rfl) (wat hw 226 rfl) (wat hw 36 rfl) (wat hw 227 rfl) (by decide) (rm31 l Z a0 hw [] n0 (Ts)  h290 Zs290 ) pd_8 rfl rfl (by rw [hml]; rfl) (pc' := 35) rfl (hD hby d30_32) (argsL := [(.int 1), (.int 2)]) (rest := [(.int 0), (.ref a290), (.int 0), (.ref ea)]) rfl (W := 4) (Nat.le_of_eq rfl) (by decide) (by decide) (by decide) (by decide) (fun v294 T294 h294 X294 hQ294 => ?_)
  obtain ⟨rfl, he294⟩ := hQ294
  rw [he294] at X294
  show Go p e below s n0 _ _ _ (T294.setTop (mkF m 35 _ [(.int 1), (.int 0), (.ref a290), (.int 0), (.ref ea)]))
  refine g_copyR X294 hx hZ hown (wat hw 228 rfl) (wat hw 231 rfl) (wat hw 229 rfl) (wat hw 230 rfl) f291 V290 (n := 1) rfl rfl rfl (show (1 : Nat) ≤ 1 by decide) (show (1 : Nat) ≤ 2 by decide) (fun v hv => ⟨s1, List.mem_singleton.mp hv, Ins.of_exa f292 (wat hw 180 rfl)⟩) G_a290 (by rw [hml]; rfl) (pc' := 38) rfl (hD hby d30_35) (by decide) (W := 0) (Nat.le_of_eq rfl) (by decide +kernel) (fun T295 h295 X295 K295 N295 => ?_)
  have f296 := f293.trans K295 (allS (Or.inr sz290) all0)
  have f297 := f291.keep K295 (ninS ne290_ea nin0)
  have f298 := f292.keep K295
  have f299 := EX290.keep K295
  have zs295 : n0 ≤ h295.size := Nat.le_trans Zs290 K295.1
  have V295 : AR Z h295 a290 [.ref s1, .null] := N295
  show Go p e below s n0 _ _ _ (T295.setTop (mkF m 38 _ []))
  refine g_aloadN X295 hx (pc' := 39) rfl (hD hby d30_38) rfl rfl ?_
  exact g_ret X295 hx hlk hret rfl (Or.inr (Or.inr (Or.inr (Or.inr ⟨rfl, rfl, rfl⟩)))) (hD hby d30_39) (by decide) (by decide) (Nat.le_refl _) (⟨a290, rfl, G_a290, sz290, f296, V295, f299⟩)
set_option maxRecDepth 65536 in
set_option maxHeartbeats 40000000 in
theorem rm29 (l : Launch) (Z : State) (a0 : Array Value) (hw : ∀ d ∈ tables_1, d.before a0 Z = true) (ws : List Jvm.Cond) (n0 : Nat) (Ts : List String) (ea s1 mr : Addr) (h0 : Heap) (hn0 : n0 ≤ h0.size) (MR : Mir0 Z "[Ljava/lang/Object;" mr) (Ae : AR Z h0 ea [.ref s1]) (Es : Exa Z h0 s1 "com/example/loads_to_headways/loadstoheadways/sim/Stranding") (Ee : Exa Z h0 ea "[Ljava/lang/Object;") :
    Con l Z n0 Ts (Ts) (⟨"java/util/Arrays", "copyOf", "([Ljava/lang/Object;I)[Ljava/lang/Object;"⟩ : MethodName) jdk_65_method_119_code 2 (some (.array (.object "java/lang/Object"))) ws ({ frames := 2, cells := 1, slots := 2, locals := 80 } : Room) #[(.ref ea), (.int 2)] h0 (fun v h => ∃ b, v = some (.ref b) ∧ n0 ≤ b ∧ h0.size ≤ b ∧ Keep h0 h [] ∧ AR Z h b [.ref s1, .null] ∧ Exa Z h b "[Ljava/lang/Object;") := by
  refine con_start (plainFor_of_name (by first | (simp [plainName, overriddenIn]; done) | decide +kernel)) (fr0 := fun m => mkF m 0 #[.val (.ref ea), .val (.int 2)] []) (fun m => by first | (simp [entryFrame, mkF, argsToLocals, Value.category]; done) | rfl) ?_
  intro p e s m below meth c T0 hx hZ hby hml hown hnm hret hlk hsh XA
  have X0 := XA n0
  have hlow : n0 ≤ s.heap.size := by rw [hsh]; exact hn0
  replace hown : s.vm.findClass "java/util/Arrays" = some m.cls := hown
  replace hml : c.maxLocals = 2 := hml
  refine g_aloadN X0 hx (pc' := 1) rfl (hD hby d29_0) rfl rfl ?_
  refine g_iloadN X0 hx (pc' := 2) rfl (hD hby d29_1) rfl ?_
  refine g_aloadN X0 hx (pc' := 3) rfl (hD hby d29_2) rfl rfl ?_
  refine g_gcls X0 hx hZ hown (wat hw 214 rfl) (wat hw 215 rfl) (wat hw 217 rfl) (wat hw 216 rfl) (wat hw 218 rfl) Ee MR (by rw [hml]; rfl) (pc' := 6) rfl (hD hby d29_3) (by decide) (show 2 + (nativeFrameWords "java/lang/Object" "getClass" 1 + 11) ≤ 80 by decide +kernel) (fun T300 X300 => ?_)
  refine g_callS X300 hx hZ hown (wat hw 220 rfl) (wat hw 221 rfl) (wat hw 212 rfl) (wat hw 222 rfl) (by decide) (rm30 l Z a0 hw [] n0 (Ts) ea s1 mr h0 hn0 MR Ae Es) pd_11 rfl rfl (by rw [hml]; rfl) (pc' := 9) rfl (hD hby d29_6) (argsL := [(.ref ea), (.int 2), (.ref mr)]) (rest := []) rfl (W := 0) (Nat.le_of_eq rfl) (by decide) (by decide) (by decide) (by decide) (fun v301 T301 h301 X301 hQ301 => ?_)
  obtain ⟨b301, rfl, G301, S301, K301, V301, EV301⟩ := hQ301
  have ne301_ea : ea ≠ b301 := Nat.ne_of_lt (Nat.lt_of_lt_of_le Ae.lt S301)
  have ne301_s1 : s1 ≠ b301 := Nat.ne_of_lt (Nat.lt_of_lt_of_le Es.lt S301)
  have sz301 : h0.size ≤ b301 := Nat.le_trans (Keep.refl h0 []).1 S301
  have f302 := (Keep.refl h0 []).trans K301 all0
  have f303 := Ae.keep K301 nin0
  have f304 := Es.keep K301
  have f305 := Ee.keep K301
  have zs301 : n0 ≤ h301.size := Nat.le_trans hn0 K301.1
  show Go p e below s n0 _ _ _ (T301.setTop (mkF m 9 _ [(.ref b301)]))
  exact g_ret X301 hx hlk hret rfl (Or.inr (Or.inr (Or.inr (Or.inr ⟨rfl, rfl, rfl⟩)))) (hD hby d29_9) (by decide) (by decide) (Nat.le_refl _) (⟨b301, rfl, G301, sz301, f302, V301, EV301⟩)
set_option maxRecDepth 65536 in
set_option maxHeartbeats 40000000 in
theorem rm26 (l : Launch) (Z : State) (a0 : Array Value) (hw : ∀ d ∈ tables_1, d.before a0 Z = true) (ws : List Jvm.Cond) (n0 : Nat) (Ts : List String) (t ea s1 mr : Addr) (mc : Int32) (h0 : Heap) (hn0 : n0 ≤ h0.size) (MR : Mir0 Z "[Ljava/lang/Object;" mr) (Et : Exa Z h0 t "java/util/ArrayList") (hgt : n0 ≤ t) (F_modCount : Fld Z h0 t "java/util/AbstractList" "modCount" "I" (.int mc)) (F_elementData : Fld Z h0 t "java/util/ArrayList" "elementData" "[Ljava/lang/Object;" (.ref ea)) (F_size : Fld Z h0 t "java/util/ArrayList" "size" "I" (.int 1)) (Ae : AR Z h0 ea [.ref s1]) (Ee : Exa Z h0 ea "[Ljava/lang/Object;") (Es : Exa Z h0 s1 "com/example/loads_to_headways/loadstoheadways/sim/Stranding") :
    Con l Z n0 Ts (Ts) (⟨"java/util/ArrayList", "grow", "(I)[Ljava/lang/Object;"⟩ : MethodName) jdk_38_method_6_code 4 (some (.array (.object "java/lang/Object"))) ws ({ frames := 3, cells := 1, slots := 2, locals := 112 } : Room) #[(.ref t), (.int 2)] h0 (fun v h => ∃ b, v = some (.ref b) ∧ n0 ≤ b ∧ h0.size ≤ b ∧ Keep h0 h [t] ∧ AR Z h b [.ref s1, .null] ∧ Exa Z h b "[Ljava/lang/Object;" ∧ Fld Z h t "java/util/AbstractList" "modCount" "I" (.int mc) ∧ Fld Z h t "java/util/ArrayList" "elementData" "[Ljava/lang/Object;" (.ref b) ∧ Fld Z h t "java/util/ArrayList" "size" "I" (.int 1)) := by
  refine con_start (plainFor_of_name (by first | (simp [plainName, overriddenIn]; done) | decide +kernel)) (fr0 := fun m => mkF m 0 #[.val (.ref t), .val (.int 2), .unset, .unset] []) (fun m => by first | (simp [entryFrame, mkF, argsToLocals, Value.category]; done) | rfl) ?_
  intro p e s m below meth c T0 hx hZ hby hml hown hnm hret hlk hsh XA
  have X0 := XA n0
  have hlow : n0 ≤ s.heap.size := by rw [hsh]; exact hn0
  replace hown : s.vm.findClass "java/util/ArrayList" = some m.cls := hown
  replace hml : c.maxLocals = 4 := hml
  have net_ea : t ≠ ea := Exa.ne Et Ee (by decide)
  have net_s1 : t ≠ s1 := Exa.ne Et Es (by decide)
  have nee_s1 : ea ≠ s1 := Exa.ne Ee Es (by decide)
  refine g_aloadN X0 hx (pc' := 1) rfl (hD hby d26_0) rfl rfl ?_
  refine g_getF X0 hx hZ hown (wat hw 146 rfl) Via.refl F_elementData (pc' := 4) rfl (hD hby d26_1) (fun T306 X306 => ?_)
  refine g_alenR X306 hx hZ Ae (z := (1 : Int32)) rfl (pc' := 5) rfl (hD hby d26_4) ?_
  refine g_istoreN X306 hx (pc' := 6) rfl (hD hby d26_5) (l' := #[.val (.ref t), .val (.int 2), .val (.int 1), .unset]) rfl ?_
  refine g_iloadN X306 hx (pc' := 7) rfl (hD hby d26_6) rfl ?_
  refine g_ifY X306 hx (pcY := 20) (hD hby d26_7) (by decide) (by decide) (show 0 < (1 : Int32) from by decide) ?_
  refine g_iloadN X306 hx (pc' := 21) rfl (hD hby d26_20) rfl ?_
  refine g_iloadN X306 hx (pc' := 22) rfl (hD hby d26_21) rfl ?_
  refine g_iloadN X306 hx (pc' := 23) rfl (hD hby d26_22) rfl ?_
  refine g_isub X306 hx (pc' := 24) rfl (hD hby d26_23) ?_
  refine g_normI (z := (1 : Int32)) (by decide) ?_
  refine g_iloadN X306 hx (pc' := 25) rfl (hD hby d26_24) rfl ?_
  refine g_iconst X306 hx (pc' := 26) (z := (1 : Int32)) rfl (hD hby d26_25) rfl ?_
  refine g_ishr X306 hx (pc' := 27) rfl (hD hby d26_26) ?_
  refine g_normI (z := (0 : Int32)) (by decide) ?_
  refine g_callS X306 hx hZ hown (wat hw 202 rfl) (wat hw 203 rfl) (wat hw 204 rfl) (wat hw 205 rfl) (by decide) (rm27 l Z a0 hw [] n0 (Ts)  h0 hn0 ) pd_12 rfl rfl (by rw [hml]; rfl) (pc' := 30) rfl (hD hby d26_27) (argsL := [(.int 1), (.int 1), (.int 0)]) (rest := []) rfl (W := 0) (Nat.le_of_eq rfl) (by decide) (by decide) (by decide) (by decide) (fun v307 T307 h307 X307 hQ307 => ?_)
  obtain ⟨rfl, he307⟩ := hQ307
  rw [he307] at X307
  show Go p e below s n0 _ _ _ (T307.setTop (mkF m 30 _ [(.int 2)]))
  refine g_istoreN X307 hx (pc' := 31) rfl (hD hby d26_30) (l' := #[.val (.ref t), .val (.int 2), .val (.int 1), .val (.int 2)]) rfl ?_
  refine g_aloadN X307 hx (pc' := 32) rfl (hD hby d26_31) rfl rfl ?_
  refine g_aloadN X307 hx (pc' := 33) rfl (hD hby d26_32) rfl rfl ?_
  refine g_getF X307 hx hZ hown (wat hw 146 rfl) Via.refl F_elementData (pc' := 36) rfl (hD hby d26_33) (fun T308 X308 => ?_)
  refine g_iloadN X308 hx (pc' := 37) rfl (hD hby d26_36) rfl ?_
  refine g_callS X308 hx hZ hown (wat hw 210 rfl) (wat hw 211 rfl) (wat hw 212 rfl) (wat hw 213 rfl) (by decide) (rm29 l Z a0 hw [] n0 (Ts) ea s1 mr h0 hn0 MR Ae Es Ee) pd_13 rfl rfl (by rw [hml]; rfl) (pc' := 40) rfl (hD hby d26_37) (argsL := [(.ref ea), (.int 2)]) (rest := [(.ref t)]) rfl (W := 1) (Nat.le_of_eq rfl) (by decide) (by decide) (by decide) (by decide) (fun v309 T309 h309 X309 hQ309 => ?_)
  obtain ⟨b309, rfl, G309, S309, K309, V309, EV309⟩ := hQ309
  have ne309_t : t ≠ b309 := Nat.ne_of_lt (Nat.lt_of_lt_of_le Et.lt S309)
  have ne309_ea : ea ≠ b309 := Nat.ne_of_lt (Nat.lt_of_lt_of_le Ae.lt S309)
  have ne309_s1 : s1 ≠ b309 := Nat.ne_of_lt (Nat.lt_of_lt_of_le Es.lt S309)
  have sz309 : h0.size ≤ b309 := Nat.le_trans (Keep.refl h0 [t]).1 S309
  have f310 := (Keep.refl h0 [t]).trans K309 all0
  have f311 := Et.keep K309
  have f312 := F_modCount.keep K309 nin0
  have f313 := F_elementData.keep K309 nin0
  have f314 := F_size.keep K309 nin0
  have f315 := Ae.keep K309 nin0
  have f316 := Ee.keep K309
  have f317 := Es.keep K309
  have zs309 : n0 ≤ h309.size := Nat.le_trans hn0 K309.1
  show Go p e below s n0 _ _ _ (T309.setTop (mkF m 40 _ [(.ref b309), (.ref t)]))
  refine g_dup_x1 X309 hx (pc' := 41) rfl (hD hby d26_40) rfl rfl ?_
  refine g_putF X309 hx hZ hown (wat hw 146 rfl) Via.refl f313 f311 (Or.inl (wat hw 147 rfl)) (wat hw 124 rfl) (ty := (.array (.object "java/lang/Object"))) (by decide) rfl rfl hgt (pc' := 44) rfl (hD hby d26_41) (fun T318 h318 X318 W318 => ?_)
  have f319 := (by have q := (Keep.of_wr W318).1; exact Nat.le_trans zs309 q : n0 ≤ h318.size)
  have f320 := f310.wr W318 (Or.inl (List.mem_of_getElem? (i := 0) rfl))
  have f321 := f311.wr W318
  have f322 := f312.other W318 (Or.inr (slot_ne (Or.inl (wat hw 143 rfl)) (Or.inl (wat hw 147 rfl)) (by decide) (t := .int) (t' := (.array (.object "java/lang/Object"))) (by decide) (by decide)))
  have f323 := f313.same W318
  have f324 := f314.other W318 (Or.inr (slot_ne (Or.inl (wat hw 174 rfl)) (Or.inl (wat hw 147 rfl)) (by decide) (t := .int) (t' := (.array (.object "java/lang/Object"))) (by decide) (by decide)))
  have f325 := f315.other W318 net_ea.symm
  have f326 := f316.wr W318
  have f327 := f317.wr W318
  have f328 := V309.other W318 ne309_t.symm
  have f329 := EV309.wr W318
  exact g_ret X318 hx hlk hret rfl (Or.inr (Or.inr (Or.inr (Or.inr ⟨rfl, rfl, rfl⟩)))) (hD hby d26_44) (by decide) (by decide) (Nat.le_refl _) (⟨b309, rfl, G309, sz309, f320, f328, f329, f322, f323, f324⟩)
set_option maxRecDepth 65536 in
set_option maxHeartbeats 40000000 in
theorem rm25 (l : Launch) (Z : State) (a0 : Array Value) (hw : ∀ d ∈ tables_1, d.before a0 Z = true) (ws : List Jvm.Cond) (n0 : Nat) (Ts : List String) (t ea s1 mr : Addr) (mc : Int32) (h0 : Heap) (hn0 : n0 ≤ h0.size) (MR : Mir0 Z "[Ljava/lang/Object;" mr) (Et : Exa Z h0 t "java/util/ArrayList") (hgt : n0 ≤ t) (F_modCount : Fld Z h0 t "java/util/AbstractList" "modCount" "I" (.int mc)) (F_elementData : Fld Z h0 t "java/util/ArrayList" "elementData" "[Ljava/lang/Object;" (.ref ea)) (F_size : Fld Z h0 t "java/util/ArrayList" "size" "I" (.int 1)) (Ae : AR Z h0 ea [.ref s1]) (Ee : Exa Z h0 ea "[Ljava/lang/Object;") (Es : Exa Z h0 s1 "com/example/loads_to_headways/loadstoheadways/sim/Stranding") :
    Con l Z n0 Ts (Ts) (⟨"java/util/ArrayList", "grow", "()[Ljava/lang/Object;"⟩ : MethodName) jdk_38_method_7_code 1 (some (.array (.object "java/lang/Object"))) ws ({ frames := 4, cells := 1, slots := 2, locals := 144 } : Room) #[(.ref t)] h0 (fun v h => ∃ b, v = some (.ref b) ∧ n0 ≤ b ∧ h0.size ≤ b ∧ Keep h0 h [t] ∧ AR Z h b [.ref s1, .null] ∧ Exa Z h b "[Ljava/lang/Object;" ∧ Fld Z h t "java/util/AbstractList" "modCount" "I" (.int mc) ∧ Fld Z h t "java/util/ArrayList" "elementData" "[Ljava/lang/Object;" (.ref b) ∧ Fld Z h t "java/util/ArrayList" "size" "I" (.int 1)) := by
  refine con_start (plainFor_of_name (by first | (simp [plainName, overriddenIn]; done) | decide +kernel)) (fr0 := fun m => mkF m 0 #[.val (.ref t)] []) (fun m => by first | (simp [entryFrame, mkF, argsToLocals, Value.category]; done) | rfl) ?_
  intro p e s m below meth c T0 hx hZ hby hml hown hnm hret hlk hsh XA
  have X0 := XA n0
  have hlow : n0 ≤ s.heap.size := by rw [hsh]; exact hn0
  replace hown : s.vm.findClass "java/util/ArrayList" = some m.cls := hown
  replace hml : c.maxLocals = 1 := hml
  have net_ea : t ≠ ea := Exa.ne Et Ee (by decide)
  have net_s1 : t ≠ s1 := Exa.ne Et Es (by decide)
  have nee_s1 : ea ≠ s1 := Exa.ne Ee Es (by decide)
  refine g_aloadN X0 hx (pc' := 1) rfl (hD hby d25_0) rfl rfl ?_
  refine g_aloadN X0 hx (pc' := 2) rfl (hD hby d25_1) rfl rfl ?_
  refine g_getF X0 hx hZ hown (wat hw 173 rfl) Via.refl F_size (pc' := 5) rfl (hD hby d25_2) (fun T330 X330 => ?_)
  refine g_iconst X330 hx (pc' := 6) (z := (1 : Int32)) rfl (hD hby d25_5) rfl ?_
  refine g_iadd X330 hx (pc' := 7) rfl (hD hby d25_6) ?_
  refine g_normI (z := (2 : Int32)) (by decide) ?_
  refine g_callP X330 hx hZ hown (wat hw 197 rfl) (wat hw 198 rfl) (wat hw 200 rfl) (wat hw 199 rfl) (wat hw 125 rfl) (wat hw 201 rfl) (by decide) (a := t) Et (rm26 l Z a0 hw [] n0 (Ts) t ea s1 mr mc h0 hn0 MR Et hgt F_modCount F_elementData F_size Ae Ee Es) pd_14 rfl rfl (by rw [hml]; rfl) (pc' := 10) rfl (hD hby d25_7) (argsL := [(.int 2)]) (rest := []) rfl (W := 0) (Nat.le_of_eq rfl) (by decide) (by decide) (by decide) (by decide) (fun v331 T331 h331 X331 hQ331 => ?_)
  obtain ⟨b331, rfl, G331, S331, K331, V331, EV331, m331, e331, z331⟩ := hQ331
  have ne331_t : t ≠ b331 := Nat.ne_of_lt (Nat.lt_of_lt_of_le Et.lt S331)
  have ne331_ea : ea ≠ b331 := Nat.ne_of_lt (Nat.lt_of_lt_of_le Ae.lt S331)
  have ne331_s1 : s1 ≠ b331 := Nat.ne_of_lt (Nat.lt_of_lt_of_le Es.lt S331)
  have sz331 : h0.size ≤ b331 := Nat.le_trans (Keep.refl h0 [t]).1 S331
  have f332 := (Keep.refl h0 [t]).trans K331 (allS (Or.inl (List.mem_of_getElem? (i := 0) rfl)) all0)
  have f333 := Et.keep K331
  have f334 := Ae.keep K331 (ninS net_ea.symm nin0)
  have f335 := Ee.keep K331
  have f336 := Es.keep K331
  have zs331 : n0 ≤ h331.size := Nat.le_trans hn0 K331.1
  show Go p e below s n0 _ _ _ (T331.setTop (mkF m 10 _ [(.ref b331)]))
  exact g_ret X331 hx hlk hret rfl (Or.inr (Or.inr (Or.inr (Or.inr ⟨rfl, rfl, rfl⟩)))) (hD hby d25_10) (by decide) (by decide) (Nat.le_refl _) (⟨b331, rfl, G331, sz331, f332, V331, EV331, m331, e331, z331⟩)
set_option maxRecDepth 65536 in
set_option maxHeartbeats 40000000 in
theorem rm22_0 (l : Launch) (Z : State) (a0 : Array Value) (hw : ∀ d ∈ tables_1, d.before a0 Z = true) (ws : List Jvm.Cond) (n0 : Nat) (Ts : List String) (t ea sn : Addr) (mc : Int32) (h0 : Heap) (hn0 : n0 ≤ h0.size) (Et : Exa Z h0 t "java/util/ArrayList") (hgt : n0 ≤ t) (F_modCount : Fld Z h0 t "java/util/AbstractList" "modCount" "I" (.int mc)) (F_elementData : Fld Z h0 t "java/util/ArrayList" "elementData" "[Ljava/lang/Object;" (.ref ea)) (F_size : Fld Z h0 t "java/util/ArrayList" "size" "I" (.int 0)) (Ae : AR Z h0 ea [.null]) (Ee : Exa Z h0 ea "[Ljava/lang/Object;") (hge : n0 ≤ ea) (Es : Exa Z h0 sn "com/example/loads_to_headways/loadstoheadways/sim/Stranding") :
    Con l Z n0 Ts (Ts) (⟨"java/util/ArrayList", "add", "(Ljava/lang/Object;[Ljava/lang/Object;I)V"⟩ : MethodName) jdk_38_method_24_code 4 none ws ({ frames := 0, cells := 0, slots := 0, locals := 0 } : Room) #[(.ref t), (.ref sn), (.ref ea), (.int 0)] h0 (fun v h => v = none ∧ Keep h0 h [t, ea] ∧ AR Z h ea [.ref sn] ∧ Fld Z h t "java/util/AbstractList" "modCount" "I" (.int mc) ∧ Fld Z h t "java/util/ArrayList" "elementData" "[Ljava/lang/Object;" (.ref ea) ∧ Fld Z h t "java/util/ArrayList" "size" "I" (.int 1)) := by
  refine con_start (plainFor_of_name (by first | (simp [plainName, overriddenIn]; done) | decide +kernel)) (fr0 := fun m => mkF m 0 #[.val (.ref t), .val (.ref sn), .val (.ref ea), .val (.int 0)] []) (fun m => by first | (simp [entryFrame, mkF, argsToLocals, Value.category]; done) | rfl) ?_
  intro p e s m below meth c T0 hx hZ hby hml hown hnm hret hlk hsh XA
  have X0 := XA n0
  have hlow : n0 ≤ s.heap.size := by rw [hsh]; exact hn0
  replace hown : s.vm.findClass "java/util/ArrayList" = some m.cls := hown
  replace hml : c.maxLocals = 4 := hml
  have n_t_ea : t ≠ ea := Exa.ne Et Ee (by decide)
  have n_t_sn : t ≠ sn := Exa.ne Et Es (by decide)
  have n_ea_sn : ea ≠ sn := Exa.ne Ee Es (by decide)
  refine g_iloadN X0 hx (pc' := 1) rfl (hD hby d22_0) rfl ?_
  refine g_aloadN X0 hx (pc' := 2) rfl (hD hby d22_1) rfl rfl ?_
  refine g_alenR X0 hx hZ Ae (z := (1 : Int32)) rfl (pc' := 3) rfl (hD hby d22_2) ?_
  refine g_icmpY X0 hx (pcY := 11) (hD hby d22_3) (by decide) (by decide) (show ¬ (0 : Int32) = (1 : Int32) from by decide) ?_
  refine g_aloadN X0 hx (pc' := 12) rfl (hD hby d22_11) rfl rfl ?_
  refine g_iloadN X0 hx (pc' := 13) rfl (hD hby d22_12) rfl ?_
  refine g_aloadN X0 hx (pc' := 14) rfl (hD hby d22_13) rfl rfl ?_
  refine g_aastore X0 hx hZ Ae (i := 0) (by decide) (show (0 : Nat) < 1 by decide) hge (Ins.of_exa Es (wat hw 180 rfl)) (pc' := 15) rfl (hD hby d22_14) (fun T337 h337 X337 W337 N337 => ?_)
  have f338 := (by have q := (Keep.of_wr W337).1; exact Nat.le_trans hn0 q : n0 ≤ h337.size)
  have f339 := (Keep.refl h0 [t, ea]).wr W337 (Or.inl (List.mem_of_getElem? (i := 1) rfl))
  have f340 := Et.wr W337
  have f341 := F_modCount.other W337 (Or.inl n_t_ea)
  have f342 := F_elementData.other W337 (Or.inl n_t_ea)
  have f343 := F_size.other W337 (Or.inl n_t_ea)
  have f344 := Ee.wr W337
  have f345 := Es.wr W337
  have V337 : AR Z h337 ea [(.ref sn)] := N337
  refine g_aloadN X337 hx (pc' := 16) rfl (hD hby d22_15) rfl rfl ?_
  refine g_iloadN X337 hx (pc' := 17) rfl (hD hby d22_16) rfl ?_
  refine g_iconst X337 hx (pc' := 18) (z := (1 : Int32)) rfl (hD hby d22_17) rfl ?_
  refine g_iadd X337 hx (pc' := 19) rfl (hD hby d22_18) ?_
  refine g_normI (z := (1 : Int32)) (by decide) ?_
  refine g_putF X337 hx hZ hown (wat hw 173 rfl) Via.refl f343 f340 (Or.inl (wat hw 174 rfl)) (wat hw 124 rfl) (ty := .int) (by decide) rfl rfl hgt (pc' := 22) rfl (hD hby d22_19) (fun T346 h346 X346 W346 => ?_)
  have f347 := (by have q := (Keep.of_wr W346).1; exact Nat.le_trans f338 q : n0 ≤ h346.size)
  have f348 := f339.wr W346 (Or.inl (List.mem_of_getElem? (i := 0) rfl))
  have f349 := f340.wr W346
  have f350 := f341.other W346 (Or.inr (slot_ne (Or.inl (wat hw 143 rfl)) (Or.inl (wat hw 174 rfl)) (by decide) (t := .int) (t' := .int) (by decide) (by decide)))
  have f351 := f342.other W346 (Or.inr (slot_ne (Or.inl (wat hw 147 rfl)) (Or.inl (wat hw 174 rfl)) (by decide) (t := (.array (.object "java/lang/Object"))) (t' := .int) (by decide) (by decide)))
  have f352 := f343.same W346
  have f353 := V337.other W346 n_t_ea.symm
  have f354 := f344.wr W346
  have f355 := f345.wr W346
  exact g_retV X346 hx hlk hret (hD hby d22_22) (by decide) (by decide) (Nat.le_refl _) (⟨rfl, f348, f353, f350, f351, f352⟩)
set_option maxRecDepth 65536 in
set_option maxHeartbeats 40000000 in
theorem rm21_0 (l : Launch) (Z : State) (a0 : Array Value) (hw : ∀ d ∈ tables_1, d.before a0 Z = true) (ws : List Jvm.Cond) (n0 : Nat) (Ts : List String) (t ea sn : Addr) (mc : Int32) (h0 : Heap) (hn0 : n0 ≤ h0.size) (Et : Exa Z h0 t "java/util/ArrayList") (hgt : n0 ≤ t) (F_modCount : Fld Z h0 t "java/util/AbstractList" "modCount" "I" (.int mc)) (F_elementData : Fld Z h0 t "java/util/ArrayList" "elementData" "[Ljava/lang/Object;" (.ref ea)) (F_size : Fld Z h0 t "java/util/ArrayList" "size" "I" (.int 0)) (Ae : AR Z h0 ea [.null]) (Ee : Exa Z h0 ea "[Ljava/lang/Object;") (hge : n0 ≤ ea) (Es : Exa Z h0 sn "com/example/loads_to_headways/loadstoheadways/sim/Stranding") :
    Con l Z n0 Ts (Ts) (⟨"java/util/ArrayList", "add", "(Ljava/lang/Object;)Z"⟩ : MethodName) jdk_38_method_25_code 2 (some .boolean) ws ({ frames := 1, cells := 0, slots := 0, locals := 24 } : Room) #[(.ref t), (.ref sn)] h0 (fun v h => v = some (.int 1) ∧ Keep h0 h [t, ea] ∧ AR Z h ea [.ref sn] ∧ Fld Z h t "java/util/AbstractList" "modCount" "I" (.int (mc + (1 : Int32))) ∧ Fld Z h t "java/util/ArrayList" "elementData" "[Ljava/lang/Object;" (.ref ea) ∧ Fld Z h t "java/util/ArrayList" "size" "I" (.int 1)) := by
  refine con_start (plainFor_of_name (by first | (simp [plainName, overriddenIn]; done) | decide +kernel)) (fr0 := fun m => mkF m 0 #[.val (.ref t), .val (.ref sn)] []) (fun m => by first | (simp [entryFrame, mkF, argsToLocals, Value.category]; done) | rfl) ?_
  intro p e s m below meth c T0 hx hZ hby hml hown hnm hret hlk hsh XA
  have X0 := XA n0
  have hlow : n0 ≤ s.heap.size := by rw [hsh]; exact hn0
  replace hown : s.vm.findClass "java/util/ArrayList" = some m.cls := hown
  replace hml : c.maxLocals = 2 := hml
  have n_t_ea : t ≠ ea := Exa.ne Et Ee (by decide)
  have n_t_sn : t ≠ sn := Exa.ne Et Es (by decide)
  have n_ea_sn : ea ≠ sn := Exa.ne Ee Es (by decide)
  refine g_aloadN X0 hx (pc' := 1) rfl (hD hby d21_0) rfl rfl ?_
  refine g_dup X0 hx (pc' := 2) rfl (hD hby d21_1) rfl ?_
  refine g_getF X0 hx hZ hown (wat hw 171 rfl) (Via.of (wat hw 172 rfl)) F_modCount (pc' := 5) rfl (hD hby d21_2) (fun T356 X356 => ?_)
  refine g_iconst X356 hx (pc' := 6) (z := (1 : Int32)) rfl (hD hby d21_5) rfl ?_
  refine g_iadd X356 hx (pc' := 7) rfl (hD hby d21_6) ?_
  refine g_putF X356 hx hZ hown (wat hw 171 rfl) (Via.of (wat hw 172 rfl)) F_modCount Et (Or.inl (wat hw 143 rfl)) (wat hw 124 rfl) (ty := .int) (by decide) rfl rfl hgt (pc' := 10) rfl (hD hby d21_7) (fun T357 h357 X357 W357 => ?_)
  have f358 := (by have q := (Keep.of_wr W357).1; exact Nat.le_trans hn0 q : n0 ≤ h357.size)
  have f359 := (Keep.refl h0 [t, ea]).wr W357 (Or.inl (List.mem_of_getElem? (i := 0) rfl))
  have f360 := Et.wr W357
  have f361 := F_modCount.same W357
  have f362 := F_elementData.other W357 (Or.inr (slot_ne (Or.inl (wat hw 147 rfl)) (Or.inl (wat hw 143 rfl)) (by decide) (t := (.array (.object "java/lang/Object"))) (t' := .int) (by decide) (by decide)))
  have f363 := F_size.other W357 (Or.inr (slot_ne (Or.inl (wat hw 174 rfl)) (Or.inl (wat hw 143 rfl)) (by decide) (t := .int) (t' := .int) (by decide) (by decide)))
  have f364 := Ae.other W357 n_t_ea.symm
  have f365 := Ee.wr W357
  have f366 := Es.wr W357
  refine g_aloadN X357 hx (pc' := 11) rfl (hD hby d21_10) rfl rfl ?_
  refine g_aloadN X357 hx (pc' := 12) rfl (hD hby d21_11) rfl rfl ?_
  refine g_aloadN X357 hx (pc' := 13) rfl (hD hby d21_12) rfl rfl ?_
  refine g_getF X357 hx hZ hown (wat hw 146 rfl) Via.refl f362 (pc' := 16) rfl (hD hby d21_13) (fun T367 X367 => ?_)
  refine g_aloadN X367 hx (pc' := 17) rfl (hD hby d21_16) rfl rfl ?_
  refine g_getF X367 hx hZ hown (wat hw 173 rfl) Via.refl f363 (pc' := 20) rfl (hD hby d21_17) (fun T368 X368 => ?_)
  refine g_callP X368 hx hZ hown (wat hw 175 rfl) (wat hw 176 rfl) (wat hw 178 rfl) (wat hw 177 rfl) (wat hw 125 rfl) (wat hw 179 rfl) (by decide) (a := t) f360 (rm22_0 l Z a0 hw [] n0 (Ts) t ea sn (mc + (1 : Int32)) h357 f358 f360 hgt f361 f362 f363 f364 f365 hge f366) pd_15 rfl rfl (by rw [hml]; rfl) (pc' := 23) rfl (hD hby d21_20) (argsL := [(.ref sn), (.ref ea), (.int 0)]) (rest := []) rfl (W := 0) (Nat.le_of_eq rfl) (by decide) (by decide) (by decide) (by decide) (fun v369 T369 h369 X369 hQ369 => ?_)
  obtain ⟨rfl, K369, V369, m369, e369, z369⟩ := hQ369
  have f370 := f359.trans K369 (allS (Or.inl (List.mem_of_getElem? (i := 0) rfl)) (allS (Or.inl (List.mem_of_getElem? (i := 1) rfl)) all0))
  have f371 := f360.keep K369
  have f372 := f365.keep K369
  have f373 := f366.keep K369
  have zs369 : n0 ≤ h369.size := Nat.le_trans f358 K369.1
  show Go p e below s n0 _ _ _ (T369.setTop (mkF m 23 _ []))
  refine g_iconst X369 hx (pc' := 24) (z := (1 : Int32)) rfl (hD hby d21_23) rfl ?_
  exact g_retZ X369 hx hlk hret (by first | exact Or.inl rfl | exact Or.inr rfl) (hD hby d21_24) (by decide) (by decide) (Nat.le_refl _) (⟨rfl, f370, V369, m369, e369, z369⟩)
set_option maxRecDepth 65536 in
set_option maxHeartbeats 40000000 in
theorem rm22_1 (l : Launch) (Z : State) (a0 : Array Value) (hw : ∀ d ∈ tables_1, d.before a0 Z = true) (ws : List Jvm.Cond) (n0 : Nat) (Ts : List String) (t ea s1 sn mr : Addr) (mc : Int32) (h0 : Heap) (hn0 : n0 ≤ h0.size) (MR : Mir0 Z "[Ljava/lang/Object;" mr) (Et : Exa Z h0 t "java/util/ArrayList") (hgt : n0 ≤ t) (F_modCount : Fld Z h0 t "java/util/AbstractList" "modCount" "I" (.int mc)) (F_elementData : Fld Z h0 t "java/util/ArrayList" "elementData" "[Ljava/lang/Object;" (.ref ea)) (F_size : Fld Z h0 t "java/util/ArrayList" "size" "I" (.int 1)) (Ae : AR Z h0 ea [.ref s1]) (Ee : Exa Z h0 ea "[Ljava/lang/Object;") (Es : Exa Z h0 s1 "com/example/loads_to_headways/loadstoheadways/sim/Stranding") (En : Exa Z h0 sn "com/example/loads_to_headways/loadstoheadways/sim/Stranding") :
    Con l Z n0 Ts (Ts) (⟨"java/util/ArrayList", "add", "(Ljava/lang/Object;[Ljava/lang/Object;I)V"⟩ : MethodName) jdk_38_method_24_code 4 none ws ({ frames := 5, cells := 1, slots := 2, locals := 168 } : Room) #[(.ref t), (.ref sn), (.ref ea), (.int 1)] h0 (fun v h => v = none ∧ Keep h0 h [t] ∧ ∃ b, n0 ≤ b ∧ h0.size ≤ b ∧ AR Z h b [.ref s1, .ref sn] ∧ Exa Z h b "[Ljava/lang/Object;" ∧ Fld Z h t "java/util/AbstractList" "modCount" "I" (.int mc) ∧ Fld Z h t "java/util/ArrayList" "elementData" "[Ljava/lang/Object;" (.ref b) ∧ Fld Z h t "java/util/ArrayList" "size" "I" (.int 2)) := by
  refine con_start (plainFor_of_name (by first | (simp [plainName, overriddenIn]; done) | decide +kernel)) (fr0 := fun m => mkF m 0 #[.val (.ref t), .val (.ref sn), .val (.ref ea), .val (.int 1)] []) (fun m => by first | (simp [entryFrame, mkF, argsToLocals, Value.category]; done) | rfl) ?_
  intro p e s m below meth c T0 hx hZ hby hml hown hnm hret hlk hsh XA
  have X0 := XA n0
  have hlow : n0 ≤ s.heap.size := by rw [hsh]; exact hn0
  replace hown : s.vm.findClass "java/util/ArrayList" = some m.cls := hown
  replace hml : c.maxLocals = 4 := hml
  have net_ea : t ≠ ea := Exa.ne Et Ee (by decide)
  have net_s1 : t ≠ s1 := Exa.ne Et Es (by decide)
  have nee_s1 : ea ≠ s1 := Exa.ne Ee Es (by decide)
  have n_t_sn : t ≠ sn := Exa.ne Et En (by decide)
  have n_ea_sn : ea ≠ sn := Exa.ne Ee En (by decide)
  refine g_iloadN X0 hx (pc' := 1) rfl (hD hby d22_0) rfl ?_
  refine g_aloadN X0 hx (pc' := 2) rfl (hD hby d22_1) rfl rfl ?_
  refine g_alenR X0 hx hZ Ae (z := (1 : Int32)) rfl (pc' := 3) rfl (hD hby d22_2) ?_
  refine g_icmpN X0 hx (pcN := 6) (hD hby d22_3) rfl (show ¬ (¬ (1 : Int32) = (1 : Int32)) from by decide) ?_
  refine g_aloadN X0 hx (pc' := 7) rfl (hD hby d22_6) rfl rfl ?_
  refine g_callP X0 hx hZ hown (wat hw 192 rfl) (wat hw 193 rfl) (wat hw 195 rfl) (wat hw 194 rfl) (wat hw 125 rfl) (wat hw 196 rfl) (by decide) (a := t) Et (rm25 l Z a0 hw [] n0 (Ts) t ea s1 mr mc h0 hn0 MR Et hgt F_modCount F_elementData F_size Ae Ee Es) pd_16 rfl rfl (by rw [hml]; rfl) (pc' := 10) rfl (hD hby d22_7) (argsL := []) (rest := []) rfl (W := 0) (Nat.le_of_eq rfl) (by decide) (by decide) (by decide) (by decide) (fun v374 T374 h374 X374 hQ374 => ?_)
  obtain ⟨b374, rfl, G374, S374, K374, V374, EV374, m374, e374, z374⟩ := hQ374
  have ne374_t : t ≠ b374 := Nat.ne_of_lt (Nat.lt_of_lt_of_le Et.lt S374)
  have ne374_ea : ea ≠ b374 := Nat.ne_of_lt (Nat.lt_of_lt_of_le Ae.lt S374)
  have ne374_s1 : s1 ≠ b374 := Nat.ne_of_lt (Nat.lt_of_lt_of_le Es.lt S374)
  have ne374_sn : sn ≠ b374 := Nat.ne_of_lt (Nat.lt_of_lt_of_le En.lt S374)
  have sz374 : h0.size ≤ b374 := Nat.le_trans (Keep.refl h0 [t]).1 S374
  have f375 := (Keep.refl h0 [t]).trans K374 (allS (Or.inl (List.mem_of_getElem? (i := 0) rfl)) all0)
  have f376 := Et.keep K374
  have f377 := Ae.keep K374 (ninS net_ea.symm nin0)
  have f378 := Ee.keep K374
  have f379 := Es.keep K374
  have f380 := En.keep K374
  have zs374 : n0 ≤ h374.size := Nat.le_trans hn0 K374.1
  show Go p e below s n0 _ _ _ (T374.setTop (mkF m 10 _ [(.ref b374)]))
  refine g_astoreN X374 hx (pc' := 11) rfl (hD hby d22_10) rfl (l' := #[.val (.ref t), .val (.ref sn), .val (.ref b374), .val (.int 1)]) rfl ?_
  refine g_aloadN X374 hx (pc' := 12) rfl (hD hby d22_11) rfl rfl ?_
  refine g_iloadN X374 hx (pc' := 13) rfl (hD hby d22_12) rfl ?_
  refine g_aloadN X374 hx (pc' := 14) rfl (hD hby d22_13) rfl rfl ?_
  refine g_aastore X374 hx hZ V374 (i := 1) (by decide) (show (1 : Nat) < 2 by decide) G374 (Ins.of_exa f380 (wat hw 180 rfl)) (pc' := 15) rfl (hD hby d22_14) (fun T381 h381 X381 W381 N381 => ?_)
  have f382 := (by have q := (Keep.of_wr W381).1; exact Nat.le_trans zs374 q : n0 ≤ h381.size)
  have f383 := f375.wr W381 (Or.inr sz374)
  have f384 := f376.wr W381
  have f385 := f377.other W381 ne374_ea
  have f386 := f378.wr W381
  have f387 := f379.wr W381
  have f388 := f380.wr W381
  have f389 := EV374.wr W381
  have f390 := m374.other W381 (Or.inl ne374_t)
  have f391 := e374.other W381 (Or.inl ne374_t)
  have f392 := z374.other W381 (Or.inl ne374_t)
  have V381 : AR Z h381 b374 [(.ref s1), (.ref sn)] := N381
  refine g_aloadN X381 hx (pc' := 16) rfl (hD hby d22_15) rfl rfl ?_
  refine g_iloadN X381 hx (pc' := 17) rfl (hD hby d22_16) rfl ?_
  refine g_iconst X381 hx (pc' := 18) (z := (1 : Int32)) rfl (hD hby d22_17) rfl ?_
  refine g_iadd X381 hx (pc' := 19) rfl (hD hby d22_18) ?_
  refine g_normI (z := (2 : Int32)) (by decide) ?_
  refine g_putF X381 hx hZ hown (wat hw 173 rfl) Via.refl f392 f384 (Or.inl (wat hw 174 rfl)) (wat hw 124 rfl) (ty := .int) (by decide) rfl rfl hgt (pc' := 22) rfl (hD hby d22_19) (fun T393 h393 X393 W393 => ?_)
  have f394 := (by have q := (Keep.of_wr W393).1; exact Nat.le_trans f382 q : n0 ≤ h393.size)
  have f395 := f383.wr W393 (Or.inl (List.mem_of_getElem? (i := 0) rfl))
  have f396 := f384.wr W393
  have f397 := f385.other W393 net_ea.symm
  have f398 := f386.wr W393
  have f399 := f387.wr W393
  have f400 := f388.wr W393
  have f401 := V381.other W393 ne374_t.symm
  have f402 := f389.wr W393
  have f403 := f390.other W393 (Or.inr (slot_ne (Or.inl (wat hw 143 rfl)) (Or.inl (wat hw 174 rfl)) (by decide) (t := .int) (t' := .int) (by decide) (by decide)))
  have f404 := f391.other W393 (Or.inr (slot_ne (Or.inl (wat hw 147 rfl)) (Or.inl (wat hw 174 rfl)) (by decide) (t := (.array (.object "java/lang/Object"))) (t' := .int) (by decide) (by decide)))
  have f405 := f392.same W393
  exact g_retV X393 hx hlk hret (hD hby d22_22) (by decide) (by decide) (Nat.le_refl _) (⟨rfl, f395, b374, G374, sz374, f401, f402, f403, f404, f405⟩)
set_option maxRecDepth 65536 in
set_option maxHeartbeats 40000000 in
theorem rm21_1 (l : Launch) (Z : State) (a0 : Array Value) (hw : ∀ d ∈ tables_1, d.before a0 Z = true) (ws : List Jvm.Cond) (n0 : Nat) (Ts : List String) (t ea s1 sn mr : Addr) (mc : Int32) (h0 : Heap) (hn0 : n0 ≤ h0.size) (MR : Mir0 Z "[Ljava/lang/Object;" mr) (Et : Exa Z h0 t "java/util/ArrayList") (hgt : n0 ≤ t) (F_modCount : Fld Z h0 t "java/util/AbstractList" "modCount" "I" (.int mc)) (F_elementData : Fld Z h0 t "java/util/ArrayList" "elementData" "[Ljava/lang/Object;" (.ref ea)) (F_size : Fld Z h0 t "java/util/ArrayList" "size" "I" (.int 1)) (Ae : AR Z h0 ea [.ref s1]) (Ee : Exa Z h0 ea "[Ljava/lang/Object;") (Es : Exa Z h0 s1 "com/example/loads_to_headways/loadstoheadways/sim/Stranding") (En : Exa Z h0 sn "com/example/loads_to_headways/loadstoheadways/sim/Stranding") :
    Con l Z n0 Ts (Ts) (⟨"java/util/ArrayList", "add", "(Ljava/lang/Object;)Z"⟩ : MethodName) jdk_38_method_25_code 2 (some .boolean) ws ({ frames := 6, cells := 1, slots := 2, locals := 192 } : Room) #[(.ref t), (.ref sn)] h0 (fun v h => v = some (.int 1) ∧ Keep h0 h [t] ∧ ∃ b, n0 ≤ b ∧ h0.size ≤ b ∧ AR Z h b [.ref s1, .ref sn] ∧ Exa Z h b "[Ljava/lang/Object;" ∧ Fld Z h t "java/util/AbstractList" "modCount" "I" (.int (mc + (1 : Int32))) ∧ Fld Z h t "java/util/ArrayList" "elementData" "[Ljava/lang/Object;" (.ref b) ∧ Fld Z h t "java/util/ArrayList" "size" "I" (.int 2)) := by
  refine con_start (plainFor_of_name (by first | (simp [plainName, overriddenIn]; done) | decide +kernel)) (fr0 := fun m => mkF m 0 #[.val (.ref t), .val (.ref sn)] []) (fun m => by first | (simp [entryFrame, mkF, argsToLocals, Value.category]; done) | rfl) ?_
  intro p e s m below meth c T0 hx hZ hby hml hown hnm hret hlk hsh XA
  have X0 := XA n0
  have hlow : n0 ≤ s.heap.size := by rw [hsh]; exact hn0
  replace hown : s.vm.findClass "java/util/ArrayList" = some m.cls := hown
  replace hml : c.maxLocals = 2 := hml
  have net_ea : t ≠ ea := Exa.ne Et Ee (by decide)
  have net_s1 : t ≠ s1 := Exa.ne Et Es (by decide)
  have nee_s1 : ea ≠ s1 := Exa.ne Ee Es (by decide)
  have n_t_sn : t ≠ sn := Exa.ne Et En (by decide)
  have n_ea_sn : ea ≠ sn := Exa.ne Ee En (by decide)
  refine g_aloadN X0 hx (pc' := 1) rfl (hD hby d21_0) rfl rfl ?_
  refine g_dup X0 hx (pc' := 2) rfl (hD hby d21_1) rfl ?_
  refine g_getF X0 hx hZ hown (wat hw 171 rfl) (Via.of (wat hw 172 rfl)) F_modCount (pc' := 5) rfl (hD hby d21_2) (fun T406 X406 => ?_)
  refine g_iconst X406 hx (pc' := 6) (z := (1 : Int32)) rfl (hD hby d21_5) rfl ?_
  refine g_iadd X406 hx (pc' := 7) rfl (hD hby d21_6) ?_
  refine g_putF X406 hx hZ hown (wat hw 171 rfl) (Via.of (wat hw 172 rfl)) F_modCount Et (Or.inl (wat hw 143 rfl)) (wat hw 124 rfl) (ty := .int) (by decide) rfl rfl hgt (pc' := 10) rfl (hD hby d21_7) (fun T407 h407 X407 W407 => ?_)
  have f408 := (by have q := (Keep.of_wr W407).1; exact Nat.le_trans hn0 q : n0 ≤ h407.size)
  have f409 := (Keep.refl h0 [t]).wr W407 (Or.inl (List.mem_of_getElem? (i := 0) rfl))
  have f410 := Et.wr W407
  have f411 := F_modCount.same W407
  have f412 := F_elementData.other W407 (Or.inr (slot_ne (Or.inl (wat hw 147 rfl)) (Or.inl (wat hw 143 rfl)) (by decide) (t := (.array (.object "java/lang/Object"))) (t' := .int) (by decide) (by decide)))
  have f413 := F_size.other W407 (Or.inr (slot_ne (Or.inl (wat hw 174 rfl)) (Or.inl (wat hw 143 rfl)) (by decide) (t := .int) (t' := .int) (by decide) (by decide)))
  have f414 := Ae.other W407 net_ea.symm
  have f415 := Ee.wr W407
  have f416 := Es.wr W407
  have f417 := En.wr W407
  refine g_aloadN X407 hx (pc' := 11) rfl (hD hby d21_10) rfl rfl ?_
  refine g_aloadN X407 hx (pc' := 12) rfl (hD hby d21_11) rfl rfl ?_
  refine g_aloadN X407 hx (pc' := 13) rfl (hD hby d21_12) rfl rfl ?_
  refine g_getF X407 hx hZ hown (wat hw 146 rfl) Via.refl f412 (pc' := 16) rfl (hD hby d21_13) (fun T418 X418 => ?_)
  refine g_aloadN X418 hx (pc' := 17) rfl (hD hby d21_16) rfl rfl ?_
  refine g_getF X418 hx hZ hown (wat hw 173 rfl) Via.refl f413 (pc' := 20) rfl (hD hby d21_17) (fun T419 X419 => ?_)
  refine g_callP X419 hx hZ hown (wat hw 175 rfl) (wat hw 176 rfl) (wat hw 178 rfl) (wat hw 177 rfl) (wat hw 125 rfl) (wat hw 179 rfl) (by decide) (a := t) f410 (rm22_1 l Z a0 hw [] n0 (Ts) t ea s1 sn mr (mc + (1 : Int32)) h407 f408 MR f410 hgt f411 f412 f413 f414 f415 f416 f417) pd_15 rfl rfl (by rw [hml]; rfl) (pc' := 23) rfl (hD hby d21_20) (argsL := [(.ref sn), (.ref ea), (.int 1)]) (rest := []) rfl (W := 0) (Nat.le_of_eq rfl) (by decide) (by decide) (by decide) (by decide) (fun v420 T420 h420 X420 hQ420 => ?_)
  obtain ⟨rfl, K420, b420, G420, S420, V420, EV420, m420, e420, z420⟩ := hQ420
  have ne420_t : t ≠ b420 := Nat.ne_of_lt (Nat.lt_of_lt_of_le f410.lt S420)
  have ne420_ea : ea ≠ b420 := Nat.ne_of_lt (Nat.lt_of_lt_of_le f414.lt S420)
  have ne420_s1 : s1 ≠ b420 := Nat.ne_of_lt (Nat.lt_of_lt_of_le f416.lt S420)
  have ne420_sn : sn ≠ b420 := Nat.ne_of_lt (Nat.lt_of_lt_of_le f417.lt S420)
  have sz420 : h0.size ≤ b420 := Nat.le_trans f409.1 S420
  have f421 := f409.trans K420 (allS (Or.inl (List.mem_of_getElem? (i := 0) rfl)) all0)
  have f422 := f410.keep K420
  have f423 := f414.keep K420 (ninS net_ea.symm nin0)
  have f424 := f415.keep K420
  have f425 := f416.keep K420
  have f426 := f417.keep K420
  have zs420 : n0 ≤ h420.size := Nat.le_trans f408 K420.1
  show Go p e below s n0 _ _ _ (T420.setTop (mkF m 23 _ []))
  refine g_iconst X420 hx (pc' := 24) (z := (1 : Int32)) rfl (hD hby d21_23) rfl ?_
  exact g_retZ X420 hx hlk hret (by first | exact Or.inl rfl | exact Or.inr rfl) (hD hby d21_24) (by decide) (by decide) (Nat.le_refl _) (⟨rfl, f421, b420, G420, sz420, V420, EV420, m420, e420, z420⟩)
def Lis1 (Z : State) (n0 : Nat) (h : Heap) (t : Addr) : Prop := ∃ ea s1 mc, Exa Z h t "java/util/ArrayList" ∧ n0 ≤ t ∧ Fld Z h t "java/util/AbstractList" "modCount" "I" (.int mc) ∧ Fld Z h t "java/util/ArrayList" "elementData" "[Ljava/lang/Object;" (.ref ea) ∧ Fld Z h t "java/util/ArrayList" "size" "I" (.int 1) ∧ AR Z h ea [.ref s1] ∧ Exa Z h ea "[Ljava/lang/Object;" ∧ n0 ≤ ea ∧ Sdg Z h s1 ∧ n0 ≤ s1
theorem Lis1.keepP {Z : State} {n0 : Nat} {h h' : Heap} {t p : Addr} (F : Lis1 Z n0 h t) (K : Keep h h' [p]) (E : Exa Z h p "com/example/loads_to_headways/loadstoheadways/sim/Passenger") : Lis1 Z n0 h' t := by
  obtain ⟨ea, s1, mc, a, b, m, e, z, v, x, y, d0, g0⟩ := F
  have q1 : t ∉ [p] := ninS (Exa.ne a E (by decide)) nin0
  have q2 : ea ∉ [p] := ninS (Exa.ne x E (by decide)) nin0
  have r0 : s1 ∉ [p] := ninS (Exa.ne d0.1 E (by decide)) nin0
  exact ⟨ea, s1, mc, a.keep K, b, m.keep K q1, e.keep K q1, z.keep K q1, v.keep K q2, x.keep K, y, d0.keep K r0, g0⟩
theorem Lis1.keep0 {Z : State} {n0 : Nat} {h h' : Heap} {t : Addr} (F : Lis1 Z n0 h t) (K : Keep h h' []) : Lis1 Z n0 h' t := by
  obtain ⟨ea, s1, mc, a, b, m, e, z, v, x, y, d0, g0⟩ := F
  have q1 : t ∉ ([] : List Addr) := nin0
  have q2 : ea ∉ ([] : List Addr) := nin0
  have r0 : s1 ∉ ([] : List Addr) := nin0
  exact ⟨ea, s1, mc, a.keep K, b, m.keep K q1, e.keep K q1, z.keep K q1, v.keep K q2, x.keep K, y, d0.keep K r0, g0⟩
def Lis2 (Z : State) (n0 : Nat) (h : Heap) (t : Addr) : Prop := ∃ ea s1 s2 mc, Exa Z h t "java/util/ArrayList" ∧ n0 ≤ t ∧ Fld Z h t "java/util/AbstractList" "modCount" "I" (.int mc) ∧ Fld Z h t "java/util/ArrayList" "elementData" "[Ljava/lang/Object;" (.ref ea) ∧ Fld Z h t "java/util/ArrayList" "size" "I" (.int 2) ∧ AR Z h ea [.ref s1, .ref s2] ∧ Exa Z h ea "[Ljava/lang/Object;" ∧ n0 ≤ ea ∧ Sdg Z h s1 ∧ n0 ≤ s1 ∧ Sdg Z h s2 ∧ n0 ≤ s2 ∧ s1 ≠ s2
theorem Lis2.keepP {Z : State} {n0 : Nat} {h h' : Heap} {t p : Addr} (F : Lis2 Z n0 h t) (K : Keep h h' [p]) (E : Exa Z h p "com/example/loads_to_headways/loadstoheadways/sim/Passenger") : Lis2 Z n0 h' t := by
  obtain ⟨ea, s1, s2, mc, a, b, m, e, z, v, x, y, d0, g0, d1, g1, nn⟩ := F
  have q1 : t ∉ [p] := ninS (Exa.ne a E (by decide)) nin0
  have q2 : ea ∉ [p] := ninS (Exa.ne x E (by decide)) nin0
  have r0 : s1 ∉ [p] := ninS (Exa.ne d0.1 E (by decide)) nin0
  have r1 : s2 ∉ [p] := ninS (Exa.ne d1.1 E (by decide)) nin0
  exact ⟨ea, s1, s2, mc, a.keep K, b, m.keep K q1, e.keep K q1, z.keep K q1, v.keep K q2, x.keep K, y, d0.keep K r0, g0, d1.keep K r1, g1, nn⟩
theorem Lis2.keep0 {Z : State} {n0 : Nat} {h h' : Heap} {t : Addr} (F : Lis2 Z n0 h t) (K : Keep h h' []) : Lis2 Z n0 h' t := by
  obtain ⟨ea, s1, s2, mc, a, b, m, e, z, v, x, y, d0, g0, d1, g1, nn⟩ := F
  have q1 : t ∉ ([] : List Addr) := nin0
  have q2 : ea ∉ ([] : List Addr) := nin0
  have r0 : s1 ∉ ([] : List Addr) := nin0
  have r1 : s2 ∉ ([] : List Addr) := nin0
  exact ⟨ea, s1, s2, mc, a.keep K, b, m.keep K q1, e.keep K q1, z.keep K q1, v.keep K q2, x.keep K, y, d0.keep K r0, g0, d1.keep K r1, g1, nn⟩
def EmL (Z : State) (h : Heap) (el : Addr) : Prop := Exa Z h el "java/util/ImmutableCollections$ListN" ∧ ∃ ee, Fld Z h el "java/util/ImmutableCollections$ListN" "elements" "[Ljava/lang/Object;" (.ref ee) ∧ AV Z h ee (.object "java/lang/Object") []
theorem EmL.ext {Z : State} {h h' : Heap} {el : Addr} (F : EmL Z h el) (E : Ext h h') : EmL Z h' el := by
  obtain ⟨a, ee, b, c⟩ := F
  exact ⟨a.ext E, ee, b.ext E, c.ext E⟩
def Inv0 (Z : State) (n0 : Nat) (el : Addr) (vid : Value) (h : Heap) (t : Addr) : Prop := Old Z n0 h ∧ n0 ≤ h.size ∧ n0 ≤ t ∧ Pas Z h t vid el
def Inv1 (Z : State) (n0 : Nat) (el : Addr) (vid : Value) (h : Heap) (t : Addr) : Prop := Old Z n0 h ∧ n0 ≤ h.size ∧ n0 ≤ t ∧ ∃ lst, Pas Z h t vid lst ∧ Lis1 Z n0 h lst
def Inv2 (Z : State) (n0 : Nat) (el : Addr) (vid : Value) (h : Heap) (t : Addr) : Prop := Old Z n0 h ∧ n0 ≤ h.size ∧ n0 ≤ t ∧ ∃ lst, Pas Z h t vid lst ∧ Lis2 Z n0 h lst
theorem Inv0.pas {Z : State} {n0 : Nat} {el : Addr} {vid : Value} {h : Heap} {t : Addr} (I : Inv0 Z n0 el vid h t) : ∃ lst, Pas Z h t vid lst := ⟨_, I.2.2.2⟩
theorem Inv0.keep0 {Z : State} {n0 : Nat} {el : Addr} {vid : Value} {h h' : Heap} {t : Addr} (I : Inv0 Z n0 el vid h t) (K : Keep h h' []) : Inv0 Z n0 el vid h' t := ⟨I.1.keep K all0, Nat.le_trans I.2.1 K.1, I.2.2.1, I.2.2.2.keep K nin0⟩
theorem Inv1.pas {Z : State} {n0 : Nat} {el : Addr} {vid : Value} {h : Heap} {t : Addr} (I : Inv1 Z n0 el vid h t) : ∃ lst, Pas Z h t vid lst := by obtain ⟨-, -, -, lst, p, -⟩ := I; exact ⟨_, p⟩
theorem Inv1.keep0 {Z : State} {n0 : Nat} {el : Addr} {vid : Value} {h h' : Heap} {t : Addr} (I : Inv1 Z n0 el vid h t) (K : Keep h h' []) : Inv1 Z n0 el vid h' t := by obtain ⟨o, z, g, lst, p, q⟩ := I; exact ⟨o.keep K all0, Nat.le_trans z K.1, g, lst, p.keep K nin0, q.keep0 K⟩
theorem Inv2.pas {Z : State} {n0 : Nat} {el : Addr} {vid : Value} {h : Heap} {t : Addr} (I : Inv2 Z n0 el vid h t) : ∃ lst, Pas Z h t vid lst := by obtain ⟨-, -, -, lst, p, -⟩ := I; exact ⟨_, p⟩
theorem Inv2.keep0 {Z : State} {n0 : Nat} {el : Addr} {vid : Value} {h h' : Heap} {t : Addr} (I : Inv2 Z n0 el vid h t) (K : Keep h h' []) : Inv2 Z n0 el vid h' t := by obtain ⟨o, z, g, lst, p, q⟩ := I; exact ⟨o.keep K all0, Nat.le_trans z K.1, g, lst, p.keep K nin0, q.keep0 K⟩
set_option maxRecDepth 65536 in
set_option maxHeartbeats 40000000 in
theorem rm23_i0 (l : Launch) (Z : State) (a0 : Array Value) (hw : ∀ d ∈ tables_1, d.before a0 Z = true) (ws : List Jvm.Cond) (n0 : Nat) (Ts : List String) (t el : Addr) (vid : Value) (x' : UInt64) (h0 : Heap) (hn0 : n0 ≤ h0.size) (I0 : Inv0 Z n0 el vid h0 t) :
    Con l Z n0 Ts (Ts) (⟨"com/example/loads_to_headways/loadstoheadways/sim/Passenger", "alight", "(D)V"⟩ : MethodName) prog_48_method_18_code 3 none ws ({ frames := 0, cells := 0, slots := 0, locals := 0 } : Room) #[(.ref t), (.double x')] h0 (fun v h => v = none ∧ Inv0 Z n0 el vid h t) := by
  refine con_start (plainFor_of_name (by first | (simp [plainName, overriddenIn]; done) | decide +kernel)) (fr0 := fun m => mkF m 0 #[.val (.ref t), .val (.double x'), .second] []) (fun m => by first | (simp [entryFrame, mkF, argsToLocals, Value.category]; done) | rfl) ?_
  intro p e s m below meth c T0 hx hZ hby hml hown hnm hret hlk hsh XA
  have X0 := XA n0
  have hlow : n0 ≤ s.heap.size := by rw [hsh]; exact hn0
  replace hown : s.vm.findClass "com/example/loads_to_headways/loadstoheadways/sim/Passenger" = some m.cls := hown
  replace hml : c.maxLocals = 3 := hml
  obtain ⟨OLD, hz, hgt, P0⟩ := I0
  obtain ⟨Ep, Fvid, Flst, ⟨bd, Fbd⟩, ⟨ad, Fad⟩, zb, Fzb⟩ := P0
  refine g_aloadN X0 hx (pc' := 1) rfl (hD hby d23_0) rfl rfl ?_
  refine g_dloadN X0 hx (pc' := 2) rfl (hD hby d23_1) rfl ?_
  refine g_putF X0 hx hZ hown (wat hw 55 rfl) Via.refl Fad Ep (Or.inl (wat hw 56 rfl)) (wat hw 46 rfl) (ty := .double) (by decide) rfl rfl hgt (pc' := 5) rfl (hD hby d23_2) (fun T427 h427 X427 W427 => ?_)
  have f428 := (by have q := (Keep.of_wr W427).1; exact Nat.le_trans hn0 q : n0 ≤ h427.size)
  have f429 := OLD.wr W427 hgt
  have f430 := Ep.wr W427
  have f431 := Fvid.other W427 (Or.inr (slot_ne (Or.inl (wat hw 79 rfl)) (Or.inl (wat hw 56 rfl)) (by decide) (t := (.object "java/lang/String")) (t' := .double) (by decide) (by decide)))
  have f432 := Flst.other W427 (Or.inr (slot_ne (Or.inl (wat hw 64 rfl)) (Or.inl (wat hw 56 rfl)) (by decide) (t := (.object "java/util/List")) (t' := .double) (by decide) (by decide)))
  have f433 := Fbd.other W427 (Or.inr (slot_ne (Or.inl (wat hw 54 rfl)) (Or.inl (wat hw 56 rfl)) (by decide) (t := .double) (t' := .double) (by decide) (by decide)))
  have f434 := Fad.same W427
  have f435 := Fzb.other W427 (Or.inr (slot_ne (Or.inl (wat hw 104 rfl)) (Or.inl (wat hw 56 rfl)) (by decide) (t := .boolean) (t' := .double) (by decide) (by decide)))
  have f436 := (Keep.refl h0 [t]).wr W427 (Or.inl (List.mem_of_getElem? (i := 0) rfl))
  refine g_aloadN X427 hx (pc' := 6) rfl (hD hby d23_5) rfl rfl ?_
  refine g_iconst X427 hx (pc' := 7) (z := (0 : Int32)) rfl (hD hby d23_6) rfl ?_
  refine g_putF X427 hx hZ hown (wat hw 103 rfl) Via.refl f435 f430 (Or.inl (wat hw 104 rfl)) (wat hw 46 rfl) (ty := .boolean) (by decide) rfl rfl hgt (pc' := 10) rfl (hD hby d23_7) (fun T437 h437 X437 W437 => ?_)
  have f438 := (by have q := (Keep.of_wr W437).1; exact Nat.le_trans f428 q : n0 ≤ h437.size)
  have f439 := f429.wr W437 hgt
  have f440 := f430.wr W437
  have f441 := f431.other W437 (Or.inr (slot_ne (Or.inl (wat hw 79 rfl)) (Or.inl (wat hw 104 rfl)) (by decide) (t := (.object "java/lang/String")) (t' := .boolean) (by decide) (by decide)))
  have f442 := f432.other W437 (Or.inr (slot_ne (Or.inl (wat hw 64 rfl)) (Or.inl (wat hw 104 rfl)) (by decide) (t := (.object "java/util/List")) (t' := .boolean) (by decide) (by decide)))
  have f443 := f433.other W437 (Or.inr (slot_ne (Or.inl (wat hw 54 rfl)) (Or.inl (wat hw 104 rfl)) (by decide) (t := .double) (t' := .boolean) (by decide) (by decide)))
  have f444 := f434.other W437 (Or.inr (slot_ne (Or.inl (wat hw 56 rfl)) (Or.inl (wat hw 104 rfl)) (by decide) (t := .double) (t' := .boolean) (by decide) (by decide)))
  have f445 := f435.same W437
  have f446 := f436.wr W437 (Or.inl (List.mem_of_getElem? (i := 0) rfl))
  exact g_retV X437 hx hlk hret (hD hby d23_10) (by decide) (by decide) (Nat.le_refl _) (⟨rfl, ⟨f439, f438, hgt, ⟨f440, f441, f442, ⟨_, f443⟩, ⟨_, f444⟩, _, f445⟩⟩⟩)
set_option maxRecDepth 65536 in
set_option maxHeartbeats 40000000 in
theorem rm14_in0 (l : Launch) (Z : State) (a0 : Array Value) (hw : ∀ d ∈ tables_1, d.before a0 Z = true) (ws : List Jvm.Cond) (n0 : Nat) (Ts : List String) (t el : Addr) (vr : Addr) (x' : UInt64) (h0 : Heap) (hn0 : n0 ≤ h0.size) (I0 : Inv0 Z n0 el .null h0 t) :
    Con l Z n0 Ts (Ts) (⟨"com/example/loads_to_headways/loadstoheadways/sim/Passenger", "board", "(Ljava/lang/String;D)V"⟩ : MethodName) prog_48_method_17_code 4 none ws ({ frames := 0, cells := 0, slots := 0, locals := 0 } : Room) #[(.ref t), (.ref vr), (.double x')] h0 (fun v h => v = none ∧ Inv0 Z n0 el (.ref vr) h t) := by
  refine con_start (plainFor_of_name (by first | (simp [plainName, overriddenIn]; done) | decide +kernel)) (fr0 := fun m => mkF m 0 #[.val (.ref t), .val (.ref vr), .val (.double x'), .second] []) (fun m => by first | (simp [entryFrame, mkF, argsToLocals, Value.category]; done) | rfl) ?_
  intro p e s m below meth c T0 hx hZ hby hml hown hnm hret hlk hsh XA
  have X0 := XA n0
  have hlow : n0 ≤ s.heap.size := by rw [hsh]; exact hn0
  replace hown : s.vm.findClass "com/example/loads_to_headways/loadstoheadways/sim/Passenger" = some m.cls := hown
  replace hml : c.maxLocals = 4 := hml
  obtain ⟨OLD, hz, hgt, P0⟩ := I0
  obtain ⟨Ep, Fvid, Flst, ⟨bd, Fbd⟩, ⟨ad, Fad⟩, zb, Fzb⟩ := P0
  refine g_aloadN X0 hx (pc' := 1) rfl (hD hby d14_0) rfl rfl ?_
  refine g_getF X0 hx hZ hown (wat hw 78 rfl) Via.refl Fvid (pc' := 4) rfl (hD hby d14_1) (fun T447 X447 => ?_)
  refine g_ifnonnullN X447 hx (pcN := 7) (hD hby d14_4) rfl ?_
  refine g_aloadN X447 hx (pc' := 8) rfl (hD hby d14_7) rfl rfl ?_
  refine g_aloadN X447 hx (pc' := 9) rfl (hD hby d14_8) rfl rfl ?_
  refine g_putF X447 hx hZ hown (wat hw 78 rfl) Via.refl Fvid Ep (Or.inl (wat hw 79 rfl)) (wat hw 46 rfl) (ty := (.object "java/lang/String")) (by decide) rfl rfl hgt (pc' := 12) rfl (hD hby d14_9) (fun T448 h448 X448 W448 => ?_)
  have f449 := (by have q := (Keep.of_wr W448).1; exact Nat.le_trans hn0 q : n0 ≤ h448.size)
  have f450 := OLD.wr W448 hgt
  have f451 := Ep.wr W448
  have f452 := Fvid.same W448
  have f453 := Flst.other W448 (Or.inr (slot_ne (Or.inl (wat hw 64 rfl)) (Or.inl (wat hw 79 rfl)) (by decide) (t := (.object "java/util/List")) (t' := (.object "java/lang/String")) (by decide) (by decide)))
  have f454 := Fbd.other W448 (Or.inr (slot_ne (Or.inl (wat hw 54 rfl)) (Or.inl (wat hw 79 rfl)) (by decide) (t := .double) (t' := (.object "java/lang/String")) (by decide) (by decide)))
  have f455 := Fad.other W448 (Or.inr (slot_ne (Or.inl (wat hw 56 rfl)) (Or.inl (wat hw 79 rfl)) (by decide) (t := .double) (t' := (.object "java/lang/String")) (by decide) (by decide)))
  have f456 := Fzb.other W448 (Or.inr (slot_ne (Or.inl (wat hw 104 rfl)) (Or.inl (wat hw 79 rfl)) (by decide) (t := .boolean) (t' := (.object "java/lang/String")) (by decide) (by decide)))
  have f457 := (Keep.refl h0 [t]).wr W448 (Or.inl (List.mem_of_getElem? (i := 0) rfl))
  refine g_aloadN X448 hx (pc' := 13) rfl (hD hby d14_12) rfl rfl ?_
  refine g_dloadN X448 hx (pc' := 14) rfl (hD hby d14_13) rfl ?_
  refine g_putF X448 hx hZ hown (wat hw 53 rfl) Via.refl f454 f451 (Or.inl (wat hw 54 rfl)) (wat hw 46 rfl) (ty := .double) (by decide) rfl rfl hgt (pc' := 17) rfl (hD hby d14_14) (fun T458 h458 X458 W458 => ?_)
  have f459 := (by have q := (Keep.of_wr W458).1; exact Nat.le_trans f449 q : n0 ≤ h458.size)
  have f460 := f450.wr W458 hgt
  have f461 := f451.wr W458
  have f462 := f452.other W458 (Or.inr (slot_ne (Or.inl (wat hw 79 rfl)) (Or.inl (wat hw 54 rfl)) (by decide) (t := (.object "java/lang/String")) (t' := .double) (by decide) (by decide)))
  have f463 := f453.other W458 (Or.inr (slot_ne (Or.inl (wat hw 64 rfl)) (Or.inl (wat hw 54 rfl)) (by decide) (t := (.object "java/util/List")) (t' := .double) (by decide) (by decide)))
  have f464 := f454.same W458
  have f465 := f455.other W458 (Or.inr (slot_ne (Or.inl (wat hw 56 rfl)) (Or.inl (wat hw 54 rfl)) (by decide) (t := .double) (t' := .double) (by decide) (by decide)))
  have f466 := f456.other W458 (Or.inr (slot_ne (Or.inl (wat hw 104 rfl)) (Or.inl (wat hw 54 rfl)) (by decide) (t := .boolean) (t' := .double) (by decide) (by decide)))
  have f467 := f457.wr W458 (Or.inl (List.mem_of_getElem? (i := 0) rfl))
  refine g_goto X458 hx (pc' := 48) (hD hby d14_17) (by decide) (by decide) ?_
  refine g_aloadN X458 hx (pc' := 49) rfl (hD hby d14_48) rfl rfl ?_
  refine g_iconst X458 hx (pc' := 50) (z := (1 : Int32)) rfl (hD hby d14_49) rfl ?_
  refine g_putF X458 hx hZ hown (wat hw 103 rfl) Via.refl f466 f461 (Or.inl (wat hw 104 rfl)) (wat hw 46 rfl) (ty := .boolean) (by decide) rfl rfl hgt (pc' := 53) rfl (hD hby d14_50) (fun T468 h468 X468 W468 => ?_)
  have f469 := (by have q := (Keep.of_wr W468).1; exact Nat.le_trans f459 q : n0 ≤ h468.size)
  have f470 := f460.wr W468 hgt
  have f471 := f461.wr W468
  have f472 := f462.other W468 (Or.inr (slot_ne (Or.inl (wat hw 79 rfl)) (Or.inl (wat hw 104 rfl)) (by decide) (t := (.object "java/lang/String")) (t' := .boolean) (by decide) (by decide)))
  have f473 := f463.other W468 (Or.inr (slot_ne (Or.inl (wat hw 64 rfl)) (Or.inl (wat hw 104 rfl)) (by decide) (t := (.object "java/util/List")) (t' := .boolean) (by decide) (by decide)))
  have f474 := f464.other W468 (Or.inr (slot_ne (Or.inl (wat hw 54 rfl)) (Or.inl (wat hw 104 rfl)) (by decide) (t := .double) (t' := .boolean) (by decide) (by decide)))
  have f475 := f465.other W468 (Or.inr (slot_ne (Or.inl (wat hw 56 rfl)) (Or.inl (wat hw 104 rfl)) (by decide) (t := .double) (t' := .boolean) (by decide) (by decide)))
  have f476 := f466.same W468
  have f477 := f467.wr W468 (Or.inl (List.mem_of_getElem? (i := 0) rfl))
  exact g_retV X468 hx hlk hret (hD hby d14_53) (by decide) (by decide) (Nat.le_refl _) (⟨rfl, ⟨f470, f469, hgt, ⟨f471, f472, f473, ⟨_, f474⟩, ⟨_, f475⟩, _, f476⟩⟩⟩)
set_option maxRecDepth 65536 in
set_option maxHeartbeats 40000000 in
theorem rm23_i1 (l : Launch) (Z : State) (a0 : Array Value) (hw : ∀ d ∈ tables_1, d.before a0 Z = true) (ws : List Jvm.Cond) (n0 : Nat) (Ts : List String) (t el : Addr) (vid : Value) (x' : UInt64) (h0 : Heap) (hn0 : n0 ≤ h0.size) (I0 : Inv1 Z n0 el vid h0 t) :
    Con l Z n0 Ts (Ts) (⟨"com/example/loads_to_headways/loadstoheadways/sim/Passenger", "alight", "(D)V"⟩ : MethodName) prog_48_method_18_code 3 none ws ({ frames := 0, cells := 0, slots := 0, locals := 0 } : Room) #[(.ref t), (.double x')] h0 (fun v h => v = none ∧ Inv1 Z n0 el vid h t) := by
  refine con_start (plainFor_of_name (by first | (simp [plainName, overriddenIn]; done) | decide +kernel)) (fr0 := fun m => mkF m 0 #[.val (.ref t), .val (.double x'), .second] []) (fun m => by first | (simp [entryFrame, mkF, argsToLocals, Value.category]; done) | rfl) ?_
  intro p e s m below meth c T0 hx hZ hby hml hown hnm hret hlk hsh XA
  have X0 := XA n0
  have hlow : n0 ≤ s.heap.size := by rw [hsh]; exact hn0
  replace hown : s.vm.findClass "com/example/loads_to_headways/loadstoheadways/sim/Passenger" = some m.cls := hown
  replace hml : c.maxLocals = 3 := hml
  obtain ⟨OLD, hz, hgt, lst, P0, L0⟩ := I0
  obtain ⟨Ep, Fvid, Flst, ⟨bd, Fbd⟩, ⟨ad, Fad⟩, zb, Fzb⟩ := P0
  refine g_aloadN X0 hx (pc' := 1) rfl (hD hby d23_0) rfl rfl ?_
  refine g_dloadN X0 hx (pc' := 2) rfl (hD hby d23_1) rfl ?_
  refine g_putF X0 hx hZ hown (wat hw 55 rfl) Via.refl Fad Ep (Or.inl (wat hw 56 rfl)) (wat hw 46 rfl) (ty := .double) (by decide) rfl rfl hgt (pc' := 5) rfl (hD hby d23_2) (fun T478 h478 X478 W478 => ?_)
  have f479 := (by have q := (Keep.of_wr W478).1; exact Nat.le_trans hn0 q : n0 ≤ h478.size)
  have f480 := OLD.wr W478 hgt
  have f481 := Ep.wr W478
  have f482 := Fvid.other W478 (Or.inr (slot_ne (Or.inl (wat hw 79 rfl)) (Or.inl (wat hw 56 rfl)) (by decide) (t := (.object "java/lang/String")) (t' := .double) (by decide) (by decide)))
  have f483 := Flst.other W478 (Or.inr (slot_ne (Or.inl (wat hw 64 rfl)) (Or.inl (wat hw 56 rfl)) (by decide) (t := (.object "java/util/List")) (t' := .double) (by decide) (by decide)))
  have f484 := Fbd.other W478 (Or.inr (slot_ne (Or.inl (wat hw 54 rfl)) (Or.inl (wat hw 56 rfl)) (by decide) (t := .double) (t' := .double) (by decide) (by decide)))
  have f485 := Fad.same W478
  have f486 := Fzb.other W478 (Or.inr (slot_ne (Or.inl (wat hw 104 rfl)) (Or.inl (wat hw 56 rfl)) (by decide) (t := .boolean) (t' := .double) (by decide) (by decide)))
  have f487 := (Keep.refl h0 [t]).wr W478 (Or.inl (List.mem_of_getElem? (i := 0) rfl))
  refine g_aloadN X478 hx (pc' := 6) rfl (hD hby d23_5) rfl rfl ?_
  refine g_iconst X478 hx (pc' := 7) (z := (0 : Int32)) rfl (hD hby d23_6) rfl ?_
  refine g_putF X478 hx hZ hown (wat hw 103 rfl) Via.refl f486 f481 (Or.inl (wat hw 104 rfl)) (wat hw 46 rfl) (ty := .boolean) (by decide) rfl rfl hgt (pc' := 10) rfl (hD hby d23_7) (fun T488 h488 X488 W488 => ?_)
  have f489 := (by have q := (Keep.of_wr W488).1; exact Nat.le_trans f479 q : n0 ≤ h488.size)
  have f490 := f480.wr W488 hgt
  have f491 := f481.wr W488
  have f492 := f482.other W488 (Or.inr (slot_ne (Or.inl (wat hw 79 rfl)) (Or.inl (wat hw 104 rfl)) (by decide) (t := (.object "java/lang/String")) (t' := .boolean) (by decide) (by decide)))
  have f493 := f483.other W488 (Or.inr (slot_ne (Or.inl (wat hw 64 rfl)) (Or.inl (wat hw 104 rfl)) (by decide) (t := (.object "java/util/List")) (t' := .boolean) (by decide) (by decide)))
  have f494 := f484.other W488 (Or.inr (slot_ne (Or.inl (wat hw 54 rfl)) (Or.inl (wat hw 104 rfl)) (by decide) (t := .double) (t' := .boolean) (by decide) (by decide)))
  have f495 := f485.other W488 (Or.inr (slot_ne (Or.inl (wat hw 56 rfl)) (Or.inl (wat hw 104 rfl)) (by decide) (t := .double) (t' := .boolean) (by decide) (by decide)))
  have f496 := f486.same W488
  have f497 := f487.wr W488 (Or.inl (List.mem_of_getElem? (i := 0) rfl))
  exact g_retV X488 hx hlk hret (hD hby d23_10) (by decide) (by decide) (Nat.le_refl _) (⟨rfl, ⟨f490, f489, hgt, lst, ⟨f491, f492, f493, ⟨_, f494⟩, ⟨_, f495⟩, _, f496⟩, L0.keepP f497 Ep⟩⟩)
set_option maxRecDepth 65536 in
set_option maxHeartbeats 40000000 in
theorem rm14_in1 (l : Launch) (Z : State) (a0 : Array Value) (hw : ∀ d ∈ tables_1, d.before a0 Z = true) (ws : List Jvm.Cond) (n0 : Nat) (Ts : List String) (t el : Addr) (vr : Addr) (x' : UInt64) (h0 : Heap) (hn0 : n0 ≤ h0.size) (I0 : Inv1 Z n0 el .null h0 t) :
    Con l Z n0 Ts (Ts) (⟨"com/example/loads_to_headways/loadstoheadways/sim/Passenger", "board", "(Ljava/lang/String;D)V"⟩ : MethodName) prog_48_method_17_code 4 none ws ({ frames := 0, cells := 0, slots := 0, locals := 0 } : Room) #[(.ref t), (.ref vr), (.double x')] h0 (fun v h => v = none ∧ Inv1 Z n0 el (.ref vr) h t) := by
  refine con_start (plainFor_of_name (by first | (simp [plainName, overriddenIn]; done) | decide +kernel)) (fr0 := fun m => mkF m 0 #[.val (.ref t), .val (.ref vr), .val (.double x'), .second] []) (fun m => by first | (simp [entryFrame, mkF, argsToLocals, Value.category]; done) | rfl) ?_
  intro p e s m below meth c T0 hx hZ hby hml hown hnm hret hlk hsh XA
  have X0 := XA n0
  have hlow : n0 ≤ s.heap.size := by rw [hsh]; exact hn0
  replace hown : s.vm.findClass "com/example/loads_to_headways/loadstoheadways/sim/Passenger" = some m.cls := hown
  replace hml : c.maxLocals = 4 := hml
  obtain ⟨OLD, hz, hgt, lst, P0, L0⟩ := I0
  obtain ⟨Ep, Fvid, Flst, ⟨bd, Fbd⟩, ⟨ad, Fad⟩, zb, Fzb⟩ := P0
  refine g_aloadN X0 hx (pc' := 1) rfl (hD hby d14_0) rfl rfl ?_
  refine g_getF X0 hx hZ hown (wat hw 78 rfl) Via.refl Fvid (pc' := 4) rfl (hD hby d14_1) (fun T498 X498 => ?_)
  refine g_ifnonnullN X498 hx (pcN := 7) (hD hby d14_4) rfl ?_
  refine g_aloadN X498 hx (pc' := 8) rfl (hD hby d14_7) rfl rfl ?_
  refine g_aloadN X498 hx (pc' := 9) rfl (hD hby d14_8) rfl rfl ?_
  refine g_putF X498 hx hZ hown (wat hw 78 rfl) Via.refl Fvid Ep (Or.inl (wat hw 79 rfl)) (wat hw 46 rfl) (ty := (.object "java/lang/String")) (by decide) rfl rfl hgt (pc' := 12) rfl (hD hby d14_9) (fun T499 h499 X499 W499 => ?_)
  have f500 := (by have q := (Keep.of_wr W499).1; exact Nat.le_trans hn0 q : n0 ≤ h499.size)
  have f501 := OLD.wr W499 hgt
  have f502 := Ep.wr W499
  have f503 := Fvid.same W499
  have f504 := Flst.other W499 (Or.inr (slot_ne (Or.inl (wat hw 64 rfl)) (Or.inl (wat hw 79 rfl)) (by decide) (t := (.object "java/util/List")) (t' := (.object "java/lang/String")) (by decide) (by decide)))
  have f505 := Fbd.other W499 (Or.inr (slot_ne (Or.inl (wat hw 54 rfl)) (Or.inl (wat hw 79 rfl)) (by decide) (t := .double) (t' := (.object "java/lang/String")) (by decide) (by decide)))
  have f506 := Fad.other W499 (Or.inr (slot_ne (Or.inl (wat hw 56 rfl)) (Or.inl (wat hw 79 rfl)) (by decide) (t := .double) (t' := (.object "java/lang/String")) (by decide) (by decide)))
  have f507 := Fzb.other W499 (Or.inr (slot_ne (Or.inl (wat hw 104 rfl)) (Or.inl (wat hw 79 rfl)) (by decide) (t := .boolean) (t' := (.object "java/lang/String")) (by decide) (by decide)))
  have f508 := (Keep.refl h0 [t]).wr W499 (Or.inl (List.mem_of_getElem? (i := 0) rfl))
  refine g_aloadN X499 hx (pc' := 13) rfl (hD hby d14_12) rfl rfl ?_
  refine g_dloadN X499 hx (pc' := 14) rfl (hD hby d14_13) rfl ?_
  refine g_putF X499 hx hZ hown (wat hw 53 rfl) Via.refl f505 f502 (Or.inl (wat hw 54 rfl)) (wat hw 46 rfl) (ty := .double) (by decide) rfl rfl hgt (pc' := 17) rfl (hD hby d14_14) (fun T509 h509 X509 W509 => ?_)
  have f510 := (by have q := (Keep.of_wr W509).1; exact Nat.le_trans f500 q : n0 ≤ h509.size)
  have f511 := f501.wr W509 hgt
  have f512 := f502.wr W509
  have f513 := f503.other W509 (Or.inr (slot_ne (Or.inl (wat hw 79 rfl)) (Or.inl (wat hw 54 rfl)) (by decide) (t := (.object "java/lang/String")) (t' := .double) (by decide) (by decide)))
  have f514 := f504.other W509 (Or.inr (slot_ne (Or.inl (wat hw 64 rfl)) (Or.inl (wat hw 54 rfl)) (by decide) (t := (.object "java/util/List")) (t' := .double) (by decide) (by decide)))
  have f515 := f505.same W509
  have f516 := f506.other W509 (Or.inr (slot_ne (Or.inl (wat hw 56 rfl)) (Or.inl (wat hw 54 rfl)) (by decide) (t := .double) (t' := .double) (by decide) (by decide)))
  have f517 := f507.other W509 (Or.inr (slot_ne (Or.inl (wat hw 104 rfl)) (Or.inl (wat hw 54 rfl)) (by decide) (t := .boolean) (t' := .double) (by decide) (by decide)))
  have f518 := f508.wr W509 (Or.inl (List.mem_of_getElem? (i := 0) rfl))
  refine g_goto X509 hx (pc' := 48) (hD hby d14_17) (by decide) (by decide) ?_
  refine g_aloadN X509 hx (pc' := 49) rfl (hD hby d14_48) rfl rfl ?_
  refine g_iconst X509 hx (pc' := 50) (z := (1 : Int32)) rfl (hD hby d14_49) rfl ?_
  refine g_putF X509 hx hZ hown (wat hw 103 rfl) Via.refl f517 f512 (Or.inl (wat hw 104 rfl)) (wat hw 46 rfl) (ty := .boolean) (by decide) rfl rfl hgt (pc' := 53) rfl (hD hby d14_50) (fun T519 h519 X519 W519 => ?_)
  have f520 := (by have q := (Keep.of_wr W519).1; exact Nat.le_trans f510 q : n0 ≤ h519.size)
  have f521 := f511.wr W519 hgt
  have f522 := f512.wr W519
  have f523 := f513.other W519 (Or.inr (slot_ne (Or.inl (wat hw 79 rfl)) (Or.inl (wat hw 104 rfl)) (by decide) (t := (.object "java/lang/String")) (t' := .boolean) (by decide) (by decide)))
  have f524 := f514.other W519 (Or.inr (slot_ne (Or.inl (wat hw 64 rfl)) (Or.inl (wat hw 104 rfl)) (by decide) (t := (.object "java/util/List")) (t' := .boolean) (by decide) (by decide)))
  have f525 := f515.other W519 (Or.inr (slot_ne (Or.inl (wat hw 54 rfl)) (Or.inl (wat hw 104 rfl)) (by decide) (t := .double) (t' := .boolean) (by decide) (by decide)))
  have f526 := f516.other W519 (Or.inr (slot_ne (Or.inl (wat hw 56 rfl)) (Or.inl (wat hw 104 rfl)) (by decide) (t := .double) (t' := .boolean) (by decide) (by decide)))
  have f527 := f517.same W519
  have f528 := f518.wr W519 (Or.inl (List.mem_of_getElem? (i := 0) rfl))
  exact g_retV X519 hx hlk hret (hD hby d14_53) (by decide) (by decide) (Nat.le_refl _) (⟨rfl, ⟨f521, f520, hgt, lst, ⟨f522, f523, f524, ⟨_, f525⟩, ⟨_, f526⟩, _, f527⟩, L0.keepP f528 Ep⟩⟩)
set_option maxRecDepth 65536 in
set_option maxHeartbeats 40000000 in
theorem rm23_i2 (l : Launch) (Z : State) (a0 : Array Value) (hw : ∀ d ∈ tables_1, d.before a0 Z = true) (ws : List Jvm.Cond) (n0 : Nat) (Ts : List String) (t el : Addr) (vid : Value) (x' : UInt64) (h0 : Heap) (hn0 : n0 ≤ h0.size) (I0 : Inv2 Z n0 el vid h0 t) :
    Con l Z n0 Ts (Ts) (⟨"com/example/loads_to_headways/loadstoheadways/sim/Passenger", "alight", "(D)V"⟩ : MethodName) prog_48_method_18_code 3 none ws ({ frames := 0, cells := 0, slots := 0, locals := 0 } : Room) #[(.ref t), (.double x')] h0 (fun v h => v = none ∧ Inv2 Z n0 el vid h t) := by
  refine con_start (plainFor_of_name (by first | (simp [plainName, overriddenIn]; done) | decide +kernel)) (fr0 := fun m => mkF m 0 #[.val (.ref t), .val (.double x'), .second] []) (fun m => by first | (simp [entryFrame, mkF, argsToLocals, Value.category]; done) | rfl) ?_
  intro p e s m below meth c T0 hx hZ hby hml hown hnm hret hlk hsh XA
  have X0 := XA n0
  have hlow : n0 ≤ s.heap.size := by rw [hsh]; exact hn0
  replace hown : s.vm.findClass "com/example/loads_to_headways/loadstoheadways/sim/Passenger" = some m.cls := hown
  replace hml : c.maxLocals = 3 := hml
  obtain ⟨OLD, hz, hgt, lst, P0, L0⟩ := I0
  obtain ⟨Ep, Fvid, Flst, ⟨bd, Fbd⟩, ⟨ad, Fad⟩, zb, Fzb⟩ := P0
  refine g_aloadN X0 hx (pc' := 1) rfl (hD hby d23_0) rfl rfl ?_
  refine g_dloadN X0 hx (pc' := 2) rfl (hD hby d23_1) rfl ?_
  refine g_putF X0 hx hZ hown (wat hw 55 rfl) Via.refl Fad Ep (Or.inl (wat hw 56 rfl)) (wat hw 46 rfl) (ty := .double) (by decide) rfl rfl hgt (pc' := 5) rfl (hD hby d23_2) (fun T529 h529 X529 W529 => ?_)
  have f530 := (by have q := (Keep.of_wr W529).1; exact Nat.le_trans hn0 q : n0 ≤ h529.size)
  have f531 := OLD.wr W529 hgt
  have f532 := Ep.wr W529
  have f533 := Fvid.other W529 (Or.inr (slot_ne (Or.inl (wat hw 79 rfl)) (Or.inl (wat hw 56 rfl)) (by decide) (t := (.object "java/lang/String")) (t' := .double) (by decide) (by decide)))
  have f534 := Flst.other W529 (Or.inr (slot_ne (Or.inl (wat hw 64 rfl)) (Or.inl (wat hw 56 rfl)) (by decide) (t := (.object "java/util/List")) (t' := .double) (by decide) (by decide)))
  have f535 := Fbd.other W529 (Or.inr (slot_ne (Or.inl (wat hw 54 rfl)) (Or.inl (wat hw 56 rfl)) (by decide) (t := .double) (t' := .double) (by decide) (by decide)))
  have f536 := Fad.same W529
  have f537 := Fzb.other W529 (Or.inr (slot_ne (Or.inl (wat hw 104 rfl)) (Or.inl (wat hw 56 rfl)) (by decide) (t := .boolean) (t' := .double) (by decide) (by decide)))
  have f538 := (Keep.refl h0 [t]).wr W529 (Or.inl (List.mem_of_getElem? (i := 0) rfl))
  refine g_aloadN X529 hx (pc' := 6) rfl (hD hby d23_5) rfl rfl ?_
  refine g_iconst X529 hx (pc' := 7) (z := (0 : Int32)) rfl (hD hby d23_6) rfl ?_
  refine g_putF X529 hx hZ hown (wat hw 103 rfl) Via.refl f537 f532 (Or.inl (wat hw 104 rfl)) (wat hw 46 rfl) (ty := .boolean) (by decide) rfl rfl hgt (pc' := 10) rfl (hD hby d23_7) (fun T539 h539 X539 W539 => ?_)
  have f540 := (by have q := (Keep.of_wr W539).1; exact Nat.le_trans f530 q : n0 ≤ h539.size)
  have f541 := f531.wr W539 hgt
  have f542 := f532.wr W539
  have f543 := f533.other W539 (Or.inr (slot_ne (Or.inl (wat hw 79 rfl)) (Or.inl (wat hw 104 rfl)) (by decide) (t := (.object "java/lang/String")) (t' := .boolean) (by decide) (by decide)))
  have f544 := f534.other W539 (Or.inr (slot_ne (Or.inl (wat hw 64 rfl)) (Or.inl (wat hw 104 rfl)) (by decide) (t := (.object "java/util/List")) (t' := .boolean) (by decide) (by decide)))
  have f545 := f535.other W539 (Or.inr (slot_ne (Or.inl (wat hw 54 rfl)) (Or.inl (wat hw 104 rfl)) (by decide) (t := .double) (t' := .boolean) (by decide) (by decide)))
  have f546 := f536.other W539 (Or.inr (slot_ne (Or.inl (wat hw 56 rfl)) (Or.inl (wat hw 104 rfl)) (by decide) (t := .double) (t' := .boolean) (by decide) (by decide)))
  have f547 := f537.same W539
  have f548 := f538.wr W539 (Or.inl (List.mem_of_getElem? (i := 0) rfl))
  exact g_retV X539 hx hlk hret (hD hby d23_10) (by decide) (by decide) (Nat.le_refl _) (⟨rfl, ⟨f541, f540, hgt, lst, ⟨f542, f543, f544, ⟨_, f545⟩, ⟨_, f546⟩, _, f547⟩, L0.keepP f548 Ep⟩⟩)
set_option maxRecDepth 65536 in
set_option maxHeartbeats 40000000 in
theorem rm14_in2 (l : Launch) (Z : State) (a0 : Array Value) (hw : ∀ d ∈ tables_1, d.before a0 Z = true) (ws : List Jvm.Cond) (n0 : Nat) (Ts : List String) (t el : Addr) (vr : Addr) (x' : UInt64) (h0 : Heap) (hn0 : n0 ≤ h0.size) (I0 : Inv2 Z n0 el .null h0 t) :
    Con l Z n0 Ts (Ts) (⟨"com/example/loads_to_headways/loadstoheadways/sim/Passenger", "board", "(Ljava/lang/String;D)V"⟩ : MethodName) prog_48_method_17_code 4 none ws ({ frames := 0, cells := 0, slots := 0, locals := 0 } : Room) #[(.ref t), (.ref vr), (.double x')] h0 (fun v h => v = none ∧ Inv2 Z n0 el (.ref vr) h t) := by
  refine con_start (plainFor_of_name (by first | (simp [plainName, overriddenIn]; done) | decide +kernel)) (fr0 := fun m => mkF m 0 #[.val (.ref t), .val (.ref vr), .val (.double x'), .second] []) (fun m => by first | (simp [entryFrame, mkF, argsToLocals, Value.category]; done) | rfl) ?_
  intro p e s m below meth c T0 hx hZ hby hml hown hnm hret hlk hsh XA
  have X0 := XA n0
  have hlow : n0 ≤ s.heap.size := by rw [hsh]; exact hn0
  replace hown : s.vm.findClass "com/example/loads_to_headways/loadstoheadways/sim/Passenger" = some m.cls := hown
  replace hml : c.maxLocals = 4 := hml
  obtain ⟨OLD, hz, hgt, lst, P0, L0⟩ := I0
  obtain ⟨Ep, Fvid, Flst, ⟨bd, Fbd⟩, ⟨ad, Fad⟩, zb, Fzb⟩ := P0
  refine g_aloadN X0 hx (pc' := 1) rfl (hD hby d14_0) rfl rfl ?_
  refine g_getF X0 hx hZ hown (wat hw 78 rfl) Via.refl Fvid (pc' := 4) rfl (hD hby d14_1) (fun T549 X549 => ?_)
  refine g_ifnonnullN X549 hx (pcN := 7) (hD hby d14_4) rfl ?_
  refine g_aloadN X549 hx (pc' := 8) rfl (hD hby d14_7) rfl rfl ?_
  refine g_aloadN X549 hx (pc' := 9) rfl (hD hby d14_8) rfl rfl ?_
  refine g_putF X549 hx hZ hown (wat hw 78 rfl) Via.refl Fvid Ep (Or.inl (wat hw 79 rfl)) (wat hw 46 rfl) (ty := (.object "java/lang/String")) (by decide) rfl rfl hgt (pc' := 12) rfl (hD hby d14_9) (fun T550 h550 X550 W550 => ?_)
  have f551 := (by have q := (Keep.of_wr W550).1; exact Nat.le_trans hn0 q : n0 ≤ h550.size)
  have f552 := OLD.wr W550 hgt
  have f553 := Ep.wr W550
  have f554 := Fvid.same W550
  have f555 := Flst.other W550 (Or.inr (slot_ne (Or.inl (wat hw 64 rfl)) (Or.inl (wat hw 79 rfl)) (by decide) (t := (.object "java/util/List")) (t' := (.object "java/lang/String")) (by decide) (by decide)))
  have f556 := Fbd.other W550 (Or.inr (slot_ne (Or.inl (wat hw 54 rfl)) (Or.inl (wat hw 79 rfl)) (by decide) (t := .double) (t' := (.object "java/lang/String")) (by decide) (by decide)))
  have f557 := Fad.other W550 (Or.inr (slot_ne (Or.inl (wat hw 56 rfl)) (Or.inl (wat hw 79 rfl)) (by decide) (t := .double) (t' := (.object "java/lang/String")) (by decide) (by decide)))
  have f558 := Fzb.other W550 (Or.inr (slot_ne (Or.inl (wat hw 104 rfl)) (Or.inl (wat hw 79 rfl)) (by decide) (t := .boolean) (t' := (.object "java/lang/String")) (by decide) (by decide)))
  have f559 := (Keep.refl h0 [t]).wr W550 (Or.inl (List.mem_of_getElem? (i := 0) rfl))
  refine g_aloadN X550 hx (pc' := 13) rfl (hD hby d14_12) rfl rfl ?_
  refine g_dloadN X550 hx (pc' := 14) rfl (hD hby d14_13) rfl ?_
  refine g_putF X550 hx hZ hown (wat hw 53 rfl) Via.refl f556 f553 (Or.inl (wat hw 54 rfl)) (wat hw 46 rfl) (ty := .double) (by decide) rfl rfl hgt (pc' := 17) rfl (hD hby d14_14) (fun T560 h560 X560 W560 => ?_)
  have f561 := (by have q := (Keep.of_wr W560).1; exact Nat.le_trans f551 q : n0 ≤ h560.size)
  have f562 := f552.wr W560 hgt
  have f563 := f553.wr W560
  have f564 := f554.other W560 (Or.inr (slot_ne (Or.inl (wat hw 79 rfl)) (Or.inl (wat hw 54 rfl)) (by decide) (t := (.object "java/lang/String")) (t' := .double) (by decide) (by decide)))
  have f565 := f555.other W560 (Or.inr (slot_ne (Or.inl (wat hw 64 rfl)) (Or.inl (wat hw 54 rfl)) (by decide) (t := (.object "java/util/List")) (t' := .double) (by decide) (by decide)))
  have f566 := f556.same W560
  have f567 := f557.other W560 (Or.inr (slot_ne (Or.inl (wat hw 56 rfl)) (Or.inl (wat hw 54 rfl)) (by decide) (t := .double) (t' := .double) (by decide) (by decide)))
  have f568 := f558.other W560 (Or.inr (slot_ne (Or.inl (wat hw 104 rfl)) (Or.inl (wat hw 54 rfl)) (by decide) (t := .boolean) (t' := .double) (by decide) (by decide)))
  have f569 := f559.wr W560 (Or.inl (List.mem_of_getElem? (i := 0) rfl))
  refine g_goto X560 hx (pc' := 48) (hD hby d14_17) (by decide) (by decide) ?_
  refine g_aloadN X560 hx (pc' := 49) rfl (hD hby d14_48) rfl rfl ?_
  refine g_iconst X560 hx (pc' := 50) (z := (1 : Int32)) rfl (hD hby d14_49) rfl ?_
  refine g_putF X560 hx hZ hown (wat hw 103 rfl) Via.refl f568 f563 (Or.inl (wat hw 104 rfl)) (wat hw 46 rfl) (ty := .boolean) (by decide) rfl rfl hgt (pc' := 53) rfl (hD hby d14_50) (fun T570 h570 X570 W570 => ?_)
  have f571 := (by have q := (Keep.of_wr W570).1; exact Nat.le_trans f561 q : n0 ≤ h570.size)
  have f572 := f562.wr W570 hgt
  have f573 := f563.wr W570
  have f574 := f564.other W570 (Or.inr (slot_ne (Or.inl (wat hw 79 rfl)) (Or.inl (wat hw 104 rfl)) (by decide) (t := (.object "java/lang/String")) (t' := .boolean) (by decide) (by decide)))
  have f575 := f565.other W570 (Or.inr (slot_ne (Or.inl (wat hw 64 rfl)) (Or.inl (wat hw 104 rfl)) (by decide) (t := (.object "java/util/List")) (t' := .boolean) (by decide) (by decide)))
  have f576 := f566.other W570 (Or.inr (slot_ne (Or.inl (wat hw 54 rfl)) (Or.inl (wat hw 104 rfl)) (by decide) (t := .double) (t' := .boolean) (by decide) (by decide)))
  have f577 := f567.other W570 (Or.inr (slot_ne (Or.inl (wat hw 56 rfl)) (Or.inl (wat hw 104 rfl)) (by decide) (t := .double) (t' := .boolean) (by decide) (by decide)))
  have f578 := f568.same W570
  have f579 := f569.wr W570 (Or.inl (List.mem_of_getElem? (i := 0) rfl))
  exact g_retV X570 hx hlk hret (hD hby d14_53) (by decide) (by decide) (Nat.le_refl _) (⟨rfl, ⟨f572, f571, hgt, lst, ⟨f573, f574, f575, ⟨_, f576⟩, ⟨_, f577⟩, _, f578⟩, L0.keepP f579 Ep⟩⟩)
set_option maxRecDepth 65536 in
set_option maxHeartbeats 40000000 in
theorem rm14_y1 (l : Launch) (Z : State) (a0 : Array Value) (hw : ∀ d ∈ tables_1, d.before a0 Z = true) (ws : List Jvm.Cond) (n0 : Nat) (Ts : List String) (t el vr vs : Addr) (x' : UInt64) (h0 : Heap) (hn0 : n0 ≤ h0.size) (I0 : Inv1 Z n0 el (.ref vr) h0 t) :
    Con l Z n0 Ts (Ts) (⟨"com/example/loads_to_headways/loadstoheadways/sim/Passenger", "board", "(Ljava/lang/String;D)V"⟩ : MethodName) prog_48_method_17_code 4 none ws ({ frames := 3, cells := 0, slots := 0, locals := 80 } : Room) #[(.ref t), (.ref vs), (.double x')] h0 (fun v h => v = none ∧ Inv1 Z n0 el (.ref vr) h t) := by
  refine con_start (plainFor_of_name (by first | (simp [plainName, overriddenIn]; done) | decide +kernel)) (fr0 := fun m => mkF m 0 #[.val (.ref t), .val (.ref vs), .val (.double x'), .second] []) (fun m => by first | (simp [entryFrame, mkF, argsToLocals, Value.category]; done) | rfl) ?_
  intro p e s m below meth c T0 hx hZ hby hml hown hnm hret hlk hsh XA
  have X0 := XA n0
  have hlow : n0 ≤ s.heap.size := by rw [hsh]; exact hn0
  replace hown : s.vm.findClass "com/example/loads_to_headways/loadstoheadways/sim/Passenger" = some m.cls := hown
  replace hml : c.maxLocals = 4 := hml
  obtain ⟨OLD, hz, hgt, lst, P0, L0⟩ := I0
  obtain ⟨Ep, Fvid, Flst, ⟨bd, Fbd⟩, ⟨ad, Fad⟩, zb, Fzb⟩ := P0
  obtain ⟨ea, s1, mc, El, Gl, Fm, Fe, Fz, Ae, Ee, Ge, D1, G1⟩ := L0
  have n_t_lst : t ≠ lst := Exa.ne Ep El (by decide)
  have n_t_ea : t ≠ ea := Exa.ne Ep Ee (by decide)
  have n_lst_ea : lst ≠ ea := Exa.ne El Ee (by decide)
  have n_t_s1 : t ≠ s1 := Exa.ne Ep D1.1 (by decide)
  have n_lst_s1 : lst ≠ s1 := Exa.ne El D1.1 (by decide)
  have n_ea_s1 : ea ≠ s1 := Exa.ne Ee D1.1 (by decide)
  refine g_aloadN X0 hx (pc' := 1) rfl (hD hby d14_0) rfl rfl ?_
  refine g_getF X0 hx hZ hown (wat hw 78 rfl) Via.refl Fvid (pc' := 4) rfl (hD hby d14_1) (fun T580 X580 => ?_)
  refine g_ifnonnullY X580 hx (pcY := 20) (hD hby d14_4) (by decide) (by decide) ?_
  refine g_aloadN X580 hx (pc' := 21) rfl (hD hby d14_20) rfl rfl ?_
  refine g_getF X580 hx hZ hown (wat hw 63 rfl) Via.refl Flst (pc' := 24) rfl (hD hby d14_21) (fun T581 X581 => ?_)
  refine g_aloadN X581 hx (pc' := 25) rfl (hD hby d14_24) rfl rfl ?_
  refine g_getF X581 hx hZ hown (wat hw 63 rfl) Via.refl Flst (pc' := 28) rfl (hD hby d14_25) (fun T582 X582 => ?_)
  refine g_callIf X582 hx hZ hown (wat hw 234 rfl) (wat hw 235 rfl) (wat hw 236 rfl) (by first | rfl | decide) (wat hw 237 rfl) (wat hw 238 rfl) (wat hw 239 rfl) (wat hw 240 rfl) (wat hw 169 rfl) (wat hw 125 rfl) (wat hw 241 rfl) (by decide) (a := lst) El (rm32_1 l Z a0 hw [] n0 (Ts) lst h0 hn0 Fz) pd_17 rfl rfl (by rw [hml]; rfl) (pc' := 33) rfl (hD hby d14_28) (argsL := []) (rest := [(.ref lst)]) rfl (W := 1) (Nat.le_of_eq rfl) (by decide) (by decide) (by decide) (by decide) (fun v583 T583 h583 X583 hQ583 => ?_)
  obtain ⟨rfl, he583⟩ := hQ583
  rw [he583] at X583
  show Go p e below s n0 _ _ _ (T583.setTop (mkF m 33 _ [(.int 1), (.ref lst)]))
  refine g_iconst X583 hx (pc' := 34) (z := (1 : Int32)) rfl (hD hby d14_33) rfl ?_
  refine g_isub X583 hx (pc' := 35) rfl (hD hby d14_34) ?_
  refine g_normI (z := (0 : Int32)) (by decide) ?_
  refine g_callIf X583 hx hZ hown (wat hw 242 rfl) (wat hw 243 rfl) (wat hw 244 rfl) (by first | rfl | decide) (wat hw 245 rfl) (wat hw 246 rfl) (wat hw 247 rfl) (wat hw 248 rfl) (wat hw 169 rfl) (wat hw 125 rfl) (wat hw 249 rfl) (by decide) (a := lst) El (rm33_1 l Z a0 hw [] n0 (Ts) lst ea s1 h0 hn0 El Fz Fe Ae) pd_10 rfl rfl (by rw [hml]; rfl) (pc' := 40) rfl (hD hby d14_35) (argsL := [(.int 0)]) (rest := []) rfl (W := 0) (Nat.le_of_eq rfl) (by decide) (by decide) (by decide) (by decide) (fun v584 T584 h584 X584 hQ584 => ?_)
  obtain ⟨rfl, he584⟩ := hQ584
  rw [he584] at X584
  show Go p e below s n0 _ _ _ (T584.setTop (mkF m 40 _ [(.ref s1)]))
  refine g_cast X584 hx hZ hown (wat hw 148 rfl) (Ins.self D1.1) (pc' := 43) rfl (hD hby d14_40) (fun T585 X585 => ?_)
  refine g_aloadN X585 hx (pc' := 44) rfl (hD hby d14_43) rfl rfl ?_
  refine g_dloadN X585 hx (pc' := 45) rfl (hD hby d14_44) rfl ?_
  refine g_callV X585 hx hZ hown (wat hw 263 rfl) (wat hw 264 rfl) (wat hw 266 rfl) (wat hw 265 rfl) (wat hw 150 rfl) (wat hw 267 rfl) (by decide) (a := s1) D1.1 (rm37 l Z a0 hw [] n0 (Ts) s1 vs x' h0 hn0 D1 G1) pd_18 rfl rfl (by rw [hml]; rfl) (pc' := 48) rfl (hD hby d14_45) (argsL := [(.ref vs), (.double x')]) (rest := []) rfl (W := 0) (Nat.le_of_eq rfl) (by decide) (by decide) (by decide) (by decide) (fun v586 T586 h586 X586 hQ586 => ?_)
  obtain ⟨rfl, K586, S586⟩ := hQ586
  have f587 := OLD.keep K586 (allS G1 all0)
  have f588 := Ep.keep K586
  have f589 := Fvid.keep K586 (ninS n_t_s1 nin0)
  have f590 := Flst.keep K586 (ninS n_t_s1 nin0)
  have f591 := Fbd.keep K586 (ninS n_t_s1 nin0)
  have f592 := Fad.keep K586 (ninS n_t_s1 nin0)
  have f593 := Fzb.keep K586 (ninS n_t_s1 nin0)
  have f594 := El.keep K586
  have f595 := Fm.keep K586 (ninS n_lst_s1 nin0)
  have f596 := Fe.keep K586 (ninS n_lst_s1 nin0)
  have f597 := Fz.keep K586 (ninS n_lst_s1 nin0)
  have f598 := Ae.keep K586 (ninS n_ea_s1 nin0)
  have f599 := Ee.keep K586
  have f600 := D1.1.keep K586
  have zs586 : n0 ≤ h586.size := Nat.le_trans hn0 K586.1
  show Go p e below s n0 _ _ _ (T586.setTop (mkF m 48 _ []))
  refine g_aloadN X586 hx (pc' := 49) rfl (hD hby d14_48) rfl rfl ?_
  refine g_iconst X586 hx (pc' := 50) (z := (1 : Int32)) rfl (hD hby d14_49) rfl ?_
  refine g_putF X586 hx hZ hown (wat hw 103 rfl) Via.refl f593 f588 (Or.inl (wat hw 104 rfl)) (wat hw 46 rfl) (ty := .boolean) (by decide) rfl rfl hgt (pc' := 53) rfl (hD hby d14_50) (fun T601 h601 X601 W601 => ?_)
  have f602 := (by have q := (Keep.of_wr W601).1; exact Nat.le_trans zs586 q : n0 ≤ h601.size)
  have f603 := f587.wr W601 hgt
  have f604 := f588.wr W601
  have f605 := f589.other W601 (Or.inr (slot_ne (Or.inl (wat hw 79 rfl)) (Or.inl (wat hw 104 rfl)) (by decide) (t := (.object "java/lang/String")) (t' := .boolean) (by decide) (by decide)))
  have f606 := f590.other W601 (Or.inr (slot_ne (Or.inl (wat hw 64 rfl)) (Or.inl (wat hw 104 rfl)) (by decide) (t := (.object "java/util/List")) (t' := .boolean) (by decide) (by decide)))
  have f607 := f591.other W601 (Or.inr (slot_ne (Or.inl (wat hw 54 rfl)) (Or.inl (wat hw 104 rfl)) (by decide) (t := .double) (t' := .boolean) (by decide) (by decide)))
  have f608 := f592.other W601 (Or.inr (slot_ne (Or.inl (wat hw 56 rfl)) (Or.inl (wat hw 104 rfl)) (by decide) (t := .double) (t' := .boolean) (by decide) (by decide)))
  have f609 := f593.same W601
  have f610 := f594.wr W601
  have f611 := f595.other W601 (Or.inl n_t_lst.symm)
  have f612 := f596.other W601 (Or.inl n_t_lst.symm)
  have f613 := f597.other W601 (Or.inl n_t_lst.symm)
  have f614 := f598.other W601 n_t_ea.symm
  have f615 := f599.wr W601
  have f616 := f600.wr W601
  have f617 := S586.keep (Keep.of_wr W601) (ninS n_t_s1.symm nin0)
  exact g_retV X601 hx hlk hret (hD hby d14_53) (by decide) (by decide) (Nat.le_refl _) (⟨rfl, ⟨f603, f602, hgt, lst, ⟨f604, f605, f606, ⟨_, f607⟩, ⟨_, f608⟩, _, f609⟩, ⟨ea, s1, _, f610, Gl, f611, f612, f613, f614, f615, Ge, f617, G1⟩⟩⟩)
set_option maxRecDepth 65536 in
set_option maxHeartbeats 40000000 in
theorem rm14_y2 (l : Launch) (Z : State) (a0 : Array Value) (hw : ∀ d ∈ tables_1, d.before a0 Z = true) (ws : List Jvm.Cond) (n0 : Nat) (Ts : List String) (t el vr vs : Addr) (x' : UInt64) (h0 : Heap) (hn0 : n0 ≤ h0.size) (I0 : Inv2 Z n0 el (.ref vr) h0 t) :
    Con l Z n0 Ts (Ts) (⟨"com/example/loads_to_headways/loadstoheadways/sim/Passenger", "board", "(Ljava/lang/String;D)V"⟩ : MethodName) prog_48_method_17_code 4 none ws ({ frames := 3, cells := 0, slots := 0, locals := 80 } : Room) #[(.ref t), (.ref vs), (.double x')] h0 (fun v h => v = none ∧ Inv2 Z n0 el (.ref vr) h t) := by
  refine con_start (plainFor_of_name (by first | (simp [plainName, overriddenIn]; done) | decide +kernel)) (fr0 := fun m => mkF m 0 #[.val (.ref t), .val (.ref vs), .val (.double x'), .second] []) (fun m => by first | (simp [entryFrame, mkF, argsToLocals, Value.category]; done) | rfl) ?_
  intro p e s m below meth c T0 hx hZ hby hml hown hnm hret hlk hsh XA
  have X0 := XA n0
  have hlow : n0 ≤ s.heap.size := by rw [hsh]; exact hn0
  replace hown : s.vm.findClass "com/example/loads_to_headways/loadstoheadways/sim/Passenger" = some m.cls := hown
  replace hml : c.maxLocals = 4 := hml
  obtain ⟨OLD, hz, hgt, lst, P0, L0⟩ := I0
  obtain ⟨Ep, Fvid, Flst, ⟨bd, Fbd⟩, ⟨ad, Fad⟩, zb, Fzb⟩ := P0
  obtain ⟨ea, s1, s2, mc, El, Gl, Fm, Fe, Fz, Ae, Ee, Ge, D1, G1, D2, G2, n12⟩ := L0
  have n_t_lst : t ≠ lst := Exa.ne Ep El (by decide)
  have n_t_ea : t ≠ ea := Exa.ne Ep Ee (by decide)
  have n_lst_ea : lst ≠ ea := Exa.ne El Ee (by decide)
  have n_t_s1 : t ≠ s1 := Exa.ne Ep D1.1 (by decide)
  have n_lst_s1 : lst ≠ s1 := Exa.ne El D1.1 (by decide)
  have n_ea_s1 : ea ≠ s1 := Exa.ne Ee D1.1 (by decide)
  have n_t_s2 : t ≠ s2 := Exa.ne Ep D2.1 (by decide)
  have n_lst_s2 : lst ≠ s2 := Exa.ne El D2.1 (by decide)
  have n_ea_s2 : ea ≠ s2 := Exa.ne Ee D2.1 (by decide)
  refine g_aloadN X0 hx (pc' := 1) rfl (hD hby d14_0) rfl rfl ?_
  refine g_getF X0 hx hZ hown (wat hw 78 rfl) Via.refl Fvid (pc' := 4) rfl (hD hby d14_1) (fun T618 X618 => ?_)
  refine g_ifnonnullY X618 hx (pcY := 20) (hD hby d14_4) (by decide) (by decide) ?_
  refine g_aloadN X618 hx (pc' := 21) rfl (hD hby d14_20) rfl rfl ?_
  refine g_getF X618 hx hZ hown (wat hw 63 rfl) Via.refl Flst (pc' := 24) rfl (hD hby d14_21) (fun T619 X619 => ?_)
  refine g_aloadN X619 hx (pc' := 25) rfl (hD hby d14_24) rfl rfl ?_
  refine g_getF X619 hx hZ hown (wat hw 63 rfl) Via.refl Flst (pc' := 28) rfl (hD hby d14_25) (fun T620 X620 => ?_)
  refine g_callIf X620 hx hZ hown (wat hw 234 rfl) (wat hw 235 rfl) (wat hw 236 rfl) (by first | rfl | decide) (wat hw 237 rfl) (wat hw 238 rfl) (wat hw 239 rfl) (wat hw 240 rfl) (wat hw 169 rfl) (wat hw 125 rfl) (wat hw 241 rfl) (by decide) (a := lst) El (rm32_2 l Z a0 hw [] n0 (Ts) lst h0 hn0 Fz) pd_17 rfl rfl (by rw [hml]; rfl) (pc' := 33) rfl (hD hby d14_28) (argsL := []) (rest := [(.ref lst)]) rfl (W := 1) (Nat.le_of_eq rfl) (by decide) (by decide) (by decide) (by decide) (fun v621 T621 h621 X621 hQ621 => ?_)
  obtain ⟨rfl, he621⟩ := hQ621
  rw [he621] at X621
  show Go p e below s n0 _ _ _ (T621.setTop (mkF m 33 _ [(.int 2), (.ref lst)]))
  refine g_iconst X621 hx (pc' := 34) (z := (1 : Int32)) rfl (hD hby d14_33) rfl ?_
  refine g_isub X621 hx (pc' := 35) rfl (hD hby d14_34) ?_
  refine g_normI (z := (1 : Int32)) (by decide) ?_
  refine g_callIf X621 hx hZ hown (wat hw 242 rfl) (wat hw 243 rfl) (wat hw 244 rfl) (by first | rfl | decide) (wat hw 245 rfl) (wat hw 246 rfl) (wat hw 247 rfl) (wat hw 248 rfl) (wat hw 169 rfl) (wat hw 125 rfl) (wat hw 249 rfl) (by decide) (a := lst) El (rm33_2 l Z a0 hw [] n0 (Ts) lst ea s1 s2 h0 hn0 El Fz Fe Ae) pd_10 rfl rfl (by rw [hml]; rfl) (pc' := 40) rfl (hD hby d14_35) (argsL := [(.int 1)]) (rest := []) rfl (W := 0) (Nat.le_of_eq rfl) (by decide) (by decide) (by decide) (by decide) (fun v622 T622 h622 X622 hQ622 => ?_)
  obtain ⟨rfl, he622⟩ := hQ622
  rw [he622] at X622
  show Go p e below s n0 _ _ _ (T622.setTop (mkF m 40 _ [(.ref s2)]))
  refine g_cast X622 hx hZ hown (wat hw 148 rfl) (Ins.self D2.1) (pc' := 43) rfl (hD hby d14_40) (fun T623 X623 => ?_)
  refine g_aloadN X623 hx (pc' := 44) rfl (hD hby d14_43) rfl rfl ?_
  refine g_dloadN X623 hx (pc' := 45) rfl (hD hby d14_44) rfl ?_
  refine g_callV X623 hx hZ hown (wat hw 263 rfl) (wat hw 264 rfl) (wat hw 266 rfl) (wat hw 265 rfl) (wat hw 150 rfl) (wat hw 267 rfl) (by decide) (a := s2) D2.1 (rm37 l Z a0 hw [] n0 (Ts) s2 vs x' h0 hn0 D2 G2) pd_18 rfl rfl (by rw [hml]; rfl) (pc' := 48) rfl (hD hby d14_45) (argsL := [(.ref vs), (.double x')]) (rest := []) rfl (W := 0) (Nat.le_of_eq rfl) (by decide) (by decide) (by decide) (by decide) (fun v624 T624 h624 X624 hQ624 => ?_)
  obtain ⟨rfl, K624, S624⟩ := hQ624
  have f625 := OLD.keep K624 (allS G2 all0)
  have f626 := Ep.keep K624
  have f627 := Fvid.keep K624 (ninS n_t_s2 nin0)
  have f628 := Flst.keep K624 (ninS n_t_s2 nin0)
  have f629 := Fbd.keep K624 (ninS n_t_s2 nin0)
  have f630 := Fad.keep K624 (ninS n_t_s2 nin0)
  have f631 := Fzb.keep K624 (ninS n_t_s2 nin0)
  have f632 := El.keep K624
  have f633 := Fm.keep K624 (ninS n_lst_s2 nin0)
  have f634 := Fe.keep K624 (ninS n_lst_s2 nin0)
  have f635 := Fz.keep K624 (ninS n_lst_s2 nin0)
  have f636 := Ae.keep K624 (ninS n_ea_s2 nin0)
  have f637 := Ee.keep K624
  have f638 := D1.keep K624 (ninS n12 nin0)
  have f639 := D1.1.keep K624
  have f640 := D2.1.keep K624
  have zs624 : n0 ≤ h624.size := Nat.le_trans hn0 K624.1
  show Go p e below s n0 _ _ _ (T624.setTop (mkF m 48 _ []))
  refine g_aloadN X624 hx (pc' := 49) rfl (hD hby d14_48) rfl rfl ?_
  refine g_iconst X624 hx (pc' := 50) (z := (1 : Int32)) rfl (hD hby d14_49) rfl ?_
  refine g_putF X624 hx hZ hown (wat hw 103 rfl) Via.refl f631 f626 (Or.inl (wat hw 104 rfl)) (wat hw 46 rfl) (ty := .boolean) (by decide) rfl rfl hgt (pc' := 53) rfl (hD hby d14_50) (fun T641 h641 X641 W641 => ?_)
  have f642 := (by have q := (Keep.of_wr W641).1; exact Nat.le_trans zs624 q : n0 ≤ h641.size)
  have f643 := f625.wr W641 hgt
  have f644 := f626.wr W641
  have f645 := f627.other W641 (Or.inr (slot_ne (Or.inl (wat hw 79 rfl)) (Or.inl (wat hw 104 rfl)) (by decide) (t := (.object "java/lang/String")) (t' := .boolean) (by decide) (by decide)))
  have f646 := f628.other W641 (Or.inr (slot_ne (Or.inl (wat hw 64 rfl)) (Or.inl (wat hw 104 rfl)) (by decide) (t := (.object "java/util/List")) (t' := .boolean) (by decide) (by decide)))
  have f647 := f629.other W641 (Or.inr (slot_ne (Or.inl (wat hw 54 rfl)) (Or.inl (wat hw 104 rfl)) (by decide) (t := .double) (t' := .boolean) (by decide) (by decide)))
  have f648 := f630.other W641 (Or.inr (slot_ne (Or.inl (wat hw 56 rfl)) (Or.inl (wat hw 104 rfl)) (by decide) (t := .double) (t' := .boolean) (by decide) (by decide)))
  have f649 := f631.same W641
  have f650 := f632.wr W641
  have f651 := f633.other W641 (Or.inl n_t_lst.symm)
  have f652 := f634.other W641 (Or.inl n_t_lst.symm)
  have f653 := f635.other W641 (Or.inl n_t_lst.symm)
  have f654 := f636.other W641 n_t_ea.symm
  have f655 := f637.wr W641
  have f656 := f638.keep (Keep.of_wr W641) (ninS n_t_s1.symm nin0)
  have f657 := f639.wr W641
  have f658 := f640.wr W641
  have f659 := S624.keep (Keep.of_wr W641) (ninS n_t_s2.symm nin0)
  exact g_retV X641 hx hlk hret (hD hby d14_53) (by decide) (by decide) (Nat.le_refl _) (⟨rfl, ⟨f643, f642, hgt, lst, ⟨f644, f645, f646, ⟨_, f647⟩, ⟨_, f648⟩, _, f649⟩, ⟨ea, s1, s2, _, f650, Gl, f651, f652, f653, f654, f655, Ge, f656, G1, f659, G2, n12⟩⟩⟩)
set_option maxRecDepth 65536 in
set_option maxHeartbeats 40000000 in
theorem rm15_0 (l : Launch) (Z : State) (a0 : Array Value) (hw : ∀ d ∈ tables_1, d.before a0 Z = true) (ws : List Jvm.Cond) (n0 : Nat) (Ts : List String) (t el st' : Addr) (vid : Value) (x' : UInt64) (h0 : Heap) (hn0 : n0 ≤ h0.size) (EM : EmL Z Z.heap el) (I0 : Inv0 Z n0 el vid h0 t) :
    Con l Z n0 Ts (Ts) (⟨"com/example/loads_to_headways/loadstoheadways/sim/Passenger", "strand", "(Lcom/example/loads_to_headways/loadstoheadways/corridor/Station;D)V"⟩ : MethodName) prog_48_method_19_code 4 none ws ({ frames := 4, cells := 3, slots := 12, locals := 80 } : Room) #[(.ref t), (.ref st'), (.double x')] h0 (fun v h => v = none ∧ Inv1 Z n0 el vid h t) := by
  refine con_start (plainFor_of_name (by first | (simp [plainName, overriddenIn]; done) | decide +kernel)) (fr0 := fun m => mkF m 0 #[.val (.ref t), .val (.ref st'), .val (.double x'), .second] []) (fun m => by first | (simp [entryFrame, mkF, argsToLocals, Value.category]; done) | rfl) ?_
  intro p e s m below meth c T0 hx hZ hby hml hown hnm hret hlk hsh XA
  have X0 := XA n0
  have hlow : n0 ≤ s.heap.size := by rw [hsh]; exact hn0
  replace hown : s.vm.findClass "com/example/loads_to_headways/loadstoheadways/sim/Passenger" = some m.cls := hown
  replace hml : c.maxLocals = 4 := hml
  obtain ⟨OLD, hz, hgt, P0⟩ := I0
  obtain ⟨Ep, Fvid, Flst, ⟨bd, Fbd⟩, ⟨ad, Fad⟩, zb, Fzb⟩ := P0
  refine g_aloadN X0 hx (pc' := 1) rfl (hD hby d15_0) rfl rfl ?_
  refine g_getF X0 hx hZ hown (wat hw 63 rfl) Via.refl Flst (pc' := 4) rfl (hD hby d15_1) (fun T660 X660 => ?_)
  obtain ⟨Eel, ee, Fee, Aee⟩ := EM.ext OLD.2
  refine g_callIf X660 hx hZ hown (wat hw 111 rfl) (wat hw 112 rfl) (wat hw 113 rfl) (by first | rfl | decide) (wat hw 114 rfl) (wat hw 115 rfl) (wat hw 116 rfl) (wat hw 117 rfl) (wat hw 118 rfl) (wat hw 119 rfl) (wat hw 120 rfl) (by decide) (a := el) Eel (rm16 l Z a0 hw [] n0 (Ts) el ee h0 hn0 Fee Aee) pd_4 rfl rfl (by rw [hml]; rfl) (pc' := 9) rfl (hD hby d15_4) (argsL := []) (rest := []) rfl (W := 0) (Nat.le_of_eq rfl) (by decide) (by decide) (by decide) (by decide) (fun v661 T661 h661 X661 hQ661 => ?_)
  obtain ⟨rfl, he661⟩ := hQ661
  rw [he661] at X661
  show Go p e below s n0 _ _ _ (T661.setTop (mkF m 9 _ [(.int 1)]))
  refine g_ifN X661 hx (pcN := 12) (hD hby d15_9) rfl (show ¬ ((1 : Int32) = 0) from by decide) ?_
  refine g_aloadN X661 hx (pc' := 13) rfl (hD hby d15_12) rfl rfl ?_
  refine g_newO X661 hx hZ hown (wat hw 123 rfl) (wat hw 124 rfl) (wat hw 125 rfl) (pc' := 16) rfl (hD hby d15_13) (by decide) (by decide) (fun T662 h662 a662 ha662 X662 E662 A662 D662 => ?_)
  have ne662_t : t ≠ a662 := by rw [ha662]; exact Nat.ne_of_lt Ep.lt
  have f663 := Ep.ext E662
  have f664 := Fvid.ext E662
  have f665 := Flst.ext E662
  have f666 := Fbd.ext E662
  have f667 := Fad.ext E662
  have f668 := Fzb.ext E662
  have G_a662 : n0 ≤ a662 := by rw [ha662]; exact hn0
  have Zs662 : n0 ≤ h662.size := Nat.le_trans hn0 E662.1
  have f669 := OLD.ext E662
  have F662_modCount : Fld Z h662 a662 "java/util/AbstractList" "modCount" "I" (.int 0) := D662 (Or.inl (wat hw 143 rfl)) (ty := .int) (by decide)
  have F662_elementData : Fld Z h662 a662 "java/util/ArrayList" "elementData" "[Ljava/lang/Object;" .null := D662 (Or.inl (wat hw 147 rfl)) (ty := (.array (.object "java/lang/Object"))) (by decide)
  have F662_size : Fld Z h662 a662 "java/util/ArrayList" "size" "I" (.int 0) := D662 (Or.inl (wat hw 174 rfl)) (ty := .int) (by decide)
  refine g_dup X662 hx (pc' := 17) rfl (hD hby d15_16) rfl ?_
  refine g_iconst X662 hx (pc' := 18) (z := (1 : Int32)) rfl (hD hby d15_17) rfl ?_
  refine g_callI X662 hx hZ hown rfl (wat hw 126 rfl) (wat hw 127 rfl) (wat hw 125 rfl) (wat hw 128 rfl) (by decide) (a := a662) (rm17 l Z a0 hw [] n0 (Ts) a662 h662 Zs662 A662 G_a662 F662_modCount F662_elementData F662_size) pd_19 rfl rfl (by rw [hml]; rfl) (pc' := 21) rfl (hD hby d15_18) (argsL := [(.int 1)]) (rest := [(.ref a662), (.ref t)]) rfl (W := 2) (Nat.le_of_eq rfl) (by decide) (by decide) (by decide) (by decide) (fun v670 T670 h670 X670 hQ670 => ?_)
  obtain ⟨rfl, K670, b670, G670, S670, V670, EV670, m670, e670, z670⟩ := hQ670
  have ne670_t : t ≠ b670 := Nat.ne_of_lt (Nat.lt_of_lt_of_le f663.lt S670)
  have ne670_a662 : a662 ≠ b670 := Nat.ne_of_lt (Nat.lt_of_lt_of_le A662.lt S670)
  have f671 := f669.keep K670 (allS G_a662 all0)
  have f672 := f663.keep K670
  have f673 := f664.keep K670 (ninS ne662_t nin0)
  have f674 := f665.keep K670 (ninS ne662_t nin0)
  have f675 := f666.keep K670 (ninS ne662_t nin0)
  have f676 := f667.keep K670 (ninS ne662_t nin0)
  have f677 := f668.keep K670 (ninS ne662_t nin0)
  have f678 := A662.keep K670
  have zs670 : n0 ≤ h670.size := Nat.le_trans Zs662 K670.1
  show Go p e below s n0 _ _ _ (T670.setTop (mkF m 21 _ [(.ref a662), (.ref t)]))
  refine g_putF X670 hx hZ hown (wat hw 63 rfl) Via.refl f674 f672 (Or.inl (wat hw 64 rfl)) (wat hw 46 rfl) (ty := (.object "java/util/List")) (by decide) rfl rfl hgt (pc' := 24) rfl (hD hby d15_21) (fun T679 h679 X679 W679 => ?_)
  have f680 := (by have q := (Keep.of_wr W679).1; exact Nat.le_trans zs670 q : n0 ≤ h679.size)
  have f681 := f671.wr W679 hgt
  have f682 := f672.wr W679
  have f683 := f673.other W679 (Or.inr (slot_ne (Or.inl (wat hw 79 rfl)) (Or.inl (wat hw 64 rfl)) (by decide) (t := (.object "java/lang/String")) (t' := (.object "java/util/List")) (by decide) (by decide)))
  have f684 := f674.same W679
  have f685 := f675.other W679 (Or.inr (slot_ne (Or.inl (wat hw 54 rfl)) (Or.inl (wat hw 64 rfl)) (by decide) (t := .double) (t' := (.object "java/util/List")) (by decide) (by decide)))
  have f686 := f676.other W679 (Or.inr (slot_ne (Or.inl (wat hw 56 rfl)) (Or.inl (wat hw 64 rfl)) (by decide) (t := .double) (t' := (.object "java/util/List")) (by decide) (by decide)))
  have f687 := f677.other W679 (Or.inr (slot_ne (Or.inl (wat hw 104 rfl)) (Or.inl (wat hw 64 rfl)) (by decide) (t := .boolean) (t' := (.object "java/util/List")) (by decide) (by decide)))
  have f688 := f678.wr W679
  have f689 := V670.other W679 ne670_t.symm
  have f690 := EV670.wr W679
  have f691 := m670.other W679 (Or.inl ne662_t.symm)
  have f692 := e670.other W679 (Or.inl ne662_t.symm)
  have f693 := z670.other W679 (Or.inl ne662_t.symm)
  refine g_aloadN X679 hx (pc' := 25) rfl (hD hby d15_24) rfl rfl ?_
  refine g_getF X679 hx hZ hown (wat hw 63 rfl) Via.refl f684 (pc' := 28) rfl (hD hby d15_25) (fun T694 X694 => ?_)
  refine g_newO X694 hx hZ hown (wat hw 148 rfl) (wat hw 149 rfl) (wat hw 150 rfl) (pc' := 31) rfl (hD hby d15_28) (by decide) (by decide) (fun T695 h695 a695 ha695 X695 E695 A695 D695 => ?_)
  have ne695_t : t ≠ a695 := by rw [ha695]; exact Nat.ne_of_lt f682.lt
  have ne695_a662 : a662 ≠ a695 := by rw [ha695]; exact Nat.ne_of_lt f688.lt
  have ne695_b670 : b670 ≠ a695 := by rw [ha695]; exact Nat.ne_of_lt f689.lt
  have f696 := f682.ext E695
  have f697 := f683.ext E695
  have f698 := f684.ext E695
  have f699 := f685.ext E695
  have f700 := f686.ext E695
  have f701 := f687.ext E695
  have f702 := f688.ext E695
  have f703 := f689.ext E695
  have f704 := f690.ext E695
  have f705 := f691.ext E695
  have f706 := f692.ext E695
  have f707 := f693.ext E695
  have G_a695 : n0 ≤ a695 := by rw [ha695]; exact f680
  have Zs695 : n0 ≤ h695.size := Nat.le_trans f680 E695.1
  have f708 := f681.ext E695
  have F695_boardingSeconds : Fld Z h695 a695 "com/example/loads_to_headways/loadstoheadways/sim/Stranding" "boardingSeconds" "D" (.double (0 : UInt64)) := D695 (Or.inl (wat hw 157 rfl)) (ty := .double) (by decide)
  have F695_station : Fld Z h695 a695 "com/example/loads_to_headways/loadstoheadways/sim/Stranding" "station" "Lcom/example/loads_to_headways/loadstoheadways/corridor/Station;" .null := D695 (Or.inr (wat hw 159 rfl)) (ty := (.object "com/example/loads_to_headways/loadstoheadways/corridor/Station")) (by decide)
  have F695_seconds : Fld Z h695 a695 "com/example/loads_to_headways/loadstoheadways/sim/Stranding" "seconds" "D" (.double (0 : UInt64)) := D695 (Or.inr (wat hw 161 rfl)) (ty := .double) (by decide)
  have F695_vehicleId : Fld Z h695 a695 "com/example/loads_to_headways/loadstoheadways/sim/Stranding" "vehicleId" "Ljava/lang/String;" .null := D695 (Or.inl (wat hw 269 rfl)) (ty := (.object "java/lang/String")) (by decide)
  refine g_dup X695 hx (pc' := 32) rfl (hD hby d15_31) rfl ?_
  refine g_aloadN X695 hx (pc' := 33) rfl (hD hby d15_32) rfl rfl ?_
  refine g_dloadN X695 hx (pc' := 34) rfl (hD hby d15_33) rfl ?_
  refine g_callI X695 hx hZ hown rfl (wat hw 151 rfl) (wat hw 152 rfl) (wat hw 150 rfl) (wat hw 153 rfl) (by decide) (a := a695) (rm20 l Z a0 hw [] n0 (Ts) a695 st' x' h695 Zs695 A695 G_a695 F695_boardingSeconds F695_station F695_seconds F695_vehicleId) pd_20 rfl rfl (by rw [hml]; rfl) (pc' := 37) rfl (hD hby d15_34) (argsL := [(.ref st'), (.double x')]) (rest := [(.ref a695), (.ref a662)]) rfl (W := 2) (Nat.le_of_eq rfl) (by decide) (by decide) (by decide) (by decide) (fun v709 T709 h709 X709 hQ709 => ?_)
  obtain ⟨rfl, K709, S709⟩ := hQ709
  have f710 := f708.keep K709 (allS G_a695 all0)
  have f711 := f696.keep K709
  have f712 := f697.keep K709 (ninS ne695_t nin0)
  have f713 := f698.keep K709 (ninS ne695_t nin0)
  have f714 := f699.keep K709 (ninS ne695_t nin0)
  have f715 := f700.keep K709 (ninS ne695_t nin0)
  have f716 := f701.keep K709 (ninS ne695_t nin0)
  have f717 := f702.keep K709
  have f718 := f703.keep K709 (ninS ne695_b670 nin0)
  have f719 := f704.keep K709
  have f720 := f705.keep K709 (ninS ne695_a662 nin0)
  have f721 := f706.keep K709 (ninS ne695_a662 nin0)
  have f722 := f707.keep K709 (ninS ne695_a662 nin0)
  have f723 := A695.keep K709
  have zs709 : n0 ≤ h709.size := Nat.le_trans Zs695 K709.1
  show Go p e below s n0 _ _ _ (T709.setTop (mkF m 37 _ [(.ref a695), (.ref a662)]))
  refine g_callIf X709 hx hZ hown (wat hw 162 rfl) (wat hw 163 rfl) (wat hw 164 rfl) (by first | rfl | decide) (wat hw 165 rfl) (wat hw 166 rfl) (wat hw 167 rfl) (wat hw 168 rfl) (wat hw 169 rfl) (wat hw 125 rfl) (wat hw 170 rfl) (by decide) (a := a662) f717 (rm21_0 l Z a0 hw [] n0 (Ts) a662 b670 a695 _ h709 zs709 f717 G_a662 f720 f721 f722 f718 f719 G670 f723) pd_21 rfl rfl (by rw [hml]; rfl) (pc' := 42) rfl (hD hby d15_37) (argsL := [(.ref a695)]) (rest := []) rfl (W := 0) (Nat.le_of_eq rfl) (by decide) (by decide) (by decide) (by decide) (fun v724 T724 h724 X724 hQ724 => ?_)
  obtain ⟨rfl, K724, V724, m724, e724, z724⟩ := hQ724
  have f725 := f710.keep K724 (allS G_a662 (allS G670 all0))
  have f726 := f711.keep K724
  have f727 := f712.keep K724 (ninS ne662_t (ninS ne670_t nin0))
  have f728 := f713.keep K724 (ninS ne662_t (ninS ne670_t nin0))
  have f729 := f714.keep K724 (ninS ne662_t (ninS ne670_t nin0))
  have f730 := f715.keep K724 (ninS ne662_t (ninS ne670_t nin0))
  have f731 := f716.keep K724 (ninS ne662_t (ninS ne670_t nin0))
  have f732 := f717.keep K724
  have f733 := f719.keep K724
  have f734 := f723.keep K724
  have f735 := S709.keep K724 (ninS ne695_a662.symm (ninS ne695_b670.symm nin0))
  have zs724 : n0 ≤ h724.size := Nat.le_trans zs709 K724.1
  show Go p e below s n0 _ _ _ (T724.setTop (mkF m 42 _ [(.int 1)]))
  refine g_pop X724 hx (pc' := 43) rfl (hD hby d15_42) rfl ?_
  refine g_aloadN X724 hx (pc' := 44) rfl (hD hby d15_43) rfl rfl ?_
  refine g_iconst X724 hx (pc' := 45) (z := (0 : Int32)) rfl (hD hby d15_44) rfl ?_
  refine g_putF X724 hx hZ hown (wat hw 103 rfl) Via.refl f731 f726 (Or.inl (wat hw 104 rfl)) (wat hw 46 rfl) (ty := .boolean) (by decide) rfl rfl hgt (pc' := 48) rfl (hD hby d15_45) (fun T736 h736 X736 W736 => ?_)
  have f737 := (by have q := (Keep.of_wr W736).1; exact Nat.le_trans zs724 q : n0 ≤ h736.size)
  have f738 := f725.wr W736 hgt
  have f739 := f726.wr W736
  have f740 := f727.other W736 (Or.inr (slot_ne (Or.inl (wat hw 79 rfl)) (Or.inl (wat hw 104 rfl)) (by decide) (t := (.object "java/lang/String")) (t' := .boolean) (by decide) (by decide)))
  have f741 := f728.other W736 (Or.inr (slot_ne (Or.inl (wat hw 64 rfl)) (Or.inl (wat hw 104 rfl)) (by decide) (t := (.object "java/util/List")) (t' := .boolean) (by decide) (by decide)))
  have f742 := f729.other W736 (Or.inr (slot_ne (Or.inl (wat hw 54 rfl)) (Or.inl (wat hw 104 rfl)) (by decide) (t := .double) (t' := .boolean) (by decide) (by decide)))
  have f743 := f730.other W736 (Or.inr (slot_ne (Or.inl (wat hw 56 rfl)) (Or.inl (wat hw 104 rfl)) (by decide) (t := .double) (t' := .boolean) (by decide) (by decide)))
  have f744 := f731.same W736
  have f745 := f732.wr W736
  have f746 := f733.wr W736
  have f747 := f734.wr W736
  have f748 := f735.keep (Keep.of_wr W736) (ninS ne695_t.symm nin0)
  have f749 := V724.other W736 ne670_t.symm
  have f750 := m724.other W736 (Or.inl ne662_t.symm)
  have f751 := e724.other W736 (Or.inl ne662_t.symm)
  have f752 := z724.other W736 (Or.inl ne662_t.symm)
  exact g_retV X736 hx hlk hret (hD hby d15_48) (by decide) (by decide) (Nat.le_refl _) (⟨rfl, ⟨f738, f737, hgt, a662, ⟨f739, f740, f741, ⟨_, f742⟩, ⟨_, f743⟩, _, f744⟩, ⟨b670, a695, _, f745, G_a662, f750, f751, f752, f749, f746, G670, f748, G_a695⟩⟩⟩)
set_option maxRecDepth 65536 in
set_option maxHeartbeats 40000000 in
theorem rm15_1 (l : Launch) (Z : State) (a0 : Array Value) (hw : ∀ d ∈ tables_1, d.before a0 Z = true) (ws : List Jvm.Cond) (n0 : Nat) (Ts : List String) (t el st' mr : Addr) (vid : Value) (x' : UInt64) (h0 : Heap) (hn0 : n0 ≤ h0.size) (MR : Mir0 Z "[Ljava/lang/Object;" mr) (I0 : Inv1 Z n0 el vid h0 t) :
    Con l Z n0 Ts (Ts) (⟨"com/example/loads_to_headways/loadstoheadways/sim/Passenger", "strand", "(Lcom/example/loads_to_headways/loadstoheadways/corridor/Station;D)V"⟩ : MethodName) prog_48_method_19_code 4 none ws ({ frames := 7, cells := 3, slots := 12, locals := 208 } : Room) #[(.ref t), (.ref st'), (.double x')] h0 (fun v h => v = none ∧ Inv2 Z n0 el vid h t) := by
  refine con_start (plainFor_of_name (by first | (simp [plainName, overriddenIn]; done) | decide +kernel)) (fr0 := fun m => mkF m 0 #[.val (.ref t), .val (.ref st'), .val (.double x'), .second] []) (fun m => by first | (simp [entryFrame, mkF, argsToLocals, Value.category]; done) | rfl) ?_
  intro p e s m below meth c T0 hx hZ hby hml hown hnm hret hlk hsh XA
  have X0 := XA n0
  have hlow : n0 ≤ s.heap.size := by rw [hsh]; exact hn0
  replace hown : s.vm.findClass "com/example/loads_to_headways/loadstoheadways/sim/Passenger" = some m.cls := hown
  replace hml : c.maxLocals = 4 := hml
  obtain ⟨OLD, hz, hgt, lst, P0, L0⟩ := I0
  obtain ⟨Ep, Fvid, Flst, ⟨bd, Fbd⟩, ⟨ad, Fad⟩, zb, Fzb⟩ := P0
  obtain ⟨ea, s1, mc, El, Gl, Fm, Fe, Fz, Ae, Ee, Ge, D1, G1⟩ := L0
  have n_t_lst : t ≠ lst := Exa.ne Ep El (by decide)
  have n_t_ea : t ≠ ea := Exa.ne Ep Ee (by decide)
  have n_lst_ea : lst ≠ ea := Exa.ne El Ee (by decide)
  have n_t_s1 : t ≠ s1 := Exa.ne Ep D1.1 (by decide)
  have n_lst_s1 : lst ≠ s1 := Exa.ne El D1.1 (by decide)
  have n_ea_s1 : ea ≠ s1 := Exa.ne Ee D1.1 (by decide)
  refine g_aloadN X0 hx (pc' := 1) rfl (hD hby d15_0) rfl rfl ?_
  refine g_getF X0 hx hZ hown (wat hw 63 rfl) Via.refl Flst (pc' := 4) rfl (hD hby d15_1) (fun T753 X753 => ?_)
  refine g_callIf X753 hx hZ hown (wat hw 111 rfl) (wat hw 112 rfl) (wat hw 113 rfl) (by first | rfl | decide) (wat hw 187 rfl) (wat hw 188 rfl) (wat hw 189 rfl) (wat hw 190 rfl) (wat hw 169 rfl) (wat hw 125 rfl) (wat hw 191 rfl) (by decide) (a := lst) El (rm24_1 l Z a0 hw [] n0 (Ts) lst h0 hn0 Fz) pd_4 rfl rfl (by rw [hml]; rfl) (pc' := 9) rfl (hD hby d15_4) (argsL := []) (rest := []) rfl (W := 0) (Nat.le_of_eq rfl) (by decide) (by decide) (by decide) (by decide) (fun v754 T754 h754 X754 hQ754 => ?_)
  obtain ⟨rfl, he754⟩ := hQ754
  rw [he754] at X754
  show Go p e below s n0 _ _ _ (T754.setTop (mkF m 9 _ [(.int 0)]))
  refine g_ifY X754 hx (pcY := 24) (hD hby d15_9) (by decide) (by decide) (show (0 : Int32) = 0 from by decide) ?_
  refine g_aloadN X754 hx (pc' := 25) rfl (hD hby d15_24) rfl rfl ?_
  refine g_getF X754 hx hZ hown (wat hw 63 rfl) Via.refl Flst (pc' := 28) rfl (hD hby d15_25) (fun T755 X755 => ?_)
  refine g_newO X755 hx hZ hown (wat hw 148 rfl) (wat hw 149 rfl) (wat hw 150 rfl) (pc' := 31) rfl (hD hby d15_28) (by decide) (by decide) (fun T756 h756 a756 ha756 X756 E756 A756 D756 => ?_)
  have ne756_t : t ≠ a756 := by rw [ha756]; exact Nat.ne_of_lt Ep.lt
  have ne756_lst : lst ≠ a756 := by rw [ha756]; exact Nat.ne_of_lt El.lt
  have ne756_ea : ea ≠ a756 := by rw [ha756]; exact Nat.ne_of_lt Ae.lt
  have ne756_s1 : s1 ≠ a756 := by rw [ha756]; exact Nat.ne_of_lt D1.1.lt
  have f757 := Ep.ext E756
  have f758 := Fvid.ext E756
  have f759 := Flst.ext E756
  have f760 := Fbd.ext E756
  have f761 := Fad.ext E756
  have f762 := Fzb.ext E756
  have f763 := El.ext E756
  have f764 := Fm.ext E756
  have f765 := Fe.ext E756
  have f766 := Fz.ext E756
  have f767 := Ae.ext E756
  have f768 := Ee.ext E756
  have f769 := D1.keep ((Keep.refl _ []).ext E756) nin0
  have f770 := D1.1.ext E756
  have G_a756 : n0 ≤ a756 := by rw [ha756]; exact hn0
  have Zs756 : n0 ≤ h756.size := Nat.le_trans hn0 E756.1
  have f771 := OLD.ext E756
  have F756_boardingSeconds : Fld Z h756 a756 "com/example/loads_to_headways/loadstoheadways/sim/Stranding" "boardingSeconds" "D" (.double (0 : UInt64)) := D756 (Or.inl (wat hw 157 rfl)) (ty := .double) (by decide)
  have F756_station : Fld Z h756 a756 "com/example/loads_to_headways/loadstoheadways/sim/Stranding" "station" "Lcom/example/loads_to_headways/loadstoheadways/corridor/Station;" .null := D756 (Or.inr (wat hw 159 rfl)) (ty := (.object "com/example/loads_to_headways/loadstoheadways/corridor/Station")) (by decide)
  have F756_seconds : Fld Z h756 a756 "com/example/loads_to_headways/loadstoheadways/sim/Stranding" "seconds" "D" (.double (0 : UInt64)) := D756 (Or.inr (wat hw 161 rfl)) (ty := .double) (by decide)
  have F756_vehicleId : Fld Z h756 a756 "com/example/loads_to_headways/loadstoheadways/sim/Stranding" "vehicleId" "Ljava/lang/String;" .null := D756 (Or.inl (wat hw 269 rfl)) (ty := (.object "java/lang/String")) (by decide)
  refine g_dup X756 hx (pc' := 32) rfl (hD hby d15_31) rfl ?_
  refine g_aloadN X756 hx (pc' := 33) rfl (hD hby d15_32) rfl rfl ?_
  refine g_dloadN X756 hx (pc' := 34) rfl (hD hby d15_33) rfl ?_
  refine g_callI X756 hx hZ hown rfl (wat hw 151 rfl) (wat hw 152 rfl) (wat hw 150 rfl) (wat hw 153 rfl) (by decide) (a := a756) (rm20 l Z a0 hw [] n0 (Ts) a756 st' x' h756 Zs756 A756 G_a756 F756_boardingSeconds F756_station F756_seconds F756_vehicleId) pd_20 rfl rfl (by rw [hml]; rfl) (pc' := 37) rfl (hD hby d15_34) (argsL := [(.ref st'), (.double x')]) (rest := [(.ref a756), (.ref lst)]) rfl (W := 2) (Nat.le_of_eq rfl) (by decide) (by decide) (by decide) (by decide) (fun v772 T772 h772 X772 hQ772 => ?_)
  obtain ⟨rfl, K772, S772⟩ := hQ772
  have f773 := f771.keep K772 (allS G_a756 all0)
  have f774 := f757.keep K772
  have f775 := f758.keep K772 (ninS ne756_t nin0)
  have f776 := f759.keep K772 (ninS ne756_t nin0)
  have f777 := f760.keep K772 (ninS ne756_t nin0)
  have f778 := f761.keep K772 (ninS ne756_t nin0)
  have f779 := f762.keep K772 (ninS ne756_t nin0)
  have f780 := f763.keep K772
  have f781 := f764.keep K772 (ninS ne756_lst nin0)
  have f782 := f765.keep K772 (ninS ne756_lst nin0)
  have f783 := f766.keep K772 (ninS ne756_lst nin0)
  have f784 := f767.keep K772 (ninS ne756_ea nin0)
  have f785 := f768.keep K772
  have f786 := f769.keep K772 (ninS ne756_s1 nin0)
  have f787 := f770.keep K772
  have f788 := A756.keep K772
  have zs772 : n0 ≤ h772.size := Nat.le_trans Zs756 K772.1
  show Go p e below s n0 _ _ _ (T772.setTop (mkF m 37 _ [(.ref a756), (.ref lst)]))
  refine g_callIf X772 hx hZ hown (wat hw 162 rfl) (wat hw 163 rfl) (wat hw 164 rfl) (by first | rfl | decide) (wat hw 165 rfl) (wat hw 166 rfl) (wat hw 167 rfl) (wat hw 168 rfl) (wat hw 169 rfl) (wat hw 125 rfl) (wat hw 170 rfl) (by decide) (a := lst) f780 (rm21_1 l Z a0 hw [] n0 (Ts) lst ea s1 a756 mr _ h772 zs772 MR f780 Gl f781 f782 f783 f784 f785 f787 f788) pd_21 rfl rfl (by rw [hml]; rfl) (pc' := 42) rfl (hD hby d15_37) (argsL := [(.ref a756)]) (rest := []) rfl (W := 0) (Nat.le_of_eq rfl) (by decide) (by decide) (by decide) (by decide) (fun v789 T789 h789 X789 hQ789 => ?_)
  obtain ⟨rfl, K789, b789, G789, S789, V789, EV789, m789, e789, z789⟩ := hQ789
  have ne789_t : t ≠ b789 := Nat.ne_of_lt (Nat.lt_of_lt_of_le f774.lt S789)
  have ne789_lst : lst ≠ b789 := Nat.ne_of_lt (Nat.lt_of_lt_of_le f780.lt S789)
  have ne789_ea : ea ≠ b789 := Nat.ne_of_lt (Nat.lt_of_lt_of_le f784.lt S789)
  have ne789_s1 : s1 ≠ b789 := Nat.ne_of_lt (Nat.lt_of_lt_of_le f787.lt S789)
  have ne789_a756 : a756 ≠ b789 := Nat.ne_of_lt (Nat.lt_of_lt_of_le f788.lt S789)
  have f790 := f773.keep K789 (allS Gl all0)
  have f791 := f774.keep K789
  have f792 := f775.keep K789 (ninS n_t_lst nin0)
  have f793 := f776.keep K789 (ninS n_t_lst nin0)
  have f794 := f777.keep K789 (ninS n_t_lst nin0)
  have f795 := f778.keep K789 (ninS n_t_lst nin0)
  have f796 := f779.keep K789 (ninS n_t_lst nin0)
  have f797 := f780.keep K789
  have f798 := f784.keep K789 (ninS n_lst_ea.symm nin0)
  have f799 := f785.keep K789
  have f800 := f786.keep K789 (ninS n_lst_s1.symm nin0)
  have f801 := f787.keep K789
  have f802 := f788.keep K789
  have f803 := S772.keep K789 (ninS ne756_lst.symm nin0)
  have zs789 : n0 ≤ h789.size := Nat.le_trans zs772 K789.1
  show Go p e below s n0 _ _ _ (T789.setTop (mkF m 42 _ [(.int 1)]))
  refine g_pop X789 hx (pc' := 43) rfl (hD hby d15_42) rfl ?_
  refine g_aloadN X789 hx (pc' := 44) rfl (hD hby d15_43) rfl rfl ?_
  refine g_iconst X789 hx (pc' := 45) (z := (0 : Int32)) rfl (hD hby d15_44) rfl ?_
  refine g_putF X789 hx hZ hown (wat hw 103 rfl) Via.refl f796 f791 (Or.inl (wat hw 104 rfl)) (wat hw 46 rfl) (ty := .boolean) (by decide) rfl rfl hgt (pc' := 48) rfl (hD hby d15_45) (fun T804 h804 X804 W804 => ?_)
  have f805 := (by have q := (Keep.of_wr W804).1; exact Nat.le_trans zs789 q : n0 ≤ h804.size)
  have f806 := f790.wr W804 hgt
  have f807 := f791.wr W804
  have f808 := f792.other W804 (Or.inr (slot_ne (Or.inl (wat hw 79 rfl)) (Or.inl (wat hw 104 rfl)) (by decide) (t := (.object "java/lang/String")) (t' := .boolean) (by decide) (by decide)))
  have f809 := f793.other W804 (Or.inr (slot_ne (Or.inl (wat hw 64 rfl)) (Or.inl (wat hw 104 rfl)) (by decide) (t := (.object "java/util/List")) (t' := .boolean) (by decide) (by decide)))
  have f810 := f794.other W804 (Or.inr (slot_ne (Or.inl (wat hw 54 rfl)) (Or.inl (wat hw 104 rfl)) (by decide) (t := .double) (t' := .boolean) (by decide) (by decide)))
  have f811 := f795.other W804 (Or.inr (slot_ne (Or.inl (wat hw 56 rfl)) (Or.inl (wat hw 104 rfl)) (by decide) (t := .double) (t' := .boolean) (by decide) (by decide)))
  have f812 := f796.same W804
  have f813 := f797.wr W804
  have f814 := f798.other W804 n_t_ea.symm
  have f815 := f799.wr W804
  have f816 := f800.keep (Keep.of_wr W804) (ninS n_t_s1.symm nin0)
  have f817 := f801.wr W804
  have f818 := f802.wr W804
  have f819 := f803.keep (Keep.of_wr W804) (ninS ne756_t.symm nin0)
  have f820 := V789.other W804 ne789_t.symm
  have f821 := EV789.wr W804
  have f822 := m789.other W804 (Or.inl n_t_lst.symm)
  have f823 := e789.other W804 (Or.inl n_t_lst.symm)
  have f824 := z789.other W804 (Or.inl n_t_lst.symm)
  exact g_retV X804 hx hlk hret (hD hby d15_48) (by decide) (by decide) (Nat.le_refl _) (⟨rfl, ⟨f806, f805, hgt, lst, ⟨f807, f808, f809, ⟨_, f810⟩, ⟨_, f811⟩, _, f812⟩, ⟨b789, s1, a756, _, f813, Gl, f822, f823, f824, f820, f821, G789, f816, G1, f819, G_a756, ne756_s1⟩⟩⟩)
theorem own_add {x k : Int32} {d c : UInt64} (hd : d = FP.i2d x) (hc : FP.i2d k = c) : Jvm.Free.Fl.NoNaN64 (FP.dadd d c) := by
  subst hd; subst hc
  refine dy_noNaN (dy_add (dy_int (FP.Core.i2d_int x)) (dy_int (FP.Core.i2d_int k)) ?_ (by decide))
  have a1 := x.toInt_lt; have a2 := x.le_toInt; have b1 := k.toInt_lt; have b2 := k.le_toInt
  rw [own_p53]; omega
theorem own_ch (v : Int32) : ¬ (255 : Int32) < (v &&& (255 : Int32)).toUInt32.toUInt16.toUInt32.toInt32 := by
  have h1 : (v &&& (255 : Int32)).toUInt32.toNat ≤ 255 := by
    have e : (v &&& (255 : Int32)).toUInt32 = v.toUInt32 &&& 255 := rfl
    rw [e, UInt32.toNat_and]
    exact Nat.and_le_right
  have h2 : (v &&& (255 : Int32)).toUInt32.toUInt16.toUInt32.toNat ≤ 255 := by
    rw [UInt16.toNat_toUInt32, UInt32.toNat_toUInt16]
    omega
  generalize (v &&& (255 : Int32)).toUInt32.toUInt16.toUInt32 = u at h2
  have h3 : u.toInt32.toInt = (u.toNat : Int) := by
    have e : u.toInt32 = Int32.ofNat u.toNat := by rw [← UInt32.toInt32_ofNat', UInt32.ofNat_toNat]
    rw [e]; exact Int32.toInt_ofNat_of_lt (by omega)
  rw [Int32.lt_iff_toInt_lt, h3]
  have : (255 : Int32).toInt = 255 := rfl
  omega
theorem own_exp {Z : State} {h : Heap} {t : Addr} {vid : Value} (q : ∃ lst, Pas Z h t vid lst) : Exa Z h t "com/example/loads_to_headways/loadstoheadways/sim/Passenger" := by obtain ⟨_, q⟩ := q; exact q.1
set_option maxRecDepth 65536 in
set_option maxHeartbeats 40000000 in
theorem rm0 (l : Launch) (Z : State) (a0 : Array Value) (hw : ∀ d ∈ tables_1, d.before a0 Z = true) (ws : List Jvm.Cond) (n0 : Nat) (Ts : List String) (f' t' v1 v2 cz : Int32) (el mr : Addr) (h0 : Heap) (hn0 : n0 ≤ h0.size) (hTs : Ts = []) (hcw : Jvm.Lit.compactW.before a0 Z = true) (hkc : ∀ q ∈ consts_1, Jvm.Lit.constHeld Z q.1 q.2) (O2 : Sta Z Z.heap "java/lang/String" "COMPACT_STRINGS" "Z" (.int cz)) (hcz : ¬ cz = 0) (OLD : Old Z n0 h0) (O3 : Sta Z Z.heap "java/util/ImmutableCollections" "EMPTY_LIST" "Ljava/util/ImmutableCollections$ListN;" (.ref el)) (EM : EmL Z Z.heap el) (MR : Mir0 Z "[Ljava/lang/Object;" mr) :
    Con l Z n0 Ts ("id" :: "S" :: Ts) x code maxLocals ret ws room_1 #[(.int f'), (.int t'), (.int v1), (.int v2)] h0 (fun v h => v = some (.int 1)) := by
  refine con_start (plainFor_of_name (by first | (simp [plainName, overriddenIn]; done) | decide +kernel)) (fr0 := fun m => mkF m 0 #[.val (.int f'), .val (.int t'), .val (.int v1), .val (.int v2), .unset, .unset, .unset, .unset, .unset, .unset, .unset, .unset, .unset, .unset, .unset, .unset, .unset] []) (fun m => by first | (simp [entryFrame, mkF, argsToLocals, Value.category, maxLocals]; done) | rfl) ?_
  intro p e s m below meth c T0 hx hZ hby hml hown hnm hret hlk hsh XA
  have X0 := XA s.heap.size
  have hlow : n0 ≤ s.heap.size := by rw [hsh]; exact hn0
  replace hown : s.vm.findClass "com/example/loads_to_headways/loadstoheadways/sim/PassengerHasBoardedPinLaw" = some m.cls := hown
  replace hml : c.maxLocals = 17 := hml
  refine g_newO X0 hx hZ hown (wat hw 0 rfl) (wat hw 1 rfl) (wat hw 2 rfl) (pc' := 3) rfl (hD hby at_0) (by decide) (by decide) (fun T825 h825 a825 ha825 X825 E825 A825 D825 => ?_)
  have G_a825 : n0 ≤ a825 := by rw [ha825]; exact hn0
  have Zs825 : n0 ≤ h825.size := Nat.le_trans hn0 E825.1
  have f826 := OLD.ext E825
  have F825_seq : Fld Z h825 a825 "com/example/loads_to_headways/loadstoheadways/corridor/Station" "seq" "I" (.int 0) := D825 (Or.inr (wat hw 40 rfl)) (ty := .int) (by decide)
  have F825_id : Fld Z h825 a825 "com/example/loads_to_headways/loadstoheadways/corridor/Station" "id" "Ljava/lang/String;" .null := D825 (Or.inr (wat hw 42 rfl)) (ty := (.object "java/lang/String")) (by decide)
  have F825_arrivalRatePerMinute : Fld Z h825 a825 "com/example/loads_to_headways/loadstoheadways/corridor/Station" "arrivalRatePerMinute" "D" (.double (0 : UInt64)) := D825 (Or.inr (wat hw 44 rfl)) (ty := .double) (by decide)
  refine g_dup X825 hx (pc' := 4) rfl (hD hby at_3) rfl ?_
  refine g_iconst X825 hx (pc' := 5) (z := (1 : Int32)) rfl (hD hby at_4) rfl ?_
  refine g_ldcS X825 hx hZ hown (wat hw 3 rfl) (own_wS hw) (fun b cl q => by rw [hsh]; exact OLD.2.2 b cl q) (by rw [hTs]; decide) (hkc ("com/example/loads_to_headways/loadstoheadways/sim/PassengerHasBoardedPinLaw", 9) (by simp [consts_1])) hcw (vs := [.int 83]) ⟨by decide, rfl⟩ (by decide) (pc' := 7) rfl (hD hby at_5) (n := 4) (by decide) (by decide) (by decide) (by decide) (fun T827 h827 a827 b827 XX827 E827 EX827 FC827 FV827 AB827 WH827 => ?_)
  have X827 := XX827.low hlow
  have f828 := A825.ext E827
  have f829 := F825_seq.ext E827
  have f830 := F825_id.ext E827
  have f831 := F825_arrivalRatePerMinute.ext E827
  have Zs827 : n0 ≤ h827.size := Nat.le_trans Zs825 E827.1
  have f832 := f826.ext E827
  show Go p e below s n0 _ _ _ (T827.setTop (mkF m 7 _ [(.ref a827), (.int 1), (.ref a825), (.ref a825)]))
  refine g_dconst0 X827 hx (pc' := 8) rfl (hD hby at_7) ?_
  have ne_a827 : a827 ≠ a825 := by
    rcases WH827 with q | q
    · rw [hsh] at q; exact Nat.ne_of_lt (by rw [ha825]; exact q.1)
    · exact (Nat.ne_of_lt (Nat.lt_of_lt_of_le A825.lt q.1)).symm
  have ne_b827 : b827 ≠ a825 := by
    rcases WH827 with q | q
    · rw [hsh] at q; exact Nat.ne_of_lt (by rw [ha825]; exact q.2)
    · exact (Nat.ne_of_lt (Nat.lt_of_lt_of_le A825.lt q.2)).symm
  refine g_callI X827 hx hZ hown rfl (wat hw 11 rfl) (wat hw 12 rfl) (wat hw 2 rfl) (wat hw 13 rfl) (by decide) (a := a825) (rm1 l Z a0 hw [] n0 ("S" :: Ts) a825 a827 b827 _ h827 Zs827 hcw hkc f832 (by rw [hTs]; decide) f828 G_a825 f829 f830 f831 EX827 FV827 AB827 ne_a827 ne_b827) pd_22 rfl rfl (by rw [hml]; rfl) (pc' := 11) rfl (hD hby at_8) (argsL := [(.int 1), (.ref a827), (.double (0 : UInt64))]) (rest := [(.ref a825)]) rfl (W := 1) (Nat.le_of_eq rfl) (by decide) (by decide) (by decide) (by decide) (fun v833 T833 h833 X833 hQ833 => ?_)
  obtain ⟨rfl, K833⟩ := hQ833
  have f834 := f832.keep K833 (allS G_a825 all0)
  have zs833 : n0 ≤ h833.size := Nat.le_trans Zs827 K833.1
  show Go p e below s n0 _ _ _ (T833.setTop (mkF m 11 _ [(.ref a825)]))
  refine g_astore X833 hx (pc' := 13) rfl (hD hby at_11) rfl (l' := #[.val (.int f'), .val (.int t'), .val (.int v1), .val (.int v2), .val (.ref a825), .unset, .unset, .unset, .unset, .unset, .unset, .unset, .unset, .unset, .unset, .unset, .unset]) rfl ?_
  refine g_iloadN X833 hx (pc' := 14) rfl (hD hby at_13) rfl ?_
  refine g_sipush X833 hx (pc' := 17) (z := (4095 : Int32)) rfl (hD hby at_14) rfl ?_
  refine g_iand X833 hx (pc' := 18) rfl (hD hby at_17) ?_
  refine g_i2d X833 hx (pc' := 19) rfl (hD hby at_18) ?_
  refine g_absD (fun d0 h_d0 => ?_)
  refine g_dstore X833 hx (pc' := 21) rfl (hD hby at_19) (l' := #[.val (.int f'), .val (.int t'), .val (.int v1), .val (.int v2), .val (.ref a825), .val (.double d0), .second, .unset, .unset, .unset, .unset, .unset, .unset, .unset, .unset, .unset, .unset]) rfl ?_
  refine g_newO X833 hx hZ hown (wat hw 45 rfl) (wat hw 46 rfl) (wat hw 47 rfl) (pc' := 24) rfl (hD hby at_21) (by decide) (by decide) (fun T835 h835 a835 ha835 X835 E835 A835 D835 => ?_)
  have G_a835 : n0 ≤ a835 := by rw [ha835]; exact zs833
  have Zs835 : n0 ≤ h835.size := Nat.le_trans zs833 E835.1
  have f836 := f834.ext E835
  have F835_boardingSeconds : Fld Z h835 a835 "com/example/loads_to_headways/loadstoheadways/sim/Passenger" "boardingSeconds" "D" (.double (0 : UInt64)) := D835 (Or.inl (wat hw 54 rfl)) (ty := .double) (by decide)
  have F835_alightingSeconds : Fld Z h835 a835 "com/example/loads_to_headways/loadstoheadways/sim/Passenger" "alightingSeconds" "D" (.double (0 : UInt64)) := D835 (Or.inl (wat hw 56 rfl)) (ty := .double) (by decide)
  have F835_strandings : Fld Z h835 a835 "com/example/loads_to_headways/loadstoheadways/sim/Passenger" "strandings" "Ljava/util/List;" .null := D835 (Or.inl (wat hw 64 rfl)) (ty := (.object "java/util/List")) (by decide)
  have F835_id : Fld Z h835 a835 "com/example/loads_to_headways/loadstoheadways/sim/Passenger" "id" "I" (.int 0) := D835 (Or.inr (wat hw 66 rfl)) (ty := .int) (by decide)
  have F835_origin : Fld Z h835 a835 "com/example/loads_to_headways/loadstoheadways/sim/Passenger" "origin" "Lcom/example/loads_to_headways/loadstoheadways/corridor/Station;" .null := D835 (Or.inr (wat hw 68 rfl)) (ty := (.object "com/example/loads_to_headways/loadstoheadways/corridor/Station")) (by decide)
  have F835_destination : Fld Z h835 a835 "com/example/loads_to_headways/loadstoheadways/sim/Passenger" "destination" "Lcom/example/loads_to_headways/loadstoheadways/corridor/Station;" .null := D835 (Or.inr (wat hw 70 rfl)) (ty := (.object "com/example/loads_to_headways/loadstoheadways/corridor/Station")) (by decide)
  have F835_arrivalSeconds : Fld Z h835 a835 "com/example/loads_to_headways/loadstoheadways/sim/Passenger" "arrivalSeconds" "D" (.double (0 : UInt64)) := D835 (Or.inr (wat hw 72 rfl)) (ty := .double) (by decide)
  have F835_vehicleId : Fld Z h835 a835 "com/example/loads_to_headways/loadstoheadways/sim/Passenger" "vehicleId" "Ljava/lang/String;" .null := D835 (Or.inl (wat hw 79 rfl)) (ty := (.object "java/lang/String")) (by decide)
  have F835_onBoard : Fld Z h835 a835 "com/example/loads_to_headways/loadstoheadways/sim/Passenger" "onBoard" "Z" (.int 0) := D835 (Or.inl (wat hw 104 rfl)) (ty := .boolean) (by decide)
  refine g_dup X835 hx (pc' := 25) rfl (hD hby at_24) rfl ?_
  refine g_iconst X835 hx (pc' := 26) (z := (1 : Int32)) rfl (hD hby at_25) rfl ?_
  refine g_aload X835 hx (pc' := 28) rfl (hD hby at_26) rfl rfl ?_
  refine g_aload X835 hx (pc' := 30) rfl (hD hby at_28) rfl rfl ?_
  refine g_dload X835 hx (pc' := 32) rfl (hD hby at_30) rfl ?_
  refine g_callI X835 hx hZ hown rfl (wat hw 48 rfl) (wat hw 49 rfl) (wat hw 47 rfl) (wat hw 50 rfl) (by decide) (a := a835) (rm7 l Z a0 hw [] n0 ("id" :: "S" :: Ts) a835 a825 el d0 h835 Zs835 O3 f836 A835 G_a835 F835_boardingSeconds F835_alightingSeconds F835_strandings F835_id F835_origin F835_destination F835_arrivalSeconds F835_vehicleId F835_onBoard) pd_23 rfl rfl (by rw [hml]; rfl) (pc' := 35) rfl (hD hby at_32) (argsL := [(.int 1), (.ref a825), (.ref a825), (.double d0)]) (rest := [(.ref a835)]) rfl (W := 1) (Nat.le_of_eq rfl) (by decide) (by decide) (by decide) (by decide) (fun v837 T837 h837 X837 hQ837 => ?_)
  obtain ⟨rfl, K837, PP837⟩ := hQ837
  have f838 := f836.keep K837 (allS G_a835 all0)
  have zs837 : n0 ≤ h837.size := Nat.le_trans Zs835 K837.1
  have I837 : Inv0 Z n0 el .null h837 a835 := ⟨f838, zs837, G_a835, PP837⟩
  show Go p e below s n0 _ _ _ (T837.setTop (mkF m 35 _ [(.ref a835)]))
  refine g_astore X837 hx (pc' := 37) rfl (hD hby at_35) rfl (l' := #[.val (.int f'), .val (.int t'), .val (.int v1), .val (.int v2), .val (.ref a825), .val (.double d0), .second, .val (.ref a835), .unset, .unset, .unset, .unset, .unset, .unset, .unset, .unset, .unset]) rfl ?_
  refine g_iloadN X837 hx (pc' := 38) rfl (hD hby at_37) rfl ?_
  refine g_iconst X837 hx (pc' := 39) (z := (1 : Int32)) rfl (hD hby at_38) rfl ?_
  refine g_iand X837 hx (pc' := 40) rfl (hD hby at_39) ?_
  suffices J40 : ∀ (bo0 : Int32), (bo0 = (if (f' &&& (1 : Int32)) = 0 then (0 : Int32) else (1 : Int32))) → Go p e below s n0 ((Z, ("id" :: "S" :: Ts), fun v h => v = some (.int 1)) : GQ) room_1.cells room_1.slots (T837.setTop (mkF m 48 #[.val (.int f'), .val (.int t'), .val (.int v1), .val (.int v2), .val (.ref a825), .val (.double d0), .second, .val (.ref a835), .unset, .unset, .unset, .unset, .unset, .unset, .unset, .unset, .unset] [(.int bo0)])) by
    refine g_if X837 hx (pcY := 47) (pcN := 43) (hD hby at_40) (by decide) (by decide) rfl (fun hc40 => ?_) (fun hc40 => ?_)
    · replace hc40 : (f' &&& (1 : Int32)) = 0 := hc40
      refine g_iconst X837 hx (pc' := 48) (z := (0 : Int32)) rfl (hD hby at_47) rfl ?_
      exact J40 _ (by rw [if_pos hc40])
    · replace hc40 : ¬ (f' &&& (1 : Int32)) = 0 := hc40
      refine g_iconst X837 hx (pc' := 44) (z := (1 : Int32)) rfl (hD hby at_43) rfl ?_
      refine g_goto X837 hx (pc' := 48) (hD hby at_44) (by decide) (by decide) ?_
      exact J40 _ (by rw [if_neg hc40])
  intro bo0 h_bo0
  refine g_istore X837 hx (pc' := 50) rfl (hD hby at_48) (l' := #[.val (.int f'), .val (.int t'), .val (.int v1), .val (.int v2), .val (.ref a825), .val (.double d0), .second, .val (.ref a835), .val (.int bo0), .unset, .unset, .unset, .unset, .unset, .unset, .unset, .unset]) rfl ?_
  refine g_iloadN X837 hx (pc' := 51) rfl (hD hby at_50) rfl ?_
  refine g_iconst X837 hx (pc' := 52) (z := (2 : Int32)) rfl (hD hby at_51) rfl ?_
  refine g_iand X837 hx (pc' := 53) rfl (hD hby at_52) ?_
  suffices J53 : ∀ (bo1 : Int32), (bo1 = (if (f' &&& (2 : Int32)) = 0 then (0 : Int32) else (1 : Int32))) → Go p e below s n0 ((Z, ("id" :: "S" :: Ts), fun v h => v = some (.int 1)) : GQ) room_1.cells room_1.slots (T837.setTop (mkF m 61 #[.val (.int f'), .val (.int t'), .val (.int v1), .val (.int v2), .val (.ref a825), .val (.double d0), .second, .val (.ref a835), .val (.int bo0), .unset, .unset, .unset, .unset, .unset, .unset, .unset, .unset] [(.int bo1)])) by
    refine g_if X837 hx (pcY := 60) (pcN := 56) (hD hby at_53) (by decide) (by decide) rfl (fun hc53 => ?_) (fun hc53 => ?_)
    · replace hc53 : (f' &&& (2 : Int32)) = 0 := hc53
      refine g_iconst X837 hx (pc' := 61) (z := (0 : Int32)) rfl (hD hby at_60) rfl ?_
      exact J53 _ (by rw [if_pos hc53])
    · replace hc53 : ¬ (f' &&& (2 : Int32)) = 0 := hc53
      refine g_iconst X837 hx (pc' := 57) (z := (1 : Int32)) rfl (hD hby at_56) rfl ?_
      refine g_goto X837 hx (pc' := 61) (hD hby at_57) (by decide) (by decide) ?_
      exact J53 _ (by rw [if_neg hc53])
  intro bo1 h_bo1
  refine g_istore X837 hx (pc' := 63) rfl (hD hby at_61) (l' := #[.val (.int f'), .val (.int t'), .val (.int v1), .val (.int v2), .val (.ref a825), .val (.double d0), .second, .val (.ref a835), .val (.int bo0), .val (.int bo1), .unset, .unset, .unset, .unset, .unset, .unset, .unset]) rfl ?_
  refine g_iloadN X837 hx (pc' := 64) rfl (hD hby at_63) rfl ?_
  refine g_iconst X837 hx (pc' := 65) (z := (4 : Int32)) rfl (hD hby at_64) rfl ?_
  refine g_iand X837 hx (pc' := 66) rfl (hD hby at_65) ?_
  suffices J66 : ∀ (bo2 : Int32), (bo2 = (if (f' &&& (4 : Int32)) = 0 then (0 : Int32) else (1 : Int32))) → Go p e below s n0 ((Z, ("id" :: "S" :: Ts), fun v h => v = some (.int 1)) : GQ) room_1.cells room_1.slots (T837.setTop (mkF m 74 #[.val (.int f'), .val (.int t'), .val (.int v1), .val (.int v2), .val (.ref a825), .val (.double d0), .second, .val (.ref a835), .val (.int bo0), .val (.int bo1), .unset, .unset, .unset, .unset, .unset, .unset, .unset] [(.int bo2)])) by
    refine g_if X837 hx (pcY := 73) (pcN := 69) (hD hby at_66) (by decide) (by decide) rfl (fun hc66 => ?_) (fun hc66 => ?_)
    · replace hc66 : (f' &&& (4 : Int32)) = 0 := hc66
      refine g_iconst X837 hx (pc' := 74) (z := (0 : Int32)) rfl (hD hby at_73) rfl ?_
      exact J66 _ (by rw [if_pos hc66])
    · replace hc66 : ¬ (f' &&& (4 : Int32)) = 0 := hc66
      refine g_iconst X837 hx (pc' := 70) (z := (1 : Int32)) rfl (hD hby at_69) rfl ?_
      refine g_goto X837 hx (pc' := 74) (hD hby at_70) (by decide) (by decide) ?_
      exact J66 _ (by rw [if_neg hc66])
  intro bo2 h_bo2
  refine g_istore X837 hx (pc' := 76) rfl (hD hby at_74) (l' := #[.val (.int f'), .val (.int t'), .val (.int v1), .val (.int v2), .val (.ref a825), .val (.double d0), .second, .val (.ref a835), .val (.int bo0), .val (.int bo1), .val (.int bo2), .unset, .unset, .unset, .unset, .unset, .unset]) rfl ?_
  refine g_iloadN X837 hx (pc' := 77) rfl (hD hby at_76) rfl ?_
  refine g_bipush X837 hx (pc' := 79) (z := (8 : Int32)) rfl (hD hby at_77) rfl ?_
  refine g_iand X837 hx (pc' := 80) rfl (hD hby at_79) ?_
  suffices J80 : ∀ (bo3 : Int32), (bo3 = (if (f' &&& (8 : Int32)) = 0 then (0 : Int32) else (1 : Int32))) → Go p e below s n0 ((Z, ("id" :: "S" :: Ts), fun v h => v = some (.int 1)) : GQ) room_1.cells room_1.slots (T837.setTop (mkF m 88 #[.val (.int f'), .val (.int t'), .val (.int v1), .val (.int v2), .val (.ref a825), .val (.double d0), .second, .val (.ref a835), .val (.int bo0), .val (.int bo1), .val (.int bo2), .unset, .unset, .unset, .unset, .unset, .unset] [(.int bo3)])) by
    refine g_if X837 hx (pcY := 87) (pcN := 83) (hD hby at_80) (by decide) (by decide) rfl (fun hc80 => ?_) (fun hc80 => ?_)
    · replace hc80 : (f' &&& (8 : Int32)) = 0 := hc80
      refine g_iconst X837 hx (pc' := 88) (z := (0 : Int32)) rfl (hD hby at_87) rfl ?_
      exact J80 _ (by rw [if_pos hc80])
    · replace hc80 : ¬ (f' &&& (8 : Int32)) = 0 := hc80
      refine g_iconst X837 hx (pc' := 84) (z := (1 : Int32)) rfl (hD hby at_83) rfl ?_
      refine g_goto X837 hx (pc' := 88) (hD hby at_84) (by decide) (by decide) ?_
      exact J80 _ (by rw [if_neg hc80])
  intro bo3 h_bo3
  refine g_istore X837 hx (pc' := 90) rfl (hD hby at_88) (l' := #[.val (.int f'), .val (.int t'), .val (.int v1), .val (.int v2), .val (.ref a825), .val (.double d0), .second, .val (.ref a835), .val (.int bo0), .val (.int bo1), .val (.int bo2), .val (.int bo3), .unset, .unset, .unset, .unset, .unset]) rfl ?_
  refine g_iloadN X837 hx (pc' := 91) rfl (hD hby at_90) rfl ?_
  refine g_bipush X837 hx (pc' := 93) (z := (16 : Int32)) rfl (hD hby at_91) rfl ?_
  refine g_iand X837 hx (pc' := 94) rfl (hD hby at_93) ?_
  suffices J94 : ∀ (bo4 : Int32), (bo4 = (if (f' &&& (16 : Int32)) = 0 then (0 : Int32) else (1 : Int32))) → Go p e below s n0 ((Z, ("id" :: "S" :: Ts), fun v h => v = some (.int 1)) : GQ) room_1.cells room_1.slots (T837.setTop (mkF m 102 #[.val (.int f'), .val (.int t'), .val (.int v1), .val (.int v2), .val (.ref a825), .val (.double d0), .second, .val (.ref a835), .val (.int bo0), .val (.int bo1), .val (.int bo2), .val (.int bo3), .unset, .unset, .unset, .unset, .unset] [(.int bo4)])) by
    refine g_if X837 hx (pcY := 101) (pcN := 97) (hD hby at_94) (by decide) (by decide) rfl (fun hc94 => ?_) (fun hc94 => ?_)
    · replace hc94 : (f' &&& (16 : Int32)) = 0 := hc94
      refine g_iconst X837 hx (pc' := 102) (z := (0 : Int32)) rfl (hD hby at_101) rfl ?_
      exact J94 _ (by rw [if_pos hc94])
    · replace hc94 : ¬ (f' &&& (16 : Int32)) = 0 := hc94
      refine g_iconst X837 hx (pc' := 98) (z := (1 : Int32)) rfl (hD hby at_97) rfl ?_
      refine g_goto X837 hx (pc' := 102) (hD hby at_98) (by decide) (by decide) ?_
      exact J94 _ (by rw [if_neg hc94])
  intro bo4 h_bo4
  refine g_istore X837 hx (pc' := 104) rfl (hD hby at_102) (l' := #[.val (.int f'), .val (.int t'), .val (.int v1), .val (.int v2), .val (.ref a825), .val (.double d0), .second, .val (.ref a835), .val (.int bo0), .val (.int bo1), .val (.int bo2), .val (.int bo3), .val (.int bo4), .unset, .unset, .unset, .unset]) rfl ?_
  refine g_iloadN X837 hx (pc' := 105) rfl (hD hby at_104) rfl ?_
  refine g_bipush X837 hx (pc' := 107) (z := (32 : Int32)) rfl (hD hby at_105) rfl ?_
  refine g_iand X837 hx (pc' := 108) rfl (hD hby at_107) ?_
  suffices J108 : ∀ (bo5 : Int32), (bo5 = (if (f' &&& (32 : Int32)) = 0 then (0 : Int32) else (1 : Int32))) → Go p e below s n0 ((Z, ("id" :: "S" :: Ts), fun v h => v = some (.int 1)) : GQ) room_1.cells room_1.slots (T837.setTop (mkF m 116 #[.val (.int f'), .val (.int t'), .val (.int v1), .val (.int v2), .val (.ref a825), .val (.double d0), .second, .val (.ref a835), .val (.int bo0), .val (.int bo1), .val (.int bo2), .val (.int bo3), .val (.int bo4), .unset, .unset, .unset, .unset] [(.int bo5)])) by
    refine g_if X837 hx (pcY := 115) (pcN := 111) (hD hby at_108) (by decide) (by decide) rfl (fun hc108 => ?_) (fun hc108 => ?_)
    · replace hc108 : (f' &&& (32 : Int32)) = 0 := hc108
      refine g_iconst X837 hx (pc' := 116) (z := (0 : Int32)) rfl (hD hby at_115) rfl ?_
      exact J108 _ (by rw [if_pos hc108])
    · replace hc108 : ¬ (f' &&& (32 : Int32)) = 0 := hc108
      refine g_iconst X837 hx (pc' := 112) (z := (1 : Int32)) rfl (hD hby at_111) rfl ?_
      refine g_goto X837 hx (pc' := 116) (hD hby at_112) (by decide) (by decide) ?_
      exact J108 _ (by rw [if_neg hc108])
  intro bo5 h_bo5
  refine g_istore X837 hx (pc' := 118) rfl (hD hby at_116) (l' := #[.val (.int f'), .val (.int t'), .val (.int v1), .val (.int v2), .val (.ref a825), .val (.double d0), .second, .val (.ref a835), .val (.int bo0), .val (.int bo1), .val (.int bo2), .val (.int bo3), .val (.int bo4), .val (.int bo5), .unset, .unset, .unset]) rfl ?_
  refine g_iload X837 hx (pc' := 120) rfl (hD hby at_118) rfl ?_
  refine g_if X837 hx (pcY := 132) (pcN := 123) (hD hby at_120) (by decide) (by decide) rfl (fun hc120 => ?_) (fun hc120 => ?_)
  · replace hc120 : bo0 = 0 := hc120
    refine g_iload X837 hx (pc' := 134) rfl (hD hby at_132) rfl ?_
    refine g_if X837 hx (pcY := 150) (pcN := 137) (hD hby at_134) (by decide) (by decide) rfl (fun hc134 => ?_) (fun hc134 => ?_)
    · replace hc134 : bo1 = 0 := hc134
      refine g_aload X837 hx (pc' := 152) rfl (hD hby at_150) rfl rfl ?_
      obtain ⟨ls839, Pp839⟩ := I837.pas
      refine g_callV X837 hx hZ hown (wat hw 73 rfl) (wat hw 74 rfl) (wat hw 76 rfl) (wat hw 75 rfl) (wat hw 47 rfl) (wat hw 77 rfl) (by decide) (a := a835) (own_exp I837.pas) (rm9_n l Z a0 hw [] n0 ("id" :: "S" :: Ts) a835 ls839 el h837 I837.2.1 Pp839) pd_4 rfl rfl (by rw [hml]; rfl) (pc' := 155) rfl (hD hby at_152) (argsL := []) (rest := []) rfl (W := 0) (Nat.le_of_eq rfl) (by decide) (by decide) (by decide) (by decide) (fun v840 T840 h840 X840 hQ840 => ?_)
      obtain ⟨rfl, he840⟩ := hQ840
      rw [he840] at X840
      show Go p e below s n0 _ _ _ (T840.setTop (mkF m 155 _ [(.int 0)]))
      refine g_istore X840 hx (pc' := 157) rfl (hD hby at_155) (l' := #[.val (.int f'), .val (.int t'), .val (.int v1), .val (.int v2), .val (.ref a825), .val (.double d0), .second, .val (.ref a835), .val (.int bo0), .val (.int bo1), .val (.int bo2), .val (.int bo3), .val (.int bo4), .val (.int bo5), .val (.int 0), .unset, .unset]) rfl ?_
      refine g_iload X840 hx (pc' := 159) rfl (hD hby at_157) rfl ?_
      refine g_if X840 hx (pcY := 173) (pcN := 162) (hD hby at_159) (by decide) (by decide) rfl (fun hc159 => ?_) (fun hc159 => ?_)
      · replace hc159 : ¬ bo2 = 0 := hc159
        refine g_aload X840 hx (pc' := 175) rfl (hD hby at_173) rfl rfl ?_
        refine g_iloadN X840 hx (pc' := 176) rfl (hD hby at_175) rfl ?_
        refine g_sipush X840 hx (pc' := 179) (z := (255 : Int32)) rfl (hD hby at_176) rfl ?_
        refine g_iand X840 hx (pc' := 180) rfl (hD hby at_179) ?_
        refine g_i2c X840 hx (pc' := 181) rfl (hD hby at_180) ?_
        refine g_callS X840 hx hZ hown (wat hw 80 rfl) (wat hw 81 rfl) (wat hw 4 rfl) (wat hw 82 rfl) (by decide) (rm10 l Z a0 hw [] n0 ("id" :: "S" :: Ts) _ cz h837 I837.2.1 O2 hcz I837.1 (own_ch _)) pd_24 rfl rfl (by rw [hml]; rfl) (pc' := 184) rfl (hD hby at_181) (argsL := [(.int ((v1 &&& (255 : Int32))).toUInt32.toUInt16.toUInt32.toInt32)]) (rest := [(.ref a835)]) rfl (W := 1) (Nat.le_of_eq rfl) (by decide) (by decide) (by decide) (by decide) (fun v841 T841 h841 X841 hQ841 => ?_)
        obtain ⟨b841, rfl, -, -, K841⟩ := hQ841
        have I841 := I837.keep0 K841
        show Go p e below s n0 _ _ _ (T841.setTop (mkF m 184 _ [(.ref b841), (.ref a835)]))
        refine g_dload X841 hx (pc' := 186) rfl (hD hby at_184) rfl ?_
        refine g_ldc2D X841 hx hZ hown (wat hw 97 rfl) (pc' := 189) (v := (4613937818241073152 : UInt64)) rfl (hD hby at_186) ?_
        refine g_dadd X841 hx (pc' := 190) (z := (FP.dadd d0 (4613937818241073152 : UInt64))) rfl (hD hby at_189) (own_add (k := 3) h_d0 (by decide +kernel)) rfl ?_
        refine g_callV X841 hx hZ hown (wat hw 98 rfl) (wat hw 99 rfl) (wat hw 101 rfl) (wat hw 100 rfl) (wat hw 47 rfl) (wat hw 102 rfl) (by decide) (a := a835) (own_exp I841.pas) (rm14_in0 l Z a0 hw [] n0 ("id" :: "S" :: Ts) a835 el b841 _ h841 I841.2.1 I841) pd_18 rfl rfl (by rw [hml]; rfl) (pc' := 193) rfl (hD hby at_190) (argsL := [(.ref b841), (.double (FP.dadd d0 (4613937818241073152 : UInt64)))]) (rest := []) rfl (W := 0) (Nat.le_of_eq rfl) (by decide) (by decide) (by decide) (by decide) (fun v842 T842 h842 X842 hQ842 => ?_)
        obtain ⟨rfl, I842⟩ := hQ842
        show Go p e below s n0 _ _ _ (T842.setTop (mkF m 193 _ []))
        refine g_aload X842 hx (pc' := 195) rfl (hD hby at_193) rfl rfl ?_
        obtain ⟨ls843, Pp843⟩ := I842.pas
        refine g_callV X842 hx hZ hown (wat hw 73 rfl) (wat hw 74 rfl) (wat hw 76 rfl) (wat hw 75 rfl) (wat hw 47 rfl) (wat hw 77 rfl) (by decide) (a := a835) (own_exp I842.pas) (rm9_y l Z a0 hw [] n0 ("id" :: "S" :: Ts) a835 ls843 b841 h842 I842.2.1 Pp843) pd_4 rfl rfl (by rw [hml]; rfl) (pc' := 198) rfl (hD hby at_195) (argsL := []) (rest := []) rfl (W := 0) (Nat.le_of_eq rfl) (by decide) (by decide) (by decide) (by decide) (fun v844 T844 h844 X844 hQ844 => ?_)
        obtain ⟨rfl, he844⟩ := hQ844
        rw [he844] at X844
        show Go p e below s n0 _ _ _ (T844.setTop (mkF m 198 _ [(.int 1)]))
        refine g_istore X844 hx (pc' := 200) rfl (hD hby at_198) (l' := #[.val (.int f'), .val (.int t'), .val (.int v1), .val (.int v2), .val (.ref a825), .val (.double d0), .second, .val (.ref a835), .val (.int bo0), .val (.int bo1), .val (.int bo2), .val (.int bo3), .val (.int bo4), .val (.int bo5), .val (.int 0), .val (.int 1), .unset]) rfl ?_
        refine g_iload X844 hx (pc' := 202) rfl (hD hby at_200) rfl ?_
        refine g_if X844 hx (pcY := 243) (pcN := 205) (hD hby at_202) (by decide) (by decide) rfl (fun hc202 => ?_) (fun hc202 => ?_)
        · replace hc202 : bo3 = 0 := hc202
          refine g_iload X844 hx (pc' := 245) rfl (hD hby at_243) rfl ?_
          refine g_if X844 hx (pcY := 259) (pcN := 248) (hD hby at_245) (by decide) (by decide) rfl (fun hc245 => ?_) (fun hc245 => ?_)
          · replace hc245 : bo5 = 0 := hc245
            refine g_aload X844 hx (pc' := 261) rfl (hD hby at_259) rfl rfl ?_
            obtain ⟨ls845, Pp845⟩ := I842.pas
            refine g_callV X844 hx hZ hown (wat hw 73 rfl) (wat hw 74 rfl) (wat hw 76 rfl) (wat hw 75 rfl) (wat hw 47 rfl) (wat hw 77 rfl) (by decide) (a := a835) (own_exp I842.pas) (rm9_y l Z a0 hw [] n0 ("id" :: "S" :: Ts) a835 ls845 b841 h842 I842.2.1 Pp845) pd_4 rfl rfl (by rw [hml]; rfl) (pc' := 264) rfl (hD hby at_261) (argsL := []) (rest := []) rfl (W := 0) (Nat.le_of_eq rfl) (by decide) (by decide) (by decide) (by decide) (fun v846 T846 h846 X846 hQ846 => ?_)
            obtain ⟨rfl, he846⟩ := hQ846
            rw [he846] at X846
            show Go p e below s n0 _ _ _ (T846.setTop (mkF m 264 _ [(.int 1)]))
            refine g_istore X846 hx (pc' := 266) rfl (hD hby at_264) (l' := #[.val (.int f'), .val (.int t'), .val (.int v1), .val (.int v2), .val (.ref a825), .val (.double d0), .second, .val (.ref a835), .val (.int bo0), .val (.int bo1), .val (.int bo2), .val (.int bo3), .val (.int bo4), .val (.int bo5), .val (.int 0), .val (.int 1), .val (.int 1)]) rfl ?_
            refine g_iload X846 hx (pc' := 268) rfl (hD hby at_266) rfl ?_
            refine g_ifN X846 hx (pcN := 271) (hD hby at_268) rfl (show ¬ (¬ (0 : Int32) = 0) from by decide) ?_
            refine g_iload X846 hx (pc' := 273) rfl (hD hby at_271) rfl ?_
            refine g_ifN X846 hx (pcN := 276) (hD hby at_273) rfl (show ¬ ((1 : Int32) = 0) from by decide) ?_
            refine g_iload X846 hx (pc' := 278) rfl (hD hby at_276) rfl ?_
            refine g_ifN X846 hx (pcN := 281) (hD hby at_278) rfl (show ¬ ((1 : Int32) = 0) from by decide) ?_
            refine g_iconst X846 hx (pc' := 282) (z := (1 : Int32)) rfl (hD hby at_281) rfl ?_
            refine g_goto X846 hx (pc' := 286) (hD hby at_282) (by decide) (by decide) ?_
            exact g_retZ X846 hx hlk hret (by first | exact Or.inl rfl | exact Or.inr rfl) (hD hby at_286) (by decide) (by decide) (Nat.le_refl _) (rfl)
          · replace hc245 : ¬ bo5 = 0 := hc245
            refine g_aload X844 hx (pc' := 250) rfl (hD hby at_248) rfl rfl ?_
            refine g_dload X844 hx (pc' := 252) rfl (hD hby at_250) rfl ?_
            refine g_ldc2D X844 hx hZ hown (wat hw 232 rfl) (pc' := 255) (v := (4618441417868443648 : UInt64)) rfl (hD hby at_252) ?_
            refine g_dadd X844 hx (pc' := 256) (z := (FP.dadd d0 (4618441417868443648 : UInt64))) rfl (hD hby at_255) (own_add (k := 6) h_d0 (by decide +kernel)) rfl ?_
            refine g_callV X844 hx hZ hown (wat hw 181 rfl) (wat hw 182 rfl) (wat hw 184 rfl) (wat hw 183 rfl) (wat hw 47 rfl) (wat hw 185 rfl) (by decide) (a := a835) (own_exp I842.pas) (rm23_i0 l Z a0 hw [] n0 ("id" :: "S" :: Ts) a835 el (.ref b841) _ h842 I842.2.1 I842) pd_25 rfl rfl (by rw [hml]; rfl) (pc' := 259) rfl (hD hby at_256) (argsL := [(.double (FP.dadd d0 (4618441417868443648 : UInt64)))]) (rest := []) rfl (W := 0) (Nat.le_of_eq rfl) (by decide) (by decide) (by decide) (by decide) (fun v847 T847 h847 X847 hQ847 => ?_)
            obtain ⟨rfl, I847⟩ := hQ847
            show Go p e below s n0 _ _ _ (T847.setTop (mkF m 259 _ []))
            refine g_aload X847 hx (pc' := 261) rfl (hD hby at_259) rfl rfl ?_
            obtain ⟨ls848, Pp848⟩ := I847.pas
            refine g_callV X847 hx hZ hown (wat hw 73 rfl) (wat hw 74 rfl) (wat hw 76 rfl) (wat hw 75 rfl) (wat hw 47 rfl) (wat hw 77 rfl) (by decide) (a := a835) (own_exp I847.pas) (rm9_y l Z a0 hw [] n0 ("id" :: "S" :: Ts) a835 ls848 b841 h847 I847.2.1 Pp848) pd_4 rfl rfl (by rw [hml]; rfl) (pc' := 264) rfl (hD hby at_261) (argsL := []) (rest := []) rfl (W := 0) (Nat.le_of_eq rfl) (by decide) (by decide) (by decide) (by decide) (fun v849 T849 h849 X849 hQ849 => ?_)
            obtain ⟨rfl, he849⟩ := hQ849
            rw [he849] at X849
            show Go p e below s n0 _ _ _ (T849.setTop (mkF m 264 _ [(.int 1)]))
            refine g_istore X849 hx (pc' := 266) rfl (hD hby at_264) (l' := #[.val (.int f'), .val (.int t'), .val (.int v1), .val (.int v2), .val (.ref a825), .val (.double d0), .second, .val (.ref a835), .val (.int bo0), .val (.int bo1), .val (.int bo2), .val (.int bo3), .val (.int bo4), .val (.int bo5), .val (.int 0), .val (.int 1), .val (.int 1)]) rfl ?_
            refine g_iload X849 hx (pc' := 268) rfl (hD hby at_266) rfl ?_
            refine g_ifN X849 hx (pcN := 271) (hD hby at_268) rfl (show ¬ (¬ (0 : Int32) = 0) from by decide) ?_
            refine g_iload X849 hx (pc' := 273) rfl (hD hby at_271) rfl ?_
            refine g_ifN X849 hx (pcN := 276) (hD hby at_273) rfl (show ¬ ((1 : Int32) = 0) from by decide) ?_
            refine g_iload X849 hx (pc' := 278) rfl (hD hby at_276) rfl ?_
            refine g_ifN X849 hx (pcN := 281) (hD hby at_278) rfl (show ¬ ((1 : Int32) = 0) from by decide) ?_
            refine g_iconst X849 hx (pc' := 282) (z := (1 : Int32)) rfl (hD hby at_281) rfl ?_
            refine g_goto X849 hx (pc' := 286) (hD hby at_282) (by decide) (by decide) ?_
            exact g_retZ X849 hx hlk hret (by first | exact Or.inl rfl | exact Or.inr rfl) (hD hby at_286) (by decide) (by decide) (Nat.le_refl _) (rfl)
        · replace hc202 : ¬ bo3 = 0 := hc202
          refine g_aload X844 hx (pc' := 207) rfl (hD hby at_205) rfl rfl ?_
          refine g_aload X844 hx (pc' := 209) rfl (hD hby at_207) rfl rfl ?_
          refine g_dload X844 hx (pc' := 211) rfl (hD hby at_209) rfl ?_
          refine g_ldc2D X844 hx hZ hown (wat hw 105 rfl) (pc' := 214) (v := (4616189618054758400 : UInt64)) rfl (hD hby at_211) ?_
          refine g_dadd X844 hx (pc' := 215) (z := (FP.dadd d0 (4616189618054758400 : UInt64))) rfl (hD hby at_214) (own_add (k := 4) h_d0 (by decide +kernel)) rfl ?_
          refine g_callV X844 hx hZ hown (wat hw 106 rfl) (wat hw 107 rfl) (wat hw 109 rfl) (wat hw 108 rfl) (wat hw 47 rfl) (wat hw 110 rfl) (by decide) (a := a835) (own_exp I842.pas) (rm15_0 l Z a0 hw [] n0 ("id" :: "S" :: Ts) a835 el a825 (.ref b841) _ h842 I842.2.1 EM I842) pd_20 rfl rfl (by rw [hml]; rfl) (pc' := 218) rfl (hD hby at_215) (argsL := [(.ref a825), (.double (FP.dadd d0 (4616189618054758400 : UInt64)))]) (rest := []) rfl (W := 0) (Nat.le_of_eq rfl) (by decide) (by decide) (by decide) (by decide) (fun v850 T850 h850 X850 hQ850 => ?_)
          obtain ⟨rfl, I850⟩ := hQ850
          show Go p e below s n0 _ _ _ (T850.setTop (mkF m 218 _ []))
          refine g_iload X850 hx (pc' := 220) rfl (hD hby at_218) rfl ?_
          refine g_if X850 hx (pcY := 243) (pcN := 223) (hD hby at_220) (by decide) (by decide) rfl (fun hc220 => ?_) (fun hc220 => ?_)
          · replace hc220 : bo4 = 0 := hc220
            refine g_iload X850 hx (pc' := 245) rfl (hD hby at_243) rfl ?_
            refine g_if X850 hx (pcY := 259) (pcN := 248) (hD hby at_245) (by decide) (by decide) rfl (fun hc245 => ?_) (fun hc245 => ?_)
            · replace hc245 : bo5 = 0 := hc245
              refine g_aload X850 hx (pc' := 261) rfl (hD hby at_259) rfl rfl ?_
              obtain ⟨ls851, Pp851⟩ := I850.pas
              refine g_callV X850 hx hZ hown (wat hw 73 rfl) (wat hw 74 rfl) (wat hw 76 rfl) (wat hw 75 rfl) (wat hw 47 rfl) (wat hw 77 rfl) (by decide) (a := a835) (own_exp I850.pas) (rm9_y l Z a0 hw [] n0 ("id" :: "S" :: Ts) a835 ls851 b841 h850 I850.2.1 Pp851) pd_4 rfl rfl (by rw [hml]; rfl) (pc' := 264) rfl (hD hby at_261) (argsL := []) (rest := []) rfl (W := 0) (Nat.le_of_eq rfl) (by decide) (by decide) (by decide) (by decide) (fun v852 T852 h852 X852 hQ852 => ?_)
              obtain ⟨rfl, he852⟩ := hQ852
              rw [he852] at X852
              show Go p e below s n0 _ _ _ (T852.setTop (mkF m 264 _ [(.int 1)]))
              refine g_istore X852 hx (pc' := 266) rfl (hD hby at_264) (l' := #[.val (.int f'), .val (.int t'), .val (.int v1), .val (.int v2), .val (.ref a825), .val (.double d0), .second, .val (.ref a835), .val (.int bo0), .val (.int bo1), .val (.int bo2), .val (.int bo3), .val (.int bo4), .val (.int bo5), .val (.int 0), .val (.int 1), .val (.int 1)]) rfl ?_
              refine g_iload X852 hx (pc' := 268) rfl (hD hby at_266) rfl ?_
              refine g_ifN X852 hx (pcN := 271) (hD hby at_268) rfl (show ¬ (¬ (0 : Int32) = 0) from by decide) ?_
              refine g_iload X852 hx (pc' := 273) rfl (hD hby at_271) rfl ?_
              refine g_ifN X852 hx (pcN := 276) (hD hby at_273) rfl (show ¬ ((1 : Int32) = 0) from by decide) ?_
              refine g_iload X852 hx (pc' := 278) rfl (hD hby at_276) rfl ?_
              refine g_ifN X852 hx (pcN := 281) (hD hby at_278) rfl (show ¬ ((1 : Int32) = 0) from by decide) ?_
              refine g_iconst X852 hx (pc' := 282) (z := (1 : Int32)) rfl (hD hby at_281) rfl ?_
              refine g_goto X852 hx (pc' := 286) (hD hby at_282) (by decide) (by decide) ?_
              exact g_retZ X852 hx hlk hret (by first | exact Or.inl rfl | exact Or.inr rfl) (hD hby at_286) (by decide) (by decide) (Nat.le_refl _) (rfl)
            · replace hc245 : ¬ bo5 = 0 := hc245
              refine g_aload X850 hx (pc' := 250) rfl (hD hby at_248) rfl rfl ?_
              refine g_dload X850 hx (pc' := 252) rfl (hD hby at_250) rfl ?_
              refine g_ldc2D X850 hx hZ hown (wat hw 232 rfl) (pc' := 255) (v := (4618441417868443648 : UInt64)) rfl (hD hby at_252) ?_
              refine g_dadd X850 hx (pc' := 256) (z := (FP.dadd d0 (4618441417868443648 : UInt64))) rfl (hD hby at_255) (own_add (k := 6) h_d0 (by decide +kernel)) rfl ?_
              refine g_callV X850 hx hZ hown (wat hw 181 rfl) (wat hw 182 rfl) (wat hw 184 rfl) (wat hw 183 rfl) (wat hw 47 rfl) (wat hw 185 rfl) (by decide) (a := a835) (own_exp I850.pas) (rm23_i1 l Z a0 hw [] n0 ("id" :: "S" :: Ts) a835 el (.ref b841) _ h850 I850.2.1 I850) pd_25 rfl rfl (by rw [hml]; rfl) (pc' := 259) rfl (hD hby at_256) (argsL := [(.double (FP.dadd d0 (4618441417868443648 : UInt64)))]) (rest := []) rfl (W := 0) (Nat.le_of_eq rfl) (by decide) (by decide) (by decide) (by decide) (fun v853 T853 h853 X853 hQ853 => ?_)
              obtain ⟨rfl, I853⟩ := hQ853
              show Go p e below s n0 _ _ _ (T853.setTop (mkF m 259 _ []))
              refine g_aload X853 hx (pc' := 261) rfl (hD hby at_259) rfl rfl ?_
              obtain ⟨ls854, Pp854⟩ := I853.pas
              refine g_callV X853 hx hZ hown (wat hw 73 rfl) (wat hw 74 rfl) (wat hw 76 rfl) (wat hw 75 rfl) (wat hw 47 rfl) (wat hw 77 rfl) (by decide) (a := a835) (own_exp I853.pas) (rm9_y l Z a0 hw [] n0 ("id" :: "S" :: Ts) a835 ls854 b841 h853 I853.2.1 Pp854) pd_4 rfl rfl (by rw [hml]; rfl) (pc' := 264) rfl (hD hby at_261) (argsL := []) (rest := []) rfl (W := 0) (Nat.le_of_eq rfl) (by decide) (by decide) (by decide) (by decide) (fun v855 T855 h855 X855 hQ855 => ?_)
              obtain ⟨rfl, he855⟩ := hQ855
              rw [he855] at X855
              show Go p e below s n0 _ _ _ (T855.setTop (mkF m 264 _ [(.int 1)]))
              refine g_istore X855 hx (pc' := 266) rfl (hD hby at_264) (l' := #[.val (.int f'), .val (.int t'), .val (.int v1), .val (.int v2), .val (.ref a825), .val (.double d0), .second, .val (.ref a835), .val (.int bo0), .val (.int bo1), .val (.int bo2), .val (.int bo3), .val (.int bo4), .val (.int bo5), .val (.int 0), .val (.int 1), .val (.int 1)]) rfl ?_
              refine g_iload X855 hx (pc' := 268) rfl (hD hby at_266) rfl ?_
              refine g_ifN X855 hx (pcN := 271) (hD hby at_268) rfl (show ¬ (¬ (0 : Int32) = 0) from by decide) ?_
              refine g_iload X855 hx (pc' := 273) rfl (hD hby at_271) rfl ?_
              refine g_ifN X855 hx (pcN := 276) (hD hby at_273) rfl (show ¬ ((1 : Int32) = 0) from by decide) ?_
              refine g_iload X855 hx (pc' := 278) rfl (hD hby at_276) rfl ?_
              refine g_ifN X855 hx (pcN := 281) (hD hby at_278) rfl (show ¬ ((1 : Int32) = 0) from by decide) ?_
              refine g_iconst X855 hx (pc' := 282) (z := (1 : Int32)) rfl (hD hby at_281) rfl ?_
              refine g_goto X855 hx (pc' := 286) (hD hby at_282) (by decide) (by decide) ?_
              exact g_retZ X855 hx hlk hret (by first | exact Or.inl rfl | exact Or.inr rfl) (hD hby at_286) (by decide) (by decide) (Nat.le_refl _) (rfl)
          · replace hc220 : ¬ bo4 = 0 := hc220
            refine g_aload X850 hx (pc' := 225) rfl (hD hby at_223) rfl rfl ?_
            refine g_iloadN X850 hx (pc' := 226) rfl (hD hby at_225) rfl ?_
            refine g_sipush X850 hx (pc' := 229) (z := (255 : Int32)) rfl (hD hby at_226) rfl ?_
            refine g_iand X850 hx (pc' := 230) rfl (hD hby at_229) ?_
            refine g_i2c X850 hx (pc' := 231) rfl (hD hby at_230) ?_
            refine g_callS X850 hx hZ hown (wat hw 80 rfl) (wat hw 81 rfl) (wat hw 4 rfl) (wat hw 82 rfl) (by decide) (rm10 l Z a0 hw [] n0 ("id" :: "S" :: Ts) _ cz h850 I850.2.1 O2 hcz I850.1 (own_ch _)) pd_24 rfl rfl (by rw [hml]; rfl) (pc' := 234) rfl (hD hby at_231) (argsL := [(.int ((v2 &&& (255 : Int32))).toUInt32.toUInt16.toUInt32.toInt32)]) (rest := [(.ref a835)]) rfl (W := 1) (Nat.le_of_eq rfl) (by decide) (by decide) (by decide) (by decide) (fun v856 T856 h856 X856 hQ856 => ?_)
            obtain ⟨b856, rfl, -, -, K856⟩ := hQ856
            have I856 := I850.keep0 K856
            show Go p e below s n0 _ _ _ (T856.setTop (mkF m 234 _ [(.ref b856), (.ref a835)]))
            refine g_dload X856 hx (pc' := 236) rfl (hD hby at_234) rfl ?_
            refine g_ldc2D X856 hx hZ hown (wat hw 233 rfl) (pc' := 239) (v := (4617315517961601024 : UInt64)) rfl (hD hby at_236) ?_
            refine g_dadd X856 hx (pc' := 240) (z := (FP.dadd d0 (4617315517961601024 : UInt64))) rfl (hD hby at_239) (own_add (k := 5) h_d0 (by decide +kernel)) rfl ?_
            refine g_callV X856 hx hZ hown (wat hw 98 rfl) (wat hw 99 rfl) (wat hw 101 rfl) (wat hw 100 rfl) (wat hw 47 rfl) (wat hw 102 rfl) (by decide) (a := a835) (own_exp I856.pas) (rm14_y1 l Z a0 hw [] n0 ("id" :: "S" :: Ts) a835 el b841 b856 _ h856 I856.2.1 I856) pd_18 rfl rfl (by rw [hml]; rfl) (pc' := 243) rfl (hD hby at_240) (argsL := [(.ref b856), (.double (FP.dadd d0 (4617315517961601024 : UInt64)))]) (rest := []) rfl (W := 0) (Nat.le_of_eq rfl) (by decide) (by decide) (by decide) (by decide) (fun v857 T857 h857 X857 hQ857 => ?_)
            obtain ⟨rfl, I857⟩ := hQ857
            show Go p e below s n0 _ _ _ (T857.setTop (mkF m 243 _ []))
            refine g_iload X857 hx (pc' := 245) rfl (hD hby at_243) rfl ?_
            refine g_if X857 hx (pcY := 259) (pcN := 248) (hD hby at_245) (by decide) (by decide) rfl (fun hc245 => ?_) (fun hc245 => ?_)
            · replace hc245 : bo5 = 0 := hc245
              refine g_aload X857 hx (pc' := 261) rfl (hD hby at_259) rfl rfl ?_
              obtain ⟨ls858, Pp858⟩ := I857.pas
              refine g_callV X857 hx hZ hown (wat hw 73 rfl) (wat hw 74 rfl) (wat hw 76 rfl) (wat hw 75 rfl) (wat hw 47 rfl) (wat hw 77 rfl) (by decide) (a := a835) (own_exp I857.pas) (rm9_y l Z a0 hw [] n0 ("id" :: "S" :: Ts) a835 ls858 b841 h857 I857.2.1 Pp858) pd_4 rfl rfl (by rw [hml]; rfl) (pc' := 264) rfl (hD hby at_261) (argsL := []) (rest := []) rfl (W := 0) (Nat.le_of_eq rfl) (by decide) (by decide) (by decide) (by decide) (fun v859 T859 h859 X859 hQ859 => ?_)
              obtain ⟨rfl, he859⟩ := hQ859
              rw [he859] at X859
              show Go p e below s n0 _ _ _ (T859.setTop (mkF m 264 _ [(.int 1)]))
              refine g_istore X859 hx (pc' := 266) rfl (hD hby at_264) (l' := #[.val (.int f'), .val (.int t'), .val (.int v1), .val (.int v2), .val (.ref a825), .val (.double d0), .second, .val (.ref a835), .val (.int bo0), .val (.int bo1), .val (.int bo2), .val (.int bo3), .val (.int bo4), .val (.int bo5), .val (.int 0), .val (.int 1), .val (.int 1)]) rfl ?_
              refine g_iload X859 hx (pc' := 268) rfl (hD hby at_266) rfl ?_
              refine g_ifN X859 hx (pcN := 271) (hD hby at_268) rfl (show ¬ (¬ (0 : Int32) = 0) from by decide) ?_
              refine g_iload X859 hx (pc' := 273) rfl (hD hby at_271) rfl ?_
              refine g_ifN X859 hx (pcN := 276) (hD hby at_273) rfl (show ¬ ((1 : Int32) = 0) from by decide) ?_
              refine g_iload X859 hx (pc' := 278) rfl (hD hby at_276) rfl ?_
              refine g_ifN X859 hx (pcN := 281) (hD hby at_278) rfl (show ¬ ((1 : Int32) = 0) from by decide) ?_
              refine g_iconst X859 hx (pc' := 282) (z := (1 : Int32)) rfl (hD hby at_281) rfl ?_
              refine g_goto X859 hx (pc' := 286) (hD hby at_282) (by decide) (by decide) ?_
              exact g_retZ X859 hx hlk hret (by first | exact Or.inl rfl | exact Or.inr rfl) (hD hby at_286) (by decide) (by decide) (Nat.le_refl _) (rfl)
            · replace hc245 : ¬ bo5 = 0 := hc245
              refine g_aload X857 hx (pc' := 250) rfl (hD hby at_248) rfl rfl ?_
              refine g_dload X857 hx (pc' := 252) rfl (hD hby at_250) rfl ?_
              refine g_ldc2D X857 hx hZ hown (wat hw 232 rfl) (pc' := 255) (v := (4618441417868443648 : UInt64)) rfl (hD hby at_252) ?_
              refine g_dadd X857 hx (pc' := 256) (z := (FP.dadd d0 (4618441417868443648 : UInt64))) rfl (hD hby at_255) (own_add (k := 6) h_d0 (by decide +kernel)) rfl ?_
              refine g_callV X857 hx hZ hown (wat hw 181 rfl) (wat hw 182 rfl) (wat hw 184 rfl) (wat hw 183 rfl) (wat hw 47 rfl) (wat hw 185 rfl) (by decide) (a := a835) (own_exp I857.pas) (rm23_i1 l Z a0 hw [] n0 ("id" :: "S" :: Ts) a835 el (.ref b841) _ h857 I857.2.1 I857) pd_25 rfl rfl (by rw [hml]; rfl) (pc' := 259) rfl (hD hby at_256) (argsL := [(.double (FP.dadd d0 (4618441417868443648 : UInt64)))]) (rest := []) rfl (W := 0) (Nat.le_of_eq rfl) (by decide) (by decide) (by decide) (by decide) (fun v860 T860 h860 X860 hQ860 => ?_)
              obtain ⟨rfl, I860⟩ := hQ860
              show Go p e below s n0 _ _ _ (T860.setTop (mkF m 259 _ []))
              refine g_aload X860 hx (pc' := 261) rfl (hD hby at_259) rfl rfl ?_
              obtain ⟨ls861, Pp861⟩ := I860.pas
              refine g_callV X860 hx hZ hown (wat hw 73 rfl) (wat hw 74 rfl) (wat hw 76 rfl) (wat hw 75 rfl) (wat hw 47 rfl) (wat hw 77 rfl) (by decide) (a := a835) (own_exp I860.pas) (rm9_y l Z a0 hw [] n0 ("id" :: "S" :: Ts) a835 ls861 b841 h860 I860.2.1 Pp861) pd_4 rfl rfl (by rw [hml]; rfl) (pc' := 264) rfl (hD hby at_261) (argsL := []) (rest := []) rfl (W := 0) (Nat.le_of_eq rfl) (by decide) (by decide) (by decide) (by decide) (fun v862 T862 h862 X862 hQ862 => ?_)
              obtain ⟨rfl, he862⟩ := hQ862
              rw [he862] at X862
              show Go p e below s n0 _ _ _ (T862.setTop (mkF m 264 _ [(.int 1)]))
              refine g_istore X862 hx (pc' := 266) rfl (hD hby at_264) (l' := #[.val (.int f'), .val (.int t'), .val (.int v1), .val (.int v2), .val (.ref a825), .val (.double d0), .second, .val (.ref a835), .val (.int bo0), .val (.int bo1), .val (.int bo2), .val (.int bo3), .val (.int bo4), .val (.int bo5), .val (.int 0), .val (.int 1), .val (.int 1)]) rfl ?_
              refine g_iload X862 hx (pc' := 268) rfl (hD hby at_266) rfl ?_
              refine g_ifN X862 hx (pcN := 271) (hD hby at_268) rfl (show ¬ (¬ (0 : Int32) = 0) from by decide) ?_
              refine g_iload X862 hx (pc' := 273) rfl (hD hby at_271) rfl ?_
              refine g_ifN X862 hx (pcN := 276) (hD hby at_273) rfl (show ¬ ((1 : Int32) = 0) from by decide) ?_
              refine g_iload X862 hx (pc' := 278) rfl (hD hby at_276) rfl ?_
              refine g_ifN X862 hx (pcN := 281) (hD hby at_278) rfl (show ¬ ((1 : Int32) = 0) from by decide) ?_
              refine g_iconst X862 hx (pc' := 282) (z := (1 : Int32)) rfl (hD hby at_281) rfl ?_
              refine g_goto X862 hx (pc' := 286) (hD hby at_282) (by decide) (by decide) ?_
              exact g_retZ X862 hx hlk hret (by first | exact Or.inl rfl | exact Or.inr rfl) (hD hby at_286) (by decide) (by decide) (Nat.le_refl _) (rfl)
      · replace hc159 : bo2 = 0 := Classical.not_not.mp hc159
        refine g_iload X840 hx (pc' := 164) rfl (hD hby at_162) rfl ?_
        refine g_ifN X840 hx (pcN := 167) (hD hby at_164) rfl (show ¬ (¬ (0 : Int32) = 0) from by decide) ?_
        refine g_iconst X840 hx (pc' := 168) (z := (1 : Int32)) rfl (hD hby at_167) rfl ?_
        refine g_goto X840 hx (pc' := 172) (hD hby at_168) (by decide) (by decide) ?_
        exact g_retZ X840 hx hlk hret (by first | exact Or.inl rfl | exact Or.inr rfl) (hD hby at_172) (by decide) (by decide) (Nat.le_refl _) (rfl)
    · replace hc134 : ¬ bo1 = 0 := hc134
      refine g_aload X837 hx (pc' := 139) rfl (hD hby at_137) rfl rfl ?_
      refine g_aload X837 hx (pc' := 141) rfl (hD hby at_139) rfl rfl ?_
      refine g_dload X837 hx (pc' := 143) rfl (hD hby at_141) rfl ?_
      refine g_ldc2D X837 hx hZ hown (wat hw 186 rfl) (pc' := 146) (v := (4611686018427387904 : UInt64)) rfl (hD hby at_143) ?_
      refine g_dadd X837 hx (pc' := 147) (z := (FP.dadd d0 (4611686018427387904 : UInt64))) rfl (hD hby at_146) (own_add (k := 2) h_d0 (by decide +kernel)) rfl ?_
      refine g_callV X837 hx hZ hown (wat hw 106 rfl) (wat hw 107 rfl) (wat hw 109 rfl) (wat hw 108 rfl) (wat hw 47 rfl) (wat hw 110 rfl) (by decide) (a := a835) (own_exp I837.pas) (rm15_0 l Z a0 hw [] n0 ("id" :: "S" :: Ts) a835 el a825 .null _ h837 I837.2.1 EM I837) pd_20 rfl rfl (by rw [hml]; rfl) (pc' := 150) rfl (hD hby at_147) (argsL := [(.ref a825), (.double (FP.dadd d0 (4611686018427387904 : UInt64)))]) (rest := []) rfl (W := 0) (Nat.le_of_eq rfl) (by decide) (by decide) (by decide) (by decide) (fun v863 T863 h863 X863 hQ863 => ?_)
      obtain ⟨rfl, I863⟩ := hQ863
      show Go p e below s n0 _ _ _ (T863.setTop (mkF m 150 _ []))
      refine g_aload X863 hx (pc' := 152) rfl (hD hby at_150) rfl rfl ?_
      obtain ⟨ls864, Pp864⟩ := I863.pas
      refine g_callV X863 hx hZ hown (wat hw 73 rfl) (wat hw 74 rfl) (wat hw 76 rfl) (wat hw 75 rfl) (wat hw 47 rfl) (wat hw 77 rfl) (by decide) (a := a835) (own_exp I863.pas) (rm9_n l Z a0 hw [] n0 ("id" :: "S" :: Ts) a835 ls864 el h863 I863.2.1 Pp864) pd_4 rfl rfl (by rw [hml]; rfl) (pc' := 155) rfl (hD hby at_152) (argsL := []) (rest := []) rfl (W := 0) (Nat.le_of_eq rfl) (by decide) (by decide) (by decide) (by decide) (fun v865 T865 h865 X865 hQ865 => ?_)
      obtain ⟨rfl, he865⟩ := hQ865
      rw [he865] at X865
      show Go p e below s n0 _ _ _ (T865.setTop (mkF m 155 _ [(.int 0)]))
      refine g_istore X865 hx (pc' := 157) rfl (hD hby at_155) (l' := #[.val (.int f'), .val (.int t'), .val (.int v1), .val (.int v2), .val (.ref a825), .val (.double d0), .second, .val (.ref a835), .val (.int bo0), .val (.int bo1), .val (.int bo2), .val (.int bo3), .val (.int bo4), .val (.int bo5), .val (.int 0), .unset, .unset]) rfl ?_
      refine g_iload X865 hx (pc' := 159) rfl (hD hby at_157) rfl ?_
      refine g_if X865 hx (pcY := 173) (pcN := 162) (hD hby at_159) (by decide) (by decide) rfl (fun hc159 => ?_) (fun hc159 => ?_)
      · replace hc159 : ¬ bo2 = 0 := hc159
        refine g_aload X865 hx (pc' := 175) rfl (hD hby at_173) rfl rfl ?_
        refine g_iloadN X865 hx (pc' := 176) rfl (hD hby at_175) rfl ?_
        refine g_sipush X865 hx (pc' := 179) (z := (255 : Int32)) rfl (hD hby at_176) rfl ?_
        refine g_iand X865 hx (pc' := 180) rfl (hD hby at_179) ?_
        refine g_i2c X865 hx (pc' := 181) rfl (hD hby at_180) ?_
        refine g_callS X865 hx hZ hown (wat hw 80 rfl) (wat hw 81 rfl) (wat hw 4 rfl) (wat hw 82 rfl) (by decide) (rm10 l Z a0 hw [] n0 ("id" :: "S" :: Ts) _ cz h863 I863.2.1 O2 hcz I863.1 (own_ch _)) pd_24 rfl rfl (by rw [hml]; rfl) (pc' := 184) rfl (hD hby at_181) (argsL := [(.int ((v1 &&& (255 : Int32))).toUInt32.toUInt16.toUInt32.toInt32)]) (rest := [(.ref a835)]) rfl (W := 1) (Nat.le_of_eq rfl) (by decide) (by decide) (by decide) (by decide) (fun v866 T866 h866 X866 hQ866 => ?_)
        obtain ⟨b866, rfl, -, -, K866⟩ := hQ866
        have I866 := I863.keep0 K866
        show Go p e below s n0 _ _ _ (T866.setTop (mkF m 184 _ [(.ref b866), (.ref a835)]))
        refine g_dload X866 hx (pc' := 186) rfl (hD hby at_184) rfl ?_
        refine g_ldc2D X866 hx hZ hown (wat hw 97 rfl) (pc' := 189) (v := (4613937818241073152 : UInt64)) rfl (hD hby at_186) ?_
        refine g_dadd X866 hx (pc' := 190) (z := (FP.dadd d0 (4613937818241073152 : UInt64))) rfl (hD hby at_189) (own_add (k := 3) h_d0 (by decide +kernel)) rfl ?_
        refine g_callV X866 hx hZ hown (wat hw 98 rfl) (wat hw 99 rfl) (wat hw 101 rfl) (wat hw 100 rfl) (wat hw 47 rfl) (wat hw 102 rfl) (by decide) (a := a835) (own_exp I866.pas) (rm14_in1 l Z a0 hw [] n0 ("id" :: "S" :: Ts) a835 el b866 _ h866 I866.2.1 I866) pd_18 rfl rfl (by rw [hml]; rfl) (pc' := 193) rfl (hD hby at_190) (argsL := [(.ref b866), (.double (FP.dadd d0 (4613937818241073152 : UInt64)))]) (rest := []) rfl (W := 0) (Nat.le_of_eq rfl) (by decide) (by decide) (by decide) (by decide) (fun v867 T867 h867 X867 hQ867 => ?_)
        obtain ⟨rfl, I867⟩ := hQ867
        show Go p e below s n0 _ _ _ (T867.setTop (mkF m 193 _ []))
        refine g_aload X867 hx (pc' := 195) rfl (hD hby at_193) rfl rfl ?_
        obtain ⟨ls868, Pp868⟩ := I867.pas
        refine g_callV X867 hx hZ hown (wat hw 73 rfl) (wat hw 74 rfl) (wat hw 76 rfl) (wat hw 75 rfl) (wat hw 47 rfl) (wat hw 77 rfl) (by decide) (a := a835) (own_exp I867.pas) (rm9_y l Z a0 hw [] n0 ("id" :: "S" :: Ts) a835 ls868 b866 h867 I867.2.1 Pp868) pd_4 rfl rfl (by rw [hml]; rfl) (pc' := 198) rfl (hD hby at_195) (argsL := []) (rest := []) rfl (W := 0) (Nat.le_of_eq rfl) (by decide) (by decide) (by decide) (by decide) (fun v869 T869 h869 X869 hQ869 => ?_)
        obtain ⟨rfl, he869⟩ := hQ869
        rw [he869] at X869
        show Go p e below s n0 _ _ _ (T869.setTop (mkF m 198 _ [(.int 1)]))
        refine g_istore X869 hx (pc' := 200) rfl (hD hby at_198) (l' := #[.val (.int f'), .val (.int t'), .val (.int v1), .val (.int v2), .val (.ref a825), .val (.double d0), .second, .val (.ref a835), .val (.int bo0), .val (.int bo1), .val (.int bo2), .val (.int bo3), .val (.int bo4), .val (.int bo5), .val (.int 0), .val (.int 1), .unset]) rfl ?_
        refine g_iload X869 hx (pc' := 202) rfl (hD hby at_200) rfl ?_
        refine g_if X869 hx (pcY := 243) (pcN := 205) (hD hby at_202) (by decide) (by decide) rfl (fun hc202 => ?_) (fun hc202 => ?_)
        · replace hc202 : bo3 = 0 := hc202
          refine g_iload X869 hx (pc' := 245) rfl (hD hby at_243) rfl ?_
          refine g_if X869 hx (pcY := 259) (pcN := 248) (hD hby at_245) (by decide) (by decide) rfl (fun hc245 => ?_) (fun hc245 => ?_)
          · replace hc245 : bo5 = 0 := hc245
            refine g_aload X869 hx (pc' := 261) rfl (hD hby at_259) rfl rfl ?_
            obtain ⟨ls870, Pp870⟩ := I867.pas
            refine g_callV X869 hx hZ hown (wat hw 73 rfl) (wat hw 74 rfl) (wat hw 76 rfl) (wat hw 75 rfl) (wat hw 47 rfl) (wat hw 77 rfl) (by decide) (a := a835) (own_exp I867.pas) (rm9_y l Z a0 hw [] n0 ("id" :: "S" :: Ts) a835 ls870 b866 h867 I867.2.1 Pp870) pd_4 rfl rfl (by rw [hml]; rfl) (pc' := 264) rfl (hD hby at_261) (argsL := []) (rest := []) rfl (W := 0) (Nat.le_of_eq rfl) (by decide) (by decide) (by decide) (by decide) (fun v871 T871 h871 X871 hQ871 => ?_)
            obtain ⟨rfl, he871⟩ := hQ871
            rw [he871] at X871
            show Go p e below s n0 _ _ _ (T871.setTop (mkF m 264 _ [(.int 1)]))
            refine g_istore X871 hx (pc' := 266) rfl (hD hby at_264) (l' := #[.val (.int f'), .val (.int t'), .val (.int v1), .val (.int v2), .val (.ref a825), .val (.double d0), .second, .val (.ref a835), .val (.int bo0), .val (.int bo1), .val (.int bo2), .val (.int bo3), .val (.int bo4), .val (.int bo5), .val (.int 0), .val (.int 1), .val (.int 1)]) rfl ?_
            refine g_iload X871 hx (pc' := 268) rfl (hD hby at_266) rfl ?_
            refine g_ifN X871 hx (pcN := 271) (hD hby at_268) rfl (show ¬ (¬ (0 : Int32) = 0) from by decide) ?_
            refine g_iload X871 hx (pc' := 273) rfl (hD hby at_271) rfl ?_
            refine g_ifN X871 hx (pcN := 276) (hD hby at_273) rfl (show ¬ ((1 : Int32) = 0) from by decide) ?_
            refine g_iload X871 hx (pc' := 278) rfl (hD hby at_276) rfl ?_
            refine g_ifN X871 hx (pcN := 281) (hD hby at_278) rfl (show ¬ ((1 : Int32) = 0) from by decide) ?_
            refine g_iconst X871 hx (pc' := 282) (z := (1 : Int32)) rfl (hD hby at_281) rfl ?_
            refine g_goto X871 hx (pc' := 286) (hD hby at_282) (by decide) (by decide) ?_
            exact g_retZ X871 hx hlk hret (by first | exact Or.inl rfl | exact Or.inr rfl) (hD hby at_286) (by decide) (by decide) (Nat.le_refl _) (rfl)
          · replace hc245 : ¬ bo5 = 0 := hc245
            refine g_aload X869 hx (pc' := 250) rfl (hD hby at_248) rfl rfl ?_
            refine g_dload X869 hx (pc' := 252) rfl (hD hby at_250) rfl ?_
            refine g_ldc2D X869 hx hZ hown (wat hw 232 rfl) (pc' := 255) (v := (4618441417868443648 : UInt64)) rfl (hD hby at_252) ?_
            refine g_dadd X869 hx (pc' := 256) (z := (FP.dadd d0 (4618441417868443648 : UInt64))) rfl (hD hby at_255) (own_add (k := 6) h_d0 (by decide +kernel)) rfl ?_
            refine g_callV X869 hx hZ hown (wat hw 181 rfl) (wat hw 182 rfl) (wat hw 184 rfl) (wat hw 183 rfl) (wat hw 47 rfl) (wat hw 185 rfl) (by decide) (a := a835) (own_exp I867.pas) (rm23_i1 l Z a0 hw [] n0 ("id" :: "S" :: Ts) a835 el (.ref b866) _ h867 I867.2.1 I867) pd_25 rfl rfl (by rw [hml]; rfl) (pc' := 259) rfl (hD hby at_256) (argsL := [(.double (FP.dadd d0 (4618441417868443648 : UInt64)))]) (rest := []) rfl (W := 0) (Nat.le_of_eq rfl) (by decide) (by decide) (by decide) (by decide) (fun v872 T872 h872 X872 hQ872 => ?_)
            obtain ⟨rfl, I872⟩ := hQ872
            show Go p e below s n0 _ _ _ (T872.setTop (mkF m 259 _ []))
            refine g_aload X872 hx (pc' := 261) rfl (hD hby at_259) rfl rfl ?_
            obtain ⟨ls873, Pp873⟩ := I872.pas
            refine g_callV X872 hx hZ hown (wat hw 73 rfl) (wat hw 74 rfl) (wat hw 76 rfl) (wat hw 75 rfl) (wat hw 47 rfl) (wat hw 77 rfl) (by decide) (a := a835) (own_exp I872.pas) (rm9_y l Z a0 hw [] n0 ("id" :: "S" :: Ts) a835 ls873 b866 h872 I872.2.1 Pp873) pd_4 rfl rfl (by rw [hml]; rfl) (pc' := 264) rfl (hD hby at_261) (argsL := []) (rest := []) rfl (W := 0) (Nat.le_of_eq rfl) (by decide) (by decide) (by decide) (by decide) (fun v874 T874 h874 X874 hQ874 => ?_)
            obtain ⟨rfl, he874⟩ := hQ874
            rw [he874] at X874
            show Go p e below s n0 _ _ _ (T874.setTop (mkF m 264 _ [(.int 1)]))
            refine g_istore X874 hx (pc' := 266) rfl (hD hby at_264) (l' := #[.val (.int f'), .val (.int t'), .val (.int v1), .val (.int v2), .val (.ref a825), .val (.double d0), .second, .val (.ref a835), .val (.int bo0), .val (.int bo1), .val (.int bo2), .val (.int bo3), .val (.int bo4), .val (.int bo5), .val (.int 0), .val (.int 1), .val (.int 1)]) rfl ?_
            refine g_iload X874 hx (pc' := 268) rfl (hD hby at_266) rfl ?_
            refine g_ifN X874 hx (pcN := 271) (hD hby at_268) rfl (show ¬ (¬ (0 : Int32) = 0) from by decide) ?_
            refine g_iload X874 hx (pc' := 273) rfl (hD hby at_271) rfl ?_
            refine g_ifN X874 hx (pcN := 276) (hD hby at_273) rfl (show ¬ ((1 : Int32) = 0) from by decide) ?_
            refine g_iload X874 hx (pc' := 278) rfl (hD hby at_276) rfl ?_
            refine g_ifN X874 hx (pcN := 281) (hD hby at_278) rfl (show ¬ ((1 : Int32) = 0) from by decide) ?_
            refine g_iconst X874 hx (pc' := 282) (z := (1 : Int32)) rfl (hD hby at_281) rfl ?_
            refine g_goto X874 hx (pc' := 286) (hD hby at_282) (by decide) (by decide) ?_
            exact g_retZ X874 hx hlk hret (by first | exact Or.inl rfl | exact Or.inr rfl) (hD hby at_286) (by decide) (by decide) (Nat.le_refl _) (rfl)
        · replace hc202 : ¬ bo3 = 0 := hc202
          refine g_aload X869 hx (pc' := 207) rfl (hD hby at_205) rfl rfl ?_
          refine g_aload X869 hx (pc' := 209) rfl (hD hby at_207) rfl rfl ?_
          refine g_dload X869 hx (pc' := 211) rfl (hD hby at_209) rfl ?_
          refine g_ldc2D X869 hx hZ hown (wat hw 105 rfl) (pc' := 214) (v := (4616189618054758400 : UInt64)) rfl (hD hby at_211) ?_
          refine g_dadd X869 hx (pc' := 215) (z := (FP.dadd d0 (4616189618054758400 : UInt64))) rfl (hD hby at_214) (own_add (k := 4) h_d0 (by decide +kernel)) rfl ?_
          refine g_callV X869 hx hZ hown (wat hw 106 rfl) (wat hw 107 rfl) (wat hw 109 rfl) (wat hw 108 rfl) (wat hw 47 rfl) (wat hw 110 rfl) (by decide) (a := a835) (own_exp I867.pas) (rm15_1 l Z a0 hw [] n0 ("id" :: "S" :: Ts) a835 el a825 mr (.ref b866) _ h867 I867.2.1 MR I867) pd_20 rfl rfl (by rw [hml]; rfl) (pc' := 218) rfl (hD hby at_215) (argsL := [(.ref a825), (.double (FP.dadd d0 (4616189618054758400 : UInt64)))]) (rest := []) rfl (W := 0) (Nat.le_of_eq rfl) (by decide) (by decide) (by decide) (by decide) (fun v875 T875 h875 X875 hQ875 => ?_)
          obtain ⟨rfl, I875⟩ := hQ875
          show Go p e below s n0 _ _ _ (T875.setTop (mkF m 218 _ []))
          refine g_iload X875 hx (pc' := 220) rfl (hD hby at_218) rfl ?_
          refine g_if X875 hx (pcY := 243) (pcN := 223) (hD hby at_220) (by decide) (by decide) rfl (fun hc220 => ?_) (fun hc220 => ?_)
          · replace hc220 : bo4 = 0 := hc220
            refine g_iload X875 hx (pc' := 245) rfl (hD hby at_243) rfl ?_
            refine g_if X875 hx (pcY := 259) (pcN := 248) (hD hby at_245) (by decide) (by decide) rfl (fun hc245 => ?_) (fun hc245 => ?_)
            · replace hc245 : bo5 = 0 := hc245
              refine g_aload X875 hx (pc' := 261) rfl (hD hby at_259) rfl rfl ?_
              obtain ⟨ls876, Pp876⟩ := I875.pas
              refine g_callV X875 hx hZ hown (wat hw 73 rfl) (wat hw 74 rfl) (wat hw 76 rfl) (wat hw 75 rfl) (wat hw 47 rfl) (wat hw 77 rfl) (by decide) (a := a835) (own_exp I875.pas) (rm9_y l Z a0 hw [] n0 ("id" :: "S" :: Ts) a835 ls876 b866 h875 I875.2.1 Pp876) pd_4 rfl rfl (by rw [hml]; rfl) (pc' := 264) rfl (hD hby at_261) (argsL := []) (rest := []) rfl (W := 0) (Nat.le_of_eq rfl) (by decide) (by decide) (by decide) (by decide) (fun v877 T877 h877 X877 hQ877 => ?_)
              obtain ⟨rfl, he877⟩ := hQ877
              rw [he877] at X877
              show Go p e below s n0 _ _ _ (T877.setTop (mkF m 264 _ [(.int 1)]))
              refine g_istore X877 hx (pc' := 266) rfl (hD hby at_264) (l' := #[.val (.int f'), .val (.int t'), .val (.int v1), .val (.int v2), .val (.ref a825), .val (.double d0), .second, .val (.ref a835), .val (.int bo0), .val (.int bo1), .val (.int bo2), .val (.int bo3), .val (.int bo4), .val (.int bo5), .val (.int 0), .val (.int 1), .val (.int 1)]) rfl ?_
              refine g_iload X877 hx (pc' := 268) rfl (hD hby at_266) rfl ?_
              refine g_ifN X877 hx (pcN := 271) (hD hby at_268) rfl (show ¬ (¬ (0 : Int32) = 0) from by decide) ?_
              refine g_iload X877 hx (pc' := 273) rfl (hD hby at_271) rfl ?_
              refine g_ifN X877 hx (pcN := 276) (hD hby at_273) rfl (show ¬ ((1 : Int32) = 0) from by decide) ?_
              refine g_iload X877 hx (pc' := 278) rfl (hD hby at_276) rfl ?_
              refine g_ifN X877 hx (pcN := 281) (hD hby at_278) rfl (show ¬ ((1 : Int32) = 0) from by decide) ?_
              refine g_iconst X877 hx (pc' := 282) (z := (1 : Int32)) rfl (hD hby at_281) rfl ?_
              refine g_goto X877 hx (pc' := 286) (hD hby at_282) (by decide) (by decide) ?_
              exact g_retZ X877 hx hlk hret (by first | exact Or.inl rfl | exact Or.inr rfl) (hD hby at_286) (by decide) (by decide) (Nat.le_refl _) (rfl)
            · replace hc245 : ¬ bo5 = 0 := hc245
              refine g_aload X875 hx (pc' := 250) rfl (hD hby at_248) rfl rfl ?_
              refine g_dload X875 hx (pc' := 252) rfl (hD hby at_250) rfl ?_
              refine g_ldc2D X875 hx hZ hown (wat hw 232 rfl) (pc' := 255) (v := (4618441417868443648 : UInt64)) rfl (hD hby at_252) ?_
              refine g_dadd X875 hx (pc' := 256) (z := (FP.dadd d0 (4618441417868443648 : UInt64))) rfl (hD hby at_255) (own_add (k := 6) h_d0 (by decide +kernel)) rfl ?_
              refine g_callV X875 hx hZ hown (wat hw 181 rfl) (wat hw 182 rfl) (wat hw 184 rfl) (wat hw 183 rfl) (wat hw 47 rfl) (wat hw 185 rfl) (by decide) (a := a835) (own_exp I875.pas) (rm23_i2 l Z a0 hw [] n0 ("id" :: "S" :: Ts) a835 el (.ref b866) _ h875 I875.2.1 I875) pd_25 rfl rfl (by rw [hml]; rfl) (pc' := 259) rfl (hD hby at_256) (argsL := [(.double (FP.dadd d0 (4618441417868443648 : UInt64)))]) (rest := []) rfl (W := 0) (Nat.le_of_eq rfl) (by decide) (by decide) (by decide) (by decide) (fun v878 T878 h878 X878 hQ878 => ?_)
              obtain ⟨rfl, I878⟩ := hQ878
              show Go p e below s n0 _ _ _ (T878.setTop (mkF m 259 _ []))
              refine g_aload X878 hx (pc' := 261) rfl (hD hby at_259) rfl rfl ?_
              obtain ⟨ls879, Pp879⟩ := I878.pas
              refine g_callV X878 hx hZ hown (wat hw 73 rfl) (wat hw 74 rfl) (wat hw 76 rfl) (wat hw 75 rfl) (wat hw 47 rfl) (wat hw 77 rfl) (by decide) (a := a835) (own_exp I878.pas) (rm9_y l Z a0 hw [] n0 ("id" :: "S" :: Ts) a835 ls879 b866 h878 I878.2.1 Pp879) pd_4 rfl rfl (by rw [hml]; rfl) (pc' := 264) rfl (hD hby at_261) (argsL := []) (rest := []) rfl (W := 0) (Nat.le_of_eq rfl) (by decide) (by decide) (by decide) (by decide) (fun v880 T880 h880 X880 hQ880 => ?_)
              obtain ⟨rfl, he880⟩ := hQ880
              rw [he880] at X880
              show Go p e below s n0 _ _ _ (T880.setTop (mkF m 264 _ [(.int 1)]))
              refine g_istore X880 hx (pc' := 266) rfl (hD hby at_264) (l' := #[.val (.int f'), .val (.int t'), .val (.int v1), .val (.int v2), .val (.ref a825), .val (.double d0), .second, .val (.ref a835), .val (.int bo0), .val (.int bo1), .val (.int bo2), .val (.int bo3), .val (.int bo4), .val (.int bo5), .val (.int 0), .val (.int 1), .val (.int 1)]) rfl ?_
              refine g_iload X880 hx (pc' := 268) rfl (hD hby at_266) rfl ?_
              refine g_ifN X880 hx (pcN := 271) (hD hby at_268) rfl (show ¬ (¬ (0 : Int32) = 0) from by decide) ?_
              refine g_iload X880 hx (pc' := 273) rfl (hD hby at_271) rfl ?_
              refine g_ifN X880 hx (pcN := 276) (hD hby at_273) rfl (show ¬ ((1 : Int32) = 0) from by decide) ?_
              refine g_iload X880 hx (pc' := 278) rfl (hD hby at_276) rfl ?_
              refine g_ifN X880 hx (pcN := 281) (hD hby at_278) rfl (show ¬ ((1 : Int32) = 0) from by decide) ?_
              refine g_iconst X880 hx (pc' := 282) (z := (1 : Int32)) rfl (hD hby at_281) rfl ?_
              refine g_goto X880 hx (pc' := 286) (hD hby at_282) (by decide) (by decide) ?_
              exact g_retZ X880 hx hlk hret (by first | exact Or.inl rfl | exact Or.inr rfl) (hD hby at_286) (by decide) (by decide) (Nat.le_refl _) (rfl)
          · replace hc220 : ¬ bo4 = 0 := hc220
            refine g_aload X875 hx (pc' := 225) rfl (hD hby at_223) rfl rfl ?_
            refine g_iloadN X875 hx (pc' := 226) rfl (hD hby at_225) rfl ?_
            refine g_sipush X875 hx (pc' := 229) (z := (255 : Int32)) rfl (hD hby at_226) rfl ?_
            refine g_iand X875 hx (pc' := 230) rfl (hD hby at_229) ?_
            refine g_i2c X875 hx (pc' := 231) rfl (hD hby at_230) ?_
            refine g_callS X875 hx hZ hown (wat hw 80 rfl) (wat hw 81 rfl) (wat hw 4 rfl) (wat hw 82 rfl) (by decide) (rm10 l Z a0 hw [] n0 ("id" :: "S" :: Ts) _ cz h875 I875.2.1 O2 hcz I875.1 (own_ch _)) pd_24 rfl rfl (by rw [hml]; rfl) (pc' := 234) rfl (hD hby at_231) (argsL := [(.int ((v2 &&& (255 : Int32))).toUInt32.toUInt16.toUInt32.toInt32)]) (rest := [(.ref a835)]) rfl (W := 1) (Nat.le_of_eq rfl) (by decide) (by decide) (by decide) (by decide) (fun v881 T881 h881 X881 hQ881 => ?_)
            obtain ⟨b881, rfl, -, -, K881⟩ := hQ881
            have I881 := I875.keep0 K881
            show Go p e below s n0 _ _ _ (T881.setTop (mkF m 234 _ [(.ref b881), (.ref a835)]))
            refine g_dload X881 hx (pc' := 236) rfl (hD hby at_234) rfl ?_
            refine g_ldc2D X881 hx hZ hown (wat hw 233 rfl) (pc' := 239) (v := (4617315517961601024 : UInt64)) rfl (hD hby at_236) ?_
            refine g_dadd X881 hx (pc' := 240) (z := (FP.dadd d0 (4617315517961601024 : UInt64))) rfl (hD hby at_239) (own_add (k := 5) h_d0 (by decide +kernel)) rfl ?_
            refine g_callV X881 hx hZ hown (wat hw 98 rfl) (wat hw 99 rfl) (wat hw 101 rfl) (wat hw 100 rfl) (wat hw 47 rfl) (wat hw 102 rfl) (by decide) (a := a835) (own_exp I881.pas) (rm14_y2 l Z a0 hw [] n0 ("id" :: "S" :: Ts) a835 el b866 b881 _ h881 I881.2.1 I881) pd_18 rfl rfl (by rw [hml]; rfl) (pc' := 243) rfl (hD hby at_240) (argsL := [(.ref b881), (.double (FP.dadd d0 (4617315517961601024 : UInt64)))]) (rest := []) rfl (W := 0) (Nat.le_of_eq rfl) (by decide) (by decide) (by decide) (by decide) (fun v882 T882 h882 X882 hQ882 => ?_)
            obtain ⟨rfl, I882⟩ := hQ882
            show Go p e below s n0 _ _ _ (T882.setTop (mkF m 243 _ []))
            refine g_iload X882 hx (pc' := 245) rfl (hD hby at_243) rfl ?_
            refine g_if X882 hx (pcY := 259) (pcN := 248) (hD hby at_245) (by decide) (by decide) rfl (fun hc245 => ?_) (fun hc245 => ?_)
            · replace hc245 : bo5 = 0 := hc245
              refine g_aload X882 hx (pc' := 261) rfl (hD hby at_259) rfl rfl ?_
              obtain ⟨ls883, Pp883⟩ := I882.pas
              refine g_callV X882 hx hZ hown (wat hw 73 rfl) (wat hw 74 rfl) (wat hw 76 rfl) (wat hw 75 rfl) (wat hw 47 rfl) (wat hw 77 rfl) (by decide) (a := a835) (own_exp I882.pas) (rm9_y l Z a0 hw [] n0 ("id" :: "S" :: Ts) a835 ls883 b866 h882 I882.2.1 Pp883) pd_4 rfl rfl (by rw [hml]; rfl) (pc' := 264) rfl (hD hby at_261) (argsL := []) (rest := []) rfl (W := 0) (Nat.le_of_eq rfl) (by decide) (by decide) (by decide) (by decide) (fun v884 T884 h884 X884 hQ884 => ?_)
              obtain ⟨rfl, he884⟩ := hQ884
              rw [he884] at X884
              show Go p e below s n0 _ _ _ (T884.setTop (mkF m 264 _ [(.int 1)]))
              refine g_istore X884 hx (pc' := 266) rfl (hD hby at_264) (l' := #[.val (.int f'), .val (.int t'), .val (.int v1), .val (.int v2), .val (.ref a825), .val (.double d0), .second, .val (.ref a835), .val (.int bo0), .val (.int bo1), .val (.int bo2), .val (.int bo3), .val (.int bo4), .val (.int bo5), .val (.int 0), .val (.int 1), .val (.int 1)]) rfl ?_
              refine g_iload X884 hx (pc' := 268) rfl (hD hby at_266) rfl ?_
              refine g_ifN X884 hx (pcN := 271) (hD hby at_268) rfl (show ¬ (¬ (0 : Int32) = 0) from by decide) ?_
              refine g_iload X884 hx (pc' := 273) rfl (hD hby at_271) rfl ?_
              refine g_ifN X884 hx (pcN := 276) (hD hby at_273) rfl (show ¬ ((1 : Int32) = 0) from by decide) ?_
              refine g_iload X884 hx (pc' := 278) rfl (hD hby at_276) rfl ?_
              refine g_ifN X884 hx (pcN := 281) (hD hby at_278) rfl (show ¬ ((1 : Int32) = 0) from by decide) ?_
              refine g_iconst X884 hx (pc' := 282) (z := (1 : Int32)) rfl (hD hby at_281) rfl ?_
              refine g_goto X884 hx (pc' := 286) (hD hby at_282) (by decide) (by decide) ?_
              exact g_retZ X884 hx hlk hret (by first | exact Or.inl rfl | exact Or.inr rfl) (hD hby at_286) (by decide) (by decide) (Nat.le_refl _) (rfl)
            · replace hc245 : ¬ bo5 = 0 := hc245
              refine g_aload X882 hx (pc' := 250) rfl (hD hby at_248) rfl rfl ?_
              refine g_dload X882 hx (pc' := 252) rfl (hD hby at_250) rfl ?_
              refine g_ldc2D X882 hx hZ hown (wat hw 232 rfl) (pc' := 255) (v := (4618441417868443648 : UInt64)) rfl (hD hby at_252) ?_
              refine g_dadd X882 hx (pc' := 256) (z := (FP.dadd d0 (4618441417868443648 : UInt64))) rfl (hD hby at_255) (own_add (k := 6) h_d0 (by decide +kernel)) rfl ?_
              refine g_callV X882 hx hZ hown (wat hw 181 rfl) (wat hw 182 rfl) (wat hw 184 rfl) (wat hw 183 rfl) (wat hw 47 rfl) (wat hw 185 rfl) (by decide) (a := a835) (own_exp I882.pas) (rm23_i2 l Z a0 hw [] n0 ("id" :: "S" :: Ts) a835 el (.ref b866) _ h882 I882.2.1 I882) pd_25 rfl rfl (by rw [hml]; rfl) (pc' := 259) rfl (hD hby at_256) (argsL := [(.double (FP.dadd d0 (4618441417868443648 : UInt64)))]) (rest := []) rfl (W := 0) (Nat.le_of_eq rfl) (by decide) (by decide) (by decide) (by decide) (fun v885 T885 h885 X885 hQ885 => ?_)
              obtain ⟨rfl, I885⟩ := hQ885
              show Go p e below s n0 _ _ _ (T885.setTop (mkF m 259 _ []))
              refine g_aload X885 hx (pc' := 261) rfl (hD hby at_259) rfl rfl ?_
              obtain ⟨ls886, Pp886⟩ := I885.pas
              refine g_callV X885 hx hZ hown (wat hw 73 rfl) (wat hw 74 rfl) (wat hw 76 rfl) (wat hw 75 rfl) (wat hw 47 rfl) (wat hw 77 rfl) (by decide) (a := a835) (own_exp I885.pas) (rm9_y l Z a0 hw [] n0 ("id" :: "S" :: Ts) a835 ls886 b866 h885 I885.2.1 Pp886) pd_4 rfl rfl (by rw [hml]; rfl) (pc' := 264) rfl (hD hby at_261) (argsL := []) (rest := []) rfl (W := 0) (Nat.le_of_eq rfl) (by decide) (by decide) (by decide) (by decide) (fun v887 T887 h887 X887 hQ887 => ?_)
              obtain ⟨rfl, he887⟩ := hQ887
              rw [he887] at X887
              show Go p e below s n0 _ _ _ (T887.setTop (mkF m 264 _ [(.int 1)]))
              refine g_istore X887 hx (pc' := 266) rfl (hD hby at_264) (l' := #[.val (.int f'), .val (.int t'), .val (.int v1), .val (.int v2), .val (.ref a825), .val (.double d0), .second, .val (.ref a835), .val (.int bo0), .val (.int bo1), .val (.int bo2), .val (.int bo3), .val (.int bo4), .val (.int bo5), .val (.int 0), .val (.int 1), .val (.int 1)]) rfl ?_
              refine g_iload X887 hx (pc' := 268) rfl (hD hby at_266) rfl ?_
              refine g_ifN X887 hx (pcN := 271) (hD hby at_268) rfl (show ¬ (¬ (0 : Int32) = 0) from by decide) ?_
              refine g_iload X887 hx (pc' := 273) rfl (hD hby at_271) rfl ?_
              refine g_ifN X887 hx (pcN := 276) (hD hby at_273) rfl (show ¬ ((1 : Int32) = 0) from by decide) ?_
              refine g_iload X887 hx (pc' := 278) rfl (hD hby at_276) rfl ?_
              refine g_ifN X887 hx (pcN := 281) (hD hby at_278) rfl (show ¬ ((1 : Int32) = 0) from by decide) ?_
              refine g_iconst X887 hx (pc' := 282) (z := (1 : Int32)) rfl (hD hby at_281) rfl ?_
              refine g_goto X887 hx (pc' := 286) (hD hby at_282) (by decide) (by decide) ?_
              exact g_retZ X887 hx hlk hret (by first | exact Or.inl rfl | exact Or.inr rfl) (hD hby at_286) (by decide) (by decide) (Nat.le_refl _) (rfl)
      · replace hc159 : bo2 = 0 := Classical.not_not.mp hc159
        refine g_iload X865 hx (pc' := 164) rfl (hD hby at_162) rfl ?_
        refine g_ifN X865 hx (pcN := 167) (hD hby at_164) rfl (show ¬ (¬ (0 : Int32) = 0) from by decide) ?_
        refine g_iconst X865 hx (pc' := 168) (z := (1 : Int32)) rfl (hD hby at_167) rfl ?_
        refine g_goto X865 hx (pc' := 172) (hD hby at_168) (by decide) (by decide) ?_
        exact g_retZ X865 hx hlk hret (by first | exact Or.inl rfl | exact Or.inr rfl) (hD hby at_172) (by decide) (by decide) (Nat.le_refl _) (rfl)
  · replace hc120 : ¬ bo0 = 0 := hc120
    refine g_aload X837 hx (pc' := 125) rfl (hD hby at_123) rfl rfl ?_
    refine g_dload X837 hx (pc' := 127) rfl (hD hby at_125) rfl ?_
    refine g_dconst1 X837 hx (pc' := 128) rfl (hD hby at_127) ?_
    refine g_dadd X837 hx (pc' := 129) (z := (FP.dadd d0 (4607182418800017408 : UInt64))) rfl (hD hby at_128) (own_add (k := 1) h_d0 (by decide +kernel)) rfl ?_
    refine g_callV X837 hx hZ hown (wat hw 181 rfl) (wat hw 182 rfl) (wat hw 184 rfl) (wat hw 183 rfl) (wat hw 47 rfl) (wat hw 185 rfl) (by decide) (a := a835) (own_exp I837.pas) (rm23_i0 l Z a0 hw [] n0 ("id" :: "S" :: Ts) a835 el .null _ h837 I837.2.1 I837) pd_25 rfl rfl (by rw [hml]; rfl) (pc' := 132) rfl (hD hby at_129) (argsL := [(.double (FP.dadd d0 (4607182418800017408 : UInt64)))]) (rest := []) rfl (W := 0) (Nat.le_of_eq rfl) (by decide) (by decide) (by decide) (by decide) (fun v888 T888 h888 X888 hQ888 => ?_)
    obtain ⟨rfl, I888⟩ := hQ888
    show Go p e below s n0 _ _ _ (T888.setTop (mkF m 132 _ []))
    refine g_iload X888 hx (pc' := 134) rfl (hD hby at_132) rfl ?_
    refine g_if X888 hx (pcY := 150) (pcN := 137) (hD hby at_134) (by decide) (by decide) rfl (fun hc134 => ?_) (fun hc134 => ?_)
    · replace hc134 : bo1 = 0 := hc134
      refine g_aload X888 hx (pc' := 152) rfl (hD hby at_150) rfl rfl ?_
      obtain ⟨ls889, Pp889⟩ := I888.pas
      refine g_callV X888 hx hZ hown (wat hw 73 rfl) (wat hw 74 rfl) (wat hw 76 rfl) (wat hw 75 rfl) (wat hw 47 rfl) (wat hw 77 rfl) (by decide) (a := a835) (own_exp I888.pas) (rm9_n l Z a0 hw [] n0 ("id" :: "S" :: Ts) a835 ls889 el h888 I888.2.1 Pp889) pd_4 rfl rfl (by rw [hml]; rfl) (pc' := 155) rfl (hD hby at_152) (argsL := []) (rest := []) rfl (W := 0) (Nat.le_of_eq rfl) (by decide) (by decide) (by decide) (by decide) (fun v890 T890 h890 X890 hQ890 => ?_)
      obtain ⟨rfl, he890⟩ := hQ890
      rw [he890] at X890
      show Go p e below s n0 _ _ _ (T890.setTop (mkF m 155 _ [(.int 0)]))
      refine g_istore X890 hx (pc' := 157) rfl (hD hby at_155) (l' := #[.val (.int f'), .val (.int t'), .val (.int v1), .val (.int v2), .val (.ref a825), .val (.double d0), .second, .val (.ref a835), .val (.int bo0), .val (.int bo1), .val (.int bo2), .val (.int bo3), .val (.int bo4), .val (.int bo5), .val (.int 0), .unset, .unset]) rfl ?_
      refine g_iload X890 hx (pc' := 159) rfl (hD hby at_157) rfl ?_
      refine g_if X890 hx (pcY := 173) (pcN := 162) (hD hby at_159) (by decide) (by decide) rfl (fun hc159 => ?_) (fun hc159 => ?_)
      · replace hc159 : ¬ bo2 = 0 := hc159
        refine g_aload X890 hx (pc' := 175) rfl (hD hby at_173) rfl rfl ?_
        refine g_iloadN X890 hx (pc' := 176) rfl (hD hby at_175) rfl ?_
        refine g_sipush X890 hx (pc' := 179) (z := (255 : Int32)) rfl (hD hby at_176) rfl ?_
        refine g_iand X890 hx (pc' := 180) rfl (hD hby at_179) ?_
        refine g_i2c X890 hx (pc' := 181) rfl (hD hby at_180) ?_
        refine g_callS X890 hx hZ hown (wat hw 80 rfl) (wat hw 81 rfl) (wat hw 4 rfl) (wat hw 82 rfl) (by decide) (rm10 l Z a0 hw [] n0 ("id" :: "S" :: Ts) _ cz h888 I888.2.1 O2 hcz I888.1 (own_ch _)) pd_24 rfl rfl (by rw [hml]; rfl) (pc' := 184) rfl (hD hby at_181) (argsL := [(.int ((v1 &&& (255 : Int32))).toUInt32.toUInt16.toUInt32.toInt32)]) (rest := [(.ref a835)]) rfl (W := 1) (Nat.le_of_eq rfl) (by decide) (by decide) (by decide) (by decide) (fun v891 T891 h891 X891 hQ891 => ?_)
        obtain ⟨b891, rfl, -, -, K891⟩ := hQ891
        have I891 := I888.keep0 K891
        show Go p e below s n0 _ _ _ (T891.setTop (mkF m 184 _ [(.ref b891), (.ref a835)]))
        refine g_dload X891 hx (pc' := 186) rfl (hD hby at_184) rfl ?_
        refine g_ldc2D X891 hx hZ hown (wat hw 97 rfl) (pc' := 189) (v := (4613937818241073152 : UInt64)) rfl (hD hby at_186) ?_
        refine g_dadd X891 hx (pc' := 190) (z := (FP.dadd d0 (4613937818241073152 : UInt64))) rfl (hD hby at_189) (own_add (k := 3) h_d0 (by decide +kernel)) rfl ?_
        refine g_callV X891 hx hZ hown (wat hw 98 rfl) (wat hw 99 rfl) (wat hw 101 rfl) (wat hw 100 rfl) (wat hw 47 rfl) (wat hw 102 rfl) (by decide) (a := a835) (own_exp I891.pas) (rm14_in0 l Z a0 hw [] n0 ("id" :: "S" :: Ts) a835 el b891 _ h891 I891.2.1 I891) pd_18 rfl rfl (by rw [hml]; rfl) (pc' := 193) rfl (hD hby at_190) (argsL := [(.ref b891), (.double (FP.dadd d0 (4613937818241073152 : UInt64)))]) (rest := []) rfl (W := 0) (Nat.le_of_eq rfl) (by decide) (by decide) (by decide) (by decide) (fun v892 T892 h892 X892 hQ892 => ?_)
        obtain ⟨rfl, I892⟩ := hQ892
        show Go p e below s n0 _ _ _ (T892.setTop (mkF m 193 _ []))
        refine g_aload X892 hx (pc' := 195) rfl (hD hby at_193) rfl rfl ?_
        obtain ⟨ls893, Pp893⟩ := I892.pas
        refine g_callV X892 hx hZ hown (wat hw 73 rfl) (wat hw 74 rfl) (wat hw 76 rfl) (wat hw 75 rfl) (wat hw 47 rfl) (wat hw 77 rfl) (by decide) (a := a835) (own_exp I892.pas) (rm9_y l Z a0 hw [] n0 ("id" :: "S" :: Ts) a835 ls893 b891 h892 I892.2.1 Pp893) pd_4 rfl rfl (by rw [hml]; rfl) (pc' := 198) rfl (hD hby at_195) (argsL := []) (rest := []) rfl (W := 0) (Nat.le_of_eq rfl) (by decide) (by decide) (by decide) (by decide) (fun v894 T894 h894 X894 hQ894 => ?_)
        obtain ⟨rfl, he894⟩ := hQ894
        rw [he894] at X894
        show Go p e below s n0 _ _ _ (T894.setTop (mkF m 198 _ [(.int 1)]))
        refine g_istore X894 hx (pc' := 200) rfl (hD hby at_198) (l' := #[.val (.int f'), .val (.int t'), .val (.int v1), .val (.int v2), .val (.ref a825), .val (.double d0), .second, .val (.ref a835), .val (.int bo0), .val (.int bo1), .val (.int bo2), .val (.int bo3), .val (.int bo4), .val (.int bo5), .val (.int 0), .val (.int 1), .unset]) rfl ?_
        refine g_iload X894 hx (pc' := 202) rfl (hD hby at_200) rfl ?_
        refine g_if X894 hx (pcY := 243) (pcN := 205) (hD hby at_202) (by decide) (by decide) rfl (fun hc202 => ?_) (fun hc202 => ?_)
        · replace hc202 : bo3 = 0 := hc202
          refine g_iload X894 hx (pc' := 245) rfl (hD hby at_243) rfl ?_
          refine g_if X894 hx (pcY := 259) (pcN := 248) (hD hby at_245) (by decide) (by decide) rfl (fun hc245 => ?_) (fun hc245 => ?_)
          · replace hc245 : bo5 = 0 := hc245
            refine g_aload X894 hx (pc' := 261) rfl (hD hby at_259) rfl rfl ?_
            obtain ⟨ls895, Pp895⟩ := I892.pas
            refine g_callV X894 hx hZ hown (wat hw 73 rfl) (wat hw 74 rfl) (wat hw 76 rfl) (wat hw 75 rfl) (wat hw 47 rfl) (wat hw 77 rfl) (by decide) (a := a835) (own_exp I892.pas) (rm9_y l Z a0 hw [] n0 ("id" :: "S" :: Ts) a835 ls895 b891 h892 I892.2.1 Pp895) pd_4 rfl rfl (by rw [hml]; rfl) (pc' := 264) rfl (hD hby at_261) (argsL := []) (rest := []) rfl (W := 0) (Nat.le_of_eq rfl) (by decide) (by decide) (by decide) (by decide) (fun v896 T896 h896 X896 hQ896 => ?_)
            obtain ⟨rfl, he896⟩ := hQ896
            rw [he896] at X896
            show Go p e below s n0 _ _ _ (T896.setTop (mkF m 264 _ [(.int 1)]))
            refine g_istore X896 hx (pc' := 266) rfl (hD hby at_264) (l' := #[.val (.int f'), .val (.int t'), .val (.int v1), .val (.int v2), .val (.ref a825), .val (.double d0), .second, .val (.ref a835), .val (.int bo0), .val (.int bo1), .val (.int bo2), .val (.int bo3), .val (.int bo4), .val (.int bo5), .val (.int 0), .val (.int 1), .val (.int 1)]) rfl ?_
            refine g_iload X896 hx (pc' := 268) rfl (hD hby at_266) rfl ?_
            refine g_ifN X896 hx (pcN := 271) (hD hby at_268) rfl (show ¬ (¬ (0 : Int32) = 0) from by decide) ?_
            refine g_iload X896 hx (pc' := 273) rfl (hD hby at_271) rfl ?_
            refine g_ifN X896 hx (pcN := 276) (hD hby at_273) rfl (show ¬ ((1 : Int32) = 0) from by decide) ?_
            refine g_iload X896 hx (pc' := 278) rfl (hD hby at_276) rfl ?_
            refine g_ifN X896 hx (pcN := 281) (hD hby at_278) rfl (show ¬ ((1 : Int32) = 0) from by decide) ?_
            refine g_iconst X896 hx (pc' := 282) (z := (1 : Int32)) rfl (hD hby at_281) rfl ?_
            refine g_goto X896 hx (pc' := 286) (hD hby at_282) (by decide) (by decide) ?_
            exact g_retZ X896 hx hlk hret (by first | exact Or.inl rfl | exact Or.inr rfl) (hD hby at_286) (by decide) (by decide) (Nat.le_refl _) (rfl)
          · replace hc245 : ¬ bo5 = 0 := hc245
            refine g_aload X894 hx (pc' := 250) rfl (hD hby at_248) rfl rfl ?_
            refine g_dload X894 hx (pc' := 252) rfl (hD hby at_250) rfl ?_
            refine g_ldc2D X894 hx hZ hown (wat hw 232 rfl) (pc' := 255) (v := (4618441417868443648 : UInt64)) rfl (hD hby at_252) ?_
            refine g_dadd X894 hx (pc' := 256) (z := (FP.dadd d0 (4618441417868443648 : UInt64))) rfl (hD hby at_255) (own_add (k := 6) h_d0 (by decide +kernel)) rfl ?_
            refine g_callV X894 hx hZ hown (wat hw 181 rfl) (wat hw 182 rfl) (wat hw 184 rfl) (wat hw 183 rfl) (wat hw 47 rfl) (wat hw 185 rfl) (by decide) (a := a835) (own_exp I892.pas) (rm23_i0 l Z a0 hw [] n0 ("id" :: "S" :: Ts) a835 el (.ref b891) _ h892 I892.2.1 I892) pd_25 rfl rfl (by rw [hml]; rfl) (pc' := 259) rfl (hD hby at_256) (argsL := [(.double (FP.dadd d0 (4618441417868443648 : UInt64)))]) (rest := []) rfl (W := 0) (Nat.le_of_eq rfl) (by decide) (by decide) (by decide) (by decide) (fun v897 T897 h897 X897 hQ897 => ?_)
            obtain ⟨rfl, I897⟩ := hQ897
            show Go p e below s n0 _ _ _ (T897.setTop (mkF m 259 _ []))
            refine g_aload X897 hx (pc' := 261) rfl (hD hby at_259) rfl rfl ?_
            obtain ⟨ls898, Pp898⟩ := I897.pas
            refine g_callV X897 hx hZ hown (wat hw 73 rfl) (wat hw 74 rfl) (wat hw 76 rfl) (wat hw 75 rfl) (wat hw 47 rfl) (wat hw 77 rfl) (by decide) (a := a835) (own_exp I897.pas) (rm9_y l Z a0 hw [] n0 ("id" :: "S" :: Ts) a835 ls898 b891 h897 I897.2.1 Pp898) pd_4 rfl rfl (by rw [hml]; rfl) (pc' := 264) rfl (hD hby at_261) (argsL := []) (rest := []) rfl (W := 0) (Nat.le_of_eq rfl) (by decide) (by decide) (by decide) (by decide) (fun v899 T899 h899 X899 hQ899 => ?_)
            obtain ⟨rfl, he899⟩ := hQ899
            rw [he899] at X899
            show Go p e below s n0 _ _ _ (T899.setTop (mkF m 264 _ [(.int 1)]))
            refine g_istore X899 hx (pc' := 266) rfl (hD hby at_264) (l' := #[.val (.int f'), .val (.int t'), .val (.int v1), .val (.int v2), .val (.ref a825), .val (.double d0), .second, .val (.ref a835), .val (.int bo0), .val (.int bo1), .val (.int bo2), .val (.int bo3), .val (.int bo4), .val (.int bo5), .val (.int 0), .val (.int 1), .val (.int 1)]) rfl ?_
            refine g_iload X899 hx (pc' := 268) rfl (hD hby at_266) rfl ?_
            refine g_ifN X899 hx (pcN := 271) (hD hby at_268) rfl (show ¬ (¬ (0 : Int32) = 0) from by decide) ?_
            refine g_iload X899 hx (pc' := 273) rfl (hD hby at_271) rfl ?_
            refine g_ifN X899 hx (pcN := 276) (hD hby at_273) rfl (show ¬ ((1 : Int32) = 0) from by decide) ?_
            refine g_iload X899 hx (pc' := 278) rfl (hD hby at_276) rfl ?_
            refine g_ifN X899 hx (pcN := 281) (hD hby at_278) rfl (show ¬ ((1 : Int32) = 0) from by decide) ?_
            refine g_iconst X899 hx (pc' := 282) (z := (1 : Int32)) rfl (hD hby at_281) rfl ?_
            refine g_goto X899 hx (pc' := 286) (hD hby at_282) (by decide) (by decide) ?_
            exact g_retZ X899 hx hlk hret (by first | exact Or.inl rfl | exact Or.inr rfl) (hD hby at_286) (by decide) (by decide) (Nat.le_refl _) (rfl)
        · replace hc202 : ¬ bo3 = 0 := hc202
          refine g_aload X894 hx (pc' := 207) rfl (hD hby at_205) rfl rfl ?_
          refine g_aload X894 hx (pc' := 209) rfl (hD hby at_207) rfl rfl ?_
          refine g_dload X894 hx (pc' := 211) rfl (hD hby at_209) rfl ?_
          refine g_ldc2D X894 hx hZ hown (wat hw 105 rfl) (pc' := 214) (v := (4616189618054758400 : UInt64)) rfl (hD hby at_211) ?_
          refine g_dadd X894 hx (pc' := 215) (z := (FP.dadd d0 (4616189618054758400 : UInt64))) rfl (hD hby at_214) (own_add (k := 4) h_d0 (by decide +kernel)) rfl ?_
          refine g_callV X894 hx hZ hown (wat hw 106 rfl) (wat hw 107 rfl) (wat hw 109 rfl) (wat hw 108 rfl) (wat hw 47 rfl) (wat hw 110 rfl) (by decide) (a := a835) (own_exp I892.pas) (rm15_0 l Z a0 hw [] n0 ("id" :: "S" :: Ts) a835 el a825 (.ref b891) _ h892 I892.2.1 EM I892) pd_20 rfl rfl (by rw [hml]; rfl) (pc' := 218) rfl (hD hby at_215) (argsL := [(.ref a825), (.double (FP.dadd d0 (4616189618054758400 : UInt64)))]) (rest := []) rfl (W := 0) (Nat.le_of_eq rfl) (by decide) (by decide) (by decide) (by decide) (fun v900 T900 h900 X900 hQ900 => ?_)
          obtain ⟨rfl, I900⟩ := hQ900
          show Go p e below s n0 _ _ _ (T900.setTop (mkF m 218 _ []))
          refine g_iload X900 hx (pc' := 220) rfl (hD hby at_218) rfl ?_
          refine g_if X900 hx (pcY := 243) (pcN := 223) (hD hby at_220) (by decide) (by decide) rfl (fun hc220 => ?_) (fun hc220 => ?_)
          · replace hc220 : bo4 = 0 := hc220
            refine g_iload X900 hx (pc' := 245) rfl (hD hby at_243) rfl ?_
            refine g_if X900 hx (pcY := 259) (pcN := 248) (hD hby at_245) (by decide) (by decide) rfl (fun hc245 => ?_) (fun hc245 => ?_)
            · replace hc245 : bo5 = 0 := hc245
              refine g_aload X900 hx (pc' := 261) rfl (hD hby at_259) rfl rfl ?_
              obtain ⟨ls901, Pp901⟩ := I900.pas
              refine g_callV X900 hx hZ hown (wat hw 73 rfl) (wat hw 74 rfl) (wat hw 76 rfl) (wat hw 75 rfl) (wat hw 47 rfl) (wat hw 77 rfl) (by decide) (a := a835) (own_exp I900.pas) (rm9_y l Z a0 hw [] n0 ("id" :: "S" :: Ts) a835 ls901 b891 h900 I900.2.1 Pp901) pd_4 rfl rfl (by rw [hml]; rfl) (pc' := 264) rfl (hD hby at_261) (argsL := []) (rest := []) rfl (W := 0) (Nat.le_of_eq rfl) (by decide) (by decide) (by decide) (by decide) (fun v902 T902 h902 X902 hQ902 => ?_)
              obtain ⟨rfl, he902⟩ := hQ902
              rw [he902] at X902
              show Go p e below s n0 _ _ _ (T902.setTop (mkF m 264 _ [(.int 1)]))
              refine g_istore X902 hx (pc' := 266) rfl (hD hby at_264) (l' := #[.val (.int f'), .val (.int t'), .val (.int v1), .val (.int v2), .val (.ref a825), .val (.double d0), .second, .val (.ref a835), .val (.int bo0), .val (.int bo1), .val (.int bo2), .val (.int bo3), .val (.int bo4), .val (.int bo5), .val (.int 0), .val (.int 1), .val (.int 1)]) rfl ?_
              refine g_iload X902 hx (pc' := 268) rfl (hD hby at_266) rfl ?_
              refine g_ifN X902 hx (pcN := 271) (hD hby at_268) rfl (show ¬ (¬ (0 : Int32) = 0) from by decide) ?_
              refine g_iload X902 hx (pc' := 273) rfl (hD hby at_271) rfl ?_
              refine g_ifN X902 hx (pcN := 276) (hD hby at_273) rfl (show ¬ ((1 : Int32) = 0) from by decide) ?_
              refine g_iload X902 hx (pc' := 278) rfl (hD hby at_276) rfl ?_
              refine g_ifN X902 hx (pcN := 281) (hD hby at_278) rfl (show ¬ ((1 : Int32) = 0) from by decide) ?_
              refine g_iconst X902 hx (pc' := 282) (z := (1 : Int32)) rfl (hD hby at_281) rfl ?_
              refine g_goto X902 hx (pc' := 286) (hD hby at_282) (by decide) (by decide) ?_
              exact g_retZ X902 hx hlk hret (by first | exact Or.inl rfl | exact Or.inr rfl) (hD hby at_286) (by decide) (by decide) (Nat.le_refl _) (rfl)
            · replace hc245 : ¬ bo5 = 0 := hc245
              refine g_aload X900 hx (pc' := 250) rfl (hD hby at_248) rfl rfl ?_
              refine g_dload X900 hx (pc' := 252) rfl (hD hby at_250) rfl ?_
              refine g_ldc2D X900 hx hZ hown (wat hw 232 rfl) (pc' := 255) (v := (4618441417868443648 : UInt64)) rfl (hD hby at_252) ?_
              refine g_dadd X900 hx (pc' := 256) (z := (FP.dadd d0 (4618441417868443648 : UInt64))) rfl (hD hby at_255) (own_add (k := 6) h_d0 (by decide +kernel)) rfl ?_
              refine g_callV X900 hx hZ hown (wat hw 181 rfl) (wat hw 182 rfl) (wat hw 184 rfl) (wat hw 183 rfl) (wat hw 47 rfl) (wat hw 185 rfl) (by decide) (a := a835) (own_exp I900.pas) (rm23_i1 l Z a0 hw [] n0 ("id" :: "S" :: Ts) a835 el (.ref b891) _ h900 I900.2.1 I900) pd_25 rfl rfl (by rw [hml]; rfl) (pc' := 259) rfl (hD hby at_256) (argsL := [(.double (FP.dadd d0 (4618441417868443648 : UInt64)))]) (rest := []) rfl (W := 0) (Nat.le_of_eq rfl) (by decide) (by decide) (by decide) (by decide) (fun v903 T903 h903 X903 hQ903 => ?_)
              obtain ⟨rfl, I903⟩ := hQ903
              show Go p e below s n0 _ _ _ (T903.setTop (mkF m 259 _ []))
              refine g_aload X903 hx (pc' := 261) rfl (hD hby at_259) rfl rfl ?_
              obtain ⟨ls904, Pp904⟩ := I903.pas
              refine g_callV X903 hx hZ hown (wat hw 73 rfl) (wat hw 74 rfl) (wat hw 76 rfl) (wat hw 75 rfl) (wat hw 47 rfl) (wat hw 77 rfl) (by decide) (a := a835) (own_exp I903.pas) (rm9_y l Z a0 hw [] n0 ("id" :: "S" :: Ts) a835 ls904 b891 h903 I903.2.1 Pp904) pd_4 rfl rfl (by rw [hml]; rfl) (pc' := 264) rfl (hD hby at_261) (argsL := []) (rest := []) rfl (W := 0) (Nat.le_of_eq rfl) (by decide) (by decide) (by decide) (by decide) (fun v905 T905 h905 X905 hQ905 => ?_)
              obtain ⟨rfl, he905⟩ := hQ905
              rw [he905] at X905
              show Go p e below s n0 _ _ _ (T905.setTop (mkF m 264 _ [(.int 1)]))
              refine g_istore X905 hx (pc' := 266) rfl (hD hby at_264) (l' := #[.val (.int f'), .val (.int t'), .val (.int v1), .val (.int v2), .val (.ref a825), .val (.double d0), .second, .val (.ref a835), .val (.int bo0), .val (.int bo1), .val (.int bo2), .val (.int bo3), .val (.int bo4), .val (.int bo5), .val (.int 0), .val (.int 1), .val (.int 1)]) rfl ?_
              refine g_iload X905 hx (pc' := 268) rfl (hD hby at_266) rfl ?_
              refine g_ifN X905 hx (pcN := 271) (hD hby at_268) rfl (show ¬ (¬ (0 : Int32) = 0) from by decide) ?_
              refine g_iload X905 hx (pc' := 273) rfl (hD hby at_271) rfl ?_
              refine g_ifN X905 hx (pcN := 276) (hD hby at_273) rfl (show ¬ ((1 : Int32) = 0) from by decide) ?_
              refine g_iload X905 hx (pc' := 278) rfl (hD hby at_276) rfl ?_
              refine g_ifN X905 hx (pcN := 281) (hD hby at_278) rfl (show ¬ ((1 : Int32) = 0) from by decide) ?_
              refine g_iconst X905 hx (pc' := 282) (z := (1 : Int32)) rfl (hD hby at_281) rfl ?_
              refine g_goto X905 hx (pc' := 286) (hD hby at_282) (by decide) (by decide) ?_
              exact g_retZ X905 hx hlk hret (by first | exact Or.inl rfl | exact Or.inr rfl) (hD hby at_286) (by decide) (by decide) (Nat.le_refl _) (rfl)
          · replace hc220 : ¬ bo4 = 0 := hc220
            refine g_aload X900 hx (pc' := 225) rfl (hD hby at_223) rfl rfl ?_
            refine g_iloadN X900 hx (pc' := 226) rfl (hD hby at_225) rfl ?_
            refine g_sipush X900 hx (pc' := 229) (z := (255 : Int32)) rfl (hD hby at_226) rfl ?_
            refine g_iand X900 hx (pc' := 230) rfl (hD hby at_229) ?_
            refine g_i2c X900 hx (pc' := 231) rfl (hD hby at_230) ?_
            refine g_callS X900 hx hZ hown (wat hw 80 rfl) (wat hw 81 rfl) (wat hw 4 rfl) (wat hw 82 rfl) (by decide) (rm10 l Z a0 hw [] n0 ("id" :: "S" :: Ts) _ cz h900 I900.2.1 O2 hcz I900.1 (own_ch _)) pd_24 rfl rfl (by rw [hml]; rfl) (pc' := 234) rfl (hD hby at_231) (argsL := [(.int ((v2 &&& (255 : Int32))).toUInt32.toUInt16.toUInt32.toInt32)]) (rest := [(.ref a835)]) rfl (W := 1) (Nat.le_of_eq rfl) (by decide) (by decide) (by decide) (by decide) (fun v906 T906 h906 X906 hQ906 => ?_)
            obtain ⟨b906, rfl, -, -, K906⟩ := hQ906
            have I906 := I900.keep0 K906
            show Go p e below s n0 _ _ _ (T906.setTop (mkF m 234 _ [(.ref b906), (.ref a835)]))
            refine g_dload X906 hx (pc' := 236) rfl (hD hby at_234) rfl ?_
            refine g_ldc2D X906 hx hZ hown (wat hw 233 rfl) (pc' := 239) (v := (4617315517961601024 : UInt64)) rfl (hD hby at_236) ?_
            refine g_dadd X906 hx (pc' := 240) (z := (FP.dadd d0 (4617315517961601024 : UInt64))) rfl (hD hby at_239) (own_add (k := 5) h_d0 (by decide +kernel)) rfl ?_
            refine g_callV X906 hx hZ hown (wat hw 98 rfl) (wat hw 99 rfl) (wat hw 101 rfl) (wat hw 100 rfl) (wat hw 47 rfl) (wat hw 102 rfl) (by decide) (a := a835) (own_exp I906.pas) (rm14_y1 l Z a0 hw [] n0 ("id" :: "S" :: Ts) a835 el b891 b906 _ h906 I906.2.1 I906) pd_18 rfl rfl (by rw [hml]; rfl) (pc' := 243) rfl (hD hby at_240) (argsL := [(.ref b906), (.double (FP.dadd d0 (4617315517961601024 : UInt64)))]) (rest := []) rfl (W := 0) (Nat.le_of_eq rfl) (by decide) (by decide) (by decide) (by decide) (fun v907 T907 h907 X907 hQ907 => ?_)
            obtain ⟨rfl, I907⟩ := hQ907
            show Go p e below s n0 _ _ _ (T907.setTop (mkF m 243 _ []))
            refine g_iload X907 hx (pc' := 245) rfl (hD hby at_243) rfl ?_
            refine g_if X907 hx (pcY := 259) (pcN := 248) (hD hby at_245) (by decide) (by decide) rfl (fun hc245 => ?_) (fun hc245 => ?_)
            · replace hc245 : bo5 = 0 := hc245
              refine g_aload X907 hx (pc' := 261) rfl (hD hby at_259) rfl rfl ?_
              obtain ⟨ls908, Pp908⟩ := I907.pas
              refine g_callV X907 hx hZ hown (wat hw 73 rfl) (wat hw 74 rfl) (wat hw 76 rfl) (wat hw 75 rfl) (wat hw 47 rfl) (wat hw 77 rfl) (by decide) (a := a835) (own_exp I907.pas) (rm9_y l Z a0 hw [] n0 ("id" :: "S" :: Ts) a835 ls908 b891 h907 I907.2.1 Pp908) pd_4 rfl rfl (by rw [hml]; rfl) (pc' := 264) rfl (hD hby at_261) (argsL := []) (rest := []) rfl (W := 0) (Nat.le_of_eq rfl) (by decide) (by decide) (by decide) (by decide) (fun v909 T909 h909 X909 hQ909 => ?_)
              obtain ⟨rfl, he909⟩ := hQ909
              rw [he909] at X909
              show Go p e below s n0 _ _ _ (T909.setTop (mkF m 264 _ [(.int 1)]))
              refine g_istore X909 hx (pc' := 266) rfl (hD hby at_264) (l' := #[.val (.int f'), .val (.int t'), .val (.int v1), .val (.int v2), .val (.ref a825), .val (.double d0), .second, .val (.ref a835), .val (.int bo0), .val (.int bo1), .val (.int bo2), .val (.int bo3), .val (.int bo4), .val (.int bo5), .val (.int 0), .val (.int 1), .val (.int 1)]) rfl ?_
              refine g_iload X909 hx (pc' := 268) rfl (hD hby at_266) rfl ?_
              refine g_ifN X909 hx (pcN := 271) (hD hby at_268) rfl (show ¬ (¬ (0 : Int32) = 0) from by decide) ?_
              refine g_iload X909 hx (pc' := 273) rfl (hD hby at_271) rfl ?_
              refine g_ifN X909 hx (pcN := 276) (hD hby at_273) rfl (show ¬ ((1 : Int32) = 0) from by decide) ?_
              refine g_iload X909 hx (pc' := 278) rfl (hD hby at_276) rfl ?_
              refine g_ifN X909 hx (pcN := 281) (hD hby at_278) rfl (show ¬ ((1 : Int32) = 0) from by decide) ?_
              refine g_iconst X909 hx (pc' := 282) (z := (1 : Int32)) rfl (hD hby at_281) rfl ?_
              refine g_goto X909 hx (pc' := 286) (hD hby at_282) (by decide) (by decide) ?_
              exact g_retZ X909 hx hlk hret (by first | exact Or.inl rfl | exact Or.inr rfl) (hD hby at_286) (by decide) (by decide) (Nat.le_refl _) (rfl)
            · replace hc245 : ¬ bo5 = 0 := hc245
              refine g_aload X907 hx (pc' := 250) rfl (hD hby at_248) rfl rfl ?_
              refine g_dload X907 hx (pc' := 252) rfl (hD hby at_250) rfl ?_
              refine g_ldc2D X907 hx hZ hown (wat hw 232 rfl) (pc' := 255) (v := (4618441417868443648 : UInt64)) rfl (hD hby at_252) ?_
              refine g_dadd X907 hx (pc' := 256) (z := (FP.dadd d0 (4618441417868443648 : UInt64))) rfl (hD hby at_255) (own_add (k := 6) h_d0 (by decide +kernel)) rfl ?_
              refine g_callV X907 hx hZ hown (wat hw 181 rfl) (wat hw 182 rfl) (wat hw 184 rfl) (wat hw 183 rfl) (wat hw 47 rfl) (wat hw 185 rfl) (by decide) (a := a835) (own_exp I907.pas) (rm23_i1 l Z a0 hw [] n0 ("id" :: "S" :: Ts) a835 el (.ref b891) _ h907 I907.2.1 I907) pd_25 rfl rfl (by rw [hml]; rfl) (pc' := 259) rfl (hD hby at_256) (argsL := [(.double (FP.dadd d0 (4618441417868443648 : UInt64)))]) (rest := []) rfl (W := 0) (Nat.le_of_eq rfl) (by decide) (by decide) (by decide) (by decide) (fun v910 T910 h910 X910 hQ910 => ?_)
              obtain ⟨rfl, I910⟩ := hQ910
              show Go p e below s n0 _ _ _ (T910.setTop (mkF m 259 _ []))
              refine g_aload X910 hx (pc' := 261) rfl (hD hby at_259) rfl rfl ?_
              obtain ⟨ls911, Pp911⟩ := I910.pas
              refine g_callV X910 hx hZ hown (wat hw 73 rfl) (wat hw 74 rfl) (wat hw 76 rfl) (wat hw 75 rfl) (wat hw 47 rfl) (wat hw 77 rfl) (by decide) (a := a835) (own_exp I910.pas) (rm9_y l Z a0 hw [] n0 ("id" :: "S" :: Ts) a835 ls911 b891 h910 I910.2.1 Pp911) pd_4 rfl rfl (by rw [hml]; rfl) (pc' := 264) rfl (hD hby at_261) (argsL := []) (rest := []) rfl (W := 0) (Nat.le_of_eq rfl) (by decide) (by decide) (by decide) (by decide) (fun v912 T912 h912 X912 hQ912 => ?_)
              obtain ⟨rfl, he912⟩ := hQ912
              rw [he912] at X912
              show Go p e below s n0 _ _ _ (T912.setTop (mkF m 264 _ [(.int 1)]))
              refine g_istore X912 hx (pc' := 266) rfl (hD hby at_264) (l' := #[.val (.int f'), .val (.int t'), .val (.int v1), .val (.int v2), .val (.ref a825), .val (.double d0), .second, .val (.ref a835), .val (.int bo0), .val (.int bo1), .val (.int bo2), .val (.int bo3), .val (.int bo4), .val (.int bo5), .val (.int 0), .val (.int 1), .val (.int 1)]) rfl ?_
              refine g_iload X912 hx (pc' := 268) rfl (hD hby at_266) rfl ?_
              refine g_ifN X912 hx (pcN := 271) (hD hby at_268) rfl (show ¬ (¬ (0 : Int32) = 0) from by decide) ?_
              refine g_iload X912 hx (pc' := 273) rfl (hD hby at_271) rfl ?_
              refine g_ifN X912 hx (pcN := 276) (hD hby at_273) rfl (show ¬ ((1 : Int32) = 0) from by decide) ?_
              refine g_iload X912 hx (pc' := 278) rfl (hD hby at_276) rfl ?_
              refine g_ifN X912 hx (pcN := 281) (hD hby at_278) rfl (show ¬ ((1 : Int32) = 0) from by decide) ?_
              refine g_iconst X912 hx (pc' := 282) (z := (1 : Int32)) rfl (hD hby at_281) rfl ?_
              refine g_goto X912 hx (pc' := 286) (hD hby at_282) (by decide) (by decide) ?_
              exact g_retZ X912 hx hlk hret (by first | exact Or.inl rfl | exact Or.inr rfl) (hD hby at_286) (by decide) (by decide) (Nat.le_refl _) (rfl)
      · replace hc159 : bo2 = 0 := Classical.not_not.mp hc159
        refine g_iload X890 hx (pc' := 164) rfl (hD hby at_162) rfl ?_
        refine g_ifN X890 hx (pcN := 167) (hD hby at_164) rfl (show ¬ (¬ (0 : Int32) = 0) from by decide) ?_
        refine g_iconst X890 hx (pc' := 168) (z := (1 : Int32)) rfl (hD hby at_167) rfl ?_
        refine g_goto X890 hx (pc' := 172) (hD hby at_168) (by decide) (by decide) ?_
        exact g_retZ X890 hx hlk hret (by first | exact Or.inl rfl | exact Or.inr rfl) (hD hby at_172) (by decide) (by decide) (Nat.le_refl _) (rfl)
    · replace hc134 : ¬ bo1 = 0 := hc134
      refine g_aload X888 hx (pc' := 139) rfl (hD hby at_137) rfl rfl ?_
      refine g_aload X888 hx (pc' := 141) rfl (hD hby at_139) rfl rfl ?_
      refine g_dload X888 hx (pc' := 143) rfl (hD hby at_141) rfl ?_
      refine g_ldc2D X888 hx hZ hown (wat hw 186 rfl) (pc' := 146) (v := (4611686018427387904 : UInt64)) rfl (hD hby at_143) ?_
      refine g_dadd X888 hx (pc' := 147) (z := (FP.dadd d0 (4611686018427387904 : UInt64))) rfl (hD hby at_146) (own_add (k := 2) h_d0 (by decide +kernel)) rfl ?_
      refine g_callV X888 hx hZ hown (wat hw 106 rfl) (wat hw 107 rfl) (wat hw 109 rfl) (wat hw 108 rfl) (wat hw 47 rfl) (wat hw 110 rfl) (by decide) (a := a835) (own_exp I888.pas) (rm15_0 l Z a0 hw [] n0 ("id" :: "S" :: Ts) a835 el a825 .null _ h888 I888.2.1 EM I888) pd_20 rfl rfl (by rw [hml]; rfl) (pc' := 150) rfl (hD hby at_147) (argsL := [(.ref a825), (.double (FP.dadd d0 (4611686018427387904 : UInt64)))]) (rest := []) rfl (W := 0) (Nat.le_of_eq rfl) (by decide) (by decide) (by decide) (by decide) (fun v913 T913 h913 X913 hQ913 => ?_)
      obtain ⟨rfl, I913⟩ := hQ913
      show Go p e below s n0 _ _ _ (T913.setTop (mkF m 150 _ []))
      refine g_aload X913 hx (pc' := 152) rfl (hD hby at_150) rfl rfl ?_
      obtain ⟨ls914, Pp914⟩ := I913.pas
      refine g_callV X913 hx hZ hown (wat hw 73 rfl) (wat hw 74 rfl) (wat hw 76 rfl) (wat hw 75 rfl) (wat hw 47 rfl) (wat hw 77 rfl) (by decide) (a := a835) (own_exp I913.pas) (rm9_n l Z a0 hw [] n0 ("id" :: "S" :: Ts) a835 ls914 el h913 I913.2.1 Pp914) pd_4 rfl rfl (by rw [hml]; rfl) (pc' := 155) rfl (hD hby at_152) (argsL := []) (rest := []) rfl (W := 0) (Nat.le_of_eq rfl) (by decide) (by decide) (by decide) (by decide) (fun v915 T915 h915 X915 hQ915 => ?_)
      obtain ⟨rfl, he915⟩ := hQ915
      rw [he915] at X915
      show Go p e below s n0 _ _ _ (T915.setTop (mkF m 155 _ [(.int 0)]))
      refine g_istore X915 hx (pc' := 157) rfl (hD hby at_155) (l' := #[.val (.int f'), .val (.int t'), .val (.int v1), .val (.int v2), .val (.ref a825), .val (.double d0), .second, .val (.ref a835), .val (.int bo0), .val (.int bo1), .val (.int bo2), .val (.int bo3), .val (.int bo4), .val (.int bo5), .val (.int 0), .unset, .unset]) rfl ?_
      refine g_iload X915 hx (pc' := 159) rfl (hD hby at_157) rfl ?_
      refine g_if X915 hx (pcY := 173) (pcN := 162) (hD hby at_159) (by decide) (by decide) rfl (fun hc159 => ?_) (fun hc159 => ?_)
      · replace hc159 : ¬ bo2 = 0 := hc159
        refine g_aload X915 hx (pc' := 175) rfl (hD hby at_173) rfl rfl ?_
        refine g_iloadN X915 hx (pc' := 176) rfl (hD hby at_175) rfl ?_
        refine g_sipush X915 hx (pc' := 179) (z := (255 : Int32)) rfl (hD hby at_176) rfl ?_
        refine g_iand X915 hx (pc' := 180) rfl (hD hby at_179) ?_
        refine g_i2c X915 hx (pc' := 181) rfl (hD hby at_180) ?_
        refine g_callS X915 hx hZ hown (wat hw 80 rfl) (wat hw 81 rfl) (wat hw 4 rfl) (wat hw 82 rfl) (by decide) (rm10 l Z a0 hw [] n0 ("id" :: "S" :: Ts) _ cz h913 I913.2.1 O2 hcz I913.1 (own_ch _)) pd_24 rfl rfl (by rw [hml]; rfl) (pc' := 184) rfl (hD hby at_181) (argsL := [(.int ((v1 &&& (255 : Int32))).toUInt32.toUInt16.toUInt32.toInt32)]) (rest := [(.ref a835)]) rfl (W := 1) (Nat.le_of_eq rfl) (by decide) (by decide) (by decide) (by decide) (fun v916 T916 h916 X916 hQ916 => ?_)
        obtain ⟨b916, rfl, -, -, K916⟩ := hQ916
        have I916 := I913.keep0 K916
        show Go p e below s n0 _ _ _ (T916.setTop (mkF m 184 _ [(.ref b916), (.ref a835)]))
        refine g_dload X916 hx (pc' := 186) rfl (hD hby at_184) rfl ?_
        refine g_ldc2D X916 hx hZ hown (wat hw 97 rfl) (pc' := 189) (v := (4613937818241073152 : UInt64)) rfl (hD hby at_186) ?_
        refine g_dadd X916 hx (pc' := 190) (z := (FP.dadd d0 (4613937818241073152 : UInt64))) rfl (hD hby at_189) (own_add (k := 3) h_d0 (by decide +kernel)) rfl ?_
        refine g_callV X916 hx hZ hown (wat hw 98 rfl) (wat hw 99 rfl) (wat hw 101 rfl) (wat hw 100 rfl) (wat hw 47 rfl) (wat hw 102 rfl) (by decide) (a := a835) (own_exp I916.pas) (rm14_in1 l Z a0 hw [] n0 ("id" :: "S" :: Ts) a835 el b916 _ h916 I916.2.1 I916) pd_18 rfl rfl (by rw [hml]; rfl) (pc' := 193) rfl (hD hby at_190) (argsL := [(.ref b916), (.double (FP.dadd d0 (4613937818241073152 : UInt64)))]) (rest := []) rfl (W := 0) (Nat.le_of_eq rfl) (by decide) (by decide) (by decide) (by decide) (fun v917 T917 h917 X917 hQ917 => ?_)
        obtain ⟨rfl, I917⟩ := hQ917
        show Go p e below s n0 _ _ _ (T917.setTop (mkF m 193 _ []))
        refine g_aload X917 hx (pc' := 195) rfl (hD hby at_193) rfl rfl ?_
        obtain ⟨ls918, Pp918⟩ := I917.pas
        refine g_callV X917 hx hZ hown (wat hw 73 rfl) (wat hw 74 rfl) (wat hw 76 rfl) (wat hw 75 rfl) (wat hw 47 rfl) (wat hw 77 rfl) (by decide) (a := a835) (own_exp I917.pas) (rm9_y l Z a0 hw [] n0 ("id" :: "S" :: Ts) a835 ls918 b916 h917 I917.2.1 Pp918) pd_4 rfl rfl (by rw [hml]; rfl) (pc' := 198) rfl (hD hby at_195) (argsL := []) (rest := []) rfl (W := 0) (Nat.le_of_eq rfl) (by decide) (by decide) (by decide) (by decide) (fun v919 T919 h919 X919 hQ919 => ?_)
        obtain ⟨rfl, he919⟩ := hQ919
        rw [he919] at X919
        show Go p e below s n0 _ _ _ (T919.setTop (mkF m 198 _ [(.int 1)]))
        refine g_istore X919 hx (pc' := 200) rfl (hD hby at_198) (l' := #[.val (.int f'), .val (.int t'), .val (.int v1), .val (.int v2), .val (.ref a825), .val (.double d0), .second, .val (.ref a835), .val (.int bo0), .val (.int bo1), .val (.int bo2), .val (.int bo3), .val (.int bo4), .val (.int bo5), .val (.int 0), .val (.int 1), .unset]) rfl ?_
        refine g_iload X919 hx (pc' := 202) rfl (hD hby at_200) rfl ?_
        refine g_if X919 hx (pcY := 243) (pcN := 205) (hD hby at_202) (by decide) (by decide) rfl (fun hc202 => ?_) (fun hc202 => ?_)
        · replace hc202 : bo3 = 0 := hc202
          refine g_iload X919 hx (pc' := 245) rfl (hD hby at_243) rfl ?_
          refine g_if X919 hx (pcY := 259) (pcN := 248) (hD hby at_245) (by decide) (by decide) rfl (fun hc245 => ?_) (fun hc245 => ?_)
          · replace hc245 : bo5 = 0 := hc245
            refine g_aload X919 hx (pc' := 261) rfl (hD hby at_259) rfl rfl ?_
            obtain ⟨ls920, Pp920⟩ := I917.pas
            refine g_callV X919 hx hZ hown (wat hw 73 rfl) (wat hw 74 rfl) (wat hw 76 rfl) (wat hw 75 rfl) (wat hw 47 rfl) (wat hw 77 rfl) (by decide) (a := a835) (own_exp I917.pas) (rm9_y l Z a0 hw [] n0 ("id" :: "S" :: Ts) a835 ls920 b916 h917 I917.2.1 Pp920) pd_4 rfl rfl (by rw [hml]; rfl) (pc' := 264) rfl (hD hby at_261) (argsL := []) (rest := []) rfl (W := 0) (Nat.le_of_eq rfl) (by decide) (by decide) (by decide) (by decide) (fun v921 T921 h921 X921 hQ921 => ?_)
            obtain ⟨rfl, he921⟩ := hQ921
            rw [he921] at X921
            show Go p e below s n0 _ _ _ (T921.setTop (mkF m 264 _ [(.int 1)]))
            refine g_istore X921 hx (pc' := 266) rfl (hD hby at_264) (l' := #[.val (.int f'), .val (.int t'), .val (.int v1), .val (.int v2), .val (.ref a825), .val (.double d0), .second, .val (.ref a835), .val (.int bo0), .val (.int bo1), .val (.int bo2), .val (.int bo3), .val (.int bo4), .val (.int bo5), .val (.int 0), .val (.int 1), .val (.int 1)]) rfl ?_
            refine g_iload X921 hx (pc' := 268) rfl (hD hby at_266) rfl ?_
            refine g_ifN X921 hx (pcN := 271) (hD hby at_268) rfl (show ¬ (¬ (0 : Int32) = 0) from by decide) ?_
            refine g_iload X921 hx (pc' := 273) rfl (hD hby at_271) rfl ?_
            refine g_ifN X921 hx (pcN := 276) (hD hby at_273) rfl (show ¬ ((1 : Int32) = 0) from by decide) ?_
            refine g_iload X921 hx (pc' := 278) rfl (hD hby at_276) rfl ?_
            refine g_ifN X921 hx (pcN := 281) (hD hby at_278) rfl (show ¬ ((1 : Int32) = 0) from by decide) ?_
            refine g_iconst X921 hx (pc' := 282) (z := (1 : Int32)) rfl (hD hby at_281) rfl ?_
            refine g_goto X921 hx (pc' := 286) (hD hby at_282) (by decide) (by decide) ?_
            exact g_retZ X921 hx hlk hret (by first | exact Or.inl rfl | exact Or.inr rfl) (hD hby at_286) (by decide) (by decide) (Nat.le_refl _) (rfl)
          · replace hc245 : ¬ bo5 = 0 := hc245
            refine g_aload X919 hx (pc' := 250) rfl (hD hby at_248) rfl rfl ?_
            refine g_dload X919 hx (pc' := 252) rfl (hD hby at_250) rfl ?_
            refine g_ldc2D X919 hx hZ hown (wat hw 232 rfl) (pc' := 255) (v := (4618441417868443648 : UInt64)) rfl (hD hby at_252) ?_
            refine g_dadd X919 hx (pc' := 256) (z := (FP.dadd d0 (4618441417868443648 : UInt64))) rfl (hD hby at_255) (own_add (k := 6) h_d0 (by decide +kernel)) rfl ?_
            refine g_callV X919 hx hZ hown (wat hw 181 rfl) (wat hw 182 rfl) (wat hw 184 rfl) (wat hw 183 rfl) (wat hw 47 rfl) (wat hw 185 rfl) (by decide) (a := a835) (own_exp I917.pas) (rm23_i1 l Z a0 hw [] n0 ("id" :: "S" :: Ts) a835 el (.ref b916) _ h917 I917.2.1 I917) pd_25 rfl rfl (by rw [hml]; rfl) (pc' := 259) rfl (hD hby at_256) (argsL := [(.double (FP.dadd d0 (4618441417868443648 : UInt64)))]) (rest := []) rfl (W := 0) (Nat.le_of_eq rfl) (by decide) (by decide) (by decide) (by decide) (fun v922 T922 h922 X922 hQ922 => ?_)
            obtain ⟨rfl, I922⟩ := hQ922
            show Go p e below s n0 _ _ _ (T922.setTop (mkF m 259 _ []))
            refine g_aload X922 hx (pc' := 261) rfl (hD hby at_259) rfl rfl ?_
            obtain ⟨ls923, Pp923⟩ := I922.pas
            refine g_callV X922 hx hZ hown (wat hw 73 rfl) (wat hw 74 rfl) (wat hw 76 rfl) (wat hw 75 rfl) (wat hw 47 rfl) (wat hw 77 rfl) (by decide) (a := a835) (own_exp I922.pas) (rm9_y l Z a0 hw [] n0 ("id" :: "S" :: Ts) a835 ls923 b916 h922 I922.2.1 Pp923) pd_4 rfl rfl (by rw [hml]; rfl) (pc' := 264) rfl (hD hby at_261) (argsL := []) (rest := []) rfl (W := 0) (Nat.le_of_eq rfl) (by decide) (by decide) (by decide) (by decide) (fun v924 T924 h924 X924 hQ924 => ?_)
            obtain ⟨rfl, he924⟩ := hQ924
            rw [he924] at X924
            show Go p e below s n0 _ _ _ (T924.setTop (mkF m 264 _ [(.int 1)]))
            refine g_istore X924 hx (pc' := 266) rfl (hD hby at_264) (l' := #[.val (.int f'), .val (.int t'), .val (.int v1), .val (.int v2), .val (.ref a825), .val (.double d0), .second, .val (.ref a835), .val (.int bo0), .val (.int bo1), .val (.int bo2), .val (.int bo3), .val (.int bo4), .val (.int bo5), .val (.int 0), .val (.int 1), .val (.int 1)]) rfl ?_
            refine g_iload X924 hx (pc' := 268) rfl (hD hby at_266) rfl ?_
            refine g_ifN X924 hx (pcN := 271) (hD hby at_268) rfl (show ¬ (¬ (0 : Int32) = 0) from by decide) ?_
            refine g_iload X924 hx (pc' := 273) rfl (hD hby at_271) rfl ?_
            refine g_ifN X924 hx (pcN := 276) (hD hby at_273) rfl (show ¬ ((1 : Int32) = 0) from by decide) ?_
            refine g_iload X924 hx (pc' := 278) rfl (hD hby at_276) rfl ?_
            refine g_ifN X924 hx (pcN := 281) (hD hby at_278) rfl (show ¬ ((1 : Int32) = 0) from by decide) ?_
            refine g_iconst X924 hx (pc' := 282) (z := (1 : Int32)) rfl (hD hby at_281) rfl ?_
            refine g_goto X924 hx (pc' := 286) (hD hby at_282) (by decide) (by decide) ?_
            exact g_retZ X924 hx hlk hret (by first | exact Or.inl rfl | exact Or.inr rfl) (hD hby at_286) (by decide) (by decide) (Nat.le_refl _) (rfl)
        · replace hc202 : ¬ bo3 = 0 := hc202
          refine g_aload X919 hx (pc' := 207) rfl (hD hby at_205) rfl rfl ?_
          refine g_aload X919 hx (pc' := 209) rfl (hD hby at_207) rfl rfl ?_
          refine g_dload X919 hx (pc' := 211) rfl (hD hby at_209) rfl ?_
          refine g_ldc2D X919 hx hZ hown (wat hw 105 rfl) (pc' := 214) (v := (4616189618054758400 : UInt64)) rfl (hD hby at_211) ?_
          refine g_dadd X919 hx (pc' := 215) (z := (FP.dadd d0 (4616189618054758400 : UInt64))) rfl (hD hby at_214) (own_add (k := 4) h_d0 (by decide +kernel)) rfl ?_
          refine g_callV X919 hx hZ hown (wat hw 106 rfl) (wat hw 107 rfl) (wat hw 109 rfl) (wat hw 108 rfl) (wat hw 47 rfl) (wat hw 110 rfl) (by decide) (a := a835) (own_exp I917.pas) (rm15_1 l Z a0 hw [] n0 ("id" :: "S" :: Ts) a835 el a825 mr (.ref b916) _ h917 I917.2.1 MR I917) pd_20 rfl rfl (by rw [hml]; rfl) (pc' := 218) rfl (hD hby at_215) (argsL := [(.ref a825), (.double (FP.dadd d0 (4616189618054758400 : UInt64)))]) (rest := []) rfl (W := 0) (Nat.le_of_eq rfl) (by decide) (by decide) (by decide) (by decide) (fun v925 T925 h925 X925 hQ925 => ?_)
          obtain ⟨rfl, I925⟩ := hQ925
          show Go p e below s n0 _ _ _ (T925.setTop (mkF m 218 _ []))
          refine g_iload X925 hx (pc' := 220) rfl (hD hby at_218) rfl ?_
          refine g_if X925 hx (pcY := 243) (pcN := 223) (hD hby at_220) (by decide) (by decide) rfl (fun hc220 => ?_) (fun hc220 => ?_)
          · replace hc220 : bo4 = 0 := hc220
            refine g_iload X925 hx (pc' := 245) rfl (hD hby at_243) rfl ?_
            refine g_if X925 hx (pcY := 259) (pcN := 248) (hD hby at_245) (by decide) (by decide) rfl (fun hc245 => ?_) (fun hc245 => ?_)
            · replace hc245 : bo5 = 0 := hc245
              refine g_aload X925 hx (pc' := 261) rfl (hD hby at_259) rfl rfl ?_
              obtain ⟨ls926, Pp926⟩ := I925.pas
              refine g_callV X925 hx hZ hown (wat hw 73 rfl) (wat hw 74 rfl) (wat hw 76 rfl) (wat hw 75 rfl) (wat hw 47 rfl) (wat hw 77 rfl) (by decide) (a := a835) (own_exp I925.pas) (rm9_y l Z a0 hw [] n0 ("id" :: "S" :: Ts) a835 ls926 b916 h925 I925.2.1 Pp926) pd_4 rfl rfl (by rw [hml]; rfl) (pc' := 264) rfl (hD hby at_261) (argsL := []) (rest := []) rfl (W := 0) (Nat.le_of_eq rfl) (by decide) (by decide) (by decide) (by decide) (fun v927 T927 h927 X927 hQ927 => ?_)
              obtain ⟨rfl, he927⟩ := hQ927
              rw [he927] at X927
              show Go p e below s n0 _ _ _ (T927.setTop (mkF m 264 _ [(.int 1)]))
              refine g_istore X927 hx (pc' := 266) rfl (hD hby at_264) (l' := #[.val (.int f'), .val (.int t'), .val (.int v1), .val (.int v2), .val (.ref a825), .val (.double d0), .second, .val (.ref a835), .val (.int bo0), .val (.int bo1), .val (.int bo2), .val (.int bo3), .val (.int bo4), .val (.int bo5), .val (.int 0), .val (.int 1), .val (.int 1)]) rfl ?_
              refine g_iload X927 hx (pc' := 268) rfl (hD hby at_266) rfl ?_
              refine g_ifN X927 hx (pcN := 271) (hD hby at_268) rfl (show ¬ (¬ (0 : Int32) = 0) from by decide) ?_
              refine g_iload X927 hx (pc' := 273) rfl (hD hby at_271) rfl ?_
              refine g_ifN X927 hx (pcN := 276) (hD hby at_273) rfl (show ¬ ((1 : Int32) = 0) from by decide) ?_
              refine g_iload X927 hx (pc' := 278) rfl (hD hby at_276) rfl ?_
              refine g_ifN X927 hx (pcN := 281) (hD hby at_278) rfl (show ¬ ((1 : Int32) = 0) from by decide) ?_
              refine g_iconst X927 hx (pc' := 282) (z := (1 : Int32)) rfl (hD hby at_281) rfl ?_
              refine g_goto X927 hx (pc' := 286) (hD hby at_282) (by decide) (by decide) ?_
              exact g_retZ X927 hx hlk hret (by first | exact Or.inl rfl | exact Or.inr rfl) (hD hby at_286) (by decide) (by decide) (Nat.le_refl _) (rfl)
            · replace hc245 : ¬ bo5 = 0 := hc245
              refine g_aload X925 hx (pc' := 250) rfl (hD hby at_248) rfl rfl ?_
              refine g_dload X925 hx (pc' := 252) rfl (hD hby at_250) rfl ?_
              refine g_ldc2D X925 hx hZ hown (wat hw 232 rfl) (pc' := 255) (v := (4618441417868443648 : UInt64)) rfl (hD hby at_252) ?_
              refine g_dadd X925 hx (pc' := 256) (z := (FP.dadd d0 (4618441417868443648 : UInt64))) rfl (hD hby at_255) (own_add (k := 6) h_d0 (by decide +kernel)) rfl ?_
              refine g_callV X925 hx hZ hown (wat hw 181 rfl) (wat hw 182 rfl) (wat hw 184 rfl) (wat hw 183 rfl) (wat hw 47 rfl) (wat hw 185 rfl) (by decide) (a := a835) (own_exp I925.pas) (rm23_i2 l Z a0 hw [] n0 ("id" :: "S" :: Ts) a835 el (.ref b916) _ h925 I925.2.1 I925) pd_25 rfl rfl (by rw [hml]; rfl) (pc' := 259) rfl (hD hby at_256) (argsL := [(.double (FP.dadd d0 (4618441417868443648 : UInt64)))]) (rest := []) rfl (W := 0) (Nat.le_of_eq rfl) (by decide) (by decide) (by decide) (by decide) (fun v928 T928 h928 X928 hQ928 => ?_)
              obtain ⟨rfl, I928⟩ := hQ928
              show Go p e below s n0 _ _ _ (T928.setTop (mkF m 259 _ []))
              refine g_aload X928 hx (pc' := 261) rfl (hD hby at_259) rfl rfl ?_
              obtain ⟨ls929, Pp929⟩ := I928.pas
              refine g_callV X928 hx hZ hown (wat hw 73 rfl) (wat hw 74 rfl) (wat hw 76 rfl) (wat hw 75 rfl) (wat hw 47 rfl) (wat hw 77 rfl) (by decide) (a := a835) (own_exp I928.pas) (rm9_y l Z a0 hw [] n0 ("id" :: "S" :: Ts) a835 ls929 b916 h928 I928.2.1 Pp929) pd_4 rfl rfl (by rw [hml]; rfl) (pc' := 264) rfl (hD hby at_261) (argsL := []) (rest := []) rfl (W := 0) (Nat.le_of_eq rfl) (by decide) (by decide) (by decide) (by decide) (fun v930 T930 h930 X930 hQ930 => ?_)
              obtain ⟨rfl, he930⟩ := hQ930
              rw [he930] at X930
              show Go p e below s n0 _ _ _ (T930.setTop (mkF m 264 _ [(.int 1)]))
              refine g_istore X930 hx (pc' := 266) rfl (hD hby at_264) (l' := #[.val (.int f'), .val (.int t'), .val (.int v1), .val (.int v2), .val (.ref a825), .val (.double d0), .second, .val (.ref a835), .val (.int bo0), .val (.int bo1), .val (.int bo2), .val (.int bo3), .val (.int bo4), .val (.int bo5), .val (.int 0), .val (.int 1), .val (.int 1)]) rfl ?_
              refine g_iload X930 hx (pc' := 268) rfl (hD hby at_266) rfl ?_
              refine g_ifN X930 hx (pcN := 271) (hD hby at_268) rfl (show ¬ (¬ (0 : Int32) = 0) from by decide) ?_
              refine g_iload X930 hx (pc' := 273) rfl (hD hby at_271) rfl ?_
              refine g_ifN X930 hx (pcN := 276) (hD hby at_273) rfl (show ¬ ((1 : Int32) = 0) from by decide) ?_
              refine g_iload X930 hx (pc' := 278) rfl (hD hby at_276) rfl ?_
              refine g_ifN X930 hx (pcN := 281) (hD hby at_278) rfl (show ¬ ((1 : Int32) = 0) from by decide) ?_
              refine g_iconst X930 hx (pc' := 282) (z := (1 : Int32)) rfl (hD hby at_281) rfl ?_
              refine g_goto X930 hx (pc' := 286) (hD hby at_282) (by decide) (by decide) ?_
              exact g_retZ X930 hx hlk hret (by first | exact Or.inl rfl | exact Or.inr rfl) (hD hby at_286) (by decide) (by decide) (Nat.le_refl _) (rfl)
          · replace hc220 : ¬ bo4 = 0 := hc220
            refine g_aload X925 hx (pc' := 225) rfl (hD hby at_223) rfl rfl ?_
            refine g_iloadN X925 hx (pc' := 226) rfl (hD hby at_225) rfl ?_
            refine g_sipush X925 hx (pc' := 229) (z := (255 : Int32)) rfl (hD hby at_226) rfl ?_
            refine g_iand X925 hx (pc' := 230) rfl (hD hby at_229) ?_
            refine g_i2c X925 hx (pc' := 231) rfl (hD hby at_230) ?_
            refine g_callS X925 hx hZ hown (wat hw 80 rfl) (wat hw 81 rfl) (wat hw 4 rfl) (wat hw 82 rfl) (by decide) (rm10 l Z a0 hw [] n0 ("id" :: "S" :: Ts) _ cz h925 I925.2.1 O2 hcz I925.1 (own_ch _)) pd_24 rfl rfl (by rw [hml]; rfl) (pc' := 234) rfl (hD hby at_231) (argsL := [(.int ((v2 &&& (255 : Int32))).toUInt32.toUInt16.toUInt32.toInt32)]) (rest := [(.ref a835)]) rfl (W := 1) (Nat.le_of_eq rfl) (by decide) (by decide) (by decide) (by decide) (fun v931 T931 h931 X931 hQ931 => ?_)
            obtain ⟨b931, rfl, -, -, K931⟩ := hQ931
            have I931 := I925.keep0 K931
            show Go p e below s n0 _ _ _ (T931.setTop (mkF m 234 _ [(.ref b931), (.ref a835)]))
            refine g_dload X931 hx (pc' := 236) rfl (hD hby at_234) rfl ?_
            refine g_ldc2D X931 hx hZ hown (wat hw 233 rfl) (pc' := 239) (v := (4617315517961601024 : UInt64)) rfl (hD hby at_236) ?_
            refine g_dadd X931 hx (pc' := 240) (z := (FP.dadd d0 (4617315517961601024 : UInt64))) rfl (hD hby at_239) (own_add (k := 5) h_d0 (by decide +kernel)) rfl ?_
            refine g_callV X931 hx hZ hown (wat hw 98 rfl) (wat hw 99 rfl) (wat hw 101 rfl) (wat hw 100 rfl) (wat hw 47 rfl) (wat hw 102 rfl) (by decide) (a := a835) (own_exp I931.pas) (rm14_y2 l Z a0 hw [] n0 ("id" :: "S" :: Ts) a835 el b916 b931 _ h931 I931.2.1 I931) pd_18 rfl rfl (by rw [hml]; rfl) (pc' := 243) rfl (hD hby at_240) (argsL := [(.ref b931), (.double (FP.dadd d0 (4617315517961601024 : UInt64)))]) (rest := []) rfl (W := 0) (Nat.le_of_eq rfl) (by decide) (by decide) (by decide) (by decide) (fun v932 T932 h932 X932 hQ932 => ?_)
            obtain ⟨rfl, I932⟩ := hQ932
            show Go p e below s n0 _ _ _ (T932.setTop (mkF m 243 _ []))
            refine g_iload X932 hx (pc' := 245) rfl (hD hby at_243) rfl ?_
            refine g_if X932 hx (pcY := 259) (pcN := 248) (hD hby at_245) (by decide) (by decide) rfl (fun hc245 => ?_) (fun hc245 => ?_)
            · replace hc245 : bo5 = 0 := hc245
              refine g_aload X932 hx (pc' := 261) rfl (hD hby at_259) rfl rfl ?_
              obtain ⟨ls933, Pp933⟩ := I932.pas
              refine g_callV X932 hx hZ hown (wat hw 73 rfl) (wat hw 74 rfl) (wat hw 76 rfl) (wat hw 75 rfl) (wat hw 47 rfl) (wat hw 77 rfl) (by decide) (a := a835) (own_exp I932.pas) (rm9_y l Z a0 hw [] n0 ("id" :: "S" :: Ts) a835 ls933 b916 h932 I932.2.1 Pp933) pd_4 rfl rfl (by rw [hml]; rfl) (pc' := 264) rfl (hD hby at_261) (argsL := []) (rest := []) rfl (W := 0) (Nat.le_of_eq rfl) (by decide) (by decide) (by decide) (by decide) (fun v934 T934 h934 X934 hQ934 => ?_)
              obtain ⟨rfl, he934⟩ := hQ934
              rw [he934] at X934
              show Go p e below s n0 _ _ _ (T934.setTop (mkF m 264 _ [(.int 1)]))
              refine g_istore X934 hx (pc' := 266) rfl (hD hby at_264) (l' := #[.val (.int f'), .val (.int t'), .val (.int v1), .val (.int v2), .val (.ref a825), .val (.double d0), .second, .val (.ref a835), .val (.int bo0), .val (.int bo1), .val (.int bo2), .val (.int bo3), .val (.int bo4), .val (.int bo5), .val (.int 0), .val (.int 1), .val (.int 1)]) rfl ?_
              refine g_iload X934 hx (pc' := 268) rfl (hD hby at_266) rfl ?_
              refine g_ifN X934 hx (pcN := 271) (hD hby at_268) rfl (show ¬ (¬ (0 : Int32) = 0) from by decide) ?_
              refine g_iload X934 hx (pc' := 273) rfl (hD hby at_271) rfl ?_
              refine g_ifN X934 hx (pcN := 276) (hD hby at_273) rfl (show ¬ ((1 : Int32) = 0) from by decide) ?_
              refine g_iload X934 hx (pc' := 278) rfl (hD hby at_276) rfl ?_
              refine g_ifN X934 hx (pcN := 281) (hD hby at_278) rfl (show ¬ ((1 : Int32) = 0) from by decide) ?_
              refine g_iconst X934 hx (pc' := 282) (z := (1 : Int32)) rfl (hD hby at_281) rfl ?_
              refine g_goto X934 hx (pc' := 286) (hD hby at_282) (by decide) (by decide) ?_
              exact g_retZ X934 hx hlk hret (by first | exact Or.inl rfl | exact Or.inr rfl) (hD hby at_286) (by decide) (by decide) (Nat.le_refl _) (rfl)
            · replace hc245 : ¬ bo5 = 0 := hc245
              refine g_aload X932 hx (pc' := 250) rfl (hD hby at_248) rfl rfl ?_
              refine g_dload X932 hx (pc' := 252) rfl (hD hby at_250) rfl ?_
              refine g_ldc2D X932 hx hZ hown (wat hw 232 rfl) (pc' := 255) (v := (4618441417868443648 : UInt64)) rfl (hD hby at_252) ?_
              refine g_dadd X932 hx (pc' := 256) (z := (FP.dadd d0 (4618441417868443648 : UInt64))) rfl (hD hby at_255) (own_add (k := 6) h_d0 (by decide +kernel)) rfl ?_
              refine g_callV X932 hx hZ hown (wat hw 181 rfl) (wat hw 182 rfl) (wat hw 184 rfl) (wat hw 183 rfl) (wat hw 47 rfl) (wat hw 185 rfl) (by decide) (a := a835) (own_exp I932.pas) (rm23_i2 l Z a0 hw [] n0 ("id" :: "S" :: Ts) a835 el (.ref b916) _ h932 I932.2.1 I932) pd_25 rfl rfl (by rw [hml]; rfl) (pc' := 259) rfl (hD hby at_256) (argsL := [(.double (FP.dadd d0 (4618441417868443648 : UInt64)))]) (rest := []) rfl (W := 0) (Nat.le_of_eq rfl) (by decide) (by decide) (by decide) (by decide) (fun v935 T935 h935 X935 hQ935 => ?_)
              obtain ⟨rfl, I935⟩ := hQ935
              show Go p e below s n0 _ _ _ (T935.setTop (mkF m 259 _ []))
              refine g_aload X935 hx (pc' := 261) rfl (hD hby at_259) rfl rfl ?_
              obtain ⟨ls936, Pp936⟩ := I935.pas
              refine g_callV X935 hx hZ hown (wat hw 73 rfl) (wat hw 74 rfl) (wat hw 76 rfl) (wat hw 75 rfl) (wat hw 47 rfl) (wat hw 77 rfl) (by decide) (a := a835) (own_exp I935.pas) (rm9_y l Z a0 hw [] n0 ("id" :: "S" :: Ts) a835 ls936 b916 h935 I935.2.1 Pp936) pd_4 rfl rfl (by rw [hml]; rfl) (pc' := 264) rfl (hD hby at_261) (argsL := []) (rest := []) rfl (W := 0) (Nat.le_of_eq rfl) (by decide) (by decide) (by decide) (by decide) (fun v937 T937 h937 X937 hQ937 => ?_)
              obtain ⟨rfl, he937⟩ := hQ937
              rw [he937] at X937
              show Go p e below s n0 _ _ _ (T937.setTop (mkF m 264 _ [(.int 1)]))
              refine g_istore X937 hx (pc' := 266) rfl (hD hby at_264) (l' := #[.val (.int f'), .val (.int t'), .val (.int v1), .val (.int v2), .val (.ref a825), .val (.double d0), .second, .val (.ref a835), .val (.int bo0), .val (.int bo1), .val (.int bo2), .val (.int bo3), .val (.int bo4), .val (.int bo5), .val (.int 0), .val (.int 1), .val (.int 1)]) rfl ?_
              refine g_iload X937 hx (pc' := 268) rfl (hD hby at_266) rfl ?_
              refine g_ifN X937 hx (pcN := 271) (hD hby at_268) rfl (show ¬ (¬ (0 : Int32) = 0) from by decide) ?_
              refine g_iload X937 hx (pc' := 273) rfl (hD hby at_271) rfl ?_
              refine g_ifN X937 hx (pcN := 276) (hD hby at_273) rfl (show ¬ ((1 : Int32) = 0) from by decide) ?_
              refine g_iload X937 hx (pc' := 278) rfl (hD hby at_276) rfl ?_
              refine g_ifN X937 hx (pcN := 281) (hD hby at_278) rfl (show ¬ ((1 : Int32) = 0) from by decide) ?_
              refine g_iconst X937 hx (pc' := 282) (z := (1 : Int32)) rfl (hD hby at_281) rfl ?_
              refine g_goto X937 hx (pc' := 286) (hD hby at_282) (by decide) (by decide) ?_
              exact g_retZ X937 hx hlk hret (by first | exact Or.inl rfl | exact Or.inr rfl) (hD hby at_286) (by decide) (by decide) (Nat.le_refl _) (rfl)
      · replace hc159 : bo2 = 0 := Classical.not_not.mp hc159
        refine g_iload X915 hx (pc' := 164) rfl (hD hby at_162) rfl ?_
        refine g_ifN X915 hx (pcN := 167) (hD hby at_164) rfl (show ¬ (¬ (0 : Int32) = 0) from by decide) ?_
        refine g_iconst X915 hx (pc' := 168) (z := (1 : Int32)) rfl (hD hby at_167) rfl ?_
        refine g_goto X915 hx (pc' := 172) (hD hby at_168) (by decide) (by decide) ?_
        exact g_retZ X915 hx hlk hret (by first | exact Or.inl rfl | exact Or.inr rfl) (hD hby at_172) (by decide) (by decide) (Nat.le_refl _) (rfl)
theorem own_sz {s : State} {args : Array Value} {t : Term} {a : Addr} {c : Cell} {k : Int32} (e : t.eval args s none [] s = some (.ref a)) (hA : s.arrayAt? a = some c) (hl : (Term.length t).eval args s none [] s = some (.int k)) : (c.slots.size : Int) = k.toInt := by
  by_cases h31 : c.slots.size < 2 ^ 31
  · have q := len_f e hA h31
    have q2 : c.slots.size.toInt32 = k := by simpa using Option.some.inj (q.symm.trans hl)
    rw [← q2, len_toInt h31]
  · simp [Term.eval, e, hA, h31] at hl
theorem own_em {s : State} {args : Array Value} {T : Term} (h3 : (Cond.exactly T "java/util/ImmutableCollections$ListN").value args s none s [] = some true) (h4 : (Cond.arrayOf (Term.field T "java/util/ImmutableCollections$ListN" "elements" "[Ljava/lang/Object;") (.object "java/lang/Object")).value args s none s [] = some true)
    (h6 : (Cond.eq (Term.length (Term.field T "java/util/ImmutableCollections$ListN" "elements" "[Ljava/lang/Object;")) (Term.int 0)).value args s none s [] = some true) : ∃ el, T.eval args s none [] s = some (.ref el) ∧ EmL s s.heap el := by
  obtain ⟨el, e⟩ := exa_v h3
  obtain ⟨ee, e2⟩ := arr_v h4
  have F := Fld.start (by rw [← fld_at e]; exact e2)
  obtain ⟨c, A⟩ := Arr.start e2 h4
  have hA : s.arrayAt? ee = some c := Arr.fin (Vm.Alike.refl _) A
  have hz : c.slots.size = 0 := by
    have q := own_sz e2 hA (Cond.eq_int (Cond.before_iff.mpr h6) rfl)
    have : (0 : Int32).toInt = 0 := rfl
    omega
  exact ⟨el, e, Exa.start e h3, ee, F, c, A, hz, by decide, fun i hi => absurd hi (Nat.not_lt_zero i), fun i hi => absurd hi (Nat.not_lt_zero i)⟩
theorem own_nz {s : State} {args : Array Value} {T : Term} {x : Int32} (e : T.eval args s none [] s = some (.int x)) (h : (Cond.not (Cond.eq T (Term.int 0))).value args s none s [] = some true) : ¬ x = 0 := by
  have q := not_v h
  simp only [Cond.value, e, Term.eval] at q
  intro hx; subst hx; simp at q
set_option maxRecDepth 65536 in
set_option maxHeartbeats 40000000 in
theorem comes_1 {Post : Tables → Env → Array Value → State → Outcome → State → Prop} (hpost : ∀ tb e args s v u, (limb_1_1.after args s (.returned v) u = true ∧ limb_1_2.after args s (.returned v) u = true ∧ True) → Jvm.D.FramedW s (.returned v) u (Jvm.fieldLocs frame_1_writes args s ++ Jvm.arrayLocs frame_1_arrays args s ++ Jvm.staticLocs frame_1_statics s) 40 2240 → Post tb e args s (.returned v) u) :
    ArmFor flags0 classFile x code maxLocals ret World_1 tables_1 room_1 Calls_1 rest_1 Pre_1 Post := by
  intro l hfl _ _ p e ha hc hk s m args below hf hA hF happ hP
  obtain ⟨hcalls, hrest, hpre⟩ := hP
  obtain ⟨-, -, -, hnamed, -, -, -, hat⟩ := (Spec.applies_iff hf).mp happ
  obtain ⟨hg, hn⟩ := and_e (Cond.before_iff.mp (show (Jvm.Cond.and given_1 narrow_1).before args s = true from hpre))
  obtain ⟨hcount, hg0⟩ := and_e hg
  obtain ⟨ha0, hg1⟩ := and_e hg0
  obtain ⟨ha1, hg2⟩ := and_e hg1
  obtain ⟨ha2, hg3⟩ := and_e hg2
  have ha3 := hg3
  obtain ⟨w0, w1, w2, w3, rfl⟩ : ∃ w0 w1 w2 w3 : Value, args = #[w0, w1, w2, w3] := by
    have hs : args.size = 4 := by simpa [Cond.value, given_1] using hcount
    obtain ⟨L⟩ := args
    match L, hs with
    | [w0, w1, w2, w3], _ => exact ⟨w0, w1, w2, w3, rfl⟩
  have hw := fun d (hd : d ∈ tables_1) => atoms_spec (ws := Jvm.Cond.code x code maxLocals ret :: tables_1) hat d (List.mem_cons_of_mem _ hd)
  obtain ⟨i0, ei0⟩ := is_v ha0
  obtain rfl : w0 = (.int i0) := Option.some.inj ei0
  obtain ⟨i1, ei1⟩ := is_v ha1
  obtain rfl : w1 = (.int i1) := Option.some.inj ei1
  obtain ⟨i2, ei2⟩ := is_v ha2
  obtain rfl : w2 = (.int i2) := Option.some.inj ei2
  obtain ⟨i3, ei3⟩ := is_v ha3
  obtain rfl : w3 = (.int i3) := Option.some.inj ei3
  obtain ⟨hm, hk1, -⟩ := hcalls
  obtain ⟨hr1, hr⟩ := and_e (Cond.before_iff.mp (show rest_1_c.before _ s = true from hrest))
  obtain ⟨hr2, hr⟩ := and_e hr
  obtain ⟨hr3, hr⟩ := and_e hr
  obtain ⟨hr4, hr⟩ := and_e hr
  obtain ⟨hr5, hr⟩ := and_e hr
  obtain ⟨hr6, hr⟩ := and_e hr
  obtain ⟨hr7, hr⟩ := and_e hr
  obtain ⟨hr8, hr⟩ := and_e hr
  obtain ⟨hr9, hr⟩ := and_e hr
  obtain ⟨hr10, hr⟩ := and_e hr
  obtain ⟨el, eel, EM⟩ := own_em hr3 hr4 hr6
  have O3 := Sta.start eel (Or.inl (Cond.before_iff.mpr hr2))
  obtain ⟨cz, ecz⟩ := is_v hr9
  have O2 := Sta.start ecz (Or.inl (Cond.before_iff.mpr hr8))
  obtain ⟨mc, mk, mr, m1, m2, m3, -⟩ := hm
  obtain ⟨n, o, h1, h2, h3, _, L, rfl, ⟨N, rfl, -⟩, hq⟩ := rm0 l s _ hw tables_1 s.heap.size [] i0 i1 i2 i3 cz el mr s.heap (Nat.le_refl _) rfl (Cond.before_iff.mpr hr10) hk1 O2 (own_nz ecz hr10) (Old.start s) O3 EM ⟨mc, mk, m1, m2, m3⟩ p e ha hc hk s m _ below hf ((Spec.applies_iff_loose hf).mp happ).1 ⟨rfl, State.Warmed39.refl s, rfl, IB.start⟩ trivial
  refine ⟨n, _, h1, h2, h3, hpost _ _ _ _ _ _ ⟨Cond.after_iff.mpr rfl, Cond.after_iff.mpr (eq_i res_at (Term.int_eval (1)) rfl), trivial⟩ ⟨hq.1, hq.2.1, hq.2.2.1, (hq.2.2.2.sift fun y hy => Or.inr (N y hy)).mono (by decide) (by decide)⟩⟩
theorem main_1_1 : Claimed_1_1 := comes_1 fun _ _ _ _ _ _ h hF => ⟨h.1, hF⟩
theorem main_1_2 : Claimed_1_2 := comes_1 fun _ _ _ _ _ _ h hF => ⟨h.2.1, hF⟩
end Jvm.Pilot.@@N@@
-- WITNESS
namespace Jvm.Pilot.@@N@@
open Jvm Jvm.ClassFile Sem Op Lib Jvm.Free Jvm.Stand Jvm.Pilot.@@N@@.Jvm.D
/-! MADE BY PROGRAM (witnessworld.py) out of the Statement's table words and the real class files: 39 classes; the members and pool entries that the words name. The judged class is class 1, her method 1. -/
namespace start1
open Jvm.ClassFile
def u (s : String) : CpInfo := .utf8 (stringToUtf16 s)
/-- a pool by its gaps: so many unusable entries, then the entry; so many at the end -/
def gap : Nat → List CpInfo → List CpInfo
  | 0, r => r
  | n + 1, r => .unusable :: gap n r
def poolList (es : List (Nat × CpInfo)) (last : Nat) : List CpInfo := es.foldr (fun e r => gap e.1 (e.2 :: r)) (gap last [])
def pool (es : List (Nat × CpInfo)) (last : Nat) : Array CpInfo := ⟨poolList es last⟩
def fileOf (pool : Array CpInfo) (this : Nat) (attrs : Array Attribute := #[]) (ms : Array MethodInfo := #[]) (fl : Nat := 33) (sup : Nat := 0) (ifs : Array Nat := #[]) (fds : Array FieldInfo := #[]) : ClassFile where
  minorVersion := 0
  majorVersion := 65
  constantPool := pool
  accessFlags := fl
  thisClass := this
  superClass := sup
  interfaces := ifs
  fields := fds
  methods := ms
  attributes := attrs
def plain (name : String) (sup : Option ClassId) : Class where
  name := name
  kind := .ordinary
  loader := none
  accessFlags := 33
  super := sup
  interfaces := #[]
  cf := none
  fields := #[]
  methods := #[]
  instanceTypes := #[]
  staticTypes := #[]
  resolved := #[]
  callSites := []
  init := .initialized
  statics := none
  mirror := none

def pool0 : Array CpInfo := pool [(5, u "<init>"), (0, u "()V"), (1, .class_ 10), (1, u "java/lang/Object"), (0, u "getClass"), (0, u "()Ljava/lang/Class;")] 111

def k0c0 : Code := { maxStack := 0, maxLocals := 1, code := object_method_1_code, exceptionTable := #[], attributes := #[] }
def k0m0 : Method := { name := "<init>", desc := "()V", sig := { parameters := [], returnType := none }, accessFlags := 1, code := some k0c0 }
def k0m1 : Method := { name := "getClass", desc := "()Ljava/lang/Class;", sig := { parameters := [], returnType := some (.object "java/lang/Class") }, accessFlags := 273, code := none }
/-- java/lang/Object -/
def k0 : Class := { plain "java/lang/Object" none with
  accessFlags := 33
  interfaces := #[]
  cf := some (fileOf pool0 8 #[] #[{ accessFlags := 1, nameIndex := 5, descriptorIndex := 6, attributes := #[] }, { accessFlags := 273, nameIndex := 11, descriptorIndex := 12, attributes := #[] }] 33 0 #[] #[])
  fields := #[]
  methods := #[k0m0, k0m1]
  instanceTypes := #[]
  staticTypes := #[]
  resolved := Array.replicate 124 none
  statics := none }

def pool1 : Array CpInfo := pool [(2, .class_ 4), (1, u "java/lang/Object"), (0, u "<init>"), (0, u "()V"), (0, .class_ 8), (0, u "com/example/loads_to_headways/loadstoheadways/corridor/Station"), (0, .string 10), (0, u "S"), (0, .methodref 7 12), (0, .nameAndType 5 13), (0, u "(ILjava/lang/String;D)V"), (0, .class_ 15), (0, u "com/example/loads_to_headways/loadstoheadways/sim/Passenger"), (0, .methodref 14 17), (0, .nameAndType 5 18), (0, u "(ILcom/example/loads_to_headways/loadstoheadways/corridor/Station;Lcom/example/loads_to_headways/loadstoheadways/corridor/Station;D)V"), (0, .methodref 14 20), (0, .nameAndType 21 22), (0, u "alight"), (0, u "(D)V"), (0, .double 4611686018427387904), (1, .methodref 14 26), (0, .nameAndType 27 28), (0, u "strand"), (0, u "(Lcom/example/loads_to_headways/loadstoheadways/corridor/Station;D)V"), (0, .methodref 14 30), (0, .nameAndType 31 32), (0, u "hasBoarded"), (0, u "()Z"), (0, .methodref 34 35), (0, .class_ 36), (0, .nameAndType 37 38), (0, u "java/lang/String"), (0, u "valueOf"), (0, u "(C)Ljava/lang/String;"), (0, .double 4613937818241073152), (1, .methodref 14 42), (0, .nameAndType 43 44), (0, u "board"), (0, u "(Ljava/lang/String;D)V"), (0, .double 4616189618054758400), (1, .double 4617315517961601024), (1, .double 4618441417868443648), (1, .class_ 52), (0, u "com/example/loads_to_headways/loadstoheadways/sim/PassengerHasBoardedPinLaw"), (2, u "law"), (0, u "(IIII)Z")] 3

def k1m0 : Method := { name := "<init>", desc := "()V", sig := { parameters := [], returnType := none }, accessFlags := 1, code := none }
def k1c1 : Code := { maxStack := 7, maxLocals := 17, code := code, exceptionTable := #[], attributes := #[] }
def k1m1 : Method := { name := "law", desc := "(IIII)Z", sig := { parameters := [.int, .int, .int, .int], returnType := some .boolean }, accessFlags := 9, code := some k1c1 }
/-- com/example/loads_to_headways/loadstoheadways/sim/PassengerHasBoardedPinLaw -/
def k1 : Class := { plain "com/example/loads_to_headways/loadstoheadways/sim/PassengerHasBoardedPinLaw" (some 0) with
  accessFlags := 49
  interfaces := #[]
  cf := some (fileOf pool1 51 #[] #[{ accessFlags := 1, nameIndex := 5, descriptorIndex := 6, attributes := #[] }, { accessFlags := 9, nameIndex := 55, descriptorIndex := 56, attributes := #[] }] 49 2 #[] #[])
  fields := #[]
  methods := #[k1m0, k1m1]
  instanceTypes := #[]
  staticTypes := #[]
  resolved := Array.replicate 60 none
  statics := none }

def pool2 : Array CpInfo := pool [(1, .methodref 2 3), (0, .class_ 4), (0, .nameAndType 5 6), (0, u "java/lang/Object"), (0, u "<init>"), (0, u "()V"), (9, .string 17), (0, u "id"), (0, .methodref 19 20), (0, .class_ 21), (0, .nameAndType 22 23), (0, u "java/util/Objects"), (0, u "requireNonNull"), (0, u "(Ljava/lang/Object;Ljava/lang/String;)Ljava/lang/Object;"), (0, .class_ 25), (0, u "java/lang/String"), (0, .methodref 24 27), (0, .nameAndType 28 29), (0, u "isEmpty"), (0, u "()Z"), (2, .methodref 33 34), (0, .class_ 35), (0, .nameAndType 36 37), (0, u "java/lang/Double"), (0, u "isFinite"), (0, u "(D)Z"), (3, .fieldref 42 43), (0, .class_ 44), (0, .nameAndType 45 46), (0, u "com/example/loads_to_headways/loadstoheadways/corridor/Station"), (0, u "seq"), (0, u "I"), (0, .fieldref 42 48), (0, .nameAndType 17 49), (0, u "Ljava/lang/String;"), (0, .fieldref 42 51), (0, .nameAndType 52 53), (0, u "arrivalRatePerMinute"), (0, u "D"), (0, u "(ILjava/lang/String;D)V")] 26

def k2c0 : Code := { maxStack := 4, maxLocals := 5, code := prog_13_method_1_code, exceptionTable := #[], attributes := #[] }
def k2m0 : Method := { name := "<init>", desc := "(ILjava/lang/String;D)V", sig := { parameters := [.int, (.object "java/lang/String"), .double], returnType := none }, accessFlags := 1, code := some k2c0 }
/-- com/example/loads_to_headways/loadstoheadways/corridor/Station -/
def k2 : Class := { plain "com/example/loads_to_headways/loadstoheadways/corridor/Station" (some 0) with
  accessFlags := 49
  interfaces := #[]
  cf := some (fileOf pool2 42 #[] #[{ accessFlags := 1, nameIndex := 5, descriptorIndex := 54, attributes := #[] }] 49 2 #[] #[{ accessFlags := 18, nameIndex := 45, descriptorIndex := 46, attributes := #[] }, { accessFlags := 18, nameIndex := 17, descriptorIndex := 49, attributes := #[] }, { accessFlags := 18, nameIndex := 52, descriptorIndex := 53, attributes := #[] }])
  fields := #[{ name := "seq", type := .int, accessFlags := 18, slot := 0, constantValue := 0 }, { name := "id", type := (.object "java/lang/String"), accessFlags := 18, slot := 1, constantValue := 0 }, { name := "arrivalRatePerMinute", type := .double, accessFlags := 18, slot := 2, constantValue := 0 }]
  methods := #[k2m0]
  instanceTypes := #[.int, (.object "java/lang/String"), .double]
  staticTypes := #[]
  resolved := Array.replicate 81 none
  statics := none }

def pool3 : Array CpInfo := pool [(1, .class_ 2), (0, u "java/io/Serializable"), (0, .class_ 4), (0, u "java/lang/Object")] 2

/-- java/io/Serializable -/
def k3 : Class := { plain "java/io/Serializable" (some 0) with
  accessFlags := 1537
  interfaces := #[]
  cf := some (fileOf pool3 1 #[] #[] 1537 3 #[] #[])
  fields := #[]
  methods := #[]
  instanceTypes := #[]
  staticTypes := #[]
  resolved := Array.replicate 7 none
  statics := none }

def pool4 : Array CpInfo := pool [(1, .class_ 2), (0, u "java/lang/Comparable"), (0, .class_ 4), (0, u "java/lang/Object")] 7

/-- java/lang/Comparable -/
def k4 : Class := { plain "java/lang/Comparable" (some 0) with
  accessFlags := 1537
  interfaces := #[]
  cf := some (fileOf pool4 1 #[] #[] 1537 3 #[] #[])
  fields := #[]
  methods := #[]
  instanceTypes := #[]
  staticTypes := #[]
  resolved := Array.replicate 12 none
  statics := none }

def pool5 : Array CpInfo := pool [(2, .class_ 4), (1, u "java/lang/CharSequence"), (42, .class_ 48), (0, u "java/lang/CharSequence$1CodePointIterator"), (10, .class_ 60), (0, u "java/lang/CharSequence$1CharIterator"), (5, .class_ 67), (0, u "java/lang/Object")] 63

/-- java/lang/CharSequence -/
def k5 : Class := { plain "java/lang/CharSequence" (some 0) with
  accessFlags := 1537
  interfaces := #[]
  cf := some (fileOf pool5 2 #[.nestMembers #[47, 59]] #[] 1537 66 #[] #[])
  fields := #[]
  methods := #[]
  instanceTypes := #[]
  staticTypes := #[]
  resolved := Array.replicate 131 none
  statics := none }

def pool6 : Array CpInfo := pool [(1, .class_ 2), (0, u "java/lang/constant/Constable"), (0, .class_ 4), (0, u "java/lang/Object")] 6

/-- java/lang/constant/Constable -/
def k6 : Class := { plain "java/lang/constant/Constable" (some 0) with
  accessFlags := 1537
  interfaces := #[]
  cf := some (fileOf pool6 1 #[] #[] 1537 3 #[] #[])
  fields := #[]
  methods := #[]
  instanceTypes := #[]
  staticTypes := #[]
  resolved := Array.replicate 11 none
  statics := none }

def pool7 : Array CpInfo := pool [(1, .class_ 2), (0, u "java/lang/constant/ConstantDesc"), (0, .class_ 4), (0, u "java/lang/Object")] 32

/-- java/lang/constant/ConstantDesc -/
def k7 : Class := { plain "java/lang/constant/ConstantDesc" (some 0) with
  accessFlags := 1537
  interfaces := #[]
  cf := some (fileOf pool7 1 #[] #[] 1537 3 #[] #[])
  fields := #[]
  methods := #[]
  instanceTypes := #[]
  staticTypes := #[]
  resolved := Array.replicate 37 none
  statics := none }

def pool8 : Array CpInfo := pool [(1, .methodref 2 3), (0, .class_ 4), (0, .nameAndType 5 6), (0, u "java/lang/Object"), (0, u "<init>"), (0, u "()V"), (2, .fieldref 10 11), (0, .class_ 12), (0, .nameAndType 13 14), (0, u "java/lang/String"), (0, u "value"), (0, u "[B"), (0, .fieldref 10 16), (0, .nameAndType 17 18), (0, u "coder"), (0, u "B"), (2, u "hash"), (0, u "I"), (2, u "hashIsZero"), (0, u "Z"), (11, .fieldref 10 39), (0, .nameAndType 40 26), (0, u "COMPACT_STRINGS"), (12, u "toBytes"), (53, .class_ 109), (1, u "java/lang/StringLatin1"), (32, u "()Z"), (66, .methodref 10 210), (0, .nameAndType 5 211), (0, u "([BB)V"), (157, u "(C)Z"), (205, .class_ 576), (0, u "java/lang/CharSequence"), (22, u "CASE_INSENSITIVE_ORDER"), (0, u "Ljava/util/Comparator;"), (91, u "isEmpty"), (89, u "valueOf"), (0, u "(C)Ljava/lang/String;"), (231, .methodref 107 1016), (0, .nameAndType 1017 369), (0, u "canEncode"), (0, .methodref 107 1019), (0, .nameAndType 53 1020), (0, u "(C)[B"), (80, u "serialPersistentFields"), (0, u "[Ljava/io/ObjectStreamField;"), (0, .class_ 1104), (0, u "java/lang/String$CaseInsensitiveComparator"), (1, .class_ 1107), (0, u "java/io/Serializable"), (0, .class_ 1109), (0, u "java/lang/Comparable"), (0, .class_ 1111), (0, u "java/lang/constant/Constable"), (0, .class_ 1113), (0, u "java/lang/constant/ConstantDesc"), (2, u "serialVersionUID"), (0, u "J"), (3, u "REPL"), (0, u "C"), (2, u "LATIN1"), (1, u "UTF16")] 323

def k8m0 : Method := { name := "<init>", desc := "()V", sig := { parameters := [], returnType := none }, accessFlags := 1, code := none }
def k8c1 : Code := { maxStack := 1, maxLocals := 1, code := jdk_42_method_55_code, exceptionTable := #[], attributes := #[] }
def k8m1 : Method := { name := "isEmpty", desc := "()Z", sig := { parameters := [], returnType := some .boolean }, accessFlags := 1, code := some k8c1 }
def k8c2 : Code := { maxStack := 4, maxLocals := 1, code := jdk_42_method_139_code, exceptionTable := #[], attributes := #[] }
def k8m2 : Method := { name := "valueOf", desc := "(C)Ljava/lang/String;", sig := { parameters := [.char], returnType := some (.object "java/lang/String") }, accessFlags := 9, code := some k8c2 }
def k8c3 : Code := { maxStack := 2, maxLocals := 3, code := jdk_42_method_151_code, exceptionTable := #[], attributes := #[] }
def k8m3 : Method := { name := "<init>", desc := "([BB)V", sig := { parameters := [(.array .byte), .byte], returnType := none }, accessFlags := 0, code := some k8c3 }
/-- java/lang/String -/
def k8 : Class := { plain "java/lang/String" (some 0) with
  accessFlags := 49
  interfaces := #[3, 4, 5, 6, 7]
  cf := some (fileOf pool8 10 #[.nestMembers #[1103]] #[{ accessFlags := 1, nameIndex := 5, descriptorIndex := 6, attributes := #[] }, { accessFlags := 1, nameIndex := 692, descriptorIndex := 142, attributes := #[] }, { accessFlags := 9, nameIndex := 782, descriptorIndex := 783, attributes := #[] }, { accessFlags := 0, nameIndex := 5, descriptorIndex := 211, attributes := #[] }] 49 2 #[1106, 1108, 575, 1110, 1112] #[{ accessFlags := 18, nameIndex := 13, descriptorIndex := 14, attributes := #[] }, { accessFlags := 18, nameIndex := 17, descriptorIndex := 18, attributes := #[] }, { accessFlags := 2, nameIndex := 21, descriptorIndex := 22, attributes := #[] }, { accessFlags := 2, nameIndex := 25, descriptorIndex := 26, attributes := #[] }, { accessFlags := 26, nameIndex := 1116, descriptorIndex := 1117, attributes := #[] }, { accessFlags := 24, nameIndex := 40, descriptorIndex := 26, attributes := #[] }, { accessFlags := 26, nameIndex := 1101, descriptorIndex := 1102, attributes := #[] }, { accessFlags := 26, nameIndex := 1121, descriptorIndex := 1122, attributes := #[] }, { accessFlags := 25, nameIndex := 599, descriptorIndex := 600, attributes := #[] }, { accessFlags := 24, nameIndex := 1125, descriptorIndex := 18, attributes := #[] }, { accessFlags := 24, nameIndex := 1127, descriptorIndex := 18, attributes := #[] }])
  fields := #[{ name := "value", type := (.array .byte), accessFlags := 18, slot := 0, constantValue := 0 }, { name := "coder", type := .byte, accessFlags := 18, slot := 1, constantValue := 0 }, { name := "hash", type := .int, accessFlags := 2, slot := 2, constantValue := 0 }, { name := "hashIsZero", type := .boolean, accessFlags := 2, slot := 3, constantValue := 0 }, { name := "serialVersionUID", type := .long, accessFlags := 26, slot := 0, constantValue := 0 }, { name := "COMPACT_STRINGS", type := .boolean, accessFlags := 24, slot := 1, constantValue := 0 }, { name := "serialPersistentFields", type := (.array (.object "java/io/ObjectStreamField")), accessFlags := 26, slot := 2, constantValue := 0 }, { name := "REPL", type := .char, accessFlags := 26, slot := 3, constantValue := 0 }, { name := "CASE_INSENSITIVE_ORDER", type := (.object "java/util/Comparator"), accessFlags := 25, slot := 4, constantValue := 0 }, { name := "LATIN1", type := .byte, accessFlags := 24, slot := 5, constantValue := 0 }, { name := "UTF16", type := .byte, accessFlags := 24, slot := 6, constantValue := 0 }]
  methods := #[k8m0, k8m1, k8m2, k8m3]
  instanceTypes := #[(.array .byte), .byte, .int, .boolean]
  staticTypes := #[.long, .boolean, (.array (.object "java/io/ObjectStreamField")), .char, (.object "java/util/Comparator"), .byte, .byte]
  resolved := Array.replicate 1451 none
  statics := some 0 }

def pool9 : Array CpInfo := pool [(2, .class_ 4), (1, u "java/lang/Object"), (0, u "<init>"), (0, u "()V"), (35, .class_ 44), (1, u "java/util/Objects"), (0, u "requireNonNull"), (48, u "(Ljava/lang/Object;Ljava/lang/String;)Ljava/lang/Object;"), (10, .methodref 106 107), (0, .class_ 108), (0, .nameAndType 109 110), (0, u "jdk/internal/util/Preconditions"), (0, u "checkIndex"), (0, u "(IILjava/util/function/BiFunction;)I"), (60, u "(II)I")] 12

def k9m0 : Method := { name := "<init>", desc := "()V", sig := { parameters := [], returnType := none }, accessFlags := 2, code := none }
def k9c1 : Code := { maxStack := 3, maxLocals := 2, code := jdk_31_method_11_code, exceptionTable := #[], attributes := #[] }
def k9m1 : Method := { name := "requireNonNull", desc := "(Ljava/lang/Object;Ljava/lang/String;)Ljava/lang/Object;", sig := { parameters := [(.object "java/lang/Object"), (.object "java/lang/String")], returnType := some (.object "java/lang/Object") }, accessFlags := 9, code := some k9c1 }
def k9c2 : Code := { maxStack := 3, maxLocals := 2, code := jdk_31_method_17_code, exceptionTable := #[], attributes := #[] }
def k9m2 : Method := { name := "checkIndex", desc := "(II)I", sig := { parameters := [.int, .int], returnType := some .int }, accessFlags := 9, code := some k9c2 }
/-- java/util/Objects -/
def k9 : Class := { plain "java/util/Objects" (some 0) with
  accessFlags := 49
  interfaces := #[]
  cf := some (fileOf pool9 42 #[] #[{ accessFlags := 2, nameIndex := 5, descriptorIndex := 6, attributes := #[] }, { accessFlags := 9, nameIndex := 45, descriptorIndex := 94, attributes := #[] }, { accessFlags := 9, nameIndex := 109, descriptorIndex := 171, attributes := #[] }] 49 2 #[] #[])
  fields := #[]
  methods := #[k9m0, k9m1, k9m2]
  instanceTypes := #[]
  staticTypes := #[]
  resolved := Array.replicate 184 none
  statics := none }

def pool10 : Array CpInfo := pool [(2, .class_ 4), (1, u "java/lang/Object"), (0, u "<init>"), (0, u "()V"), (1, .class_ 10), (1, u "java/lang/Number"), (2, .class_ 14), (0, u "java/io/Serializable"), (0, u "serialVersionUID"), (0, u "J")] 20

def k10m0 : Method := { name := "<init>", desc := "()V", sig := { parameters := [], returnType := none }, accessFlags := 1, code := none }
/-- java/lang/Number -/
def k10 : Class := { plain "java/lang/Number" (some 0) with
  accessFlags := 1057
  interfaces := #[3]
  cf := some (fileOf pool10 8 #[] #[{ accessFlags := 1, nameIndex := 5, descriptorIndex := 6, attributes := #[] }] 1057 2 #[13] #[{ accessFlags := 26, nameIndex := 15, descriptorIndex := 16, attributes := #[] }])
  fields := #[{ name := "serialVersionUID", type := .long, accessFlags := 26, slot := 0, constantValue := 0 }]
  methods := #[k10m0]
  instanceTypes := #[]
  staticTypes := #[.long]
  resolved := Array.replicate 37 none
  statics := none }

def pool11 : Array CpInfo := pool [(1, .class_ 2), (0, u "java/lang/Double"), (10, u "isFinite"), (0, u "(D)Z"), (8, .class_ 25), (1, u "java/lang/Math"), (12, .methodref 23 39), (0, .nameAndType 40 41), (0, u "abs"), (0, u "(D)D"), (69, .double 9218868437227405311), (2, .class_ 116), (1, u "java/lang/Number"), (3, u "value"), (0, u "D"), (51, u "TYPE"), (0, u "Ljava/lang/Class;"), (0, .class_ 176), (0, u "java/lang/Comparable"), (0, .class_ 178), (0, u "java/lang/constant/Constable"), (0, .class_ 180), (0, u "java/lang/constant/ConstantDesc"), (0, u "POSITIVE_INFINITY"), (3, u "NEGATIVE_INFINITY"), (2, u "NaN"), (2, u "MAX_VALUE"), (0, u "MIN_NORMAL"), (0, u "MIN_VALUE"), (2, u "SIZE"), (0, u "I"), (1, u "PRECISION"), (1, u "MAX_EXPONENT"), (1, u "MIN_EXPONENT"), (1, u "BYTES"), (3, u "serialVersionUID"), (0, u "J")] 79

def k11c0 : Code := { maxStack := 4, maxLocals := 2, code := jdk_117_method_8_code, exceptionTable := #[], attributes := #[] }
def k11m0 : Method := { name := "isFinite", desc := "(D)Z", sig := { parameters := [.double], returnType := some .boolean }, accessFlags := 9, code := some k11c0 }
/-- java/lang/Double -/
def k11 : Class := { plain "java/lang/Double" (some 10) with
  accessFlags := 49
  interfaces := #[4, 6, 7]
  cf := some (fileOf pool11 1 #[] #[{ accessFlags := 9, nameIndex := 13, descriptorIndex := 14, attributes := #[] }] 49 114 #[175, 177, 179] #[{ accessFlags := 25, nameIndex := 181, descriptorIndex := 121, attributes := #[] }, { accessFlags := 25, nameIndex := 185, descriptorIndex := 121, attributes := #[] }, { accessFlags := 25, nameIndex := 188, descriptorIndex := 121, attributes := #[] }, { accessFlags := 25, nameIndex := 191, descriptorIndex := 121, attributes := #[] }, { accessFlags := 25, nameIndex := 192, descriptorIndex := 121, attributes := #[] }, { accessFlags := 25, nameIndex := 193, descriptorIndex := 121, attributes := #[] }, { accessFlags := 25, nameIndex := 196, descriptorIndex := 197, attributes := #[] }, { accessFlags := 25, nameIndex := 199, descriptorIndex := 197, attributes := #[] }, { accessFlags := 25, nameIndex := 201, descriptorIndex := 197, attributes := #[] }, { accessFlags := 25, nameIndex := 203, descriptorIndex := 197, attributes := #[] }, { accessFlags := 25, nameIndex := 205, descriptorIndex := 197, attributes := #[] }, { accessFlags := 25, nameIndex := 173, descriptorIndex := 174, attributes := #[] }, { accessFlags := 18, nameIndex := 120, descriptorIndex := 121, attributes := #[] }, { accessFlags := 26, nameIndex := 209, descriptorIndex := 210, attributes := #[] }])
  fields := #[{ name := "POSITIVE_INFINITY", type := .double, accessFlags := 25, slot := 0, constantValue := 0 }, { name := "NEGATIVE_INFINITY", type := .double, accessFlags := 25, slot := 1, constantValue := 0 }, { name := "NaN", type := .double, accessFlags := 25, slot := 2, constantValue := 0 }, { name := "MAX_VALUE", type := .double, accessFlags := 25, slot := 3, constantValue := 0 }, { name := "MIN_NORMAL", type := .double, accessFlags := 25, slot := 4, constantValue := 0 }, { name := "MIN_VALUE", type := .double, accessFlags := 25, slot := 5, constantValue := 0 }, { name := "SIZE", type := .int, accessFlags := 25, slot := 6, constantValue := 0 }, { name := "PRECISION", type := .int, accessFlags := 25, slot := 7, constantValue := 0 }, { name := "MAX_EXPONENT", type := .int, accessFlags := 25, slot := 8, constantValue := 0 }, { name := "MIN_EXPONENT", type := .int, accessFlags := 25, slot := 9, constantValue := 0 }, { name := "BYTES", type := .int, accessFlags := 25, slot := 10, constantValue := 0 }, { name := "TYPE", type := (.object "java/lang/Class"), accessFlags := 25, slot := 11, constantValue := 0 }, { name := "value", type := .double, accessFlags := 18, slot := 0, constantValue := 0 }, { name := "serialVersionUID", type := .long, accessFlags := 26, slot := 12, constantValue := 0 }]
  methods := #[k11m0]
  instanceTypes := #[.double]
  staticTypes := #[.double, .double, .double, .double, .double, .double, .int, .int, .int, .int, .int, (.object "java/lang/Class"), .long]
  resolved := Array.replicate 290 none
  statics := none }

def pool12 : Array CpInfo := pool [(1, .class_ 2), (0, u "java/lang/Math"), (1, .class_ 6), (1, u "java/lang/Object"), (0, u "<init>"), (0, u "()V"), (5, u "(D)D"), (83, .class_ 100), (1, u "java/lang/Math$RandomNumberGeneratorHolder"), (23, u "abs"), (47, u "negativeZeroFloatBits"), (0, u "J"), (2, u "negativeZeroDoubleBits"), (21, u "max"), (2, u "min"), (43, u "$assertionsDisabled"), (0, u "Z"), (88, u "(II)I"), (2, u "twoToTheDoubleScaleDown"), (0, u "D"), (4, u "twoToTheDoubleScaleUp"), (9, u "E"), (3, u "PI"), (2, u "TAU"), (2, u "DEGREES_TO_RADIANS"), (0, u "RADIANS_TO_DEGREES")] 94

def k12m0 : Method := { name := "<init>", desc := "()V", sig := { parameters := [], returnType := none }, accessFlags := 2, code := none }
def k12c1 : Code := { maxStack := 4, maxLocals := 2, code := jdk_29_method_64_code, exceptionTable := #[], attributes := #[] }
def k12m1 : Method := { name := "abs", desc := "(D)D", sig := { parameters := [.double], returnType := some .double }, accessFlags := 9, code := some k12c1 }
def k12c2 : Code := { maxStack := 2, maxLocals := 2, code := jdk_29_method_65_code, exceptionTable := #[], attributes := #[] }
def k12m2 : Method := { name := "max", desc := "(II)I", sig := { parameters := [.int, .int], returnType := some .int }, accessFlags := 9, code := some k12c2 }
def k12c3 : Code := { maxStack := 2, maxLocals := 2, code := jdk_29_method_69_code, exceptionTable := #[], attributes := #[] }
def k12m3 : Method := { name := "min", desc := "(II)I", sig := { parameters := [.int, .int], returnType := some .int }, accessFlags := 9, code := some k12c3 }
/-- java/lang/Math -/
def k12 : Class := { plain "java/lang/Math" (some 0) with
  accessFlags := 49
  interfaces := #[]
  cf := some (fileOf pool12 1 #[.nestMembers #[98]] #[{ accessFlags := 2, nameIndex := 7, descriptorIndex := 8, attributes := #[] }, { accessFlags := 9, nameIndex := 124, descriptorIndex := 14, attributes := #[] }, { accessFlags := 9, nameIndex := 198, descriptorIndex := 335, attributes := #[] }, { accessFlags := 9, nameIndex := 201, descriptorIndex := 335, attributes := #[] }] 49 4 #[] #[{ accessFlags := 25, nameIndex := 354, descriptorIndex := 339, attributes := #[] }, { accessFlags := 25, nameIndex := 358, descriptorIndex := 339, attributes := #[] }, { accessFlags := 25, nameIndex := 361, descriptorIndex := 339, attributes := #[] }, { accessFlags := 26, nameIndex := 364, descriptorIndex := 339, attributes := #[] }, { accessFlags := 26, nameIndex := 365, descriptorIndex := 339, attributes := #[] }, { accessFlags := 26, nameIndex := 172, descriptorIndex := 173, attributes := #[] }, { accessFlags := 26, nameIndex := 176, descriptorIndex := 173, attributes := #[] }, { accessFlags := 8, nameIndex := 344, descriptorIndex := 339, attributes := #[] }, { accessFlags := 8, nameIndex := 338, descriptorIndex := 339, attributes := #[] }, { accessFlags := 4120, nameIndex := 245, descriptorIndex := 246, attributes := #[] }])
  fields := #[{ name := "E", type := .double, accessFlags := 25, slot := 0, constantValue := 0 }, { name := "PI", type := .double, accessFlags := 25, slot := 1, constantValue := 0 }, { name := "TAU", type := .double, accessFlags := 25, slot := 2, constantValue := 0 }, { name := "DEGREES_TO_RADIANS", type := .double, accessFlags := 26, slot := 3, constantValue := 0 }, { name := "RADIANS_TO_DEGREES", type := .double, accessFlags := 26, slot := 4, constantValue := 0 }, { name := "negativeZeroFloatBits", type := .long, accessFlags := 26, slot := 5, constantValue := 0 }, { name := "negativeZeroDoubleBits", type := .long, accessFlags := 26, slot := 6, constantValue := 0 }, { name := "twoToTheDoubleScaleUp", type := .double, accessFlags := 8, slot := 7, constantValue := 0 }, { name := "twoToTheDoubleScaleDown", type := .double, accessFlags := 8, slot := 8, constantValue := 0 }, { name := "$assertionsDisabled", type := .boolean, accessFlags := 4120, slot := 9, constantValue := 0 }]
  methods := #[k12m0, k12m1, k12m2, k12m3]
  instanceTypes := #[]
  staticTypes := #[.double, .double, .double, .double, .double, .long, .long, .double, .double, .boolean]
  resolved := Array.replicate 460 none
  statics := none }

def pool13 : Array CpInfo := pool [(1, .methodref 2 3), (0, .class_ 4), (0, .nameAndType 5 6), (0, u "java/lang/Object"), (0, u "<init>"), (0, u "()V"), (2, .double 9221120237041090560), (1, .fieldref 12 13), (0, .class_ 14), (0, .nameAndType 15 16), (0, u "com/example/loads_to_headways/loadstoheadways/sim/Passenger"), (0, u "boardingSeconds"), (0, u "D"), (0, .fieldref 12 18), (0, .nameAndType 19 16), (0, u "alightingSeconds"), (0, .interfaceMethodref 21 22), (0, .class_ 23), (0, .nameAndType 24 25), (0, u "java/util/List"), (0, u "of"), (0, u "()Ljava/util/List;"), (0, .fieldref 12 27), (0, .nameAndType 28 29), (0, u "strandings"), (0, u "Ljava/util/List;"), (0, .fieldref 12 31), (0, .nameAndType 32 33), (0, u "id"), (0, u "I"), (0, .fieldref 12 35), (0, .nameAndType 36 37), (0, u "origin"), (0, u "Lcom/example/loads_to_headways/loadstoheadways/corridor/Station;"), (0, .fieldref 12 39), (0, .nameAndType 40 37), (0, u "destination"), (0, .fieldref 12 42), (0, .nameAndType 43 16), (0, u "arrivalSeconds"), (0, .fieldref 12 45), (0, .nameAndType 46 47), (0, u "vehicleId"), (0, u "Ljava/lang/String;"), (4, .fieldref 12 53), (0, .nameAndType 54 55), (0, u "onBoard"), (0, u "Z"), (0, .interfaceMethodref 21 57), (0, .nameAndType 58 59), (0, u "isEmpty"), (0, u "()Z"), (3, .interfaceMethodref 21 64), (0, .nameAndType 65 66), (0, u "get"), (0, u "(I)Ljava/lang/Object;"), (0, .class_ 68), (0, u "com/example/loads_to_headways/loadstoheadways/sim/Stranding"), (14, .interfaceMethodref 21 84), (0, .nameAndType 85 86), (0, u "size"), (0, u "()I"), (0, .methodref 67 88), (0, .nameAndType 89 90), (0, u "board"), (0, u "(Ljava/lang/String;D)V"), (0, .class_ 92), (0, u "java/util/ArrayList"), (0, .methodref 91 94), (0, .nameAndType 5 95), (0, u "(I)V"), (0, .methodref 67 97), (0, .nameAndType 5 98), (0, u "(Lcom/example/loads_to_headways/loadstoheadways/corridor/Station;D)V"), (0, .interfaceMethodref 21 100), (0, .nameAndType 101 102), (0, u "add"), (0, u "(Ljava/lang/Object;)Z"), (2, u "(ILcom/example/loads_to_headways/loadstoheadways/corridor/Station;Lcom/example/loads_to_headways/loadstoheadways/corridor/Station;D)V"), (2, u "hasBoarded"), (10, u "alight"), (0, u "(D)V"), (0, u "strand")] 2

def k13c0 : Code := { maxStack := 3, maxLocals := 6, code := prog_48_method_1_code, exceptionTable := #[], attributes := #[] }
def k13m0 : Method := { name := "<init>", desc := "(ILcom/example/loads_to_headways/loadstoheadways/corridor/Station;Lcom/example/loads_to_headways/loadstoheadways/corridor/Station;D)V", sig := { parameters := [.int, (.object "com/example/loads_to_headways/loadstoheadways/corridor/Station"), (.object "com/example/loads_to_headways/loadstoheadways/corridor/Station"), .double], returnType := none }, accessFlags := 0, code := some k13c0 }
def k13c1 : Code := { maxStack := 1, maxLocals := 1, code := prog_48_method_6_code, exceptionTable := #[], attributes := #[] }
def k13m1 : Method := { name := "hasBoarded", desc := "()Z", sig := { parameters := [], returnType := some .boolean }, accessFlags := 1, code := some k13c1 }
def k13c2 : Code := { maxStack := 4, maxLocals := 4, code := prog_48_method_17_code, exceptionTable := #[], attributes := #[] }
def k13m2 : Method := { name := "board", desc := "(Ljava/lang/String;D)V", sig := { parameters := [(.object "java/lang/String"), .double], returnType := none }, accessFlags := 0, code := some k13c2 }
def k13c3 : Code := { maxStack := 3, maxLocals := 3, code := prog_48_method_18_code, exceptionTable := #[], attributes := #[] }
def k13m3 : Method := { name := "alight", desc := "(D)V", sig := { parameters := [.double], returnType := none }, accessFlags := 0, code := some k13c3 }
def k13c4 : Code := { maxStack := 6, maxLocals := 4, code := prog_48_method_19_code, exceptionTable := #[], attributes := #[] }
def k13m4 : Method := { name := "strand", desc := "(Lcom/example/loads_to_headways/loadstoheadways/corridor/Station;D)V", sig := { parameters := [(.object "com/example/loads_to_headways/loadstoheadways/corridor/Station"), .double], returnType := none }, accessFlags := 0, code := some k13c4 }
/-- com/example/loads_to_headways/loadstoheadways/sim/Passenger -/
def k13 : Class := { plain "com/example/loads_to_headways/loadstoheadways/sim/Passenger" (some 0) with
  accessFlags := 49
  interfaces := #[]
  cf := some (fileOf pool13 12 #[] #[{ accessFlags := 0, nameIndex := 5, descriptorIndex := 105, attributes := #[] }, { accessFlags := 1, nameIndex := 108, descriptorIndex := 59, attributes := #[] }, { accessFlags := 0, nameIndex := 89, descriptorIndex := 90, attributes := #[] }, { accessFlags := 0, nameIndex := 119, descriptorIndex := 120, attributes := #[] }, { accessFlags := 0, nameIndex := 121, descriptorIndex := 98, attributes := #[] }] 49 2 #[] #[{ accessFlags := 18, nameIndex := 32, descriptorIndex := 33, attributes := #[] }, { accessFlags := 18, nameIndex := 36, descriptorIndex := 37, attributes := #[] }, { accessFlags := 18, nameIndex := 40, descriptorIndex := 37, attributes := #[] }, { accessFlags := 18, nameIndex := 43, descriptorIndex := 16, attributes := #[] }, { accessFlags := 2, nameIndex := 46, descriptorIndex := 47, attributes := #[] }, { accessFlags := 2, nameIndex := 15, descriptorIndex := 16, attributes := #[] }, { accessFlags := 2, nameIndex := 19, descriptorIndex := 16, attributes := #[] }, { accessFlags := 2, nameIndex := 54, descriptorIndex := 55, attributes := #[] }, { accessFlags := 2, nameIndex := 28, descriptorIndex := 29, attributes := #[] }])
  fields := #[{ name := "id", type := .int, accessFlags := 18, slot := 0, constantValue := 0 }, { name := "origin", type := (.object "com/example/loads_to_headways/loadstoheadways/corridor/Station"), accessFlags := 18, slot := 1, constantValue := 0 }, { name := "destination", type := (.object "com/example/loads_to_headways/loadstoheadways/corridor/Station"), accessFlags := 18, slot := 2, constantValue := 0 }, { name := "arrivalSeconds", type := .double, accessFlags := 18, slot := 3, constantValue := 0 }, { name := "vehicleId", type := (.object "java/lang/String"), accessFlags := 2, slot := 4, constantValue := 0 }, { name := "boardingSeconds", type := .double, accessFlags := 2, slot := 5, constantValue := 0 }, { name := "alightingSeconds", type := .double, accessFlags := 2, slot := 6, constantValue := 0 }, { name := "onBoard", type := .boolean, accessFlags := 2, slot := 7, constantValue := 0 }, { name := "strandings", type := (.object "java/util/List"), accessFlags := 2, slot := 8, constantValue := 0 }]
  methods := #[k13m0, k13m1, k13m2, k13m3, k13m4]
  instanceTypes := #[.int, (.object "com/example/loads_to_headways/loadstoheadways/corridor/Station"), (.object "com/example/loads_to_headways/loadstoheadways/corridor/Station"), .double, (.object "java/lang/String"), .double, .double, .boolean, (.object "java/util/List")]
  staticTypes := #[]
  resolved := Array.replicate 124 none
  statics := none }

def pool14 : Array CpInfo := pool [(8, .class_ 10), (1, u "java/lang/Iterable"), (24, .class_ 36), (0, u "java/lang/Object")] 25

/-- java/lang/Iterable -/
def k14 : Class := { plain "java/lang/Iterable" (some 0) with
  accessFlags := 1537
  interfaces := #[]
  cf := some (fileOf pool14 8 #[] #[] 1537 35 #[] #[])
  fields := #[]
  methods := #[]
  instanceTypes := #[]
  staticTypes := #[]
  resolved := Array.replicate 62 none
  statics := none }

def pool15 : Array CpInfo := pool [(10, .class_ 12), (1, u "java/util/Collection"), (47, .class_ 61), (0, u "java/lang/Object"), (0, .class_ 63), (0, u "java/lang/Iterable")] 51

/-- java/util/Collection -/
def k15 : Class := { plain "java/util/Collection" (some 0) with
  accessFlags := 1537
  interfaces := #[14]
  cf := some (fileOf pool15 10 #[] #[] 1537 60 #[62] #[])
  fields := #[]
  methods := #[]
  instanceTypes := #[]
  staticTypes := #[]
  resolved := Array.replicate 115 none
  statics := none }

def pool16 : Array CpInfo := pool [(8, .class_ 10), (1, u "java/util/SequencedCollection"), (15, .class_ 27), (0, u "java/lang/Object"), (0, .class_ 29), (0, u "java/util/Collection")] 27

/-- java/util/SequencedCollection -/
def k16 : Class := { plain "java/util/SequencedCollection" (some 0) with
  accessFlags := 1537
  interfaces := #[15]
  cf := some (fileOf pool16 8 #[] #[] 1537 26 #[28] #[])
  fields := #[]
  methods := #[]
  instanceTypes := #[]
  staticTypes := #[]
  resolved := Array.replicate 57 none
  statics := none }

def pool17 : Array CpInfo := pool [(8, .class_ 10), (1, u "java/util/List"), (7, u "()Z"), (41, u "add"), (3, u "(Ljava/lang/Object;)Z"), (2, u "isEmpty"), (7, u "get"), (0, u "(I)Ljava/lang/Object;"), (2, u "size"), (0, u "()I"), (7, u "of"), (1, .fieldref 91 92), (0, .class_ 93), (0, .nameAndType 94 95), (0, u "java/util/ImmutableCollections"), (0, u "EMPTY_LIST"), (0, u "Ljava/util/ImmutableCollections$ListN;"), (7, .class_ 104), (0, u "java/lang/Object"), (14, u "()Ljava/util/List;"), (0, .class_ 121), (0, u "java/util/SequencedCollection")] 129

def k17m0 : Method := { name := "size", desc := "()I", sig := { parameters := [], returnType := some .int }, accessFlags := 1025, code := none }
def k17m1 : Method := { name := "isEmpty", desc := "()Z", sig := { parameters := [], returnType := some .boolean }, accessFlags := 1025, code := none }
def k17m2 : Method := { name := "add", desc := "(Ljava/lang/Object;)Z", sig := { parameters := [(.object "java/lang/Object")], returnType := some .boolean }, accessFlags := 1025, code := none }
def k17m3 : Method := { name := "get", desc := "(I)Ljava/lang/Object;", sig := { parameters := [.int], returnType := some (.object "java/lang/Object") }, accessFlags := 1025, code := none }
def k17c4 : Code := { maxStack := 1, maxLocals := 0, code := jdk_40_method_36_code, exceptionTable := #[], attributes := #[] }
def k17m4 : Method := { name := "of", desc := "()Ljava/util/List;", sig := { parameters := [], returnType := some (.object "java/util/List") }, accessFlags := 9, code := some k17c4 }
/-- java/util/List -/
def k17 : Class := { plain "java/util/List" (some 0) with
  accessFlags := 1537
  interfaces := #[16]
  cf := some (fileOf pool17 8 #[] #[{ accessFlags := 1025, nameIndex := 79, descriptorIndex := 80, attributes := #[] }, { accessFlags := 1025, nameIndex := 67, descriptorIndex := 18, attributes := #[] }, { accessFlags := 1025, nameIndex := 60, descriptorIndex := 64, attributes := #[] }, { accessFlags := 1025, nameIndex := 75, descriptorIndex := 76, attributes := #[] }, { accessFlags := 9, nameIndex := 88, descriptorIndex := 119, attributes := #[] }] 1537 103 #[120] #[])
  fields := #[]
  methods := #[k17m0, k17m1, k17m2, k17m3, k17m4]
  instanceTypes := #[]
  staticTypes := #[]
  resolved := Array.replicate 251 none
  statics := none }

def pool18 : Array CpInfo := pool [(2, .class_ 4), (1, u "java/lang/Object"), (0, u "<init>"), (0, u "()V"), (3, .class_ 11), (0, u "java/util/ImmutableCollections$List12"), (0, .class_ 13), (0, u "java/util/ImmutableCollections$ListN"), (3, u "Z"), (29, .class_ 49), (1, u "java/util/ImmutableCollections"), (0, u "$assertionsDisabled"), (5, u "[Ljava/lang/Object;"), (5, u "EMPTY_LIST"), (0, u "Ljava/util/ImmutableCollections$ListN;"), (8, u "EMPTY_LIST_NULLS"), (22, u "SALT32L"), (0, u "J"), (2, u "REVERSE"), (6, u "archivedObjects"), (2, u "EMPTY"), (0, u "Ljava/lang/Object;"), (0, .class_ 112), (0, u "java/util/ImmutableCollections$SetN"), (5, u "EMPTY_SET"), (0, u "Ljava/util/ImmutableCollections$SetN;"), (0, .class_ 121), (0, u "java/util/ImmutableCollections$MapN"), (3, u "EMPTY_MAP"), (0, u "Ljava/util/ImmutableCollections$MapN;"), (4, u "EXPAND_FACTOR"), (0, u "I"), (36, .class_ 170), (0, u "java/util/ImmutableCollections$MapN$MapNIterator"), (0, .class_ 172), (0, u "java/util/ImmutableCollections$MapN$1"), (0, .class_ 174), (0, u "java/util/ImmutableCollections$Map1"), (0, .class_ 176), (0, u "java/util/ImmutableCollections$AbstractImmutableMap"), (0, .class_ 178), (0, u "java/util/ImmutableCollections$SetN$SetNIterator"), (0, .class_ 180), (0, u "java/util/ImmutableCollections$Set12"), (0, .class_ 182), (0, u "java/util/ImmutableCollections$Set12$1"), (0, .class_ 184), (0, u "java/util/ImmutableCollections$AbstractImmutableSet"), (0, .class_ 186), (0, u "java/util/ImmutableCollections$SubList"), (0, .class_ 188), (0, u "java/util/ImmutableCollections$ListItr"), (0, .class_ 190), (0, u "java/util/ImmutableCollections$AbstractImmutableList"), (0, .class_ 192), (0, u "java/util/ImmutableCollections$AbstractImmutableCollection"), (0, .class_ 194), (0, u "java/util/ImmutableCollections$Access"), (0, .class_ 196), (0, u "java/util/ImmutableCollections$Access$1")] 16

def k18m0 : Method := { name := "<init>", desc := "()V", sig := { parameters := [], returnType := none }, accessFlags := 2, code := none }
/-- java/util/ImmutableCollections -/
def k18 : Class := { plain "java/util/ImmutableCollections" (some 0) with
  accessFlags := 32
  interfaces := #[]
  cf := some (fileOf pool18 47 #[.nestMembers #[120, 169, 171, 173, 175, 111, 177, 179, 181, 183, 12, 10, 185, 187, 189, 191, 193, 195]] #[{ accessFlags := 2, nameIndex := 5, descriptorIndex := 6, attributes := #[] }] 32 2 #[] #[{ accessFlags := 26, nameIndex := 95, descriptorIndex := 96, attributes := #[] }, { accessFlags := 26, nameIndex := 99, descriptorIndex := 17, attributes := #[] }, { accessFlags := 10, nameIndex := 106, descriptorIndex := 56, attributes := #[] }, { accessFlags := 26, nameIndex := 109, descriptorIndex := 110, attributes := #[] }, { accessFlags := 24, nameIndex := 62, descriptorIndex := 63, attributes := #[] }, { accessFlags := 24, nameIndex := 72, descriptorIndex := 63, attributes := #[] }, { accessFlags := 24, nameIndex := 118, descriptorIndex := 119, attributes := #[] }, { accessFlags := 24, nameIndex := 125, descriptorIndex := 126, attributes := #[] }, { accessFlags := 24, nameIndex := 131, descriptorIndex := 132, attributes := #[] }, { accessFlags := 4120, nameIndex := 50, descriptorIndex := 17, attributes := #[] }])
  fields := #[{ name := "SALT32L", type := .long, accessFlags := 26, slot := 0, constantValue := 0 }, { name := "REVERSE", type := .boolean, accessFlags := 26, slot := 1, constantValue := 0 }, { name := "archivedObjects", type := (.array (.object "java/lang/Object")), accessFlags := 10, slot := 2, constantValue := 0 }, { name := "EMPTY", type := (.object "java/lang/Object"), accessFlags := 26, slot := 3, constantValue := 0 }, { name := "EMPTY_LIST", type := (.object "java/util/ImmutableCollections$ListN"), accessFlags := 24, slot := 4, constantValue := 0 }, { name := "EMPTY_LIST_NULLS", type := (.object "java/util/ImmutableCollections$ListN"), accessFlags := 24, slot := 5, constantValue := 0 }, { name := "EMPTY_SET", type := (.object "java/util/ImmutableCollections$SetN"), accessFlags := 24, slot := 6, constantValue := 0 }, { name := "EMPTY_MAP", type := (.object "java/util/ImmutableCollections$MapN"), accessFlags := 24, slot := 7, constantValue := 0 }, { name := "EXPAND_FACTOR", type := .int, accessFlags := 24, slot := 8, constantValue := 0 }, { name := "$assertionsDisabled", type := .boolean, accessFlags := 4120, slot := 9, constantValue := 0 }]
  methods := #[k18m0]
  instanceTypes := #[]
  staticTypes := #[.long, .boolean, (.array (.object "java/lang/Object")), (.object "java/lang/Object"), (.object "java/util/ImmutableCollections$ListN"), (.object "java/util/ImmutableCollections$ListN"), (.object "java/util/ImmutableCollections$SetN"), (.object "java/util/ImmutableCollections$MapN"), .int, .boolean]
  resolved := Array.replicate 213 none
  statics := some 1 }

def pool19 : Array CpInfo := pool [(4, .class_ 6), (1, u "java/lang/Object"), (0, u "<init>"), (0, u "()V"), (5, .class_ 16), (1, u "java/lang/StringLatin1"), (73, u "canEncode"), (14, u "(C)Z"), (15, u "$assertionsDisabled"), (0, u "Z"), (98, .class_ 223), (1, u "java/lang/StringLatin1$LinesSpliterator"), (156, u "toBytes"), (1, u "(C)[B"), (7, .class_ 391), (0, u "java/lang/StringLatin1$CharsSpliterator")] 3

def k19m0 : Method := { name := "<init>", desc := "()V", sig := { parameters := [], returnType := none }, accessFlags := 0, code := none }
def k19c1 : Code := { maxStack := 2, maxLocals := 1, code := jdk_43_method_3_code, exceptionTable := #[], attributes := #[] }
def k19m1 : Method := { name := "canEncode", desc := "(C)Z", sig := { parameters := [.char], returnType := some .boolean }, accessFlags := 9, code := some k19c1 }
def k19c2 : Code := { maxStack := 4, maxLocals := 1, code := jdk_43_method_46_code, exceptionTable := #[], attributes := #[] }
def k19m2 : Method := { name := "toBytes", desc := "(C)[B", sig := { parameters := [.char], returnType := some (.array .byte) }, accessFlags := 9, code := some k19c2 }
/-- java/lang/StringLatin1 -/
def k19 : Class := { plain "java/lang/StringLatin1" (some 0) with
  accessFlags := 48
  interfaces := #[]
  cf := some (fileOf pool19 14 #[.nestMembers #[390, 221]] #[{ accessFlags := 0, nameIndex := 7, descriptorIndex := 8, attributes := #[] }, { accessFlags := 9, nameIndex := 90, descriptorIndex := 105, attributes := #[] }, { accessFlags := 9, nameIndex := 380, descriptorIndex := 382, attributes := #[] }] 48 4 #[] #[{ accessFlags := 4120, nameIndex := 121, descriptorIndex := 122, attributes := #[] }])
  fields := #[{ name := "$assertionsDisabled", type := .boolean, accessFlags := 4120, slot := 0, constantValue := 0 }]
  methods := #[k19m0, k19m1, k19m2]
  instanceTypes := #[]
  staticTypes := #[.boolean]
  resolved := Array.replicate 395 none
  statics := none }

def pool20 : Array CpInfo := pool [(1, .methodref 2 3), (0, .class_ 4), (0, .nameAndType 5 6), (0, u "java/lang/Object"), (0, u "<init>"), (0, u "()V"), (1, .class_ 10), (1, u "java/util/AbstractCollection"), (66, .class_ 78), (0, u "java/util/Collection")] 81

def k20c0 : Code := { maxStack := 1, maxLocals := 1, code := jdk_22_method_1_code, exceptionTable := #[], attributes := #[] }
def k20m0 : Method := { name := "<init>", desc := "()V", sig := { parameters := [], returnType := none }, accessFlags := 4, code := some k20c0 }
/-- java/util/AbstractCollection -/
def k20 : Class := { plain "java/util/AbstractCollection" (some 0) with
  accessFlags := 1057
  interfaces := #[15]
  cf := some (fileOf pool20 8 #[] #[{ accessFlags := 4, nameIndex := 5, descriptorIndex := 6, attributes := #[] }] 1057 2 #[77] #[])
  fields := #[]
  methods := #[k20m0]
  instanceTypes := #[]
  staticTypes := #[]
  resolved := Array.replicate 160 none
  statics := none }

def pool21 : Array CpInfo := pool [(2, .class_ 4), (1, u "java/util/AbstractCollection"), (0, u "<init>"), (0, u "()V"), (1, .class_ 10), (1, u "java/util/ImmutableCollections"), (2, .class_ 14), (0, u "java/util/ImmutableCollections$AbstractImmutableCollection")] 41

def k21m0 : Method := { name := "<init>", desc := "()V", sig := { parameters := [], returnType := none }, accessFlags := 0, code := none }
/-- java/util/ImmutableCollections$AbstractImmutableCollection -/
def k21 : Class := { plain "java/util/ImmutableCollections$AbstractImmutableCollection" (some 20) with
  accessFlags := 1056
  interfaces := #[]
  cf := some (fileOf pool21 13 #[.nestHost 8] #[{ accessFlags := 0, nameIndex := 5, descriptorIndex := 6, attributes := #[] }] 1056 2 #[] #[])
  fields := #[]
  methods := #[k21m0]
  instanceTypes := #[]
  staticTypes := #[]
  resolved := Array.replicate 56 none
  statics := none }

def pool22 : Array CpInfo := pool [(1, .class_ 2), (0, u "java/util/RandomAccess"), (0, .class_ 4), (0, u "java/lang/Object")] 2

/-- java/util/RandomAccess -/
def k22 : Class := { plain "java/util/RandomAccess" (some 0) with
  accessFlags := 1537
  interfaces := #[]
  cf := some (fileOf pool22 1 #[] #[] 1537 3 #[] #[])
  fields := #[]
  methods := #[]
  instanceTypes := #[]
  staticTypes := #[]
  resolved := Array.replicate 7 none
  statics := none }

def pool23 : Array CpInfo := pool [(2, .class_ 4), (1, u "java/util/ImmutableCollections$AbstractImmutableCollection"), (0, u "<init>"), (0, u "()V"), (1, .class_ 10), (1, u "java/util/ImmutableCollections"), (3, .class_ 16), (1, u "java/util/ImmutableCollections$AbstractImmutableList"), (60, .class_ 78), (0, u "java/util/List"), (45, .class_ 125), (0, u "java/util/RandomAccess")] 70

def k23m0 : Method := { name := "<init>", desc := "()V", sig := { parameters := [], returnType := none }, accessFlags := 0, code := none }
/-- java/util/ImmutableCollections$AbstractImmutableList -/
def k23 : Class := { plain "java/util/ImmutableCollections$AbstractImmutableList" (some 21) with
  accessFlags := 1056
  interfaces := #[17, 22]
  cf := some (fileOf pool23 14 #[.nestHost 8] #[{ accessFlags := 0, nameIndex := 5, descriptorIndex := 6, attributes := #[] }] 1056 2 #[77, 124] #[])
  fields := #[]
  methods := #[k23m0]
  instanceTypes := #[]
  staticTypes := #[]
  resolved := Array.replicate 196 none
  statics := none }

def pool24 : Array CpInfo := pool [(2, .class_ 4), (1, u "java/util/ImmutableCollections$AbstractImmutableList"), (2, .fieldref 8 9), (0, .class_ 10), (0, .nameAndType 11 12), (0, u "java/util/ImmutableCollections$ListN"), (0, u "elements"), (0, u "[Ljava/lang/Object;"), (2, u "allowNulls"), (0, u "Z"), (42, .class_ 60), (0, u "java/io/Serializable"), (13, u "isEmpty"), (0, u "()Z"), (38, .class_ 115), (0, u "java/util/ImmutableCollections")] 3

def k24c0 : Code := { maxStack := 1, maxLocals := 1, code := jdk_45_method_2_code, exceptionTable := #[], attributes := #[] }
def k24m0 : Method := { name := "isEmpty", desc := "()Z", sig := { parameters := [], returnType := some .boolean }, accessFlags := 1, code := some k24c0 }
/-- java/util/ImmutableCollections$ListN -/
def k24 : Class := { plain "java/util/ImmutableCollections$ListN" (some 23) with
  accessFlags := 48
  interfaces := #[3]
  cf := some (fileOf pool24 8 #[.nestHost 114] #[{ accessFlags := 1, nameIndex := 74, descriptorIndex := 75, attributes := #[] }] 48 2 #[59] #[{ accessFlags := 18, nameIndex := 11, descriptorIndex := 12, attributes := #[] }, { accessFlags := 18, nameIndex := 15, descriptorIndex := 16, attributes := #[] }])
  fields := #[{ name := "elements", type := (.array (.object "java/lang/Object")), accessFlags := 18, slot := 0, constantValue := 0 }, { name := "allowNulls", type := .boolean, accessFlags := 18, slot := 1, constantValue := 0 }]
  methods := #[k24m0]
  instanceTypes := #[(.array (.object "java/lang/Object")), .boolean]
  staticTypes := #[]
  resolved := Array.replicate 119 none
  statics := none }

def pool25 : Array CpInfo := pool [(1, .methodref 2 3), (0, .class_ 4), (0, .nameAndType 5 6), (0, u "java/util/AbstractCollection"), (0, u "<init>"), (0, u "()V"), (0, .fieldref 8 9), (0, .class_ 10), (0, .nameAndType 11 12), (0, u "java/util/AbstractList"), (0, u "modCount"), (0, u "I"), (64, .class_ 78), (0, u "java/util/AbstractList$Itr"), (3, .class_ 83), (0, u "java/util/AbstractList$ListItr"), (9, .class_ 94), (0, u "java/util/AbstractList$RandomAccessSubList"), (3, .class_ 99), (0, u "java/util/AbstractList$SubList"), (33, .class_ 134), (0, u "java/util/List"), (73, .class_ 209), (0, u "java/util/AbstractList$SubList$1"), (0, .class_ 211), (0, u "java/util/AbstractList$RandomAccessSpliterator")] 6

def k25c0 : Code := { maxStack := 2, maxLocals := 1, code := jdk_39_method_1_code, exceptionTable := #[], attributes := #[] }
def k25m0 : Method := { name := "<init>", desc := "()V", sig := { parameters := [], returnType := none }, accessFlags := 4, code := some k25c0 }
/-- java/util/AbstractList -/
def k25 : Class := { plain "java/util/AbstractList" (some 20) with
  accessFlags := 1057
  interfaces := #[17]
  cf := some (fileOf pool25 8 #[.nestMembers #[93, 98, 208, 210, 82, 77]] #[{ accessFlags := 4, nameIndex := 5, descriptorIndex := 6, attributes := #[] }] 1057 2 #[133] #[{ accessFlags := 132, nameIndex := 11, descriptorIndex := 12, attributes := #[] }])
  fields := #[{ name := "modCount", type := .int, accessFlags := 132, slot := 0, constantValue := 0 }]
  methods := #[k25m0]
  instanceTypes := #[.int]
  staticTypes := #[]
  resolved := Array.replicate 218 none
  statics := none }

def pool26 : Array CpInfo := pool [(1, .class_ 2), (0, u "java/lang/Cloneable"), (0, .class_ 4), (0, u "java/lang/Object")] 2

/-- java/lang/Cloneable -/
def k26 : Class := { plain "java/lang/Cloneable" (some 0) with
  accessFlags := 1537
  interfaces := #[]
  cf := some (fileOf pool26 1 #[] #[] 1537 3 #[] #[])
  fields := #[]
  methods := #[]
  instanceTypes := #[]
  staticTypes := #[]
  resolved := Array.replicate 7 none
  statics := none }

def pool27 : Array CpInfo := pool [(1, .methodref 2 3), (0, .class_ 4), (0, .nameAndType 5 6), (0, u "java/util/AbstractList"), (0, u "<init>"), (0, u "()V"), (0, .class_ 8), (0, u "java/lang/Object"), (0, .fieldref 10 11), (0, .class_ 12), (0, .nameAndType 13 14), (0, u "java/util/ArrayList"), (0, u "elementData"), (0, u "[Ljava/lang/Object;"), (2, u "EMPTY_ELEMENTDATA"), (23, u "DEFAULTCAPACITY_EMPTY_ELEMENTDATA"), (5, u "()[Ljava/lang/Object;"), (0, .fieldref 10 49), (0, .nameAndType 50 51), (0, u "size"), (0, u "I"), (6, .class_ 60), (1, u "java/util/Arrays"), (0, u "copyOf"), (1, .fieldref 10 64), (0, .nameAndType 65 51), (0, u "modCount"), (0, .methodref 58 67), (0, .nameAndType 61 68), (0, u "([Ljava/lang/Object;I)[Ljava/lang/Object;"), (0, .methodref 10 70), (0, .nameAndType 71 72), (0, u "grow"), (0, u "(I)[Ljava/lang/Object;"), (0, .methodref 74 75), (0, .class_ 76), (0, .nameAndType 77 78), (0, u "jdk/internal/util/ArraysSupport"), (0, u "newLength"), (0, u "(III)I"), (5, u "(II)I"), (11, u "(Ljava/lang/Object;)Z"), (21, .methodref 119 120), (0, .class_ 121), (0, .nameAndType 122 84), (0, u "java/util/Objects"), (0, u "checkIndex"), (0, .methodref 10 124), (0, .nameAndType 13 125), (0, u "(I)Ljava/lang/Object;"), (3, .methodref 10 130), (0, .nameAndType 71 47), (0, .methodref 10 132), (0, .nameAndType 133 134), (0, u "add"), (0, u "(Ljava/lang/Object;[Ljava/lang/Object;I)V"), (3, u "(I)V"), (9, .class_ 149), (0, u "java/util/List"), (23, u "()Z"), (12, u "()I"), (75, .class_ 263), (0, u "java/util/ArrayList$ListItr"), (3, .class_ 268), (0, u "java/util/ArrayList$Itr"), (7, .class_ 277), (0, u "java/util/ArrayList$SubList"), (12, .class_ 291), (0, u "java/util/ArrayList$ArrayListSpliterator"), (37, .class_ 330), (0, u "java/util/RandomAccess"), (0, .class_ 332), (0, u "java/lang/Cloneable"), (0, .class_ 334), (0, u "java/io/Serializable"), (0, u "serialVersionUID"), (0, u "J"), (3, u "DEFAULT_CAPACITY"), (22, u "isEmpty"), (17, u "get"), (118, .class_ 501), (0, u "java/util/ArrayList$SubList$2"), (0, .class_ 503), (0, u "java/util/ArrayList$SubList$1")] 5

def k27c0 : Code := { maxStack := 4, maxLocals := 2, code := jdk_38_method_1_code, exceptionTable := #[], attributes := #[] }
def k27m0 : Method := { name := "<init>", desc := "(I)V", sig := { parameters := [.int], returnType := none }, accessFlags := 1, code := some k27c0 }
def k27m1 : Method := { name := "<init>", desc := "()V", sig := { parameters := [], returnType := none }, accessFlags := 1, code := none }
def k27c2 : Code := { maxStack := 4, maxLocals := 4, code := jdk_38_method_6_code, exceptionTable := #[], attributes := #[] }
def k27m2 : Method := { name := "grow", desc := "(I)[Ljava/lang/Object;", sig := { parameters := [.int], returnType := some (.array (.object "java/lang/Object")) }, accessFlags := 2, code := some k27c2 }
def k27c3 : Code := { maxStack := 3, maxLocals := 1, code := jdk_38_method_7_code, exceptionTable := #[], attributes := #[] }
def k27m3 : Method := { name := "grow", desc := "()[Ljava/lang/Object;", sig := { parameters := [], returnType := some (.array (.object "java/lang/Object")) }, accessFlags := 2, code := some k27c3 }
def k27c4 : Code := { maxStack := 1, maxLocals := 1, code := jdk_38_method_8_code, exceptionTable := #[], attributes := #[] }
def k27m4 : Method := { name := "size", desc := "()I", sig := { parameters := [], returnType := some .int }, accessFlags := 1, code := some k27c4 }
def k27c5 : Code := { maxStack := 1, maxLocals := 1, code := jdk_38_method_9_code, exceptionTable := #[], attributes := #[] }
def k27m5 : Method := { name := "isEmpty", desc := "()Z", sig := { parameters := [], returnType := some .boolean }, accessFlags := 1, code := some k27c5 }
def k27c6 : Code := { maxStack := 2, maxLocals := 2, code := jdk_38_method_18_code, exceptionTable := #[], attributes := #[] }
def k27m6 : Method := { name := "elementData", desc := "(I)Ljava/lang/Object;", sig := { parameters := [.int], returnType := some (.object "java/lang/Object") }, accessFlags := 0, code := some k27c6 }
def k27c7 : Code := { maxStack := 2, maxLocals := 2, code := jdk_38_method_20_code, exceptionTable := #[], attributes := #[] }
def k27m7 : Method := { name := "get", desc := "(I)Ljava/lang/Object;", sig := { parameters := [.int], returnType := some (.object "java/lang/Object") }, accessFlags := 1, code := some k27c7 }
def k27c8 : Code := { maxStack := 3, maxLocals := 4, code := jdk_38_method_24_code, exceptionTable := #[], attributes := #[] }
def k27m8 : Method := { name := "add", desc := "(Ljava/lang/Object;[Ljava/lang/Object;I)V", sig := { parameters := [(.object "java/lang/Object"), (.array (.object "java/lang/Object")), .int], returnType := none }, accessFlags := 2, code := some k27c8 }
def k27c9 : Code := { maxStack := 4, maxLocals := 2, code := jdk_38_method_25_code, exceptionTable := #[], attributes := #[] }
def k27m9 : Method := { name := "add", desc := "(Ljava/lang/Object;)Z", sig := { parameters := [(.object "java/lang/Object")], returnType := some .boolean }, accessFlags := 1, code := some k27c9 }
/-- java/util/ArrayList -/
def k27 : Class := { plain "java/util/ArrayList" (some 25) with
  accessFlags := 33
  interfaces := #[17, 22, 26, 3]
  cf := some (fileOf pool27 10 #[.nestMembers #[290, 276, 500, 502, 262, 267]] #[{ accessFlags := 1, nameIndex := 5, descriptorIndex := 138, attributes := #[] }, { accessFlags := 1, nameIndex := 5, descriptorIndex := 6, attributes := #[] }, { accessFlags := 2, nameIndex := 71, descriptorIndex := 72, attributes := #[] }, { accessFlags := 2, nameIndex := 71, descriptorIndex := 47, attributes := #[] }, { accessFlags := 1, nameIndex := 50, descriptorIndex := 186, attributes := #[] }, { accessFlags := 1, nameIndex := 363, descriptorIndex := 173, attributes := #[] }, { accessFlags := 0, nameIndex := 13, descriptorIndex := 125, attributes := #[] }, { accessFlags := 1, nameIndex := 381, descriptorIndex := 125, attributes := #[] }, { accessFlags := 2, nameIndex := 133, descriptorIndex := 134, attributes := #[] }, { accessFlags := 1, nameIndex := 133, descriptorIndex := 96, attributes := #[] }] 33 2 #[148, 329, 331, 333] #[{ accessFlags := 26, nameIndex := 335, descriptorIndex := 336, attributes := #[] }, { accessFlags := 26, nameIndex := 340, descriptorIndex := 51, attributes := #[] }, { accessFlags := 26, nameIndex := 17, descriptorIndex := 14, attributes := #[] }, { accessFlags := 26, nameIndex := 41, descriptorIndex := 14, attributes := #[] }, { accessFlags := 128, nameIndex := 13, descriptorIndex := 14, attributes := #[] }, { accessFlags := 2, nameIndex := 50, descriptorIndex := 51, attributes := #[] }])
  fields := #[{ name := "serialVersionUID", type := .long, accessFlags := 26, slot := 0, constantValue := 0 }, { name := "DEFAULT_CAPACITY", type := .int, accessFlags := 26, slot := 1, constantValue := 0 }, { name := "EMPTY_ELEMENTDATA", type := (.array (.object "java/lang/Object")), accessFlags := 26, slot := 2, constantValue := 0 }, { name := "DEFAULTCAPACITY_EMPTY_ELEMENTDATA", type := (.array (.object "java/lang/Object")), accessFlags := 26, slot := 3, constantValue := 0 }, { name := "elementData", type := (.array (.object "java/lang/Object")), accessFlags := 128, slot := 1, constantValue := 0 }, { name := "size", type := .int, accessFlags := 2, slot := 2, constantValue := 0 }]
  methods := #[k27m0, k27m1, k27m2, k27m3, k27m4, k27m5, k27m6, k27m7, k27m8, k27m9]
  instanceTypes := #[.int, (.array (.object "java/lang/Object")), .int]
  staticTypes := #[.long, .int, (.array (.object "java/lang/Object")), (.array (.object "java/lang/Object"))]
  resolved := Array.replicate 509 none
  statics := none }

def pool28 : Array CpInfo := pool [(1, .methodref 2 3), (0, .class_ 4), (0, .nameAndType 5 6), (0, u "java/lang/Object"), (0, u "<init>"), (0, u "()V"), (2, .double 9221120237041090560), (1, .fieldref 12 13), (0, .class_ 14), (0, .nameAndType 15 16), (0, u "com/example/loads_to_headways/loadstoheadways/sim/Stranding"), (0, u "boardingSeconds"), (0, u "D"), (0, .fieldref 12 18), (0, .nameAndType 19 20), (0, u "station"), (0, u "Lcom/example/loads_to_headways/loadstoheadways/corridor/Station;"), (0, .fieldref 12 22), (0, .nameAndType 23 16), (0, u "seconds"), (0, .fieldref 12 25), (0, .nameAndType 26 27), (0, u "vehicleId"), (0, u "Ljava/lang/String;"), (0, u "(Lcom/example/loads_to_headways/loadstoheadways/corridor/Station;D)V"), (5, u "board"), (0, u "(Ljava/lang/String;D)V")] 2

def k28c0 : Code := { maxStack := 3, maxLocals := 4, code := prog_60_method_1_code, exceptionTable := #[], attributes := #[] }
def k28m0 : Method := { name := "<init>", desc := "(Lcom/example/loads_to_headways/loadstoheadways/corridor/Station;D)V", sig := { parameters := [(.object "com/example/loads_to_headways/loadstoheadways/corridor/Station"), .double], returnType := none }, accessFlags := 0, code := some k28c0 }
def k28c1 : Code := { maxStack := 3, maxLocals := 4, code := prog_60_method_6_code, exceptionTable := #[], attributes := #[] }
def k28m1 : Method := { name := "board", desc := "(Ljava/lang/String;D)V", sig := { parameters := [(.object "java/lang/String"), .double], returnType := none }, accessFlags := 0, code := some k28c1 }
/-- com/example/loads_to_headways/loadstoheadways/sim/Stranding -/
def k28 : Class := { plain "com/example/loads_to_headways/loadstoheadways/sim/Stranding" (some 0) with
  accessFlags := 49
  interfaces := #[]
  cf := some (fileOf pool28 12 #[] #[{ accessFlags := 0, nameIndex := 5, descriptorIndex := 28, attributes := #[] }, { accessFlags := 0, nameIndex := 34, descriptorIndex := 35, attributes := #[] }] 49 2 #[] #[{ accessFlags := 18, nameIndex := 19, descriptorIndex := 20, attributes := #[] }, { accessFlags := 18, nameIndex := 23, descriptorIndex := 16, attributes := #[] }, { accessFlags := 2, nameIndex := 26, descriptorIndex := 27, attributes := #[] }, { accessFlags := 2, nameIndex := 15, descriptorIndex := 16, attributes := #[] }])
  fields := #[{ name := "station", type := (.object "com/example/loads_to_headways/loadstoheadways/corridor/Station"), accessFlags := 18, slot := 0, constantValue := 0 }, { name := "seconds", type := .double, accessFlags := 18, slot := 1, constantValue := 0 }, { name := "vehicleId", type := (.object "java/lang/String"), accessFlags := 2, slot := 2, constantValue := 0 }, { name := "boardingSeconds", type := .double, accessFlags := 2, slot := 3, constantValue := 0 }]
  methods := #[k28m0, k28m1]
  instanceTypes := #[(.object "com/example/loads_to_headways/loadstoheadways/corridor/Station"), .double, (.object "java/lang/String"), .double]
  staticTypes := #[]
  resolved := Array.replicate 38 none
  statics := none }

def pool29 : Array CpInfo := pool [(9, u "<init>"), (6, .class_ 18), (1, u "java/lang/Object"), (0, u "()V"), (1, .class_ 23), (1, u "jdk/internal/util/ArraysSupport"), (0, u "LOG2_ARRAY_LONG_INDEX_SCALE"), (0, u "I"), (2, u "U"), (0, u "Ljdk/internal/misc/Unsafe;"), (8, u "BIG_ENDIAN"), (0, u "Z"), (8, u "LOG2_BYTE_BIT_SIZE"), (4, u "LOG2_ARRAY_INT_INDEX_SCALE"), (54, u "JLA"), (0, u "Ljdk/internal/access/JavaLangAccess;"), (11, u "LOG2_ARRAY_BOOLEAN_INDEX_SCALE"), (9, u "LOG2_ARRAY_BYTE_INDEX_SCALE"), (5, u "LOG2_ARRAY_CHAR_INDEX_SCALE"), (5, u "LOG2_ARRAY_SHORT_INDEX_SCALE"), (18, u "LOG2_ARRAY_FLOAT_INDEX_SCALE"), (24, u "LOG2_ARRAY_DOUBLE_INDEX_SCALE"), (6, .methodref 195 196), (0, .class_ 197), (0, .nameAndType 198 199), (0, u "java/lang/Math"), (0, u "max"), (0, u "(II)I"), (0, .integer 2147483639), (76, u "T_BOOLEAN"), (2, u "T_CHAR"), (1, u "T_FLOAT"), (1, u "T_DOUBLE"), (1, u "T_BYTE"), (1, u "T_SHORT"), (1, u "T_INT"), (1, u "T_LONG"), (1, u "SOFT_MAX_ARRAY_LENGTH"), (56, u "newLength"), (0, u "(III)I")] 25

def k29m0 : Method := { name := "<init>", desc := "()V", sig := { parameters := [], returnType := none }, accessFlags := 2, code := none }
def k29c1 : Code := { maxStack := 3, maxLocals := 4, code := jdk_48_method_27_code, exceptionTable := #[], attributes := #[] }
def k29m1 : Method := { name := "newLength", desc := "(III)I", sig := { parameters := [.int, .int, .int], returnType := some .int }, accessFlags := 9, code := some k29c1 }
/-- jdk/internal/util/ArraysSupport -/
def k29 : Class := { plain "jdk/internal/util/ArraysSupport" (some 0) with
  accessFlags := 33
  interfaces := #[]
  cf := some (fileOf pool29 21 #[] #[{ accessFlags := 2, nameIndex := 9, descriptorIndex := 19, attributes := #[] }, { accessFlags := 9, nameIndex := 351, descriptorIndex := 352, attributes := #[] }] 33 16 #[] #[{ accessFlags := 24, nameIndex := 28, descriptorIndex := 29, attributes := #[] }, { accessFlags := 26, nameIndex := 38, descriptorIndex := 39, attributes := #[] }, { accessFlags := 25, nameIndex := 121, descriptorIndex := 25, attributes := #[] }, { accessFlags := 25, nameIndex := 131, descriptorIndex := 25, attributes := #[] }, { accessFlags := 25, nameIndex := 137, descriptorIndex := 25, attributes := #[] }, { accessFlags := 25, nameIndex := 143, descriptorIndex := 25, attributes := #[] }, { accessFlags := 25, nameIndex := 53, descriptorIndex := 25, attributes := #[] }, { accessFlags := 25, nameIndex := 24, descriptorIndex := 25, attributes := #[] }, { accessFlags := 25, nameIndex := 162, descriptorIndex := 25, attributes := #[] }, { accessFlags := 25, nameIndex := 187, descriptorIndex := 25, attributes := #[] }, { accessFlags := 26, nameIndex := 48, descriptorIndex := 25, attributes := #[] }, { accessFlags := 25, nameIndex := 277, descriptorIndex := 25, attributes := #[] }, { accessFlags := 25, nameIndex := 280, descriptorIndex := 25, attributes := #[] }, { accessFlags := 25, nameIndex := 282, descriptorIndex := 25, attributes := #[] }, { accessFlags := 25, nameIndex := 284, descriptorIndex := 25, attributes := #[] }, { accessFlags := 25, nameIndex := 286, descriptorIndex := 25, attributes := #[] }, { accessFlags := 25, nameIndex := 288, descriptorIndex := 25, attributes := #[] }, { accessFlags := 25, nameIndex := 290, descriptorIndex := 25, attributes := #[] }, { accessFlags := 25, nameIndex := 292, descriptorIndex := 25, attributes := #[] }, { accessFlags := 26, nameIndex := 108, descriptorIndex := 109, attributes := #[] }, { accessFlags := 25, nameIndex := 294, descriptorIndex := 25, attributes := #[] }])
  fields := #[{ name := "U", type := (.object "jdk/internal/misc/Unsafe"), accessFlags := 24, slot := 0, constantValue := 0 }, { name := "BIG_ENDIAN", type := .boolean, accessFlags := 26, slot := 1, constantValue := 0 }, { name := "LOG2_ARRAY_BOOLEAN_INDEX_SCALE", type := .int, accessFlags := 25, slot := 2, constantValue := 0 }, { name := "LOG2_ARRAY_BYTE_INDEX_SCALE", type := .int, accessFlags := 25, slot := 3, constantValue := 0 }, { name := "LOG2_ARRAY_CHAR_INDEX_SCALE", type := .int, accessFlags := 25, slot := 4, constantValue := 0 }, { name := "LOG2_ARRAY_SHORT_INDEX_SCALE", type := .int, accessFlags := 25, slot := 5, constantValue := 0 }, { name := "LOG2_ARRAY_INT_INDEX_SCALE", type := .int, accessFlags := 25, slot := 6, constantValue := 0 }, { name := "LOG2_ARRAY_LONG_INDEX_SCALE", type := .int, accessFlags := 25, slot := 7, constantValue := 0 }, { name := "LOG2_ARRAY_FLOAT_INDEX_SCALE", type := .int, accessFlags := 25, slot := 8, constantValue := 0 }, { name := "LOG2_ARRAY_DOUBLE_INDEX_SCALE", type := .int, accessFlags := 25, slot := 9, constantValue := 0 }, { name := "LOG2_BYTE_BIT_SIZE", type := .int, accessFlags := 26, slot := 10, constantValue := 0 }, { name := "T_BOOLEAN", type := .int, accessFlags := 25, slot := 11, constantValue := 0 }, { name := "T_CHAR", type := .int, accessFlags := 25, slot := 12, constantValue := 0 }, { name := "T_FLOAT", type := .int, accessFlags := 25, slot := 13, constantValue := 0 }, { name := "T_DOUBLE", type := .int, accessFlags := 25, slot := 14, constantValue := 0 }, { name := "T_BYTE", type := .int, accessFlags := 25, slot := 15, constantValue := 0 }, { name := "T_SHORT", type := .int, accessFlags := 25, slot := 16, constantValue := 0 }, { name := "T_INT", type := .int, accessFlags := 25, slot := 17, constantValue := 0 }, { name := "T_LONG", type := .int, accessFlags := 25, slot := 18, constantValue := 0 }, { name := "JLA", type := (.object "jdk/internal/access/JavaLangAccess"), accessFlags := 26, slot := 19, constantValue := 0 }, { name := "SOFT_MAX_ARRAY_LENGTH", type := .int, accessFlags := 25, slot := 20, constantValue := 0 }]
  methods := #[k29m0, k29m1]
  instanceTypes := #[]
  staticTypes := #[(.object "jdk/internal/misc/Unsafe"), .boolean, .int, .int, .int, .int, .int, .int, .int, .int, .int, .int, .int, .int, .int, .int, .int, .int, .int, (.object "jdk/internal/access/JavaLangAccess"), .int]
  resolved := Array.replicate 378 none
  statics := none }

def pool30 : Array CpInfo := pool [(2, .class_ 4), (1, u "java/lang/Object"), (0, u "<init>"), (0, u "()V"), (7, .class_ 16), (1, u "java/util/Arrays"), (57, .class_ 76), (1, u "java/util/Arrays$NaturalOrder"), (9, .methodref 2 87), (0, .nameAndType 88 89), (0, u "getClass"), (0, u "()Ljava/lang/Class;"), (20, .class_ 111), (0, u "[Ljava/lang/Object;"), (1, .class_ 115), (1, u "java/util/Arrays$LegacyMergeSort"), (1, u "Z"), (32, .methodref 151 152), (0, .class_ 153), (0, .nameAndType 154 155), (0, u "java/lang/System"), (0, u "arraycopy"), (0, u "(Ljava/lang/Object;ILjava/lang/Object;II)V"), (144, .methodref 14 301), (0, .nameAndType 302 303), (0, u "copyOf"), (0, u "([Ljava/lang/Object;ILjava/lang/Class;)[Ljava/lang/Object;"), (0, .methodref 305 306), (0, .class_ 307), (0, .nameAndType 308 309), (0, u "java/lang/Math"), (0, u "min"), (0, u "(II)I"), (65, .class_ 376), (0, u "java/util/Arrays$ArrayList"), (68, u "$assertionsDisabled"), (269, u "MIN_ARRAY_SORT_GRAN"), (0, u "I"), (2, u "INSERTIONSORT_THRESHOLD"), (140, u "([Ljava/lang/Object;I)[Ljava/lang/Object;"), (114, .class_ 976), (0, u "java/util/Arrays$ArrayItr")] 52

def k30m0 : Method := { name := "<init>", desc := "()V", sig := { parameters := [], returnType := none }, accessFlags := 2, code := none }
def k30c1 : Code := { maxStack := 3, maxLocals := 2, code := jdk_65_method_119_code, exceptionTable := #[], attributes := #[] }
def k30m1 : Method := { name := "copyOf", desc := "([Ljava/lang/Object;I)[Ljava/lang/Object;", sig := { parameters := [(.array (.object "java/lang/Object")), .int], returnType := some (.array (.object "java/lang/Object")) }, accessFlags := 9, code := some k30c1 }
def k30c2 : Code := { maxStack := 6, maxLocals := 4, code := jdk_65_method_120_code, exceptionTable := #[], attributes := #[] }
def k30m2 : Method := { name := "copyOf", desc := "([Ljava/lang/Object;ILjava/lang/Class;)[Ljava/lang/Object;", sig := { parameters := [(.array (.object "java/lang/Object")), .int, (.object "java/lang/Class")], returnType := some (.array (.object "java/lang/Object")) }, accessFlags := 9, code := some k30c2 }
/-- java/util/Arrays -/
def k30 : Class := { plain "java/util/Arrays" (some 0) with
  accessFlags := 49
  interfaces := #[]
  cf := some (fileOf pool30 14 #[.nestMembers #[975, 375, 113, 74]] #[{ accessFlags := 2, nameIndex := 5, descriptorIndex := 6, attributes := #[] }, { accessFlags := 9, nameIndex := 302, descriptorIndex := 860, attributes := #[] }, { accessFlags := 9, nameIndex := 302, descriptorIndex := 303, attributes := #[] }] 49 2 #[] #[{ accessFlags := 26, nameIndex := 715, descriptorIndex := 716, attributes := #[] }, { accessFlags := 26, nameIndex := 719, descriptorIndex := 716, attributes := #[] }, { accessFlags := 4120, nameIndex := 445, descriptorIndex := 117, attributes := #[] }])
  fields := #[{ name := "MIN_ARRAY_SORT_GRAN", type := .int, accessFlags := 26, slot := 0, constantValue := 0 }, { name := "INSERTIONSORT_THRESHOLD", type := .int, accessFlags := 26, slot := 1, constantValue := 0 }, { name := "$assertionsDisabled", type := .boolean, accessFlags := 4120, slot := 2, constantValue := 0 }]
  methods := #[k30m0, k30m1, k30m2]
  instanceTypes := #[]
  staticTypes := #[.int, .int, .boolean]
  resolved := Array.replicate 1029 none
  statics := none }

def pool31 : Array CpInfo := pool [(2, .class_ 4), (1, u "java/lang/Object"), (0, u "<init>"), (0, u "()V"), (1, .class_ 10), (1, u "java/lang/System"), (0, u "allowSecurityManager"), (0, u "I"), (16, u "cons"), (0, u "Ljava/io/Console;"), (77, .class_ 110), (1, u "java/lang/System$CallersHolder"), (43, u "initialErrStream"), (0, u "Ljava/io/PrintStream;"), (19, u "security"), (0, u "Ljava/lang/SecurityManager;"), (31, .class_ 209), (0, u "java/lang/System$1"), (7, u "props"), (0, u "Ljava/util/Properties;"), (2, u "lineSeparator"), (0, u "Ljava/lang/String;"), (96, .class_ 321), (1, u "java/lang/System$LoggerFinder"), (5, .class_ 328), (0, u "java/lang/System$Logger"), (67, u "err"), (2, u "out"), (91, u "notSupportedJnuEncoding"), (15, u "in"), (17, u "initialIn"), (0, u "Ljava/io/InputStream;"), (35, u "bootLayer"), (0, u "Ljava/lang/ModuleLayer;"), (99, .class_ 664), (0, u "java/lang/System$2"), (9, u "NEVER"), (2, u "MAYBE"), (49, u "arraycopy"), (0, u "(Ljava/lang/Object;ILjava/lang/Object;II)V"), (72, .class_ 802), (0, u "java/lang/System$Logger$Level")] 31

def k31m0 : Method := { name := "<init>", desc := "()V", sig := { parameters := [], returnType := none }, accessFlags := 2, code := none }
def k31m1 : Method := { name := "arraycopy", desc := "(Ljava/lang/Object;ILjava/lang/Object;II)V", sig := { parameters := [(.object "java/lang/Object"), .int, (.object "java/lang/Object"), .int, .int], returnType := none }, accessFlags := 265, code := none }
/-- java/lang/System -/
def k31 : Class := { plain "java/lang/System" (some 0) with
  accessFlags := 49
  interfaces := #[]
  cf := some (fileOf pool31 8 #[.nestMembers #[319, 327, 801, 108, 663, 208]] #[{ accessFlags := 2, nameIndex := 5, descriptorIndex := 6, attributes := #[] }, { accessFlags := 265, nameIndex := 727, descriptorIndex := 728, attributes := #[] }] 49 2 #[] #[{ accessFlags := 25, nameIndex := 507, descriptorIndex := 526, attributes := #[] }, { accessFlags := 25, nameIndex := 399, descriptorIndex := 155, attributes := #[] }, { accessFlags := 25, nameIndex := 396, descriptorIndex := 155, attributes := #[] }, { accessFlags := 10, nameIndex := 525, descriptorIndex := 526, attributes := #[] }, { accessFlags := 26, nameIndex := 674, descriptorIndex := 12, attributes := #[] }, { accessFlags := 26, nameIndex := 677, descriptorIndex := 12, attributes := #[] }, { accessFlags := 10, nameIndex := 11, descriptorIndex := 12, attributes := #[] }, { accessFlags := 74, nameIndex := 175, descriptorIndex := 176, attributes := #[] }, { accessFlags := 10, nameIndex := 491, descriptorIndex := 222, attributes := #[] }, { accessFlags := 74, nameIndex := 29, descriptorIndex := 30, attributes := #[] }, { accessFlags := 74, nameIndex := 154, descriptorIndex := 155, attributes := #[] }, { accessFlags := 10, nameIndex := 217, descriptorIndex := 218, attributes := #[] }, { accessFlags := 10, nameIndex := 221, descriptorIndex := 222, attributes := #[] }, { accessFlags := 8, nameIndex := 562, descriptorIndex := 563, attributes := #[] }])
  fields := #[{ name := "in", type := (.object "java/io/InputStream"), accessFlags := 25, slot := 0, constantValue := 0 }, { name := "out", type := (.object "java/io/PrintStream"), accessFlags := 25, slot := 1, constantValue := 0 }, { name := "err", type := (.object "java/io/PrintStream"), accessFlags := 25, slot := 2, constantValue := 0 }, { name := "initialIn", type := (.object "java/io/InputStream"), accessFlags := 10, slot := 3, constantValue := 0 }, { name := "NEVER", type := .int, accessFlags := 26, slot := 4, constantValue := 0 }, { name := "MAYBE", type := .int, accessFlags := 26, slot := 5, constantValue := 0 }, { name := "allowSecurityManager", type := .int, accessFlags := 10, slot := 6, constantValue := 0 }, { name := "security", type := (.object "java/lang/SecurityManager"), accessFlags := 74, slot := 7, constantValue := 0 }, { name := "notSupportedJnuEncoding", type := (.object "java/lang/String"), accessFlags := 10, slot := 8, constantValue := 0 }, { name := "cons", type := (.object "java/io/Console"), accessFlags := 74, slot := 9, constantValue := 0 }, { name := "initialErrStream", type := (.object "java/io/PrintStream"), accessFlags := 74, slot := 10, constantValue := 0 }, { name := "props", type := (.object "java/util/Properties"), accessFlags := 10, slot := 11, constantValue := 0 }, { name := "lineSeparator", type := (.object "java/lang/String"), accessFlags := 10, slot := 12, constantValue := 0 }, { name := "bootLayer", type := (.object "java/lang/ModuleLayer"), accessFlags := 8, slot := 13, constantValue := 0 }]
  methods := #[k31m0, k31m1]
  instanceTypes := #[]
  staticTypes := #[(.object "java/io/InputStream"), (.object "java/io/PrintStream"), (.object "java/io/PrintStream"), (.object "java/io/InputStream"), .int, .int, .int, (.object "java/lang/SecurityManager"), (.object "java/lang/String"), (.object "java/io/Console"), (.object "java/io/PrintStream"), (.object "java/util/Properties"), (.object "java/lang/String"), (.object "java/lang/ModuleLayer")]
  resolved := Array.replicate 834 none
  statics := none }

def pool32 : Array CpInfo := pool [(2, .class_ 4), (1, u "java/lang/Object"), (0, u "<init>"), (0, u "()V"), (17, .class_ 26), (1, u "jdk/internal/util/Preconditions"), (6, u "checkIndex"), (21, .class_ 56), (0, u "jdk/internal/util/Preconditions$4"), (57, .class_ 115), (0, u "jdk/internal/util/Preconditions$1"), (7, u "SIOOBE_FORMATTER"), (0, u "Ljava/util/function/BiFunction;"), (0, .class_ 126), (0, u "jdk/internal/util/Preconditions$2"), (3, u "AIOOBE_FORMATTER"), (0, .class_ 132), (0, u "jdk/internal/util/Preconditions$3"), (3, u "IOOBE_FORMATTER"), (41, u "(IILjava/util/function/BiFunction;)I")] 15

def k32m0 : Method := { name := "<init>", desc := "()V", sig := { parameters := [], returnType := none }, accessFlags := 1, code := none }
def k32c1 : Code := { maxStack := 3, maxLocals := 3, code := jdk_41_method_11_code, exceptionTable := #[], attributes := #[] }
def k32m1 : Method := { name := "checkIndex", desc := "(IILjava/util/function/BiFunction;)I", sig := { parameters := [.int, .int, (.object "java/util/function/BiFunction")], returnType := some .int }, accessFlags := 9, code := some k32c1 }
/-- jdk/internal/util/Preconditions -/
def k32 : Class := { plain "jdk/internal/util/Preconditions" (some 0) with
  accessFlags := 33
  interfaces := #[]
  cf := some (fileOf pool32 24 #[.nestMembers #[55, 131, 125, 114]] #[{ accessFlags := 1, nameIndex := 5, descriptorIndex := 6, attributes := #[] }, { accessFlags := 9, nameIndex := 33, descriptorIndex := 178, attributes := #[] }] 33 2 #[] #[{ accessFlags := 25, nameIndex := 123, descriptorIndex := 124, attributes := #[] }, { accessFlags := 25, nameIndex := 130, descriptorIndex := 124, attributes := #[] }, { accessFlags := 25, nameIndex := 136, descriptorIndex := 124, attributes := #[] }])
  fields := #[{ name := "SIOOBE_FORMATTER", type := (.object "java/util/function/BiFunction"), accessFlags := 25, slot := 0, constantValue := 0 }, { name := "AIOOBE_FORMATTER", type := (.object "java/util/function/BiFunction"), accessFlags := 25, slot := 1, constantValue := 0 }, { name := "IOOBE_FORMATTER", type := (.object "java/util/function/BiFunction"), accessFlags := 25, slot := 2, constantValue := 0 }]
  methods := #[k32m0, k32m1]
  instanceTypes := #[]
  staticTypes := #[(.object "java/util/function/BiFunction"), (.object "java/util/function/BiFunction"), (.object "java/util/function/BiFunction")]
  resolved := Array.replicate 194 none
  statics := some 2 }

def pool33 : Array CpInfo := pool [(1, u "java/lang/Class"), (0, .class_ 1), (0, u "java/lang/Object"), (0, .class_ 3)] 3

/-- java/lang/Class -/
def k33 : Class := { plain "java/lang/Class" (some 0) with
  accessFlags := 49
  interfaces := #[]
  cf := some (fileOf pool33 2 #[] #[] 49 4 #[] #[])
  fields := #[]
  methods := #[]
  instanceTypes := #[]
  staticTypes := #[]
  resolved := Array.replicate 8 none
  statics := none }

/-- the primitive byte -/
def k34 : Class := { plain "byte" none with kind := .primitive 'B', accessFlags := 0x411 }
/-- [B -/
def k35 : Class := { plain "[B" (some 0) with kind := .array 34 .byte, interfaces := #[26, 3], accessFlags := 1041 }

/-- the primitive int -/
def k36 : Class := { plain "int" none with kind := .primitive 'I', accessFlags := 0x411 }
/-- [I -/
def k37 : Class := { plain "[I" (some 0) with kind := .array 36 .int, interfaces := #[26, 3], accessFlags := 1041 }

/-- [Ljava/lang/Object; -/
def k38 : Class := { plain "[Ljava/lang/Object;" (some 0) with kind := .array 0 (.object "java/lang/Object"), interfaces := #[26, 3], accessFlags := 1041, mirror := some 3 }

def heap : Heap := #[{ cls := 8, slots := #[.long 0, .int 1, .null, .int 0, .null, .int 0, .int 0], vm := .statics 8 },
  { cls := 18, slots := #[.long 0, .int 0, .null, .null, .ref 4, .null, .null, .null, .int 0, .int 0], vm := .statics 18 },
  { cls := 32, slots := #[.null, .null, .null], vm := .statics 32 },
  { cls := 33, slots := #[], vm := .mirror 38 },
  { cls := 24, slots := #[.ref 5, .int 0], vm := .none },
  { cls := 38, slots := #[], vm := .none }]
def classes : Array Class := #[k0, k1, k2, k3, k4, k5, k6, k7, k8, k9, k10, k11, k12, k13, k14, k15, k16, k17, k18, k19, k20, k21, k22, k23, k24, k25, k26, k27, k28, k29, k30, k31, k32, k33, k34, k35, k36, k37, k38]
def interned : List (Array UInt16 × Addr) := []
def slotsUsed : Nat := 22
def theMethod : MethodId := ⟨1, 1⟩
def args0 : Array Value := #[.int 5, .int 5, .int 5, .int 5]
def aboutOver (below : List Frame) : State where
  vm := { classes := classes, interned := interned.toArray }
  heap := heap
  slotsUsed := slotsUsed
  threads := #[{ frames := .invoking theMethod args0 :: below }]
def below0 : List Frame := [.native { method := ⟨0, 0⟩, args := #[] }]
def about1 : State := aboutOver below0
def p0 : Program := .bare "" "" ""
def e0 : Env := launch0.env 0 0 0
theorem w_frames : about1.frames = Frame.invoking theMethod args0 :: below0 := rfl
set_option maxRecDepth 65536 in
theorem w_args : argsFit about1.vm theMethod args0 = true := by decide +kernel
set_option maxRecDepth 65536 in
theorem w_heap : heapFits about1 = true := by decide +kernel
set_option maxRecDepth 65536 in
theorem w_runnable : about1.curStatus? = some .runnable := by decide +kernel
set_option maxRecDepth 65536 in
theorem w_alone : about1.alone = true := by decide +kernel
set_option maxRecDepth 65536 in
theorem w_named : about1.methodNamed? x = some theMethod := by decide +kernel
set_option maxRecDepth 65536 in
theorem w_hears : about1.hears theMethod below0 = true := by decide +kernel
set_option maxRecDepth 65536 in
theorem w_ripe : about1.ripe theMethod args0 below0 = true := by decide +kernel
theorem w_running : about1.status = .running := rfl
set_option maxRecDepth 65536 in
theorem w_room : about1.hasRoom e0.platform room_1 = true :=
  launch0.hasRoom_least _ room_1 (by decide +kernel) (by decide +kernel) (by decide +kernel) (by decide +kernel) (by decide +kernel) (by decide +kernel)
theorem allAtoms_all (ts : List Jvm.Cond) (a : Array Jvm.Value) (st : Jvm.State) : (allAtoms ts).before a st = ts.all (fun c => c.before a st) := by
  induction ts with
  | nil => rfl
  | cons c t ih =>
    show (Jvm.Cond.and c (allAtoms t)).before a st = _
    rw [Jvm.Cond.before_and, ih, List.all_cons]
def words1 : List Jvm.Cond := Jvm.Cond.code x code maxLocals ret :: tables_1
/-- a 'code' word, met by the world's own term for the bytes: nothing is compared byte by byte -/
theorem code_word {y : MethodName} {bytes : ByteArray} {mx : Nat} {rt : Option FieldType} {a : Array Value} {s : State} {m : MethodId} {meth : Method} {c : Code} (h1 : s.methodNamed? y = some m) (h2 : s.vm.method? m = some meth) (h3 : meth.code = some c) (h4 : c.code = bytes)
    (h5 : (c.maxLocals == mx && c.exceptionTable.isEmpty && decide (c.maxStack ≤ mostOperands) && decide (meth.sig.returnType = rt) && !meth.locks && decide (parseMethodDescriptor y.desc = some meth.sig)) = true) : (Jvm.Cond.code y bytes mx rt).before a s = true := by
  simp only [Bool.and_eq_true, beq_iff_eq, Bool.not_eq_true', decide_eq_true_eq] at h5
  obtain ⟨⟨⟨⟨⟨g1, g2⟩, g3⟩, g4⟩, g5⟩, g6⟩ := h5
  simp [Cond.before, Cond.holds, Cond.value, h1, h2, h3, h4, g1, g2, g3, g4, g5, g6]
def isCode : Jvm.Cond → Bool
  | .code _ _ _ _ => true
  | _ => false
theorem all_split {L : List Jvm.Cond} {P : Jvm.Cond → Bool} (h1 : L.all (fun c => isCode c || P c) = true) (h2 : ∀ c ∈ L.filter isCode, P c = true) : L.all P = true := by
  refine List.all_eq_true.mpr fun c hc => ?_
  have h := List.all_eq_true.mp h1 c hc
  rcases Bool.eq_false_or_eq_true (isCode c) with hi | hi
  · exact h2 c (List.mem_filter.mpr ⟨hc, hi⟩)
  · simpa [hi] using h
set_option maxRecDepth 65536 in
theorem w_c0 : (Jvm.Cond.code x code maxLocals ret).before args0 about1 = true := code_word (m := ⟨1, 1⟩) (meth := k1m1) (c := k1c1) (by decide +kernel) rfl rfl rfl (by decide +kernel)
set_option maxRecDepth 65536 in
theorem w_c1 : (Jvm.Cond.code ({ cls := "com/example/loads_to_headways/loadstoheadways/corridor/Station", name := "<init>", desc := "(ILjava/lang/String;D)V" } : Jvm.MethodName) prog_13_method_1_code (5 : Nat) (Option.none : Option Jvm.ClassFile.FieldType)).before args0 about1 = true := code_word (m := ⟨2, 0⟩) (meth := k2m0) (c := k2c0) (by decide +kernel) rfl rfl rfl (by decide +kernel)
set_option maxRecDepth 65536 in
theorem w_c2 : (Jvm.Cond.code ({ cls := "java/lang/Object", name := "<init>", desc := "()V" } : Jvm.MethodName) object_method_1_code (1 : Nat) (Option.none : Option Jvm.ClassFile.FieldType)).before args0 about1 = true := code_word (m := ⟨0, 0⟩) (meth := k0m0) (c := k0c0) (by decide +kernel) rfl rfl rfl (by decide +kernel)
set_option maxRecDepth 65536 in
theorem w_c3 : (Jvm.Cond.code ({ cls := "java/util/Objects", name := "requireNonNull", desc := "(Ljava/lang/Object;Ljava/lang/String;)Ljava/lang/Object;" } : Jvm.MethodName) jdk_31_method_11_code (2 : Nat) (Option.some (Jvm.ClassFile.FieldType.object "java/lang/Object"))).before args0 about1 = true := code_word (m := ⟨9, 1⟩) (meth := k9m1) (c := k9c1) (by decide +kernel) rfl rfl rfl (by decide +kernel)
set_option maxRecDepth 65536 in
theorem w_c4 : (Jvm.Cond.code ({ cls := "java/lang/String", name := "isEmpty", desc := "()Z" } : Jvm.MethodName) jdk_42_method_55_code (1 : Nat) (Option.some Jvm.ClassFile.FieldType.boolean)).before args0 about1 = true := code_word (m := ⟨8, 1⟩) (meth := k8m1) (c := k8c1) (by decide +kernel) rfl rfl rfl (by decide +kernel)
set_option maxRecDepth 65536 in
theorem w_c5 : (Jvm.Cond.code ({ cls := "java/lang/Double", name := "isFinite", desc := "(D)Z" } : Jvm.MethodName) jdk_117_method_8_code (2 : Nat) (Option.some Jvm.ClassFile.FieldType.boolean)).before args0 about1 = true := code_word (m := ⟨11, 0⟩) (meth := k11m0) (c := k11c0) (by decide +kernel) rfl rfl rfl (by decide +kernel)
set_option maxRecDepth 65536 in
theorem w_c6 : (Jvm.Cond.code ({ cls := "java/lang/Math", name := "abs", desc := "(D)D" } : Jvm.MethodName) jdk_29_method_64_code (2 : Nat) (Option.some Jvm.ClassFile.FieldType.double)).before args0 about1 = true := code_word (m := ⟨12, 1⟩) (meth := k12m1) (c := k12c1) (by decide +kernel) rfl rfl rfl (by decide +kernel)
set_option maxRecDepth 65536 in
theorem w_c7 : (Jvm.Cond.code ({ cls := "com/example/loads_to_headways/loadstoheadways/sim/Passenger", name := "<init>", desc := "(ILcom/example/loads_to_headways/loadstoheadways/corridor/Station;Lcom/example/loads_to_headways/loadstoheadways/corridor/Station;D)V" } : Jvm.MethodName) prog_48_method_1_code (6 : Nat) (Option.none : Option Jvm.ClassFile.FieldType)).before args0 about1 = true := code_word (m := ⟨13, 0⟩) (meth := k13m0) (c := k13c0) (by decide +kernel) rfl rfl rfl (by decide +kernel)
set_option maxRecDepth 65536 in
theorem w_c8 : (Jvm.Cond.code ({ cls := "java/util/List", name := "of", desc := "()Ljava/util/List;" } : Jvm.MethodName) jdk_40_method_36_code (0 : Nat) (Option.some (Jvm.ClassFile.FieldType.object "java/util/List"))).before args0 about1 = true := code_word (m := ⟨17, 4⟩) (meth := k17m4) (c := k17c4) (by decide +kernel) rfl rfl rfl (by decide +kernel)
set_option maxRecDepth 65536 in
theorem w_c9 : (Jvm.Cond.code ({ cls := "com/example/loads_to_headways/loadstoheadways/sim/Passenger", name := "hasBoarded", desc := "()Z" } : Jvm.MethodName) prog_48_method_6_code (1 : Nat) (Option.some Jvm.ClassFile.FieldType.boolean)).before args0 about1 = true := code_word (m := ⟨13, 1⟩) (meth := k13m1) (c := k13c1) (by decide +kernel) rfl rfl rfl (by decide +kernel)
set_option maxRecDepth 65536 in
theorem w_c10 : (Jvm.Cond.code ({ cls := "java/lang/String", name := "valueOf", desc := "(C)Ljava/lang/String;" } : Jvm.MethodName) jdk_42_method_139_code (1 : Nat) (Option.some (Jvm.ClassFile.FieldType.object "java/lang/String"))).before args0 about1 = true := code_word (m := ⟨8, 2⟩) (meth := k8m2) (c := k8c2) (by decide +kernel) rfl rfl rfl (by decide +kernel)
set_option maxRecDepth 65536 in
theorem w_c11 : (Jvm.Cond.code ({ cls := "java/lang/StringLatin1", name := "canEncode", desc := "(C)Z" } : Jvm.MethodName) jdk_43_method_3_code (1 : Nat) (Option.some Jvm.ClassFile.FieldType.boolean)).before args0 about1 = true := code_word (m := ⟨19, 1⟩) (meth := k19m1) (c := k19c1) (by decide +kernel) rfl rfl rfl (by decide +kernel)
set_option maxRecDepth 65536 in
theorem w_c12 : (Jvm.Cond.code ({ cls := "java/lang/StringLatin1", name := "toBytes", desc := "(C)[B" } : Jvm.MethodName) jdk_43_method_46_code (1 : Nat) (Option.some (Jvm.ClassFile.FieldType.array Jvm.ClassFile.FieldType.byte))).before args0 about1 = true := code_word (m := ⟨19, 2⟩) (meth := k19m2) (c := k19c2) (by decide +kernel) rfl rfl rfl (by decide +kernel)
set_option maxRecDepth 65536 in
theorem w_c13 : (Jvm.Cond.code ({ cls := "java/lang/String", name := "<init>", desc := "([BB)V" } : Jvm.MethodName) jdk_42_method_151_code (3 : Nat) (Option.none : Option Jvm.ClassFile.FieldType)).before args0 about1 = true := code_word (m := ⟨8, 3⟩) (meth := k8m3) (c := k8c3) (by decide +kernel) rfl rfl rfl (by decide +kernel)
set_option maxRecDepth 65536 in
theorem w_c14 : (Jvm.Cond.code ({ cls := "com/example/loads_to_headways/loadstoheadways/sim/Passenger", name := "board", desc := "(Ljava/lang/String;D)V" } : Jvm.MethodName) prog_48_method_17_code (4 : Nat) (Option.none : Option Jvm.ClassFile.FieldType)).before args0 about1 = true := code_word (m := ⟨13, 2⟩) (meth := k13m2) (c := k13c2) (by decide +kernel) rfl rfl rfl (by decide +kernel)
set_option maxRecDepth 65536 in
theorem w_c15 : (Jvm.Cond.code ({ cls := "com/example/loads_to_headways/loadstoheadways/sim/Passenger", name := "strand", desc := "(Lcom/example/loads_to_headways/loadstoheadways/corridor/Station;D)V" } : Jvm.MethodName) prog_48_method_19_code (4 : Nat) (Option.none : Option Jvm.ClassFile.FieldType)).before args0 about1 = true := code_word (m := ⟨13, 4⟩) (meth := k13m4) (c := k13c4) (by decide +kernel) rfl rfl rfl (by decide +kernel)
set_option maxRecDepth 65536 in
theorem w_c16 : (Jvm.Cond.code ({ cls := "java/util/ImmutableCollections$ListN", name := "isEmpty", desc := "()Z" } : Jvm.MethodName) jdk_45_method_2_code (1 : Nat) (Option.some Jvm.ClassFile.FieldType.boolean)).before args0 about1 = true := code_word (m := ⟨24, 0⟩) (meth := k24m0) (c := k24c0) (by decide +kernel) rfl rfl rfl (by decide +kernel)
set_option maxRecDepth 65536 in
theorem w_c17 : (Jvm.Cond.code ({ cls := "java/util/ArrayList", name := "<init>", desc := "(I)V" } : Jvm.MethodName) jdk_38_method_1_code (2 : Nat) (Option.none : Option Jvm.ClassFile.FieldType)).before args0 about1 = true := code_word (m := ⟨27, 0⟩) (meth := k27m0) (c := k27c0) (by decide +kernel) rfl rfl rfl (by decide +kernel)
set_option maxRecDepth 65536 in
theorem w_c18 : (Jvm.Cond.code ({ cls := "java/util/AbstractList", name := "<init>", desc := "()V" } : Jvm.MethodName) jdk_39_method_1_code (1 : Nat) (Option.none : Option Jvm.ClassFile.FieldType)).before args0 about1 = true := code_word (m := ⟨25, 0⟩) (meth := k25m0) (c := k25c0) (by decide +kernel) rfl rfl rfl (by decide +kernel)
set_option maxRecDepth 65536 in
theorem w_c19 : (Jvm.Cond.code ({ cls := "java/util/AbstractCollection", name := "<init>", desc := "()V" } : Jvm.MethodName) jdk_22_method_1_code (1 : Nat) (Option.none : Option Jvm.ClassFile.FieldType)).before args0 about1 = true := code_word (m := ⟨20, 0⟩) (meth := k20m0) (c := k20c0) (by decide +kernel) rfl rfl rfl (by decide +kernel)
set_option maxRecDepth 65536 in
theorem w_c20 : (Jvm.Cond.code ({ cls := "com/example/loads_to_headways/loadstoheadways/sim/Stranding", name := "<init>", desc := "(Lcom/example/loads_to_headways/loadstoheadways/corridor/Station;D)V" } : Jvm.MethodName) prog_60_method_1_code (4 : Nat) (Option.none : Option Jvm.ClassFile.FieldType)).before args0 about1 = true := code_word (m := ⟨28, 0⟩) (meth := k28m0) (c := k28c0) (by decide +kernel) rfl rfl rfl (by decide +kernel)
set_option maxRecDepth 65536 in
theorem w_c21 : (Jvm.Cond.code ({ cls := "java/util/ArrayList", name := "add", desc := "(Ljava/lang/Object;)Z" } : Jvm.MethodName) jdk_38_method_25_code (2 : Nat) (Option.some Jvm.ClassFile.FieldType.boolean)).before args0 about1 = true := code_word (m := ⟨27, 9⟩) (meth := k27m9) (c := k27c9) (by decide +kernel) rfl rfl rfl (by decide +kernel)
set_option maxRecDepth 65536 in
theorem w_c22 : (Jvm.Cond.code ({ cls := "java/util/ArrayList", name := "add", desc := "(Ljava/lang/Object;[Ljava/lang/Object;I)V" } : Jvm.MethodName) jdk_38_method_24_code (4 : Nat) (Option.none : Option Jvm.ClassFile.FieldType)).before args0 about1 = true := code_word (m := ⟨27, 8⟩) (meth := k27m8) (c := k27c8) (by decide +kernel) rfl rfl rfl (by decide +kernel)
set_option maxRecDepth 65536 in
theorem w_c23 : (Jvm.Cond.code ({ cls := "com/example/loads_to_headways/loadstoheadways/sim/Passenger", name := "alight", desc := "(D)V" } : Jvm.MethodName) prog_48_method_18_code (3 : Nat) (Option.none : Option Jvm.ClassFile.FieldType)).before args0 about1 = true := code_word (m := ⟨13, 3⟩) (meth := k13m3) (c := k13c3) (by decide +kernel) rfl rfl rfl (by decide +kernel)
set_option maxRecDepth 65536 in
theorem w_c24 : (Jvm.Cond.code ({ cls := "java/util/ArrayList", name := "isEmpty", desc := "()Z" } : Jvm.MethodName) jdk_38_method_9_code (1 : Nat) (Option.some Jvm.ClassFile.FieldType.boolean)).before args0 about1 = true := code_word (m := ⟨27, 5⟩) (meth := k27m5) (c := k27c5) (by decide +kernel) rfl rfl rfl (by decide +kernel)
set_option maxRecDepth 65536 in
theorem w_c25 : (Jvm.Cond.code ({ cls := "java/util/ArrayList", name := "grow", desc := "()[Ljava/lang/Object;" } : Jvm.MethodName) jdk_38_method_7_code (1 : Nat) (Option.some (Jvm.ClassFile.FieldType.array (Jvm.ClassFile.FieldType.object "java/lang/Object")))).before args0 about1 = true := code_word (m := ⟨27, 3⟩) (meth := k27m3) (c := k27c3) (by decide +kernel) rfl rfl rfl (by decide +kernel)
set_option maxRecDepth 65536 in
theorem w_c26 : (Jvm.Cond.code ({ cls := "java/util/ArrayList", name := "grow", desc := "(I)[Ljava/lang/Object;" } : Jvm.MethodName) jdk_38_method_6_code (4 : Nat) (Option.some (Jvm.ClassFile.FieldType.array (Jvm.ClassFile.FieldType.object "java/lang/Object")))).before args0 about1 = true := code_word (m := ⟨27, 2⟩) (meth := k27m2) (c := k27c2) (by decide +kernel) rfl rfl rfl (by decide +kernel)
set_option maxRecDepth 65536 in
theorem w_c27 : (Jvm.Cond.code ({ cls := "jdk/internal/util/ArraysSupport", name := "newLength", desc := "(III)I" } : Jvm.MethodName) jdk_48_method_27_code (4 : Nat) (Option.some Jvm.ClassFile.FieldType.int)).before args0 about1 = true := code_word (m := ⟨29, 1⟩) (meth := k29m1) (c := k29c1) (by decide +kernel) rfl rfl rfl (by decide +kernel)
set_option maxRecDepth 65536 in
theorem w_c28 : (Jvm.Cond.code ({ cls := "java/lang/Math", name := "max", desc := "(II)I" } : Jvm.MethodName) jdk_29_method_65_code (2 : Nat) (Option.some Jvm.ClassFile.FieldType.int)).before args0 about1 = true := code_word (m := ⟨12, 2⟩) (meth := k12m2) (c := k12c2) (by decide +kernel) rfl rfl rfl (by decide +kernel)
set_option maxRecDepth 65536 in
theorem w_c29 : (Jvm.Cond.code ({ cls := "java/util/Arrays", name := "copyOf", desc := "([Ljava/lang/Object;I)[Ljava/lang/Object;" } : Jvm.MethodName) jdk_65_method_119_code (2 : Nat) (Option.some (Jvm.ClassFile.FieldType.array (Jvm.ClassFile.FieldType.object "java/lang/Object")))).before args0 about1 = true := code_word (m := ⟨30, 1⟩) (meth := k30m1) (c := k30c1) (by decide +kernel) rfl rfl rfl (by decide +kernel)
set_option maxRecDepth 65536 in
theorem w_c30 : (Jvm.Cond.code ({ cls := "java/util/Arrays", name := "copyOf", desc := "([Ljava/lang/Object;ILjava/lang/Class;)[Ljava/lang/Object;" } : Jvm.MethodName) jdk_65_method_120_code (4 : Nat) (Option.some (Jvm.ClassFile.FieldType.array (Jvm.ClassFile.FieldType.object "java/lang/Object")))).before args0 about1 = true := code_word (m := ⟨30, 2⟩) (meth := k30m2) (c := k30c2) (by decide +kernel) rfl rfl rfl (by decide +kernel)
set_option maxRecDepth 65536 in
theorem w_c31 : (Jvm.Cond.code ({ cls := "java/lang/Math", name := "min", desc := "(II)I" } : Jvm.MethodName) jdk_29_method_69_code (2 : Nat) (Option.some Jvm.ClassFile.FieldType.int)).before args0 about1 = true := code_word (m := ⟨12, 3⟩) (meth := k12m3) (c := k12c3) (by decide +kernel) rfl rfl rfl (by decide +kernel)
set_option maxRecDepth 65536 in
theorem w_c32 : (Jvm.Cond.code ({ cls := "java/util/ArrayList", name := "size", desc := "()I" } : Jvm.MethodName) jdk_38_method_8_code (1 : Nat) (Option.some Jvm.ClassFile.FieldType.int)).before args0 about1 = true := code_word (m := ⟨27, 4⟩) (meth := k27m4) (c := k27c4) (by decide +kernel) rfl rfl rfl (by decide +kernel)
set_option maxRecDepth 65536 in
theorem w_c33 : (Jvm.Cond.code ({ cls := "java/util/ArrayList", name := "get", desc := "(I)Ljava/lang/Object;" } : Jvm.MethodName) jdk_38_method_20_code (2 : Nat) (Option.some (Jvm.ClassFile.FieldType.object "java/lang/Object"))).before args0 about1 = true := code_word (m := ⟨27, 7⟩) (meth := k27m7) (c := k27c7) (by decide +kernel) rfl rfl rfl (by decide +kernel)
set_option maxRecDepth 65536 in
theorem w_c34 : (Jvm.Cond.code ({ cls := "java/util/Objects", name := "checkIndex", desc := "(II)I" } : Jvm.MethodName) jdk_31_method_17_code (2 : Nat) (Option.some Jvm.ClassFile.FieldType.int)).before args0 about1 = true := code_word (m := ⟨9, 2⟩) (meth := k9m2) (c := k9c2) (by decide +kernel) rfl rfl rfl (by decide +kernel)
set_option maxRecDepth 65536 in
theorem w_c35 : (Jvm.Cond.code ({ cls := "jdk/internal/util/Preconditions", name := "checkIndex", desc := "(IILjava/util/function/BiFunction;)I" } : Jvm.MethodName) jdk_41_method_11_code (3 : Nat) (Option.some Jvm.ClassFile.FieldType.int)).before args0 about1 = true := code_word (m := ⟨32, 1⟩) (meth := k32m1) (c := k32c1) (by decide +kernel) rfl rfl rfl (by decide +kernel)
set_option maxRecDepth 65536 in
theorem w_c36 : (Jvm.Cond.code ({ cls := "java/util/ArrayList", name := "elementData", desc := "(I)Ljava/lang/Object;" } : Jvm.MethodName) jdk_38_method_18_code (2 : Nat) (Option.some (Jvm.ClassFile.FieldType.object "java/lang/Object"))).before args0 about1 = true := code_word (m := ⟨27, 6⟩) (meth := k27m6) (c := k27c6) (by decide +kernel) rfl rfl rfl (by decide +kernel)
set_option maxRecDepth 65536 in
theorem w_c37 : (Jvm.Cond.code ({ cls := "com/example/loads_to_headways/loadstoheadways/sim/Stranding", name := "board", desc := "(Ljava/lang/String;D)V" } : Jvm.MethodName) prog_60_method_6_code (4 : Nat) (Option.none : Option Jvm.ClassFile.FieldType)).before args0 about1 = true := code_word (m := ⟨28, 1⟩) (meth := k28m1) (c := k28c1) (by decide +kernel) rfl rfl rfl (by decide +kernel)
def codes1 : List Jvm.Cond := [Jvm.Cond.code x code maxLocals ret, Jvm.Cond.code ({ cls := "com/example/loads_to_headways/loadstoheadways/corridor/Station", name := "<init>", desc := "(ILjava/lang/String;D)V" } : Jvm.MethodName) prog_13_method_1_code (5 : Nat) (Option.none : Option Jvm.ClassFile.FieldType), Jvm.Cond.code ({ cls := "java/lang/Object", name := "<init>", desc := "()V" } : Jvm.MethodName) object_method_1_code (1 : Nat) (Option.none : Option Jvm.ClassFile.FieldType), Jvm.Cond.code ({ cls := "java/util/Objects", name := "requireNonNull", desc := "(Ljava/lang/Object;Ljava/lang/String;)Ljava/lang/Object;" } : Jvm.MethodName) jdk_31_method_11_code (2 : Nat) (Option.some (Jvm.ClassFile.FieldType.object "java/lang/Object")), Jvm.Cond.code ({ cls := "java/lang/String", name := "isEmpty", desc := "()Z" } : Jvm.MethodName) jdk_42_method_55_code (1 : Nat) (Option.some Jvm.ClassFile.FieldType.boolean), Jvm.Cond.code ({ cls := "java/lang/Double", name := "isFinite", desc := "(D)Z" } : Jvm.MethodName) jdk_117_method_8_code (2 : Nat) (Option.some Jvm.ClassFile.FieldType.boolean), Jvm.Cond.code ({ cls := "java/lang/Math", name := "abs", desc := "(D)D" } : Jvm.MethodName) jdk_29_method_64_code (2 : Nat) (Option.some Jvm.ClassFile.FieldType.double), Jvm.Cond.code ({ cls := "com/example/loads_to_headways/loadstoheadways/sim/Passenger", name := "<init>", desc := "(ILcom/example/loads_to_headways/loadstoheadways/corridor/Station;Lcom/example/loads_to_headways/loadstoheadways/corridor/Station;D)V" } : Jvm.MethodName) prog_48_method_1_code (6 : Nat) (Option.none : Option Jvm.ClassFile.FieldType), Jvm.Cond.code ({ cls := "java/util/List", name := "of", desc := "()Ljava/util/List;" } : Jvm.MethodName) jdk_40_method_36_code (0 : Nat) (Option.some (Jvm.ClassFile.FieldType.object "java/util/List")), Jvm.Cond.code ({ cls := "com/example/loads_to_headways/loadstoheadways/sim/Passenger", name := "hasBoarded", desc := "()Z" } : Jvm.MethodName) prog_48_method_6_code (1 : Nat) (Option.some Jvm.ClassFile.FieldType.boolean), Jvm.Cond.code ({ cls := "java/lang/String", name := "valueOf", desc := "(C)Ljava/lang/String;" } : Jvm.MethodName) jdk_42_method_139_code (1 : Nat) (Option.some (Jvm.ClassFile.FieldType.object "java/lang/String")), Jvm.Cond.code ({ cls := "java/lang/StringLatin1", name := "canEncode", desc := "(C)Z" } : Jvm.MethodName) jdk_43_method_3_code (1 : Nat) (Option.some Jvm.ClassFile.FieldType.boolean), Jvm.Cond.code ({ cls := "java/lang/StringLatin1", name := "toBytes", desc := "(C)[B" } : Jvm.MethodName) jdk_43_method_46_code (1 : Nat) (Option.some (Jvm.ClassFile.FieldType.array Jvm.ClassFile.FieldType.byte)), Jvm.Cond.code ({ cls := "java/lang/String", name := "<init>", desc := "([BB)V" } : Jvm.MethodName) jdk_42_method_151_code (3 : Nat) (Option.none : Option Jvm.ClassFile.FieldType), Jvm.Cond.code ({ cls := "com/example/loads_to_headways/loadstoheadways/sim/Passenger", name := "board", desc := "(Ljava/lang/String;D)V" } : Jvm.MethodName) prog_48_method_17_code (4 : Nat) (Option.none : Option Jvm.ClassFile.FieldType), Jvm.Cond.code ({ cls := "com/example/loads_to_headways/loadstoheadways/sim/Passenger", name := "strand", desc := "(Lcom/example/loads_to_headways/loadstoheadways/corridor/Station;D)V" } : Jvm.MethodName) prog_48_method_19_code (4 : Nat) (Option.none : Option Jvm.ClassFile.FieldType), Jvm.Cond.code ({ cls := "java/util/ImmutableCollections$ListN", name := "isEmpty", desc := "()Z" } : Jvm.MethodName) jdk_45_method_2_code (1 : Nat) (Option.some Jvm.ClassFile.FieldType.boolean), Jvm.Cond.code ({ cls := "java/util/ArrayList", name := "<init>", desc := "(I)V" } : Jvm.MethodName) jdk_38_method_1_code (2 : Nat) (Option.none : Option Jvm.ClassFile.FieldType), Jvm.Cond.code ({ cls := "java/util/AbstractList", name := "<init>", desc := "()V" } : Jvm.MethodName) jdk_39_method_1_code (1 : Nat) (Option.none : Option Jvm.ClassFile.FieldType), Jvm.Cond.code ({ cls := "java/util/AbstractCollection", name := "<init>", desc := "()V" } : Jvm.MethodName) jdk_22_method_1_code (1 : Nat) (Option.none : Option Jvm.ClassFile.FieldType), Jvm.Cond.code ({ cls := "com/example/loads_to_headways/loadstoheadways/sim/Stranding", name := "<init>", desc := "(Lcom/example/loads_to_headways/loadstoheadways/corridor/Station;D)V" } : Jvm.MethodName) prog_60_method_1_code (4 : Nat) (Option.none : Option Jvm.ClassFile.FieldType), Jvm.Cond.code ({ cls := "java/util/ArrayList", name := "add", desc := "(Ljava/lang/Object;)Z" } : Jvm.MethodName) jdk_38_method_25_code (2 : Nat) (Option.some Jvm.ClassFile.FieldType.boolean), Jvm.Cond.code ({ cls := "java/util/ArrayList", name := "add", desc := "(Ljava/lang/Object;[Ljava/lang/Object;I)V" } : Jvm.MethodName) jdk_38_method_24_code (4 : Nat) (Option.none : Option Jvm.ClassFile.FieldType), Jvm.Cond.code ({ cls := "com/example/loads_to_headways/loadstoheadways/sim/Passenger", name := "alight", desc := "(D)V" } : Jvm.MethodName) prog_48_method_18_code (3 : Nat) (Option.none : Option Jvm.ClassFile.FieldType), Jvm.Cond.code ({ cls := "java/util/ArrayList", name := "isEmpty", desc := "()Z" } : Jvm.MethodName) jdk_38_method_9_code (1 : Nat) (Option.some Jvm.ClassFile.FieldType.boolean), Jvm.Cond.code ({ cls := "java/util/ArrayList", name := "grow", desc := "()[Ljava/lang/Object;" } : Jvm.MethodName) jdk_38_method_7_code (1 : Nat) (Option.some (Jvm.ClassFile.FieldType.array (Jvm.ClassFile.FieldType.object "java/lang/Object"))), Jvm.Cond.code ({ cls := "java/util/ArrayList", name := "grow", desc := "(I)[Ljava/lang/Object;" } : Jvm.MethodName) jdk_38_method_6_code (4 : Nat) (Option.some (Jvm.ClassFile.FieldType.array (Jvm.ClassFile.FieldType.object "java/lang/Object"))), Jvm.Cond.code ({ cls := "jdk/internal/util/ArraysSupport", name := "newLength", desc := "(III)I" } : Jvm.MethodName) jdk_48_method_27_code (4 : Nat) (Option.some Jvm.ClassFile.FieldType.int), Jvm.Cond.code ({ cls := "java/lang/Math", name := "max", desc := "(II)I" } : Jvm.MethodName) jdk_29_method_65_code (2 : Nat) (Option.some Jvm.ClassFile.FieldType.int), Jvm.Cond.code ({ cls := "java/util/Arrays", name := "copyOf", desc := "([Ljava/lang/Object;I)[Ljava/lang/Object;" } : Jvm.MethodName) jdk_65_method_119_code (2 : Nat) (Option.some (Jvm.ClassFile.FieldType.array (Jvm.ClassFile.FieldType.object "java/lang/Object"))), Jvm.Cond.code ({ cls := "java/util/Arrays", name := "copyOf", desc := "([Ljava/lang/Object;ILjava/lang/Class;)[Ljava/lang/Object;" } : Jvm.MethodName) jdk_65_method_120_code (4 : Nat) (Option.some (Jvm.ClassFile.FieldType.array (Jvm.ClassFile.FieldType.object "java/lang/Object"))), Jvm.Cond.code ({ cls := "java/lang/Math", name := "min", desc := "(II)I" } : Jvm.MethodName) jdk_29_method_69_code (2 : Nat) (Option.some Jvm.ClassFile.FieldType.int), Jvm.Cond.code ({ cls := "java/util/ArrayList", name := "size", desc := "()I" } : Jvm.MethodName) jdk_38_method_8_code (1 : Nat) (Option.some Jvm.ClassFile.FieldType.int), Jvm.Cond.code ({ cls := "java/util/ArrayList", name := "get", desc := "(I)Ljava/lang/Object;" } : Jvm.MethodName) jdk_38_method_20_code (2 : Nat) (Option.some (Jvm.ClassFile.FieldType.object "java/lang/Object")), Jvm.Cond.code ({ cls := "java/util/Objects", name := "checkIndex", desc := "(II)I" } : Jvm.MethodName) jdk_31_method_17_code (2 : Nat) (Option.some Jvm.ClassFile.FieldType.int), Jvm.Cond.code ({ cls := "jdk/internal/util/Preconditions", name := "checkIndex", desc := "(IILjava/util/function/BiFunction;)I" } : Jvm.MethodName) jdk_41_method_11_code (3 : Nat) (Option.some Jvm.ClassFile.FieldType.int), Jvm.Cond.code ({ cls := "java/util/ArrayList", name := "elementData", desc := "(I)Ljava/lang/Object;" } : Jvm.MethodName) jdk_38_method_18_code (2 : Nat) (Option.some (Jvm.ClassFile.FieldType.object "java/lang/Object")), Jvm.Cond.code ({ cls := "com/example/loads_to_headways/loadstoheadways/sim/Stranding", name := "board", desc := "(Ljava/lang/String;D)V" } : Jvm.MethodName) prog_60_method_6_code (4 : Nat) (Option.none : Option Jvm.ClassFile.FieldType)]
set_option maxRecDepth 65536 in
theorem codes_eq : words1.filter isCode = codes1 := rfl
theorem w_codes : ∀ c ∈ words1.filter isCode, c.before args0 about1 = true := by
  rw [codes_eq]
  intro c hc
  simp only [codes1, List.mem_cons, List.not_mem_nil, or_false] at hc
  rcases hc with rfl | rfl | rfl | rfl | rfl | rfl | rfl | rfl | rfl | rfl | rfl | rfl | rfl | rfl | rfl | rfl | rfl | rfl | rfl | rfl | rfl | rfl | rfl | rfl | rfl | rfl | rfl | rfl | rfl | rfl | rfl | rfl | rfl | rfl | rfl | rfl | rfl | rfl
  · exact w_c0
  · exact w_c1
  · exact w_c2
  · exact w_c3
  · exact w_c4
  · exact w_c5
  · exact w_c6
  · exact w_c7
  · exact w_c8
  · exact w_c9
  · exact w_c10
  · exact w_c11
  · exact w_c12
  · exact w_c13
  · exact w_c14
  · exact w_c15
  · exact w_c16
  · exact w_c17
  · exact w_c18
  · exact w_c19
  · exact w_c20
  · exact w_c21
  · exact w_c22
  · exact w_c23
  · exact w_c24
  · exact w_c25
  · exact w_c26
  · exact w_c27
  · exact w_c28
  · exact w_c29
  · exact w_c30
  · exact w_c31
  · exact w_c32
  · exact w_c33
  · exact w_c34
  · exact w_c35
  · exact w_c36
  · exact w_c37
set_option maxRecDepth 65536 in
theorem w_t1 : (words1.take 24).all (fun c => isCode c || c.before args0 about1) = true := by decide +kernel
set_option maxRecDepth 65536 in
theorem w_t2 : ((words1.drop 24).take 24).all (fun c => isCode c || c.before args0 about1) = true := by decide +kernel
set_option maxRecDepth 65536 in
theorem w_t3 : (((words1.drop 24).drop 24).take 24).all (fun c => isCode c || c.before args0 about1) = true := by decide +kernel
set_option maxRecDepth 65536 in
theorem w_t4 : ((((words1.drop 24).drop 24).drop 24).take 24).all (fun c => isCode c || c.before args0 about1) = true := by decide +kernel
set_option maxRecDepth 65536 in
theorem w_t5 : (((((words1.drop 24).drop 24).drop 24).drop 24).take 24).all (fun c => isCode c || c.before args0 about1) = true := by decide +kernel
set_option maxRecDepth 65536 in
theorem w_t6 : ((((((words1.drop 24).drop 24).drop 24).drop 24).drop 24).take 24).all (fun c => isCode c || c.before args0 about1) = true := by decide +kernel
set_option maxRecDepth 65536 in
theorem w_t7 : (((((((words1.drop 24).drop 24).drop 24).drop 24).drop 24).drop 24).take 24).all (fun c => isCode c || c.before args0 about1) = true := by decide +kernel
set_option maxRecDepth 65536 in
theorem w_t8 : ((((((((words1.drop 24).drop 24).drop 24).drop 24).drop 24).drop 24).drop 24).take 24).all (fun c => isCode c || c.before args0 about1) = true := by decide +kernel
set_option maxRecDepth 65536 in
theorem w_t9 : (((((((((words1.drop 24).drop 24).drop 24).drop 24).drop 24).drop 24).drop 24).drop 24).take 24).all (fun c => isCode c || c.before args0 about1) = true := by decide +kernel
set_option maxRecDepth 65536 in
theorem w_t10 : ((((((((((words1.drop 24).drop 24).drop 24).drop 24).drop 24).drop 24).drop 24).drop 24).drop 24).take 24).all (fun c => isCode c || c.before args0 about1) = true := by decide +kernel
set_option maxRecDepth 65536 in
theorem w_t11 : (((((((((((words1.drop 24).drop 24).drop 24).drop 24).drop 24).drop 24).drop 24).drop 24).drop 24).drop 24).take 24).all (fun c => isCode c || c.before args0 about1) = true := by decide +kernel
set_option maxRecDepth 65536 in
theorem w_t12 : (((((((((((words1.drop 24).drop 24).drop 24).drop 24).drop 24).drop 24).drop 24).drop 24).drop 24).drop 24).drop 24).all (fun c => isCode c || c.before args0 about1) = true := by decide +kernel
theorem w_tables : (allAtoms (Jvm.Cond.code x code maxLocals ret :: tables_1)).before args0 about1 = true := by
  rw [allAtoms_all]
  show words1.all (fun c => c.before args0 about1) = true
  refine all_split ?_ w_codes
  rw [← List.take_append_drop 24 words1, List.all_append, w_t1, ← List.take_append_drop 24 (words1.drop 24), List.all_append, w_t2, ← List.take_append_drop 24 ((words1.drop 24).drop 24), List.all_append, w_t3, ← List.take_append_drop 24 (((words1.drop 24).drop 24).drop 24), List.all_append, w_t4, ← List.take_append_drop 24 ((((words1.drop 24).drop 24).drop 24).drop 24), List.all_append, w_t5, ← List.take_append_drop 24 (((((words1.drop 24).drop 24).drop 24).drop 24).drop 24), List.all_append, w_t6, ← List.take_append_drop 24 ((((((words1.drop 24).drop 24).drop 24).drop 24).drop 24).drop 24), List.all_append, w_t7, ← List.take_append_drop 24 (((((((words1.drop 24).drop 24).drop 24).drop 24).drop 24).drop 24).drop 24), List.all_append, w_t8, ← List.take_append_drop 24 ((((((((words1.drop 24).drop 24).drop 24).drop 24).drop 24).drop 24).drop 24).drop 24), List.all_append, w_t9, ← List.take_append_drop 24 (((((((((words1.drop 24).drop 24).drop 24).drop 24).drop 24).drop 24).drop 24).drop 24).drop 24), List.all_append, w_t10, ← List.take_append_drop 24 ((((((((((words1.drop 24).drop 24).drop 24).drop 24).drop 24).drop 24).drop 24).drop 24).drop 24).drop 24), List.all_append, w_t11, w_t12]
  rfl
set_option maxRecDepth 65536 in
theorem w_rest : rest_1_c.before args0 about1 = true := by decide +kernel
set_option maxRecDepth 65536 in
theorem w_case : (Jvm.Cond.and given_1 narrow_1).before args0 about1 = true := by decide +kernel
set_option maxRecDepth 65536 in
theorem w_consts : constsHeld consts_1 about1 := Jvm.Lit.constsHeldB_iff.mp (by decide +kernel)
theorem w_applies : (headSpec (Jvm.Cond.code x code maxLocals ret :: tables_1) room_1).applies x e0.platform about1 = true :=
  (Spec.applies_iff w_frames).mpr ⟨w_running, w_runnable, w_alone, w_named, w_hears, w_ripe, w_room, w_tables⟩
theorem atStart : AtStart classFile x code maxLocals ret World_1 tables_1 room_1 Calls_1 rest_1 Pre_1 launch0 p0 e0 about1 theMethod args0 below0 :=
  ⟨lists_1, trivial, launch0.admits_env _ _ _, launch0.least_env, fairChoices_fair.cas, fairChoices_fair.clock, w_frames, w_args, w_heap, w_applies, ⟨⟨38, k38, 3, by decide +kernel, rfl, rfl, _, rfl, rfl⟩, ⟨w_consts, trivial⟩⟩, w_rest, w_case⟩
end start1
theorem witness_1 : WitnessClaimed_1 := ⟨start1.p0, start1.e0, start1.about1, start1.theMethod, start1.args0, start1.below0, start1.atStart⟩
end Jvm.Pilot.@@N@@
