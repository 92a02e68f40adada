import JvmDerived
import JvmDerived.Pilot.@@N@@Statement
import JvmDerived.Pilot.@@N@@Code
set_option linter.unusedVariables false
set_option linter.unusedSimpArgs false
namespace Jvm.Pilot.@@N@@
open Jvm Jvm.ClassFile Sem Op Lib Jvm.Free Jvm.Stand Jvm.LawKit Jvm.RoadKit Bundle Jvm.Pilot.@@N@@.Jvm.D
set_option maxRecDepth 65536
set_option maxHeartbeats 40000000
section OwnKit
open Jvm.FP Jvm.Free.Fl
/-- what a walk's end is asked: the start, the texts interned meanwhile, Q of value and heap -/
abbrev GQ : Type := State × List String × (Option Value → Heap → Prop)
variable {p : Program} {l : Launch} {e : Env} {R : Room} {s : State} {m : MethodId} {args : Array Value} {below : List Frame} {meth : Method} {c : Code} {T : State} {Z : State} {a0 : Array Value} {h h' : Heap} {n0 n1 cells slots nc ns pc pc' : Nat} {Ls : Array Slot} {st rest : List Value} {Q : GQ} {Ts Ts' : List String} {Lt : List (String × Nat × Addr)} {vm0 : Vm}
/-- a contract: the method returns, what it leaves is Q, nothing below n0 is written, only texts of Ts' are interned -/
def Con (l : Launch) (Z : State) (n0 : Nat) (Ts Ts' : List String) (y : MethodName) (bytes : ByteArray) (ml : Nat) (ret : Option FieldType) (ws : List Jvm.Cond) (rm : Room) (as : Array Value) (h0 : Heap) (Q : Option Value → Heap → Prop) : Prop :=
  MetFree l y (head1 (Jvm.Cond.code y bytes ml ret :: ws) rm) (fun a U => a = as ∧ Z.Warmed39 U.vm ∧ U.heap = h0 ∧ IB Z U.vm Ts) (fun _ _ _ _ _ => True) (fun _ U o U' => ∃ v L, o = .returned v ∧ (Fr n0 L ∧ Q v U'.heap ∧ IB Z U'.vm Ts') ∧ ReturnedEndW U o U' L rm.cells rm.slots)
/-- the tables at hand: grown from the true start, the texts interned, the constants resolved -/
abbrev Bs (Z s : State) (vm0 : Vm) (h : Heap) (Ts : List String) (Lt : List (String × Nat × Addr)) : Prop :=
  (∃ k0, s.Since vm0 k0 ∧ k0 ≤ h.size) ∧ IB Z vm0 Ts ∧ ∀ q ∈ Lt, Lit (s.setVm vm0) q.1 q.2.1 q.2.2
theorem Bs.ib (B : Bs Z s vm0 h Ts Lt) : IB Z vm0 Ts := B.2.1
theorem Bs.lt (B : Bs Z s vm0 h Ts Lt) : ∀ q ∈ Lt, Lit (s.setVm vm0) q.1 q.2.1 q.2.2 := B.2.2
theorem Bs.grow (B : Bs Z s vm0 h Ts Lt) (q : h.size ≤ h'.size) : Bs Z s vm0 h' Ts Lt := by
  obtain ⟨⟨k0, a, b⟩, i, t⟩ := B; exact ⟨⟨k0, a, Nat.le_trans b q⟩, i, t⟩
theorem Bs.hZ (B : Bs Z s vm0 h Ts Lt) (hZ : Z.Warmed39 s.vm) : Z.Warmed39 (s.setVm vm0).vm := by
  obtain ⟨⟨k0, a, b⟩, i, t⟩ := B; exact State.Warmed39.trans hZ a.1
theorem Bs.fc (B : Bs Z s vm0 h Ts Lt) {own : String} {k : ClassId} (hown : s.vm.findClass own = some k) : (s.setVm vm0).vm.findClass own = some k := by
  obtain ⟨⟨k0, a, b⟩, i, t⟩ := B
  show vm0.findClass own = some k
  rw [a.1.alike.findClass]; exact hown
theorem Bs.call {vm1 : Vm} (B : Bs Z s vm0 h Ts Lt) {n : Nat} (hS : (s.setVm vm0).Since vm1 n) (hn : h.size ≤ n) (hn' : n ≤ h'.size) (I : IB Z vm1 Ts') : Bs Z s vm1 h' Ts' Lt := by
  obtain ⟨⟨k0, a, b⟩, i, t⟩ := B
  exact ⟨⟨n, a.trans hS (Nat.le_trans b hn), hn'⟩, I, fun q hq => Lit.stays (t q hq) hS.1⟩
/-- where a walk stands, the places written kept to themselves -/
def Wk (p : Program) (l : Launch) (e : Env) (R : Room) (s : State) (m : MethodId) (args : Array Value) (below : List Frame) (meth : Method) (c : Code) (n1 : Nat) (Z : State) (Ts : List String) (Lt : List (String × Nat × Addr)) (T : State) (h : Heap) (cells slots : Nat) : Prop :=
  ∃ locs vm0, Stand p l e R (s.setVm vm0) m args below meth c T locs cells slots ∧ Fr n1 locs ∧ T.heap = h ∧ Bs Z s vm0 h Ts Lt
/-- from t the run ends, and leaves Q -/
def Go (p : Program) (e : Env) (below : List Frame) (s : State) (n0 : Nat) (Q : GQ) (nc ns : Nat) (t : State) : Prop :=
  ∃ s₂ o, Steps p.tables e below t s₂ ∧ s₂.status = .running ∧ Ended s₂ below o ∧ ∃ v L, o = .returned v ∧ (Fr n0 L ∧ Q.2.2 v s₂.heap ∧ IB Q.1 s₂.vm Q.2.1) ∧ ReturnedEndW s o s₂ L nc ns
theorem Wk.here (X : Wk p l e R s m args below meth c n1 Z Ts Lt T h cells slots) : At T m c below := by obtain ⟨_, _, X, -⟩ := X; exact X.here
theorem Wk.heap (X : Wk p l e R s m args below meth c n1 Z Ts Lt T h cells slots) : T.heap = h := by obtain ⟨_, _, -, -, q, -⟩ := X; exact q
theorem Wk.low (X : Wk p l e R s m args below meth c n1 Z Ts Lt T h cells slots) (q : n0 ≤ n1) : Wk p l e R s m args below meth c n0 Z Ts Lt T h cells slots := by
  obtain ⟨locs, vm0, X, N, r⟩ := X; exact ⟨locs, vm0, X, fun y hy => Nat.le_trans q (N y hy), r⟩
theorem go_back {t t' : State} (b : ∀ target, Steps p.tables e below t' target → Steps p.tables e below t target) (k : Go p e below s n0 Q nc ns t') : Go p e below s n0 Q nc ns t := by
  obtain ⟨u, o, h1, r⟩ := k
  exact ⟨u, o, b u h1, r⟩
theorem con_start {y : MethodName} {bytes : ByteArray} {ml : Nat} {ret : Option FieldType} {ws : List Jvm.Cond} {rm : Room} {as : Array Value} {h0 : Heap} {Qv : Option Value → Heap → Prop} {fr0 : MethodId → JFrame}
    (k : ∀ (p : Program) (e : Env) (s : State) (m : MethodId) (below : List Frame) (meth : Method) (c : Code) (s₁ : State), p.tables.exec = Jvm.exec → Z.Warmed39 s.vm → c.code = bytes → c.maxLocals = ml → s.vm.findClass y.cls = some m.cls → meth.name = y.name → meth.sig.returnType = ret → meth.locks = false →
      s.heap = h0 → (∀ n1, Wk p l e rm s m as below meth c n1 Z Ts [] s₁ h0 0 0) → Go p e below s n0 ⟨Z, Ts', Qv⟩ rm.cells rm.slots (s₁.setTop (fr0 m)))
    (hpl : plainFor y = true := by exact plainFor_of_name (by first | (simp [plainName, overriddenIn]; done) | decide +kernel)) (hfr : ∀ m, entryFrame m as ml = fr0 m := by intro m; first | (simp [entryFrame, mkF, argsToLocals, Value.category]; done) | rfl) : Con l Z n0 Ts Ts' y bytes ml ret ws rm as h0 Qv := by
  refine MetFree.of_bodySF hpl hisR ?_
  intro p e s m args below meth c s₁ Bd hml0 hP hK
  obtain ⟨rfl, hZ, hh, hI⟩ := hP
  rw [hfr]
  exact k p e s m below meth c s₁ Bd.exec hZ Bd.bytes hml0 (findClass_of_methodNamed Bd.named) (name_of_methodNamed Bd.named Bd.method).1 Bd.returns Bd.notSynchronized hh
    (fun n1 => ⟨[], s.vm, Stand.of_body Bd, Fr.nil n1, by rw [← hh, Bd.state]; rfl, ⟨⟨0, (State.WarmedH.refl s).since 0, Nat.zero_le _⟩, hI, fun q hq => nomatch hq⟩⟩)
/-- what an int branch asks -/
def cP : ClassFile.Cond → Int32 → Int32 → Prop
  | .eq, x, y => x = y
  | .ne, x, y => ¬ x = y
  | .lt, x, y => x < y
  | .ge, x, y => ¬ x < y
  | .gt, x, y => y < x
  | .le, x, y => ¬ y < x
theorem cP_yes {cd : ClassFile.Cond} {x y : Int32} (q : cP cd x y) : if_icmp.holds cd x y = true := by
  cases cd
  · exact (teq q).1
  · exact (feq q).2
  · exact (tlt q).1
  · exact (flt q).2.1
  · exact (tlt q).2.2.1
  · exact (flt q).2.2.2
theorem cP_no {cd : ClassFile.Cond} {x y : Int32} (q : ¬ cP cd x y) : if_icmp.holds cd x y = false := by
  cases cd
  · exact (feq q).1
  · exact (teq (Classical.not_not.mp q)).2
  · exact (flt q).1
  · exact (tlt (Classical.not_not.mp q)).2.1
  · exact (flt q).2.2.1
  · exact (tlt (Classical.not_not.mp q)).2.2.2
theorem g_iload (X : Wk p l e R s m args below meth c n1 Z Ts Lt T h cells slots) (hx : p.tables.exec = Jvm.exec) {k : Nat} {v : Int32} (hp : pc + 2 = pc') (hd : decode c.code pc = .ok (.iload k, 2)) (hl : Ls[k]? = some (.val (.int v))) (k : Go p e below s n0 Q nc ns (T.setTop (mkF m pc' Ls (.int v :: st)))) : Go p e below s n0 Q nc ns (T.setTop (mkF m pc Ls (st))) := by
  subst hp; exact go_back (fun _ j => XS.iload X.here hx rfl hd hl j) k
theorem g_iloadN (X : Wk p l e R s m args below meth c n1 Z Ts Lt T h cells slots) (hx : p.tables.exec = Jvm.exec) {k : Fin 4} {v : Int32} (hp : pc + 1 = pc') (hd : decode c.code pc = .ok (.iload_n k, 1)) (hl : Ls[k.val]? = some (.val (.int v))) (k : Go p e below s n0 Q nc ns (T.setTop (mkF m pc' Ls (.int v :: st)))) : Go p e below s n0 Q nc ns (T.setTop (mkF m pc Ls (st))) := by
  subst hp; exact go_back (fun _ j => XS.iloadN X.here hx rfl hd hl j) k
theorem g_istore (X : Wk p l e R s m args below meth c n1 Z Ts Lt T h cells slots) (hx : p.tables.exec = Jvm.exec) {k : Nat} {x : Int32} {l' : Array Slot} (hp : pc + 2 = pc') (hd : decode c.code pc = .ok (.istore k, 2)) (hl : storeLocals Ls k (.int x) = some l') (k : Go p e below s n0 Q nc ns (T.setTop (mkF m pc' l' (rest)))) : Go p e below s n0 Q nc ns (T.setTop (mkF m pc Ls (.int x :: rest))) := by
  subst hp; exact go_back (fun _ j => XS.istore X.here hx rfl hd rfl hl j) k
theorem g_istoreN (X : Wk p l e R s m args below meth c n1 Z Ts Lt T h cells slots) (hx : p.tables.exec = Jvm.exec) {k : Fin 4} {x : Int32} {l' : Array Slot} (hp : pc + 1 = pc') (hd : decode c.code pc = .ok (.istore_n k, 1)) (hl : storeLocals Ls k.val (.int x) = some l') (k : Go p e below s n0 Q nc ns (T.setTop (mkF m pc' l' (rest)))) : Go p e below s n0 Q nc ns (T.setTop (mkF m pc Ls (.int x :: rest))) := by
  subst hp; exact go_back (fun _ j => XS.istoreN X.here hx rfl hd rfl hl j) k
theorem g_absI {x : Int32} (k : ∀ z : Int32, z = x → Go p e below s n0 Q nc ns (T.setTop (mkF m pc Ls (.int z :: rest)))) : Go p e below s n0 Q nc ns (T.setTop (mkF m pc Ls (.int x :: rest))) := k x rfl
theorem g_lload (X : Wk p l e R s m args below meth c n1 Z Ts Lt T h cells slots) (hx : p.tables.exec = Jvm.exec) {k : Nat} {v : Int64} (hp : pc + 2 = pc') (hd : decode c.code pc = .ok (.lload k, 2)) (hl : Ls[k]? = some (.val (.long v))) (k : Go p e below s n0 Q nc ns (T.setTop (mkF m pc' Ls (.long v :: st)))) : Go p e below s n0 Q nc ns (T.setTop (mkF m pc Ls (st))) := by
  subst hp; exact go_back (fun _ j => XS.lload X.here hx rfl hd hl j) k
theorem g_lloadN (X : Wk p l e R s m args below meth c n1 Z Ts Lt T h cells slots) (hx : p.tables.exec = Jvm.exec) {k : Fin 4} {v : Int64} (hp : pc + 1 = pc') (hd : decode c.code pc = .ok (.lload_n k, 1)) (hl : Ls[k.val]? = some (.val (.long v))) (k : Go p e below s n0 Q nc ns (T.setTop (mkF m pc' Ls (.long v :: st)))) : Go p e below s n0 Q nc ns (T.setTop (mkF m pc Ls (st))) := by
  subst hp; exact go_back (fun _ j => XS.lloadN X.here hx rfl hd hl j) k
theorem g_lstore (X : Wk p l e R s m args below meth c n1 Z Ts Lt T h cells slots) (hx : p.tables.exec = Jvm.exec) {k : Nat} {x : Int64} {l' : Array Slot} (hp : pc + 2 = pc') (hd : decode c.code pc = .ok (.lstore k, 2)) (hl : storeLocals Ls k (.long x) = some l') (k : Go p e below s n0 Q nc ns (T.setTop (mkF m pc' l' (rest)))) : Go p e below s n0 Q nc ns (T.setTop (mkF m pc Ls (.long x :: rest))) := by
  subst hp; exact go_back (fun _ j => XS.lstore X.here hx rfl hd rfl hl j) k
theorem g_lstoreN (X : Wk p l e R s m args below meth c n1 Z Ts Lt T h cells slots) (hx : p.tables.exec = Jvm.exec) {k : Fin 4} {x : Int64} {l' : Array Slot} (hp : pc + 1 = pc') (hd : decode c.code pc = .ok (.lstore_n k, 1)) (hl : storeLocals Ls k.val (.long x) = some l') (k : Go p e below s n0 Q nc ns (T.setTop (mkF m pc' l' (rest)))) : Go p e below s n0 Q nc ns (T.setTop (mkF m pc Ls (.long x :: rest))) := by
  subst hp; exact go_back (fun _ j => XS.lstoreN X.here hx rfl hd rfl hl j) k
theorem g_absL {x : Int64} (k : ∀ z : Int64, z = x → Go p e below s n0 Q nc ns (T.setTop (mkF m pc Ls (.long z :: rest)))) : Go p e below s n0 Q nc ns (T.setTop (mkF m pc Ls (.long x :: rest))) := k x rfl
theorem g_dload (X : Wk p l e R s m args below meth c n1 Z Ts Lt T h cells slots) (hx : p.tables.exec = Jvm.exec) {k : Nat} {v : UInt64} (hp : pc + 2 = pc') (hd : decode c.code pc = .ok (.dload k, 2)) (hl : Ls[k]? = some (.val (.double v))) (k : Go p e below s n0 Q nc ns (T.setTop (mkF m pc' Ls (.double v :: st)))) : Go p e below s n0 Q nc ns (T.setTop (mkF m pc Ls (st))) := by
  subst hp; exact go_back (fun _ j => XS.dload X.here hx rfl hd hl j) k
theorem g_dloadN (X : Wk p l e R s m args below meth c n1 Z Ts Lt T h cells slots) (hx : p.tables.exec = Jvm.exec) {k : Fin 4} {v : UInt64} (hp : pc + 1 = pc') (hd : decode c.code pc = .ok (.dload_n k, 1)) (hl : Ls[k.val]? = some (.val (.double v))) (k : Go p e below s n0 Q nc ns (T.setTop (mkF m pc' Ls (.double v :: st)))) : Go p e below s n0 Q nc ns (T.setTop (mkF m pc Ls (st))) := by
  subst hp; exact go_back (fun _ j => XS.dloadN X.here hx rfl hd hl j) k
theorem g_dstore (X : Wk p l e R s m args below meth c n1 Z Ts Lt T h cells slots) (hx : p.tables.exec = Jvm.exec) {k : Nat} {x : UInt64} {l' : Array Slot} (hp : pc + 2 = pc') (hd : decode c.code pc = .ok (.dstore k, 2)) (hl : storeLocals Ls k (.double x) = some l') (k : Go p e below s n0 Q nc ns (T.setTop (mkF m pc' l' (rest)))) : Go p e below s n0 Q nc ns (T.setTop (mkF m pc Ls (.double x :: rest))) := by
  subst hp; exact go_back (fun _ j => XS.dstore X.here hx rfl hd rfl hl j) k
theorem g_dstoreN (X : Wk p l e R s m args below meth c n1 Z Ts Lt T h cells slots) (hx : p.tables.exec = Jvm.exec) {k : Fin 4} {x : UInt64} {l' : Array Slot} (hp : pc + 1 = pc') (hd : decode c.code pc = .ok (.dstore_n k, 1)) (hl : storeLocals Ls k.val (.double x) = some l') (k : Go p e below s n0 Q nc ns (T.setTop (mkF m pc' l' (rest)))) : Go p e below s n0 Q nc ns (T.setTop (mkF m pc Ls (.double x :: rest))) := by
  subst hp; exact go_back (fun _ j => XS.dstoreN X.here hx rfl hd rfl hl j) k
theorem g_absD {x : UInt64} (k : ∀ z : UInt64, z = x → Go p e below s n0 Q nc ns (T.setTop (mkF m pc Ls (.double z :: rest)))) : Go p e below s n0 Q nc ns (T.setTop (mkF m pc Ls (.double x :: rest))) := k x rfl
theorem g_aload (X : Wk p l e R s m args below meth c n1 Z Ts Lt T h cells slots) (hx : p.tables.exec = Jvm.exec) {k : Nat} {v : Value} (hp : pc + 2 = pc') (hd : decode c.code pc = .ok (.aload k, 2)) (hl : Ls[k]? = some (.val v)) (hv : v.isRef = true) (k : Go p e below s n0 Q nc ns (T.setTop (mkF m pc' Ls (v :: st)))) : Go p e below s n0 Q nc ns (T.setTop (mkF m pc Ls (st))) := by
  subst hp; exact go_back (fun _ j => XS.aload X.here hx rfl hd hl hv j) k
theorem g_aloadN (X : Wk p l e R s m args below meth c n1 Z Ts Lt T h cells slots) (hx : p.tables.exec = Jvm.exec) {k : Fin 4} {v : Value} (hp : pc + 1 = pc') (hd : decode c.code pc = .ok (.aload_n k, 1)) (hl : Ls[k.val]? = some (.val v)) (hv : v.isRef = true) (k : Go p e below s n0 Q nc ns (T.setTop (mkF m pc' Ls (v :: st)))) : Go p e below s n0 Q nc ns (T.setTop (mkF m pc Ls (st))) := by
  subst hp; exact go_back (fun _ j => XS.aloadN X.here hx rfl hd hl hv j) k
theorem g_astore (X : Wk p l e R s m args below meth c n1 Z Ts Lt T h cells slots) (hx : p.tables.exec = Jvm.exec) {k : Nat} {x : Value} {l' : Array Slot} (hp : pc + 2 = pc') (hd : decode c.code pc = .ok (.astore k, 2)) (hv : x.isRef = true) (hl : storeLocals Ls k x = some l') (k : Go p e below s n0 Q nc ns (T.setTop (mkF m pc' l' (rest)))) : Go p e below s n0 Q nc ns (T.setTop (mkF m pc Ls (x :: rest))) := by
  subst hp; exact go_back (fun _ j => XS.astore X.here hx rfl hd rfl hv hl j) k
theorem g_astoreN (X : Wk p l e R s m args below meth c n1 Z Ts Lt T h cells slots) (hx : p.tables.exec = Jvm.exec) {k : Fin 4} {x : Value} {l' : Array Slot} (hp : pc + 1 = pc') (hd : decode c.code pc = .ok (.astore_n k, 1)) (hv : x.isRef = true) (hl : storeLocals Ls k.val x = some l') (k : Go p e below s n0 Q nc ns (T.setTop (mkF m pc' l' (rest)))) : Go p e below s n0 Q nc ns (T.setTop (mkF m pc Ls (x :: rest))) := by
  subst hp; exact go_back (fun _ j => XS.astoreN X.here hx rfl hd rfl hv hl j) k
theorem g_iconst (X : Wk p l e R s m args below meth c n1 Z Ts Lt T h cells slots) (hx : p.tables.exec = Jvm.exec) {i : Int} {z : Int32} (hp : pc + 1 = pc') (hd : decode c.code pc = .ok (.iconst i, 1)) (hz : Int32.ofInt i = z) (k : Go p e below s n0 Q nc ns (T.setTop (mkF m pc' Ls (.int z :: st)))) : Go p e below s n0 Q nc ns (T.setTop (mkF m pc Ls (st))) := by
  subst hp; exact go_back (fun _ j => XS.iconst X.here hx rfl hd (show Steps _ _ _ (T.setTop (mkF m (pc + 1) Ls (.int (Int32.ofInt i) :: st))) _ from hz ▸ j)) k
theorem g_bipush (X : Wk p l e R s m args below meth c n1 Z Ts Lt T h cells slots) (hx : p.tables.exec = Jvm.exec) {i : Int} {z : Int32} (hp : pc + 2 = pc') (hd : decode c.code pc = .ok (.bipush i, 2)) (hz : (Int8.ofInt i).toInt32 = z) (k : Go p e below s n0 Q nc ns (T.setTop (mkF m pc' Ls (.int z :: st)))) : Go p e below s n0 Q nc ns (T.setTop (mkF m pc Ls (st))) := by
  subst hp; exact go_back (fun _ j => XS.bipush X.here hx rfl hd (show Steps _ _ _ (T.setTop (mkF m (pc + 2) Ls (.int (Int8.ofInt i).toInt32 :: st))) _ from hz ▸ j)) k
theorem g_sipush (X : Wk p l e R s m args below meth c n1 Z Ts Lt T h cells slots) (hx : p.tables.exec = Jvm.exec) {i : Int} {z : Int32} (hp : pc + 3 = pc') (hd : decode c.code pc = .ok (.sipush i, 3)) (hz : (Int16.ofInt i).toInt32 = z) (k : Go p e below s n0 Q nc ns (T.setTop (mkF m pc' Ls (.int z :: st)))) : Go p e below s n0 Q nc ns (T.setTop (mkF m pc Ls (st))) := by
  subst hp; exact go_back (fun _ j => XS.sipush X.here hx rfl hd (show Steps _ _ _ (T.setTop (mkF m (pc + 3) Ls (.int (Int16.ofInt i).toInt32 :: st))) _ from hz ▸ j)) k
theorem g_lconst (X : Wk p l e R s m args below meth c n1 Z Ts Lt T h cells slots) (hx : p.tables.exec = Jvm.exec) {i : Fin 2} {z : Int64} (hp : pc + 1 = pc') (hd : decode c.code pc = .ok (.lconst i, 1)) (hz : Int64.ofNat i = z) (k : Go p e below s n0 Q nc ns (T.setTop (mkF m pc' Ls (.long z :: st)))) : Go p e below s n0 Q nc ns (T.setTop (mkF m pc Ls (st))) := by
  subst hp; exact go_back (fun _ j => XS.lconst X.here hx rfl hd (show Steps _ _ _ (T.setTop (mkF m (pc + 1) Ls (.long (Int64.ofNat i) :: st))) _ from hz ▸ j)) k
theorem g_dconst0 (X : Wk p l e R s m args below meth c n1 Z Ts Lt T h cells slots) (hx : p.tables.exec = Jvm.exec)  (hp : pc + 1 = pc') (hd : decode c.code pc = .ok (.dconst 0, 1))  (k : Go p e below s n0 Q nc ns (T.setTop (mkF m pc' Ls (.double 0 :: st)))) : Go p e below s n0 Q nc ns (T.setTop (mkF m pc Ls (st))) := by
  subst hp; exact go_back (fun _ j => XS.dconst0 X.here hx rfl hd rfl j) k
theorem g_dconst1 (X : Wk p l e R s m args below meth c n1 Z Ts Lt T h cells slots) (hx : p.tables.exec = Jvm.exec)  (hp : pc + 1 = pc') (hd : decode c.code pc = .ok (.dconst 1, 1))  (k : Go p e below s n0 Q nc ns (T.setTop (mkF m pc' Ls (.double 4607182418800017408 :: st)))) : Go p e below s n0 Q nc ns (T.setTop (mkF m pc Ls (st))) := by
  subst hp; exact go_back (fun _ j => XS.dconst1 X.here hx rfl hd rfl j) k
theorem g_aconst_null (X : Wk p l e R s m args below meth c n1 Z Ts Lt T h cells slots) (hx : p.tables.exec = Jvm.exec)  (hp : pc + 1 = pc') (hd : decode c.code pc = .ok (.aconst_null, 1))  (k : Go p e below s n0 Q nc ns (T.setTop (mkF m pc' Ls (.null :: st)))) : Go p e below s n0 Q nc ns (T.setTop (mkF m pc Ls (st))) := by
  subst hp; exact go_back (fun _ j => XS.aconstNull X.here hx rfl hd j) k
theorem g_iadd (X : Wk p l e R s m args below meth c n1 Z Ts Lt T h cells slots) (hx : p.tables.exec = Jvm.exec) {x y : Int32} (hp : pc + 1 = pc') (hd : decode c.code pc = .ok (.iadd, 1))  (k : Go p e below s n0 Q nc ns (T.setTop (mkF m pc' Ls (.int (x + y) :: rest)))) : Go p e below s n0 Q nc ns (T.setTop (mkF m pc Ls (.int y :: .int x :: rest))) := by
  subst hp; exact go_back (fun _ j => XS.iadd X.here hx rfl hd rfl j) k
theorem g_ladd (X : Wk p l e R s m args below meth c n1 Z Ts Lt T h cells slots) (hx : p.tables.exec = Jvm.exec) {x y : Int64} (hp : pc + 1 = pc') (hd : decode c.code pc = .ok (.ladd, 1))  (k : Go p e below s n0 Q nc ns (T.setTop (mkF m pc' Ls (.long (x + y) :: rest)))) : Go p e below s n0 Q nc ns (T.setTop (mkF m pc Ls (.long y :: .long x :: rest))) := by
  subst hp; exact go_back (fun _ j => XS.ladd X.here hx rfl hd rfl j) k
theorem g_isub (X : Wk p l e R s m args below meth c n1 Z Ts Lt T h cells slots) (hx : p.tables.exec = Jvm.exec) {x y : Int32} (hp : pc + 1 = pc') (hd : decode c.code pc = .ok (.isub, 1))  (k : Go p e below s n0 Q nc ns (T.setTop (mkF m pc' Ls (.int (x - y) :: rest)))) : Go p e below s n0 Q nc ns (T.setTop (mkF m pc Ls (.int y :: .int x :: rest))) := by
  subst hp; exact go_back (fun _ j => XS.isub X.here hx rfl hd rfl j) k
theorem g_lsub (X : Wk p l e R s m args below meth c n1 Z Ts Lt T h cells slots) (hx : p.tables.exec = Jvm.exec) {x y : Int64} (hp : pc + 1 = pc') (hd : decode c.code pc = .ok (.lsub, 1))  (k : Go p e below s n0 Q nc ns (T.setTop (mkF m pc' Ls (.long (x - y) :: rest)))) : Go p e below s n0 Q nc ns (T.setTop (mkF m pc Ls (.long y :: .long x :: rest))) := by
  subst hp; exact go_back (fun _ j => XS.lsub X.here hx rfl hd rfl j) k
theorem g_imul (X : Wk p l e R s m args below meth c n1 Z Ts Lt T h cells slots) (hx : p.tables.exec = Jvm.exec) {x y : Int32} (hp : pc + 1 = pc') (hd : decode c.code pc = .ok (.imul, 1))  (k : Go p e below s n0 Q nc ns (T.setTop (mkF m pc' Ls (.int (x * y) :: rest)))) : Go p e below s n0 Q nc ns (T.setTop (mkF m pc Ls (.int y :: .int x :: rest))) := by
  subst hp; exact go_back (fun _ j => XS.imul X.here hx rfl hd rfl j) k
theorem g_lmul (X : Wk p l e R s m args below meth c n1 Z Ts Lt T h cells slots) (hx : p.tables.exec = Jvm.exec) {x y : Int64} (hp : pc + 1 = pc') (hd : decode c.code pc = .ok (.lmul, 1))  (k : Go p e below s n0 Q nc ns (T.setTop (mkF m pc' Ls (.long (x * y) :: rest)))) : Go p e below s n0 Q nc ns (T.setTop (mkF m pc Ls (.long y :: .long x :: rest))) := by
  subst hp; exact go_back (fun _ j => XS.lmul X.here hx rfl hd rfl j) k
theorem g_iand (X : Wk p l e R s m args below meth c n1 Z Ts Lt T h cells slots) (hx : p.tables.exec = Jvm.exec) {x y : Int32} (hp : pc + 1 = pc') (hd : decode c.code pc = .ok (.iand, 1))  (k : Go p e below s n0 Q nc ns (T.setTop (mkF m pc' Ls (.int (x &&& y) :: rest)))) : Go p e below s n0 Q nc ns (T.setTop (mkF m pc Ls (.int y :: .int x :: rest))) := by
  subst hp; exact go_back (fun _ j => XS.iand X.here hx rfl hd rfl j) k
theorem g_land (X : Wk p l e R s m args below meth c n1 Z Ts Lt T h cells slots) (hx : p.tables.exec = Jvm.exec) {x y : Int64} (hp : pc + 1 = pc') (hd : decode c.code pc = .ok (.land, 1))  (k : Go p e below s n0 Q nc ns (T.setTop (mkF m pc' Ls (.long (x &&& y) :: rest)))) : Go p e below s n0 Q nc ns (T.setTop (mkF m pc Ls (.long y :: .long x :: rest))) := by
  subst hp; exact go_back (fun _ j => XS.land X.here hx rfl hd rfl j) k
theorem g_ior (X : Wk p l e R s m args below meth c n1 Z Ts Lt T h cells slots) (hx : p.tables.exec = Jvm.exec) {x y : Int32} (hp : pc + 1 = pc') (hd : decode c.code pc = .ok (.ior, 1))  (k : Go p e below s n0 Q nc ns (T.setTop (mkF m pc' Ls (.int (x ||| y) :: rest)))) : Go p e below s n0 Q nc ns (T.setTop (mkF m pc Ls (.int y :: .int x :: rest))) := by
  subst hp; exact go_back (fun _ j => XS.ior X.here hx rfl hd rfl j) k
theorem g_lor (X : Wk p l e R s m args below meth c n1 Z Ts Lt T h cells slots) (hx : p.tables.exec = Jvm.exec) {x y : Int64} (hp : pc + 1 = pc') (hd : decode c.code pc = .ok (.lor, 1))  (k : Go p e below s n0 Q nc ns (T.setTop (mkF m pc' Ls (.long (x ||| y) :: rest)))) : Go p e below s n0 Q nc ns (T.setTop (mkF m pc Ls (.long y :: .long x :: rest))) := by
  subst hp; exact go_back (fun _ j => XS.lor X.here hx rfl hd rfl j) k
theorem g_ixor (X : Wk p l e R s m args below meth c n1 Z Ts Lt T h cells slots) (hx : p.tables.exec = Jvm.exec) {x y : Int32} (hp : pc + 1 = pc') (hd : decode c.code pc = .ok (.ixor, 1))  (k : Go p e below s n0 Q nc ns (T.setTop (mkF m pc' Ls (.int (x ^^^ y) :: rest)))) : Go p e below s n0 Q nc ns (T.setTop (mkF m pc Ls (.int y :: .int x :: rest))) := by
  subst hp; exact go_back (fun _ j => XS.ixor X.here hx rfl hd rfl j) k
theorem g_lxor (X : Wk p l e R s m args below meth c n1 Z Ts Lt T h cells slots) (hx : p.tables.exec = Jvm.exec) {x y : Int64} (hp : pc + 1 = pc') (hd : decode c.code pc = .ok (.lxor, 1))  (k : Go p e below s n0 Q nc ns (T.setTop (mkF m pc' Ls (.long (x ^^^ y) :: rest)))) : Go p e below s n0 Q nc ns (T.setTop (mkF m pc Ls (.long y :: .long x :: rest))) := by
  subst hp; exact go_back (fun _ j => XS.lxor X.here hx rfl hd rfl j) k
theorem g_idiv (X : Wk p l e R s m args below meth c n1 Z Ts Lt T h cells slots) (hx : p.tables.exec = Jvm.exec) {x y : Int32} (hp : pc + 1 = pc') (hd : decode c.code pc = .ok (.idiv, 1)) (hy : y ≠ 0) (k : Go p e below s n0 Q nc ns (T.setTop (mkF m pc' Ls (.int (x / y) :: rest)))) : Go p e below s n0 Q nc ns (T.setTop (mkF m pc Ls (.int y :: .int x :: rest))) := by
  subst hp; exact go_back (fun _ j => XS.idiv X.here hx rfl hd rfl hy j) k
theorem g_irem (X : Wk p l e R s m args below meth c n1 Z Ts Lt T h cells slots) (hx : p.tables.exec = Jvm.exec) {x y : Int32} (hp : pc + 1 = pc') (hd : decode c.code pc = .ok (.irem, 1)) (hy : y ≠ 0) (k : Go p e below s n0 Q nc ns (T.setTop (mkF m pc' Ls (.int (x % y) :: rest)))) : Go p e below s n0 Q nc ns (T.setTop (mkF m pc Ls (.int y :: .int x :: rest))) := by
  subst hp; obtain ⟨_, _, X, -⟩ := X; exact go_back (fun _ j => iremM X hx (g := mkF m pc Ls (.int y :: .int x :: rest)) rfl hd rfl hy j) k
theorem g_ldiv (X : Wk p l e R s m args below meth c n1 Z Ts Lt T h cells slots) (hx : p.tables.exec = Jvm.exec) {x y : Int64} (hp : pc + 1 = pc') (hd : decode c.code pc = .ok (.ldiv, 1)) (hy : y ≠ 0) (k : Go p e below s n0 Q nc ns (T.setTop (mkF m pc' Ls (.long (x / y) :: rest)))) : Go p e below s n0 Q nc ns (T.setTop (mkF m pc Ls (.long y :: .long x :: rest))) := by
  subst hp; exact go_back (fun _ j => XS.ldiv X.here hx rfl hd rfl hy j) k
theorem g_lrem (X : Wk p l e R s m args below meth c n1 Z Ts Lt T h cells slots) (hx : p.tables.exec = Jvm.exec) {x y : Int64} (hp : pc + 1 = pc') (hd : decode c.code pc = .ok (.lrem, 1)) (hy : y ≠ 0) (k : Go p e below s n0 Q nc ns (T.setTop (mkF m pc' Ls (.long (x - (x / y) * y) :: rest)))) : Go p e below s n0 Q nc ns (T.setTop (mkF m pc Ls (.long y :: .long x :: rest))) := by
  subst hp; exact go_back (fun _ j => XS.lrem X.here hx rfl hd rfl hy j) k
theorem g_ishl (X : Wk p l e R s m args below meth c n1 Z Ts Lt T h cells slots) (hx : p.tables.exec = Jvm.exec) {x y : Int32} (hp : pc + 1 = pc') (hd : decode c.code pc = .ok (.ishl, 1))  (k : Go p e below s n0 Q nc ns (T.setTop (mkF m pc' Ls (.int (x <<< (y &&& 31)) :: rest)))) : Go p e below s n0 Q nc ns (T.setTop (mkF m pc Ls (.int y :: .int x :: rest))) := by
  subst hp; exact go_back (fun _ j => XS.ishl X.here hx rfl hd rfl j) k
theorem g_ishr (X : Wk p l e R s m args below meth c n1 Z Ts Lt T h cells slots) (hx : p.tables.exec = Jvm.exec) {x y : Int32} (hp : pc + 1 = pc') (hd : decode c.code pc = .ok (.ishr, 1))  (k : Go p e below s n0 Q nc ns (T.setTop (mkF m pc' Ls (.int (x >>> (y &&& 31)) :: rest)))) : Go p e below s n0 Q nc ns (T.setTop (mkF m pc Ls (.int y :: .int x :: rest))) := by
  subst hp; exact go_back (fun _ j => XS.ishr X.here hx rfl hd rfl j) k
theorem g_iushr (X : Wk p l e R s m args below meth c n1 Z Ts Lt T h cells slots) (hx : p.tables.exec = Jvm.exec) {x y : Int32} (hp : pc + 1 = pc') (hd : decode c.code pc = .ok (.iushr, 1))  (k : Go p e below s n0 Q nc ns (T.setTop (mkF m pc' Ls (.int ((x.toUInt32 >>> (y &&& 31).toUInt32).toInt32) :: rest)))) : Go p e below s n0 Q nc ns (T.setTop (mkF m pc Ls (.int y :: .int x :: rest))) := by
  subst hp; exact go_back (fun _ j => XS.iushr X.here hx rfl hd rfl j) k
theorem g_lshl (X : Wk p l e R s m args below meth c n1 Z Ts Lt T h cells slots) (hx : p.tables.exec = Jvm.exec) {x : Int64} {y : Int32} (hp : pc + 1 = pc') (hd : decode c.code pc = .ok (.lshl, 1))  (k : Go p e below s n0 Q nc ns (T.setTop (mkF m pc' Ls (.long (x <<< (y &&& 0x3f).toInt64) :: rest)))) : Go p e below s n0 Q nc ns (T.setTop (mkF m pc Ls (.int y :: .long x :: rest))) := by
  subst hp; exact go_back (fun _ j => XS.lshl X.here hx rfl hd rfl j) k
theorem g_lshr (X : Wk p l e R s m args below meth c n1 Z Ts Lt T h cells slots) (hx : p.tables.exec = Jvm.exec) {x : Int64} {y : Int32} (hp : pc + 1 = pc') (hd : decode c.code pc = .ok (.lshr, 1))  (k : Go p e below s n0 Q nc ns (T.setTop (mkF m pc' Ls (.long (x >>> (y &&& 0x3f).toInt64) :: rest)))) : Go p e below s n0 Q nc ns (T.setTop (mkF m pc Ls (.int y :: .long x :: rest))) := by
  subst hp; exact go_back (fun _ j => XS.lshr X.here hx rfl hd rfl j) k
theorem g_lushr (X : Wk p l e R s m args below meth c n1 Z Ts Lt T h cells slots) (hx : p.tables.exec = Jvm.exec) {x : Int64} {y : Int32} (hp : pc + 1 = pc') (hd : decode c.code pc = .ok (.lushr, 1))  (k : Go p e below s n0 Q nc ns (T.setTop (mkF m pc' Ls (.long ((x.toUInt64 >>> (y &&& 0x3f).toInt64.toUInt64).toInt64) :: rest)))) : Go p e below s n0 Q nc ns (T.setTop (mkF m pc Ls (.int y :: .long x :: rest))) := by
  subst hp; exact go_back (fun _ j => XS.lushr X.here hx rfl hd rfl j) k
theorem g_ineg (X : Wk p l e R s m args below meth c n1 Z Ts Lt T h cells slots) (hx : p.tables.exec = Jvm.exec) {x : Int32} (hp : pc + 1 = pc') (hd : decode c.code pc = .ok (.ineg, 1))  (k : Go p e below s n0 Q nc ns (T.setTop (mkF m pc' Ls (.int (-x) :: rest)))) : Go p e below s n0 Q nc ns (T.setTop (mkF m pc Ls (.int x :: rest))) := by
  subst hp; exact go_back (fun _ j => XS.ineg X.here hx rfl hd rfl j) k
theorem g_lneg (X : Wk p l e R s m args below meth c n1 Z Ts Lt T h cells slots) (hx : p.tables.exec = Jvm.exec) {x : Int64} (hp : pc + 1 = pc') (hd : decode c.code pc = .ok (.lneg, 1))  (k : Go p e below s n0 Q nc ns (T.setTop (mkF m pc' Ls (.long (-x) :: rest)))) : Go p e below s n0 Q nc ns (T.setTop (mkF m pc Ls (.long x :: rest))) := by
  subst hp; exact go_back (fun _ j => XS.lneg X.here hx rfl hd rfl j) k
theorem g_i2l (X : Wk p l e R s m args below meth c n1 Z Ts Lt T h cells slots) (hx : p.tables.exec = Jvm.exec) {x : Int32} (hp : pc + 1 = pc') (hd : decode c.code pc = .ok (.i2l, 1))  (k : Go p e below s n0 Q nc ns (T.setTop (mkF m pc' Ls (.long x.toInt64 :: rest)))) : Go p e below s n0 Q nc ns (T.setTop (mkF m pc Ls (.int x :: rest))) := by
  subst hp; exact go_back (fun _ j => XS.i2l X.here hx rfl hd rfl j) k
theorem g_l2i (X : Wk p l e R s m args below meth c n1 Z Ts Lt T h cells slots) (hx : p.tables.exec = Jvm.exec) {x : Int64} (hp : pc + 1 = pc') (hd : decode c.code pc = .ok (.l2i, 1))  (k : Go p e below s n0 Q nc ns (T.setTop (mkF m pc' Ls (.int x.toInt32 :: rest)))) : Go p e below s n0 Q nc ns (T.setTop (mkF m pc Ls (.long x :: rest))) := by
  subst hp; exact go_back (fun _ j => XS.l2i X.here hx rfl hd rfl j) k
theorem g_i2b (X : Wk p l e R s m args below meth c n1 Z Ts Lt T h cells slots) (hx : p.tables.exec = Jvm.exec) {x : Int32} (hp : pc + 1 = pc') (hd : decode c.code pc = .ok (.i2b, 1))  (k : Go p e below s n0 Q nc ns (T.setTop (mkF m pc' Ls (.int x.toInt8.toInt32 :: rest)))) : Go p e below s n0 Q nc ns (T.setTop (mkF m pc Ls (.int x :: rest))) := by
  subst hp; exact go_back (fun _ j => XS.i2b X.here hx rfl hd rfl j) k
theorem g_i2s (X : Wk p l e R s m args below meth c n1 Z Ts Lt T h cells slots) (hx : p.tables.exec = Jvm.exec) {x : Int32} (hp : pc + 1 = pc') (hd : decode c.code pc = .ok (.i2s, 1))  (k : Go p e below s n0 Q nc ns (T.setTop (mkF m pc' Ls (.int x.toInt16.toInt32 :: rest)))) : Go p e below s n0 Q nc ns (T.setTop (mkF m pc Ls (.int x :: rest))) := by
  subst hp; exact go_back (fun _ j => XS.i2s X.here hx rfl hd rfl j) k
theorem g_i2c (X : Wk p l e R s m args below meth c n1 Z Ts Lt T h cells slots) (hx : p.tables.exec = Jvm.exec) {x : Int32} (hp : pc + 1 = pc') (hd : decode c.code pc = .ok (.i2c, 1))  (k : Go p e below s n0 Q nc ns (T.setTop (mkF m pc' Ls (.int x.toUInt32.toUInt16.toUInt32.toInt32 :: rest)))) : Go p e below s n0 Q nc ns (T.setTop (mkF m pc Ls (.int x :: rest))) := by
  subst hp; exact go_back (fun _ j => XS.i2c X.here hx rfl hd rfl j) k
theorem g_lcmp (X : Wk p l e R s m args below meth c n1 Z Ts Lt T h cells slots) (hx : p.tables.exec = Jvm.exec) {x y : Int64} (hp : pc + 1 = pc') (hd : decode c.code pc = .ok (.lcmp, 1))  (k : Go p e below s n0 Q nc ns (T.setTop (mkF m pc' Ls (.int (lcmpW x y) :: rest)))) : Go p e below s n0 Q nc ns (T.setTop (mkF m pc Ls (.long y :: .long x :: rest))) := by
  subst hp; exact go_back (fun _ j => XS.lcmp X.here hx rfl hd rfl j) k
theorem g_i2d (X : Wk p l e R s m args below meth c n1 Z Ts Lt T h cells slots) (hx : p.tables.exec = Jvm.exec) {x : Int32} (hp : pc + 1 = pc') (hd : decode c.code pc = .ok (.i2d, 1))  (k : Go p e below s n0 Q nc ns (T.setTop (mkF m pc' Ls (.double (FP.i2d x) :: rest)))) : Go p e below s n0 Q nc ns (T.setTop (mkF m pc Ls (.int x :: rest))) := by
  subst hp; exact go_back (fun _ j => XS.i2dS X.here hx rfl hd rfl rfl j) k
theorem g_l2d (X : Wk p l e R s m args below meth c n1 Z Ts Lt T h cells slots) (hx : p.tables.exec = Jvm.exec) {x : Int64} (hp : pc + 1 = pc') (hd : decode c.code pc = .ok (.l2d, 1))  (k : Go p e below s n0 Q nc ns (T.setTop (mkF m pc' Ls (.double (FP.l2d x) :: rest)))) : Go p e below s n0 Q nc ns (T.setTop (mkF m pc Ls (.long x :: rest))) := by
  subst hp; exact go_back (fun _ j => XS.l2dS X.here hx rfl hd rfl rfl j) k
theorem g_dneg (X : Wk p l e R s m args below meth c n1 Z Ts Lt T h cells slots) (hx : p.tables.exec = Jvm.exec) {x : UInt64} (hp : pc + 1 = pc') (hd : decode c.code pc = .ok (.dneg, 1))  (k : Go p e below s n0 Q nc ns (T.setTop (mkF m pc' Ls (.double (FP.dneg x) :: rest)))) : Go p e below s n0 Q nc ns (T.setTop (mkF m pc Ls (.double x :: rest))) := by
  subst hp; exact go_back (fun _ j => XS.dnegS X.here hx rfl hd rfl rfl j) k
theorem g_dcmp (X : Wk p l e R s m args below meth c n1 Z Ts Lt T h cells slots) (hx : p.tables.exec = Jvm.exec) {o : CmpOp} {x y : UInt64} {z : Int32} (hp : pc + 1 = pc') (hd : decode c.code pc = .ok (.dcmp o, 1)) (hz : cmpValue (FP.dcmp x y) o = z) (k : Go p e below s n0 Q nc ns (T.setTop (mkF m pc' Ls (.int z :: rest)))) : Go p e below s n0 Q nc ns (T.setTop (mkF m pc Ls (.double y :: .double x :: rest))) := by
  subst hp; exact go_back (fun _ j => XS.dcmpS X.here hx rfl hd rfl hz j) k
theorem g_dadd (X : Wk p l e R s m args below meth c n1 Z Ts Lt T h cells slots) (hx : p.tables.exec = Jvm.exec) {x y z : UInt64} (hp : pc + 1 = pc') (hd : decode c.code pc = .ok (.dadd, 1)) (hn : NoNaN64 (FP.dadd x y)) (hz : FP.dadd x y = z) (k : Go p e below s n0 Q nc ns (T.setTop (mkF m pc' Ls (.double z :: rest)))) : Go p e below s n0 Q nc ns (T.setTop (mkF m pc Ls (.double y :: .double x :: rest))) := by
  subst hp; exact go_back (fun _ j => XS.daddS X.here hx rfl hd rfl hn hz j) k
theorem g_dsub (X : Wk p l e R s m args below meth c n1 Z Ts Lt T h cells slots) (hx : p.tables.exec = Jvm.exec) {x y z : UInt64} (hp : pc + 1 = pc') (hd : decode c.code pc = .ok (.dsub, 1)) (hn : NoNaN64 (FP.dsub x y)) (hz : FP.dsub x y = z) (k : Go p e below s n0 Q nc ns (T.setTop (mkF m pc' Ls (.double z :: rest)))) : Go p e below s n0 Q nc ns (T.setTop (mkF m pc Ls (.double y :: .double x :: rest))) := by
  subst hp; exact go_back (fun _ j => XS.dsubS X.here hx rfl hd rfl hn hz j) k
theorem g_dmul (X : Wk p l e R s m args below meth c n1 Z Ts Lt T h cells slots) (hx : p.tables.exec = Jvm.exec) {x y z : UInt64} (hp : pc + 1 = pc') (hd : decode c.code pc = .ok (.dmul, 1)) (hn : NoNaN64 (FP.dmul x y)) (hz : FP.dmul x y = z) (k : Go p e below s n0 Q nc ns (T.setTop (mkF m pc' Ls (.double z :: rest)))) : Go p e below s n0 Q nc ns (T.setTop (mkF m pc Ls (.double y :: .double x :: rest))) := by
  subst hp; exact go_back (fun _ j => XS.dmulS X.here hx rfl hd rfl hn hz j) k
theorem g_ddiv (X : Wk p l e R s m args below meth c n1 Z Ts Lt T h cells slots) (hx : p.tables.exec = Jvm.exec) {x y z : UInt64} (hp : pc + 1 = pc') (hd : decode c.code pc = .ok (.ddiv, 1)) (hn : NoNaN64 (FP.ddiv x y)) (hz : FP.ddiv x y = z) (k : Go p e below s n0 Q nc ns (T.setTop (mkF m pc' Ls (.double z :: rest)))) : Go p e below s n0 Q nc ns (T.setTop (mkF m pc Ls (.double y :: .double x :: rest))) := by
  subst hp; exact go_back (fun _ j => XS.ddivS X.here hx rfl hd rfl hn hz j) k
theorem g_dup (X : Wk p l e R s m args below meth c n1 Z Ts Lt T h cells slots) (hx : p.tables.exec = Jvm.exec) {x : Value} (hp : pc + 1 = pc') (hd : decode c.code pc = .ok (.dup, 1)) (hc : x.category = 1) (k : Go p e below s n0 Q nc ns (T.setTop (mkF m pc' Ls (x :: x :: rest)))) : Go p e below s n0 Q nc ns (T.setTop (mkF m pc Ls (x :: rest))) := by
  subst hp; exact go_back (fun _ j => XS.dup X.here hx rfl hd rfl hc j) k
theorem g_dup_x1 (X : Wk p l e R s m args below meth c n1 Z Ts Lt T h cells slots) (hx : p.tables.exec = Jvm.exec) {x y : Value} (hp : pc + 1 = pc') (hd : decode c.code pc = .ok (.dup_x1, 1)) (hc : x.category = 1) (hc' : y.category = 1) (k : Go p e below s n0 Q nc ns (T.setTop (mkF m pc' Ls (x :: y :: x :: rest)))) : Go p e below s n0 Q nc ns (T.setTop (mkF m pc Ls (x :: y :: rest))) := by
  subst hp; exact go_back (fun _ j => XS.dupX1 X.here hx rfl hd rfl hc hc' j) k
theorem g_pop (X : Wk p l e R s m args below meth c n1 Z Ts Lt T h cells slots) (hx : p.tables.exec = Jvm.exec) {x : Value} (hp : pc + 1 = pc') (hd : decode c.code pc = .ok (.pop, 1)) (hc : x.category = 1) (k : Go p e below s n0 Q nc ns (T.setTop (mkF m pc' Ls (rest)))) : Go p e below s n0 Q nc ns (T.setTop (mkF m pc Ls (x :: rest))) := by
  subst hp; exact go_back (fun _ j => XS.pop X.here hx rfl hd rfl hc j) k
theorem g_dup2 (X : Wk p l e R s m args below meth c n1 Z Ts Lt T h cells slots) (hx : p.tables.exec = Jvm.exec) {x y : Value} (hp : pc + 1 = pc') (hd : decode c.code pc = .ok (.dup2, 1)) (hc : x.category = 1) (hc' : y.category = 1) (k : Go p e below s n0 Q nc ns (T.setTop (mkF m pc' Ls (x :: y :: x :: y :: rest)))) : Go p e below s n0 Q nc ns (T.setTop (mkF m pc Ls (x :: y :: rest))) := by
  subst hp; exact go_back (fun _ j => Jvm.Free.XT.dup2 X.here hx rfl hd rfl hc hc' j) k
theorem g_iinc (X : Wk p l e R s m args below meth c n1 Z Ts Lt T h cells slots) (hx : p.tables.exec = Jvm.exec) {k : Nat} {cst : Int} {x : Int32} {l' : Array Slot} (hp : pc + 3 = pc') (hd : decode c.code pc = .ok (.iinc k cst, 3)) (hl : Ls[k]? = some (.val (.int x))) (hl' : storeLocals Ls k (.int (x + Int32.ofInt cst)) = some l') (q : Go p e below s n0 Q nc ns (T.setTop (mkF m pc' l' st))) : Go p e below s n0 Q nc ns (T.setTop (mkF m pc Ls st)) := by
  subst hp; exact go_back (fun _ j => XS.iinc X.here hx rfl hd hl hl' j) q
theorem g_goto (X : Wk p l e R s m args below meth c n1 Z Ts Lt T h cells slots) (hx : p.tables.exec = Jvm.exec) {o : Int} (hd : decode c.code pc = .ok (.goto o, 3)) (ho : 0 ≤ (pc : Int) + o) (hp : ((pc : Int) + o).toNat = pc') (k : Go p e below s n0 Q nc ns (T.setTop (mkF m pc' Ls st))) : Go p e below s n0 Q nc ns (T.setTop (mkF m pc Ls st)) :=
  go_back (fun _ j => XS.goto X.here hx rfl rfl hd ho hp j) k
theorem g_ifY (X : Wk p l e R s m args below meth c n1 Z Ts Lt T h cells slots) (hx : p.tables.exec = Jvm.exec) {cd : ClassFile.Cond} {o : Int} {x : Int32} {pcY : Nat} (hd : decode c.code pc = .ok (.ifCond cd o, 3)) (ho : 0 ≤ (pc : Int) + o) (hY : ((pc : Int) + o).toNat = pcY) (q : cP cd x 0) (k : Go p e below s n0 Q nc ns (T.setTop (mkF m pcY Ls rest))) : Go p e below s n0 Q nc ns (T.setTop (mkF m pc Ls (.int x :: rest))) :=
  go_back (fun _ j => XS.ifYes X.here hx rfl rfl hd rfl ((if0 _ _).trans (cP_yes q)) ho hY j) k
theorem g_ifN (X : Wk p l e R s m args below meth c n1 Z Ts Lt T h cells slots) (hx : p.tables.exec = Jvm.exec) {cd : ClassFile.Cond} {o : Int} {x : Int32} {pcN : Nat} (hd : decode c.code pc = .ok (.ifCond cd o, 3)) (hN : pc + 3 = pcN) (q : ¬ cP cd x 0) (k : Go p e below s n0 Q nc ns (T.setTop (mkF m pcN Ls rest))) : Go p e below s n0 Q nc ns (T.setTop (mkF m pc Ls (.int x :: rest))) := by
  subst hN; exact go_back (fun _ j => XS.ifNo X.here hx rfl hd rfl ((if0 _ _).trans (cP_no q)) j) k
theorem g_if (X : Wk p l e R s m args below meth c n1 Z Ts Lt T h cells slots) (hx : p.tables.exec = Jvm.exec) {cd : ClassFile.Cond} {o : Int} {x : Int32} {pcY pcN : Nat} (hd : decode c.code pc = .ok (.ifCond cd o, 3)) (ho : 0 ≤ (pc : Int) + o) (hY : ((pc : Int) + o).toNat = pcY) (hN : pc + 3 = pcN) (kY : cP cd x 0 → Go p e below s n0 Q nc ns (T.setTop (mkF m pcY Ls rest))) (kN : ¬ cP cd x 0 → Go p e below s n0 Q nc ns (T.setTop (mkF m pcN Ls rest))) : Go p e below s n0 Q nc ns (T.setTop (mkF m pc Ls (.int x :: rest))) := by
  by_cases q : cP cd x 0
  · exact g_ifY X hx hd ho hY q (kY q)
  · exact g_ifN X hx hd hN q (kN q)
theorem g_icmpY (X : Wk p l e R s m args below meth c n1 Z Ts Lt T h cells slots) (hx : p.tables.exec = Jvm.exec) {cd : ClassFile.Cond} {o : Int} {x y : Int32} {pcY : Nat} (hd : decode c.code pc = .ok (.if_icmp cd o, 3)) (ho : 0 ≤ (pc : Int) + o) (hY : ((pc : Int) + o).toNat = pcY) (q : cP cd x y) (k : Go p e below s n0 Q nc ns (T.setTop (mkF m pcY Ls rest))) : Go p e below s n0 Q nc ns (T.setTop (mkF m pc Ls (.int y :: .int x :: rest))) :=
  go_back (fun _ j => XS.icmpYes X.here hx rfl rfl hd rfl (cP_yes q) ho hY j) k
theorem g_icmpN (X : Wk p l e R s m args below meth c n1 Z Ts Lt T h cells slots) (hx : p.tables.exec = Jvm.exec) {cd : ClassFile.Cond} {o : Int} {x y : Int32} {pcN : Nat} (hd : decode c.code pc = .ok (.if_icmp cd o, 3)) (hN : pc + 3 = pcN) (q : ¬ cP cd x y) (k : Go p e below s n0 Q nc ns (T.setTop (mkF m pcN Ls rest))) : Go p e below s n0 Q nc ns (T.setTop (mkF m pc Ls (.int y :: .int x :: rest))) := by
  subst hN; exact go_back (fun _ j => XS.icmpNo X.here hx rfl hd rfl (cP_no q) j) k
theorem g_icmp (X : Wk p l e R s m args below meth c n1 Z Ts Lt T h cells slots) (hx : p.tables.exec = Jvm.exec) {cd : ClassFile.Cond} {o : Int} {x y : Int32} {pcY pcN : Nat} (hd : decode c.code pc = .ok (.if_icmp cd o, 3)) (ho : 0 ≤ (pc : Int) + o) (hY : ((pc : Int) + o).toNat = pcY) (hN : pc + 3 = pcN) (kY : cP cd x y → Go p e below s n0 Q nc ns (T.setTop (mkF m pcY Ls rest))) (kN : ¬ cP cd x y → Go p e below s n0 Q nc ns (T.setTop (mkF m pcN Ls rest))) : Go p e below s n0 Q nc ns (T.setTop (mkF m pc Ls (.int y :: .int x :: rest))) := by
  by_cases q : cP cd x y
  · exact g_icmpY X hx hd ho hY q (kY q)
  · exact g_icmpN X hx hd hN q (kN q)
theorem g_ifnullY (X : Wk p l e R s m args below meth c n1 Z Ts Lt T h cells slots) (hx : p.tables.exec = Jvm.exec) {o : Int} {pcY : Nat} (hd : decode c.code pc = .ok (.ifnull o, 3)) (ho : 0 ≤ (pc : Int) + o) (hY : ((pc : Int) + o).toNat = pcY) (k : Go p e below s n0 Q nc ns (T.setTop (mkF m pcY Ls rest))) : Go p e below s n0 Q nc ns (T.setTop (mkF m pc Ls (.null :: rest))) :=
  go_back (fun _ j => XS.ifnullYes X.here hx rfl rfl hd rfl ho hY j) k
theorem g_ifnullN (X : Wk p l e R s m args below meth c n1 Z Ts Lt T h cells slots) (hx : p.tables.exec = Jvm.exec) {o : Int} {b : Addr} {pcN : Nat} (hd : decode c.code pc = .ok (.ifnull o, 3)) (hN : pc + 3 = pcN) (k : Go p e below s n0 Q nc ns (T.setTop (mkF m pcN Ls rest))) : Go p e below s n0 Q nc ns (T.setTop (mkF m pc Ls (.ref b :: rest))) := by
  subst hN; exact go_back (fun _ j => XS.ifnullNo X.here hx rfl hd rfl j) k
theorem g_ifnonnullY (X : Wk p l e R s m args below meth c n1 Z Ts Lt T h cells slots) (hx : p.tables.exec = Jvm.exec) {o : Int} {b : Addr} {pcY : Nat} (hd : decode c.code pc = .ok (.ifnonnull o, 3)) (ho : 0 ≤ (pc : Int) + o) (hY : ((pc : Int) + o).toNat = pcY) (k : Go p e below s n0 Q nc ns (T.setTop (mkF m pcY Ls rest))) : Go p e below s n0 Q nc ns (T.setTop (mkF m pc Ls (.ref b :: rest))) :=
  go_back (fun _ j => XS.ifnonnullYes X.here hx rfl rfl hd rfl ho hY j) k
theorem g_ifnonnullN (X : Wk p l e R s m args below meth c n1 Z Ts Lt T h cells slots) (hx : p.tables.exec = Jvm.exec) {o : Int} {pcN : Nat} (hd : decode c.code pc = .ok (.ifnonnull o, 3)) (hN : pc + 3 = pcN) (k : Go p e below s n0 Q nc ns (T.setTop (mkF m pcN Ls rest))) : Go p e below s n0 Q nc ns (T.setTop (mkF m pc Ls (.null :: rest))) := by
  subst hN; exact go_back (fun _ j => XS.ifnonnullNo X.here hx rfl hd rfl j) k
theorem g_normI {x z : Int32} (hz : x = z) (k : Go p e below s n0 Q nc ns (T.setTop (mkF m pc Ls (.int z :: rest)))) : Go p e below s n0 Q nc ns (T.setTop (mkF m pc Ls (.int x :: rest))) := hz ▸ k
theorem g_normD {x z : UInt64} (hz : x = z) (k : Go p e below s n0 Q nc ns (T.setTop (mkF m pc Ls (.double z :: rest)))) : Go p e below s n0 Q nc ns (T.setTop (mkF m pc Ls (.double x :: rest))) := hz ▸ k
theorem g_iincC (X : Wk p l e R s m args below meth c n1 Z Ts Lt T h cells slots) (hx : p.tables.exec = Jvm.exec) {k : Nat} {cst : Int} {x z : Int32} {l' : Array Slot} (hp : pc + 3 = pc') (hd : decode c.code pc = .ok (.iinc k cst, 3)) (hl : Ls[k]? = some (.val (.int x))) (hz : x + Int32.ofInt cst = z) (hl' : storeLocals Ls k (.int z) = some l') (q : Go p e below s n0 Q nc ns (T.setTop (mkF m pc' l' st))) : Go p e below s n0 Q nc ns (T.setTop (mkF m pc Ls st)) := by
  subst hz; exact g_iinc X hx hp hd hl hl' q
theorem g_ldcI (X : Wk p l e R s m args below meth c n1 Z Ts Lt T h cells slots) (hx : p.tables.exec = Jvm.exec) (hZ : Z.Warmed39 s.vm) {own : String} {index : Nat} {v : Int32} (hown : s.vm.findClass own = some m.cls) (w : (Jvm.Cond.constant own index v).before a0 Z = true) (hp : pc + 2 = pc') (hd : decode c.code pc = .ok (.ldc index, 2))
    (k : Go p e below s n0 Q nc ns (T.setTop (mkF m pc' Ls (.int v :: st)))) : Go p e below s n0 Q nc ns (T.setTop (mkF m pc Ls st)) := by
  subst hp; obtain ⟨_, _, X, -, -, B⟩ := X; replace hZ := B.hZ hZ; replace hown := B.fc hown
  exact go_back (X.ldcInt hx hown (mvT hZ w) (g := mkF m pc Ls st) rfl hd) k
theorem g_ldc2L (X : Wk p l e R s m args below meth c n1 Z Ts Lt T h cells slots) (hx : p.tables.exec = Jvm.exec) (hZ : Z.Warmed39 s.vm) {own : String} {index : Nat} {v : Int64} (hown : s.vm.findClass own = some m.cls) (w : (Jvm.Cond.constantLong own index v).before a0 Z = true) (hp : pc + 3 = pc') (hd : decode c.code pc = .ok (.ldc2_w index, 3))
    (k : Go p e below s n0 Q nc ns (T.setTop (mkF m pc' Ls (.long v :: st)))) : Go p e below s n0 Q nc ns (T.setTop (mkF m pc Ls st)) := by
  subst hp; obtain ⟨_, _, X, -, -, B⟩ := X; replace hZ := B.hZ hZ; replace hown := B.fc hown
  exact go_back (X.ldc2Long hx hown (mvT hZ w) (g := mkF m pc Ls st) rfl hd) k
theorem g_ldc2D (X : Wk p l e R s m args below meth c n1 Z Ts Lt T h cells slots) (hx : p.tables.exec = Jvm.exec) (hZ : Z.Warmed39 s.vm) {own : String} {index : Nat} {v : UInt64} (hown : s.vm.findClass own = some m.cls) (w : (Jvm.Cond.constantDouble own index v).before a0 Z = true) (hp : pc + 3 = pc') (hd : decode c.code pc = .ok (.ldc2_w index, 3))
    (k : Go p e below s n0 Q nc ns (T.setTop (mkF m pc' Ls (.double v :: st)))) : Go p e below s n0 Q nc ns (T.setTop (mkF m pc Ls st)) := by
  subst hp; obtain ⟨_, _, X, -, -, B⟩ := X; replace hZ := B.hZ hZ; replace hown := B.fc hown
  exact go_back (X.ldc2DoubleC hx hown (mvT hZ w) (g := mkF m pc Ls st) rfl hd) k
theorem g_getF (X : Wk p l e R s m args below meth c n1 Z Ts Lt T h cells slots) (hx : p.tables.exec = Jvm.exec) (hZ : Z.Warmed39 s.vm) {own R0 O n d : String} {index : Nat} (hown : s.vm.findClass own = some m.cls) (w : (Jvm.Cond.fieldLink own index R0 n d).before a0 Z = true) (via : Via Z R0 O n d) {a : Addr} {v : Value} (F : Fld Z h a O n d v) (hp : pc + 3 = pc') (hd : decode c.code pc = .ok (.getfield index, 3))
    (k : ∀ T', Wk p l e R s m args below meth c n1 Z Ts Lt T' h cells slots → Go p e below s n0 Q nc ns (T'.setTop (mkF m pc' Ls (v :: rest)))) : Go p e below s n0 Q nc ns (T.setTop (mkF m pc Ls (.ref a :: rest))) := by
  subst hp; obtain ⟨locs, vm0, X, N, eT, B⟩ := X; replace hZ := B.hZ hZ; replace hown := B.fc hown
  obtain ⟨T', X', e', b⟩ := getF X hx hZ hown (host := "") (Or.inl w) via eT F (g := mkF m pc Ls (.ref a :: rest)) rfl rfl hd
  exact go_back b (k T' ⟨locs, vm0, X', N, e', B⟩)
theorem g_getS (X : Wk p l e R s m args below meth c n1 Z Ts Lt T h cells slots) (hx : p.tables.exec = Jvm.exec) (hZ : Z.Warmed39 s.vm) {own R0 O n d : String} {index : Nat} (hown : s.vm.findClass own = some m.cls) (w : (Jvm.Cond.fieldLink own index R0 n d).before a0 Z = true) (via : Via Z R0 O n d) {v : Value} (F : Sta Z h O n d v) (hp : pc + 3 = pc') (hd : decode c.code pc = .ok (.getstatic index, 3))
    (k : ∀ T', Wk p l e R s m args below meth c n1 Z Ts Lt T' h cells slots → Go p e below s n0 Q nc ns (T'.setTop (mkF m pc' Ls (v :: st)))) : Go p e below s n0 Q nc ns (T.setTop (mkF m pc Ls st)) := by
  subst hp; obtain ⟨locs, vm0, X, N, eT, B⟩ := X; replace hZ := B.hZ hZ; replace hown := B.fc hown
  obtain ⟨T', X', e', b⟩ := getS X hx hZ hown w via eT F (g := mkF m pc Ls st) rfl hd (host := "")
  exact go_back b (k T' ⟨locs, vm0, X', N, e', B⟩)
theorem g_putF (X : Wk p l e R s m args below meth c n1 Z Ts Lt T h cells slots) (hx : p.tables.exec = Jvm.exec) (hZ : Z.Warmed39 s.vm) {own R0 O n d C : String} {index kk : Nat} {ty : FieldType} (hown : s.vm.findClass own = some m.cls) (w : (Jvm.Cond.fieldLink own index R0 n d).before a0 Z = true) (via : Via Z R0 O n d) {a : Addr} {v old : Value} (F : Fld Z h a O n d old) (E : Exa Z h a C)
    (L : (Jvm.Cond.lays C O n d).before a0 Z = true ∨ ((Jvm.Cond.laysFinal C O n d).before a0 Z = true ∧ own = O ∧ meth.name = "<init>")) (wi : (Jvm.Cond.instantiable C kk).before a0 Z = true) (hty : parseFieldDescriptor d = some ty) (hn : narrow ty v = v) (hf : fits ty v = true) (hna : n1 ≤ a) (hp : pc + 3 = pc') (hd : decode c.code pc = .ok (.putfield index, 3))
    (k : ∀ T' h', Wk p l e R s m args below meth c n1 Z Ts Lt T' h' cells slots → Wr h h' a (Jvm.RoadKit.slotOf Z O n d) v → Go p e below s n0 Q nc ns (T'.setTop (mkF m pc' Ls rest))) : Go p e below s n0 Q nc ns (T.setTop (mkF m pc Ls (v :: .ref a :: rest))) := by
  subst hp; obtain ⟨locs, vm0, X, N, eT, B⟩ := X; replace hZ := B.hZ hZ; replace hown := B.fc hown
  obtain ⟨T', h', X', e', W', b⟩ := putF X hx hZ hown (host := "") (Or.inl w) via eT F E L wi hty hn hf (g := mkF m pc Ls (v :: .ref a :: rest)) rfl rfl hd
  exact go_back b (k T' h' ⟨_, vm0, X', Fr.snoc X' N hna, e', B.grow (Nat.le_of_eq W'.size.symm)⟩ W')
theorem g_newO (X : Wk p l e R s m args below meth c n1 Z Ts Lt T h cells slots) (hx : p.tables.exec = Jvm.exec) (hZ : Z.Warmed39 s.vm) {own C : String} {index n : Nat} (hown : s.vm.findClass own = some m.cls) (w : (Jvm.Cond.classLink own index C).before a0 Z = true) (wi : (Jvm.Cond.instantiable C n).before a0 Z = true) (wz : (Jvm.Cond.initialized C).before a0 Z = true) (hp : pc + 3 = pc') (hd : decode c.code pc = .ok (.new index, 3)) (hc : cells + 1 ≤ R.cells) (hl : slots + n ≤ R.slots)
    (k : ∀ T' h' a, a = h.size → Wk p l e R s m args below meth c n1 Z Ts Lt T' h' (cells + 1) (slots + n) → Ext h h' → Exa Z h' a C → (∀ {O nm d : String} {ty : FieldType}, Laid Z a0 C O nm d → parseFieldDescriptor d = some ty → Fld Z h' a O nm d (defaultValue ty)) → Go p e below s n0 Q nc ns (T'.setTop (mkF m pc' Ls (.ref a :: st)))) : Go p e below s n0 Q nc ns (T.setTop (mkF m pc Ls st)) := by
  subst hp; obtain ⟨locs, vm0, X, N, eT, B⟩ := X; replace hZ := B.hZ hZ; replace hown := B.fc hown
  obtain ⟨T', h', X', e', E', A', D', -, b⟩ := newO X hx hZ hown w wi wz eT (g := mkF m pc Ls st) rfl hd hc hl
  exact go_back b (k T' h' h.size rfl ⟨_, vm0, X', N, e', B.grow E'.1⟩ E' A' (fun L q => D' L q))
theorem g_initO (X : Wk p l e R s m args below meth c n1 Z Ts Lt T h cells slots) (hx : p.tables.exec = Jvm.exec) (hZ : Z.Warmed39 s.vm) {own : String} {index : Nat} (hown : s.vm.findClass own = some m.cls) (w1 : (Jvm.Cond.methodLink own index Lib.objectInit).before a0 Z = true) (w2 : (Jvm.Cond.instanceMethod Lib.objectInit).before a0 Z = true) (w3 : (Jvm.Cond.code Lib.objectInit ⟨#[0xb1]⟩ 1 none).before a0 Z = true) {a : Addr} (hsz : Ls.size = c.maxLocals) (hp : pc + 3 = pc') (hd : decode c.code pc = .ok (.invokespecial index, 3)) (hf : 1 ≤ R.frames) {W : Nat} (hW : 2 * 0 + (rest.map fun v => v.category).sum ≤ W) (hl : W + 12 ≤ R.locals)
    (k : ∀ T', Wk p l e R s m args below meth c n1 Z Ts Lt T' h cells slots → Go p e below s n0 Q nc ns (T'.setTop (mkF m pc' Ls rest))) : Go p e below s n0 Q nc ns (T.setTop (mkF m pc Ls (.ref a :: rest))) := by
  subst hp; obtain ⟨locs, vm0, X, N, eT, B⟩ := X; replace hZ := B.hZ hZ; replace hown := B.fc hown
  obtain ⟨T', X', e', b⟩ := initO X hx hZ hown w1 w2 w3 eT (g := mkF m pc Ls (.ref a :: rest)) rfl hsz rfl hd hf hW hl
  exact go_back b (k T' ⟨_, vm0, X', N, e', B⟩)

theorem own_nf {s : State} {args : Array Value} {C : String} {y y' y0 : MethodName} (hcl : y'.cls = y.cls) (w : (Jvm.Cond.selects C y0 y').before args s = true) : NotFace s y := fun r0 h0 => by
  obtain ⟨c2, r2, m2, q1, q2, q3, q4, kP, hkP, hkPi⟩ := Cond.selects_spec w
  have a := findClass_of_methodNamed h0
  have b := findClass_of_methodNamed q3
  rw [hcl] at b
  have q : m2.cls = r0.cls := Option.some.inj (b.symm.trans a)
  rw [q] at hkP
  exact ⟨kP, hkP, hkPi⟩
theorem own_same {s : State} {args a1 : Array Value} {y : MethodName} (nf : NotFace s y) (wi : (Jvm.Cond.instanceMethod y).before args s = true) (hy : y.cls ≠ "java/lang/invoke/MethodHandle" ∧ y.cls ≠ "java/lang/invoke/VarHandle") : (Jvm.Cond.sameMethod y.cls y.cls y.name y.desc).before a1 s = true := by
  obtain ⟨mk, methM, hn, hm, -, -⟩ := Cond.instanceMethod_spec wi
  obtain ⟨kr, hk, hi⟩ := nf _ hn
  have hc := findClass_of_methodNamed hn
  have hn' : s.methodNamed? ⟨y.cls, y.name, y.desc⟩ = some mk := hn
  simp [Cond.before, Cond.holds, Cond.value, hc, State.methodFound?_of_named hn hy, hn', hk, hi]
/-- a private method, the word 'selects' said of a subclass -/
theorem own_privS {locs : List Loc} (X : Stand p l e R s m args below meth c T locs cells slots) (hexec : p.tables.exec = Jvm.exec) {own C : String} {index : Nat} {y : MethodName} {bytes : ByteArray} {maxL : Nat} {ret : Option FieldType}
    (hown : s.vm.findClass own = some m.cls) (hlink : (Cond.methodLink own index y).before args s = true) (hinst : (Cond.instanceMethod y).before args s = true) (hsel : (Cond.selects C y y).before args s = true)
    (hpriv : s.PrivateAt y) (hcode : (Cond.code y bytes maxL ret).before args s = true) (hy : y.cls ≠ "java/lang/invoke/MethodHandle" ∧ y.cls ≠ "java/lang/invoke/VarHandle")
    {W : Nat} {Pre : Free.Pt → Array Value → Prop} {Post : Free.Pt → Array Value → Option Value → Free.Pt → Prop} (hK : Free.BackS l R p e below s args y 3 W Pre Post)
    {g : JFrame} (hg : g.method = m) (hsize : g.locals.size = c.maxLocals) {s₀ : State} (hcome : Steps p.tables e below s₀ (T.setTop g)) {a : Addr} {cell : Cell} (hcell : T.heap[a]? = some cell) (hobj : ∀ q, cell.vm ≠ .statics q)
    {argsL rest : List Value} (hlen : ∀ sig, parseMethodDescriptor y.desc = some sig → argsL.length = sig.parameters.length)
    (hstack : g.stack = argsL.reverse ++ .ref a :: rest) (hW : 2 * g.monitorRoom + (rest.map fun v => v.category).sum ≤ W) (hdg : decode c.code g.pc = .ok (.invokevirtual index, 3))
    (hpre : ∀ vm₁, s.WarmedH vm₁ → Pre ⟨T.setVm vm₁, locs, cells, slots⟩ (.ref a :: argsL).toArray) :
    ∃ (v : Option Value) (vm₁ : Vm) (B : Free.Pt), s.WarmedH vm₁ ∧ Stand p l e R (s.setVm B.U.vm) m args below meth c B.U B.locs B.cells B.slots ∧ s.Since B.U.vm B.U.heap.size ∧ T.heap.size ≤ B.U.heap.size ∧ Post ⟨T.setVm vm₁, locs, cells, slots⟩ (.ref a :: argsL).toArray v B ∧
      Steps p.tables e below s₀ (B.U.setTop { g with pc := g.pc + 3, stack := v.toList ++ rest }) := by
  obtain ⟨mk, mM, hn, hmM, hst, hab⟩ := Cond.instanceMethod_spec hinst
  obtain ⟨m3, cM, hm3, -, -, -, -, -, -, hsig⟩ := Cond.code_spec hn hcode
  cases hmM.symm.trans hm3
  obtain ⟨c2, r2, m2, -, -, q3, -, kP, hkP, hkPi⟩ := Cond.selects_spec hsel
  cases hn.symm.trans q3
  obtain ⟨vm₁, X₁, st₁⟩ := X.invokevirtual hexec hown hlink hn hmM hst hkP hkPi hy (a := a) (cell := cell) hcell hobj (selectMethod_private hmM (hpriv mk mM hn hmM)) hmM hab hkP hkPi (g := g) hg (argsL := argsL) (rest := rest) (hlen _ hsig) hstack hdg
  obtain ⟨v, B, X', hS, hgr, hpost, hsteps⟩ := hK m meth c ⟨T.setVm vm₁, locs, cells, slots⟩ { g with stack := rest } (.invokevirtual index) mk (.ref a :: argsL).toArray X₁ hg hsize hdg hW (X₁.named hn) (hpre vm₁ X₁.warmed)
  exact ⟨v, vm₁, B, X₁.warmed, X', hS, hgr, hpost, (hcome.trans (st₁ _ fun acts => by rw [doInvoke_state]; exact Steps.refl _)).trans hsteps⟩
/-- more texts may be told of -/
theorem Wk.more (X : Wk p l e R s m args below meth c n1 Z Ts Lt T h cells slots) (q : ∀ t ∈ Ts, t ∈ Ts') : Wk p l e R s m args below meth c n1 Z Ts' Lt T h cells slots := by
  obtain ⟨locs, vm0, X, N, eT, B⟩ := X
  obtain ⟨w, ⟨more, e1, e2⟩, t⟩ := B
  exact ⟨locs, vm0, X, N, eT, w, ⟨more, e1, fun r hr => by obtain ⟨t, ht, u⟩ := e2 r hr; exact ⟨t, q t ht, u⟩⟩, t⟩
section Calls
variable {y z : MethodName} {bytes : ByteArray} {maxL : Nat} {ret : Option FieldType} {rm : Room} {as : Array Value} {Qc : Option Value → Heap → Prop} {own : String} {index W : Nat} {argsL : List Value} {ps : List FieldType} {r : Option FieldType}
theorem backW {len : Nat} (hM : Con l Z n1 Ts Ts' y bytes maxL ret [] rm as h Qc) (hZ : Z.Warmed39 vm0) (wc : (Jvm.Cond.code y bytes maxL ret).before a0 Z = true) (wz : (Jvm.Cond.initialized y.cls).before a0 Z = true) (hf : rm.frames + 1 ≤ R.frames) (hl : W + (maxL + 11) + rm.locals ≤ R.locals) (I : IB Z vm0 Ts) :
    BackS l R p e below (s.setVm vm0) args y len W (fun A a => a = as ∧ A.U.heap = h ∧ A.cells + rm.cells ≤ R.cells ∧ A.slots + rm.slots ≤ R.slots)
      (fun A _ v B => ∃ L, (Fr n1 L ∧ Qc v B.U.heap ∧ IB Z B.U.vm Ts') ∧ B.locs = A.locs ++ L ∧ B.cells = A.cells + rm.cells ∧ B.slots = A.slots + rm.slots) :=
  BackS.of_freeW (bytes := bytes) (maxL := maxL) (ret := ret) (E := fun _ first o t L k n => k = rm.cells ∧ n = rm.slots ∧ ∃ v, o = .returned v ∧ (Fr n1 L ∧ Qc v t.heap ∧ IB Z t.vm Ts')) hM hf hl
    (fun m meth c A a Y hp => have hU : Z.Warmed39 A.U.vm := wtrans (s := s.setVm vm0) hZ Y.warmed
      ⟨by show (Jvm.Cond.and _ .tt).before a A.U = true; rw [Cond.before_and, mv hU wc]; rfl, mv hU wc, mv hU wz, hp.2.2.1, hp.2.2.2⟩)
    (fun m meth c A a g mk Y hp => ⟨hp.1, wtrans (s := s.setVm vm0) hZ Y.warmed, hp.2.1, by
      obtain ⟨more, e1, e2⟩ := I
      exact ⟨more, (show A.U.vm.interned = _ from Y.warmed.interned_eq).trans e1, e2⟩⟩) (fun _ _ _ _ _ _ _ _ _ => trivial)
    (fun _ _ _ _ ⟨v, L, h1, h2, h3⟩ => ⟨L, _, _, h3, rfl, rfl, v, h1, h2⟩)
    (fun m meth c A a g mk v t L k n Y hp _ _ ⟨e1, e2, v', e3, e4⟩ => by cases e3; subst e1 e2; exact ⟨L, e4, rfl, rfl, rfl⟩)
theorem g_callS (X : Wk p l e R s m args below meth c n1 Z Ts Lt T h cells slots) (hx : p.tables.exec = Jvm.exec) (hZ : Z.Warmed39 s.vm) (hown : s.vm.findClass own = some m.cls) (w1 : (Jvm.Cond.methodLink own index y).before a0 Z = true) (w2 : (Jvm.Cond.static y).before a0 Z = true) (w3 : (Jvm.Cond.initialized y.cls).before a0 Z = true) (w4 : (Jvm.Cond.code y bytes maxL ret).before a0 Z = true) 
    (hy : y.cls ≠ "java/lang/invoke/MethodHandle" ∧ y.cls ≠ "java/lang/invoke/VarHandle") (hM : Con l Z n1 Ts Ts' y bytes maxL ret [] rm as h Qc) (hlen : parseMethodDescriptor y.desc = some ⟨ps, r⟩) (hl : argsL.length = ps.length) (has : as = argsL.toArray) (hp : pc + 3 = pc') (hd : decode c.code pc = .ok (.invokestatic index, 3))
    (hst : st = argsL.reverse ++ rest)
    (k : ∀ v T' h', Wk p l e R s m args below meth c n1 Z Ts' Lt T' h' (cells + rm.cells) (slots + rm.slots) → Qc v h' → Go p e below s n0 Q nc ns (T'.setTop (mkF m pc' Ls (v.toList ++ rest)))) (hsz : Ls.size = c.maxLocals := by rw [‹c.maxLocals = _›]; rfl) (hW : 2 * 0 + (rest.map fun v => v.category).sum ≤ W := by exact Nat.le_of_eq rfl) (hf : rm.frames + 1 ≤ R.frames := by decide) (hlo : W + (maxL + 11) + rm.locals ≤ R.locals := by decide) (hc : cells + rm.cells ≤ R.cells := by decide) (hs : slots + rm.slots ≤ R.slots := by decide) : Go p e below s n0 Q nc ns (T.setTop (mkF m pc Ls st)) := by
  subst hp; subst has; obtain ⟨locs, vm0, X, N, eT, B⟩ := X; replace hZ := B.hZ hZ; replace hown := B.fc hown
  obtain ⟨v, vm1, ⟨U, L1, c1, s1⟩, -, X', hS, hgr, ⟨Lc, hQ, l1, y1, z1⟩, b⟩ := Jvm.RoadKit.callSS X hx hown (mvT hZ w1) (mvT hZ w2) (mvT hZ w3) (mvT hZ w4) hy (backW (W := W) hM hZ w4 w3 hf hlo B.ib) (g := mkF m pc Ls st) rfl hsz (argsL := argsL) (rest := rest) (lenOf hlen hl) hst hW hd (fun _ _ => ⟨rfl, eT, hc, hs⟩)
  dsimp only [Pt.U, Pt.locs, Pt.cells, Pt.slots] at X' l1 y1 z1 b hQ hS hgr
  subst l1 y1 z1
  exact go_back (fun _ j => b.trans j) (k v U U.heap ⟨_, U.vm, X', Fr.app N hQ.1, rfl, B.call hS (by rw [← eT]; exact hgr) (Nat.le_refl _) hQ.2.2⟩ hQ.2.1)
theorem g_callI (X : Wk p l e R s m args below meth c n1 Z Ts Lt T h cells slots) (hx : p.tables.exec = Jvm.exec) (hZ : Z.Warmed39 s.vm) (hown : s.vm.findClass own = some m.cls) (hy1 : y.name = "<init>") (w1 : (Jvm.Cond.methodLink own index y).before a0 Z = true) (w2 : (Jvm.Cond.instanceMethod y).before a0 Z = true) (w3 : (Jvm.Cond.initialized y.cls).before a0 Z = true) (w4 : (Jvm.Cond.code y bytes maxL none).before a0 Z = true) 
    (hy : y.cls ≠ "java/lang/invoke/MethodHandle" ∧ y.cls ≠ "java/lang/invoke/VarHandle") {a : Addr} (hM : Con l Z n1 Ts Ts' y bytes maxL none [] rm as h Qc) (hlen : parseMethodDescriptor y.desc = some ⟨ps, r⟩) (hl : argsL.length = ps.length) (has : as = (Value.ref a :: argsL).toArray) (hp : pc + 3 = pc') (hd : decode c.code pc = .ok (.invokespecial index, 3))
    (hst : st = argsL.reverse ++ .ref a :: rest)
    (k : ∀ v T' h', Wk p l e R s m args below meth c n1 Z Ts' Lt T' h' (cells + rm.cells) (slots + rm.slots) → Qc v h' → Go p e below s n0 Q nc ns (T'.setTop (mkF m pc' Ls (v.toList ++ rest)))) (hsz : Ls.size = c.maxLocals := by rw [‹c.maxLocals = _›]; rfl) (hW : 2 * 0 + (rest.map fun v => v.category).sum ≤ W := by exact Nat.le_of_eq rfl) (hf : rm.frames + 1 ≤ R.frames := by decide) (hlo : W + (maxL + 11) + rm.locals ≤ R.locals := by decide) (hc : cells + rm.cells ≤ R.cells := by decide) (hs : slots + rm.slots ≤ R.slots := by decide) : Go p e below s n0 Q nc ns (T.setTop (mkF m pc Ls st)) := by
  subst hp; subst has; obtain ⟨locs, vm0, X, N, eT, B⟩ := X; replace hZ := B.hZ hZ; replace hown := B.fc hown
  obtain ⟨v, vm1, ⟨U, L1, c1, s1⟩, -, X', hS, hgr, ⟨Lc, hQ, l1, y1, z1⟩, b⟩ := X.specialBackS hx hy1 hown (mvT hZ w1) (mvT hZ w2) (mvT hZ w4) hy (backW (W := W) hM hZ w4 w3 hf hlo B.ib) (g := mkF m pc Ls st) rfl hsz (Steps.refl _) (argsL := argsL) (rest := rest) (lenOf hlen hl) hst hW hd (fun _ _ => ⟨rfl, eT, hc, hs⟩)
  dsimp only [Pt.U, Pt.locs, Pt.cells, Pt.slots] at X' l1 y1 z1 b hQ hS hgr
  subst l1 y1 z1
  exact go_back (fun _ j => b.trans j) (k v U U.heap ⟨_, U.vm, X', Fr.app N hQ.1, rfl, B.call hS (by rw [← eT]; exact hgr) (Nat.le_refl _) hQ.2.2⟩ hQ.2.1)
theorem g_callV (X : Wk p l e R s m args below meth c n1 Z Ts Lt T h cells slots) (hx : p.tables.exec = Jvm.exec) (hZ : Z.Warmed39 s.vm) (hown : s.vm.findClass own = some m.cls) {C : String} (w1 : (Jvm.Cond.methodLink own index y).before a0 Z = true) (w2 : (Jvm.Cond.declares y).before a0 Z = true) (w5 : (Jvm.Cond.selects C y y).before a0 Z = true) (w6 : (Jvm.Cond.instanceMethod y).before a0 Z = true) (w3 : (Jvm.Cond.initialized y.cls).before a0 Z = true) (w4 : (Jvm.Cond.code y bytes maxL ret).before a0 Z = true) 
    (hy : y.cls ≠ "java/lang/invoke/MethodHandle" ∧ y.cls ≠ "java/lang/invoke/VarHandle") {a : Addr} (E : Exa Z h a C) (hM : Con l Z n1 Ts Ts' y bytes maxL ret [] rm as h Qc) (hlen : parseMethodDescriptor y.desc = some ⟨ps, r⟩) (hl : argsL.length = ps.length) (has : as = (Value.ref a :: argsL).toArray) (hp : pc + 3 = pc') (hd : decode c.code pc = .ok (.invokevirtual index, 3))
    (hst : st = argsL.reverse ++ .ref a :: rest)
    (k : ∀ v T' h', Wk p l e R s m args below meth c n1 Z Ts' Lt T' h' (cells + rm.cells) (slots + rm.slots) → Qc v h' → Go p e below s n0 Q nc ns (T'.setTop (mkF m pc' Ls (v.toList ++ rest)))) (hsz : Ls.size = c.maxLocals := by rw [‹c.maxLocals = _›]; rfl) (hW : 2 * 0 + (rest.map fun v => v.category).sum ≤ W := by exact Nat.le_of_eq rfl) (hf : rm.frames + 1 ≤ R.frames := by decide) (hlo : W + (maxL + 11) + rm.locals ≤ R.locals := by decide) (hc : cells + rm.cells ≤ R.cells := by decide) (hs : slots + rm.slots ≤ R.slots := by decide) : Go p e below s n0 Q nc ns (T.setTop (mkF m pc Ls st)) := by
  subst hp; subst has; obtain ⟨locs, vm0, X, N, eT, B⟩ := X; replace hZ := B.hZ hZ; replace hown := B.fc hown
  obtain ⟨cq, kq, qa, qb, qc⟩ := isOf hZ eT E
  obtain ⟨v, vm1, ⟨U, L1, c1, s1⟩, -, X', hS, hgr, ⟨Lc, hQ, l1, y1, z1⟩, b⟩ := X.virtualBackS hx (y := y) (z := y) hown (mvT hZ w1) (mvT hZ w2) (notFace_of_selects (args := #[]) (mvT hZ w5)) (mvT hZ w5) (mvT hZ w6) hy (backW (W := W) hM hZ w4 w3 hf hlo B.ib) qa qc (g := mkF m pc Ls st) rfl hsz (Steps.refl _) (argsL := argsL) (rest := rest) (lenOf hlen hl) hst hW hd (fun _ _ => ⟨rfl, eT, hc, hs⟩)
  dsimp only [Pt.U, Pt.locs, Pt.cells, Pt.slots] at X' l1 y1 z1 b hQ hS hgr
  subst l1 y1 z1
  exact go_back (fun _ j => b.trans j) (k v U U.heap ⟨_, U.vm, X', Fr.app N hQ.1, rfl, B.call hS (by rw [← eT]; exact hgr) (Nat.le_refl _) hQ.2.2⟩ hQ.2.1)
theorem g_callVS (X : Wk p l e R s m args below meth c n1 Z Ts Lt T h cells slots) (hx : p.tables.exec = Jvm.exec) (hZ : Z.Warmed39 s.vm) (hown : s.vm.findClass own = some m.cls) {C S : String} (w1 : (Jvm.Cond.methodLink own index y).before a0 Z = true) (w2 : (Jvm.Cond.declares y).before a0 Z = true) (w0 : (Jvm.Cond.superclass y.cls S).before a0 Z = true) (w5 : (Jvm.Cond.selects C y z).before a0 Z = true) (w6 : (Jvm.Cond.instanceMethod z).before a0 Z = true) (w3 : (Jvm.Cond.initialized z.cls).before a0 Z = true) (w4 : (Jvm.Cond.code z bytes maxL ret).before a0 Z = true) 
    (hy : y.cls ≠ "java/lang/invoke/MethodHandle" ∧ y.cls ≠ "java/lang/invoke/VarHandle") {a : Addr} (E : Exa Z h a C) (hM : Con l Z n1 Ts Ts' z bytes maxL ret [] rm as h Qc) (hlen : parseMethodDescriptor y.desc = some ⟨ps, r⟩) (hl : argsL.length = ps.length) (has : as = (Value.ref a :: argsL).toArray) (hp : pc + 3 = pc') (hd : decode c.code pc = .ok (.invokevirtual index, 3))
    (hst : st = argsL.reverse ++ .ref a :: rest)
    (k : ∀ v T' h', Wk p l e R s m args below meth c n1 Z Ts' Lt T' h' (cells + rm.cells) (slots + rm.slots) → Qc v h' → Go p e below s n0 Q nc ns (T'.setTop (mkF m pc' Ls (v.toList ++ rest)))) (hsz : Ls.size = c.maxLocals := by rw [‹c.maxLocals = _›]; rfl) (hW : 2 * 0 + (rest.map fun v => v.category).sum ≤ W := by exact Nat.le_of_eq rfl) (hf : rm.frames + 1 ≤ R.frames := by decide) (hlo : W + (maxL + 11) + rm.locals ≤ R.locals := by decide) (hc : cells + rm.cells ≤ R.cells := by decide) (hs : slots + rm.slots ≤ R.slots := by decide) : Go p e below s n0 Q nc ns (T.setTop (mkF m pc Ls st)) := by
  subst hp; subst has; obtain ⟨locs, vm0, X, N, eT, B⟩ := X; replace hZ := B.hZ hZ; replace hown := B.fc hown
  obtain ⟨cq, kq, qa, qb, qc⟩ := isOf hZ eT E
  obtain ⟨v, vm1, ⟨U, L1, c1, s1⟩, -, X', hS, hgr, ⟨Lc, hQ, l1, y1, z1⟩, b⟩ := X.virtualBackS hx (y := y) (z := z) hown (mvT hZ w1) (mvT hZ w2) (nf_super (args := #[]) (mvT hZ w0)) (mvT hZ w5) (mvT hZ w6) hy (backW (W := W) hM hZ w4 w3 hf hlo B.ib) qa qc (g := mkF m pc Ls st) rfl hsz (Steps.refl _) (argsL := argsL) (rest := rest) (lenOf hlen hl) hst hW hd (fun _ _ => ⟨rfl, eT, hc, hs⟩)
  dsimp only [Pt.U, Pt.locs, Pt.cells, Pt.slots] at X' l1 y1 z1 b hQ hS hgr
  subst l1 y1 z1
  exact go_back (fun _ j => b.trans j) (k v U U.heap ⟨_, U.vm, X', Fr.app N hQ.1, rfl, B.call hS (by rw [← eT]; exact hgr) (Nat.le_refl _) hQ.2.2⟩ hQ.2.1)
theorem g_callVT (X : Wk p l e R s m args below meth c n1 Z Ts Lt T h cells slots) (hx : p.tables.exec = Jvm.exec) (hZ : Z.Warmed39 s.vm) (hown : s.vm.findClass own = some m.cls) {C : String} (w1 : (Jvm.Cond.methodLink own index y).before a0 Z = true) (w2 : (Jvm.Cond.declares y).before a0 Z = true) (w0 : (Jvm.Cond.noSuperclass y.cls).before a0 Z = true) (w5 : (Jvm.Cond.selects C y z).before a0 Z = true) (w6 : (Jvm.Cond.instanceMethod z).before a0 Z = true) (w3 : (Jvm.Cond.initialized z.cls).before a0 Z = true) (w4 : (Jvm.Cond.code z bytes maxL ret).before a0 Z = true) 
    (hy : y.cls ≠ "java/lang/invoke/MethodHandle" ∧ y.cls ≠ "java/lang/invoke/VarHandle") {a : Addr} (E : Exa Z h a C) (hM : Con l Z n1 Ts Ts' z bytes maxL ret [] rm as h Qc) (hlen : parseMethodDescriptor y.desc = some ⟨ps, r⟩) (hl : argsL.length = ps.length) (has : as = (Value.ref a :: argsL).toArray) (hp : pc + 3 = pc') (hd : decode c.code pc = .ok (.invokevirtual index, 3))
    (hst : st = argsL.reverse ++ .ref a :: rest)
    (k : ∀ v T' h', Wk p l e R s m args below meth c n1 Z Ts' Lt T' h' (cells + rm.cells) (slots + rm.slots) → Qc v h' → Go p e below s n0 Q nc ns (T'.setTop (mkF m pc' Ls (v.toList ++ rest)))) (hsz : Ls.size = c.maxLocals := by rw [‹c.maxLocals = _›]; rfl) (hW : 2 * 0 + (rest.map fun v => v.category).sum ≤ W := by exact Nat.le_of_eq rfl) (hf : rm.frames + 1 ≤ R.frames := by decide) (hlo : W + (maxL + 11) + rm.locals ≤ R.locals := by decide) (hc : cells + rm.cells ≤ R.cells := by decide) (hs : slots + rm.slots ≤ R.slots := by decide) : Go p e below s n0 Q nc ns (T.setTop (mkF m pc Ls st)) := by
  subst hp; subst has; obtain ⟨locs, vm0, X, N, eT, B⟩ := X; replace hZ := B.hZ hZ; replace hown := B.fc hown
  obtain ⟨cq, kq, qa, qb, qc⟩ := isOf hZ eT E
  obtain ⟨v, vm1, ⟨U, L1, c1, s1⟩, -, X', hS, hgr, ⟨Lc, hQ, l1, y1, z1⟩, b⟩ := X.virtualBackS hx (y := y) (z := z) hown (mvT hZ w1) (mvT hZ w2) (nf_top (args := #[]) (mvT hZ w0)) (mvT hZ w5) (mvT hZ w6) hy (backW (W := W) hM hZ w4 w3 hf hlo B.ib) qa qc (g := mkF m pc Ls st) rfl hsz (Steps.refl _) (argsL := argsL) (rest := rest) (lenOf hlen hl) hst hW hd (fun _ _ => ⟨rfl, eT, hc, hs⟩)
  dsimp only [Pt.U, Pt.locs, Pt.cells, Pt.slots] at X' l1 y1 z1 b hQ hS hgr
  subst l1 y1 z1
  exact go_back (fun _ j => b.trans j) (k v U U.heap ⟨_, U.vm, X', Fr.app N hQ.1, rfl, B.call hS (by rw [← eT]; exact hgr) (Nat.le_refl _) hQ.2.2⟩ hQ.2.1)
theorem g_callIf (X : Wk p l e R s m args below meth c n1 Z Ts Lt T h cells slots) (hx : p.tables.exec = Jvm.exec) (hZ : Z.Warmed39 s.vm) (hown : s.vm.findClass own = some m.cls) {C : String} {count : Nat} (w1 : (Jvm.Cond.methodLink own index y).before a0 Z = true) (w2 : (Jvm.Cond.declares y).before a0 Z = true) (w7 : (Jvm.Cond.interfaceMethod y.cls y.cls y.name y.desc).before a0 Z = true) (hfa : ((Jvm.Cond.interfaceMethod y.cls y.cls y.name y.desc).onTables && (Jvm.Cond.interfaceMethod y.cls y.cls y.name y.desc).keepsFace) = true) (w5 : (Jvm.Cond.selects C y z).before a0 Z = true) (w6 : (Jvm.Cond.instanceMethod z).before a0 Z = true) (w8 : (Jvm.Cond.publicMethod z).before a0 Z = true) (w9 : (Jvm.Cond.unhidden C y.name y.desc).before a0 Z = true) (w10 : (Jvm.Cond.castable C y.cls).before a0 Z = true) (w3 : (Jvm.Cond.initialized z.cls).before a0 Z = true) (w4 : (Jvm.Cond.code z bytes maxL ret).before a0 Z = true) 
    (hy : y.cls ≠ "java/lang/invoke/MethodHandle" ∧ y.cls ≠ "java/lang/invoke/VarHandle") {a : Addr} (E : Exa Z h a C) (hM : Con l Z n1 Ts Ts' z bytes maxL ret [] rm as h Qc) (hlen : parseMethodDescriptor y.desc = some ⟨ps, r⟩) (hl : argsL.length = ps.length) (has : as = (Value.ref a :: argsL).toArray) (hp : pc + 5 = pc') (hd : decode c.code pc = .ok (.invokeinterface index count, 5))
    (hst : st = argsL.reverse ++ .ref a :: rest)
    (k : ∀ v T' h', Wk p l e R s m args below meth c n1 Z Ts' Lt T' h' (cells + rm.cells) (slots + rm.slots) → Qc v h' → Go p e below s n0 Q nc ns (T'.setTop (mkF m pc' Ls (v.toList ++ rest)))) (hsz : Ls.size = c.maxLocals := by rw [‹c.maxLocals = _›]; rfl) (hW : 2 * 0 + (rest.map fun v => v.category).sum ≤ W := by exact Nat.le_of_eq rfl) (hf : rm.frames + 1 ≤ R.frames := by decide) (hlo : W + (maxL + 11) + rm.locals ≤ R.locals := by decide) (hc : cells + rm.cells ≤ R.cells := by decide) (hs : slots + rm.slots ≤ R.slots := by decide) : Go p e below s n0 Q nc ns (T.setTop (mkF m pc Ls st)) := by
  subst hp; subst has; obtain ⟨locs, vm0, X, N, eT, B⟩ := X; replace hZ := B.hZ hZ; replace hown := B.fc hown
  obtain ⟨cq, kq, qa, qb, qc⟩ := isOf hZ eT E
  obtain ⟨v, vm1, ⟨U, L1, c1, s1⟩, -, X', hS, hgr, ⟨Lc, hQ, l1, y1, z1⟩, b⟩ := X.interfaceBackS hx hown (mvT hZ w1) (mvT hZ w2) (mvT hZ w7 hfa) (mvT hZ w5) (mvT hZ w6) (mvT hZ w8) (mvT hZ w9) (mvT hZ w10) hy (backW (W := W) hM hZ w4 w3 hf hlo B.ib) qa qb qc (g := mkF m pc Ls st) rfl hsz (Steps.refl _) (argsL := argsL) (rest := rest) (lenOf hlen hl) hst hW hd (fun _ _ => ⟨rfl, eT, hc, hs⟩)
  dsimp only [Pt.U, Pt.locs, Pt.cells, Pt.slots] at X' l1 y1 z1 b hQ hS hgr
  subst l1 y1 z1
  exact go_back (fun _ j => b.trans j) (k v U U.heap ⟨_, U.vm, X', Fr.app N hQ.1, rfl, B.call hS (by rw [← eT]; exact hgr) (Nat.le_refl _) hQ.2.2⟩ hQ.2.1)
theorem g_callP (X : Wk p l e R s m args below meth c n1 Z Ts Lt T h cells slots) (hx : p.tables.exec = Jvm.exec) (hZ : Z.Warmed39 s.vm) (hown : s.vm.findClass own = some m.cls) {C : String} (w1 : (Jvm.Cond.methodLink own index y).before a0 Z = true) (w2 : (Jvm.Cond.instanceMethod y).before a0 Z = true) (w5 : (Jvm.Cond.selects y.cls y y).before a0 Z = true) (w6 : (Jvm.Cond.privateMethod y).before a0 Z = true) (w3 : (Jvm.Cond.initialized y.cls).before a0 Z = true) (w4 : (Jvm.Cond.code y bytes maxL ret).before a0 Z = true) 
    (hy : y.cls ≠ "java/lang/invoke/MethodHandle" ∧ y.cls ≠ "java/lang/invoke/VarHandle") {a : Addr} (E : Exa Z h a C) (hM : Con l Z n1 Ts Ts' y bytes maxL ret [] rm as h Qc) (hlen : parseMethodDescriptor y.desc = some ⟨ps, r⟩) (hl : argsL.length = ps.length) (has : as = (Value.ref a :: argsL).toArray) (hp : pc + 3 = pc') (hd : decode c.code pc = .ok (.invokevirtual index, 3))
    (hst : st = argsL.reverse ++ .ref a :: rest)
    (k : ∀ v T' h', Wk p l e R s m args below meth c n1 Z Ts' Lt T' h' (cells + rm.cells) (slots + rm.slots) → Qc v h' → Go p e below s n0 Q nc ns (T'.setTop (mkF m pc' Ls (v.toList ++ rest)))) (hsz : Ls.size = c.maxLocals := by rw [‹c.maxLocals = _›]; rfl) (hW : 2 * 0 + (rest.map fun v => v.category).sum ≤ W := by exact Nat.le_of_eq rfl) (hf : rm.frames + 1 ≤ R.frames := by decide) (hlo : W + (maxL + 11) + rm.locals ≤ R.locals := by decide) (hc : cells + rm.cells ≤ R.cells := by decide) (hs : slots + rm.slots ≤ R.slots := by decide) : Go p e below s n0 Q nc ns (T.setTop (mkF m pc Ls st)) := by
  subst hp; subst has; obtain ⟨locs, vm0, X, N, eT, B⟩ := X; replace hZ := B.hZ hZ; replace hown := B.fc hown
  obtain ⟨cE, hE1, hE2⟩ := Exa.cell E
  obtain ⟨v, vm1, ⟨U, L1, c1, s1⟩, -, X', hS, hgr, ⟨Lc, hQ, l1, y1, z1⟩, b⟩ := X.privateBackS hx hown (mvT hZ w1) (mvT hZ w2) (mvT hZ w5) (Cond.privateMethod_at (args := #[]) (mvP hZ w6)) (mvT hZ w4) hy (backW (W := W) hM hZ w4 w3 hf hlo B.ib) (g := mkF m pc Ls st) rfl hsz (Steps.refl _) (a := a) (cell := cE) (by rw [eT]; exact hE1) hE2 (argsL := argsL) (rest := rest) (lenOf hlen hl) hst hW hd (fun _ _ => ⟨rfl, eT, hc, hs⟩)
  dsimp only [Pt.U, Pt.locs, Pt.cells, Pt.slots] at X' l1 y1 z1 b hQ hS hgr
  subst l1 y1 z1
  exact go_back (fun _ j => b.trans j) (k v U U.heap ⟨_, U.vm, X', Fr.app N hQ.1, rfl, B.call hS (by rw [← eT]; exact hgr) (Nat.le_refl _) hQ.2.2⟩ hQ.2.1)
theorem g_callSup (X : Wk p l e R s m args below meth c n1 Z Ts Lt T h cells slots) (hx : p.tables.exec = Jvm.exec) (hZ : Z.Warmed39 s.vm) (hown : s.vm.findClass own = some m.cls) {C C' : String} {y' y0 : MethodName} (hn : y.name ≠ "<init>") (w1 : (Jvm.Cond.methodLink own index y).before a0 Z = true) (w2 : (Jvm.Cond.instanceMethod y).before a0 Z = true) (hcl : y'.cls = y.cls) (w7 : (Jvm.Cond.selects C' y0 y').before a0 Z = true) (w8 : (Jvm.Cond.superclass own y.cls).before a0 Z = true) (w3 : (Jvm.Cond.initialized y.cls).before a0 Z = true) (w4 : (Jvm.Cond.code y bytes maxL ret).before a0 Z = true) 
    (hy : y.cls ≠ "java/lang/invoke/MethodHandle" ∧ y.cls ≠ "java/lang/invoke/VarHandle") {a : Addr} (E : Exa Z h a C) (hM : Con l Z n1 Ts Ts' y bytes maxL ret [] rm as h Qc) (hlen : parseMethodDescriptor y.desc = some ⟨ps, r⟩) (hl : argsL.length = ps.length) (has : as = (Value.ref a :: argsL).toArray) (hp : pc + 3 = pc') (hd : decode c.code pc = .ok (.invokespecial index, 3))
    (hst : st = argsL.reverse ++ .ref a :: rest)
    (k : ∀ v T' h', Wk p l e R s m args below meth c n1 Z Ts' Lt T' h' (cells + rm.cells) (slots + rm.slots) → Qc v h' → Go p e below s n0 Q nc ns (T'.setTop (mkF m pc' Ls (v.toList ++ rest)))) (hsz : Ls.size = c.maxLocals := by rw [‹c.maxLocals = _›]; rfl) (hW : 2 * 0 + (rest.map fun v => v.category).sum ≤ W := by exact Nat.le_of_eq rfl) (hf : rm.frames + 1 ≤ R.frames := by decide) (hlo : W + (maxL + 11) + rm.locals ≤ R.locals := by decide) (hc : cells + rm.cells ≤ R.cells := by decide) (hs : slots + rm.slots ≤ R.slots := by decide) : Go p e below s n0 Q nc ns (T.setTop (mkF m pc Ls st)) := by
  subst hp; subst has; obtain ⟨locs, vm0, X, N, eT, B⟩ := X; replace hZ := B.hZ hZ; replace hown := B.fc hown
  obtain ⟨v, vm1, ⟨U, L1, c1, s1⟩, -, X', hS, hgr, ⟨Lc, hQ, l1, y1, z1⟩, b⟩ := superBackS X hx hZ hown w1 (own_same (own_nf hcl w7) w2 hy) w2 w8 hn (backW (W := W) hM hZ w4 w3 hf hlo B.ib) eT (Ins.self E) (g := mkF m pc Ls st) rfl hsz w4 (argsL := argsL) (rest := rest) (lenOf hlen hl) hst hW hd (fun _ _ => ⟨rfl, eT, hc, hs⟩)
  dsimp only [Pt.U, Pt.locs, Pt.cells, Pt.slots] at X' l1 y1 z1 b hQ hS hgr
  subst l1 y1 z1
  exact go_back (fun _ j => b.trans j) (k v U U.heap ⟨_, U.vm, X', Fr.app N hQ.1, rfl, B.call hS (by rw [← eT]; exact hgr) (Nat.le_refl _) hQ.2.2⟩ hQ.2.1)
theorem g_callVN (X : Wk p l e R s m args below meth c n1 Z Ts Lt T h cells slots) (hx : p.tables.exec = Jvm.exec) (hZ : Z.Warmed39 s.vm) (hown : s.vm.findClass own = some m.cls) {C : String} (w1 : (Jvm.Cond.methodLink own index y).before a0 Z = true) (w2 : (Jvm.Cond.declares y).before a0 Z = true) {C' : String} {y' y0 : MethodName} (hcl : y'.cls = y.cls) (w0 : (Jvm.Cond.selects C' y0 y').before a0 Z = true) (w5 : (Jvm.Cond.selects C y z).before a0 Z = true) (w6 : (Jvm.Cond.instanceMethod z).before a0 Z = true) (w3 : (Jvm.Cond.initialized z.cls).before a0 Z = true) (w4 : (Jvm.Cond.code z bytes maxL ret).before a0 Z = true) 
    (hy : y.cls ≠ "java/lang/invoke/MethodHandle" ∧ y.cls ≠ "java/lang/invoke/VarHandle") {a : Addr} (E : Exa Z h a C) (hM : Con l Z n1 Ts Ts' z bytes maxL ret [] rm as h Qc) (hlen : parseMethodDescriptor y.desc = some ⟨ps, r⟩) (hl : argsL.length = ps.length) (has : as = (Value.ref a :: argsL).toArray) (hp : pc + 3 = pc') (hd : decode c.code pc = .ok (.invokevirtual index, 3))
    (hst : st = argsL.reverse ++ .ref a :: rest)
    (k : ∀ v T' h', Wk p l e R s m args below meth c n1 Z Ts' Lt T' h' (cells + rm.cells) (slots + rm.slots) → Qc v h' → Go p e below s n0 Q nc ns (T'.setTop (mkF m pc' Ls (v.toList ++ rest)))) (hsz : Ls.size = c.maxLocals := by rw [‹c.maxLocals = _›]; rfl) (hW : 2 * 0 + (rest.map fun v => v.category).sum ≤ W := by exact Nat.le_of_eq rfl) (hf : rm.frames + 1 ≤ R.frames := by decide) (hlo : W + (maxL + 11) + rm.locals ≤ R.locals := by decide) (hc : cells + rm.cells ≤ R.cells := by decide) (hs : slots + rm.slots ≤ R.slots := by decide) : Go p e below s n0 Q nc ns (T.setTop (mkF m pc Ls st)) := by
  subst hp; subst has; obtain ⟨locs, vm0, X, N, eT, B⟩ := X; replace hZ := B.hZ hZ; replace hown := B.fc hown
  obtain ⟨cq, kq, qa, qb, qc⟩ := isOf hZ eT E
  obtain ⟨v, vm1, ⟨U, L1, c1, s1⟩, -, X', hS, hgr, ⟨Lc, hQ, l1, y1, z1⟩, b⟩ := X.virtualBackS hx (y := y) (z := z) hown (mvT hZ w1) (mvT hZ w2) (own_nf (args := #[]) hcl (mvT hZ w0)) (mvT hZ w5) (mvT hZ w6) hy (backW (W := W) hM hZ w4 w3 hf hlo B.ib) qa qc (g := mkF m pc Ls st) rfl hsz (Steps.refl _) (argsL := argsL) (rest := rest) (lenOf hlen hl) hst hW hd (fun _ _ => ⟨rfl, eT, hc, hs⟩)
  dsimp only [Pt.U, Pt.locs, Pt.cells, Pt.slots] at X' l1 y1 z1 b hQ hS hgr
  subst l1 y1 z1
  exact go_back (fun _ j => b.trans j) (k v U U.heap ⟨_, U.vm, X', Fr.app N hQ.1, rfl, B.call hS (by rw [← eT]; exact hgr) (Nat.le_refl _) hQ.2.2⟩ hQ.2.1)
theorem g_callPS (X : Wk p l e R s m args below meth c n1 Z Ts Lt T h cells slots) (hx : p.tables.exec = Jvm.exec) (hZ : Z.Warmed39 s.vm) (hown : s.vm.findClass own = some m.cls) {C C' : String} (w1 : (Jvm.Cond.methodLink own index y).before a0 Z = true) (w2 : (Jvm.Cond.instanceMethod y).before a0 Z = true) (w5 : (Jvm.Cond.selects C' y y).before a0 Z = true) (w6 : (Jvm.Cond.privateMethod y).before a0 Z = true) (w3 : (Jvm.Cond.initialized y.cls).before a0 Z = true) (w4 : (Jvm.Cond.code y bytes maxL ret).before a0 Z = true) 
    (hy : y.cls ≠ "java/lang/invoke/MethodHandle" ∧ y.cls ≠ "java/lang/invoke/VarHandle") {a : Addr} (E : Exa Z h a C) (hM : Con l Z n1 Ts Ts' y bytes maxL ret [] rm as h Qc) (hlen : parseMethodDescriptor y.desc = some ⟨ps, r⟩) (hl : argsL.length = ps.length) (has : as = (Value.ref a :: argsL).toArray) (hp : pc + 3 = pc') (hd : decode c.code pc = .ok (.invokevirtual index, 3))
    (hst : st = argsL.reverse ++ .ref a :: rest)
    (k : ∀ v T' h', Wk p l e R s m args below meth c n1 Z Ts' Lt T' h' (cells + rm.cells) (slots + rm.slots) → Qc v h' → Go p e below s n0 Q nc ns (T'.setTop (mkF m pc' Ls (v.toList ++ rest)))) (hsz : Ls.size = c.maxLocals := by rw [‹c.maxLocals = _›]; rfl) (hW : 2 * 0 + (rest.map fun v => v.category).sum ≤ W := by exact Nat.le_of_eq rfl) (hf : rm.frames + 1 ≤ R.frames := by decide) (hlo : W + (maxL + 11) + rm.locals ≤ R.locals := by decide) (hc : cells + rm.cells ≤ R.cells := by decide) (hs : slots + rm.slots ≤ R.slots := by decide) : Go p e below s n0 Q nc ns (T.setTop (mkF m pc Ls st)) := by
  subst hp; subst has; obtain ⟨locs, vm0, X, N, eT, B⟩ := X; replace hZ := B.hZ hZ; replace hown := B.fc hown
  obtain ⟨cE, hE1, hE2⟩ := Exa.cell E
  obtain ⟨v, vm1, ⟨U, L1, c1, s1⟩, -, X', hS, hgr, ⟨Lc, hQ, l1, y1, z1⟩, b⟩ := own_privS X hx hown (mvT hZ w1) (mvT hZ w2) (mvT hZ w5) (Cond.privateMethod_at (args := #[]) (mvP hZ w6)) (mvT hZ w4) hy (backW (W := W) hM hZ w4 w3 hf hlo B.ib) (g := mkF m pc Ls st) rfl hsz (Steps.refl _) (a := a) (cell := cE) (by rw [eT]; exact hE1) hE2 (argsL := argsL) (rest := rest) (lenOf hlen hl) hst hW hd (fun _ _ => ⟨rfl, eT, hc, hs⟩)
  dsimp only [Pt.U, Pt.locs, Pt.cells, Pt.slots] at X' l1 y1 z1 b hQ hS hgr
  subst l1 y1 z1
  exact go_back (fun _ j => b.trans j) (k v U U.heap ⟨_, U.vm, X', Fr.app N hQ.1, rfl, B.call hS (by rw [← eT]; exact hgr) (Nat.le_refl _) hQ.2.2⟩ hQ.2.1)
theorem g_nat (X : Wk p l e R s m args below meth c n1 Z Ts Lt T h cells slots) (hx : p.tables.exec = Jvm.exec) (hZ : Z.Warmed39 s.vm) (hown : s.vm.findClass own = some m.cls) (w1 : (Jvm.Cond.methodLink own index y).before a0 Z = true) (w2 : (Jvm.Cond.static y).before a0 Z = true) (w3 : (Jvm.Cond.initialized y.cls).before a0 Z = true) (w4 : (Jvm.Cond.code y bytes maxL ret).before a0 Z = true)
    (hy : y.cls ≠ "java/lang/invoke/MethodHandle" ∧ y.cls ≠ "java/lang/invoke/VarHandle") {F : Array Value → Prop} {val : Value} (hK : ∀ s', (Jvm.Cond.code y bytes maxL ret).before args s' = true → Back l R p e below s' args y 3 W (fun A a' => A.cells ≤ R.cells ∧ A.slots ≤ R.slots ∧ F a') (fun A _ v B => v = some val ∧ B = A)) (hlen : parseMethodDescriptor y.desc = some ⟨ps, r⟩) (hl : argsL.length = ps.length) (hsz : Ls.size = c.maxLocals) (hp : pc + 3 = pc') (hd : decode c.code pc = .ok (.invokestatic index, 3))
    (hst : st = argsL.reverse ++ rest) (hW : 2 * 0 + (rest.map fun v => v.category).sum ≤ W) (hc : cells ≤ R.cells) (hs : slots ≤ R.slots) (hF : F argsL.toArray)
    (k : ∀ T', Wk p l e R s m args below meth c n1 Z Ts Lt T' h cells slots → Go p e below s n0 Q nc ns (T'.setTop (mkF m pc' Ls (val :: rest)))) : Go p e below s n0 Q nc ns (T.setTop (mkF m pc Ls st)) := by
  subst hp; obtain ⟨locs, vm0, X, N, eT, B⟩ := X; replace hZ := B.hZ hZ; replace hown := B.fc hown
  obtain ⟨T', X', e', b⟩ := natS X hx hZ hown w1 w2 w3 w4 hy eT (hK _) (g := mkF m pc Ls st) rfl hsz (argsL := argsL) (rest := rest) (lenOf hlen hl) hst hW hd hc hs hF rfl
  exact go_back b (k T' ⟨_, vm0, X', N, e', B⟩)
end Calls
theorem g_absD2 (X : Wk p l e R s m args below meth c n1 Z Ts Lt T h cells slots) (hx : p.tables.exec = Jvm.exec) (hZ : Z.Warmed39 s.vm) {own : String} {index W : Nat} (hown : s.vm.findClass own = some m.cls) (w1 : (Jvm.Cond.methodLink own index Jvm.Free.Fl.Abs.absDN).before a0 Z = true) (w2 : (Jvm.Cond.static Jvm.Free.Fl.Abs.absDN).before a0 Z = true) (w3 : (Jvm.Cond.initialized Jvm.Free.Fl.Abs.absDN.cls).before a0 Z = true) (w4 : (Jvm.Cond.code Jvm.Free.Fl.Abs.absDN Jvm.Free.Fl.Abs.absDCode 2 (some .double)).before a0 Z = true)
    {x : UInt64} (hn : NoNaN64 x) (hsz : Ls.size = c.maxLocals) (hp : pc + 3 = pc') (hd : decode c.code pc = .ok (.invokestatic index, 3)) (hW : 2 * 0 + (rest.map fun v => v.category).sum ≤ W) (hf : 1 ≤ R.frames) (hlo : W + 13 ≤ R.locals) (hc : cells ≤ R.cells) (hs : slots ≤ R.slots)
    (k : ∀ T', Wk p l e R s m args below meth c n1 Z Ts Lt T' h cells slots → Go p e below s n0 Q nc ns (T'.setTop (mkF m pc' Ls (.double (x &&& 0x7fffffffffffffff) :: rest)))) : Go p e below s n0 Q nc ns (T.setTop (mkF m pc Ls (.double x :: rest))) :=
  g_nat X hx hZ hown w1 w2 w3 w4 (by decide) (fun _ q => Jvm.Free.Fl.Abs.absD_pays x q hf hlo) (ps := [.double]) (r := some .double) (by decide +kernel) (argsL := [.double x]) rfl hsz hp hd rfl hW hc hs ⟨rfl, hn⟩ k
theorem g_ret {Qv : Option Value → Heap → Prop} (X : Wk p l e R s m args below meth c n1 Z Ts Lt T h cells slots) (hx : p.tables.exec = Jvm.exec) (hlk : meth.locks = false) {t : FieldType} {w : Value} {i : Instr} (hret : meth.sig.returnType = some t) (hn : narrow t w = w)
    (hi : (i = .ireturn ∧ (t = .int ∨ t = .boolean ∨ t = .byte ∨ t = .char ∨ t = .short) ∧ ∃ z, w = .int z) ∨ (i = .lreturn ∧ t = .long ∧ ∃ z, w = .long z) ∨ (i = .dreturn ∧ t = .double ∧ ∃ z, w = .double z) ∨ (i = .freturn ∧ t = .float ∧ ∃ z, w = .float z) ∨ (i = .areturn ∧ t.isReference = true ∧ w.isRef = true))
    (hd : decode c.code pc = .ok (i, 1)) (hc : cells ≤ nc) (hs : slots ≤ ns) (hle : n0 ≤ n1) (hQ : Qv (some w) h) : Go p e below s n0 ⟨Z, Ts, Qv⟩ nc ns (T.setTop (mkF m pc Ls (w :: rest))) := by
  obtain ⟨locs, vm0, X, N, eT, ⟨⟨k0, hS, hk⟩, I, -⟩⟩ := X
  obtain ⟨fs, hr, hrun, hended, hE⟩ := X.leaveW hS (by rw [eT]; exact hk) (v := some w) (fun q => by rw [hret] at q; cases q) hlk
  exact ⟨_, _, retOut X hx hret hn hi hd hr, hrun, hended, _, _, rfl, ⟨fun y hy => Nat.le_trans hle (N y hy), by show Qv (some w) T.heap; rw [eT]; exact hQ, by obtain ⟨more, e1, e2⟩ := I; exact ⟨more, (show T.vm.interned = _ from X.warmed.interned_eq).trans e1, e2⟩⟩, hE.1, hE.2.1, hE.2.2.1, hE.2.2.2.mono hc hs⟩
theorem g_retI {Qv : Option Value → Heap → Prop} (X : Wk p l e R s m args below meth c n1 Z Ts Lt T h cells slots) (hx : p.tables.exec = Jvm.exec) (hlk : meth.locks = false) {z : Int32} (hret : meth.sig.returnType = some .int) (hd : decode c.code pc = .ok (.ireturn, 1)) (hc : cells ≤ nc) (hs : slots ≤ ns) (hle : n0 ≤ n1) (hQ : Qv (some (.int z)) h) : Go p e below s n0 ⟨Z, Ts, Qv⟩ nc ns (T.setTop (mkF m pc Ls (.int z :: rest))) :=
  g_ret X hx hlk hret rfl (Or.inl ⟨rfl, Or.inl rfl, z, rfl⟩) hd hc hs hle hQ
theorem g_retZ {Qv : Option Value → Heap → Prop} (X : Wk p l e R s m args below meth c n1 Z Ts Lt T h cells slots) (hx : p.tables.exec = Jvm.exec) (hlk : meth.locks = false) {z : Int32} (hret : meth.sig.returnType = some .boolean) (hz : z = 0 ∨ z = 1) (hd : decode c.code pc = .ok (.ireturn, 1)) (hc : cells ≤ nc) (hs : slots ≤ ns) (hle : n0 ≤ n1) (hQ : Qv (some (.int z)) h) : Go p e below s n0 ⟨Z, Ts, Qv⟩ nc ns (T.setTop (mkF m pc Ls (.int z :: rest))) :=
  g_ret X hx hlk hret (by rcases hz with rfl | rfl <;> rfl) (Or.inl ⟨rfl, Or.inr (Or.inl rfl), z, rfl⟩) hd hc hs hle hQ
theorem g_retL {Qv : Option Value → Heap → Prop} (X : Wk p l e R s m args below meth c n1 Z Ts Lt T h cells slots) (hx : p.tables.exec = Jvm.exec) (hlk : meth.locks = false) {z : Int64} (hret : meth.sig.returnType = some .long) (hd : decode c.code pc = .ok (.lreturn, 1)) (hc : cells ≤ nc) (hs : slots ≤ ns) (hle : n0 ≤ n1) (hQ : Qv (some (.long z)) h) : Go p e below s n0 ⟨Z, Ts, Qv⟩ nc ns (T.setTop (mkF m pc Ls (.long z :: rest))) :=
  g_ret X hx hlk hret rfl (Or.inr (Or.inl ⟨rfl, rfl, z, rfl⟩)) hd hc hs hle hQ
theorem g_retD {Qv : Option Value → Heap → Prop} (X : Wk p l e R s m args below meth c n1 Z Ts Lt T h cells slots) (hx : p.tables.exec = Jvm.exec) (hlk : meth.locks = false) {z : UInt64} (hret : meth.sig.returnType = some .double) (hd : decode c.code pc = .ok (.dreturn, 1)) (hc : cells ≤ nc) (hs : slots ≤ ns) (hle : n0 ≤ n1) (hQ : Qv (some (.double z)) h) : Go p e below s n0 ⟨Z, Ts, Qv⟩ nc ns (T.setTop (mkF m pc Ls (.double z :: rest))) :=
  g_ret X hx hlk hret rfl (Or.inr (Or.inr (Or.inl ⟨rfl, rfl, z, rfl⟩))) hd hc hs hle hQ
theorem g_retV {Qv : Option Value → Heap → Prop} (X : Wk p l e R s m args below meth c n1 Z Ts Lt T h cells slots) (hx : p.tables.exec = Jvm.exec) (hlk : meth.locks = false) (hret : meth.sig.returnType = none) (hd : decode c.code pc = .ok (.return_, 1)) (hc : cells ≤ nc) (hs : slots ≤ ns) (hle : n0 ≤ n1) (hQ : Qv none h) : Go p e below s n0 ⟨Z, Ts, Qv⟩ nc ns (T.setTop (mkF m pc Ls [])) := by
  obtain ⟨locs, vm0, X, N, eT, ⟨⟨k0, hS, hk⟩, I, -⟩⟩ := X
  obtain ⟨fs, hr, hrun, hended, hE⟩ := X.leaveW hS (by rw [eT]; exact hk) (v := none) (fun _ => rfl) hlk
  exact ⟨_, _, X.returnOut hx hret hd hr, hrun, hended, _, _, rfl, ⟨fun y hy => Nat.le_trans hle (N y hy), by show Qv none T.heap; rw [eT]; exact hQ, by obtain ⟨more, e1, e2⟩ := I; exact ⟨more, (show T.vm.interned = _ from X.warmed.interned_eq).trans e1, e2⟩⟩, hE.1, hE.2.1, hE.2.2.1, hE.2.2.2.mono hc hs⟩

end OwnKit
abbrev HW (a0 : Array Value) (Z : State) : Prop := ∀ d ∈ tables_1, d.before a0 Z = true
theorem hD {c : Code} {code : ByteArray} (h : c.code = code) {pc : Nat} {r : Except ClassFile.DecodeError (ClassFile.Instr × Nat)} (h2 : decode code pc = r) : decode c.code pc = r := h ▸ h2
theorem wat {Z : State} {a0 : Array Value} (hw : ∀ d ∈ tables_1, d.before a0 Z = true) (i : Nat) {d : Jvm.Cond} (q : tables_1[i]? = some d) : d.before a0 Z = true := hw _ (List.mem_of_getElem? q)
abbrev SV (Z : State) (h : Heap) (a : Addr) (v : Value) : Prop := Fld Z h a "java/lang/String" "value" "[B" v
abbrev SC (Z : State) (h : Heap) (a : Addr) (v : Value) : Prop := Fld Z h a "java/lang/String" "coder" "B" v
abbrev BV (Z : State) (h : Heap) (a : Addr) (v : Value) : Prop := Fld Z h a "java/lang/AbstractStringBuilder" "value" "[B" v
abbrev BC (Z : State) (h : Heap) (a : Addr) (v : Value) : Prop := Fld Z h a "java/lang/AbstractStringBuilder" "coder" "B" v
abbrev BN (Z : State) (h : Heap) (a : Addr) (v : Value) : Prop := Fld Z h a "java/lang/AbstractStringBuilder" "count" "I" v
abbrev XSt (Z : State) (h : Heap) (a : Addr) : Prop := Exa Z h a "java/lang/String"
abbrev XSb (Z : State) (h : Heap) (a : Addr) : Prop := Exa Z h a "java/lang/StringBuilder"
abbrev St0 (Z : State) (v : Value) : Prop := Sta Z Z.heap "java/lang/String" "COMPACT_STRINGS" "Z" v
abbrev St1 (Z : State) (v : Value) : Prop := Sta Z Z.heap "java/lang/Integer" "DigitOnes" "[B" v
abbrev St2 (Z : State) (v : Value) : Prop := Sta Z Z.heap "java/lang/Integer" "DigitTens" "[B" v
abbrev St3 (Z : State) (v : Value) : Prop := Sta Z Z.heap "jdk/internal/util/Preconditions" "SIOOBE_FORMATTER" "Ljava/util/function/BiFunction;" v
abbrev K1 := jdk_42_method_3_code
abbrev K2 := jdk_42_method_149_code
abbrev K4 := jdk_52_method_16_code
abbrev K5 := jdk_52_method_21_code
abbrev K6 := jdk_52_method_15_code
abbrev K7 := prog_17_method_2_code
abbrev K8 := prog_17_method_1_code
abbrev K9 := prog_17_method_12_code
abbrev K10 := jdk_42_method_97_code
abbrev K11 := jdk_42_method_126_code
abbrev K12 := jdk_42_method_84_code
abbrev K13 := jdk_42_method_152_code
abbrev K14 := jdk_42_method_154_code
abbrev K15 := jdk_43_method_24_code
abbrev K16 := jdk_43_method_25_code
abbrev K17 := jdk_67_method_1_code
abbrev K18 := jdk_68_method_2_code
abbrev K19 := jdk_67_method_7_code
abbrev K20 := jdk_68_method_22_code
abbrev K21 := jdk_42_method_54_code
abbrev K22 := jdk_68_method_9_code
abbrev K23 := jdk_68_method_73_code
abbrev K24 := jdk_68_method_71_code
abbrev K25 := jdk_42_method_147_code
abbrev K26 := jdk_67_method_15_code
abbrev K27 := jdk_68_method_32_code
abbrev K28 := jdk_33_method_13_code
abbrev K29 := jdk_68_method_68_code
abbrev K30 := jdk_33_method_12_code
abbrev K31 := jdk_67_method_42_code
abbrev K32 := jdk_42_method_53_code
abbrev K33 := jdk_42_method_150_code
abbrev K34 := jdk_68_method_64_code
abbrev K35 := jdk_67_method_93_code
abbrev K36 := jdk_68_method_6_code
abbrev K37 := jdk_65_method_132_code
abbrev K38 := jdk_65_method_133_code
abbrev K39 := jdk_65_method_131_code
abbrev K40 := jdk_29_method_69_code
abbrev K41 := method_3_code
abbrev K42 := jdk_42_method_56_code
abbrev K43 := jdk_43_method_2_code
abbrev K44 := jdk_42_method_155_code
abbrev K45 := jdk_41_method_11_code
abbrev K46 := jdk_42_method_76_code
abbrev K47 := jdk_42_method_75_code
abbrev K48 := jdk_48_method_14_code
theorem d1_0 : decode K1 0 = .ok (.aload_n 0, 1) := by decide +kernel
theorem d1_1 : decode K1 1 = .ok (.aload_n 1, 1) := by decide +kernel
theorem d1_2 : decode K1 2 = .ok (.iconst 0, 1) := by decide +kernel
theorem d1_3 : decode K1 3 = .ok (.aload_n 1, 1) := by decide +kernel
theorem d1_4 : decode K1 4 = .ok (.arraylength, 1) := by decide +kernel
theorem d1_5 : decode K1 5 = .ok (.aconst_null, 1) := by decide +kernel
theorem d1_6 : decode K1 6 = .ok (.invokespecial 27, 3) := by decide +kernel
theorem d1_9 : decode K1 9 = .ok (.return_, 1) := by decide +kernel
theorem d2_0 : decode K2 0 = .ok (.aload_n 0, 1) := by decide +kernel
theorem d2_1 : decode K2 1 = .ok (.invokespecial 1, 3) := by decide +kernel
theorem d2_4 : decode K2 4 = .ok (.iload_n 3, 1) := by decide +kernel
theorem d2_5 : decode K2 5 = .ok (.ifCond .ne 22, 3) := by decide +kernel
theorem d2_27 : decode K2 27 = .ok (.getstatic 38, 3) := by decide +kernel
theorem d2_30 : decode K2 30 = .ok (.ifCond .eq 28, 3) := by decide +kernel
theorem d2_33 : decode K2 33 = .ok (.aload_n 1, 1) := by decide +kernel
theorem d2_34 : decode K2 34 = .ok (.iload_n 2, 1) := by decide +kernel
theorem d2_35 : decode K2 35 = .ok (.iload_n 3, 1) := by decide +kernel
theorem d2_36 : decode K2 36 = .ok (.invokestatic 177, 3) := by decide +kernel
theorem d2_39 : decode K2 39 = .ok (.astore 5, 2) := by decide +kernel
theorem d2_41 : decode K2 41 = .ok (.aload_n 0, 1) := by decide +kernel
theorem d2_42 : decode K2 42 = .ok (.aload 5, 2) := by decide +kernel
theorem d2_44 : decode K2 44 = .ok (.iload_n 3, 1) := by decide +kernel
theorem d2_45 : decode K2 45 = .ok (.invokestatic 47, 3) := by decide +kernel
theorem d2_48 : decode K2 48 = .ok (.putfield 15, 3) := by decide +kernel
theorem d2_51 : decode K2 51 = .ok (.aload_n 0, 1) := by decide +kernel
theorem d2_52 : decode K2 52 = .ok (.aload 5, 2) := by decide +kernel
theorem d2_54 : decode K2 54 = .ok (.putfield 9, 3) := by decide +kernel
theorem d2_57 : decode K2 57 = .ok (.return_, 1) := by decide +kernel
theorem d4_0 : decode K4 0 = .ok (.iload_n 2, 1) := by decide +kernel
theorem d4_1 : decode K4 1 = .ok (.newarray .byte, 2) := by decide +kernel
theorem d4_3 : decode K4 3 = .ok (.astore_n 3, 1) := by decide +kernel
theorem d4_4 : decode K4 4 = .ok (.aload_n 0, 1) := by decide +kernel
theorem d4_5 : decode K4 5 = .ok (.iload_n 1, 1) := by decide +kernel
theorem d4_6 : decode K4 6 = .ok (.aload_n 3, 1) := by decide +kernel
theorem d4_7 : decode K4 7 = .ok (.iconst 0, 1) := by decide +kernel
theorem d4_8 : decode K4 8 = .ok (.iload_n 2, 1) := by decide +kernel
theorem d4_9 : decode K4 9 = .ok (.invokestatic 115, 3) := by decide +kernel
theorem d4_12 : decode K4 12 = .ok (.istore 4, 2) := by decide +kernel
theorem d4_14 : decode K4 14 = .ok (.iload 4, 2) := by decide +kernel
theorem d4_16 : decode K4 16 = .ok (.iload_n 2, 1) := by decide +kernel
theorem d4_17 : decode K4 17 = .ok (.if_icmp .eq 40, 3) := by decide +kernel
theorem d4_57 : decode K4 57 = .ok (.aload_n 3, 1) := by decide +kernel
theorem d4_58 : decode K4 58 = .ok (.areturn, 1) := by decide +kernel
theorem d5_0 : decode K5 0 = .ok (.iconst 0, 1) := by decide +kernel
theorem d5_1 : decode K5 1 = .ok (.istore 5, 2) := by decide +kernel
theorem d5_3 : decode K5 3 = .ok (.iload 5, 2) := by decide +kernel
theorem d5_5 : decode K5 5 = .ok (.iload 4, 2) := by decide +kernel
theorem d5_7 : decode K5 7 = .ok (.if_icmp .ge 37, 3) := by decide +kernel
theorem d5_10 : decode K5 10 = .ok (.aload_n 0, 1) := by decide +kernel
theorem d5_11 : decode K5 11 = .ok (.iload_n 1, 1) := by decide +kernel
theorem d5_12 : decode K5 12 = .ok (.caload, 1) := by decide +kernel
theorem d5_13 : decode K5 13 = .ok (.istore 6, 2) := by decide +kernel
theorem d5_15 : decode K5 15 = .ok (.iload 6, 2) := by decide +kernel
theorem d5_17 : decode K5 17 = .ok (.sipush 255, 3) := by decide +kernel
theorem d5_20 : decode K5 20 = .ok (.if_icmp .le 6, 3) := by decide +kernel
theorem d5_26 : decode K5 26 = .ok (.aload_n 2, 1) := by decide +kernel
theorem d5_27 : decode K5 27 = .ok (.iload_n 3, 1) := by decide +kernel
theorem d5_28 : decode K5 28 = .ok (.iload 6, 2) := by decide +kernel
theorem d5_30 : decode K5 30 = .ok (.i2b, 1) := by decide +kernel
theorem d5_31 : decode K5 31 = .ok (.bastore, 1) := by decide +kernel
theorem d5_32 : decode K5 32 = .ok (.iinc 1 1, 3) := by decide +kernel
theorem d5_35 : decode K5 35 = .ok (.iinc 3 1, 3) := by decide +kernel
theorem d5_38 : decode K5 38 = .ok (.iinc 5 1, 3) := by decide +kernel
theorem d5_41 : decode K5 41 = .ok (.goto (-38), 3) := by decide +kernel
theorem d5_44 : decode K5 44 = .ok (.iload 4, 2) := by decide +kernel
theorem d5_46 : decode K5 46 = .ok (.ireturn, 1) := by decide +kernel
theorem d6_0 : decode K6 0 = .ok (.iload_n 1, 1) := by decide +kernel
theorem d6_1 : decode K6 1 = .ok (.aload_n 0, 1) := by decide +kernel
theorem d6_2 : decode K6 2 = .ok (.arraylength, 1) := by decide +kernel
theorem d6_3 : decode K6 3 = .ok (.isub, 1) := by decide +kernel
theorem d6_4 : decode K6 4 = .ok (.bipush 31, 2) := by decide +kernel
theorem d6_6 : decode K6 6 = .ok (.iushr, 1) := by decide +kernel
theorem d6_7 : decode K6 7 = .ok (.i2b, 1) := by decide +kernel
theorem d6_8 : decode K6 8 = .ok (.ireturn, 1) := by decide +kernel
theorem d7_0 : decode K7 0 = .ok (.new 8, 3) := by decide +kernel
theorem d7_3 : decode K7 3 = .ok (.dup, 1) := by decide +kernel
theorem d7_4 : decode K7 4 = .ok (.aload_n 0, 1) := by decide +kernel
theorem d7_5 : decode K7 5 = .ok (.iload_n 1, 1) := by decide +kernel
theorem d7_6 : decode K7 6 = .ok (.aconst_null, 1) := by decide +kernel
theorem d7_7 : decode K7 7 = .ok (.aconst_null, 1) := by decide +kernel
theorem d7_8 : decode K7 8 = .ok (.invokespecial 24, 3) := by decide +kernel
theorem d7_11 : decode K7 11 = .ok (.areturn, 1) := by decide +kernel
theorem d8_0 : decode K8 0 = .ok (.aload_n 0, 1) := by decide +kernel
theorem d8_1 : decode K8 1 = .ok (.invokespecial 1, 3) := by decide +kernel
theorem d8_4 : decode K8 4 = .ok (.aload_n 0, 1) := by decide +kernel
theorem d8_5 : decode K8 5 = .ok (.aload_n 1, 1) := by decide +kernel
theorem d8_6 : decode K8 6 = .ok (.putfield 7, 3) := by decide +kernel
theorem d8_9 : decode K8 9 = .ok (.aload_n 0, 1) := by decide +kernel
theorem d8_10 : decode K8 10 = .ok (.iload_n 2, 1) := by decide +kernel
theorem d8_11 : decode K8 11 = .ok (.putfield 13, 3) := by decide +kernel
theorem d8_14 : decode K8 14 = .ok (.aload_n 0, 1) := by decide +kernel
theorem d8_15 : decode K8 15 = .ok (.aload_n 3, 1) := by decide +kernel
theorem d8_16 : decode K8 16 = .ok (.putfield 17, 3) := by decide +kernel
theorem d8_19 : decode K8 19 = .ok (.aload_n 0, 1) := by decide +kernel
theorem d8_20 : decode K8 20 = .ok (.aload 4, 2) := by decide +kernel
theorem d8_22 : decode K8 22 = .ok (.putfield 21, 3) := by decide +kernel
theorem d8_25 : decode K8 25 = .ok (.return_, 1) := by decide +kernel
theorem d9_0 : decode K9 0 = .ok (.aload_n 0, 1) := by decide +kernel
theorem d9_1 : decode K9 1 = .ok (.getfield 17, 3) := by decide +kernel
theorem d9_4 : decode K9 4 = .ok (.ifnull 13, 3) := by decide +kernel
theorem d9_17 : decode K9 17 = .ok (.aload_n 0, 1) := by decide +kernel
theorem d9_18 : decode K9 18 = .ok (.getfield 7, 3) := by decide +kernel
theorem d9_21 : decode K9 21 = .ok (.ldc 220, 2) := by decide +kernel
theorem d9_23 : decode K9 23 = .ok (.invokevirtual 222, 3) := by decide +kernel
theorem d9_26 : decode K9 26 = .ok (.ifCond .eq 19, 3) := by decide +kernel
theorem d9_29 : decode K9 29 = .ok (.aload_n 0, 1) := by decide +kernel
theorem d9_30 : decode K9 30 = .ok (.getfield 7, 3) := by decide +kernel
theorem d9_33 : decode K9 33 = .ok (.ldc 226, 2) := by decide +kernel
theorem d9_35 : decode K9 35 = .ok (.invokevirtual 29, 3) := by decide +kernel
theorem d9_38 : decode K9 38 = .ok (.ifCond .ne 7, 3) := by decide +kernel
theorem d9_41 : decode K9 41 = .ok (.iconst 1, 1) := by decide +kernel
theorem d9_42 : decode K9 42 = .ok (.goto 4, 3) := by decide +kernel
theorem d9_45 : decode K9 45 = .ok (.iconst 0, 1) := by decide +kernel
theorem d9_46 : decode K9 46 = .ok (.istore_n 1, 1) := by decide +kernel
theorem d9_47 : decode K9 47 = .ok (.new 128, 3) := by decide +kernel
theorem d9_50 : decode K9 50 = .ok (.dup, 1) := by decide +kernel
theorem d9_51 : decode K9 51 = .ok (.invokespecial 130, 3) := by decide +kernel
theorem d9_54 : decode K9 54 = .ok (.iload_n 1, 1) := by decide +kernel
theorem d9_55 : decode K9 55 = .ok (.ifCond .eq 33, 3) := by decide +kernel
theorem d9_58 : decode K9 58 = .ok (.new 128, 3) := by decide +kernel
theorem d9_61 : decode K9 61 = .ok (.dup, 1) := by decide +kernel
theorem d9_62 : decode K9 62 = .ok (.invokespecial 130, 3) := by decide +kernel
theorem d9_65 : decode K9 65 = .ok (.ldc 226, 2) := by decide +kernel
theorem d9_67 : decode K9 67 = .ok (.invokevirtual 133, 3) := by decide +kernel
theorem d9_70 : decode K9 70 = .ok (.aload_n 0, 1) := by decide +kernel
theorem d9_71 : decode K9 71 = .ok (.getfield 7, 3) := by decide +kernel
theorem d9_74 : decode K9 74 = .ok (.invokevirtual 133, 3) := by decide +kernel
theorem d9_77 : decode K9 77 = .ok (.ldc 228, 2) := by decide +kernel
theorem d9_79 : decode K9 79 = .ok (.invokevirtual 133, 3) := by decide +kernel
theorem d9_82 : decode K9 82 = .ok (.invokevirtual 137, 3) := by decide +kernel
theorem d9_85 : decode K9 85 = .ok (.goto 7, 3) := by decide +kernel
theorem d9_88 : decode K9 88 = .ok (.aload_n 0, 1) := by decide +kernel
theorem d9_89 : decode K9 89 = .ok (.getfield 7, 3) := by decide +kernel
theorem d9_92 : decode K9 92 = .ok (.invokevirtual 133, 3) := by decide +kernel
theorem d9_95 : decode K9 95 = .ok (.ldc 220, 2) := by decide +kernel
theorem d9_97 : decode K9 97 = .ok (.invokevirtual 133, 3) := by decide +kernel
theorem d9_100 : decode K9 100 = .ok (.aload_n 0, 1) := by decide +kernel
theorem d9_101 : decode K9 101 = .ok (.getfield 13, 3) := by decide +kernel
theorem d9_104 : decode K9 104 = .ok (.invokevirtual 230, 3) := by decide +kernel
theorem d9_107 : decode K9 107 = .ok (.invokevirtual 137, 3) := by decide +kernel
theorem d9_110 : decode K9 110 = .ok (.astore_n 2, 1) := by decide +kernel
theorem d9_111 : decode K9 111 = .ok (.aload_n 0, 1) := by decide +kernel
theorem d9_112 : decode K9 112 = .ok (.getfield 21, 3) := by decide +kernel
theorem d9_115 : decode K9 115 = .ok (.ifnull 37, 3) := by decide +kernel
theorem d9_152 : decode K9 152 = .ok (.aload_n 2, 1) := by decide +kernel
theorem d9_153 : decode K9 153 = .ok (.areturn, 1) := by decide +kernel
theorem d10_0 : decode K10 0 = .ok (.aload_n 0, 1) := by decide +kernel
theorem d10_1 : decode K10 1 = .ok (.aload_n 1, 1) := by decide +kernel
theorem d10_2 : decode K10 2 = .ok (.invokeinterface 710 1, 5) := by decide +kernel
theorem d10_7 : decode K10 7 = .ok (.invokevirtual 711, 3) := by decide +kernel
theorem d10_10 : decode K10 10 = .ok (.ifCond .lt 7, 3) := by decide +kernel
theorem d10_13 : decode K10 13 = .ok (.iconst 1, 1) := by decide +kernel
theorem d10_14 : decode K10 14 = .ok (.goto 4, 3) := by decide +kernel
theorem d10_17 : decode K10 17 = .ok (.iconst 0, 1) := by decide +kernel
theorem d10_18 : decode K10 18 = .ok (.ireturn, 1) := by decide +kernel
theorem d11_0 : decode K11 0 = .ok (.aload_n 0, 1) := by decide +kernel
theorem d11_1 : decode K11 1 = .ok (.areturn, 1) := by decide +kernel
theorem d12_0 : decode K12 0 = .ok (.aload_n 0, 1) := by decide +kernel
theorem d12_1 : decode K12 1 = .ok (.invokevirtual 335, 3) := by decide +kernel
theorem d12_4 : decode K12 4 = .ok (.istore_n 2, 1) := by decide +kernel
theorem d12_5 : decode K12 5 = .ok (.iload_n 2, 1) := by decide +kernel
theorem d12_6 : decode K12 6 = .ok (.aload_n 1, 1) := by decide +kernel
theorem d12_7 : decode K12 7 = .ok (.invokevirtual 335, 3) := by decide +kernel
theorem d12_10 : decode K12 10 = .ok (.if_icmp .ne 36, 3) := by decide +kernel
theorem d12_13 : decode K12 13 = .ok (.aload_n 0, 1) := by decide +kernel
theorem d12_14 : decode K12 14 = .ok (.invokevirtual 492, 3) := by decide +kernel
theorem d12_17 : decode K12 17 = .ok (.ifCond .eq 17, 3) := by decide +kernel
theorem d12_20 : decode K12 20 = .ok (.aload_n 0, 1) := by decide +kernel
theorem d12_21 : decode K12 21 = .ok (.getfield 9, 3) := by decide +kernel
theorem d12_24 : decode K12 24 = .ok (.aload_n 1, 1) := by decide +kernel
theorem d12_25 : decode K12 25 = .ok (.getfield 9, 3) := by decide +kernel
theorem d12_28 : decode K12 28 = .ok (.invokestatic 647, 3) := by decide +kernel
theorem d12_31 : decode K12 31 = .ok (.goto 14, 3) := by decide +kernel
theorem d12_45 : decode K12 45 = .ok (.ireturn, 1) := by decide +kernel
theorem d13_0 : decode K13 0 = .ok (.getstatic 38, 3) := by decide +kernel
theorem d13_3 : decode K13 3 = .ok (.ifCond .eq 10, 3) := by decide +kernel
theorem d13_6 : decode K13 6 = .ok (.aload_n 0, 1) := by decide +kernel
theorem d13_7 : decode K13 7 = .ok (.getfield 15, 3) := by decide +kernel
theorem d13_10 : decode K13 10 = .ok (.goto 4, 3) := by decide +kernel
theorem d13_14 : decode K13 14 = .ok (.ireturn, 1) := by decide +kernel
theorem d14_0 : decode K14 0 = .ok (.getstatic 38, 3) := by decide +kernel
theorem d14_3 : decode K14 3 = .ok (.ifCond .eq 14, 3) := by decide +kernel
theorem d14_6 : decode K14 6 = .ok (.aload_n 0, 1) := by decide +kernel
theorem d14_7 : decode K14 7 = .ok (.getfield 15, 3) := by decide +kernel
theorem d14_10 : decode K14 10 = .ok (.ifCond .ne 7, 3) := by decide +kernel
theorem d14_13 : decode K14 13 = .ok (.iconst 1, 1) := by decide +kernel
theorem d14_14 : decode K14 14 = .ok (.goto 4, 3) := by decide +kernel
theorem d14_18 : decode K14 18 = .ok (.ireturn, 1) := by decide +kernel
theorem d15_0 : decode K15 0 = .ok (.aload_n 1, 1) := by decide +kernel
theorem d15_1 : decode K15 1 = .ok (.arraylength, 1) := by decide +kernel
theorem d15_2 : decode K15 2 = .ok (.ifCond .ne 5, 3) := by decide +kernel
theorem d15_7 : decode K15 7 = .ok (.aload_n 0, 1) := by decide +kernel
theorem d15_8 : decode K15 8 = .ok (.arraylength, 1) := by decide +kernel
theorem d15_9 : decode K15 9 = .ok (.ifCond .ne 5, 3) := by decide +kernel
theorem d15_14 : decode K15 14 = .ok (.aload_n 0, 1) := by decide +kernel
theorem d15_15 : decode K15 15 = .ok (.aload_n 0, 1) := by decide +kernel
theorem d15_16 : decode K15 16 = .ok (.arraylength, 1) := by decide +kernel
theorem d15_17 : decode K15 17 = .ok (.aload_n 1, 1) := by decide +kernel
theorem d15_18 : decode K15 18 = .ok (.aload_n 1, 1) := by decide +kernel
theorem d15_19 : decode K15 19 = .ok (.arraylength, 1) := by decide +kernel
theorem d15_20 : decode K15 20 = .ok (.iconst 0, 1) := by decide +kernel
theorem d15_21 : decode K15 21 = .ok (.invokestatic 99, 3) := by decide +kernel
theorem d15_24 : decode K15 24 = .ok (.ireturn, 1) := by decide +kernel
theorem d16_0 : decode K16 0 = .ok (.aload_n 2, 1) := by decide +kernel
theorem d16_1 : decode K16 1 = .ok (.iconst 0, 1) := by decide +kernel
theorem d16_2 : decode K16 2 = .ok (.baload, 1) := by decide +kernel
theorem d16_3 : decode K16 3 = .ok (.istore 5, 2) := by decide +kernel
theorem d16_5 : decode K16 5 = .ok (.iload_n 1, 1) := by decide +kernel
theorem d16_6 : decode K16 6 = .ok (.iload_n 3, 1) := by decide +kernel
theorem d16_7 : decode K16 7 = .ok (.isub, 1) := by decide +kernel
theorem d16_8 : decode K16 8 = .ok (.istore 6, 2) := by decide +kernel
theorem d16_10 : decode K16 10 = .ok (.iload 4, 2) := by decide +kernel
theorem d16_12 : decode K16 12 = .ok (.istore 7, 2) := by decide +kernel
theorem d16_14 : decode K16 14 = .ok (.iload 7, 2) := by decide +kernel
theorem d16_16 : decode K16 16 = .ok (.iload 6, 2) := by decide +kernel
theorem d16_18 : decode K16 18 = .ok (.if_icmp .gt 101, 3) := by decide +kernel
theorem d16_21 : decode K16 21 = .ok (.aload_n 0, 1) := by decide +kernel
theorem d16_22 : decode K16 22 = .ok (.iload 7, 2) := by decide +kernel
theorem d16_24 : decode K16 24 = .ok (.baload, 1) := by decide +kernel
theorem d16_25 : decode K16 25 = .ok (.iload 5, 2) := by decide +kernel
theorem d16_27 : decode K16 27 = .ok (.if_icmp .eq 25, 3) := by decide +kernel
theorem d16_30 : decode K16 30 = .ok (.iinc 7 1, 3) := by decide +kernel
theorem d16_33 : decode K16 33 = .ok (.iload 7, 2) := by decide +kernel
theorem d16_35 : decode K16 35 = .ok (.iload 6, 2) := by decide +kernel
theorem d16_37 : decode K16 37 = .ok (.if_icmp .gt 15, 3) := by decide +kernel
theorem d16_40 : decode K16 40 = .ok (.aload_n 0, 1) := by decide +kernel
theorem d16_41 : decode K16 41 = .ok (.iload 7, 2) := by decide +kernel
theorem d16_43 : decode K16 43 = .ok (.baload, 1) := by decide +kernel
theorem d16_44 : decode K16 44 = .ok (.iload 5, 2) := by decide +kernel
theorem d16_46 : decode K16 46 = .ok (.if_icmp .eq 6, 3) := by decide +kernel
theorem d16_49 : decode K16 49 = .ok (.goto (-19), 3) := by decide +kernel
theorem d16_52 : decode K16 52 = .ok (.iload 7, 2) := by decide +kernel
theorem d16_54 : decode K16 54 = .ok (.iload 6, 2) := by decide +kernel
theorem d16_56 : decode K16 56 = .ok (.if_icmp .gt 57, 3) := by decide +kernel
theorem d16_59 : decode K16 59 = .ok (.iload 7, 2) := by decide +kernel
theorem d16_61 : decode K16 61 = .ok (.iconst 1, 1) := by decide +kernel
theorem d16_62 : decode K16 62 = .ok (.iadd, 1) := by decide +kernel
theorem d16_63 : decode K16 63 = .ok (.istore 8, 2) := by decide +kernel
theorem d16_65 : decode K16 65 = .ok (.iload 8, 2) := by decide +kernel
theorem d16_67 : decode K16 67 = .ok (.iload_n 3, 1) := by decide +kernel
theorem d16_68 : decode K16 68 = .ok (.iadd, 1) := by decide +kernel
theorem d16_69 : decode K16 69 = .ok (.iconst 1, 1) := by decide +kernel
theorem d16_70 : decode K16 70 = .ok (.isub, 1) := by decide +kernel
theorem d16_71 : decode K16 71 = .ok (.istore 9, 2) := by decide +kernel
theorem d16_73 : decode K16 73 = .ok (.iconst 1, 1) := by decide +kernel
theorem d16_74 : decode K16 74 = .ok (.istore 10, 2) := by decide +kernel
theorem d16_76 : decode K16 76 = .ok (.iload 8, 2) := by decide +kernel
theorem d16_78 : decode K16 78 = .ok (.iload 9, 2) := by decide +kernel
theorem d16_80 : decode K16 80 = .ok (.if_icmp .ge 23, 3) := by decide +kernel
theorem d16_103 : decode K16 103 = .ok (.iload 8, 2) := by decide +kernel
theorem d16_105 : decode K16 105 = .ok (.iload 9, 2) := by decide +kernel
theorem d16_107 : decode K16 107 = .ok (.if_icmp .ne 6, 3) := by decide +kernel
theorem d16_110 : decode K16 110 = .ok (.iload 7, 2) := by decide +kernel
theorem d16_112 : decode K16 112 = .ok (.ireturn, 1) := by decide +kernel
theorem d16_113 : decode K16 113 = .ok (.iinc 7 1, 3) := by decide +kernel
theorem d16_116 : decode K16 116 = .ok (.goto (-102), 3) := by decide +kernel
theorem d16_119 : decode K16 119 = .ok (.iconst (-1), 1) := by decide +kernel
theorem d16_120 : decode K16 120 = .ok (.ireturn, 1) := by decide +kernel
theorem d17_0 : decode K17 0 = .ok (.aload_n 0, 1) := by decide +kernel
theorem d17_1 : decode K17 1 = .ok (.bipush 16, 2) := by decide +kernel
theorem d17_3 : decode K17 3 = .ok (.invokespecial 1, 3) := by decide +kernel
theorem d17_6 : decode K17 6 = .ok (.return_, 1) := by decide +kernel
theorem d18_0 : decode K18 0 = .ok (.aload_n 0, 1) := by decide +kernel
theorem d18_1 : decode K18 1 = .ok (.invokespecial 3, 3) := by decide +kernel
theorem d18_4 : decode K18 4 = .ok (.getstatic 18, 3) := by decide +kernel
theorem d18_7 : decode K18 7 = .ok (.ifCond .eq 18, 3) := by decide +kernel
theorem d18_10 : decode K18 10 = .ok (.aload_n 0, 1) := by decide +kernel
theorem d18_11 : decode K18 11 = .ok (.iload_n 1, 1) := by decide +kernel
theorem d18_12 : decode K18 12 = .ok (.newarray .byte, 2) := by decide +kernel
theorem d18_14 : decode K18 14 = .ok (.putfield 15, 3) := by decide +kernel
theorem d18_17 : decode K18 17 = .ok (.aload_n 0, 1) := by decide +kernel
theorem d18_18 : decode K18 18 = .ok (.iconst 0, 1) := by decide +kernel
theorem d18_19 : decode K18 19 = .ok (.putfield 22, 3) := by decide +kernel
theorem d18_22 : decode K18 22 = .ok (.goto 16, 3) := by decide +kernel
theorem d18_38 : decode K18 38 = .ok (.return_, 1) := by decide +kernel
theorem d19_0 : decode K19 0 = .ok (.aload_n 0, 1) := by decide +kernel
theorem d19_1 : decode K19 1 = .ok (.aload_n 1, 1) := by decide +kernel
theorem d19_2 : decode K19 2 = .ok (.invokespecial 29, 3) := by decide +kernel
theorem d19_5 : decode K19 5 = .ok (.pop, 1) := by decide +kernel
theorem d19_6 : decode K19 6 = .ok (.aload_n 0, 1) := by decide +kernel
theorem d19_7 : decode K19 7 = .ok (.areturn, 1) := by decide +kernel
theorem d20_0 : decode K20 0 = .ok (.aload_n 1, 1) := by decide +kernel
theorem d20_1 : decode K20 1 = .ok (.ifnonnull 8, 3) := by decide +kernel
theorem d20_9 : decode K20 9 = .ok (.aload_n 1, 1) := by decide +kernel
theorem d20_10 : decode K20 10 = .ok (.invokevirtual 32, 3) := by decide +kernel
theorem d20_13 : decode K20 13 = .ok (.istore_n 2, 1) := by decide +kernel
theorem d20_14 : decode K20 14 = .ok (.aload_n 0, 1) := by decide +kernel
theorem d20_15 : decode K20 15 = .ok (.aload_n 0, 1) := by decide +kernel
theorem d20_16 : decode K20 16 = .ok (.getfield 79, 3) := by decide +kernel
theorem d20_19 : decode K20 19 = .ok (.iload_n 2, 1) := by decide +kernel
theorem d20_20 : decode K20 20 = .ok (.iadd, 1) := by decide +kernel
theorem d20_21 : decode K20 21 = .ok (.invokevirtual 100, 3) := by decide +kernel
theorem d20_24 : decode K20 24 = .ok (.aload_n 0, 1) := by decide +kernel
theorem d20_25 : decode K20 25 = .ok (.aload_n 0, 1) := by decide +kernel
theorem d20_26 : decode K20 26 = .ok (.getfield 79, 3) := by decide +kernel
theorem d20_29 : decode K20 29 = .ok (.aload_n 1, 1) := by decide +kernel
theorem d20_30 : decode K20 30 = .ok (.invokevirtual 208, 3) := by decide +kernel
theorem d20_33 : decode K20 33 = .ok (.aload_n 0, 1) := by decide +kernel
theorem d20_34 : decode K20 34 = .ok (.dup, 1) := by decide +kernel
theorem d20_35 : decode K20 35 = .ok (.getfield 79, 3) := by decide +kernel
theorem d20_38 : decode K20 38 = .ok (.iload_n 2, 1) := by decide +kernel
theorem d20_39 : decode K20 39 = .ok (.iadd, 1) := by decide +kernel
theorem d20_40 : decode K20 40 = .ok (.putfield 79, 3) := by decide +kernel
theorem d20_43 : decode K20 43 = .ok (.aload_n 0, 1) := by decide +kernel
theorem d20_44 : decode K20 44 = .ok (.areturn, 1) := by decide +kernel
theorem d21_0 : decode K21 0 = .ok (.aload_n 0, 1) := by decide +kernel
theorem d21_1 : decode K21 1 = .ok (.getfield 9, 3) := by decide +kernel
theorem d21_4 : decode K21 4 = .ok (.arraylength, 1) := by decide +kernel
theorem d21_5 : decode K21 5 = .ok (.aload_n 0, 1) := by decide +kernel
theorem d21_6 : decode K21 6 = .ok (.invokevirtual 335, 3) := by decide +kernel
theorem d21_9 : decode K21 9 = .ok (.ishr, 1) := by decide +kernel
theorem d21_10 : decode K21 10 = .ok (.ireturn, 1) := by decide +kernel
theorem d22_0 : decode K22 0 = .ok (.aload_n 0, 1) := by decide +kernel
theorem d22_1 : decode K22 1 = .ok (.getfield 15, 3) := by decide +kernel
theorem d22_4 : decode K22 4 = .ok (.arraylength, 1) := by decide +kernel
theorem d22_5 : decode K22 5 = .ok (.aload_n 0, 1) := by decide +kernel
theorem d22_6 : decode K22 6 = .ok (.getfield 22, 3) := by decide +kernel
theorem d22_9 : decode K22 9 = .ok (.ishr, 1) := by decide +kernel
theorem d22_10 : decode K22 10 = .ok (.istore_n 2, 1) := by decide +kernel
theorem d22_11 : decode K22 11 = .ok (.iload_n 1, 1) := by decide +kernel
theorem d22_12 : decode K22 12 = .ok (.iload_n 2, 1) := by decide +kernel
theorem d22_13 : decode K22 13 = .ok (.isub, 1) := by decide +kernel
theorem d22_14 : decode K22 14 = .ok (.ifCond .le 24, 3) := by decide +kernel
theorem d22_38 : decode K22 38 = .ok (.return_, 1) := by decide +kernel
theorem d23_0 : decode K23 0 = .ok (.aload_n 0, 1) := by decide +kernel
theorem d23_1 : decode K23 1 = .ok (.aload_n 2, 1) := by decide +kernel
theorem d23_2 : decode K23 2 = .ok (.invokevirtual 397, 3) := by decide +kernel
theorem d23_5 : decode K23 5 = .ok (.aload_n 2, 1) := by decide +kernel
theorem d23_6 : decode K23 6 = .ok (.aload_n 0, 1) := by decide +kernel
theorem d23_7 : decode K23 7 = .ok (.getfield 15, 3) := by decide +kernel
theorem d23_10 : decode K23 10 = .ok (.iload_n 1, 1) := by decide +kernel
theorem d23_11 : decode K23 11 = .ok (.aload_n 0, 1) := by decide +kernel
theorem d23_12 : decode K23 12 = .ok (.getfield 22, 3) := by decide +kernel
theorem d23_15 : decode K23 15 = .ok (.invokevirtual 399, 3) := by decide +kernel
theorem d23_18 : decode K23 18 = .ok (.return_, 1) := by decide +kernel
theorem d24_0 : decode K24 0 = .ok (.getstatic 18, 3) := by decide +kernel
theorem d24_3 : decode K24 3 = .ok (.ifCond .eq 18, 3) := by decide +kernel
theorem d24_6 : decode K24 6 = .ok (.aload_n 0, 1) := by decide +kernel
theorem d24_7 : decode K24 7 = .ok (.getfield 22, 3) := by decide +kernel
theorem d24_10 : decode K24 10 = .ok (.aload_n 1, 1) := by decide +kernel
theorem d24_11 : decode K24 11 = .ok (.invokevirtual 40, 3) := by decide +kernel
theorem d24_14 : decode K24 14 = .ok (.if_icmp .eq 7, 3) := by decide +kernel
theorem d24_21 : decode K24 21 = .ok (.return_, 1) := by decide +kernel
theorem d25_0 : decode K25 0 = .ok (.aload_n 0, 1) := by decide +kernel
theorem d25_1 : decode K25 1 = .ok (.invokevirtual 335, 3) := by decide +kernel
theorem d25_4 : decode K25 4 = .ok (.iload_n 3, 1) := by decide +kernel
theorem d25_5 : decode K25 5 = .ok (.if_icmp .ne 23, 3) := by decide +kernel
theorem d25_8 : decode K25 8 = .ok (.aload_n 0, 1) := by decide +kernel
theorem d25_9 : decode K25 9 = .ok (.getfield 9, 3) := by decide +kernel
theorem d25_12 : decode K25 12 = .ok (.iconst 0, 1) := by decide +kernel
theorem d25_13 : decode K25 13 = .ok (.aload_n 1, 1) := by decide +kernel
theorem d25_14 : decode K25 14 = .ok (.iload_n 2, 1) := by decide +kernel
theorem d25_15 : decode K25 15 = .ok (.iload_n 3, 1) := by decide +kernel
theorem d25_16 : decode K25 16 = .ok (.ishl, 1) := by decide +kernel
theorem d25_17 : decode K25 17 = .ok (.aload_n 0, 1) := by decide +kernel
theorem d25_18 : decode K25 18 = .ok (.getfield 9, 3) := by decide +kernel
theorem d25_21 : decode K25 21 = .ok (.arraylength, 1) := by decide +kernel
theorem d25_22 : decode K25 22 = .ok (.invokestatic 212, 3) := by decide +kernel
theorem d25_25 : decode K25 25 = .ok (.goto 18, 3) := by decide +kernel
theorem d25_43 : decode K25 43 = .ok (.return_, 1) := by decide +kernel
theorem d26_0 : decode K26 0 = .ok (.aload_n 0, 1) := by decide +kernel
theorem d26_1 : decode K26 1 = .ok (.iload_n 1, 1) := by decide +kernel
theorem d26_2 : decode K26 2 = .ok (.invokespecial 53, 3) := by decide +kernel
theorem d26_5 : decode K26 5 = .ok (.pop, 1) := by decide +kernel
theorem d26_6 : decode K26 6 = .ok (.aload_n 0, 1) := by decide +kernel
theorem d26_7 : decode K26 7 = .ok (.areturn, 1) := by decide +kernel
theorem d27_0 : decode K27 0 = .ok (.aload_n 0, 1) := by decide +kernel
theorem d27_1 : decode K27 1 = .ok (.getfield 79, 3) := by decide +kernel
theorem d27_4 : decode K27 4 = .ok (.istore_n 2, 1) := by decide +kernel
theorem d27_5 : decode K27 5 = .ok (.iload_n 2, 1) := by decide +kernel
theorem d27_6 : decode K27 6 = .ok (.iload_n 1, 1) := by decide +kernel
theorem d27_7 : decode K27 7 = .ok (.invokestatic 245, 3) := by decide +kernel
theorem d27_10 : decode K27 10 = .ok (.iadd, 1) := by decide +kernel
theorem d27_11 : decode K27 11 = .ok (.istore_n 3, 1) := by decide +kernel
theorem d27_12 : decode K27 12 = .ok (.aload_n 0, 1) := by decide +kernel
theorem d27_13 : decode K27 13 = .ok (.iload_n 3, 1) := by decide +kernel
theorem d27_14 : decode K27 14 = .ok (.invokevirtual 100, 3) := by decide +kernel
theorem d27_17 : decode K27 17 = .ok (.aload_n 0, 1) := by decide +kernel
theorem d27_18 : decode K27 18 = .ok (.invokevirtual 83, 3) := by decide +kernel
theorem d27_21 : decode K27 21 = .ok (.ifCond .eq 16, 3) := by decide +kernel
theorem d27_24 : decode K27 24 = .ok (.iload_n 1, 1) := by decide +kernel
theorem d27_25 : decode K27 25 = .ok (.iload_n 3, 1) := by decide +kernel
theorem d27_26 : decode K27 26 = .ok (.aload_n 0, 1) := by decide +kernel
theorem d27_27 : decode K27 27 = .ok (.getfield 15, 3) := by decide +kernel
theorem d27_30 : decode K27 30 = .ok (.invokestatic 248, 3) := by decide +kernel
theorem d27_33 : decode K27 33 = .ok (.pop, 1) := by decide +kernel
theorem d27_34 : decode K27 34 = .ok (.goto 14, 3) := by decide +kernel
theorem d27_48 : decode K27 48 = .ok (.aload_n 0, 1) := by decide +kernel
theorem d27_49 : decode K27 49 = .ok (.iload_n 3, 1) := by decide +kernel
theorem d27_50 : decode K27 50 = .ok (.putfield 79, 3) := by decide +kernel
theorem d27_53 : decode K27 53 = .ok (.aload_n 0, 1) := by decide +kernel
theorem d27_54 : decode K27 54 = .ok (.areturn, 1) := by decide +kernel
theorem d28_0 : decode K28 0 = .ok (.iconst 1, 1) := by decide +kernel
theorem d28_1 : decode K28 1 = .ok (.istore_n 1, 1) := by decide +kernel
theorem d28_2 : decode K28 2 = .ok (.iload_n 0, 1) := by decide +kernel
theorem d28_3 : decode K28 3 = .ok (.ifCond .lt 8, 3) := by decide +kernel
theorem d28_6 : decode K28 6 = .ok (.iconst 0, 1) := by decide +kernel
theorem d28_7 : decode K28 7 = .ok (.istore_n 1, 1) := by decide +kernel
theorem d28_8 : decode K28 8 = .ok (.iload_n 0, 1) := by decide +kernel
theorem d28_9 : decode K28 9 = .ok (.ineg, 1) := by decide +kernel
theorem d28_10 : decode K28 10 = .ok (.istore_n 0, 1) := by decide +kernel
theorem d28_11 : decode K28 11 = .ok (.bipush (-10), 2) := by decide +kernel
theorem d28_13 : decode K28 13 = .ok (.istore_n 2, 1) := by decide +kernel
theorem d28_14 : decode K28 14 = .ok (.iconst 1, 1) := by decide +kernel
theorem d28_15 : decode K28 15 = .ok (.istore_n 3, 1) := by decide +kernel
theorem d28_16 : decode K28 16 = .ok (.iload_n 3, 1) := by decide +kernel
theorem d28_17 : decode K28 17 = .ok (.bipush 10, 2) := by decide +kernel
theorem d28_19 : decode K28 19 = .ok (.if_icmp .ge 23, 3) := by decide +kernel
theorem d28_22 : decode K28 22 = .ok (.iload_n 0, 1) := by decide +kernel
theorem d28_23 : decode K28 23 = .ok (.iload_n 2, 1) := by decide +kernel
theorem d28_24 : decode K28 24 = .ok (.if_icmp .le 7, 3) := by decide +kernel
theorem d28_27 : decode K28 27 = .ok (.iload_n 3, 1) := by decide +kernel
theorem d28_28 : decode K28 28 = .ok (.iload_n 1, 1) := by decide +kernel
theorem d28_29 : decode K28 29 = .ok (.iadd, 1) := by decide +kernel
theorem d28_30 : decode K28 30 = .ok (.ireturn, 1) := by decide +kernel
theorem d28_31 : decode K28 31 = .ok (.bipush 10, 2) := by decide +kernel
theorem d28_33 : decode K28 33 = .ok (.iload_n 2, 1) := by decide +kernel
theorem d28_34 : decode K28 34 = .ok (.imul, 1) := by decide +kernel
theorem d28_35 : decode K28 35 = .ok (.istore_n 2, 1) := by decide +kernel
theorem d28_36 : decode K28 36 = .ok (.iinc 3 1, 3) := by decide +kernel
theorem d28_39 : decode K28 39 = .ok (.goto (-23), 3) := by decide +kernel
theorem d29_0 : decode K29 0 = .ok (.getstatic 18, 3) := by decide +kernel
theorem d29_3 : decode K29 3 = .ok (.ifCond .eq 14, 3) := by decide +kernel
theorem d29_6 : decode K29 6 = .ok (.aload_n 0, 1) := by decide +kernel
theorem d29_7 : decode K29 7 = .ok (.getfield 22, 3) := by decide +kernel
theorem d29_10 : decode K29 10 = .ok (.ifCond .ne 7, 3) := by decide +kernel
theorem d29_13 : decode K29 13 = .ok (.iconst 1, 1) := by decide +kernel
theorem d29_14 : decode K29 14 = .ok (.goto 4, 3) := by decide +kernel
theorem d29_18 : decode K29 18 = .ok (.ireturn, 1) := by decide +kernel
theorem d30_0 : decode K30 0 = .ok (.iload_n 1, 1) := by decide +kernel
theorem d30_1 : decode K30 1 = .ok (.istore 5, 2) := by decide +kernel
theorem d30_3 : decode K30 3 = .ok (.iload_n 0, 1) := by decide +kernel
theorem d30_4 : decode K30 4 = .ok (.ifCond .ge 7, 3) := by decide +kernel
theorem d30_11 : decode K30 11 = .ok (.iconst 0, 1) := by decide +kernel
theorem d30_12 : decode K30 12 = .ok (.istore 6, 2) := by decide +kernel
theorem d30_14 : decode K30 14 = .ok (.iload 6, 2) := by decide +kernel
theorem d30_16 : decode K30 16 = .ok (.ifCond .ne 6, 3) := by decide +kernel
theorem d30_19 : decode K30 19 = .ok (.iload_n 0, 1) := by decide +kernel
theorem d30_20 : decode K30 20 = .ok (.ineg, 1) := by decide +kernel
theorem d30_21 : decode K30 21 = .ok (.istore_n 0, 1) := by decide +kernel
theorem d30_22 : decode K30 22 = .ok (.iload_n 0, 1) := by decide +kernel
theorem d30_23 : decode K30 23 = .ok (.bipush (-100), 2) := by decide +kernel
theorem d30_25 : decode K30 25 = .ok (.if_icmp .gt 47, 3) := by decide +kernel
theorem d30_28 : decode K30 28 = .ok (.iload_n 0, 1) := by decide +kernel
theorem d30_29 : decode K30 29 = .ok (.bipush 100, 2) := by decide +kernel
theorem d30_31 : decode K30 31 = .ok (.idiv, 1) := by decide +kernel
theorem d30_32 : decode K30 32 = .ok (.istore_n 3, 1) := by decide +kernel
theorem d30_33 : decode K30 33 = .ok (.iload_n 3, 1) := by decide +kernel
theorem d30_34 : decode K30 34 = .ok (.bipush 100, 2) := by decide +kernel
theorem d30_36 : decode K30 36 = .ok (.imul, 1) := by decide +kernel
theorem d30_37 : decode K30 37 = .ok (.iload_n 0, 1) := by decide +kernel
theorem d30_38 : decode K30 38 = .ok (.isub, 1) := by decide +kernel
theorem d30_39 : decode K30 39 = .ok (.istore 4, 2) := by decide +kernel
theorem d30_41 : decode K30 41 = .ok (.iload_n 3, 1) := by decide +kernel
theorem d30_42 : decode K30 42 = .ok (.istore_n 0, 1) := by decide +kernel
theorem d30_43 : decode K30 43 = .ok (.aload_n 2, 1) := by decide +kernel
theorem d30_44 : decode K30 44 = .ok (.iinc 5 (-1), 3) := by decide +kernel
theorem d30_47 : decode K30 47 = .ok (.iload 5, 2) := by decide +kernel
theorem d30_49 : decode K30 49 = .ok (.getstatic 83, 3) := by decide +kernel
theorem d30_52 : decode K30 52 = .ok (.iload 4, 2) := by decide +kernel
theorem d30_54 : decode K30 54 = .ok (.baload, 1) := by decide +kernel
theorem d30_55 : decode K30 55 = .ok (.bastore, 1) := by decide +kernel
theorem d30_56 : decode K30 56 = .ok (.aload_n 2, 1) := by decide +kernel
theorem d30_57 : decode K30 57 = .ok (.iinc 5 (-1), 3) := by decide +kernel
theorem d30_60 : decode K30 60 = .ok (.iload 5, 2) := by decide +kernel
theorem d30_62 : decode K30 62 = .ok (.getstatic 87, 3) := by decide +kernel
theorem d30_65 : decode K30 65 = .ok (.iload 4, 2) := by decide +kernel
theorem d30_67 : decode K30 67 = .ok (.baload, 1) := by decide +kernel
theorem d30_68 : decode K30 68 = .ok (.bastore, 1) := by decide +kernel
theorem d30_69 : decode K30 69 = .ok (.goto (-47), 3) := by decide +kernel
theorem d30_72 : decode K30 72 = .ok (.aload_n 2, 1) := by decide +kernel
theorem d30_73 : decode K30 73 = .ok (.iinc 5 (-1), 3) := by decide +kernel
theorem d30_76 : decode K30 76 = .ok (.iload 5, 2) := by decide +kernel
theorem d30_78 : decode K30 78 = .ok (.getstatic 83, 3) := by decide +kernel
theorem d30_81 : decode K30 81 = .ok (.iload_n 0, 1) := by decide +kernel
theorem d30_82 : decode K30 82 = .ok (.ineg, 1) := by decide +kernel
theorem d30_83 : decode K30 83 = .ok (.baload, 1) := by decide +kernel
theorem d30_84 : decode K30 84 = .ok (.bastore, 1) := by decide +kernel
theorem d30_85 : decode K30 85 = .ok (.iload_n 0, 1) := by decide +kernel
theorem d30_86 : decode K30 86 = .ok (.bipush (-9), 2) := by decide +kernel
theorem d30_88 : decode K30 88 = .ok (.if_icmp .ge 16, 3) := by decide +kernel
theorem d30_91 : decode K30 91 = .ok (.aload_n 2, 1) := by decide +kernel
theorem d30_92 : decode K30 92 = .ok (.iinc 5 (-1), 3) := by decide +kernel
theorem d30_95 : decode K30 95 = .ok (.iload 5, 2) := by decide +kernel
theorem d30_97 : decode K30 97 = .ok (.getstatic 87, 3) := by decide +kernel
theorem d30_100 : decode K30 100 = .ok (.iload_n 0, 1) := by decide +kernel
theorem d30_101 : decode K30 101 = .ok (.ineg, 1) := by decide +kernel
theorem d30_102 : decode K30 102 = .ok (.baload, 1) := by decide +kernel
theorem d30_103 : decode K30 103 = .ok (.bastore, 1) := by decide +kernel
theorem d30_104 : decode K30 104 = .ok (.iload 6, 2) := by decide +kernel
theorem d30_106 : decode K30 106 = .ok (.ifCond .eq 12, 3) := by decide +kernel
theorem d30_118 : decode K30 118 = .ok (.iload 5, 2) := by decide +kernel
theorem d30_120 : decode K30 120 = .ok (.ireturn, 1) := by decide +kernel
theorem d31_0 : decode K31 0 = .ok (.new 18, 3) := by decide +kernel
theorem d31_3 : decode K31 3 = .ok (.dup, 1) := by decide +kernel
theorem d31_4 : decode K31 4 = .ok (.aload_n 0, 1) := by decide +kernel
theorem d31_5 : decode K31 5 = .ok (.invokespecial 137, 3) := by decide +kernel
theorem d31_8 : decode K31 8 = .ok (.areturn, 1) := by decide +kernel
theorem d32_0 : decode K32 0 = .ok (.aload_n 0, 1) := by decide +kernel
theorem d32_1 : decode K32 1 = .ok (.aload_n 1, 1) := by decide +kernel
theorem d32_2 : decode K32 2 = .ok (.aconst_null, 1) := by decide +kernel
theorem d32_3 : decode K32 3 = .ok (.invokespecial 489, 3) := by decide +kernel
theorem d32_6 : decode K32 6 = .ok (.return_, 1) := by decide +kernel
theorem d33_0 : decode K33 0 = .ok (.aload_n 0, 1) := by decide +kernel
theorem d33_1 : decode K33 1 = .ok (.invokespecial 1, 3) := by decide +kernel
theorem d33_4 : decode K33 4 = .ok (.aload_n 1, 1) := by decide +kernel
theorem d33_5 : decode K33 5 = .ok (.invokevirtual 552, 3) := by decide +kernel
theorem d33_8 : decode K33 8 = .ok (.astore_n 3, 1) := by decide +kernel
theorem d33_9 : decode K33 9 = .ok (.aload_n 1, 1) := by decide +kernel
theorem d33_10 : decode K33 10 = .ok (.invokevirtual 549, 3) := by decide +kernel
theorem d33_13 : decode K33 13 = .ok (.istore 4, 2) := by decide +kernel
theorem d33_15 : decode K33 15 = .ok (.aload_n 1, 1) := by decide +kernel
theorem d33_16 : decode K33 16 = .ok (.invokevirtual 1047, 3) := by decide +kernel
theorem d33_19 : decode K33 19 = .ok (.ifCond .eq 22, 3) := by decide +kernel
theorem d33_22 : decode K33 22 = .ok (.aload_n 0, 1) := by decide +kernel
theorem d33_23 : decode K33 23 = .ok (.iconst 0, 1) := by decide +kernel
theorem d33_24 : decode K33 24 = .ok (.putfield 15, 3) := by decide +kernel
theorem d33_27 : decode K33 27 = .ok (.aload_n 0, 1) := by decide +kernel
theorem d33_28 : decode K33 28 = .ok (.aload_n 3, 1) := by decide +kernel
theorem d33_29 : decode K33 29 = .ok (.iconst 0, 1) := by decide +kernel
theorem d33_30 : decode K33 30 = .ok (.iload 4, 2) := by decide +kernel
theorem d33_32 : decode K33 32 = .ok (.invokestatic 54, 3) := by decide +kernel
theorem d33_35 : decode K33 35 = .ok (.putfield 9, 3) := by decide +kernel
theorem d33_38 : decode K33 38 = .ok (.goto 59, 3) := by decide +kernel
theorem d33_97 : decode K33 97 = .ok (.return_, 1) := by decide +kernel
theorem d34_0 : decode K34 0 = .ok (.aload_n 0, 1) := by decide +kernel
theorem d34_1 : decode K34 1 = .ok (.getfield 15, 3) := by decide +kernel
theorem d34_4 : decode K34 4 = .ok (.areturn, 1) := by decide +kernel
theorem d35_0 : decode K35 0 = .ok (.aload_n 0, 1) := by decide +kernel
theorem d35_1 : decode K35 1 = .ok (.invokespecial 343, 3) := by decide +kernel
theorem d35_4 : decode K35 4 = .ok (.ireturn, 1) := by decide +kernel
theorem d36_0 : decode K36 0 = .ok (.aload_n 0, 1) := by decide +kernel
theorem d36_1 : decode K36 1 = .ok (.getfield 79, 3) := by decide +kernel
theorem d36_4 : decode K36 4 = .ok (.ireturn, 1) := by decide +kernel
theorem d37_0 : decode K37 0 = .ok (.iload_n 1, 1) := by decide +kernel
theorem d37_1 : decode K37 1 = .ok (.ifCond .ne 9, 3) := by decide +kernel
theorem d37_4 : decode K37 4 = .ok (.iload_n 2, 1) := by decide +kernel
theorem d37_5 : decode K37 5 = .ok (.aload_n 0, 1) := by decide +kernel
theorem d37_6 : decode K37 6 = .ok (.arraylength, 1) := by decide +kernel
theorem d37_7 : decode K37 7 = .ok (.if_icmp .eq 10, 3) := by decide +kernel
theorem d37_10 : decode K37 10 = .ok (.aload_n 0, 1) := by decide +kernel
theorem d37_11 : decode K37 11 = .ok (.iload_n 1, 1) := by decide +kernel
theorem d37_12 : decode K37 12 = .ok (.iload_n 2, 1) := by decide +kernel
theorem d37_13 : decode K37 13 = .ok (.invokestatic 339, 3) := by decide +kernel
theorem d37_16 : decode K37 16 = .ok (.areturn, 1) := by decide +kernel
theorem d38_0 : decode K38 0 = .ok (.iload_n 1, 1) := by decide +kernel
theorem d38_1 : decode K38 1 = .ok (.iload_n 2, 1) := by decide +kernel
theorem d38_2 : decode K38 2 = .ok (.invokestatic 343, 3) := by decide +kernel
theorem d38_5 : decode K38 5 = .ok (.iload_n 2, 1) := by decide +kernel
theorem d38_6 : decode K38 6 = .ok (.iload_n 1, 1) := by decide +kernel
theorem d38_7 : decode K38 7 = .ok (.isub, 1) := by decide +kernel
theorem d38_8 : decode K38 8 = .ok (.istore_n 3, 1) := by decide +kernel
theorem d38_9 : decode K38 9 = .ok (.iload_n 3, 1) := by decide +kernel
theorem d38_10 : decode K38 10 = .ok (.newarray .byte, 2) := by decide +kernel
theorem d38_12 : decode K38 12 = .ok (.astore 4, 2) := by decide +kernel
theorem d38_14 : decode K38 14 = .ok (.aload_n 0, 1) := by decide +kernel
theorem d38_15 : decode K38 15 = .ok (.iload_n 1, 1) := by decide +kernel
theorem d38_16 : decode K38 16 = .ok (.aload 4, 2) := by decide +kernel
theorem d38_18 : decode K38 18 = .ok (.iconst 0, 1) := by decide +kernel
theorem d38_19 : decode K38 19 = .ok (.aload_n 0, 1) := by decide +kernel
theorem d38_20 : decode K38 20 = .ok (.arraylength, 1) := by decide +kernel
theorem d38_21 : decode K38 21 = .ok (.iload_n 1, 1) := by decide +kernel
theorem d38_22 : decode K38 22 = .ok (.isub, 1) := by decide +kernel
theorem d38_23 : decode K38 23 = .ok (.iload_n 3, 1) := by decide +kernel
theorem d38_24 : decode K38 24 = .ok (.invokestatic 304, 3) := by decide +kernel
theorem d38_27 : decode K38 27 = .ok (.invokestatic 150, 3) := by decide +kernel
theorem d38_30 : decode K38 30 = .ok (.aload 4, 2) := by decide +kernel
theorem d38_32 : decode K38 32 = .ok (.areturn, 1) := by decide +kernel
theorem d39_0 : decode K39 0 = .ok (.iload_n 1, 1) := by decide +kernel
theorem d39_1 : decode K39 1 = .ok (.iload_n 0, 1) := by decide +kernel
theorem d39_2 : decode K39 2 = .ok (.if_icmp .ge 35, 3) := by decide +kernel
theorem d39_37 : decode K39 37 = .ok (.return_, 1) := by decide +kernel
theorem d40_0 : decode K40 0 = .ok (.iload_n 0, 1) := by decide +kernel
theorem d40_1 : decode K40 1 = .ok (.iload_n 1, 1) := by decide +kernel
theorem d40_2 : decode K40 2 = .ok (.if_icmp .gt 7, 3) := by decide +kernel
theorem d40_9 : decode K40 9 = .ok (.iload_n 1, 1) := by decide +kernel
theorem d40_10 : decode K40 10 = .ok (.ireturn, 1) := by decide +kernel
theorem d41_0 : decode K41 0 = .ok (.iload_n 3, 1) := by decide +kernel
theorem d41_1 : decode K41 1 = .ok (.iload_n 2, 1) := by decide +kernel
theorem d41_2 : decode K41 2 = .ok (.if_icmp .ge 14, 3) := by decide +kernel
theorem d41_5 : decode K41 5 = .ok (.aload_n 0, 1) := by decide +kernel
theorem d41_6 : decode K41 6 = .ok (.iload_n 3, 1) := by decide +kernel
theorem d41_7 : decode K41 7 = .ok (.invokevirtual 34, 3) := by decide +kernel
theorem d41_10 : decode K41 10 = .ok (.aload_n 1, 1) := by decide +kernel
theorem d41_11 : decode K41 11 = .ok (.iload_n 3, 1) := by decide +kernel
theorem d41_12 : decode K41 12 = .ok (.caload, 1) := by decide +kernel
theorem d41_13 : decode K41 13 = .ok (.if_icmp .ne 7, 3) := by decide +kernel
theorem d41_16 : decode K41 16 = .ok (.iconst 1, 1) := by decide +kernel
theorem d41_17 : decode K41 17 = .ok (.goto 4, 3) := by decide +kernel
theorem d41_21 : decode K41 21 = .ok (.ireturn, 1) := by decide +kernel
theorem d42_0 : decode K42 0 = .ok (.aload_n 0, 1) := by decide +kernel
theorem d42_1 : decode K42 1 = .ok (.invokevirtual 492, 3) := by decide +kernel
theorem d42_4 : decode K42 4 = .ok (.ifCond .eq 12, 3) := by decide +kernel
theorem d42_7 : decode K42 7 = .ok (.aload_n 0, 1) := by decide +kernel
theorem d42_8 : decode K42 8 = .ok (.getfield 9, 3) := by decide +kernel
theorem d42_11 : decode K42 11 = .ok (.iload_n 1, 1) := by decide +kernel
theorem d42_12 : decode K42 12 = .ok (.invokestatic 495, 3) := by decide +kernel
theorem d42_15 : decode K42 15 = .ok (.ireturn, 1) := by decide +kernel
theorem d43_0 : decode K43 0 = .ok (.iload_n 1, 1) := by decide +kernel
theorem d43_1 : decode K43 1 = .ok (.aload_n 0, 1) := by decide +kernel
theorem d43_2 : decode K43 2 = .ok (.arraylength, 1) := by decide +kernel
theorem d43_3 : decode K43 3 = .ok (.invokestatic 9, 3) := by decide +kernel
theorem d43_6 : decode K43 6 = .ok (.aload_n 0, 1) := by decide +kernel
theorem d43_7 : decode K43 7 = .ok (.iload_n 1, 1) := by decide +kernel
theorem d43_8 : decode K43 8 = .ok (.baload, 1) := by decide +kernel
theorem d43_9 : decode K43 9 = .ok (.sipush 255, 3) := by decide +kernel
theorem d43_12 : decode K43 12 = .ok (.iand, 1) := by decide +kernel
theorem d43_13 : decode K43 13 = .ok (.i2c, 1) := by decide +kernel
theorem d43_14 : decode K43 14 = .ok (.ireturn, 1) := by decide +kernel
theorem d44_0 : decode K44 0 = .ok (.iload_n 0, 1) := by decide +kernel
theorem d44_1 : decode K44 1 = .ok (.iload_n 1, 1) := by decide +kernel
theorem d44_2 : decode K44 2 = .ok (.getstatic 1053, 3) := by decide +kernel
theorem d44_5 : decode K44 5 = .ok (.invokestatic 1059, 3) := by decide +kernel
theorem d44_8 : decode K44 8 = .ok (.pop, 1) := by decide +kernel
theorem d44_9 : decode K44 9 = .ok (.return_, 1) := by decide +kernel
theorem d45_0 : decode K45 0 = .ok (.iload_n 0, 1) := by decide +kernel
theorem d45_1 : decode K45 1 = .ok (.ifCond .lt 8, 3) := by decide +kernel
theorem d45_4 : decode K45 4 = .ok (.iload_n 0, 1) := by decide +kernel
theorem d45_5 : decode K45 5 = .ok (.iload_n 1, 1) := by decide +kernel
theorem d45_6 : decode K45 6 = .ok (.if_icmp .lt 10, 3) := by decide +kernel
theorem d45_16 : decode K45 16 = .ok (.iload_n 0, 1) := by decide +kernel
theorem d45_17 : decode K45 17 = .ok (.ireturn, 1) := by decide +kernel
theorem d46_0 : decode K46 0 = .ok (.aload_n 0, 1) := by decide +kernel
theorem d46_1 : decode K46 1 = .ok (.aload_n 1, 1) := by decide +kernel
theorem d46_2 : decode K46 2 = .ok (.iconst 0, 1) := by decide +kernel
theorem d46_3 : decode K46 3 = .ok (.invokevirtual 624, 3) := by decide +kernel
theorem d46_6 : decode K46 6 = .ok (.ireturn, 1) := by decide +kernel
theorem d47_0 : decode K47 0 = .ok (.iload_n 2, 1) := by decide +kernel
theorem d47_1 : decode K47 1 = .ok (.ifCond .lt 16, 3) := by decide +kernel
theorem d47_4 : decode K47 4 = .ok (.iload_n 2, 1) := by decide +kernel
theorem d47_5 : decode K47 5 = .ok (.aload_n 0, 1) := by decide +kernel
theorem d47_6 : decode K47 6 = .ok (.invokevirtual 505, 3) := by decide +kernel
theorem d47_9 : decode K47 9 = .ok (.aload_n 1, 1) := by decide +kernel
theorem d47_10 : decode K47 10 = .ok (.invokevirtual 505, 3) := by decide +kernel
theorem d47_13 : decode K47 13 = .ok (.isub, 1) := by decide +kernel
theorem d47_14 : decode K47 14 = .ok (.if_icmp .le 5, 3) := by decide +kernel
theorem d47_19 : decode K47 19 = .ok (.aload_n 0, 1) := by decide +kernel
theorem d47_20 : decode K47 20 = .ok (.getfield 9, 3) := by decide +kernel
theorem d47_23 : decode K47 23 = .ok (.astore_n 3, 1) := by decide +kernel
theorem d47_24 : decode K47 24 = .ok (.aload_n 1, 1) := by decide +kernel
theorem d47_25 : decode K47 25 = .ok (.getfield 9, 3) := by decide +kernel
theorem d47_28 : decode K47 28 = .ok (.astore 4, 2) := by decide +kernel
theorem d47_30 : decode K47 30 = .ok (.iconst 0, 1) := by decide +kernel
theorem d47_31 : decode K47 31 = .ok (.istore 5, 2) := by decide +kernel
theorem d47_33 : decode K47 33 = .ok (.aload 4, 2) := by decide +kernel
theorem d47_35 : decode K47 35 = .ok (.arraylength, 1) := by decide +kernel
theorem d47_36 : decode K47 36 = .ok (.istore 6, 2) := by decide +kernel
theorem d47_38 : decode K47 38 = .ok (.aload_n 0, 1) := by decide +kernel
theorem d47_39 : decode K47 39 = .ok (.invokevirtual 335, 3) := by decide +kernel
theorem d47_42 : decode K47 42 = .ok (.istore 7, 2) := by decide +kernel
theorem d47_44 : decode K47 44 = .ok (.iload 7, 2) := by decide +kernel
theorem d47_46 : decode K47 46 = .ok (.aload_n 1, 1) := by decide +kernel
theorem d47_47 : decode K47 47 = .ok (.invokevirtual 335, 3) := by decide +kernel
theorem d47_50 : decode K47 50 = .ok (.if_icmp .ne 32, 3) := by decide +kernel
theorem d47_53 : decode K47 53 = .ok (.iload 7, 2) := by decide +kernel
theorem d47_55 : decode K47 55 = .ok (.iconst 1, 1) := by decide +kernel
theorem d47_56 : decode K47 56 = .ok (.if_icmp .ne 7, 3) := by decide +kernel
theorem d47_63 : decode K47 63 = .ok (.aload_n 3, 1) := by decide +kernel
theorem d47_64 : decode K47 64 = .ok (.iload_n 2, 1) := by decide +kernel
theorem d47_65 : decode K47 65 = .ok (.aload 4, 2) := by decide +kernel
theorem d47_67 : decode K47 67 = .ok (.iconst 0, 1) := by decide +kernel
theorem d47_68 : decode K47 68 = .ok (.iload 6, 2) := by decide +kernel
theorem d47_70 : decode K47 70 = .ok (.invokestatic 607, 3) := by decide +kernel
theorem d47_73 : decode K47 73 = .ok (.ifCond .ge 7, 3) := by decide +kernel
theorem d47_76 : decode K47 76 = .ok (.iconst 1, 1) := by decide +kernel
theorem d47_77 : decode K47 77 = .ok (.goto 4, 3) := by decide +kernel
theorem d47_80 : decode K47 80 = .ok (.iconst 0, 1) := by decide +kernel
theorem d47_81 : decode K47 81 = .ok (.ireturn, 1) := by decide +kernel
theorem d48_0 : decode K48 0 = .ok (.iconst 0, 1) := by decide +kernel
theorem d48_1 : decode K48 1 = .ok (.istore 5, 2) := by decide +kernel
theorem d48_3 : decode K48 3 = .ok (.iload 4, 2) := by decide +kernel
theorem d48_5 : decode K48 5 = .ok (.bipush 7, 2) := by decide +kernel
theorem d48_7 : decode K48 7 = .ok (.if_icmp .le 63, 3) := by decide +kernel
theorem d48_70 : decode K48 70 = .ok (.iload 5, 2) := by decide +kernel
theorem d48_72 : decode K48 72 = .ok (.iload 4, 2) := by decide +kernel
theorem d48_74 : decode K48 74 = .ok (.if_icmp .ge 27, 3) := by decide +kernel
theorem d48_77 : decode K48 77 = .ok (.aload_n 0, 1) := by decide +kernel
theorem d48_78 : decode K48 78 = .ok (.iload_n 1, 1) := by decide +kernel
theorem d48_79 : decode K48 79 = .ok (.iload 5, 2) := by decide +kernel
theorem d48_81 : decode K48 81 = .ok (.iadd, 1) := by decide +kernel
theorem d48_82 : decode K48 82 = .ok (.baload, 1) := by decide +kernel
theorem d48_83 : decode K48 83 = .ok (.aload_n 2, 1) := by decide +kernel
theorem d48_84 : decode K48 84 = .ok (.iload_n 3, 1) := by decide +kernel
theorem d48_85 : decode K48 85 = .ok (.iload 5, 2) := by decide +kernel
theorem d48_87 : decode K48 87 = .ok (.iadd, 1) := by decide +kernel
theorem d48_88 : decode K48 88 = .ok (.baload, 1) := by decide +kernel
theorem d48_89 : decode K48 89 = .ok (.if_icmp .eq 6, 3) := by decide +kernel
theorem d48_92 : decode K48 92 = .ok (.iload 5, 2) := by decide +kernel
theorem d48_94 : decode K48 94 = .ok (.ireturn, 1) := by decide +kernel
theorem d48_95 : decode K48 95 = .ok (.iinc 5 1, 3) := by decide +kernel
theorem d48_98 : decode K48 98 = .ok (.goto (-28), 3) := by decide +kernel
theorem d48_101 : decode K48 101 = .ok (.iconst (-1), 1) := by decide +kernel
theorem d48_102 : decode K48 102 = .ok (.ireturn, 1) := by decide +kernel
theorem pd_0 : parseMethodDescriptor "()B" = some ⟨[], some .byte⟩ := by decide +kernel
theorem pd_1 : parseMethodDescriptor "([CI[BII)I" = some ⟨[(.array .char), .int, (.array .byte), .int, .int], some .int⟩ := by decide +kernel
theorem pd_2 : parseMethodDescriptor "([CII)[B" = some ⟨[(.array .char), .int, .int], some (.array .byte)⟩ := by decide +kernel
theorem pd_3 : parseMethodDescriptor "([BI)B" = some ⟨[(.array .byte), .int], some .byte⟩ := by decide +kernel
theorem pd_4 : parseMethodDescriptor "([CIILjava/lang/Void;)V" = some ⟨[(.array .char), .int, .int, (.object "java/lang/Void")], none⟩ := by decide +kernel
theorem pd_5 : parseMethodDescriptor "([BI[BII)I" = some ⟨[(.array .byte), .int, (.array .byte), .int, .int], some .int⟩ := by decide +kernel
theorem pd_6 : parseMethodDescriptor "()Z" = some ⟨[], some .boolean⟩ := by decide +kernel
theorem pd_7 : parseMethodDescriptor "([B[B)I" = some ⟨[(.array .byte), (.array .byte)], some .int⟩ := by decide +kernel
theorem pd_8 : parseMethodDescriptor "()Ljava/lang/String;" = some ⟨[], some (.object "java/lang/String")⟩ := by decide +kernel
theorem pd_9 : parseMethodDescriptor "(Ljava/lang/String;)I" = some ⟨[(.object "java/lang/String")], some .int⟩ := by decide +kernel
theorem pd_10 : parseMethodDescriptor "()I" = some ⟨[], some .int⟩ := by decide +kernel
theorem pd_11 : parseMethodDescriptor "(Ljava/lang/String;I)Z" = some ⟨[(.object "java/lang/String"), .int], some .boolean⟩ := by decide +kernel
theorem pd_12 : parseMethodDescriptor "(I)V" = some ⟨[.int], none⟩ := by decide +kernel
theorem pd_13 : parseMethodDescriptor "(Ljava/lang/String;)V" = some ⟨[(.object "java/lang/String")], none⟩ := by decide +kernel
theorem pd_14 : parseMethodDescriptor "([BIB)V" = some ⟨[(.array .byte), .int, .byte], none⟩ := by decide +kernel
theorem pd_15 : parseMethodDescriptor "(ILjava/lang/String;)V" = some ⟨[.int, (.object "java/lang/String")], none⟩ := by decide +kernel
theorem pd_16 : parseMethodDescriptor "(Ljava/lang/String;)Ljava/lang/AbstractStringBuilder;" = some ⟨[(.object "java/lang/String")], some (.object "java/lang/AbstractStringBuilder")⟩ := by decide +kernel
theorem pd_17 : parseMethodDescriptor "(I)I" = some ⟨[.int], some .int⟩ := by decide +kernel
theorem pd_18 : parseMethodDescriptor "(II[B)I" = some ⟨[.int, .int, (.array .byte)], some .int⟩ := by decide +kernel
theorem pd_19 : parseMethodDescriptor "(I)Ljava/lang/AbstractStringBuilder;" = some ⟨[.int], some (.object "java/lang/AbstractStringBuilder")⟩ := by decide +kernel
theorem pd_20 : parseMethodDescriptor "(II)V" = some ⟨[.int, .int], none⟩ := by decide +kernel
theorem pd_21 : parseMethodDescriptor "(II)I" = some ⟨[.int, .int], some .int⟩ := by decide +kernel
theorem pd_22 : parseMethodDescriptor "([BII)[B" = some ⟨[(.array .byte), .int, .int], some (.array .byte)⟩ := by decide +kernel
theorem pd_23 : parseMethodDescriptor "()[B" = some ⟨[], some (.array .byte)⟩ := by decide +kernel
theorem pd_24 : parseMethodDescriptor "(Ljava/lang/AbstractStringBuilder;Ljava/lang/Void;)V" = some ⟨[(.object "java/lang/AbstractStringBuilder"), (.object "java/lang/Void")], none⟩ := by decide +kernel
theorem pd_25 : parseMethodDescriptor "(Ljava/lang/StringBuilder;)V" = some ⟨[(.object "java/lang/StringBuilder")], none⟩ := by decide +kernel
theorem pd_26 : parseMethodDescriptor "(IILjava/util/function/BiFunction;)I" = some ⟨[.int, .int, (.object "java/util/function/BiFunction")], some .int⟩ := by decide +kernel
theorem pd_27 : parseMethodDescriptor "([BI)C" = some ⟨[(.array .byte), .int], some .char⟩ := by decide +kernel
theorem pd_28 : parseMethodDescriptor "(I)C" = some ⟨[.int], some .char⟩ := by decide +kernel
theorem pd_29 : parseMethodDescriptor "(Ljava/lang/String;ILjava/nio/file/Path;Ljava/nio/file/Path;)V" = some ⟨[(.object "java/lang/String"), .int, (.object "java/nio/file/Path"), (.object "java/nio/file/Path")], none⟩ := by decide +kernel
theorem pd_30 : parseMethodDescriptor "(Ljava/lang/CharSequence;)Z" = some ⟨[(.object "java/lang/CharSequence")], some .boolean⟩ := by decide +kernel
theorem pd_31 : parseMethodDescriptor "()V" = some ⟨[], none⟩ := by decide +kernel
theorem pd_32 : parseMethodDescriptor "(Ljava/lang/String;)Ljava/lang/StringBuilder;" = some ⟨[(.object "java/lang/String")], some (.object "java/lang/StringBuilder")⟩ := by decide +kernel
theorem pd_33 : parseMethodDescriptor "(I)Ljava/lang/StringBuilder;" = some ⟨[.int], some (.object "java/lang/StringBuilder")⟩ := by decide +kernel
theorem pd_34 : parseMethodDescriptor "(Ljava/lang/String;)Z" = some ⟨[(.object "java/lang/String")], some .boolean⟩ := by decide +kernel
theorem pd_35 : parseMethodDescriptor "([C)V" = some ⟨[(.array .char)], none⟩ := by decide +kernel
theorem pd_36 : parseMethodDescriptor "(Ljava/lang/String;I)Lcom/example/lanternwood/lanternwood/ReplAddress;" = some ⟨[(.object "java/lang/String"), .int], some (.object "com/example/lanternwood/lanternwood/ReplAddress")⟩ := by decide +kernel
theorem pd_37 : parseMethodDescriptor "(Ljava/lang/String;[CII)Z" = some ⟨[(.object "java/lang/String"), (.array .char), .int, .int], some .boolean⟩ := by decide +kernel
section OwnAv
variable {p : Program} {l : Launch} {e : Env} {R : Room} {s : State} {m : MethodId} {args : Array Value} {below : List Frame} {meth : Method} {c : Code} {T : State} {Z : State} {a0 : Array Value} {h h' : Heap} {n0 n1 cells slots nc ns pc pc' : Nat} {Ls : Array Slot} {st rest : List Value} {Q : GQ} {Ts Ts' : List String} {Lt : List (String × Nat × Addr)} {vm0 : Vm} {a b : Addr} {ty : FieldType} {vs ws : List Value}
/-- in heap h, at a, there is an array of ty that holds just these -/
def AV (Z : State) (h : Heap) (a : Addr) (ty : FieldType) (vs : List Value) : Prop := ∃ c : Cell, Arr Z h a c ty ∧ c.slots.size = vs.length ∧ vs.length < 2147483648 ∧ (∀ i, i < vs.length → c.slots[i]? = some (vs.getD i .null)) ∧ ∀ i, i < vs.length → Jvm.fits ty (vs.getD i .null) = true
theorem AV.lt (F : AV Z h a ty vs) : a < h.size := by obtain ⟨c, A, -⟩ := F; exact A.lt
theorem AV.ext (F : AV Z h a ty vs) (E : Ext h h') : AV Z h' a ty vs := by obtain ⟨c, A, r⟩ := F; exact ⟨c, A.ext E, r⟩
theorem AV.other {sl : Nat} {v : Value} (F : AV Z h b ty vs) (W : Wr h h' a sl v) (q : b ≠ a) : AV Z h' b ty vs := by obtain ⟨c, A, r⟩ := F; exact ⟨c, A.other W q, r⟩
theorem AV.keep {ws : List Addr} (F : AV Z h a ty vs) (K : Keep h h' ws) (q : a ∉ ws) : AV Z h' a ty vs := by obtain ⟨c, A, r⟩ := F; exact ⟨c, ⟨K.2.1 a c A.1 q, A.2⟩, r⟩
theorem own_len {n : Nat} (h : n < 2147483648) : (Nat.toInt32 n).toNatClampNeg = n ∧ ¬ Nat.toInt32 n < 0 := by
  have e : (Nat.toInt32 n).toInt = n := Int32.toInt_ofNat_small (by omega)
  constructor
  · simp only [Int32.toNatClampNeg, e]; rfl
  · rw [Int32.lt_iff_toInt_lt, e]; have : (0 : Int32).toInt = 0 := rfl
    omega
theorem AV.arv (F : AV Z h a ty vs) : ∃ k, Arv Z h a k ty (Nat.toInt32 vs.length) vs .null := by
  obtain ⟨c, A, S, L, H, G⟩ := F
  obtain ⟨q1, q2⟩ := own_len L
  exact ⟨c.cls, c, A, rfl, by rw [S, q1], q2, fun i hi => H i (by omega), fun i hi => G i (by omega)⟩
theorem Arv.av {k : ClassId} {z : Int32} {dv : Value} (F : Arv Z h a k ty z vs dv) (q : z.toNatClampNeg = vs.length) (L : vs.length < 2147483648) : AV Z h a ty vs := by
  obtain ⟨c, A, -, S, -, H, G⟩ := F
  have e : ∀ i, i < vs.length → vs.getD i dv = vs.getD i .null := fun i hi => by
    simp only [List.getD_eq_getElem?_getD, List.getElem?_eq_getElem hi, Option.getD_some]
  exact ⟨c, A, by rw [S, q], L, fun i hi => by rw [← e i hi]; exact H i (by omega), fun i hi => by rw [← e i hi]; exact G i (by omega)⟩

theorem own_idx {j : Int32} {i : Nat} (hj : j.toInt = (i : Int)) : j.toNatClampNeg = i ∧ ¬ j < 0 := by
  constructor
  · unfold Int32.toNatClampNeg; rw [hj]; rfl
  · rw [Int32.lt_iff_toInt_lt, hj]; have : (0 : Int32).toInt = 0 := rfl
    omega
theorem g_caload (X : Wk p l e R s m args below meth c n1 Z Ts Lt T h cells slots) (hx : p.tables.exec = Jvm.exec) (hZ : Z.Warmed39 s.vm) (F : AV Z h a .char vs) {j : Int32} {i : Nat} (hj : j.toInt = (i : Int)) (hi : i < vs.length) {x : Int32} (hv : vs.getD i .null = .int x) (hp : pc + 1 = pc') (hd : decode c.code pc = .ok (.caload, 1))
    (k : Go p e below s n0 Q nc ns (T.setTop (mkF m pc' Ls (.int x :: rest)))) : Go p e below s n0 Q nc ns (T.setTop (mkF m pc Ls (.int j :: .ref a :: rest))) := by
  subst hp; obtain ⟨locs, vm0, X, N, eT, B⟩ := X; replace hZ := B.hZ hZ
  obtain ⟨cl, A, S, -, H, -⟩ := F
  obtain ⟨e1, e2⟩ := own_idx hj
  have hin : ¬ (j < 0 ∨ cl.slots.size ≤ j.toNatClampNeg) := by rw [e1, S]; intro q; rcases q with q | q; exact e2 q; omega
  exact go_back (fun t q => X.caload hx (j := j) (v := .int x) (by rw [eT]; exact A.1) (State.isArrayOf_alike hZ.alike A.2.1) A.2.2 hin (by rw [e1, ← hv]; exact H i hi) (g := mkF m pc Ls (.int j :: .ref a :: rest)) rfl rfl hd t q) k
theorem g_baload (X : Wk p l e R s m args below meth c n1 Z Ts Lt T h cells slots) (hx : p.tables.exec = Jvm.exec) (hZ : Z.Warmed39 s.vm) (F : AV Z h a .byte vs) {j : Int32} {i : Nat} (hj : j.toInt = (i : Int)) (hi : i < vs.length) {x : Int32} (hv : vs.getD i .null = .int x) (hp : pc + 1 = pc') (hd : decode c.code pc = .ok (.baload, 1))
    (k : Go p e below s n0 Q nc ns (T.setTop (mkF m pc' Ls (.int x :: rest)))) : Go p e below s n0 Q nc ns (T.setTop (mkF m pc Ls (.int j :: .ref a :: rest))) := by
  subst hp; obtain ⟨locs, vm0, X, N, eT, B⟩ := X; replace hZ := B.hZ hZ
  obtain ⟨cl, A, S, -, H, -⟩ := F
  obtain ⟨e1, e2⟩ := own_idx hj
  have hin : ¬ (j < 0 ∨ cl.slots.size ≤ j.toNatClampNeg) := by rw [e1, S]; intro q; rcases q with q | q; exact e2 q; omega
  exact go_back (fun t q => X.baloadBytes hx (j := j) (v := .int x) (by rw [eT]; exact A.1) (State.isArrayOf_alike hZ.alike A.2.1) A.2.2 hin (by rw [e1, ← hv]; exact H i hi) (g := mkF m pc Ls (.int j :: .ref a :: rest)) rfl rfl hd t q) k
theorem AV.set {j : Int32} {i : Nat} {v : Value} (F : AV Z h a ty vs) (hj : j.toNatClampNeg = i) (hi : i < vs.length) (hf : Jvm.fits ty v = true) (W : Wr h h' a j.toNatClampNeg v) : AV Z h' a ty (vs.set i v) := by
  obtain ⟨cl, A, S, hl, H, G⟩ := F
  refine ⟨_, A.same W, by rw [sz_set, S, List.length_set], by rw [List.length_set]; exact hl, fun k hk => ?_, fun k hk => ?_⟩
  · rw [List.length_set] at hk
    rw [hj]
    by_cases u : i = k
    · subst u; simp [Cell.setSlot, S, hi]
    · have q := H k hk
      simp only [Cell.setSlot, List.getD_eq_getElem?_getD] at q ⊢
      rw [Array.getElem?_setIfInBounds_ne u, List.getElem?_set_ne u]; exact q
  · rw [List.length_set] at hk
    by_cases u : i = k
    · subst u; simpa [hi] using hf
    · have q := G k hk
      simp only [List.getD_eq_getElem?_getD] at q ⊢
      rw [List.getElem?_set_ne u]; exact q
theorem g_bastore (X : Wk p l e R s m args below meth c n1 Z Ts Lt T h cells slots) (hx : p.tables.exec = Jvm.exec) (hZ : Z.Warmed39 s.vm) (F : AV Z h a .byte vs) {j : Int32} {i : Nat} (hj : j.toInt = (i : Int)) (hi : i < vs.length) (hna : n1 ≤ a) {x y : Int32} (hxy : nar .byte x = y) (hp : pc + 1 = pc') (hd : decode c.code pc = .ok (.bastore, 1))
    (k : ∀ T' h', Wk p l e R s m args below meth c n1 Z Ts Lt T' h' cells slots → Wr h h' a j.toNatClampNeg (.int y) → AV Z h' a .byte (vs.set i (.int y)) → Go p e below s n0 Q nc ns (T'.setTop (mkF m pc' Ls rest))) : Go p e below s n0 Q nc ns (T.setTop (mkF m pc Ls (.int x :: .int j :: .ref a :: rest))) := by
  subst hp; subst hxy; obtain ⟨locs, vm0, X, N, eT, B⟩ := X; replace hZ := B.hZ hZ
  obtain ⟨e1, e2⟩ := own_idx hj
  obtain ⟨cl, A, S, hl, H⟩ := F
  have hin : ¬ (j < 0 ∨ cl.slots.size ≤ j.toNatClampNeg) := by rw [e1, S]; intro q; rcases q with q | q; exact e2 q; omega
  obtain ⟨T', h', X', e', W', b⟩ := stB X hx hZ eT A (x := x) hin (g := mkF m pc Ls (.int x :: .int j :: .ref a :: rest)) rfl rfl hd
  exact go_back b (k T' h' ⟨_, vm0, X', Fr.snoc X' N hna, e', B.grow (Nat.le_of_eq W'.size.symm)⟩ W' (AV.set ⟨cl, A, S, hl, H⟩ e1 hi (fits_nar_byte x) W'))
theorem g_castore (X : Wk p l e R s m args below meth c n1 Z Ts Lt T h cells slots) (hx : p.tables.exec = Jvm.exec) (hZ : Z.Warmed39 s.vm) (F : AV Z h a .char vs) {j : Int32} {i : Nat} (hj : j.toInt = (i : Int)) (hi : i < vs.length) (hna : n1 ≤ a) {x y : Int32} (hxy : nar .char x = y) (hp : pc + 1 = pc') (hd : decode c.code pc = .ok (.castore, 1))
    (k : ∀ T' h', Wk p l e R s m args below meth c n1 Z Ts Lt T' h' cells slots → Wr h h' a j.toNatClampNeg (.int y) → AV Z h' a .char (vs.set i (.int y)) → Go p e below s n0 Q nc ns (T'.setTop (mkF m pc' Ls rest))) : Go p e below s n0 Q nc ns (T.setTop (mkF m pc Ls (.int x :: .int j :: .ref a :: rest))) := by
  subst hp; subst hxy; obtain ⟨locs, vm0, X, N, eT, B⟩ := X; replace hZ := B.hZ hZ
  obtain ⟨e1, e2⟩ := own_idx hj
  obtain ⟨cl, A, S, hl, H⟩ := F
  have hin : ¬ (j < 0 ∨ cl.slots.size ≤ j.toNatClampNeg) := by rw [e1, S]; intro q; rcases q with q | q; exact e2 q; omega
  obtain ⟨T', h', X', e', W', b⟩ := stC X hx hZ eT A (x := x) hin (g := mkF m pc Ls (.int x :: .int j :: .ref a :: rest)) rfl rfl hd
  exact go_back b (k T' h' ⟨_, vm0, X', Fr.snoc X' N hna, e', B.grow (Nat.le_of_eq W'.size.symm)⟩ W' (AV.set ⟨cl, A, S, hl, H⟩ e1 hi (fits_nar_char x) W'))
theorem g_newA (X : Wk p l e R s m args below meth c n1 Z Ts Lt T h cells slots) (hx : p.tables.exec = Jvm.exec) (hZ : Z.Warmed39 s.vm) {aty : ArrayType} (w : (Jvm.Cond.arrayClass (newarray.typeOf aty)).before a0 Z = true) {n : Int32} {N : Nat} (hn : n.toInt = (N : Int)) {cap : Nat} (hcap : N ≤ cap) (hb : cap * 8 ≤ 536870912) (hp : pc + 2 = pc') (hd : decode c.code pc = .ok (.newarray aty, 2)) (hc : cells + 1 ≤ R.cells) (hl : slots + cap ≤ R.slots)
    (k : ∀ T' h' a, a = h.size → Wk p l e R s m args below meth c n1 Z Ts Lt T' h' (cells + 1) (slots + cap) → Ext h h' → AV Z h' a (newarray.typeOf aty) (List.replicate N (defaultValue (newarray.typeOf aty))) → Go p e below s n0 Q nc ns (T'.setTop (mkF m pc' Ls (.ref a :: rest)))) : Go p e below s n0 Q nc ns (T.setTop (mkF m pc Ls (.int n :: rest))) := by
  subst hp; obtain ⟨locs, vm0, X, Nf, eT, B⟩ := X; replace hZ := B.hZ hZ
  obtain ⟨e1, e2⟩ := own_idx hn
  obtain ⟨T', h', cA, X', e', E', A', b⟩ := newP X hx hZ (aty := aty) w eT (g := mkF m pc Ls (.int n :: rest)) rfl hd rfl e2 (cap := cap) (by rw [e1]; exact hcap) hb hc hl
  have V := Arv.pad (vs' := List.replicate N (defaultValue (newarray.typeOf aty))) (Arv.new A' e2) (fun i => by
    have q := pad_rep [] (defaultValue (newarray.typeOf aty)) N i
    simpa using q)
  exact go_back b (k T' h' h.size rfl ⟨_, vm0, X', Nf, e', B.grow E'.1⟩ E' (Arv.av V (by rw [e1, List.length_replicate]) (by rw [List.length_replicate]; omega)))
theorem g_alen (X : Wk p l e R s m args below meth c n1 Z Ts Lt T h cells slots) (hx : p.tables.exec = Jvm.exec) (hZ : Z.Warmed39 s.vm) (F : AV Z h a ty vs) {z : Int32} (hz : z.toInt = (vs.length : Int)) (hp : pc + 1 = pc') (hd : decode c.code pc = .ok (.arraylength, 1))
    (k : Go p e below s n0 Q nc ns (T.setTop (mkF m pc' Ls (.int z :: rest)))) : Go p e below s n0 Q nc ns (T.setTop (mkF m pc Ls (.ref a :: rest))) := by
  subst hp; obtain ⟨locs, vm0, X, N, eT, B⟩ := X; replace hZ := B.hZ hZ
  obtain ⟨cl, A, S, -, H⟩ := F
  obtain ⟨e1, e2⟩ := own_idx hz
  have e3 : cl.slots.size.toInt32 = z := len_of (by rw [S, e1]) e2
  refine go_back (fun t q => X.arraylength hx (by rw [eT]; exact A.1) (State.isArrayOf_alike hZ.alike A.2.1) (g := mkF m pc Ls (.ref a :: rest)) rfl rfl hd t ?_) k
  rw [e3]; exact q
theorem since_up {s : State} {vm : Vm} {n n' : Nat} (q : s.Since vm n) (hn : n ≤ n') : s.Since vm n' := ⟨q.1, fun j p hj hp => ⟨(q.2 j p hj hp).1, Nat.lt_of_lt_of_le (q.2 j p hj hp).2 hn⟩⟩
/-- ldc of a String constant, the first time (its text is not among those loaded) -/
theorem g_ldcS (X : Wk p l e R s m args below meth c s.heap.size Z Ts Lt T h cells slots) (hx : p.tables.exec = Jvm.exec) (hZ : Z.Warmed39 s.vm) {own text : String} {index : Nat} (hown : s.vm.findClass own = some m.cls) (w : (Jvm.Cond.stringLink own index text).before a0 Z = true) (wS : ∀ d ∈ Bundle.stringAtoms, d.before a0 Z = true)
    (hkeep : ∀ (b : Addr) (cl : Cell), Z.heap[b]? = some cl → s.heap[b]? = some cl) (hnot : text ∉ Ts) (hh : Jvm.Lit.constHeld Z own index) (hcw : Jvm.Lit.compactW.before a0 Z = true)
    (ht : (∀ q ∈ text.toList, q.toNat < 256) ∧ text.toList.map (fun q => Value.int (Jvm.Lit.byteI q.toNat.toUInt16)) = vs) (hL : vs.length < 2147483648) (hp : pc + 2 = pc') (hd : decode c.code pc = .ok (.ldc index, 2)) {n : Nat} (hn : 4 * text.toList.length ≤ n) (hbig : n ≤ 536870912) (hc : cells + 2 ≤ R.cells) (hl : slots + (n + 4) ≤ R.slots)
    (k : ∀ T' h' a b, Wk p l e R s m args below meth c s.heap.size Z (text :: Ts) ((own, index, a) :: Lt) T' h' (cells + 2) (slots + (n + 4)) → Ext h h' → XSt Z h' a → SC Z h' a (.int 0) → SV Z h' a (.ref b) → AV Z h' b .byte vs → ((a < s.heap.size ∧ b < s.heap.size) ∨ (h.size ≤ a ∧ h.size ≤ b)) →
      Go p e below s n0 Q nc ns (T'.setTop (mkF m pc' Ls (.ref a :: st)))) : Go p e below s n0 Q nc ns (T.setTop (mkF m pc Ls st)) := by
  subst hp; obtain ⟨locs, vm0, X, N, eT, B⟩ := X; replace hZ := B.hZ hZ; replace hown := B.fc hown
  obtain ⟨⟨k0, hS, hk⟩, I, t⟩ := B
  obtain ⟨a, T', h', k1, b, kk, X', e', E, hS', hk', hW, hf, h1, h2, h3, h4, -, -, I', L', hw, st'⟩ := ldcSVd (s := s.setVm vm0) (vm0 := vm0) X hx hZ hown w wS eT ((State.WarmedH.refl (s.setVm vm0)).since h.size) (Nat.le_refl _) N hkeep I hnot hh hcw (z := Nat.toInt32 vs.length) ht (own_len hL).2 (own_len hL).1 (g := mkF m pc Ls st) rfl hd hn hbig hc hl
  refine go_back st' (k T' h' a b ⟨_, T'.vm, X', N, e', ⟨⟨h'.size, hS.trans (since_up hS' hk') (Nat.le_trans hk E.1), Nat.le_refl _⟩, I', fun q hq => ?_⟩⟩ E h1 h2 h3 (Arv.av h4 (own_len hL).1 hL) hw)
  rcases List.mem_cons.mp hq with rfl | hq
  · exact L'
  · exact Lit.stays (t q hq) hS'.1
theorem g_ldcA (X : Wk p l e R s m args below meth c n1 Z Ts Lt T h cells slots) (hx : p.tables.exec = Jvm.exec) (hZ : Z.Warmed39 s.vm) {own text : String} {index : Nat} (hown : s.vm.findClass own = some m.cls) (w : (Jvm.Cond.stringLink own index text).before a0 Z = true) (hm : (own, index, a) ∈ Lt) (hp : pc + 2 = pc') (hd : decode c.code pc = .ok (.ldc index, 2))
    (k : Go p e below s n0 Q nc ns (T.setTop (mkF m pc' Ls (.ref a :: st)))) : Go p e below s n0 Q nc ns (T.setTop (mkF m pc Ls st)) := by
  subst hp; obtain ⟨locs, vm0, X, N, eT, B⟩ := X; replace hZ := B.hZ hZ; replace hown := B.fc hown
  exact go_back (ldcAgain X hx hZ hown w (B.lt _ hm) (g := mkF m pc Ls st) rfl hd) k
theorem g_cast (X : Wk p l e R s m args below meth c n1 Z Ts Lt T h cells slots) (hx : p.tables.exec = Jvm.exec) (hZ : Z.Warmed39 s.vm) {own K : String} {index : Nat} (hown : s.vm.findClass own = some m.cls) (w : (Jvm.Cond.classLink own index K).before a0 Z = true) (F : Ins Z h a K true) (hp : pc + 3 = pc') (hd : decode c.code pc = .ok (.checkcast index, 3))
    (k : ∀ T', Wk p l e R s m args below meth c n1 Z Ts Lt T' h cells slots → Go p e below s n0 Q nc ns (T'.setTop (mkF m pc' Ls (.ref a :: rest)))) : Go p e below s n0 Q nc ns (T.setTop (mkF m pc Ls (.ref a :: rest))) := by
  subst hp; obtain ⟨locs, vm0, X, N, eT, B⟩ := X; replace hZ := B.hZ hZ; replace hown := B.fc hown
  obtain ⟨T', X', e', b⟩ := castY X hx hZ hown w eT F (g := mkF m pc Ls (.ref a :: rest)) rfl rfl hd
  exact go_back b (k T' ⟨_, vm0, X', N, e', B⟩)
/-- System.arraycopy between arrays of one primitive type -/
theorem g_copyP (X : Wk p l e R s m args below meth c n1 Z Ts Lt T h cells slots) (hx : p.tables.exec = Jvm.exec) (hZ : Z.Warmed39 s.vm) {own : String} {index : Nat} (hown : s.vm.findClass own = some m.cls)
    (w1 : (Jvm.Cond.methodLink own index Jvm.Stand.acN).before a0 Z = true) (w2 : (Jvm.Cond.native Jvm.Stand.acN).before a0 Z = true) (w3 : (Jvm.Cond.static Jvm.Stand.acN).before a0 Z = true) (w4 : (Jvm.Cond.initialized "java/lang/System").before a0 Z = true)
    (A : AV Z h a ty vs) (B : AV Z h b ty ws) (hty : refKind ty = false) {sp dp nn : Int32} {i j n : Nat} (h1 : sp.toInt = (i : Int)) (h2 : dp.toInt = (j : Int)) (h3 : nn.toInt = (n : Int)) (h4 : i + n ≤ vs.length) (h5 : j + n ≤ ws.length) (ge : n1 ≤ b)
    (hsz : Ls.size = c.maxLocals) (hp : pc + 3 = pc') (hd : decode c.code pc = .ok (.invokestatic index, 3)) (hf : 1 ≤ R.frames) {W : Nat} (hW : 2 * 0 + (rest.map fun v => v.category).sum ≤ W) (hlo : W + (nativeFrameWords "java/lang/System" "arraycopy" 5 + 11) ≤ R.locals)
    (k : ∀ T' h', Wk p l e R s m args below meth c n1 Z Ts Lt T' h' cells slots → Keep h h' [b] → AV Z h' b ty (ws.take j ++ (vs.drop i).take n ++ ws.drop (j + n)) → Go p e below s n0 Q nc ns (T'.setTop (mkF m pc' Ls rest))) : Go p e below s n0 Q nc ns (T.setTop (mkF m pc Ls (.int nn :: .int dp :: .ref b :: .int sp :: .ref a :: rest))) := by
  subst hp; obtain ⟨locs, vm0, X, N, eT, B0⟩ := X; replace hZ := B0.hZ hZ; replace hown := B0.fc hown
  have LA := A
  have LB := B
  obtain ⟨-, -, -, LA, -⟩ := LA
  obtain ⟨-, -, -, LB, -⟩ := LB
  obtain ⟨ka, A⟩ := A.arv
  obtain ⟨kb, B⟩ := B.arv
  have idx : ∀ {z : Int32} {t : Nat}, z.toInt = (t : Int) → z.toNatClampNeg = t ∧ ¬ z < 0 := fun {z t} hj => by
    constructor
    · unfold Int32.toNatClampNeg; rw [hj]; rfl
    · rw [Int32.lt_iff_toInt_lt, hj]; have : (0 : Int32).toInt = 0 := rfl
      omega
  obtain ⟨s1, s2⟩ := idx h1
  obtain ⟨d1, d2⟩ := idx h2
  obtain ⟨n1, n2⟩ := idx h3
  have hus : (vs.drop i).take n = (List.range nn.toNatClampNeg).map fun t => vs.getD (sp.toNatClampNeg + t) .null := by
    rw [s1, n1]
    apply List.ext_getElem?
    intro t
    simp only [List.getElem?_map, List.getElem?_take, List.getElem?_drop, List.getElem?_range]
    by_cases ht : t < n
    · simp [ht, List.getElem?_eq_getElem (show i + t < vs.length by omega), List.getElem?_range ht]
    · simp [ht]
  obtain ⟨T', h', L, X', e', N', K, V, b'⟩ := cpA X hx hZ hown w1 w2 w3 w4 eT A B (Or.inl ⟨rfl, hty⟩) s2 d2 n2 (by rw [s1, n1, (own_len LA).1]; exact h4) (by rw [d1, n1, (own_len LB).1]; exact h5) hus (by rw [d1, n1]; exact h5) N ge (g := mkF m pc Ls (.int nn :: .int dp :: .ref b :: .int sp :: .ref a :: rest)) rfl hsz rfl hd hf hW hlo
  have el : (ws.take j ++ (vs.drop i).take n ++ ws.drop (j + n)).length = ws.length := by
    simp only [List.length_append, List.length_take, List.length_drop]; omega
  rw [d1, n1] at V
  exact go_back b' (k T' h' ⟨_, vm0, X', N', e', B0.grow K.1⟩ K (Arv.av V (by rw [(own_len LB).1, el]) (by rw [el]; exact LB)))
theorem nar_i2b (x : Int32) : nar .byte (x.toInt8.toInt32) = x.toInt8.toInt32 := by simp [nar]
theorem nar_i2c (x : Int32) : nar .char (x.toUInt32.toUInt16.toUInt32.toInt32) = x.toUInt32.toUInt16.toUInt32.toInt32 := by
  show (x.toUInt32.toUInt16.toUInt32.toInt32).toUInt32.toUInt16.toUInt32.toInt32 = _
  rw [UInt32.toUInt32_toInt32, UInt16.toUInt16_toUInt32]
end OwnAv
section OwnAri
theorem ar_neg {p : Int32} (h : 0 ≤ p.toInt) : (-p).toInt = -p.toInt := by
  have := p.toInt_lt
  rw [Int32.toInt_neg, Int.bmod_eq_of_le (by omega) (by omega)]
theorem ar_div {p c : Int32} (h : 0 ≤ p.toInt) (hc : 0 < c.toInt) : (p / c).toInt = p.toInt / c.toInt := by
  rw [Int32.toInt_div_of_ne_right p c (fun q => by rw [q] at hc; exact absurd hc (by decide)), Int.tdiv_eq_ediv_of_nonneg h]
theorem ar_mod {p c : Int32} (h : 0 ≤ p.toInt) : (p % c).toInt = p.toInt % c.toInt := by
  rw [Int32.toInt_mod, Int.tmod_eq_emod_of_nonneg h]
theorem ar_add {p c : Int32} (h1 : -2147483648 ≤ p.toInt + c.toInt) (h2 : p.toInt + c.toInt < 2147483648) : (p + c).toInt = p.toInt + c.toInt := by
  rw [Int32.toInt_add, Int.bmod_eq_of_le (by omega) (by omega)]
theorem ar_sub {p c : Int32} (h1 : -2147483648 ≤ p.toInt - c.toInt) (h2 : p.toInt - c.toInt < 2147483648) : (p - c).toInt = p.toInt - c.toInt := by
  rw [Int32.toInt_sub, Int.bmod_eq_of_le (by omega) (by omega)]
theorem ar_mul {p c : Int32} (h1 : -2147483648 ≤ p.toInt * c.toInt) (h2 : p.toInt * c.toInt < 2147483648) : (p * c).toInt = p.toInt * c.toInt := by
  rw [Int32.toInt_mul, Int.bmod_eq_of_le (by omega) (by omega)]
theorem ar_ndiv {p c : Int32} (h : 0 ≤ p.toInt) (hc : 0 < c.toInt) : (-p) / c = -(p / c) := by
  apply Int32.toInt_inj.mp
  have hd := ar_div h hc
  have h0 : 0 ≤ (p / c).toInt := by rw [hd]; exact Int.ediv_nonneg h (by omega)
  rw [Int32.toInt_div_of_ne_right _ c (fun q => by rw [q] at hc; exact absurd hc (by decide)), ar_neg h, ar_neg h0, Int.neg_tdiv, Int.tdiv_eq_ediv_of_nonneg h, hd]
theorem ar_rem {p : Int32} (h : 0 ≤ p.toInt) (h2 : p.toInt < 65536) : -(p / 100) * 100 - (-p) = p % 100 := by
  apply Int32.toInt_inj.mp
  have e : (100 : Int32).toInt = 100 := rfl
  have hd := ar_div (c := 100) h (by decide)
  rw [e] at hd
  have h0 : 0 ≤ (p / 100).toInt := by omega
  have hn := ar_neg h0
  have hm : (-(p / 100) * 100).toInt = -(p / 100).toInt * 100 := by rw [ar_mul (by rw [hn, e]; omega) (by rw [hn, e]; omega), hn, e]
  rw [ar_sub (by rw [hm, ar_neg h]; omega) (by rw [hm, ar_neg h]; omega), hm, ar_neg h, ar_mod h, e]
  omega
theorem ar_lt {x p : Int32} (h : 0 ≤ p.toInt) (q : p.toInt < -x.toInt) : x < -p := by
  rw [Int32.lt_iff_toInt_lt, ar_neg h]; omega
theorem ar_nlt {x p : Int32} (h : 0 ≤ p.toInt) (q : -x.toInt ≤ p.toInt) : ¬ x < -p := by
  rw [Int32.lt_iff_toInt_lt, ar_neg h]; omega
theorem ar_lt' {x p : Int32} (h : 0 ≤ p.toInt) (q : -x.toInt < p.toInt) : -p < x := by
  rw [Int32.lt_iff_toInt_lt, ar_neg h]; omega
theorem ar_nlt' {x p : Int32} (h : 0 ≤ p.toInt) (q : p.toInt ≤ -x.toInt) : ¬ -p < x := by
  rw [Int32.lt_iff_toInt_lt, ar_neg h]; omega
theorem ar_nneg {p : Int32} (h : 0 ≤ p.toInt) : ¬ p < 0 := by
  rw [Int32.lt_iff_toInt_lt]; have : (0 : Int32).toInt = 0 := rfl
  omega
theorem ar_nn {p : Int32} : -(-p) = p := Int32.neg_neg
theorem ar_of {n : Nat} (h : n < 2147483648) : (Int32.ofNat n).toInt = (n : Int) := Int32.toInt_ofNat_of_lt h
theorem ar_u {w : UInt32} (h : w.toNat < 2147483648) : w.toInt32.toInt = (w.toNat : Int) := by
  have e : w.toInt32 = Int32.ofNat w.toNat := by rw [← UInt32.toInt32_ofNat', UInt32.ofNat_toNat]
  rw [e]; exact ar_of h
theorem ar_n {u : Int32} (h : 0 ≤ u.toInt) : u.toUInt32.toNat = u.toInt.toNat := by
  rw [Int32.toNat_toUInt32_of_le (by rw [Int32.le_iff_toInt_le]; exact h)]; rfl
theorem ar_id {a : Int32} (h : 0 ≤ a.toInt) : a = Int32.ofNat a.toInt.toNat := by
  have := a.toInt_lt
  apply Int32.toInt_inj.mp; rw [ar_of (by omega)]; omega
/-- a small char -/
theorem ar_i2c {u : Int32} (h1 : 0 ≤ u.toInt) (h2 : u.toInt < 65536) : u.toUInt32.toUInt16.toUInt32.toInt32 = u := by
  apply Int32.toInt_inj.mp
  have e2 : u.toUInt32.toUInt16.toUInt32.toNat = u.toInt.toNat := by
    rw [UInt16.toNat_toUInt32, UInt32.toNat_toUInt16, ar_n h1]; omega
  rw [ar_u (by omega), e2]; omega
theorem ar_and (y : Int32) : 0 ≤ (y &&& (255 : Int32)).toInt ∧ (y &&& (255 : Int32)).toInt ≤ 255 := by
  have h1 : (y.toUInt32 &&& 255).toNat ≤ 255 := by rw [UInt32.toNat_and]; exact Nat.and_le_right
  have e : (y &&& (255 : Int32)) = (y.toUInt32 &&& 255).toInt32 := rfl
  rw [e, ar_u (by omega)]; omega
/-- a byte that was a char's low half, read as a char -/
theorem ar_b {a : Int32} (h1 : 0 ≤ a.toInt) (h2 : a.toInt ≤ 255) : (a.toInt8.toInt32 &&& (255 : Int32)) = a := by
  have all : ∀ n : Fin 256, ((Int32.ofNat n.val).toInt8.toInt32 &&& (255 : Int32)) = Int32.ofNat n.val := by decide +kernel
  have := all ⟨a.toInt.toNat, by omega⟩
  rw [ar_id h1]; exact this
theorem ar_58 {a : Int32} (h1 : 0 ≤ a.toInt) (h2 : a.toInt ≤ 255) : (a.toInt8.toInt32 = 58) ↔ a = 58 := by
  have all : ∀ n : Fin 256, ((Int32.ofNat n.val).toInt8.toInt32 = 58) ↔ Int32.ofNat n.val = 58 := by decide +kernel
  have := all ⟨a.toInt.toNat, by omega⟩
  rw [ar_id h1]; exact this
theorem ar_91 {a : Int32} (h1 : 0 ≤ a.toInt) (h2 : a.toInt ≤ 255) : (a.toInt8.toInt32 = 91) ↔ a = 91 := by
  have all : ∀ n : Fin 256, ((Int32.ofNat n.val).toInt8.toInt32 = 91) ↔ Int32.ofNat n.val = 91 := by decide +kernel
  have := all ⟨a.toInt.toNat, by omega⟩
  rw [ar_id h1]; exact this
theorem ar_small {y : Int32} (h1 : 0 ≤ y.toInt) (h2 : y.toInt ≤ 127) : (y &&& (255 : Int32)) = y := by
  have all : ∀ n : Fin 128, (Int32.ofNat n.val &&& (255 : Int32)) = Int32.ofNat n.val := by decide +kernel
  have := all ⟨y.toInt.toNat, by omega⟩
  rw [ar_id h1]; exact this
end OwnAri
theorem own_wS {Z : State} {a0 : Array Value} (hw : ∀ d ∈ tables_1, d.before a0 Z = true) : ∀ d ∈ Bundle.stringAtoms, d.before a0 Z = true := by
  intro d hd
  simp only [Bundle.stringAtoms, Bundle.sN, List.mem_cons, List.not_mem_nil, or_false] at hd
  rcases hd with rfl | rfl | rfl | rfl | rfl | rfl | rfl
  · exact (wat hw 4 rfl)
  · exact (wat hw 3 rfl)
  · exact (wat hw 21 rfl)
  · exact (wat hw 31 rfl)
  · exact (wat hw 29 rfl)
  · exact (wat hw 56 rfl)
  · exact (wat hw 57 rfl)
theorem own_neA {Z : State} {a0 : Array Value} {h : Heap} {a b : Addr} {C : String} {k : Nat} {ty : FieldType} {vs : List Value} (E : Exa Z h a C) (wi : (Jvm.Cond.instantiable C k).before a0 Z = true) (A : AV Z h b ty vs) : a ≠ b := by
  obtain ⟨c, A, -⟩ := A; exact ne_arr E wi A
theorem own_nm1 {a c : String} {Ts : List String} (h1 : c ≠ a) (h : c ∉ Ts) : c ∉ a :: Ts := fun q => (List.mem_cons.mp q).elim h1 h
/-- the start's cells stand, and all that is written lies above them -/
def OldP (Z : State) (n0 : Nat) (h : Heap) : Prop := Z.heap.size ≤ n0 ∧ Ext Z.heap h
theorem OldP.start (s : State) : OldP s s.heap.size s.heap := ⟨Nat.le_refl _, Nat.le_refl _, fun _ _ q => q⟩
theorem OldP.up {Z : State} {n0 n1 : Nat} {h : Heap} (X : OldP Z n0 h) (q : n0 ≤ n1) : OldP Z n1 h := ⟨Nat.le_trans X.1 q, X.2⟩
theorem OldP.ext {Z : State} {n0 : Nat} {h h' : Heap} (X : OldP Z n0 h) (E : Ext h h') : OldP Z n0 h' := ⟨X.1, Nat.le_trans X.2.1 E.1, fun x c q => E.2 x c (X.2.2 x c q)⟩
theorem OldP.keep {Z : State} {n0 : Nat} {h h' : Heap} {ws : List Addr} (X : OldP Z n0 h) (K : Keep h h' ws) (q : ∀ x ∈ ws, n0 ≤ x) : OldP Z n0 h' := ⟨X.1, Nat.le_trans X.2.1 K.1, fun x c r => K.2.1 x c (X.2.2 x c r) fun z => absurd (Array.getElem?_eq_some_iff.mp r).1 (Nat.not_lt.mpr (Nat.le_trans X.1 (q x z)))⟩
theorem OldP.wr {Z : State} {n0 : Nat} {h h' : Heap} {a : Addr} {sl : Nat} {v : Value} (X : OldP Z n0 h) (W : Wr h h' a sl v) (q : n0 ≤ a) : OldP Z n0 h' := X.keep (Keep.of_wr W) (allS q all0)
theorem rm13 (l : Launch) (Z : State) (a0 : Array Value) (hw : HW a0 Z) (ws : List Jvm.Cond) (n0 : Nat) (Ts : List String) (t : Addr) (cz : Int32) (h0 : Heap) (hn0 : n0 ≤ h0.size) (O2 : St0 Z (.int cz)) (hcz : ¬ cz = 0) (OLD : OldP Z n0 h0) (Fc : SC Z h0 t (.int 0)) :
    Con l Z n0 Ts (Ts) (⟨"java/lang/String", "coder", "()B"⟩ : MethodName) jdk_42_method_152_code 1 (some .byte) ws ({ frames := 0, cells := 0, slots := 0, locals := 0 } : Room) #[(.ref t)] h0 (fun v h => v = some (.int 0) ∧ h = h0) := by
  refine con_start (fr0 := fun m => mkF m 0 #[.val (.ref t)] []) ?_
  intro p e s m below meth c T0 hx hZ hby hml hown hnm hret hlk hsh XA
  have X0 := XA n0
  have hlow : n0 ≤ s.heap.size := by rw [hsh]; exact hn0
  replace hown : s.vm.findClass "java/lang/String" = some m.cls := hown
  replace hml : c.maxLocals = 1 := hml
  refine g_getS X0 hx hZ hown (wat hw 16 rfl) Via.refl (Sta.ext OLD.2 O2) (pc' := 3) rfl (hD hby d13_0) (fun T1 X1 => ?_)
  refine g_ifN X1 hx (pcN := 6) (hD hby d13_3) rfl (show ¬ (cz = 0) from hcz) ?_
  refine g_aloadN X1 hx (pc' := 7) rfl (hD hby d13_6) rfl rfl ?_
  refine g_getF X1 hx hZ hown (wat hw 28 rfl) Via.refl Fc (pc' := 10) rfl (hD hby d13_7) (fun T2 X2 => ?_)
  refine g_goto X2 hx (pc' := 14) (hD hby d13_10) (by decide) (by decide) ?_
  exact g_ret X2 hx hlk hret (by first | rfl | exact congrArg Value.int (nar_i2c _) | exact congrArg Value.int (nar_i2b _)) (Or.inl ⟨rfl, Or.inr (Or.inr (Or.inl rfl)), _, rfl⟩) (hD hby d13_14) (by decide) (by decide) (Nat.le_refl _) (⟨rfl, rfl⟩)
theorem rm14 (l : Launch) (Z : State) (a0 : Array Value) (hw : HW a0 Z) (ws : List Jvm.Cond) (n0 : Nat) (Ts : List String) (t : Addr) (cz : Int32) (h0 : Heap) (hn0 : n0 ≤ h0.size) (O2 : St0 Z (.int cz)) (hcz : ¬ cz = 0) (OLD : OldP Z n0 h0) (Fc : SC Z h0 t (.int 0)) :
    Con l Z n0 Ts (Ts) (⟨"java/lang/String", "isLatin1", "()Z"⟩ : MethodName) jdk_42_method_154_code 1 (some .boolean) ws ({ frames := 0, cells := 0, slots := 0, locals := 0 } : Room) #[(.ref t)] h0 (fun v h => v = some (.int 1) ∧ h = h0) := by
  refine con_start (fr0 := fun m => mkF m 0 #[.val (.ref t)] []) ?_
  intro p e s m below meth c T0 hx hZ hby hml hown hnm hret hlk hsh XA
  have X0 := XA n0
  have hlow : n0 ≤ s.heap.size := by rw [hsh]; exact hn0
  replace hown : s.vm.findClass "java/lang/String" = some m.cls := hown
  replace hml : c.maxLocals = 1 := hml
  refine g_getS X0 hx hZ hown (wat hw 16 rfl) Via.refl (Sta.ext OLD.2 O2) (pc' := 3) rfl (hD hby d14_0) (fun T3 X3 => ?_)
  refine g_ifN X3 hx (pcN := 6) (hD hby d14_3) rfl (show ¬ (cz = 0) from hcz) ?_
  refine g_aloadN X3 hx (pc' := 7) rfl (hD hby d14_6) rfl rfl ?_
  refine g_getF X3 hx hZ hown (wat hw 28 rfl) Via.refl Fc (pc' := 10) rfl (hD hby d14_7) (fun T4 X4 => ?_)
  refine g_ifN X4 hx (pcN := 13) (hD hby d14_10) rfl (show ¬ (¬ (0 : Int32) = 0) from by decide) ?_
  refine g_iconst X4 hx (pc' := 14) (z := (1 : Int32)) rfl (hD hby d14_13) rfl ?_
  refine g_goto X4 hx (pc' := 18) (hD hby d14_14) (by decide) (by decide) ?_
  exact g_retZ X4 hx hlk hret (by first | exact Or.inl rfl | exact Or.inr rfl) (hD hby d14_18) (by decide) (by decide) (Nat.le_refl _) (⟨rfl, rfl⟩)
theorem ar_shr0 (x : Int32) : x >>> ((0 : Int32) &&& 31) = x := by simp
theorem ar_shl0 (x : Int32) : x <<< ((0 : Int32) &&& 31) = x := by simp
theorem rm21 (l : Launch) (Z : State) (a0 : Array Value) (hw : HW a0 Z) (ws : List Jvm.Cond) (n0 : Nat) (Ts : List String) (t tb : Addr) (xs : List Value) (n' : Int32) (cz : Int32) (h0 : Heap) (hn0 : n0 ≤ h0.size) (O2 : St0 Z (.int cz)) (hcz : ¬ cz = 0) (OLD : OldP Z n0 h0) (Et : XSt Z h0 t) (Fvt : SV Z h0 t (.ref tb)) (Fct : SC Z h0 t (.int 0)) (Abt : AV Z h0 tb .byte xs) (hl : n'.toInt = (xs.length : Int)) :
    Con l Z n0 Ts (Ts) (⟨"java/lang/String", "length", "()I"⟩ : MethodName) jdk_42_method_54_code 1 (some .int) ws ({ frames := 1, cells := 0, slots := 0, locals := 16 } : Room) #[(.ref t)] h0 (fun v h => v = some (.int n') ∧ h = h0) := by
  refine con_start (fr0 := fun m => mkF m 0 #[.val (.ref t)] []) ?_
  intro p e s m below meth c T0 hx hZ hby hml hown hnm hret hlk hsh XA
  have X0 := XA n0
  have hlow : n0 ≤ s.heap.size := by rw [hsh]; exact hn0
  replace hown : s.vm.findClass "java/lang/String" = some m.cls := hown
  replace hml : c.maxLocals = 1 := hml
  refine g_aloadN X0 hx (pc' := 1) rfl (hD hby d21_0) rfl rfl ?_
  refine g_getF X0 hx hZ hown (wat hw 30 rfl) Via.refl Fvt (pc' := 4) rfl (hD hby d21_1) (fun T5 X5 => ?_)
  refine g_alen X5 hx hZ Abt (z := n') hl (pc' := 5) rfl (hD hby d21_4) ?_
  refine g_aloadN X5 hx (pc' := 6) rfl (hD hby d21_5) rfl rfl ?_
  refine g_callV X5 hx hZ hown (wat hw 77 rfl) (wat hw 78 rfl) (wat hw 80 rfl) (wat hw 79 rfl) (wat hw 4 rfl) (wat hw 81 rfl) (by decide) (a := t) Et (rm13 l Z a0 hw [] n0 (Ts) t cz h0 hn0 O2 hcz OLD Fct) pd_0 rfl rfl (pc' := 9) rfl (hD hby d21_6) (argsL := []) (rest := [(.int n')]) rfl (W := 1) (fun v6 T6 h6 X6 hQ6 => ?_)
  obtain ⟨rfl, he6⟩ := hQ6
  rw [he6] at X6
  show Go p e below s n0 _ _ _ (T6.setTop (mkF m 9 _ [(.int 0), (.int n')]))
  refine g_ishr X6 hx (pc' := 10) rfl (hD hby d21_9) ?_
  refine g_normI (z := n') (ar_shr0 _) ?_
  exact g_retI X6 hx hlk hret (hD hby d21_10) (by decide) (by decide) (Nat.le_refl _) (⟨rfl, rfl⟩)
theorem rm5 (l : Launch) (Z : State) (a0 : Array Value) (hw : HW a0 Z) (ws : List Jvm.Cond) (n0 : Nat) (Ts : List String) (ca ba : Addr) (x0 x1 : Int32) (h0 : Heap) (hn0 : n0 ≤ h0.size) (hx0 : ¬ (255 : Int32) < x0) (hx1 : ¬ (255 : Int32) < x1) (Ac : AV Z h0 ca .char [.int x0, .int x1]) (Ab : AV Z h0 ba .byte [.int 0, .int 0]) (hgb : n0 ≤ ba) (hcb : ca ≠ ba) :
    Con l Z n0 Ts (Ts) (⟨"java/lang/StringUTF16", "compress", "([CI[BII)I"⟩ : MethodName) jdk_52_method_21_code 7 (some .int) ws ({ frames := 0, cells := 0, slots := 0, locals := 0 } : Room) #[(.ref ca), (.int 0), (.ref ba), (.int 0), (.int 2)] h0 (fun v h => v = some (.int 2) ∧ Keep h0 h [ba] ∧ AV Z h ba .byte [.int (x0).toInt8.toInt32, .int (x1).toInt8.toInt32]) := by
  refine con_start (fr0 := fun m => mkF m 0 #[.val (.ref ca), .val (.int 0), .val (.ref ba), .val (.int 0), .val (.int 2), .unset, .unset] []) ?_
  intro p e s m below meth c T0 hx hZ hby hml hown hnm hret hlk hsh XA
  have X0 := XA n0
  have hlow : n0 ≤ s.heap.size := by rw [hsh]; exact hn0
  replace hown : s.vm.findClass "java/lang/StringUTF16" = some m.cls := hown
  replace hml : c.maxLocals = 7 := hml
  refine g_iconst X0 hx (pc' := 1) (z := (0 : Int32)) rfl (hD hby d5_0) rfl ?_
  refine g_istore X0 hx (pc' := 3) rfl (hD hby d5_1) (l' := #[.val (.ref ca), .val (.int 0), .val (.ref ba), .val (.int 0), .val (.int 2), .val (.int 0), .unset]) rfl ?_
  refine g_iload X0 hx (pc' := 5) rfl (hD hby d5_3) rfl ?_
  refine g_iload X0 hx (pc' := 7) rfl (hD hby d5_5) rfl ?_
  refine g_icmpN X0 hx (pcN := 10) (hD hby d5_7) rfl (show ¬ (¬ (0 : Int32) < (2 : Int32)) from by decide) ?_
  refine g_aloadN X0 hx (pc' := 11) rfl (hD hby d5_10) rfl rfl ?_
  refine g_iloadN X0 hx (pc' := 12) rfl (hD hby d5_11) rfl ?_
  refine g_caload X0 hx hZ Ac (i := 0) (by decide) (show (0 : Nat) < 2 by decide) (x := x0) rfl (pc' := 13) rfl (hD hby d5_12) ?_
  refine g_istore X0 hx (pc' := 15) rfl (hD hby d5_13) (l' := #[.val (.ref ca), .val (.int 0), .val (.ref ba), .val (.int 0), .val (.int 2), .val (.int 0), .val (.int x0)]) rfl ?_
  refine g_iload X0 hx (pc' := 17) rfl (hD hby d5_15) rfl ?_
  refine g_sipush X0 hx (pc' := 20) (z := (255 : Int32)) rfl (hD hby d5_17) rfl ?_
  refine g_icmpY X0 hx (pcY := 26) (hD hby d5_20) (by decide) (by decide) (show ¬ (255 : Int32) < x0 from hx0) ?_
  refine g_aloadN X0 hx (pc' := 27) rfl (hD hby d5_26) rfl rfl ?_
  refine g_iloadN X0 hx (pc' := 28) rfl (hD hby d5_27) rfl ?_
  refine g_iload X0 hx (pc' := 30) rfl (hD hby d5_28) rfl ?_
  refine g_i2b X0 hx (pc' := 31) rfl (hD hby d5_30) ?_
  refine g_bastore X0 hx hZ Ab (i := 0) (by decide) (show (0 : Nat) < 2 by decide) hgb (y := (x0).toInt8.toInt32) (nar_i2b _) (pc' := 32) rfl (hD hby d5_31) (fun T7 h7 X7 W7 N7 => ?_)
  have f8 := (by have q := (Keep.of_wr W7).1; exact Nat.le_trans hn0 q : n0 ≤ h7.size)
  have f9 := (Keep.refl h0 [ba]).wr W7 (Or.inl (List.mem_of_getElem? (i := 0) rfl))
  have f10 := Ac.other W7 hcb
  have V7 : AV Z h7 ba .byte [.int (x0).toInt8.toInt32, .int 0] := N7
  refine g_iincC X7 hx (pc' := 35) (x := (0 : Int32)) (z := (1 : Int32)) rfl (hD hby d5_32) rfl (by decide) (l' := #[.val (.ref ca), .val (.int 1), .val (.ref ba), .val (.int 0), .val (.int 2), .val (.int 0), .val (.int x0)]) rfl ?_
  refine g_iincC X7 hx (pc' := 38) (x := (0 : Int32)) (z := (1 : Int32)) rfl (hD hby d5_35) rfl (by decide) (l' := #[.val (.ref ca), .val (.int 1), .val (.ref ba), .val (.int 1), .val (.int 2), .val (.int 0), .val (.int x0)]) rfl ?_
  refine g_iincC X7 hx (pc' := 41) (x := (0 : Int32)) (z := (1 : Int32)) rfl (hD hby d5_38) rfl (by decide) (l' := #[.val (.ref ca), .val (.int 1), .val (.ref ba), .val (.int 1), .val (.int 2), .val (.int 1), .val (.int x0)]) rfl ?_
  refine g_goto X7 hx (pc' := 3) (hD hby d5_41) (by decide) (by decide) ?_
  refine g_iload X7 hx (pc' := 5) rfl (hD hby d5_3) rfl ?_
  refine g_iload X7 hx (pc' := 7) rfl (hD hby d5_5) rfl ?_
  refine g_icmpN X7 hx (pcN := 10) (hD hby d5_7) rfl (show ¬ (¬ (1 : Int32) < (2 : Int32)) from by decide) ?_
  refine g_aloadN X7 hx (pc' := 11) rfl (hD hby d5_10) rfl rfl ?_
  refine g_iloadN X7 hx (pc' := 12) rfl (hD hby d5_11) rfl ?_
  refine g_caload X7 hx hZ f10 (i := 1) (by decide) (show (1 : Nat) < 2 by decide) (x := x1) rfl (pc' := 13) rfl (hD hby d5_12) ?_
  refine g_istore X7 hx (pc' := 15) rfl (hD hby d5_13) (l' := #[.val (.ref ca), .val (.int 1), .val (.ref ba), .val (.int 1), .val (.int 2), .val (.int 1), .val (.int x1)]) rfl ?_
  refine g_iload X7 hx (pc' := 17) rfl (hD hby d5_15) rfl ?_
  refine g_sipush X7 hx (pc' := 20) (z := (255 : Int32)) rfl (hD hby d5_17) rfl ?_
  refine g_icmpY X7 hx (pcY := 26) (hD hby d5_20) (by decide) (by decide) (show ¬ (255 : Int32) < x1 from hx1) ?_
  refine g_aloadN X7 hx (pc' := 27) rfl (hD hby d5_26) rfl rfl ?_
  refine g_iloadN X7 hx (pc' := 28) rfl (hD hby d5_27) rfl ?_
  refine g_iload X7 hx (pc' := 30) rfl (hD hby d5_28) rfl ?_
  refine g_i2b X7 hx (pc' := 31) rfl (hD hby d5_30) ?_
  refine g_bastore X7 hx hZ V7 (i := 1) (by decide) (show (1 : Nat) < 2 by decide) hgb (y := (x1).toInt8.toInt32) (nar_i2b _) (pc' := 32) rfl (hD hby d5_31) (fun T11 h11 X11 W11 N11 => ?_)
  have f12 := (by have q := (Keep.of_wr W11).1; exact Nat.le_trans f8 q : n0 ≤ h11.size)
  have f13 := f9.wr W11 (Or.inl (List.mem_of_getElem? (i := 0) rfl))
  have f14 := f10.other W11 hcb
  have V11 : AV Z h11 ba .byte [.int (x0).toInt8.toInt32, .int (x1).toInt8.toInt32] := N11
  refine g_iincC X11 hx (pc' := 35) (x := (1 : Int32)) (z := (2 : Int32)) rfl (hD hby d5_32) rfl (by decide) (l' := #[.val (.ref ca), .val (.int 2), .val (.ref ba), .val (.int 1), .val (.int 2), .val (.int 1), .val (.int x1)]) rfl ?_
  refine g_iincC X11 hx (pc' := 38) (x := (1 : Int32)) (z := (2 : Int32)) rfl (hD hby d5_35) rfl (by decide) (l' := #[.val (.ref ca), .val (.int 2), .val (.ref ba), .val (.int 2), .val (.int 2), .val (.int 1), .val (.int x1)]) rfl ?_
  refine g_iincC X11 hx (pc' := 41) (x := (1 : Int32)) (z := (2 : Int32)) rfl (hD hby d5_38) rfl (by decide) (l' := #[.val (.ref ca), .val (.int 2), .val (.ref ba), .val (.int 2), .val (.int 2), .val (.int 2), .val (.int x1)]) rfl ?_
  refine g_goto X11 hx (pc' := 3) (hD hby d5_41) (by decide) (by decide) ?_
  refine g_iload X11 hx (pc' := 5) rfl (hD hby d5_3) rfl ?_
  refine g_iload X11 hx (pc' := 7) rfl (hD hby d5_5) rfl ?_
  refine g_icmpY X11 hx (pcY := 44) (hD hby d5_7) (by decide) (by decide) (show ¬ (2 : Int32) < (2 : Int32) from by decide) ?_
  refine g_iload X11 hx (pc' := 46) rfl (hD hby d5_44) rfl ?_
  exact g_retI X11 hx hlk hret (hD hby d5_46) (by decide) (by decide) (Nat.le_refl _) (⟨rfl, f13, V11⟩)
theorem rm4 (l : Launch) (Z : State) (a0 : Array Value) (hw : HW a0 Z) (ws : List Jvm.Cond) (n0 : Nat) (Ts : List String) (ca : Addr) (x0 x1 : Int32) (h0 : Heap) (hn0 : n0 ≤ h0.size) (hx0 : ¬ (255 : Int32) < x0) (hx1 : ¬ (255 : Int32) < x1) (Ac : AV Z h0 ca .char [.int x0, .int x1]) :
    Con l Z n0 Ts (Ts) (⟨"java/lang/StringUTF16", "compress", "([CII)[B"⟩ : MethodName) jdk_52_method_16_code 6 (some (.array .byte)) ws ({ frames := 1, cells := 1, slots := 2, locals := 32 } : Room) #[(.ref ca), (.int 0), (.int 2)] h0 (fun v h => ∃ nb, v = some (.ref nb) ∧ n0 ≤ nb ∧ h0.size ≤ nb ∧ Keep h0 h [] ∧ AV Z h nb .byte [.int (x0).toInt8.toInt32, .int (x1).toInt8.toInt32]) := by
  refine con_start (fr0 := fun m => mkF m 0 #[.val (.ref ca), .val (.int 0), .val (.int 2), .unset, .unset, .unset] []) ?_
  intro p e s m below meth c T0 hx hZ hby hml hown hnm hret hlk hsh XA
  have X0 := XA n0
  have hlow : n0 ≤ s.heap.size := by rw [hsh]; exact hn0
  replace hown : s.vm.findClass "java/lang/StringUTF16" = some m.cls := hown
  replace hml : c.maxLocals = 6 := hml
  refine g_iloadN X0 hx (pc' := 1) rfl (hD hby d4_0) rfl ?_
  refine g_newA X0 hx hZ (aty := .byte) (wat hw 21 rfl) (N := 2) (by decide) (cap := 2) (Nat.le_refl _) (by decide) (pc' := 3) rfl (hD hby d4_1) (by decide) (by decide) (fun T15 h15 a15 ha15 X15 E15 N15 => ?_)
  have ne15_ca : ca ≠ a15 := by rw [ha15]; exact Nat.ne_of_lt Ac.lt
  have f16 := Ac.ext E15
  have sz15 : h0.size ≤ a15 := by rw [ha15]; exact (Keep.refl h0 []).1
  have f17 := (Keep.refl h0 []).ext E15
  have G_a15 : n0 ≤ a15 := by rw [ha15]; exact hn0
  have Zs15 : n0 ≤ h15.size := Nat.le_trans hn0 E15.1
  have V15 : AV Z h15 a15 .byte [.int 0, .int 0] := N15
  refine g_astoreN X15 hx (pc' := 4) rfl (hD hby d4_3) rfl (l' := #[.val (.ref ca), .val (.int 0), .val (.int 2), .val (.ref a15), .unset, .unset]) rfl ?_
  refine g_aloadN X15 hx (pc' := 5) rfl (hD hby d4_4) rfl rfl ?_
  refine g_iloadN X15 hx (pc' := 6) rfl (hD hby d4_5) rfl ?_
  refine g_aloadN X15 hx (pc' := 7) rfl (hD hby d4_6) rfl rfl ?_
  refine g_iconst X15 hx (pc' := 8) (z := (0 : Int32)) rfl (hD hby d4_7) rfl ?_
  refine g_iloadN X15 hx (pc' := 9) rfl (hD hby d4_8) rfl ?_
  refine g_callS X15 hx hZ hown (wat hw 22 rfl) (wat hw 23 rfl) (wat hw 19 rfl) (wat hw 24 rfl) (by decide) (rm5 l Z a0 hw [] n0 (Ts) ca a15 x0 x1 h15 Zs15 hx0 hx1 f16 V15 G_a15 ne15_ca) pd_1 rfl rfl (pc' := 12) rfl (hD hby d4_9) (argsL := [(.ref ca), (.int 0), (.ref a15), (.int 0), (.int 2)]) (rest := []) rfl (W := 0) (fun v18 T18 h18 X18 hQ18 => ?_)
  obtain ⟨rfl, K18, V18⟩ := hQ18
  have f19 := f17.trans K18 (allS (Or.inr sz15) all0)
  have f20 := f16.keep K18 (ninS ne15_ca nin0)
  have zs18 : n0 ≤ h18.size := Nat.le_trans Zs15 K18.1
  show Go p e below s n0 _ _ _ (T18.setTop (mkF m 12 _ [(.int 2)]))
  refine g_istore X18 hx (pc' := 14) rfl (hD hby d4_12) (l' := #[.val (.ref ca), .val (.int 0), .val (.int 2), .val (.ref a15), .val (.int 2), .unset]) rfl ?_
  refine g_iload X18 hx (pc' := 16) rfl (hD hby d4_14) rfl ?_
  refine g_iloadN X18 hx (pc' := 17) rfl (hD hby d4_16) rfl ?_
  refine g_icmpY X18 hx (pcY := 57) (hD hby d4_17) (by decide) (by decide) (show (2 : Int32) = (2 : Int32) from by decide) ?_
  refine g_aloadN X18 hx (pc' := 58) rfl (hD hby d4_57) rfl rfl ?_
  exact g_ret X18 hx hlk hret rfl (Or.inr (Or.inr (Or.inr (Or.inr ⟨rfl, rfl, rfl⟩)))) (hD hby d4_58) (by decide) (by decide) (Nat.le_refl _) (⟨a15, rfl, G_a15, sz15, f19, V18⟩)
theorem rm6 (l : Launch) (Z : State) (a0 : Array Value) (hw : HW a0 Z) (ws : List Jvm.Cond) (n0 : Nat) (Ts : List String) (ba : Addr) (xs : List Value) (h0 : Heap) (hn0 : n0 ≤ h0.size) (Ab : AV Z h0 ba .byte xs) (hl : (2 : Int32).toInt = (xs.length : Int)) :
    Con l Z n0 Ts (Ts) (⟨"java/lang/StringUTF16", "coderFromArrayLen", "([BI)B"⟩ : MethodName) jdk_52_method_15_code 2 (some .byte) ws ({ frames := 0, cells := 0, slots := 0, locals := 0 } : Room) #[(.ref ba), (.int 2)] h0 (fun v h => v = some (.int 0) ∧ h = h0) := by
  refine con_start (fr0 := fun m => mkF m 0 #[.val (.ref ba), .val (.int 2)] []) ?_
  intro p e s m below meth c T0 hx hZ hby hml hown hnm hret hlk hsh XA
  have X0 := XA n0
  have hlow : n0 ≤ s.heap.size := by rw [hsh]; exact hn0
  replace hown : s.vm.findClass "java/lang/StringUTF16" = some m.cls := hown
  replace hml : c.maxLocals = 2 := hml
  refine g_iloadN X0 hx (pc' := 1) rfl (hD hby d6_0) rfl ?_
  refine g_aloadN X0 hx (pc' := 2) rfl (hD hby d6_1) rfl rfl ?_
  refine g_alen X0 hx hZ Ab (z := (2 : Int32)) hl (pc' := 3) rfl (hD hby d6_2) ?_
  refine g_isub X0 hx (pc' := 4) rfl (hD hby d6_3) ?_
  refine g_normI (z := (0 : Int32)) (by decide) ?_
  refine g_bipush X0 hx (pc' := 6) (z := (31 : Int32)) rfl (hD hby d6_4) rfl ?_
  refine g_iushr X0 hx (pc' := 7) rfl (hD hby d6_6) ?_
  refine g_normI (z := (0 : Int32)) (by decide) ?_
  refine g_i2b X0 hx (pc' := 8) rfl (hD hby d6_7) ?_
  refine g_normI (z := (0 : Int32)) (by decide) ?_
  exact g_ret X0 hx hlk hret (by first | rfl | exact congrArg Value.int (nar_i2c _) | exact congrArg Value.int (nar_i2b _)) (Or.inl ⟨rfl, Or.inr (Or.inr (Or.inl rfl)), _, rfl⟩) (hD hby d6_8) (by decide) (by decide) (Nat.le_refl _) (⟨rfl, rfl⟩)
theorem rm2 (l : Launch) (Z : State) (a0 : Array Value) (hw : HW a0 Z) (ws : List Jvm.Cond) (n0 : Nat) (Ts : List String) (t ca : Addr) (x0 x1 cz : Int32) (h0 : Heap) (hn0 : n0 ≤ h0.size) (O2 : St0 Z (.int cz)) (hcz : ¬ cz = 0) (OLD : OldP Z n0 h0) (hx0 : ¬ (255 : Int32) < x0) (hx1 : ¬ (255 : Int32) < x1) (Ac : AV Z h0 ca .char [.int x0, .int x1]) (Et : XSt Z h0 t) (hgt : n0 ≤ t) (F_coder : SC Z h0 t (.int 0)) (F_value : SV Z h0 t .null) :
    Con l Z n0 Ts (Ts) (⟨"java/lang/String", "<init>", "([CIILjava/lang/Void;)V"⟩ : MethodName) jdk_42_method_149_code 6 none ws ({ frames := 2, cells := 1, slots := 2, locals := 64 } : Room) #[(.ref t), (.ref ca), (.int 0), (.int 2), .null] h0 (fun v h => v = none ∧ Keep h0 h [t] ∧ ∃ nb, n0 ≤ nb ∧ h0.size ≤ nb ∧ AV Z h nb .byte [.int (x0).toInt8.toInt32, .int (x1).toInt8.toInt32] ∧ SV Z h t (.ref nb) ∧ SC Z h t (.int 0)) := by
  refine con_start (fr0 := fun m => mkF m 0 #[.val (.ref t), .val (.ref ca), .val (.int 0), .val (.int 2), .val .null, .unset] []) ?_
  intro p e s m below meth c T0 hx hZ hby hml hown hnm hret hlk hsh XA
  have X0 := XA n0
  have hlow : n0 ≤ s.heap.size := by rw [hsh]; exact hn0
  replace hown : s.vm.findClass "java/lang/String" = some m.cls := hown
  replace hml : c.maxLocals = 6 := hml
  have nA21 : t ≠ ca := own_neA Et (wat hw 3 rfl) Ac
  refine g_aloadN X0 hx (pc' := 1) rfl (hD hby d2_0) rfl rfl ?_
  refine g_initO X0 hx hZ hown (wat hw 13 rfl) (wat hw 14 rfl) (wat hw 15 rfl) (by rw [hml]; rfl) (pc' := 4) rfl (hD hby d2_1) (by decide) (W := 0) (Nat.le_of_eq rfl) (by decide) (fun T22 X22 => ?_)
  show Go p e below s n0 _ _ _ (T22.setTop (mkF m 4 _ []))
  refine g_iloadN X22 hx (pc' := 5) rfl (hD hby d2_4) rfl ?_
  refine g_ifY X22 hx (pcY := 27) (hD hby d2_5) (by decide) (by decide) (show ¬ (2 : Int32) = 0 from by decide) ?_
  refine g_getS X22 hx hZ hown (wat hw 16 rfl) Via.refl (Sta.ext OLD.2 O2) (pc' := 30) rfl (hD hby d2_27) (fun T23 X23 => ?_)
  refine g_ifN X23 hx (pcN := 33) (hD hby d2_30) rfl (show ¬ (cz = 0) from hcz) ?_
  refine g_aloadN X23 hx (pc' := 34) rfl (hD hby d2_33) rfl rfl ?_
  refine g_iloadN X23 hx (pc' := 35) rfl (hD hby d2_34) rfl ?_
  refine g_iloadN X23 hx (pc' := 36) rfl (hD hby d2_35) rfl ?_
  refine g_callS X23 hx hZ hown (wat hw 17 rfl) (wat hw 18 rfl) (wat hw 19 rfl) (wat hw 20 rfl) (by decide) (rm4 l Z a0 hw [] n0 (Ts) ca x0 x1 h0 hn0 hx0 hx1 Ac) pd_2 rfl rfl (pc' := 39) rfl (hD hby d2_36) (argsL := [(.ref ca), (.int 0), (.int 2)]) (rest := []) rfl (W := 0) (fun v24 T24 h24 X24 hQ24 => ?_)
  obtain ⟨nb24, rfl, Gnb24, S24, K24, V24⟩ := hQ24
  have nenb24_t : t ≠ nb24 := Nat.ne_of_lt (Nat.lt_of_lt_of_le Et.lt S24)
  have nenb24_ca : ca ≠ nb24 := Nat.ne_of_lt (Nat.lt_of_lt_of_le Ac.lt S24)
  have sznb24 : h0.size ≤ nb24 := Nat.le_trans (Keep.refl h0 [t]).1 S24
  have f25 := (Keep.refl h0 [t]).trans K24 all0
  have f26 := OLD.keep K24 all0
  have f27 := Et.keep K24
  have f28 := F_coder.keep K24 nin0
  have f29 := F_value.keep K24 nin0
  have f30 := Ac.keep K24 nin0
  have zs24 : n0 ≤ h24.size := Nat.le_trans hn0 K24.1
  show Go p e below s n0 _ _ _ (T24.setTop (mkF m 39 _ [(.ref nb24)]))
  refine g_astore X24 hx (pc' := 41) rfl (hD hby d2_39) rfl (l' := #[.val (.ref t), .val (.ref ca), .val (.int 0), .val (.int 2), .val .null, .val (.ref nb24)]) rfl ?_
  refine g_aloadN X24 hx (pc' := 42) rfl (hD hby d2_41) rfl rfl ?_
  refine g_aload X24 hx (pc' := 44) rfl (hD hby d2_42) rfl rfl ?_
  refine g_iloadN X24 hx (pc' := 45) rfl (hD hby d2_44) rfl ?_
  refine g_callS X24 hx hZ hown (wat hw 25 rfl) (wat hw 26 rfl) (wat hw 19 rfl) (wat hw 27 rfl) (by decide) (rm6 l Z a0 hw [] n0 (Ts) nb24 _ h24 zs24 V24 rfl) pd_3 rfl rfl (pc' := 48) rfl (hD hby d2_45) (argsL := [(.ref nb24), (.int 2)]) (rest := [(.ref t)]) rfl (W := 1) (fun v31 T31 h31 X31 hQ31 => ?_)
  obtain ⟨rfl, he31⟩ := hQ31
  rw [he31] at X31
  show Go p e below s n0 _ _ _ (T31.setTop (mkF m 48 _ [(.int 0), (.ref t)]))
  refine g_putF X31 hx hZ hown (wat hw 28 rfl) Via.refl f28 f27 (Or.inr ⟨(wat hw 29 rfl), rfl, hnm⟩) (wat hw 3 rfl) (ty := .byte) (by decide) rfl rfl hgt (pc' := 51) rfl (hD hby d2_48) (fun T32 h32 X32 W32 => ?_)
  have f33 := (by have q := (Keep.of_wr W32).1; exact Nat.le_trans zs24 q : n0 ≤ h32.size)
  have f34 := f25.wr W32 (Or.inl (List.mem_of_getElem? (i := 0) rfl))
  have f35 := f26.wr W32 hgt
  have f36 := f27.wr W32
  have f37 := f28.same W32
  have f38 := f29.other W32 (Or.inr (slot_ne (Or.inr (wat hw 31 rfl)) (Or.inr (wat hw 29 rfl)) (by decide) (t := (.array .byte)) (t' := .byte) (by decide) (by decide)))
  have f39 := f30.other W32 nA21.symm
  have f40 := V24.other W32 nenb24_t.symm
  refine g_aloadN X32 hx (pc' := 52) rfl (hD hby d2_51) rfl rfl ?_
  refine g_aload X32 hx (pc' := 54) rfl (hD hby d2_52) rfl rfl ?_
  refine g_putF X32 hx hZ hown (wat hw 30 rfl) Via.refl f38 f36 (Or.inr ⟨(wat hw 31 rfl), rfl, hnm⟩) (wat hw 3 rfl) (ty := (.array .byte)) (by decide) rfl rfl hgt (pc' := 57) rfl (hD hby d2_54) (fun T41 h41 X41 W41 => ?_)
  have f42 := (by have q := (Keep.of_wr W41).1; exact Nat.le_trans f33 q : n0 ≤ h41.size)
  have f43 := f34.wr W41 (Or.inl (List.mem_of_getElem? (i := 0) rfl))
  have f44 := f35.wr W41 hgt
  have f45 := f36.wr W41
  have f46 := f37.other W41 (Or.inr (slot_ne (Or.inr (wat hw 29 rfl)) (Or.inr (wat hw 31 rfl)) (by decide) (t := .byte) (t' := (.array .byte)) (by decide) (by decide)))
  have f47 := f38.same W41
  have f48 := f39.other W41 nA21.symm
  have f49 := f40.other W41 nenb24_t.symm
  exact g_retV X41 hx hlk hret (hD hby d2_57) (by decide) (by decide) (Nat.le_refl _) (⟨rfl, f43, nb24, Gnb24, sznb24, f49, f47, f46⟩)
theorem rm1 (l : Launch) (Z : State) (a0 : Array Value) (hw : HW a0 Z) (ws : List Jvm.Cond) (n0 : Nat) (Ts : List String) (t ca : Addr) (x0 x1 cz : Int32) (h0 : Heap) (hn0 : n0 ≤ h0.size) (O2 : St0 Z (.int cz)) (hcz : ¬ cz = 0) (OLD : OldP Z n0 h0) (hx0 : ¬ (255 : Int32) < x0) (hx1 : ¬ (255 : Int32) < x1) (Ac : AV Z h0 ca .char [.int x0, .int x1]) (Et : XSt Z h0 t) (hgt : n0 ≤ t) (F_coder : SC Z h0 t (.int 0)) (F_value : SV Z h0 t .null) :
    Con l Z n0 Ts (Ts) (⟨"java/lang/String", "<init>", "([C)V"⟩ : MethodName) jdk_42_method_3_code 2 none ws ({ frames := 3, cells := 1, slots := 2, locals := 96 } : Room) #[(.ref t), (.ref ca)] h0 (fun v h => v = none ∧ Keep h0 h [t] ∧ ∃ nb, n0 ≤ nb ∧ h0.size ≤ nb ∧ AV Z h nb .byte [.int (x0).toInt8.toInt32, .int (x1).toInt8.toInt32] ∧ SV Z h t (.ref nb) ∧ SC Z h t (.int 0)) := by
  refine con_start (fr0 := fun m => mkF m 0 #[.val (.ref t), .val (.ref ca)] []) ?_
  intro p e s m below meth c T0 hx hZ hby hml hown hnm hret hlk hsh XA
  have X0 := XA n0
  have hlow : n0 ≤ s.heap.size := by rw [hsh]; exact hn0
  replace hown : s.vm.findClass "java/lang/String" = some m.cls := hown
  replace hml : c.maxLocals = 2 := hml
  have nA50 : t ≠ ca := own_neA Et (wat hw 3 rfl) Ac
  refine g_aloadN X0 hx (pc' := 1) rfl (hD hby d1_0) rfl rfl ?_
  refine g_aloadN X0 hx (pc' := 2) rfl (hD hby d1_1) rfl rfl ?_
  refine g_iconst X0 hx (pc' := 3) (z := (0 : Int32)) rfl (hD hby d1_2) rfl ?_
  refine g_aloadN X0 hx (pc' := 4) rfl (hD hby d1_3) rfl rfl ?_
  refine g_alen X0 hx hZ Ac (z := (2 : Int32)) rfl (pc' := 5) rfl (hD hby d1_4) ?_
  refine g_aconst_null X0 hx (pc' := 6) rfl (hD hby d1_5) ?_
  refine g_callI X0 hx hZ hown rfl (wat hw 9 rfl) (wat hw 10 rfl) (wat hw 4 rfl) (wat hw 12 rfl) (by decide) (a := t) (rm2 l Z a0 hw [] n0 (Ts) t ca x0 x1 cz h0 hn0 O2 hcz OLD hx0 hx1 Ac Et hgt F_coder F_value) pd_4 rfl rfl (pc' := 9) rfl (hD hby d1_6) (argsL := [(.ref ca), (.int 0), (.int 2), .null]) (rest := []) rfl (W := 0) (fun v51 T51 h51 X51 hQ51 => ?_)
  obtain ⟨rfl, K51, nb51, Gnb51, S51, V51, FV51, FC51⟩ := hQ51
  have nenb51_t : t ≠ nb51 := Nat.ne_of_lt (Nat.lt_of_lt_of_le Et.lt S51)
  have nenb51_ca : ca ≠ nb51 := Nat.ne_of_lt (Nat.lt_of_lt_of_le Ac.lt S51)
  have sznb51 : h0.size ≤ nb51 := Nat.le_trans (Keep.refl h0 [t]).1 S51
  have f52 := (Keep.refl h0 [t]).trans K51 (allS (Or.inl (List.mem_of_getElem? (i := 0) rfl)) all0)
  have f53 := OLD.keep K51 (allS hgt all0)
  have f54 := Et.keep K51
  have f55 := Ac.keep K51 (ninS nA50.symm nin0)
  have zs51 : n0 ≤ h51.size := Nat.le_trans hn0 K51.1
  show Go p e below s n0 _ _ _ (T51.setTop (mkF m 9 _ []))
  exact g_retV X51 hx hlk hret (hD hby d1_9) (by decide) (by decide) (Nat.le_refl _) (⟨rfl, f52, nb51, Gnb51, sznb51, V51, FV51, FC51⟩)
theorem rm16_a (l : Launch) (Z : State) (a0 : Array Value) (hw : HW a0 Z) (ws : List Jvm.Cond) (n0 : Nat) (Ts : List String) (tb ub : Addr) (y0 y1 : Int32) (h0 : Heap) (hn0 : n0 ≤ h0.size) (q0 : y0 = (58 : Int32)) (At : AV Z h0 tb .byte [.int y0, .int y1]) (Au : AV Z h0 ub .byte [.int 58]) :
    Con l Z n0 Ts (Ts) (⟨"java/lang/StringLatin1", "indexOf", "([BI[BII)I"⟩ : MethodName) jdk_43_method_25_code 11 (some .int) ws ({ frames := 0, cells := 0, slots := 0, locals := 0 } : Room) #[(.ref tb), (.int 2), (.ref ub), (.int 1), (.int 0)] h0 (fun v h => v = some (.int (0)) ∧ h = h0) := by
  refine con_start (fr0 := fun m => mkF m 0 #[.val (.ref tb), .val (.int 2), .val (.ref ub), .val (.int 1), .val (.int 0), .unset, .unset, .unset, .unset, .unset, .unset] []) ?_
  intro p e s m below meth c T0 hx hZ hby hml hown hnm hret hlk hsh XA
  have X0 := XA n0
  have hlow : n0 ≤ s.heap.size := by rw [hsh]; exact hn0
  replace hown : s.vm.findClass "java/lang/StringLatin1" = some m.cls := hown
  replace hml : c.maxLocals = 11 := hml
  refine g_aloadN X0 hx (pc' := 1) rfl (hD hby d16_0) rfl rfl ?_
  refine g_iconst X0 hx (pc' := 2) (z := (0 : Int32)) rfl (hD hby d16_1) rfl ?_
  refine g_baload X0 hx hZ Au (i := 0) (by decide) (show (0 : Nat) < 1 by decide) (x := (58 : Int32)) rfl (pc' := 3) rfl (hD hby d16_2) ?_
  refine g_istore X0 hx (pc' := 5) rfl (hD hby d16_3) (l' := #[.val (.ref tb), .val (.int 2), .val (.ref ub), .val (.int 1), .val (.int 0), .val (.int 58), .unset, .unset, .unset, .unset, .unset]) rfl ?_
  refine g_iloadN X0 hx (pc' := 6) rfl (hD hby d16_5) rfl ?_
  refine g_iloadN X0 hx (pc' := 7) rfl (hD hby d16_6) rfl ?_
  refine g_isub X0 hx (pc' := 8) rfl (hD hby d16_7) ?_
  refine g_normI (z := (1 : Int32)) (by decide) ?_
  refine g_istore X0 hx (pc' := 10) rfl (hD hby d16_8) (l' := #[.val (.ref tb), .val (.int 2), .val (.ref ub), .val (.int 1), .val (.int 0), .val (.int 58), .val (.int 1), .unset, .unset, .unset, .unset]) rfl ?_
  refine g_iload X0 hx (pc' := 12) rfl (hD hby d16_10) rfl ?_
  refine g_istore X0 hx (pc' := 14) rfl (hD hby d16_12) (l' := #[.val (.ref tb), .val (.int 2), .val (.ref ub), .val (.int 1), .val (.int 0), .val (.int 58), .val (.int 1), .val (.int 0), .unset, .unset, .unset]) rfl ?_
  refine g_iload X0 hx (pc' := 16) rfl (hD hby d16_14) rfl ?_
  refine g_iload X0 hx (pc' := 18) rfl (hD hby d16_16) rfl ?_
  refine g_icmpN X0 hx (pcN := 21) (hD hby d16_18) rfl (show ¬ ((1 : Int32) < (0 : Int32)) from by decide) ?_
  refine g_aloadN X0 hx (pc' := 22) rfl (hD hby d16_21) rfl rfl ?_
  refine g_iload X0 hx (pc' := 24) rfl (hD hby d16_22) rfl ?_
  refine g_baload X0 hx hZ At (i := 0) (by decide) (show (0 : Nat) < 2 by decide) (x := y0) rfl (pc' := 25) rfl (hD hby d16_24) ?_
  refine g_iload X0 hx (pc' := 27) rfl (hD hby d16_25) rfl ?_
  refine g_icmpY X0 hx (pcY := 52) (hD hby d16_27) (by decide) (by decide) (show y0 = (58 : Int32) from q0) ?_
  refine g_iload X0 hx (pc' := 54) rfl (hD hby d16_52) rfl ?_
  refine g_iload X0 hx (pc' := 56) rfl (hD hby d16_54) rfl ?_
  refine g_icmpN X0 hx (pcN := 59) (hD hby d16_56) rfl (show ¬ ((1 : Int32) < (0 : Int32)) from by decide) ?_
  refine g_iload X0 hx (pc' := 61) rfl (hD hby d16_59) rfl ?_
  refine g_iconst X0 hx (pc' := 62) (z := (1 : Int32)) rfl (hD hby d16_61) rfl ?_
  refine g_iadd X0 hx (pc' := 63) rfl (hD hby d16_62) ?_
  refine g_normI (z := (1 : Int32)) (by decide) ?_
  refine g_istore X0 hx (pc' := 65) rfl (hD hby d16_63) (l' := #[.val (.ref tb), .val (.int 2), .val (.ref ub), .val (.int 1), .val (.int 0), .val (.int 58), .val (.int 1), .val (.int 0), .val (.int 1), .unset, .unset]) rfl ?_
  refine g_iload X0 hx (pc' := 67) rfl (hD hby d16_65) rfl ?_
  refine g_iloadN X0 hx (pc' := 68) rfl (hD hby d16_67) rfl ?_
  refine g_iadd X0 hx (pc' := 69) rfl (hD hby d16_68) ?_
  refine g_normI (z := (2 : Int32)) (by decide) ?_
  refine g_iconst X0 hx (pc' := 70) (z := (1 : Int32)) rfl (hD hby d16_69) rfl ?_
  refine g_isub X0 hx (pc' := 71) rfl (hD hby d16_70) ?_
  refine g_normI (z := (1 : Int32)) (by decide) ?_
  refine g_istore X0 hx (pc' := 73) rfl (hD hby d16_71) (l' := #[.val (.ref tb), .val (.int 2), .val (.ref ub), .val (.int 1), .val (.int 0), .val (.int 58), .val (.int 1), .val (.int 0), .val (.int 1), .val (.int 1), .unset]) rfl ?_
  refine g_iconst X0 hx (pc' := 74) (z := (1 : Int32)) rfl (hD hby d16_73) rfl ?_
  refine g_istore X0 hx (pc' := 76) rfl (hD hby d16_74) (l' := #[.val (.ref tb), .val (.int 2), .val (.ref ub), .val (.int 1), .val (.int 0), .val (.int 58), .val (.int 1), .val (.int 0), .val (.int 1), .val (.int 1), .val (.int 1)]) rfl ?_
  refine g_iload X0 hx (pc' := 78) rfl (hD hby d16_76) rfl ?_
  refine g_iload X0 hx (pc' := 80) rfl (hD hby d16_78) rfl ?_
  refine g_icmpY X0 hx (pcY := 103) (hD hby d16_80) (by decide) (by decide) (show ¬ (1 : Int32) < (1 : Int32) from by decide) ?_
  refine g_iload X0 hx (pc' := 105) rfl (hD hby d16_103) rfl ?_
  refine g_iload X0 hx (pc' := 107) rfl (hD hby d16_105) rfl ?_
  refine g_icmpN X0 hx (pcN := 110) (hD hby d16_107) rfl (show ¬ (¬ (1 : Int32) = (1 : Int32)) from by decide) ?_
  refine g_iload X0 hx (pc' := 112) rfl (hD hby d16_110) rfl ?_
  exact g_retI X0 hx hlk hret (hD hby d16_112) (by decide) (by decide) (Nat.le_refl _) (⟨rfl, rfl⟩)
theorem rm15_a (l : Launch) (Z : State) (a0 : Array Value) (hw : HW a0 Z) (ws : List Jvm.Cond) (n0 : Nat) (Ts : List String) (tb ub : Addr) (y0 y1 : Int32) (h0 : Heap) (hn0 : n0 ≤ h0.size) (q0 : y0 = (58 : Int32)) (At : AV Z h0 tb .byte [.int y0, .int y1]) (Au : AV Z h0 ub .byte [.int 58]) :
    Con l Z n0 Ts (Ts) (⟨"java/lang/StringLatin1", "indexOf", "([B[B)I"⟩ : MethodName) jdk_43_method_24_code 2 (some .int) ws ({ frames := 1, cells := 0, slots := 0, locals := 32 } : Room) #[(.ref tb), (.ref ub)] h0 (fun v h => v = some (.int (0)) ∧ h = h0) := by
  refine con_start (fr0 := fun m => mkF m 0 #[.val (.ref tb), .val (.ref ub)] []) ?_
  intro p e s m below meth c T0 hx hZ hby hml hown hnm hret hlk hsh XA
  have X0 := XA n0
  have hlow : n0 ≤ s.heap.size := by rw [hsh]; exact hn0
  replace hown : s.vm.findClass "java/lang/StringLatin1" = some m.cls := hown
  replace hml : c.maxLocals = 2 := hml
  refine g_aloadN X0 hx (pc' := 1) rfl (hD hby d15_0) rfl rfl ?_
  refine g_alen X0 hx hZ Au (z := (1 : Int32)) rfl (pc' := 2) rfl (hD hby d15_1) ?_
  refine g_ifY X0 hx (pcY := 7) (hD hby d15_2) (by decide) (by decide) (show ¬ (1 : Int32) = 0 from by decide) ?_
  refine g_aloadN X0 hx (pc' := 8) rfl (hD hby d15_7) rfl rfl ?_
  refine g_alen X0 hx hZ At (z := (2 : Int32)) rfl (pc' := 9) rfl (hD hby d15_8) ?_
  refine g_ifY X0 hx (pcY := 14) (hD hby d15_9) (by decide) (by decide) (show ¬ (2 : Int32) = 0 from by decide) ?_
  refine g_aloadN X0 hx (pc' := 15) rfl (hD hby d15_14) rfl rfl ?_
  refine g_aloadN X0 hx (pc' := 16) rfl (hD hby d15_15) rfl rfl ?_
  refine g_alen X0 hx hZ At (z := (2 : Int32)) rfl (pc' := 17) rfl (hD hby d15_16) ?_
  refine g_aloadN X0 hx (pc' := 18) rfl (hD hby d15_17) rfl rfl ?_
  refine g_aloadN X0 hx (pc' := 19) rfl (hD hby d15_18) rfl rfl ?_
  refine g_alen X0 hx hZ Au (z := (1 : Int32)) rfl (pc' := 20) rfl (hD hby d15_19) ?_
  refine g_iconst X0 hx (pc' := 21) (z := (0 : Int32)) rfl (hD hby d15_20) rfl ?_
  refine g_callS X0 hx hZ hown (wat hw 91 rfl) (wat hw 92 rfl) (wat hw 89 rfl) (wat hw 93 rfl) (by decide) (rm16_a l Z a0 hw [] n0 (Ts) tb ub y0 y1 h0 hn0 q0 At Au) pd_5 rfl rfl (pc' := 24) rfl (hD hby d15_21) (argsL := [(.ref tb), (.int 2), (.ref ub), (.int 1), (.int 0)]) (rest := []) rfl (W := 0) (fun v56 T56 h56 X56 hQ56 => ?_)
  obtain ⟨rfl, he56⟩ := hQ56
  rw [he56] at X56
  show Go p e below s n0 _ _ _ (T56.setTop (mkF m 24 _ [(.int 0)]))
  exact g_retI X56 hx hlk hret (hD hby d15_24) (by decide) (by decide) (Nat.le_refl _) (⟨rfl, rfl⟩)
theorem rm12_a (l : Launch) (Z : State) (a0 : Array Value) (hw : HW a0 Z) (ws : List Jvm.Cond) (n0 : Nat) (Ts : List String) (t tb u ub : Addr) (y0 y1 cz : Int32) (h0 : Heap) (hn0 : n0 ≤ h0.size) (O2 : St0 Z (.int cz)) (hcz : ¬ cz = 0) (OLD : OldP Z n0 h0) (q0 : y0 = (58 : Int32)) (Et : XSt Z h0 t) (Fvt : SV Z h0 t (.ref tb)) (Fct : SC Z h0 t (.int 0)) (Abt : AV Z h0 tb .byte [.int y0, .int y1]) (Eu : XSt Z h0 u) (Fvu : SV Z h0 u (.ref ub)) (Fcu : SC Z h0 u (.int 0)) (Abu : AV Z h0 ub .byte [.int (58 : Int32)]) :
    Con l Z n0 Ts (Ts) (⟨"java/lang/String", "indexOf", "(Ljava/lang/String;)I"⟩ : MethodName) jdk_42_method_84_code 3 (some .int) ws ({ frames := 2, cells := 0, slots := 0, locals := 48 } : Room) #[(.ref t), (.ref u)] h0 (fun v h => v = some (.int (0)) ∧ h = h0) := by
  refine con_start (fr0 := fun m => mkF m 0 #[.val (.ref t), .val (.ref u), .unset] []) ?_
  intro p e s m below meth c T0 hx hZ hby hml hown hnm hret hlk hsh XA
  have X0 := XA n0
  have hlow : n0 ≤ s.heap.size := by rw [hsh]; exact hn0
  replace hown : s.vm.findClass "java/lang/String" = some m.cls := hown
  replace hml : c.maxLocals = 3 := hml
  refine g_aloadN X0 hx (pc' := 1) rfl (hD hby d12_0) rfl rfl ?_
  refine g_callV X0 hx hZ hown (wat hw 77 rfl) (wat hw 78 rfl) (wat hw 80 rfl) (wat hw 79 rfl) (wat hw 4 rfl) (wat hw 81 rfl) (by decide) (a := t) Et (rm13 l Z a0 hw [] n0 (Ts) t cz h0 hn0 O2 hcz OLD Fct) pd_0 rfl rfl (pc' := 4) rfl (hD hby d12_1) (argsL := []) (rest := []) rfl (W := 0) (fun v57 T57 h57 X57 hQ57 => ?_)
  obtain ⟨rfl, he57⟩ := hQ57
  rw [he57] at X57
  show Go p e below s n0 _ _ _ (T57.setTop (mkF m 4 _ [(.int 0)]))
  refine g_istoreN X57 hx (pc' := 5) rfl (hD hby d12_4) (l' := #[.val (.ref t), .val (.ref u), .val (.int 0)]) rfl ?_
  refine g_iloadN X57 hx (pc' := 6) rfl (hD hby d12_5) rfl ?_
  refine g_aloadN X57 hx (pc' := 7) rfl (hD hby d12_6) rfl rfl ?_
  refine g_callV X57 hx hZ hown (wat hw 77 rfl) (wat hw 78 rfl) (wat hw 80 rfl) (wat hw 79 rfl) (wat hw 4 rfl) (wat hw 81 rfl) (by decide) (a := u) Eu (rm13 l Z a0 hw [] n0 (Ts) u cz h0 hn0 O2 hcz OLD Fcu) pd_0 rfl rfl (pc' := 10) rfl (hD hby d12_7) (argsL := []) (rest := [(.int 0)]) rfl (W := 1) (fun v58 T58 h58 X58 hQ58 => ?_)
  obtain ⟨rfl, he58⟩ := hQ58
  rw [he58] at X58
  show Go p e below s n0 _ _ _ (T58.setTop (mkF m 10 _ [(.int 0), (.int 0)]))
  refine g_icmpN X58 hx (pcN := 13) (hD hby d12_10) rfl (show ¬ (¬ (0 : Int32) = (0 : Int32)) from by decide) ?_
  refine g_aloadN X58 hx (pc' := 14) rfl (hD hby d12_13) rfl rfl ?_
  refine g_callV X58 hx hZ hown (wat hw 82 rfl) (wat hw 83 rfl) (wat hw 85 rfl) (wat hw 84 rfl) (wat hw 4 rfl) (wat hw 86 rfl) (by decide) (a := t) Et (rm14 l Z a0 hw [] n0 (Ts) t cz h0 hn0 O2 hcz OLD Fct) pd_6 rfl rfl (pc' := 17) rfl (hD hby d12_14) (argsL := []) (rest := []) rfl (W := 0) (fun v59 T59 h59 X59 hQ59 => ?_)
  obtain ⟨rfl, he59⟩ := hQ59
  rw [he59] at X59
  show Go p e below s n0 _ _ _ (T59.setTop (mkF m 17 _ [(.int 1)]))
  refine g_ifN X59 hx (pcN := 20) (hD hby d12_17) rfl (show ¬ ((1 : Int32) = 0) from by decide) ?_
  refine g_aloadN X59 hx (pc' := 21) rfl (hD hby d12_20) rfl rfl ?_
  refine g_getF X59 hx hZ hown (wat hw 30 rfl) Via.refl Fvt (pc' := 24) rfl (hD hby d12_21) (fun T60 X60 => ?_)
  refine g_aloadN X60 hx (pc' := 25) rfl (hD hby d12_24) rfl rfl ?_
  refine g_getF X60 hx hZ hown (wat hw 30 rfl) Via.refl Fvu (pc' := 28) rfl (hD hby d12_25) (fun T61 X61 => ?_)
  refine g_callS X61 hx hZ hown (wat hw 87 rfl) (wat hw 88 rfl) (wat hw 89 rfl) (wat hw 90 rfl) (by decide) (rm15_a l Z a0 hw [] n0 (Ts) tb ub y0 y1 h0 hn0 q0 Abt Abu) pd_7 rfl rfl (pc' := 31) rfl (hD hby d12_28) (argsL := [(.ref tb), (.ref ub)]) (rest := []) rfl (W := 0) (fun v62 T62 h62 X62 hQ62 => ?_)
  obtain ⟨rfl, he62⟩ := hQ62
  rw [he62] at X62
  show Go p e below s n0 _ _ _ (T62.setTop (mkF m 31 _ [(.int 0)]))
  refine g_goto X62 hx (pc' := 45) (hD hby d12_31) (by decide) (by decide) ?_
  exact g_retI X62 hx hlk hret (hD hby d12_45) (by decide) (by decide) (Nat.le_refl _) (⟨rfl, rfl⟩)
theorem rm11 (l : Launch) (Z : State) (a0 : Array Value) (hw : HW a0 Z) (ws : List Jvm.Cond) (n0 : Nat) (Ts : List String) (t : Addr) (h0 : Heap) (hn0 : n0 ≤ h0.size)  :
    Con l Z n0 Ts (Ts) (⟨"java/lang/String", "toString", "()Ljava/lang/String;"⟩ : MethodName) jdk_42_method_126_code 1 (some (.object "java/lang/String")) ws ({ frames := 0, cells := 0, slots := 0, locals := 0 } : Room) #[(.ref t)] h0 (fun v h => v = some (.ref t) ∧ h = h0) := by
  refine con_start (fr0 := fun m => mkF m 0 #[.val (.ref t)] []) ?_
  intro p e s m below meth c T0 hx hZ hby hml hown hnm hret hlk hsh XA
  have X0 := XA n0
  have hlow : n0 ≤ s.heap.size := by rw [hsh]; exact hn0
  replace hown : s.vm.findClass "java/lang/String" = some m.cls := hown
  replace hml : c.maxLocals = 1 := hml
  refine g_aloadN X0 hx (pc' := 1) rfl (hD hby d11_0) rfl rfl ?_
  exact g_ret X0 hx hlk hret rfl (Or.inr (Or.inr (Or.inr (Or.inr ⟨rfl, rfl, rfl⟩)))) (hD hby d11_1) (by decide) (by decide) (Nat.le_refl _) (⟨rfl, rfl⟩)
theorem rm10_a (l : Launch) (Z : State) (a0 : Array Value) (hw : HW a0 Z) (ws : List Jvm.Cond) (n0 : Nat) (Ts : List String) (t tb u ub : Addr) (y0 y1 cz : Int32) (h0 : Heap) (hn0 : n0 ≤ h0.size) (O2 : St0 Z (.int cz)) (hcz : ¬ cz = 0) (OLD : OldP Z n0 h0) (q0 : y0 = (58 : Int32)) (Et : XSt Z h0 t) (Fvt : SV Z h0 t (.ref tb)) (Fct : SC Z h0 t (.int 0)) (Abt : AV Z h0 tb .byte [.int y0, .int y1]) (Eu : XSt Z h0 u) (Fvu : SV Z h0 u (.ref ub)) (Fcu : SC Z h0 u (.int 0)) (Abu : AV Z h0 ub .byte [.int (58 : Int32)]) :
    Con l Z n0 Ts (Ts) (⟨"java/lang/String", "contains", "(Ljava/lang/CharSequence;)Z"⟩ : MethodName) jdk_42_method_97_code 2 (some .boolean) ws ({ frames := 3, cells := 0, slots := 0, locals := 72 } : Room) #[(.ref t), (.ref u)] h0 (fun v h => v = some (.int 1) ∧ h = h0) := by
  refine con_start (fr0 := fun m => mkF m 0 #[.val (.ref t), .val (.ref u)] []) ?_
  intro p e s m below meth c T0 hx hZ hby hml hown hnm hret hlk hsh XA
  have X0 := XA n0
  have hlow : n0 ≤ s.heap.size := by rw [hsh]; exact hn0
  replace hown : s.vm.findClass "java/lang/String" = some m.cls := hown
  replace hml : c.maxLocals = 2 := hml
  refine g_aloadN X0 hx (pc' := 1) rfl (hD hby d10_0) rfl rfl ?_
  refine g_aloadN X0 hx (pc' := 2) rfl (hD hby d10_1) rfl rfl ?_
  refine g_callIf X0 hx hZ hown (wat hw 63 rfl) (wat hw 64 rfl) (wat hw 65 rfl) (by first | rfl | decide) (wat hw 66 rfl) (wat hw 67 rfl) (wat hw 68 rfl) (wat hw 69 rfl) (wat hw 70 rfl) (wat hw 4 rfl) (wat hw 71 rfl) (by decide) (a := u) Eu (rm11 l Z a0 hw [] n0 (Ts) u h0 hn0 ) pd_8 rfl rfl (pc' := 7) rfl (hD hby d10_2) (argsL := []) (rest := [(.ref t)]) rfl (W := 1) (fun v63 T63 h63 X63 hQ63 => ?_)
  obtain ⟨rfl, he63⟩ := hQ63
  rw [he63] at X63
  show Go p e below s n0 _ _ _ (T63.setTop (mkF m 7 _ [(.ref u), (.ref t)]))
  refine g_callV X63 hx hZ hown (wat hw 72 rfl) (wat hw 73 rfl) (wat hw 75 rfl) (wat hw 74 rfl) (wat hw 4 rfl) (wat hw 76 rfl) (by decide) (a := t) Et (rm12_a l Z a0 hw [] n0 (Ts) t tb u ub y0 y1 cz h0 hn0 O2 hcz OLD q0 Et Fvt Fct Abt Eu Fvu Fcu Abu) pd_9 rfl rfl (pc' := 10) rfl (hD hby d10_7) (argsL := [(.ref u)]) (rest := []) rfl (W := 0) (fun v64 T64 h64 X64 hQ64 => ?_)
  obtain ⟨rfl, he64⟩ := hQ64
  rw [he64] at X64
  show Go p e below s n0 _ _ _ (T64.setTop (mkF m 10 _ [(.int 0)]))
  refine g_ifN X64 hx (pcN := 13) (hD hby d10_10) rfl (show ¬ ((0 : Int32) < 0) from by decide) ?_
  refine g_iconst X64 hx (pc' := 14) (z := (1 : Int32)) rfl (hD hby d10_13) rfl ?_
  refine g_goto X64 hx (pc' := 18) (hD hby d10_14) (by decide) (by decide) ?_
  exact g_retZ X64 hx hlk hret (by first | exact Or.inl rfl | exact Or.inr rfl) (hD hby d10_18) (by decide) (by decide) (Nat.le_refl _) (⟨rfl, rfl⟩)
theorem rm16_b (l : Launch) (Z : State) (a0 : Array Value) (hw : HW a0 Z) (ws : List Jvm.Cond) (n0 : Nat) (Ts : List String) (tb ub : Addr) (y0 y1 : Int32) (h0 : Heap) (hn0 : n0 ≤ h0.size) (q0 : ¬ y0 = (58 : Int32)) (q1 : y1 = (58 : Int32)) (At : AV Z h0 tb .byte [.int y0, .int y1]) (Au : AV Z h0 ub .byte [.int 58]) :
    Con l Z n0 Ts (Ts) (⟨"java/lang/StringLatin1", "indexOf", "([BI[BII)I"⟩ : MethodName) jdk_43_method_25_code 11 (some .int) ws ({ frames := 0, cells := 0, slots := 0, locals := 0 } : Room) #[(.ref tb), (.int 2), (.ref ub), (.int 1), (.int 0)] h0 (fun v h => v = some (.int (1)) ∧ h = h0) := by
  refine con_start (fr0 := fun m => mkF m 0 #[.val (.ref tb), .val (.int 2), .val (.ref ub), .val (.int 1), .val (.int 0), .unset, .unset, .unset, .unset, .unset, .unset] []) ?_
  intro p e s m below meth c T0 hx hZ hby hml hown hnm hret hlk hsh XA
  have X0 := XA n0
  have hlow : n0 ≤ s.heap.size := by rw [hsh]; exact hn0
  replace hown : s.vm.findClass "java/lang/StringLatin1" = some m.cls := hown
  replace hml : c.maxLocals = 11 := hml
  refine g_aloadN X0 hx (pc' := 1) rfl (hD hby d16_0) rfl rfl ?_
  refine g_iconst X0 hx (pc' := 2) (z := (0 : Int32)) rfl (hD hby d16_1) rfl ?_
  refine g_baload X0 hx hZ Au (i := 0) (by decide) (show (0 : Nat) < 1 by decide) (x := (58 : Int32)) rfl (pc' := 3) rfl (hD hby d16_2) ?_
  refine g_istore X0 hx (pc' := 5) rfl (hD hby d16_3) (l' := #[.val (.ref tb), .val (.int 2), .val (.ref ub), .val (.int 1), .val (.int 0), .val (.int 58), .unset, .unset, .unset, .unset, .unset]) rfl ?_
  refine g_iloadN X0 hx (pc' := 6) rfl (hD hby d16_5) rfl ?_
  refine g_iloadN X0 hx (pc' := 7) rfl (hD hby d16_6) rfl ?_
  refine g_isub X0 hx (pc' := 8) rfl (hD hby d16_7) ?_
  refine g_normI (z := (1 : Int32)) (by decide) ?_
  refine g_istore X0 hx (pc' := 10) rfl (hD hby d16_8) (l' := #[.val (.ref tb), .val (.int 2), .val (.ref ub), .val (.int 1), .val (.int 0), .val (.int 58), .val (.int 1), .unset, .unset, .unset, .unset]) rfl ?_
  refine g_iload X0 hx (pc' := 12) rfl (hD hby d16_10) rfl ?_
  refine g_istore X0 hx (pc' := 14) rfl (hD hby d16_12) (l' := #[.val (.ref tb), .val (.int 2), .val (.ref ub), .val (.int 1), .val (.int 0), .val (.int 58), .val (.int 1), .val (.int 0), .unset, .unset, .unset]) rfl ?_
  refine g_iload X0 hx (pc' := 16) rfl (hD hby d16_14) rfl ?_
  refine g_iload X0 hx (pc' := 18) rfl (hD hby d16_16) rfl ?_
  refine g_icmpN X0 hx (pcN := 21) (hD hby d16_18) rfl (show ¬ ((1 : Int32) < (0 : Int32)) from by decide) ?_
  refine g_aloadN X0 hx (pc' := 22) rfl (hD hby d16_21) rfl rfl ?_
  refine g_iload X0 hx (pc' := 24) rfl (hD hby d16_22) rfl ?_
  refine g_baload X0 hx hZ At (i := 0) (by decide) (show (0 : Nat) < 2 by decide) (x := y0) rfl (pc' := 25) rfl (hD hby d16_24) ?_
  refine g_iload X0 hx (pc' := 27) rfl (hD hby d16_25) rfl ?_
  refine g_icmpN X0 hx (pcN := 30) (hD hby d16_27) rfl (show ¬ (y0 = (58 : Int32)) from q0) ?_
  refine g_iincC X0 hx (pc' := 33) (x := (0 : Int32)) (z := (1 : Int32)) rfl (hD hby d16_30) rfl (by decide) (l' := #[.val (.ref tb), .val (.int 2), .val (.ref ub), .val (.int 1), .val (.int 0), .val (.int 58), .val (.int 1), .val (.int 1), .unset, .unset, .unset]) rfl ?_
  refine g_iload X0 hx (pc' := 35) rfl (hD hby d16_33) rfl ?_
  refine g_iload X0 hx (pc' := 37) rfl (hD hby d16_35) rfl ?_
  refine g_icmpN X0 hx (pcN := 40) (hD hby d16_37) rfl (show ¬ ((1 : Int32) < (1 : Int32)) from by decide) ?_
  refine g_aloadN X0 hx (pc' := 41) rfl (hD hby d16_40) rfl rfl ?_
  refine g_iload X0 hx (pc' := 43) rfl (hD hby d16_41) rfl ?_
  refine g_baload X0 hx hZ At (i := 1) (by decide) (show (1 : Nat) < 2 by decide) (x := y1) rfl (pc' := 44) rfl (hD hby d16_43) ?_
  refine g_iload X0 hx (pc' := 46) rfl (hD hby d16_44) rfl ?_
  refine g_icmpY X0 hx (pcY := 52) (hD hby d16_46) (by decide) (by decide) (show y1 = (58 : Int32) from q1) ?_
  refine g_iload X0 hx (pc' := 54) rfl (hD hby d16_52) rfl ?_
  refine g_iload X0 hx (pc' := 56) rfl (hD hby d16_54) rfl ?_
  refine g_icmpN X0 hx (pcN := 59) (hD hby d16_56) rfl (show ¬ ((1 : Int32) < (1 : Int32)) from by decide) ?_
  refine g_iload X0 hx (pc' := 61) rfl (hD hby d16_59) rfl ?_
  refine g_iconst X0 hx (pc' := 62) (z := (1 : Int32)) rfl (hD hby d16_61) rfl ?_
  refine g_iadd X0 hx (pc' := 63) rfl (hD hby d16_62) ?_
  refine g_normI (z := (2 : Int32)) (by decide) ?_
  refine g_istore X0 hx (pc' := 65) rfl (hD hby d16_63) (l' := #[.val (.ref tb), .val (.int 2), .val (.ref ub), .val (.int 1), .val (.int 0), .val (.int 58), .val (.int 1), .val (.int 1), .val (.int 2), .unset, .unset]) rfl ?_
  refine g_iload X0 hx (pc' := 67) rfl (hD hby d16_65) rfl ?_
  refine g_iloadN X0 hx (pc' := 68) rfl (hD hby d16_67) rfl ?_
  refine g_iadd X0 hx (pc' := 69) rfl (hD hby d16_68) ?_
  refine g_normI (z := (3 : Int32)) (by decide) ?_
  refine g_iconst X0 hx (pc' := 70) (z := (1 : Int32)) rfl (hD hby d16_69) rfl ?_
  refine g_isub X0 hx (pc' := 71) rfl (hD hby d16_70) ?_
  refine g_normI (z := (2 : Int32)) (by decide) ?_
  refine g_istore X0 hx (pc' := 73) rfl (hD hby d16_71) (l' := #[.val (.ref tb), .val (.int 2), .val (.ref ub), .val (.int 1), .val (.int 0), .val (.int 58), .val (.int 1), .val (.int 1), .val (.int 2), .val (.int 2), .unset]) rfl ?_
  refine g_iconst X0 hx (pc' := 74) (z := (1 : Int32)) rfl (hD hby d16_73) rfl ?_
  refine g_istore X0 hx (pc' := 76) rfl (hD hby d16_74) (l' := #[.val (.ref tb), .val (.int 2), .val (.ref ub), .val (.int 1), .val (.int 0), .val (.int 58), .val (.int 1), .val (.int 1), .val (.int 2), .val (.int 2), .val (.int 1)]) rfl ?_
  refine g_iload X0 hx (pc' := 78) rfl (hD hby d16_76) rfl ?_
  refine g_iload X0 hx (pc' := 80) rfl (hD hby d16_78) rfl ?_
  refine g_icmpY X0 hx (pcY := 103) (hD hby d16_80) (by decide) (by decide) (show ¬ (2 : Int32) < (2 : Int32) from by decide) ?_
  refine g_iload X0 hx (pc' := 105) rfl (hD hby d16_103) rfl ?_
  refine g_iload X0 hx (pc' := 107) rfl (hD hby d16_105) rfl ?_
  refine g_icmpN X0 hx (pcN := 110) (hD hby d16_107) rfl (show ¬ (¬ (2 : Int32) = (2 : Int32)) from by decide) ?_
  refine g_iload X0 hx (pc' := 112) rfl (hD hby d16_110) rfl ?_
  exact g_retI X0 hx hlk hret (hD hby d16_112) (by decide) (by decide) (Nat.le_refl _) (⟨rfl, rfl⟩)
theorem rm15_b (l : Launch) (Z : State) (a0 : Array Value) (hw : HW a0 Z) (ws : List Jvm.Cond) (n0 : Nat) (Ts : List String) (tb ub : Addr) (y0 y1 : Int32) (h0 : Heap) (hn0 : n0 ≤ h0.size) (q0 : ¬ y0 = (58 : Int32)) (q1 : y1 = (58 : Int32)) (At : AV Z h0 tb .byte [.int y0, .int y1]) (Au : AV Z h0 ub .byte [.int 58]) :
    Con l Z n0 Ts (Ts) (⟨"java/lang/StringLatin1", "indexOf", "([B[B)I"⟩ : MethodName) jdk_43_method_24_code 2 (some .int) ws ({ frames := 1, cells := 0, slots := 0, locals := 32 } : Room) #[(.ref tb), (.ref ub)] h0 (fun v h => v = some (.int (1)) ∧ h = h0) := by
  refine con_start (fr0 := fun m => mkF m 0 #[.val (.ref tb), .val (.ref ub)] []) ?_
  intro p e s m below meth c T0 hx hZ hby hml hown hnm hret hlk hsh XA
  have X0 := XA n0
  have hlow : n0 ≤ s.heap.size := by rw [hsh]; exact hn0
  replace hown : s.vm.findClass "java/lang/StringLatin1" = some m.cls := hown
  replace hml : c.maxLocals = 2 := hml
  refine g_aloadN X0 hx (pc' := 1) rfl (hD hby d15_0) rfl rfl ?_
  refine g_alen X0 hx hZ Au (z := (1 : Int32)) rfl (pc' := 2) rfl (hD hby d15_1) ?_
  refine g_ifY X0 hx (pcY := 7) (hD hby d15_2) (by decide) (by decide) (show ¬ (1 : Int32) = 0 from by decide) ?_
  refine g_aloadN X0 hx (pc' := 8) rfl (hD hby d15_7) rfl rfl ?_
  refine g_alen X0 hx hZ At (z := (2 : Int32)) rfl (pc' := 9) rfl (hD hby d15_8) ?_
  refine g_ifY X0 hx (pcY := 14) (hD hby d15_9) (by decide) (by decide) (show ¬ (2 : Int32) = 0 from by decide) ?_
  refine g_aloadN X0 hx (pc' := 15) rfl (hD hby d15_14) rfl rfl ?_
  refine g_aloadN X0 hx (pc' := 16) rfl (hD hby d15_15) rfl rfl ?_
  refine g_alen X0 hx hZ At (z := (2 : Int32)) rfl (pc' := 17) rfl (hD hby d15_16) ?_
  refine g_aloadN X0 hx (pc' := 18) rfl (hD hby d15_17) rfl rfl ?_
  refine g_aloadN X0 hx (pc' := 19) rfl (hD hby d15_18) rfl rfl ?_
  refine g_alen X0 hx hZ Au (z := (1 : Int32)) rfl (pc' := 20) rfl (hD hby d15_19) ?_
  refine g_iconst X0 hx (pc' := 21) (z := (0 : Int32)) rfl (hD hby d15_20) rfl ?_
  refine g_callS X0 hx hZ hown (wat hw 91 rfl) (wat hw 92 rfl) (wat hw 89 rfl) (wat hw 93 rfl) (by decide) (rm16_b l Z a0 hw [] n0 (Ts) tb ub y0 y1 h0 hn0 q0 q1 At Au) pd_5 rfl rfl (pc' := 24) rfl (hD hby d15_21) (argsL := [(.ref tb), (.int 2), (.ref ub), (.int 1), (.int 0)]) (rest := []) rfl (W := 0) (fun v65 T65 h65 X65 hQ65 => ?_)
  obtain ⟨rfl, he65⟩ := hQ65
  rw [he65] at X65
  show Go p e below s n0 _ _ _ (T65.setTop (mkF m 24 _ [(.int 1)]))
  exact g_retI X65 hx hlk hret (hD hby d15_24) (by decide) (by decide) (Nat.le_refl _) (⟨rfl, rfl⟩)
theorem rm12_b (l : Launch) (Z : State) (a0 : Array Value) (hw : HW a0 Z) (ws : List Jvm.Cond) (n0 : Nat) (Ts : List String) (t tb u ub : Addr) (y0 y1 cz : Int32) (h0 : Heap) (hn0 : n0 ≤ h0.size) (O2 : St0 Z (.int cz)) (hcz : ¬ cz = 0) (OLD : OldP Z n0 h0) (q0 : ¬ y0 = (58 : Int32)) (q1 : y1 = (58 : Int32)) (Et : XSt Z h0 t) (Fvt : SV Z h0 t (.ref tb)) (Fct : SC Z h0 t (.int 0)) (Abt : AV Z h0 tb .byte [.int y0, .int y1]) (Eu : XSt Z h0 u) (Fvu : SV Z h0 u (.ref ub)) (Fcu : SC Z h0 u (.int 0)) (Abu : AV Z h0 ub .byte [.int (58 : Int32)]) :
    Con l Z n0 Ts (Ts) (⟨"java/lang/String", "indexOf", "(Ljava/lang/String;)I"⟩ : MethodName) jdk_42_method_84_code 3 (some .int) ws ({ frames := 2, cells := 0, slots := 0, locals := 48 } : Room) #[(.ref t), (.ref u)] h0 (fun v h => v = some (.int (1)) ∧ h = h0) := by
  refine con_start (fr0 := fun m => mkF m 0 #[.val (.ref t), .val (.ref u), .unset] []) ?_
  intro p e s m below meth c T0 hx hZ hby hml hown hnm hret hlk hsh XA
  have X0 := XA n0
  have hlow : n0 ≤ s.heap.size := by rw [hsh]; exact hn0
  replace hown : s.vm.findClass "java/lang/String" = some m.cls := hown
  replace hml : c.maxLocals = 3 := hml
  refine g_aloadN X0 hx (pc' := 1) rfl (hD hby d12_0) rfl rfl ?_
  refine g_callV X0 hx hZ hown (wat hw 77 rfl) (wat hw 78 rfl) (wat hw 80 rfl) (wat hw 79 rfl) (wat hw 4 rfl) (wat hw 81 rfl) (by decide) (a := t) Et (rm13 l Z a0 hw [] n0 (Ts) t cz h0 hn0 O2 hcz OLD Fct) pd_0 rfl rfl (pc' := 4) rfl (hD hby d12_1) (argsL := []) (rest := []) rfl (W := 0) (fun v66 T66 h66 X66 hQ66 => ?_)
  obtain ⟨rfl, he66⟩ := hQ66
  rw [he66] at X66
  show Go p e below s n0 _ _ _ (T66.setTop (mkF m 4 _ [(.int 0)]))
  refine g_istoreN X66 hx (pc' := 5) rfl (hD hby d12_4) (l' := #[.val (.ref t), .val (.ref u), .val (.int 0)]) rfl ?_
  refine g_iloadN X66 hx (pc' := 6) rfl (hD hby d12_5) rfl ?_
  refine g_aloadN X66 hx (pc' := 7) rfl (hD hby d12_6) rfl rfl ?_
  refine g_callV X66 hx hZ hown (wat hw 77 rfl) (wat hw 78 rfl) (wat hw 80 rfl) (wat hw 79 rfl) (wat hw 4 rfl) (wat hw 81 rfl) (by decide) (a := u) Eu (rm13 l Z a0 hw [] n0 (Ts) u cz h0 hn0 O2 hcz OLD Fcu) pd_0 rfl rfl (pc' := 10) rfl (hD hby d12_7) (argsL := []) (rest := [(.int 0)]) rfl (W := 1) (fun v67 T67 h67 X67 hQ67 => ?_)
  obtain ⟨rfl, he67⟩ := hQ67
  rw [he67] at X67
  show Go p e below s n0 _ _ _ (T67.setTop (mkF m 10 _ [(.int 0), (.int 0)]))
  refine g_icmpN X67 hx (pcN := 13) (hD hby d12_10) rfl (show ¬ (¬ (0 : Int32) = (0 : Int32)) from by decide) ?_
  refine g_aloadN X67 hx (pc' := 14) rfl (hD hby d12_13) rfl rfl ?_
  refine g_callV X67 hx hZ hown (wat hw 82 rfl) (wat hw 83 rfl) (wat hw 85 rfl) (wat hw 84 rfl) (wat hw 4 rfl) (wat hw 86 rfl) (by decide) (a := t) Et (rm14 l Z a0 hw [] n0 (Ts) t cz h0 hn0 O2 hcz OLD Fct) pd_6 rfl rfl (pc' := 17) rfl (hD hby d12_14) (argsL := []) (rest := []) rfl (W := 0) (fun v68 T68 h68 X68 hQ68 => ?_)
  obtain ⟨rfl, he68⟩ := hQ68
  rw [he68] at X68
  show Go p e below s n0 _ _ _ (T68.setTop (mkF m 17 _ [(.int 1)]))
  refine g_ifN X68 hx (pcN := 20) (hD hby d12_17) rfl (show ¬ ((1 : Int32) = 0) from by decide) ?_
  refine g_aloadN X68 hx (pc' := 21) rfl (hD hby d12_20) rfl rfl ?_
  refine g_getF X68 hx hZ hown (wat hw 30 rfl) Via.refl Fvt (pc' := 24) rfl (hD hby d12_21) (fun T69 X69 => ?_)
  refine g_aloadN X69 hx (pc' := 25) rfl (hD hby d12_24) rfl rfl ?_
  refine g_getF X69 hx hZ hown (wat hw 30 rfl) Via.refl Fvu (pc' := 28) rfl (hD hby d12_25) (fun T70 X70 => ?_)
  refine g_callS X70 hx hZ hown (wat hw 87 rfl) (wat hw 88 rfl) (wat hw 89 rfl) (wat hw 90 rfl) (by decide) (rm15_b l Z a0 hw [] n0 (Ts) tb ub y0 y1 h0 hn0 q0 q1 Abt Abu) pd_7 rfl rfl (pc' := 31) rfl (hD hby d12_28) (argsL := [(.ref tb), (.ref ub)]) (rest := []) rfl (W := 0) (fun v71 T71 h71 X71 hQ71 => ?_)
  obtain ⟨rfl, he71⟩ := hQ71
  rw [he71] at X71
  show Go p e below s n0 _ _ _ (T71.setTop (mkF m 31 _ [(.int 1)]))
  refine g_goto X71 hx (pc' := 45) (hD hby d12_31) (by decide) (by decide) ?_
  exact g_retI X71 hx hlk hret (hD hby d12_45) (by decide) (by decide) (Nat.le_refl _) (⟨rfl, rfl⟩)
theorem rm10_b (l : Launch) (Z : State) (a0 : Array Value) (hw : HW a0 Z) (ws : List Jvm.Cond) (n0 : Nat) (Ts : List String) (t tb u ub : Addr) (y0 y1 cz : Int32) (h0 : Heap) (hn0 : n0 ≤ h0.size) (O2 : St0 Z (.int cz)) (hcz : ¬ cz = 0) (OLD : OldP Z n0 h0) (q0 : ¬ y0 = (58 : Int32)) (q1 : y1 = (58 : Int32)) (Et : XSt Z h0 t) (Fvt : SV Z h0 t (.ref tb)) (Fct : SC Z h0 t (.int 0)) (Abt : AV Z h0 tb .byte [.int y0, .int y1]) (Eu : XSt Z h0 u) (Fvu : SV Z h0 u (.ref ub)) (Fcu : SC Z h0 u (.int 0)) (Abu : AV Z h0 ub .byte [.int (58 : Int32)]) :
    Con l Z n0 Ts (Ts) (⟨"java/lang/String", "contains", "(Ljava/lang/CharSequence;)Z"⟩ : MethodName) jdk_42_method_97_code 2 (some .boolean) ws ({ frames := 3, cells := 0, slots := 0, locals := 72 } : Room) #[(.ref t), (.ref u)] h0 (fun v h => v = some (.int 1) ∧ h = h0) := by
  refine con_start (fr0 := fun m => mkF m 0 #[.val (.ref t), .val (.ref u)] []) ?_
  intro p e s m below meth c T0 hx hZ hby hml hown hnm hret hlk hsh XA
  have X0 := XA n0
  have hlow : n0 ≤ s.heap.size := by rw [hsh]; exact hn0
  replace hown : s.vm.findClass "java/lang/String" = some m.cls := hown
  replace hml : c.maxLocals = 2 := hml
  refine g_aloadN X0 hx (pc' := 1) rfl (hD hby d10_0) rfl rfl ?_
  refine g_aloadN X0 hx (pc' := 2) rfl (hD hby d10_1) rfl rfl ?_
  refine g_callIf X0 hx hZ hown (wat hw 63 rfl) (wat hw 64 rfl) (wat hw 65 rfl) (by first | rfl | decide) (wat hw 66 rfl) (wat hw 67 rfl) (wat hw 68 rfl) (wat hw 69 rfl) (wat hw 70 rfl) (wat hw 4 rfl) (wat hw 71 rfl) (by decide) (a := u) Eu (rm11 l Z a0 hw [] n0 (Ts) u h0 hn0 ) pd_8 rfl rfl (pc' := 7) rfl (hD hby d10_2) (argsL := []) (rest := [(.ref t)]) rfl (W := 1) (fun v72 T72 h72 X72 hQ72 => ?_)
  obtain ⟨rfl, he72⟩ := hQ72
  rw [he72] at X72
  show Go p e below s n0 _ _ _ (T72.setTop (mkF m 7 _ [(.ref u), (.ref t)]))
  refine g_callV X72 hx hZ hown (wat hw 72 rfl) (wat hw 73 rfl) (wat hw 75 rfl) (wat hw 74 rfl) (wat hw 4 rfl) (wat hw 76 rfl) (by decide) (a := t) Et (rm12_b l Z a0 hw [] n0 (Ts) t tb u ub y0 y1 cz h0 hn0 O2 hcz OLD q0 q1 Et Fvt Fct Abt Eu Fvu Fcu Abu) pd_9 rfl rfl (pc' := 10) rfl (hD hby d10_7) (argsL := [(.ref u)]) (rest := []) rfl (W := 0) (fun v73 T73 h73 X73 hQ73 => ?_)
  obtain ⟨rfl, he73⟩ := hQ73
  rw [he73] at X73
  show Go p e below s n0 _ _ _ (T73.setTop (mkF m 10 _ [(.int 1)]))
  refine g_ifN X73 hx (pcN := 13) (hD hby d10_10) rfl (show ¬ ((1 : Int32) < 0) from by decide) ?_
  refine g_iconst X73 hx (pc' := 14) (z := (1 : Int32)) rfl (hD hby d10_13) rfl ?_
  refine g_goto X73 hx (pc' := 18) (hD hby d10_14) (by decide) (by decide) ?_
  exact g_retZ X73 hx hlk hret (by first | exact Or.inl rfl | exact Or.inr rfl) (hD hby d10_18) (by decide) (by decide) (Nat.le_refl _) (⟨rfl, rfl⟩)
theorem rm16_n (l : Launch) (Z : State) (a0 : Array Value) (hw : HW a0 Z) (ws : List Jvm.Cond) (n0 : Nat) (Ts : List String) (tb ub : Addr) (y0 y1 : Int32) (h0 : Heap) (hn0 : n0 ≤ h0.size) (q0 : ¬ y0 = (58 : Int32)) (q1 : ¬ y1 = (58 : Int32)) (At : AV Z h0 tb .byte [.int y0, .int y1]) (Au : AV Z h0 ub .byte [.int 58]) :
    Con l Z n0 Ts (Ts) (⟨"java/lang/StringLatin1", "indexOf", "([BI[BII)I"⟩ : MethodName) jdk_43_method_25_code 11 (some .int) ws ({ frames := 0, cells := 0, slots := 0, locals := 0 } : Room) #[(.ref tb), (.int 2), (.ref ub), (.int 1), (.int 0)] h0 (fun v h => v = some (.int (-1)) ∧ h = h0) := by
  refine con_start (fr0 := fun m => mkF m 0 #[.val (.ref tb), .val (.int 2), .val (.ref ub), .val (.int 1), .val (.int 0), .unset, .unset, .unset, .unset, .unset, .unset] []) ?_
  intro p e s m below meth c T0 hx hZ hby hml hown hnm hret hlk hsh XA
  have X0 := XA n0
  have hlow : n0 ≤ s.heap.size := by rw [hsh]; exact hn0
  replace hown : s.vm.findClass "java/lang/StringLatin1" = some m.cls := hown
  replace hml : c.maxLocals = 11 := hml
  refine g_aloadN X0 hx (pc' := 1) rfl (hD hby d16_0) rfl rfl ?_
  refine g_iconst X0 hx (pc' := 2) (z := (0 : Int32)) rfl (hD hby d16_1) rfl ?_
  refine g_baload X0 hx hZ Au (i := 0) (by decide) (show (0 : Nat) < 1 by decide) (x := (58 : Int32)) rfl (pc' := 3) rfl (hD hby d16_2) ?_
  refine g_istore X0 hx (pc' := 5) rfl (hD hby d16_3) (l' := #[.val (.ref tb), .val (.int 2), .val (.ref ub), .val (.int 1), .val (.int 0), .val (.int 58), .unset, .unset, .unset, .unset, .unset]) rfl ?_
  refine g_iloadN X0 hx (pc' := 6) rfl (hD hby d16_5) rfl ?_
  refine g_iloadN X0 hx (pc' := 7) rfl (hD hby d16_6) rfl ?_
  refine g_isub X0 hx (pc' := 8) rfl (hD hby d16_7) ?_
  refine g_normI (z := (1 : Int32)) (by decide) ?_
  refine g_istore X0 hx (pc' := 10) rfl (hD hby d16_8) (l' := #[.val (.ref tb), .val (.int 2), .val (.ref ub), .val (.int 1), .val (.int 0), .val (.int 58), .val (.int 1), .unset, .unset, .unset, .unset]) rfl ?_
  refine g_iload X0 hx (pc' := 12) rfl (hD hby d16_10) rfl ?_
  refine g_istore X0 hx (pc' := 14) rfl (hD hby d16_12) (l' := #[.val (.ref tb), .val (.int 2), .val (.ref ub), .val (.int 1), .val (.int 0), .val (.int 58), .val (.int 1), .val (.int 0), .unset, .unset, .unset]) rfl ?_
  refine g_iload X0 hx (pc' := 16) rfl (hD hby d16_14) rfl ?_
  refine g_iload X0 hx (pc' := 18) rfl (hD hby d16_16) rfl ?_
  refine g_icmpN X0 hx (pcN := 21) (hD hby d16_18) rfl (show ¬ ((1 : Int32) < (0 : Int32)) from by decide) ?_
  refine g_aloadN X0 hx (pc' := 22) rfl (hD hby d16_21) rfl rfl ?_
  refine g_iload X0 hx (pc' := 24) rfl (hD hby d16_22) rfl ?_
  refine g_baload X0 hx hZ At (i := 0) (by decide) (show (0 : Nat) < 2 by decide) (x := y0) rfl (pc' := 25) rfl (hD hby d16_24) ?_
  refine g_iload X0 hx (pc' := 27) rfl (hD hby d16_25) rfl ?_
  refine g_icmpN X0 hx (pcN := 30) (hD hby d16_27) rfl (show ¬ (y0 = (58 : Int32)) from q0) ?_
  refine g_iincC X0 hx (pc' := 33) (x := (0 : Int32)) (z := (1 : Int32)) rfl (hD hby d16_30) rfl (by decide) (l' := #[.val (.ref tb), .val (.int 2), .val (.ref ub), .val (.int 1), .val (.int 0), .val (.int 58), .val (.int 1), .val (.int 1), .unset, .unset, .unset]) rfl ?_
  refine g_iload X0 hx (pc' := 35) rfl (hD hby d16_33) rfl ?_
  refine g_iload X0 hx (pc' := 37) rfl (hD hby d16_35) rfl ?_
  refine g_icmpN X0 hx (pcN := 40) (hD hby d16_37) rfl (show ¬ ((1 : Int32) < (1 : Int32)) from by decide) ?_
  refine g_aloadN X0 hx (pc' := 41) rfl (hD hby d16_40) rfl rfl ?_
  refine g_iload X0 hx (pc' := 43) rfl (hD hby d16_41) rfl ?_
  refine g_baload X0 hx hZ At (i := 1) (by decide) (show (1 : Nat) < 2 by decide) (x := y1) rfl (pc' := 44) rfl (hD hby d16_43) ?_
  refine g_iload X0 hx (pc' := 46) rfl (hD hby d16_44) rfl ?_
  refine g_icmpN X0 hx (pcN := 49) (hD hby d16_46) rfl (show ¬ (y1 = (58 : Int32)) from q1) ?_
  refine g_goto X0 hx (pc' := 30) (hD hby d16_49) (by decide) (by decide) ?_
  refine g_iincC X0 hx (pc' := 33) (x := (1 : Int32)) (z := (2 : Int32)) rfl (hD hby d16_30) rfl (by decide) (l' := #[.val (.ref tb), .val (.int 2), .val (.ref ub), .val (.int 1), .val (.int 0), .val (.int 58), .val (.int 1), .val (.int 2), .unset, .unset, .unset]) rfl ?_
  refine g_iload X0 hx (pc' := 35) rfl (hD hby d16_33) rfl ?_
  refine g_iload X0 hx (pc' := 37) rfl (hD hby d16_35) rfl ?_
  refine g_icmpY X0 hx (pcY := 52) (hD hby d16_37) (by decide) (by decide) (show (1 : Int32) < (2 : Int32) from by decide) ?_
  refine g_iload X0 hx (pc' := 54) rfl (hD hby d16_52) rfl ?_
  refine g_iload X0 hx (pc' := 56) rfl (hD hby d16_54) rfl ?_
  refine g_icmpY X0 hx (pcY := 113) (hD hby d16_56) (by decide) (by decide) (show (1 : Int32) < (2 : Int32) from by decide) ?_
  refine g_iincC X0 hx (pc' := 116) (x := (2 : Int32)) (z := (3 : Int32)) rfl (hD hby d16_113) rfl (by decide) (l' := #[.val (.ref tb), .val (.int 2), .val (.ref ub), .val (.int 1), .val (.int 0), .val (.int 58), .val (.int 1), .val (.int 3), .unset, .unset, .unset]) rfl ?_
  refine g_goto X0 hx (pc' := 14) (hD hby d16_116) (by decide) (by decide) ?_
  refine g_iload X0 hx (pc' := 16) rfl (hD hby d16_14) rfl ?_
  refine g_iload X0 hx (pc' := 18) rfl (hD hby d16_16) rfl ?_
  refine g_icmpY X0 hx (pcY := 119) (hD hby d16_18) (by decide) (by decide) (show (1 : Int32) < (3 : Int32) from by decide) ?_
  refine g_iconst X0 hx (pc' := 120) (z := (-1 : Int32)) rfl (hD hby d16_119) rfl ?_
  exact g_retI X0 hx hlk hret (hD hby d16_120) (by decide) (by decide) (Nat.le_refl _) (⟨rfl, rfl⟩)
theorem rm15_n (l : Launch) (Z : State) (a0 : Array Value) (hw : HW a0 Z) (ws : List Jvm.Cond) (n0 : Nat) (Ts : List String) (tb ub : Addr) (y0 y1 : Int32) (h0 : Heap) (hn0 : n0 ≤ h0.size) (q0 : ¬ y0 = (58 : Int32)) (q1 : ¬ y1 = (58 : Int32)) (At : AV Z h0 tb .byte [.int y0, .int y1]) (Au : AV Z h0 ub .byte [.int 58]) :
    Con l Z n0 Ts (Ts) (⟨"java/lang/StringLatin1", "indexOf", "([B[B)I"⟩ : MethodName) jdk_43_method_24_code 2 (some .int) ws ({ frames := 1, cells := 0, slots := 0, locals := 32 } : Room) #[(.ref tb), (.ref ub)] h0 (fun v h => v = some (.int (-1)) ∧ h = h0) := by
  refine con_start (fr0 := fun m => mkF m 0 #[.val (.ref tb), .val (.ref ub)] []) ?_
  intro p e s m below meth c T0 hx hZ hby hml hown hnm hret hlk hsh XA
  have X0 := XA n0
  have hlow : n0 ≤ s.heap.size := by rw [hsh]; exact hn0
  replace hown : s.vm.findClass "java/lang/StringLatin1" = some m.cls := hown
  replace hml : c.maxLocals = 2 := hml
  refine g_aloadN X0 hx (pc' := 1) rfl (hD hby d15_0) rfl rfl ?_
  refine g_alen X0 hx hZ Au (z := (1 : Int32)) rfl (pc' := 2) rfl (hD hby d15_1) ?_
  refine g_ifY X0 hx (pcY := 7) (hD hby d15_2) (by decide) (by decide) (show ¬ (1 : Int32) = 0 from by decide) ?_
  refine g_aloadN X0 hx (pc' := 8) rfl (hD hby d15_7) rfl rfl ?_
  refine g_alen X0 hx hZ At (z := (2 : Int32)) rfl (pc' := 9) rfl (hD hby d15_8) ?_
  refine g_ifY X0 hx (pcY := 14) (hD hby d15_9) (by decide) (by decide) (show ¬ (2 : Int32) = 0 from by decide) ?_
  refine g_aloadN X0 hx (pc' := 15) rfl (hD hby d15_14) rfl rfl ?_
  refine g_aloadN X0 hx (pc' := 16) rfl (hD hby d15_15) rfl rfl ?_
  refine g_alen X0 hx hZ At (z := (2 : Int32)) rfl (pc' := 17) rfl (hD hby d15_16) ?_
  refine g_aloadN X0 hx (pc' := 18) rfl (hD hby d15_17) rfl rfl ?_
  refine g_aloadN X0 hx (pc' := 19) rfl (hD hby d15_18) rfl rfl ?_
  refine g_alen X0 hx hZ Au (z := (1 : Int32)) rfl (pc' := 20) rfl (hD hby d15_19) ?_
  refine g_iconst X0 hx (pc' := 21) (z := (0 : Int32)) rfl (hD hby d15_20) rfl ?_
  refine g_callS X0 hx hZ hown (wat hw 91 rfl) (wat hw 92 rfl) (wat hw 89 rfl) (wat hw 93 rfl) (by decide) (rm16_n l Z a0 hw [] n0 (Ts) tb ub y0 y1 h0 hn0 q0 q1 At Au) pd_5 rfl rfl (pc' := 24) rfl (hD hby d15_21) (argsL := [(.ref tb), (.int 2), (.ref ub), (.int 1), (.int 0)]) (rest := []) rfl (W := 0) (fun v74 T74 h74 X74 hQ74 => ?_)
  obtain ⟨rfl, he74⟩ := hQ74
  rw [he74] at X74
  show Go p e below s n0 _ _ _ (T74.setTop (mkF m 24 _ [(.int (-1))]))
  exact g_retI X74 hx hlk hret (hD hby d15_24) (by decide) (by decide) (Nat.le_refl _) (⟨rfl, rfl⟩)
theorem rm12_n (l : Launch) (Z : State) (a0 : Array Value) (hw : HW a0 Z) (ws : List Jvm.Cond) (n0 : Nat) (Ts : List String) (t tb u ub : Addr) (y0 y1 cz : Int32) (h0 : Heap) (hn0 : n0 ≤ h0.size) (O2 : St0 Z (.int cz)) (hcz : ¬ cz = 0) (OLD : OldP Z n0 h0) (q0 : ¬ y0 = (58 : Int32)) (q1 : ¬ y1 = (58 : Int32)) (Et : XSt Z h0 t) (Fvt : SV Z h0 t (.ref tb)) (Fct : SC Z h0 t (.int 0)) (Abt : AV Z h0 tb .byte [.int y0, .int y1]) (Eu : XSt Z h0 u) (Fvu : SV Z h0 u (.ref ub)) (Fcu : SC Z h0 u (.int 0)) (Abu : AV Z h0 ub .byte [.int (58 : Int32)]) :
    Con l Z n0 Ts (Ts) (⟨"java/lang/String", "indexOf", "(Ljava/lang/String;)I"⟩ : MethodName) jdk_42_method_84_code 3 (some .int) ws ({ frames := 2, cells := 0, slots := 0, locals := 48 } : Room) #[(.ref t), (.ref u)] h0 (fun v h => v = some (.int (-1)) ∧ h = h0) := by
  refine con_start (fr0 := fun m => mkF m 0 #[.val (.ref t), .val (.ref u), .unset] []) ?_
  intro p e s m below meth c T0 hx hZ hby hml hown hnm hret hlk hsh XA
  have X0 := XA n0
  have hlow : n0 ≤ s.heap.size := by rw [hsh]; exact hn0
  replace hown : s.vm.findClass "java/lang/String" = some m.cls := hown
  replace hml : c.maxLocals = 3 := hml
  refine g_aloadN X0 hx (pc' := 1) rfl (hD hby d12_0) rfl rfl ?_
  refine g_callV X0 hx hZ hown (wat hw 77 rfl) (wat hw 78 rfl) (wat hw 80 rfl) (wat hw 79 rfl) (wat hw 4 rfl) (wat hw 81 rfl) (by decide) (a := t) Et (rm13 l Z a0 hw [] n0 (Ts) t cz h0 hn0 O2 hcz OLD Fct) pd_0 rfl rfl (pc' := 4) rfl (hD hby d12_1) (argsL := []) (rest := []) rfl (W := 0) (fun v75 T75 h75 X75 hQ75 => ?_)
  obtain ⟨rfl, he75⟩ := hQ75
  rw [he75] at X75
  show Go p e below s n0 _ _ _ (T75.setTop (mkF m 4 _ [(.int 0)]))
  refine g_istoreN X75 hx (pc' := 5) rfl (hD hby d12_4) (l' := #[.val (.ref t), .val (.ref u), .val (.int 0)]) rfl ?_
  refine g_iloadN X75 hx (pc' := 6) rfl (hD hby d12_5) rfl ?_
  refine g_aloadN X75 hx (pc' := 7) rfl (hD hby d12_6) rfl rfl ?_
  refine g_callV X75 hx hZ hown (wat hw 77 rfl) (wat hw 78 rfl) (wat hw 80 rfl) (wat hw 79 rfl) (wat hw 4 rfl) (wat hw 81 rfl) (by decide) (a := u) Eu (rm13 l Z a0 hw [] n0 (Ts) u cz h0 hn0 O2 hcz OLD Fcu) pd_0 rfl rfl (pc' := 10) rfl (hD hby d12_7) (argsL := []) (rest := [(.int 0)]) rfl (W := 1) (fun v76 T76 h76 X76 hQ76 => ?_)
  obtain ⟨rfl, he76⟩ := hQ76
  rw [he76] at X76
  show Go p e below s n0 _ _ _ (T76.setTop (mkF m 10 _ [(.int 0), (.int 0)]))
  refine g_icmpN X76 hx (pcN := 13) (hD hby d12_10) rfl (show ¬ (¬ (0 : Int32) = (0 : Int32)) from by decide) ?_
  refine g_aloadN X76 hx (pc' := 14) rfl (hD hby d12_13) rfl rfl ?_
  refine g_callV X76 hx hZ hown (wat hw 82 rfl) (wat hw 83 rfl) (wat hw 85 rfl) (wat hw 84 rfl) (wat hw 4 rfl) (wat hw 86 rfl) (by decide) (a := t) Et (rm14 l Z a0 hw [] n0 (Ts) t cz h0 hn0 O2 hcz OLD Fct) pd_6 rfl rfl (pc' := 17) rfl (hD hby d12_14) (argsL := []) (rest := []) rfl (W := 0) (fun v77 T77 h77 X77 hQ77 => ?_)
  obtain ⟨rfl, he77⟩ := hQ77
  rw [he77] at X77
  show Go p e below s n0 _ _ _ (T77.setTop (mkF m 17 _ [(.int 1)]))
  refine g_ifN X77 hx (pcN := 20) (hD hby d12_17) rfl (show ¬ ((1 : Int32) = 0) from by decide) ?_
  refine g_aloadN X77 hx (pc' := 21) rfl (hD hby d12_20) rfl rfl ?_
  refine g_getF X77 hx hZ hown (wat hw 30 rfl) Via.refl Fvt (pc' := 24) rfl (hD hby d12_21) (fun T78 X78 => ?_)
  refine g_aloadN X78 hx (pc' := 25) rfl (hD hby d12_24) rfl rfl ?_
  refine g_getF X78 hx hZ hown (wat hw 30 rfl) Via.refl Fvu (pc' := 28) rfl (hD hby d12_25) (fun T79 X79 => ?_)
  refine g_callS X79 hx hZ hown (wat hw 87 rfl) (wat hw 88 rfl) (wat hw 89 rfl) (wat hw 90 rfl) (by decide) (rm15_n l Z a0 hw [] n0 (Ts) tb ub y0 y1 h0 hn0 q0 q1 Abt Abu) pd_7 rfl rfl (pc' := 31) rfl (hD hby d12_28) (argsL := [(.ref tb), (.ref ub)]) (rest := []) rfl (W := 0) (fun v80 T80 h80 X80 hQ80 => ?_)
  obtain ⟨rfl, he80⟩ := hQ80
  rw [he80] at X80
  show Go p e below s n0 _ _ _ (T80.setTop (mkF m 31 _ [(.int (-1))]))
  refine g_goto X80 hx (pc' := 45) (hD hby d12_31) (by decide) (by decide) ?_
  exact g_retI X80 hx hlk hret (hD hby d12_45) (by decide) (by decide) (Nat.le_refl _) (⟨rfl, rfl⟩)
theorem rm10_n (l : Launch) (Z : State) (a0 : Array Value) (hw : HW a0 Z) (ws : List Jvm.Cond) (n0 : Nat) (Ts : List String) (t tb u ub : Addr) (y0 y1 cz : Int32) (h0 : Heap) (hn0 : n0 ≤ h0.size) (O2 : St0 Z (.int cz)) (hcz : ¬ cz = 0) (OLD : OldP Z n0 h0) (q0 : ¬ y0 = (58 : Int32)) (q1 : ¬ y1 = (58 : Int32)) (Et : XSt Z h0 t) (Fvt : SV Z h0 t (.ref tb)) (Fct : SC Z h0 t (.int 0)) (Abt : AV Z h0 tb .byte [.int y0, .int y1]) (Eu : XSt Z h0 u) (Fvu : SV Z h0 u (.ref ub)) (Fcu : SC Z h0 u (.int 0)) (Abu : AV Z h0 ub .byte [.int (58 : Int32)]) :
    Con l Z n0 Ts (Ts) (⟨"java/lang/String", "contains", "(Ljava/lang/CharSequence;)Z"⟩ : MethodName) jdk_42_method_97_code 2 (some .boolean) ws ({ frames := 3, cells := 0, slots := 0, locals := 72 } : Room) #[(.ref t), (.ref u)] h0 (fun v h => v = some (.int 0) ∧ h = h0) := by
  refine con_start (fr0 := fun m => mkF m 0 #[.val (.ref t), .val (.ref u)] []) ?_
  intro p e s m below meth c T0 hx hZ hby hml hown hnm hret hlk hsh XA
  have X0 := XA n0
  have hlow : n0 ≤ s.heap.size := by rw [hsh]; exact hn0
  replace hown : s.vm.findClass "java/lang/String" = some m.cls := hown
  replace hml : c.maxLocals = 2 := hml
  refine g_aloadN X0 hx (pc' := 1) rfl (hD hby d10_0) rfl rfl ?_
  refine g_aloadN X0 hx (pc' := 2) rfl (hD hby d10_1) rfl rfl ?_
  refine g_callIf X0 hx hZ hown (wat hw 63 rfl) (wat hw 64 rfl) (wat hw 65 rfl) (by first | rfl | decide) (wat hw 66 rfl) (wat hw 67 rfl) (wat hw 68 rfl) (wat hw 69 rfl) (wat hw 70 rfl) (wat hw 4 rfl) (wat hw 71 rfl) (by decide) (a := u) Eu (rm11 l Z a0 hw [] n0 (Ts) u h0 hn0 ) pd_8 rfl rfl (pc' := 7) rfl (hD hby d10_2) (argsL := []) (rest := [(.ref t)]) rfl (W := 1) (fun v81 T81 h81 X81 hQ81 => ?_)
  obtain ⟨rfl, he81⟩ := hQ81
  rw [he81] at X81
  show Go p e below s n0 _ _ _ (T81.setTop (mkF m 7 _ [(.ref u), (.ref t)]))
  refine g_callV X81 hx hZ hown (wat hw 72 rfl) (wat hw 73 rfl) (wat hw 75 rfl) (wat hw 74 rfl) (wat hw 4 rfl) (wat hw 76 rfl) (by decide) (a := t) Et (rm12_n l Z a0 hw [] n0 (Ts) t tb u ub y0 y1 cz h0 hn0 O2 hcz OLD q0 q1 Et Fvt Fct Abt Eu Fvu Fcu Abu) pd_9 rfl rfl (pc' := 10) rfl (hD hby d10_7) (argsL := [(.ref u)]) (rest := []) rfl (W := 0) (fun v82 T82 h82 X82 hQ82 => ?_)
  obtain ⟨rfl, he82⟩ := hQ82
  rw [he82] at X82
  show Go p e below s n0 _ _ _ (T82.setTop (mkF m 10 _ [(.int (-1))]))
  refine g_ifY X82 hx (pcY := 17) (hD hby d10_10) (by decide) (by decide) (show (-1 : Int32) < 0 from by decide) ?_
  refine g_iconst X82 hx (pc' := 18) (z := (0 : Int32)) rfl (hD hby d10_17) rfl ?_
  exact g_retZ X82 hx hlk hret (by first | exact Or.inl rfl | exact Or.inr rfl) (hD hby d10_18) (by decide) (by decide) (Nat.le_refl _) (⟨rfl, rfl⟩)
theorem rm48_y (l : Launch) (Z : State) (a0 : Array Value) (hw : HW a0 Z) (ws : List Jvm.Cond) (n0 : Nat) (Ts : List String) (tb ub : Addr) (y0 y1 : Int32) (h0 : Heap) (hn0 : n0 ≤ h0.size) (q0 : y0 = (91 : Int32)) (At : AV Z h0 tb .byte [.int y0, .int y1]) (Au : AV Z h0 ub .byte [.int 91]) :
    Con l Z n0 Ts (Ts) (⟨"jdk/internal/util/ArraysSupport", "mismatch", "([BI[BII)I"⟩ : MethodName) jdk_48_method_14_code 8 (some .int) ws ({ frames := 0, cells := 0, slots := 0, locals := 0 } : Room) #[(.ref tb), (.int 0), (.ref ub), (.int 0), (.int 1)] h0 (fun v h => v = some (.int (-1)) ∧ h = h0) := by
  refine con_start (fr0 := fun m => mkF m 0 #[.val (.ref tb), .val (.int 0), .val (.ref ub), .val (.int 0), .val (.int 1), .unset, .unset, .unset] []) ?_
  intro p e s m below meth c T0 hx hZ hby hml hown hnm hret hlk hsh XA
  have X0 := XA n0
  have hlow : n0 ≤ s.heap.size := by rw [hsh]; exact hn0
  replace hown : s.vm.findClass "jdk/internal/util/ArraysSupport" = some m.cls := hown
  replace hml : c.maxLocals = 8 := hml
  refine g_iconst X0 hx (pc' := 1) (z := (0 : Int32)) rfl (hD hby d48_0) rfl ?_
  refine g_istore X0 hx (pc' := 3) rfl (hD hby d48_1) (l' := #[.val (.ref tb), .val (.int 0), .val (.ref ub), .val (.int 0), .val (.int 1), .val (.int 0), .unset, .unset]) rfl ?_
  refine g_iload X0 hx (pc' := 5) rfl (hD hby d48_3) rfl ?_
  refine g_bipush X0 hx (pc' := 7) (z := (7 : Int32)) rfl (hD hby d48_5) rfl ?_
  refine g_icmpY X0 hx (pcY := 70) (hD hby d48_7) (by decide) (by decide) (show ¬ (7 : Int32) < (1 : Int32) from by decide) ?_
  refine g_iload X0 hx (pc' := 72) rfl (hD hby d48_70) rfl ?_
  refine g_iload X0 hx (pc' := 74) rfl (hD hby d48_72) rfl ?_
  refine g_icmpN X0 hx (pcN := 77) (hD hby d48_74) rfl (show ¬ (¬ (0 : Int32) < (1 : Int32)) from by decide) ?_
  refine g_aloadN X0 hx (pc' := 78) rfl (hD hby d48_77) rfl rfl ?_
  refine g_iloadN X0 hx (pc' := 79) rfl (hD hby d48_78) rfl ?_
  refine g_iload X0 hx (pc' := 81) rfl (hD hby d48_79) rfl ?_
  refine g_iadd X0 hx (pc' := 82) rfl (hD hby d48_81) ?_
  refine g_normI (z := (0 : Int32)) (by decide) ?_
  refine g_baload X0 hx hZ At (i := 0) (by decide) (show (0 : Nat) < 2 by decide) (x := y0) rfl (pc' := 83) rfl (hD hby d48_82) ?_
  refine g_aloadN X0 hx (pc' := 84) rfl (hD hby d48_83) rfl rfl ?_
  refine g_iloadN X0 hx (pc' := 85) rfl (hD hby d48_84) rfl ?_
  refine g_iload X0 hx (pc' := 87) rfl (hD hby d48_85) rfl ?_
  refine g_iadd X0 hx (pc' := 88) rfl (hD hby d48_87) ?_
  refine g_normI (z := (0 : Int32)) (by decide) ?_
  refine g_baload X0 hx hZ Au (i := 0) (by decide) (show (0 : Nat) < 1 by decide) (x := (91 : Int32)) rfl (pc' := 89) rfl (hD hby d48_88) ?_
  refine g_icmpY X0 hx (pcY := 95) (hD hby d48_89) (by decide) (by decide) (show y0 = (91 : Int32) from q0) ?_
  refine g_iincC X0 hx (pc' := 98) (x := (0 : Int32)) (z := (1 : Int32)) rfl (hD hby d48_95) rfl (by decide) (l' := #[.val (.ref tb), .val (.int 0), .val (.ref ub), .val (.int 0), .val (.int 1), .val (.int 1), .unset, .unset]) rfl ?_
  refine g_goto X0 hx (pc' := 70) (hD hby d48_98) (by decide) (by decide) ?_
  refine g_iload X0 hx (pc' := 72) rfl (hD hby d48_70) rfl ?_
  refine g_iload X0 hx (pc' := 74) rfl (hD hby d48_72) rfl ?_
  refine g_icmpY X0 hx (pcY := 101) (hD hby d48_74) (by decide) (by decide) (show ¬ (1 : Int32) < (1 : Int32) from by decide) ?_
  refine g_iconst X0 hx (pc' := 102) (z := (-1 : Int32)) rfl (hD hby d48_101) rfl ?_
  exact g_retI X0 hx hlk hret (hD hby d48_102) (by decide) (by decide) (Nat.le_refl _) (⟨rfl, rfl⟩)
theorem rm47_y (l : Launch) (Z : State) (a0 : Array Value) (hw : HW a0 Z) (ws : List Jvm.Cond) (n0 : Nat) (Ts : List String) (t tb u ub : Addr) (y0 y1 cz : Int32) (h0 : Heap) (hn0 : n0 ≤ h0.size) (O2 : St0 Z (.int cz)) (hcz : ¬ cz = 0) (OLD : OldP Z n0 h0) (q0 : y0 = (91 : Int32)) (Et : XSt Z h0 t) (Fvt : SV Z h0 t (.ref tb)) (Fct : SC Z h0 t (.int 0)) (Abt : AV Z h0 tb .byte [.int y0, .int y1]) (Eu : XSt Z h0 u) (Fvu : SV Z h0 u (.ref ub)) (Fcu : SC Z h0 u (.int 0)) (Abu : AV Z h0 ub .byte [.int (91 : Int32)]) :
    Con l Z n0 Ts (Ts) (⟨"java/lang/String", "startsWith", "(Ljava/lang/String;I)Z"⟩ : MethodName) jdk_42_method_75_code 8 (some .boolean) ws ({ frames := 2, cells := 0, slots := 0, locals := 48 } : Room) #[(.ref t), (.ref u), (.int 0)] h0 (fun v h => v = some (.int 1) ∧ h = h0) := by
  refine con_start (fr0 := fun m => mkF m 0 #[.val (.ref t), .val (.ref u), .val (.int 0), .unset, .unset, .unset, .unset, .unset] []) ?_
  intro p e s m below meth c T0 hx hZ hby hml hown hnm hret hlk hsh XA
  have X0 := XA n0
  have hlow : n0 ≤ s.heap.size := by rw [hsh]; exact hn0
  replace hown : s.vm.findClass "java/lang/String" = some m.cls := hown
  replace hml : c.maxLocals = 8 := hml
  refine g_iloadN X0 hx (pc' := 1) rfl (hD hby d47_0) rfl ?_
  refine g_ifN X0 hx (pcN := 4) (hD hby d47_1) rfl (show ¬ ((0 : Int32) < 0) from by decide) ?_
  refine g_iloadN X0 hx (pc' := 5) rfl (hD hby d47_4) rfl ?_
  refine g_aloadN X0 hx (pc' := 6) rfl (hD hby d47_5) rfl rfl ?_
  refine g_callV X0 hx hZ hown (wat hw 250 rfl) (wat hw 123 rfl) (wat hw 125 rfl) (wat hw 124 rfl) (wat hw 4 rfl) (wat hw 126 rfl) (by decide) (a := t) Et (rm21 l Z a0 hw [] n0 (Ts) t tb _ (2 : Int32) cz h0 hn0 O2 hcz OLD Et Fvt Fct Abt rfl) pd_10 rfl rfl (pc' := 9) rfl (hD hby d47_6) (argsL := []) (rest := [(.int 0)]) rfl (W := 1) (fun v83 T83 h83 X83 hQ83 => ?_)
  obtain ⟨rfl, he83⟩ := hQ83
  rw [he83] at X83
  show Go p e below s n0 _ _ _ (T83.setTop (mkF m 9 _ [(.int 2), (.int 0)]))
  refine g_aloadN X83 hx (pc' := 10) rfl (hD hby d47_9) rfl rfl ?_
  refine g_callV X83 hx hZ hown (wat hw 250 rfl) (wat hw 123 rfl) (wat hw 125 rfl) (wat hw 124 rfl) (wat hw 4 rfl) (wat hw 126 rfl) (by decide) (a := u) Eu (rm21 l Z a0 hw [] n0 (Ts) u ub _ (1 : Int32) cz h0 hn0 O2 hcz OLD Eu Fvu Fcu Abu rfl) pd_10 rfl rfl (pc' := 13) rfl (hD hby d47_10) (argsL := []) (rest := [(.int 2), (.int 0)]) rfl (W := 2) (fun v84 T84 h84 X84 hQ84 => ?_)
  obtain ⟨rfl, he84⟩ := hQ84
  rw [he84] at X84
  show Go p e below s n0 _ _ _ (T84.setTop (mkF m 13 _ [(.int 1), (.int 2), (.int 0)]))
  refine g_isub X84 hx (pc' := 14) rfl (hD hby d47_13) ?_
  refine g_normI (z := (1 : Int32)) (by decide) ?_
  refine g_icmpY X84 hx (pcY := 19) (hD hby d47_14) (by decide) (by decide) (show ¬ (1 : Int32) < (0 : Int32) from by decide) ?_
  refine g_aloadN X84 hx (pc' := 20) rfl (hD hby d47_19) rfl rfl ?_
  refine g_getF X84 hx hZ hown (wat hw 30 rfl) Via.refl Fvt (pc' := 23) rfl (hD hby d47_20) (fun T85 X85 => ?_)
  refine g_astoreN X85 hx (pc' := 24) rfl (hD hby d47_23) rfl (l' := #[.val (.ref t), .val (.ref u), .val (.int 0), .val (.ref tb), .unset, .unset, .unset, .unset]) rfl ?_
  refine g_aloadN X85 hx (pc' := 25) rfl (hD hby d47_24) rfl rfl ?_
  refine g_getF X85 hx hZ hown (wat hw 30 rfl) Via.refl Fvu (pc' := 28) rfl (hD hby d47_25) (fun T86 X86 => ?_)
  refine g_astore X86 hx (pc' := 30) rfl (hD hby d47_28) rfl (l' := #[.val (.ref t), .val (.ref u), .val (.int 0), .val (.ref tb), .val (.ref ub), .unset, .unset, .unset]) rfl ?_
  refine g_iconst X86 hx (pc' := 31) (z := (0 : Int32)) rfl (hD hby d47_30) rfl ?_
  refine g_istore X86 hx (pc' := 33) rfl (hD hby d47_31) (l' := #[.val (.ref t), .val (.ref u), .val (.int 0), .val (.ref tb), .val (.ref ub), .val (.int 0), .unset, .unset]) rfl ?_
  refine g_aload X86 hx (pc' := 35) rfl (hD hby d47_33) rfl rfl ?_
  refine g_alen X86 hx hZ Abu (z := (1 : Int32)) rfl (pc' := 36) rfl (hD hby d47_35) ?_
  refine g_istore X86 hx (pc' := 38) rfl (hD hby d47_36) (l' := #[.val (.ref t), .val (.ref u), .val (.int 0), .val (.ref tb), .val (.ref ub), .val (.int 0), .val (.int 1), .unset]) rfl ?_
  refine g_aloadN X86 hx (pc' := 39) rfl (hD hby d47_38) rfl rfl ?_
  refine g_callV X86 hx hZ hown (wat hw 77 rfl) (wat hw 78 rfl) (wat hw 80 rfl) (wat hw 79 rfl) (wat hw 4 rfl) (wat hw 81 rfl) (by decide) (a := t) Et (rm13 l Z a0 hw [] n0 (Ts) t cz h0 hn0 O2 hcz OLD Fct) pd_0 rfl rfl (pc' := 42) rfl (hD hby d47_39) (argsL := []) (rest := []) rfl (W := 0) (fun v87 T87 h87 X87 hQ87 => ?_)
  obtain ⟨rfl, he87⟩ := hQ87
  rw [he87] at X87
  show Go p e below s n0 _ _ _ (T87.setTop (mkF m 42 _ [(.int 0)]))
  refine g_istore X87 hx (pc' := 44) rfl (hD hby d47_42) (l' := #[.val (.ref t), .val (.ref u), .val (.int 0), .val (.ref tb), .val (.ref ub), .val (.int 0), .val (.int 1), .val (.int 0)]) rfl ?_
  refine g_iload X87 hx (pc' := 46) rfl (hD hby d47_44) rfl ?_
  refine g_aloadN X87 hx (pc' := 47) rfl (hD hby d47_46) rfl rfl ?_
  refine g_callV X87 hx hZ hown (wat hw 77 rfl) (wat hw 78 rfl) (wat hw 80 rfl) (wat hw 79 rfl) (wat hw 4 rfl) (wat hw 81 rfl) (by decide) (a := u) Eu (rm13 l Z a0 hw [] n0 (Ts) u cz h0 hn0 O2 hcz OLD Fcu) pd_0 rfl rfl (pc' := 50) rfl (hD hby d47_47) (argsL := []) (rest := [(.int 0)]) rfl (W := 1) (fun v88 T88 h88 X88 hQ88 => ?_)
  obtain ⟨rfl, he88⟩ := hQ88
  rw [he88] at X88
  show Go p e below s n0 _ _ _ (T88.setTop (mkF m 50 _ [(.int 0), (.int 0)]))
  refine g_icmpN X88 hx (pcN := 53) (hD hby d47_50) rfl (show ¬ (¬ (0 : Int32) = (0 : Int32)) from by decide) ?_
  refine g_iload X88 hx (pc' := 55) rfl (hD hby d47_53) rfl ?_
  refine g_iconst X88 hx (pc' := 56) (z := (1 : Int32)) rfl (hD hby d47_55) rfl ?_
  refine g_icmpY X88 hx (pcY := 63) (hD hby d47_56) (by decide) (by decide) (show ¬ (0 : Int32) = (1 : Int32) from by decide) ?_
  refine g_aloadN X88 hx (pc' := 64) rfl (hD hby d47_63) rfl rfl ?_
  refine g_iloadN X88 hx (pc' := 65) rfl (hD hby d47_64) rfl ?_
  refine g_aload X88 hx (pc' := 67) rfl (hD hby d47_65) rfl rfl ?_
  refine g_iconst X88 hx (pc' := 68) (z := (0 : Int32)) rfl (hD hby d47_67) rfl ?_
  refine g_iload X88 hx (pc' := 70) rfl (hD hby d47_68) rfl ?_
  refine g_callS X88 hx hZ hown (wat hw 251 rfl) (wat hw 252 rfl) (wat hw 253 rfl) (wat hw 254 rfl) (by decide) (rm48_y l Z a0 hw [] n0 (Ts) tb ub y0 y1 h0 hn0 q0 Abt Abu) pd_5 rfl rfl (pc' := 73) rfl (hD hby d47_70) (argsL := [(.ref tb), (.int 0), (.ref ub), (.int 0), (.int 1)]) (rest := []) rfl (W := 0) (fun v89 T89 h89 X89 hQ89 => ?_)
  obtain ⟨rfl, he89⟩ := hQ89
  rw [he89] at X89
  show Go p e below s n0 _ _ _ (T89.setTop (mkF m 73 _ [(.int (-1))]))
  refine g_ifN X89 hx (pcN := 76) (hD hby d47_73) rfl (show ¬ (¬ (-1 : Int32) < 0) from by decide) ?_
  refine g_iconst X89 hx (pc' := 77) (z := (1 : Int32)) rfl (hD hby d47_76) rfl ?_
  refine g_goto X89 hx (pc' := 81) (hD hby d47_77) (by decide) (by decide) ?_
  exact g_retZ X89 hx hlk hret (by first | exact Or.inl rfl | exact Or.inr rfl) (hD hby d47_81) (by decide) (by decide) (Nat.le_refl _) (⟨rfl, rfl⟩)
theorem rm46_y (l : Launch) (Z : State) (a0 : Array Value) (hw : HW a0 Z) (ws : List Jvm.Cond) (n0 : Nat) (Ts : List String) (t tb u ub : Addr) (y0 y1 cz : Int32) (h0 : Heap) (hn0 : n0 ≤ h0.size) (O2 : St0 Z (.int cz)) (hcz : ¬ cz = 0) (OLD : OldP Z n0 h0) (q0 : y0 = (91 : Int32)) (Et : XSt Z h0 t) (Fvt : SV Z h0 t (.ref tb)) (Fct : SC Z h0 t (.int 0)) (Abt : AV Z h0 tb .byte [.int y0, .int y1]) (Eu : XSt Z h0 u) (Fvu : SV Z h0 u (.ref ub)) (Fcu : SC Z h0 u (.int 0)) (Abu : AV Z h0 ub .byte [.int (91 : Int32)]) :
    Con l Z n0 Ts (Ts) (⟨"java/lang/String", "startsWith", "(Ljava/lang/String;)Z"⟩ : MethodName) jdk_42_method_76_code 2 (some .boolean) ws ({ frames := 3, cells := 0, slots := 0, locals := 72 } : Room) #[(.ref t), (.ref u)] h0 (fun v h => v = some (.int 1) ∧ h = h0) := by
  refine con_start (fr0 := fun m => mkF m 0 #[.val (.ref t), .val (.ref u)] []) ?_
  intro p e s m below meth c T0 hx hZ hby hml hown hnm hret hlk hsh XA
  have X0 := XA n0
  have hlow : n0 ≤ s.heap.size := by rw [hsh]; exact hn0
  replace hown : s.vm.findClass "java/lang/String" = some m.cls := hown
  replace hml : c.maxLocals = 2 := hml
  refine g_aloadN X0 hx (pc' := 1) rfl (hD hby d46_0) rfl rfl ?_
  refine g_aloadN X0 hx (pc' := 2) rfl (hD hby d46_1) rfl rfl ?_
  refine g_iconst X0 hx (pc' := 3) (z := (0 : Int32)) rfl (hD hby d46_2) rfl ?_
  refine g_callV X0 hx hZ hown (wat hw 245 rfl) (wat hw 246 rfl) (wat hw 248 rfl) (wat hw 247 rfl) (wat hw 4 rfl) (wat hw 249 rfl) (by decide) (a := t) Et (rm47_y l Z a0 hw [] n0 (Ts) t tb u ub y0 y1 cz h0 hn0 O2 hcz OLD q0 Et Fvt Fct Abt Eu Fvu Fcu Abu) pd_11 rfl rfl (pc' := 6) rfl (hD hby d46_3) (argsL := [(.ref u), (.int 0)]) (rest := []) rfl (W := 0) (fun v90 T90 h90 X90 hQ90 => ?_)
  obtain ⟨rfl, he90⟩ := hQ90
  rw [he90] at X90
  show Go p e below s n0 _ _ _ (T90.setTop (mkF m 6 _ [(.int 1)]))
  exact g_retZ X90 hx hlk hret (by first | exact Or.inl rfl | exact Or.inr rfl) (hD hby d46_6) (by decide) (by decide) (Nat.le_refl _) (⟨rfl, rfl⟩)
theorem rm48_n (l : Launch) (Z : State) (a0 : Array Value) (hw : HW a0 Z) (ws : List Jvm.Cond) (n0 : Nat) (Ts : List String) (tb ub : Addr) (y0 y1 : Int32) (h0 : Heap) (hn0 : n0 ≤ h0.size) (q0 : ¬ y0 = (91 : Int32)) (At : AV Z h0 tb .byte [.int y0, .int y1]) (Au : AV Z h0 ub .byte [.int 91]) :
    Con l Z n0 Ts (Ts) (⟨"jdk/internal/util/ArraysSupport", "mismatch", "([BI[BII)I"⟩ : MethodName) jdk_48_method_14_code 8 (some .int) ws ({ frames := 0, cells := 0, slots := 0, locals := 0 } : Room) #[(.ref tb), (.int 0), (.ref ub), (.int 0), (.int 1)] h0 (fun v h => v = some (.int (0)) ∧ h = h0) := by
  refine con_start (fr0 := fun m => mkF m 0 #[.val (.ref tb), .val (.int 0), .val (.ref ub), .val (.int 0), .val (.int 1), .unset, .unset, .unset] []) ?_
  intro p e s m below meth c T0 hx hZ hby hml hown hnm hret hlk hsh XA
  have X0 := XA n0
  have hlow : n0 ≤ s.heap.size := by rw [hsh]; exact hn0
  replace hown : s.vm.findClass "jdk/internal/util/ArraysSupport" = some m.cls := hown
  replace hml : c.maxLocals = 8 := hml
  refine g_iconst X0 hx (pc' := 1) (z := (0 : Int32)) rfl (hD hby d48_0) rfl ?_
  refine g_istore X0 hx (pc' := 3) rfl (hD hby d48_1) (l' := #[.val (.ref tb), .val (.int 0), .val (.ref ub), .val (.int 0), .val (.int 1), .val (.int 0), .unset, .unset]) rfl ?_
  refine g_iload X0 hx (pc' := 5) rfl (hD hby d48_3) rfl ?_
  refine g_bipush X0 hx (pc' := 7) (z := (7 : Int32)) rfl (hD hby d48_5) rfl ?_
  refine g_icmpY X0 hx (pcY := 70) (hD hby d48_7) (by decide) (by decide) (show ¬ (7 : Int32) < (1 : Int32) from by decide) ?_
  refine g_iload X0 hx (pc' := 72) rfl (hD hby d48_70) rfl ?_
  refine g_iload X0 hx (pc' := 74) rfl (hD hby d48_72) rfl ?_
  refine g_icmpN X0 hx (pcN := 77) (hD hby d48_74) rfl (show ¬ (¬ (0 : Int32) < (1 : Int32)) from by decide) ?_
  refine g_aloadN X0 hx (pc' := 78) rfl (hD hby d48_77) rfl rfl ?_
  refine g_iloadN X0 hx (pc' := 79) rfl (hD hby d48_78) rfl ?_
  refine g_iload X0 hx (pc' := 81) rfl (hD hby d48_79) rfl ?_
  refine g_iadd X0 hx (pc' := 82) rfl (hD hby d48_81) ?_
  refine g_normI (z := (0 : Int32)) (by decide) ?_
  refine g_baload X0 hx hZ At (i := 0) (by decide) (show (0 : Nat) < 2 by decide) (x := y0) rfl (pc' := 83) rfl (hD hby d48_82) ?_
  refine g_aloadN X0 hx (pc' := 84) rfl (hD hby d48_83) rfl rfl ?_
  refine g_iloadN X0 hx (pc' := 85) rfl (hD hby d48_84) rfl ?_
  refine g_iload X0 hx (pc' := 87) rfl (hD hby d48_85) rfl ?_
  refine g_iadd X0 hx (pc' := 88) rfl (hD hby d48_87) ?_
  refine g_normI (z := (0 : Int32)) (by decide) ?_
  refine g_baload X0 hx hZ Au (i := 0) (by decide) (show (0 : Nat) < 1 by decide) (x := (91 : Int32)) rfl (pc' := 89) rfl (hD hby d48_88) ?_
  refine g_icmpN X0 hx (pcN := 92) (hD hby d48_89) rfl (show ¬ (y0 = (91 : Int32)) from q0) ?_
  refine g_iload X0 hx (pc' := 94) rfl (hD hby d48_92) rfl ?_
  exact g_retI X0 hx hlk hret (hD hby d48_94) (by decide) (by decide) (Nat.le_refl _) (⟨rfl, rfl⟩)
theorem rm47_n (l : Launch) (Z : State) (a0 : Array Value) (hw : HW a0 Z) (ws : List Jvm.Cond) (n0 : Nat) (Ts : List String) (t tb u ub : Addr) (y0 y1 cz : Int32) (h0 : Heap) (hn0 : n0 ≤ h0.size) (O2 : St0 Z (.int cz)) (hcz : ¬ cz = 0) (OLD : OldP Z n0 h0) (q0 : ¬ y0 = (91 : Int32)) (Et : XSt Z h0 t) (Fvt : SV Z h0 t (.ref tb)) (Fct : SC Z h0 t (.int 0)) (Abt : AV Z h0 tb .byte [.int y0, .int y1]) (Eu : XSt Z h0 u) (Fvu : SV Z h0 u (.ref ub)) (Fcu : SC Z h0 u (.int 0)) (Abu : AV Z h0 ub .byte [.int (91 : Int32)]) :
    Con l Z n0 Ts (Ts) (⟨"java/lang/String", "startsWith", "(Ljava/lang/String;I)Z"⟩ : MethodName) jdk_42_method_75_code 8 (some .boolean) ws ({ frames := 2, cells := 0, slots := 0, locals := 48 } : Room) #[(.ref t), (.ref u), (.int 0)] h0 (fun v h => v = some (.int 0) ∧ h = h0) := by
  refine con_start (fr0 := fun m => mkF m 0 #[.val (.ref t), .val (.ref u), .val (.int 0), .unset, .unset, .unset, .unset, .unset] []) ?_
  intro p e s m below meth c T0 hx hZ hby hml hown hnm hret hlk hsh XA
  have X0 := XA n0
  have hlow : n0 ≤ s.heap.size := by rw [hsh]; exact hn0
  replace hown : s.vm.findClass "java/lang/String" = some m.cls := hown
  replace hml : c.maxLocals = 8 := hml
  refine g_iloadN X0 hx (pc' := 1) rfl (hD hby d47_0) rfl ?_
  refine g_ifN X0 hx (pcN := 4) (hD hby d47_1) rfl (show ¬ ((0 : Int32) < 0) from by decide) ?_
  refine g_iloadN X0 hx (pc' := 5) rfl (hD hby d47_4) rfl ?_
  refine g_aloadN X0 hx (pc' := 6) rfl (hD hby d47_5) rfl rfl ?_
  refine g_callV X0 hx hZ hown (wat hw 250 rfl) (wat hw 123 rfl) (wat hw 125 rfl) (wat hw 124 rfl) (wat hw 4 rfl) (wat hw 126 rfl) (by decide) (a := t) Et (rm21 l Z a0 hw [] n0 (Ts) t tb _ (2 : Int32) cz h0 hn0 O2 hcz OLD Et Fvt Fct Abt rfl) pd_10 rfl rfl (pc' := 9) rfl (hD hby d47_6) (argsL := []) (rest := [(.int 0)]) rfl (W := 1) (fun v91 T91 h91 X91 hQ91 => ?_)
  obtain ⟨rfl, he91⟩ := hQ91
  rw [he91] at X91
  show Go p e below s n0 _ _ _ (T91.setTop (mkF m 9 _ [(.int 2), (.int 0)]))
  refine g_aloadN X91 hx (pc' := 10) rfl (hD hby d47_9) rfl rfl ?_
  refine g_callV X91 hx hZ hown (wat hw 250 rfl) (wat hw 123 rfl) (wat hw 125 rfl) (wat hw 124 rfl) (wat hw 4 rfl) (wat hw 126 rfl) (by decide) (a := u) Eu (rm21 l Z a0 hw [] n0 (Ts) u ub _ (1 : Int32) cz h0 hn0 O2 hcz OLD Eu Fvu Fcu Abu rfl) pd_10 rfl rfl (pc' := 13) rfl (hD hby d47_10) (argsL := []) (rest := [(.int 2), (.int 0)]) rfl (W := 2) (fun v92 T92 h92 X92 hQ92 => ?_)
  obtain ⟨rfl, he92⟩ := hQ92
  rw [he92] at X92
  show Go p e below s n0 _ _ _ (T92.setTop (mkF m 13 _ [(.int 1), (.int 2), (.int 0)]))
  refine g_isub X92 hx (pc' := 14) rfl (hD hby d47_13) ?_
  refine g_normI (z := (1 : Int32)) (by decide) ?_
  refine g_icmpY X92 hx (pcY := 19) (hD hby d47_14) (by decide) (by decide) (show ¬ (1 : Int32) < (0 : Int32) from by decide) ?_
  refine g_aloadN X92 hx (pc' := 20) rfl (hD hby d47_19) rfl rfl ?_
  refine g_getF X92 hx hZ hown (wat hw 30 rfl) Via.refl Fvt (pc' := 23) rfl (hD hby d47_20) (fun T93 X93 => ?_)
  refine g_astoreN X93 hx (pc' := 24) rfl (hD hby d47_23) rfl (l' := #[.val (.ref t), .val (.ref u), .val (.int 0), .val (.ref tb), .unset, .unset, .unset, .unset]) rfl ?_
  refine g_aloadN X93 hx (pc' := 25) rfl (hD hby d47_24) rfl rfl ?_
  refine g_getF X93 hx hZ hown (wat hw 30 rfl) Via.refl Fvu (pc' := 28) rfl (hD hby d47_25) (fun T94 X94 => ?_)
  refine g_astore X94 hx (pc' := 30) rfl (hD hby d47_28) rfl (l' := #[.val (.ref t), .val (.ref u), .val (.int 0), .val (.ref tb), .val (.ref ub), .unset, .unset, .unset]) rfl ?_
  refine g_iconst X94 hx (pc' := 31) (z := (0 : Int32)) rfl (hD hby d47_30) rfl ?_
  refine g_istore X94 hx (pc' := 33) rfl (hD hby d47_31) (l' := #[.val (.ref t), .val (.ref u), .val (.int 0), .val (.ref tb), .val (.ref ub), .val (.int 0), .unset, .unset]) rfl ?_
  refine g_aload X94 hx (pc' := 35) rfl (hD hby d47_33) rfl rfl ?_
  refine g_alen X94 hx hZ Abu (z := (1 : Int32)) rfl (pc' := 36) rfl (hD hby d47_35) ?_
  refine g_istore X94 hx (pc' := 38) rfl (hD hby d47_36) (l' := #[.val (.ref t), .val (.ref u), .val (.int 0), .val (.ref tb), .val (.ref ub), .val (.int 0), .val (.int 1), .unset]) rfl ?_
  refine g_aloadN X94 hx (pc' := 39) rfl (hD hby d47_38) rfl rfl ?_
  refine g_callV X94 hx hZ hown (wat hw 77 rfl) (wat hw 78 rfl) (wat hw 80 rfl) (wat hw 79 rfl) (wat hw 4 rfl) (wat hw 81 rfl) (by decide) (a := t) Et (rm13 l Z a0 hw [] n0 (Ts) t cz h0 hn0 O2 hcz OLD Fct) pd_0 rfl rfl (pc' := 42) rfl (hD hby d47_39) (argsL := []) (rest := []) rfl (W := 0) (fun v95 T95 h95 X95 hQ95 => ?_)
  obtain ⟨rfl, he95⟩ := hQ95
  rw [he95] at X95
  show Go p e below s n0 _ _ _ (T95.setTop (mkF m 42 _ [(.int 0)]))
  refine g_istore X95 hx (pc' := 44) rfl (hD hby d47_42) (l' := #[.val (.ref t), .val (.ref u), .val (.int 0), .val (.ref tb), .val (.ref ub), .val (.int 0), .val (.int 1), .val (.int 0)]) rfl ?_
  refine g_iload X95 hx (pc' := 46) rfl (hD hby d47_44) rfl ?_
  refine g_aloadN X95 hx (pc' := 47) rfl (hD hby d47_46) rfl rfl ?_
  refine g_callV X95 hx hZ hown (wat hw 77 rfl) (wat hw 78 rfl) (wat hw 80 rfl) (wat hw 79 rfl) (wat hw 4 rfl) (wat hw 81 rfl) (by decide) (a := u) Eu (rm13 l Z a0 hw [] n0 (Ts) u cz h0 hn0 O2 hcz OLD Fcu) pd_0 rfl rfl (pc' := 50) rfl (hD hby d47_47) (argsL := []) (rest := [(.int 0)]) rfl (W := 1) (fun v96 T96 h96 X96 hQ96 => ?_)
  obtain ⟨rfl, he96⟩ := hQ96
  rw [he96] at X96
  show Go p e below s n0 _ _ _ (T96.setTop (mkF m 50 _ [(.int 0), (.int 0)]))
  refine g_icmpN X96 hx (pcN := 53) (hD hby d47_50) rfl (show ¬ (¬ (0 : Int32) = (0 : Int32)) from by decide) ?_
  refine g_iload X96 hx (pc' := 55) rfl (hD hby d47_53) rfl ?_
  refine g_iconst X96 hx (pc' := 56) (z := (1 : Int32)) rfl (hD hby d47_55) rfl ?_
  refine g_icmpY X96 hx (pcY := 63) (hD hby d47_56) (by decide) (by decide) (show ¬ (0 : Int32) = (1 : Int32) from by decide) ?_
  refine g_aloadN X96 hx (pc' := 64) rfl (hD hby d47_63) rfl rfl ?_
  refine g_iloadN X96 hx (pc' := 65) rfl (hD hby d47_64) rfl ?_
  refine g_aload X96 hx (pc' := 67) rfl (hD hby d47_65) rfl rfl ?_
  refine g_iconst X96 hx (pc' := 68) (z := (0 : Int32)) rfl (hD hby d47_67) rfl ?_
  refine g_iload X96 hx (pc' := 70) rfl (hD hby d47_68) rfl ?_
  refine g_callS X96 hx hZ hown (wat hw 251 rfl) (wat hw 252 rfl) (wat hw 253 rfl) (wat hw 254 rfl) (by decide) (rm48_n l Z a0 hw [] n0 (Ts) tb ub y0 y1 h0 hn0 q0 Abt Abu) pd_5 rfl rfl (pc' := 73) rfl (hD hby d47_70) (argsL := [(.ref tb), (.int 0), (.ref ub), (.int 0), (.int 1)]) (rest := []) rfl (W := 0) (fun v97 T97 h97 X97 hQ97 => ?_)
  obtain ⟨rfl, he97⟩ := hQ97
  rw [he97] at X97
  show Go p e below s n0 _ _ _ (T97.setTop (mkF m 73 _ [(.int 0)]))
  refine g_ifY X97 hx (pcY := 80) (hD hby d47_73) (by decide) (by decide) (show ¬ (0 : Int32) < 0 from by decide) ?_
  refine g_iconst X97 hx (pc' := 81) (z := (0 : Int32)) rfl (hD hby d47_80) rfl ?_
  exact g_retZ X97 hx hlk hret (by first | exact Or.inl rfl | exact Or.inr rfl) (hD hby d47_81) (by decide) (by decide) (Nat.le_refl _) (⟨rfl, rfl⟩)
theorem rm46_n (l : Launch) (Z : State) (a0 : Array Value) (hw : HW a0 Z) (ws : List Jvm.Cond) (n0 : Nat) (Ts : List String) (t tb u ub : Addr) (y0 y1 cz : Int32) (h0 : Heap) (hn0 : n0 ≤ h0.size) (O2 : St0 Z (.int cz)) (hcz : ¬ cz = 0) (OLD : OldP Z n0 h0) (q0 : ¬ y0 = (91 : Int32)) (Et : XSt Z h0 t) (Fvt : SV Z h0 t (.ref tb)) (Fct : SC Z h0 t (.int 0)) (Abt : AV Z h0 tb .byte [.int y0, .int y1]) (Eu : XSt Z h0 u) (Fvu : SV Z h0 u (.ref ub)) (Fcu : SC Z h0 u (.int 0)) (Abu : AV Z h0 ub .byte [.int (91 : Int32)]) :
    Con l Z n0 Ts (Ts) (⟨"java/lang/String", "startsWith", "(Ljava/lang/String;)Z"⟩ : MethodName) jdk_42_method_76_code 2 (some .boolean) ws ({ frames := 3, cells := 0, slots := 0, locals := 72 } : Room) #[(.ref t), (.ref u)] h0 (fun v h => v = some (.int 0) ∧ h = h0) := by
  refine con_start (fr0 := fun m => mkF m 0 #[.val (.ref t), .val (.ref u)] []) ?_
  intro p e s m below meth c T0 hx hZ hby hml hown hnm hret hlk hsh XA
  have X0 := XA n0
  have hlow : n0 ≤ s.heap.size := by rw [hsh]; exact hn0
  replace hown : s.vm.findClass "java/lang/String" = some m.cls := hown
  replace hml : c.maxLocals = 2 := hml
  refine g_aloadN X0 hx (pc' := 1) rfl (hD hby d46_0) rfl rfl ?_
  refine g_aloadN X0 hx (pc' := 2) rfl (hD hby d46_1) rfl rfl ?_
  refine g_iconst X0 hx (pc' := 3) (z := (0 : Int32)) rfl (hD hby d46_2) rfl ?_
  refine g_callV X0 hx hZ hown (wat hw 245 rfl) (wat hw 246 rfl) (wat hw 248 rfl) (wat hw 247 rfl) (wat hw 4 rfl) (wat hw 249 rfl) (by decide) (a := t) Et (rm47_n l Z a0 hw [] n0 (Ts) t tb u ub y0 y1 cz h0 hn0 O2 hcz OLD q0 Et Fvt Fct Abt Eu Fvu Fcu Abu) pd_11 rfl rfl (pc' := 6) rfl (hD hby d46_3) (argsL := [(.ref u), (.int 0)]) (rest := []) rfl (W := 0) (fun v98 T98 h98 X98 hQ98 => ?_)
  obtain ⟨rfl, he98⟩ := hQ98
  rw [he98] at X98
  show Go p e below s n0 _ _ _ (T98.setTop (mkF m 6 _ [(.int 0)]))
  exact g_retZ X98 hx hlk hret (by first | exact Or.inl rfl | exact Or.inr rfl) (hD hby d46_6) (by decide) (by decide) (Nat.le_refl _) (⟨rfl, rfl⟩)
theorem rm18 (l : Launch) (Z : State) (a0 : Array Value) (hw : HW a0 Z) (ws : List Jvm.Cond) (n0 : Nat) (Ts : List String) (t : Addr) (cz : Int32) (h0 : Heap) (hn0 : n0 ≤ h0.size) (O2 : St0 Z (.int cz)) (hcz : ¬ cz = 0) (OLD : OldP Z n0 h0) (Et : XSb Z h0 t) (hgt : n0 ≤ t) (F_value : BV Z h0 t .null) (F_coder : BC Z h0 t (.int 0)) (F_count : BN Z h0 t (.int 0)) :
    Con l Z n0 Ts (Ts) (⟨"java/lang/AbstractStringBuilder", "<init>", "(I)V"⟩ : MethodName) jdk_68_method_2_code 2 none ws ({ frames := 1, cells := 1, slots := 16, locals := 16 } : Room) #[(.ref t), (.int 16)] h0 (fun v h => v = none ∧ Keep h0 h [t] ∧ ∃ va, n0 ≤ va ∧ h0.size ≤ va ∧ AV Z h va .byte [.int 0, .int 0, .int 0, .int 0, .int 0, .int 0, .int 0, .int 0, .int 0, .int 0, .int 0, .int 0, .int 0, .int 0, .int 0, .int 0] ∧ BV Z h t (.ref va) ∧ BC Z h t (.int 0) ∧ BN Z h t (.int 0)) := by
  refine con_start (fr0 := fun m => mkF m 0 #[.val (.ref t), .val (.int 16)] []) ?_
  intro p e s m below meth c T0 hx hZ hby hml hown hnm hret hlk hsh XA
  have X0 := XA n0
  have hlow : n0 ≤ s.heap.size := by rw [hsh]; exact hn0
  replace hown : s.vm.findClass "java/lang/AbstractStringBuilder" = some m.cls := hown
  replace hml : c.maxLocals = 2 := hml
  refine g_aloadN X0 hx (pc' := 1) rfl (hD hby d18_0) rfl rfl ?_
  refine g_initO X0 hx hZ hown (wat hw 106 rfl) (wat hw 14 rfl) (wat hw 15 rfl) (by rw [hml]; rfl) (pc' := 4) rfl (hD hby d18_1) (by decide) (W := 0) (Nat.le_of_eq rfl) (by decide) (fun T99 X99 => ?_)
  show Go p e below s n0 _ _ _ (T99.setTop (mkF m 4 _ []))
  refine g_getS X99 hx hZ hown (wat hw 107 rfl) Via.refl (Sta.ext OLD.2 O2) (pc' := 7) rfl (hD hby d18_4) (fun T100 X100 => ?_)
  refine g_ifN X100 hx (pcN := 10) (hD hby d18_7) rfl (show ¬ (cz = 0) from hcz) ?_
  refine g_aloadN X100 hx (pc' := 11) rfl (hD hby d18_10) rfl rfl ?_
  refine g_iloadN X100 hx (pc' := 12) rfl (hD hby d18_11) rfl ?_
  refine g_newA X100 hx hZ (aty := .byte) (wat hw 21 rfl) (N := 16) (by decide) (cap := 16) (Nat.le_refl _) (by decide) (pc' := 14) rfl (hD hby d18_12) (by decide) (by decide) (fun T101 h101 a101 ha101 X101 E101 N101 => ?_)
  have ne101_t : t ≠ a101 := by rw [ha101]; exact Nat.ne_of_lt Et.lt
  have f102 := Et.ext E101
  have f103 := F_value.ext E101
  have f104 := F_coder.ext E101
  have f105 := F_count.ext E101
  have sz101 : h0.size ≤ a101 := by rw [ha101]; exact (Keep.refl h0 [t]).1
  have f106 := (Keep.refl h0 [t]).ext E101
  have G_a101 : n0 ≤ a101 := by rw [ha101]; exact hn0
  have Zs101 : n0 ≤ h101.size := Nat.le_trans hn0 E101.1
  have f107 := OLD.ext E101
  have V101 : AV Z h101 a101 .byte [.int 0, .int 0, .int 0, .int 0, .int 0, .int 0, .int 0, .int 0, .int 0, .int 0, .int 0, .int 0, .int 0, .int 0, .int 0, .int 0] := N101
  refine g_putF X101 hx hZ hown (wat hw 108 rfl) Via.refl f103 f102 (Or.inl (wat hw 109 rfl)) (wat hw 95 rfl) (ty := (.array .byte)) (by decide) rfl rfl hgt (pc' := 17) rfl (hD hby d18_14) (fun T108 h108 X108 W108 => ?_)
  have f109 := (by have q := (Keep.of_wr W108).1; exact Nat.le_trans Zs101 q : n0 ≤ h108.size)
  have f110 := f106.wr W108 (Or.inl (List.mem_of_getElem? (i := 0) rfl))
  have f111 := f107.wr W108 hgt
  have f112 := f102.wr W108
  have f113 := f103.same W108
  have f114 := f104.other W108 (Or.inr (slot_ne (Or.inl (wat hw 111 rfl)) (Or.inl (wat hw 109 rfl)) (by decide) (t := .byte) (t' := (.array .byte)) (by decide) (by decide)))
  have f115 := f105.other W108 (Or.inr (slot_ne (Or.inl (wat hw 128 rfl)) (Or.inl (wat hw 109 rfl)) (by decide) (t := .int) (t' := (.array .byte)) (by decide) (by decide)))
  have f116 := V101.other W108 ne101_t.symm
  refine g_aloadN X108 hx (pc' := 18) rfl (hD hby d18_17) rfl rfl ?_
  refine g_iconst X108 hx (pc' := 19) (z := (0 : Int32)) rfl (hD hby d18_18) rfl ?_
  refine g_putF X108 hx hZ hown (wat hw 110 rfl) Via.refl f114 f112 (Or.inl (wat hw 111 rfl)) (wat hw 95 rfl) (ty := .byte) (by decide) rfl rfl hgt (pc' := 22) rfl (hD hby d18_19) (fun T117 h117 X117 W117 => ?_)
  have f118 := (by have q := (Keep.of_wr W117).1; exact Nat.le_trans f109 q : n0 ≤ h117.size)
  have f119 := f110.wr W117 (Or.inl (List.mem_of_getElem? (i := 0) rfl))
  have f120 := f111.wr W117 hgt
  have f121 := f112.wr W117
  have f122 := f113.other W117 (Or.inr (slot_ne (Or.inl (wat hw 109 rfl)) (Or.inl (wat hw 111 rfl)) (by decide) (t := (.array .byte)) (t' := .byte) (by decide) (by decide)))
  have f123 := f114.same W117
  have f124 := f115.other W117 (Or.inr (slot_ne (Or.inl (wat hw 128 rfl)) (Or.inl (wat hw 111 rfl)) (by decide) (t := .int) (t' := .byte) (by decide) (by decide)))
  have f125 := f116.other W117 ne101_t.symm
  refine g_goto X117 hx (pc' := 38) (hD hby d18_22) (by decide) (by decide) ?_
  exact g_retV X117 hx hlk hret (hD hby d18_38) (by decide) (by decide) (Nat.le_refl _) (⟨rfl, f119, a101, G_a101, sz101, f125, f122, f123, f124⟩)
theorem rm17 (l : Launch) (Z : State) (a0 : Array Value) (hw : HW a0 Z) (ws : List Jvm.Cond) (n0 : Nat) (Ts : List String) (t : Addr) (cz : Int32) (h0 : Heap) (hn0 : n0 ≤ h0.size) (O2 : St0 Z (.int cz)) (hcz : ¬ cz = 0) (OLD : OldP Z n0 h0) (Et : XSb Z h0 t) (hgt : n0 ≤ t) (F_value : BV Z h0 t .null) (F_coder : BC Z h0 t (.int 0)) (F_count : BN Z h0 t (.int 0)) :
    Con l Z n0 Ts (Ts) (⟨"java/lang/StringBuilder", "<init>", "()V"⟩ : MethodName) jdk_67_method_1_code 1 none ws ({ frames := 2, cells := 1, slots := 16, locals := 32 } : Room) #[(.ref t)] h0 (fun v h => v = none ∧ Keep h0 h [t] ∧ ∃ va, n0 ≤ va ∧ h0.size ≤ va ∧ AV Z h va .byte [.int 0, .int 0, .int 0, .int 0, .int 0, .int 0, .int 0, .int 0, .int 0, .int 0, .int 0, .int 0, .int 0, .int 0, .int 0, .int 0] ∧ BV Z h t (.ref va) ∧ BC Z h t (.int 0) ∧ BN Z h t (.int 0)) := by
  refine con_start (fr0 := fun m => mkF m 0 #[.val (.ref t)] []) ?_
  intro p e s m below meth c T0 hx hZ hby hml hown hnm hret hlk hsh XA
  have X0 := XA n0
  have hlow : n0 ≤ s.heap.size := by rw [hsh]; exact hn0
  replace hown : s.vm.findClass "java/lang/StringBuilder" = some m.cls := hown
  replace hml : c.maxLocals = 1 := hml
  refine g_aloadN X0 hx (pc' := 1) rfl (hD hby d17_0) rfl rfl ?_
  refine g_bipush X0 hx (pc' := 3) (z := (16 : Int32)) rfl (hD hby d17_1) rfl ?_
  refine g_callI X0 hx hZ hown rfl (wat hw 100 rfl) (wat hw 101 rfl) (wat hw 104 rfl) (wat hw 105 rfl) (by decide) (a := t) (rm18 l Z a0 hw [] n0 (Ts) t cz h0 hn0 O2 hcz OLD Et hgt F_value F_coder F_count) pd_12 rfl rfl (pc' := 6) rfl (hD hby d17_3) (argsL := [(.int 16)]) (rest := []) rfl (W := 0) (fun v126 T126 h126 X126 hQ126 => ?_)
  obtain ⟨rfl, K126, va126, Gva126, S126, V126, FV126, FC126, FN126⟩ := hQ126
  have neva126_t : t ≠ va126 := Nat.ne_of_lt (Nat.lt_of_lt_of_le Et.lt S126)
  have szva126 : h0.size ≤ va126 := Nat.le_trans (Keep.refl h0 [t]).1 S126
  have f127 := (Keep.refl h0 [t]).trans K126 (allS (Or.inl (List.mem_of_getElem? (i := 0) rfl)) all0)
  have f128 := OLD.keep K126 (allS hgt all0)
  have f129 := Et.keep K126
  have zs126 : n0 ≤ h126.size := Nat.le_trans hn0 K126.1
  show Go p e below s n0 _ _ _ (T126.setTop (mkF m 6 _ []))
  exact g_retV X126 hx hlk hret (hD hby d17_6) (by decide) (by decide) (Nat.le_refl _) (⟨rfl, f127, va126, Gva126, szva126, V126, FV126, FC126, FN126⟩)
theorem ar_sub16 {m : Int32} (h0 : 0 ≤ m.toInt) (h1 : m.toInt ≤ 16) : ¬ (0 : Int32) < m - 16 := by
  have e : (16 : Int32).toInt = 16 := rfl
  have z : (0 : Int32).toInt = 0 := rfl
  rw [Int32.lt_iff_toInt_lt, ar_sub (by omega) (by omega)]; omega
theorem rm22 (l : Launch) (Z : State) (a0 : Array Value) (hw : HW a0 Z) (ws : List Jvm.Cond) (n0 : Nat) (Ts : List String) (b va : Addr) (vs : List Value) (m' : Int32) (h0 : Heap) (hn0 : n0 ≤ h0.size) (Fbv : BV Z h0 b (.ref va)) (Fbc : BC Z h0 b (.int 0)) (Av : AV Z h0 va .byte vs) (hv : vs.length = 16) (hm0 : 0 ≤ m'.toInt) (hm1 : m'.toInt ≤ 16) :
    Con l Z n0 Ts (Ts) (⟨"java/lang/AbstractStringBuilder", "ensureCapacityInternal", "(I)V"⟩ : MethodName) jdk_68_method_9_code 3 none ws ({ frames := 0, cells := 0, slots := 0, locals := 0 } : Room) #[(.ref b), (.int m')] h0 (fun v h => v = none ∧ h = h0) := by
  refine con_start (fr0 := fun m => mkF m 0 #[.val (.ref b), .val (.int m'), .unset] []) ?_
  intro p e s m below meth c T0 hx hZ hby hml hown hnm hret hlk hsh XA
  have X0 := XA n0
  have hlow : n0 ≤ s.heap.size := by rw [hsh]; exact hn0
  replace hown : s.vm.findClass "java/lang/AbstractStringBuilder" = some m.cls := hown
  replace hml : c.maxLocals = 3 := hml
  refine g_aloadN X0 hx (pc' := 1) rfl (hD hby d22_0) rfl rfl ?_
  refine g_getF X0 hx hZ hown (wat hw 108 rfl) Via.refl Fbv (pc' := 4) rfl (hD hby d22_1) (fun T130 X130 => ?_)
  refine g_alen X130 hx hZ Av (z := (16 : Int32)) (by rw [hv]; rfl) (pc' := 5) rfl (hD hby d22_4) ?_
  refine g_aloadN X130 hx (pc' := 6) rfl (hD hby d22_5) rfl rfl ?_
  refine g_getF X130 hx hZ hown (wat hw 110 rfl) Via.refl Fbc (pc' := 9) rfl (hD hby d22_6) (fun T131 X131 => ?_)
  refine g_ishr X131 hx (pc' := 10) rfl (hD hby d22_9) ?_
  refine g_normI (z := (16 : Int32)) (by decide) ?_
  refine g_istoreN X131 hx (pc' := 11) rfl (hD hby d22_10) (l' := #[.val (.ref b), .val (.int m'), .val (.int 16)]) rfl ?_
  refine g_iloadN X131 hx (pc' := 12) rfl (hD hby d22_11) rfl ?_
  refine g_iloadN X131 hx (pc' := 13) rfl (hD hby d22_12) rfl ?_
  refine g_isub X131 hx (pc' := 14) rfl (hD hby d22_13) ?_
  refine g_ifY X131 hx (pcY := 38) (hD hby d22_14) (by decide) (by decide) (show ¬ 0 < (m' - (16 : Int32)) from ar_sub16 hm0 hm1) ?_
  exact g_retV X131 hx hlk hret (hD hby d22_38) (by decide) (by decide) (Nat.le_refl _) (⟨rfl, rfl⟩)
theorem rm24 (l : Launch) (Z : State) (a0 : Array Value) (hw : HW a0 Z) (ws : List Jvm.Cond) (n0 : Nat) (Ts : List String) (b t : Addr) (cz : Int32) (h0 : Heap) (hn0 : n0 ≤ h0.size) (O2 : St0 Z (.int cz)) (hcz : ¬ cz = 0) (OLD : OldP Z n0 h0) (Et : XSt Z h0 t) (Fc : SC Z h0 t (.int 0)) (Fbc : BC Z h0 b (.int 0)) :
    Con l Z n0 Ts (Ts) (⟨"java/lang/AbstractStringBuilder", "inflateIfNeededFor", "(Ljava/lang/String;)V"⟩ : MethodName) jdk_68_method_71_code 2 none ws ({ frames := 1, cells := 0, slots := 0, locals := 16 } : Room) #[(.ref b), (.ref t)] h0 (fun v h => v = none ∧ h = h0) := by
  refine con_start (fr0 := fun m => mkF m 0 #[.val (.ref b), .val (.ref t)] []) ?_
  intro p e s m below meth c T0 hx hZ hby hml hown hnm hret hlk hsh XA
  have X0 := XA n0
  have hlow : n0 ≤ s.heap.size := by rw [hsh]; exact hn0
  replace hown : s.vm.findClass "java/lang/AbstractStringBuilder" = some m.cls := hown
  replace hml : c.maxLocals = 2 := hml
  refine g_getS X0 hx hZ hown (wat hw 107 rfl) Via.refl (Sta.ext OLD.2 O2) (pc' := 3) rfl (hD hby d24_0) (fun T132 X132 => ?_)
  refine g_ifN X132 hx (pcN := 6) (hD hby d24_3) rfl (show ¬ (cz = 0) from hcz) ?_
  refine g_aloadN X132 hx (pc' := 7) rfl (hD hby d24_6) rfl rfl ?_
  refine g_getF X132 hx hZ hown (wat hw 110 rfl) Via.refl Fbc (pc' := 10) rfl (hD hby d24_7) (fun T133 X133 => ?_)
  refine g_aloadN X133 hx (pc' := 11) rfl (hD hby d24_10) rfl rfl ?_
  refine g_callV X133 hx hZ hown (wat hw 144 rfl) (wat hw 78 rfl) (wat hw 80 rfl) (wat hw 79 rfl) (wat hw 4 rfl) (wat hw 81 rfl) (by decide) (a := t) Et (rm13 l Z a0 hw [] n0 (Ts) t cz h0 hn0 O2 hcz OLD Fc) pd_0 rfl rfl (pc' := 14) rfl (hD hby d24_11) (argsL := []) (rest := [(.int 0)]) rfl (W := 1) (fun v134 T134 h134 X134 hQ134 => ?_)
  obtain ⟨rfl, he134⟩ := hQ134
  rw [he134] at X134
  show Go p e below s n0 _ _ _ (T134.setTop (mkF m 14 _ [(.int 0), (.int 0)]))
  refine g_icmpY X134 hx (pcY := 21) (hD hby d24_14) (by decide) (by decide) (show (0 : Int32) = (0 : Int32) from by decide) ?_
  exact g_retV X134 hx hlk hret (hD hby d24_21) (by decide) (by decide) (Nat.le_refl _) (⟨rfl, rfl⟩)
theorem rm25 (l : Launch) (Z : State) (a0 : Array Value) (hw : HW a0 Z) (ws : List Jvm.Cond) (n0 : Nat) (Ts : List String) (va t tb : Addr) (vs xs : List Value) (c' : Nat) (cc n' : Int32) (cz : Int32) (h0 : Heap) (hn0 : n0 ≤ h0.size) (O2 : St0 Z (.int cz)) (hcz : ¬ cz = 0) (OLD : OldP Z n0 h0) (Et : XSt Z h0 t) (Fvt : SV Z h0 t (.ref tb)) (Fct : SC Z h0 t (.int 0)) (Abt : AV Z h0 tb .byte xs) (Av : AV Z h0 va .byte vs) (hgv : n0 ≤ va) (hne : tb ≠ va) (hc : cc.toInt = (c' : Int)) (hl : n'.toInt = (xs.length : Int)) (hb : c' + xs.length ≤ 16) (hv : vs.length = 16) :
    Con l Z n0 Ts (Ts) (⟨"java/lang/String", "getBytes", "([BIB)V"⟩ : MethodName) jdk_42_method_147_code 4 none ws ({ frames := 1, cells := 0, slots := 0, locals := 32 } : Room) #[(.ref t), (.ref va), (.int cc), (.int 0)] h0 (fun v h => v = none ∧ Keep h0 h [va] ∧ AV Z h va .byte (vs.take c' ++ xs ++ vs.drop (c' + xs.length))) := by
  refine con_start (fr0 := fun m => mkF m 0 #[.val (.ref t), .val (.ref va), .val (.int cc), .val (.int 0)] []) ?_
  intro p e s m below meth c T0 hx hZ hby hml hown hnm hret hlk hsh XA
  have X0 := XA n0
  have hlow : n0 ≤ s.heap.size := by rw [hsh]; exact hn0
  replace hown : s.vm.findClass "java/lang/String" = some m.cls := hown
  replace hml : c.maxLocals = 4 := hml
  have nA135 : t ≠ va := own_neA Et (wat hw 3 rfl) Av
  refine g_aloadN X0 hx (pc' := 1) rfl (hD hby d25_0) rfl rfl ?_
  refine g_callV X0 hx hZ hown (wat hw 77 rfl) (wat hw 78 rfl) (wat hw 80 rfl) (wat hw 79 rfl) (wat hw 4 rfl) (wat hw 81 rfl) (by decide) (a := t) Et (rm13 l Z a0 hw [] n0 (Ts) t cz h0 hn0 O2 hcz OLD Fct) pd_0 rfl rfl (pc' := 4) rfl (hD hby d25_1) (argsL := []) (rest := []) rfl (W := 0) (fun v136 T136 h136 X136 hQ136 => ?_)
  obtain ⟨rfl, he136⟩ := hQ136
  rw [he136] at X136
  show Go p e below s n0 _ _ _ (T136.setTop (mkF m 4 _ [(.int 0)]))
  refine g_iloadN X136 hx (pc' := 5) rfl (hD hby d25_4) rfl ?_
  refine g_icmpN X136 hx (pcN := 8) (hD hby d25_5) rfl (show ¬ (¬ (0 : Int32) = (0 : Int32)) from by decide) ?_
  refine g_aloadN X136 hx (pc' := 9) rfl (hD hby d25_8) rfl rfl ?_
  refine g_getF X136 hx hZ hown (wat hw 30 rfl) Via.refl Fvt (pc' := 12) rfl (hD hby d25_9) (fun T137 X137 => ?_)
  refine g_iconst X137 hx (pc' := 13) (z := (0 : Int32)) rfl (hD hby d25_12) rfl ?_
  refine g_aloadN X137 hx (pc' := 14) rfl (hD hby d25_13) rfl rfl ?_
  refine g_iloadN X137 hx (pc' := 15) rfl (hD hby d25_14) rfl ?_
  refine g_iloadN X137 hx (pc' := 16) rfl (hD hby d25_15) rfl ?_
  refine g_ishl X137 hx (pc' := 17) rfl (hD hby d25_16) ?_
  refine g_normI (z := cc) (ar_shl0 _) ?_
  refine g_aloadN X137 hx (pc' := 18) rfl (hD hby d25_17) rfl rfl ?_
  refine g_getF X137 hx hZ hown (wat hw 30 rfl) Via.refl Fvt (pc' := 21) rfl (hD hby d25_18) (fun T138 X138 => ?_)
  refine g_alen X138 hx hZ Abt (z := n') hl (pc' := 22) rfl (hD hby d25_21) ?_
  refine g_copyP X138 hx hZ hown (wat hw 150 rfl) (wat hw 153 rfl) (wat hw 151 rfl) (wat hw 152 rfl) Abt Av rfl (i := 0) (j := c') (n := xs.length) rfl hc hl (by omega) (by omega) hgv (by rw [hml]; rfl) (pc' := 25) rfl (hD hby d25_22) (by decide) (W := 0) (Nat.le_of_eq rfl) (by decide +kernel) (fun T139 h139 X139 K139 N139 => ?_)
  have f140 := (Keep.refl h0 [va]).trans K139 (allS (Or.inl (List.mem_of_getElem? (i := 0) rfl)) all0)
  have f141 := OLD.keep K139 (allS hgv all0)
  have f142 := Et.keep K139
  have f143 := Fvt.keep K139 (ninS nA135 nin0)
  have f144 := Fct.keep K139 (ninS nA135 nin0)
  have f145 := Abt.keep K139 (ninS hne nin0)
  have zs139 : n0 ≤ h139.size := Nat.le_trans hn0 K139.1
  have V139 : AV Z h139 va .byte (vs.take c' ++ xs ++ vs.drop (c' + xs.length)) := (by simpa using N139)
  show Go p e below s n0 _ _ _ (T139.setTop (mkF m 25 _ []))
  refine g_goto X139 hx (pc' := 43) (hD hby d25_25) (by decide) (by decide) ?_
  exact g_retV X139 hx hlk hret (hD hby d25_43) (by decide) (by decide) (Nat.le_refl _) (⟨rfl, f140, V139⟩)
theorem rm23 (l : Launch) (Z : State) (a0 : Array Value) (hw : HW a0 Z) (ws : List Jvm.Cond) (n0 : Nat) (Ts : List String) (b va t tb : Addr) (vs xs : List Value) (c' : Nat) (cc n' : Int32) (cz : Int32) (h0 : Heap) (hn0 : n0 ≤ h0.size) (O2 : St0 Z (.int cz)) (hcz : ¬ cz = 0) (OLD : OldP Z n0 h0) (Eb : XSb Z h0 b) (hgb : n0 ≤ b) (Fbv : BV Z h0 b (.ref va)) (Fbc : BC Z h0 b (.int 0)) (Fbn : BN Z h0 b (.int cc)) (Av : AV Z h0 va .byte vs) (hgv : n0 ≤ va) (Et : XSt Z h0 t) (Fvt : SV Z h0 t (.ref tb)) (Fct : SC Z h0 t (.int 0)) (Abt : AV Z h0 tb .byte xs) (hne : tb ≠ va) (hc : cc.toInt = (c' : Int)) (hl : n'.toInt = (xs.length : Int)) (hb : c' + xs.length ≤ 16) (hv : vs.length = 16) :
    Con l Z n0 Ts (Ts) (⟨"java/lang/AbstractStringBuilder", "putStringAt", "(ILjava/lang/String;)V"⟩ : MethodName) jdk_68_method_73_code 3 none ws ({ frames := 2, cells := 0, slots := 0, locals := 56 } : Room) #[(.ref b), (.int cc), (.ref t)] h0 (fun v h => v = none ∧ Keep h0 h [va] ∧ AV Z h va .byte (vs.take c' ++ xs ++ vs.drop (c' + xs.length))) := by
  refine con_start (fr0 := fun m => mkF m 0 #[.val (.ref b), .val (.int cc), .val (.ref t)] []) ?_
  intro p e s m below meth c T0 hx hZ hby hml hown hnm hret hlk hsh XA
  have X0 := XA n0
  have hlow : n0 ≤ s.heap.size := by rw [hsh]; exact hn0
  replace hown : s.vm.findClass "java/lang/AbstractStringBuilder" = some m.cls := hown
  replace hml : c.maxLocals = 3 := hml
  have nA146 : b ≠ va := own_neA Eb (wat hw 95 rfl) Av
  have nA147 : t ≠ va := own_neA Et (wat hw 3 rfl) Av
  have n_b_t : b ≠ t := Exa.ne Eb Et (by decide)
  have nA148 : b ≠ tb := own_neA Eb (wat hw 95 rfl) Abt
  refine g_aloadN X0 hx (pc' := 1) rfl (hD hby d23_0) rfl rfl ?_
  refine g_aloadN X0 hx (pc' := 2) rfl (hD hby d23_1) rfl rfl ?_
  refine g_callPS X0 hx hZ hown (wat hw 139 rfl) (wat hw 140 rfl) (wat hw 142 rfl) (wat hw 141 rfl) (wat hw 104 rfl) (wat hw 143 rfl) (by decide) (a := b) Eb (rm24 l Z a0 hw [] n0 (Ts) b t cz h0 hn0 O2 hcz OLD Et Fct Fbc) pd_13 rfl rfl (pc' := 5) rfl (hD hby d23_2) (argsL := [(.ref t)]) (rest := []) rfl (W := 0) (fun v149 T149 h149 X149 hQ149 => ?_)
  obtain ⟨rfl, he149⟩ := hQ149
  rw [he149] at X149
  show Go p e below s n0 _ _ _ (T149.setTop (mkF m 5 _ []))
  refine g_aloadN X149 hx (pc' := 6) rfl (hD hby d23_5) rfl rfl ?_
  refine g_aloadN X149 hx (pc' := 7) rfl (hD hby d23_6) rfl rfl ?_
  refine g_getF X149 hx hZ hown (wat hw 108 rfl) Via.refl Fbv (pc' := 10) rfl (hD hby d23_7) (fun T150 X150 => ?_)
  refine g_iloadN X150 hx (pc' := 11) rfl (hD hby d23_10) rfl ?_
  refine g_aloadN X150 hx (pc' := 12) rfl (hD hby d23_11) rfl rfl ?_
  refine g_getF X150 hx hZ hown (wat hw 110 rfl) Via.refl Fbc (pc' := 15) rfl (hD hby d23_12) (fun T151 X151 => ?_)
  refine g_callV X151 hx hZ hown (wat hw 145 rfl) (wat hw 146 rfl) (wat hw 148 rfl) (wat hw 147 rfl) (wat hw 4 rfl) (wat hw 149 rfl) (by decide) (a := t) Et (rm25 l Z a0 hw [] n0 (Ts) va t tb vs xs c' cc n' cz h0 hn0 O2 hcz OLD Et Fvt Fct Abt Av hgv hne hc hl hb hv) pd_14 rfl rfl (pc' := 18) rfl (hD hby d23_15) (argsL := [(.ref va), (.int cc), (.int 0)]) (rest := []) rfl (W := 0) (fun v152 T152 h152 X152 hQ152 => ?_)
  obtain ⟨rfl, K152, V152⟩ := hQ152
  have f153 := (Keep.refl h0 [va]).trans K152 (allS (Or.inl (List.mem_of_getElem? (i := 0) rfl)) all0)
  have f154 := OLD.keep K152 (allS hgv all0)
  have f155 := Eb.keep K152
  have f156 := Fbv.keep K152 (ninS nA146 nin0)
  have f157 := Fbc.keep K152 (ninS nA146 nin0)
  have f158 := Fbn.keep K152 (ninS nA146 nin0)
  have f159 := Et.keep K152
  have f160 := Fvt.keep K152 (ninS nA147 nin0)
  have f161 := Fct.keep K152 (ninS nA147 nin0)
  have f162 := Abt.keep K152 (ninS hne nin0)
  have zs152 : n0 ≤ h152.size := Nat.le_trans hn0 K152.1
  show Go p e below s n0 _ _ _ (T152.setTop (mkF m 18 _ []))
  exact g_retV X152 hx hlk hret (hD hby d23_18) (by decide) (by decide) (Nat.le_refl _) (⟨rfl, f153, V152⟩)
theorem rm20 (l : Launch) (Z : State) (a0 : Array Value) (hw : HW a0 Z) (ws : List Jvm.Cond) (n0 : Nat) (Ts : List String) (b va t tb : Addr) (vs xs : List Value) (c' : Nat) (cc n' : Int32) (m' cz : Int32) (h0 : Heap) (hn0 : n0 ≤ h0.size) (O2 : St0 Z (.int cz)) (hcz : ¬ cz = 0) (OLD : OldP Z n0 h0) (Eb : XSb Z h0 b) (hgb : n0 ≤ b) (Fbv : BV Z h0 b (.ref va)) (Fbc : BC Z h0 b (.int 0)) (Fbn : BN Z h0 b (.int cc)) (Av : AV Z h0 va .byte vs) (hgv : n0 ≤ va) (Et : XSt Z h0 t) (Fvt : SV Z h0 t (.ref tb)) (Fct : SC Z h0 t (.int 0)) (Abt : AV Z h0 tb .byte xs) (hne : tb ≠ va) (hc : cc.toInt = (c' : Int)) (hl : n'.toInt = (xs.length : Int)) (hb : c' + xs.length ≤ 16) (hv : vs.length = 16) (hm : cc + n' = m') (hM : m'.toInt = ((c' + xs.length : Nat) : Int)) :
    Con l Z n0 Ts (Ts) (⟨"java/lang/AbstractStringBuilder", "append", "(Ljava/lang/String;)Ljava/lang/AbstractStringBuilder;"⟩ : MethodName) jdk_68_method_22_code 3 (some (.object "java/lang/AbstractStringBuilder")) ws ({ frames := 3, cells := 0, slots := 0, locals := 80 } : Room) #[(.ref b), (.ref t)] h0 (fun v h => v = some (.ref b) ∧ Keep h0 h [b, va] ∧ AV Z h va .byte (vs.take c' ++ xs ++ vs.drop (c' + xs.length)) ∧ BV Z h b (.ref va) ∧ BC Z h b (.int 0) ∧ BN Z h b (.int m')) := by
  refine con_start (fr0 := fun m => mkF m 0 #[.val (.ref b), .val (.ref t), .unset] []) ?_
  intro p e s m below meth c T0 hx hZ hby hml hown hnm hret hlk hsh XA
  have X0 := XA n0
  have hlow : n0 ≤ s.heap.size := by rw [hsh]; exact hn0
  replace hown : s.vm.findClass "java/lang/AbstractStringBuilder" = some m.cls := hown
  replace hml : c.maxLocals = 3 := hml
  have nA163 : b ≠ va := own_neA Eb (wat hw 95 rfl) Av
  have nA164 : t ≠ va := own_neA Et (wat hw 3 rfl) Av
  have n_b_t : b ≠ t := Exa.ne Eb Et (by decide)
  have nA165 : b ≠ tb := own_neA Eb (wat hw 95 rfl) Abt
  refine g_aloadN X0 hx (pc' := 1) rfl (hD hby d20_0) rfl rfl ?_
  refine g_ifnonnullY X0 hx (pcY := 9) (hD hby d20_1) (by decide) (by decide) ?_
  refine g_aloadN X0 hx (pc' := 10) rfl (hD hby d20_9) rfl rfl ?_
  refine g_callV X0 hx hZ hown (wat hw 122 rfl) (wat hw 123 rfl) (wat hw 125 rfl) (wat hw 124 rfl) (wat hw 4 rfl) (wat hw 126 rfl) (by decide) (a := t) Et (rm21 l Z a0 hw [] n0 (Ts) t tb _ n' cz h0 hn0 O2 hcz OLD Et Fvt Fct Abt hl) pd_10 rfl rfl (pc' := 13) rfl (hD hby d20_10) (argsL := []) (rest := []) rfl (W := 0) (fun v166 T166 h166 X166 hQ166 => ?_)
  obtain ⟨rfl, he166⟩ := hQ166
  rw [he166] at X166
  show Go p e below s n0 _ _ _ (T166.setTop (mkF m 13 _ [(.int n')]))
  refine g_istoreN X166 hx (pc' := 14) rfl (hD hby d20_13) (l' := #[.val (.ref b), .val (.ref t), .val (.int n')]) rfl ?_
  refine g_aloadN X166 hx (pc' := 15) rfl (hD hby d20_14) rfl rfl ?_
  refine g_aloadN X166 hx (pc' := 16) rfl (hD hby d20_15) rfl rfl ?_
  refine g_getF X166 hx hZ hown (wat hw 127 rfl) Via.refl Fbn (pc' := 19) rfl (hD hby d20_16) (fun T167 X167 => ?_)
  refine g_iloadN X167 hx (pc' := 20) rfl (hD hby d20_19) rfl ?_
  refine g_iadd X167 hx (pc' := 21) rfl (hD hby d20_20) ?_
  refine g_normI (z := m') hm ?_
  refine g_callPS X167 hx hZ hown (wat hw 129 rfl) (wat hw 130 rfl) (wat hw 132 rfl) (wat hw 131 rfl) (wat hw 104 rfl) (wat hw 133 rfl) (by decide) (a := b) Eb (rm22 l Z a0 hw [] n0 (Ts) b va _ m' h0 hn0 Fbv Fbc Av hv (by omega) (by omega)) pd_12 rfl rfl (pc' := 24) rfl (hD hby d20_21) (argsL := [(.int m')]) (rest := []) rfl (W := 0) (fun v168 T168 h168 X168 hQ168 => ?_)
  obtain ⟨rfl, he168⟩ := hQ168
  rw [he168] at X168
  show Go p e below s n0 _ _ _ (T168.setTop (mkF m 24 _ []))
  refine g_aloadN X168 hx (pc' := 25) rfl (hD hby d20_24) rfl rfl ?_
  refine g_aloadN X168 hx (pc' := 26) rfl (hD hby d20_25) rfl rfl ?_
  refine g_getF X168 hx hZ hown (wat hw 127 rfl) Via.refl Fbn (pc' := 29) rfl (hD hby d20_26) (fun T169 X169 => ?_)
  refine g_aloadN X169 hx (pc' := 30) rfl (hD hby d20_29) rfl rfl ?_
  refine g_callPS X169 hx hZ hown (wat hw 134 rfl) (wat hw 135 rfl) (wat hw 137 rfl) (wat hw 136 rfl) (wat hw 104 rfl) (wat hw 138 rfl) (by decide) (a := b) Eb (rm23 l Z a0 hw [] n0 (Ts) b va t tb vs xs c' cc n' cz h0 hn0 O2 hcz OLD Eb hgb Fbv Fbc Fbn Av hgv Et Fvt Fct Abt hne hc hl hb hv) pd_15 rfl rfl (pc' := 33) rfl (hD hby d20_30) (argsL := [(.int cc), (.ref t)]) (rest := []) rfl (W := 0) (fun v170 T170 h170 X170 hQ170 => ?_)
  obtain ⟨rfl, K170, V170⟩ := hQ170
  have f171 := (Keep.refl h0 [b, va]).trans K170 (allS (Or.inl (List.mem_of_getElem? (i := 1) rfl)) all0)
  have f172 := OLD.keep K170 (allS hgv all0)
  have f173 := Eb.keep K170
  have f174 := Fbv.keep K170 (ninS nA163 nin0)
  have f175 := Fbc.keep K170 (ninS nA163 nin0)
  have f176 := Fbn.keep K170 (ninS nA163 nin0)
  have f177 := Et.keep K170
  have f178 := Fvt.keep K170 (ninS nA164 nin0)
  have f179 := Fct.keep K170 (ninS nA164 nin0)
  have f180 := Abt.keep K170 (ninS hne nin0)
  have zs170 : n0 ≤ h170.size := Nat.le_trans hn0 K170.1
  show Go p e below s n0 _ _ _ (T170.setTop (mkF m 33 _ []))
  refine g_aloadN X170 hx (pc' := 34) rfl (hD hby d20_33) rfl rfl ?_
  refine g_dup X170 hx (pc' := 35) rfl (hD hby d20_34) rfl ?_
  refine g_getF X170 hx hZ hown (wat hw 127 rfl) Via.refl f176 (pc' := 38) rfl (hD hby d20_35) (fun T181 X181 => ?_)
  refine g_iloadN X181 hx (pc' := 39) rfl (hD hby d20_38) rfl ?_
  refine g_iadd X181 hx (pc' := 40) rfl (hD hby d20_39) ?_
  refine g_normI (z := m') hm ?_
  refine g_putF X181 hx hZ hown (wat hw 127 rfl) Via.refl f176 f173 (Or.inl (wat hw 128 rfl)) (wat hw 95 rfl) (ty := .int) (by decide) rfl rfl hgb (pc' := 43) rfl (hD hby d20_40) (fun T182 h182 X182 W182 => ?_)
  have f183 := (by have q := (Keep.of_wr W182).1; exact Nat.le_trans zs170 q : n0 ≤ h182.size)
  have f184 := f171.wr W182 (Or.inl (List.mem_of_getElem? (i := 0) rfl))
  have f185 := f172.wr W182 hgb
  have f186 := f173.wr W182
  have f187 := f174.other W182 (Or.inr (slot_ne (Or.inl (wat hw 109 rfl)) (Or.inl (wat hw 128 rfl)) (by decide) (t := (.array .byte)) (t' := .int) (by decide) (by decide)))
  have f188 := f175.other W182 (Or.inr (slot_ne (Or.inl (wat hw 111 rfl)) (Or.inl (wat hw 128 rfl)) (by decide) (t := .byte) (t' := .int) (by decide) (by decide)))
  have f189 := f176.same W182
  have f190 := f177.wr W182
  have f191 := f178.other W182 (Or.inl n_b_t.symm)
  have f192 := f179.other W182 (Or.inl n_b_t.symm)
  have f193 := f180.other W182 nA165.symm
  have f194 := V170.other W182 nA163.symm
  refine g_aloadN X182 hx (pc' := 44) rfl (hD hby d20_43) rfl rfl ?_
  exact g_ret X182 hx hlk hret rfl (Or.inr (Or.inr (Or.inr (Or.inr ⟨rfl, rfl, rfl⟩)))) (hD hby d20_44) (by decide) (by decide) (Nat.le_refl _) (⟨rfl, f184, f194, f187, f188, f189⟩)
theorem rm19 (l : Launch) (Z : State) (a0 : Array Value) (hw : HW a0 Z) (ws : List Jvm.Cond) (n0 : Nat) (Ts : List String) (b va t tb : Addr) (vs xs : List Value) (c' : Nat) (cc n' : Int32) (m' cz : Int32) (h0 : Heap) (hn0 : n0 ≤ h0.size) (O2 : St0 Z (.int cz)) (hcz : ¬ cz = 0) (OLD : OldP Z n0 h0) (Eb : XSb Z h0 b) (hgb : n0 ≤ b) (Fbv : BV Z h0 b (.ref va)) (Fbc : BC Z h0 b (.int 0)) (Fbn : BN Z h0 b (.int cc)) (Av : AV Z h0 va .byte vs) (hgv : n0 ≤ va) (Et : XSt Z h0 t) (Fvt : SV Z h0 t (.ref tb)) (Fct : SC Z h0 t (.int 0)) (Abt : AV Z h0 tb .byte xs) (hne : tb ≠ va) (hc : cc.toInt = (c' : Int)) (hl : n'.toInt = (xs.length : Int)) (hb : c' + xs.length ≤ 16) (hv : vs.length = 16) (hm : cc + n' = m') (hM : m'.toInt = ((c' + xs.length : Nat) : Int)) :
    Con l Z n0 Ts (Ts) (⟨"java/lang/StringBuilder", "append", "(Ljava/lang/String;)Ljava/lang/StringBuilder;"⟩ : MethodName) jdk_67_method_7_code 2 (some (.object "java/lang/StringBuilder")) ws ({ frames := 4, cells := 0, slots := 0, locals := 104 } : Room) #[(.ref b), (.ref t)] h0 (fun v h => v = some (.ref b) ∧ Keep h0 h [b, va] ∧ AV Z h va .byte (vs.take c' ++ xs ++ vs.drop (c' + xs.length)) ∧ BV Z h b (.ref va) ∧ BC Z h b (.int 0) ∧ BN Z h b (.int m')) := by
  refine con_start (fr0 := fun m => mkF m 0 #[.val (.ref b), .val (.ref t)] []) ?_
  intro p e s m below meth c T0 hx hZ hby hml hown hnm hret hlk hsh XA
  have X0 := XA n0
  have hlow : n0 ≤ s.heap.size := by rw [hsh]; exact hn0
  replace hown : s.vm.findClass "java/lang/StringBuilder" = some m.cls := hown
  replace hml : c.maxLocals = 2 := hml
  have nA195 : b ≠ va := own_neA Eb (wat hw 95 rfl) Av
  have nA196 : t ≠ va := own_neA Et (wat hw 3 rfl) Av
  have n_b_t : b ≠ t := Exa.ne Eb Et (by decide)
  have nA197 : b ≠ tb := own_neA Eb (wat hw 95 rfl) Abt
  refine g_aloadN X0 hx (pc' := 1) rfl (hD hby d19_0) rfl rfl ?_
  refine g_aloadN X0 hx (pc' := 2) rfl (hD hby d19_1) rfl rfl ?_
  refine g_callSup X0 hx hZ hown (by decide) (wat hw 117 rfl) (wat hw 118 rfl) (y' := ({ cls := "java/lang/AbstractStringBuilder", name := "ensureCapacityInternal", desc := "(I)V" } : Jvm.MethodName)) rfl (wat hw 132 rfl) (wat hw 119 rfl) (wat hw 104 rfl) (wat hw 121 rfl) (by decide) (a := b) Eb (rm20 l Z a0 hw [] n0 (Ts) b va t tb vs xs c' cc n' m' cz h0 hn0 O2 hcz OLD Eb hgb Fbv Fbc Fbn Av hgv Et Fvt Fct Abt hne hc hl hb hv hm hM) pd_16 rfl rfl (pc' := 5) rfl (hD hby d19_2) (argsL := [(.ref t)]) (rest := []) rfl (W := 0) (fun v198 T198 h198 X198 hQ198 => ?_)
  obtain ⟨rfl, K198, V198, FV198, FC198, FN198⟩ := hQ198
  have f199 := (Keep.refl h0 [b, va]).trans K198 (allS (Or.inl (List.mem_of_getElem? (i := 0) rfl)) (allS (Or.inl (List.mem_of_getElem? (i := 1) rfl)) all0))
  have f200 := OLD.keep K198 (allS hgb (allS hgv all0))
  have f201 := Eb.keep K198
  have f202 := Et.keep K198
  have f203 := Fvt.keep K198 (ninS n_b_t.symm (ninS nA196 nin0))
  have f204 := Fct.keep K198 (ninS n_b_t.symm (ninS nA196 nin0))
  have f205 := Abt.keep K198 (ninS nA197.symm (ninS hne nin0))
  have zs198 : n0 ≤ h198.size := Nat.le_trans hn0 K198.1
  show Go p e below s n0 _ _ _ (T198.setTop (mkF m 5 _ [(.ref b)]))
  refine g_pop X198 hx (pc' := 6) rfl (hD hby d19_5) rfl ?_
  refine g_aloadN X198 hx (pc' := 7) rfl (hD hby d19_6) rfl rfl ?_
  exact g_ret X198 hx hlk hret rfl (Or.inr (Or.inr (Or.inr (Or.inr ⟨rfl, rfl, rfl⟩)))) (hD hby d19_7) (by decide) (by decide) (Nat.le_refl _) (⟨rfl, f199, V198, FV198, FC198, FN198⟩)
def DOL : List Value := (List.range 100).map fun i => Value.int (Int32.ofNat (48 + i % 10))
def DTL : List Value := (List.range 100).map fun i => Value.int (Int32.ofNat (48 + i / 10))
theorem dol_get {i : Nat} (h : i < 100) : DOL.getD i .null = .int (Int32.ofNat (48 + i % 10)) := by simp [DOL, List.getD_eq_getElem?_getD, h]
theorem dtl_get {i : Nat} (h : i < 100) : DTL.getD i .null = .int (Int32.ofNat (48 + i / 10)) := by simp [DTL, List.getD_eq_getElem?_getD, h]
theorem dol_len : DOL.length = 100 := by simp [DOL]
theorem dtl_len : DTL.length = 100 := by simp [DTL]
theorem nar_sm {y : Int32} (h1 : 0 ≤ y.toInt) (h2 : y.toInt ≤ 127) : nar .byte y = y := by
  have all : ∀ n : Fin 128, nar .byte (Int32.ofNat n.val) = Int32.ofNat n.val := by decide +kernel
  have := all ⟨y.toInt.toNat, by omega⟩
  rw [ar_id h1]; exact this
theorem put_one {vs : List Value} {c : Nat} {y : Value} (h : c < vs.length) : vs.set c y = vs.take c ++ [y] ++ vs.drop (c + 1) := by
  rw [List.set_eq_take_append_cons_drop, if_pos h, List.append_assoc]; rfl
theorem put_step {vs ys : List Value} {c : Nat} {y : Value} (h : c + 1 + ys.length ≤ vs.length) : (vs.take (c + 1) ++ ys ++ vs.drop (c + 1 + ys.length)).set c y = vs.take c ++ (y :: ys) ++ vs.drop (c + (y :: ys).length) := by
  have hc : c < vs.length := by omega
  have e : (vs.take c).length = c := by rw [List.length_take]; omega
  rw [← List.take_append_getElem hc, List.append_assoc, List.append_assoc, List.set_append_right _ _ (by omega), e, Nat.sub_self, List.append_assoc]
  show vs.take c ++ (y :: (ys ++ vs.drop (c + 1 + ys.length))) = vs.take c ++ (y :: (ys ++ vs.drop (c + (ys.length + 1))))
  rw [show c + 1 + ys.length = c + (ys.length + 1) by omega]
theorem rm28_1 (l : Launch) (Z : State) (a0 : Array Value) (hw : HW a0 Z) (ws : List Jvm.Cond) (n0 : Nat) (Ts : List String) (p' : Int32) (h0 : Heap) (hn0 : n0 ≤ h0.size) (hp0 : 0 ≤ p'.toInt) (hp1 : p'.toInt < 65536) (hl : 0 ≤ p'.toInt) (hu : p'.toInt < 10) :
    Con l Z n0 Ts (Ts) (⟨"java/lang/Integer", "stringSize", "(I)I"⟩ : MethodName) jdk_33_method_13_code 4 (some .int) ws ({ frames := 0, cells := 0, slots := 0, locals := 0 } : Room) #[(.int p')] h0 (fun v h => v = some (.int 1) ∧ h = h0) := by
  refine con_start (fr0 := fun m => mkF m 0 #[.val (.int p'), .unset, .unset, .unset] []) ?_
  intro p e s m below meth c T0 hx hZ hby hml hown hnm hret hlk hsh XA
  have X0 := XA n0
  have hlow : n0 ≤ s.heap.size := by rw [hsh]; exact hn0
  replace hown : s.vm.findClass "java/lang/Integer" = some m.cls := hown
  replace hml : c.maxLocals = 4 := hml
  refine g_iconst X0 hx (pc' := 1) (z := (1 : Int32)) rfl (hD hby d28_0) rfl ?_
  refine g_istoreN X0 hx (pc' := 2) rfl (hD hby d28_1) (l' := #[.val (.int p'), .val (.int 1), .unset, .unset]) rfl ?_
  refine g_iloadN X0 hx (pc' := 3) rfl (hD hby d28_2) rfl ?_
  refine g_ifN X0 hx (pcN := 6) (hD hby d28_3) rfl (show ¬ (p' < 0) from ar_nneg hp0) ?_
  refine g_iconst X0 hx (pc' := 7) (z := (0 : Int32)) rfl (hD hby d28_6) rfl ?_
  refine g_istoreN X0 hx (pc' := 8) rfl (hD hby d28_7) (l' := #[.val (.int p'), .val (.int 0), .unset, .unset]) rfl ?_
  refine g_iloadN X0 hx (pc' := 9) rfl (hD hby d28_8) rfl ?_
  refine g_ineg X0 hx (pc' := 10) rfl (hD hby d28_9) ?_
  refine g_istoreN X0 hx (pc' := 11) rfl (hD hby d28_10) (l' := #[.val (.int (-p')), .val (.int 0), .unset, .unset]) rfl ?_
  refine g_bipush X0 hx (pc' := 13) (z := (-10 : Int32)) rfl (hD hby d28_11) rfl ?_
  refine g_istoreN X0 hx (pc' := 14) rfl (hD hby d28_13) (l' := #[.val (.int (-p')), .val (.int 0), .val (.int (-10)), .unset]) rfl ?_
  refine g_iconst X0 hx (pc' := 15) (z := (1 : Int32)) rfl (hD hby d28_14) rfl ?_
  refine g_istoreN X0 hx (pc' := 16) rfl (hD hby d28_15) (l' := #[.val (.int (-p')), .val (.int 0), .val (.int (-10)), .val (.int 1)]) rfl ?_
  refine g_iloadN X0 hx (pc' := 17) rfl (hD hby d28_16) rfl ?_
  refine g_bipush X0 hx (pc' := 19) (z := (10 : Int32)) rfl (hD hby d28_17) rfl ?_
  refine g_icmpN X0 hx (pcN := 22) (hD hby d28_19) rfl (show ¬ (¬ (1 : Int32) < (10 : Int32)) from by decide) ?_
  refine g_iloadN X0 hx (pc' := 23) rfl (hD hby d28_22) rfl ?_
  refine g_iloadN X0 hx (pc' := 24) rfl (hD hby d28_23) rfl ?_
  refine g_icmpN X0 hx (pcN := 27) (hD hby d28_24) rfl (show ¬ (¬ (-10 : Int32) < (-p')) from not_not_intro (ar_lt hp0 (by have e0 : (-10 : Int32).toInt = -10 := rfl; omega))) ?_
  refine g_iloadN X0 hx (pc' := 28) rfl (hD hby d28_27) rfl ?_
  refine g_iloadN X0 hx (pc' := 29) rfl (hD hby d28_28) rfl ?_
  refine g_iadd X0 hx (pc' := 30) rfl (hD hby d28_29) ?_
  refine g_normI (z := (1 : Int32)) (by decide) ?_
  exact g_retI X0 hx hlk hret (hD hby d28_30) (by decide) (by decide) (Nat.le_refl _) (⟨rfl, rfl⟩)
theorem rm28_2 (l : Launch) (Z : State) (a0 : Array Value) (hw : HW a0 Z) (ws : List Jvm.Cond) (n0 : Nat) (Ts : List String) (p' : Int32) (h0 : Heap) (hn0 : n0 ≤ h0.size) (hp0 : 0 ≤ p'.toInt) (hp1 : p'.toInt < 65536) (hl : 10 ≤ p'.toInt) (hu : p'.toInt < 100) :
    Con l Z n0 Ts (Ts) (⟨"java/lang/Integer", "stringSize", "(I)I"⟩ : MethodName) jdk_33_method_13_code 4 (some .int) ws ({ frames := 0, cells := 0, slots := 0, locals := 0 } : Room) #[(.int p')] h0 (fun v h => v = some (.int 2) ∧ h = h0) := by
  refine con_start (fr0 := fun m => mkF m 0 #[.val (.int p'), .unset, .unset, .unset] []) ?_
  intro p e s m below meth c T0 hx hZ hby hml hown hnm hret hlk hsh XA
  have X0 := XA n0
  have hlow : n0 ≤ s.heap.size := by rw [hsh]; exact hn0
  replace hown : s.vm.findClass "java/lang/Integer" = some m.cls := hown
  replace hml : c.maxLocals = 4 := hml
  refine g_iconst X0 hx (pc' := 1) (z := (1 : Int32)) rfl (hD hby d28_0) rfl ?_
  refine g_istoreN X0 hx (pc' := 2) rfl (hD hby d28_1) (l' := #[.val (.int p'), .val (.int 1), .unset, .unset]) rfl ?_
  refine g_iloadN X0 hx (pc' := 3) rfl (hD hby d28_2) rfl ?_
  refine g_ifN X0 hx (pcN := 6) (hD hby d28_3) rfl (show ¬ (p' < 0) from ar_nneg hp0) ?_
  refine g_iconst X0 hx (pc' := 7) (z := (0 : Int32)) rfl (hD hby d28_6) rfl ?_
  refine g_istoreN X0 hx (pc' := 8) rfl (hD hby d28_7) (l' := #[.val (.int p'), .val (.int 0), .unset, .unset]) rfl ?_
  refine g_iloadN X0 hx (pc' := 9) rfl (hD hby d28_8) rfl ?_
  refine g_ineg X0 hx (pc' := 10) rfl (hD hby d28_9) ?_
  refine g_istoreN X0 hx (pc' := 11) rfl (hD hby d28_10) (l' := #[.val (.int (-p')), .val (.int 0), .unset, .unset]) rfl ?_
  refine g_bipush X0 hx (pc' := 13) (z := (-10 : Int32)) rfl (hD hby d28_11) rfl ?_
  refine g_istoreN X0 hx (pc' := 14) rfl (hD hby d28_13) (l' := #[.val (.int (-p')), .val (.int 0), .val (.int (-10)), .unset]) rfl ?_
  refine g_iconst X0 hx (pc' := 15) (z := (1 : Int32)) rfl (hD hby d28_14) rfl ?_
  refine g_istoreN X0 hx (pc' := 16) rfl (hD hby d28_15) (l' := #[.val (.int (-p')), .val (.int 0), .val (.int (-10)), .val (.int 1)]) rfl ?_
  refine g_iloadN X0 hx (pc' := 17) rfl (hD hby d28_16) rfl ?_
  refine g_bipush X0 hx (pc' := 19) (z := (10 : Int32)) rfl (hD hby d28_17) rfl ?_
  refine g_icmpN X0 hx (pcN := 22) (hD hby d28_19) rfl (show ¬ (¬ (1 : Int32) < (10 : Int32)) from by decide) ?_
  refine g_iloadN X0 hx (pc' := 23) rfl (hD hby d28_22) rfl ?_
  refine g_iloadN X0 hx (pc' := 24) rfl (hD hby d28_23) rfl ?_
  refine g_icmpY X0 hx (pcY := 31) (hD hby d28_24) (by decide) (by decide) (show ¬ (-10 : Int32) < (-p') from ar_nlt hp0 (by have e0 : (-10 : Int32).toInt = -10 := rfl; omega)) ?_
  refine g_bipush X0 hx (pc' := 33) (z := (10 : Int32)) rfl (hD hby d28_31) rfl ?_
  refine g_iloadN X0 hx (pc' := 34) rfl (hD hby d28_33) rfl ?_
  refine g_imul X0 hx (pc' := 35) rfl (hD hby d28_34) ?_
  refine g_normI (z := (-100 : Int32)) (by decide) ?_
  refine g_istoreN X0 hx (pc' := 36) rfl (hD hby d28_35) (l' := #[.val (.int (-p')), .val (.int 0), .val (.int (-100)), .val (.int 1)]) rfl ?_
  refine g_iincC X0 hx (pc' := 39) (x := (1 : Int32)) (z := (2 : Int32)) rfl (hD hby d28_36) rfl (by decide) (l' := #[.val (.int (-p')), .val (.int 0), .val (.int (-100)), .val (.int 2)]) rfl ?_
  refine g_goto X0 hx (pc' := 16) (hD hby d28_39) (by decide) (by decide) ?_
  refine g_iloadN X0 hx (pc' := 17) rfl (hD hby d28_16) rfl ?_
  refine g_bipush X0 hx (pc' := 19) (z := (10 : Int32)) rfl (hD hby d28_17) rfl ?_
  refine g_icmpN X0 hx (pcN := 22) (hD hby d28_19) rfl (show ¬ (¬ (2 : Int32) < (10 : Int32)) from by decide) ?_
  refine g_iloadN X0 hx (pc' := 23) rfl (hD hby d28_22) rfl ?_
  refine g_iloadN X0 hx (pc' := 24) rfl (hD hby d28_23) rfl ?_
  refine g_icmpN X0 hx (pcN := 27) (hD hby d28_24) rfl (show ¬ (¬ (-100 : Int32) < (-p')) from not_not_intro (ar_lt hp0 (by have e0 : (-100 : Int32).toInt = -100 := rfl; omega))) ?_
  refine g_iloadN X0 hx (pc' := 28) rfl (hD hby d28_27) rfl ?_
  refine g_iloadN X0 hx (pc' := 29) rfl (hD hby d28_28) rfl ?_
  refine g_iadd X0 hx (pc' := 30) rfl (hD hby d28_29) ?_
  refine g_normI (z := (2 : Int32)) (by decide) ?_
  exact g_retI X0 hx hlk hret (hD hby d28_30) (by decide) (by decide) (Nat.le_refl _) (⟨rfl, rfl⟩)
theorem rm28_3 (l : Launch) (Z : State) (a0 : Array Value) (hw : HW a0 Z) (ws : List Jvm.Cond) (n0 : Nat) (Ts : List String) (p' : Int32) (h0 : Heap) (hn0 : n0 ≤ h0.size) (hp0 : 0 ≤ p'.toInt) (hp1 : p'.toInt < 65536) (hl : 100 ≤ p'.toInt) (hu : p'.toInt < 1000) :
    Con l Z n0 Ts (Ts) (⟨"java/lang/Integer", "stringSize", "(I)I"⟩ : MethodName) jdk_33_method_13_code 4 (some .int) ws ({ frames := 0, cells := 0, slots := 0, locals := 0 } : Room) #[(.int p')] h0 (fun v h => v = some (.int 3) ∧ h = h0) := by
  refine con_start (fr0 := fun m => mkF m 0 #[.val (.int p'), .unset, .unset, .unset] []) ?_
  intro p e s m below meth c T0 hx hZ hby hml hown hnm hret hlk hsh XA
  have X0 := XA n0
  have hlow : n0 ≤ s.heap.size := by rw [hsh]; exact hn0
  replace hown : s.vm.findClass "java/lang/Integer" = some m.cls := hown
  replace hml : c.maxLocals = 4 := hml
  refine g_iconst X0 hx (pc' := 1) (z := (1 : Int32)) rfl (hD hby d28_0) rfl ?_
  refine g_istoreN X0 hx (pc' := 2) rfl (hD hby d28_1) (l' := #[.val (.int p'), .val (.int 1), .unset, .unset]) rfl ?_
  refine g_iloadN X0 hx (pc' := 3) rfl (hD hby d28_2) rfl ?_
  refine g_ifN X0 hx (pcN := 6) (hD hby d28_3) rfl (show ¬ (p' < 0) from ar_nneg hp0) ?_
  refine g_iconst X0 hx (pc' := 7) (z := (0 : Int32)) rfl (hD hby d28_6) rfl ?_
  refine g_istoreN X0 hx (pc' := 8) rfl (hD hby d28_7) (l' := #[.val (.int p'), .val (.int 0), .unset, .unset]) rfl ?_
  refine g_iloadN X0 hx (pc' := 9) rfl (hD hby d28_8) rfl ?_
  refine g_ineg X0 hx (pc' := 10) rfl (hD hby d28_9) ?_
  refine g_istoreN X0 hx (pc' := 11) rfl (hD hby d28_10) (l' := #[.val (.int (-p')), .val (.int 0), .unset, .unset]) rfl ?_
  refine g_bipush X0 hx (pc' := 13) (z := (-10 : Int32)) rfl (hD hby d28_11) rfl ?_
  refine g_istoreN X0 hx (pc' := 14) rfl (hD hby d28_13) (l' := #[.val (.int (-p')), .val (.int 0), .val (.int (-10)), .unset]) rfl ?_
  refine g_iconst X0 hx (pc' := 15) (z := (1 : Int32)) rfl (hD hby d28_14) rfl ?_
  refine g_istoreN X0 hx (pc' := 16) rfl (hD hby d28_15) (l' := #[.val (.int (-p')), .val (.int 0), .val (.int (-10)), .val (.int 1)]) rfl ?_
  refine g_iloadN X0 hx (pc' := 17) rfl (hD hby d28_16) rfl ?_
  refine g_bipush X0 hx (pc' := 19) (z := (10 : Int32)) rfl (hD hby d28_17) rfl ?_
  refine g_icmpN X0 hx (pcN := 22) (hD hby d28_19) rfl (show ¬ (¬ (1 : Int32) < (10 : Int32)) from by decide) ?_
  refine g_iloadN X0 hx (pc' := 23) rfl (hD hby d28_22) rfl ?_
  refine g_iloadN X0 hx (pc' := 24) rfl (hD hby d28_23) rfl ?_
  refine g_icmpY X0 hx (pcY := 31) (hD hby d28_24) (by decide) (by decide) (show ¬ (-10 : Int32) < (-p') from ar_nlt hp0 (by have e0 : (-10 : Int32).toInt = -10 := rfl; omega)) ?_
  refine g_bipush X0 hx (pc' := 33) (z := (10 : Int32)) rfl (hD hby d28_31) rfl ?_
  refine g_iloadN X0 hx (pc' := 34) rfl (hD hby d28_33) rfl ?_
  refine g_imul X0 hx (pc' := 35) rfl (hD hby d28_34) ?_
  refine g_normI (z := (-100 : Int32)) (by decide) ?_
  refine g_istoreN X0 hx (pc' := 36) rfl (hD hby d28_35) (l' := #[.val (.int (-p')), .val (.int 0), .val (.int (-100)), .val (.int 1)]) rfl ?_
  refine g_iincC X0 hx (pc' := 39) (x := (1 : Int32)) (z := (2 : Int32)) rfl (hD hby d28_36) rfl (by decide) (l' := #[.val (.int (-p')), .val (.int 0), .val (.int (-100)), .val (.int 2)]) rfl ?_
  refine g_goto X0 hx (pc' := 16) (hD hby d28_39) (by decide) (by decide) ?_
  refine g_iloadN X0 hx (pc' := 17) rfl (hD hby d28_16) rfl ?_
  refine g_bipush X0 hx (pc' := 19) (z := (10 : Int32)) rfl (hD hby d28_17) rfl ?_
  refine g_icmpN X0 hx (pcN := 22) (hD hby d28_19) rfl (show ¬ (¬ (2 : Int32) < (10 : Int32)) from by decide) ?_
  refine g_iloadN X0 hx (pc' := 23) rfl (hD hby d28_22) rfl ?_
  refine g_iloadN X0 hx (pc' := 24) rfl (hD hby d28_23) rfl ?_
  refine g_icmpY X0 hx (pcY := 31) (hD hby d28_24) (by decide) (by decide) (show ¬ (-100 : Int32) < (-p') from ar_nlt hp0 (by have e0 : (-100 : Int32).toInt = -100 := rfl; omega)) ?_
  refine g_bipush X0 hx (pc' := 33) (z := (10 : Int32)) rfl (hD hby d28_31) rfl ?_
  refine g_iloadN X0 hx (pc' := 34) rfl (hD hby d28_33) rfl ?_
  refine g_imul X0 hx (pc' := 35) rfl (hD hby d28_34) ?_
  refine g_normI (z := (-1000 : Int32)) (by decide) ?_
  refine g_istoreN X0 hx (pc' := 36) rfl (hD hby d28_35) (l' := #[.val (.int (-p')), .val (.int 0), .val (.int (-1000)), .val (.int 2)]) rfl ?_
  refine g_iincC X0 hx (pc' := 39) (x := (2 : Int32)) (z := (3 : Int32)) rfl (hD hby d28_36) rfl (by decide) (l' := #[.val (.int (-p')), .val (.int 0), .val (.int (-1000)), .val (.int 3)]) rfl ?_
  refine g_goto X0 hx (pc' := 16) (hD hby d28_39) (by decide) (by decide) ?_
  refine g_iloadN X0 hx (pc' := 17) rfl (hD hby d28_16) rfl ?_
  refine g_bipush X0 hx (pc' := 19) (z := (10 : Int32)) rfl (hD hby d28_17) rfl ?_
  refine g_icmpN X0 hx (pcN := 22) (hD hby d28_19) rfl (show ¬ (¬ (3 : Int32) < (10 : Int32)) from by decide) ?_
  refine g_iloadN X0 hx (pc' := 23) rfl (hD hby d28_22) rfl ?_
  refine g_iloadN X0 hx (pc' := 24) rfl (hD hby d28_23) rfl ?_
  refine g_icmpN X0 hx (pcN := 27) (hD hby d28_24) rfl (show ¬ (¬ (-1000 : Int32) < (-p')) from not_not_intro (ar_lt hp0 (by have e0 : (-1000 : Int32).toInt = -1000 := rfl; omega))) ?_
  refine g_iloadN X0 hx (pc' := 28) rfl (hD hby d28_27) rfl ?_
  refine g_iloadN X0 hx (pc' := 29) rfl (hD hby d28_28) rfl ?_
  refine g_iadd X0 hx (pc' := 30) rfl (hD hby d28_29) ?_
  refine g_normI (z := (3 : Int32)) (by decide) ?_
  exact g_retI X0 hx hlk hret (hD hby d28_30) (by decide) (by decide) (Nat.le_refl _) (⟨rfl, rfl⟩)
theorem rm28_4 (l : Launch) (Z : State) (a0 : Array Value) (hw : HW a0 Z) (ws : List Jvm.Cond) (n0 : Nat) (Ts : List String) (p' : Int32) (h0 : Heap) (hn0 : n0 ≤ h0.size) (hp0 : 0 ≤ p'.toInt) (hp1 : p'.toInt < 65536) (hl : 1000 ≤ p'.toInt) (hu : p'.toInt < 10000) :
    Con l Z n0 Ts (Ts) (⟨"java/lang/Integer", "stringSize", "(I)I"⟩ : MethodName) jdk_33_method_13_code 4 (some .int) ws ({ frames := 0, cells := 0, slots := 0, locals := 0 } : Room) #[(.int p')] h0 (fun v h => v = some (.int 4) ∧ h = h0) := by
  refine con_start (fr0 := fun m => mkF m 0 #[.val (.int p'), .unset, .unset, .unset] []) ?_
  intro p e s m below meth c T0 hx hZ hby hml hown hnm hret hlk hsh XA
  have X0 := XA n0
  have hlow : n0 ≤ s.heap.size := by rw [hsh]; exact hn0
  replace hown : s.vm.findClass "java/lang/Integer" = some m.cls := hown
  replace hml : c.maxLocals = 4 := hml
  refine g_iconst X0 hx (pc' := 1) (z := (1 : Int32)) rfl (hD hby d28_0) rfl ?_
  refine g_istoreN X0 hx (pc' := 2) rfl (hD hby d28_1) (l' := #[.val (.int p'), .val (.int 1), .unset, .unset]) rfl ?_
  refine g_iloadN X0 hx (pc' := 3) rfl (hD hby d28_2) rfl ?_
  refine g_ifN X0 hx (pcN := 6) (hD hby d28_3) rfl (show ¬ (p' < 0) from ar_nneg hp0) ?_
  refine g_iconst X0 hx (pc' := 7) (z := (0 : Int32)) rfl (hD hby d28_6) rfl ?_
  refine g_istoreN X0 hx (pc' := 8) rfl (hD hby d28_7) (l' := #[.val (.int p'), .val (.int 0), .unset, .unset]) rfl ?_
  refine g_iloadN X0 hx (pc' := 9) rfl (hD hby d28_8) rfl ?_
  refine g_ineg X0 hx (pc' := 10) rfl (hD hby d28_9) ?_
  refine g_istoreN X0 hx (pc' := 11) rfl (hD hby d28_10) (l' := #[.val (.int (-p')), .val (.int 0), .unset, .unset]) rfl ?_
  refine g_bipush X0 hx (pc' := 13) (z := (-10 : Int32)) rfl (hD hby d28_11) rfl ?_
  refine g_istoreN X0 hx (pc' := 14) rfl (hD hby d28_13) (l' := #[.val (.int (-p')), .val (.int 0), .val (.int (-10)), .unset]) rfl ?_
  refine g_iconst X0 hx (pc' := 15) (z := (1 : Int32)) rfl (hD hby d28_14) rfl ?_
  refine g_istoreN X0 hx (pc' := 16) rfl (hD hby d28_15) (l' := #[.val (.int (-p')), .val (.int 0), .val (.int (-10)), .val (.int 1)]) rfl ?_
  refine g_iloadN X0 hx (pc' := 17) rfl (hD hby d28_16) rfl ?_
  refine g_bipush X0 hx (pc' := 19) (z := (10 : Int32)) rfl (hD hby d28_17) rfl ?_
  refine g_icmpN X0 hx (pcN := 22) (hD hby d28_19) rfl (show ¬ (¬ (1 : Int32) < (10 : Int32)) from by decide) ?_
  refine g_iloadN X0 hx (pc' := 23) rfl (hD hby d28_22) rfl ?_
  refine g_iloadN X0 hx (pc' := 24) rfl (hD hby d28_23) rfl ?_
  refine g_icmpY X0 hx (pcY := 31) (hD hby d28_24) (by decide) (by decide) (show ¬ (-10 : Int32) < (-p') from ar_nlt hp0 (by have e0 : (-10 : Int32).toInt = -10 := rfl; omega)) ?_
  refine g_bipush X0 hx (pc' := 33) (z := (10 : Int32)) rfl (hD hby d28_31) rfl ?_
  refine g_iloadN X0 hx (pc' := 34) rfl (hD hby d28_33) rfl ?_
  refine g_imul X0 hx (pc' := 35) rfl (hD hby d28_34) ?_
  refine g_normI (z := (-100 : Int32)) (by decide) ?_
  refine g_istoreN X0 hx (pc' := 36) rfl (hD hby d28_35) (l' := #[.val (.int (-p')), .val (.int 0), .val (.int (-100)), .val (.int 1)]) rfl ?_
  refine g_iincC X0 hx (pc' := 39) (x := (1 : Int32)) (z := (2 : Int32)) rfl (hD hby d28_36) rfl (by decide) (l' := #[.val (.int (-p')), .val (.int 0), .val (.int (-100)), .val (.int 2)]) rfl ?_
  refine g_goto X0 hx (pc' := 16) (hD hby d28_39) (by decide) (by decide) ?_
  refine g_iloadN X0 hx (pc' := 17) rfl (hD hby d28_16) rfl ?_
  refine g_bipush X0 hx (pc' := 19) (z := (10 : Int32)) rfl (hD hby d28_17) rfl ?_
  refine g_icmpN X0 hx (pcN := 22) (hD hby d28_19) rfl (show ¬ (¬ (2 : Int32) < (10 : Int32)) from by decide) ?_
  refine g_iloadN X0 hx (pc' := 23) rfl (hD hby d28_22) rfl ?_
  refine g_iloadN X0 hx (pc' := 24) rfl (hD hby d28_23) rfl ?_
  refine g_icmpY X0 hx (pcY := 31) (hD hby d28_24) (by decide) (by decide) (show ¬ (-100 : Int32) < (-p') from ar_nlt hp0 (by have e0 : (-100 : Int32).toInt = -100 := rfl; omega)) ?_
  refine g_bipush X0 hx (pc' := 33) (z := (10 : Int32)) rfl (hD hby d28_31) rfl ?_
  refine g_iloadN X0 hx (pc' := 34) rfl (hD hby d28_33) rfl ?_
  refine g_imul X0 hx (pc' := 35) rfl (hD hby d28_34) ?_
  refine g_normI (z := (-1000 : Int32)) (by decide) ?_
  refine g_istoreN X0 hx (pc' := 36) rfl (hD hby d28_35) (l' := #[.val (.int (-p')), .val (.int 0), .val (.int (-1000)), .val (.int 2)]) rfl ?_
  refine g_iincC X0 hx (pc' := 39) (x := (2 : Int32)) (z := (3 : Int32)) rfl (hD hby d28_36) rfl (by decide) (l' := #[.val (.int (-p')), .val (.int 0), .val (.int (-1000)), .val (.int 3)]) rfl ?_
  refine g_goto X0 hx (pc' := 16) (hD hby d28_39) (by decide) (by decide) ?_
  refine g_iloadN X0 hx (pc' := 17) rfl (hD hby d28_16) rfl ?_
  refine g_bipush X0 hx (pc' := 19) (z := (10 : Int32)) rfl (hD hby d28_17) rfl ?_
  refine g_icmpN X0 hx (pcN := 22) (hD hby d28_19) rfl (show ¬ (¬ (3 : Int32) < (10 : Int32)) from by decide) ?_
  refine g_iloadN X0 hx (pc' := 23) rfl (hD hby d28_22) rfl ?_
  refine g_iloadN X0 hx (pc' := 24) rfl (hD hby d28_23) rfl ?_
  refine g_icmpY X0 hx (pcY := 31) (hD hby d28_24) (by decide) (by decide) (show ¬ (-1000 : Int32) < (-p') from ar_nlt hp0 (by have e0 : (-1000 : Int32).toInt = -1000 := rfl; omega)) ?_
  refine g_bipush X0 hx (pc' := 33) (z := (10 : Int32)) rfl (hD hby d28_31) rfl ?_
  refine g_iloadN X0 hx (pc' := 34) rfl (hD hby d28_33) rfl ?_
  refine g_imul X0 hx (pc' := 35) rfl (hD hby d28_34) ?_
  refine g_normI (z := (-10000 : Int32)) (by decide) ?_
  refine g_istoreN X0 hx (pc' := 36) rfl (hD hby d28_35) (l' := #[.val (.int (-p')), .val (.int 0), .val (.int (-10000)), .val (.int 3)]) rfl ?_
  refine g_iincC X0 hx (pc' := 39) (x := (3 : Int32)) (z := (4 : Int32)) rfl (hD hby d28_36) rfl (by decide) (l' := #[.val (.int (-p')), .val (.int 0), .val (.int (-10000)), .val (.int 4)]) rfl ?_
  refine g_goto X0 hx (pc' := 16) (hD hby d28_39) (by decide) (by decide) ?_
  refine g_iloadN X0 hx (pc' := 17) rfl (hD hby d28_16) rfl ?_
  refine g_bipush X0 hx (pc' := 19) (z := (10 : Int32)) rfl (hD hby d28_17) rfl ?_
  refine g_icmpN X0 hx (pcN := 22) (hD hby d28_19) rfl (show ¬ (¬ (4 : Int32) < (10 : Int32)) from by decide) ?_
  refine g_iloadN X0 hx (pc' := 23) rfl (hD hby d28_22) rfl ?_
  refine g_iloadN X0 hx (pc' := 24) rfl (hD hby d28_23) rfl ?_
  refine g_icmpN X0 hx (pcN := 27) (hD hby d28_24) rfl (show ¬ (¬ (-10000 : Int32) < (-p')) from not_not_intro (ar_lt hp0 (by have e0 : (-10000 : Int32).toInt = -10000 := rfl; omega))) ?_
  refine g_iloadN X0 hx (pc' := 28) rfl (hD hby d28_27) rfl ?_
  refine g_iloadN X0 hx (pc' := 29) rfl (hD hby d28_28) rfl ?_
  refine g_iadd X0 hx (pc' := 30) rfl (hD hby d28_29) ?_
  refine g_normI (z := (4 : Int32)) (by decide) ?_
  exact g_retI X0 hx hlk hret (hD hby d28_30) (by decide) (by decide) (Nat.le_refl _) (⟨rfl, rfl⟩)
theorem rm28_5 (l : Launch) (Z : State) (a0 : Array Value) (hw : HW a0 Z) (ws : List Jvm.Cond) (n0 : Nat) (Ts : List String) (p' : Int32) (h0 : Heap) (hn0 : n0 ≤ h0.size) (hp0 : 0 ≤ p'.toInt) (hp1 : p'.toInt < 65536) (hl : 10000 ≤ p'.toInt) (hu : p'.toInt < 100000) :
    Con l Z n0 Ts (Ts) (⟨"java/lang/Integer", "stringSize", "(I)I"⟩ : MethodName) jdk_33_method_13_code 4 (some .int) ws ({ frames := 0, cells := 0, slots := 0, locals := 0 } : Room) #[(.int p')] h0 (fun v h => v = some (.int 5) ∧ h = h0) := by
  refine con_start (fr0 := fun m => mkF m 0 #[.val (.int p'), .unset, .unset, .unset] []) ?_
  intro p e s m below meth c T0 hx hZ hby hml hown hnm hret hlk hsh XA
  have X0 := XA n0
  have hlow : n0 ≤ s.heap.size := by rw [hsh]; exact hn0
  replace hown : s.vm.findClass "java/lang/Integer" = some m.cls := hown
  replace hml : c.maxLocals = 4 := hml
  refine g_iconst X0 hx (pc' := 1) (z := (1 : Int32)) rfl (hD hby d28_0) rfl ?_
  refine g_istoreN X0 hx (pc' := 2) rfl (hD hby d28_1) (l' := #[.val (.int p'), .val (.int 1), .unset, .unset]) rfl ?_
  refine g_iloadN X0 hx (pc' := 3) rfl (hD hby d28_2) rfl ?_
  refine g_ifN X0 hx (pcN := 6) (hD hby d28_3) rfl (show ¬ (p' < 0) from ar_nneg hp0) ?_
  refine g_iconst X0 hx (pc' := 7) (z := (0 : Int32)) rfl (hD hby d28_6) rfl ?_
  refine g_istoreN X0 hx (pc' := 8) rfl (hD hby d28_7) (l' := #[.val (.int p'), .val (.int 0), .unset, .unset]) rfl ?_
  refine g_iloadN X0 hx (pc' := 9) rfl (hD hby d28_8) rfl ?_
  refine g_ineg X0 hx (pc' := 10) rfl (hD hby d28_9) ?_
  refine g_istoreN X0 hx (pc' := 11) rfl (hD hby d28_10) (l' := #[.val (.int (-p')), .val (.int 0), .unset, .unset]) rfl ?_
  refine g_bipush X0 hx (pc' := 13) (z := (-10 : Int32)) rfl (hD hby d28_11) rfl ?_
  refine g_istoreN X0 hx (pc' := 14) rfl (hD hby d28_13) (l' := #[.val (.int (-p')), .val (.int 0), .val (.int (-10)), .unset]) rfl ?_
  refine g_iconst X0 hx (pc' := 15) (z := (1 : Int32)) rfl (hD hby d28_14) rfl ?_
  refine g_istoreN X0 hx (pc' := 16) rfl (hD hby d28_15) (l' := #[.val (.int (-p')), .val (.int 0), .val (.int (-10)), .val (.int 1)]) rfl ?_
  refine g_iloadN X0 hx (pc' := 17) rfl (hD hby d28_16) rfl ?_
  refine g_bipush X0 hx (pc' := 19) (z := (10 : Int32)) rfl (hD hby d28_17) rfl ?_
  refine g_icmpN X0 hx (pcN := 22) (hD hby d28_19) rfl (show ¬ (¬ (1 : Int32) < (10 : Int32)) from by decide) ?_
  refine g_iloadN X0 hx (pc' := 23) rfl (hD hby d28_22) rfl ?_
  refine g_iloadN X0 hx (pc' := 24) rfl (hD hby d28_23) rfl ?_
  refine g_icmpY X0 hx (pcY := 31) (hD hby d28_24) (by decide) (by decide) (show ¬ (-10 : Int32) < (-p') from ar_nlt hp0 (by have e0 : (-10 : Int32).toInt = -10 := rfl; omega)) ?_
  refine g_bipush X0 hx (pc' := 33) (z := (10 : Int32)) rfl (hD hby d28_31) rfl ?_
  refine g_iloadN X0 hx (pc' := 34) rfl (hD hby d28_33) rfl ?_
  refine g_imul X0 hx (pc' := 35) rfl (hD hby d28_34) ?_
  refine g_normI (z := (-100 : Int32)) (by decide) ?_
  refine g_istoreN X0 hx (pc' := 36) rfl (hD hby d28_35) (l' := #[.val (.int (-p')), .val (.int 0), .val (.int (-100)), .val (.int 1)]) rfl ?_
  refine g_iincC X0 hx (pc' := 39) (x := (1 : Int32)) (z := (2 : Int32)) rfl (hD hby d28_36) rfl (by decide) (l' := #[.val (.int (-p')), .val (.int 0), .val (.int (-100)), .val (.int 2)]) rfl ?_
  refine g_goto X0 hx (pc' := 16) (hD hby d28_39) (by decide) (by decide) ?_
  refine g_iloadN X0 hx (pc' := 17) rfl (hD hby d28_16) rfl ?_
  refine g_bipush X0 hx (pc' := 19) (z := (10 : Int32)) rfl (hD hby d28_17) rfl ?_
  refine g_icmpN X0 hx (pcN := 22) (hD hby d28_19) rfl (show ¬ (¬ (2 : Int32) < (10 : Int32)) from by decide) ?_
  refine g_iloadN X0 hx (pc' := 23) rfl (hD hby d28_22) rfl ?_
  refine g_iloadN X0 hx (pc' := 24) rfl (hD hby d28_23) rfl ?_
  refine g_icmpY X0 hx (pcY := 31) (hD hby d28_24) (by decide) (by decide) (show ¬ (-100 : Int32) < (-p') from ar_nlt hp0 (by have e0 : (-100 : Int32).toInt = -100 := rfl; omega)) ?_
  refine g_bipush X0 hx (pc' := 33) (z := (10 : Int32)) rfl (hD hby d28_31) rfl ?_
  refine g_iloadN X0 hx (pc' := 34) rfl (hD hby d28_33) rfl ?_
  refine g_imul X0 hx (pc' := 35) rfl (hD hby d28_34) ?_
  refine g_normI (z := (-1000 : Int32)) (by decide) ?_
  refine g_istoreN X0 hx (pc' := 36) rfl (hD hby d28_35) (l' := #[.val (.int (-p')), .val (.int 0), .val (.int (-1000)), .val (.int 2)]) rfl ?_
  refine g_iincC X0 hx (pc' := 39) (x := (2 : Int32)) (z := (3 : Int32)) rfl (hD hby d28_36) rfl (by decide) (l' := #[.val (.int (-p')), .val (.int 0), .val (.int (-1000)), .val (.int 3)]) rfl ?_
  refine g_goto X0 hx (pc' := 16) (hD hby d28_39) (by decide) (by decide) ?_
  refine g_iloadN X0 hx (pc' := 17) rfl (hD hby d28_16) rfl ?_
  refine g_bipush X0 hx (pc' := 19) (z := (10 : Int32)) rfl (hD hby d28_17) rfl ?_
  refine g_icmpN X0 hx (pcN := 22) (hD hby d28_19) rfl (show ¬ (¬ (3 : Int32) < (10 : Int32)) from by decide) ?_
  refine g_iloadN X0 hx (pc' := 23) rfl (hD hby d28_22) rfl ?_
  refine g_iloadN X0 hx (pc' := 24) rfl (hD hby d28_23) rfl ?_
  refine g_icmpY X0 hx (pcY := 31) (hD hby d28_24) (by decide) (by decide) (show ¬ (-1000 : Int32) < (-p') from ar_nlt hp0 (by have e0 : (-1000 : Int32).toInt = -1000 := rfl; omega)) ?_
  refine g_bipush X0 hx (pc' := 33) (z := (10 : Int32)) rfl (hD hby d28_31) rfl ?_
  refine g_iloadN X0 hx (pc' := 34) rfl (hD hby d28_33) rfl ?_
  refine g_imul X0 hx (pc' := 35) rfl (hD hby d28_34) ?_
  refine g_normI (z := (-10000 : Int32)) (by decide) ?_
  refine g_istoreN X0 hx (pc' := 36) rfl (hD hby d28_35) (l' := #[.val (.int (-p')), .val (.int 0), .val (.int (-10000)), .val (.int 3)]) rfl ?_
  refine g_iincC X0 hx (pc' := 39) (x := (3 : Int32)) (z := (4 : Int32)) rfl (hD hby d28_36) rfl (by decide) (l' := #[.val (.int (-p')), .val (.int 0), .val (.int (-10000)), .val (.int 4)]) rfl ?_
  refine g_goto X0 hx (pc' := 16) (hD hby d28_39) (by decide) (by decide) ?_
  refine g_iloadN X0 hx (pc' := 17) rfl (hD hby d28_16) rfl ?_
  refine g_bipush X0 hx (pc' := 19) (z := (10 : Int32)) rfl (hD hby d28_17) rfl ?_
  refine g_icmpN X0 hx (pcN := 22) (hD hby d28_19) rfl (show ¬ (¬ (4 : Int32) < (10 : Int32)) from by decide) ?_
  refine g_iloadN X0 hx (pc' := 23) rfl (hD hby d28_22) rfl ?_
  refine g_iloadN X0 hx (pc' := 24) rfl (hD hby d28_23) rfl ?_
  refine g_icmpY X0 hx (pcY := 31) (hD hby d28_24) (by decide) (by decide) (show ¬ (-10000 : Int32) < (-p') from ar_nlt hp0 (by have e0 : (-10000 : Int32).toInt = -10000 := rfl; omega)) ?_
  refine g_bipush X0 hx (pc' := 33) (z := (10 : Int32)) rfl (hD hby d28_31) rfl ?_
  refine g_iloadN X0 hx (pc' := 34) rfl (hD hby d28_33) rfl ?_
  refine g_imul X0 hx (pc' := 35) rfl (hD hby d28_34) ?_
  refine g_normI (z := (-100000 : Int32)) (by decide) ?_
  refine g_istoreN X0 hx (pc' := 36) rfl (hD hby d28_35) (l' := #[.val (.int (-p')), .val (.int 0), .val (.int (-100000)), .val (.int 4)]) rfl ?_
  refine g_iincC X0 hx (pc' := 39) (x := (4 : Int32)) (z := (5 : Int32)) rfl (hD hby d28_36) rfl (by decide) (l' := #[.val (.int (-p')), .val (.int 0), .val (.int (-100000)), .val (.int 5)]) rfl ?_
  refine g_goto X0 hx (pc' := 16) (hD hby d28_39) (by decide) (by decide) ?_
  refine g_iloadN X0 hx (pc' := 17) rfl (hD hby d28_16) rfl ?_
  refine g_bipush X0 hx (pc' := 19) (z := (10 : Int32)) rfl (hD hby d28_17) rfl ?_
  refine g_icmpN X0 hx (pcN := 22) (hD hby d28_19) rfl (show ¬ (¬ (5 : Int32) < (10 : Int32)) from by decide) ?_
  refine g_iloadN X0 hx (pc' := 23) rfl (hD hby d28_22) rfl ?_
  refine g_iloadN X0 hx (pc' := 24) rfl (hD hby d28_23) rfl ?_
  refine g_icmpN X0 hx (pcN := 27) (hD hby d28_24) rfl (show ¬ (¬ (-100000 : Int32) < (-p')) from not_not_intro (ar_lt hp0 (by have e0 : (-100000 : Int32).toInt = -100000 := rfl; omega))) ?_
  refine g_iloadN X0 hx (pc' := 28) rfl (hD hby d28_27) rfl ?_
  refine g_iloadN X0 hx (pc' := 29) rfl (hD hby d28_28) rfl ?_
  refine g_iadd X0 hx (pc' := 30) rfl (hD hby d28_29) ?_
  refine g_normI (z := (5 : Int32)) (by decide) ?_
  exact g_retI X0 hx hlk hret (hD hby d28_30) (by decide) (by decide) (Nat.le_refl _) (⟨rfl, rfl⟩)
theorem rm29 (l : Launch) (Z : State) (a0 : Array Value) (hw : HW a0 Z) (ws : List Jvm.Cond) (n0 : Nat) (Ts : List String) (b : Addr) (cz : Int32) (h0 : Heap) (hn0 : n0 ≤ h0.size) (O2 : St0 Z (.int cz)) (hcz : ¬ cz = 0) (OLD : OldP Z n0 h0) (Fbc : BC Z h0 b (.int 0)) :
    Con l Z n0 Ts (Ts) (⟨"java/lang/AbstractStringBuilder", "isLatin1", "()Z"⟩ : MethodName) jdk_68_method_68_code 1 (some .boolean) ws ({ frames := 0, cells := 0, slots := 0, locals := 0 } : Room) #[(.ref b)] h0 (fun v h => v = some (.int 1) ∧ h = h0) := by
  refine con_start (fr0 := fun m => mkF m 0 #[.val (.ref b)] []) ?_
  intro p e s m below meth c T0 hx hZ hby hml hown hnm hret hlk hsh XA
  have X0 := XA n0
  have hlow : n0 ≤ s.heap.size := by rw [hsh]; exact hn0
  replace hown : s.vm.findClass "java/lang/AbstractStringBuilder" = some m.cls := hown
  replace hml : c.maxLocals = 1 := hml
  refine g_getS X0 hx hZ hown (wat hw 107 rfl) Via.refl (Sta.ext OLD.2 O2) (pc' := 3) rfl (hD hby d29_0) (fun T206 X206 => ?_)
  refine g_ifN X206 hx (pcN := 6) (hD hby d29_3) rfl (show ¬ (cz = 0) from hcz) ?_
  refine g_aloadN X206 hx (pc' := 7) rfl (hD hby d29_6) rfl rfl ?_
  refine g_getF X206 hx hZ hown (wat hw 110 rfl) Via.refl Fbc (pc' := 10) rfl (hD hby d29_7) (fun T207 X207 => ?_)
  refine g_ifN X207 hx (pcN := 13) (hD hby d29_10) rfl (show ¬ (¬ (0 : Int32) = 0) from by decide) ?_
  refine g_iconst X207 hx (pc' := 14) (z := (1 : Int32)) rfl (hD hby d29_13) rfl ?_
  refine g_goto X207 hx (pc' := 18) (hD hby d29_14) (by decide) (by decide) ?_
  exact g_retZ X207 hx hlk hret (by first | exact Or.inl rfl | exact Or.inr rfl) (hD hby d29_18) (by decide) (by decide) (Nat.le_refl _) (⟨rfl, rfl⟩)
theorem own_set1 {vs : List Value} {c : Nat} {y0 : Value} (hv : vs.length = 16) (hb : c + 1 ≤ 16) : (vs).set c y0 = vs.take c ++ [y0] ++ vs.drop (c + 1) := by
  have h0 : vs.set c y0 = vs.take c ++ [y0] ++ vs.drop (c + 1) := put_one (by omega)
  rw [h0]

theorem rm30_1 (l : Launch) (Z : State) (a0 : Array Value) (hw : HW a0 Z) (ws : List Jvm.Cond) (n0 : Nat) (Ts : List String) (p' : Int32) (va dO dT : Addr) (vs : List Value) (c' : Nat) (e0 e1 : Int32) (cz : Int32) (h0 : Heap) (hn0 : n0 ≤ h0.size) (O2 : St0 Z (.int cz)) (hcz : ¬ cz = 0) (OLD : OldP Z n0 h0) (hp0 : 0 ≤ p'.toInt) (hp1 : p'.toInt < 65536) (hl : 0 ≤ p'.toInt) (hu : p'.toInt < 10) (S1 : St1 Z (.ref dO)) (A1 : AV Z Z.heap dO .byte DOL) (S2 : St2 Z (.ref dT)) (A2 : AV Z Z.heap dT .byte DTL) (Av : AV Z h0 va .byte vs) (hgv : n0 ≤ va) (g0 : e0.toInt = (c' : Int)) (g1 : e1.toInt = ((c' + 1 : Nat) : Int)) (s1 : e1 + Int32.ofInt (-1) = e0) (hb : c' + 1 ≤ 16) (hv : vs.length = 16) :
    Con l Z n0 Ts (Ts) (⟨"java/lang/Integer", "getChars", "(II[B)I"⟩ : MethodName) jdk_33_method_12_code 7 (some .int) ws ({ frames := 0, cells := 0, slots := 0, locals := 0 } : Room) #[(.int p'), (.int e1), (.ref va)] h0 (fun v h => v = some (.int e0) ∧ Keep h0 h [va] ∧ ∃ y0, y0.toInt = 48 + (p'.toInt / 1) % 10 ∧ AV Z h va .byte (vs.take c' ++ [.int y0] ++ vs.drop (c' + 1))) := by
  refine con_start (fr0 := fun m => mkF m 0 #[.val (.int p'), .val (.int e1), .val (.ref va), .unset, .unset, .unset, .unset] []) ?_
  intro p e s m below meth c T0 hx hZ hby hml hown hnm hret hlk hsh XA
  have X0 := XA n0
  have hlow : n0 ≤ s.heap.size := by rw [hsh]; exact hn0
  replace hown : s.vm.findClass "java/lang/Integer" = some m.cls := hown
  replace hml : c.maxLocals = 7 := hml
  refine g_iloadN X0 hx (pc' := 1) rfl (hD hby d30_0) rfl ?_
  refine g_istore X0 hx (pc' := 3) rfl (hD hby d30_1) (l' := #[.val (.int p'), .val (.int e1), .val (.ref va), .unset, .unset, .val (.int e1), .unset]) rfl ?_
  refine g_iloadN X0 hx (pc' := 4) rfl (hD hby d30_3) rfl ?_
  refine g_ifY X0 hx (pcY := 11) (hD hby d30_4) (by decide) (by decide) (show ¬ p' < 0 from ar_nneg hp0) ?_
  refine g_iconst X0 hx (pc' := 12) (z := (0 : Int32)) rfl (hD hby d30_11) rfl ?_
  refine g_istore X0 hx (pc' := 14) rfl (hD hby d30_12) (l' := #[.val (.int p'), .val (.int e1), .val (.ref va), .unset, .unset, .val (.int e1), .val (.int 0)]) rfl ?_
  refine g_iload X0 hx (pc' := 16) rfl (hD hby d30_14) rfl ?_
  refine g_ifN X0 hx (pcN := 19) (hD hby d30_16) rfl (show ¬ (¬ (0 : Int32) = 0) from by decide) ?_
  refine g_iloadN X0 hx (pc' := 20) rfl (hD hby d30_19) rfl ?_
  refine g_ineg X0 hx (pc' := 21) rfl (hD hby d30_20) ?_
  refine g_istoreN X0 hx (pc' := 22) rfl (hD hby d30_21) (l' := #[.val (.int (-p')), .val (.int e1), .val (.ref va), .unset, .unset, .val (.int e1), .val (.int 0)]) rfl ?_
  refine g_iloadN X0 hx (pc' := 23) rfl (hD hby d30_22) rfl ?_
  refine g_bipush X0 hx (pc' := 25) (z := (-100 : Int32)) rfl (hD hby d30_23) rfl ?_
  refine g_icmpY X0 hx (pcY := 72) (hD hby d30_25) (by decide) (by decide) (show (-100 : Int32) < (-p') from ar_lt hp0 (by have e0 : (-100 : Int32).toInt = -100 := rfl; omega)) ?_
  refine g_aloadN X0 hx (pc' := 73) rfl (hD hby d30_72) rfl rfl ?_
  refine g_iincC X0 hx (pc' := 76) (x := e1) (z := e0) rfl (hD hby d30_73) rfl s1 (l' := #[.val (.int (-p')), .val (.int e1), .val (.ref va), .unset, .unset, .val (.int e0), .val (.int 0)]) rfl ?_
  refine g_iload X0 hx (pc' := 78) rfl (hD hby d30_76) rfl ?_
  refine g_getS X0 hx hZ hown (wat hw 175 rfl) Via.refl (Sta.ext OLD.2 S1) (pc' := 81) rfl (hD hby d30_78) (fun T208 X208 => ?_)
  refine g_iloadN X208 hx (pc' := 82) rfl (hD hby d30_81) rfl ?_
  refine g_ineg X208 hx (pc' := 83) rfl (hD hby d30_82) ?_
  refine g_normI (z := p') ar_nn ?_
  have by0 : p'.toInt.toNat < 100 := by omega
  refine g_baload X208 hx hZ (AV.ext A1 OLD.2) (i := p'.toInt.toNat) (by omega) (by rw [dol_len]; exact by0) (x := Int32.ofNat (48 + p'.toInt.toNat % 10)) (dol_get by0) (pc' := 84) rfl (hD hby d30_83) ?_
  refine g_absI (fun y0 hy0 => ?_)
  have ky0 : y0.toInt = 48 + (p'.toInt / 1) % 10 := by rw [hy0, ar_of (by omega)]; omega
  refine g_bastore X208 hx hZ Av (i := c') g0 (by first | omega | (simp only [List.length_set]; omega)) hgv (y := y0) (nar_sm (by omega) (by omega)) (pc' := 85) rfl (hD hby d30_84) (fun T209 h209 X209 W209 N209 => ?_)
  have f210 := (by have q := (Keep.of_wr W209).1; exact Nat.le_trans hn0 q : n0 ≤ h209.size)
  have f211 := (Keep.refl h0 [va]).wr W209 (Or.inl (List.mem_of_getElem? (i := 0) rfl))
  have f212 := OLD.wr W209 hgv
  refine g_iloadN X209 hx (pc' := 86) rfl (hD hby d30_85) rfl ?_
  refine g_bipush X209 hx (pc' := 88) (z := (-9 : Int32)) rfl (hD hby d30_86) rfl ?_
  refine g_icmpY X209 hx (pcY := 104) (hD hby d30_88) (by decide) (by decide) (show ¬ (-p') < (-9 : Int32) from ar_nlt' hp0 (by have e0 : (-9 : Int32).toInt = -9 := rfl; omega)) ?_
  refine g_iload X209 hx (pc' := 106) rfl (hD hby d30_104) rfl ?_
  refine g_ifY X209 hx (pcY := 118) (hD hby d30_106) (by decide) (by decide) (show (0 : Int32) = 0 from by decide) ?_
  refine g_iload X209 hx (pc' := 120) rfl (hD hby d30_118) rfl ?_
  exact g_retI X209 hx hlk hret (hD hby d30_120) (by decide) (by decide) (Nat.le_refl _) (⟨rfl, f211, y0, ky0, own_set1 hv hb ▸ N209⟩)
theorem rm27_1 (l : Launch) (Z : State) (a0 : Array Value) (hw : HW a0 Z) (ws : List Jvm.Cond) (n0 : Nat) (Ts : List String) (p' : Int32) (b va dO dT : Addr) (vs : List Value) (c' : Nat) (e0 e1 : Int32) (cz : Int32) (h0 : Heap) (hn0 : n0 ≤ h0.size) (O2 : St0 Z (.int cz)) (hcz : ¬ cz = 0) (OLD : OldP Z n0 h0) (hp0 : 0 ≤ p'.toInt) (hp1 : p'.toInt < 65536) (hl : 0 ≤ p'.toInt) (hu : p'.toInt < 10) (S1 : St1 Z (.ref dO)) (A1 : AV Z Z.heap dO .byte DOL) (S2 : St2 Z (.ref dT)) (A2 : AV Z Z.heap dT .byte DTL) (Eb : XSb Z h0 b) (hgb : n0 ≤ b) (Fbv : BV Z h0 b (.ref va)) (Fbc : BC Z h0 b (.int 0)) (Fbn : BN Z h0 b (.int e0)) (Av : AV Z h0 va .byte vs) (hgv : n0 ≤ va) (g0 : e0.toInt = (c' : Int)) (g1 : e1.toInt = ((c' + 1 : Nat) : Int)) (s1 : e1 + Int32.ofInt (-1) = e0) (hb : c' + 1 ≤ 16) (hv : vs.length = 16) (hce : e0 + (1 : Int32) = e1) :
    Con l Z n0 Ts (Ts) (⟨"java/lang/AbstractStringBuilder", "append", "(I)Ljava/lang/AbstractStringBuilder;"⟩ : MethodName) jdk_68_method_32_code 4 (some (.object "java/lang/AbstractStringBuilder")) ws ({ frames := 1, cells := 0, slots := 0, locals := 32 } : Room) #[(.ref b), (.int p')] h0 (fun v h => v = some (.ref b) ∧ Keep h0 h [b, va] ∧ ∃ y0, y0.toInt = 48 + (p'.toInt / 1) % 10 ∧ AV Z h va .byte (vs.take c' ++ [.int y0] ++ vs.drop (c' + 1)) ∧ BV Z h b (.ref va) ∧ BC Z h b (.int 0) ∧ BN Z h b (.int e1)) := by
  refine con_start (fr0 := fun m => mkF m 0 #[.val (.ref b), .val (.int p'), .unset, .unset] []) ?_
  intro p e s m below meth c T0 hx hZ hby hml hown hnm hret hlk hsh XA
  have X0 := XA n0
  have hlow : n0 ≤ s.heap.size := by rw [hsh]; exact hn0
  replace hown : s.vm.findClass "java/lang/AbstractStringBuilder" = some m.cls := hown
  replace hml : c.maxLocals = 4 := hml
  have nA213 : b ≠ va := own_neA Eb (wat hw 95 rfl) Av
  refine g_aloadN X0 hx (pc' := 1) rfl (hD hby d27_0) rfl rfl ?_
  refine g_getF X0 hx hZ hown (wat hw 127 rfl) Via.refl Fbn (pc' := 4) rfl (hD hby d27_1) (fun T214 X214 => ?_)
  refine g_istoreN X214 hx (pc' := 5) rfl (hD hby d27_4) (l' := #[.val (.ref b), .val (.int p'), .val (.int e0), .unset]) rfl ?_
  refine g_iloadN X214 hx (pc' := 6) rfl (hD hby d27_5) rfl ?_
  refine g_iloadN X214 hx (pc' := 7) rfl (hD hby d27_6) rfl ?_
  refine g_callS X214 hx hZ hown (wat hw 163 rfl) (wat hw 164 rfl) (wat hw 165 rfl) (wat hw 166 rfl) (by decide) (rm28_1 l Z a0 hw [] n0 (Ts) p' h0 hn0 hp0 hp1 hl hu) pd_17 rfl rfl (pc' := 10) rfl (hD hby d27_7) (argsL := [(.int p')]) (rest := [(.int e0)]) rfl (W := 1) (fun v215 T215 h215 X215 hQ215 => ?_)
  obtain ⟨rfl, he215⟩ := hQ215
  rw [he215] at X215
  show Go p e below s n0 _ _ _ (T215.setTop (mkF m 10 _ [(.int 1), (.int e0)]))
  refine g_iadd X215 hx (pc' := 11) rfl (hD hby d27_10) ?_
  refine g_normI (z := e1) hce ?_
  refine g_istoreN X215 hx (pc' := 12) rfl (hD hby d27_11) (l' := #[.val (.ref b), .val (.int p'), .val (.int e0), .val (.int e1)]) rfl ?_
  refine g_aloadN X215 hx (pc' := 13) rfl (hD hby d27_12) rfl rfl ?_
  refine g_iloadN X215 hx (pc' := 14) rfl (hD hby d27_13) rfl ?_
  refine g_callPS X215 hx hZ hown (wat hw 129 rfl) (wat hw 130 rfl) (wat hw 132 rfl) (wat hw 131 rfl) (wat hw 104 rfl) (wat hw 133 rfl) (by decide) (a := b) Eb (rm22 l Z a0 hw [] n0 (Ts) b va _ e1 h0 hn0 Fbv Fbc Av hv (by omega) (by omega)) pd_12 rfl rfl (pc' := 17) rfl (hD hby d27_14) (argsL := [(.int e1)]) (rest := []) rfl (W := 0) (fun v216 T216 h216 X216 hQ216 => ?_)
  obtain ⟨rfl, he216⟩ := hQ216
  rw [he216] at X216
  show Go p e below s n0 _ _ _ (T216.setTop (mkF m 17 _ []))
  refine g_aloadN X216 hx (pc' := 18) rfl (hD hby d27_17) rfl rfl ?_
  refine g_callV X216 hx hZ hown (wat hw 167 rfl) (wat hw 168 rfl) (wat hw 170 rfl) (wat hw 169 rfl) (wat hw 104 rfl) (wat hw 171 rfl) (by decide) (a := b) Eb (rm29 l Z a0 hw [] n0 (Ts) b cz h0 hn0 O2 hcz OLD Fbc) pd_6 rfl rfl (pc' := 21) rfl (hD hby d27_18) (argsL := []) (rest := []) rfl (W := 0) (fun v217 T217 h217 X217 hQ217 => ?_)
  obtain ⟨rfl, he217⟩ := hQ217
  rw [he217] at X217
  show Go p e below s n0 _ _ _ (T217.setTop (mkF m 21 _ [(.int 1)]))
  refine g_ifN X217 hx (pcN := 24) (hD hby d27_21) rfl (show ¬ ((1 : Int32) = 0) from by decide) ?_
  refine g_iloadN X217 hx (pc' := 25) rfl (hD hby d27_24) rfl ?_
  refine g_iloadN X217 hx (pc' := 26) rfl (hD hby d27_25) rfl ?_
  refine g_aloadN X217 hx (pc' := 27) rfl (hD hby d27_26) rfl rfl ?_
  refine g_getF X217 hx hZ hown (wat hw 108 rfl) Via.refl Fbv (pc' := 30) rfl (hD hby d27_27) (fun T218 X218 => ?_)
  refine g_callS X218 hx hZ hown (wat hw 172 rfl) (wat hw 173 rfl) (wat hw 165 rfl) (wat hw 174 rfl) (by decide) (rm30_1 l Z a0 hw [] n0 (Ts) p' va dO dT vs c' e0 e1 cz h0 hn0 O2 hcz OLD hp0 hp1 hl hu S1 A1 S2 A2 Av hgv g0 g1 s1 hb hv) pd_18 rfl rfl (pc' := 33) rfl (hD hby d27_30) (argsL := [(.int p'), (.int e1), (.ref va)]) (rest := []) rfl (W := 0) (fun v219 T219 h219 X219 hQ219 => ?_)
  obtain ⟨rfl, K219, y0, k0, V219⟩ := hQ219
  have f220 := (Keep.refl h0 [b, va]).trans K219 (allS (Or.inl (List.mem_of_getElem? (i := 1) rfl)) all0)
  have f221 := OLD.keep K219 (allS hgv all0)
  have f222 := Eb.keep K219
  have f223 := Fbv.keep K219 (ninS nA213 nin0)
  have f224 := Fbc.keep K219 (ninS nA213 nin0)
  have f225 := Fbn.keep K219 (ninS nA213 nin0)
  have zs219 : n0 ≤ h219.size := Nat.le_trans hn0 K219.1
  show Go p e below s n0 _ _ _ (T219.setTop (mkF m 33 _ [(.int e0)]))
  refine g_pop X219 hx (pc' := 34) rfl (hD hby d27_33) rfl ?_
  refine g_goto X219 hx (pc' := 48) (hD hby d27_34) (by decide) (by decide) ?_
  refine g_aloadN X219 hx (pc' := 49) rfl (hD hby d27_48) rfl rfl ?_
  refine g_iloadN X219 hx (pc' := 50) rfl (hD hby d27_49) rfl ?_
  refine g_putF X219 hx hZ hown (wat hw 127 rfl) Via.refl f225 f222 (Or.inl (wat hw 128 rfl)) (wat hw 95 rfl) (ty := .int) (by decide) rfl rfl hgb (pc' := 53) rfl (hD hby d27_50) (fun T226 h226 X226 W226 => ?_)
  have f227 := (by have q := (Keep.of_wr W226).1; exact Nat.le_trans zs219 q : n0 ≤ h226.size)
  have f228 := f220.wr W226 (Or.inl (List.mem_of_getElem? (i := 0) rfl))
  have f229 := f221.wr W226 hgb
  have f230 := f222.wr W226
  have f231 := f223.other W226 (Or.inr (slot_ne (Or.inl (wat hw 109 rfl)) (Or.inl (wat hw 128 rfl)) (by decide) (t := (.array .byte)) (t' := .int) (by decide) (by decide)))
  have f232 := f224.other W226 (Or.inr (slot_ne (Or.inl (wat hw 111 rfl)) (Or.inl (wat hw 128 rfl)) (by decide) (t := .byte) (t' := .int) (by decide) (by decide)))
  have f233 := f225.same W226
  have f234 := V219.other W226 nA213.symm
  refine g_aloadN X226 hx (pc' := 54) rfl (hD hby d27_53) rfl rfl ?_
  exact g_ret X226 hx hlk hret rfl (Or.inr (Or.inr (Or.inr (Or.inr ⟨rfl, rfl, rfl⟩)))) (hD hby d27_54) (by decide) (by decide) (Nat.le_refl _) (⟨rfl, f228, y0, k0, f234, f231, f232, f233⟩)
theorem rm26_1 (l : Launch) (Z : State) (a0 : Array Value) (hw : HW a0 Z) (ws : List Jvm.Cond) (n0 : Nat) (Ts : List String) (p' : Int32) (b va dO dT : Addr) (vs : List Value) (c' : Nat) (e0 e1 : Int32) (cz : Int32) (h0 : Heap) (hn0 : n0 ≤ h0.size) (O2 : St0 Z (.int cz)) (hcz : ¬ cz = 0) (OLD : OldP Z n0 h0) (hp0 : 0 ≤ p'.toInt) (hp1 : p'.toInt < 65536) (hl : 0 ≤ p'.toInt) (hu : p'.toInt < 10) (S1 : St1 Z (.ref dO)) (A1 : AV Z Z.heap dO .byte DOL) (S2 : St2 Z (.ref dT)) (A2 : AV Z Z.heap dT .byte DTL) (Eb : XSb Z h0 b) (hgb : n0 ≤ b) (Fbv : BV Z h0 b (.ref va)) (Fbc : BC Z h0 b (.int 0)) (Fbn : BN Z h0 b (.int e0)) (Av : AV Z h0 va .byte vs) (hgv : n0 ≤ va) (g0 : e0.toInt = (c' : Int)) (g1 : e1.toInt = ((c' + 1 : Nat) : Int)) (s1 : e1 + Int32.ofInt (-1) = e0) (hb : c' + 1 ≤ 16) (hv : vs.length = 16) (hce : e0 + (1 : Int32) = e1) :
    Con l Z n0 Ts (Ts) (⟨"java/lang/StringBuilder", "append", "(I)Ljava/lang/StringBuilder;"⟩ : MethodName) jdk_67_method_15_code 2 (some (.object "java/lang/StringBuilder")) ws ({ frames := 2, cells := 0, slots := 0, locals := 56 } : Room) #[(.ref b), (.int p')] h0 (fun v h => v = some (.ref b) ∧ Keep h0 h [b, va] ∧ ∃ y0, y0.toInt = 48 + (p'.toInt / 1) % 10 ∧ AV Z h va .byte (vs.take c' ++ [.int y0] ++ vs.drop (c' + 1)) ∧ BV Z h b (.ref va) ∧ BC Z h b (.int 0) ∧ BN Z h b (.int e1)) := by
  refine con_start (fr0 := fun m => mkF m 0 #[.val (.ref b), .val (.int p')] []) ?_
  intro p e s m below meth c T0 hx hZ hby hml hown hnm hret hlk hsh XA
  have X0 := XA n0
  have hlow : n0 ≤ s.heap.size := by rw [hsh]; exact hn0
  replace hown : s.vm.findClass "java/lang/StringBuilder" = some m.cls := hown
  replace hml : c.maxLocals = 2 := hml
  have nA235 : b ≠ va := own_neA Eb (wat hw 95 rfl) Av
  refine g_aloadN X0 hx (pc' := 1) rfl (hD hby d26_0) rfl rfl ?_
  refine g_iloadN X0 hx (pc' := 2) rfl (hD hby d26_1) rfl ?_
  refine g_callSup X0 hx hZ hown (by decide) (wat hw 159 rfl) (wat hw 160 rfl) (y' := ({ cls := "java/lang/AbstractStringBuilder", name := "ensureCapacityInternal", desc := "(I)V" } : Jvm.MethodName)) rfl (wat hw 132 rfl) (wat hw 119 rfl) (wat hw 104 rfl) (wat hw 162 rfl) (by decide) (a := b) Eb (rm27_1 l Z a0 hw [] n0 (Ts) p' b va dO dT vs c' e0 e1 cz h0 hn0 O2 hcz OLD hp0 hp1 hl hu S1 A1 S2 A2 Eb hgb Fbv Fbc Fbn Av hgv g0 g1 s1 hb hv hce) pd_19 rfl rfl (pc' := 5) rfl (hD hby d26_2) (argsL := [(.int p')]) (rest := []) rfl (W := 0) (fun v236 T236 h236 X236 hQ236 => ?_)
  obtain ⟨rfl, K236, y0, k0, V236, FV236, FC236, FN236⟩ := hQ236
  have f237 := (Keep.refl h0 [b, va]).trans K236 (allS (Or.inl (List.mem_of_getElem? (i := 0) rfl)) (allS (Or.inl (List.mem_of_getElem? (i := 1) rfl)) all0))
  have f238 := OLD.keep K236 (allS hgb (allS hgv all0))
  have f239 := Eb.keep K236
  have zs236 : n0 ≤ h236.size := Nat.le_trans hn0 K236.1
  show Go p e below s n0 _ _ _ (T236.setTop (mkF m 5 _ [(.ref b)]))
  refine g_pop X236 hx (pc' := 6) rfl (hD hby d26_5) rfl ?_
  refine g_aloadN X236 hx (pc' := 7) rfl (hD hby d26_6) rfl rfl ?_
  exact g_ret X236 hx hlk hret rfl (Or.inr (Or.inr (Or.inr (Or.inr ⟨rfl, rfl, rfl⟩)))) (hD hby d26_7) (by decide) (by decide) (Nat.le_refl _) (⟨rfl, f237, y0, k0, V236, FV236, FC236, FN236⟩)
theorem own_set2 {vs : List Value} {c : Nat} {y0 y1 : Value} (hv : vs.length = 16) (hb : c + 2 ≤ 16) : ((vs).set (c + 1) y0).set c y1 = vs.take c ++ [y1, y0] ++ vs.drop (c + 2) := by
  have h0 : vs.set (c + 1) y0 = vs.take (c + 1) ++ [y0] ++ vs.drop ((c + 1) + 1) := put_one (by omega)
  have h1 : (vs.take (c + 1) ++ [y0] ++ vs.drop (c + 1 + 1)).set c y1 = vs.take c ++ [y1, y0] ++ vs.drop (c + 2) := put_step (ys := [y0]) (by show c + 1 + 1 ≤ _; omega)
  rw [h0]
  rw [show vs.take (c + 1) ++ [y0] ++ vs.drop ((c + 1) + 1) = vs.take (c + 1) ++ [y0] ++ vs.drop (c + 1 + 1) from rfl, h1]
theorem rm30_2 (l : Launch) (Z : State) (a0 : Array Value) (hw : HW a0 Z) (ws : List Jvm.Cond) (n0 : Nat) (Ts : List String) (p' : Int32) (va dO dT : Addr) (vs : List Value) (c' : Nat) (e0 e1 e2 : Int32) (cz : Int32) (h0 : Heap) (hn0 : n0 ≤ h0.size) (O2 : St0 Z (.int cz)) (hcz : ¬ cz = 0) (OLD : OldP Z n0 h0) (hp0 : 0 ≤ p'.toInt) (hp1 : p'.toInt < 65536) (hl : 10 ≤ p'.toInt) (hu : p'.toInt < 100) (S1 : St1 Z (.ref dO)) (A1 : AV Z Z.heap dO .byte DOL) (S2 : St2 Z (.ref dT)) (A2 : AV Z Z.heap dT .byte DTL) (Av : AV Z h0 va .byte vs) (hgv : n0 ≤ va) (g0 : e0.toInt = (c' : Int)) (g1 : e1.toInt = ((c' + 1 : Nat) : Int)) (s1 : e1 + Int32.ofInt (-1) = e0) (g2 : e2.toInt = ((c' + 2 : Nat) : Int)) (s2 : e2 + Int32.ofInt (-1) = e1) (hb : c' + 2 ≤ 16) (hv : vs.length = 16) :
    Con l Z n0 Ts (Ts) (⟨"java/lang/Integer", "getChars", "(II[B)I"⟩ : MethodName) jdk_33_method_12_code 7 (some .int) ws ({ frames := 0, cells := 0, slots := 0, locals := 0 } : Room) #[(.int p'), (.int e2), (.ref va)] h0 (fun v h => v = some (.int e0) ∧ Keep h0 h [va] ∧ ∃ y0 y1, y0.toInt = 48 + (p'.toInt / 1) % 10 ∧ y1.toInt = 48 + (p'.toInt / 10) % 10 ∧ AV Z h va .byte (vs.take c' ++ [.int y1, .int y0] ++ vs.drop (c' + 2))) := by
  refine con_start (fr0 := fun m => mkF m 0 #[.val (.int p'), .val (.int e2), .val (.ref va), .unset, .unset, .unset, .unset] []) ?_
  intro p e s m below meth c T0 hx hZ hby hml hown hnm hret hlk hsh XA
  have X0 := XA n0
  have hlow : n0 ≤ s.heap.size := by rw [hsh]; exact hn0
  replace hown : s.vm.findClass "java/lang/Integer" = some m.cls := hown
  replace hml : c.maxLocals = 7 := hml
  refine g_iloadN X0 hx (pc' := 1) rfl (hD hby d30_0) rfl ?_
  refine g_istore X0 hx (pc' := 3) rfl (hD hby d30_1) (l' := #[.val (.int p'), .val (.int e2), .val (.ref va), .unset, .unset, .val (.int e2), .unset]) rfl ?_
  refine g_iloadN X0 hx (pc' := 4) rfl (hD hby d30_3) rfl ?_
  refine g_ifY X0 hx (pcY := 11) (hD hby d30_4) (by decide) (by decide) (show ¬ p' < 0 from ar_nneg hp0) ?_
  refine g_iconst X0 hx (pc' := 12) (z := (0 : Int32)) rfl (hD hby d30_11) rfl ?_
  refine g_istore X0 hx (pc' := 14) rfl (hD hby d30_12) (l' := #[.val (.int p'), .val (.int e2), .val (.ref va), .unset, .unset, .val (.int e2), .val (.int 0)]) rfl ?_
  refine g_iload X0 hx (pc' := 16) rfl (hD hby d30_14) rfl ?_
  refine g_ifN X0 hx (pcN := 19) (hD hby d30_16) rfl (show ¬ (¬ (0 : Int32) = 0) from by decide) ?_
  refine g_iloadN X0 hx (pc' := 20) rfl (hD hby d30_19) rfl ?_
  refine g_ineg X0 hx (pc' := 21) rfl (hD hby d30_20) ?_
  refine g_istoreN X0 hx (pc' := 22) rfl (hD hby d30_21) (l' := #[.val (.int (-p')), .val (.int e2), .val (.ref va), .unset, .unset, .val (.int e2), .val (.int 0)]) rfl ?_
  refine g_iloadN X0 hx (pc' := 23) rfl (hD hby d30_22) rfl ?_
  refine g_bipush X0 hx (pc' := 25) (z := (-100 : Int32)) rfl (hD hby d30_23) rfl ?_
  refine g_icmpY X0 hx (pcY := 72) (hD hby d30_25) (by decide) (by decide) (show (-100 : Int32) < (-p') from ar_lt hp0 (by have e0 : (-100 : Int32).toInt = -100 := rfl; omega)) ?_
  refine g_aloadN X0 hx (pc' := 73) rfl (hD hby d30_72) rfl rfl ?_
  refine g_iincC X0 hx (pc' := 76) (x := e2) (z := e1) rfl (hD hby d30_73) rfl s2 (l' := #[.val (.int (-p')), .val (.int e2), .val (.ref va), .unset, .unset, .val (.int e1), .val (.int 0)]) rfl ?_
  refine g_iload X0 hx (pc' := 78) rfl (hD hby d30_76) rfl ?_
  refine g_getS X0 hx hZ hown (wat hw 175 rfl) Via.refl (Sta.ext OLD.2 S1) (pc' := 81) rfl (hD hby d30_78) (fun T240 X240 => ?_)
  refine g_iloadN X240 hx (pc' := 82) rfl (hD hby d30_81) rfl ?_
  refine g_ineg X240 hx (pc' := 83) rfl (hD hby d30_82) ?_
  refine g_normI (z := p') ar_nn ?_
  have by0 : p'.toInt.toNat < 100 := by omega
  refine g_baload X240 hx hZ (AV.ext A1 OLD.2) (i := p'.toInt.toNat) (by omega) (by rw [dol_len]; exact by0) (x := Int32.ofNat (48 + p'.toInt.toNat % 10)) (dol_get by0) (pc' := 84) rfl (hD hby d30_83) ?_
  refine g_absI (fun y0 hy0 => ?_)
  have ky0 : y0.toInt = 48 + (p'.toInt / 1) % 10 := by rw [hy0, ar_of (by omega)]; omega
  refine g_bastore X240 hx hZ Av (i := c' + 1) g1 (by first | omega | (simp only [List.length_set]; omega)) hgv (y := y0) (nar_sm (by omega) (by omega)) (pc' := 85) rfl (hD hby d30_84) (fun T241 h241 X241 W241 N241 => ?_)
  have f242 := (by have q := (Keep.of_wr W241).1; exact Nat.le_trans hn0 q : n0 ≤ h241.size)
  have f243 := (Keep.refl h0 [va]).wr W241 (Or.inl (List.mem_of_getElem? (i := 0) rfl))
  have f244 := OLD.wr W241 hgv
  refine g_iloadN X241 hx (pc' := 86) rfl (hD hby d30_85) rfl ?_
  refine g_bipush X241 hx (pc' := 88) (z := (-9 : Int32)) rfl (hD hby d30_86) rfl ?_
  refine g_icmpN X241 hx (pcN := 91) (hD hby d30_88) rfl (show ¬ (¬ (-p') < (-9 : Int32)) from not_not_intro (ar_lt' hp0 (by have e0 : (-9 : Int32).toInt = -9 := rfl; omega))) ?_
  refine g_aloadN X241 hx (pc' := 92) rfl (hD hby d30_91) rfl rfl ?_
  refine g_iincC X241 hx (pc' := 95) (x := e1) (z := e0) rfl (hD hby d30_92) rfl s1 (l' := #[.val (.int (-p')), .val (.int e2), .val (.ref va), .unset, .unset, .val (.int e0), .val (.int 0)]) rfl ?_
  refine g_iload X241 hx (pc' := 97) rfl (hD hby d30_95) rfl ?_
  refine g_getS X241 hx hZ hown (wat hw 238 rfl) Via.refl (Sta.ext f244.2 S2) (pc' := 100) rfl (hD hby d30_97) (fun T245 X245 => ?_)
  refine g_iloadN X245 hx (pc' := 101) rfl (hD hby d30_100) rfl ?_
  refine g_ineg X245 hx (pc' := 102) rfl (hD hby d30_101) ?_
  refine g_normI (z := p') ar_nn ?_
  have by1 : p'.toInt.toNat < 100 := by omega
  refine g_baload X245 hx hZ (AV.ext A2 f244.2) (i := p'.toInt.toNat) (by omega) (by rw [dtl_len]; exact by1) (x := Int32.ofNat (48 + p'.toInt.toNat / 10)) (dtl_get by1) (pc' := 103) rfl (hD hby d30_102) ?_
  refine g_absI (fun y1 hy1 => ?_)
  have ky1 : y1.toInt = 48 + (p'.toInt / 10) % 10 := by rw [hy1, ar_of (by omega)]; omega
  refine g_bastore X245 hx hZ N241 (i := c') g0 (by first | omega | (simp only [List.length_set]; omega)) hgv (y := y1) (nar_sm (by omega) (by omega)) (pc' := 104) rfl (hD hby d30_103) (fun T246 h246 X246 W246 N246 => ?_)
  have f247 := (by have q := (Keep.of_wr W246).1; exact Nat.le_trans f242 q : n0 ≤ h246.size)
  have f248 := f243.wr W246 (Or.inl (List.mem_of_getElem? (i := 0) rfl))
  have f249 := f244.wr W246 hgv
  refine g_iload X246 hx (pc' := 106) rfl (hD hby d30_104) rfl ?_
  refine g_ifY X246 hx (pcY := 118) (hD hby d30_106) (by decide) (by decide) (show (0 : Int32) = 0 from by decide) ?_
  refine g_iload X246 hx (pc' := 120) rfl (hD hby d30_118) rfl ?_
  exact g_retI X246 hx hlk hret (hD hby d30_120) (by decide) (by decide) (Nat.le_refl _) (⟨rfl, f248, y0, y1, ky0, ky1, own_set2 hv hb ▸ N246⟩)
theorem rm27_2 (l : Launch) (Z : State) (a0 : Array Value) (hw : HW a0 Z) (ws : List Jvm.Cond) (n0 : Nat) (Ts : List String) (p' : Int32) (b va dO dT : Addr) (vs : List Value) (c' : Nat) (e0 e1 e2 : Int32) (cz : Int32) (h0 : Heap) (hn0 : n0 ≤ h0.size) (O2 : St0 Z (.int cz)) (hcz : ¬ cz = 0) (OLD : OldP Z n0 h0) (hp0 : 0 ≤ p'.toInt) (hp1 : p'.toInt < 65536) (hl : 10 ≤ p'.toInt) (hu : p'.toInt < 100) (S1 : St1 Z (.ref dO)) (A1 : AV Z Z.heap dO .byte DOL) (S2 : St2 Z (.ref dT)) (A2 : AV Z Z.heap dT .byte DTL) (Eb : XSb Z h0 b) (hgb : n0 ≤ b) (Fbv : BV Z h0 b (.ref va)) (Fbc : BC Z h0 b (.int 0)) (Fbn : BN Z h0 b (.int e0)) (Av : AV Z h0 va .byte vs) (hgv : n0 ≤ va) (g0 : e0.toInt = (c' : Int)) (g1 : e1.toInt = ((c' + 1 : Nat) : Int)) (s1 : e1 + Int32.ofInt (-1) = e0) (g2 : e2.toInt = ((c' + 2 : Nat) : Int)) (s2 : e2 + Int32.ofInt (-1) = e1) (hb : c' + 2 ≤ 16) (hv : vs.length = 16) (hce : e0 + (2 : Int32) = e2) :
    Con l Z n0 Ts (Ts) (⟨"java/lang/AbstractStringBuilder", "append", "(I)Ljava/lang/AbstractStringBuilder;"⟩ : MethodName) jdk_68_method_32_code 4 (some (.object "java/lang/AbstractStringBuilder")) ws ({ frames := 1, cells := 0, slots := 0, locals := 32 } : Room) #[(.ref b), (.int p')] h0 (fun v h => v = some (.ref b) ∧ Keep h0 h [b, va] ∧ ∃ y0 y1, y0.toInt = 48 + (p'.toInt / 1) % 10 ∧ y1.toInt = 48 + (p'.toInt / 10) % 10 ∧ AV Z h va .byte (vs.take c' ++ [.int y1, .int y0] ++ vs.drop (c' + 2)) ∧ BV Z h b (.ref va) ∧ BC Z h b (.int 0) ∧ BN Z h b (.int e2)) := by
  refine con_start (fr0 := fun m => mkF m 0 #[.val (.ref b), .val (.int p'), .unset, .unset] []) ?_
  intro p e s m below meth c T0 hx hZ hby hml hown hnm hret hlk hsh XA
  have X0 := XA n0
  have hlow : n0 ≤ s.heap.size := by rw [hsh]; exact hn0
  replace hown : s.vm.findClass "java/lang/AbstractStringBuilder" = some m.cls := hown
  replace hml : c.maxLocals = 4 := hml
  have nA250 : b ≠ va := own_neA Eb (wat hw 95 rfl) Av
  refine g_aloadN X0 hx (pc' := 1) rfl (hD hby d27_0) rfl rfl ?_
  refine g_getF X0 hx hZ hown (wat hw 127 rfl) Via.refl Fbn (pc' := 4) rfl (hD hby d27_1) (fun T251 X251 => ?_)
  refine g_istoreN X251 hx (pc' := 5) rfl (hD hby d27_4) (l' := #[.val (.ref b), .val (.int p'), .val (.int e0), .unset]) rfl ?_
  refine g_iloadN X251 hx (pc' := 6) rfl (hD hby d27_5) rfl ?_
  refine g_iloadN X251 hx (pc' := 7) rfl (hD hby d27_6) rfl ?_
  refine g_callS X251 hx hZ hown (wat hw 163 rfl) (wat hw 164 rfl) (wat hw 165 rfl) (wat hw 166 rfl) (by decide) (rm28_2 l Z a0 hw [] n0 (Ts) p' h0 hn0 hp0 hp1 hl hu) pd_17 rfl rfl (pc' := 10) rfl (hD hby d27_7) (argsL := [(.int p')]) (rest := [(.int e0)]) rfl (W := 1) (fun v252 T252 h252 X252 hQ252 => ?_)
  obtain ⟨rfl, he252⟩ := hQ252
  rw [he252] at X252
  show Go p e below s n0 _ _ _ (T252.setTop (mkF m 10 _ [(.int 2), (.int e0)]))
  refine g_iadd X252 hx (pc' := 11) rfl (hD hby d27_10) ?_
  refine g_normI (z := e2) hce ?_
  refine g_istoreN X252 hx (pc' := 12) rfl (hD hby d27_11) (l' := #[.val (.ref b), .val (.int p'), .val (.int e0), .val (.int e2)]) rfl ?_
  refine g_aloadN X252 hx (pc' := 13) rfl (hD hby d27_12) rfl rfl ?_
  refine g_iloadN X252 hx (pc' := 14) rfl (hD hby d27_13) rfl ?_
  refine g_callPS X252 hx hZ hown (wat hw 129 rfl) (wat hw 130 rfl) (wat hw 132 rfl) (wat hw 131 rfl) (wat hw 104 rfl) (wat hw 133 rfl) (by decide) (a := b) Eb (rm22 l Z a0 hw [] n0 (Ts) b va _ e2 h0 hn0 Fbv Fbc Av hv (by omega) (by omega)) pd_12 rfl rfl (pc' := 17) rfl (hD hby d27_14) (argsL := [(.int e2)]) (rest := []) rfl (W := 0) (fun v253 T253 h253 X253 hQ253 => ?_)
  obtain ⟨rfl, he253⟩ := hQ253
  rw [he253] at X253
  show Go p e below s n0 _ _ _ (T253.setTop (mkF m 17 _ []))
  refine g_aloadN X253 hx (pc' := 18) rfl (hD hby d27_17) rfl rfl ?_
  refine g_callV X253 hx hZ hown (wat hw 167 rfl) (wat hw 168 rfl) (wat hw 170 rfl) (wat hw 169 rfl) (wat hw 104 rfl) (wat hw 171 rfl) (by decide) (a := b) Eb (rm29 l Z a0 hw [] n0 (Ts) b cz h0 hn0 O2 hcz OLD Fbc) pd_6 rfl rfl (pc' := 21) rfl (hD hby d27_18) (argsL := []) (rest := []) rfl (W := 0) (fun v254 T254 h254 X254 hQ254 => ?_)
  obtain ⟨rfl, he254⟩ := hQ254
  rw [he254] at X254
  show Go p e below s n0 _ _ _ (T254.setTop (mkF m 21 _ [(.int 1)]))
  refine g_ifN X254 hx (pcN := 24) (hD hby d27_21) rfl (show ¬ ((1 : Int32) = 0) from by decide) ?_
  refine g_iloadN X254 hx (pc' := 25) rfl (hD hby d27_24) rfl ?_
  refine g_iloadN X254 hx (pc' := 26) rfl (hD hby d27_25) rfl ?_
  refine g_aloadN X254 hx (pc' := 27) rfl (hD hby d27_26) rfl rfl ?_
  refine g_getF X254 hx hZ hown (wat hw 108 rfl) Via.refl Fbv (pc' := 30) rfl (hD hby d27_27) (fun T255 X255 => ?_)
  refine g_callS X255 hx hZ hown (wat hw 172 rfl) (wat hw 173 rfl) (wat hw 165 rfl) (wat hw 174 rfl) (by decide) (rm30_2 l Z a0 hw [] n0 (Ts) p' va dO dT vs c' e0 e1 e2 cz h0 hn0 O2 hcz OLD hp0 hp1 hl hu S1 A1 S2 A2 Av hgv g0 g1 s1 g2 s2 hb hv) pd_18 rfl rfl (pc' := 33) rfl (hD hby d27_30) (argsL := [(.int p'), (.int e2), (.ref va)]) (rest := []) rfl (W := 0) (fun v256 T256 h256 X256 hQ256 => ?_)
  obtain ⟨rfl, K256, y0, y1, k0, k1, V256⟩ := hQ256
  have f257 := (Keep.refl h0 [b, va]).trans K256 (allS (Or.inl (List.mem_of_getElem? (i := 1) rfl)) all0)
  have f258 := OLD.keep K256 (allS hgv all0)
  have f259 := Eb.keep K256
  have f260 := Fbv.keep K256 (ninS nA250 nin0)
  have f261 := Fbc.keep K256 (ninS nA250 nin0)
  have f262 := Fbn.keep K256 (ninS nA250 nin0)
  have zs256 : n0 ≤ h256.size := Nat.le_trans hn0 K256.1
  show Go p e below s n0 _ _ _ (T256.setTop (mkF m 33 _ [(.int e0)]))
  refine g_pop X256 hx (pc' := 34) rfl (hD hby d27_33) rfl ?_
  refine g_goto X256 hx (pc' := 48) (hD hby d27_34) (by decide) (by decide) ?_
  refine g_aloadN X256 hx (pc' := 49) rfl (hD hby d27_48) rfl rfl ?_
  refine g_iloadN X256 hx (pc' := 50) rfl (hD hby d27_49) rfl ?_
  refine g_putF X256 hx hZ hown (wat hw 127 rfl) Via.refl f262 f259 (Or.inl (wat hw 128 rfl)) (wat hw 95 rfl) (ty := .int) (by decide) rfl rfl hgb (pc' := 53) rfl (hD hby d27_50) (fun T263 h263 X263 W263 => ?_)
  have f264 := (by have q := (Keep.of_wr W263).1; exact Nat.le_trans zs256 q : n0 ≤ h263.size)
  have f265 := f257.wr W263 (Or.inl (List.mem_of_getElem? (i := 0) rfl))
  have f266 := f258.wr W263 hgb
  have f267 := f259.wr W263
  have f268 := f260.other W263 (Or.inr (slot_ne (Or.inl (wat hw 109 rfl)) (Or.inl (wat hw 128 rfl)) (by decide) (t := (.array .byte)) (t' := .int) (by decide) (by decide)))
  have f269 := f261.other W263 (Or.inr (slot_ne (Or.inl (wat hw 111 rfl)) (Or.inl (wat hw 128 rfl)) (by decide) (t := .byte) (t' := .int) (by decide) (by decide)))
  have f270 := f262.same W263
  have f271 := V256.other W263 nA250.symm
  refine g_aloadN X263 hx (pc' := 54) rfl (hD hby d27_53) rfl rfl ?_
  exact g_ret X263 hx hlk hret rfl (Or.inr (Or.inr (Or.inr (Or.inr ⟨rfl, rfl, rfl⟩)))) (hD hby d27_54) (by decide) (by decide) (Nat.le_refl _) (⟨rfl, f265, y0, y1, k0, k1, f271, f268, f269, f270⟩)
theorem rm26_2 (l : Launch) (Z : State) (a0 : Array Value) (hw : HW a0 Z) (ws : List Jvm.Cond) (n0 : Nat) (Ts : List String) (p' : Int32) (b va dO dT : Addr) (vs : List Value) (c' : Nat) (e0 e1 e2 : Int32) (cz : Int32) (h0 : Heap) (hn0 : n0 ≤ h0.size) (O2 : St0 Z (.int cz)) (hcz : ¬ cz = 0) (OLD : OldP Z n0 h0) (hp0 : 0 ≤ p'.toInt) (hp1 : p'.toInt < 65536) (hl : 10 ≤ p'.toInt) (hu : p'.toInt < 100) (S1 : St1 Z (.ref dO)) (A1 : AV Z Z.heap dO .byte DOL) (S2 : St2 Z (.ref dT)) (A2 : AV Z Z.heap dT .byte DTL) (Eb : XSb Z h0 b) (hgb : n0 ≤ b) (Fbv : BV Z h0 b (.ref va)) (Fbc : BC Z h0 b (.int 0)) (Fbn : BN Z h0 b (.int e0)) (Av : AV Z h0 va .byte vs) (hgv : n0 ≤ va) (g0 : e0.toInt = (c' : Int)) (g1 : e1.toInt = ((c' + 1 : Nat) : Int)) (s1 : e1 + Int32.ofInt (-1) = e0) (g2 : e2.toInt = ((c' + 2 : Nat) : Int)) (s2 : e2 + Int32.ofInt (-1) = e1) (hb : c' + 2 ≤ 16) (hv : vs.length = 16) (hce : e0 + (2 : Int32) = e2) :
    Con l Z n0 Ts (Ts) (⟨"java/lang/StringBuilder", "append", "(I)Ljava/lang/StringBuilder;"⟩ : MethodName) jdk_67_method_15_code 2 (some (.object "java/lang/StringBuilder")) ws ({ frames := 2, cells := 0, slots := 0, locals := 56 } : Room) #[(.ref b), (.int p')] h0 (fun v h => v = some (.ref b) ∧ Keep h0 h [b, va] ∧ ∃ y0 y1, y0.toInt = 48 + (p'.toInt / 1) % 10 ∧ y1.toInt = 48 + (p'.toInt / 10) % 10 ∧ AV Z h va .byte (vs.take c' ++ [.int y1, .int y0] ++ vs.drop (c' + 2)) ∧ BV Z h b (.ref va) ∧ BC Z h b (.int 0) ∧ BN Z h b (.int e2)) := by
  refine con_start (fr0 := fun m => mkF m 0 #[.val (.ref b), .val (.int p')] []) ?_
  intro p e s m below meth c T0 hx hZ hby hml hown hnm hret hlk hsh XA
  have X0 := XA n0
  have hlow : n0 ≤ s.heap.size := by rw [hsh]; exact hn0
  replace hown : s.vm.findClass "java/lang/StringBuilder" = some m.cls := hown
  replace hml : c.maxLocals = 2 := hml
  have nA272 : b ≠ va := own_neA Eb (wat hw 95 rfl) Av
  refine g_aloadN X0 hx (pc' := 1) rfl (hD hby d26_0) rfl rfl ?_
  refine g_iloadN X0 hx (pc' := 2) rfl (hD hby d26_1) rfl ?_
  refine g_callSup X0 hx hZ hown (by decide) (wat hw 159 rfl) (wat hw 160 rfl) (y' := ({ cls := "java/lang/AbstractStringBuilder", name := "ensureCapacityInternal", desc := "(I)V" } : Jvm.MethodName)) rfl (wat hw 132 rfl) (wat hw 119 rfl) (wat hw 104 rfl) (wat hw 162 rfl) (by decide) (a := b) Eb (rm27_2 l Z a0 hw [] n0 (Ts) p' b va dO dT vs c' e0 e1 e2 cz h0 hn0 O2 hcz OLD hp0 hp1 hl hu S1 A1 S2 A2 Eb hgb Fbv Fbc Fbn Av hgv g0 g1 s1 g2 s2 hb hv hce) pd_19 rfl rfl (pc' := 5) rfl (hD hby d26_2) (argsL := [(.int p')]) (rest := []) rfl (W := 0) (fun v273 T273 h273 X273 hQ273 => ?_)
  obtain ⟨rfl, K273, y0, y1, k0, k1, V273, FV273, FC273, FN273⟩ := hQ273
  have f274 := (Keep.refl h0 [b, va]).trans K273 (allS (Or.inl (List.mem_of_getElem? (i := 0) rfl)) (allS (Or.inl (List.mem_of_getElem? (i := 1) rfl)) all0))
  have f275 := OLD.keep K273 (allS hgb (allS hgv all0))
  have f276 := Eb.keep K273
  have zs273 : n0 ≤ h273.size := Nat.le_trans hn0 K273.1
  show Go p e below s n0 _ _ _ (T273.setTop (mkF m 5 _ [(.ref b)]))
  refine g_pop X273 hx (pc' := 6) rfl (hD hby d26_5) rfl ?_
  refine g_aloadN X273 hx (pc' := 7) rfl (hD hby d26_6) rfl rfl ?_
  exact g_ret X273 hx hlk hret rfl (Or.inr (Or.inr (Or.inr (Or.inr ⟨rfl, rfl, rfl⟩)))) (hD hby d26_7) (by decide) (by decide) (Nat.le_refl _) (⟨rfl, f274, y0, y1, k0, k1, V273, FV273, FC273, FN273⟩)
theorem own_set3 {vs : List Value} {c : Nat} {y0 y1 y2 : Value} (hv : vs.length = 16) (hb : c + 3 ≤ 16) : (((vs).set (c + 2) y0).set (c + 1) y1).set c y2 = vs.take c ++ [y2, y1, y0] ++ vs.drop (c + 3) := by
  have h0 : vs.set (c + 2) y0 = vs.take (c + 2) ++ [y0] ++ vs.drop ((c + 2) + 1) := put_one (by omega)
  have h1 : (vs.take ((c + 1) + 1) ++ [y0] ++ vs.drop ((c + 1) + 1 + 1)).set (c + 1) y1 = vs.take (c + 1) ++ [y1, y0] ++ vs.drop ((c + 1) + 2) := put_step (ys := [y0]) (by show (c + 1) + 1 + 1 ≤ _; omega)
  have h2 : (vs.take (c + 1) ++ [y1, y0] ++ vs.drop (c + 1 + 2)).set c y2 = vs.take c ++ [y2, y1, y0] ++ vs.drop (c + 3) := put_step (ys := [y1, y0]) (by show c + 1 + 2 ≤ _; omega)
  rw [h0]
  rw [show vs.take (c + 2) ++ [y0] ++ vs.drop ((c + 2) + 1) = vs.take ((c + 1) + 1) ++ [y0] ++ vs.drop ((c + 1) + 1 + 1) from rfl, h1]
  rw [show vs.take (c + 1) ++ [y1, y0] ++ vs.drop ((c + 1) + 2) = vs.take (c + 1) ++ [y1, y0] ++ vs.drop (c + 1 + 2) from rfl, h2]
theorem rm30_3 (l : Launch) (Z : State) (a0 : Array Value) (hw : HW a0 Z) (ws : List Jvm.Cond) (n0 : Nat) (Ts : List String) (p' : Int32) (va dO dT : Addr) (vs : List Value) (c' : Nat) (e0 e1 e2 e3 : Int32) (cz : Int32) (h0 : Heap) (hn0 : n0 ≤ h0.size) (O2 : St0 Z (.int cz)) (hcz : ¬ cz = 0) (OLD : OldP Z n0 h0) (hp0 : 0 ≤ p'.toInt) (hp1 : p'.toInt < 65536) (hl : 100 ≤ p'.toInt) (hu : p'.toInt < 1000) (S1 : St1 Z (.ref dO)) (A1 : AV Z Z.heap dO .byte DOL) (S2 : St2 Z (.ref dT)) (A2 : AV Z Z.heap dT .byte DTL) (Av : AV Z h0 va .byte vs) (hgv : n0 ≤ va) (g0 : e0.toInt = (c' : Int)) (g1 : e1.toInt = ((c' + 1 : Nat) : Int)) (s1 : e1 + Int32.ofInt (-1) = e0) (g2 : e2.toInt = ((c' + 2 : Nat) : Int)) (s2 : e2 + Int32.ofInt (-1) = e1) (g3 : e3.toInt = ((c' + 3 : Nat) : Int)) (s3 : e3 + Int32.ofInt (-1) = e2) (hb : c' + 3 ≤ 16) (hv : vs.length = 16) :
    Con l Z n0 Ts (Ts) (⟨"java/lang/Integer", "getChars", "(II[B)I"⟩ : MethodName) jdk_33_method_12_code 7 (some .int) ws ({ frames := 0, cells := 0, slots := 0, locals := 0 } : Room) #[(.int p'), (.int e3), (.ref va)] h0 (fun v h => v = some (.int e0) ∧ Keep h0 h [va] ∧ ∃ y0 y1 y2, y0.toInt = 48 + (p'.toInt / 1) % 10 ∧ y1.toInt = 48 + (p'.toInt / 10) % 10 ∧ y2.toInt = 48 + (p'.toInt / 100) % 10 ∧ AV Z h va .byte (vs.take c' ++ [.int y2, .int y1, .int y0] ++ vs.drop (c' + 3))) := by
  refine con_start (fr0 := fun m => mkF m 0 #[.val (.int p'), .val (.int e3), .val (.ref va), .unset, .unset, .unset, .unset] []) ?_
  intro p e s m below meth c T0 hx hZ hby hml hown hnm hret hlk hsh XA
  have X0 := XA n0
  have hlow : n0 ≤ s.heap.size := by rw [hsh]; exact hn0
  replace hown : s.vm.findClass "java/lang/Integer" = some m.cls := hown
  replace hml : c.maxLocals = 7 := hml
  refine g_iloadN X0 hx (pc' := 1) rfl (hD hby d30_0) rfl ?_
  refine g_istore X0 hx (pc' := 3) rfl (hD hby d30_1) (l' := #[.val (.int p'), .val (.int e3), .val (.ref va), .unset, .unset, .val (.int e3), .unset]) rfl ?_
  refine g_iloadN X0 hx (pc' := 4) rfl (hD hby d30_3) rfl ?_
  refine g_ifY X0 hx (pcY := 11) (hD hby d30_4) (by decide) (by decide) (show ¬ p' < 0 from ar_nneg hp0) ?_
  refine g_iconst X0 hx (pc' := 12) (z := (0 : Int32)) rfl (hD hby d30_11) rfl ?_
  refine g_istore X0 hx (pc' := 14) rfl (hD hby d30_12) (l' := #[.val (.int p'), .val (.int e3), .val (.ref va), .unset, .unset, .val (.int e3), .val (.int 0)]) rfl ?_
  refine g_iload X0 hx (pc' := 16) rfl (hD hby d30_14) rfl ?_
  refine g_ifN X0 hx (pcN := 19) (hD hby d30_16) rfl (show ¬ (¬ (0 : Int32) = 0) from by decide) ?_
  refine g_iloadN X0 hx (pc' := 20) rfl (hD hby d30_19) rfl ?_
  refine g_ineg X0 hx (pc' := 21) rfl (hD hby d30_20) ?_
  refine g_istoreN X0 hx (pc' := 22) rfl (hD hby d30_21) (l' := #[.val (.int (-p')), .val (.int e3), .val (.ref va), .unset, .unset, .val (.int e3), .val (.int 0)]) rfl ?_
  refine g_iloadN X0 hx (pc' := 23) rfl (hD hby d30_22) rfl ?_
  refine g_bipush X0 hx (pc' := 25) (z := (-100 : Int32)) rfl (hD hby d30_23) rfl ?_
  refine g_icmpN X0 hx (pcN := 28) (hD hby d30_25) rfl (show ¬ ((-100 : Int32) < (-p')) from ar_nlt hp0 (by have e0 : (-100 : Int32).toInt = -100 := rfl; omega)) ?_
  refine g_iloadN X0 hx (pc' := 29) rfl (hD hby d30_28) rfl ?_
  refine g_bipush X0 hx (pc' := 31) (z := (100 : Int32)) rfl (hD hby d30_29) rfl ?_
  refine g_idiv X0 hx (pc' := 32) rfl (hD hby d30_31) (by decide) ?_
  obtain ⟨q2, eq2⟩ : ∃ z : Int32, z = p' / 100 := ⟨_, rfl⟩
  have fq2 : q2.toInt = p'.toInt / 100 := by rw [eq2]; exact ar_div hp0 (by decide)
  have nq2 : 0 ≤ q2.toInt := by omega
  refine g_normI (z := (-q2)) (by rw [eq2]; exact ar_ndiv hp0 (by decide)) ?_
  refine g_istoreN X0 hx (pc' := 33) rfl (hD hby d30_32) (l' := #[.val (.int (-p')), .val (.int e3), .val (.ref va), .val (.int (-q2)), .unset, .val (.int e3), .val (.int 0)]) rfl ?_
  refine g_iloadN X0 hx (pc' := 34) rfl (hD hby d30_33) rfl ?_
  refine g_bipush X0 hx (pc' := 36) (z := (100 : Int32)) rfl (hD hby d30_34) rfl ?_
  refine g_imul X0 hx (pc' := 37) rfl (hD hby d30_36) ?_
  refine g_iloadN X0 hx (pc' := 38) rfl (hD hby d30_37) rfl ?_
  refine g_isub X0 hx (pc' := 39) rfl (hD hby d30_38) ?_
  obtain ⟨r2, er2⟩ : ∃ z : Int32, z = p' % 100 := ⟨_, rfl⟩
  have fr2 : r2.toInt = p'.toInt % 100 := by rw [er2]; exact ar_mod hp0
  refine g_normI (z := r2) (by rw [eq2, er2]; exact ar_rem hp0 (by omega)) ?_
  refine g_istore X0 hx (pc' := 41) rfl (hD hby d30_39) (l' := #[.val (.int (-p')), .val (.int e3), .val (.ref va), .val (.int (-q2)), .val (.int r2), .val (.int e3), .val (.int 0)]) rfl ?_
  refine g_iloadN X0 hx (pc' := 42) rfl (hD hby d30_41) rfl ?_
  refine g_istoreN X0 hx (pc' := 43) rfl (hD hby d30_42) (l' := #[.val (.int (-q2)), .val (.int e3), .val (.ref va), .val (.int (-q2)), .val (.int r2), .val (.int e3), .val (.int 0)]) rfl ?_
  refine g_aloadN X0 hx (pc' := 44) rfl (hD hby d30_43) rfl rfl ?_
  refine g_iincC X0 hx (pc' := 47) (x := e3) (z := e2) rfl (hD hby d30_44) rfl s3 (l' := #[.val (.int (-q2)), .val (.int e3), .val (.ref va), .val (.int (-q2)), .val (.int r2), .val (.int e2), .val (.int 0)]) rfl ?_
  refine g_iload X0 hx (pc' := 49) rfl (hD hby d30_47) rfl ?_
  refine g_getS X0 hx hZ hown (wat hw 175 rfl) Via.refl (Sta.ext OLD.2 S1) (pc' := 52) rfl (hD hby d30_49) (fun T277 X277 => ?_)
  refine g_iload X277 hx (pc' := 54) rfl (hD hby d30_52) rfl ?_
  have by0 : r2.toInt.toNat < 100 := by omega
  refine g_baload X277 hx hZ (AV.ext A1 OLD.2) (i := r2.toInt.toNat) (by omega) (by rw [dol_len]; exact by0) (x := Int32.ofNat (48 + r2.toInt.toNat % 10)) (dol_get by0) (pc' := 55) rfl (hD hby d30_54) ?_
  refine g_absI (fun y0 hy0 => ?_)
  have ky0 : y0.toInt = 48 + (p'.toInt / 1) % 10 := by rw [hy0, ar_of (by omega)]; omega
  refine g_bastore X277 hx hZ Av (i := c' + 2) g2 (by first | omega | (simp only [List.length_set]; omega)) hgv (y := y0) (nar_sm (by omega) (by omega)) (pc' := 56) rfl (hD hby d30_55) (fun T278 h278 X278 W278 N278 => ?_)
  have f279 := (by have q := (Keep.of_wr W278).1; exact Nat.le_trans hn0 q : n0 ≤ h278.size)
  have f280 := (Keep.refl h0 [va]).wr W278 (Or.inl (List.mem_of_getElem? (i := 0) rfl))
  have f281 := OLD.wr W278 hgv
  refine g_aloadN X278 hx (pc' := 57) rfl (hD hby d30_56) rfl rfl ?_
  refine g_iincC X278 hx (pc' := 60) (x := e2) (z := e1) rfl (hD hby d30_57) rfl s2 (l' := #[.val (.int (-q2)), .val (.int e3), .val (.ref va), .val (.int (-q2)), .val (.int r2), .val (.int e1), .val (.int 0)]) rfl ?_
  refine g_iload X278 hx (pc' := 62) rfl (hD hby d30_60) rfl ?_
  refine g_getS X278 hx hZ hown (wat hw 238 rfl) Via.refl (Sta.ext f281.2 S2) (pc' := 65) rfl (hD hby d30_62) (fun T282 X282 => ?_)
  refine g_iload X282 hx (pc' := 67) rfl (hD hby d30_65) rfl ?_
  have by1 : r2.toInt.toNat < 100 := by omega
  refine g_baload X282 hx hZ (AV.ext A2 f281.2) (i := r2.toInt.toNat) (by omega) (by rw [dtl_len]; exact by1) (x := Int32.ofNat (48 + r2.toInt.toNat / 10)) (dtl_get by1) (pc' := 68) rfl (hD hby d30_67) ?_
  refine g_absI (fun y1 hy1 => ?_)
  have ky1 : y1.toInt = 48 + (p'.toInt / 10) % 10 := by rw [hy1, ar_of (by omega)]; omega
  refine g_bastore X282 hx hZ N278 (i := c' + 1) g1 (by first | omega | (simp only [List.length_set]; omega)) hgv (y := y1) (nar_sm (by omega) (by omega)) (pc' := 69) rfl (hD hby d30_68) (fun T283 h283 X283 W283 N283 => ?_)
  have f284 := (by have q := (Keep.of_wr W283).1; exact Nat.le_trans f279 q : n0 ≤ h283.size)
  have f285 := f280.wr W283 (Or.inl (List.mem_of_getElem? (i := 0) rfl))
  have f286 := f281.wr W283 hgv
  refine g_goto X283 hx (pc' := 22) (hD hby d30_69) (by decide) (by decide) ?_
  refine g_iloadN X283 hx (pc' := 23) rfl (hD hby d30_22) rfl ?_
  refine g_bipush X283 hx (pc' := 25) (z := (-100 : Int32)) rfl (hD hby d30_23) rfl ?_
  refine g_icmpY X283 hx (pcY := 72) (hD hby d30_25) (by decide) (by decide) (show (-100 : Int32) < (-q2) from ar_lt nq2 (by have e0 : (-100 : Int32).toInt = -100 := rfl; omega)) ?_
  refine g_aloadN X283 hx (pc' := 73) rfl (hD hby d30_72) rfl rfl ?_
  refine g_iincC X283 hx (pc' := 76) (x := e1) (z := e0) rfl (hD hby d30_73) rfl s1 (l' := #[.val (.int (-q2)), .val (.int e3), .val (.ref va), .val (.int (-q2)), .val (.int r2), .val (.int e0), .val (.int 0)]) rfl ?_
  refine g_iload X283 hx (pc' := 78) rfl (hD hby d30_76) rfl ?_
  refine g_getS X283 hx hZ hown (wat hw 175 rfl) Via.refl (Sta.ext f286.2 S1) (pc' := 81) rfl (hD hby d30_78) (fun T287 X287 => ?_)
  refine g_iloadN X287 hx (pc' := 82) rfl (hD hby d30_81) rfl ?_
  refine g_ineg X287 hx (pc' := 83) rfl (hD hby d30_82) ?_
  refine g_normI (z := q2) ar_nn ?_
  have by2 : q2.toInt.toNat < 100 := by omega
  refine g_baload X287 hx hZ (AV.ext A1 f286.2) (i := q2.toInt.toNat) (by omega) (by rw [dol_len]; exact by2) (x := Int32.ofNat (48 + q2.toInt.toNat % 10)) (dol_get by2) (pc' := 84) rfl (hD hby d30_83) ?_
  refine g_absI (fun y2 hy2 => ?_)
  have ky2 : y2.toInt = 48 + (p'.toInt / 100) % 10 := by rw [hy2, ar_of (by omega)]; omega
  refine g_bastore X287 hx hZ N283 (i := c') g0 (by first | omega | (simp only [List.length_set]; omega)) hgv (y := y2) (nar_sm (by omega) (by omega)) (pc' := 85) rfl (hD hby d30_84) (fun T288 h288 X288 W288 N288 => ?_)
  have f289 := (by have q := (Keep.of_wr W288).1; exact Nat.le_trans f284 q : n0 ≤ h288.size)
  have f290 := f285.wr W288 (Or.inl (List.mem_of_getElem? (i := 0) rfl))
  have f291 := f286.wr W288 hgv
  refine g_iloadN X288 hx (pc' := 86) rfl (hD hby d30_85) rfl ?_
  refine g_bipush X288 hx (pc' := 88) (z := (-9 : Int32)) rfl (hD hby d30_86) rfl ?_
  refine g_icmpY X288 hx (pcY := 104) (hD hby d30_88) (by decide) (by decide) (show ¬ (-q2) < (-9 : Int32) from ar_nlt' nq2 (by have e0 : (-9 : Int32).toInt = -9 := rfl; omega)) ?_
  refine g_iload X288 hx (pc' := 106) rfl (hD hby d30_104) rfl ?_
  refine g_ifY X288 hx (pcY := 118) (hD hby d30_106) (by decide) (by decide) (show (0 : Int32) = 0 from by decide) ?_
  refine g_iload X288 hx (pc' := 120) rfl (hD hby d30_118) rfl ?_
  exact g_retI X288 hx hlk hret (hD hby d30_120) (by decide) (by decide) (Nat.le_refl _) (⟨rfl, f290, y0, y1, y2, ky0, ky1, ky2, own_set3 hv hb ▸ N288⟩)
theorem rm27_3 (l : Launch) (Z : State) (a0 : Array Value) (hw : HW a0 Z) (ws : List Jvm.Cond) (n0 : Nat) (Ts : List String) (p' : Int32) (b va dO dT : Addr) (vs : List Value) (c' : Nat) (e0 e1 e2 e3 : Int32) (cz : Int32) (h0 : Heap) (hn0 : n0 ≤ h0.size) (O2 : St0 Z (.int cz)) (hcz : ¬ cz = 0) (OLD : OldP Z n0 h0) (hp0 : 0 ≤ p'.toInt) (hp1 : p'.toInt < 65536) (hl : 100 ≤ p'.toInt) (hu : p'.toInt < 1000) (S1 : St1 Z (.ref dO)) (A1 : AV Z Z.heap dO .byte DOL) (S2 : St2 Z (.ref dT)) (A2 : AV Z Z.heap dT .byte DTL) (Eb : XSb Z h0 b) (hgb : n0 ≤ b) (Fbv : BV Z h0 b (.ref va)) (Fbc : BC Z h0 b (.int 0)) (Fbn : BN Z h0 b (.int e0)) (Av : AV Z h0 va .byte vs) (hgv : n0 ≤ va) (g0 : e0.toInt = (c' : Int)) (g1 : e1.toInt = ((c' + 1 : Nat) : Int)) (s1 : e1 + Int32.ofInt (-1) = e0) (g2 : e2.toInt = ((c' + 2 : Nat) : Int)) (s2 : e2 + Int32.ofInt (-1) = e1) (g3 : e3.toInt = ((c' + 3 : Nat) : Int)) (s3 : e3 + Int32.ofInt (-1) = e2) (hb : c' + 3 ≤ 16) (hv : vs.length = 16) (hce : e0 + (3 : Int32) = e3) :
    Con l Z n0 Ts (Ts) (⟨"java/lang/AbstractStringBuilder", "append", "(I)Ljava/lang/AbstractStringBuilder;"⟩ : MethodName) jdk_68_method_32_code 4 (some (.object "java/lang/AbstractStringBuilder")) ws ({ frames := 1, cells := 0, slots := 0, locals := 32 } : Room) #[(.ref b), (.int p')] h0 (fun v h => v = some (.ref b) ∧ Keep h0 h [b, va] ∧ ∃ y0 y1 y2, y0.toInt = 48 + (p'.toInt / 1) % 10 ∧ y1.toInt = 48 + (p'.toInt / 10) % 10 ∧ y2.toInt = 48 + (p'.toInt / 100) % 10 ∧ AV Z h va .byte (vs.take c' ++ [.int y2, .int y1, .int y0] ++ vs.drop (c' + 3)) ∧ BV Z h b (.ref va) ∧ BC Z h b (.int 0) ∧ BN Z h b (.int e3)) := by
  refine con_start (fr0 := fun m => mkF m 0 #[.val (.ref b), .val (.int p'), .unset, .unset] []) ?_
  intro p e s m below meth c T0 hx hZ hby hml hown hnm hret hlk hsh XA
  have X0 := XA n0
  have hlow : n0 ≤ s.heap.size := by rw [hsh]; exact hn0
  replace hown : s.vm.findClass "java/lang/AbstractStringBuilder" = some m.cls := hown
  replace hml : c.maxLocals = 4 := hml
  have nA292 : b ≠ va := own_neA Eb (wat hw 95 rfl) Av
  refine g_aloadN X0 hx (pc' := 1) rfl (hD hby d27_0) rfl rfl ?_
  refine g_getF X0 hx hZ hown (wat hw 127 rfl) Via.refl Fbn (pc' := 4) rfl (hD hby d27_1) (fun T293 X293 => ?_)
  refine g_istoreN X293 hx (pc' := 5) rfl (hD hby d27_4) (l' := #[.val (.ref b), .val (.int p'), .val (.int e0), .unset]) rfl ?_
  refine g_iloadN X293 hx (pc' := 6) rfl (hD hby d27_5) rfl ?_
  refine g_iloadN X293 hx (pc' := 7) rfl (hD hby d27_6) rfl ?_
  refine g_callS X293 hx hZ hown (wat hw 163 rfl) (wat hw 164 rfl) (wat hw 165 rfl) (wat hw 166 rfl) (by decide) (rm28_3 l Z a0 hw [] n0 (Ts) p' h0 hn0 hp0 hp1 hl hu) pd_17 rfl rfl (pc' := 10) rfl (hD hby d27_7) (argsL := [(.int p')]) (rest := [(.int e0)]) rfl (W := 1) (fun v294 T294 h294 X294 hQ294 => ?_)
  obtain ⟨rfl, he294⟩ := hQ294
  rw [he294] at X294
  show Go p e below s n0 _ _ _ (T294.setTop (mkF m 10 _ [(.int 3), (.int e0)]))
  refine g_iadd X294 hx (pc' := 11) rfl (hD hby d27_10) ?_
  refine g_normI (z := e3) hce ?_
  refine g_istoreN X294 hx (pc' := 12) rfl (hD hby d27_11) (l' := #[.val (.ref b), .val (.int p'), .val (.int e0), .val (.int e3)]) rfl ?_
  refine g_aloadN X294 hx (pc' := 13) rfl (hD hby d27_12) rfl rfl ?_
  refine g_iloadN X294 hx (pc' := 14) rfl (hD hby d27_13) rfl ?_
  refine g_callPS X294 hx hZ hown (wat hw 129 rfl) (wat hw 130 rfl) (wat hw 132 rfl) (wat hw 131 rfl) (wat hw 104 rfl) (wat hw 133 rfl) (by decide) (a := b) Eb (rm22 l Z a0 hw [] n0 (Ts) b va _ e3 h0 hn0 Fbv Fbc Av hv (by omega) (by omega)) pd_12 rfl rfl (pc' := 17) rfl (hD hby d27_14) (argsL := [(.int e3)]) (rest := []) rfl (W := 0) (fun v295 T295 h295 X295 hQ295 => ?_)
  obtain ⟨rfl, he295⟩ := hQ295
  rw [he295] at X295
  show Go p e below s n0 _ _ _ (T295.setTop (mkF m 17 _ []))
  refine g_aloadN X295 hx (pc' := 18) rfl (hD hby d27_17) rfl rfl ?_
  refine g_callV X295 hx hZ hown (wat hw 167 rfl) (wat hw 168 rfl) (wat hw 170 rfl) (wat hw 169 rfl) (wat hw 104 rfl) (wat hw 171 rfl) (by decide) (a := b) Eb (rm29 l Z a0 hw [] n0 (Ts) b cz h0 hn0 O2 hcz OLD Fbc) pd_6 rfl rfl (pc' := 21) rfl (hD hby d27_18) (argsL := []) (rest := []) rfl (W := 0) (fun v296 T296 h296 X296 hQ296 => ?_)
  obtain ⟨rfl, he296⟩ := hQ296
  rw [he296] at X296
  show Go p e below s n0 _ _ _ (T296.setTop (mkF m 21 _ [(.int 1)]))
  refine g_ifN X296 hx (pcN := 24) (hD hby d27_21) rfl (show ¬ ((1 : Int32) = 0) from by decide) ?_
  refine g_iloadN X296 hx (pc' := 25) rfl (hD hby d27_24) rfl ?_
  refine g_iloadN X296 hx (pc' := 26) rfl (hD hby d27_25) rfl ?_
  refine g_aloadN X296 hx (pc' := 27) rfl (hD hby d27_26) rfl rfl ?_
  refine g_getF X296 hx hZ hown (wat hw 108 rfl) Via.refl Fbv (pc' := 30) rfl (hD hby d27_27) (fun T297 X297 => ?_)
  refine g_callS X297 hx hZ hown (wat hw 172 rfl) (wat hw 173 rfl) (wat hw 165 rfl) (wat hw 174 rfl) (by decide) (rm30_3 l Z a0 hw [] n0 (Ts) p' va dO dT vs c' e0 e1 e2 e3 cz h0 hn0 O2 hcz OLD hp0 hp1 hl hu S1 A1 S2 A2 Av hgv g0 g1 s1 g2 s2 g3 s3 hb hv) pd_18 rfl rfl (pc' := 33) rfl (hD hby d27_30) (argsL := [(.int p'), (.int e3), (.ref va)]) (rest := []) rfl (W := 0) (fun v298 T298 h298 X298 hQ298 => ?_)
  obtain ⟨rfl, K298, y0, y1, y2, k0, k1, k2, V298⟩ := hQ298
  have f299 := (Keep.refl h0 [b, va]).trans K298 (allS (Or.inl (List.mem_of_getElem? (i := 1) rfl)) all0)
  have f300 := OLD.keep K298 (allS hgv all0)
  have f301 := Eb.keep K298
  have f302 := Fbv.keep K298 (ninS nA292 nin0)
  have f303 := Fbc.keep K298 (ninS nA292 nin0)
  have f304 := Fbn.keep K298 (ninS nA292 nin0)
  have zs298 : n0 ≤ h298.size := Nat.le_trans hn0 K298.1
  show Go p e below s n0 _ _ _ (T298.setTop (mkF m 33 _ [(.int e0)]))
  refine g_pop X298 hx (pc' := 34) rfl (hD hby d27_33) rfl ?_
  refine g_goto X298 hx (pc' := 48) (hD hby d27_34) (by decide) (by decide) ?_
  refine g_aloadN X298 hx (pc' := 49) rfl (hD hby d27_48) rfl rfl ?_
  refine g_iloadN X298 hx (pc' := 50) rfl (hD hby d27_49) rfl ?_
  refine g_putF X298 hx hZ hown (wat hw 127 rfl) Via.refl f304 f301 (Or.inl (wat hw 128 rfl)) (wat hw 95 rfl) (ty := .int) (by decide) rfl rfl hgb (pc' := 53) rfl (hD hby d27_50) (fun T305 h305 X305 W305 => ?_)
  have f306 := (by have q := (Keep.of_wr W305).1; exact Nat.le_trans zs298 q : n0 ≤ h305.size)
  have f307 := f299.wr W305 (Or.inl (List.mem_of_getElem? (i := 0) rfl))
  have f308 := f300.wr W305 hgb
  have f309 := f301.wr W305
  have f310 := f302.other W305 (Or.inr (slot_ne (Or.inl (wat hw 109 rfl)) (Or.inl (wat hw 128 rfl)) (by decide) (t := (.array .byte)) (t' := .int) (by decide) (by decide)))
  have f311 := f303.other W305 (Or.inr (slot_ne (Or.inl (wat hw 111 rfl)) (Or.inl (wat hw 128 rfl)) (by decide) (t := .byte) (t' := .int) (by decide) (by decide)))
  have f312 := f304.same W305
  have f313 := V298.other W305 nA292.symm
  refine g_aloadN X305 hx (pc' := 54) rfl (hD hby d27_53) rfl rfl ?_
  exact g_ret X305 hx hlk hret rfl (Or.inr (Or.inr (Or.inr (Or.inr ⟨rfl, rfl, rfl⟩)))) (hD hby d27_54) (by decide) (by decide) (Nat.le_refl _) (⟨rfl, f307, y0, y1, y2, k0, k1, k2, f313, f310, f311, f312⟩)
theorem rm26_3 (l : Launch) (Z : State) (a0 : Array Value) (hw : HW a0 Z) (ws : List Jvm.Cond) (n0 : Nat) (Ts : List String) (p' : Int32) (b va dO dT : Addr) (vs : List Value) (c' : Nat) (e0 e1 e2 e3 : Int32) (cz : Int32) (h0 : Heap) (hn0 : n0 ≤ h0.size) (O2 : St0 Z (.int cz)) (hcz : ¬ cz = 0) (OLD : OldP Z n0 h0) (hp0 : 0 ≤ p'.toInt) (hp1 : p'.toInt < 65536) (hl : 100 ≤ p'.toInt) (hu : p'.toInt < 1000) (S1 : St1 Z (.ref dO)) (A1 : AV Z Z.heap dO .byte DOL) (S2 : St2 Z (.ref dT)) (A2 : AV Z Z.heap dT .byte DTL) (Eb : XSb Z h0 b) (hgb : n0 ≤ b) (Fbv : BV Z h0 b (.ref va)) (Fbc : BC Z h0 b (.int 0)) (Fbn : BN Z h0 b (.int e0)) (Av : AV Z h0 va .byte vs) (hgv : n0 ≤ va) (g0 : e0.toInt = (c' : Int)) (g1 : e1.toInt = ((c' + 1 : Nat) : Int)) (s1 : e1 + Int32.ofInt (-1) = e0) (g2 : e2.toInt = ((c' + 2 : Nat) : Int)) (s2 : e2 + Int32.ofInt (-1) = e1) (g3 : e3.toInt = ((c' + 3 : Nat) : Int)) (s3 : e3 + Int32.ofInt (-1) = e2) (hb : c' + 3 ≤ 16) (hv : vs.length = 16) (hce : e0 + (3 : Int32) = e3) :
    Con l Z n0 Ts (Ts) (⟨"java/lang/StringBuilder", "append", "(I)Ljava/lang/StringBuilder;"⟩ : MethodName) jdk_67_method_15_code 2 (some (.object "java/lang/StringBuilder")) ws ({ frames := 2, cells := 0, slots := 0, locals := 56 } : Room) #[(.ref b), (.int p')] h0 (fun v h => v = some (.ref b) ∧ Keep h0 h [b, va] ∧ ∃ y0 y1 y2, y0.toInt = 48 + (p'.toInt / 1) % 10 ∧ y1.toInt = 48 + (p'.toInt / 10) % 10 ∧ y2.toInt = 48 + (p'.toInt / 100) % 10 ∧ AV Z h va .byte (vs.take c' ++ [.int y2, .int y1, .int y0] ++ vs.drop (c' + 3)) ∧ BV Z h b (.ref va) ∧ BC Z h b (.int 0) ∧ BN Z h b (.int e3)) := by
  refine con_start (fr0 := fun m => mkF m 0 #[.val (.ref b), .val (.int p')] []) ?_
  intro p e s m below meth c T0 hx hZ hby hml hown hnm hret hlk hsh XA
  have X0 := XA n0
  have hlow : n0 ≤ s.heap.size := by rw [hsh]; exact hn0
  replace hown : s.vm.findClass "java/lang/StringBuilder" = some m.cls := hown
  replace hml : c.maxLocals = 2 := hml
  have nA314 : b ≠ va := own_neA Eb (wat hw 95 rfl) Av
  refine g_aloadN X0 hx (pc' := 1) rfl (hD hby d26_0) rfl rfl ?_
  refine g_iloadN X0 hx (pc' := 2) rfl (hD hby d26_1) rfl ?_
  refine g_callSup X0 hx hZ hown (by decide) (wat hw 159 rfl) (wat hw 160 rfl) (y' := ({ cls := "java/lang/AbstractStringBuilder", name := "ensureCapacityInternal", desc := "(I)V" } : Jvm.MethodName)) rfl (wat hw 132 rfl) (wat hw 119 rfl) (wat hw 104 rfl) (wat hw 162 rfl) (by decide) (a := b) Eb (rm27_3 l Z a0 hw [] n0 (Ts) p' b va dO dT vs c' e0 e1 e2 e3 cz h0 hn0 O2 hcz OLD hp0 hp1 hl hu S1 A1 S2 A2 Eb hgb Fbv Fbc Fbn Av hgv g0 g1 s1 g2 s2 g3 s3 hb hv hce) pd_19 rfl rfl (pc' := 5) rfl (hD hby d26_2) (argsL := [(.int p')]) (rest := []) rfl (W := 0) (fun v315 T315 h315 X315 hQ315 => ?_)
  obtain ⟨rfl, K315, y0, y1, y2, k0, k1, k2, V315, FV315, FC315, FN315⟩ := hQ315
  have f316 := (Keep.refl h0 [b, va]).trans K315 (allS (Or.inl (List.mem_of_getElem? (i := 0) rfl)) (allS (Or.inl (List.mem_of_getElem? (i := 1) rfl)) all0))
  have f317 := OLD.keep K315 (allS hgb (allS hgv all0))
  have f318 := Eb.keep K315
  have zs315 : n0 ≤ h315.size := Nat.le_trans hn0 K315.1
  show Go p e below s n0 _ _ _ (T315.setTop (mkF m 5 _ [(.ref b)]))
  refine g_pop X315 hx (pc' := 6) rfl (hD hby d26_5) rfl ?_
  refine g_aloadN X315 hx (pc' := 7) rfl (hD hby d26_6) rfl rfl ?_
  exact g_ret X315 hx hlk hret rfl (Or.inr (Or.inr (Or.inr (Or.inr ⟨rfl, rfl, rfl⟩)))) (hD hby d26_7) (by decide) (by decide) (Nat.le_refl _) (⟨rfl, f316, y0, y1, y2, k0, k1, k2, V315, FV315, FC315, FN315⟩)
theorem own_set4 {vs : List Value} {c : Nat} {y0 y1 y2 y3 : Value} (hv : vs.length = 16) (hb : c + 4 ≤ 16) : ((((vs).set (c + 3) y0).set (c + 2) y1).set (c + 1) y2).set c y3 = vs.take c ++ [y3, y2, y1, y0] ++ vs.drop (c + 4) := by
  have h0 : vs.set (c + 3) y0 = vs.take (c + 3) ++ [y0] ++ vs.drop ((c + 3) + 1) := put_one (by omega)
  have h1 : (vs.take ((c + 2) + 1) ++ [y0] ++ vs.drop ((c + 2) + 1 + 1)).set (c + 2) y1 = vs.take (c + 2) ++ [y1, y0] ++ vs.drop ((c + 2) + 2) := put_step (ys := [y0]) (by show (c + 2) + 1 + 1 ≤ _; omega)
  have h2 : (vs.take ((c + 1) + 1) ++ [y1, y0] ++ vs.drop ((c + 1) + 1 + 2)).set (c + 1) y2 = vs.take (c + 1) ++ [y2, y1, y0] ++ vs.drop ((c + 1) + 3) := put_step (ys := [y1, y0]) (by show (c + 1) + 1 + 2 ≤ _; omega)
  have h3 : (vs.take (c + 1) ++ [y2, y1, y0] ++ vs.drop (c + 1 + 3)).set c y3 = vs.take c ++ [y3, y2, y1, y0] ++ vs.drop (c + 4) := put_step (ys := [y2, y1, y0]) (by show c + 1 + 3 ≤ _; omega)
  rw [h0]
  rw [show vs.take (c + 3) ++ [y0] ++ vs.drop ((c + 3) + 1) = vs.take ((c + 2) + 1) ++ [y0] ++ vs.drop ((c + 2) + 1 + 1) from rfl, h1]
  rw [show vs.take (c + 2) ++ [y1, y0] ++ vs.drop ((c + 2) + 2) = vs.take ((c + 1) + 1) ++ [y1, y0] ++ vs.drop ((c + 1) + 1 + 2) from rfl, h2]
  rw [show vs.take (c + 1) ++ [y2, y1, y0] ++ vs.drop ((c + 1) + 3) = vs.take (c + 1) ++ [y2, y1, y0] ++ vs.drop (c + 1 + 3) from rfl, h3]
theorem rm30_4 (l : Launch) (Z : State) (a0 : Array Value) (hw : HW a0 Z) (ws : List Jvm.Cond) (n0 : Nat) (Ts : List String) (p' : Int32) (va dO dT : Addr) (vs : List Value) (c' : Nat) (e0 e1 e2 e3 e4 : Int32) (cz : Int32) (h0 : Heap) (hn0 : n0 ≤ h0.size) (O2 : St0 Z (.int cz)) (hcz : ¬ cz = 0) (OLD : OldP Z n0 h0) (hp0 : 0 ≤ p'.toInt) (hp1 : p'.toInt < 65536) (hl : 1000 ≤ p'.toInt) (hu : p'.toInt < 10000) (S1 : St1 Z (.ref dO)) (A1 : AV Z Z.heap dO .byte DOL) (S2 : St2 Z (.ref dT)) (A2 : AV Z Z.heap dT .byte DTL) (Av : AV Z h0 va .byte vs) (hgv : n0 ≤ va) (g0 : e0.toInt = (c' : Int)) (g1 : e1.toInt = ((c' + 1 : Nat) : Int)) (s1 : e1 + Int32.ofInt (-1) = e0) (g2 : e2.toInt = ((c' + 2 : Nat) : Int)) (s2 : e2 + Int32.ofInt (-1) = e1) (g3 : e3.toInt = ((c' + 3 : Nat) : Int)) (s3 : e3 + Int32.ofInt (-1) = e2) (g4 : e4.toInt = ((c' + 4 : Nat) : Int)) (s4 : e4 + Int32.ofInt (-1) = e3) (hb : c' + 4 ≤ 16) (hv : vs.length = 16) :
    Con l Z n0 Ts (Ts) (⟨"java/lang/Integer", "getChars", "(II[B)I"⟩ : MethodName) jdk_33_method_12_code 7 (some .int) ws ({ frames := 0, cells := 0, slots := 0, locals := 0 } : Room) #[(.int p'), (.int e4), (.ref va)] h0 (fun v h => v = some (.int e0) ∧ Keep h0 h [va] ∧ ∃ y0 y1 y2 y3, y0.toInt = 48 + (p'.toInt / 1) % 10 ∧ y1.toInt = 48 + (p'.toInt / 10) % 10 ∧ y2.toInt = 48 + (p'.toInt / 100) % 10 ∧ y3.toInt = 48 + (p'.toInt / 1000) % 10 ∧ AV Z h va .byte (vs.take c' ++ [.int y3, .int y2, .int y1, .int y0] ++ vs.drop (c' + 4))) := by
  refine con_start (fr0 := fun m => mkF m 0 #[.val (.int p'), .val (.int e4), .val (.ref va), .unset, .unset, .unset, .unset] []) ?_
  intro p e s m below meth c T0 hx hZ hby hml hown hnm hret hlk hsh XA
  have X0 := XA n0
  have hlow : n0 ≤ s.heap.size := by rw [hsh]; exact hn0
  replace hown : s.vm.findClass "java/lang/Integer" = some m.cls := hown
  replace hml : c.maxLocals = 7 := hml
  refine g_iloadN X0 hx (pc' := 1) rfl (hD hby d30_0) rfl ?_
  refine g_istore X0 hx (pc' := 3) rfl (hD hby d30_1) (l' := #[.val (.int p'), .val (.int e4), .val (.ref va), .unset, .unset, .val (.int e4), .unset]) rfl ?_
  refine g_iloadN X0 hx (pc' := 4) rfl (hD hby d30_3) rfl ?_
  refine g_ifY X0 hx (pcY := 11) (hD hby d30_4) (by decide) (by decide) (show ¬ p' < 0 from ar_nneg hp0) ?_
  refine g_iconst X0 hx (pc' := 12) (z := (0 : Int32)) rfl (hD hby d30_11) rfl ?_
  refine g_istore X0 hx (pc' := 14) rfl (hD hby d30_12) (l' := #[.val (.int p'), .val (.int e4), .val (.ref va), .unset, .unset, .val (.int e4), .val (.int 0)]) rfl ?_
  refine g_iload X0 hx (pc' := 16) rfl (hD hby d30_14) rfl ?_
  refine g_ifN X0 hx (pcN := 19) (hD hby d30_16) rfl (show ¬ (¬ (0 : Int32) = 0) from by decide) ?_
  refine g_iloadN X0 hx (pc' := 20) rfl (hD hby d30_19) rfl ?_
  refine g_ineg X0 hx (pc' := 21) rfl (hD hby d30_20) ?_
  refine g_istoreN X0 hx (pc' := 22) rfl (hD hby d30_21) (l' := #[.val (.int (-p')), .val (.int e4), .val (.ref va), .unset, .unset, .val (.int e4), .val (.int 0)]) rfl ?_
  refine g_iloadN X0 hx (pc' := 23) rfl (hD hby d30_22) rfl ?_
  refine g_bipush X0 hx (pc' := 25) (z := (-100 : Int32)) rfl (hD hby d30_23) rfl ?_
  refine g_icmpN X0 hx (pcN := 28) (hD hby d30_25) rfl (show ¬ ((-100 : Int32) < (-p')) from ar_nlt hp0 (by have e0 : (-100 : Int32).toInt = -100 := rfl; omega)) ?_
  refine g_iloadN X0 hx (pc' := 29) rfl (hD hby d30_28) rfl ?_
  refine g_bipush X0 hx (pc' := 31) (z := (100 : Int32)) rfl (hD hby d30_29) rfl ?_
  refine g_idiv X0 hx (pc' := 32) rfl (hD hby d30_31) (by decide) ?_
  obtain ⟨q2, eq2⟩ : ∃ z : Int32, z = p' / 100 := ⟨_, rfl⟩
  have fq2 : q2.toInt = p'.toInt / 100 := by rw [eq2]; exact ar_div hp0 (by decide)
  have nq2 : 0 ≤ q2.toInt := by omega
  refine g_normI (z := (-q2)) (by rw [eq2]; exact ar_ndiv hp0 (by decide)) ?_
  refine g_istoreN X0 hx (pc' := 33) rfl (hD hby d30_32) (l' := #[.val (.int (-p')), .val (.int e4), .val (.ref va), .val (.int (-q2)), .unset, .val (.int e4), .val (.int 0)]) rfl ?_
  refine g_iloadN X0 hx (pc' := 34) rfl (hD hby d30_33) rfl ?_
  refine g_bipush X0 hx (pc' := 36) (z := (100 : Int32)) rfl (hD hby d30_34) rfl ?_
  refine g_imul X0 hx (pc' := 37) rfl (hD hby d30_36) ?_
  refine g_iloadN X0 hx (pc' := 38) rfl (hD hby d30_37) rfl ?_
  refine g_isub X0 hx (pc' := 39) rfl (hD hby d30_38) ?_
  obtain ⟨r2, er2⟩ : ∃ z : Int32, z = p' % 100 := ⟨_, rfl⟩
  have fr2 : r2.toInt = p'.toInt % 100 := by rw [er2]; exact ar_mod hp0
  refine g_normI (z := r2) (by rw [eq2, er2]; exact ar_rem hp0 (by omega)) ?_
  refine g_istore X0 hx (pc' := 41) rfl (hD hby d30_39) (l' := #[.val (.int (-p')), .val (.int e4), .val (.ref va), .val (.int (-q2)), .val (.int r2), .val (.int e4), .val (.int 0)]) rfl ?_
  refine g_iloadN X0 hx (pc' := 42) rfl (hD hby d30_41) rfl ?_
  refine g_istoreN X0 hx (pc' := 43) rfl (hD hby d30_42) (l' := #[.val (.int (-q2)), .val (.int e4), .val (.ref va), .val (.int (-q2)), .val (.int r2), .val (.int e4), .val (.int 0)]) rfl ?_
  refine g_aloadN X0 hx (pc' := 44) rfl (hD hby d30_43) rfl rfl ?_
  refine g_iincC X0 hx (pc' := 47) (x := e4) (z := e3) rfl (hD hby d30_44) rfl s4 (l' := #[.val (.int (-q2)), .val (.int e4), .val (.ref va), .val (.int (-q2)), .val (.int r2), .val (.int e3), .val (.int 0)]) rfl ?_
  refine g_iload X0 hx (pc' := 49) rfl (hD hby d30_47) rfl ?_
  refine g_getS X0 hx hZ hown (wat hw 175 rfl) Via.refl (Sta.ext OLD.2 S1) (pc' := 52) rfl (hD hby d30_49) (fun T319 X319 => ?_)
  refine g_iload X319 hx (pc' := 54) rfl (hD hby d30_52) rfl ?_
  have by0 : r2.toInt.toNat < 100 := by omega
  refine g_baload X319 hx hZ (AV.ext A1 OLD.2) (i := r2.toInt.toNat) (by omega) (by rw [dol_len]; exact by0) (x := Int32.ofNat (48 + r2.toInt.toNat % 10)) (dol_get by0) (pc' := 55) rfl (hD hby d30_54) ?_
  refine g_absI (fun y0 hy0 => ?_)
  have ky0 : y0.toInt = 48 + (p'.toInt / 1) % 10 := by rw [hy0, ar_of (by omega)]; omega
  refine g_bastore X319 hx hZ Av (i := c' + 3) g3 (by first | omega | (simp only [List.length_set]; omega)) hgv (y := y0) (nar_sm (by omega) (by omega)) (pc' := 56) rfl (hD hby d30_55) (fun T320 h320 X320 W320 N320 => ?_)
  have f321 := (by have q := (Keep.of_wr W320).1; exact Nat.le_trans hn0 q : n0 ≤ h320.size)
  have f322 := (Keep.refl h0 [va]).wr W320 (Or.inl (List.mem_of_getElem? (i := 0) rfl))
  have f323 := OLD.wr W320 hgv
  refine g_aloadN X320 hx (pc' := 57) rfl (hD hby d30_56) rfl rfl ?_
  refine g_iincC X320 hx (pc' := 60) (x := e3) (z := e2) rfl (hD hby d30_57) rfl s3 (l' := #[.val (.int (-q2)), .val (.int e4), .val (.ref va), .val (.int (-q2)), .val (.int r2), .val (.int e2), .val (.int 0)]) rfl ?_
  refine g_iload X320 hx (pc' := 62) rfl (hD hby d30_60) rfl ?_
  refine g_getS X320 hx hZ hown (wat hw 238 rfl) Via.refl (Sta.ext f323.2 S2) (pc' := 65) rfl (hD hby d30_62) (fun T324 X324 => ?_)
  refine g_iload X324 hx (pc' := 67) rfl (hD hby d30_65) rfl ?_
  have by1 : r2.toInt.toNat < 100 := by omega
  refine g_baload X324 hx hZ (AV.ext A2 f323.2) (i := r2.toInt.toNat) (by omega) (by rw [dtl_len]; exact by1) (x := Int32.ofNat (48 + r2.toInt.toNat / 10)) (dtl_get by1) (pc' := 68) rfl (hD hby d30_67) ?_
  refine g_absI (fun y1 hy1 => ?_)
  have ky1 : y1.toInt = 48 + (p'.toInt / 10) % 10 := by rw [hy1, ar_of (by omega)]; omega
  refine g_bastore X324 hx hZ N320 (i := c' + 2) g2 (by first | omega | (simp only [List.length_set]; omega)) hgv (y := y1) (nar_sm (by omega) (by omega)) (pc' := 69) rfl (hD hby d30_68) (fun T325 h325 X325 W325 N325 => ?_)
  have f326 := (by have q := (Keep.of_wr W325).1; exact Nat.le_trans f321 q : n0 ≤ h325.size)
  have f327 := f322.wr W325 (Or.inl (List.mem_of_getElem? (i := 0) rfl))
  have f328 := f323.wr W325 hgv
  refine g_goto X325 hx (pc' := 22) (hD hby d30_69) (by decide) (by decide) ?_
  refine g_iloadN X325 hx (pc' := 23) rfl (hD hby d30_22) rfl ?_
  refine g_bipush X325 hx (pc' := 25) (z := (-100 : Int32)) rfl (hD hby d30_23) rfl ?_
  refine g_icmpY X325 hx (pcY := 72) (hD hby d30_25) (by decide) (by decide) (show (-100 : Int32) < (-q2) from ar_lt nq2 (by have e0 : (-100 : Int32).toInt = -100 := rfl; omega)) ?_
  refine g_aloadN X325 hx (pc' := 73) rfl (hD hby d30_72) rfl rfl ?_
  refine g_iincC X325 hx (pc' := 76) (x := e2) (z := e1) rfl (hD hby d30_73) rfl s2 (l' := #[.val (.int (-q2)), .val (.int e4), .val (.ref va), .val (.int (-q2)), .val (.int r2), .val (.int e1), .val (.int 0)]) rfl ?_
  refine g_iload X325 hx (pc' := 78) rfl (hD hby d30_76) rfl ?_
  refine g_getS X325 hx hZ hown (wat hw 175 rfl) Via.refl (Sta.ext f328.2 S1) (pc' := 81) rfl (hD hby d30_78) (fun T329 X329 => ?_)
  refine g_iloadN X329 hx (pc' := 82) rfl (hD hby d30_81) rfl ?_
  refine g_ineg X329 hx (pc' := 83) rfl (hD hby d30_82) ?_
  refine g_normI (z := q2) ar_nn ?_
  have by2 : q2.toInt.toNat < 100 := by omega
  refine g_baload X329 hx hZ (AV.ext A1 f328.2) (i := q2.toInt.toNat) (by omega) (by rw [dol_len]; exact by2) (x := Int32.ofNat (48 + q2.toInt.toNat % 10)) (dol_get by2) (pc' := 84) rfl (hD hby d30_83) ?_
  refine g_absI (fun y2 hy2 => ?_)
  have ky2 : y2.toInt = 48 + (p'.toInt / 100) % 10 := by rw [hy2, ar_of (by omega)]; omega
  refine g_bastore X329 hx hZ N325 (i := c' + 1) g1 (by first | omega | (simp only [List.length_set]; omega)) hgv (y := y2) (nar_sm (by omega) (by omega)) (pc' := 85) rfl (hD hby d30_84) (fun T330 h330 X330 W330 N330 => ?_)
  have f331 := (by have q := (Keep.of_wr W330).1; exact Nat.le_trans f326 q : n0 ≤ h330.size)
  have f332 := f327.wr W330 (Or.inl (List.mem_of_getElem? (i := 0) rfl))
  have f333 := f328.wr W330 hgv
  refine g_iloadN X330 hx (pc' := 86) rfl (hD hby d30_85) rfl ?_
  refine g_bipush X330 hx (pc' := 88) (z := (-9 : Int32)) rfl (hD hby d30_86) rfl ?_
  refine g_icmpN X330 hx (pcN := 91) (hD hby d30_88) rfl (show ¬ (¬ (-q2) < (-9 : Int32)) from not_not_intro (ar_lt' nq2 (by have e0 : (-9 : Int32).toInt = -9 := rfl; omega))) ?_
  refine g_aloadN X330 hx (pc' := 92) rfl (hD hby d30_91) rfl rfl ?_
  refine g_iincC X330 hx (pc' := 95) (x := e1) (z := e0) rfl (hD hby d30_92) rfl s1 (l' := #[.val (.int (-q2)), .val (.int e4), .val (.ref va), .val (.int (-q2)), .val (.int r2), .val (.int e0), .val (.int 0)]) rfl ?_
  refine g_iload X330 hx (pc' := 97) rfl (hD hby d30_95) rfl ?_
  refine g_getS X330 hx hZ hown (wat hw 238 rfl) Via.refl (Sta.ext f333.2 S2) (pc' := 100) rfl (hD hby d30_97) (fun T334 X334 => ?_)
  refine g_iloadN X334 hx (pc' := 101) rfl (hD hby d30_100) rfl ?_
  refine g_ineg X334 hx (pc' := 102) rfl (hD hby d30_101) ?_
  refine g_normI (z := q2) ar_nn ?_
  have by3 : q2.toInt.toNat < 100 := by omega
  refine g_baload X334 hx hZ (AV.ext A2 f333.2) (i := q2.toInt.toNat) (by omega) (by rw [dtl_len]; exact by3) (x := Int32.ofNat (48 + q2.toInt.toNat / 10)) (dtl_get by3) (pc' := 103) rfl (hD hby d30_102) ?_
  refine g_absI (fun y3 hy3 => ?_)
  have ky3 : y3.toInt = 48 + (p'.toInt / 1000) % 10 := by rw [hy3, ar_of (by omega)]; omega
  refine g_bastore X334 hx hZ N330 (i := c') g0 (by first | omega | (simp only [List.length_set]; omega)) hgv (y := y3) (nar_sm (by omega) (by omega)) (pc' := 104) rfl (hD hby d30_103) (fun T335 h335 X335 W335 N335 => ?_)
  have f336 := (by have q := (Keep.of_wr W335).1; exact Nat.le_trans f331 q : n0 ≤ h335.size)
  have f337 := f332.wr W335 (Or.inl (List.mem_of_getElem? (i := 0) rfl))
  have f338 := f333.wr W335 hgv
  refine g_iload X335 hx (pc' := 106) rfl (hD hby d30_104) rfl ?_
  refine g_ifY X335 hx (pcY := 118) (hD hby d30_106) (by decide) (by decide) (show (0 : Int32) = 0 from by decide) ?_
  refine g_iload X335 hx (pc' := 120) rfl (hD hby d30_118) rfl ?_
  exact g_retI X335 hx hlk hret (hD hby d30_120) (by decide) (by decide) (Nat.le_refl _) (⟨rfl, f337, y0, y1, y2, y3, ky0, ky1, ky2, ky3, own_set4 hv hb ▸ N335⟩)
theorem rm27_4 (l : Launch) (Z : State) (a0 : Array Value) (hw : HW a0 Z) (ws : List Jvm.Cond) (n0 : Nat) (Ts : List String) (p' : Int32) (b va dO dT : Addr) (vs : List Value) (c' : Nat) (e0 e1 e2 e3 e4 : Int32) (cz : Int32) (h0 : Heap) (hn0 : n0 ≤ h0.size) (O2 : St0 Z (.int cz)) (hcz : ¬ cz = 0) (OLD : OldP Z n0 h0) (hp0 : 0 ≤ p'.toInt) (hp1 : p'.toInt < 65536) (hl : 1000 ≤ p'.toInt) (hu : p'.toInt < 10000) (S1 : St1 Z (.ref dO)) (A1 : AV Z Z.heap dO .byte DOL) (S2 : St2 Z (.ref dT)) (A2 : AV Z Z.heap dT .byte DTL) (Eb : XSb Z h0 b) (hgb : n0 ≤ b) (Fbv : BV Z h0 b (.ref va)) (Fbc : BC Z h0 b (.int 0)) (Fbn : BN Z h0 b (.int e0)) (Av : AV Z h0 va .byte vs) (hgv : n0 ≤ va) (g0 : e0.toInt = (c' : Int)) (g1 : e1.toInt = ((c' + 1 : Nat) : Int)) (s1 : e1 + Int32.ofInt (-1) = e0) (g2 : e2.toInt = ((c' + 2 : Nat) : Int)) (s2 : e2 + Int32.ofInt (-1) = e1) (g3 : e3.toInt = ((c' + 3 : Nat) : Int)) (s3 : e3 + Int32.ofInt (-1) = e2) (g4 : e4.toInt = ((c' + 4 : Nat) : Int)) (s4 : e4 + Int32.ofInt (-1) = e3) (hb : c' + 4 ≤ 16) (hv : vs.length = 16) (hce : e0 + (4 : Int32) = e4) :
    Con l Z n0 Ts (Ts) (⟨"java/lang/AbstractStringBuilder", "append", "(I)Ljava/lang/AbstractStringBuilder;"⟩ : MethodName) jdk_68_method_32_code 4 (some (.object "java/lang/AbstractStringBuilder")) ws ({ frames := 1, cells := 0, slots := 0, locals := 32 } : Room) #[(.ref b), (.int p')] h0 (fun v h => v = some (.ref b) ∧ Keep h0 h [b, va] ∧ ∃ y0 y1 y2 y3, y0.toInt = 48 + (p'.toInt / 1) % 10 ∧ y1.toInt = 48 + (p'.toInt / 10) % 10 ∧ y2.toInt = 48 + (p'.toInt / 100) % 10 ∧ y3.toInt = 48 + (p'.toInt / 1000) % 10 ∧ AV Z h va .byte (vs.take c' ++ [.int y3, .int y2, .int y1, .int y0] ++ vs.drop (c' + 4)) ∧ BV Z h b (.ref va) ∧ BC Z h b (.int 0) ∧ BN Z h b (.int e4)) := by
  refine con_start (fr0 := fun m => mkF m 0 #[.val (.ref b), .val (.int p'), .unset, .unset] []) ?_
  intro p e s m below meth c T0 hx hZ hby hml hown hnm hret hlk hsh XA
  have X0 := XA n0
  have hlow : n0 ≤ s.heap.size := by rw [hsh]; exact hn0
  replace hown : s.vm.findClass "java/lang/AbstractStringBuilder" = some m.cls := hown
  replace hml : c.maxLocals = 4 := hml
  have nA339 : b ≠ va := own_neA Eb (wat hw 95 rfl) Av
  refine g_aloadN X0 hx (pc' := 1) rfl (hD hby d27_0) rfl rfl ?_
  refine g_getF X0 hx hZ hown (wat hw 127 rfl) Via.refl Fbn (pc' := 4) rfl (hD hby d27_1) (fun T340 X340 => ?_)
  refine g_istoreN X340 hx (pc' := 5) rfl (hD hby d27_4) (l' := #[.val (.ref b), .val (.int p'), .val (.int e0), .unset]) rfl ?_
  refine g_iloadN X340 hx (pc' := 6) rfl (hD hby d27_5) rfl ?_
  refine g_iloadN X340 hx (pc' := 7) rfl (hD hby d27_6) rfl ?_
  refine g_callS X340 hx hZ hown (wat hw 163 rfl) (wat hw 164 rfl) (wat hw 165 rfl) (wat hw 166 rfl) (by decide) (rm28_4 l Z a0 hw [] n0 (Ts) p' h0 hn0 hp0 hp1 hl hu) pd_17 rfl rfl (pc' := 10) rfl (hD hby d27_7) (argsL := [(.int p')]) (rest := [(.int e0)]) rfl (W := 1) (fun v341 T341 h341 X341 hQ341 => ?_)
  obtain ⟨rfl, he341⟩ := hQ341
  rw [he341] at X341
  show Go p e below s n0 _ _ _ (T341.setTop (mkF m 10 _ [(.int 4), (.int e0)]))
  refine g_iadd X341 hx (pc' := 11) rfl (hD hby d27_10) ?_
  refine g_normI (z := e4) hce ?_
  refine g_istoreN X341 hx (pc' := 12) rfl (hD hby d27_11) (l' := #[.val (.ref b), .val (.int p'), .val (.int e0), .val (.int e4)]) rfl ?_
  refine g_aloadN X341 hx (pc' := 13) rfl (hD hby d27_12) rfl rfl ?_
  refine g_iloadN X341 hx (pc' := 14) rfl (hD hby d27_13) rfl ?_
  refine g_callPS X341 hx hZ hown (wat hw 129 rfl) (wat hw 130 rfl) (wat hw 132 rfl) (wat hw 131 rfl) (wat hw 104 rfl) (wat hw 133 rfl) (by decide) (a := b) Eb (rm22 l Z a0 hw [] n0 (Ts) b va _ e4 h0 hn0 Fbv Fbc Av hv (by omega) (by omega)) pd_12 rfl rfl (pc' := 17) rfl (hD hby d27_14) (argsL := [(.int e4)]) (rest := []) rfl (W := 0) (fun v342 T342 h342 X342 hQ342 => ?_)
  obtain ⟨rfl, he342⟩ := hQ342
  rw [he342] at X342
  show Go p e below s n0 _ _ _ (T342.setTop (mkF m 17 _ []))
  refine g_aloadN X342 hx (pc' := 18) rfl (hD hby d27_17) rfl rfl ?_
  refine g_callV X342 hx hZ hown (wat hw 167 rfl) (wat hw 168 rfl) (wat hw 170 rfl) (wat hw 169 rfl) (wat hw 104 rfl) (wat hw 171 rfl) (by decide) (a := b) Eb (rm29 l Z a0 hw [] n0 (Ts) b cz h0 hn0 O2 hcz OLD Fbc) pd_6 rfl rfl (pc' := 21) rfl (hD hby d27_18) (argsL := []) (rest := []) rfl (W := 0) (fun v343 T343 h343 X343 hQ343 => ?_)
  obtain ⟨rfl, he343⟩ := hQ343
  rw [he343] at X343
  show Go p e below s n0 _ _ _ (T343.setTop (mkF m 21 _ [(.int 1)]))
  refine g_ifN X343 hx (pcN := 24) (hD hby d27_21) rfl (show ¬ ((1 : Int32) = 0) from by decide) ?_
  refine g_iloadN X343 hx (pc' := 25) rfl (hD hby d27_24) rfl ?_
  refine g_iloadN X343 hx (pc' := 26) rfl (hD hby d27_25) rfl ?_
  refine g_aloadN X343 hx (pc' := 27) rfl (hD hby d27_26) rfl rfl ?_
  refine g_getF X343 hx hZ hown (wat hw 108 rfl) Via.refl Fbv (pc' := 30) rfl (hD hby d27_27) (fun T344 X344 => ?_)
  refine g_callS X344 hx hZ hown (wat hw 172 rfl) (wat hw 173 rfl) (wat hw 165 rfl) (wat hw 174 rfl) (by decide) (rm30_4 l Z a0 hw [] n0 (Ts) p' va dO dT vs c' e0 e1 e2 e3 e4 cz h0 hn0 O2 hcz OLD hp0 hp1 hl hu S1 A1 S2 A2 Av hgv g0 g1 s1 g2 s2 g3 s3 g4 s4 hb hv) pd_18 rfl rfl (pc' := 33) rfl (hD hby d27_30) (argsL := [(.int p'), (.int e4), (.ref va)]) (rest := []) rfl (W := 0) (fun v345 T345 h345 X345 hQ345 => ?_)
  obtain ⟨rfl, K345, y0, y1, y2, y3, k0, k1, k2, k3, V345⟩ := hQ345
  have f346 := (Keep.refl h0 [b, va]).trans K345 (allS (Or.inl (List.mem_of_getElem? (i := 1) rfl)) all0)
  have f347 := OLD.keep K345 (allS hgv all0)
  have f348 := Eb.keep K345
  have f349 := Fbv.keep K345 (ninS nA339 nin0)
  have f350 := Fbc.keep K345 (ninS nA339 nin0)
  have f351 := Fbn.keep K345 (ninS nA339 nin0)
  have zs345 : n0 ≤ h345.size := Nat.le_trans hn0 K345.1
  show Go p e below s n0 _ _ _ (T345.setTop (mkF m 33 _ [(.int e0)]))
  refine g_pop X345 hx (pc' := 34) rfl (hD hby d27_33) rfl ?_
  refine g_goto X345 hx (pc' := 48) (hD hby d27_34) (by decide) (by decide) ?_
  refine g_aloadN X345 hx (pc' := 49) rfl (hD hby d27_48) rfl rfl ?_
  refine g_iloadN X345 hx (pc' := 50) rfl (hD hby d27_49) rfl ?_
  refine g_putF X345 hx hZ hown (wat hw 127 rfl) Via.refl f351 f348 (Or.inl (wat hw 128 rfl)) (wat hw 95 rfl) (ty := .int) (by decide) rfl rfl hgb (pc' := 53) rfl (hD hby d27_50) (fun T352 h352 X352 W352 => ?_)
  have f353 := (by have q := (Keep.of_wr W352).1; exact Nat.le_trans zs345 q : n0 ≤ h352.size)
  have f354 := f346.wr W352 (Or.inl (List.mem_of_getElem? (i := 0) rfl))
  have f355 := f347.wr W352 hgb
  have f356 := f348.wr W352
  have f357 := f349.other W352 (Or.inr (slot_ne (Or.inl (wat hw 109 rfl)) (Or.inl (wat hw 128 rfl)) (by decide) (t := (.array .byte)) (t' := .int) (by decide) (by decide)))
  have f358 := f350.other W352 (Or.inr (slot_ne (Or.inl (wat hw 111 rfl)) (Or.inl (wat hw 128 rfl)) (by decide) (t := .byte) (t' := .int) (by decide) (by decide)))
  have f359 := f351.same W352
  have f360 := V345.other W352 nA339.symm
  refine g_aloadN X352 hx (pc' := 54) rfl (hD hby d27_53) rfl rfl ?_
  exact g_ret X352 hx hlk hret rfl (Or.inr (Or.inr (Or.inr (Or.inr ⟨rfl, rfl, rfl⟩)))) (hD hby d27_54) (by decide) (by decide) (Nat.le_refl _) (⟨rfl, f354, y0, y1, y2, y3, k0, k1, k2, k3, f360, f357, f358, f359⟩)
theorem rm26_4 (l : Launch) (Z : State) (a0 : Array Value) (hw : HW a0 Z) (ws : List Jvm.Cond) (n0 : Nat) (Ts : List String) (p' : Int32) (b va dO dT : Addr) (vs : List Value) (c' : Nat) (e0 e1 e2 e3 e4 : Int32) (cz : Int32) (h0 : Heap) (hn0 : n0 ≤ h0.size) (O2 : St0 Z (.int cz)) (hcz : ¬ cz = 0) (OLD : OldP Z n0 h0) (hp0 : 0 ≤ p'.toInt) (hp1 : p'.toInt < 65536) (hl : 1000 ≤ p'.toInt) (hu : p'.toInt < 10000) (S1 : St1 Z (.ref dO)) (A1 : AV Z Z.heap dO .byte DOL) (S2 : St2 Z (.ref dT)) (A2 : AV Z Z.heap dT .byte DTL) (Eb : XSb Z h0 b) (hgb : n0 ≤ b) (Fbv : BV Z h0 b (.ref va)) (Fbc : BC Z h0 b (.int 0)) (Fbn : BN Z h0 b (.int e0)) (Av : AV Z h0 va .byte vs) (hgv : n0 ≤ va) (g0 : e0.toInt = (c' : Int)) (g1 : e1.toInt = ((c' + 1 : Nat) : Int)) (s1 : e1 + Int32.ofInt (-1) = e0) (g2 : e2.toInt = ((c' + 2 : Nat) : Int)) (s2 : e2 + Int32.ofInt (-1) = e1) (g3 : e3.toInt = ((c' + 3 : Nat) : Int)) (s3 : e3 + Int32.ofInt (-1) = e2) (g4 : e4.toInt = ((c' + 4 : Nat) : Int)) (s4 : e4 + Int32.ofInt (-1) = e3) (hb : c' + 4 ≤ 16) (hv : vs.length = 16) (hce : e0 + (4 : Int32) = e4) :
    Con l Z n0 Ts (Ts) (⟨"java/lang/StringBuilder", "append", "(I)Ljava/lang/StringBuilder;"⟩ : MethodName) jdk_67_method_15_code 2 (some (.object "java/lang/StringBuilder")) ws ({ frames := 2, cells := 0, slots := 0, locals := 56 } : Room) #[(.ref b), (.int p')] h0 (fun v h => v = some (.ref b) ∧ Keep h0 h [b, va] ∧ ∃ y0 y1 y2 y3, y0.toInt = 48 + (p'.toInt / 1) % 10 ∧ y1.toInt = 48 + (p'.toInt / 10) % 10 ∧ y2.toInt = 48 + (p'.toInt / 100) % 10 ∧ y3.toInt = 48 + (p'.toInt / 1000) % 10 ∧ AV Z h va .byte (vs.take c' ++ [.int y3, .int y2, .int y1, .int y0] ++ vs.drop (c' + 4)) ∧ BV Z h b (.ref va) ∧ BC Z h b (.int 0) ∧ BN Z h b (.int e4)) := by
  refine con_start (fr0 := fun m => mkF m 0 #[.val (.ref b), .val (.int p')] []) ?_
  intro p e s m below meth c T0 hx hZ hby hml hown hnm hret hlk hsh XA
  have X0 := XA n0
  have hlow : n0 ≤ s.heap.size := by rw [hsh]; exact hn0
  replace hown : s.vm.findClass "java/lang/StringBuilder" = some m.cls := hown
  replace hml : c.maxLocals = 2 := hml
  have nA361 : b ≠ va := own_neA Eb (wat hw 95 rfl) Av
  refine g_aloadN X0 hx (pc' := 1) rfl (hD hby d26_0) rfl rfl ?_
  refine g_iloadN X0 hx (pc' := 2) rfl (hD hby d26_1) rfl ?_
  refine g_callSup X0 hx hZ hown (by decide) (wat hw 159 rfl) (wat hw 160 rfl) (y' := ({ cls := "java/lang/AbstractStringBuilder", name := "ensureCapacityInternal", desc := "(I)V" } : Jvm.MethodName)) rfl (wat hw 132 rfl) (wat hw 119 rfl) (wat hw 104 rfl) (wat hw 162 rfl) (by decide) (a := b) Eb (rm27_4 l Z a0 hw [] n0 (Ts) p' b va dO dT vs c' e0 e1 e2 e3 e4 cz h0 hn0 O2 hcz OLD hp0 hp1 hl hu S1 A1 S2 A2 Eb hgb Fbv Fbc Fbn Av hgv g0 g1 s1 g2 s2 g3 s3 g4 s4 hb hv hce) pd_19 rfl rfl (pc' := 5) rfl (hD hby d26_2) (argsL := [(.int p')]) (rest := []) rfl (W := 0) (fun v362 T362 h362 X362 hQ362 => ?_)
  obtain ⟨rfl, K362, y0, y1, y2, y3, k0, k1, k2, k3, V362, FV362, FC362, FN362⟩ := hQ362
  have f363 := (Keep.refl h0 [b, va]).trans K362 (allS (Or.inl (List.mem_of_getElem? (i := 0) rfl)) (allS (Or.inl (List.mem_of_getElem? (i := 1) rfl)) all0))
  have f364 := OLD.keep K362 (allS hgb (allS hgv all0))
  have f365 := Eb.keep K362
  have zs362 : n0 ≤ h362.size := Nat.le_trans hn0 K362.1
  show Go p e below s n0 _ _ _ (T362.setTop (mkF m 5 _ [(.ref b)]))
  refine g_pop X362 hx (pc' := 6) rfl (hD hby d26_5) rfl ?_
  refine g_aloadN X362 hx (pc' := 7) rfl (hD hby d26_6) rfl rfl ?_
  exact g_ret X362 hx hlk hret rfl (Or.inr (Or.inr (Or.inr (Or.inr ⟨rfl, rfl, rfl⟩)))) (hD hby d26_7) (by decide) (by decide) (Nat.le_refl _) (⟨rfl, f363, y0, y1, y2, y3, k0, k1, k2, k3, V362, FV362, FC362, FN362⟩)
theorem own_set5 {vs : List Value} {c : Nat} {y0 y1 y2 y3 y4 : Value} (hv : vs.length = 16) (hb : c + 5 ≤ 16) : (((((vs).set (c + 4) y0).set (c + 3) y1).set (c + 2) y2).set (c + 1) y3).set c y4 = vs.take c ++ [y4, y3, y2, y1, y0] ++ vs.drop (c + 5) := by
  have h0 : vs.set (c + 4) y0 = vs.take (c + 4) ++ [y0] ++ vs.drop ((c + 4) + 1) := put_one (by omega)
  have h1 : (vs.take ((c + 3) + 1) ++ [y0] ++ vs.drop ((c + 3) + 1 + 1)).set (c + 3) y1 = vs.take (c + 3) ++ [y1, y0] ++ vs.drop ((c + 3) + 2) := put_step (ys := [y0]) (by show (c + 3) + 1 + 1 ≤ _; omega)
  have h2 : (vs.take ((c + 2) + 1) ++ [y1, y0] ++ vs.drop ((c + 2) + 1 + 2)).set (c + 2) y2 = vs.take (c + 2) ++ [y2, y1, y0] ++ vs.drop ((c + 2) + 3) := put_step (ys := [y1, y0]) (by show (c + 2) + 1 + 2 ≤ _; omega)
  have h3 : (vs.take ((c + 1) + 1) ++ [y2, y1, y0] ++ vs.drop ((c + 1) + 1 + 3)).set (c + 1) y3 = vs.take (c + 1) ++ [y3, y2, y1, y0] ++ vs.drop ((c + 1) + 4) := put_step (ys := [y2, y1, y0]) (by show (c + 1) + 1 + 3 ≤ _; omega)
  have h4 : (vs.take (c + 1) ++ [y3, y2, y1, y0] ++ vs.drop (c + 1 + 4)).set c y4 = vs.take c ++ [y4, y3, y2, y1, y0] ++ vs.drop (c + 5) := put_step (ys := [y3, y2, y1, y0]) (by show c + 1 + 4 ≤ _; omega)
  rw [h0]
  rw [show vs.take (c + 4) ++ [y0] ++ vs.drop ((c + 4) + 1) = vs.take ((c + 3) + 1) ++ [y0] ++ vs.drop ((c + 3) + 1 + 1) from rfl, h1]
  rw [show vs.take (c + 3) ++ [y1, y0] ++ vs.drop ((c + 3) + 2) = vs.take ((c + 2) + 1) ++ [y1, y0] ++ vs.drop ((c + 2) + 1 + 2) from rfl, h2]
  rw [show vs.take (c + 2) ++ [y2, y1, y0] ++ vs.drop ((c + 2) + 3) = vs.take ((c + 1) + 1) ++ [y2, y1, y0] ++ vs.drop ((c + 1) + 1 + 3) from rfl, h3]
  rw [show vs.take (c + 1) ++ [y3, y2, y1, y0] ++ vs.drop ((c + 1) + 4) = vs.take (c + 1) ++ [y3, y2, y1, y0] ++ vs.drop (c + 1 + 4) from rfl, h4]
theorem rm30_5 (l : Launch) (Z : State) (a0 : Array Value) (hw : HW a0 Z) (ws : List Jvm.Cond) (n0 : Nat) (Ts : List String) (p' : Int32) (va dO dT : Addr) (vs : List Value) (c' : Nat) (e0 e1 e2 e3 e4 e5 : Int32) (cz : Int32) (h0 : Heap) (hn0 : n0 ≤ h0.size) (O2 : St0 Z (.int cz)) (hcz : ¬ cz = 0) (OLD : OldP Z n0 h0) (hp0 : 0 ≤ p'.toInt) (hp1 : p'.toInt < 65536) (hl : 10000 ≤ p'.toInt) (hu : p'.toInt < 100000) (S1 : St1 Z (.ref dO)) (A1 : AV Z Z.heap dO .byte DOL) (S2 : St2 Z (.ref dT)) (A2 : AV Z Z.heap dT .byte DTL) (Av : AV Z h0 va .byte vs) (hgv : n0 ≤ va) (g0 : e0.toInt = (c' : Int)) (g1 : e1.toInt = ((c' + 1 : Nat) : Int)) (s1 : e1 + Int32.ofInt (-1) = e0) (g2 : e2.toInt = ((c' + 2 : Nat) : Int)) (s2 : e2 + Int32.ofInt (-1) = e1) (g3 : e3.toInt = ((c' + 3 : Nat) : Int)) (s3 : e3 + Int32.ofInt (-1) = e2) (g4 : e4.toInt = ((c' + 4 : Nat) : Int)) (s4 : e4 + Int32.ofInt (-1) = e3) (g5 : e5.toInt = ((c' + 5 : Nat) : Int)) (s5 : e5 + Int32.ofInt (-1) = e4) (hb : c' + 5 ≤ 16) (hv : vs.length = 16) :
    Con l Z n0 Ts (Ts) (⟨"java/lang/Integer", "getChars", "(II[B)I"⟩ : MethodName) jdk_33_method_12_code 7 (some .int) ws ({ frames := 0, cells := 0, slots := 0, locals := 0 } : Room) #[(.int p'), (.int e5), (.ref va)] h0 (fun v h => v = some (.int e0) ∧ Keep h0 h [va] ∧ ∃ y0 y1 y2 y3 y4, y0.toInt = 48 + (p'.toInt / 1) % 10 ∧ y1.toInt = 48 + (p'.toInt / 10) % 10 ∧ y2.toInt = 48 + (p'.toInt / 100) % 10 ∧ y3.toInt = 48 + (p'.toInt / 1000) % 10 ∧ y4.toInt = 48 + (p'.toInt / 10000) % 10 ∧ AV Z h va .byte (vs.take c' ++ [.int y4, .int y3, .int y2, .int y1, .int y0] ++ vs.drop (c' + 5))) := by
  refine con_start (fr0 := fun m => mkF m 0 #[.val (.int p'), .val (.int e5), .val (.ref va), .unset, .unset, .unset, .unset] []) ?_
  intro p e s m below meth c T0 hx hZ hby hml hown hnm hret hlk hsh XA
  have X0 := XA n0
  have hlow : n0 ≤ s.heap.size := by rw [hsh]; exact hn0
  replace hown : s.vm.findClass "java/lang/Integer" = some m.cls := hown
  replace hml : c.maxLocals = 7 := hml
  refine g_iloadN X0 hx (pc' := 1) rfl (hD hby d30_0) rfl ?_
  refine g_istore X0 hx (pc' := 3) rfl (hD hby d30_1) (l' := #[.val (.int p'), .val (.int e5), .val (.ref va), .unset, .unset, .val (.int e5), .unset]) rfl ?_
  refine g_iloadN X0 hx (pc' := 4) rfl (hD hby d30_3) rfl ?_
  refine g_ifY X0 hx (pcY := 11) (hD hby d30_4) (by decide) (by decide) (show ¬ p' < 0 from ar_nneg hp0) ?_
  refine g_iconst X0 hx (pc' := 12) (z := (0 : Int32)) rfl (hD hby d30_11) rfl ?_
  refine g_istore X0 hx (pc' := 14) rfl (hD hby d30_12) (l' := #[.val (.int p'), .val (.int e5), .val (.ref va), .unset, .unset, .val (.int e5), .val (.int 0)]) rfl ?_
  refine g_iload X0 hx (pc' := 16) rfl (hD hby d30_14) rfl ?_
  refine g_ifN X0 hx (pcN := 19) (hD hby d30_16) rfl (show ¬ (¬ (0 : Int32) = 0) from by decide) ?_
  refine g_iloadN X0 hx (pc' := 20) rfl (hD hby d30_19) rfl ?_
  refine g_ineg X0 hx (pc' := 21) rfl (hD hby d30_20) ?_
  refine g_istoreN X0 hx (pc' := 22) rfl (hD hby d30_21) (l' := #[.val (.int (-p')), .val (.int e5), .val (.ref va), .unset, .unset, .val (.int e5), .val (.int 0)]) rfl ?_
  refine g_iloadN X0 hx (pc' := 23) rfl (hD hby d30_22) rfl ?_
  refine g_bipush X0 hx (pc' := 25) (z := (-100 : Int32)) rfl (hD hby d30_23) rfl ?_
  refine g_icmpN X0 hx (pcN := 28) (hD hby d30_25) rfl (show ¬ ((-100 : Int32) < (-p')) from ar_nlt hp0 (by have e0 : (-100 : Int32).toInt = -100 := rfl; omega)) ?_
  refine g_iloadN X0 hx (pc' := 29) rfl (hD hby d30_28) rfl ?_
  refine g_bipush X0 hx (pc' := 31) (z := (100 : Int32)) rfl (hD hby d30_29) rfl ?_
  refine g_idiv X0 hx (pc' := 32) rfl (hD hby d30_31) (by decide) ?_
  obtain ⟨q2, eq2⟩ : ∃ z : Int32, z = p' / 100 := ⟨_, rfl⟩
  have fq2 : q2.toInt = p'.toInt / 100 := by rw [eq2]; exact ar_div hp0 (by decide)
  have nq2 : 0 ≤ q2.toInt := by omega
  refine g_normI (z := (-q2)) (by rw [eq2]; exact ar_ndiv hp0 (by decide)) ?_
  refine g_istoreN X0 hx (pc' := 33) rfl (hD hby d30_32) (l' := #[.val (.int (-p')), .val (.int e5), .val (.ref va), .val (.int (-q2)), .unset, .val (.int e5), .val (.int 0)]) rfl ?_
  refine g_iloadN X0 hx (pc' := 34) rfl (hD hby d30_33) rfl ?_
  refine g_bipush X0 hx (pc' := 36) (z := (100 : Int32)) rfl (hD hby d30_34) rfl ?_
  refine g_imul X0 hx (pc' := 37) rfl (hD hby d30_36) ?_
  refine g_iloadN X0 hx (pc' := 38) rfl (hD hby d30_37) rfl ?_
  refine g_isub X0 hx (pc' := 39) rfl (hD hby d30_38) ?_
  obtain ⟨r2, er2⟩ : ∃ z : Int32, z = p' % 100 := ⟨_, rfl⟩
  have fr2 : r2.toInt = p'.toInt % 100 := by rw [er2]; exact ar_mod hp0
  refine g_normI (z := r2) (by rw [eq2, er2]; exact ar_rem hp0 (by omega)) ?_
  refine g_istore X0 hx (pc' := 41) rfl (hD hby d30_39) (l' := #[.val (.int (-p')), .val (.int e5), .val (.ref va), .val (.int (-q2)), .val (.int r2), .val (.int e5), .val (.int 0)]) rfl ?_
  refine g_iloadN X0 hx (pc' := 42) rfl (hD hby d30_41) rfl ?_
  refine g_istoreN X0 hx (pc' := 43) rfl (hD hby d30_42) (l' := #[.val (.int (-q2)), .val (.int e5), .val (.ref va), .val (.int (-q2)), .val (.int r2), .val (.int e5), .val (.int 0)]) rfl ?_
  refine g_aloadN X0 hx (pc' := 44) rfl (hD hby d30_43) rfl rfl ?_
  refine g_iincC X0 hx (pc' := 47) (x := e5) (z := e4) rfl (hD hby d30_44) rfl s5 (l' := #[.val (.int (-q2)), .val (.int e5), .val (.ref va), .val (.int (-q2)), .val (.int r2), .val (.int e4), .val (.int 0)]) rfl ?_
  refine g_iload X0 hx (pc' := 49) rfl (hD hby d30_47) rfl ?_
  refine g_getS X0 hx hZ hown (wat hw 175 rfl) Via.refl (Sta.ext OLD.2 S1) (pc' := 52) rfl (hD hby d30_49) (fun T366 X366 => ?_)
  refine g_iload X366 hx (pc' := 54) rfl (hD hby d30_52) rfl ?_
  have by0 : r2.toInt.toNat < 100 := by omega
  refine g_baload X366 hx hZ (AV.ext A1 OLD.2) (i := r2.toInt.toNat) (by omega) (by rw [dol_len]; exact by0) (x := Int32.ofNat (48 + r2.toInt.toNat % 10)) (dol_get by0) (pc' := 55) rfl (hD hby d30_54) ?_
  refine g_absI (fun y0 hy0 => ?_)
  have ky0 : y0.toInt = 48 + (p'.toInt / 1) % 10 := by rw [hy0, ar_of (by omega)]; omega
  refine g_bastore X366 hx hZ Av (i := c' + 4) g4 (by first | omega | (simp only [List.length_set]; omega)) hgv (y := y0) (nar_sm (by omega) (by omega)) (pc' := 56) rfl (hD hby d30_55) (fun T367 h367 X367 W367 N367 => ?_)
  have f368 := (by have q := (Keep.of_wr W367).1; exact Nat.le_trans hn0 q : n0 ≤ h367.size)
  have f369 := (Keep.refl h0 [va]).wr W367 (Or.inl (List.mem_of_getElem? (i := 0) rfl))
  have f370 := OLD.wr W367 hgv
  refine g_aloadN X367 hx (pc' := 57) rfl (hD hby d30_56) rfl rfl ?_
  refine g_iincC X367 hx (pc' := 60) (x := e4) (z := e3) rfl (hD hby d30_57) rfl s4 (l' := #[.val (.int (-q2)), .val (.int e5), .val (.ref va), .val (.int (-q2)), .val (.int r2), .val (.int e3), .val (.int 0)]) rfl ?_
  refine g_iload X367 hx (pc' := 62) rfl (hD hby d30_60) rfl ?_
  refine g_getS X367 hx hZ hown (wat hw 238 rfl) Via.refl (Sta.ext f370.2 S2) (pc' := 65) rfl (hD hby d30_62) (fun T371 X371 => ?_)
  refine g_iload X371 hx (pc' := 67) rfl (hD hby d30_65) rfl ?_
  have by1 : r2.toInt.toNat < 100 := by omega
  refine g_baload X371 hx hZ (AV.ext A2 f370.2) (i := r2.toInt.toNat) (by omega) (by rw [dtl_len]; exact by1) (x := Int32.ofNat (48 + r2.toInt.toNat / 10)) (dtl_get by1) (pc' := 68) rfl (hD hby d30_67) ?_
  refine g_absI (fun y1 hy1 => ?_)
  have ky1 : y1.toInt = 48 + (p'.toInt / 10) % 10 := by rw [hy1, ar_of (by omega)]; omega
  refine g_bastore X371 hx hZ N367 (i := c' + 3) g3 (by first | omega | (simp only [List.length_set]; omega)) hgv (y := y1) (nar_sm (by omega) (by omega)) (pc' := 69) rfl (hD hby d30_68) (fun T372 h372 X372 W372 N372 => ?_)
  have f373 := (by have q := (Keep.of_wr W372).1; exact Nat.le_trans f368 q : n0 ≤ h372.size)
  have f374 := f369.wr W372 (Or.inl (List.mem_of_getElem? (i := 0) rfl))
  have f375 := f370.wr W372 hgv
  refine g_goto X372 hx (pc' := 22) (hD hby d30_69) (by decide) (by decide) ?_
  refine g_iloadN X372 hx (pc' := 23) rfl (hD hby d30_22) rfl ?_
  refine g_bipush X372 hx (pc' := 25) (z := (-100 : Int32)) rfl (hD hby d30_23) rfl ?_
  refine g_icmpN X372 hx (pcN := 28) (hD hby d30_25) rfl (show ¬ ((-100 : Int32) < (-q2)) from ar_nlt nq2 (by have e0 : (-100 : Int32).toInt = -100 := rfl; omega)) ?_
  refine g_iloadN X372 hx (pc' := 29) rfl (hD hby d30_28) rfl ?_
  refine g_bipush X372 hx (pc' := 31) (z := (100 : Int32)) rfl (hD hby d30_29) rfl ?_
  refine g_idiv X372 hx (pc' := 32) rfl (hD hby d30_31) (by decide) ?_
  obtain ⟨q4, eq4⟩ : ∃ z : Int32, z = q2 / 100 := ⟨_, rfl⟩
  have fq4 : q4.toInt = q2.toInt / 100 := by rw [eq4]; exact ar_div nq2 (by decide)
  have nq4 : 0 ≤ q4.toInt := by omega
  refine g_normI (z := (-q4)) (by rw [eq4]; exact ar_ndiv nq2 (by decide)) ?_
  refine g_istoreN X372 hx (pc' := 33) rfl (hD hby d30_32) (l' := #[.val (.int (-q2)), .val (.int e5), .val (.ref va), .val (.int (-q4)), .val (.int r2), .val (.int e3), .val (.int 0)]) rfl ?_
  refine g_iloadN X372 hx (pc' := 34) rfl (hD hby d30_33) rfl ?_
  refine g_bipush X372 hx (pc' := 36) (z := (100 : Int32)) rfl (hD hby d30_34) rfl ?_
  refine g_imul X372 hx (pc' := 37) rfl (hD hby d30_36) ?_
  refine g_iloadN X372 hx (pc' := 38) rfl (hD hby d30_37) rfl ?_
  refine g_isub X372 hx (pc' := 39) rfl (hD hby d30_38) ?_
  obtain ⟨r4, er4⟩ : ∃ z : Int32, z = q2 % 100 := ⟨_, rfl⟩
  have fr4 : r4.toInt = q2.toInt % 100 := by rw [er4]; exact ar_mod nq2
  refine g_normI (z := r4) (by rw [eq4, er4]; exact ar_rem nq2 (by omega)) ?_
  refine g_istore X372 hx (pc' := 41) rfl (hD hby d30_39) (l' := #[.val (.int (-q2)), .val (.int e5), .val (.ref va), .val (.int (-q4)), .val (.int r4), .val (.int e3), .val (.int 0)]) rfl ?_
  refine g_iloadN X372 hx (pc' := 42) rfl (hD hby d30_41) rfl ?_
  refine g_istoreN X372 hx (pc' := 43) rfl (hD hby d30_42) (l' := #[.val (.int (-q4)), .val (.int e5), .val (.ref va), .val (.int (-q4)), .val (.int r4), .val (.int e3), .val (.int 0)]) rfl ?_
  refine g_aloadN X372 hx (pc' := 44) rfl (hD hby d30_43) rfl rfl ?_
  refine g_iincC X372 hx (pc' := 47) (x := e3) (z := e2) rfl (hD hby d30_44) rfl s3 (l' := #[.val (.int (-q4)), .val (.int e5), .val (.ref va), .val (.int (-q4)), .val (.int r4), .val (.int e2), .val (.int 0)]) rfl ?_
  refine g_iload X372 hx (pc' := 49) rfl (hD hby d30_47) rfl ?_
  refine g_getS X372 hx hZ hown (wat hw 175 rfl) Via.refl (Sta.ext f375.2 S1) (pc' := 52) rfl (hD hby d30_49) (fun T376 X376 => ?_)
  refine g_iload X376 hx (pc' := 54) rfl (hD hby d30_52) rfl ?_
  have by2 : r4.toInt.toNat < 100 := by omega
  refine g_baload X376 hx hZ (AV.ext A1 f375.2) (i := r4.toInt.toNat) (by omega) (by rw [dol_len]; exact by2) (x := Int32.ofNat (48 + r4.toInt.toNat % 10)) (dol_get by2) (pc' := 55) rfl (hD hby d30_54) ?_
  refine g_absI (fun y2 hy2 => ?_)
  have ky2 : y2.toInt = 48 + (p'.toInt / 100) % 10 := by rw [hy2, ar_of (by omega)]; omega
  refine g_bastore X376 hx hZ N372 (i := c' + 2) g2 (by first | omega | (simp only [List.length_set]; omega)) hgv (y := y2) (nar_sm (by omega) (by omega)) (pc' := 56) rfl (hD hby d30_55) (fun T377 h377 X377 W377 N377 => ?_)
  have f378 := (by have q := (Keep.of_wr W377).1; exact Nat.le_trans f373 q : n0 ≤ h377.size)
  have f379 := f374.wr W377 (Or.inl (List.mem_of_getElem? (i := 0) rfl))
  have f380 := f375.wr W377 hgv
  refine g_aloadN X377 hx (pc' := 57) rfl (hD hby d30_56) rfl rfl ?_
  refine g_iincC X377 hx (pc' := 60) (x := e2) (z := e1) rfl (hD hby d30_57) rfl s2 (l' := #[.val (.int (-q4)), .val (.int e5), .val (.ref va), .val (.int (-q4)), .val (.int r4), .val (.int e1), .val (.int 0)]) rfl ?_
  refine g_iload X377 hx (pc' := 62) rfl (hD hby d30_60) rfl ?_
  refine g_getS X377 hx hZ hown (wat hw 238 rfl) Via.refl (Sta.ext f380.2 S2) (pc' := 65) rfl (hD hby d30_62) (fun T381 X381 => ?_)
  refine g_iload X381 hx (pc' := 67) rfl (hD hby d30_65) rfl ?_
  have by3 : r4.toInt.toNat < 100 := by omega
  refine g_baload X381 hx hZ (AV.ext A2 f380.2) (i := r4.toInt.toNat) (by omega) (by rw [dtl_len]; exact by3) (x := Int32.ofNat (48 + r4.toInt.toNat / 10)) (dtl_get by3) (pc' := 68) rfl (hD hby d30_67) ?_
  refine g_absI (fun y3 hy3 => ?_)
  have ky3 : y3.toInt = 48 + (p'.toInt / 1000) % 10 := by rw [hy3, ar_of (by omega)]; omega
  refine g_bastore X381 hx hZ N377 (i := c' + 1) g1 (by first | omega | (simp only [List.length_set]; omega)) hgv (y := y3) (nar_sm (by omega) (by omega)) (pc' := 69) rfl (hD hby d30_68) (fun T382 h382 X382 W382 N382 => ?_)
  have f383 := (by have q := (Keep.of_wr W382).1; exact Nat.le_trans f378 q : n0 ≤ h382.size)
  have f384 := f379.wr W382 (Or.inl (List.mem_of_getElem? (i := 0) rfl))
  have f385 := f380.wr W382 hgv
  refine g_goto X382 hx (pc' := 22) (hD hby d30_69) (by decide) (by decide) ?_
  refine g_iloadN X382 hx (pc' := 23) rfl (hD hby d30_22) rfl ?_
  refine g_bipush X382 hx (pc' := 25) (z := (-100 : Int32)) rfl (hD hby d30_23) rfl ?_
  refine g_icmpY X382 hx (pcY := 72) (hD hby d30_25) (by decide) (by decide) (show (-100 : Int32) < (-q4) from ar_lt nq4 (by have e0 : (-100 : Int32).toInt = -100 := rfl; omega)) ?_
  refine g_aloadN X382 hx (pc' := 73) rfl (hD hby d30_72) rfl rfl ?_
  refine g_iincC X382 hx (pc' := 76) (x := e1) (z := e0) rfl (hD hby d30_73) rfl s1 (l' := #[.val (.int (-q4)), .val (.int e5), .val (.ref va), .val (.int (-q4)), .val (.int r4), .val (.int e0), .val (.int 0)]) rfl ?_
  refine g_iload X382 hx (pc' := 78) rfl (hD hby d30_76) rfl ?_
  refine g_getS X382 hx hZ hown (wat hw 175 rfl) Via.refl (Sta.ext f385.2 S1) (pc' := 81) rfl (hD hby d30_78) (fun T386 X386 => ?_)
  refine g_iloadN X386 hx (pc' := 82) rfl (hD hby d30_81) rfl ?_
  refine g_ineg X386 hx (pc' := 83) rfl (hD hby d30_82) ?_
  refine g_normI (z := q4) ar_nn ?_
  have by4 : q4.toInt.toNat < 100 := by omega
  refine g_baload X386 hx hZ (AV.ext A1 f385.2) (i := q4.toInt.toNat) (by omega) (by rw [dol_len]; exact by4) (x := Int32.ofNat (48 + q4.toInt.toNat % 10)) (dol_get by4) (pc' := 84) rfl (hD hby d30_83) ?_
  refine g_absI (fun y4 hy4 => ?_)
  have ky4 : y4.toInt = 48 + (p'.toInt / 10000) % 10 := by rw [hy4, ar_of (by omega)]; omega
  refine g_bastore X386 hx hZ N382 (i := c') g0 (by first | omega | (simp only [List.length_set]; omega)) hgv (y := y4) (nar_sm (by omega) (by omega)) (pc' := 85) rfl (hD hby d30_84) (fun T387 h387 X387 W387 N387 => ?_)
  have f388 := (by have q := (Keep.of_wr W387).1; exact Nat.le_trans f383 q : n0 ≤ h387.size)
  have f389 := f384.wr W387 (Or.inl (List.mem_of_getElem? (i := 0) rfl))
  have f390 := f385.wr W387 hgv
  refine g_iloadN X387 hx (pc' := 86) rfl (hD hby d30_85) rfl ?_
  refine g_bipush X387 hx (pc' := 88) (z := (-9 : Int32)) rfl (hD hby d30_86) rfl ?_
  refine g_icmpY X387 hx (pcY := 104) (hD hby d30_88) (by decide) (by decide) (show ¬ (-q4) < (-9 : Int32) from ar_nlt' nq4 (by have e0 : (-9 : Int32).toInt = -9 := rfl; omega)) ?_
  refine g_iload X387 hx (pc' := 106) rfl (hD hby d30_104) rfl ?_
  refine g_ifY X387 hx (pcY := 118) (hD hby d30_106) (by decide) (by decide) (show (0 : Int32) = 0 from by decide) ?_
  refine g_iload X387 hx (pc' := 120) rfl (hD hby d30_118) rfl ?_
  exact g_retI X387 hx hlk hret (hD hby d30_120) (by decide) (by decide) (Nat.le_refl _) (⟨rfl, f389, y0, y1, y2, y3, y4, ky0, ky1, ky2, ky3, ky4, own_set5 hv hb ▸ N387⟩)
theorem rm27_5 (l : Launch) (Z : State) (a0 : Array Value) (hw : HW a0 Z) (ws : List Jvm.Cond) (n0 : Nat) (Ts : List String) (p' : Int32) (b va dO dT : Addr) (vs : List Value) (c' : Nat) (e0 e1 e2 e3 e4 e5 : Int32) (cz : Int32) (h0 : Heap) (hn0 : n0 ≤ h0.size) (O2 : St0 Z (.int cz)) (hcz : ¬ cz = 0) (OLD : OldP Z n0 h0) (hp0 : 0 ≤ p'.toInt) (hp1 : p'.toInt < 65536) (hl : 10000 ≤ p'.toInt) (hu : p'.toInt < 100000) (S1 : St1 Z (.ref dO)) (A1 : AV Z Z.heap dO .byte DOL) (S2 : St2 Z (.ref dT)) (A2 : AV Z Z.heap dT .byte DTL) (Eb : XSb Z h0 b) (hgb : n0 ≤ b) (Fbv : BV Z h0 b (.ref va)) (Fbc : BC Z h0 b (.int 0)) (Fbn : BN Z h0 b (.int e0)) (Av : AV Z h0 va .byte vs) (hgv : n0 ≤ va) (g0 : e0.toInt = (c' : Int)) (g1 : e1.toInt = ((c' + 1 : Nat) : Int)) (s1 : e1 + Int32.ofInt (-1) = e0) (g2 : e2.toInt = ((c' + 2 : Nat) : Int)) (s2 : e2 + Int32.ofInt (-1) = e1) (g3 : e3.toInt = ((c' + 3 : Nat) : Int)) (s3 : e3 + Int32.ofInt (-1) = e2) (g4 : e4.toInt = ((c' + 4 : Nat) : Int)) (s4 : e4 + Int32.ofInt (-1) = e3) (g5 : e5.toInt = ((c' + 5 : Nat) : Int)) (s5 : e5 + Int32.ofInt (-1) = e4) (hb : c' + 5 ≤ 16) (hv : vs.length = 16) (hce : e0 + (5 : Int32) = e5) :
    Con l Z n0 Ts (Ts) (⟨"java/lang/AbstractStringBuilder", "append", "(I)Ljava/lang/AbstractStringBuilder;"⟩ : MethodName) jdk_68_method_32_code 4 (some (.object "java/lang/AbstractStringBuilder")) ws ({ frames := 1, cells := 0, slots := 0, locals := 32 } : Room) #[(.ref b), (.int p')] h0 (fun v h => v = some (.ref b) ∧ Keep h0 h [b, va] ∧ ∃ y0 y1 y2 y3 y4, y0.toInt = 48 + (p'.toInt / 1) % 10 ∧ y1.toInt = 48 + (p'.toInt / 10) % 10 ∧ y2.toInt = 48 + (p'.toInt / 100) % 10 ∧ y3.toInt = 48 + (p'.toInt / 1000) % 10 ∧ y4.toInt = 48 + (p'.toInt / 10000) % 10 ∧ AV Z h va .byte (vs.take c' ++ [.int y4, .int y3, .int y2, .int y1, .int y0] ++ vs.drop (c' + 5)) ∧ BV Z h b (.ref va) ∧ BC Z h b (.int 0) ∧ BN Z h b (.int e5)) := by
  refine con_start (fr0 := fun m => mkF m 0 #[.val (.ref b), .val (.int p'), .unset, .unset] []) ?_
  intro p e s m below meth c T0 hx hZ hby hml hown hnm hret hlk hsh XA
  have X0 := XA n0
  have hlow : n0 ≤ s.heap.size := by rw [hsh]; exact hn0
  replace hown : s.vm.findClass "java/lang/AbstractStringBuilder" = some m.cls := hown
  replace hml : c.maxLocals = 4 := hml
  have nA391 : b ≠ va := own_neA Eb (wat hw 95 rfl) Av
  refine g_aloadN X0 hx (pc' := 1) rfl (hD hby d27_0) rfl rfl ?_
  refine g_getF X0 hx hZ hown (wat hw 127 rfl) Via.refl Fbn (pc' := 4) rfl (hD hby d27_1) (fun T392 X392 => ?_)
  refine g_istoreN X392 hx (pc' := 5) rfl (hD hby d27_4) (l' := #[.val (.ref b), .val (.int p'), .val (.int e0), .unset]) rfl ?_
  refine g_iloadN X392 hx (pc' := 6) rfl (hD hby d27_5) rfl ?_
  refine g_iloadN X392 hx (pc' := 7) rfl (hD hby d27_6) rfl ?_
  refine g_callS X392 hx hZ hown (wat hw 163 rfl) (wat hw 164 rfl) (wat hw 165 rfl) (wat hw 166 rfl) (by decide) (rm28_5 l Z a0 hw [] n0 (Ts) p' h0 hn0 hp0 hp1 hl hu) pd_17 rfl rfl (pc' := 10) rfl (hD hby d27_7) (argsL := [(.int p')]) (rest := [(.int e0)]) rfl (W := 1) (fun v393 T393 h393 X393 hQ393 => ?_)
  obtain ⟨rfl, he393⟩ := hQ393
  rw [he393] at X393
  show Go p e below s n0 _ _ _ (T393.setTop (mkF m 10 _ [(.int 5), (.int e0)]))
  refine g_iadd X393 hx (pc' := 11) rfl (hD hby d27_10) ?_
  refine g_normI (z := e5) hce ?_
  refine g_istoreN X393 hx (pc' := 12) rfl (hD hby d27_11) (l' := #[.val (.ref b), .val (.int p'), .val (.int e0), .val (.int e5)]) rfl ?_
  refine g_aloadN X393 hx (pc' := 13) rfl (hD hby d27_12) rfl rfl ?_
  refine g_iloadN X393 hx (pc' := 14) rfl (hD hby d27_13) rfl ?_
  refine g_callPS X393 hx hZ hown (wat hw 129 rfl) (wat hw 130 rfl) (wat hw 132 rfl) (wat hw 131 rfl) (wat hw 104 rfl) (wat hw 133 rfl) (by decide) (a := b) Eb (rm22 l Z a0 hw [] n0 (Ts) b va _ e5 h0 hn0 Fbv Fbc Av hv (by omega) (by omega)) pd_12 rfl rfl (pc' := 17) rfl (hD hby d27_14) (argsL := [(.int e5)]) (rest := []) rfl (W := 0) (fun v394 T394 h394 X394 hQ394 => ?_)
  obtain ⟨rfl, he394⟩ := hQ394
  rw [he394] at X394
  show Go p e below s n0 _ _ _ (T394.setTop (mkF m 17 _ []))
  refine g_aloadN X394 hx (pc' := 18) rfl (hD hby d27_17) rfl rfl ?_
  refine g_callV X394 hx hZ hown (wat hw 167 rfl) (wat hw 168 rfl) (wat hw 170 rfl) (wat hw 169 rfl) (wat hw 104 rfl) (wat hw 171 rfl) (by decide) (a := b) Eb (rm29 l Z a0 hw [] n0 (Ts) b cz h0 hn0 O2 hcz OLD Fbc) pd_6 rfl rfl (pc' := 21) rfl (hD hby d27_18) (argsL := []) (rest := []) rfl (W := 0) (fun v395 T395 h395 X395 hQ395 => ?_)
  obtain ⟨rfl, he395⟩ := hQ395
  rw [he395] at X395
  show Go p e below s n0 _ _ _ (T395.setTop (mkF m 21 _ [(.int 1)]))
  refine g_ifN X395 hx (pcN := 24) (hD hby d27_21) rfl (show ¬ ((1 : Int32) = 0) from by decide) ?_
  refine g_iloadN X395 hx (pc' := 25) rfl (hD hby d27_24) rfl ?_
  refine g_iloadN X395 hx (pc' := 26) rfl (hD hby d27_25) rfl ?_
  refine g_aloadN X395 hx (pc' := 27) rfl (hD hby d27_26) rfl rfl ?_
  refine g_getF X395 hx hZ hown (wat hw 108 rfl) Via.refl Fbv (pc' := 30) rfl (hD hby d27_27) (fun T396 X396 => ?_)
  refine g_callS X396 hx hZ hown (wat hw 172 rfl) (wat hw 173 rfl) (wat hw 165 rfl) (wat hw 174 rfl) (by decide) (rm30_5 l Z a0 hw [] n0 (Ts) p' va dO dT vs c' e0 e1 e2 e3 e4 e5 cz h0 hn0 O2 hcz OLD hp0 hp1 hl hu S1 A1 S2 A2 Av hgv g0 g1 s1 g2 s2 g3 s3 g4 s4 g5 s5 hb hv) pd_18 rfl rfl (pc' := 33) rfl (hD hby d27_30) (argsL := [(.int p'), (.int e5), (.ref va)]) (rest := []) rfl (W := 0) (fun v397 T397 h397 X397 hQ397 => ?_)
  obtain ⟨rfl, K397, y0, y1, y2, y3, y4, k0, k1, k2, k3, k4, V397⟩ := hQ397
  have f398 := (Keep.refl h0 [b, va]).trans K397 (allS (Or.inl (List.mem_of_getElem? (i := 1) rfl)) all0)
  have f399 := OLD.keep K397 (allS hgv all0)
  have f400 := Eb.keep K397
  have f401 := Fbv.keep K397 (ninS nA391 nin0)
  have f402 := Fbc.keep K397 (ninS nA391 nin0)
  have f403 := Fbn.keep K397 (ninS nA391 nin0)
  have zs397 : n0 ≤ h397.size := Nat.le_trans hn0 K397.1
  show Go p e below s n0 _ _ _ (T397.setTop (mkF m 33 _ [(.int e0)]))
  refine g_pop X397 hx (pc' := 34) rfl (hD hby d27_33) rfl ?_
  refine g_goto X397 hx (pc' := 48) (hD hby d27_34) (by decide) (by decide) ?_
  refine g_aloadN X397 hx (pc' := 49) rfl (hD hby d27_48) rfl rfl ?_
  refine g_iloadN X397 hx (pc' := 50) rfl (hD hby d27_49) rfl ?_
  refine g_putF X397 hx hZ hown (wat hw 127 rfl) Via.refl f403 f400 (Or.inl (wat hw 128 rfl)) (wat hw 95 rfl) (ty := .int) (by decide) rfl rfl hgb (pc' := 53) rfl (hD hby d27_50) (fun T404 h404 X404 W404 => ?_)
  have f405 := (by have q := (Keep.of_wr W404).1; exact Nat.le_trans zs397 q : n0 ≤ h404.size)
  have f406 := f398.wr W404 (Or.inl (List.mem_of_getElem? (i := 0) rfl))
  have f407 := f399.wr W404 hgb
  have f408 := f400.wr W404
  have f409 := f401.other W404 (Or.inr (slot_ne (Or.inl (wat hw 109 rfl)) (Or.inl (wat hw 128 rfl)) (by decide) (t := (.array .byte)) (t' := .int) (by decide) (by decide)))
  have f410 := f402.other W404 (Or.inr (slot_ne (Or.inl (wat hw 111 rfl)) (Or.inl (wat hw 128 rfl)) (by decide) (t := .byte) (t' := .int) (by decide) (by decide)))
  have f411 := f403.same W404
  have f412 := V397.other W404 nA391.symm
  refine g_aloadN X404 hx (pc' := 54) rfl (hD hby d27_53) rfl rfl ?_
  exact g_ret X404 hx hlk hret rfl (Or.inr (Or.inr (Or.inr (Or.inr ⟨rfl, rfl, rfl⟩)))) (hD hby d27_54) (by decide) (by decide) (Nat.le_refl _) (⟨rfl, f406, y0, y1, y2, y3, y4, k0, k1, k2, k3, k4, f412, f409, f410, f411⟩)
theorem rm26_5 (l : Launch) (Z : State) (a0 : Array Value) (hw : HW a0 Z) (ws : List Jvm.Cond) (n0 : Nat) (Ts : List String) (p' : Int32) (b va dO dT : Addr) (vs : List Value) (c' : Nat) (e0 e1 e2 e3 e4 e5 : Int32) (cz : Int32) (h0 : Heap) (hn0 : n0 ≤ h0.size) (O2 : St0 Z (.int cz)) (hcz : ¬ cz = 0) (OLD : OldP Z n0 h0) (hp0 : 0 ≤ p'.toInt) (hp1 : p'.toInt < 65536) (hl : 10000 ≤ p'.toInt) (hu : p'.toInt < 100000) (S1 : St1 Z (.ref dO)) (A1 : AV Z Z.heap dO .byte DOL) (S2 : St2 Z (.ref dT)) (A2 : AV Z Z.heap dT .byte DTL) (Eb : XSb Z h0 b) (hgb : n0 ≤ b) (Fbv : BV Z h0 b (.ref va)) (Fbc : BC Z h0 b (.int 0)) (Fbn : BN Z h0 b (.int e0)) (Av : AV Z h0 va .byte vs) (hgv : n0 ≤ va) (g0 : e0.toInt = (c' : Int)) (g1 : e1.toInt = ((c' + 1 : Nat) : Int)) (s1 : e1 + Int32.ofInt (-1) = e0) (g2 : e2.toInt = ((c' + 2 : Nat) : Int)) (s2 : e2 + Int32.ofInt (-1) = e1) (g3 : e3.toInt = ((c' + 3 : Nat) : Int)) (s3 : e3 + Int32.ofInt (-1) = e2) (g4 : e4.toInt = ((c' + 4 : Nat) : Int)) (s4 : e4 + Int32.ofInt (-1) = e3) (g5 : e5.toInt = ((c' + 5 : Nat) : Int)) (s5 : e5 + Int32.ofInt (-1) = e4) (hb : c' + 5 ≤ 16) (hv : vs.length = 16) (hce : e0 + (5 : Int32) = e5) :
    Con l Z n0 Ts (Ts) (⟨"java/lang/StringBuilder", "append", "(I)Ljava/lang/StringBuilder;"⟩ : MethodName) jdk_67_method_15_code 2 (some (.object "java/lang/StringBuilder")) ws ({ frames := 2, cells := 0, slots := 0, locals := 56 } : Room) #[(.ref b), (.int p')] h0 (fun v h => v = some (.ref b) ∧ Keep h0 h [b, va] ∧ ∃ y0 y1 y2 y3 y4, y0.toInt = 48 + (p'.toInt / 1) % 10 ∧ y1.toInt = 48 + (p'.toInt / 10) % 10 ∧ y2.toInt = 48 + (p'.toInt / 100) % 10 ∧ y3.toInt = 48 + (p'.toInt / 1000) % 10 ∧ y4.toInt = 48 + (p'.toInt / 10000) % 10 ∧ AV Z h va .byte (vs.take c' ++ [.int y4, .int y3, .int y2, .int y1, .int y0] ++ vs.drop (c' + 5)) ∧ BV Z h b (.ref va) ∧ BC Z h b (.int 0) ∧ BN Z h b (.int e5)) := by
  refine con_start (fr0 := fun m => mkF m 0 #[.val (.ref b), .val (.int p')] []) ?_
  intro p e s m below meth c T0 hx hZ hby hml hown hnm hret hlk hsh XA
  have X0 := XA n0
  have hlow : n0 ≤ s.heap.size := by rw [hsh]; exact hn0
  replace hown : s.vm.findClass "java/lang/StringBuilder" = some m.cls := hown
  replace hml : c.maxLocals = 2 := hml
  have nA413 : b ≠ va := own_neA Eb (wat hw 95 rfl) Av
  refine g_aloadN X0 hx (pc' := 1) rfl (hD hby d26_0) rfl rfl ?_
  refine g_iloadN X0 hx (pc' := 2) rfl (hD hby d26_1) rfl ?_
  refine g_callSup X0 hx hZ hown (by decide) (wat hw 159 rfl) (wat hw 160 rfl) (y' := ({ cls := "java/lang/AbstractStringBuilder", name := "ensureCapacityInternal", desc := "(I)V" } : Jvm.MethodName)) rfl (wat hw 132 rfl) (wat hw 119 rfl) (wat hw 104 rfl) (wat hw 162 rfl) (by decide) (a := b) Eb (rm27_5 l Z a0 hw [] n0 (Ts) p' b va dO dT vs c' e0 e1 e2 e3 e4 e5 cz h0 hn0 O2 hcz OLD hp0 hp1 hl hu S1 A1 S2 A2 Eb hgb Fbv Fbc Fbn Av hgv g0 g1 s1 g2 s2 g3 s3 g4 s4 g5 s5 hb hv hce) pd_19 rfl rfl (pc' := 5) rfl (hD hby d26_2) (argsL := [(.int p')]) (rest := []) rfl (W := 0) (fun v414 T414 h414 X414 hQ414 => ?_)
  obtain ⟨rfl, K414, y0, y1, y2, y3, y4, k0, k1, k2, k3, k4, V414, FV414, FC414, FN414⟩ := hQ414
  have f415 := (Keep.refl h0 [b, va]).trans K414 (allS (Or.inl (List.mem_of_getElem? (i := 0) rfl)) (allS (Or.inl (List.mem_of_getElem? (i := 1) rfl)) all0))
  have f416 := OLD.keep K414 (allS hgb (allS hgv all0))
  have f417 := Eb.keep K414
  have zs414 : n0 ≤ h414.size := Nat.le_trans hn0 K414.1
  show Go p e below s n0 _ _ _ (T414.setTop (mkF m 5 _ [(.ref b)]))
  refine g_pop X414 hx (pc' := 6) rfl (hD hby d26_5) rfl ?_
  refine g_aloadN X414 hx (pc' := 7) rfl (hD hby d26_6) rfl rfl ?_
  exact g_ret X414 hx hlk hret rfl (Or.inr (Or.inr (Or.inr (Or.inr ⟨rfl, rfl, rfl⟩)))) (hD hby d26_7) (by decide) (by decide) (Nat.le_refl _) (⟨rfl, f415, y0, y1, y2, y3, y4, k0, k1, k2, k3, k4, V414, FV414, FC414, FN414⟩)
theorem rm34 (l : Launch) (Z : State) (a0 : Array Value) (hw : HW a0 Z) (ws : List Jvm.Cond) (n0 : Nat) (Ts : List String) (b va : Addr) (h0 : Heap) (hn0 : n0 ≤ h0.size) (Fbv : BV Z h0 b (.ref va)) :
    Con l Z n0 Ts (Ts) (⟨"java/lang/AbstractStringBuilder", "getValue", "()[B"⟩ : MethodName) jdk_68_method_64_code 1 (some (.array .byte)) ws ({ frames := 0, cells := 0, slots := 0, locals := 0 } : Room) #[(.ref b)] h0 (fun v h => v = some (.ref va) ∧ h = h0) := by
  refine con_start (fr0 := fun m => mkF m 0 #[.val (.ref b)] []) ?_
  intro p e s m below meth c T0 hx hZ hby hml hown hnm hret hlk hsh XA
  have X0 := XA n0
  have hlow : n0 ≤ s.heap.size := by rw [hsh]; exact hn0
  replace hown : s.vm.findClass "java/lang/AbstractStringBuilder" = some m.cls := hown
  replace hml : c.maxLocals = 1 := hml
  refine g_aloadN X0 hx (pc' := 1) rfl (hD hby d34_0) rfl rfl ?_
  refine g_getF X0 hx hZ hown (wat hw 108 rfl) Via.refl Fbv (pc' := 4) rfl (hD hby d34_1) (fun T418 X418 => ?_)
  exact g_ret X418 hx hlk hret rfl (Or.inr (Or.inr (Or.inr (Or.inr ⟨rfl, rfl, rfl⟩)))) (hD hby d34_4) (by decide) (by decide) (Nat.le_refl _) (⟨rfl, rfl⟩)
theorem rm36 (l : Launch) (Z : State) (a0 : Array Value) (hw : HW a0 Z) (ws : List Jvm.Cond) (n0 : Nat) (Ts : List String) (b : Addr) (m' : Int32) (h0 : Heap) (hn0 : n0 ≤ h0.size) (Fbn : BN Z h0 b (.int m')) :
    Con l Z n0 Ts (Ts) (⟨"java/lang/AbstractStringBuilder", "length", "()I"⟩ : MethodName) jdk_68_method_6_code 1 (some .int) ws ({ frames := 0, cells := 0, slots := 0, locals := 0 } : Room) #[(.ref b)] h0 (fun v h => v = some (.int m') ∧ h = h0) := by
  refine con_start (fr0 := fun m => mkF m 0 #[.val (.ref b)] []) ?_
  intro p e s m below meth c T0 hx hZ hby hml hown hnm hret hlk hsh XA
  have X0 := XA n0
  have hlow : n0 ≤ s.heap.size := by rw [hsh]; exact hn0
  replace hown : s.vm.findClass "java/lang/AbstractStringBuilder" = some m.cls := hown
  replace hml : c.maxLocals = 1 := hml
  refine g_aloadN X0 hx (pc' := 1) rfl (hD hby d36_0) rfl rfl ?_
  refine g_getF X0 hx hZ hown (wat hw 127 rfl) Via.refl Fbn (pc' := 4) rfl (hD hby d36_1) (fun T419 X419 => ?_)
  exact g_retI X419 hx hlk hret (hD hby d36_4) (by decide) (by decide) (Nat.le_refl _) (⟨rfl, rfl⟩)
theorem rm35 (l : Launch) (Z : State) (a0 : Array Value) (hw : HW a0 Z) (ws : List Jvm.Cond) (n0 : Nat) (Ts : List String) (b : Addr) (m' : Int32) (h0 : Heap) (hn0 : n0 ≤ h0.size) (Eb : XSb Z h0 b) (Fbn : BN Z h0 b (.int m')) :
    Con l Z n0 Ts (Ts) (⟨"java/lang/StringBuilder", "length", "()I"⟩ : MethodName) jdk_67_method_93_code 1 (some .int) ws ({ frames := 1, cells := 0, slots := 0, locals := 16 } : Room) #[(.ref b)] h0 (fun v h => v = some (.int m') ∧ h = h0) := by
  refine con_start (fr0 := fun m => mkF m 0 #[.val (.ref b)] []) ?_
  intro p e s m below meth c T0 hx hZ hby hml hown hnm hret hlk hsh XA
  have X0 := XA n0
  have hlow : n0 ≤ s.heap.size := by rw [hsh]; exact hn0
  replace hown : s.vm.findClass "java/lang/StringBuilder" = some m.cls := hown
  replace hml : c.maxLocals = 1 := hml
  refine g_aloadN X0 hx (pc' := 1) rfl (hD hby d35_0) rfl rfl ?_
  refine g_callSup X0 hx hZ hown (by decide) (wat hw 199 rfl) (wat hw 195 rfl) (y' := ({ cls := "java/lang/AbstractStringBuilder", name := "ensureCapacityInternal", desc := "(I)V" } : Jvm.MethodName)) rfl (wat hw 132 rfl) (wat hw 119 rfl) (wat hw 104 rfl) (wat hw 200 rfl) (by decide) (a := b) Eb (rm36 l Z a0 hw [] n0 (Ts) b m' h0 hn0 Fbn) pd_10 rfl rfl (pc' := 4) rfl (hD hby d35_1) (argsL := []) (rest := []) rfl (W := 0) (fun v420 T420 h420 X420 hQ420 => ?_)
  obtain ⟨rfl, he420⟩ := hQ420
  rw [he420] at X420
  show Go p e below s n0 _ _ _ (T420.setTop (mkF m 4 _ [(.int m')]))
  exact g_retI X420 hx hlk hret (hD hby d35_4) (by decide) (by decide) (Nat.le_refl _) (⟨rfl, rfl⟩)
theorem rm39 (l : Launch) (Z : State) (a0 : Array Value) (hw : HW a0 Z) (ws : List Jvm.Cond) (n0 : Nat) (Ts : List String) (m' : Int32) (h0 : Heap) (hn0 : n0 ≤ h0.size) (hm0 : ¬ m' < (0 : Int32)) :
    Con l Z n0 Ts (Ts) (⟨"java/util/Arrays", "checkLength", "(II)V"⟩ : MethodName) jdk_65_method_131_code 2 none ws ({ frames := 0, cells := 0, slots := 0, locals := 0 } : Room) #[(.int 0), (.int m')] h0 (fun v h => v = none ∧ h = h0) := by
  refine con_start (fr0 := fun m => mkF m 0 #[.val (.int 0), .val (.int m')] []) ?_
  intro p e s m below meth c T0 hx hZ hby hml hown hnm hret hlk hsh XA
  have X0 := XA n0
  have hlow : n0 ≤ s.heap.size := by rw [hsh]; exact hn0
  replace hown : s.vm.findClass "java/util/Arrays" = some m.cls := hown
  replace hml : c.maxLocals = 2 := hml
  refine g_iloadN X0 hx (pc' := 1) rfl (hD hby d39_0) rfl ?_
  refine g_iloadN X0 hx (pc' := 2) rfl (hD hby d39_1) rfl ?_
  refine g_icmpY X0 hx (pcY := 37) (hD hby d39_2) (by decide) (by decide) (show ¬ m' < (0 : Int32) from hm0) ?_
  exact g_retV X0 hx hlk hret (hD hby d39_37) (by decide) (by decide) (Nat.le_refl _) (⟨rfl, rfl⟩)
theorem rm40 (l : Launch) (Z : State) (a0 : Array Value) (hw : HW a0 Z) (ws : List Jvm.Cond) (n0 : Nat) (Ts : List String) (m' : Int32) (h0 : Heap) (hn0 : n0 ≤ h0.size) (h16 : m' < (16 : Int32)) :
    Con l Z n0 Ts (Ts) (⟨"java/lang/Math", "min", "(II)I"⟩ : MethodName) jdk_29_method_69_code 2 (some .int) ws ({ frames := 0, cells := 0, slots := 0, locals := 0 } : Room) #[(.int 16), (.int m')] h0 (fun v h => v = some (.int m') ∧ h = h0) := by
  refine con_start (hpl := (Jvm.Free.JP.mathPlain rfl (by decide +kernel))) (fr0 := fun m => mkF m 0 #[.val (.int 16), .val (.int m')] []) ?_
  intro p e s m below meth c T0 hx hZ hby hml hown hnm hret hlk hsh XA
  have X0 := XA n0
  have hlow : n0 ≤ s.heap.size := by rw [hsh]; exact hn0
  replace hown : s.vm.findClass "java/lang/Math" = some m.cls := hown
  replace hml : c.maxLocals = 2 := hml
  refine g_iloadN X0 hx (pc' := 1) rfl (hD hby d40_0) rfl ?_
  refine g_iloadN X0 hx (pc' := 2) rfl (hD hby d40_1) rfl ?_
  refine g_icmpY X0 hx (pcY := 9) (hD hby d40_2) (by decide) (by decide) (show m' < (16 : Int32) from h16) ?_
  refine g_iloadN X0 hx (pc' := 10) rfl (hD hby d40_9) rfl ?_
  exact g_retI X0 hx hlk hret (hD hby d40_10) (by decide) (by decide) (Nat.le_refl _) (⟨rfl, rfl⟩)
theorem ar_sub0 (x : Int32) : x - 0 = x := by simp
theorem ar_lt16 {m' : Int32} {m : Nat} (hm : m'.toInt = (m : Int)) (h : m ≤ 10) : m' < (16 : Int32) ∧ ¬ m' < (0 : Int32) ∧ ¬ m' = (16 : Int32) := by
  have e : (16 : Int32).toInt = 16 := rfl
  have z : (0 : Int32).toInt = 0 := rfl
  refine ⟨by rw [Int32.lt_iff_toInt_lt]; omega, by rw [Int32.lt_iff_toInt_lt]; omega, fun q => ?_⟩
  rw [q] at hm; omega
theorem rm38 (l : Launch) (Z : State) (a0 : Array Value) (hw : HW a0 Z) (ws : List Jvm.Cond) (n0 : Nat) (Ts : List String) (va : Addr) (vs : List Value) (m9 : Nat) (m' : Int32) (h0 : Heap) (hn0 : n0 ≤ h0.size) (Av : AV Z h0 va .byte vs) (hm : m'.toInt = (m9 : Int)) (hb : m9 ≤ 10) (hv : vs.length = 16) :
    Con l Z n0 Ts (Ts) (⟨"java/util/Arrays", "copyOfRangeByte", "([BII)[B"⟩ : MethodName) jdk_65_method_133_code 5 (some (.array .byte)) ws ({ frames := 1, cells := 1, slots := 10, locals := 32 } : Room) #[(.ref va), (.int 0), (.int m')] h0 (fun v h => ∃ nb, v = some (.ref nb) ∧ n0 ≤ nb ∧ h0.size ≤ nb ∧ Keep h0 h [] ∧ AV Z h nb .byte (vs.take m9)) := by
  refine con_start (fr0 := fun m => mkF m 0 #[.val (.ref va), .val (.int 0), .val (.int m'), .unset, .unset] []) ?_
  intro p e s m below meth c T0 hx hZ hby hml hown hnm hret hlk hsh XA
  have X0 := XA n0
  have hlow : n0 ≤ s.heap.size := by rw [hsh]; exact hn0
  replace hown : s.vm.findClass "java/util/Arrays" = some m.cls := hown
  replace hml : c.maxLocals = 5 := hml
  refine g_iloadN X0 hx (pc' := 1) rfl (hD hby d38_0) rfl ?_
  refine g_iloadN X0 hx (pc' := 2) rfl (hD hby d38_1) rfl ?_
  refine g_callS X0 hx hZ hown (wat hw 209 rfl) (wat hw 210 rfl) (wat hw 204 rfl) (wat hw 211 rfl) (by decide) (rm39 l Z a0 hw [] n0 (Ts) m' h0 hn0 (ar_lt16 hm hb).2.1) pd_20 rfl rfl (pc' := 5) rfl (hD hby d38_2) (argsL := [(.int 0), (.int m')]) (rest := []) rfl (W := 0) (fun v421 T421 h421 X421 hQ421 => ?_)
  obtain ⟨rfl, he421⟩ := hQ421
  rw [he421] at X421
  show Go p e below s n0 _ _ _ (T421.setTop (mkF m 5 _ []))
  refine g_iloadN X421 hx (pc' := 6) rfl (hD hby d38_5) rfl ?_
  refine g_iloadN X421 hx (pc' := 7) rfl (hD hby d38_6) rfl ?_
  refine g_isub X421 hx (pc' := 8) rfl (hD hby d38_7) ?_
  refine g_normI (z := m') (ar_sub0 _) ?_
  refine g_istoreN X421 hx (pc' := 9) rfl (hD hby d38_8) (l' := #[.val (.ref va), .val (.int 0), .val (.int m'), .val (.int m'), .unset]) rfl ?_
  refine g_iloadN X421 hx (pc' := 10) rfl (hD hby d38_9) rfl ?_
  refine g_newA X421 hx hZ (aty := .byte) (wat hw 21 rfl) (n := m') (N := m9) hm (cap := 10) hb (by decide) (pc' := 12) rfl (hD hby d38_10) (by decide) (by decide) (fun T422 h422 a422 ha422 X422 E422 N422 => ?_)
  have ne422_va : va ≠ a422 := by rw [ha422]; exact Nat.ne_of_lt Av.lt
  have f423 := Av.ext E422
  have sz422 : h0.size ≤ a422 := by rw [ha422]; exact (Keep.refl h0 []).1
  have f424 := (Keep.refl h0 []).ext E422
  have G_a422 : n0 ≤ a422 := by rw [ha422]; exact hn0
  have Zs422 : n0 ≤ h422.size := Nat.le_trans hn0 E422.1
  refine g_astore X422 hx (pc' := 14) rfl (hD hby d38_12) rfl (l' := #[.val (.ref va), .val (.int 0), .val (.int m'), .val (.int m'), .val (.ref a422)]) rfl ?_
  refine g_aloadN X422 hx (pc' := 15) rfl (hD hby d38_14) rfl rfl ?_
  refine g_iloadN X422 hx (pc' := 16) rfl (hD hby d38_15) rfl ?_
  refine g_aload X422 hx (pc' := 18) rfl (hD hby d38_16) rfl rfl ?_
  refine g_iconst X422 hx (pc' := 19) (z := (0 : Int32)) rfl (hD hby d38_18) rfl ?_
  refine g_aloadN X422 hx (pc' := 20) rfl (hD hby d38_19) rfl rfl ?_
  refine g_alen X422 hx hZ f423 (z := (16 : Int32)) (by rw [hv]; rfl) (pc' := 21) rfl (hD hby d38_20) ?_
  refine g_iloadN X422 hx (pc' := 22) rfl (hD hby d38_21) rfl ?_
  refine g_isub X422 hx (pc' := 23) rfl (hD hby d38_22) ?_
  refine g_normI (z := (16 : Int32)) (by decide) ?_
  refine g_iloadN X422 hx (pc' := 24) rfl (hD hby d38_23) rfl ?_
  refine g_callS X422 hx hZ hown (wat hw 212 rfl) (wat hw 213 rfl) (wat hw 214 rfl) (wat hw 215 rfl) (by decide) (rm40 l Z a0 hw [] n0 (Ts) m' h422 Zs422 (ar_lt16 hm hb).1) pd_21 rfl rfl (pc' := 27) rfl (hD hby d38_24) (argsL := [(.int 16), (.int m')]) (rest := [(.int 0), (.ref a422), (.int 0), (.ref va)]) rfl (W := 4) (fun v425 T425 h425 X425 hQ425 => ?_)
  obtain ⟨rfl, he425⟩ := hQ425
  rw [he425] at X425
  show Go p e below s n0 _ _ _ (T425.setTop (mkF m 27 _ [(.int m'), (.int 0), (.ref a422), (.int 0), (.ref va)]))
  refine g_copyP X425 hx hZ hown (wat hw 216 rfl) (wat hw 153 rfl) (wat hw 151 rfl) (wat hw 152 rfl) f423 N422 rfl (i := 0) (j := 0) (n := m9) rfl rfl hm (by omega) (by simp [newarray.typeOf]) G_a422 (by rw [hml]; rfl) (pc' := 30) rfl (hD hby d38_27) (by decide) (W := 0) (Nat.le_of_eq rfl) (by decide +kernel) (fun T426 h426 X426 K426 N426 => ?_)
  have f427 := f424.trans K426 (allS (Or.inr sz422) all0)
  have f428 := f423.keep K426 (ninS ne422_va nin0)
  have zs426 : n0 ≤ h426.size := Nat.le_trans Zs422 K426.1
  have V426 : AV Z h426 a422 .byte (vs.take m9) := (by simpa [newarray.typeOf] using N426)
  show Go p e below s n0 _ _ _ (T426.setTop (mkF m 30 _ []))
  refine g_aload X426 hx (pc' := 32) rfl (hD hby d38_30) rfl rfl ?_
  exact g_ret X426 hx hlk hret rfl (Or.inr (Or.inr (Or.inr (Or.inr ⟨rfl, rfl, rfl⟩)))) (hD hby d38_32) (by decide) (by decide) (Nat.le_refl _) (⟨a422, rfl, G_a422, sz422, f427, V426⟩)
theorem rm37 (l : Launch) (Z : State) (a0 : Array Value) (hw : HW a0 Z) (ws : List Jvm.Cond) (n0 : Nat) (Ts : List String) (va : Addr) (vs : List Value) (m9 : Nat) (m' : Int32) (h0 : Heap) (hn0 : n0 ≤ h0.size) (Av : AV Z h0 va .byte vs) (hm : m'.toInt = (m9 : Int)) (hb : m9 ≤ 10) (hv : vs.length = 16) :
    Con l Z n0 Ts (Ts) (⟨"java/util/Arrays", "copyOfRange", "([BII)[B"⟩ : MethodName) jdk_65_method_132_code 3 (some (.array .byte)) ws ({ frames := 2, cells := 1, slots := 10, locals := 56 } : Room) #[(.ref va), (.int 0), (.int m')] h0 (fun v h => ∃ nb, v = some (.ref nb) ∧ n0 ≤ nb ∧ h0.size ≤ nb ∧ Keep h0 h [] ∧ AV Z h nb .byte (vs.take m9)) := by
  refine con_start (fr0 := fun m => mkF m 0 #[.val (.ref va), .val (.int 0), .val (.int m')] []) ?_
  intro p e s m below meth c T0 hx hZ hby hml hown hnm hret hlk hsh XA
  have X0 := XA n0
  have hlow : n0 ≤ s.heap.size := by rw [hsh]; exact hn0
  replace hown : s.vm.findClass "java/util/Arrays" = some m.cls := hown
  replace hml : c.maxLocals = 3 := hml
  refine g_iloadN X0 hx (pc' := 1) rfl (hD hby d37_0) rfl ?_
  refine g_ifN X0 hx (pcN := 4) (hD hby d37_1) rfl (show ¬ (¬ (0 : Int32) = 0) from by decide) ?_
  refine g_iloadN X0 hx (pc' := 5) rfl (hD hby d37_4) rfl ?_
  refine g_aloadN X0 hx (pc' := 6) rfl (hD hby d37_5) rfl rfl ?_
  refine g_alen X0 hx hZ Av (z := (16 : Int32)) (by rw [hv]; rfl) (pc' := 7) rfl (hD hby d37_6) ?_
  refine g_icmpN X0 hx (pcN := 10) (hD hby d37_7) rfl (show ¬ (m' = (16 : Int32)) from (ar_lt16 hm hb).2.2) ?_
  refine g_aloadN X0 hx (pc' := 11) rfl (hD hby d37_10) rfl rfl ?_
  refine g_iloadN X0 hx (pc' := 12) rfl (hD hby d37_11) rfl ?_
  refine g_iloadN X0 hx (pc' := 13) rfl (hD hby d37_12) rfl ?_
  refine g_callS X0 hx hZ hown (wat hw 206 rfl) (wat hw 207 rfl) (wat hw 204 rfl) (wat hw 208 rfl) (by decide) (rm38 l Z a0 hw [] n0 (Ts) va vs m9 m' h0 hn0 Av hm hb hv) pd_22 rfl rfl (pc' := 16) rfl (hD hby d37_13) (argsL := [(.ref va), (.int 0), (.int m')]) (rest := []) rfl (W := 0) (fun v429 T429 h429 X429 hQ429 => ?_)
  obtain ⟨nb429, rfl, Gnb429, S429, K429, V429⟩ := hQ429
  have nenb429_va : va ≠ nb429 := Nat.ne_of_lt (Nat.lt_of_lt_of_le Av.lt S429)
  have sznb429 : h0.size ≤ nb429 := Nat.le_trans (Keep.refl h0 []).1 S429
  have f430 := (Keep.refl h0 []).trans K429 all0
  have f431 := Av.keep K429 nin0
  have zs429 : n0 ≤ h429.size := Nat.le_trans hn0 K429.1
  show Go p e below s n0 _ _ _ (T429.setTop (mkF m 16 _ [(.ref nb429)]))
  exact g_ret X429 hx hlk hret rfl (Or.inr (Or.inr (Or.inr (Or.inr ⟨rfl, rfl, rfl⟩)))) (hD hby d37_16) (by decide) (by decide) (Nat.le_refl _) (⟨nb429, rfl, Gnb429, sznb429, f430, V429⟩)
theorem rm33 (l : Launch) (Z : State) (a0 : Array Value) (hw : HW a0 Z) (ws : List Jvm.Cond) (n0 : Nat) (Ts : List String) (t b va : Addr) (vs : List Value) (m9 : Nat) (m' cz : Int32) (h0 : Heap) (hn0 : n0 ≤ h0.size) (O2 : St0 Z (.int cz)) (hcz : ¬ cz = 0) (OLD : OldP Z n0 h0) (Eb : XSb Z h0 b) (Fbv : BV Z h0 b (.ref va)) (Fbc : BC Z h0 b (.int 0)) (Fbn : BN Z h0 b (.int m')) (Av : AV Z h0 va .byte vs) (hm : m'.toInt = (m9 : Int)) (hb : m9 ≤ 10) (hv : vs.length = 16) (Et : XSt Z h0 t) (hgt : n0 ≤ t) (F_coder : SC Z h0 t (.int 0)) (F_value : SV Z h0 t .null) :
    Con l Z n0 Ts (Ts) (⟨"java/lang/String", "<init>", "(Ljava/lang/AbstractStringBuilder;Ljava/lang/Void;)V"⟩ : MethodName) jdk_42_method_150_code 5 none ws ({ frames := 3, cells := 1, slots := 10, locals := 80 } : Room) #[(.ref t), (.ref b), .null] h0 (fun v h => v = none ∧ Keep h0 h [t] ∧ ∃ nb, n0 ≤ nb ∧ h0.size ≤ nb ∧ AV Z h nb .byte (vs.take m9) ∧ SV Z h t (.ref nb) ∧ SC Z h t (.int 0)) := by
  refine con_start (fr0 := fun m => mkF m 0 #[.val (.ref t), .val (.ref b), .val .null, .unset, .unset] []) ?_
  intro p e s m below meth c T0 hx hZ hby hml hown hnm hret hlk hsh XA
  have X0 := XA n0
  have hlow : n0 ≤ s.heap.size := by rw [hsh]; exact hn0
  replace hown : s.vm.findClass "java/lang/String" = some m.cls := hown
  replace hml : c.maxLocals = 5 := hml
  have n_t_b : t ≠ b := Exa.ne Et Eb (by decide)
  have nA432 : t ≠ va := own_neA Et (wat hw 3 rfl) Av
  have nA433 : b ≠ va := own_neA Eb (wat hw 95 rfl) Av
  refine g_aloadN X0 hx (pc' := 1) rfl (hD hby d33_0) rfl rfl ?_
  refine g_initO X0 hx hZ hown (wat hw 13 rfl) (wat hw 14 rfl) (wat hw 15 rfl) (by rw [hml]; rfl) (pc' := 4) rfl (hD hby d33_1) (by decide) (W := 0) (Nat.le_of_eq rfl) (by decide) (fun T434 X434 => ?_)
  show Go p e below s n0 _ _ _ (T434.setTop (mkF m 4 _ []))
  refine g_aloadN X434 hx (pc' := 5) rfl (hD hby d33_4) rfl rfl ?_
  refine g_callV X434 hx hZ hown (wat hw 188 rfl) (wat hw 189 rfl) (wat hw 191 rfl) (wat hw 190 rfl) (wat hw 104 rfl) (wat hw 192 rfl) (by decide) (a := b) Eb (rm34 l Z a0 hw [] n0 (Ts) b va h0 hn0 Fbv) pd_23 rfl rfl (pc' := 8) rfl (hD hby d33_5) (argsL := []) (rest := []) rfl (W := 0) (fun v435 T435 h435 X435 hQ435 => ?_)
  obtain ⟨rfl, he435⟩ := hQ435
  rw [he435] at X435
  show Go p e below s n0 _ _ _ (T435.setTop (mkF m 8 _ [(.ref va)]))
  refine g_astoreN X435 hx (pc' := 9) rfl (hD hby d33_8) rfl (l' := #[.val (.ref t), .val (.ref b), .val .null, .val (.ref va), .unset]) rfl ?_
  refine g_aloadN X435 hx (pc' := 10) rfl (hD hby d33_9) rfl rfl ?_
  refine g_callVN X435 hx hZ hown (wat hw 193 rfl) (wat hw 194 rfl) (y' := ({ cls := "java/lang/AbstractStringBuilder", name := "ensureCapacityInternal", desc := "(I)V" } : Jvm.MethodName)) rfl (wat hw 132 rfl) (wat hw 196 rfl) (wat hw 197 rfl) (wat hw 96 rfl) (wat hw 198 rfl) (by decide) (a := b) Eb (rm35 l Z a0 hw [] n0 (Ts) b m' h0 hn0 Eb Fbn) pd_10 rfl rfl (pc' := 13) rfl (hD hby d33_10) (argsL := []) (rest := []) rfl (W := 0) (fun v436 T436 h436 X436 hQ436 => ?_)
  obtain ⟨rfl, he436⟩ := hQ436
  rw [he436] at X436
  show Go p e below s n0 _ _ _ (T436.setTop (mkF m 13 _ [(.int m')]))
  refine g_istore X436 hx (pc' := 15) rfl (hD hby d33_13) (l' := #[.val (.ref t), .val (.ref b), .val .null, .val (.ref va), .val (.int m')]) rfl ?_
  refine g_aloadN X436 hx (pc' := 16) rfl (hD hby d33_15) rfl rfl ?_
  refine g_callV X436 hx hZ hown (wat hw 201 rfl) (wat hw 168 rfl) (wat hw 170 rfl) (wat hw 169 rfl) (wat hw 104 rfl) (wat hw 171 rfl) (by decide) (a := b) Eb (rm29 l Z a0 hw [] n0 (Ts) b cz h0 hn0 O2 hcz OLD Fbc) pd_6 rfl rfl (pc' := 19) rfl (hD hby d33_16) (argsL := []) (rest := []) rfl (W := 0) (fun v437 T437 h437 X437 hQ437 => ?_)
  obtain ⟨rfl, he437⟩ := hQ437
  rw [he437] at X437
  show Go p e below s n0 _ _ _ (T437.setTop (mkF m 19 _ [(.int 1)]))
  refine g_ifN X437 hx (pcN := 22) (hD hby d33_19) rfl (show ¬ ((1 : Int32) = 0) from by decide) ?_
  refine g_aloadN X437 hx (pc' := 23) rfl (hD hby d33_22) rfl rfl ?_
  refine g_iconst X437 hx (pc' := 24) (z := (0 : Int32)) rfl (hD hby d33_23) rfl ?_
  refine g_putF X437 hx hZ hown (wat hw 28 rfl) Via.refl F_coder Et (Or.inr ⟨(wat hw 29 rfl), rfl, hnm⟩) (wat hw 3 rfl) (ty := .byte) (by decide) rfl rfl hgt (pc' := 27) rfl (hD hby d33_24) (fun T438 h438 X438 W438 => ?_)
  have f439 := (by have q := (Keep.of_wr W438).1; exact Nat.le_trans hn0 q : n0 ≤ h438.size)
  have f440 := (Keep.refl h0 [t]).wr W438 (Or.inl (List.mem_of_getElem? (i := 0) rfl))
  have f441 := OLD.wr W438 hgt
  have f442 := Et.wr W438
  have f443 := F_coder.same W438
  have f444 := F_value.other W438 (Or.inr (slot_ne (Or.inr (wat hw 31 rfl)) (Or.inr (wat hw 29 rfl)) (by decide) (t := (.array .byte)) (t' := .byte) (by decide) (by decide)))
  have f445 := Eb.wr W438
  have f446 := Fbv.other W438 (Or.inl n_t_b.symm)
  have f447 := Fbc.other W438 (Or.inl n_t_b.symm)
  have f448 := Fbn.other W438 (Or.inl n_t_b.symm)
  have f449 := Av.other W438 nA432.symm
  refine g_aloadN X438 hx (pc' := 28) rfl (hD hby d33_27) rfl rfl ?_
  refine g_aloadN X438 hx (pc' := 29) rfl (hD hby d33_28) rfl rfl ?_
  refine g_iconst X438 hx (pc' := 30) (z := (0 : Int32)) rfl (hD hby d33_29) rfl ?_
  refine g_iload X438 hx (pc' := 32) rfl (hD hby d33_30) rfl ?_
  refine g_callS X438 hx hZ hown (wat hw 202 rfl) (wat hw 203 rfl) (wat hw 204 rfl) (wat hw 205 rfl) (by decide) (rm37 l Z a0 hw [] n0 (Ts) va vs m9 m' h438 f439 f449 hm hb hv) pd_22 rfl rfl (pc' := 35) rfl (hD hby d33_32) (argsL := [(.ref va), (.int 0), (.int m')]) (rest := [(.ref t)]) rfl (W := 1) (fun v450 T450 h450 X450 hQ450 => ?_)
  obtain ⟨nb450, rfl, Gnb450, S450, K450, V450⟩ := hQ450
  have nenb450_t : t ≠ nb450 := Nat.ne_of_lt (Nat.lt_of_lt_of_le f442.lt S450)
  have nenb450_b : b ≠ nb450 := Nat.ne_of_lt (Nat.lt_of_lt_of_le f445.lt S450)
  have nenb450_va : va ≠ nb450 := Nat.ne_of_lt (Nat.lt_of_lt_of_le f449.lt S450)
  have sznb450 : h0.size ≤ nb450 := Nat.le_trans f440.1 S450
  have f451 := f440.trans K450 all0
  have f452 := f441.keep K450 all0
  have f453 := f442.keep K450
  have f454 := f443.keep K450 nin0
  have f455 := f444.keep K450 nin0
  have f456 := f445.keep K450
  have f457 := f446.keep K450 nin0
  have f458 := f447.keep K450 nin0
  have f459 := f448.keep K450 nin0
  have f460 := f449.keep K450 nin0
  have zs450 : n0 ≤ h450.size := Nat.le_trans f439 K450.1
  show Go p e below s n0 _ _ _ (T450.setTop (mkF m 35 _ [(.ref nb450), (.ref t)]))
  refine g_putF X450 hx hZ hown (wat hw 30 rfl) Via.refl f455 f453 (Or.inr ⟨(wat hw 31 rfl), rfl, hnm⟩) (wat hw 3 rfl) (ty := (.array .byte)) (by decide) rfl rfl hgt (pc' := 38) rfl (hD hby d33_35) (fun T461 h461 X461 W461 => ?_)
  have f462 := (by have q := (Keep.of_wr W461).1; exact Nat.le_trans zs450 q : n0 ≤ h461.size)
  have f463 := f451.wr W461 (Or.inl (List.mem_of_getElem? (i := 0) rfl))
  have f464 := f452.wr W461 hgt
  have f465 := f453.wr W461
  have f466 := f454.other W461 (Or.inr (slot_ne (Or.inr (wat hw 29 rfl)) (Or.inr (wat hw 31 rfl)) (by decide) (t := .byte) (t' := (.array .byte)) (by decide) (by decide)))
  have f467 := f455.same W461
  have f468 := f456.wr W461
  have f469 := f457.other W461 (Or.inl n_t_b.symm)
  have f470 := f458.other W461 (Or.inl n_t_b.symm)
  have f471 := f459.other W461 (Or.inl n_t_b.symm)
  have f472 := f460.other W461 nA432.symm
  have f473 := V450.other W461 nenb450_t.symm
  refine g_goto X461 hx (pc' := 97) (hD hby d33_38) (by decide) (by decide) ?_
  exact g_retV X461 hx hlk hret (hD hby d33_97) (by decide) (by decide) (Nat.le_refl _) (⟨rfl, f463, nb450, Gnb450, sznb450, f473, f467, f466⟩)
theorem rm32 (l : Launch) (Z : State) (a0 : Array Value) (hw : HW a0 Z) (ws : List Jvm.Cond) (n0 : Nat) (Ts : List String) (t b va : Addr) (vs : List Value) (m9 : Nat) (m' cz : Int32) (h0 : Heap) (hn0 : n0 ≤ h0.size) (O2 : St0 Z (.int cz)) (hcz : ¬ cz = 0) (OLD : OldP Z n0 h0) (Eb : XSb Z h0 b) (Fbv : BV Z h0 b (.ref va)) (Fbc : BC Z h0 b (.int 0)) (Fbn : BN Z h0 b (.int m')) (Av : AV Z h0 va .byte vs) (hm : m'.toInt = (m9 : Int)) (hb : m9 ≤ 10) (hv : vs.length = 16) (Et : XSt Z h0 t) (hgt : n0 ≤ t) (F_coder : SC Z h0 t (.int 0)) (F_value : SV Z h0 t .null) :
    Con l Z n0 Ts (Ts) (⟨"java/lang/String", "<init>", "(Ljava/lang/StringBuilder;)V"⟩ : MethodName) jdk_42_method_53_code 2 none ws ({ frames := 4, cells := 1, slots := 10, locals := 104 } : Room) #[(.ref t), (.ref b)] h0 (fun v h => v = none ∧ Keep h0 h [t] ∧ ∃ nb, n0 ≤ nb ∧ h0.size ≤ nb ∧ AV Z h nb .byte (vs.take m9) ∧ SV Z h t (.ref nb) ∧ SC Z h t (.int 0)) := by
  refine con_start (fr0 := fun m => mkF m 0 #[.val (.ref t), .val (.ref b)] []) ?_
  intro p e s m below meth c T0 hx hZ hby hml hown hnm hret hlk hsh XA
  have X0 := XA n0
  have hlow : n0 ≤ s.heap.size := by rw [hsh]; exact hn0
  replace hown : s.vm.findClass "java/lang/String" = some m.cls := hown
  replace hml : c.maxLocals = 2 := hml
  have n_t_b : t ≠ b := Exa.ne Et Eb (by decide)
  have nA474 : t ≠ va := own_neA Et (wat hw 3 rfl) Av
  have nA475 : b ≠ va := own_neA Eb (wat hw 95 rfl) Av
  refine g_aloadN X0 hx (pc' := 1) rfl (hD hby d32_0) rfl rfl ?_
  refine g_aloadN X0 hx (pc' := 2) rfl (hD hby d32_1) rfl rfl ?_
  refine g_aconst_null X0 hx (pc' := 3) rfl (hD hby d32_2) ?_
  refine g_callI X0 hx hZ hown rfl (wat hw 185 rfl) (wat hw 186 rfl) (wat hw 4 rfl) (wat hw 187 rfl) (by decide) (a := t) (rm33 l Z a0 hw [] n0 (Ts) t b va vs m9 m' cz h0 hn0 O2 hcz OLD Eb Fbv Fbc Fbn Av hm hb hv Et hgt F_coder F_value) pd_24 rfl rfl (pc' := 6) rfl (hD hby d32_3) (argsL := [(.ref b), .null]) (rest := []) rfl (W := 0) (fun v476 T476 h476 X476 hQ476 => ?_)
  obtain ⟨rfl, K476, nb476, Gnb476, S476, V476, FV476, FC476⟩ := hQ476
  have nenb476_t : t ≠ nb476 := Nat.ne_of_lt (Nat.lt_of_lt_of_le Et.lt S476)
  have nenb476_b : b ≠ nb476 := Nat.ne_of_lt (Nat.lt_of_lt_of_le Eb.lt S476)
  have nenb476_va : va ≠ nb476 := Nat.ne_of_lt (Nat.lt_of_lt_of_le Av.lt S476)
  have sznb476 : h0.size ≤ nb476 := Nat.le_trans (Keep.refl h0 [t]).1 S476
  have f477 := (Keep.refl h0 [t]).trans K476 (allS (Or.inl (List.mem_of_getElem? (i := 0) rfl)) all0)
  have f478 := OLD.keep K476 (allS hgt all0)
  have f479 := Et.keep K476
  have f480 := Eb.keep K476
  have f481 := Fbv.keep K476 (ninS n_t_b.symm nin0)
  have f482 := Fbc.keep K476 (ninS n_t_b.symm nin0)
  have f483 := Fbn.keep K476 (ninS n_t_b.symm nin0)
  have f484 := Av.keep K476 (ninS nA474.symm nin0)
  have zs476 : n0 ≤ h476.size := Nat.le_trans hn0 K476.1
  show Go p e below s n0 _ _ _ (T476.setTop (mkF m 6 _ []))
  exact g_retV X476 hx hlk hret (hD hby d32_6) (by decide) (by decide) (Nat.le_refl _) (⟨rfl, f477, nb476, Gnb476, sznb476, V476, FV476, FC476⟩)
theorem rm31 (l : Launch) (Z : State) (a0 : Array Value) (hw : HW a0 Z) (ws : List Jvm.Cond) (n0 : Nat) (Ts : List String) (b va : Addr) (vs : List Value) (m9 : Nat) (m' cz : Int32) (h0 : Heap) (hn0 : n0 ≤ h0.size) (O2 : St0 Z (.int cz)) (hcz : ¬ cz = 0) (OLD : OldP Z n0 h0) (Eb : XSb Z h0 b) (Fbv : BV Z h0 b (.ref va)) (Fbc : BC Z h0 b (.int 0)) (Fbn : BN Z h0 b (.int m')) (Av : AV Z h0 va .byte vs) (hm : m'.toInt = (m9 : Int)) (hb : m9 ≤ 10) (hv : vs.length = 16)  :
    Con l Z n0 Ts (Ts) (⟨"java/lang/StringBuilder", "toString", "()Ljava/lang/String;"⟩ : MethodName) jdk_67_method_42_code 1 (some (.object "java/lang/String")) ws ({ frames := 5, cells := 2, slots := 14, locals := 128 } : Room) #[(.ref b)] h0 (fun v h => ∃ t tb, v = some (.ref t) ∧ n0 ≤ t ∧ h0.size ≤ t ∧ n0 ≤ tb ∧ h0.size ≤ tb ∧ Keep h0 h [] ∧ XSt Z h t ∧ SV Z h t (.ref tb) ∧ SC Z h t (.int 0) ∧ AV Z h tb .byte (vs.take m9)) := by
  refine con_start (fr0 := fun m => mkF m 0 #[.val (.ref b)] []) ?_
  intro p e s m below meth c T0 hx hZ hby hml hown hnm hret hlk hsh XA
  have X0 := XA n0
  have hlow : n0 ≤ s.heap.size := by rw [hsh]; exact hn0
  replace hown : s.vm.findClass "java/lang/StringBuilder" = some m.cls := hown
  replace hml : c.maxLocals = 1 := hml
  have nA485 : b ≠ va := own_neA Eb (wat hw 95 rfl) Av
  refine g_newO X0 hx hZ hown (wat hw 181 rfl) (wat hw 3 rfl) (wat hw 4 rfl) (pc' := 3) rfl (hD hby d31_0) (by decide) (by decide) (fun T486 h486 a486 ha486 X486 E486 A486 D486 => ?_)
  have ne486_b : b ≠ a486 := by rw [ha486]; exact Nat.ne_of_lt Eb.lt
  have ne486_va : va ≠ a486 := by rw [ha486]; exact Nat.ne_of_lt Av.lt
  have f487 := Eb.ext E486
  have f488 := Fbv.ext E486
  have f489 := Fbc.ext E486
  have f490 := Fbn.ext E486
  have f491 := Av.ext E486
  have sz486 : h0.size ≤ a486 := by rw [ha486]; exact (Keep.refl h0 []).1
  have f492 := (Keep.refl h0 []).ext E486
  have G_a486 : n0 ≤ a486 := by rw [ha486]; exact hn0
  have Zs486 : n0 ≤ h486.size := Nat.le_trans hn0 E486.1
  have f493 := OLD.ext E486
  have F486_coder : SC Z h486 a486 (.int 0) := D486 (Or.inr (wat hw 29 rfl)) (ty := .byte) (by decide)
  have F486_value : SV Z h486 a486 .null := D486 (Or.inr (wat hw 31 rfl)) (ty := (.array .byte)) (by decide)
  refine g_dup X486 hx (pc' := 4) rfl (hD hby d31_3) rfl ?_
  refine g_aloadN X486 hx (pc' := 5) rfl (hD hby d31_4) rfl rfl ?_
  refine g_callI X486 hx hZ hown rfl (wat hw 182 rfl) (wat hw 183 rfl) (wat hw 4 rfl) (wat hw 184 rfl) (by decide) (a := a486) (rm32 l Z a0 hw [] n0 (Ts) a486 b va vs m9 m' cz h486 Zs486 O2 hcz f493 f487 f488 f489 f490 f491 hm hb hv A486 G_a486 F486_coder F486_value) pd_25 rfl rfl (pc' := 8) rfl (hD hby d31_5) (argsL := [(.ref b)]) (rest := [(.ref a486)]) rfl (W := 1) (fun v494 T494 h494 X494 hQ494 => ?_)
  obtain ⟨rfl, K494, nb494, Gnb494, S494, V494, FV494, FC494⟩ := hQ494
  have nenb494_b : b ≠ nb494 := Nat.ne_of_lt (Nat.lt_of_lt_of_le f487.lt S494)
  have nenb494_va : va ≠ nb494 := Nat.ne_of_lt (Nat.lt_of_lt_of_le f491.lt S494)
  have nenb494_a486 : a486 ≠ nb494 := Nat.ne_of_lt (Nat.lt_of_lt_of_le A486.lt S494)
  have sznb494 : h0.size ≤ nb494 := Nat.le_trans f492.1 S494
  have f495 := f492.trans K494 (allS (Or.inr sz486) all0)
  have f496 := f493.keep K494 (allS G_a486 all0)
  have f497 := f487.keep K494
  have f498 := f488.keep K494 (ninS ne486_b nin0)
  have f499 := f489.keep K494 (ninS ne486_b nin0)
  have f500 := f490.keep K494 (ninS ne486_b nin0)
  have f501 := f491.keep K494 (ninS ne486_va nin0)
  have f502 := A486.keep K494
  have zs494 : n0 ≤ h494.size := Nat.le_trans Zs486 K494.1
  show Go p e below s n0 _ _ _ (T494.setTop (mkF m 8 _ [(.ref a486)]))
  exact g_ret X494 hx hlk hret rfl (Or.inr (Or.inr (Or.inr (Or.inr ⟨rfl, rfl, rfl⟩)))) (hD hby d31_8) (by decide) (by decide) (Nat.le_refl _) (⟨a486, nb494, rfl, G_a486, sz486, Gnb494, sznb494, f495, f502, FV494, FC494, V494⟩)
theorem rm45_r (l : Launch) (Z : State) (a0 : Array Value) (hw : HW a0 Z) (ws : List Jvm.Cond) (n0 : Nat) (Ts : List String) (i' k' : Int32) (fo' : Addr) (h0 : Heap) (hn0 : n0 ≤ h0.size) (hi0 : ¬ i' < 0) (hik : i' < k') :
    Con l Z n0 Ts (Ts) (⟨"jdk/internal/util/Preconditions", "checkIndex", "(IILjava/util/function/BiFunction;)I"⟩ : MethodName) jdk_41_method_11_code 3 (some .int) ws ({ frames := 0, cells := 0, slots := 0, locals := 0 } : Room) #[(.int i'), (.int k'), (.ref fo')] h0 (fun v h => v = some (.int i') ∧ h = h0) := by
  refine con_start (fr0 := fun m => mkF m 0 #[.val (.int i'), .val (.int k'), .val (.ref fo')] []) ?_
  intro p e s m below meth c T0 hx hZ hby hml hown hnm hret hlk hsh XA
  have X0 := XA n0
  have hlow : n0 ≤ s.heap.size := by rw [hsh]; exact hn0
  replace hown : s.vm.findClass "jdk/internal/util/Preconditions" = some m.cls := hown
  replace hml : c.maxLocals = 3 := hml
  refine g_iloadN X0 hx (pc' := 1) rfl (hD hby d45_0) rfl ?_
  refine g_ifN X0 hx (pcN := 4) (hD hby d45_1) rfl (show ¬ (i' < 0) from hi0) ?_
  refine g_iloadN X0 hx (pc' := 5) rfl (hD hby d45_4) rfl ?_
  refine g_iloadN X0 hx (pc' := 6) rfl (hD hby d45_5) rfl ?_
  refine g_icmpY X0 hx (pcY := 16) (hD hby d45_6) (by decide) (by decide) (show i' < k' from hik) ?_
  refine g_iloadN X0 hx (pc' := 17) rfl (hD hby d45_16) rfl ?_
  exact g_retI X0 hx hlk hret (hD hby d45_17) (by decide) (by decide) (Nat.le_refl _) (⟨rfl, rfl⟩)
theorem rm45_0 (l : Launch) (Z : State) (a0 : Array Value) (hw : HW a0 Z) (ws : List Jvm.Cond) (n0 : Nat) (Ts : List String) (i' k' : Int32) (fo' : Addr) (h0 : Heap) (hn0 : n0 ≤ h0.size) (hi0 : ¬ i' < 0) (hik : i' < k') :
    Con l Z n0 Ts (Ts) (⟨"jdk/internal/util/Preconditions", "checkIndex", "(IILjava/util/function/BiFunction;)I"⟩ : MethodName) jdk_41_method_11_code 3 (some .int) ws ({ frames := 0, cells := 0, slots := 0, locals := 0 } : Room) #[(.int i'), (.int k'), .null] h0 (fun v h => v = some (.int i') ∧ h = h0) := by
  refine con_start (fr0 := fun m => mkF m 0 #[.val (.int i'), .val (.int k'), .val .null] []) ?_
  intro p e s m below meth c T0 hx hZ hby hml hown hnm hret hlk hsh XA
  have X0 := XA n0
  have hlow : n0 ≤ s.heap.size := by rw [hsh]; exact hn0
  replace hown : s.vm.findClass "jdk/internal/util/Preconditions" = some m.cls := hown
  replace hml : c.maxLocals = 3 := hml
  refine g_iloadN X0 hx (pc' := 1) rfl (hD hby d45_0) rfl ?_
  refine g_ifN X0 hx (pcN := 4) (hD hby d45_1) rfl (show ¬ (i' < 0) from hi0) ?_
  refine g_iloadN X0 hx (pc' := 5) rfl (hD hby d45_4) rfl ?_
  refine g_iloadN X0 hx (pc' := 6) rfl (hD hby d45_5) rfl ?_
  refine g_icmpY X0 hx (pcY := 16) (hD hby d45_6) (by decide) (by decide) (show i' < k' from hik) ?_
  refine g_iloadN X0 hx (pc' := 17) rfl (hD hby d45_16) rfl ?_
  exact g_retI X0 hx hlk hret (hD hby d45_17) (by decide) (by decide) (Nat.le_refl _) (⟨rfl, rfl⟩)
theorem rm44 (l : Launch) (Z : State) (a0 : Array Value) (hw : HW a0 Z) (ws : List Jvm.Cond) (n0 : Nat) (Ts : List String) (i' k' : Int32) (fo : Value) (h0 : Heap) (hn0 : n0 ≤ h0.size) (O4 : St3 Z fo) (hfo : fo.isRef = true) (OLD : OldP Z n0 h0) (hi0 : ¬ i' < 0) (hik : i' < k') :
    Con l Z n0 Ts (Ts) (⟨"java/lang/String", "checkIndex", "(II)V"⟩ : MethodName) jdk_42_method_155_code 2 none ws ({ frames := 1, cells := 0, slots := 0, locals := 16 } : Room) #[(.int i'), (.int k')] h0 (fun v h => v = none ∧ h = h0) := by
  refine con_start (fr0 := fun m => mkF m 0 #[.val (.int i'), .val (.int k')] []) ?_
  intro p e s m below meth c T0 hx hZ hby hml hown hnm hret hlk hsh XA
  have X0 := XA n0
  have hlow : n0 ≤ s.heap.size := by rw [hsh]; exact hn0
  replace hown : s.vm.findClass "java/lang/String" = some m.cls := hown
  replace hml : c.maxLocals = 2 := hml
  rcases ref_cases hfo with rfl | ⟨fo', rfl⟩
  · skip
    refine g_iloadN X0 hx (pc' := 1) rfl (hD hby d44_0) rfl ?_
    refine g_iloadN X0 hx (pc' := 2) rfl (hD hby d44_1) rfl ?_
    refine g_getS X0 hx hZ hown (wat hw 233 rfl) Via.refl (Sta.ext OLD.2 O4) (pc' := 5) rfl (hD hby d44_2) (fun T503 X503 => ?_)
    refine g_callS X503 hx hZ hown (wat hw 235 rfl) (wat hw 236 rfl) (wat hw 234 rfl) (wat hw 237 rfl) (by decide) (rm45_0 l Z a0 hw [] n0 (Ts) i' k' 0 h0 hn0 hi0 hik) pd_26 rfl rfl (pc' := 8) rfl (hD hby d44_5) (argsL := [(.int i'), (.int k'), .null]) (rest := []) rfl (W := 0) (fun v504 T504 h504 X504 hQ504 => ?_)
    obtain ⟨rfl, he504⟩ := hQ504
    rw [he504] at X504
    show Go p e below s n0 _ _ _ (T504.setTop (mkF m 8 _ [(.int i')]))
    refine g_pop X504 hx (pc' := 9) rfl (hD hby d44_8) rfl ?_
    exact g_retV X504 hx hlk hret (hD hby d44_9) (by decide) (by decide) (Nat.le_refl _) (⟨rfl, rfl⟩)
  · skip
    refine g_iloadN X0 hx (pc' := 1) rfl (hD hby d44_0) rfl ?_
    refine g_iloadN X0 hx (pc' := 2) rfl (hD hby d44_1) rfl ?_
    refine g_getS X0 hx hZ hown (wat hw 233 rfl) Via.refl (Sta.ext OLD.2 O4) (pc' := 5) rfl (hD hby d44_2) (fun T505 X505 => ?_)
    refine g_callS X505 hx hZ hown (wat hw 235 rfl) (wat hw 236 rfl) (wat hw 234 rfl) (wat hw 237 rfl) (by decide) (rm45_r l Z a0 hw [] n0 (Ts) i' k' fo' h0 hn0 hi0 hik) pd_26 rfl rfl (pc' := 8) rfl (hD hby d44_5) (argsL := [(.int i'), (.int k'), (.ref fo')]) (rest := []) rfl (W := 0) (fun v506 T506 h506 X506 hQ506 => ?_)
    obtain ⟨rfl, he506⟩ := hQ506
    rw [he506] at X506
    show Go p e below s n0 _ _ _ (T506.setTop (mkF m 8 _ [(.int i')]))
    refine g_pop X506 hx (pc' := 9) rfl (hD hby d44_8) rfl ?_
    exact g_retV X506 hx hlk hret (hD hby d44_9) (by decide) (by decide) (Nat.le_refl _) (⟨rfl, rfl⟩)
theorem rm43 (l : Launch) (Z : State) (a0 : Array Value) (hw : HW a0 Z) (ws : List Jvm.Cond) (n0 : Nat) (Ts : List String) (tb : Addr) (fo : Value) (i' k' x' : Int32) (ni : Nat) (xs : List Value) (h0 : Heap) (hn0 : n0 ≤ h0.size) (O4 : St3 Z fo) (hfo : fo.isRef = true) (OLD : OldP Z n0 h0) (At : AV Z h0 tb .byte xs) (hk : k'.toInt = (xs.length : Int)) (hi : i'.toInt = (ni : Int)) (hxs : xs.getD ni .null = .int x') (hik : i' < k') :
    Con l Z n0 Ts (Ts) (⟨"java/lang/StringLatin1", "charAt", "([BI)C"⟩ : MethodName) jdk_43_method_2_code 2 (some .char) ws ({ frames := 2, cells := 0, slots := 0, locals := 40 } : Room) #[(.ref tb), (.int i')] h0 (fun v h => v = some (.int ((x' &&& (255 : Int32))).toUInt32.toUInt16.toUInt32.toInt32) ∧ h = h0) := by
  refine con_start (fr0 := fun m => mkF m 0 #[.val (.ref tb), .val (.int i')] []) ?_
  intro p e s m below meth c T0 hx hZ hby hml hown hnm hret hlk hsh XA
  have X0 := XA n0
  have hlow : n0 ≤ s.heap.size := by rw [hsh]; exact hn0
  replace hown : s.vm.findClass "java/lang/StringLatin1" = some m.cls := hown
  replace hml : c.maxLocals = 2 := hml
  have hi0 : ¬ i' < 0 := (own_idx hi).2
  have hni : ni < xs.length := by rw [Int32.lt_iff_toInt_lt, hi, hk] at hik; omega
  refine g_iloadN X0 hx (pc' := 1) rfl (hD hby d43_0) rfl ?_
  refine g_aloadN X0 hx (pc' := 2) rfl (hD hby d43_1) rfl rfl ?_
  refine g_alen X0 hx hZ At (z := k') hk (pc' := 3) rfl (hD hby d43_2) ?_
  refine g_callS X0 hx hZ hown (wat hw 230 rfl) (wat hw 231 rfl) (wat hw 4 rfl) (wat hw 232 rfl) (by decide) (rm44 l Z a0 hw [] n0 (Ts) i' k' fo h0 hn0 O4 hfo OLD hi0 hik) pd_20 rfl rfl (pc' := 6) rfl (hD hby d43_3) (argsL := [(.int i'), (.int k')]) (rest := []) rfl (W := 0) (fun v507 T507 h507 X507 hQ507 => ?_)
  obtain ⟨rfl, he507⟩ := hQ507
  rw [he507] at X507
  show Go p e below s n0 _ _ _ (T507.setTop (mkF m 6 _ []))
  refine g_aloadN X507 hx (pc' := 7) rfl (hD hby d43_6) rfl rfl ?_
  refine g_iloadN X507 hx (pc' := 8) rfl (hD hby d43_7) rfl ?_
  refine g_baload X507 hx hZ At (i := ni) hi hni (x := x') hxs (pc' := 9) rfl (hD hby d43_8) ?_
  refine g_sipush X507 hx (pc' := 12) (z := (255 : Int32)) rfl (hD hby d43_9) rfl ?_
  refine g_iand X507 hx (pc' := 13) rfl (hD hby d43_12) ?_
  refine g_i2c X507 hx (pc' := 14) rfl (hD hby d43_13) ?_
  exact g_ret X507 hx hlk hret (by first | rfl | exact congrArg Value.int (nar_i2c _) | exact congrArg Value.int (nar_i2b _)) (Or.inl ⟨rfl, Or.inr (Or.inr (Or.inr (Or.inl rfl))), _, rfl⟩) (hD hby d43_14) (by decide) (by decide) (Nat.le_refl _) (⟨rfl, rfl⟩)
theorem rm42 (l : Launch) (Z : State) (a0 : Array Value) (hw : HW a0 Z) (ws : List Jvm.Cond) (n0 : Nat) (Ts : List String) (t tb : Addr) (fo : Value) (i' k' x' : Int32) (ni : Nat) (xs : List Value) (cz : Int32) (h0 : Heap) (hn0 : n0 ≤ h0.size) (O4 : St3 Z fo) (hfo : fo.isRef = true)  (O2 : St0 Z (.int cz)) (hcz : ¬ cz = 0) (OLD : OldP Z n0 h0) (Et : XSt Z h0 t) (Fvt : SV Z h0 t (.ref tb)) (Fct : SC Z h0 t (.int 0)) (Abt : AV Z h0 tb .byte xs) (hk : k'.toInt = (xs.length : Int)) (hi : i'.toInt = (ni : Int)) (hxs : xs.getD ni .null = .int x') (hik : i' < k') :
    Con l Z n0 Ts (Ts) (⟨"java/lang/String", "charAt", "(I)C"⟩ : MethodName) jdk_42_method_56_code 2 (some .char) ws ({ frames := 3, cells := 0, slots := 0, locals := 64 } : Room) #[(.ref t), (.int i')] h0 (fun v h => v = some (.int ((x' &&& (255 : Int32))).toUInt32.toUInt16.toUInt32.toInt32) ∧ h = h0) := by
  refine con_start (fr0 := fun m => mkF m 0 #[.val (.ref t), .val (.int i')] []) ?_
  intro p e s m below meth c T0 hx hZ hby hml hown hnm hret hlk hsh XA
  have X0 := XA n0
  have hlow : n0 ≤ s.heap.size := by rw [hsh]; exact hn0
  replace hown : s.vm.findClass "java/lang/String" = some m.cls := hown
  replace hml : c.maxLocals = 2 := hml
  refine g_aloadN X0 hx (pc' := 1) rfl (hD hby d42_0) rfl rfl ?_
  refine g_callV X0 hx hZ hown (wat hw 82 rfl) (wat hw 83 rfl) (wat hw 85 rfl) (wat hw 84 rfl) (wat hw 4 rfl) (wat hw 86 rfl) (by decide) (a := t) Et (rm14 l Z a0 hw [] n0 (Ts) t cz h0 hn0 O2 hcz OLD Fct) pd_6 rfl rfl (pc' := 4) rfl (hD hby d42_1) (argsL := []) (rest := []) rfl (W := 0) (fun v508 T508 h508 X508 hQ508 => ?_)
  obtain ⟨rfl, he508⟩ := hQ508
  rw [he508] at X508
  show Go p e below s n0 _ _ _ (T508.setTop (mkF m 4 _ [(.int 1)]))
  refine g_ifN X508 hx (pcN := 7) (hD hby d42_4) rfl (show ¬ ((1 : Int32) = 0) from by decide) ?_
  refine g_aloadN X508 hx (pc' := 8) rfl (hD hby d42_7) rfl rfl ?_
  refine g_getF X508 hx hZ hown (wat hw 30 rfl) Via.refl Fvt (pc' := 11) rfl (hD hby d42_8) (fun T509 X509 => ?_)
  refine g_iloadN X509 hx (pc' := 12) rfl (hD hby d42_11) rfl ?_
  refine g_callS X509 hx hZ hown (wat hw 227 rfl) (wat hw 228 rfl) (wat hw 89 rfl) (wat hw 229 rfl) (by decide) (rm43 l Z a0 hw [] n0 (Ts) tb fo i' k' x' ni xs h0 hn0 O4 hfo OLD Abt hk hi hxs hik) pd_27 rfl rfl (pc' := 15) rfl (hD hby d42_12) (argsL := [(.ref tb), (.int i')]) (rest := []) rfl (W := 0) (fun v510 T510 h510 X510 hQ510 => ?_)
  obtain ⟨rfl, he510⟩ := hQ510
  rw [he510] at X510
  show Go p e below s n0 _ _ _ (T510.setTop (mkF m 15 _ [(.int ((x' &&& (255 : Int32))).toUInt32.toUInt16.toUInt32.toInt32)]))
  exact g_ret X510 hx hlk hret (by first | rfl | exact congrArg Value.int (nar_i2c _) | exact congrArg Value.int (nar_i2b _)) (Or.inl ⟨rfl, Or.inr (Or.inr (Or.inr (Or.inl rfl))), _, rfl⟩) (hD hby d42_15) (by decide) (by decide) (Nat.le_refl _) (⟨rfl, rfl⟩)
theorem rm41_i (l : Launch) (Z : State) (a0 : Array Value) (hw : HW a0 Z) (ws : List Jvm.Cond) (n0 : Nat) (Ts : List String) (t tb : Addr) (fo : Value) (ea : Addr) (i' k' x' : Int32) (ni : Nat) (xs : List Value) (es : List Value) (e' : Int32) (cz : Int32) (h0 : Heap) (hn0 : n0 ≤ h0.size) (O4 : St3 Z fo) (hfo : fo.isRef = true)  (O2 : St0 Z (.int cz)) (hcz : ¬ cz = 0) (OLD : OldP Z n0 h0) (Et : XSt Z h0 t) (Fvt : SV Z h0 t (.ref tb)) (Fct : SC Z h0 t (.int 0)) (Abt : AV Z h0 tb .byte xs) (hk : k'.toInt = (xs.length : Int)) (hi : i'.toInt = (ni : Int)) (hxs : xs.getD ni .null = .int x') (hik : i' < k') (Ae : AV Z h0 ea .char es) (hne : ni < es.length) (hes : es.getD ni .null = .int e') (heq : ((x' &&& (255 : Int32))).toUInt32.toUInt16.toUInt32.toInt32 = e') :
    Con l Z n0 Ts (Ts) (⟨"com/example/lanternwood/lanternwood/ReplAddressTcpPinLaw", "same", "(Ljava/lang/String;[CII)Z"⟩ : MethodName) method_3_code 4 (some .boolean) ws ({ frames := 4, cells := 0, slots := 0, locals := 88 } : Room) #[(.ref t), (.ref ea), (.int k'), (.int i')] h0 (fun v h => v = some (.int 1) ∧ h = h0) := by
  refine con_start (fr0 := fun m => mkF m 0 #[.val (.ref t), .val (.ref ea), .val (.int k'), .val (.int i')] []) ?_
  intro p e s m below meth c T0 hx hZ hby hml hown hnm hret hlk hsh XA
  have X0 := XA n0
  have hlow : n0 ≤ s.heap.size := by rw [hsh]; exact hn0
  replace hown : s.vm.findClass "com/example/lanternwood/lanternwood/ReplAddressTcpPinLaw" = some m.cls := hown
  replace hml : c.maxLocals = 4 := hml
  refine g_iloadN X0 hx (pc' := 1) rfl (hD hby d41_0) rfl ?_
  refine g_iloadN X0 hx (pc' := 2) rfl (hD hby d41_1) rfl ?_
  refine g_icmpN X0 hx (pcN := 5) (hD hby d41_2) rfl (show ¬ (¬ i' < k') from not_not_intro hik) ?_
  refine g_aloadN X0 hx (pc' := 6) rfl (hD hby d41_5) rfl rfl ?_
  refine g_iloadN X0 hx (pc' := 7) rfl (hD hby d41_6) rfl ?_
  refine g_callV X0 hx hZ hown (wat hw 222 rfl) (wat hw 223 rfl) (wat hw 225 rfl) (wat hw 224 rfl) (wat hw 4 rfl) (wat hw 226 rfl) (by decide) (a := t) Et (rm42 l Z a0 hw [] n0 (Ts) t tb fo i' k' x' ni xs cz h0 hn0 O4 hfo O2 hcz OLD Et Fvt Fct Abt hk hi hxs hik) pd_28 rfl rfl (pc' := 10) rfl (hD hby d41_7) (argsL := [(.int i')]) (rest := []) rfl (W := 0) (fun v511 T511 h511 X511 hQ511 => ?_)
  obtain ⟨rfl, he511⟩ := hQ511
  rw [he511] at X511
  show Go p e below s n0 _ _ _ (T511.setTop (mkF m 10 _ [(.int ((x' &&& (255 : Int32))).toUInt32.toUInt16.toUInt32.toInt32)]))
  refine g_aloadN X511 hx (pc' := 11) rfl (hD hby d41_10) rfl rfl ?_
  refine g_iloadN X511 hx (pc' := 12) rfl (hD hby d41_11) rfl ?_
  refine g_caload X511 hx hZ Ae (i := ni) hi hne (x := e') hes (pc' := 13) rfl (hD hby d41_12) ?_
  refine g_icmpN X511 hx (pcN := 16) (hD hby d41_13) rfl (show ¬ (¬ ((x' &&& (255 : Int32))).toUInt32.toUInt16.toUInt32.toInt32 = e') from not_not_intro heq) ?_
  refine g_iconst X511 hx (pc' := 17) (z := (1 : Int32)) rfl (hD hby d41_16) rfl ?_
  refine g_goto X511 hx (pc' := 21) (hD hby d41_17) (by decide) (by decide) ?_
  exact g_retZ X511 hx hlk hret (by first | exact Or.inl rfl | exact Or.inr rfl) (hD hby d41_21) (by decide) (by decide) (Nat.le_refl _) (⟨rfl, rfl⟩)
theorem rm41_o (l : Launch) (Z : State) (a0 : Array Value) (hw : HW a0 Z) (ws : List Jvm.Cond) (n0 : Nat) (Ts : List String) (t ea : Addr) (i' k' : Int32) (h0 : Heap) (hn0 : n0 ≤ h0.size) (hik : ¬ i' < k') :
    Con l Z n0 Ts (Ts) (⟨"com/example/lanternwood/lanternwood/ReplAddressTcpPinLaw", "same", "(Ljava/lang/String;[CII)Z"⟩ : MethodName) method_3_code 4 (some .boolean) ws ({ frames := 4, cells := 0, slots := 0, locals := 88 } : Room) #[(.ref t), (.ref ea), (.int k'), (.int i')] h0 (fun v h => v = some (.int 1) ∧ h = h0) := by
  refine con_start (fr0 := fun m => mkF m 0 #[.val (.ref t), .val (.ref ea), .val (.int k'), .val (.int i')] []) ?_
  intro p e s m below meth c T0 hx hZ hby hml hown hnm hret hlk hsh XA
  have X0 := XA n0
  have hlow : n0 ≤ s.heap.size := by rw [hsh]; exact hn0
  replace hown : s.vm.findClass "com/example/lanternwood/lanternwood/ReplAddressTcpPinLaw" = some m.cls := hown
  replace hml : c.maxLocals = 4 := hml
  refine g_iloadN X0 hx (pc' := 1) rfl (hD hby d41_0) rfl ?_
  refine g_iloadN X0 hx (pc' := 2) rfl (hD hby d41_1) rfl ?_
  refine g_icmpY X0 hx (pcY := 16) (hD hby d41_2) (by decide) (by decide) (show ¬ i' < k' from hik) ?_
  refine g_iconst X0 hx (pc' := 17) (z := (1 : Int32)) rfl (hD hby d41_16) rfl ?_
  refine g_goto X0 hx (pc' := 21) (hD hby d41_17) (by decide) (by decide) ?_
  exact g_retZ X0 hx hlk hret (by first | exact Or.inl rfl | exact Or.inr rfl) (hD hby d41_21) (by decide) (by decide) (Nat.le_refl _) (⟨rfl, rfl⟩)
theorem Con.mono {l : Launch} {Z : State} {n0 : Nat} {Ts Ts' : List String} {y : MethodName} {bytes : ByteArray} {ml : Nat} {ret : Option FieldType} {ws : List Jvm.Cond} {rm : Room} {as : Array Value} {h0 : Heap} {Q Q' : Option Value → Heap → Prop} (C : Con l Z n0 Ts Ts' y bytes ml ret ws rm as h0 Q) (q : ∀ v h, Q v h → Q' v h) : Con l Z n0 Ts Ts' y bytes ml ret ws rm as h0 Q' := by
  intro p e a1 a2 a3 s m args below b1 b2 b3 b4
  obtain ⟨n, o, h1, h2, h3, v, L, e1, ⟨N, hQ, I⟩, hE⟩ := C p e a1 a2 a3 s m args below b1 b2 b3 b4
  exact ⟨n, o, h1, h2, h3, v, L, e1, ⟨N, q _ _ hQ, I⟩, hE⟩
/-- the digits of a number below 100,000 -/
def Dg (P : Int) (ds : List Int32) : Prop := ( P < 10 ∧ ∃ y0 : Int32, ds = [y0] ∧ y0.toInt = 48 + (P / 1) % 10) ∨ (10 ≤ P ∧ P < 100 ∧ ∃ y0 y1 : Int32, ds = [y1, y0] ∧ y0.toInt = 48 + (P / 1) % 10 ∧ y1.toInt = 48 + (P / 10) % 10) ∨ (100 ≤ P ∧ P < 1000 ∧ ∃ y0 y1 y2 : Int32, ds = [y2, y1, y0] ∧ y0.toInt = 48 + (P / 1) % 10 ∧ y1.toInt = 48 + (P / 10) % 10 ∧ y2.toInt = 48 + (P / 100) % 10) ∨ (1000 ≤ P ∧ P < 10000 ∧ ∃ y0 y1 y2 y3 : Int32, ds = [y3, y2, y1, y0] ∧ y0.toInt = 48 + (P / 1) % 10 ∧ y1.toInt = 48 + (P / 10) % 10 ∧ y2.toInt = 48 + (P / 100) % 10 ∧ y3.toInt = 48 + (P / 1000) % 10) ∨ (10000 ≤ P ∧ P < 100000 ∧ ∃ y0 y1 y2 y3 y4 : Int32, ds = [y4, y3, y2, y1, y0] ∧ y0.toInt = 48 + (P / 1) % 10 ∧ y1.toInt = 48 + (P / 10) % 10 ∧ y2.toInt = 48 + (P / 100) % 10 ∧ y3.toInt = 48 + (P / 1000) % 10 ∧ y4.toInt = 48 + (P / 10000) % 10)
theorem Dg.len {P : Int} {ds : List Int32} (h : Dg P ds) : 1 ≤ ds.length ∧ ds.length ≤ 5 := by
  rcases h with ⟨-, _, rfl, -⟩ | ⟨-, -, _, _, rfl, -⟩ | ⟨-, -, _, _, _, rfl, -⟩ | ⟨-, -, _, _, _, _, rfl, -⟩ | ⟨-, -, _, _, _, _, _, rfl, -⟩
  · exact ⟨by simp, by simp⟩
  · exact ⟨by simp, by simp⟩
  · exact ⟨by simp, by simp⟩
  · exact ⟨by simp, by simp⟩
  · exact ⟨by simp, by simp⟩
theorem rm26 (l : Launch) (Z : State) (a0 : Array Value) (hw : HW a0 Z) (ws : List Jvm.Cond) (n0 : Nat) (Ts : List String) (p' : Int32) (b va dO dT : Addr) (vs : List Value) (c' : Nat) (e0 e1 e2 e3 e4 e5 : Int32) (cz : Int32) (h0 : Heap) (hn0 : n0 ≤ h0.size) (O2 : St0 Z (.int cz)) (hcz : ¬ cz = 0) (OLD : OldP Z n0 h0) (hp0 : 0 ≤ p'.toInt) (hp1 : p'.toInt < 65536) (S1 : St1 Z (.ref dO)) (A1 : AV Z Z.heap dO .byte DOL) (S2 : St2 Z (.ref dT)) (A2 : AV Z Z.heap dT .byte DTL) (Eb : XSb Z h0 b) (hgb : n0 ≤ b) (Fbv : BV Z h0 b (.ref va)) (Fbc : BC Z h0 b (.int 0)) (Fbn : BN Z h0 b (.int e0)) (Av : AV Z h0 va .byte vs) (hgv : n0 ≤ va) (g0 : e0.toInt = (c' : Int)) (g1 : e1.toInt = ((c' + 1 : Nat) : Int)) (s1 : e1 + Int32.ofInt (-1) = e0) (t1 : e0 + (1 : Int32) = e1) (g2 : e2.toInt = ((c' + 2 : Nat) : Int)) (s2 : e2 + Int32.ofInt (-1) = e1) (t2 : e0 + (2 : Int32) = e2) (g3 : e3.toInt = ((c' + 3 : Nat) : Int)) (s3 : e3 + Int32.ofInt (-1) = e2) (t3 : e0 + (3 : Int32) = e3) (g4 : e4.toInt = ((c' + 4 : Nat) : Int)) (s4 : e4 + Int32.ofInt (-1) = e3) (t4 : e0 + (4 : Int32) = e4) (g5 : e5.toInt = ((c' + 5 : Nat) : Int)) (s5 : e5 + Int32.ofInt (-1) = e4) (t5 : e0 + (5 : Int32) = e5) (hb : c' + 5 ≤ 16) (hv : vs.length = 16) :
    Con l Z n0 Ts (Ts) (⟨"java/lang/StringBuilder", "append", "(I)Ljava/lang/StringBuilder;"⟩ : MethodName) jdk_67_method_15_code 2 (some (.object "java/lang/StringBuilder")) ws ({ frames := 2, cells := 0, slots := 0, locals := 56 } : Room) #[(.ref b), (.int p')] h0 (fun v h => v = some (.ref b) ∧ Keep h0 h [b, va] ∧ ∃ ds m', Dg p'.toInt ds ∧ m'.toInt = ((c' + ds.length : Nat) : Int) ∧ AV Z h va .byte (vs.take c' ++ ds.map Value.int ++ vs.drop (c' + ds.length)) ∧ BV Z h b (.ref va) ∧ BC Z h b (.int 0) ∧ BN Z h b (.int m')) := by
  by_cases z1 : p'.toInt < 10
  · refine Con.mono (rm26_1 l Z a0 hw ws n0 Ts p' b va dO dT vs c' e0 e1 cz h0 hn0 O2 hcz OLD hp0 hp1 (by omega) (by omega) S1 A1 S2 A2 Eb hgb Fbv Fbc Fbn Av hgv g0 g1 s1 (by omega) hv t1) (fun v h q => ?_)
    obtain ⟨q1, q2, y0, k0, q3⟩ := q
    exact ⟨q1, q2, [y0], e1, Or.inl ⟨by omega, y0, rfl, k0⟩, g1, q3⟩
  by_cases z2 : p'.toInt < 100
  · refine Con.mono (rm26_2 l Z a0 hw ws n0 Ts p' b va dO dT vs c' e0 e1 e2 cz h0 hn0 O2 hcz OLD hp0 hp1 (by omega) (by omega) S1 A1 S2 A2 Eb hgb Fbv Fbc Fbn Av hgv g0 g1 s1 g2 s2 (by omega) hv t2) (fun v h q => ?_)
    obtain ⟨q1, q2, y0, y1, k0, k1, q3⟩ := q
    exact ⟨q1, q2, [y1, y0], e2, Or.inr (Or.inl ⟨by omega, by omega, y0, y1, rfl, k0, k1⟩), g2, q3⟩
  by_cases z3 : p'.toInt < 1000
  · refine Con.mono (rm26_3 l Z a0 hw ws n0 Ts p' b va dO dT vs c' e0 e1 e2 e3 cz h0 hn0 O2 hcz OLD hp0 hp1 (by omega) (by omega) S1 A1 S2 A2 Eb hgb Fbv Fbc Fbn Av hgv g0 g1 s1 g2 s2 g3 s3 (by omega) hv t3) (fun v h q => ?_)
    obtain ⟨q1, q2, y0, y1, y2, k0, k1, k2, q3⟩ := q
    exact ⟨q1, q2, [y2, y1, y0], e3, Or.inr (Or.inr (Or.inl ⟨by omega, by omega, y0, y1, y2, rfl, k0, k1, k2⟩)), g3, q3⟩
  by_cases z4 : p'.toInt < 10000
  · refine Con.mono (rm26_4 l Z a0 hw ws n0 Ts p' b va dO dT vs c' e0 e1 e2 e3 e4 cz h0 hn0 O2 hcz OLD hp0 hp1 (by omega) (by omega) S1 A1 S2 A2 Eb hgb Fbv Fbc Fbn Av hgv g0 g1 s1 g2 s2 g3 s3 g4 s4 (by omega) hv t4) (fun v h q => ?_)
    obtain ⟨q1, q2, y0, y1, y2, y3, k0, k1, k2, k3, q3⟩ := q
    exact ⟨q1, q2, [y3, y2, y1, y0], e4, Or.inr (Or.inr (Or.inr (Or.inl ⟨by omega, by omega, y0, y1, y2, y3, rfl, k0, k1, k2, k3⟩))), g4, q3⟩
  · refine Con.mono (rm26_5 l Z a0 hw ws n0 Ts p' b va dO dT vs c' e0 e1 e2 e3 e4 e5 cz h0 hn0 O2 hcz OLD hp0 hp1 (by omega) (by omega) S1 A1 S2 A2 Eb hgb Fbv Fbc Fbn Av hgv g0 g1 s1 g2 s2 g3 s3 g4 s4 g5 s5 (by omega) hv t5) (fun v h q => ?_)
    obtain ⟨q1, q2, y0, y1, y2, y3, y4, k0, k1, k2, k3, k4, q3⟩ := q
    exact ⟨q1, q2, [y4, y3, y2, y1, y0], e5, Or.inr (Or.inr (Or.inr (Or.inr (⟨by omega, by omega, y0, y1, y2, y3, y4, rfl, k0, k1, k2, k3, k4⟩)))), g5, q3⟩
theorem rm10_y (l : Launch) (Z : State) (a0 : Array Value) (hw : HW a0 Z) (ws : List Jvm.Cond) (n0 : Nat) (Ts : List String) (t tb u ub : Addr) (y0 y1 cz : Int32) (h0 : Heap) (hn0 : n0 ≤ h0.size) (O2 : St0 Z (.int cz)) (hcz : ¬ cz = 0) (OLD : OldP Z n0 h0) (q0 : y0 = (58 : Int32) ∨ y1 = (58 : Int32)) (Et : XSt Z h0 t) (Fvt : SV Z h0 t (.ref tb)) (Fct : SC Z h0 t (.int 0)) (Abt : AV Z h0 tb .byte [.int y0, .int y1]) (Eu : XSt Z h0 u) (Fvu : SV Z h0 u (.ref ub)) (Fcu : SC Z h0 u (.int 0)) (Abu : AV Z h0 ub .byte [.int (58 : Int32)]) :
    Con l Z n0 Ts (Ts) (⟨"java/lang/String", "contains", "(Ljava/lang/CharSequence;)Z"⟩ : MethodName) jdk_42_method_97_code 2 (some .boolean) ws ({ frames := 3, cells := 0, slots := 0, locals := 72 } : Room) #[(.ref t), (.ref u)] h0 (fun v h => v = some (.int 1) ∧ h = h0) := by
  by_cases q : y0 = (58 : Int32)
  · exact rm10_a l Z a0 hw ws n0 Ts t tb u ub y0 y1 cz h0 hn0 O2 hcz OLD q Et Fvt Fct Abt Eu Fvu Fcu Abu
  · exact rm10_b l Z a0 hw ws n0 Ts t tb u ub y0 y1 cz h0 hn0 O2 hcz OLD q (q0.resolve_left q) Et Fvt Fct Abt Eu Fvu Fcu Abu
theorem rm8 (l : Launch) (Z : State) (a0 : Array Value) (hw : HW a0 Z) (ws : List Jvm.Cond) (n0 : Nat) (Ts : List String) (t ho : Addr) (p' : Int32) (h0 : Heap) (hn0 : n0 ≤ h0.size) (Et : Exa Z h0 t "com/example/lanternwood/lanternwood/ReplAddress") (hgt : n0 ≤ t) (F_host : Fld Z h0 t "com/example/lanternwood/lanternwood/ReplAddress" "host" "Ljava/lang/String;" .null) (F_port : Fld Z h0 t "com/example/lanternwood/lanternwood/ReplAddress" "port" "I" (.int 0)) (F_socket : Fld Z h0 t "com/example/lanternwood/lanternwood/ReplAddress" "socket" "Ljava/nio/file/Path;" .null) (F_portFile : Fld Z h0 t "com/example/lanternwood/lanternwood/ReplAddress" "portFile" "Ljava/nio/file/Path;" .null) :
    Con l Z n0 Ts (Ts) (⟨"com/example/lanternwood/lanternwood/ReplAddress", "<init>", "(Ljava/lang/String;ILjava/nio/file/Path;Ljava/nio/file/Path;)V"⟩ : MethodName) prog_17_method_1_code 5 none ws ({ frames := 1, cells := 0, slots := 0, locals := 16 } : Room) #[(.ref t), (.ref ho), (.int p'), .null, .null] h0 (fun v h => v = none ∧ Keep h0 h [t] ∧ Fld Z h t "com/example/lanternwood/lanternwood/ReplAddress" "host" "Ljava/lang/String;" (.ref ho) ∧ Fld Z h t "com/example/lanternwood/lanternwood/ReplAddress" "port" "I" (.int p') ∧ Fld Z h t "com/example/lanternwood/lanternwood/ReplAddress" "socket" "Ljava/nio/file/Path;" .null ∧ Fld Z h t "com/example/lanternwood/lanternwood/ReplAddress" "portFile" "Ljava/nio/file/Path;" .null) := by
  refine con_start (fr0 := fun m => mkF m 0 #[.val (.ref t), .val (.ref ho), .val (.int p'), .val .null, .val .null] []) ?_
  intro p e s m below meth c T0 hx hZ hby hml hown hnm hret hlk hsh XA
  have X0 := XA n0
  have hlow : n0 ≤ s.heap.size := by rw [hsh]; exact hn0
  replace hown : s.vm.findClass "com/example/lanternwood/lanternwood/ReplAddress" = some m.cls := hown
  replace hml : c.maxLocals = 5 := hml
  refine g_aloadN X0 hx (pc' := 1) rfl (hD hby d8_0) rfl rfl ?_
  refine g_initO X0 hx hZ hown (wat hw 41 rfl) (wat hw 14 rfl) (wat hw 15 rfl) (by rw [hml]; rfl) (pc' := 4) rfl (hD hby d8_1) (by decide) (W := 0) (Nat.le_of_eq rfl) (by decide) (fun T512 X512 => ?_)
  show Go p e below s n0 _ _ _ (T512.setTop (mkF m 4 _ []))
  refine g_aloadN X512 hx (pc' := 5) rfl (hD hby d8_4) rfl rfl ?_
  refine g_aloadN X512 hx (pc' := 6) rfl (hD hby d8_5) rfl rfl ?_
  refine g_putF X512 hx hZ hown (wat hw 42 rfl) Via.refl F_host Et (Or.inr ⟨(wat hw 43 rfl), rfl, hnm⟩) (wat hw 37 rfl) (ty := (.object "java/lang/String")) (by decide) rfl rfl hgt (pc' := 9) rfl (hD hby d8_6) (fun T513 h513 X513 W513 => ?_)
  have f514 := (by have q := (Keep.of_wr W513).1; exact Nat.le_trans hn0 q : n0 ≤ h513.size)
  have f515 := (Keep.refl h0 [t]).wr W513 (Or.inl (List.mem_of_getElem? (i := 0) rfl))
  have f516 := Et.wr W513
  have f517 := F_host.same W513
  have f518 := F_port.other W513 (Or.inr (slot_ne (Or.inr (wat hw 45 rfl)) (Or.inr (wat hw 43 rfl)) (by decide) (t := .int) (t' := (.object "java/lang/String")) (by decide) (by decide)))
  have f519 := F_socket.other W513 (Or.inr (slot_ne (Or.inr (wat hw 47 rfl)) (Or.inr (wat hw 43 rfl)) (by decide) (t := (.object "java/nio/file/Path")) (t' := (.object "java/lang/String")) (by decide) (by decide)))
  have f520 := F_portFile.other W513 (Or.inr (slot_ne (Or.inr (wat hw 49 rfl)) (Or.inr (wat hw 43 rfl)) (by decide) (t := (.object "java/nio/file/Path")) (t' := (.object "java/lang/String")) (by decide) (by decide)))
  refine g_aloadN X513 hx (pc' := 10) rfl (hD hby d8_9) rfl rfl ?_
  refine g_iloadN X513 hx (pc' := 11) rfl (hD hby d8_10) rfl ?_
  refine g_putF X513 hx hZ hown (wat hw 44 rfl) Via.refl f518 f516 (Or.inr ⟨(wat hw 45 rfl), rfl, hnm⟩) (wat hw 37 rfl) (ty := .int) (by decide) rfl rfl hgt (pc' := 14) rfl (hD hby d8_11) (fun T521 h521 X521 W521 => ?_)
  have f522 := (by have q := (Keep.of_wr W521).1; exact Nat.le_trans f514 q : n0 ≤ h521.size)
  have f523 := f515.wr W521 (Or.inl (List.mem_of_getElem? (i := 0) rfl))
  have f524 := f516.wr W521
  have f525 := f517.other W521 (Or.inr (slot_ne (Or.inr (wat hw 43 rfl)) (Or.inr (wat hw 45 rfl)) (by decide) (t := (.object "java/lang/String")) (t' := .int) (by decide) (by decide)))
  have f526 := f518.same W521
  have f527 := f519.other W521 (Or.inr (slot_ne (Or.inr (wat hw 47 rfl)) (Or.inr (wat hw 45 rfl)) (by decide) (t := (.object "java/nio/file/Path")) (t' := .int) (by decide) (by decide)))
  have f528 := f520.other W521 (Or.inr (slot_ne (Or.inr (wat hw 49 rfl)) (Or.inr (wat hw 45 rfl)) (by decide) (t := (.object "java/nio/file/Path")) (t' := .int) (by decide) (by decide)))
  refine g_aloadN X521 hx (pc' := 15) rfl (hD hby d8_14) rfl rfl ?_
  refine g_aloadN X521 hx (pc' := 16) rfl (hD hby d8_15) rfl rfl ?_
  refine g_putF X521 hx hZ hown (wat hw 46 rfl) Via.refl f527 f524 (Or.inr ⟨(wat hw 47 rfl), rfl, hnm⟩) (wat hw 37 rfl) (ty := (.object "java/nio/file/Path")) (by decide) rfl rfl hgt (pc' := 19) rfl (hD hby d8_16) (fun T529 h529 X529 W529 => ?_)
  have f530 := (by have q := (Keep.of_wr W529).1; exact Nat.le_trans f522 q : n0 ≤ h529.size)
  have f531 := f523.wr W529 (Or.inl (List.mem_of_getElem? (i := 0) rfl))
  have f532 := f524.wr W529
  have f533 := f525.other W529 (Or.inr (slot_ne (Or.inr (wat hw 43 rfl)) (Or.inr (wat hw 47 rfl)) (by decide) (t := (.object "java/lang/String")) (t' := (.object "java/nio/file/Path")) (by decide) (by decide)))
  have f534 := f526.other W529 (Or.inr (slot_ne (Or.inr (wat hw 45 rfl)) (Or.inr (wat hw 47 rfl)) (by decide) (t := .int) (t' := (.object "java/nio/file/Path")) (by decide) (by decide)))
  have f535 := f527.same W529
  have f536 := f528.other W529 (Or.inr (slot_ne (Or.inr (wat hw 49 rfl)) (Or.inr (wat hw 47 rfl)) (by decide) (t := (.object "java/nio/file/Path")) (t' := (.object "java/nio/file/Path")) (by decide) (by decide)))
  refine g_aloadN X529 hx (pc' := 20) rfl (hD hby d8_19) rfl rfl ?_
  refine g_aload X529 hx (pc' := 22) rfl (hD hby d8_20) rfl rfl ?_
  refine g_putF X529 hx hZ hown (wat hw 48 rfl) Via.refl f536 f532 (Or.inr ⟨(wat hw 49 rfl), rfl, hnm⟩) (wat hw 37 rfl) (ty := (.object "java/nio/file/Path")) (by decide) rfl rfl hgt (pc' := 25) rfl (hD hby d8_22) (fun T537 h537 X537 W537 => ?_)
  have f538 := (by have q := (Keep.of_wr W537).1; exact Nat.le_trans f530 q : n0 ≤ h537.size)
  have f539 := f531.wr W537 (Or.inl (List.mem_of_getElem? (i := 0) rfl))
  have f540 := f532.wr W537
  have f541 := f533.other W537 (Or.inr (slot_ne (Or.inr (wat hw 43 rfl)) (Or.inr (wat hw 49 rfl)) (by decide) (t := (.object "java/lang/String")) (t' := (.object "java/nio/file/Path")) (by decide) (by decide)))
  have f542 := f534.other W537 (Or.inr (slot_ne (Or.inr (wat hw 45 rfl)) (Or.inr (wat hw 49 rfl)) (by decide) (t := .int) (t' := (.object "java/nio/file/Path")) (by decide) (by decide)))
  have f543 := f535.other W537 (Or.inr (slot_ne (Or.inr (wat hw 47 rfl)) (Or.inr (wat hw 49 rfl)) (by decide) (t := (.object "java/nio/file/Path")) (t' := (.object "java/nio/file/Path")) (by decide) (by decide)))
  have f544 := f536.same W537
  exact g_retV X537 hx hlk hret (hD hby d8_25) (by decide) (by decide) (Nat.le_refl _) (⟨rfl, f539, f541, f542, f543, f544⟩)
theorem rm7 (l : Launch) (Z : State) (a0 : Array Value) (hw : HW a0 Z) (ws : List Jvm.Cond) (n0 : Nat) (Ts : List String) (ho : Addr) (p' : Int32) (h0 : Heap) (hn0 : n0 ≤ h0.size)  :
    Con l Z n0 Ts (Ts) (⟨"com/example/lanternwood/lanternwood/ReplAddress", "tcp", "(Ljava/lang/String;I)Lcom/example/lanternwood/lanternwood/ReplAddress;"⟩ : MethodName) prog_17_method_2_code 2 (some (.object "com/example/lanternwood/lanternwood/ReplAddress")) ws ({ frames := 2, cells := 1, slots := 4, locals := 40 } : Room) #[(.ref ho), (.int p')] h0 (fun v h => ∃ t, v = some (.ref t) ∧ n0 ≤ t ∧ h0.size ≤ t ∧ Keep h0 h [] ∧ Exa Z h t "com/example/lanternwood/lanternwood/ReplAddress" ∧ Fld Z h t "com/example/lanternwood/lanternwood/ReplAddress" "host" "Ljava/lang/String;" (.ref ho) ∧ Fld Z h t "com/example/lanternwood/lanternwood/ReplAddress" "port" "I" (.int p') ∧ Fld Z h t "com/example/lanternwood/lanternwood/ReplAddress" "socket" "Ljava/nio/file/Path;" .null ∧ Fld Z h t "com/example/lanternwood/lanternwood/ReplAddress" "portFile" "Ljava/nio/file/Path;" .null) := by
  refine con_start (fr0 := fun m => mkF m 0 #[.val (.ref ho), .val (.int p')] []) ?_
  intro p e s m below meth c T0 hx hZ hby hml hown hnm hret hlk hsh XA
  have X0 := XA n0
  have hlow : n0 ≤ s.heap.size := by rw [hsh]; exact hn0
  replace hown : s.vm.findClass "com/example/lanternwood/lanternwood/ReplAddress" = some m.cls := hown
  replace hml : c.maxLocals = 2 := hml
  refine g_newO X0 hx hZ hown (wat hw 36 rfl) (wat hw 37 rfl) (wat hw 34 rfl) (pc' := 3) rfl (hD hby d7_0) (by decide) (by decide) (fun T545 h545 a545 ha545 X545 E545 A545 D545 => ?_)
  have sz545 : h0.size ≤ a545 := by rw [ha545]; exact (Keep.refl h0 []).1
  have f546 := (Keep.refl h0 []).ext E545
  have G_a545 : n0 ≤ a545 := by rw [ha545]; exact hn0
  have Zs545 : n0 ≤ h545.size := Nat.le_trans hn0 E545.1
  have F545_host : Fld Z h545 a545 "com/example/lanternwood/lanternwood/ReplAddress" "host" "Ljava/lang/String;" .null := D545 (Or.inr (wat hw 43 rfl)) (ty := (.object "java/lang/String")) (by decide)
  have F545_port : Fld Z h545 a545 "com/example/lanternwood/lanternwood/ReplAddress" "port" "I" (.int 0) := D545 (Or.inr (wat hw 45 rfl)) (ty := .int) (by decide)
  have F545_socket : Fld Z h545 a545 "com/example/lanternwood/lanternwood/ReplAddress" "socket" "Ljava/nio/file/Path;" .null := D545 (Or.inr (wat hw 47 rfl)) (ty := (.object "java/nio/file/Path")) (by decide)
  have F545_portFile : Fld Z h545 a545 "com/example/lanternwood/lanternwood/ReplAddress" "portFile" "Ljava/nio/file/Path;" .null := D545 (Or.inr (wat hw 49 rfl)) (ty := (.object "java/nio/file/Path")) (by decide)
  refine g_dup X545 hx (pc' := 4) rfl (hD hby d7_3) rfl ?_
  refine g_aloadN X545 hx (pc' := 5) rfl (hD hby d7_4) rfl rfl ?_
  refine g_iloadN X545 hx (pc' := 6) rfl (hD hby d7_5) rfl ?_
  refine g_aconst_null X545 hx (pc' := 7) rfl (hD hby d7_6) ?_
  refine g_aconst_null X545 hx (pc' := 8) rfl (hD hby d7_7) ?_
  refine g_callI X545 hx hZ hown rfl (wat hw 38 rfl) (wat hw 39 rfl) (wat hw 34 rfl) (wat hw 40 rfl) (by decide) (a := a545) (rm8 l Z a0 hw [] n0 (Ts) a545 ho p' h545 Zs545 A545 G_a545 F545_host F545_port F545_socket F545_portFile) pd_29 rfl rfl (pc' := 11) rfl (hD hby d7_8) (argsL := [(.ref ho), (.int p'), .null, .null]) (rest := [(.ref a545)]) rfl (W := 1) (fun v547 T547 h547 X547 hQ547 => ?_)
  obtain ⟨rfl, K547, R0_547, R1_547, R2_547, R3_547⟩ := hQ547
  have f548 := f546.trans K547 (allS (Or.inr sz545) all0)
  have f549 := A545.keep K547
  have zs547 : n0 ≤ h547.size := Nat.le_trans Zs545 K547.1
  show Go p e below s n0 _ _ _ (T547.setTop (mkF m 11 _ [(.ref a545)]))
  exact g_ret X547 hx hlk hret rfl (Or.inr (Or.inr (Or.inr (Or.inr ⟨rfl, rfl, rfl⟩)))) (hD hby d7_11) (by decide) (by decide) (Nat.le_refl _) (⟨a545, rfl, G_a545, sz545, f548, f549, R0_547, R1_547, R2_547, R3_547⟩)
theorem own_tk {xs ys zs : List Value} {n : Nat} (h : n = xs.length + ys.length) : (xs ++ ys ++ zs).take n = xs ++ ys := by
  subst h; rw [← List.length_append]; exact List.take_left' rfl
theorem rm9_n (l : Launch) (Z : State) (a0 : Array Value) (hw : HW a0 Z) (ws : List Jvm.Cond) (n0 : Nat) (Ts : List String) (t ho hb dO dT : Addr) (y0 y1 p' cz : Int32) (h0 : Heap) (hn0 : n0 ≤ h0.size) (hcw : Jvm.Lit.compactW.before a0 Z = true) (hkc : ∀ q ∈ consts_1, Jvm.Lit.constHeld Z q.1 q.2) (O2 : St0 Z (.int cz)) (hcz : ¬ cz = 0) (OLD : OldP Z n0 h0) (hT1 : ":" ∉ Ts) (hT2 : "[" ∉ Ts) (hT3 : "]" ∉ Ts) (S1 : St1 Z (.ref dO)) (A1 : AV Z Z.heap dO .byte DOL) (S2 : St2 Z (.ref dT)) (A2 : AV Z Z.heap dT .byte DTL) (hp0 : 0 ≤ p'.toInt) (hp1 : p'.toInt < 65536) (q0 : ¬ y0 = (58 : Int32)) (q1 : ¬ y1 = (58 : Int32)) (Et : Exa Z h0 t "com/example/lanternwood/lanternwood/ReplAddress") (F_host : Fld Z h0 t "com/example/lanternwood/lanternwood/ReplAddress" "host" "Ljava/lang/String;" (.ref ho)) (F_port : Fld Z h0 t "com/example/lanternwood/lanternwood/ReplAddress" "port" "I" (.int p')) (F_socket : Fld Z h0 t "com/example/lanternwood/lanternwood/ReplAddress" "socket" "Ljava/nio/file/Path;" .null) (F_portFile : Fld Z h0 t "com/example/lanternwood/lanternwood/ReplAddress" "portFile" "Ljava/nio/file/Path;" .null) (Eho : XSt Z h0 ho) (Fvho : SV Z h0 ho (.ref hb)) (Fcho : SC Z h0 ho (.int 0)) (Abho : AV Z h0 hb .byte [.int y0, .int y1]) :
    Con l Z n0 Ts ("]" :: "[" :: ":" :: Ts) (⟨"com/example/lanternwood/lanternwood/ReplAddress", "toString", "()Ljava/lang/String;"⟩ : MethodName) prog_17_method_12_code 3 (some (.object "java/lang/String")) ws ({ frames := 7, cells := 16, slots := 120, locals := 170 } : Room) #[(.ref t)] h0 (fun v h => ∃ t tb, v = some (.ref t) ∧ n0 ≤ t ∧ h0.size ≤ t ∧ n0 ≤ tb ∧ h0.size ≤ tb ∧ Keep h0 h [] ∧ XSt Z h t ∧ SV Z h t (.ref tb) ∧ SC Z h t (.int 0) ∧ ∃ ds, Dg p'.toInt ds ∧ AV Z h tb .byte ([.int y0, .int y1, .int 58] ++ ds.map Value.int)) := by
  refine con_start (fr0 := fun m => mkF m 0 #[.val (.ref t), .unset, .unset] []) ?_
  intro p e s m below meth c T0 hx hZ hby hml hown hnm hret hlk hsh XA
  have X0 := XA s.heap.size
  have hlow : n0 ≤ s.heap.size := by rw [hsh]; exact hn0
  replace hown : s.vm.findClass "com/example/lanternwood/lanternwood/ReplAddress" = some m.cls := hown
  replace hml : c.maxLocals = 3 := hml
  have OLD1 := OLD.up hlow
  refine g_aloadN X0 hx (pc' := 1) rfl (hD hby d9_0) rfl rfl ?_
  refine g_getF X0 hx hZ hown (wat hw 46 rfl) Via.refl F_socket (pc' := 4) rfl (hD hby d9_1) (fun T550 X550 => ?_)
  refine g_ifnullY X550 hx (pcY := 17) (hD hby d9_4) (by decide) (by decide) ?_
  refine g_aloadN X550 hx (pc' := 18) rfl (hD hby d9_17) rfl rfl ?_
  refine g_getF X550 hx hZ hown (wat hw 42 rfl) Via.refl F_host (pc' := 21) rfl (hD hby d9_18) (fun T551 X551 => ?_)
  refine g_ldcS X551 hx hZ hown (wat hw 55 rfl) (own_wS hw) (fun b cl q => by rw [hsh]; exact OLD.2.2 b cl q) hT1 (hkc ("com/example/lanternwood/lanternwood/ReplAddress", 220) (by simp [consts_1])) hcw (vs := [.int 58]) ⟨by decide, rfl⟩ (by decide) (pc' := 23) rfl (hD hby d9_21) (n := 4) (by decide) (by decide) (by decide) (by decide) (fun T552 h552 a552 b552 XX552 E552 EX552 FC552 FV552 AB552 WH552 => ?_)
  have X552 := XX552
  have f553 := Et.ext E552
  have f554 := Eho.ext E552
  have f555 := Fvho.ext E552
  have f556 := Fcho.ext E552
  have f557 := Abho.ext E552
  have f558 := F_host.ext E552
  have f559 := F_port.ext E552
  have f560 := F_socket.ext E552
  have f561 := F_portFile.ext E552
  have f562 := (Keep.refl h0 []).ext E552
  have Zs552 : s.heap.size ≤ h552.size := Nat.le_trans (Nat.le_of_eq (congrArg Array.size hsh)) E552.1
  have f563 := OLD1.ext E552
  show Go p e below s n0 _ _ _ (T552.setTop (mkF m 23 _ [(.ref a552), (.ref ho)]))
  refine g_callV X552 hx hZ hown (wat hw 58 rfl) (wat hw 59 rfl) (wat hw 61 rfl) (wat hw 60 rfl) (wat hw 4 rfl) (wat hw 62 rfl) (by decide) (a := ho) f554 (rm10_n l Z a0 hw [] s.heap.size (":" :: Ts) ho hb a552 b552 y0 y1 cz h552 Zs552 O2 hcz f563 q0 q1 f554 f555 f556 f557 EX552 FV552 FC552 AB552) pd_30 rfl rfl (pc' := 26) rfl (hD hby d9_23) (argsL := [(.ref a552)]) (rest := []) rfl (W := 0) (fun v564 T564 h564 X564 hQ564 => ?_)
  obtain ⟨rfl, he564⟩ := hQ564
  rw [he564] at X564
  show Go p e below s n0 _ _ _ (T564.setTop (mkF m 26 _ [(.int 0)]))
  refine g_ifY X564 hx (pcY := 45) (hD hby d9_26) (by decide) (by decide) (show (0 : Int32) = 0 from by decide) ?_
  refine g_iconst X564 hx (pc' := 46) (z := (0 : Int32)) rfl (hD hby d9_45) rfl ?_
  refine g_istoreN X564 hx (pc' := 47) rfl (hD hby d9_46) (l' := #[.val (.ref t), .val (.int 0), .unset]) rfl ?_
  refine g_newO X564 hx hZ hown (wat hw 94 rfl) (wat hw 95 rfl) (wat hw 96 rfl) (pc' := 50) rfl (hD hby d9_47) (by decide) (by decide) (fun T565 h565 a565 ha565 X565 E565 A565 D565 => ?_)
  have ne565_t : t ≠ a565 := by rw [ha565]; exact Nat.ne_of_lt f553.lt
  have ne565_ho : ho ≠ a565 := by rw [ha565]; exact Nat.ne_of_lt f554.lt
  have ne565_hb : hb ≠ a565 := by rw [ha565]; exact Nat.ne_of_lt f557.lt
  have ne565_a552 : a552 ≠ a565 := by rw [ha565]; exact Nat.ne_of_lt EX552.lt
  have ne565_b552 : b552 ≠ a565 := by rw [ha565]; exact Nat.ne_of_lt AB552.lt
  have f566 := f553.ext E565
  have f567 := f554.ext E565
  have f568 := f555.ext E565
  have f569 := f556.ext E565
  have f570 := f557.ext E565
  have f571 := f558.ext E565
  have f572 := f559.ext E565
  have f573 := f560.ext E565
  have f574 := f561.ext E565
  have f575 := EX552.ext E565
  have f576 := FC552.ext E565
  have f577 := FV552.ext E565
  have f578 := AB552.ext E565
  have sz565 : h0.size ≤ a565 := by rw [ha565]; exact f562.1
  have f579 := f562.ext E565
  have G_a565 : s.heap.size ≤ a565 := by rw [ha565]; exact Zs552
  have Zs565 : s.heap.size ≤ h565.size := Nat.le_trans Zs552 E565.1
  have f580 := f563.ext E565
  have F565_value : BV Z h565 a565 .null := D565 (Or.inl (wat hw 109 rfl)) (ty := (.array .byte)) (by decide)
  have F565_coder : BC Z h565 a565 (.int 0) := D565 (Or.inl (wat hw 111 rfl)) (ty := .byte) (by decide)
  have F565_count : BN Z h565 a565 (.int 0) := D565 (Or.inl (wat hw 128 rfl)) (ty := .int) (by decide)
  refine g_dup X565 hx (pc' := 51) rfl (hD hby d9_50) rfl ?_
  refine g_callI X565 hx hZ hown rfl (wat hw 97 rfl) (wat hw 98 rfl) (wat hw 96 rfl) (wat hw 99 rfl) (by decide) (a := a565) (rm17 l Z a0 hw [] s.heap.size (":" :: Ts) a565 cz h565 Zs565 O2 hcz f580 A565 G_a565 F565_value F565_coder F565_count) pd_31 rfl rfl (pc' := 54) rfl (hD hby d9_51) (argsL := []) (rest := [(.ref a565)]) rfl (W := 1) (fun v581 T581 h581 X581 hQ581 => ?_)
  obtain ⟨rfl, K581, va581, Gva581, S581, V581, FV581, FC581, FN581⟩ := hQ581
  have neva581_t : t ≠ va581 := Nat.ne_of_lt (Nat.lt_of_lt_of_le f566.lt S581)
  have neva581_ho : ho ≠ va581 := Nat.ne_of_lt (Nat.lt_of_lt_of_le f567.lt S581)
  have neva581_hb : hb ≠ va581 := Nat.ne_of_lt (Nat.lt_of_lt_of_le f570.lt S581)
  have neva581_a552 : a552 ≠ va581 := Nat.ne_of_lt (Nat.lt_of_lt_of_le f575.lt S581)
  have neva581_b552 : b552 ≠ va581 := Nat.ne_of_lt (Nat.lt_of_lt_of_le f578.lt S581)
  have neva581_a565 : a565 ≠ va581 := Nat.ne_of_lt (Nat.lt_of_lt_of_le A565.lt S581)
  have szva581 : h0.size ≤ va581 := Nat.le_trans f579.1 S581
  have f582 := f579.trans K581 (allS (Or.inr sz565) all0)
  have f583 := f580.keep K581 (allS G_a565 all0)
  have f584 := f566.keep K581
  have f585 := f567.keep K581
  have f586 := f568.keep K581 (ninS ne565_ho nin0)
  have f587 := f569.keep K581 (ninS ne565_ho nin0)
  have f588 := f570.keep K581 (ninS ne565_hb nin0)
  have f589 := f571.keep K581 (ninS ne565_t nin0)
  have f590 := f572.keep K581 (ninS ne565_t nin0)
  have f591 := f573.keep K581 (ninS ne565_t nin0)
  have f592 := f574.keep K581 (ninS ne565_t nin0)
  have f593 := f575.keep K581
  have f594 := f576.keep K581 (ninS ne565_a552 nin0)
  have f595 := f577.keep K581 (ninS ne565_a552 nin0)
  have f596 := f578.keep K581 (ninS ne565_b552 nin0)
  have f597 := A565.keep K581
  have zs581 : s.heap.size ≤ h581.size := Nat.le_trans Zs565 K581.1
  show Go p e below s n0 _ _ _ (T581.setTop (mkF m 54 _ [(.ref a565)]))
  refine g_iloadN X581 hx (pc' := 55) rfl (hD hby d9_54) rfl ?_
  refine g_ifY X581 hx (pcY := 88) (hD hby d9_55) (by decide) (by decide) (show (0 : Int32) = 0 from by decide) ?_
  refine g_aloadN X581 hx (pc' := 89) rfl (hD hby d9_88) rfl rfl ?_
  refine g_getF X581 hx hZ hown (wat hw 42 rfl) Via.refl f589 (pc' := 92) rfl (hD hby d9_89) (fun T598 X598 => ?_)
  refine g_callV X598 hx hZ hown (wat hw 112 rfl) (wat hw 113 rfl) (wat hw 115 rfl) (wat hw 114 rfl) (wat hw 96 rfl) (wat hw 116 rfl) (by decide) (a := a565) f597 (rm19 l Z a0 hw [] s.heap.size (":" :: Ts) a565 va581 ho hb [.int 0, .int 0, .int 0, .int 0, .int 0, .int 0, .int 0, .int 0, .int 0, .int 0, .int 0, .int 0, .int 0, .int 0, .int 0, .int 0] [.int y0, .int y1] 0 (0 : Int32) (2 : Int32) (2 : Int32) cz h581 zs581 O2 hcz f583 f597 G_a565 FV581 FC581 FN581 V581 Gva581 f585 f586 f587 f588 neva581_hb rfl rfl (show (2 : Nat) ≤ 16 by decide) rfl (by decide) rfl) pd_32 rfl rfl (pc' := 95) rfl (hD hby d9_92) (argsL := [(.ref ho)]) (rest := []) rfl (W := 0) (fun v599 T599 h599 X599 hQ599 => ?_)
  obtain ⟨rfl, K599, VV599, FV599, FC599, FN599⟩ := hQ599
  have f600 := f582.trans K599 (allS (Or.inr sz565) (allS (Or.inr szva581) all0))
  have f601 := f583.keep K599 (allS G_a565 (allS Gva581 all0))
  have f602 := f584.keep K599
  have f603 := f585.keep K599
  have f604 := f586.keep K599 (ninS ne565_ho (ninS neva581_ho nin0))
  have f605 := f587.keep K599 (ninS ne565_ho (ninS neva581_ho nin0))
  have f606 := f588.keep K599 (ninS ne565_hb (ninS neva581_hb nin0))
  have f607 := f589.keep K599 (ninS ne565_t (ninS neva581_t nin0))
  have f608 := f590.keep K599 (ninS ne565_t (ninS neva581_t nin0))
  have f609 := f591.keep K599 (ninS ne565_t (ninS neva581_t nin0))
  have f610 := f592.keep K599 (ninS ne565_t (ninS neva581_t nin0))
  have f611 := f593.keep K599
  have f612 := f594.keep K599 (ninS ne565_a552 (ninS neva581_a552 nin0))
  have f613 := f595.keep K599 (ninS ne565_a552 (ninS neva581_a552 nin0))
  have f614 := f596.keep K599 (ninS ne565_b552 (ninS neva581_b552 nin0))
  have f615 := f597.keep K599
  have zs599 : s.heap.size ≤ h599.size := Nat.le_trans zs581 K599.1
  have V599 : AV Z h599 va581 .byte [.int y0, .int y1, .int 0, .int 0, .int 0, .int 0, .int 0, .int 0, .int 0, .int 0, .int 0, .int 0, .int 0, .int 0, .int 0, .int 0] := VV599
  show Go p e below s n0 _ _ _ (T599.setTop (mkF m 95 _ [(.ref a565)]))
  refine g_ldcA X599 hx hZ hown (wat hw 55 rfl) (a := a552) (List.mem_of_getElem? (i := 0) rfl) (pc' := 97) rfl (hD hby d9_95) ?_
  refine g_callV X599 hx hZ hown (wat hw 112 rfl) (wat hw 113 rfl) (wat hw 115 rfl) (wat hw 114 rfl) (wat hw 96 rfl) (wat hw 116 rfl) (by decide) (a := a565) f615 (rm19 l Z a0 hw [] s.heap.size (":" :: Ts) a565 va581 a552 b552 [.int y0, .int y1, .int 0, .int 0, .int 0, .int 0, .int 0, .int 0, .int 0, .int 0, .int 0, .int 0, .int 0, .int 0, .int 0, .int 0] [.int 58] 2 (2 : Int32) (1 : Int32) (3 : Int32) cz h599 zs599 O2 hcz f601 f615 G_a565 FV599 FC599 FN599 V599 Gva581 f611 f613 f612 f614 neva581_b552 rfl rfl (show (3 : Nat) ≤ 16 by decide) rfl (by decide) rfl) pd_32 rfl rfl (pc' := 100) rfl (hD hby d9_97) (argsL := [(.ref a552)]) (rest := []) rfl (W := 0) (fun v617 T617 h617 X617 hQ617 => ?_)
  obtain ⟨rfl, K617, VV617, FV617, FC617, FN617⟩ := hQ617
  have f618 := f600.trans K617 (allS (Or.inr sz565) (allS (Or.inr szva581) all0))
  have f619 := f601.keep K617 (allS G_a565 (allS Gva581 all0))
  have f620 := f602.keep K617
  have f621 := f603.keep K617
  have f622 := f604.keep K617 (ninS ne565_ho (ninS neva581_ho nin0))
  have f623 := f605.keep K617 (ninS ne565_ho (ninS neva581_ho nin0))
  have f624 := f606.keep K617 (ninS ne565_hb (ninS neva581_hb nin0))
  have f625 := f607.keep K617 (ninS ne565_t (ninS neva581_t nin0))
  have f626 := f608.keep K617 (ninS ne565_t (ninS neva581_t nin0))
  have f627 := f609.keep K617 (ninS ne565_t (ninS neva581_t nin0))
  have f628 := f610.keep K617 (ninS ne565_t (ninS neva581_t nin0))
  have f629 := f611.keep K617
  have f630 := f612.keep K617 (ninS ne565_a552 (ninS neva581_a552 nin0))
  have f631 := f613.keep K617 (ninS ne565_a552 (ninS neva581_a552 nin0))
  have f632 := f614.keep K617 (ninS ne565_b552 (ninS neva581_b552 nin0))
  have f633 := f615.keep K617
  have zs617 : s.heap.size ≤ h617.size := Nat.le_trans zs599 K617.1
  have V617 : AV Z h617 va581 .byte [.int y0, .int y1, .int 58, .int 0, .int 0, .int 0, .int 0, .int 0, .int 0, .int 0, .int 0, .int 0, .int 0, .int 0, .int 0, .int 0] := VV617
  show Go p e below s n0 _ _ _ (T617.setTop (mkF m 100 _ [(.ref a565)]))
  refine g_aloadN X617 hx (pc' := 101) rfl (hD hby d9_100) rfl rfl ?_
  refine g_getF X617 hx hZ hown (wat hw 44 rfl) Via.refl f626 (pc' := 104) rfl (hD hby d9_101) (fun T634 X634 => ?_)
  refine g_callV X634 hx hZ hown (wat hw 154 rfl) (wat hw 155 rfl) (wat hw 157 rfl) (wat hw 156 rfl) (wat hw 96 rfl) (wat hw 158 rfl) (by decide) (a := a565) f633 (rm26 l Z a0 hw [] s.heap.size (":" :: Ts) p' a565 va581 dO dT [.int y0, .int y1, .int 58, .int 0, .int 0, .int 0, .int 0, .int 0, .int 0, .int 0, .int 0, .int 0, .int 0, .int 0, .int 0, .int 0] 3 (3 : Int32) (4 : Int32) (5 : Int32) (6 : Int32) (7 : Int32) (8 : Int32) cz h617 zs617 O2 hcz f619 hp0 hp1 S1 A1 S2 A2 f633 G_a565 FV617 FC617 FN617 V617 Gva581 rfl rfl (by decide) (by decide) rfl (by decide) (by decide) rfl (by decide) (by decide) rfl (by decide) (by decide) rfl (by decide) (by decide) (by decide) rfl) pd_33 rfl rfl (pc' := 107) rfl (hD hby d9_104) (argsL := [(.int p')]) (rest := []) rfl (W := 0) (fun v635 T635 h635 X635 hQ635 => ?_)
  obtain ⟨rfl, K635, ds, md, hDg, hmd, V635, FV635, FC635, FN635⟩ := hQ635
  have f636 := f618.trans K635 (allS (Or.inr sz565) (allS (Or.inr szva581) all0))
  have f637 := f619.keep K635 (allS G_a565 (allS Gva581 all0))
  have f638 := f620.keep K635
  have f639 := f621.keep K635
  have f640 := f622.keep K635 (ninS ne565_ho (ninS neva581_ho nin0))
  have f641 := f623.keep K635 (ninS ne565_ho (ninS neva581_ho nin0))
  have f642 := f624.keep K635 (ninS ne565_hb (ninS neva581_hb nin0))
  have f643 := f625.keep K635 (ninS ne565_t (ninS neva581_t nin0))
  have f644 := f626.keep K635 (ninS ne565_t (ninS neva581_t nin0))
  have f645 := f627.keep K635 (ninS ne565_t (ninS neva581_t nin0))
  have f646 := f628.keep K635 (ninS ne565_t (ninS neva581_t nin0))
  have f647 := f629.keep K635
  have f648 := f630.keep K635 (ninS ne565_a552 (ninS neva581_a552 nin0))
  have f649 := f631.keep K635 (ninS ne565_a552 (ninS neva581_a552 nin0))
  have f650 := f632.keep K635 (ninS ne565_b552 (ninS neva581_b552 nin0))
  have f651 := f633.keep K635
  have zs635 : s.heap.size ≤ h635.size := Nat.le_trans zs617 K635.1
  show Go p e below s n0 _ _ _ (T635.setTop (mkF m 107 _ [(.ref a565)]))
  refine g_callV X635 hx hZ hown (wat hw 176 rfl) (wat hw 177 rfl) (wat hw 179 rfl) (wat hw 178 rfl) (wat hw 96 rfl) (wat hw 180 rfl) (by decide) (a := a565) f651 (rm31 l Z a0 hw [] s.heap.size (":" :: Ts) a565 va581 (List.take 3 [.int y0, .int y1, .int 58, .int 0, .int 0, .int 0, .int 0, .int 0, .int 0, .int 0, .int 0, .int 0, .int 0, .int 0, .int 0, .int 0] ++ ds.map Value.int ++ List.drop (3 + ds.length) [.int y0, .int y1, .int 58, .int 0, .int 0, .int 0, .int 0, .int 0, .int 0, .int 0, .int 0, .int 0, .int 0, .int 0, .int 0, .int 0]) (3 + ds.length) md cz h635 zs635 O2 hcz f637 f651 FV635 FC635 FN635 V635 hmd (by have := hDg.len; omega) (by have := hDg.len; simp; omega)) pd_8 rfl rfl (pc' := 110) rfl (hD hby d9_107) (argsL := []) (rest := []) rfl (W := 0) (fun v652 T652 h652 X652 hQ652 => ?_)
  obtain ⟨t652, tb652, rfl, Gt652, S652, Gtb652, SB652, K652, E652, FV652, FC652, VV652⟩ := hQ652
  have net652_t : t ≠ t652 := Nat.ne_of_lt (Nat.lt_of_lt_of_le f638.lt S652)
  have net652_ho : ho ≠ t652 := Nat.ne_of_lt (Nat.lt_of_lt_of_le f639.lt S652)
  have net652_hb : hb ≠ t652 := Nat.ne_of_lt (Nat.lt_of_lt_of_le f642.lt S652)
  have net652_a552 : a552 ≠ t652 := Nat.ne_of_lt (Nat.lt_of_lt_of_le f647.lt S652)
  have net652_b552 : b552 ≠ t652 := Nat.ne_of_lt (Nat.lt_of_lt_of_le f650.lt S652)
  have net652_a565 : a565 ≠ t652 := Nat.ne_of_lt (Nat.lt_of_lt_of_le f651.lt S652)
  have net652_va581 : va581 ≠ t652 := Nat.ne_of_lt (Nat.lt_of_lt_of_le V635.lt S652)
  have szt652 : h0.size ≤ t652 := Nat.le_trans f636.1 S652
  have netb652_t : t ≠ tb652 := Nat.ne_of_lt (Nat.lt_of_lt_of_le f638.lt SB652)
  have netb652_ho : ho ≠ tb652 := Nat.ne_of_lt (Nat.lt_of_lt_of_le f639.lt SB652)
  have netb652_hb : hb ≠ tb652 := Nat.ne_of_lt (Nat.lt_of_lt_of_le f642.lt SB652)
  have netb652_a552 : a552 ≠ tb652 := Nat.ne_of_lt (Nat.lt_of_lt_of_le f647.lt SB652)
  have netb652_b552 : b552 ≠ tb652 := Nat.ne_of_lt (Nat.lt_of_lt_of_le f650.lt SB652)
  have netb652_a565 : a565 ≠ tb652 := Nat.ne_of_lt (Nat.lt_of_lt_of_le f651.lt SB652)
  have netb652_va581 : va581 ≠ tb652 := Nat.ne_of_lt (Nat.lt_of_lt_of_le V635.lt SB652)
  have sztb652 : h0.size ≤ tb652 := Nat.le_trans f636.1 SB652
  have f653 := f636.trans K652 all0
  have f654 := f637.keep K652 all0
  have f655 := f638.keep K652
  have f656 := f639.keep K652
  have f657 := f640.keep K652 nin0
  have f658 := f641.keep K652 nin0
  have f659 := f642.keep K652 nin0
  have f660 := f643.keep K652 nin0
  have f661 := f644.keep K652 nin0
  have f662 := f645.keep K652 nin0
  have f663 := f646.keep K652 nin0
  have f664 := f647.keep K652
  have f665 := f648.keep K652 nin0
  have f666 := f649.keep K652 nin0
  have f667 := f650.keep K652 nin0
  have f668 := f651.keep K652
  have f669 := V635.keep K652 nin0
  have f670 := FV635.keep K652 nin0
  have f671 := FC635.keep K652 nin0
  have f672 := FN635.keep K652 nin0
  have zs652 : s.heap.size ≤ h652.size := Nat.le_trans zs635 K652.1
  rw [own_tk (by simp)] at VV652
  have V652 : AV Z h652 tb652 .byte ([.int y0, .int y1, .int 58] ++ ds.map Value.int) := VV652
  show Go p e below s n0 _ _ _ (T652.setTop (mkF m 110 _ [(.ref t652)]))
  refine g_astoreN X652 hx (pc' := 111) rfl (hD hby d9_110) rfl (l' := #[.val (.ref t), .val (.int 0), .val (.ref t652)]) rfl ?_
  refine g_aloadN X652 hx (pc' := 112) rfl (hD hby d9_111) rfl rfl ?_
  refine g_getF X652 hx hZ hown (wat hw 48 rfl) Via.refl f663 (pc' := 115) rfl (hD hby d9_112) (fun T673 X673 => ?_)
  refine g_ifnullY X673 hx (pcY := 152) (hD hby d9_115) (by decide) (by decide) ?_
  refine g_aloadN X673 hx (pc' := 153) rfl (hD hby d9_152) rfl rfl ?_
  replace X673 := X673.more (Ts' := "]" :: "[" :: ":" :: Ts) (by simp +contextual)
  exact g_ret X673 hx hlk hret rfl (Or.inr (Or.inr (Or.inr (Or.inr ⟨rfl, rfl, rfl⟩)))) (hD hby d9_153) (by decide) (by decide) hlow (⟨t652, tb652, rfl, Nat.le_trans hlow Gt652, szt652, Nat.le_trans hlow Gtb652, sztb652, f653, E652, FV652, FC652, ds, hDg, V652⟩)
theorem rm9_s (l : Launch) (Z : State) (a0 : Array Value) (hw : HW a0 Z) (ws : List Jvm.Cond) (n0 : Nat) (Ts : List String) (t ho hb dO dT : Addr) (y0 y1 p' cz : Int32) (h0 : Heap) (hn0 : n0 ≤ h0.size) (hcw : Jvm.Lit.compactW.before a0 Z = true) (hkc : ∀ q ∈ consts_1, Jvm.Lit.constHeld Z q.1 q.2) (O2 : St0 Z (.int cz)) (hcz : ¬ cz = 0) (OLD : OldP Z n0 h0) (hT1 : ":" ∉ Ts) (hT2 : "[" ∉ Ts) (hT3 : "]" ∉ Ts) (S1 : St1 Z (.ref dO)) (A1 : AV Z Z.heap dO .byte DOL) (S2 : St2 Z (.ref dT)) (A2 : AV Z Z.heap dT .byte DTL) (hp0 : 0 ≤ p'.toInt) (hp1 : p'.toInt < 65536) (q0 : y0 = (58 : Int32) ∨ y1 = (58 : Int32)) (q2 : y0 = (91 : Int32)) (Et : Exa Z h0 t "com/example/lanternwood/lanternwood/ReplAddress") (F_host : Fld Z h0 t "com/example/lanternwood/lanternwood/ReplAddress" "host" "Ljava/lang/String;" (.ref ho)) (F_port : Fld Z h0 t "com/example/lanternwood/lanternwood/ReplAddress" "port" "I" (.int p')) (F_socket : Fld Z h0 t "com/example/lanternwood/lanternwood/ReplAddress" "socket" "Ljava/nio/file/Path;" .null) (F_portFile : Fld Z h0 t "com/example/lanternwood/lanternwood/ReplAddress" "portFile" "Ljava/nio/file/Path;" .null) (Eho : XSt Z h0 ho) (Fvho : SV Z h0 ho (.ref hb)) (Fcho : SC Z h0 ho (.int 0)) (Abho : AV Z h0 hb .byte [.int y0, .int y1]) :
    Con l Z n0 Ts ("]" :: "[" :: ":" :: Ts) (⟨"com/example/lanternwood/lanternwood/ReplAddress", "toString", "()Ljava/lang/String;"⟩ : MethodName) prog_17_method_12_code 3 (some (.object "java/lang/String")) ws ({ frames := 7, cells := 16, slots := 120, locals := 170 } : Room) #[(.ref t)] h0 (fun v h => ∃ t tb, v = some (.ref t) ∧ n0 ≤ t ∧ h0.size ≤ t ∧ n0 ≤ tb ∧ h0.size ≤ tb ∧ Keep h0 h [] ∧ XSt Z h t ∧ SV Z h t (.ref tb) ∧ SC Z h t (.int 0) ∧ ∃ ds, Dg p'.toInt ds ∧ AV Z h tb .byte ([.int y0, .int y1, .int 58] ++ ds.map Value.int)) := by
  refine con_start (fr0 := fun m => mkF m 0 #[.val (.ref t), .unset, .unset] []) ?_
  intro p e s m below meth c T0 hx hZ hby hml hown hnm hret hlk hsh XA
  have X0 := XA s.heap.size
  have hlow : n0 ≤ s.heap.size := by rw [hsh]; exact hn0
  replace hown : s.vm.findClass "com/example/lanternwood/lanternwood/ReplAddress" = some m.cls := hown
  replace hml : c.maxLocals = 3 := hml
  have OLD1 := OLD.up hlow
  refine g_aloadN X0 hx (pc' := 1) rfl (hD hby d9_0) rfl rfl ?_
  refine g_getF X0 hx hZ hown (wat hw 46 rfl) Via.refl F_socket (pc' := 4) rfl (hD hby d9_1) (fun T674 X674 => ?_)
  refine g_ifnullY X674 hx (pcY := 17) (hD hby d9_4) (by decide) (by decide) ?_
  refine g_aloadN X674 hx (pc' := 18) rfl (hD hby d9_17) rfl rfl ?_
  refine g_getF X674 hx hZ hown (wat hw 42 rfl) Via.refl F_host (pc' := 21) rfl (hD hby d9_18) (fun T675 X675 => ?_)
  refine g_ldcS X675 hx hZ hown (wat hw 55 rfl) (own_wS hw) (fun b cl q => by rw [hsh]; exact OLD.2.2 b cl q) hT1 (hkc ("com/example/lanternwood/lanternwood/ReplAddress", 220) (by simp [consts_1])) hcw (vs := [.int 58]) ⟨by decide, rfl⟩ (by decide) (pc' := 23) rfl (hD hby d9_21) (n := 4) (by decide) (by decide) (by decide) (by decide) (fun T676 h676 a676 b676 XX676 E676 EX676 FC676 FV676 AB676 WH676 => ?_)
  have X676 := XX676
  have f677 := Et.ext E676
  have f678 := Eho.ext E676
  have f679 := Fvho.ext E676
  have f680 := Fcho.ext E676
  have f681 := Abho.ext E676
  have f682 := F_host.ext E676
  have f683 := F_port.ext E676
  have f684 := F_socket.ext E676
  have f685 := F_portFile.ext E676
  have f686 := (Keep.refl h0 []).ext E676
  have Zs676 : s.heap.size ≤ h676.size := Nat.le_trans (Nat.le_of_eq (congrArg Array.size hsh)) E676.1
  have f687 := OLD1.ext E676
  show Go p e below s n0 _ _ _ (T676.setTop (mkF m 23 _ [(.ref a676), (.ref ho)]))
  refine g_callV X676 hx hZ hown (wat hw 58 rfl) (wat hw 59 rfl) (wat hw 61 rfl) (wat hw 60 rfl) (wat hw 4 rfl) (wat hw 62 rfl) (by decide) (a := ho) f678 (rm10_y l Z a0 hw [] s.heap.size (":" :: Ts) ho hb a676 b676 y0 y1 cz h676 Zs676 O2 hcz f687 q0 f678 f679 f680 f681 EX676 FV676 FC676 AB676) pd_30 rfl rfl (pc' := 26) rfl (hD hby d9_23) (argsL := [(.ref a676)]) (rest := []) rfl (W := 0) (fun v688 T688 h688 X688 hQ688 => ?_)
  obtain ⟨rfl, he688⟩ := hQ688
  rw [he688] at X688
  show Go p e below s n0 _ _ _ (T688.setTop (mkF m 26 _ [(.int 1)]))
  refine g_ifN X688 hx (pcN := 29) (hD hby d9_26) rfl (show ¬ ((1 : Int32) = 0) from by decide) ?_
  refine g_aloadN X688 hx (pc' := 30) rfl (hD hby d9_29) rfl rfl ?_
  refine g_getF X688 hx hZ hown (wat hw 42 rfl) Via.refl f682 (pc' := 33) rfl (hD hby d9_30) (fun T689 X689 => ?_)
  refine g_ldcS X689 hx hZ hown (wat hw 239 rfl) (own_wS hw) (fun b cl q => by rw [hsh]; exact OLD.2.2 b cl q) (own_nm1 (by decide) hT2) (hkc ("com/example/lanternwood/lanternwood/ReplAddress", 226) (by simp [consts_1])) hcw (vs := [.int 91]) ⟨by decide, rfl⟩ (by decide) (pc' := 35) rfl (hD hby d9_33) (n := 4) (by decide) (by decide) (by decide) (by decide) (fun T690 h690 a690 b690 XX690 E690 EX690 FC690 FV690 AB690 WH690 => ?_)
  have X690 := XX690
  have f691 := f677.ext E690
  have f692 := f678.ext E690
  have f693 := f679.ext E690
  have f694 := f680.ext E690
  have f695 := f681.ext E690
  have f696 := f682.ext E690
  have f697 := f683.ext E690
  have f698 := f684.ext E690
  have f699 := f685.ext E690
  have f700 := EX676.ext E690
  have f701 := FC676.ext E690
  have f702 := FV676.ext E690
  have f703 := AB676.ext E690
  have f704 := f686.ext E690
  have Zs690 : s.heap.size ≤ h690.size := Nat.le_trans Zs676 E690.1
  have f705 := f687.ext E690
  show Go p e below s n0 _ _ _ (T690.setTop (mkF m 35 _ [(.ref a690), (.ref ho)]))
  refine g_callV X690 hx hZ hown (wat hw 240 rfl) (wat hw 241 rfl) (wat hw 243 rfl) (wat hw 242 rfl) (wat hw 4 rfl) (wat hw 244 rfl) (by decide) (a := ho) f692 (rm46_y l Z a0 hw [] s.heap.size ("[" :: ":" :: Ts) ho hb a690 b690 y0 y1 cz h690 Zs690 O2 hcz f705 q2 f692 f693 f694 f695 EX690 FV690 FC690 AB690) pd_34 rfl rfl (pc' := 38) rfl (hD hby d9_35) (argsL := [(.ref a690)]) (rest := []) rfl (W := 0) (fun v706 T706 h706 X706 hQ706 => ?_)
  obtain ⟨rfl, he706⟩ := hQ706
  rw [he706] at X706
  show Go p e below s n0 _ _ _ (T706.setTop (mkF m 38 _ [(.int 1)]))
  refine g_ifY X706 hx (pcY := 45) (hD hby d9_38) (by decide) (by decide) (show ¬ (1 : Int32) = 0 from by decide) ?_
  refine g_iconst X706 hx (pc' := 46) (z := (0 : Int32)) rfl (hD hby d9_45) rfl ?_
  refine g_istoreN X706 hx (pc' := 47) rfl (hD hby d9_46) (l' := #[.val (.ref t), .val (.int 0), .unset]) rfl ?_
  refine g_newO X706 hx hZ hown (wat hw 94 rfl) (wat hw 95 rfl) (wat hw 96 rfl) (pc' := 50) rfl (hD hby d9_47) (by decide) (by decide) (fun T707 h707 a707 ha707 X707 E707 A707 D707 => ?_)
  have ne707_t : t ≠ a707 := by rw [ha707]; exact Nat.ne_of_lt f691.lt
  have ne707_ho : ho ≠ a707 := by rw [ha707]; exact Nat.ne_of_lt f692.lt
  have ne707_hb : hb ≠ a707 := by rw [ha707]; exact Nat.ne_of_lt f695.lt
  have ne707_a676 : a676 ≠ a707 := by rw [ha707]; exact Nat.ne_of_lt f700.lt
  have ne707_b676 : b676 ≠ a707 := by rw [ha707]; exact Nat.ne_of_lt f703.lt
  have ne707_a690 : a690 ≠ a707 := by rw [ha707]; exact Nat.ne_of_lt EX690.lt
  have ne707_b690 : b690 ≠ a707 := by rw [ha707]; exact Nat.ne_of_lt AB690.lt
  have f708 := f691.ext E707
  have f709 := f692.ext E707
  have f710 := f693.ext E707
  have f711 := f694.ext E707
  have f712 := f695.ext E707
  have f713 := f696.ext E707
  have f714 := f697.ext E707
  have f715 := f698.ext E707
  have f716 := f699.ext E707
  have f717 := f700.ext E707
  have f718 := f701.ext E707
  have f719 := f702.ext E707
  have f720 := f703.ext E707
  have f721 := EX690.ext E707
  have f722 := FC690.ext E707
  have f723 := FV690.ext E707
  have f724 := AB690.ext E707
  have sz707 : h0.size ≤ a707 := by rw [ha707]; exact f704.1
  have f725 := f704.ext E707
  have G_a707 : s.heap.size ≤ a707 := by rw [ha707]; exact Zs690
  have Zs707 : s.heap.size ≤ h707.size := Nat.le_trans Zs690 E707.1
  have f726 := f705.ext E707
  have F707_value : BV Z h707 a707 .null := D707 (Or.inl (wat hw 109 rfl)) (ty := (.array .byte)) (by decide)
  have F707_coder : BC Z h707 a707 (.int 0) := D707 (Or.inl (wat hw 111 rfl)) (ty := .byte) (by decide)
  have F707_count : BN Z h707 a707 (.int 0) := D707 (Or.inl (wat hw 128 rfl)) (ty := .int) (by decide)
  refine g_dup X707 hx (pc' := 51) rfl (hD hby d9_50) rfl ?_
  refine g_callI X707 hx hZ hown rfl (wat hw 97 rfl) (wat hw 98 rfl) (wat hw 96 rfl) (wat hw 99 rfl) (by decide) (a := a707) (rm17 l Z a0 hw [] s.heap.size ("[" :: ":" :: Ts) a707 cz h707 Zs707 O2 hcz f726 A707 G_a707 F707_value F707_coder F707_count) pd_31 rfl rfl (pc' := 54) rfl (hD hby d9_51) (argsL := []) (rest := [(.ref a707)]) rfl (W := 1) (fun v727 T727 h727 X727 hQ727 => ?_)
  obtain ⟨rfl, K727, va727, Gva727, S727, V727, FV727, FC727, FN727⟩ := hQ727
  have neva727_t : t ≠ va727 := Nat.ne_of_lt (Nat.lt_of_lt_of_le f708.lt S727)
  have neva727_ho : ho ≠ va727 := Nat.ne_of_lt (Nat.lt_of_lt_of_le f709.lt S727)
  have neva727_hb : hb ≠ va727 := Nat.ne_of_lt (Nat.lt_of_lt_of_le f712.lt S727)
  have neva727_a676 : a676 ≠ va727 := Nat.ne_of_lt (Nat.lt_of_lt_of_le f717.lt S727)
  have neva727_b676 : b676 ≠ va727 := Nat.ne_of_lt (Nat.lt_of_lt_of_le f720.lt S727)
  have neva727_a690 : a690 ≠ va727 := Nat.ne_of_lt (Nat.lt_of_lt_of_le f721.lt S727)
  have neva727_b690 : b690 ≠ va727 := Nat.ne_of_lt (Nat.lt_of_lt_of_le f724.lt S727)
  have neva727_a707 : a707 ≠ va727 := Nat.ne_of_lt (Nat.lt_of_lt_of_le A707.lt S727)
  have szva727 : h0.size ≤ va727 := Nat.le_trans f725.1 S727
  have f728 := f725.trans K727 (allS (Or.inr sz707) all0)
  have f729 := f726.keep K727 (allS G_a707 all0)
  have f730 := f708.keep K727
  have f731 := f709.keep K727
  have f732 := f710.keep K727 (ninS ne707_ho nin0)
  have f733 := f711.keep K727 (ninS ne707_ho nin0)
  have f734 := f712.keep K727 (ninS ne707_hb nin0)
  have f735 := f713.keep K727 (ninS ne707_t nin0)
  have f736 := f714.keep K727 (ninS ne707_t nin0)
  have f737 := f715.keep K727 (ninS ne707_t nin0)
  have f738 := f716.keep K727 (ninS ne707_t nin0)
  have f739 := f717.keep K727
  have f740 := f718.keep K727 (ninS ne707_a676 nin0)
  have f741 := f719.keep K727 (ninS ne707_a676 nin0)
  have f742 := f720.keep K727 (ninS ne707_b676 nin0)
  have f743 := f721.keep K727
  have f744 := f722.keep K727 (ninS ne707_a690 nin0)
  have f745 := f723.keep K727 (ninS ne707_a690 nin0)
  have f746 := f724.keep K727 (ninS ne707_b690 nin0)
  have f747 := A707.keep K727
  have zs727 : s.heap.size ≤ h727.size := Nat.le_trans Zs707 K727.1
  show Go p e below s n0 _ _ _ (T727.setTop (mkF m 54 _ [(.ref a707)]))
  refine g_iloadN X727 hx (pc' := 55) rfl (hD hby d9_54) rfl ?_
  refine g_ifY X727 hx (pcY := 88) (hD hby d9_55) (by decide) (by decide) (show (0 : Int32) = 0 from by decide) ?_
  refine g_aloadN X727 hx (pc' := 89) rfl (hD hby d9_88) rfl rfl ?_
  refine g_getF X727 hx hZ hown (wat hw 42 rfl) Via.refl f735 (pc' := 92) rfl (hD hby d9_89) (fun T748 X748 => ?_)
  refine g_callV X748 hx hZ hown (wat hw 112 rfl) (wat hw 113 rfl) (wat hw 115 rfl) (wat hw 114 rfl) (wat hw 96 rfl) (wat hw 116 rfl) (by decide) (a := a707) f747 (rm19 l Z a0 hw [] s.heap.size ("[" :: ":" :: Ts) a707 va727 ho hb [.int 0, .int 0, .int 0, .int 0, .int 0, .int 0, .int 0, .int 0, .int 0, .int 0, .int 0, .int 0, .int 0, .int 0, .int 0, .int 0] [.int y0, .int y1] 0 (0 : Int32) (2 : Int32) (2 : Int32) cz h727 zs727 O2 hcz f729 f747 G_a707 FV727 FC727 FN727 V727 Gva727 f731 f732 f733 f734 neva727_hb rfl rfl (show (2 : Nat) ≤ 16 by decide) rfl (by decide) rfl) pd_32 rfl rfl (pc' := 95) rfl (hD hby d9_92) (argsL := [(.ref ho)]) (rest := []) rfl (W := 0) (fun v749 T749 h749 X749 hQ749 => ?_)
  obtain ⟨rfl, K749, VV749, FV749, FC749, FN749⟩ := hQ749
  have f750 := f728.trans K749 (allS (Or.inr sz707) (allS (Or.inr szva727) all0))
  have f751 := f729.keep K749 (allS G_a707 (allS Gva727 all0))
  have f752 := f730.keep K749
  have f753 := f731.keep K749
  have f754 := f732.keep K749 (ninS ne707_ho (ninS neva727_ho nin0))
  have f755 := f733.keep K749 (ninS ne707_ho (ninS neva727_ho nin0))
  have f756 := f734.keep K749 (ninS ne707_hb (ninS neva727_hb nin0))
  have f757 := f735.keep K749 (ninS ne707_t (ninS neva727_t nin0))
  have f758 := f736.keep K749 (ninS ne707_t (ninS neva727_t nin0))
  have f759 := f737.keep K749 (ninS ne707_t (ninS neva727_t nin0))
  have f760 := f738.keep K749 (ninS ne707_t (ninS neva727_t nin0))
  have f761 := f739.keep K749
  have f762 := f740.keep K749 (ninS ne707_a676 (ninS neva727_a676 nin0))
  have f763 := f741.keep K749 (ninS ne707_a676 (ninS neva727_a676 nin0))
  have f764 := f742.keep K749 (ninS ne707_b676 (ninS neva727_b676 nin0))
  have f765 := f743.keep K749
  have f766 := f744.keep K749 (ninS ne707_a690 (ninS neva727_a690 nin0))
  have f767 := f745.keep K749 (ninS ne707_a690 (ninS neva727_a690 nin0))
  have f768 := f746.keep K749 (ninS ne707_b690 (ninS neva727_b690 nin0))
  have f769 := f747.keep K749
  have zs749 : s.heap.size ≤ h749.size := Nat.le_trans zs727 K749.1
  have V749 : AV Z h749 va727 .byte [.int y0, .int y1, .int 0, .int 0, .int 0, .int 0, .int 0, .int 0, .int 0, .int 0, .int 0, .int 0, .int 0, .int 0, .int 0, .int 0] := VV749
  show Go p e below s n0 _ _ _ (T749.setTop (mkF m 95 _ [(.ref a707)]))
  refine g_ldcA X749 hx hZ hown (wat hw 55 rfl) (a := a676) (List.mem_of_getElem? (i := 1) rfl) (pc' := 97) rfl (hD hby d9_95) ?_
  refine g_callV X749 hx hZ hown (wat hw 112 rfl) (wat hw 113 rfl) (wat hw 115 rfl) (wat hw 114 rfl) (wat hw 96 rfl) (wat hw 116 rfl) (by decide) (a := a707) f769 (rm19 l Z a0 hw [] s.heap.size ("[" :: ":" :: Ts) a707 va727 a676 b676 [.int y0, .int y1, .int 0, .int 0, .int 0, .int 0, .int 0, .int 0, .int 0, .int 0, .int 0, .int 0, .int 0, .int 0, .int 0, .int 0] [.int 58] 2 (2 : Int32) (1 : Int32) (3 : Int32) cz h749 zs749 O2 hcz f751 f769 G_a707 FV749 FC749 FN749 V749 Gva727 f761 f763 f762 f764 neva727_b676 rfl rfl (show (3 : Nat) ≤ 16 by decide) rfl (by decide) rfl) pd_32 rfl rfl (pc' := 100) rfl (hD hby d9_97) (argsL := [(.ref a676)]) (rest := []) rfl (W := 0) (fun v771 T771 h771 X771 hQ771 => ?_)
  obtain ⟨rfl, K771, VV771, FV771, FC771, FN771⟩ := hQ771
  have f772 := f750.trans K771 (allS (Or.inr sz707) (allS (Or.inr szva727) all0))
  have f773 := f751.keep K771 (allS G_a707 (allS Gva727 all0))
  have f774 := f752.keep K771
  have f775 := f753.keep K771
  have f776 := f754.keep K771 (ninS ne707_ho (ninS neva727_ho nin0))
  have f777 := f755.keep K771 (ninS ne707_ho (ninS neva727_ho nin0))
  have f778 := f756.keep K771 (ninS ne707_hb (ninS neva727_hb nin0))
  have f779 := f757.keep K771 (ninS ne707_t (ninS neva727_t nin0))
  have f780 := f758.keep K771 (ninS ne707_t (ninS neva727_t nin0))
  have f781 := f759.keep K771 (ninS ne707_t (ninS neva727_t nin0))
  have f782 := f760.keep K771 (ninS ne707_t (ninS neva727_t nin0))
  have f783 := f761.keep K771
  have f784 := f762.keep K771 (ninS ne707_a676 (ninS neva727_a676 nin0))
  have f785 := f763.keep K771 (ninS ne707_a676 (ninS neva727_a676 nin0))
  have f786 := f764.keep K771 (ninS ne707_b676 (ninS neva727_b676 nin0))
  have f787 := f765.keep K771
  have f788 := f766.keep K771 (ninS ne707_a690 (ninS neva727_a690 nin0))
  have f789 := f767.keep K771 (ninS ne707_a690 (ninS neva727_a690 nin0))
  have f790 := f768.keep K771 (ninS ne707_b690 (ninS neva727_b690 nin0))
  have f791 := f769.keep K771
  have zs771 : s.heap.size ≤ h771.size := Nat.le_trans zs749 K771.1
  have V771 : AV Z h771 va727 .byte [.int y0, .int y1, .int 58, .int 0, .int 0, .int 0, .int 0, .int 0, .int 0, .int 0, .int 0, .int 0, .int 0, .int 0, .int 0, .int 0] := VV771
  show Go p e below s n0 _ _ _ (T771.setTop (mkF m 100 _ [(.ref a707)]))
  refine g_aloadN X771 hx (pc' := 101) rfl (hD hby d9_100) rfl rfl ?_
  refine g_getF X771 hx hZ hown (wat hw 44 rfl) Via.refl f780 (pc' := 104) rfl (hD hby d9_101) (fun T792 X792 => ?_)
  refine g_callV X792 hx hZ hown (wat hw 154 rfl) (wat hw 155 rfl) (wat hw 157 rfl) (wat hw 156 rfl) (wat hw 96 rfl) (wat hw 158 rfl) (by decide) (a := a707) f791 (rm26 l Z a0 hw [] s.heap.size ("[" :: ":" :: Ts) p' a707 va727 dO dT [.int y0, .int y1, .int 58, .int 0, .int 0, .int 0, .int 0, .int 0, .int 0, .int 0, .int 0, .int 0, .int 0, .int 0, .int 0, .int 0] 3 (3 : Int32) (4 : Int32) (5 : Int32) (6 : Int32) (7 : Int32) (8 : Int32) cz h771 zs771 O2 hcz f773 hp0 hp1 S1 A1 S2 A2 f791 G_a707 FV771 FC771 FN771 V771 Gva727 rfl rfl (by decide) (by decide) rfl (by decide) (by decide) rfl (by decide) (by decide) rfl (by decide) (by decide) rfl (by decide) (by decide) (by decide) rfl) pd_33 rfl rfl (pc' := 107) rfl (hD hby d9_104) (argsL := [(.int p')]) (rest := []) rfl (W := 0) (fun v793 T793 h793 X793 hQ793 => ?_)
  obtain ⟨rfl, K793, ds, md, hDg, hmd, V793, FV793, FC793, FN793⟩ := hQ793
  have f794 := f772.trans K793 (allS (Or.inr sz707) (allS (Or.inr szva727) all0))
  have f795 := f773.keep K793 (allS G_a707 (allS Gva727 all0))
  have f796 := f774.keep K793
  have f797 := f775.keep K793
  have f798 := f776.keep K793 (ninS ne707_ho (ninS neva727_ho nin0))
  have f799 := f777.keep K793 (ninS ne707_ho (ninS neva727_ho nin0))
  have f800 := f778.keep K793 (ninS ne707_hb (ninS neva727_hb nin0))
  have f801 := f779.keep K793 (ninS ne707_t (ninS neva727_t nin0))
  have f802 := f780.keep K793 (ninS ne707_t (ninS neva727_t nin0))
  have f803 := f781.keep K793 (ninS ne707_t (ninS neva727_t nin0))
  have f804 := f782.keep K793 (ninS ne707_t (ninS neva727_t nin0))
  have f805 := f783.keep K793
  have f806 := f784.keep K793 (ninS ne707_a676 (ninS neva727_a676 nin0))
  have f807 := f785.keep K793 (ninS ne707_a676 (ninS neva727_a676 nin0))
  have f808 := f786.keep K793 (ninS ne707_b676 (ninS neva727_b676 nin0))
  have f809 := f787.keep K793
  have f810 := f788.keep K793 (ninS ne707_a690 (ninS neva727_a690 nin0))
  have f811 := f789.keep K793 (ninS ne707_a690 (ninS neva727_a690 nin0))
  have f812 := f790.keep K793 (ninS ne707_b690 (ninS neva727_b690 nin0))
  have f813 := f791.keep K793
  have zs793 : s.heap.size ≤ h793.size := Nat.le_trans zs771 K793.1
  show Go p e below s n0 _ _ _ (T793.setTop (mkF m 107 _ [(.ref a707)]))
  refine g_callV X793 hx hZ hown (wat hw 176 rfl) (wat hw 177 rfl) (wat hw 179 rfl) (wat hw 178 rfl) (wat hw 96 rfl) (wat hw 180 rfl) (by decide) (a := a707) f813 (rm31 l Z a0 hw [] s.heap.size ("[" :: ":" :: Ts) a707 va727 (List.take 3 [.int y0, .int y1, .int 58, .int 0, .int 0, .int 0, .int 0, .int 0, .int 0, .int 0, .int 0, .int 0, .int 0, .int 0, .int 0, .int 0] ++ ds.map Value.int ++ List.drop (3 + ds.length) [.int y0, .int y1, .int 58, .int 0, .int 0, .int 0, .int 0, .int 0, .int 0, .int 0, .int 0, .int 0, .int 0, .int 0, .int 0, .int 0]) (3 + ds.length) md cz h793 zs793 O2 hcz f795 f813 FV793 FC793 FN793 V793 hmd (by have := hDg.len; omega) (by have := hDg.len; simp; omega)) pd_8 rfl rfl (pc' := 110) rfl (hD hby d9_107) (argsL := []) (rest := []) rfl (W := 0) (fun v814 T814 h814 X814 hQ814 => ?_)
  obtain ⟨t814, tb814, rfl, Gt814, S814, Gtb814, SB814, K814, E814, FV814, FC814, VV814⟩ := hQ814
  have net814_t : t ≠ t814 := Nat.ne_of_lt (Nat.lt_of_lt_of_le f796.lt S814)
  have net814_ho : ho ≠ t814 := Nat.ne_of_lt (Nat.lt_of_lt_of_le f797.lt S814)
  have net814_hb : hb ≠ t814 := Nat.ne_of_lt (Nat.lt_of_lt_of_le f800.lt S814)
  have net814_a676 : a676 ≠ t814 := Nat.ne_of_lt (Nat.lt_of_lt_of_le f805.lt S814)
  have net814_b676 : b676 ≠ t814 := Nat.ne_of_lt (Nat.lt_of_lt_of_le f808.lt S814)
  have net814_a690 : a690 ≠ t814 := Nat.ne_of_lt (Nat.lt_of_lt_of_le f809.lt S814)
  have net814_b690 : b690 ≠ t814 := Nat.ne_of_lt (Nat.lt_of_lt_of_le f812.lt S814)
  have net814_a707 : a707 ≠ t814 := Nat.ne_of_lt (Nat.lt_of_lt_of_le f813.lt S814)
  have net814_va727 : va727 ≠ t814 := Nat.ne_of_lt (Nat.lt_of_lt_of_le V793.lt S814)
  have szt814 : h0.size ≤ t814 := Nat.le_trans f794.1 S814
  have netb814_t : t ≠ tb814 := Nat.ne_of_lt (Nat.lt_of_lt_of_le f796.lt SB814)
  have netb814_ho : ho ≠ tb814 := Nat.ne_of_lt (Nat.lt_of_lt_of_le f797.lt SB814)
  have netb814_hb : hb ≠ tb814 := Nat.ne_of_lt (Nat.lt_of_lt_of_le f800.lt SB814)
  have netb814_a676 : a676 ≠ tb814 := Nat.ne_of_lt (Nat.lt_of_lt_of_le f805.lt SB814)
  have netb814_b676 : b676 ≠ tb814 := Nat.ne_of_lt (Nat.lt_of_lt_of_le f808.lt SB814)
  have netb814_a690 : a690 ≠ tb814 := Nat.ne_of_lt (Nat.lt_of_lt_of_le f809.lt SB814)
  have netb814_b690 : b690 ≠ tb814 := Nat.ne_of_lt (Nat.lt_of_lt_of_le f812.lt SB814)
  have netb814_a707 : a707 ≠ tb814 := Nat.ne_of_lt (Nat.lt_of_lt_of_le f813.lt SB814)
  have netb814_va727 : va727 ≠ tb814 := Nat.ne_of_lt (Nat.lt_of_lt_of_le V793.lt SB814)
  have sztb814 : h0.size ≤ tb814 := Nat.le_trans f794.1 SB814
  have f815 := f794.trans K814 all0
  have f816 := f795.keep K814 all0
  have f817 := f796.keep K814
  have f818 := f797.keep K814
  have f819 := f798.keep K814 nin0
  have f820 := f799.keep K814 nin0
  have f821 := f800.keep K814 nin0
  have f822 := f801.keep K814 nin0
  have f823 := f802.keep K814 nin0
  have f824 := f803.keep K814 nin0
  have f825 := f804.keep K814 nin0
  have f826 := f805.keep K814
  have f827 := f806.keep K814 nin0
  have f828 := f807.keep K814 nin0
  have f829 := f808.keep K814 nin0
  have f830 := f809.keep K814
  have f831 := f810.keep K814 nin0
  have f832 := f811.keep K814 nin0
  have f833 := f812.keep K814 nin0
  have f834 := f813.keep K814
  have f835 := V793.keep K814 nin0
  have f836 := FV793.keep K814 nin0
  have f837 := FC793.keep K814 nin0
  have f838 := FN793.keep K814 nin0
  have zs814 : s.heap.size ≤ h814.size := Nat.le_trans zs793 K814.1
  rw [own_tk (by simp)] at VV814
  have V814 : AV Z h814 tb814 .byte ([.int y0, .int y1, .int 58] ++ ds.map Value.int) := VV814
  show Go p e below s n0 _ _ _ (T814.setTop (mkF m 110 _ [(.ref t814)]))
  refine g_astoreN X814 hx (pc' := 111) rfl (hD hby d9_110) rfl (l' := #[.val (.ref t), .val (.int 0), .val (.ref t814)]) rfl ?_
  refine g_aloadN X814 hx (pc' := 112) rfl (hD hby d9_111) rfl rfl ?_
  refine g_getF X814 hx hZ hown (wat hw 48 rfl) Via.refl f825 (pc' := 115) rfl (hD hby d9_112) (fun T839 X839 => ?_)
  refine g_ifnullY X839 hx (pcY := 152) (hD hby d9_115) (by decide) (by decide) ?_
  refine g_aloadN X839 hx (pc' := 153) rfl (hD hby d9_152) rfl rfl ?_
  replace X839 := X839.more (Ts' := "]" :: "[" :: ":" :: Ts) (by simp +contextual)
  exact g_ret X839 hx hlk hret rfl (Or.inr (Or.inr (Or.inr (Or.inr ⟨rfl, rfl, rfl⟩)))) (hD hby d9_153) (by decide) (by decide) hlow (⟨t814, tb814, rfl, Nat.le_trans hlow Gt814, szt814, Nat.le_trans hlow Gtb814, sztb814, f815, E814, FV814, FC814, ds, hDg, V814⟩)
theorem rm9_b (l : Launch) (Z : State) (a0 : Array Value) (hw : HW a0 Z) (ws : List Jvm.Cond) (n0 : Nat) (Ts : List String) (t ho hb dO dT : Addr) (y0 y1 p' cz : Int32) (h0 : Heap) (hn0 : n0 ≤ h0.size) (hcw : Jvm.Lit.compactW.before a0 Z = true) (hkc : ∀ q ∈ consts_1, Jvm.Lit.constHeld Z q.1 q.2) (O2 : St0 Z (.int cz)) (hcz : ¬ cz = 0) (OLD : OldP Z n0 h0) (hT1 : ":" ∉ Ts) (hT2 : "[" ∉ Ts) (hT3 : "]" ∉ Ts) (S1 : St1 Z (.ref dO)) (A1 : AV Z Z.heap dO .byte DOL) (S2 : St2 Z (.ref dT)) (A2 : AV Z Z.heap dT .byte DTL) (hp0 : 0 ≤ p'.toInt) (hp1 : p'.toInt < 65536) (q0 : y0 = (58 : Int32) ∨ y1 = (58 : Int32)) (q2 : ¬ y0 = (91 : Int32)) (Et : Exa Z h0 t "com/example/lanternwood/lanternwood/ReplAddress") (F_host : Fld Z h0 t "com/example/lanternwood/lanternwood/ReplAddress" "host" "Ljava/lang/String;" (.ref ho)) (F_port : Fld Z h0 t "com/example/lanternwood/lanternwood/ReplAddress" "port" "I" (.int p')) (F_socket : Fld Z h0 t "com/example/lanternwood/lanternwood/ReplAddress" "socket" "Ljava/nio/file/Path;" .null) (F_portFile : Fld Z h0 t "com/example/lanternwood/lanternwood/ReplAddress" "portFile" "Ljava/nio/file/Path;" .null) (Eho : XSt Z h0 ho) (Fvho : SV Z h0 ho (.ref hb)) (Fcho : SC Z h0 ho (.int 0)) (Abho : AV Z h0 hb .byte [.int y0, .int y1]) :
    Con l Z n0 Ts ("]" :: "[" :: ":" :: Ts) (⟨"com/example/lanternwood/lanternwood/ReplAddress", "toString", "()Ljava/lang/String;"⟩ : MethodName) prog_17_method_12_code 3 (some (.object "java/lang/String")) ws ({ frames := 7, cells := 16, slots := 120, locals := 170 } : Room) #[(.ref t)] h0 (fun v h => ∃ t tb, v = some (.ref t) ∧ n0 ≤ t ∧ h0.size ≤ t ∧ n0 ≤ tb ∧ h0.size ≤ tb ∧ Keep h0 h [] ∧ XSt Z h t ∧ SV Z h t (.ref tb) ∧ SC Z h t (.int 0) ∧ ∃ ds, Dg p'.toInt ds ∧ AV Z h tb .byte ([.int 91, .int y0, .int y1, .int 93, .int 58] ++ ds.map Value.int)) := by
  refine con_start (fr0 := fun m => mkF m 0 #[.val (.ref t), .unset, .unset] []) ?_
  intro p e s m below meth c T0 hx hZ hby hml hown hnm hret hlk hsh XA
  have X0 := XA s.heap.size
  have hlow : n0 ≤ s.heap.size := by rw [hsh]; exact hn0
  replace hown : s.vm.findClass "com/example/lanternwood/lanternwood/ReplAddress" = some m.cls := hown
  replace hml : c.maxLocals = 3 := hml
  have OLD1 := OLD.up hlow
  refine g_aloadN X0 hx (pc' := 1) rfl (hD hby d9_0) rfl rfl ?_
  refine g_getF X0 hx hZ hown (wat hw 46 rfl) Via.refl F_socket (pc' := 4) rfl (hD hby d9_1) (fun T840 X840 => ?_)
  refine g_ifnullY X840 hx (pcY := 17) (hD hby d9_4) (by decide) (by decide) ?_
  refine g_aloadN X840 hx (pc' := 18) rfl (hD hby d9_17) rfl rfl ?_
  refine g_getF X840 hx hZ hown (wat hw 42 rfl) Via.refl F_host (pc' := 21) rfl (hD hby d9_18) (fun T841 X841 => ?_)
  refine g_ldcS X841 hx hZ hown (wat hw 55 rfl) (own_wS hw) (fun b cl q => by rw [hsh]; exact OLD.2.2 b cl q) hT1 (hkc ("com/example/lanternwood/lanternwood/ReplAddress", 220) (by simp [consts_1])) hcw (vs := [.int 58]) ⟨by decide, rfl⟩ (by decide) (pc' := 23) rfl (hD hby d9_21) (n := 4) (by decide) (by decide) (by decide) (by decide) (fun T842 h842 a842 b842 XX842 E842 EX842 FC842 FV842 AB842 WH842 => ?_)
  have X842 := XX842
  have f843 := Et.ext E842
  have f844 := Eho.ext E842
  have f845 := Fvho.ext E842
  have f846 := Fcho.ext E842
  have f847 := Abho.ext E842
  have f848 := F_host.ext E842
  have f849 := F_port.ext E842
  have f850 := F_socket.ext E842
  have f851 := F_portFile.ext E842
  have f852 := (Keep.refl h0 []).ext E842
  have Zs842 : s.heap.size ≤ h842.size := Nat.le_trans (Nat.le_of_eq (congrArg Array.size hsh)) E842.1
  have f853 := OLD1.ext E842
  show Go p e below s n0 _ _ _ (T842.setTop (mkF m 23 _ [(.ref a842), (.ref ho)]))
  refine g_callV X842 hx hZ hown (wat hw 58 rfl) (wat hw 59 rfl) (wat hw 61 rfl) (wat hw 60 rfl) (wat hw 4 rfl) (wat hw 62 rfl) (by decide) (a := ho) f844 (rm10_y l Z a0 hw [] s.heap.size (":" :: Ts) ho hb a842 b842 y0 y1 cz h842 Zs842 O2 hcz f853 q0 f844 f845 f846 f847 EX842 FV842 FC842 AB842) pd_30 rfl rfl (pc' := 26) rfl (hD hby d9_23) (argsL := [(.ref a842)]) (rest := []) rfl (W := 0) (fun v854 T854 h854 X854 hQ854 => ?_)
  obtain ⟨rfl, he854⟩ := hQ854
  rw [he854] at X854
  show Go p e below s n0 _ _ _ (T854.setTop (mkF m 26 _ [(.int 1)]))
  refine g_ifN X854 hx (pcN := 29) (hD hby d9_26) rfl (show ¬ ((1 : Int32) = 0) from by decide) ?_
  refine g_aloadN X854 hx (pc' := 30) rfl (hD hby d9_29) rfl rfl ?_
  refine g_getF X854 hx hZ hown (wat hw 42 rfl) Via.refl f848 (pc' := 33) rfl (hD hby d9_30) (fun T855 X855 => ?_)
  refine g_ldcS X855 hx hZ hown (wat hw 239 rfl) (own_wS hw) (fun b cl q => by rw [hsh]; exact OLD.2.2 b cl q) (own_nm1 (by decide) hT2) (hkc ("com/example/lanternwood/lanternwood/ReplAddress", 226) (by simp [consts_1])) hcw (vs := [.int 91]) ⟨by decide, rfl⟩ (by decide) (pc' := 35) rfl (hD hby d9_33) (n := 4) (by decide) (by decide) (by decide) (by decide) (fun T856 h856 a856 b856 XX856 E856 EX856 FC856 FV856 AB856 WH856 => ?_)
  have X856 := XX856
  have f857 := f843.ext E856
  have f858 := f844.ext E856
  have f859 := f845.ext E856
  have f860 := f846.ext E856
  have f861 := f847.ext E856
  have f862 := f848.ext E856
  have f863 := f849.ext E856
  have f864 := f850.ext E856
  have f865 := f851.ext E856
  have f866 := EX842.ext E856
  have f867 := FC842.ext E856
  have f868 := FV842.ext E856
  have f869 := AB842.ext E856
  have f870 := f852.ext E856
  have Zs856 : s.heap.size ≤ h856.size := Nat.le_trans Zs842 E856.1
  have f871 := f853.ext E856
  show Go p e below s n0 _ _ _ (T856.setTop (mkF m 35 _ [(.ref a856), (.ref ho)]))
  refine g_callV X856 hx hZ hown (wat hw 240 rfl) (wat hw 241 rfl) (wat hw 243 rfl) (wat hw 242 rfl) (wat hw 4 rfl) (wat hw 244 rfl) (by decide) (a := ho) f858 (rm46_n l Z a0 hw [] s.heap.size ("[" :: ":" :: Ts) ho hb a856 b856 y0 y1 cz h856 Zs856 O2 hcz f871 q2 f858 f859 f860 f861 EX856 FV856 FC856 AB856) pd_34 rfl rfl (pc' := 38) rfl (hD hby d9_35) (argsL := [(.ref a856)]) (rest := []) rfl (W := 0) (fun v872 T872 h872 X872 hQ872 => ?_)
  obtain ⟨rfl, he872⟩ := hQ872
  rw [he872] at X872
  show Go p e below s n0 _ _ _ (T872.setTop (mkF m 38 _ [(.int 0)]))
  refine g_ifN X872 hx (pcN := 41) (hD hby d9_38) rfl (show ¬ (¬ (0 : Int32) = 0) from by decide) ?_
  refine g_iconst X872 hx (pc' := 42) (z := (1 : Int32)) rfl (hD hby d9_41) rfl ?_
  refine g_goto X872 hx (pc' := 46) (hD hby d9_42) (by decide) (by decide) ?_
  refine g_istoreN X872 hx (pc' := 47) rfl (hD hby d9_46) (l' := #[.val (.ref t), .val (.int 1), .unset]) rfl ?_
  refine g_newO X872 hx hZ hown (wat hw 94 rfl) (wat hw 95 rfl) (wat hw 96 rfl) (pc' := 50) rfl (hD hby d9_47) (by decide) (by decide) (fun T873 h873 a873 ha873 X873 E873 A873 D873 => ?_)
  have ne873_t : t ≠ a873 := by rw [ha873]; exact Nat.ne_of_lt f857.lt
  have ne873_ho : ho ≠ a873 := by rw [ha873]; exact Nat.ne_of_lt f858.lt
  have ne873_hb : hb ≠ a873 := by rw [ha873]; exact Nat.ne_of_lt f861.lt
  have ne873_a842 : a842 ≠ a873 := by rw [ha873]; exact Nat.ne_of_lt f866.lt
  have ne873_b842 : b842 ≠ a873 := by rw [ha873]; exact Nat.ne_of_lt f869.lt
  have ne873_a856 : a856 ≠ a873 := by rw [ha873]; exact Nat.ne_of_lt EX856.lt
  have ne873_b856 : b856 ≠ a873 := by rw [ha873]; exact Nat.ne_of_lt AB856.lt
  have f874 := f857.ext E873
  have f875 := f858.ext E873
  have f876 := f859.ext E873
  have f877 := f860.ext E873
  have f878 := f861.ext E873
  have f879 := f862.ext E873
  have f880 := f863.ext E873
  have f881 := f864.ext E873
  have f882 := f865.ext E873
  have f883 := f866.ext E873
  have f884 := f867.ext E873
  have f885 := f868.ext E873
  have f886 := f869.ext E873
  have f887 := EX856.ext E873
  have f888 := FC856.ext E873
  have f889 := FV856.ext E873
  have f890 := AB856.ext E873
  have sz873 : h0.size ≤ a873 := by rw [ha873]; exact f870.1
  have f891 := f870.ext E873
  have G_a873 : s.heap.size ≤ a873 := by rw [ha873]; exact Zs856
  have Zs873 : s.heap.size ≤ h873.size := Nat.le_trans Zs856 E873.1
  have f892 := f871.ext E873
  have F873_value : BV Z h873 a873 .null := D873 (Or.inl (wat hw 109 rfl)) (ty := (.array .byte)) (by decide)
  have F873_coder : BC Z h873 a873 (.int 0) := D873 (Or.inl (wat hw 111 rfl)) (ty := .byte) (by decide)
  have F873_count : BN Z h873 a873 (.int 0) := D873 (Or.inl (wat hw 128 rfl)) (ty := .int) (by decide)
  refine g_dup X873 hx (pc' := 51) rfl (hD hby d9_50) rfl ?_
  refine g_callI X873 hx hZ hown rfl (wat hw 97 rfl) (wat hw 98 rfl) (wat hw 96 rfl) (wat hw 99 rfl) (by decide) (a := a873) (rm17 l Z a0 hw [] s.heap.size ("[" :: ":" :: Ts) a873 cz h873 Zs873 O2 hcz f892 A873 G_a873 F873_value F873_coder F873_count) pd_31 rfl rfl (pc' := 54) rfl (hD hby d9_51) (argsL := []) (rest := [(.ref a873)]) rfl (W := 1) (fun v893 T893 h893 X893 hQ893 => ?_)
  obtain ⟨rfl, K893, va893, Gva893, S893, V893, FV893, FC893, FN893⟩ := hQ893
  have neva893_t : t ≠ va893 := Nat.ne_of_lt (Nat.lt_of_lt_of_le f874.lt S893)
  have neva893_ho : ho ≠ va893 := Nat.ne_of_lt (Nat.lt_of_lt_of_le f875.lt S893)
  have neva893_hb : hb ≠ va893 := Nat.ne_of_lt (Nat.lt_of_lt_of_le f878.lt S893)
  have neva893_a842 : a842 ≠ va893 := Nat.ne_of_lt (Nat.lt_of_lt_of_le f883.lt S893)
  have neva893_b842 : b842 ≠ va893 := Nat.ne_of_lt (Nat.lt_of_lt_of_le f886.lt S893)
  have neva893_a856 : a856 ≠ va893 := Nat.ne_of_lt (Nat.lt_of_lt_of_le f887.lt S893)
  have neva893_b856 : b856 ≠ va893 := Nat.ne_of_lt (Nat.lt_of_lt_of_le f890.lt S893)
  have neva893_a873 : a873 ≠ va893 := Nat.ne_of_lt (Nat.lt_of_lt_of_le A873.lt S893)
  have szva893 : h0.size ≤ va893 := Nat.le_trans f891.1 S893
  have f894 := f891.trans K893 (allS (Or.inr sz873) all0)
  have f895 := f892.keep K893 (allS G_a873 all0)
  have f896 := f874.keep K893
  have f897 := f875.keep K893
  have f898 := f876.keep K893 (ninS ne873_ho nin0)
  have f899 := f877.keep K893 (ninS ne873_ho nin0)
  have f900 := f878.keep K893 (ninS ne873_hb nin0)
  have f901 := f879.keep K893 (ninS ne873_t nin0)
  have f902 := f880.keep K893 (ninS ne873_t nin0)
  have f903 := f881.keep K893 (ninS ne873_t nin0)
  have f904 := f882.keep K893 (ninS ne873_t nin0)
  have f905 := f883.keep K893
  have f906 := f884.keep K893 (ninS ne873_a842 nin0)
  have f907 := f885.keep K893 (ninS ne873_a842 nin0)
  have f908 := f886.keep K893 (ninS ne873_b842 nin0)
  have f909 := f887.keep K893
  have f910 := f888.keep K893 (ninS ne873_a856 nin0)
  have f911 := f889.keep K893 (ninS ne873_a856 nin0)
  have f912 := f890.keep K893 (ninS ne873_b856 nin0)
  have f913 := A873.keep K893
  have zs893 : s.heap.size ≤ h893.size := Nat.le_trans Zs873 K893.1
  show Go p e below s n0 _ _ _ (T893.setTop (mkF m 54 _ [(.ref a873)]))
  refine g_iloadN X893 hx (pc' := 55) rfl (hD hby d9_54) rfl ?_
  refine g_ifN X893 hx (pcN := 58) (hD hby d9_55) rfl (show ¬ ((1 : Int32) = 0) from by decide) ?_
  refine g_newO X893 hx hZ hown (wat hw 94 rfl) (wat hw 95 rfl) (wat hw 96 rfl) (pc' := 61) rfl (hD hby d9_58) (by decide) (by decide) (fun T914 h914 a914 ha914 X914 E914 A914 D914 => ?_)
  have ne914_t : t ≠ a914 := by rw [ha914]; exact Nat.ne_of_lt f896.lt
  have ne914_ho : ho ≠ a914 := by rw [ha914]; exact Nat.ne_of_lt f897.lt
  have ne914_hb : hb ≠ a914 := by rw [ha914]; exact Nat.ne_of_lt f900.lt
  have ne914_a842 : a842 ≠ a914 := by rw [ha914]; exact Nat.ne_of_lt f905.lt
  have ne914_b842 : b842 ≠ a914 := by rw [ha914]; exact Nat.ne_of_lt f908.lt
  have ne914_a856 : a856 ≠ a914 := by rw [ha914]; exact Nat.ne_of_lt f909.lt
  have ne914_b856 : b856 ≠ a914 := by rw [ha914]; exact Nat.ne_of_lt f912.lt
  have ne914_a873 : a873 ≠ a914 := by rw [ha914]; exact Nat.ne_of_lt f913.lt
  have ne914_va893 : va893 ≠ a914 := by rw [ha914]; exact Nat.ne_of_lt V893.lt
  have f915 := f896.ext E914
  have f916 := f897.ext E914
  have f917 := f898.ext E914
  have f918 := f899.ext E914
  have f919 := f900.ext E914
  have f920 := f901.ext E914
  have f921 := f902.ext E914
  have f922 := f903.ext E914
  have f923 := f904.ext E914
  have f924 := f905.ext E914
  have f925 := f906.ext E914
  have f926 := f907.ext E914
  have f927 := f908.ext E914
  have f928 := f909.ext E914
  have f929 := f910.ext E914
  have f930 := f911.ext E914
  have f931 := f912.ext E914
  have f932 := f913.ext E914
  have f933 := V893.ext E914
  have f934 := FV893.ext E914
  have f935 := FC893.ext E914
  have f936 := FN893.ext E914
  have sz914 : h0.size ≤ a914 := by rw [ha914]; exact f894.1
  have f937 := f894.ext E914
  have G_a914 : s.heap.size ≤ a914 := by rw [ha914]; exact zs893
  have Zs914 : s.heap.size ≤ h914.size := Nat.le_trans zs893 E914.1
  have f938 := f895.ext E914
  have F914_value : BV Z h914 a914 .null := D914 (Or.inl (wat hw 109 rfl)) (ty := (.array .byte)) (by decide)
  have F914_coder : BC Z h914 a914 (.int 0) := D914 (Or.inl (wat hw 111 rfl)) (ty := .byte) (by decide)
  have F914_count : BN Z h914 a914 (.int 0) := D914 (Or.inl (wat hw 128 rfl)) (ty := .int) (by decide)
  refine g_dup X914 hx (pc' := 62) rfl (hD hby d9_61) rfl ?_
  refine g_callI X914 hx hZ hown rfl (wat hw 97 rfl) (wat hw 98 rfl) (wat hw 96 rfl) (wat hw 99 rfl) (by decide) (a := a914) (rm17 l Z a0 hw [] s.heap.size ("[" :: ":" :: Ts) a914 cz h914 Zs914 O2 hcz f938 A914 G_a914 F914_value F914_coder F914_count) pd_31 rfl rfl (pc' := 65) rfl (hD hby d9_62) (argsL := []) (rest := [(.ref a914), (.ref a873)]) rfl (W := 2) (fun v939 T939 h939 X939 hQ939 => ?_)
  obtain ⟨rfl, K939, va939, Gva939, S939, V939, FV939, FC939, FN939⟩ := hQ939
  have neva939_t : t ≠ va939 := Nat.ne_of_lt (Nat.lt_of_lt_of_le f915.lt S939)
  have neva939_ho : ho ≠ va939 := Nat.ne_of_lt (Nat.lt_of_lt_of_le f916.lt S939)
  have neva939_hb : hb ≠ va939 := Nat.ne_of_lt (Nat.lt_of_lt_of_le f919.lt S939)
  have neva939_a842 : a842 ≠ va939 := Nat.ne_of_lt (Nat.lt_of_lt_of_le f924.lt S939)
  have neva939_b842 : b842 ≠ va939 := Nat.ne_of_lt (Nat.lt_of_lt_of_le f927.lt S939)
  have neva939_a856 : a856 ≠ va939 := Nat.ne_of_lt (Nat.lt_of_lt_of_le f928.lt S939)
  have neva939_b856 : b856 ≠ va939 := Nat.ne_of_lt (Nat.lt_of_lt_of_le f931.lt S939)
  have neva939_a873 : a873 ≠ va939 := Nat.ne_of_lt (Nat.lt_of_lt_of_le f932.lt S939)
  have neva939_va893 : va893 ≠ va939 := Nat.ne_of_lt (Nat.lt_of_lt_of_le f933.lt S939)
  have neva939_a914 : a914 ≠ va939 := Nat.ne_of_lt (Nat.lt_of_lt_of_le A914.lt S939)
  have szva939 : h0.size ≤ va939 := Nat.le_trans f937.1 S939
  have f940 := f937.trans K939 (allS (Or.inr sz914) all0)
  have f941 := f938.keep K939 (allS G_a914 all0)
  have f942 := f915.keep K939
  have f943 := f916.keep K939
  have f944 := f917.keep K939 (ninS ne914_ho nin0)
  have f945 := f918.keep K939 (ninS ne914_ho nin0)
  have f946 := f919.keep K939 (ninS ne914_hb nin0)
  have f947 := f920.keep K939 (ninS ne914_t nin0)
  have f948 := f921.keep K939 (ninS ne914_t nin0)
  have f949 := f922.keep K939 (ninS ne914_t nin0)
  have f950 := f923.keep K939 (ninS ne914_t nin0)
  have f951 := f924.keep K939
  have f952 := f925.keep K939 (ninS ne914_a842 nin0)
  have f953 := f926.keep K939 (ninS ne914_a842 nin0)
  have f954 := f927.keep K939 (ninS ne914_b842 nin0)
  have f955 := f928.keep K939
  have f956 := f929.keep K939 (ninS ne914_a856 nin0)
  have f957 := f930.keep K939 (ninS ne914_a856 nin0)
  have f958 := f931.keep K939 (ninS ne914_b856 nin0)
  have f959 := f932.keep K939
  have f960 := f933.keep K939 (ninS ne914_va893 nin0)
  have f961 := f934.keep K939 (ninS ne914_a873 nin0)
  have f962 := f935.keep K939 (ninS ne914_a873 nin0)
  have f963 := f936.keep K939 (ninS ne914_a873 nin0)
  have f964 := A914.keep K939
  have zs939 : s.heap.size ≤ h939.size := Nat.le_trans Zs914 K939.1
  show Go p e below s n0 _ _ _ (T939.setTop (mkF m 65 _ [(.ref a914), (.ref a873)]))
  refine g_ldcA X939 hx hZ hown (wat hw 239 rfl) (a := a856) (List.mem_of_getElem? (i := 0) rfl) (pc' := 67) rfl (hD hby d9_65) ?_
  refine g_callV X939 hx hZ hown (wat hw 112 rfl) (wat hw 113 rfl) (wat hw 115 rfl) (wat hw 114 rfl) (wat hw 96 rfl) (wat hw 116 rfl) (by decide) (a := a914) f964 (rm19 l Z a0 hw [] s.heap.size ("[" :: ":" :: Ts) a914 va939 a856 b856 [.int 0, .int 0, .int 0, .int 0, .int 0, .int 0, .int 0, .int 0, .int 0, .int 0, .int 0, .int 0, .int 0, .int 0, .int 0, .int 0] [.int 91] 0 (0 : Int32) (1 : Int32) (1 : Int32) cz h939 zs939 O2 hcz f941 f964 G_a914 FV939 FC939 FN939 V939 Gva939 f955 f957 f956 f958 neva939_b856 rfl rfl (show (1 : Nat) ≤ 16 by decide) rfl (by decide) rfl) pd_32 rfl rfl (pc' := 70) rfl (hD hby d9_67) (argsL := [(.ref a856)]) (rest := [(.ref a873)]) rfl (W := 1) (fun v966 T966 h966 X966 hQ966 => ?_)
  obtain ⟨rfl, K966, VV966, FV966, FC966, FN966⟩ := hQ966
  have f967 := f940.trans K966 (allS (Or.inr sz914) (allS (Or.inr szva939) all0))
  have f968 := f941.keep K966 (allS G_a914 (allS Gva939 all0))
  have f969 := f942.keep K966
  have f970 := f943.keep K966
  have f971 := f944.keep K966 (ninS ne914_ho (ninS neva939_ho nin0))
  have f972 := f945.keep K966 (ninS ne914_ho (ninS neva939_ho nin0))
  have f973 := f946.keep K966 (ninS ne914_hb (ninS neva939_hb nin0))
  have f974 := f947.keep K966 (ninS ne914_t (ninS neva939_t nin0))
  have f975 := f948.keep K966 (ninS ne914_t (ninS neva939_t nin0))
  have f976 := f949.keep K966 (ninS ne914_t (ninS neva939_t nin0))
  have f977 := f950.keep K966 (ninS ne914_t (ninS neva939_t nin0))
  have f978 := f951.keep K966
  have f979 := f952.keep K966 (ninS ne914_a842 (ninS neva939_a842 nin0))
  have f980 := f953.keep K966 (ninS ne914_a842 (ninS neva939_a842 nin0))
  have f981 := f954.keep K966 (ninS ne914_b842 (ninS neva939_b842 nin0))
  have f982 := f955.keep K966
  have f983 := f956.keep K966 (ninS ne914_a856 (ninS neva939_a856 nin0))
  have f984 := f957.keep K966 (ninS ne914_a856 (ninS neva939_a856 nin0))
  have f985 := f958.keep K966 (ninS ne914_b856 (ninS neva939_b856 nin0))
  have f986 := f959.keep K966
  have f987 := f960.keep K966 (ninS ne914_va893 (ninS neva939_va893 nin0))
  have f988 := f961.keep K966 (ninS ne914_a873 (ninS neva939_a873 nin0))
  have f989 := f962.keep K966 (ninS ne914_a873 (ninS neva939_a873 nin0))
  have f990 := f963.keep K966 (ninS ne914_a873 (ninS neva939_a873 nin0))
  have f991 := f964.keep K966
  have zs966 : s.heap.size ≤ h966.size := Nat.le_trans zs939 K966.1
  have V966 : AV Z h966 va939 .byte [.int 91, .int 0, .int 0, .int 0, .int 0, .int 0, .int 0, .int 0, .int 0, .int 0, .int 0, .int 0, .int 0, .int 0, .int 0, .int 0] := VV966
  show Go p e below s n0 _ _ _ (T966.setTop (mkF m 70 _ [(.ref a914), (.ref a873)]))
  refine g_aloadN X966 hx (pc' := 71) rfl (hD hby d9_70) rfl rfl ?_
  refine g_getF X966 hx hZ hown (wat hw 42 rfl) Via.refl f974 (pc' := 74) rfl (hD hby d9_71) (fun T992 X992 => ?_)
  refine g_callV X992 hx hZ hown (wat hw 112 rfl) (wat hw 113 rfl) (wat hw 115 rfl) (wat hw 114 rfl) (wat hw 96 rfl) (wat hw 116 rfl) (by decide) (a := a914) f991 (rm19 l Z a0 hw [] s.heap.size ("[" :: ":" :: Ts) a914 va939 ho hb [.int 91, .int 0, .int 0, .int 0, .int 0, .int 0, .int 0, .int 0, .int 0, .int 0, .int 0, .int 0, .int 0, .int 0, .int 0, .int 0] [.int y0, .int y1] 1 (1 : Int32) (2 : Int32) (3 : Int32) cz h966 zs966 O2 hcz f968 f991 G_a914 FV966 FC966 FN966 V966 Gva939 f970 f971 f972 f973 neva939_hb rfl rfl (show (3 : Nat) ≤ 16 by decide) rfl (by decide) rfl) pd_32 rfl rfl (pc' := 77) rfl (hD hby d9_74) (argsL := [(.ref ho)]) (rest := [(.ref a873)]) rfl (W := 1) (fun v993 T993 h993 X993 hQ993 => ?_)
  obtain ⟨rfl, K993, VV993, FV993, FC993, FN993⟩ := hQ993
  have f994 := f967.trans K993 (allS (Or.inr sz914) (allS (Or.inr szva939) all0))
  have f995 := f968.keep K993 (allS G_a914 (allS Gva939 all0))
  have f996 := f969.keep K993
  have f997 := f970.keep K993
  have f998 := f971.keep K993 (ninS ne914_ho (ninS neva939_ho nin0))
  have f999 := f972.keep K993 (ninS ne914_ho (ninS neva939_ho nin0))
  have f1000 := f973.keep K993 (ninS ne914_hb (ninS neva939_hb nin0))
  have f1001 := f974.keep K993 (ninS ne914_t (ninS neva939_t nin0))
  have f1002 := f975.keep K993 (ninS ne914_t (ninS neva939_t nin0))
  have f1003 := f976.keep K993 (ninS ne914_t (ninS neva939_t nin0))
  have f1004 := f977.keep K993 (ninS ne914_t (ninS neva939_t nin0))
  have f1005 := f978.keep K993
  have f1006 := f979.keep K993 (ninS ne914_a842 (ninS neva939_a842 nin0))
  have f1007 := f980.keep K993 (ninS ne914_a842 (ninS neva939_a842 nin0))
  have f1008 := f981.keep K993 (ninS ne914_b842 (ninS neva939_b842 nin0))
  have f1009 := f982.keep K993
  have f1010 := f983.keep K993 (ninS ne914_a856 (ninS neva939_a856 nin0))
  have f1011 := f984.keep K993 (ninS ne914_a856 (ninS neva939_a856 nin0))
  have f1012 := f985.keep K993 (ninS ne914_b856 (ninS neva939_b856 nin0))
  have f1013 := f986.keep K993
  have f1014 := f987.keep K993 (ninS ne914_va893 (ninS neva939_va893 nin0))
  have f1015 := f988.keep K993 (ninS ne914_a873 (ninS neva939_a873 nin0))
  have f1016 := f989.keep K993 (ninS ne914_a873 (ninS neva939_a873 nin0))
  have f1017 := f990.keep K993 (ninS ne914_a873 (ninS neva939_a873 nin0))
  have f1018 := f991.keep K993
  have zs993 : s.heap.size ≤ h993.size := Nat.le_trans zs966 K993.1
  have V993 : AV Z h993 va939 .byte [.int 91, .int y0, .int y1, .int 0, .int 0, .int 0, .int 0, .int 0, .int 0, .int 0, .int 0, .int 0, .int 0, .int 0, .int 0, .int 0] := VV993
  show Go p e below s n0 _ _ _ (T993.setTop (mkF m 77 _ [(.ref a914), (.ref a873)]))
  refine g_ldcS X993 hx hZ hown (wat hw 255 rfl) (own_wS hw) (fun b cl q => by rw [hsh]; exact OLD.2.2 b cl q) (own_nm1 (by decide) (own_nm1 (by decide) hT3)) (hkc ("com/example/lanternwood/lanternwood/ReplAddress", 228) (by simp [consts_1])) hcw (vs := [.int 93]) ⟨by decide, rfl⟩ (by decide) (pc' := 79) rfl (hD hby d9_77) (n := 4) (by decide) (by decide) (by decide) (by decide) (fun T1019 h1019 a1019 b1019 XX1019 E1019 EX1019 FC1019 FV1019 AB1019 WH1019 => ?_)
  have X1019 := XX1019
  have nea1019_a873 : a873 ≠ a1019 := by rcases WH1019 with q | q; exact (Nat.ne_of_lt (Nat.lt_of_lt_of_le q.1 G_a873)).symm; exact Nat.ne_of_lt (Nat.lt_of_lt_of_le f1013.lt q.1)
  have neb1019_a873 : a873 ≠ b1019 := by rcases WH1019 with q | q; exact (Nat.ne_of_lt (Nat.lt_of_lt_of_le q.2 G_a873)).symm; exact Nat.ne_of_lt (Nat.lt_of_lt_of_le f1013.lt q.2)
  have nea1019_va893 : va893 ≠ a1019 := by rcases WH1019 with q | q; exact (Nat.ne_of_lt (Nat.lt_of_lt_of_le q.1 Gva893)).symm; exact Nat.ne_of_lt (Nat.lt_of_lt_of_le f1014.lt q.1)
  have neb1019_va893 : va893 ≠ b1019 := by rcases WH1019 with q | q; exact (Nat.ne_of_lt (Nat.lt_of_lt_of_le q.2 Gva893)).symm; exact Nat.ne_of_lt (Nat.lt_of_lt_of_le f1014.lt q.2)
  have nea1019_a914 : a914 ≠ a1019 := by rcases WH1019 with q | q; exact (Nat.ne_of_lt (Nat.lt_of_lt_of_le q.1 G_a914)).symm; exact Nat.ne_of_lt (Nat.lt_of_lt_of_le f1018.lt q.1)
  have neb1019_a914 : a914 ≠ b1019 := by rcases WH1019 with q | q; exact (Nat.ne_of_lt (Nat.lt_of_lt_of_le q.2 G_a914)).symm; exact Nat.ne_of_lt (Nat.lt_of_lt_of_le f1018.lt q.2)
  have nea1019_va939 : va939 ≠ a1019 := by rcases WH1019 with q | q; exact (Nat.ne_of_lt (Nat.lt_of_lt_of_le q.1 Gva939)).symm; exact Nat.ne_of_lt (Nat.lt_of_lt_of_le V993.lt q.1)
  have neb1019_va939 : va939 ≠ b1019 := by rcases WH1019 with q | q; exact (Nat.ne_of_lt (Nat.lt_of_lt_of_le q.2 Gva939)).symm; exact Nat.ne_of_lt (Nat.lt_of_lt_of_le V993.lt q.2)
  have f1020 := f996.ext E1019
  have f1021 := f997.ext E1019
  have f1022 := f998.ext E1019
  have f1023 := f999.ext E1019
  have f1024 := f1000.ext E1019
  have f1025 := f1001.ext E1019
  have f1026 := f1002.ext E1019
  have f1027 := f1003.ext E1019
  have f1028 := f1004.ext E1019
  have f1029 := f1005.ext E1019
  have f1030 := f1006.ext E1019
  have f1031 := f1007.ext E1019
  have f1032 := f1008.ext E1019
  have f1033 := f1009.ext E1019
  have f1034 := f1010.ext E1019
  have f1035 := f1011.ext E1019
  have f1036 := f1012.ext E1019
  have f1037 := f1013.ext E1019
  have f1038 := f1014.ext E1019
  have f1039 := f1015.ext E1019
  have f1040 := f1016.ext E1019
  have f1041 := f1017.ext E1019
  have f1042 := f1018.ext E1019
  have f1043 := V993.ext E1019
  have f1044 := FV993.ext E1019
  have f1045 := FC993.ext E1019
  have f1046 := FN993.ext E1019
  have f1047 := f994.ext E1019
  have Zs1019 : s.heap.size ≤ h1019.size := Nat.le_trans zs993 E1019.1
  have f1048 := f995.ext E1019
  show Go p e below s n0 _ _ _ (T1019.setTop (mkF m 79 _ [(.ref a1019), (.ref a914), (.ref a873)]))
  refine g_callV X1019 hx hZ hown (wat hw 112 rfl) (wat hw 113 rfl) (wat hw 115 rfl) (wat hw 114 rfl) (wat hw 96 rfl) (wat hw 116 rfl) (by decide) (a := a914) f1042 (rm19 l Z a0 hw [] s.heap.size ("]" :: "[" :: ":" :: Ts) a914 va939 a1019 b1019 [.int 91, .int y0, .int y1, .int 0, .int 0, .int 0, .int 0, .int 0, .int 0, .int 0, .int 0, .int 0, .int 0, .int 0, .int 0, .int 0] [.int 93] 3 (3 : Int32) (1 : Int32) (4 : Int32) cz h1019 Zs1019 O2 hcz f1048 f1042 G_a914 f1044 f1045 f1046 f1043 Gva939 EX1019 FV1019 FC1019 AB1019 neb1019_va939.symm rfl rfl (show (4 : Nat) ≤ 16 by decide) rfl (by decide) rfl) pd_32 rfl rfl (pc' := 82) rfl (hD hby d9_79) (argsL := [(.ref a1019)]) (rest := [(.ref a873)]) rfl (W := 1) (fun v1049 T1049 h1049 X1049 hQ1049 => ?_)
  obtain ⟨rfl, K1049, VV1049, FV1049, FC1049, FN1049⟩ := hQ1049
  have f1050 := f1047.trans K1049 (allS (Or.inr sz914) (allS (Or.inr szva939) all0))
  have f1051 := f1048.keep K1049 (allS G_a914 (allS Gva939 all0))
  have f1052 := f1020.keep K1049
  have f1053 := f1021.keep K1049
  have f1054 := f1022.keep K1049 (ninS ne914_ho (ninS neva939_ho nin0))
  have f1055 := f1023.keep K1049 (ninS ne914_ho (ninS neva939_ho nin0))
  have f1056 := f1024.keep K1049 (ninS ne914_hb (ninS neva939_hb nin0))
  have f1057 := f1025.keep K1049 (ninS ne914_t (ninS neva939_t nin0))
  have f1058 := f1026.keep K1049 (ninS ne914_t (ninS neva939_t nin0))
  have f1059 := f1027.keep K1049 (ninS ne914_t (ninS neva939_t nin0))
  have f1060 := f1028.keep K1049 (ninS ne914_t (ninS neva939_t nin0))
  have f1061 := f1029.keep K1049
  have f1062 := f1030.keep K1049 (ninS ne914_a842 (ninS neva939_a842 nin0))
  have f1063 := f1031.keep K1049 (ninS ne914_a842 (ninS neva939_a842 nin0))
  have f1064 := f1032.keep K1049 (ninS ne914_b842 (ninS neva939_b842 nin0))
  have f1065 := f1033.keep K1049
  have f1066 := f1034.keep K1049 (ninS ne914_a856 (ninS neva939_a856 nin0))
  have f1067 := f1035.keep K1049 (ninS ne914_a856 (ninS neva939_a856 nin0))
  have f1068 := f1036.keep K1049 (ninS ne914_b856 (ninS neva939_b856 nin0))
  have f1069 := f1037.keep K1049
  have f1070 := f1038.keep K1049 (ninS ne914_va893 (ninS neva939_va893 nin0))
  have f1071 := f1039.keep K1049 (ninS ne914_a873 (ninS neva939_a873 nin0))
  have f1072 := f1040.keep K1049 (ninS ne914_a873 (ninS neva939_a873 nin0))
  have f1073 := f1041.keep K1049 (ninS ne914_a873 (ninS neva939_a873 nin0))
  have f1074 := f1042.keep K1049
  have f1075 := EX1019.keep K1049
  have f1076 := FC1019.keep K1049 (ninS nea1019_a914.symm (ninS nea1019_va939.symm nin0))
  have f1077 := FV1019.keep K1049 (ninS nea1019_a914.symm (ninS nea1019_va939.symm nin0))
  have f1078 := AB1019.keep K1049 (ninS neb1019_a914.symm (ninS neb1019_va939.symm nin0))
  have zs1049 : s.heap.size ≤ h1049.size := Nat.le_trans Zs1019 K1049.1
  have V1049 : AV Z h1049 va939 .byte [.int 91, .int y0, .int y1, .int 93, .int 0, .int 0, .int 0, .int 0, .int 0, .int 0, .int 0, .int 0, .int 0, .int 0, .int 0, .int 0] := VV1049
  show Go p e below s n0 _ _ _ (T1049.setTop (mkF m 82 _ [(.ref a914), (.ref a873)]))
  refine g_callV X1049 hx hZ hown (wat hw 176 rfl) (wat hw 177 rfl) (wat hw 179 rfl) (wat hw 178 rfl) (wat hw 96 rfl) (wat hw 180 rfl) (by decide) (a := a914) f1074 (rm31 l Z a0 hw [] s.heap.size ("]" :: "[" :: ":" :: Ts) a914 va939 [.int 91, .int y0, .int y1, .int 93, .int 0, .int 0, .int 0, .int 0, .int 0, .int 0, .int 0, .int 0, .int 0, .int 0, .int 0, .int 0] 4 (4 : Int32) cz h1049 zs1049 O2 hcz f1051 f1074 FV1049 FC1049 FN1049 V1049 rfl (by decide) rfl) pd_8 rfl rfl (pc' := 85) rfl (hD hby d9_82) (argsL := []) (rest := [(.ref a873)]) rfl (W := 1) (fun v1079 T1079 h1079 X1079 hQ1079 => ?_)
  obtain ⟨t1079, tb1079, rfl, Gt1079, S1079, Gtb1079, SB1079, K1079, E1079, FV1079, FC1079, VV1079⟩ := hQ1079
  have net1079_t : t ≠ t1079 := Nat.ne_of_lt (Nat.lt_of_lt_of_le f1052.lt S1079)
  have net1079_ho : ho ≠ t1079 := Nat.ne_of_lt (Nat.lt_of_lt_of_le f1053.lt S1079)
  have net1079_hb : hb ≠ t1079 := Nat.ne_of_lt (Nat.lt_of_lt_of_le f1056.lt S1079)
  have net1079_a842 : a842 ≠ t1079 := Nat.ne_of_lt (Nat.lt_of_lt_of_le f1061.lt S1079)
  have net1079_b842 : b842 ≠ t1079 := Nat.ne_of_lt (Nat.lt_of_lt_of_le f1064.lt S1079)
  have net1079_a856 : a856 ≠ t1079 := Nat.ne_of_lt (Nat.lt_of_lt_of_le f1065.lt S1079)
  have net1079_b856 : b856 ≠ t1079 := Nat.ne_of_lt (Nat.lt_of_lt_of_le f1068.lt S1079)
  have net1079_a873 : a873 ≠ t1079 := Nat.ne_of_lt (Nat.lt_of_lt_of_le f1069.lt S1079)
  have net1079_va893 : va893 ≠ t1079 := Nat.ne_of_lt (Nat.lt_of_lt_of_le f1070.lt S1079)
  have net1079_a914 : a914 ≠ t1079 := Nat.ne_of_lt (Nat.lt_of_lt_of_le f1074.lt S1079)
  have net1079_a1019 : a1019 ≠ t1079 := Nat.ne_of_lt (Nat.lt_of_lt_of_le f1075.lt S1079)
  have net1079_b1019 : b1019 ≠ t1079 := Nat.ne_of_lt (Nat.lt_of_lt_of_le f1078.lt S1079)
  have net1079_va939 : va939 ≠ t1079 := Nat.ne_of_lt (Nat.lt_of_lt_of_le V1049.lt S1079)
  have szt1079 : h0.size ≤ t1079 := Nat.le_trans f1050.1 S1079
  have netb1079_t : t ≠ tb1079 := Nat.ne_of_lt (Nat.lt_of_lt_of_le f1052.lt SB1079)
  have netb1079_ho : ho ≠ tb1079 := Nat.ne_of_lt (Nat.lt_of_lt_of_le f1053.lt SB1079)
  have netb1079_hb : hb ≠ tb1079 := Nat.ne_of_lt (Nat.lt_of_lt_of_le f1056.lt SB1079)
  have netb1079_a842 : a842 ≠ tb1079 := Nat.ne_of_lt (Nat.lt_of_lt_of_le f1061.lt SB1079)
  have netb1079_b842 : b842 ≠ tb1079 := Nat.ne_of_lt (Nat.lt_of_lt_of_le f1064.lt SB1079)
  have netb1079_a856 : a856 ≠ tb1079 := Nat.ne_of_lt (Nat.lt_of_lt_of_le f1065.lt SB1079)
  have netb1079_b856 : b856 ≠ tb1079 := Nat.ne_of_lt (Nat.lt_of_lt_of_le f1068.lt SB1079)
  have netb1079_a873 : a873 ≠ tb1079 := Nat.ne_of_lt (Nat.lt_of_lt_of_le f1069.lt SB1079)
  have netb1079_va893 : va893 ≠ tb1079 := Nat.ne_of_lt (Nat.lt_of_lt_of_le f1070.lt SB1079)
  have netb1079_a914 : a914 ≠ tb1079 := Nat.ne_of_lt (Nat.lt_of_lt_of_le f1074.lt SB1079)
  have netb1079_a1019 : a1019 ≠ tb1079 := Nat.ne_of_lt (Nat.lt_of_lt_of_le f1075.lt SB1079)
  have netb1079_b1019 : b1019 ≠ tb1079 := Nat.ne_of_lt (Nat.lt_of_lt_of_le f1078.lt SB1079)
  have netb1079_va939 : va939 ≠ tb1079 := Nat.ne_of_lt (Nat.lt_of_lt_of_le V1049.lt SB1079)
  have sztb1079 : h0.size ≤ tb1079 := Nat.le_trans f1050.1 SB1079
  have f1080 := f1050.trans K1079 all0
  have f1081 := f1051.keep K1079 all0
  have f1082 := f1052.keep K1079
  have f1083 := f1053.keep K1079
  have f1084 := f1054.keep K1079 nin0
  have f1085 := f1055.keep K1079 nin0
  have f1086 := f1056.keep K1079 nin0
  have f1087 := f1057.keep K1079 nin0
  have f1088 := f1058.keep K1079 nin0
  have f1089 := f1059.keep K1079 nin0
  have f1090 := f1060.keep K1079 nin0
  have f1091 := f1061.keep K1079
  have f1092 := f1062.keep K1079 nin0
  have f1093 := f1063.keep K1079 nin0
  have f1094 := f1064.keep K1079 nin0
  have f1095 := f1065.keep K1079
  have f1096 := f1066.keep K1079 nin0
  have f1097 := f1067.keep K1079 nin0
  have f1098 := f1068.keep K1079 nin0
  have f1099 := f1069.keep K1079
  have f1100 := f1070.keep K1079 nin0
  have f1101 := f1071.keep K1079 nin0
  have f1102 := f1072.keep K1079 nin0
  have f1103 := f1073.keep K1079 nin0
  have f1104 := f1074.keep K1079
  have f1105 := f1075.keep K1079
  have f1106 := f1076.keep K1079 nin0
  have f1107 := f1077.keep K1079 nin0
  have f1108 := f1078.keep K1079 nin0
  have f1109 := V1049.keep K1079 nin0
  have f1110 := FV1049.keep K1079 nin0
  have f1111 := FC1049.keep K1079 nin0
  have f1112 := FN1049.keep K1079 nin0
  have zs1079 : s.heap.size ≤ h1079.size := Nat.le_trans zs1049 K1079.1
  have V1079 : AV Z h1079 tb1079 .byte [.int 91, .int y0, .int y1, .int 93] := VV1079
  show Go p e below s n0 _ _ _ (T1079.setTop (mkF m 85 _ [(.ref t1079), (.ref a873)]))
  refine g_goto X1079 hx (pc' := 92) (hD hby d9_85) (by decide) (by decide) ?_
  refine g_callV X1079 hx hZ hown (wat hw 112 rfl) (wat hw 113 rfl) (wat hw 115 rfl) (wat hw 114 rfl) (wat hw 96 rfl) (wat hw 116 rfl) (by decide) (a := a873) f1099 (rm19 l Z a0 hw [] s.heap.size ("]" :: "[" :: ":" :: Ts) a873 va893 t1079 tb1079 [.int 0, .int 0, .int 0, .int 0, .int 0, .int 0, .int 0, .int 0, .int 0, .int 0, .int 0, .int 0, .int 0, .int 0, .int 0, .int 0] [.int 91, .int y0, .int y1, .int 93] 0 (0 : Int32) (4 : Int32) (4 : Int32) cz h1079 zs1079 O2 hcz f1081 f1099 G_a873 f1101 f1102 f1103 f1100 Gva893 E1079 FV1079 FC1079 V1079 netb1079_va893.symm rfl rfl (show (4 : Nat) ≤ 16 by decide) rfl (by decide) rfl) pd_32 rfl rfl (pc' := 95) rfl (hD hby d9_92) (argsL := [(.ref t1079)]) (rest := []) rfl (W := 0) (fun v1113 T1113 h1113 X1113 hQ1113 => ?_)
  obtain ⟨rfl, K1113, VV1113, FV1113, FC1113, FN1113⟩ := hQ1113
  have f1114 := f1080.trans K1113 (allS (Or.inr sz873) (allS (Or.inr szva893) all0))
  have f1115 := f1081.keep K1113 (allS G_a873 (allS Gva893 all0))
  have f1116 := f1082.keep K1113
  have f1117 := f1083.keep K1113
  have f1118 := f1084.keep K1113 (ninS ne873_ho (ninS neva893_ho nin0))
  have f1119 := f1085.keep K1113 (ninS ne873_ho (ninS neva893_ho nin0))
  have f1120 := f1086.keep K1113 (ninS ne873_hb (ninS neva893_hb nin0))
  have f1121 := f1087.keep K1113 (ninS ne873_t (ninS neva893_t nin0))
  have f1122 := f1088.keep K1113 (ninS ne873_t (ninS neva893_t nin0))
  have f1123 := f1089.keep K1113 (ninS ne873_t (ninS neva893_t nin0))
  have f1124 := f1090.keep K1113 (ninS ne873_t (ninS neva893_t nin0))
  have f1125 := f1091.keep K1113
  have f1126 := f1092.keep K1113 (ninS ne873_a842 (ninS neva893_a842 nin0))
  have f1127 := f1093.keep K1113 (ninS ne873_a842 (ninS neva893_a842 nin0))
  have f1128 := f1094.keep K1113 (ninS ne873_b842 (ninS neva893_b842 nin0))
  have f1129 := f1095.keep K1113
  have f1130 := f1096.keep K1113 (ninS ne873_a856 (ninS neva893_a856 nin0))
  have f1131 := f1097.keep K1113 (ninS ne873_a856 (ninS neva893_a856 nin0))
  have f1132 := f1098.keep K1113 (ninS ne873_b856 (ninS neva893_b856 nin0))
  have f1133 := f1099.keep K1113
  have f1134 := f1104.keep K1113
  have f1135 := f1105.keep K1113
  have f1136 := f1106.keep K1113 (ninS nea1019_a873.symm (ninS nea1019_va893.symm nin0))
  have f1137 := f1107.keep K1113 (ninS nea1019_a873.symm (ninS nea1019_va893.symm nin0))
  have f1138 := f1108.keep K1113 (ninS neb1019_a873.symm (ninS neb1019_va893.symm nin0))
  have f1139 := f1109.keep K1113 (ninS neva939_a873.symm (ninS neva939_va893.symm nin0))
  have f1140 := f1110.keep K1113 (ninS ne914_a873.symm (ninS ne914_va893.symm nin0))
  have f1141 := f1111.keep K1113 (ninS ne914_a873.symm (ninS ne914_va893.symm nin0))
  have f1142 := f1112.keep K1113 (ninS ne914_a873.symm (ninS ne914_va893.symm nin0))
  have f1143 := E1079.keep K1113
  have f1144 := FV1079.keep K1113 (ninS net1079_a873.symm (ninS net1079_va893.symm nin0))
  have f1145 := FC1079.keep K1113 (ninS net1079_a873.symm (ninS net1079_va893.symm nin0))
  have f1146 := V1079.keep K1113 (ninS netb1079_a873.symm (ninS netb1079_va893.symm nin0))
  have zs1113 : s.heap.size ≤ h1113.size := Nat.le_trans zs1079 K1113.1
  have V1113 : AV Z h1113 va893 .byte [.int 91, .int y0, .int y1, .int 93, .int 0, .int 0, .int 0, .int 0, .int 0, .int 0, .int 0, .int 0, .int 0, .int 0, .int 0, .int 0] := VV1113
  show Go p e below s n0 _ _ _ (T1113.setTop (mkF m 95 _ [(.ref a873)]))
  refine g_ldcA X1113 hx hZ hown (wat hw 55 rfl) (a := a842) (List.mem_of_getElem? (i := 2) rfl) (pc' := 97) rfl (hD hby d9_95) ?_
  refine g_callV X1113 hx hZ hown (wat hw 112 rfl) (wat hw 113 rfl) (wat hw 115 rfl) (wat hw 114 rfl) (wat hw 96 rfl) (wat hw 116 rfl) (by decide) (a := a873) f1133 (rm19 l Z a0 hw [] s.heap.size ("]" :: "[" :: ":" :: Ts) a873 va893 a842 b842 [.int 91, .int y0, .int y1, .int 93, .int 0, .int 0, .int 0, .int 0, .int 0, .int 0, .int 0, .int 0, .int 0, .int 0, .int 0, .int 0] [.int 58] 4 (4 : Int32) (1 : Int32) (5 : Int32) cz h1113 zs1113 O2 hcz f1115 f1133 G_a873 FV1113 FC1113 FN1113 V1113 Gva893 f1125 f1127 f1126 f1128 neva893_b842 rfl rfl (show (5 : Nat) ≤ 16 by decide) rfl (by decide) rfl) pd_32 rfl rfl (pc' := 100) rfl (hD hby d9_97) (argsL := [(.ref a842)]) (rest := []) rfl (W := 0) (fun v1148 T1148 h1148 X1148 hQ1148 => ?_)
  obtain ⟨rfl, K1148, VV1148, FV1148, FC1148, FN1148⟩ := hQ1148
  have f1149 := f1114.trans K1148 (allS (Or.inr sz873) (allS (Or.inr szva893) all0))
  have f1150 := f1115.keep K1148 (allS G_a873 (allS Gva893 all0))
  have f1151 := f1116.keep K1148
  have f1152 := f1117.keep K1148
  have f1153 := f1118.keep K1148 (ninS ne873_ho (ninS neva893_ho nin0))
  have f1154 := f1119.keep K1148 (ninS ne873_ho (ninS neva893_ho nin0))
  have f1155 := f1120.keep K1148 (ninS ne873_hb (ninS neva893_hb nin0))
  have f1156 := f1121.keep K1148 (ninS ne873_t (ninS neva893_t nin0))
  have f1157 := f1122.keep K1148 (ninS ne873_t (ninS neva893_t nin0))
  have f1158 := f1123.keep K1148 (ninS ne873_t (ninS neva893_t nin0))
  have f1159 := f1124.keep K1148 (ninS ne873_t (ninS neva893_t nin0))
  have f1160 := f1125.keep K1148
  have f1161 := f1126.keep K1148 (ninS ne873_a842 (ninS neva893_a842 nin0))
  have f1162 := f1127.keep K1148 (ninS ne873_a842 (ninS neva893_a842 nin0))
  have f1163 := f1128.keep K1148 (ninS ne873_b842 (ninS neva893_b842 nin0))
  have f1164 := f1129.keep K1148
  have f1165 := f1130.keep K1148 (ninS ne873_a856 (ninS neva893_a856 nin0))
  have f1166 := f1131.keep K1148 (ninS ne873_a856 (ninS neva893_a856 nin0))
  have f1167 := f1132.keep K1148 (ninS ne873_b856 (ninS neva893_b856 nin0))
  have f1168 := f1133.keep K1148
  have f1169 := f1134.keep K1148
  have f1170 := f1135.keep K1148
  have f1171 := f1136.keep K1148 (ninS nea1019_a873.symm (ninS nea1019_va893.symm nin0))
  have f1172 := f1137.keep K1148 (ninS nea1019_a873.symm (ninS nea1019_va893.symm nin0))
  have f1173 := f1138.keep K1148 (ninS neb1019_a873.symm (ninS neb1019_va893.symm nin0))
  have f1174 := f1139.keep K1148 (ninS neva939_a873.symm (ninS neva939_va893.symm nin0))
  have f1175 := f1140.keep K1148 (ninS ne914_a873.symm (ninS ne914_va893.symm nin0))
  have f1176 := f1141.keep K1148 (ninS ne914_a873.symm (ninS ne914_va893.symm nin0))
  have f1177 := f1142.keep K1148 (ninS ne914_a873.symm (ninS ne914_va893.symm nin0))
  have f1178 := f1143.keep K1148
  have f1179 := f1144.keep K1148 (ninS net1079_a873.symm (ninS net1079_va893.symm nin0))
  have f1180 := f1145.keep K1148 (ninS net1079_a873.symm (ninS net1079_va893.symm nin0))
  have f1181 := f1146.keep K1148 (ninS netb1079_a873.symm (ninS netb1079_va893.symm nin0))
  have zs1148 : s.heap.size ≤ h1148.size := Nat.le_trans zs1113 K1148.1
  have V1148 : AV Z h1148 va893 .byte [.int 91, .int y0, .int y1, .int 93, .int 58, .int 0, .int 0, .int 0, .int 0, .int 0, .int 0, .int 0, .int 0, .int 0, .int 0, .int 0] := VV1148
  show Go p e below s n0 _ _ _ (T1148.setTop (mkF m 100 _ [(.ref a873)]))
  refine g_aloadN X1148 hx (pc' := 101) rfl (hD hby d9_100) rfl rfl ?_
  refine g_getF X1148 hx hZ hown (wat hw 44 rfl) Via.refl f1157 (pc' := 104) rfl (hD hby d9_101) (fun T1182 X1182 => ?_)
  refine g_callV X1182 hx hZ hown (wat hw 154 rfl) (wat hw 155 rfl) (wat hw 157 rfl) (wat hw 156 rfl) (wat hw 96 rfl) (wat hw 158 rfl) (by decide) (a := a873) f1168 (rm26 l Z a0 hw [] s.heap.size ("]" :: "[" :: ":" :: Ts) p' a873 va893 dO dT [.int 91, .int y0, .int y1, .int 93, .int 58, .int 0, .int 0, .int 0, .int 0, .int 0, .int 0, .int 0, .int 0, .int 0, .int 0, .int 0] 5 (5 : Int32) (6 : Int32) (7 : Int32) (8 : Int32) (9 : Int32) (10 : Int32) cz h1148 zs1148 O2 hcz f1150 hp0 hp1 S1 A1 S2 A2 f1168 G_a873 FV1148 FC1148 FN1148 V1148 Gva893 rfl rfl (by decide) (by decide) rfl (by decide) (by decide) rfl (by decide) (by decide) rfl (by decide) (by decide) rfl (by decide) (by decide) (by decide) rfl) pd_33 rfl rfl (pc' := 107) rfl (hD hby d9_104) (argsL := [(.int p')]) (rest := []) rfl (W := 0) (fun v1183 T1183 h1183 X1183 hQ1183 => ?_)
  obtain ⟨rfl, K1183, ds, md, hDg, hmd, V1183, FV1183, FC1183, FN1183⟩ := hQ1183
  have f1184 := f1149.trans K1183 (allS (Or.inr sz873) (allS (Or.inr szva893) all0))
  have f1185 := f1150.keep K1183 (allS G_a873 (allS Gva893 all0))
  have f1186 := f1151.keep K1183
  have f1187 := f1152.keep K1183
  have f1188 := f1153.keep K1183 (ninS ne873_ho (ninS neva893_ho nin0))
  have f1189 := f1154.keep K1183 (ninS ne873_ho (ninS neva893_ho nin0))
  have f1190 := f1155.keep K1183 (ninS ne873_hb (ninS neva893_hb nin0))
  have f1191 := f1156.keep K1183 (ninS ne873_t (ninS neva893_t nin0))
  have f1192 := f1157.keep K1183 (ninS ne873_t (ninS neva893_t nin0))
  have f1193 := f1158.keep K1183 (ninS ne873_t (ninS neva893_t nin0))
  have f1194 := f1159.keep K1183 (ninS ne873_t (ninS neva893_t nin0))
  have f1195 := f1160.keep K1183
  have f1196 := f1161.keep K1183 (ninS ne873_a842 (ninS neva893_a842 nin0))
  have f1197 := f1162.keep K1183 (ninS ne873_a842 (ninS neva893_a842 nin0))
  have f1198 := f1163.keep K1183 (ninS ne873_b842 (ninS neva893_b842 nin0))
  have f1199 := f1164.keep K1183
  have f1200 := f1165.keep K1183 (ninS ne873_a856 (ninS neva893_a856 nin0))
  have f1201 := f1166.keep K1183 (ninS ne873_a856 (ninS neva893_a856 nin0))
  have f1202 := f1167.keep K1183 (ninS ne873_b856 (ninS neva893_b856 nin0))
  have f1203 := f1168.keep K1183
  have f1204 := f1169.keep K1183
  have f1205 := f1170.keep K1183
  have f1206 := f1171.keep K1183 (ninS nea1019_a873.symm (ninS nea1019_va893.symm nin0))
  have f1207 := f1172.keep K1183 (ninS nea1019_a873.symm (ninS nea1019_va893.symm nin0))
  have f1208 := f1173.keep K1183 (ninS neb1019_a873.symm (ninS neb1019_va893.symm nin0))
  have f1209 := f1174.keep K1183 (ninS neva939_a873.symm (ninS neva939_va893.symm nin0))
  have f1210 := f1175.keep K1183 (ninS ne914_a873.symm (ninS ne914_va893.symm nin0))
  have f1211 := f1176.keep K1183 (ninS ne914_a873.symm (ninS ne914_va893.symm nin0))
  have f1212 := f1177.keep K1183 (ninS ne914_a873.symm (ninS ne914_va893.symm nin0))
  have f1213 := f1178.keep K1183
  have f1214 := f1179.keep K1183 (ninS net1079_a873.symm (ninS net1079_va893.symm nin0))
  have f1215 := f1180.keep K1183 (ninS net1079_a873.symm (ninS net1079_va893.symm nin0))
  have f1216 := f1181.keep K1183 (ninS netb1079_a873.symm (ninS netb1079_va893.symm nin0))
  have zs1183 : s.heap.size ≤ h1183.size := Nat.le_trans zs1148 K1183.1
  show Go p e below s n0 _ _ _ (T1183.setTop (mkF m 107 _ [(.ref a873)]))
  refine g_callV X1183 hx hZ hown (wat hw 176 rfl) (wat hw 177 rfl) (wat hw 179 rfl) (wat hw 178 rfl) (wat hw 96 rfl) (wat hw 180 rfl) (by decide) (a := a873) f1203 (rm31 l Z a0 hw [] s.heap.size ("]" :: "[" :: ":" :: Ts) a873 va893 (List.take 5 [.int 91, .int y0, .int y1, .int 93, .int 58, .int 0, .int 0, .int 0, .int 0, .int 0, .int 0, .int 0, .int 0, .int 0, .int 0, .int 0] ++ ds.map Value.int ++ List.drop (5 + ds.length) [.int 91, .int y0, .int y1, .int 93, .int 58, .int 0, .int 0, .int 0, .int 0, .int 0, .int 0, .int 0, .int 0, .int 0, .int 0, .int 0]) (5 + ds.length) md cz h1183 zs1183 O2 hcz f1185 f1203 FV1183 FC1183 FN1183 V1183 hmd (by have := hDg.len; omega) (by have := hDg.len; simp; omega)) pd_8 rfl rfl (pc' := 110) rfl (hD hby d9_107) (argsL := []) (rest := []) rfl (W := 0) (fun v1217 T1217 h1217 X1217 hQ1217 => ?_)
  obtain ⟨t1217, tb1217, rfl, Gt1217, S1217, Gtb1217, SB1217, K1217, E1217, FV1217, FC1217, VV1217⟩ := hQ1217
  have net1217_t : t ≠ t1217 := Nat.ne_of_lt (Nat.lt_of_lt_of_le f1186.lt S1217)
  have net1217_ho : ho ≠ t1217 := Nat.ne_of_lt (Nat.lt_of_lt_of_le f1187.lt S1217)
  have net1217_hb : hb ≠ t1217 := Nat.ne_of_lt (Nat.lt_of_lt_of_le f1190.lt S1217)
  have net1217_a842 : a842 ≠ t1217 := Nat.ne_of_lt (Nat.lt_of_lt_of_le f1195.lt S1217)
  have net1217_b842 : b842 ≠ t1217 := Nat.ne_of_lt (Nat.lt_of_lt_of_le f1198.lt S1217)
  have net1217_a856 : a856 ≠ t1217 := Nat.ne_of_lt (Nat.lt_of_lt_of_le f1199.lt S1217)
  have net1217_b856 : b856 ≠ t1217 := Nat.ne_of_lt (Nat.lt_of_lt_of_le f1202.lt S1217)
  have net1217_a873 : a873 ≠ t1217 := Nat.ne_of_lt (Nat.lt_of_lt_of_le f1203.lt S1217)
  have net1217_a914 : a914 ≠ t1217 := Nat.ne_of_lt (Nat.lt_of_lt_of_le f1204.lt S1217)
  have net1217_a1019 : a1019 ≠ t1217 := Nat.ne_of_lt (Nat.lt_of_lt_of_le f1205.lt S1217)
  have net1217_b1019 : b1019 ≠ t1217 := Nat.ne_of_lt (Nat.lt_of_lt_of_le f1208.lt S1217)
  have net1217_va939 : va939 ≠ t1217 := Nat.ne_of_lt (Nat.lt_of_lt_of_le f1209.lt S1217)
  have net1217_t1079 : t1079 ≠ t1217 := Nat.ne_of_lt (Nat.lt_of_lt_of_le f1213.lt S1217)
  have net1217_tb1079 : tb1079 ≠ t1217 := Nat.ne_of_lt (Nat.lt_of_lt_of_le f1216.lt S1217)
  have net1217_va893 : va893 ≠ t1217 := Nat.ne_of_lt (Nat.lt_of_lt_of_le V1183.lt S1217)
  have szt1217 : h0.size ≤ t1217 := Nat.le_trans f1184.1 S1217
  have netb1217_t : t ≠ tb1217 := Nat.ne_of_lt (Nat.lt_of_lt_of_le f1186.lt SB1217)
  have netb1217_ho : ho ≠ tb1217 := Nat.ne_of_lt (Nat.lt_of_lt_of_le f1187.lt SB1217)
  have netb1217_hb : hb ≠ tb1217 := Nat.ne_of_lt (Nat.lt_of_lt_of_le f1190.lt SB1217)
  have netb1217_a842 : a842 ≠ tb1217 := Nat.ne_of_lt (Nat.lt_of_lt_of_le f1195.lt SB1217)
  have netb1217_b842 : b842 ≠ tb1217 := Nat.ne_of_lt (Nat.lt_of_lt_of_le f1198.lt SB1217)
  have netb1217_a856 : a856 ≠ tb1217 := Nat.ne_of_lt (Nat.lt_of_lt_of_le f1199.lt SB1217)
  have netb1217_b856 : b856 ≠ tb1217 := Nat.ne_of_lt (Nat.lt_of_lt_of_le f1202.lt SB1217)
  have netb1217_a873 : a873 ≠ tb1217 := Nat.ne_of_lt (Nat.lt_of_lt_of_le f1203.lt SB1217)
  have netb1217_a914 : a914 ≠ tb1217 := Nat.ne_of_lt (Nat.lt_of_lt_of_le f1204.lt SB1217)
  have netb1217_a1019 : a1019 ≠ tb1217 := Nat.ne_of_lt (Nat.lt_of_lt_of_le f1205.lt SB1217)
  have netb1217_b1019 : b1019 ≠ tb1217 := Nat.ne_of_lt (Nat.lt_of_lt_of_le f1208.lt SB1217)
  have netb1217_va939 : va939 ≠ tb1217 := Nat.ne_of_lt (Nat.lt_of_lt_of_le f1209.lt SB1217)
  have netb1217_t1079 : t1079 ≠ tb1217 := Nat.ne_of_lt (Nat.lt_of_lt_of_le f1213.lt SB1217)
  have netb1217_tb1079 : tb1079 ≠ tb1217 := Nat.ne_of_lt (Nat.lt_of_lt_of_le f1216.lt SB1217)
  have netb1217_va893 : va893 ≠ tb1217 := Nat.ne_of_lt (Nat.lt_of_lt_of_le V1183.lt SB1217)
  have sztb1217 : h0.size ≤ tb1217 := Nat.le_trans f1184.1 SB1217
  have f1218 := f1184.trans K1217 all0
  have f1219 := f1185.keep K1217 all0
  have f1220 := f1186.keep K1217
  have f1221 := f1187.keep K1217
  have f1222 := f1188.keep K1217 nin0
  have f1223 := f1189.keep K1217 nin0
  have f1224 := f1190.keep K1217 nin0
  have f1225 := f1191.keep K1217 nin0
  have f1226 := f1192.keep K1217 nin0
  have f1227 := f1193.keep K1217 nin0
  have f1228 := f1194.keep K1217 nin0
  have f1229 := f1195.keep K1217
  have f1230 := f1196.keep K1217 nin0
  have f1231 := f1197.keep K1217 nin0
  have f1232 := f1198.keep K1217 nin0
  have f1233 := f1199.keep K1217
  have f1234 := f1200.keep K1217 nin0
  have f1235 := f1201.keep K1217 nin0
  have f1236 := f1202.keep K1217 nin0
  have f1237 := f1203.keep K1217
  have f1238 := f1204.keep K1217
  have f1239 := f1205.keep K1217
  have f1240 := f1206.keep K1217 nin0
  have f1241 := f1207.keep K1217 nin0
  have f1242 := f1208.keep K1217 nin0
  have f1243 := f1209.keep K1217 nin0
  have f1244 := f1210.keep K1217 nin0
  have f1245 := f1211.keep K1217 nin0
  have f1246 := f1212.keep K1217 nin0
  have f1247 := f1213.keep K1217
  have f1248 := f1214.keep K1217 nin0
  have f1249 := f1215.keep K1217 nin0
  have f1250 := f1216.keep K1217 nin0
  have f1251 := V1183.keep K1217 nin0
  have f1252 := FV1183.keep K1217 nin0
  have f1253 := FC1183.keep K1217 nin0
  have f1254 := FN1183.keep K1217 nin0
  have zs1217 : s.heap.size ≤ h1217.size := Nat.le_trans zs1183 K1217.1
  rw [own_tk (by simp)] at VV1217
  have V1217 : AV Z h1217 tb1217 .byte ([.int 91, .int y0, .int y1, .int 93, .int 58] ++ ds.map Value.int) := VV1217
  show Go p e below s n0 _ _ _ (T1217.setTop (mkF m 110 _ [(.ref t1217)]))
  refine g_astoreN X1217 hx (pc' := 111) rfl (hD hby d9_110) rfl (l' := #[.val (.ref t), .val (.int 1), .val (.ref t1217)]) rfl ?_
  refine g_aloadN X1217 hx (pc' := 112) rfl (hD hby d9_111) rfl rfl ?_
  refine g_getF X1217 hx hZ hown (wat hw 48 rfl) Via.refl f1228 (pc' := 115) rfl (hD hby d9_112) (fun T1255 X1255 => ?_)
  refine g_ifnullY X1255 hx (pcY := 152) (hD hby d9_115) (by decide) (by decide) ?_
  refine g_aloadN X1255 hx (pc' := 153) rfl (hD hby d9_152) rfl rfl ?_
  exact g_ret X1255 hx hlk hret rfl (Or.inr (Or.inr (Or.inr (Or.inr ⟨rfl, rfl, rfl⟩)))) (hD hby d9_153) (by decide) (by decide) hlow (⟨t1217, tb1217, rfl, Nat.le_trans hlow Gt1217, szt1217, Nat.le_trans hlow Gtb1217, sztb1217, f1218, E1217, FV1217, FC1217, ds, hDg, V1217⟩)
theorem rm9_p (l : Launch) (Z : State) (a0 : Array Value) (hw : HW a0 Z) (ws : List Jvm.Cond) (n0 : Nat) (Ts : List String) (t ho hb dO dT : Addr) (y0 y1 p' cz : Int32) (h0 : Heap) (hn0 : n0 ≤ h0.size) (hcw : Jvm.Lit.compactW.before a0 Z = true) (hkc : ∀ q ∈ consts_1, Jvm.Lit.constHeld Z q.1 q.2) (O2 : St0 Z (.int cz)) (hcz : ¬ cz = 0) (OLD : OldP Z n0 h0) (hT1 : ":" ∉ Ts) (hT2 : "[" ∉ Ts) (hT3 : "]" ∉ Ts) (S1 : St1 Z (.ref dO)) (A1 : AV Z Z.heap dO .byte DOL) (S2 : St2 Z (.ref dT)) (A2 : AV Z Z.heap dT .byte DTL) (hp0 : 0 ≤ p'.toInt) (hp1 : p'.toInt < 65536) (q : (¬ y0 = (58 : Int32) ∧ ¬ y1 = (58 : Int32)) ∨ ((y0 = (58 : Int32) ∨ y1 = (58 : Int32)) ∧ y0 = (91 : Int32))) (Et : Exa Z h0 t "com/example/lanternwood/lanternwood/ReplAddress") (F_host : Fld Z h0 t "com/example/lanternwood/lanternwood/ReplAddress" "host" "Ljava/lang/String;" (.ref ho)) (F_port : Fld Z h0 t "com/example/lanternwood/lanternwood/ReplAddress" "port" "I" (.int p')) (F_socket : Fld Z h0 t "com/example/lanternwood/lanternwood/ReplAddress" "socket" "Ljava/nio/file/Path;" .null) (F_portFile : Fld Z h0 t "com/example/lanternwood/lanternwood/ReplAddress" "portFile" "Ljava/nio/file/Path;" .null) (Eho : XSt Z h0 ho) (Fvho : SV Z h0 ho (.ref hb)) (Fcho : SC Z h0 ho (.int 0)) (Abho : AV Z h0 hb .byte [.int y0, .int y1]) :
    Con l Z n0 Ts ("]" :: "[" :: ":" :: Ts) (⟨"com/example/lanternwood/lanternwood/ReplAddress", "toString", "()Ljava/lang/String;"⟩ : MethodName) prog_17_method_12_code 3 (some (.object "java/lang/String")) ws ({ frames := 7, cells := 16, slots := 120, locals := 170 } : Room) #[(.ref t)] h0 (fun v h => ∃ t tb, v = some (.ref t) ∧ n0 ≤ t ∧ h0.size ≤ t ∧ n0 ≤ tb ∧ h0.size ≤ tb ∧ Keep h0 h [] ∧ XSt Z h t ∧ SV Z h t (.ref tb) ∧ SC Z h t (.int 0) ∧ ∃ ds, Dg p'.toInt ds ∧ AV Z h tb .byte ([.int y0, .int y1, .int 58] ++ ds.map Value.int)) := by
  rcases q with q | q
  · exact rm9_n l Z a0 hw ws n0 Ts t ho hb dO dT y0 y1 p' cz h0 hn0 hcw hkc O2 hcz OLD hT1 hT2 hT3 S1 A1 S2 A2 hp0 hp1 q.1 q.2 Et F_host F_port F_socket F_portFile Eho Fvho Fcho Abho
  · exact rm9_s l Z a0 hw ws n0 Ts t ho hb dO dT y0 y1 p' cz h0 hn0 hcw hkc O2 hcz OLD hT1 hT2 hT3 S1 A1 S2 A2 hp0 hp1 q.1 q.2 Et F_host F_port F_socket F_portFile Eho Fvho Fcho Abho
theorem own_kind (P Q R : Prop) : ((¬ P ∧ ¬ Q) ∨ ((P ∨ Q) ∧ R)) ∨ ((P ∨ Q) ∧ ¬ R) := by
  by_cases p : P
  · by_cases r : R
    · exact Or.inl (Or.inr ⟨Or.inl p, r⟩)
    · exact Or.inr ⟨Or.inl p, r⟩
  · by_cases q : Q
    · by_cases r : R
      · exact Or.inl (Or.inr ⟨Or.inr q, r⟩)
      · exact Or.inr ⟨Or.inr q, r⟩
    · exact Or.inl (Or.inl ⟨p, q⟩)
theorem own_chr {a c : Int32} (h : a = (c &&& (255 : Int32)).toUInt32.toUInt16.toUInt32.toInt32) : 0 ≤ a.toInt ∧ a.toInt ≤ 255 := by
  have q := ar_and c
  rw [h, ar_i2c q.1 (by omega)]; exact q
theorem own_nlt {a : Int32} (h : 0 ≤ a.toInt ∧ a.toInt ≤ 255) : ¬ (255 : Int32) < a := by
  rw [Int32.lt_iff_toInt_lt]; have e : (255 : Int32).toInt = 255 := rfl
  omega
theorem own_eqc {a : Int32} (h : 0 ≤ a.toInt ∧ a.toInt ≤ 255) : ((a.toInt8.toInt32 &&& (255 : Int32))).toUInt32.toUInt16.toUInt32.toInt32 = a := by
  rw [ar_b h.1 h.2]; exact ar_i2c h.1 (by omega)
theorem own_dig {y d : Int32} (hy : y.toInt = 48 + d.toInt) (h0 : 0 ≤ d.toInt) (h9 : d.toInt ≤ 9) : ((y &&& (255 : Int32))).toUInt32.toUInt16.toUInt32.toInt32 = ((48 : Int32) + d).toUInt32.toUInt16.toUInt32.toInt32 := by
  have e : (48 : Int32).toInt = 48 := rfl
  have q : y = (48 : Int32) + d := by
    apply Int32.toInt_inj.mp; rw [ar_add (by omega) (by omega)]; omega
  rw [ar_small (by omega) (by omega), q]
theorem own_port {x p : Int32} (h : p = (x &&& (2147483647 : Int32)) % (65536 : Int32)) : 0 ≤ p.toInt ∧ p.toInt < 65536 := by
  have h1 : (x.toUInt32 &&& 2147483647).toNat ≤ 2147483647 := by rw [UInt32.toNat_and]; exact Nat.and_le_right
  have e : (x &&& (2147483647 : Int32)) = (x.toUInt32 &&& 2147483647).toInt32 := rfl
  have h2 : 0 ≤ (x &&& (2147483647 : Int32)).toInt := by rw [e, ar_u (by omega)]; omega
  have e2 : (65536 : Int32).toInt = 65536 := rfl
  rw [h, ar_mod h2, e2]; omega
theorem rm41_g (l : Launch) (Z : State) (a0 : Array Value) (hw : HW a0 Z) (ws : List Jvm.Cond) (n0 : Nat) (Ts : List String) (t tb : Addr) (fo : Value) (ea : Addr) (i' k' : Int32) (ni : Nat) (xs es : List Value) (cz : Int32) (h0 : Heap) (hn0 : n0 ≤ h0.size) (O4 : St3 Z fo) (hfo : fo.isRef = true)  (O2 : St0 Z (.int cz)) (hcz : ¬ cz = 0) (OLD : OldP Z n0 h0) (Et : XSt Z h0 t) (Fvt : SV Z h0 t (.ref tb)) (Fct : SC Z h0 t (.int 0)) (Abt : AV Z h0 tb .byte xs) (hk : k'.toInt = (xs.length : Int)) (hi : i'.toInt = (ni : Int)) (Ae : AV Z h0 ea .char es) (hle : xs.length ≤ es.length) (hall : ∀ j, j < xs.length → ∃ x' e', xs.getD j .null = .int x' ∧ es.getD j .null = .int e' ∧ ((x' &&& (255 : Int32))).toUInt32.toUInt16.toUInt32.toInt32 = e') :
    Con l Z n0 Ts (Ts) (⟨"com/example/lanternwood/lanternwood/ReplAddressTcpPinLaw", "same", "(Ljava/lang/String;[CII)Z"⟩ : MethodName) method_3_code 4 (some .boolean) ws ({ frames := 4, cells := 0, slots := 0, locals := 88 } : Room) #[(.ref t), (.ref ea), (.int k'), (.int i')] h0 (fun v h => v = some (.int 1) ∧ h = h0) := by
  by_cases hik : i' < k'
  · have hni : ni < xs.length := by rw [Int32.lt_iff_toInt_lt, hi, hk] at hik; omega
    obtain ⟨x', e', h1, h2, h3⟩ := hall ni hni
    exact rm41_i l Z a0 hw ws n0 Ts t tb fo ea i' k' x' ni xs es e' cz h0 hn0 O4 hfo O2 hcz OLD Et Fvt Fct Abt hk hi h1 hik Ae (by omega) h2 h3
  · exact rm41_o l Z a0 hw ws n0 Ts t ea i' k' h0 hn0 hik
set_option maxRecDepth 65536 in
set_option maxHeartbeats 40000000 in
theorem tail0 (l : Launch) (Z : State) (a0 : Array Value) (hw : ∀ d ∈ tables_1, d.before a0 Z = true) (n0 : Nat) (Ts : List String) (t tb : Addr) (fo : Value) (ea ho : Addr) (c0 c1 pp a' b' p' z8 k' d4 d3 d2 d1 d0 cz : Int32) (xs es : List Value) {p : Program} {e : Env} {s : State} {m : MethodId} {below : List Frame} {meth : Method} {c : Code} {T0 : State} {h0 : Heap} (hn0 : n0 ≤ h0.size) (O4 : St3 Z fo) (hfo : fo.isRef = true)  (O2 : St0 Z (.int cz)) (hcz : ¬ cz = 0) (OLD : OldP Z n0 h0) (Et : XSt Z h0 t) (Fvt : SV Z h0 t (.ref tb)) (Fct : SC Z h0 t (.int 0)) (Abt : AV Z h0 tb .byte xs) (hk : k'.toInt = (xs.length : Int)) (Ae : AV Z h0 ea .char es) (hle : xs.length ≤ es.length) (hall : ∀ j, j < xs.length → ∃ x' e', xs.getD j .null = .int x' ∧ es.getD j .null = .int e' ∧ ((x' &&& (255 : Int32))).toUInt32.toUInt16.toUInt32.toInt32 = e') (hx : p.tables.exec = Jvm.exec) (hZ : Z.Warmed39 s.vm) (hby : c.code = code) (hml : c.maxLocals = 16) (hown : s.vm.findClass "com/example/lanternwood/lanternwood/ReplAddressTcpPinLaw" = some m.cls) (hret : meth.sig.returnType = ret) (hlk : meth.locks = false) (X0 : Wk p l e room_1 s m #[(.int c0), (.int c1), (.int pp)] below meth c n0 Z Ts [] T0 h0 21 142) :
    Go p e below s n0 ((Z, Ts, fun v h => v = some (.int 1)) : GQ) room_1.cells room_1.slots (T0.setTop (mkF m 297 #[.val (.int c0), .val (.int c1), .val (.int pp), .val (.int a'), .val (.int b'), .val (.int p'), .val (.ref ho), .val (.ref t), .val (.int z8), .val (.ref ea), .val (.int k'), .val (.int d4), .val (.int d3), .val (.int d2), .val (.int d1), .val (.int d0)] [])) := by
  refine g_aload X0 hx (pc' := 299) rfl (hD hby at_297) rfl rfl ?_
  refine g_callV X0 hx hZ hown (wat hw 217 rfl) (wat hw 123 rfl) (wat hw 125 rfl) (wat hw 124 rfl) (wat hw 4 rfl) (wat hw 126 rfl) (by decide) (a := t) Et (rm21 l Z a0 hw [] n0 (Ts) t tb xs k' cz h0 hn0 O2 hcz OLD Et Fvt Fct Abt hk) pd_10 rfl rfl (pc' := 302) rfl (hD hby at_299) (argsL := []) (rest := []) rfl (W := 0) (fun v1849 T1849 h1849 X1849 hQ1849 => ?_)
  obtain ⟨rfl, he1849⟩ := hQ1849
  rw [he1849] at X1849
  show Go p e below s n0 _ _ _ (T1849.setTop (mkF m 302 _ [(.int k')]))
  refine g_iload X1849 hx (pc' := 304) rfl (hD hby at_302) rfl ?_
  refine g_icmpN X1849 hx (pcN := 307) (hD hby at_304) rfl (show ¬ (¬ k' = k') from not_not_intro rfl) ?_
  refine g_aload X1849 hx (pc' := 309) rfl (hD hby at_307) rfl rfl ?_
  refine g_aload X1849 hx (pc' := 311) rfl (hD hby at_309) rfl rfl ?_
  refine g_iload X1849 hx (pc' := 313) rfl (hD hby at_311) rfl ?_
  refine g_iconst X1849 hx (pc' := 314) (z := (0 : Int32)) rfl (hD hby at_313) rfl ?_
  refine g_callS X1849 hx hZ hown (wat hw 218 rfl) (wat hw 219 rfl) (wat hw 220 rfl) (wat hw 221 rfl) (by decide) (rm41_g l Z a0 hw [] n0 (Ts) t tb fo ea (0 : Int32) k' 0 xs es cz h0 hn0 O4 hfo O2 hcz OLD Et Fvt Fct Abt hk rfl Ae hle hall) pd_37 rfl rfl (pc' := 317) rfl (hD hby at_314) (argsL := [(.ref t), (.ref ea), (.int k'), (.int 0)]) (rest := []) rfl (W := 0) (fun v1850 T1850 h1850 X1850 hQ1850 => ?_)
  obtain ⟨rfl, he1850⟩ := hQ1850
  rw [he1850] at X1850
  show Go p e below s n0 _ _ _ (T1850.setTop (mkF m 317 _ [(.int 1)]))
  refine g_ifN X1850 hx (pcN := 320) (hD hby at_317) rfl (show ¬ ((1 : Int32) = 0) from by decide) ?_
  refine g_aload X1850 hx (pc' := 322) rfl (hD hby at_320) rfl rfl ?_
  refine g_aload X1850 hx (pc' := 324) rfl (hD hby at_322) rfl rfl ?_
  refine g_iload X1850 hx (pc' := 326) rfl (hD hby at_324) rfl ?_
  refine g_iconst X1850 hx (pc' := 327) (z := (1 : Int32)) rfl (hD hby at_326) rfl ?_
  refine g_callS X1850 hx hZ hown (wat hw 218 rfl) (wat hw 219 rfl) (wat hw 220 rfl) (wat hw 221 rfl) (by decide) (rm41_g l Z a0 hw [] n0 (Ts) t tb fo ea (1 : Int32) k' 1 xs es cz h0 hn0 O4 hfo O2 hcz OLD Et Fvt Fct Abt hk rfl Ae hle hall) pd_37 rfl rfl (pc' := 330) rfl (hD hby at_327) (argsL := [(.ref t), (.ref ea), (.int k'), (.int 1)]) (rest := []) rfl (W := 0) (fun v1851 T1851 h1851 X1851 hQ1851 => ?_)
  obtain ⟨rfl, he1851⟩ := hQ1851
  rw [he1851] at X1851
  show Go p e below s n0 _ _ _ (T1851.setTop (mkF m 330 _ [(.int 1)]))
  refine g_ifN X1851 hx (pcN := 333) (hD hby at_330) rfl (show ¬ ((1 : Int32) = 0) from by decide) ?_
  refine g_aload X1851 hx (pc' := 335) rfl (hD hby at_333) rfl rfl ?_
  refine g_aload X1851 hx (pc' := 337) rfl (hD hby at_335) rfl rfl ?_
  refine g_iload X1851 hx (pc' := 339) rfl (hD hby at_337) rfl ?_
  refine g_iconst X1851 hx (pc' := 340) (z := (2 : Int32)) rfl (hD hby at_339) rfl ?_
  refine g_callS X1851 hx hZ hown (wat hw 218 rfl) (wat hw 219 rfl) (wat hw 220 rfl) (wat hw 221 rfl) (by decide) (rm41_g l Z a0 hw [] n0 (Ts) t tb fo ea (2 : Int32) k' 2 xs es cz h0 hn0 O4 hfo O2 hcz OLD Et Fvt Fct Abt hk rfl Ae hle hall) pd_37 rfl rfl (pc' := 343) rfl (hD hby at_340) (argsL := [(.ref t), (.ref ea), (.int k'), (.int 2)]) (rest := []) rfl (W := 0) (fun v1852 T1852 h1852 X1852 hQ1852 => ?_)
  obtain ⟨rfl, he1852⟩ := hQ1852
  rw [he1852] at X1852
  show Go p e below s n0 _ _ _ (T1852.setTop (mkF m 343 _ [(.int 1)]))
  refine g_ifN X1852 hx (pcN := 346) (hD hby at_343) rfl (show ¬ ((1 : Int32) = 0) from by decide) ?_
  refine g_aload X1852 hx (pc' := 348) rfl (hD hby at_346) rfl rfl ?_
  refine g_aload X1852 hx (pc' := 350) rfl (hD hby at_348) rfl rfl ?_
  refine g_iload X1852 hx (pc' := 352) rfl (hD hby at_350) rfl ?_
  refine g_iconst X1852 hx (pc' := 353) (z := (3 : Int32)) rfl (hD hby at_352) rfl ?_
  refine g_callS X1852 hx hZ hown (wat hw 218 rfl) (wat hw 219 rfl) (wat hw 220 rfl) (wat hw 221 rfl) (by decide) (rm41_g l Z a0 hw [] n0 (Ts) t tb fo ea (3 : Int32) k' 3 xs es cz h0 hn0 O4 hfo O2 hcz OLD Et Fvt Fct Abt hk rfl Ae hle hall) pd_37 rfl rfl (pc' := 356) rfl (hD hby at_353) (argsL := [(.ref t), (.ref ea), (.int k'), (.int 3)]) (rest := []) rfl (W := 0) (fun v1853 T1853 h1853 X1853 hQ1853 => ?_)
  obtain ⟨rfl, he1853⟩ := hQ1853
  rw [he1853] at X1853
  show Go p e below s n0 _ _ _ (T1853.setTop (mkF m 356 _ [(.int 1)]))
  refine g_ifN X1853 hx (pcN := 359) (hD hby at_356) rfl (show ¬ ((1 : Int32) = 0) from by decide) ?_
  refine g_aload X1853 hx (pc' := 361) rfl (hD hby at_359) rfl rfl ?_
  refine g_aload X1853 hx (pc' := 363) rfl (hD hby at_361) rfl rfl ?_
  refine g_iload X1853 hx (pc' := 365) rfl (hD hby at_363) rfl ?_
  refine g_iconst X1853 hx (pc' := 366) (z := (4 : Int32)) rfl (hD hby at_365) rfl ?_
  refine g_callS X1853 hx hZ hown (wat hw 218 rfl) (wat hw 219 rfl) (wat hw 220 rfl) (wat hw 221 rfl) (by decide) (rm41_g l Z a0 hw [] n0 (Ts) t tb fo ea (4 : Int32) k' 4 xs es cz h0 hn0 O4 hfo O2 hcz OLD Et Fvt Fct Abt hk rfl Ae hle hall) pd_37 rfl rfl (pc' := 369) rfl (hD hby at_366) (argsL := [(.ref t), (.ref ea), (.int k'), (.int 4)]) (rest := []) rfl (W := 0) (fun v1854 T1854 h1854 X1854 hQ1854 => ?_)
  obtain ⟨rfl, he1854⟩ := hQ1854
  rw [he1854] at X1854
  show Go p e below s n0 _ _ _ (T1854.setTop (mkF m 369 _ [(.int 1)]))
  refine g_ifN X1854 hx (pcN := 372) (hD hby at_369) rfl (show ¬ ((1 : Int32) = 0) from by decide) ?_
  refine g_aload X1854 hx (pc' := 374) rfl (hD hby at_372) rfl rfl ?_
  refine g_aload X1854 hx (pc' := 376) rfl (hD hby at_374) rfl rfl ?_
  refine g_iload X1854 hx (pc' := 378) rfl (hD hby at_376) rfl ?_
  refine g_iconst X1854 hx (pc' := 379) (z := (5 : Int32)) rfl (hD hby at_378) rfl ?_
  refine g_callS X1854 hx hZ hown (wat hw 218 rfl) (wat hw 219 rfl) (wat hw 220 rfl) (wat hw 221 rfl) (by decide) (rm41_g l Z a0 hw [] n0 (Ts) t tb fo ea (5 : Int32) k' 5 xs es cz h0 hn0 O4 hfo O2 hcz OLD Et Fvt Fct Abt hk rfl Ae hle hall) pd_37 rfl rfl (pc' := 382) rfl (hD hby at_379) (argsL := [(.ref t), (.ref ea), (.int k'), (.int 5)]) (rest := []) rfl (W := 0) (fun v1855 T1855 h1855 X1855 hQ1855 => ?_)
  obtain ⟨rfl, he1855⟩ := hQ1855
  rw [he1855] at X1855
  show Go p e below s n0 _ _ _ (T1855.setTop (mkF m 382 _ [(.int 1)]))
  refine g_ifN X1855 hx (pcN := 385) (hD hby at_382) rfl (show ¬ ((1 : Int32) = 0) from by decide) ?_
  refine g_aload X1855 hx (pc' := 387) rfl (hD hby at_385) rfl rfl ?_
  refine g_aload X1855 hx (pc' := 389) rfl (hD hby at_387) rfl rfl ?_
  refine g_iload X1855 hx (pc' := 391) rfl (hD hby at_389) rfl ?_
  refine g_bipush X1855 hx (pc' := 393) (z := (6 : Int32)) rfl (hD hby at_391) rfl ?_
  refine g_callS X1855 hx hZ hown (wat hw 218 rfl) (wat hw 219 rfl) (wat hw 220 rfl) (wat hw 221 rfl) (by decide) (rm41_g l Z a0 hw [] n0 (Ts) t tb fo ea (6 : Int32) k' 6 xs es cz h0 hn0 O4 hfo O2 hcz OLD Et Fvt Fct Abt hk rfl Ae hle hall) pd_37 rfl rfl (pc' := 396) rfl (hD hby at_393) (argsL := [(.ref t), (.ref ea), (.int k'), (.int 6)]) (rest := []) rfl (W := 0) (fun v1856 T1856 h1856 X1856 hQ1856 => ?_)
  obtain ⟨rfl, he1856⟩ := hQ1856
  rw [he1856] at X1856
  show Go p e below s n0 _ _ _ (T1856.setTop (mkF m 396 _ [(.int 1)]))
  refine g_ifN X1856 hx (pcN := 399) (hD hby at_396) rfl (show ¬ ((1 : Int32) = 0) from by decide) ?_
  refine g_aload X1856 hx (pc' := 401) rfl (hD hby at_399) rfl rfl ?_
  refine g_aload X1856 hx (pc' := 403) rfl (hD hby at_401) rfl rfl ?_
  refine g_iload X1856 hx (pc' := 405) rfl (hD hby at_403) rfl ?_
  refine g_bipush X1856 hx (pc' := 407) (z := (7 : Int32)) rfl (hD hby at_405) rfl ?_
  refine g_callS X1856 hx hZ hown (wat hw 218 rfl) (wat hw 219 rfl) (wat hw 220 rfl) (wat hw 221 rfl) (by decide) (rm41_g l Z a0 hw [] n0 (Ts) t tb fo ea (7 : Int32) k' 7 xs es cz h0 hn0 O4 hfo O2 hcz OLD Et Fvt Fct Abt hk rfl Ae hle hall) pd_37 rfl rfl (pc' := 410) rfl (hD hby at_407) (argsL := [(.ref t), (.ref ea), (.int k'), (.int 7)]) (rest := []) rfl (W := 0) (fun v1857 T1857 h1857 X1857 hQ1857 => ?_)
  obtain ⟨rfl, he1857⟩ := hQ1857
  rw [he1857] at X1857
  show Go p e below s n0 _ _ _ (T1857.setTop (mkF m 410 _ [(.int 1)]))
  refine g_ifN X1857 hx (pcN := 413) (hD hby at_410) rfl (show ¬ ((1 : Int32) = 0) from by decide) ?_
  refine g_aload X1857 hx (pc' := 415) rfl (hD hby at_413) rfl rfl ?_
  refine g_aload X1857 hx (pc' := 417) rfl (hD hby at_415) rfl rfl ?_
  refine g_iload X1857 hx (pc' := 419) rfl (hD hby at_417) rfl ?_
  refine g_bipush X1857 hx (pc' := 421) (z := (8 : Int32)) rfl (hD hby at_419) rfl ?_
  refine g_callS X1857 hx hZ hown (wat hw 218 rfl) (wat hw 219 rfl) (wat hw 220 rfl) (wat hw 221 rfl) (by decide) (rm41_g l Z a0 hw [] n0 (Ts) t tb fo ea (8 : Int32) k' 8 xs es cz h0 hn0 O4 hfo O2 hcz OLD Et Fvt Fct Abt hk rfl Ae hle hall) pd_37 rfl rfl (pc' := 424) rfl (hD hby at_421) (argsL := [(.ref t), (.ref ea), (.int k'), (.int 8)]) (rest := []) rfl (W := 0) (fun v1858 T1858 h1858 X1858 hQ1858 => ?_)
  obtain ⟨rfl, he1858⟩ := hQ1858
  rw [he1858] at X1858
  show Go p e below s n0 _ _ _ (T1858.setTop (mkF m 424 _ [(.int 1)]))
  refine g_ifN X1858 hx (pcN := 427) (hD hby at_424) rfl (show ¬ ((1 : Int32) = 0) from by decide) ?_
  refine g_aload X1858 hx (pc' := 429) rfl (hD hby at_427) rfl rfl ?_
  refine g_aload X1858 hx (pc' := 431) rfl (hD hby at_429) rfl rfl ?_
  refine g_iload X1858 hx (pc' := 433) rfl (hD hby at_431) rfl ?_
  refine g_bipush X1858 hx (pc' := 435) (z := (9 : Int32)) rfl (hD hby at_433) rfl ?_
  refine g_callS X1858 hx hZ hown (wat hw 218 rfl) (wat hw 219 rfl) (wat hw 220 rfl) (wat hw 221 rfl) (by decide) (rm41_g l Z a0 hw [] n0 (Ts) t tb fo ea (9 : Int32) k' 9 xs es cz h0 hn0 O4 hfo O2 hcz OLD Et Fvt Fct Abt hk rfl Ae hle hall) pd_37 rfl rfl (pc' := 438) rfl (hD hby at_435) (argsL := [(.ref t), (.ref ea), (.int k'), (.int 9)]) (rest := []) rfl (W := 0) (fun v1859 T1859 h1859 X1859 hQ1859 => ?_)
  obtain ⟨rfl, he1859⟩ := hQ1859
  rw [he1859] at X1859
  show Go p e below s n0 _ _ _ (T1859.setTop (mkF m 438 _ [(.int 1)]))
  refine g_ifN X1859 hx (pcN := 441) (hD hby at_438) rfl (show ¬ ((1 : Int32) = 0) from by decide) ?_
  refine g_iconst X1859 hx (pc' := 442) (z := (1 : Int32)) rfl (hD hby at_441) rfl ?_
  refine g_goto X1859 hx (pc' := 446) (hD hby at_442) (by decide) (by decide) ?_
  exact g_retZ X1859 hx hlk hret (by first | exact Or.inl rfl | exact Or.inr rfl) (hD hby at_446) (by decide) (by decide) (Nat.le_refl _) (rfl)
theorem rm0 (l : Launch) (Z : State) (a0 : Array Value) (hw : HW a0 Z) (ws : List Jvm.Cond) (n0 : Nat) (Ts : List String) (c0 c1 pp cz : Int32) (dO dT : Addr) (fo : Value) (h0 : Heap) (hn0 : n0 ≤ h0.size) (hcw : Jvm.Lit.compactW.before a0 Z = true) (hkc : ∀ q ∈ consts_1, Jvm.Lit.constHeld Z q.1 q.2) (O2 : St0 Z (.int cz)) (hcz : ¬ cz = 0) (OLD : OldP Z n0 h0) (hT1 : ":" ∉ Ts) (hT2 : "[" ∉ Ts) (hT3 : "]" ∉ Ts) (S1 : St1 Z (.ref dO)) (A1 : AV Z Z.heap dO .byte DOL) (S2 : St2 Z (.ref dT)) (A2 : AV Z Z.heap dT .byte DTL) (O4 : St3 Z fo) (hfo : fo.isRef = true)  :
    Con l Z n0 Ts ("]" :: "[" :: ":" :: Ts) x code maxLocals ret ws room_1 #[(.int c0), (.int c1), (.int pp)] h0 (fun v h => v = some (.int 1)) := by
  refine con_start (hfr := fun m => by first | (simp [entryFrame, mkF, argsToLocals, Value.category, maxLocals]; done) | rfl) (fr0 := fun m => mkF m 0 #[.val (.int c0), .val (.int c1), .val (.int pp), .unset, .unset, .unset, .unset, .unset, .unset, .unset, .unset, .unset, .unset, .unset, .unset, .unset] []) ?_
  intro p e s m below meth c T0 hx hZ hby hml hown hnm hret hlk hsh XA
  have X0 := XA n0
  have hlow : n0 ≤ s.heap.size := by rw [hsh]; exact hn0
  replace hown : s.vm.findClass "com/example/lanternwood/lanternwood/ReplAddressTcpPinLaw" = some m.cls := hown
  replace hml : c.maxLocals = 16 := hml
  refine g_iloadN X0 hx (pc' := 1) rfl (hD hby at_0) rfl ?_
  refine g_sipush X0 hx (pc' := 4) (z := (255 : Int32)) rfl (hD hby at_1) rfl ?_
  refine g_iand X0 hx (pc' := 5) rfl (hD hby at_4) ?_
  refine g_i2c X0 hx (pc' := 6) rfl (hD hby at_5) ?_
  refine g_absI (fun a' h_a' => ?_)
  refine g_istoreN X0 hx (pc' := 7) rfl (hD hby at_6) (l' := #[.val (.int c0), .val (.int c1), .val (.int pp), .val (.int a'), .unset, .unset, .unset, .unset, .unset, .unset, .unset, .unset, .unset, .unset, .unset, .unset]) rfl ?_
  have b_a' := own_chr h_a'
  have n_a' : nar .char a' = a' := by rw [h_a']; exact nar_i2c _
  refine g_iloadN X0 hx (pc' := 8) rfl (hD hby at_7) rfl ?_
  refine g_sipush X0 hx (pc' := 11) (z := (255 : Int32)) rfl (hD hby at_8) rfl ?_
  refine g_iand X0 hx (pc' := 12) rfl (hD hby at_11) ?_
  refine g_i2c X0 hx (pc' := 13) rfl (hD hby at_12) ?_
  refine g_absI (fun b' h_b' => ?_)
  refine g_istore X0 hx (pc' := 15) rfl (hD hby at_13) (l' := #[.val (.int c0), .val (.int c1), .val (.int pp), .val (.int a'), .val (.int b'), .unset, .unset, .unset, .unset, .unset, .unset, .unset, .unset, .unset, .unset, .unset]) rfl ?_
  have b_b' := own_chr h_b'
  have n_b' : nar .char b' = b' := by rw [h_b']; exact nar_i2c _
  refine g_iloadN X0 hx (pc' := 16) rfl (hD hby at_15) rfl ?_
  refine g_ldcI X0 hx hZ hown (wat hw 0 rfl) (pc' := 18) (v := (2147483647 : Int32)) rfl (hD hby at_16) ?_
  refine g_iand X0 hx (pc' := 19) rfl (hD hby at_18) ?_
  refine g_ldcI X0 hx hZ hown (wat hw 1 rfl) (pc' := 21) (v := (65536 : Int32)) rfl (hD hby at_19) ?_
  refine g_irem X0 hx (pc' := 22) rfl (hD hby at_21) (by decide) ?_
  refine g_absI (fun p' h_p' => ?_)
  refine g_istore X0 hx (pc' := 24) rfl (hD hby at_22) (l' := #[.val (.int c0), .val (.int c1), .val (.int pp), .val (.int a'), .val (.int b'), .val (.int p'), .unset, .unset, .unset, .unset, .unset, .unset, .unset, .unset, .unset, .unset]) rfl ?_
  obtain ⟨hp0, hp1⟩ := own_port h_p'
  refine g_newO X0 hx hZ hown (wat hw 2 rfl) (wat hw 3 rfl) (wat hw 4 rfl) (pc' := 27) rfl (hD hby at_24) (by decide) (by decide) (fun T1256 h1256 a1256 ha1256 X1256 E1256 A1256 D1256 => ?_)
  have G_a1256 : n0 ≤ a1256 := by rw [ha1256]; exact hn0
  have Zs1256 : n0 ≤ h1256.size := Nat.le_trans hn0 E1256.1
  have f1257 := OLD.ext E1256
  have F1256_coder : SC Z h1256 a1256 (.int 0) := D1256 (Or.inr (wat hw 29 rfl)) (ty := .byte) (by decide)
  have F1256_value : SV Z h1256 a1256 .null := D1256 (Or.inr (wat hw 31 rfl)) (ty := (.array .byte)) (by decide)
  refine g_dup X1256 hx (pc' := 28) rfl (hD hby at_27) rfl ?_
  refine g_iconst X1256 hx (pc' := 29) (z := (2 : Int32)) rfl (hD hby at_28) rfl ?_
  refine g_newA X1256 hx hZ (aty := .char) (wat hw 5 rfl) (N := 2) (by decide) (cap := 2) (Nat.le_refl _) (by decide) (pc' := 31) rfl (hD hby at_29) (by decide) (by decide) (fun T1258 h1258 a1258 ha1258 X1258 E1258 N1258 => ?_)
  have ne1258_a1256 : a1256 ≠ a1258 := by rw [ha1258]; exact Nat.ne_of_lt A1256.lt
  have f1259 := A1256.ext E1258
  have f1260 := F1256_coder.ext E1258
  have f1261 := F1256_value.ext E1258
  have G_a1258 : n0 ≤ a1258 := by rw [ha1258]; exact Zs1256
  have Zs1258 : n0 ≤ h1258.size := Nat.le_trans Zs1256 E1258.1
  have f1262 := f1257.ext E1258
  have V1258 : AV Z h1258 a1258 .char [.int 0, .int 0] := N1258
  refine g_dup X1258 hx (pc' := 32) rfl (hD hby at_31) rfl ?_
  refine g_iconst X1258 hx (pc' := 33) (z := (0 : Int32)) rfl (hD hby at_32) rfl ?_
  refine g_iloadN X1258 hx (pc' := 34) rfl (hD hby at_33) rfl ?_
  refine g_castore X1258 hx hZ V1258 (i := 0) (by decide) (show (0 : Nat) < 2 by decide) G_a1258 (y := a') n_a' (pc' := 35) rfl (hD hby at_34) (fun T1263 h1263 X1263 W1263 N1263 => ?_)
  have f1264 := (by have q := (Keep.of_wr W1263).1; exact Nat.le_trans Zs1258 q : n0 ≤ h1263.size)
  have f1265 := f1262.wr W1263 G_a1258
  have f1266 := f1259.wr W1263
  have f1267 := f1260.other W1263 (Or.inl ne1258_a1256)
  have f1268 := f1261.other W1263 (Or.inl ne1258_a1256)
  have V1263 : AV Z h1263 a1258 .char [.int a', .int 0] := N1263
  refine g_dup X1263 hx (pc' := 36) rfl (hD hby at_35) rfl ?_
  refine g_iconst X1263 hx (pc' := 37) (z := (1 : Int32)) rfl (hD hby at_36) rfl ?_
  refine g_iload X1263 hx (pc' := 39) rfl (hD hby at_37) rfl ?_
  refine g_castore X1263 hx hZ V1263 (i := 1) (by decide) (show (1 : Nat) < 2 by decide) G_a1258 (y := b') n_b' (pc' := 40) rfl (hD hby at_39) (fun T1269 h1269 X1269 W1269 N1269 => ?_)
  have f1270 := (by have q := (Keep.of_wr W1269).1; exact Nat.le_trans f1264 q : n0 ≤ h1269.size)
  have f1271 := f1265.wr W1269 G_a1258
  have f1272 := f1266.wr W1269
  have f1273 := f1267.other W1269 (Or.inl ne1258_a1256)
  have f1274 := f1268.other W1269 (Or.inl ne1258_a1256)
  have V1269 : AV Z h1269 a1258 .char [.int a', .int b'] := N1269
  refine g_callI X1269 hx hZ hown rfl (wat hw 6 rfl) (wat hw 7 rfl) (wat hw 4 rfl) (wat hw 8 rfl) (by decide) (a := a1256) (rm1 l Z a0 hw [] n0 (Ts) a1256 a1258 a' b' cz h1269 f1270 O2 hcz f1271 (own_nlt b_a') (own_nlt b_b') V1269 f1272 G_a1256 f1273 f1274) pd_35 rfl rfl (pc' := 43) rfl (hD hby at_40) (argsL := [(.ref a1258)]) (rest := [(.ref a1256)]) rfl (W := 1) (fun v1275 T1275 h1275 X1275 hQ1275 => ?_)
  obtain ⟨rfl, K1275, nb1275, Gnb1275, S1275, V1275, FV1275, FC1275⟩ := hQ1275
  have nenb1275_a1256 : a1256 ≠ nb1275 := Nat.ne_of_lt (Nat.lt_of_lt_of_le f1272.lt S1275)
  have nenb1275_a1258 : a1258 ≠ nb1275 := Nat.ne_of_lt (Nat.lt_of_lt_of_le V1269.lt S1275)
  have f1276 := f1271.keep K1275 (allS G_a1256 all0)
  have f1277 := f1272.keep K1275
  have f1278 := V1269.keep K1275 (ninS ne1258_a1256.symm nin0)
  have zs1275 : n0 ≤ h1275.size := Nat.le_trans f1270 K1275.1
  show Go p e below s n0 _ _ _ (T1275.setTop (mkF m 43 _ [(.ref a1256)]))
  refine g_astore X1275 hx (pc' := 45) rfl (hD hby at_43) rfl (l' := #[.val (.int c0), .val (.int c1), .val (.int pp), .val (.int a'), .val (.int b'), .val (.int p'), .val (.ref a1256), .unset, .unset, .unset, .unset, .unset, .unset, .unset, .unset, .unset]) rfl ?_
  refine g_aload X1275 hx (pc' := 47) rfl (hD hby at_45) rfl rfl ?_
  refine g_iload X1275 hx (pc' := 49) rfl (hD hby at_47) rfl ?_
  refine g_callS X1275 hx hZ hown (wat hw 32 rfl) (wat hw 33 rfl) (wat hw 34 rfl) (wat hw 35 rfl) (by decide) (rm7 l Z a0 hw [] n0 (Ts) a1256 p' h1275 zs1275 ) pd_36 rfl rfl (pc' := 52) rfl (hD hby at_49) (argsL := [(.ref a1256), (.int p')]) (rest := []) rfl (W := 0) (fun v1279 T1279 h1279 X1279 hQ1279 => ?_)
  obtain ⟨r1279, rfl, Gr1279, S1279, K1279, E1279, R0_1279, R1_1279, R2_1279, R3_1279⟩ := hQ1279
  have ner1279_a1256 : a1256 ≠ r1279 := Nat.ne_of_lt (Nat.lt_of_lt_of_le f1277.lt S1279)
  have ner1279_nb1275 : nb1275 ≠ r1279 := Nat.ne_of_lt (Nat.lt_of_lt_of_le V1275.lt S1279)
  have f1280 := f1276.keep K1279 all0
  have f1281 := f1277.keep K1279
  have f1282 := V1275.keep K1279 nin0
  have f1283 := FV1275.keep K1279 nin0
  have f1284 := FC1275.keep K1279 nin0
  have zs1279 : n0 ≤ h1279.size := Nat.le_trans zs1275 K1279.1
  show Go p e below s n0 _ _ _ (T1279.setTop (mkF m 52 _ [(.ref r1279)]))
  rcases own_kind (a'.toInt8.toInt32 = (58 : Int32)) (b'.toInt8.toInt32 = (58 : Int32)) (a'.toInt8.toInt32 = (91 : Int32)) with kk | kk
  · skip
    have kb : (¬ a' = 58 ∧ ¬ b' = 58) ∨ ((a' = 58 ∨ b' = 58) ∧ a' = 91) := kk.imp (fun q => ⟨fun r => q.1 ((ar_58 b_a'.1 b_a'.2).mpr r), fun r => q.2 ((ar_58 b_b'.1 b_b'.2).mpr r)⟩) (fun q => ⟨q.1.imp (ar_58 b_a'.1 b_a'.2).mp (ar_58 b_b'.1 b_b'.2).mp, (ar_91 b_a'.1 b_a'.2).mp q.2⟩)
    have ka : ¬ a' = 58 := by rcases kb with q | q; exact q.1; intro r; rw [r] at q; exact absurd q.2 (by decide)
    refine g_callV X1279 hx hZ hown (wat hw 50 rfl) (wat hw 51 rfl) (wat hw 53 rfl) (wat hw 52 rfl) (wat hw 34 rfl) (wat hw 54 rfl) (by decide) (a := r1279) E1279 (rm9_p l Z a0 hw [] n0 (Ts) r1279 a1256 nb1275 dO dT a'.toInt8.toInt32 b'.toInt8.toInt32 p' cz h1279 zs1279 hcw hkc O2 hcz f1280 hT1 hT2 hT3 S1 A1 S2 A2 hp0 hp1 kk E1279 R0_1279 R1_1279 R2_1279 R3_1279 f1281 f1283 f1284 f1282) pd_8 rfl rfl (pc' := 55) rfl (hD hby at_52) (argsL := []) (rest := []) rfl (W := 0) (fun v1285 T1285 h1285 X1285 hQ1285 => ?_)
    obtain ⟨t1285, tb1285, rfl, Gt1285, S1285, Gtb1285, SB1285, K1285, E1285, FV1285, FC1285, ds, hDg, VV1285⟩ := hQ1285
    have f1286 := f1280.keep K1285 all0
    have f1287 := f1281.keep K1285
    have f1288 := f1282.keep K1285 nin0
    have f1289 := f1283.keep K1285 nin0
    have f1290 := f1284.keep K1285 nin0
    have f1291 := E1279.keep K1285
    have zs1285 : n0 ≤ h1285.size := Nat.le_trans zs1279 K1285.1
    show Go p e below s n0 _ _ _ (T1285.setTop (mkF m 55 _ [(.ref t1285)]))
    rcases hDg with ⟨hu, y0, rfl, k0⟩ | ⟨hl, hu, y0, y1, rfl, k0, k1⟩ | ⟨hl, hu, y0, y1, y2, rfl, k0, k1, k2⟩ | ⟨hl, hu, y0, y1, y2, y3, rfl, k0, k1, k2, k3⟩ | ⟨hl, hu, y0, y1, y2, y3, y4, rfl, k0, k1, k2, k3, k4⟩
    · skip
      have V1285 : AV Z h1285 tb1285 .byte [.int (a').toInt8.toInt32, .int (b').toInt8.toInt32, .int 58, .int y0] := VV1285
      refine g_astore X1285 hx (pc' := 57) rfl (hD hby at_55) rfl (l' := #[.val (.int c0), .val (.int c1), .val (.int pp), .val (.int a'), .val (.int b'), .val (.int p'), .val (.ref a1256), .val (.ref t1285), .unset, .unset, .unset, .unset, .unset, .unset, .unset, .unset]) rfl ?_
      refine g_iloadN X1285 hx (pc' := 58) rfl (hD hby at_57) rfl ?_
      refine g_bipush X1285 hx (pc' := 60) (z := (58 : Int32)) rfl (hD hby at_58) rfl ?_
      refine g_icmpN X1285 hx (pcN := 63) (hD hby at_60) rfl (show ¬ (a' = (58 : Int32)) from ka) ?_
      refine g_iload X1285 hx (pc' := 65) rfl (hD hby at_63) rfl ?_
      refine g_bipush X1285 hx (pc' := 67) (z := (58 : Int32)) rfl (hD hby at_65) rfl ?_
      suffices J67 : Go p e below s n0 ((Z, ("]" :: "[" :: ":" :: Ts), fun v h => v = some (.int 1)) : GQ) room_1.cells room_1.slots (T1285.setTop (mkF m 80 #[.val (.int c0), .val (.int c1), .val (.int pp), .val (.int a'), .val (.int b'), .val (.int p'), .val (.ref a1256), .val (.ref t1285), .unset, .unset, .unset, .unset, .unset, .unset, .unset, .unset] [])) by
        refine g_icmp X1285 hx (pcY := 80) (pcN := 70) (hD hby at_67) (by decide) (by decide) rfl (fun hc67 => ?_) (fun hc67 => ?_)
        · replace hc67 : ¬ b' = (58 : Int32) := hc67
          exact J67  
        · replace hc67 : b' = (58 : Int32) := Classical.not_not.mp hc67
          refine g_iloadN X1285 hx (pc' := 71) rfl (hD hby at_70) rfl ?_
          refine g_bipush X1285 hx (pc' := 73) (z := (91 : Int32)) rfl (hD hby at_71) rfl ?_
          refine g_icmpY X1285 hx (pcY := 80) (hD hby at_73) (by decide) (by decide) (show a' = (91 : Int32) from (kb.resolve_left (fun q => q.2 hc67)).2) ?_
          exact J67  
      refine g_iconst X1285 hx (pc' := 81) (z := (0 : Int32)) rfl (hD hby at_80) rfl ?_
      refine g_istore X1285 hx (pc' := 83) rfl (hD hby at_81) (l' := #[.val (.int c0), .val (.int c1), .val (.int pp), .val (.int a'), .val (.int b'), .val (.int p'), .val (.ref a1256), .val (.ref t1285), .val (.int 0), .unset, .unset, .unset, .unset, .unset, .unset, .unset]) rfl ?_
      refine g_bipush X1285 hx (pc' := 85) (z := (10 : Int32)) rfl (hD hby at_83) rfl ?_
      refine g_newA X1285 hx hZ (aty := .char) (wat hw 5 rfl) (N := 10) (by decide) (cap := 10) (Nat.le_refl _) (by decide) (pc' := 87) rfl (hD hby at_85) (by decide) (by decide) (fun T1292 h1292 a1292 ha1292 X1292 E1292 N1292 => ?_)
      have ne1292_t1285 : t1285 ≠ a1292 := by rw [ha1292]; exact Nat.ne_of_lt E1285.lt
      have ne1292_tb1285 : tb1285 ≠ a1292 := by rw [ha1292]; exact Nat.ne_of_lt V1285.lt
      have f1293 := E1285.ext E1292
      have f1294 := FV1285.ext E1292
      have f1295 := FC1285.ext E1292
      have f1296 := V1285.ext E1292
      have G_a1292 : n0 ≤ a1292 := by rw [ha1292]; exact zs1285
      have Zs1292 : n0 ≤ h1292.size := Nat.le_trans zs1285 E1292.1
      have f1297 := f1286.ext E1292
      have V1292 : AV Z h1292 a1292 .char [.int 0, .int 0, .int 0, .int 0, .int 0, .int 0, .int 0, .int 0, .int 0, .int 0] := N1292
      refine g_astore X1292 hx (pc' := 89) rfl (hD hby at_87) rfl (l' := #[.val (.int c0), .val (.int c1), .val (.int pp), .val (.int a'), .val (.int b'), .val (.int p'), .val (.ref a1256), .val (.ref t1285), .val (.int 0), .val (.ref a1292), .unset, .unset, .unset, .unset, .unset, .unset]) rfl ?_
      refine g_iconst X1292 hx (pc' := 90) (z := (0 : Int32)) rfl (hD hby at_89) rfl ?_
      refine g_istore X1292 hx (pc' := 92) rfl (hD hby at_90) (l' := #[.val (.int c0), .val (.int c1), .val (.int pp), .val (.int a'), .val (.int b'), .val (.int p'), .val (.ref a1256), .val (.ref t1285), .val (.int 0), .val (.ref a1292), .val (.int 0), .unset, .unset, .unset, .unset, .unset]) rfl ?_
      refine g_iload X1292 hx (pc' := 94) rfl (hD hby at_92) rfl ?_
      refine g_ifY X1292 hx (pcY := 107) (hD hby at_94) (by decide) (by decide) (show (0 : Int32) = 0 from by decide) ?_
      refine g_aload X1292 hx (pc' := 109) rfl (hD hby at_107) rfl rfl ?_
      refine g_iload X1292 hx (pc' := 111) rfl (hD hby at_109) rfl ?_
      refine g_iloadN X1292 hx (pc' := 112) rfl (hD hby at_111) rfl ?_
      refine g_castore X1292 hx hZ V1292 (i := 0) (by decide) (show (0 : Nat) < 10 by decide) G_a1292 (y := a') n_a' (pc' := 113) rfl (hD hby at_112) (fun T1298 h1298 X1298 W1298 N1298 => ?_)
      have f1299 := (by have q := (Keep.of_wr W1298).1; exact Nat.le_trans Zs1292 q : n0 ≤ h1298.size)
      have f1300 := f1297.wr W1298 G_a1292
      have f1301 := f1293.wr W1298
      have f1302 := f1294.other W1298 (Or.inl ne1292_t1285)
      have f1303 := f1295.other W1298 (Or.inl ne1292_t1285)
      have f1304 := f1296.other W1298 ne1292_tb1285
      have V1298 : AV Z h1298 a1292 .char [.int a', .int 0, .int 0, .int 0, .int 0, .int 0, .int 0, .int 0, .int 0, .int 0] := N1298
      refine g_iincC X1298 hx (pc' := 116) (x := (0 : Int32)) (z := (1 : Int32)) rfl (hD hby at_113) rfl (by decide) (l' := #[.val (.int c0), .val (.int c1), .val (.int pp), .val (.int a'), .val (.int b'), .val (.int p'), .val (.ref a1256), .val (.ref t1285), .val (.int 0), .val (.ref a1292), .val (.int 1), .unset, .unset, .unset, .unset, .unset]) rfl ?_
      refine g_aload X1298 hx (pc' := 118) rfl (hD hby at_116) rfl rfl ?_
      refine g_iload X1298 hx (pc' := 120) rfl (hD hby at_118) rfl ?_
      refine g_iload X1298 hx (pc' := 122) rfl (hD hby at_120) rfl ?_
      refine g_castore X1298 hx hZ V1298 (i := 1) (by decide) (show (1 : Nat) < 10 by decide) G_a1292 (y := b') n_b' (pc' := 123) rfl (hD hby at_122) (fun T1305 h1305 X1305 W1305 N1305 => ?_)
      have f1306 := (by have q := (Keep.of_wr W1305).1; exact Nat.le_trans f1299 q : n0 ≤ h1305.size)
      have f1307 := f1300.wr W1305 G_a1292
      have f1308 := f1301.wr W1305
      have f1309 := f1302.other W1305 (Or.inl ne1292_t1285)
      have f1310 := f1303.other W1305 (Or.inl ne1292_t1285)
      have f1311 := f1304.other W1305 ne1292_tb1285
      have V1305 : AV Z h1305 a1292 .char [.int a', .int b', .int 0, .int 0, .int 0, .int 0, .int 0, .int 0, .int 0, .int 0] := N1305
      refine g_iincC X1305 hx (pc' := 126) (x := (1 : Int32)) (z := (2 : Int32)) rfl (hD hby at_123) rfl (by decide) (l' := #[.val (.int c0), .val (.int c1), .val (.int pp), .val (.int a'), .val (.int b'), .val (.int p'), .val (.ref a1256), .val (.ref t1285), .val (.int 0), .val (.ref a1292), .val (.int 2), .unset, .unset, .unset, .unset, .unset]) rfl ?_
      refine g_iload X1305 hx (pc' := 128) rfl (hD hby at_126) rfl ?_
      refine g_ifY X1305 hx (pcY := 141) (hD hby at_128) (by decide) (by decide) (show (0 : Int32) = 0 from by decide) ?_
      refine g_aload X1305 hx (pc' := 143) rfl (hD hby at_141) rfl rfl ?_
      refine g_iload X1305 hx (pc' := 145) rfl (hD hby at_143) rfl ?_
      refine g_bipush X1305 hx (pc' := 147) (z := (58 : Int32)) rfl (hD hby at_145) rfl ?_
      refine g_castore X1305 hx hZ V1305 (i := 2) (by decide) (show (2 : Nat) < 10 by decide) G_a1292 (y := (58 : Int32)) (by decide) (pc' := 148) rfl (hD hby at_147) (fun T1312 h1312 X1312 W1312 N1312 => ?_)
      have f1313 := (by have q := (Keep.of_wr W1312).1; exact Nat.le_trans f1306 q : n0 ≤ h1312.size)
      have f1314 := f1307.wr W1312 G_a1292
      have f1315 := f1308.wr W1312
      have f1316 := f1309.other W1312 (Or.inl ne1292_t1285)
      have f1317 := f1310.other W1312 (Or.inl ne1292_t1285)
      have f1318 := f1311.other W1312 ne1292_tb1285
      have V1312 : AV Z h1312 a1292 .char [.int a', .int b', .int 58, .int 0, .int 0, .int 0, .int 0, .int 0, .int 0, .int 0] := N1312
      refine g_iincC X1312 hx (pc' := 151) (x := (2 : Int32)) (z := (3 : Int32)) rfl (hD hby at_148) rfl (by decide) (l' := #[.val (.int c0), .val (.int c1), .val (.int pp), .val (.int a'), .val (.int b'), .val (.int p'), .val (.ref a1256), .val (.ref t1285), .val (.int 0), .val (.ref a1292), .val (.int 3), .unset, .unset, .unset, .unset, .unset]) rfl ?_
      refine g_iload X1312 hx (pc' := 153) rfl (hD hby at_151) rfl ?_
      refine g_sipush X1312 hx (pc' := 156) (z := (10000 : Int32)) rfl (hD hby at_153) rfl ?_
      refine g_idiv X1312 hx (pc' := 157) rfl (hD hby at_156) (by decide) ?_
      refine g_absI (fun d4 h_d4 => ?_)
      refine g_istore X1312 hx (pc' := 159) rfl (hD hby at_157) (l' := #[.val (.int c0), .val (.int c1), .val (.int pp), .val (.int a'), .val (.int b'), .val (.int p'), .val (.ref a1256), .val (.ref t1285), .val (.int 0), .val (.ref a1292), .val (.int 3), .val (.int d4), .unset, .unset, .unset, .unset]) rfl ?_
      refine g_iload X1312 hx (pc' := 161) rfl (hD hby at_159) rfl ?_
      refine g_sipush X1312 hx (pc' := 164) (z := (1000 : Int32)) rfl (hD hby at_161) rfl ?_
      refine g_idiv X1312 hx (pc' := 165) rfl (hD hby at_164) (by decide) ?_
      refine g_bipush X1312 hx (pc' := 167) (z := (10 : Int32)) rfl (hD hby at_165) rfl ?_
      refine g_irem X1312 hx (pc' := 168) rfl (hD hby at_167) (by decide) ?_
      refine g_absI (fun d3 h_d3 => ?_)
      refine g_istore X1312 hx (pc' := 170) rfl (hD hby at_168) (l' := #[.val (.int c0), .val (.int c1), .val (.int pp), .val (.int a'), .val (.int b'), .val (.int p'), .val (.ref a1256), .val (.ref t1285), .val (.int 0), .val (.ref a1292), .val (.int 3), .val (.int d4), .val (.int d3), .unset, .unset, .unset]) rfl ?_
      refine g_iload X1312 hx (pc' := 172) rfl (hD hby at_170) rfl ?_
      refine g_bipush X1312 hx (pc' := 174) (z := (100 : Int32)) rfl (hD hby at_172) rfl ?_
      refine g_idiv X1312 hx (pc' := 175) rfl (hD hby at_174) (by decide) ?_
      refine g_bipush X1312 hx (pc' := 177) (z := (10 : Int32)) rfl (hD hby at_175) rfl ?_
      refine g_irem X1312 hx (pc' := 178) rfl (hD hby at_177) (by decide) ?_
      refine g_absI (fun d2 h_d2 => ?_)
      refine g_istore X1312 hx (pc' := 180) rfl (hD hby at_178) (l' := #[.val (.int c0), .val (.int c1), .val (.int pp), .val (.int a'), .val (.int b'), .val (.int p'), .val (.ref a1256), .val (.ref t1285), .val (.int 0), .val (.ref a1292), .val (.int 3), .val (.int d4), .val (.int d3), .val (.int d2), .unset, .unset]) rfl ?_
      refine g_iload X1312 hx (pc' := 182) rfl (hD hby at_180) rfl ?_
      refine g_bipush X1312 hx (pc' := 184) (z := (10 : Int32)) rfl (hD hby at_182) rfl ?_
      refine g_idiv X1312 hx (pc' := 185) rfl (hD hby at_184) (by decide) ?_
      refine g_bipush X1312 hx (pc' := 187) (z := (10 : Int32)) rfl (hD hby at_185) rfl ?_
      refine g_irem X1312 hx (pc' := 188) rfl (hD hby at_187) (by decide) ?_
      refine g_absI (fun d1 h_d1 => ?_)
      refine g_istore X1312 hx (pc' := 190) rfl (hD hby at_188) (l' := #[.val (.int c0), .val (.int c1), .val (.int pp), .val (.int a'), .val (.int b'), .val (.int p'), .val (.ref a1256), .val (.ref t1285), .val (.int 0), .val (.ref a1292), .val (.int 3), .val (.int d4), .val (.int d3), .val (.int d2), .val (.int d1), .unset]) rfl ?_
      refine g_iload X1312 hx (pc' := 192) rfl (hD hby at_190) rfl ?_
      refine g_bipush X1312 hx (pc' := 194) (z := (10 : Int32)) rfl (hD hby at_192) rfl ?_
      refine g_irem X1312 hx (pc' := 195) rfl (hD hby at_194) (by decide) ?_
      refine g_absI (fun d0 h_d0 => ?_)
      refine g_istore X1312 hx (pc' := 197) rfl (hD hby at_195) (l' := #[.val (.int c0), .val (.int c1), .val (.int pp), .val (.int a'), .val (.int b'), .val (.int p'), .val (.ref a1256), .val (.ref t1285), .val (.int 0), .val (.ref a1292), .val (.int 3), .val (.int d4), .val (.int d3), .val (.int d2), .val (.int d1), .val (.int d0)]) rfl ?_
      have fd0 : d0.toInt = p'.toInt % 10 := by rw [h_d0]; exact ar_mod hp0
      have fd1 : d1.toInt = (p'.toInt / 10) % 10 := by rw [h_d1]; have q : (p' / 10).toInt = p'.toInt / 10 := ar_div hp0 (by decide); rw [ar_mod (by omega), q]; rfl
      have fd2 : d2.toInt = (p'.toInt / 100) % 10 := by rw [h_d2]; have q : (p' / 100).toInt = p'.toInt / 100 := ar_div hp0 (by decide); rw [ar_mod (by omega), q]; rfl
      have fd3 : d3.toInt = (p'.toInt / 1000) % 10 := by rw [h_d3]; have q : (p' / 1000).toInt = p'.toInt / 1000 := ar_div hp0 (by decide); rw [ar_mod (by omega), q]; rfl
      have fd4 : d4.toInt = p'.toInt / 10000 := by rw [h_d4]; exact ar_div hp0 (by decide)
      refine g_iload X1312 hx (pc' := 199) rfl (hD hby at_197) rfl ?_
      refine g_sipush X1312 hx (pc' := 202) (z := (10000 : Int32)) rfl (hD hby at_199) rfl ?_
      refine g_icmpY X1312 hx (pcY := 219) (hD hby at_202) (by decide) (by decide) (show p' < (10000 : Int32) from by rw [Int32.lt_iff_toInt_lt]; have e : (10000 : Int32).toInt = 10000 := rfl; omega) ?_
      refine g_iload X1312 hx (pc' := 221) rfl (hD hby at_219) rfl ?_
      refine g_sipush X1312 hx (pc' := 224) (z := (1000 : Int32)) rfl (hD hby at_221) rfl ?_
      refine g_icmpY X1312 hx (pcY := 241) (hD hby at_224) (by decide) (by decide) (show p' < (1000 : Int32) from by rw [Int32.lt_iff_toInt_lt]; have e : (1000 : Int32).toInt = 1000 := rfl; omega) ?_
      refine g_iload X1312 hx (pc' := 243) rfl (hD hby at_241) rfl ?_
      refine g_bipush X1312 hx (pc' := 245) (z := (100 : Int32)) rfl (hD hby at_243) rfl ?_
      refine g_icmpY X1312 hx (pcY := 262) (hD hby at_245) (by decide) (by decide) (show p' < (100 : Int32) from by rw [Int32.lt_iff_toInt_lt]; have e : (100 : Int32).toInt = 100 := rfl; omega) ?_
      refine g_iload X1312 hx (pc' := 264) rfl (hD hby at_262) rfl ?_
      refine g_bipush X1312 hx (pc' := 266) (z := (10 : Int32)) rfl (hD hby at_264) rfl ?_
      refine g_icmpY X1312 hx (pcY := 283) (hD hby at_266) (by decide) (by decide) (show p' < (10 : Int32) from by rw [Int32.lt_iff_toInt_lt]; have e : (10 : Int32).toInt = 10 := rfl; omega) ?_
      refine g_aload X1312 hx (pc' := 285) rfl (hD hby at_283) rfl rfl ?_
      refine g_iload X1312 hx (pc' := 287) rfl (hD hby at_285) rfl ?_
      refine g_bipush X1312 hx (pc' := 289) (z := (48 : Int32)) rfl (hD hby at_287) rfl ?_
      refine g_iload X1312 hx (pc' := 291) rfl (hD hby at_289) rfl ?_
      refine g_iadd X1312 hx (pc' := 292) rfl (hD hby at_291) ?_
      refine g_i2c X1312 hx (pc' := 293) rfl (hD hby at_292) ?_
      refine g_castore X1312 hx hZ V1312 (i := 3) (by decide) (show (3 : Nat) < 10 by decide) G_a1292 (y := (((48 : Int32) + d0)).toUInt32.toUInt16.toUInt32.toInt32) (nar_i2c _) (pc' := 294) rfl (hD hby at_293) (fun T1319 h1319 X1319 W1319 N1319 => ?_)
      have f1320 := (by have q := (Keep.of_wr W1319).1; exact Nat.le_trans f1313 q : n0 ≤ h1319.size)
      have f1321 := f1314.wr W1319 G_a1292
      have f1322 := f1315.wr W1319
      have f1323 := f1316.other W1319 (Or.inl ne1292_t1285)
      have f1324 := f1317.other W1319 (Or.inl ne1292_t1285)
      have f1325 := f1318.other W1319 ne1292_tb1285
      have V1319 : AV Z h1319 a1292 .char [.int a', .int b', .int 58, .int (((48 : Int32) + d0)).toUInt32.toUInt16.toUInt32.toInt32, .int 0, .int 0, .int 0, .int 0, .int 0, .int 0] := N1319
      refine g_iincC X1319 hx (pc' := 297) (x := (3 : Int32)) (z := (4 : Int32)) rfl (hD hby at_294) rfl (by decide) (l' := #[.val (.int c0), .val (.int c1), .val (.int pp), .val (.int a'), .val (.int b'), .val (.int p'), .val (.ref a1256), .val (.ref t1285), .val (.int 0), .val (.ref a1292), .val (.int 4), .val (.int d4), .val (.int d3), .val (.int d2), .val (.int d1), .val (.int d0)]) rfl ?_
      refine tail0 l Z a0 hw n0 _ t1285 tb1285 fo a1292 _ _ _ _ _ _ _ _ _ _ _ _ _ _ cz _ _ f1320 O4 hfo O2 hcz f1321 f1322 f1323 f1324 f1325 rfl V1319 (show (4 : Nat) ≤ 10 by decide) (fun j hj => ?_) hx hZ hby hml hown hret hlk X1319
      match j, hj with
        | 0, _ => exact ⟨_, _, rfl, rfl, own_eqc b_a'⟩
        | 1, _ => exact ⟨_, _, rfl, rfl, own_eqc b_b'⟩
        | 2, _ => exact ⟨_, _, rfl, rfl, by decide⟩
        | 3, _ => exact ⟨_, _, rfl, rfl, own_dig (d := d0) (by omega) (by omega) (by omega)⟩
    · skip
      have V1285 : AV Z h1285 tb1285 .byte [.int (a').toInt8.toInt32, .int (b').toInt8.toInt32, .int 58, .int y1, .int y0] := VV1285
      refine g_astore X1285 hx (pc' := 57) rfl (hD hby at_55) rfl (l' := #[.val (.int c0), .val (.int c1), .val (.int pp), .val (.int a'), .val (.int b'), .val (.int p'), .val (.ref a1256), .val (.ref t1285), .unset, .unset, .unset, .unset, .unset, .unset, .unset, .unset]) rfl ?_
      refine g_iloadN X1285 hx (pc' := 58) rfl (hD hby at_57) rfl ?_
      refine g_bipush X1285 hx (pc' := 60) (z := (58 : Int32)) rfl (hD hby at_58) rfl ?_
      refine g_icmpN X1285 hx (pcN := 63) (hD hby at_60) rfl (show ¬ (a' = (58 : Int32)) from ka) ?_
      refine g_iload X1285 hx (pc' := 65) rfl (hD hby at_63) rfl ?_
      refine g_bipush X1285 hx (pc' := 67) (z := (58 : Int32)) rfl (hD hby at_65) rfl ?_
      suffices J67 : Go p e below s n0 ((Z, ("]" :: "[" :: ":" :: Ts), fun v h => v = some (.int 1)) : GQ) room_1.cells room_1.slots (T1285.setTop (mkF m 80 #[.val (.int c0), .val (.int c1), .val (.int pp), .val (.int a'), .val (.int b'), .val (.int p'), .val (.ref a1256), .val (.ref t1285), .unset, .unset, .unset, .unset, .unset, .unset, .unset, .unset] [])) by
        refine g_icmp X1285 hx (pcY := 80) (pcN := 70) (hD hby at_67) (by decide) (by decide) rfl (fun hc67 => ?_) (fun hc67 => ?_)
        · replace hc67 : ¬ b' = (58 : Int32) := hc67
          exact J67  
        · replace hc67 : b' = (58 : Int32) := Classical.not_not.mp hc67
          refine g_iloadN X1285 hx (pc' := 71) rfl (hD hby at_70) rfl ?_
          refine g_bipush X1285 hx (pc' := 73) (z := (91 : Int32)) rfl (hD hby at_71) rfl ?_
          refine g_icmpY X1285 hx (pcY := 80) (hD hby at_73) (by decide) (by decide) (show a' = (91 : Int32) from (kb.resolve_left (fun q => q.2 hc67)).2) ?_
          exact J67  
      refine g_iconst X1285 hx (pc' := 81) (z := (0 : Int32)) rfl (hD hby at_80) rfl ?_
      refine g_istore X1285 hx (pc' := 83) rfl (hD hby at_81) (l' := #[.val (.int c0), .val (.int c1), .val (.int pp), .val (.int a'), .val (.int b'), .val (.int p'), .val (.ref a1256), .val (.ref t1285), .val (.int 0), .unset, .unset, .unset, .unset, .unset, .unset, .unset]) rfl ?_
      refine g_bipush X1285 hx (pc' := 85) (z := (10 : Int32)) rfl (hD hby at_83) rfl ?_
      refine g_newA X1285 hx hZ (aty := .char) (wat hw 5 rfl) (N := 10) (by decide) (cap := 10) (Nat.le_refl _) (by decide) (pc' := 87) rfl (hD hby at_85) (by decide) (by decide) (fun T1326 h1326 a1326 ha1326 X1326 E1326 N1326 => ?_)
      have ne1326_t1285 : t1285 ≠ a1326 := by rw [ha1326]; exact Nat.ne_of_lt E1285.lt
      have ne1326_tb1285 : tb1285 ≠ a1326 := by rw [ha1326]; exact Nat.ne_of_lt V1285.lt
      have f1327 := E1285.ext E1326
      have f1328 := FV1285.ext E1326
      have f1329 := FC1285.ext E1326
      have f1330 := V1285.ext E1326
      have G_a1326 : n0 ≤ a1326 := by rw [ha1326]; exact zs1285
      have Zs1326 : n0 ≤ h1326.size := Nat.le_trans zs1285 E1326.1
      have f1331 := f1286.ext E1326
      have V1326 : AV Z h1326 a1326 .char [.int 0, .int 0, .int 0, .int 0, .int 0, .int 0, .int 0, .int 0, .int 0, .int 0] := N1326
      refine g_astore X1326 hx (pc' := 89) rfl (hD hby at_87) rfl (l' := #[.val (.int c0), .val (.int c1), .val (.int pp), .val (.int a'), .val (.int b'), .val (.int p'), .val (.ref a1256), .val (.ref t1285), .val (.int 0), .val (.ref a1326), .unset, .unset, .unset, .unset, .unset, .unset]) rfl ?_
      refine g_iconst X1326 hx (pc' := 90) (z := (0 : Int32)) rfl (hD hby at_89) rfl ?_
      refine g_istore X1326 hx (pc' := 92) rfl (hD hby at_90) (l' := #[.val (.int c0), .val (.int c1), .val (.int pp), .val (.int a'), .val (.int b'), .val (.int p'), .val (.ref a1256), .val (.ref t1285), .val (.int 0), .val (.ref a1326), .val (.int 0), .unset, .unset, .unset, .unset, .unset]) rfl ?_
      refine g_iload X1326 hx (pc' := 94) rfl (hD hby at_92) rfl ?_
      refine g_ifY X1326 hx (pcY := 107) (hD hby at_94) (by decide) (by decide) (show (0 : Int32) = 0 from by decide) ?_
      refine g_aload X1326 hx (pc' := 109) rfl (hD hby at_107) rfl rfl ?_
      refine g_iload X1326 hx (pc' := 111) rfl (hD hby at_109) rfl ?_
      refine g_iloadN X1326 hx (pc' := 112) rfl (hD hby at_111) rfl ?_
      refine g_castore X1326 hx hZ V1326 (i := 0) (by decide) (show (0 : Nat) < 10 by decide) G_a1326 (y := a') n_a' (pc' := 113) rfl (hD hby at_112) (fun T1332 h1332 X1332 W1332 N1332 => ?_)
      have f1333 := (by have q := (Keep.of_wr W1332).1; exact Nat.le_trans Zs1326 q : n0 ≤ h1332.size)
      have f1334 := f1331.wr W1332 G_a1326
      have f1335 := f1327.wr W1332
      have f1336 := f1328.other W1332 (Or.inl ne1326_t1285)
      have f1337 := f1329.other W1332 (Or.inl ne1326_t1285)
      have f1338 := f1330.other W1332 ne1326_tb1285
      have V1332 : AV Z h1332 a1326 .char [.int a', .int 0, .int 0, .int 0, .int 0, .int 0, .int 0, .int 0, .int 0, .int 0] := N1332
      refine g_iincC X1332 hx (pc' := 116) (x := (0 : Int32)) (z := (1 : Int32)) rfl (hD hby at_113) rfl (by decide) (l' := #[.val (.int c0), .val (.int c1), .val (.int pp), .val (.int a'), .val (.int b'), .val (.int p'), .val (.ref a1256), .val (.ref t1285), .val (.int 0), .val (.ref a1326), .val (.int 1), .unset, .unset, .unset, .unset, .unset]) rfl ?_
      refine g_aload X1332 hx (pc' := 118) rfl (hD hby at_116) rfl rfl ?_
      refine g_iload X1332 hx (pc' := 120) rfl (hD hby at_118) rfl ?_
      refine g_iload X1332 hx (pc' := 122) rfl (hD hby at_120) rfl ?_
      refine g_castore X1332 hx hZ V1332 (i := 1) (by decide) (show (1 : Nat) < 10 by decide) G_a1326 (y := b') n_b' (pc' := 123) rfl (hD hby at_122) (fun T1339 h1339 X1339 W1339 N1339 => ?_)
      have f1340 := (by have q := (Keep.of_wr W1339).1; exact Nat.le_trans f1333 q : n0 ≤ h1339.size)
      have f1341 := f1334.wr W1339 G_a1326
      have f1342 := f1335.wr W1339
      have f1343 := f1336.other W1339 (Or.inl ne1326_t1285)
      have f1344 := f1337.other W1339 (Or.inl ne1326_t1285)
      have f1345 := f1338.other W1339 ne1326_tb1285
      have V1339 : AV Z h1339 a1326 .char [.int a', .int b', .int 0, .int 0, .int 0, .int 0, .int 0, .int 0, .int 0, .int 0] := N1339
      refine g_iincC X1339 hx (pc' := 126) (x := (1 : Int32)) (z := (2 : Int32)) rfl (hD hby at_123) rfl (by decide) (l' := #[.val (.int c0), .val (.int c1), .val (.int pp), .val (.int a'), .val (.int b'), .val (.int p'), .val (.ref a1256), .val (.ref t1285), .val (.int 0), .val (.ref a1326), .val (.int 2), .unset, .unset, .unset, .unset, .unset]) rfl ?_
      refine g_iload X1339 hx (pc' := 128) rfl (hD hby at_126) rfl ?_
      refine g_ifY X1339 hx (pcY := 141) (hD hby at_128) (by decide) (by decide) (show (0 : Int32) = 0 from by decide) ?_
      refine g_aload X1339 hx (pc' := 143) rfl (hD hby at_141) rfl rfl ?_
      refine g_iload X1339 hx (pc' := 145) rfl (hD hby at_143) rfl ?_
      refine g_bipush X1339 hx (pc' := 147) (z := (58 : Int32)) rfl (hD hby at_145) rfl ?_
      refine g_castore X1339 hx hZ V1339 (i := 2) (by decide) (show (2 : Nat) < 10 by decide) G_a1326 (y := (58 : Int32)) (by decide) (pc' := 148) rfl (hD hby at_147) (fun T1346 h1346 X1346 W1346 N1346 => ?_)
      have f1347 := (by have q := (Keep.of_wr W1346).1; exact Nat.le_trans f1340 q : n0 ≤ h1346.size)
      have f1348 := f1341.wr W1346 G_a1326
      have f1349 := f1342.wr W1346
      have f1350 := f1343.other W1346 (Or.inl ne1326_t1285)
      have f1351 := f1344.other W1346 (Or.inl ne1326_t1285)
      have f1352 := f1345.other W1346 ne1326_tb1285
      have V1346 : AV Z h1346 a1326 .char [.int a', .int b', .int 58, .int 0, .int 0, .int 0, .int 0, .int 0, .int 0, .int 0] := N1346
      refine g_iincC X1346 hx (pc' := 151) (x := (2 : Int32)) (z := (3 : Int32)) rfl (hD hby at_148) rfl (by decide) (l' := #[.val (.int c0), .val (.int c1), .val (.int pp), .val (.int a'), .val (.int b'), .val (.int p'), .val (.ref a1256), .val (.ref t1285), .val (.int 0), .val (.ref a1326), .val (.int 3), .unset, .unset, .unset, .unset, .unset]) rfl ?_
      refine g_iload X1346 hx (pc' := 153) rfl (hD hby at_151) rfl ?_
      refine g_sipush X1346 hx (pc' := 156) (z := (10000 : Int32)) rfl (hD hby at_153) rfl ?_
      refine g_idiv X1346 hx (pc' := 157) rfl (hD hby at_156) (by decide) ?_
      refine g_absI (fun d4 h_d4 => ?_)
      refine g_istore X1346 hx (pc' := 159) rfl (hD hby at_157) (l' := #[.val (.int c0), .val (.int c1), .val (.int pp), .val (.int a'), .val (.int b'), .val (.int p'), .val (.ref a1256), .val (.ref t1285), .val (.int 0), .val (.ref a1326), .val (.int 3), .val (.int d4), .unset, .unset, .unset, .unset]) rfl ?_
      refine g_iload X1346 hx (pc' := 161) rfl (hD hby at_159) rfl ?_
      refine g_sipush X1346 hx (pc' := 164) (z := (1000 : Int32)) rfl (hD hby at_161) rfl ?_
      refine g_idiv X1346 hx (pc' := 165) rfl (hD hby at_164) (by decide) ?_
      refine g_bipush X1346 hx (pc' := 167) (z := (10 : Int32)) rfl (hD hby at_165) rfl ?_
      refine g_irem X1346 hx (pc' := 168) rfl (hD hby at_167) (by decide) ?_
      refine g_absI (fun d3 h_d3 => ?_)
      refine g_istore X1346 hx (pc' := 170) rfl (hD hby at_168) (l' := #[.val (.int c0), .val (.int c1), .val (.int pp), .val (.int a'), .val (.int b'), .val (.int p'), .val (.ref a1256), .val (.ref t1285), .val (.int 0), .val (.ref a1326), .val (.int 3), .val (.int d4), .val (.int d3), .unset, .unset, .unset]) rfl ?_
      refine g_iload X1346 hx (pc' := 172) rfl (hD hby at_170) rfl ?_
      refine g_bipush X1346 hx (pc' := 174) (z := (100 : Int32)) rfl (hD hby at_172) rfl ?_
      refine g_idiv X1346 hx (pc' := 175) rfl (hD hby at_174) (by decide) ?_
      refine g_bipush X1346 hx (pc' := 177) (z := (10 : Int32)) rfl (hD hby at_175) rfl ?_
      refine g_irem X1346 hx (pc' := 178) rfl (hD hby at_177) (by decide) ?_
      refine g_absI (fun d2 h_d2 => ?_)
      refine g_istore X1346 hx (pc' := 180) rfl (hD hby at_178) (l' := #[.val (.int c0), .val (.int c1), .val (.int pp), .val (.int a'), .val (.int b'), .val (.int p'), .val (.ref a1256), .val (.ref t1285), .val (.int 0), .val (.ref a1326), .val (.int 3), .val (.int d4), .val (.int d3), .val (.int d2), .unset, .unset]) rfl ?_
      refine g_iload X1346 hx (pc' := 182) rfl (hD hby at_180) rfl ?_
      refine g_bipush X1346 hx (pc' := 184) (z := (10 : Int32)) rfl (hD hby at_182) rfl ?_
      refine g_idiv X1346 hx (pc' := 185) rfl (hD hby at_184) (by decide) ?_
      refine g_bipush X1346 hx (pc' := 187) (z := (10 : Int32)) rfl (hD hby at_185) rfl ?_
      refine g_irem X1346 hx (pc' := 188) rfl (hD hby at_187) (by decide) ?_
      refine g_absI (fun d1 h_d1 => ?_)
      refine g_istore X1346 hx (pc' := 190) rfl (hD hby at_188) (l' := #[.val (.int c0), .val (.int c1), .val (.int pp), .val (.int a'), .val (.int b'), .val (.int p'), .val (.ref a1256), .val (.ref t1285), .val (.int 0), .val (.ref a1326), .val (.int 3), .val (.int d4), .val (.int d3), .val (.int d2), .val (.int d1), .unset]) rfl ?_
      refine g_iload X1346 hx (pc' := 192) rfl (hD hby at_190) rfl ?_
      refine g_bipush X1346 hx (pc' := 194) (z := (10 : Int32)) rfl (hD hby at_192) rfl ?_
      refine g_irem X1346 hx (pc' := 195) rfl (hD hby at_194) (by decide) ?_
      refine g_absI (fun d0 h_d0 => ?_)
      refine g_istore X1346 hx (pc' := 197) rfl (hD hby at_195) (l' := #[.val (.int c0), .val (.int c1), .val (.int pp), .val (.int a'), .val (.int b'), .val (.int p'), .val (.ref a1256), .val (.ref t1285), .val (.int 0), .val (.ref a1326), .val (.int 3), .val (.int d4), .val (.int d3), .val (.int d2), .val (.int d1), .val (.int d0)]) rfl ?_
      have fd0 : d0.toInt = p'.toInt % 10 := by rw [h_d0]; exact ar_mod hp0
      have fd1 : d1.toInt = (p'.toInt / 10) % 10 := by rw [h_d1]; have q : (p' / 10).toInt = p'.toInt / 10 := ar_div hp0 (by decide); rw [ar_mod (by omega), q]; rfl
      have fd2 : d2.toInt = (p'.toInt / 100) % 10 := by rw [h_d2]; have q : (p' / 100).toInt = p'.toInt / 100 := ar_div hp0 (by decide); rw [ar_mod (by omega), q]; rfl
      have fd3 : d3.toInt = (p'.toInt / 1000) % 10 := by rw [h_d3]; have q : (p' / 1000).toInt = p'.toInt / 1000 := ar_div hp0 (by decide); rw [ar_mod (by omega), q]; rfl
      have fd4 : d4.toInt = p'.toInt / 10000 := by rw [h_d4]; exact ar_div hp0 (by decide)
      refine g_iload X1346 hx (pc' := 199) rfl (hD hby at_197) rfl ?_
      refine g_sipush X1346 hx (pc' := 202) (z := (10000 : Int32)) rfl (hD hby at_199) rfl ?_
      refine g_icmpY X1346 hx (pcY := 219) (hD hby at_202) (by decide) (by decide) (show p' < (10000 : Int32) from by rw [Int32.lt_iff_toInt_lt]; have e : (10000 : Int32).toInt = 10000 := rfl; omega) ?_
      refine g_iload X1346 hx (pc' := 221) rfl (hD hby at_219) rfl ?_
      refine g_sipush X1346 hx (pc' := 224) (z := (1000 : Int32)) rfl (hD hby at_221) rfl ?_
      refine g_icmpY X1346 hx (pcY := 241) (hD hby at_224) (by decide) (by decide) (show p' < (1000 : Int32) from by rw [Int32.lt_iff_toInt_lt]; have e : (1000 : Int32).toInt = 1000 := rfl; omega) ?_
      refine g_iload X1346 hx (pc' := 243) rfl (hD hby at_241) rfl ?_
      refine g_bipush X1346 hx (pc' := 245) (z := (100 : Int32)) rfl (hD hby at_243) rfl ?_
      refine g_icmpY X1346 hx (pcY := 262) (hD hby at_245) (by decide) (by decide) (show p' < (100 : Int32) from by rw [Int32.lt_iff_toInt_lt]; have e : (100 : Int32).toInt = 100 := rfl; omega) ?_
      refine g_iload X1346 hx (pc' := 264) rfl (hD hby at_262) rfl ?_
      refine g_bipush X1346 hx (pc' := 266) (z := (10 : Int32)) rfl (hD hby at_264) rfl ?_
      refine g_icmpN X1346 hx (pcN := 269) (hD hby at_266) rfl (show ¬ (p' < (10 : Int32)) from by rw [Int32.lt_iff_toInt_lt]; have e : (10 : Int32).toInt = 10 := rfl; omega) ?_
      refine g_aload X1346 hx (pc' := 271) rfl (hD hby at_269) rfl rfl ?_
      refine g_iload X1346 hx (pc' := 273) rfl (hD hby at_271) rfl ?_
      refine g_bipush X1346 hx (pc' := 275) (z := (48 : Int32)) rfl (hD hby at_273) rfl ?_
      refine g_iload X1346 hx (pc' := 277) rfl (hD hby at_275) rfl ?_
      refine g_iadd X1346 hx (pc' := 278) rfl (hD hby at_277) ?_
      refine g_i2c X1346 hx (pc' := 279) rfl (hD hby at_278) ?_
      refine g_castore X1346 hx hZ V1346 (i := 3) (by decide) (show (3 : Nat) < 10 by decide) G_a1326 (y := (((48 : Int32) + d1)).toUInt32.toUInt16.toUInt32.toInt32) (nar_i2c _) (pc' := 280) rfl (hD hby at_279) (fun T1353 h1353 X1353 W1353 N1353 => ?_)
      have f1354 := (by have q := (Keep.of_wr W1353).1; exact Nat.le_trans f1347 q : n0 ≤ h1353.size)
      have f1355 := f1348.wr W1353 G_a1326
      have f1356 := f1349.wr W1353
      have f1357 := f1350.other W1353 (Or.inl ne1326_t1285)
      have f1358 := f1351.other W1353 (Or.inl ne1326_t1285)
      have f1359 := f1352.other W1353 ne1326_tb1285
      have V1353 : AV Z h1353 a1326 .char [.int a', .int b', .int 58, .int (((48 : Int32) + d1)).toUInt32.toUInt16.toUInt32.toInt32, .int 0, .int 0, .int 0, .int 0, .int 0, .int 0] := N1353
      refine g_iincC X1353 hx (pc' := 283) (x := (3 : Int32)) (z := (4 : Int32)) rfl (hD hby at_280) rfl (by decide) (l' := #[.val (.int c0), .val (.int c1), .val (.int pp), .val (.int a'), .val (.int b'), .val (.int p'), .val (.ref a1256), .val (.ref t1285), .val (.int 0), .val (.ref a1326), .val (.int 4), .val (.int d4), .val (.int d3), .val (.int d2), .val (.int d1), .val (.int d0)]) rfl ?_
      refine g_aload X1353 hx (pc' := 285) rfl (hD hby at_283) rfl rfl ?_
      refine g_iload X1353 hx (pc' := 287) rfl (hD hby at_285) rfl ?_
      refine g_bipush X1353 hx (pc' := 289) (z := (48 : Int32)) rfl (hD hby at_287) rfl ?_
      refine g_iload X1353 hx (pc' := 291) rfl (hD hby at_289) rfl ?_
      refine g_iadd X1353 hx (pc' := 292) rfl (hD hby at_291) ?_
      refine g_i2c X1353 hx (pc' := 293) rfl (hD hby at_292) ?_
      refine g_castore X1353 hx hZ V1353 (i := 4) (by decide) (show (4 : Nat) < 10 by decide) G_a1326 (y := (((48 : Int32) + d0)).toUInt32.toUInt16.toUInt32.toInt32) (nar_i2c _) (pc' := 294) rfl (hD hby at_293) (fun T1360 h1360 X1360 W1360 N1360 => ?_)
      have f1361 := (by have q := (Keep.of_wr W1360).1; exact Nat.le_trans f1354 q : n0 ≤ h1360.size)
      have f1362 := f1355.wr W1360 G_a1326
      have f1363 := f1356.wr W1360
      have f1364 := f1357.other W1360 (Or.inl ne1326_t1285)
      have f1365 := f1358.other W1360 (Or.inl ne1326_t1285)
      have f1366 := f1359.other W1360 ne1326_tb1285
      have V1360 : AV Z h1360 a1326 .char [.int a', .int b', .int 58, .int (((48 : Int32) + d1)).toUInt32.toUInt16.toUInt32.toInt32, .int (((48 : Int32) + d0)).toUInt32.toUInt16.toUInt32.toInt32, .int 0, .int 0, .int 0, .int 0, .int 0] := N1360
      refine g_iincC X1360 hx (pc' := 297) (x := (4 : Int32)) (z := (5 : Int32)) rfl (hD hby at_294) rfl (by decide) (l' := #[.val (.int c0), .val (.int c1), .val (.int pp), .val (.int a'), .val (.int b'), .val (.int p'), .val (.ref a1256), .val (.ref t1285), .val (.int 0), .val (.ref a1326), .val (.int 5), .val (.int d4), .val (.int d3), .val (.int d2), .val (.int d1), .val (.int d0)]) rfl ?_
      refine tail0 l Z a0 hw n0 _ t1285 tb1285 fo a1326 _ _ _ _ _ _ _ _ _ _ _ _ _ _ cz _ _ f1361 O4 hfo O2 hcz f1362 f1363 f1364 f1365 f1366 rfl V1360 (show (5 : Nat) ≤ 10 by decide) (fun j hj => ?_) hx hZ hby hml hown hret hlk X1360
      match j, hj with
        | 0, _ => exact ⟨_, _, rfl, rfl, own_eqc b_a'⟩
        | 1, _ => exact ⟨_, _, rfl, rfl, own_eqc b_b'⟩
        | 2, _ => exact ⟨_, _, rfl, rfl, by decide⟩
        | 3, _ => exact ⟨_, _, rfl, rfl, own_dig (d := d1) (by omega) (by omega) (by omega)⟩
        | 4, _ => exact ⟨_, _, rfl, rfl, own_dig (d := d0) (by omega) (by omega) (by omega)⟩
    · skip
      have V1285 : AV Z h1285 tb1285 .byte [.int (a').toInt8.toInt32, .int (b').toInt8.toInt32, .int 58, .int y2, .int y1, .int y0] := VV1285
      refine g_astore X1285 hx (pc' := 57) rfl (hD hby at_55) rfl (l' := #[.val (.int c0), .val (.int c1), .val (.int pp), .val (.int a'), .val (.int b'), .val (.int p'), .val (.ref a1256), .val (.ref t1285), .unset, .unset, .unset, .unset, .unset, .unset, .unset, .unset]) rfl ?_
      refine g_iloadN X1285 hx (pc' := 58) rfl (hD hby at_57) rfl ?_
      refine g_bipush X1285 hx (pc' := 60) (z := (58 : Int32)) rfl (hD hby at_58) rfl ?_
      refine g_icmpN X1285 hx (pcN := 63) (hD hby at_60) rfl (show ¬ (a' = (58 : Int32)) from ka) ?_
      refine g_iload X1285 hx (pc' := 65) rfl (hD hby at_63) rfl ?_
      refine g_bipush X1285 hx (pc' := 67) (z := (58 : Int32)) rfl (hD hby at_65) rfl ?_
      suffices J67 : Go p e below s n0 ((Z, ("]" :: "[" :: ":" :: Ts), fun v h => v = some (.int 1)) : GQ) room_1.cells room_1.slots (T1285.setTop (mkF m 80 #[.val (.int c0), .val (.int c1), .val (.int pp), .val (.int a'), .val (.int b'), .val (.int p'), .val (.ref a1256), .val (.ref t1285), .unset, .unset, .unset, .unset, .unset, .unset, .unset, .unset] [])) by
        refine g_icmp X1285 hx (pcY := 80) (pcN := 70) (hD hby at_67) (by decide) (by decide) rfl (fun hc67 => ?_) (fun hc67 => ?_)
        · replace hc67 : ¬ b' = (58 : Int32) := hc67
          exact J67  
        · replace hc67 : b' = (58 : Int32) := Classical.not_not.mp hc67
          refine g_iloadN X1285 hx (pc' := 71) rfl (hD hby at_70) rfl ?_
          refine g_bipush X1285 hx (pc' := 73) (z := (91 : Int32)) rfl (hD hby at_71) rfl ?_
          refine g_icmpY X1285 hx (pcY := 80) (hD hby at_73) (by decide) (by decide) (show a' = (91 : Int32) from (kb.resolve_left (fun q => q.2 hc67)).2) ?_
          exact J67  
      refine g_iconst X1285 hx (pc' := 81) (z := (0 : Int32)) rfl (hD hby at_80) rfl ?_
      refine g_istore X1285 hx (pc' := 83) rfl (hD hby at_81) (l' := #[.val (.int c0), .val (.int c1), .val (.int pp), .val (.int a'), .val (.int b'), .val (.int p'), .val (.ref a1256), .val (.ref t1285), .val (.int 0), .unset, .unset, .unset, .unset, .unset, .unset, .unset]) rfl ?_
      refine g_bipush X1285 hx (pc' := 85) (z := (10 : Int32)) rfl (hD hby at_83) rfl ?_
      refine g_newA X1285 hx hZ (aty := .char) (wat hw 5 rfl) (N := 10) (by decide) (cap := 10) (Nat.le_refl _) (by decide) (pc' := 87) rfl (hD hby at_85) (by decide) (by decide) (fun T1367 h1367 a1367 ha1367 X1367 E1367 N1367 => ?_)
      have ne1367_t1285 : t1285 ≠ a1367 := by rw [ha1367]; exact Nat.ne_of_lt E1285.lt
      have ne1367_tb1285 : tb1285 ≠ a1367 := by rw [ha1367]; exact Nat.ne_of_lt V1285.lt
      have f1368 := E1285.ext E1367
      have f1369 := FV1285.ext E1367
      have f1370 := FC1285.ext E1367
      have f1371 := V1285.ext E1367
      have G_a1367 : n0 ≤ a1367 := by rw [ha1367]; exact zs1285
      have Zs1367 : n0 ≤ h1367.size := Nat.le_trans zs1285 E1367.1
      have f1372 := f1286.ext E1367
      have V1367 : AV Z h1367 a1367 .char [.int 0, .int 0, .int 0, .int 0, .int 0, .int 0, .int 0, .int 0, .int 0, .int 0] := N1367
      refine g_astore X1367 hx (pc' := 89) rfl (hD hby at_87) rfl (l' := #[.val (.int c0), .val (.int c1), .val (.int pp), .val (.int a'), .val (.int b'), .val (.int p'), .val (.ref a1256), .val (.ref t1285), .val (.int 0), .val (.ref a1367), .unset, .unset, .unset, .unset, .unset, .unset]) rfl ?_
      refine g_iconst X1367 hx (pc' := 90) (z := (0 : Int32)) rfl (hD hby at_89) rfl ?_
      refine g_istore X1367 hx (pc' := 92) rfl (hD hby at_90) (l' := #[.val (.int c0), .val (.int c1), .val (.int pp), .val (.int a'), .val (.int b'), .val (.int p'), .val (.ref a1256), .val (.ref t1285), .val (.int 0), .val (.ref a1367), .val (.int 0), .unset, .unset, .unset, .unset, .unset]) rfl ?_
      refine g_iload X1367 hx (pc' := 94) rfl (hD hby at_92) rfl ?_
      refine g_ifY X1367 hx (pcY := 107) (hD hby at_94) (by decide) (by decide) (show (0 : Int32) = 0 from by decide) ?_
      refine g_aload X1367 hx (pc' := 109) rfl (hD hby at_107) rfl rfl ?_
      refine g_iload X1367 hx (pc' := 111) rfl (hD hby at_109) rfl ?_
      refine g_iloadN X1367 hx (pc' := 112) rfl (hD hby at_111) rfl ?_
      refine g_castore X1367 hx hZ V1367 (i := 0) (by decide) (show (0 : Nat) < 10 by decide) G_a1367 (y := a') n_a' (pc' := 113) rfl (hD hby at_112) (fun T1373 h1373 X1373 W1373 N1373 => ?_)
      have f1374 := (by have q := (Keep.of_wr W1373).1; exact Nat.le_trans Zs1367 q : n0 ≤ h1373.size)
      have f1375 := f1372.wr W1373 G_a1367
      have f1376 := f1368.wr W1373
      have f1377 := f1369.other W1373 (Or.inl ne1367_t1285)
      have f1378 := f1370.other W1373 (Or.inl ne1367_t1285)
      have f1379 := f1371.other W1373 ne1367_tb1285
      have V1373 : AV Z h1373 a1367 .char [.int a', .int 0, .int 0, .int 0, .int 0, .int 0, .int 0, .int 0, .int 0, .int 0] := N1373
      refine g_iincC X1373 hx (pc' := 116) (x := (0 : Int32)) (z := (1 : Int32)) rfl (hD hby at_113) rfl (by decide) (l' := #[.val (.int c0), .val (.int c1), .val (.int pp), .val (.int a'), .val (.int b'), .val (.int p'), .val (.ref a1256), .val (.ref t1285), .val (.int 0), .val (.ref a1367), .val (.int 1), .unset, .unset, .unset, .unset, .unset]) rfl ?_
      refine g_aload X1373 hx (pc' := 118) rfl (hD hby at_116) rfl rfl ?_
      refine g_iload X1373 hx (pc' := 120) rfl (hD hby at_118) rfl ?_
      refine g_iload X1373 hx (pc' := 122) rfl (hD hby at_120) rfl ?_
      refine g_castore X1373 hx hZ V1373 (i := 1) (by decide) (show (1 : Nat) < 10 by decide) G_a1367 (y := b') n_b' (pc' := 123) rfl (hD hby at_122) (fun T1380 h1380 X1380 W1380 N1380 => ?_)
      have f1381 := (by have q := (Keep.of_wr W1380).1; exact Nat.le_trans f1374 q : n0 ≤ h1380.size)
      have f1382 := f1375.wr W1380 G_a1367
      have f1383 := f1376.wr W1380
      have f1384 := f1377.other W1380 (Or.inl ne1367_t1285)
      have f1385 := f1378.other W1380 (Or.inl ne1367_t1285)
      have f1386 := f1379.other W1380 ne1367_tb1285
      have V1380 : AV Z h1380 a1367 .char [.int a', .int b', .int 0, .int 0, .int 0, .int 0, .int 0, .int 0, .int 0, .int 0] := N1380
      refine g_iincC X1380 hx (pc' := 126) (x := (1 : Int32)) (z := (2 : Int32)) rfl (hD hby at_123) rfl (by decide) (l' := #[.val (.int c0), .val (.int c1), .val (.int pp), .val (.int a'), .val (.int b'), .val (.int p'), .val (.ref a1256), .val (.ref t1285), .val (.int 0), .val (.ref a1367), .val (.int 2), .unset, .unset, .unset, .unset, .unset]) rfl ?_
      refine g_iload X1380 hx (pc' := 128) rfl (hD hby at_126) rfl ?_
      refine g_ifY X1380 hx (pcY := 141) (hD hby at_128) (by decide) (by decide) (show (0 : Int32) = 0 from by decide) ?_
      refine g_aload X1380 hx (pc' := 143) rfl (hD hby at_141) rfl rfl ?_
      refine g_iload X1380 hx (pc' := 145) rfl (hD hby at_143) rfl ?_
      refine g_bipush X1380 hx (pc' := 147) (z := (58 : Int32)) rfl (hD hby at_145) rfl ?_
      refine g_castore X1380 hx hZ V1380 (i := 2) (by decide) (show (2 : Nat) < 10 by decide) G_a1367 (y := (58 : Int32)) (by decide) (pc' := 148) rfl (hD hby at_147) (fun T1387 h1387 X1387 W1387 N1387 => ?_)
      have f1388 := (by have q := (Keep.of_wr W1387).1; exact Nat.le_trans f1381 q : n0 ≤ h1387.size)
      have f1389 := f1382.wr W1387 G_a1367
      have f1390 := f1383.wr W1387
      have f1391 := f1384.other W1387 (Or.inl ne1367_t1285)
      have f1392 := f1385.other W1387 (Or.inl ne1367_t1285)
      have f1393 := f1386.other W1387 ne1367_tb1285
      have V1387 : AV Z h1387 a1367 .char [.int a', .int b', .int 58, .int 0, .int 0, .int 0, .int 0, .int 0, .int 0, .int 0] := N1387
      refine g_iincC X1387 hx (pc' := 151) (x := (2 : Int32)) (z := (3 : Int32)) rfl (hD hby at_148) rfl (by decide) (l' := #[.val (.int c0), .val (.int c1), .val (.int pp), .val (.int a'), .val (.int b'), .val (.int p'), .val (.ref a1256), .val (.ref t1285), .val (.int 0), .val (.ref a1367), .val (.int 3), .unset, .unset, .unset, .unset, .unset]) rfl ?_
      refine g_iload X1387 hx (pc' := 153) rfl (hD hby at_151) rfl ?_
      refine g_sipush X1387 hx (pc' := 156) (z := (10000 : Int32)) rfl (hD hby at_153) rfl ?_
      refine g_idiv X1387 hx (pc' := 157) rfl (hD hby at_156) (by decide) ?_
      refine g_absI (fun d4 h_d4 => ?_)
      refine g_istore X1387 hx (pc' := 159) rfl (hD hby at_157) (l' := #[.val (.int c0), .val (.int c1), .val (.int pp), .val (.int a'), .val (.int b'), .val (.int p'), .val (.ref a1256), .val (.ref t1285), .val (.int 0), .val (.ref a1367), .val (.int 3), .val (.int d4), .unset, .unset, .unset, .unset]) rfl ?_
      refine g_iload X1387 hx (pc' := 161) rfl (hD hby at_159) rfl ?_
      refine g_sipush X1387 hx (pc' := 164) (z := (1000 : Int32)) rfl (hD hby at_161) rfl ?_
      refine g_idiv X1387 hx (pc' := 165) rfl (hD hby at_164) (by decide) ?_
      refine g_bipush X1387 hx (pc' := 167) (z := (10 : Int32)) rfl (hD hby at_165) rfl ?_
      refine g_irem X1387 hx (pc' := 168) rfl (hD hby at_167) (by decide) ?_
      refine g_absI (fun d3 h_d3 => ?_)
      refine g_istore X1387 hx (pc' := 170) rfl (hD hby at_168) (l' := #[.val (.int c0), .val (.int c1), .val (.int pp), .val (.int a'), .val (.int b'), .val (.int p'), .val (.ref a1256), .val (.ref t1285), .val (.int 0), .val (.ref a1367), .val (.int 3), .val (.int d4), .val (.int d3), .unset, .unset, .unset]) rfl ?_
      refine g_iload X1387 hx (pc' := 172) rfl (hD hby at_170) rfl ?_
      refine g_bipush X1387 hx (pc' := 174) (z := (100 : Int32)) rfl (hD hby at_172) rfl ?_
      refine g_idiv X1387 hx (pc' := 175) rfl (hD hby at_174) (by decide) ?_
      refine g_bipush X1387 hx (pc' := 177) (z := (10 : Int32)) rfl (hD hby at_175) rfl ?_
      refine g_irem X1387 hx (pc' := 178) rfl (hD hby at_177) (by decide) ?_
      refine g_absI (fun d2 h_d2 => ?_)
      refine g_istore X1387 hx (pc' := 180) rfl (hD hby at_178) (l' := #[.val (.int c0), .val (.int c1), .val (.int pp), .val (.int a'), .val (.int b'), .val (.int p'), .val (.ref a1256), .val (.ref t1285), .val (.int 0), .val (.ref a1367), .val (.int 3), .val (.int d4), .val (.int d3), .val (.int d2), .unset, .unset]) rfl ?_
      refine g_iload X1387 hx (pc' := 182) rfl (hD hby at_180) rfl ?_
      refine g_bipush X1387 hx (pc' := 184) (z := (10 : Int32)) rfl (hD hby at_182) rfl ?_
      refine g_idiv X1387 hx (pc' := 185) rfl (hD hby at_184) (by decide) ?_
      refine g_bipush X1387 hx (pc' := 187) (z := (10 : Int32)) rfl (hD hby at_185) rfl ?_
      refine g_irem X1387 hx (pc' := 188) rfl (hD hby at_187) (by decide) ?_
      refine g_absI (fun d1 h_d1 => ?_)
      refine g_istore X1387 hx (pc' := 190) rfl (hD hby at_188) (l' := #[.val (.int c0), .val (.int c1), .val (.int pp), .val (.int a'), .val (.int b'), .val (.int p'), .val (.ref a1256), .val (.ref t1285), .val (.int 0), .val (.ref a1367), .val (.int 3), .val (.int d4), .val (.int d3), .val (.int d2), .val (.int d1), .unset]) rfl ?_
      refine g_iload X1387 hx (pc' := 192) rfl (hD hby at_190) rfl ?_
      refine g_bipush X1387 hx (pc' := 194) (z := (10 : Int32)) rfl (hD hby at_192) rfl ?_
      refine g_irem X1387 hx (pc' := 195) rfl (hD hby at_194) (by decide) ?_
      refine g_absI (fun d0 h_d0 => ?_)
      refine g_istore X1387 hx (pc' := 197) rfl (hD hby at_195) (l' := #[.val (.int c0), .val (.int c1), .val (.int pp), .val (.int a'), .val (.int b'), .val (.int p'), .val (.ref a1256), .val (.ref t1285), .val (.int 0), .val (.ref a1367), .val (.int 3), .val (.int d4), .val (.int d3), .val (.int d2), .val (.int d1), .val (.int d0)]) rfl ?_
      have fd0 : d0.toInt = p'.toInt % 10 := by rw [h_d0]; exact ar_mod hp0
      have fd1 : d1.toInt = (p'.toInt / 10) % 10 := by rw [h_d1]; have q : (p' / 10).toInt = p'.toInt / 10 := ar_div hp0 (by decide); rw [ar_mod (by omega), q]; rfl
      have fd2 : d2.toInt = (p'.toInt / 100) % 10 := by rw [h_d2]; have q : (p' / 100).toInt = p'.toInt / 100 := ar_div hp0 (by decide); rw [ar_mod (by omega), q]; rfl
      have fd3 : d3.toInt = (p'.toInt / 1000) % 10 := by rw [h_d3]; have q : (p' / 1000).toInt = p'.toInt / 1000 := ar_div hp0 (by decide); rw [ar_mod (by omega), q]; rfl
      have fd4 : d4.toInt = p'.toInt / 10000 := by rw [h_d4]; exact ar_div hp0 (by decide)
      refine g_iload X1387 hx (pc' := 199) rfl (hD hby at_197) rfl ?_
      refine g_sipush X1387 hx (pc' := 202) (z := (10000 : Int32)) rfl (hD hby at_199) rfl ?_
      refine g_icmpY X1387 hx (pcY := 219) (hD hby at_202) (by decide) (by decide) (show p' < (10000 : Int32) from by rw [Int32.lt_iff_toInt_lt]; have e : (10000 : Int32).toInt = 10000 := rfl; omega) ?_
      refine g_iload X1387 hx (pc' := 221) rfl (hD hby at_219) rfl ?_
      refine g_sipush X1387 hx (pc' := 224) (z := (1000 : Int32)) rfl (hD hby at_221) rfl ?_
      refine g_icmpY X1387 hx (pcY := 241) (hD hby at_224) (by decide) (by decide) (show p' < (1000 : Int32) from by rw [Int32.lt_iff_toInt_lt]; have e : (1000 : Int32).toInt = 1000 := rfl; omega) ?_
      refine g_iload X1387 hx (pc' := 243) rfl (hD hby at_241) rfl ?_
      refine g_bipush X1387 hx (pc' := 245) (z := (100 : Int32)) rfl (hD hby at_243) rfl ?_
      refine g_icmpN X1387 hx (pcN := 248) (hD hby at_245) rfl (show ¬ (p' < (100 : Int32)) from by rw [Int32.lt_iff_toInt_lt]; have e : (100 : Int32).toInt = 100 := rfl; omega) ?_
      refine g_aload X1387 hx (pc' := 250) rfl (hD hby at_248) rfl rfl ?_
      refine g_iload X1387 hx (pc' := 252) rfl (hD hby at_250) rfl ?_
      refine g_bipush X1387 hx (pc' := 254) (z := (48 : Int32)) rfl (hD hby at_252) rfl ?_
      refine g_iload X1387 hx (pc' := 256) rfl (hD hby at_254) rfl ?_
      refine g_iadd X1387 hx (pc' := 257) rfl (hD hby at_256) ?_
      refine g_i2c X1387 hx (pc' := 258) rfl (hD hby at_257) ?_
      refine g_castore X1387 hx hZ V1387 (i := 3) (by decide) (show (3 : Nat) < 10 by decide) G_a1367 (y := (((48 : Int32) + d2)).toUInt32.toUInt16.toUInt32.toInt32) (nar_i2c _) (pc' := 259) rfl (hD hby at_258) (fun T1394 h1394 X1394 W1394 N1394 => ?_)
      have f1395 := (by have q := (Keep.of_wr W1394).1; exact Nat.le_trans f1388 q : n0 ≤ h1394.size)
      have f1396 := f1389.wr W1394 G_a1367
      have f1397 := f1390.wr W1394
      have f1398 := f1391.other W1394 (Or.inl ne1367_t1285)
      have f1399 := f1392.other W1394 (Or.inl ne1367_t1285)
      have f1400 := f1393.other W1394 ne1367_tb1285
      have V1394 : AV Z h1394 a1367 .char [.int a', .int b', .int 58, .int (((48 : Int32) + d2)).toUInt32.toUInt16.toUInt32.toInt32, .int 0, .int 0, .int 0, .int 0, .int 0, .int 0] := N1394
      refine g_iincC X1394 hx (pc' := 262) (x := (3 : Int32)) (z := (4 : Int32)) rfl (hD hby at_259) rfl (by decide) (l' := #[.val (.int c0), .val (.int c1), .val (.int pp), .val (.int a'), .val (.int b'), .val (.int p'), .val (.ref a1256), .val (.ref t1285), .val (.int 0), .val (.ref a1367), .val (.int 4), .val (.int d4), .val (.int d3), .val (.int d2), .val (.int d1), .val (.int d0)]) rfl ?_
      refine g_iload X1394 hx (pc' := 264) rfl (hD hby at_262) rfl ?_
      refine g_bipush X1394 hx (pc' := 266) (z := (10 : Int32)) rfl (hD hby at_264) rfl ?_
      refine g_icmpN X1394 hx (pcN := 269) (hD hby at_266) rfl (show ¬ (p' < (10 : Int32)) from by rw [Int32.lt_iff_toInt_lt]; have e : (10 : Int32).toInt = 10 := rfl; omega) ?_
      refine g_aload X1394 hx (pc' := 271) rfl (hD hby at_269) rfl rfl ?_
      refine g_iload X1394 hx (pc' := 273) rfl (hD hby at_271) rfl ?_
      refine g_bipush X1394 hx (pc' := 275) (z := (48 : Int32)) rfl (hD hby at_273) rfl ?_
      refine g_iload X1394 hx (pc' := 277) rfl (hD hby at_275) rfl ?_
      refine g_iadd X1394 hx (pc' := 278) rfl (hD hby at_277) ?_
      refine g_i2c X1394 hx (pc' := 279) rfl (hD hby at_278) ?_
      refine g_castore X1394 hx hZ V1394 (i := 4) (by decide) (show (4 : Nat) < 10 by decide) G_a1367 (y := (((48 : Int32) + d1)).toUInt32.toUInt16.toUInt32.toInt32) (nar_i2c _) (pc' := 280) rfl (hD hby at_279) (fun T1401 h1401 X1401 W1401 N1401 => ?_)
      have f1402 := (by have q := (Keep.of_wr W1401).1; exact Nat.le_trans f1395 q : n0 ≤ h1401.size)
      have f1403 := f1396.wr W1401 G_a1367
      have f1404 := f1397.wr W1401
      have f1405 := f1398.other W1401 (Or.inl ne1367_t1285)
      have f1406 := f1399.other W1401 (Or.inl ne1367_t1285)
      have f1407 := f1400.other W1401 ne1367_tb1285
      have V1401 : AV Z h1401 a1367 .char [.int a', .int b', .int 58, .int (((48 : Int32) + d2)).toUInt32.toUInt16.toUInt32.toInt32, .int (((48 : Int32) + d1)).toUInt32.toUInt16.toUInt32.toInt32, .int 0, .int 0, .int 0, .int 0, .int 0] := N1401
      refine g_iincC X1401 hx (pc' := 283) (x := (4 : Int32)) (z := (5 : Int32)) rfl (hD hby at_280) rfl (by decide) (l' := #[.val (.int c0), .val (.int c1), .val (.int pp), .val (.int a'), .val (.int b'), .val (.int p'), .val (.ref a1256), .val (.ref t1285), .val (.int 0), .val (.ref a1367), .val (.int 5), .val (.int d4), .val (.int d3), .val (.int d2), .val (.int d1), .val (.int d0)]) rfl ?_
      refine g_aload X1401 hx (pc' := 285) rfl (hD hby at_283) rfl rfl ?_
      refine g_iload X1401 hx (pc' := 287) rfl (hD hby at_285) rfl ?_
      refine g_bipush X1401 hx (pc' := 289) (z := (48 : Int32)) rfl (hD hby at_287) rfl ?_
      refine g_iload X1401 hx (pc' := 291) rfl (hD hby at_289) rfl ?_
      refine g_iadd X1401 hx (pc' := 292) rfl (hD hby at_291) ?_
      refine g_i2c X1401 hx (pc' := 293) rfl (hD hby at_292) ?_
      refine g_castore X1401 hx hZ V1401 (i := 5) (by decide) (show (5 : Nat) < 10 by decide) G_a1367 (y := (((48 : Int32) + d0)).toUInt32.toUInt16.toUInt32.toInt32) (nar_i2c _) (pc' := 294) rfl (hD hby at_293) (fun T1408 h1408 X1408 W1408 N1408 => ?_)
      have f1409 := (by have q := (Keep.of_wr W1408).1; exact Nat.le_trans f1402 q : n0 ≤ h1408.size)
      have f1410 := f1403.wr W1408 G_a1367
      have f1411 := f1404.wr W1408
      have f1412 := f1405.other W1408 (Or.inl ne1367_t1285)
      have f1413 := f1406.other W1408 (Or.inl ne1367_t1285)
      have f1414 := f1407.other W1408 ne1367_tb1285
      have V1408 : AV Z h1408 a1367 .char [.int a', .int b', .int 58, .int (((48 : Int32) + d2)).toUInt32.toUInt16.toUInt32.toInt32, .int (((48 : Int32) + d1)).toUInt32.toUInt16.toUInt32.toInt32, .int (((48 : Int32) + d0)).toUInt32.toUInt16.toUInt32.toInt32, .int 0, .int 0, .int 0, .int 0] := N1408
      refine g_iincC X1408 hx (pc' := 297) (x := (5 : Int32)) (z := (6 : Int32)) rfl (hD hby at_294) rfl (by decide) (l' := #[.val (.int c0), .val (.int c1), .val (.int pp), .val (.int a'), .val (.int b'), .val (.int p'), .val (.ref a1256), .val (.ref t1285), .val (.int 0), .val (.ref a1367), .val (.int 6), .val (.int d4), .val (.int d3), .val (.int d2), .val (.int d1), .val (.int d0)]) rfl ?_
      refine tail0 l Z a0 hw n0 _ t1285 tb1285 fo a1367 _ _ _ _ _ _ _ _ _ _ _ _ _ _ cz _ _ f1409 O4 hfo O2 hcz f1410 f1411 f1412 f1413 f1414 rfl V1408 (show (6 : Nat) ≤ 10 by decide) (fun j hj => ?_) hx hZ hby hml hown hret hlk X1408
      match j, hj with
        | 0, _ => exact ⟨_, _, rfl, rfl, own_eqc b_a'⟩
        | 1, _ => exact ⟨_, _, rfl, rfl, own_eqc b_b'⟩
        | 2, _ => exact ⟨_, _, rfl, rfl, by decide⟩
        | 3, _ => exact ⟨_, _, rfl, rfl, own_dig (d := d2) (by omega) (by omega) (by omega)⟩
        | 4, _ => exact ⟨_, _, rfl, rfl, own_dig (d := d1) (by omega) (by omega) (by omega)⟩
        | 5, _ => exact ⟨_, _, rfl, rfl, own_dig (d := d0) (by omega) (by omega) (by omega)⟩
    · skip
      have V1285 : AV Z h1285 tb1285 .byte [.int (a').toInt8.toInt32, .int (b').toInt8.toInt32, .int 58, .int y3, .int y2, .int y1, .int y0] := VV1285
      refine g_astore X1285 hx (pc' := 57) rfl (hD hby at_55) rfl (l' := #[.val (.int c0), .val (.int c1), .val (.int pp), .val (.int a'), .val (.int b'), .val (.int p'), .val (.ref a1256), .val (.ref t1285), .unset, .unset, .unset, .unset, .unset, .unset, .unset, .unset]) rfl ?_
      refine g_iloadN X1285 hx (pc' := 58) rfl (hD hby at_57) rfl ?_
      refine g_bipush X1285 hx (pc' := 60) (z := (58 : Int32)) rfl (hD hby at_58) rfl ?_
      refine g_icmpN X1285 hx (pcN := 63) (hD hby at_60) rfl (show ¬ (a' = (58 : Int32)) from ka) ?_
      refine g_iload X1285 hx (pc' := 65) rfl (hD hby at_63) rfl ?_
      refine g_bipush X1285 hx (pc' := 67) (z := (58 : Int32)) rfl (hD hby at_65) rfl ?_
      suffices J67 : Go p e below s n0 ((Z, ("]" :: "[" :: ":" :: Ts), fun v h => v = some (.int 1)) : GQ) room_1.cells room_1.slots (T1285.setTop (mkF m 80 #[.val (.int c0), .val (.int c1), .val (.int pp), .val (.int a'), .val (.int b'), .val (.int p'), .val (.ref a1256), .val (.ref t1285), .unset, .unset, .unset, .unset, .unset, .unset, .unset, .unset] [])) by
        refine g_icmp X1285 hx (pcY := 80) (pcN := 70) (hD hby at_67) (by decide) (by decide) rfl (fun hc67 => ?_) (fun hc67 => ?_)
        · replace hc67 : ¬ b' = (58 : Int32) := hc67
          exact J67  
        · replace hc67 : b' = (58 : Int32) := Classical.not_not.mp hc67
          refine g_iloadN X1285 hx (pc' := 71) rfl (hD hby at_70) rfl ?_
          refine g_bipush X1285 hx (pc' := 73) (z := (91 : Int32)) rfl (hD hby at_71) rfl ?_
          refine g_icmpY X1285 hx (pcY := 80) (hD hby at_73) (by decide) (by decide) (show a' = (91 : Int32) from (kb.resolve_left (fun q => q.2 hc67)).2) ?_
          exact J67  
      refine g_iconst X1285 hx (pc' := 81) (z := (0 : Int32)) rfl (hD hby at_80) rfl ?_
      refine g_istore X1285 hx (pc' := 83) rfl (hD hby at_81) (l' := #[.val (.int c0), .val (.int c1), .val (.int pp), .val (.int a'), .val (.int b'), .val (.int p'), .val (.ref a1256), .val (.ref t1285), .val (.int 0), .unset, .unset, .unset, .unset, .unset, .unset, .unset]) rfl ?_
      refine g_bipush X1285 hx (pc' := 85) (z := (10 : Int32)) rfl (hD hby at_83) rfl ?_
      refine g_newA X1285 hx hZ (aty := .char) (wat hw 5 rfl) (N := 10) (by decide) (cap := 10) (Nat.le_refl _) (by decide) (pc' := 87) rfl (hD hby at_85) (by decide) (by decide) (fun T1415 h1415 a1415 ha1415 X1415 E1415 N1415 => ?_)
      have ne1415_t1285 : t1285 ≠ a1415 := by rw [ha1415]; exact Nat.ne_of_lt E1285.lt
      have ne1415_tb1285 : tb1285 ≠ a1415 := by rw [ha1415]; exact Nat.ne_of_lt V1285.lt
      have f1416 := E1285.ext E1415
      have f1417 := FV1285.ext E1415
      have f1418 := FC1285.ext E1415
      have f1419 := V1285.ext E1415
      have G_a1415 : n0 ≤ a1415 := by rw [ha1415]; exact zs1285
      have Zs1415 : n0 ≤ h1415.size := Nat.le_trans zs1285 E1415.1
      have f1420 := f1286.ext E1415
      have V1415 : AV Z h1415 a1415 .char [.int 0, .int 0, .int 0, .int 0, .int 0, .int 0, .int 0, .int 0, .int 0, .int 0] := N1415
      refine g_astore X1415 hx (pc' := 89) rfl (hD hby at_87) rfl (l' := #[.val (.int c0), .val (.int c1), .val (.int pp), .val (.int a'), .val (.int b'), .val (.int p'), .val (.ref a1256), .val (.ref t1285), .val (.int 0), .val (.ref a1415), .unset, .unset, .unset, .unset, .unset, .unset]) rfl ?_
      refine g_iconst X1415 hx (pc' := 90) (z := (0 : Int32)) rfl (hD hby at_89) rfl ?_
      refine g_istore X1415 hx (pc' := 92) rfl (hD hby at_90) (l' := #[.val (.int c0), .val (.int c1), .val (.int pp), .val (.int a'), .val (.int b'), .val (.int p'), .val (.ref a1256), .val (.ref t1285), .val (.int 0), .val (.ref a1415), .val (.int 0), .unset, .unset, .unset, .unset, .unset]) rfl ?_
      refine g_iload X1415 hx (pc' := 94) rfl (hD hby at_92) rfl ?_
      refine g_ifY X1415 hx (pcY := 107) (hD hby at_94) (by decide) (by decide) (show (0 : Int32) = 0 from by decide) ?_
      refine g_aload X1415 hx (pc' := 109) rfl (hD hby at_107) rfl rfl ?_
      refine g_iload X1415 hx (pc' := 111) rfl (hD hby at_109) rfl ?_
      refine g_iloadN X1415 hx (pc' := 112) rfl (hD hby at_111) rfl ?_
      refine g_castore X1415 hx hZ V1415 (i := 0) (by decide) (show (0 : Nat) < 10 by decide) G_a1415 (y := a') n_a' (pc' := 113) rfl (hD hby at_112) (fun T1421 h1421 X1421 W1421 N1421 => ?_)
      have f1422 := (by have q := (Keep.of_wr W1421).1; exact Nat.le_trans Zs1415 q : n0 ≤ h1421.size)
      have f1423 := f1420.wr W1421 G_a1415
      have f1424 := f1416.wr W1421
      have f1425 := f1417.other W1421 (Or.inl ne1415_t1285)
      have f1426 := f1418.other W1421 (Or.inl ne1415_t1285)
      have f1427 := f1419.other W1421 ne1415_tb1285
      have V1421 : AV Z h1421 a1415 .char [.int a', .int 0, .int 0, .int 0, .int 0, .int 0, .int 0, .int 0, .int 0, .int 0] := N1421
      refine g_iincC X1421 hx (pc' := 116) (x := (0 : Int32)) (z := (1 : Int32)) rfl (hD hby at_113) rfl (by decide) (l' := #[.val (.int c0), .val (.int c1), .val (.int pp), .val (.int a'), .val (.int b'), .val (.int p'), .val (.ref a1256), .val (.ref t1285), .val (.int 0), .val (.ref a1415), .val (.int 1), .unset, .unset, .unset, .unset, .unset]) rfl ?_
      refine g_aload X1421 hx (pc' := 118) rfl (hD hby at_116) rfl rfl ?_
      refine g_iload X1421 hx (pc' := 120) rfl (hD hby at_118) rfl ?_
      refine g_iload X1421 hx (pc' := 122) rfl (hD hby at_120) rfl ?_
      refine g_castore X1421 hx hZ V1421 (i := 1) (by decide) (show (1 : Nat) < 10 by decide) G_a1415 (y := b') n_b' (pc' := 123) rfl (hD hby at_122) (fun T1428 h1428 X1428 W1428 N1428 => ?_)
      have f1429 := (by have q := (Keep.of_wr W1428).1; exact Nat.le_trans f1422 q : n0 ≤ h1428.size)
      have f1430 := f1423.wr W1428 G_a1415
      have f1431 := f1424.wr W1428
      have f1432 := f1425.other W1428 (Or.inl ne1415_t1285)
      have f1433 := f1426.other W1428 (Or.inl ne1415_t1285)
      have f1434 := f1427.other W1428 ne1415_tb1285
      have V1428 : AV Z h1428 a1415 .char [.int a', .int b', .int 0, .int 0, .int 0, .int 0, .int 0, .int 0, .int 0, .int 0] := N1428
      refine g_iincC X1428 hx (pc' := 126) (x := (1 : Int32)) (z := (2 : Int32)) rfl (hD hby at_123) rfl (by decide) (l' := #[.val (.int c0), .val (.int c1), .val (.int pp), .val (.int a'), .val (.int b'), .val (.int p'), .val (.ref a1256), .val (.ref t1285), .val (.int 0), .val (.ref a1415), .val (.int 2), .unset, .unset, .unset, .unset, .unset]) rfl ?_
      refine g_iload X1428 hx (pc' := 128) rfl (hD hby at_126) rfl ?_
      refine g_ifY X1428 hx (pcY := 141) (hD hby at_128) (by decide) (by decide) (show (0 : Int32) = 0 from by decide) ?_
      refine g_aload X1428 hx (pc' := 143) rfl (hD hby at_141) rfl rfl ?_
      refine g_iload X1428 hx (pc' := 145) rfl (hD hby at_143) rfl ?_
      refine g_bipush X1428 hx (pc' := 147) (z := (58 : Int32)) rfl (hD hby at_145) rfl ?_
      refine g_castore X1428 hx hZ V1428 (i := 2) (by decide) (show (2 : Nat) < 10 by decide) G_a1415 (y := (58 : Int32)) (by decide) (pc' := 148) rfl (hD hby at_147) (fun T1435 h1435 X1435 W1435 N1435 => ?_)
      have f1436 := (by have q := (Keep.of_wr W1435).1; exact Nat.le_trans f1429 q : n0 ≤ h1435.size)
      have f1437 := f1430.wr W1435 G_a1415
      have f1438 := f1431.wr W1435
      have f1439 := f1432.other W1435 (Or.inl ne1415_t1285)
      have f1440 := f1433.other W1435 (Or.inl ne1415_t1285)
      have f1441 := f1434.other W1435 ne1415_tb1285
      have V1435 : AV Z h1435 a1415 .char [.int a', .int b', .int 58, .int 0, .int 0, .int 0, .int 0, .int 0, .int 0, .int 0] := N1435
      refine g_iincC X1435 hx (pc' := 151) (x := (2 : Int32)) (z := (3 : Int32)) rfl (hD hby at_148) rfl (by decide) (l' := #[.val (.int c0), .val (.int c1), .val (.int pp), .val (.int a'), .val (.int b'), .val (.int p'), .val (.ref a1256), .val (.ref t1285), .val (.int 0), .val (.ref a1415), .val (.int 3), .unset, .unset, .unset, .unset, .unset]) rfl ?_
      refine g_iload X1435 hx (pc' := 153) rfl (hD hby at_151) rfl ?_
      refine g_sipush X1435 hx (pc' := 156) (z := (10000 : Int32)) rfl (hD hby at_153) rfl ?_
      refine g_idiv X1435 hx (pc' := 157) rfl (hD hby at_156) (by decide) ?_
      refine g_absI (fun d4 h_d4 => ?_)
      refine g_istore X1435 hx (pc' := 159) rfl (hD hby at_157) (l' := #[.val (.int c0), .val (.int c1), .val (.int pp), .val (.int a'), .val (.int b'), .val (.int p'), .val (.ref a1256), .val (.ref t1285), .val (.int 0), .val (.ref a1415), .val (.int 3), .val (.int d4), .unset, .unset, .unset, .unset]) rfl ?_
      refine g_iload X1435 hx (pc' := 161) rfl (hD hby at_159) rfl ?_
      refine g_sipush X1435 hx (pc' := 164) (z := (1000 : Int32)) rfl (hD hby at_161) rfl ?_
      refine g_idiv X1435 hx (pc' := 165) rfl (hD hby at_164) (by decide) ?_
      refine g_bipush X1435 hx (pc' := 167) (z := (10 : Int32)) rfl (hD hby at_165) rfl ?_
      refine g_irem X1435 hx (pc' := 168) rfl (hD hby at_167) (by decide) ?_
      refine g_absI (fun d3 h_d3 => ?_)
      refine g_istore X1435 hx (pc' := 170) rfl (hD hby at_168) (l' := #[.val (.int c0), .val (.int c1), .val (.int pp), .val (.int a'), .val (.int b'), .val (.int p'), .val (.ref a1256), .val (.ref t1285), .val (.int 0), .val (.ref a1415), .val (.int 3), .val (.int d4), .val (.int d3), .unset, .unset, .unset]) rfl ?_
      refine g_iload X1435 hx (pc' := 172) rfl (hD hby at_170) rfl ?_
      refine g_bipush X1435 hx (pc' := 174) (z := (100 : Int32)) rfl (hD hby at_172) rfl ?_
      refine g_idiv X1435 hx (pc' := 175) rfl (hD hby at_174) (by decide) ?_
      refine g_bipush X1435 hx (pc' := 177) (z := (10 : Int32)) rfl (hD hby at_175) rfl ?_
      refine g_irem X1435 hx (pc' := 178) rfl (hD hby at_177) (by decide) ?_
      refine g_absI (fun d2 h_d2 => ?_)
      refine g_istore X1435 hx (pc' := 180) rfl (hD hby at_178) (l' := #[.val (.int c0), .val (.int c1), .val (.int pp), .val (.int a'), .val (.int b'), .val (.int p'), .val (.ref a1256), .val (.ref t1285), .val (.int 0), .val (.ref a1415), .val (.int 3), .val (.int d4), .val (.int d3), .val (.int d2), .unset, .unset]) rfl ?_
      refine g_iload X1435 hx (pc' := 182) rfl (hD hby at_180) rfl ?_
      refine g_bipush X1435 hx (pc' := 184) (z := (10 : Int32)) rfl (hD hby at_182) rfl ?_
      refine g_idiv X1435 hx (pc' := 185) rfl (hD hby at_184) (by decide) ?_
      refine g_bipush X1435 hx (pc' := 187) (z := (10 : Int32)) rfl (hD hby at_185) rfl ?_
      refine g_irem X1435 hx (pc' := 188) rfl (hD hby at_187) (by decide) ?_
      refine g_absI (fun d1 h_d1 => ?_)
      refine g_istore X1435 hx (pc' := 190) rfl (hD hby at_188) (l' := #[.val (.int c0), .val (.int c1), .val (.int pp), .val (.int a'), .val (.int b'), .val (.int p'), .val (.ref a1256), .val (.ref t1285), .val (.int 0), .val (.ref a1415), .val (.int 3), .val (.int d4), .val (.int d3), .val (.int d2), .val (.int d1), .unset]) rfl ?_
      refine g_iload X1435 hx (pc' := 192) rfl (hD hby at_190) rfl ?_
      refine g_bipush X1435 hx (pc' := 194) (z := (10 : Int32)) rfl (hD hby at_192) rfl ?_
      refine g_irem X1435 hx (pc' := 195) rfl (hD hby at_194) (by decide) ?_
      refine g_absI (fun d0 h_d0 => ?_)
      refine g_istore X1435 hx (pc' := 197) rfl (hD hby at_195) (l' := #[.val (.int c0), .val (.int c1), .val (.int pp), .val (.int a'), .val (.int b'), .val (.int p'), .val (.ref a1256), .val (.ref t1285), .val (.int 0), .val (.ref a1415), .val (.int 3), .val (.int d4), .val (.int d3), .val (.int d2), .val (.int d1), .val (.int d0)]) rfl ?_
      have fd0 : d0.toInt = p'.toInt % 10 := by rw [h_d0]; exact ar_mod hp0
      have fd1 : d1.toInt = (p'.toInt / 10) % 10 := by rw [h_d1]; have q : (p' / 10).toInt = p'.toInt / 10 := ar_div hp0 (by decide); rw [ar_mod (by omega), q]; rfl
      have fd2 : d2.toInt = (p'.toInt / 100) % 10 := by rw [h_d2]; have q : (p' / 100).toInt = p'.toInt / 100 := ar_div hp0 (by decide); rw [ar_mod (by omega), q]; rfl
      have fd3 : d3.toInt = (p'.toInt / 1000) % 10 := by rw [h_d3]; have q : (p' / 1000).toInt = p'.toInt / 1000 := ar_div hp0 (by decide); rw [ar_mod (by omega), q]; rfl
      have fd4 : d4.toInt = p'.toInt / 10000 := by rw [h_d4]; exact ar_div hp0 (by decide)
      refine g_iload X1435 hx (pc' := 199) rfl (hD hby at_197) rfl ?_
      refine g_sipush X1435 hx (pc' := 202) (z := (10000 : Int32)) rfl (hD hby at_199) rfl ?_
      refine g_icmpY X1435 hx (pcY := 219) (hD hby at_202) (by decide) (by decide) (show p' < (10000 : Int32) from by rw [Int32.lt_iff_toInt_lt]; have e : (10000 : Int32).toInt = 10000 := rfl; omega) ?_
      refine g_iload X1435 hx (pc' := 221) rfl (hD hby at_219) rfl ?_
      refine g_sipush X1435 hx (pc' := 224) (z := (1000 : Int32)) rfl (hD hby at_221) rfl ?_
      refine g_icmpN X1435 hx (pcN := 227) (hD hby at_224) rfl (show ¬ (p' < (1000 : Int32)) from by rw [Int32.lt_iff_toInt_lt]; have e : (1000 : Int32).toInt = 1000 := rfl; omega) ?_
      refine g_aload X1435 hx (pc' := 229) rfl (hD hby at_227) rfl rfl ?_
      refine g_iload X1435 hx (pc' := 231) rfl (hD hby at_229) rfl ?_
      refine g_bipush X1435 hx (pc' := 233) (z := (48 : Int32)) rfl (hD hby at_231) rfl ?_
      refine g_iload X1435 hx (pc' := 235) rfl (hD hby at_233) rfl ?_
      refine g_iadd X1435 hx (pc' := 236) rfl (hD hby at_235) ?_
      refine g_i2c X1435 hx (pc' := 237) rfl (hD hby at_236) ?_
      refine g_castore X1435 hx hZ V1435 (i := 3) (by decide) (show (3 : Nat) < 10 by decide) G_a1415 (y := (((48 : Int32) + d3)).toUInt32.toUInt16.toUInt32.toInt32) (nar_i2c _) (pc' := 238) rfl (hD hby at_237) (fun T1442 h1442 X1442 W1442 N1442 => ?_)
      have f1443 := (by have q := (Keep.of_wr W1442).1; exact Nat.le_trans f1436 q : n0 ≤ h1442.size)
      have f1444 := f1437.wr W1442 G_a1415
      have f1445 := f1438.wr W1442
      have f1446 := f1439.other W1442 (Or.inl ne1415_t1285)
      have f1447 := f1440.other W1442 (Or.inl ne1415_t1285)
      have f1448 := f1441.other W1442 ne1415_tb1285
      have V1442 : AV Z h1442 a1415 .char [.int a', .int b', .int 58, .int (((48 : Int32) + d3)).toUInt32.toUInt16.toUInt32.toInt32, .int 0, .int 0, .int 0, .int 0, .int 0, .int 0] := N1442
      refine g_iincC X1442 hx (pc' := 241) (x := (3 : Int32)) (z := (4 : Int32)) rfl (hD hby at_238) rfl (by decide) (l' := #[.val (.int c0), .val (.int c1), .val (.int pp), .val (.int a'), .val (.int b'), .val (.int p'), .val (.ref a1256), .val (.ref t1285), .val (.int 0), .val (.ref a1415), .val (.int 4), .val (.int d4), .val (.int d3), .val (.int d2), .val (.int d1), .val (.int d0)]) rfl ?_
      refine g_iload X1442 hx (pc' := 243) rfl (hD hby at_241) rfl ?_
      refine g_bipush X1442 hx (pc' := 245) (z := (100 : Int32)) rfl (hD hby at_243) rfl ?_
      refine g_icmpN X1442 hx (pcN := 248) (hD hby at_245) rfl (show ¬ (p' < (100 : Int32)) from by rw [Int32.lt_iff_toInt_lt]; have e : (100 : Int32).toInt = 100 := rfl; omega) ?_
      refine g_aload X1442 hx (pc' := 250) rfl (hD hby at_248) rfl rfl ?_
      refine g_iload X1442 hx (pc' := 252) rfl (hD hby at_250) rfl ?_
      refine g_bipush X1442 hx (pc' := 254) (z := (48 : Int32)) rfl (hD hby at_252) rfl ?_
      refine g_iload X1442 hx (pc' := 256) rfl (hD hby at_254) rfl ?_
      refine g_iadd X1442 hx (pc' := 257) rfl (hD hby at_256) ?_
      refine g_i2c X1442 hx (pc' := 258) rfl (hD hby at_257) ?_
      refine g_castore X1442 hx hZ V1442 (i := 4) (by decide) (show (4 : Nat) < 10 by decide) G_a1415 (y := (((48 : Int32) + d2)).toUInt32.toUInt16.toUInt32.toInt32) (nar_i2c _) (pc' := 259) rfl (hD hby at_258) (fun T1449 h1449 X1449 W1449 N1449 => ?_)
      have f1450 := (by have q := (Keep.of_wr W1449).1; exact Nat.le_trans f1443 q : n0 ≤ h1449.size)
      have f1451 := f1444.wr W1449 G_a1415
      have f1452 := f1445.wr W1449
      have f1453 := f1446.other W1449 (Or.inl ne1415_t1285)
      have f1454 := f1447.other W1449 (Or.inl ne1415_t1285)
      have f1455 := f1448.other W1449 ne1415_tb1285
      have V1449 : AV Z h1449 a1415 .char [.int a', .int b', .int 58, .int (((48 : Int32) + d3)).toUInt32.toUInt16.toUInt32.toInt32, .int (((48 : Int32) + d2)).toUInt32.toUInt16.toUInt32.toInt32, .int 0, .int 0, .int 0, .int 0, .int 0] := N1449
      refine g_iincC X1449 hx (pc' := 262) (x := (4 : Int32)) (z := (5 : Int32)) rfl (hD hby at_259) rfl (by decide) (l' := #[.val (.int c0), .val (.int c1), .val (.int pp), .val (.int a'), .val (.int b'), .val (.int p'), .val (.ref a1256), .val (.ref t1285), .val (.int 0), .val (.ref a1415), .val (.int 5), .val (.int d4), .val (.int d3), .val (.int d2), .val (.int d1), .val (.int d0)]) rfl ?_
      refine g_iload X1449 hx (pc' := 264) rfl (hD hby at_262) rfl ?_
      refine g_bipush X1449 hx (pc' := 266) (z := (10 : Int32)) rfl (hD hby at_264) rfl ?_
      refine g_icmpN X1449 hx (pcN := 269) (hD hby at_266) rfl (show ¬ (p' < (10 : Int32)) from by rw [Int32.lt_iff_toInt_lt]; have e : (10 : Int32).toInt = 10 := rfl; omega) ?_
      refine g_aload X1449 hx (pc' := 271) rfl (hD hby at_269) rfl rfl ?_
      refine g_iload X1449 hx (pc' := 273) rfl (hD hby at_271) rfl ?_
      refine g_bipush X1449 hx (pc' := 275) (z := (48 : Int32)) rfl (hD hby at_273) rfl ?_
      refine g_iload X1449 hx (pc' := 277) rfl (hD hby at_275) rfl ?_
      refine g_iadd X1449 hx (pc' := 278) rfl (hD hby at_277) ?_
      refine g_i2c X1449 hx (pc' := 279) rfl (hD hby at_278) ?_
      refine g_castore X1449 hx hZ V1449 (i := 5) (by decide) (show (5 : Nat) < 10 by decide) G_a1415 (y := (((48 : Int32) + d1)).toUInt32.toUInt16.toUInt32.toInt32) (nar_i2c _) (pc' := 280) rfl (hD hby at_279) (fun T1456 h1456 X1456 W1456 N1456 => ?_)
      have f1457 := (by have q := (Keep.of_wr W1456).1; exact Nat.le_trans f1450 q : n0 ≤ h1456.size)
      have f1458 := f1451.wr W1456 G_a1415
      have f1459 := f1452.wr W1456
      have f1460 := f1453.other W1456 (Or.inl ne1415_t1285)
      have f1461 := f1454.other W1456 (Or.inl ne1415_t1285)
      have f1462 := f1455.other W1456 ne1415_tb1285
      have V1456 : AV Z h1456 a1415 .char [.int a', .int b', .int 58, .int (((48 : Int32) + d3)).toUInt32.toUInt16.toUInt32.toInt32, .int (((48 : Int32) + d2)).toUInt32.toUInt16.toUInt32.toInt32, .int (((48 : Int32) + d1)).toUInt32.toUInt16.toUInt32.toInt32, .int 0, .int 0, .int 0, .int 0] := N1456
      refine g_iincC X1456 hx (pc' := 283) (x := (5 : Int32)) (z := (6 : Int32)) rfl (hD hby at_280) rfl (by decide) (l' := #[.val (.int c0), .val (.int c1), .val (.int pp), .val (.int a'), .val (.int b'), .val (.int p'), .val (.ref a1256), .val (.ref t1285), .val (.int 0), .val (.ref a1415), .val (.int 6), .val (.int d4), .val (.int d3), .val (.int d2), .val (.int d1), .val (.int d0)]) rfl ?_
      refine g_aload X1456 hx (pc' := 285) rfl (hD hby at_283) rfl rfl ?_
      refine g_iload X1456 hx (pc' := 287) rfl (hD hby at_285) rfl ?_
      refine g_bipush X1456 hx (pc' := 289) (z := (48 : Int32)) rfl (hD hby at_287) rfl ?_
      refine g_iload X1456 hx (pc' := 291) rfl (hD hby at_289) rfl ?_
      refine g_iadd X1456 hx (pc' := 292) rfl (hD hby at_291) ?_
      refine g_i2c X1456 hx (pc' := 293) rfl (hD hby at_292) ?_
      refine g_castore X1456 hx hZ V1456 (i := 6) (by decide) (show (6 : Nat) < 10 by decide) G_a1415 (y := (((48 : Int32) + d0)).toUInt32.toUInt16.toUInt32.toInt32) (nar_i2c _) (pc' := 294) rfl (hD hby at_293) (fun T1463 h1463 X1463 W1463 N1463 => ?_)
      have f1464 := (by have q := (Keep.of_wr W1463).1; exact Nat.le_trans f1457 q : n0 ≤ h1463.size)
      have f1465 := f1458.wr W1463 G_a1415
      have f1466 := f1459.wr W1463
      have f1467 := f1460.other W1463 (Or.inl ne1415_t1285)
      have f1468 := f1461.other W1463 (Or.inl ne1415_t1285)
      have f1469 := f1462.other W1463 ne1415_tb1285
      have V1463 : AV Z h1463 a1415 .char [.int a', .int b', .int 58, .int (((48 : Int32) + d3)).toUInt32.toUInt16.toUInt32.toInt32, .int (((48 : Int32) + d2)).toUInt32.toUInt16.toUInt32.toInt32, .int (((48 : Int32) + d1)).toUInt32.toUInt16.toUInt32.toInt32, .int (((48 : Int32) + d0)).toUInt32.toUInt16.toUInt32.toInt32, .int 0, .int 0, .int 0] := N1463
      refine g_iincC X1463 hx (pc' := 297) (x := (6 : Int32)) (z := (7 : Int32)) rfl (hD hby at_294) rfl (by decide) (l' := #[.val (.int c0), .val (.int c1), .val (.int pp), .val (.int a'), .val (.int b'), .val (.int p'), .val (.ref a1256), .val (.ref t1285), .val (.int 0), .val (.ref a1415), .val (.int 7), .val (.int d4), .val (.int d3), .val (.int d2), .val (.int d1), .val (.int d0)]) rfl ?_
      refine tail0 l Z a0 hw n0 _ t1285 tb1285 fo a1415 _ _ _ _ _ _ _ _ _ _ _ _ _ _ cz _ _ f1464 O4 hfo O2 hcz f1465 f1466 f1467 f1468 f1469 rfl V1463 (show (7 : Nat) ≤ 10 by decide) (fun j hj => ?_) hx hZ hby hml hown hret hlk X1463
      match j, hj with
        | 0, _ => exact ⟨_, _, rfl, rfl, own_eqc b_a'⟩
        | 1, _ => exact ⟨_, _, rfl, rfl, own_eqc b_b'⟩
        | 2, _ => exact ⟨_, _, rfl, rfl, by decide⟩
        | 3, _ => exact ⟨_, _, rfl, rfl, own_dig (d := d3) (by omega) (by omega) (by omega)⟩
        | 4, _ => exact ⟨_, _, rfl, rfl, own_dig (d := d2) (by omega) (by omega) (by omega)⟩
        | 5, _ => exact ⟨_, _, rfl, rfl, own_dig (d := d1) (by omega) (by omega) (by omega)⟩
        | 6, _ => exact ⟨_, _, rfl, rfl, own_dig (d := d0) (by omega) (by omega) (by omega)⟩
    · skip
      have V1285 : AV Z h1285 tb1285 .byte [.int (a').toInt8.toInt32, .int (b').toInt8.toInt32, .int 58, .int y4, .int y3, .int y2, .int y1, .int y0] := VV1285
      refine g_astore X1285 hx (pc' := 57) rfl (hD hby at_55) rfl (l' := #[.val (.int c0), .val (.int c1), .val (.int pp), .val (.int a'), .val (.int b'), .val (.int p'), .val (.ref a1256), .val (.ref t1285), .unset, .unset, .unset, .unset, .unset, .unset, .unset, .unset]) rfl ?_
      refine g_iloadN X1285 hx (pc' := 58) rfl (hD hby at_57) rfl ?_
      refine g_bipush X1285 hx (pc' := 60) (z := (58 : Int32)) rfl (hD hby at_58) rfl ?_
      refine g_icmpN X1285 hx (pcN := 63) (hD hby at_60) rfl (show ¬ (a' = (58 : Int32)) from ka) ?_
      refine g_iload X1285 hx (pc' := 65) rfl (hD hby at_63) rfl ?_
      refine g_bipush X1285 hx (pc' := 67) (z := (58 : Int32)) rfl (hD hby at_65) rfl ?_
      suffices J67 : Go p e below s n0 ((Z, ("]" :: "[" :: ":" :: Ts), fun v h => v = some (.int 1)) : GQ) room_1.cells room_1.slots (T1285.setTop (mkF m 80 #[.val (.int c0), .val (.int c1), .val (.int pp), .val (.int a'), .val (.int b'), .val (.int p'), .val (.ref a1256), .val (.ref t1285), .unset, .unset, .unset, .unset, .unset, .unset, .unset, .unset] [])) by
        refine g_icmp X1285 hx (pcY := 80) (pcN := 70) (hD hby at_67) (by decide) (by decide) rfl (fun hc67 => ?_) (fun hc67 => ?_)
        · replace hc67 : ¬ b' = (58 : Int32) := hc67
          exact J67  
        · replace hc67 : b' = (58 : Int32) := Classical.not_not.mp hc67
          refine g_iloadN X1285 hx (pc' := 71) rfl (hD hby at_70) rfl ?_
          refine g_bipush X1285 hx (pc' := 73) (z := (91 : Int32)) rfl (hD hby at_71) rfl ?_
          refine g_icmpY X1285 hx (pcY := 80) (hD hby at_73) (by decide) (by decide) (show a' = (91 : Int32) from (kb.resolve_left (fun q => q.2 hc67)).2) ?_
          exact J67  
      refine g_iconst X1285 hx (pc' := 81) (z := (0 : Int32)) rfl (hD hby at_80) rfl ?_
      refine g_istore X1285 hx (pc' := 83) rfl (hD hby at_81) (l' := #[.val (.int c0), .val (.int c1), .val (.int pp), .val (.int a'), .val (.int b'), .val (.int p'), .val (.ref a1256), .val (.ref t1285), .val (.int 0), .unset, .unset, .unset, .unset, .unset, .unset, .unset]) rfl ?_
      refine g_bipush X1285 hx (pc' := 85) (z := (10 : Int32)) rfl (hD hby at_83) rfl ?_
      refine g_newA X1285 hx hZ (aty := .char) (wat hw 5 rfl) (N := 10) (by decide) (cap := 10) (Nat.le_refl _) (by decide) (pc' := 87) rfl (hD hby at_85) (by decide) (by decide) (fun T1470 h1470 a1470 ha1470 X1470 E1470 N1470 => ?_)
      have ne1470_t1285 : t1285 ≠ a1470 := by rw [ha1470]; exact Nat.ne_of_lt E1285.lt
      have ne1470_tb1285 : tb1285 ≠ a1470 := by rw [ha1470]; exact Nat.ne_of_lt V1285.lt
      have f1471 := E1285.ext E1470
      have f1472 := FV1285.ext E1470
      have f1473 := FC1285.ext E1470
      have f1474 := V1285.ext E1470
      have G_a1470 : n0 ≤ a1470 := by rw [ha1470]; exact zs1285
      have Zs1470 : n0 ≤ h1470.size := Nat.le_trans zs1285 E1470.1
      have f1475 := f1286.ext E1470
      have V1470 : AV Z h1470 a1470 .char [.int 0, .int 0, .int 0, .int 0, .int 0, .int 0, .int 0, .int 0, .int 0, .int 0] := N1470
      refine g_astore X1470 hx (pc' := 89) rfl (hD hby at_87) rfl (l' := #[.val (.int c0), .val (.int c1), .val (.int pp), .val (.int a'), .val (.int b'), .val (.int p'), .val (.ref a1256), .val (.ref t1285), .val (.int 0), .val (.ref a1470), .unset, .unset, .unset, .unset, .unset, .unset]) rfl ?_
      refine g_iconst X1470 hx (pc' := 90) (z := (0 : Int32)) rfl (hD hby at_89) rfl ?_
      refine g_istore X1470 hx (pc' := 92) rfl (hD hby at_90) (l' := #[.val (.int c0), .val (.int c1), .val (.int pp), .val (.int a'), .val (.int b'), .val (.int p'), .val (.ref a1256), .val (.ref t1285), .val (.int 0), .val (.ref a1470), .val (.int 0), .unset, .unset, .unset, .unset, .unset]) rfl ?_
      refine g_iload X1470 hx (pc' := 94) rfl (hD hby at_92) rfl ?_
      refine g_ifY X1470 hx (pcY := 107) (hD hby at_94) (by decide) (by decide) (show (0 : Int32) = 0 from by decide) ?_
      refine g_aload X1470 hx (pc' := 109) rfl (hD hby at_107) rfl rfl ?_
      refine g_iload X1470 hx (pc' := 111) rfl (hD hby at_109) rfl ?_
      refine g_iloadN X1470 hx (pc' := 112) rfl (hD hby at_111) rfl ?_
      refine g_castore X1470 hx hZ V1470 (i := 0) (by decide) (show (0 : Nat) < 10 by decide) G_a1470 (y := a') n_a' (pc' := 113) rfl (hD hby at_112) (fun T1476 h1476 X1476 W1476 N1476 => ?_)
      have f1477 := (by have q := (Keep.of_wr W1476).1; exact Nat.le_trans Zs1470 q : n0 ≤ h1476.size)
      have f1478 := f1475.wr W1476 G_a1470
      have f1479 := f1471.wr W1476
      have f1480 := f1472.other W1476 (Or.inl ne1470_t1285)
      have f1481 := f1473.other W1476 (Or.inl ne1470_t1285)
      have f1482 := f1474.other W1476 ne1470_tb1285
      have V1476 : AV Z h1476 a1470 .char [.int a', .int 0, .int 0, .int 0, .int 0, .int 0, .int 0, .int 0, .int 0, .int 0] := N1476
      refine g_iincC X1476 hx (pc' := 116) (x := (0 : Int32)) (z := (1 : Int32)) rfl (hD hby at_113) rfl (by decide) (l' := #[.val (.int c0), .val (.int c1), .val (.int pp), .val (.int a'), .val (.int b'), .val (.int p'), .val (.ref a1256), .val (.ref t1285), .val (.int 0), .val (.ref a1470), .val (.int 1), .unset, .unset, .unset, .unset, .unset]) rfl ?_
      refine g_aload X1476 hx (pc' := 118) rfl (hD hby at_116) rfl rfl ?_
      refine g_iload X1476 hx (pc' := 120) rfl (hD hby at_118) rfl ?_
      refine g_iload X1476 hx (pc' := 122) rfl (hD hby at_120) rfl ?_
      refine g_castore X1476 hx hZ V1476 (i := 1) (by decide) (show (1 : Nat) < 10 by decide) G_a1470 (y := b') n_b' (pc' := 123) rfl (hD hby at_122) (fun T1483 h1483 X1483 W1483 N1483 => ?_)
      have f1484 := (by have q := (Keep.of_wr W1483).1; exact Nat.le_trans f1477 q : n0 ≤ h1483.size)
      have f1485 := f1478.wr W1483 G_a1470
      have f1486 := f1479.wr W1483
      have f1487 := f1480.other W1483 (Or.inl ne1470_t1285)
      have f1488 := f1481.other W1483 (Or.inl ne1470_t1285)
      have f1489 := f1482.other W1483 ne1470_tb1285
      have V1483 : AV Z h1483 a1470 .char [.int a', .int b', .int 0, .int 0, .int 0, .int 0, .int 0, .int 0, .int 0, .int 0] := N1483
      refine g_iincC X1483 hx (pc' := 126) (x := (1 : Int32)) (z := (2 : Int32)) rfl (hD hby at_123) rfl (by decide) (l' := #[.val (.int c0), .val (.int c1), .val (.int pp), .val (.int a'), .val (.int b'), .val (.int p'), .val (.ref a1256), .val (.ref t1285), .val (.int 0), .val (.ref a1470), .val (.int 2), .unset, .unset, .unset, .unset, .unset]) rfl ?_
      refine g_iload X1483 hx (pc' := 128) rfl (hD hby at_126) rfl ?_
      refine g_ifY X1483 hx (pcY := 141) (hD hby at_128) (by decide) (by decide) (show (0 : Int32) = 0 from by decide) ?_
      refine g_aload X1483 hx (pc' := 143) rfl (hD hby at_141) rfl rfl ?_
      refine g_iload X1483 hx (pc' := 145) rfl (hD hby at_143) rfl ?_
      refine g_bipush X1483 hx (pc' := 147) (z := (58 : Int32)) rfl (hD hby at_145) rfl ?_
      refine g_castore X1483 hx hZ V1483 (i := 2) (by decide) (show (2 : Nat) < 10 by decide) G_a1470 (y := (58 : Int32)) (by decide) (pc' := 148) rfl (hD hby at_147) (fun T1490 h1490 X1490 W1490 N1490 => ?_)
      have f1491 := (by have q := (Keep.of_wr W1490).1; exact Nat.le_trans f1484 q : n0 ≤ h1490.size)
      have f1492 := f1485.wr W1490 G_a1470
      have f1493 := f1486.wr W1490
      have f1494 := f1487.other W1490 (Or.inl ne1470_t1285)
      have f1495 := f1488.other W1490 (Or.inl ne1470_t1285)
      have f1496 := f1489.other W1490 ne1470_tb1285
      have V1490 : AV Z h1490 a1470 .char [.int a', .int b', .int 58, .int 0, .int 0, .int 0, .int 0, .int 0, .int 0, .int 0] := N1490
      refine g_iincC X1490 hx (pc' := 151) (x := (2 : Int32)) (z := (3 : Int32)) rfl (hD hby at_148) rfl (by decide) (l' := #[.val (.int c0), .val (.int c1), .val (.int pp), .val (.int a'), .val (.int b'), .val (.int p'), .val (.ref a1256), .val (.ref t1285), .val (.int 0), .val (.ref a1470), .val (.int 3), .unset, .unset, .unset, .unset, .unset]) rfl ?_
      refine g_iload X1490 hx (pc' := 153) rfl (hD hby at_151) rfl ?_
      refine g_sipush X1490 hx (pc' := 156) (z := (10000 : Int32)) rfl (hD hby at_153) rfl ?_
      refine g_idiv X1490 hx (pc' := 157) rfl (hD hby at_156) (by decide) ?_
      refine g_absI (fun d4 h_d4 => ?_)
      refine g_istore X1490 hx (pc' := 159) rfl (hD hby at_157) (l' := #[.val (.int c0), .val (.int c1), .val (.int pp), .val (.int a'), .val (.int b'), .val (.int p'), .val (.ref a1256), .val (.ref t1285), .val (.int 0), .val (.ref a1470), .val (.int 3), .val (.int d4), .unset, .unset, .unset, .unset]) rfl ?_
      refine g_iload X1490 hx (pc' := 161) rfl (hD hby at_159) rfl ?_
      refine g_sipush X1490 hx (pc' := 164) (z := (1000 : Int32)) rfl (hD hby at_161) rfl ?_
      refine g_idiv X1490 hx (pc' := 165) rfl (hD hby at_164) (by decide) ?_
      refine g_bipush X1490 hx (pc' := 167) (z := (10 : Int32)) rfl (hD hby at_165) rfl ?_
      refine g_irem X1490 hx (pc' := 168) rfl (hD hby at_167) (by decide) ?_
      refine g_absI (fun d3 h_d3 => ?_)
      refine g_istore X1490 hx (pc' := 170) rfl (hD hby at_168) (l' := #[.val (.int c0), .val (.int c1), .val (.int pp), .val (.int a'), .val (.int b'), .val (.int p'), .val (.ref a1256), .val (.ref t1285), .val (.int 0), .val (.ref a1470), .val (.int 3), .val (.int d4), .val (.int d3), .unset, .unset, .unset]) rfl ?_
      refine g_iload X1490 hx (pc' := 172) rfl (hD hby at_170) rfl ?_
      refine g_bipush X1490 hx (pc' := 174) (z := (100 : Int32)) rfl (hD hby at_172) rfl ?_
      refine g_idiv X1490 hx (pc' := 175) rfl (hD hby at_174) (by decide) ?_
      refine g_bipush X1490 hx (pc' := 177) (z := (10 : Int32)) rfl (hD hby at_175) rfl ?_
      refine g_irem X1490 hx (pc' := 178) rfl (hD hby at_177) (by decide) ?_
      refine g_absI (fun d2 h_d2 => ?_)
      refine g_istore X1490 hx (pc' := 180) rfl (hD hby at_178) (l' := #[.val (.int c0), .val (.int c1), .val (.int pp), .val (.int a'), .val (.int b'), .val (.int p'), .val (.ref a1256), .val (.ref t1285), .val (.int 0), .val (.ref a1470), .val (.int 3), .val (.int d4), .val (.int d3), .val (.int d2), .unset, .unset]) rfl ?_
      refine g_iload X1490 hx (pc' := 182) rfl (hD hby at_180) rfl ?_
      refine g_bipush X1490 hx (pc' := 184) (z := (10 : Int32)) rfl (hD hby at_182) rfl ?_
      refine g_idiv X1490 hx (pc' := 185) rfl (hD hby at_184) (by decide) ?_
      refine g_bipush X1490 hx (pc' := 187) (z := (10 : Int32)) rfl (hD hby at_185) rfl ?_
      refine g_irem X1490 hx (pc' := 188) rfl (hD hby at_187) (by decide) ?_
      refine g_absI (fun d1 h_d1 => ?_)
      refine g_istore X1490 hx (pc' := 190) rfl (hD hby at_188) (l' := #[.val (.int c0), .val (.int c1), .val (.int pp), .val (.int a'), .val (.int b'), .val (.int p'), .val (.ref a1256), .val (.ref t1285), .val (.int 0), .val (.ref a1470), .val (.int 3), .val (.int d4), .val (.int d3), .val (.int d2), .val (.int d1), .unset]) rfl ?_
      refine g_iload X1490 hx (pc' := 192) rfl (hD hby at_190) rfl ?_
      refine g_bipush X1490 hx (pc' := 194) (z := (10 : Int32)) rfl (hD hby at_192) rfl ?_
      refine g_irem X1490 hx (pc' := 195) rfl (hD hby at_194) (by decide) ?_
      refine g_absI (fun d0 h_d0 => ?_)
      refine g_istore X1490 hx (pc' := 197) rfl (hD hby at_195) (l' := #[.val (.int c0), .val (.int c1), .val (.int pp), .val (.int a'), .val (.int b'), .val (.int p'), .val (.ref a1256), .val (.ref t1285), .val (.int 0), .val (.ref a1470), .val (.int 3), .val (.int d4), .val (.int d3), .val (.int d2), .val (.int d1), .val (.int d0)]) rfl ?_
      have fd0 : d0.toInt = p'.toInt % 10 := by rw [h_d0]; exact ar_mod hp0
      have fd1 : d1.toInt = (p'.toInt / 10) % 10 := by rw [h_d1]; have q : (p' / 10).toInt = p'.toInt / 10 := ar_div hp0 (by decide); rw [ar_mod (by omega), q]; rfl
      have fd2 : d2.toInt = (p'.toInt / 100) % 10 := by rw [h_d2]; have q : (p' / 100).toInt = p'.toInt / 100 := ar_div hp0 (by decide); rw [ar_mod (by omega), q]; rfl
      have fd3 : d3.toInt = (p'.toInt / 1000) % 10 := by rw [h_d3]; have q : (p' / 1000).toInt = p'.toInt / 1000 := ar_div hp0 (by decide); rw [ar_mod (by omega), q]; rfl
      have fd4 : d4.toInt = p'.toInt / 10000 := by rw [h_d4]; exact ar_div hp0 (by decide)
      refine g_iload X1490 hx (pc' := 199) rfl (hD hby at_197) rfl ?_
      refine g_sipush X1490 hx (pc' := 202) (z := (10000 : Int32)) rfl (hD hby at_199) rfl ?_
      refine g_icmpN X1490 hx (pcN := 205) (hD hby at_202) rfl (show ¬ (p' < (10000 : Int32)) from by rw [Int32.lt_iff_toInt_lt]; have e : (10000 : Int32).toInt = 10000 := rfl; omega) ?_
      refine g_aload X1490 hx (pc' := 207) rfl (hD hby at_205) rfl rfl ?_
      refine g_iload X1490 hx (pc' := 209) rfl (hD hby at_207) rfl ?_
      refine g_bipush X1490 hx (pc' := 211) (z := (48 : Int32)) rfl (hD hby at_209) rfl ?_
      refine g_iload X1490 hx (pc' := 213) rfl (hD hby at_211) rfl ?_
      refine g_iadd X1490 hx (pc' := 214) rfl (hD hby at_213) ?_
      refine g_i2c X1490 hx (pc' := 215) rfl (hD hby at_214) ?_
      refine g_castore X1490 hx hZ V1490 (i := 3) (by decide) (show (3 : Nat) < 10 by decide) G_a1470 (y := (((48 : Int32) + d4)).toUInt32.toUInt16.toUInt32.toInt32) (nar_i2c _) (pc' := 216) rfl (hD hby at_215) (fun T1497 h1497 X1497 W1497 N1497 => ?_)
      have f1498 := (by have q := (Keep.of_wr W1497).1; exact Nat.le_trans f1491 q : n0 ≤ h1497.size)
      have f1499 := f1492.wr W1497 G_a1470
      have f1500 := f1493.wr W1497
      have f1501 := f1494.other W1497 (Or.inl ne1470_t1285)
      have f1502 := f1495.other W1497 (Or.inl ne1470_t1285)
      have f1503 := f1496.other W1497 ne1470_tb1285
      have V1497 : AV Z h1497 a1470 .char [.int a', .int b', .int 58, .int (((48 : Int32) + d4)).toUInt32.toUInt16.toUInt32.toInt32, .int 0, .int 0, .int 0, .int 0, .int 0, .int 0] := N1497
      refine g_iincC X1497 hx (pc' := 219) (x := (3 : Int32)) (z := (4 : Int32)) rfl (hD hby at_216) rfl (by decide) (l' := #[.val (.int c0), .val (.int c1), .val (.int pp), .val (.int a'), .val (.int b'), .val (.int p'), .val (.ref a1256), .val (.ref t1285), .val (.int 0), .val (.ref a1470), .val (.int 4), .val (.int d4), .val (.int d3), .val (.int d2), .val (.int d1), .val (.int d0)]) rfl ?_
      refine g_iload X1497 hx (pc' := 221) rfl (hD hby at_219) rfl ?_
      refine g_sipush X1497 hx (pc' := 224) (z := (1000 : Int32)) rfl (hD hby at_221) rfl ?_
      refine g_icmpN X1497 hx (pcN := 227) (hD hby at_224) rfl (show ¬ (p' < (1000 : Int32)) from by rw [Int32.lt_iff_toInt_lt]; have e : (1000 : Int32).toInt = 1000 := rfl; omega) ?_
      refine g_aload X1497 hx (pc' := 229) rfl (hD hby at_227) rfl rfl ?_
      refine g_iload X1497 hx (pc' := 231) rfl (hD hby at_229) rfl ?_
      refine g_bipush X1497 hx (pc' := 233) (z := (48 : Int32)) rfl (hD hby at_231) rfl ?_
      refine g_iload X1497 hx (pc' := 235) rfl (hD hby at_233) rfl ?_
      refine g_iadd X1497 hx (pc' := 236) rfl (hD hby at_235) ?_
      refine g_i2c X1497 hx (pc' := 237) rfl (hD hby at_236) ?_
      refine g_castore X1497 hx hZ V1497 (i := 4) (by decide) (show (4 : Nat) < 10 by decide) G_a1470 (y := (((48 : Int32) + d3)).toUInt32.toUInt16.toUInt32.toInt32) (nar_i2c _) (pc' := 238) rfl (hD hby at_237) (fun T1504 h1504 X1504 W1504 N1504 => ?_)
      have f1505 := (by have q := (Keep.of_wr W1504).1; exact Nat.le_trans f1498 q : n0 ≤ h1504.size)
      have f1506 := f1499.wr W1504 G_a1470
      have f1507 := f1500.wr W1504
      have f1508 := f1501.other W1504 (Or.inl ne1470_t1285)
      have f1509 := f1502.other W1504 (Or.inl ne1470_t1285)
      have f1510 := f1503.other W1504 ne1470_tb1285
      have V1504 : AV Z h1504 a1470 .char [.int a', .int b', .int 58, .int (((48 : Int32) + d4)).toUInt32.toUInt16.toUInt32.toInt32, .int (((48 : Int32) + d3)).toUInt32.toUInt16.toUInt32.toInt32, .int 0, .int 0, .int 0, .int 0, .int 0] := N1504
      refine g_iincC X1504 hx (pc' := 241) (x := (4 : Int32)) (z := (5 : Int32)) rfl (hD hby at_238) rfl (by decide) (l' := #[.val (.int c0), .val (.int c1), .val (.int pp), .val (.int a'), .val (.int b'), .val (.int p'), .val (.ref a1256), .val (.ref t1285), .val (.int 0), .val (.ref a1470), .val (.int 5), .val (.int d4), .val (.int d3), .val (.int d2), .val (.int d1), .val (.int d0)]) rfl ?_
      refine g_iload X1504 hx (pc' := 243) rfl (hD hby at_241) rfl ?_
      refine g_bipush X1504 hx (pc' := 245) (z := (100 : Int32)) rfl (hD hby at_243) rfl ?_
      refine g_icmpN X1504 hx (pcN := 248) (hD hby at_245) rfl (show ¬ (p' < (100 : Int32)) from by rw [Int32.lt_iff_toInt_lt]; have e : (100 : Int32).toInt = 100 := rfl; omega) ?_
      refine g_aload X1504 hx (pc' := 250) rfl (hD hby at_248) rfl rfl ?_
      refine g_iload X1504 hx (pc' := 252) rfl (hD hby at_250) rfl ?_
      refine g_bipush X1504 hx (pc' := 254) (z := (48 : Int32)) rfl (hD hby at_252) rfl ?_
      refine g_iload X1504 hx (pc' := 256) rfl (hD hby at_254) rfl ?_
      refine g_iadd X1504 hx (pc' := 257) rfl (hD hby at_256) ?_
      refine g_i2c X1504 hx (pc' := 258) rfl (hD hby at_257) ?_
      refine g_castore X1504 hx hZ V1504 (i := 5) (by decide) (show (5 : Nat) < 10 by decide) G_a1470 (y := (((48 : Int32) + d2)).toUInt32.toUInt16.toUInt32.toInt32) (nar_i2c _) (pc' := 259) rfl (hD hby at_258) (fun T1511 h1511 X1511 W1511 N1511 => ?_)
      have f1512 := (by have q := (Keep.of_wr W1511).1; exact Nat.le_trans f1505 q : n0 ≤ h1511.size)
      have f1513 := f1506.wr W1511 G_a1470
      have f1514 := f1507.wr W1511
      have f1515 := f1508.other W1511 (Or.inl ne1470_t1285)
      have f1516 := f1509.other W1511 (Or.inl ne1470_t1285)
      have f1517 := f1510.other W1511 ne1470_tb1285
      have V1511 : AV Z h1511 a1470 .char [.int a', .int b', .int 58, .int (((48 : Int32) + d4)).toUInt32.toUInt16.toUInt32.toInt32, .int (((48 : Int32) + d3)).toUInt32.toUInt16.toUInt32.toInt32, .int (((48 : Int32) + d2)).toUInt32.toUInt16.toUInt32.toInt32, .int 0, .int 0, .int 0, .int 0] := N1511
      refine g_iincC X1511 hx (pc' := 262) (x := (5 : Int32)) (z := (6 : Int32)) rfl (hD hby at_259) rfl (by decide) (l' := #[.val (.int c0), .val (.int c1), .val (.int pp), .val (.int a'), .val (.int b'), .val (.int p'), .val (.ref a1256), .val (.ref t1285), .val (.int 0), .val (.ref a1470), .val (.int 6), .val (.int d4), .val (.int d3), .val (.int d2), .val (.int d1), .val (.int d0)]) rfl ?_
      refine g_iload X1511 hx (pc' := 264) rfl (hD hby at_262) rfl ?_
      refine g_bipush X1511 hx (pc' := 266) (z := (10 : Int32)) rfl (hD hby at_264) rfl ?_
      refine g_icmpN X1511 hx (pcN := 269) (hD hby at_266) rfl (show ¬ (p' < (10 : Int32)) from by rw [Int32.lt_iff_toInt_lt]; have e : (10 : Int32).toInt = 10 := rfl; omega) ?_
      refine g_aload X1511 hx (pc' := 271) rfl (hD hby at_269) rfl rfl ?_
      refine g_iload X1511 hx (pc' := 273) rfl (hD hby at_271) rfl ?_
      refine g_bipush X1511 hx (pc' := 275) (z := (48 : Int32)) rfl (hD hby at_273) rfl ?_
      refine g_iload X1511 hx (pc' := 277) rfl (hD hby at_275) rfl ?_
      refine g_iadd X1511 hx (pc' := 278) rfl (hD hby at_277) ?_
      refine g_i2c X1511 hx (pc' := 279) rfl (hD hby at_278) ?_
      refine g_castore X1511 hx hZ V1511 (i := 6) (by decide) (show (6 : Nat) < 10 by decide) G_a1470 (y := (((48 : Int32) + d1)).toUInt32.toUInt16.toUInt32.toInt32) (nar_i2c _) (pc' := 280) rfl (hD hby at_279) (fun T1518 h1518 X1518 W1518 N1518 => ?_)
      have f1519 := (by have q := (Keep.of_wr W1518).1; exact Nat.le_trans f1512 q : n0 ≤ h1518.size)
      have f1520 := f1513.wr W1518 G_a1470
      have f1521 := f1514.wr W1518
      have f1522 := f1515.other W1518 (Or.inl ne1470_t1285)
      have f1523 := f1516.other W1518 (Or.inl ne1470_t1285)
      have f1524 := f1517.other W1518 ne1470_tb1285
      have V1518 : AV Z h1518 a1470 .char [.int a', .int b', .int 58, .int (((48 : Int32) + d4)).toUInt32.toUInt16.toUInt32.toInt32, .int (((48 : Int32) + d3)).toUInt32.toUInt16.toUInt32.toInt32, .int (((48 : Int32) + d2)).toUInt32.toUInt16.toUInt32.toInt32, .int (((48 : Int32) + d1)).toUInt32.toUInt16.toUInt32.toInt32, .int 0, .int 0, .int 0] := N1518
      refine g_iincC X1518 hx (pc' := 283) (x := (6 : Int32)) (z := (7 : Int32)) rfl (hD hby at_280) rfl (by decide) (l' := #[.val (.int c0), .val (.int c1), .val (.int pp), .val (.int a'), .val (.int b'), .val (.int p'), .val (.ref a1256), .val (.ref t1285), .val (.int 0), .val (.ref a1470), .val (.int 7), .val (.int d4), .val (.int d3), .val (.int d2), .val (.int d1), .val (.int d0)]) rfl ?_
      refine g_aload X1518 hx (pc' := 285) rfl (hD hby at_283) rfl rfl ?_
      refine g_iload X1518 hx (pc' := 287) rfl (hD hby at_285) rfl ?_
      refine g_bipush X1518 hx (pc' := 289) (z := (48 : Int32)) rfl (hD hby at_287) rfl ?_
      refine g_iload X1518 hx (pc' := 291) rfl (hD hby at_289) rfl ?_
      refine g_iadd X1518 hx (pc' := 292) rfl (hD hby at_291) ?_
      refine g_i2c X1518 hx (pc' := 293) rfl (hD hby at_292) ?_
      refine g_castore X1518 hx hZ V1518 (i := 7) (by decide) (show (7 : Nat) < 10 by decide) G_a1470 (y := (((48 : Int32) + d0)).toUInt32.toUInt16.toUInt32.toInt32) (nar_i2c _) (pc' := 294) rfl (hD hby at_293) (fun T1525 h1525 X1525 W1525 N1525 => ?_)
      have f1526 := (by have q := (Keep.of_wr W1525).1; exact Nat.le_trans f1519 q : n0 ≤ h1525.size)
      have f1527 := f1520.wr W1525 G_a1470
      have f1528 := f1521.wr W1525
      have f1529 := f1522.other W1525 (Or.inl ne1470_t1285)
      have f1530 := f1523.other W1525 (Or.inl ne1470_t1285)
      have f1531 := f1524.other W1525 ne1470_tb1285
      have V1525 : AV Z h1525 a1470 .char [.int a', .int b', .int 58, .int (((48 : Int32) + d4)).toUInt32.toUInt16.toUInt32.toInt32, .int (((48 : Int32) + d3)).toUInt32.toUInt16.toUInt32.toInt32, .int (((48 : Int32) + d2)).toUInt32.toUInt16.toUInt32.toInt32, .int (((48 : Int32) + d1)).toUInt32.toUInt16.toUInt32.toInt32, .int (((48 : Int32) + d0)).toUInt32.toUInt16.toUInt32.toInt32, .int 0, .int 0] := N1525
      refine g_iincC X1525 hx (pc' := 297) (x := (7 : Int32)) (z := (8 : Int32)) rfl (hD hby at_294) rfl (by decide) (l' := #[.val (.int c0), .val (.int c1), .val (.int pp), .val (.int a'), .val (.int b'), .val (.int p'), .val (.ref a1256), .val (.ref t1285), .val (.int 0), .val (.ref a1470), .val (.int 8), .val (.int d4), .val (.int d3), .val (.int d2), .val (.int d1), .val (.int d0)]) rfl ?_
      refine tail0 l Z a0 hw n0 _ t1285 tb1285 fo a1470 _ _ _ _ _ _ _ _ _ _ _ _ _ _ cz _ _ f1526 O4 hfo O2 hcz f1527 f1528 f1529 f1530 f1531 rfl V1525 (show (8 : Nat) ≤ 10 by decide) (fun j hj => ?_) hx hZ hby hml hown hret hlk X1525
      match j, hj with
        | 0, _ => exact ⟨_, _, rfl, rfl, own_eqc b_a'⟩
        | 1, _ => exact ⟨_, _, rfl, rfl, own_eqc b_b'⟩
        | 2, _ => exact ⟨_, _, rfl, rfl, by decide⟩
        | 3, _ => exact ⟨_, _, rfl, rfl, own_dig (d := d4) (by omega) (by omega) (by omega)⟩
        | 4, _ => exact ⟨_, _, rfl, rfl, own_dig (d := d3) (by omega) (by omega) (by omega)⟩
        | 5, _ => exact ⟨_, _, rfl, rfl, own_dig (d := d2) (by omega) (by omega) (by omega)⟩
        | 6, _ => exact ⟨_, _, rfl, rfl, own_dig (d := d1) (by omega) (by omega) (by omega)⟩
        | 7, _ => exact ⟨_, _, rfl, rfl, own_dig (d := d0) (by omega) (by omega) (by omega)⟩
  · skip
    have kb : (a' = 58 ∨ b' = 58) ∧ ¬ a' = 91 := ⟨kk.1.imp (ar_58 b_a'.1 b_a'.2).mp (ar_58 b_b'.1 b_b'.2).mp, fun q => kk.2 ((ar_91 b_a'.1 b_a'.2).mpr q)⟩
    refine g_callV X1279 hx hZ hown (wat hw 50 rfl) (wat hw 51 rfl) (wat hw 53 rfl) (wat hw 52 rfl) (wat hw 34 rfl) (wat hw 54 rfl) (by decide) (a := r1279) E1279 (rm9_b l Z a0 hw [] n0 (Ts) r1279 a1256 nb1275 dO dT a'.toInt8.toInt32 b'.toInt8.toInt32 p' cz h1279 zs1279 hcw hkc O2 hcz f1280 hT1 hT2 hT3 S1 A1 S2 A2 hp0 hp1 kk.1 kk.2 E1279 R0_1279 R1_1279 R2_1279 R3_1279 f1281 f1283 f1284 f1282) pd_8 rfl rfl (pc' := 55) rfl (hD hby at_52) (argsL := []) (rest := []) rfl (W := 0) (fun v1532 T1532 h1532 X1532 hQ1532 => ?_)
    obtain ⟨t1532, tb1532, rfl, Gt1532, S1532, Gtb1532, SB1532, K1532, E1532, FV1532, FC1532, ds, hDg, VV1532⟩ := hQ1532
    have f1533 := f1280.keep K1532 all0
    have f1534 := f1281.keep K1532
    have f1535 := f1282.keep K1532 nin0
    have f1536 := f1283.keep K1532 nin0
    have f1537 := f1284.keep K1532 nin0
    have f1538 := E1279.keep K1532
    have zs1532 : n0 ≤ h1532.size := Nat.le_trans zs1279 K1532.1
    show Go p e below s n0 _ _ _ (T1532.setTop (mkF m 55 _ [(.ref t1532)]))
    rcases hDg with ⟨hu, y0, rfl, k0⟩ | ⟨hl, hu, y0, y1, rfl, k0, k1⟩ | ⟨hl, hu, y0, y1, y2, rfl, k0, k1, k2⟩ | ⟨hl, hu, y0, y1, y2, y3, rfl, k0, k1, k2, k3⟩ | ⟨hl, hu, y0, y1, y2, y3, y4, rfl, k0, k1, k2, k3, k4⟩
    · skip
      have V1532 : AV Z h1532 tb1532 .byte [.int 91, .int (a').toInt8.toInt32, .int (b').toInt8.toInt32, .int 93, .int 58, .int y0] := VV1532
      refine g_astore X1532 hx (pc' := 57) rfl (hD hby at_55) rfl (l' := #[.val (.int c0), .val (.int c1), .val (.int pp), .val (.int a'), .val (.int b'), .val (.int p'), .val (.ref a1256), .val (.ref t1532), .unset, .unset, .unset, .unset, .unset, .unset, .unset, .unset]) rfl ?_
      refine g_iloadN X1532 hx (pc' := 58) rfl (hD hby at_57) rfl ?_
      refine g_bipush X1532 hx (pc' := 60) (z := (58 : Int32)) rfl (hD hby at_58) rfl ?_
      suffices J60 : Go p e below s n0 ((Z, ("]" :: "[" :: ":" :: Ts), fun v h => v = some (.int 1)) : GQ) room_1.cells room_1.slots (T1532.setTop (mkF m 70 #[.val (.int c0), .val (.int c1), .val (.int pp), .val (.int a'), .val (.int b'), .val (.int p'), .val (.ref a1256), .val (.ref t1532), .unset, .unset, .unset, .unset, .unset, .unset, .unset, .unset] [])) by
        refine g_icmp X1532 hx (pcY := 70) (pcN := 63) (hD hby at_60) (by decide) (by decide) rfl (fun hc60 => ?_) (fun hc60 => ?_)
        · replace hc60 : a' = (58 : Int32) := hc60
          exact J60  
        · replace hc60 : ¬ a' = (58 : Int32) := hc60
          refine g_iload X1532 hx (pc' := 65) rfl (hD hby at_63) rfl ?_
          refine g_bipush X1532 hx (pc' := 67) (z := (58 : Int32)) rfl (hD hby at_65) rfl ?_
          refine g_icmpN X1532 hx (pcN := 70) (hD hby at_67) rfl (show ¬ (¬ b' = (58 : Int32)) from not_not_intro (kb.1.resolve_left hc60)) ?_
          exact J60  
      refine g_iloadN X1532 hx (pc' := 71) rfl (hD hby at_70) rfl ?_
      refine g_bipush X1532 hx (pc' := 73) (z := (91 : Int32)) rfl (hD hby at_71) rfl ?_
      refine g_icmpN X1532 hx (pcN := 76) (hD hby at_73) rfl (show ¬ (a' = (91 : Int32)) from kb.2) ?_
      refine g_iconst X1532 hx (pc' := 77) (z := (1 : Int32)) rfl (hD hby at_76) rfl ?_
      refine g_goto X1532 hx (pc' := 81) (hD hby at_77) (by decide) (by decide) ?_
      refine g_istore X1532 hx (pc' := 83) rfl (hD hby at_81) (l' := #[.val (.int c0), .val (.int c1), .val (.int pp), .val (.int a'), .val (.int b'), .val (.int p'), .val (.ref a1256), .val (.ref t1532), .val (.int 1), .unset, .unset, .unset, .unset, .unset, .unset, .unset]) rfl ?_
      refine g_bipush X1532 hx (pc' := 85) (z := (10 : Int32)) rfl (hD hby at_83) rfl ?_
      refine g_newA X1532 hx hZ (aty := .char) (wat hw 5 rfl) (N := 10) (by decide) (cap := 10) (Nat.le_refl _) (by decide) (pc' := 87) rfl (hD hby at_85) (by decide) (by decide) (fun T1539 h1539 a1539 ha1539 X1539 E1539 N1539 => ?_)
      have ne1539_t1532 : t1532 ≠ a1539 := by rw [ha1539]; exact Nat.ne_of_lt E1532.lt
      have ne1539_tb1532 : tb1532 ≠ a1539 := by rw [ha1539]; exact Nat.ne_of_lt V1532.lt
      have f1540 := E1532.ext E1539
      have f1541 := FV1532.ext E1539
      have f1542 := FC1532.ext E1539
      have f1543 := V1532.ext E1539
      have G_a1539 : n0 ≤ a1539 := by rw [ha1539]; exact zs1532
      have Zs1539 : n0 ≤ h1539.size := Nat.le_trans zs1532 E1539.1
      have f1544 := f1533.ext E1539
      have V1539 : AV Z h1539 a1539 .char [.int 0, .int 0, .int 0, .int 0, .int 0, .int 0, .int 0, .int 0, .int 0, .int 0] := N1539
      refine g_astore X1539 hx (pc' := 89) rfl (hD hby at_87) rfl (l' := #[.val (.int c0), .val (.int c1), .val (.int pp), .val (.int a'), .val (.int b'), .val (.int p'), .val (.ref a1256), .val (.ref t1532), .val (.int 1), .val (.ref a1539), .unset, .unset, .unset, .unset, .unset, .unset]) rfl ?_
      refine g_iconst X1539 hx (pc' := 90) (z := (0 : Int32)) rfl (hD hby at_89) rfl ?_
      refine g_istore X1539 hx (pc' := 92) rfl (hD hby at_90) (l' := #[.val (.int c0), .val (.int c1), .val (.int pp), .val (.int a'), .val (.int b'), .val (.int p'), .val (.ref a1256), .val (.ref t1532), .val (.int 1), .val (.ref a1539), .val (.int 0), .unset, .unset, .unset, .unset, .unset]) rfl ?_
      refine g_iload X1539 hx (pc' := 94) rfl (hD hby at_92) rfl ?_
      refine g_ifN X1539 hx (pcN := 97) (hD hby at_94) rfl (show ¬ ((1 : Int32) = 0) from by decide) ?_
      refine g_aload X1539 hx (pc' := 99) rfl (hD hby at_97) rfl rfl ?_
      refine g_iload X1539 hx (pc' := 101) rfl (hD hby at_99) rfl ?_
      refine g_bipush X1539 hx (pc' := 103) (z := (91 : Int32)) rfl (hD hby at_101) rfl ?_
      refine g_castore X1539 hx hZ V1539 (i := 0) (by decide) (show (0 : Nat) < 10 by decide) G_a1539 (y := (91 : Int32)) (by decide) (pc' := 104) rfl (hD hby at_103) (fun T1545 h1545 X1545 W1545 N1545 => ?_)
      have f1546 := (by have q := (Keep.of_wr W1545).1; exact Nat.le_trans Zs1539 q : n0 ≤ h1545.size)
      have f1547 := f1544.wr W1545 G_a1539
      have f1548 := f1540.wr W1545
      have f1549 := f1541.other W1545 (Or.inl ne1539_t1532)
      have f1550 := f1542.other W1545 (Or.inl ne1539_t1532)
      have f1551 := f1543.other W1545 ne1539_tb1532
      have V1545 : AV Z h1545 a1539 .char [.int 91, .int 0, .int 0, .int 0, .int 0, .int 0, .int 0, .int 0, .int 0, .int 0] := N1545
      refine g_iincC X1545 hx (pc' := 107) (x := (0 : Int32)) (z := (1 : Int32)) rfl (hD hby at_104) rfl (by decide) (l' := #[.val (.int c0), .val (.int c1), .val (.int pp), .val (.int a'), .val (.int b'), .val (.int p'), .val (.ref a1256), .val (.ref t1532), .val (.int 1), .val (.ref a1539), .val (.int 1), .unset, .unset, .unset, .unset, .unset]) rfl ?_
      refine g_aload X1545 hx (pc' := 109) rfl (hD hby at_107) rfl rfl ?_
      refine g_iload X1545 hx (pc' := 111) rfl (hD hby at_109) rfl ?_
      refine g_iloadN X1545 hx (pc' := 112) rfl (hD hby at_111) rfl ?_
      refine g_castore X1545 hx hZ V1545 (i := 1) (by decide) (show (1 : Nat) < 10 by decide) G_a1539 (y := a') n_a' (pc' := 113) rfl (hD hby at_112) (fun T1552 h1552 X1552 W1552 N1552 => ?_)
      have f1553 := (by have q := (Keep.of_wr W1552).1; exact Nat.le_trans f1546 q : n0 ≤ h1552.size)
      have f1554 := f1547.wr W1552 G_a1539
      have f1555 := f1548.wr W1552
      have f1556 := f1549.other W1552 (Or.inl ne1539_t1532)
      have f1557 := f1550.other W1552 (Or.inl ne1539_t1532)
      have f1558 := f1551.other W1552 ne1539_tb1532
      have V1552 : AV Z h1552 a1539 .char [.int 91, .int a', .int 0, .int 0, .int 0, .int 0, .int 0, .int 0, .int 0, .int 0] := N1552
      refine g_iincC X1552 hx (pc' := 116) (x := (1 : Int32)) (z := (2 : Int32)) rfl (hD hby at_113) rfl (by decide) (l' := #[.val (.int c0), .val (.int c1), .val (.int pp), .val (.int a'), .val (.int b'), .val (.int p'), .val (.ref a1256), .val (.ref t1532), .val (.int 1), .val (.ref a1539), .val (.int 2), .unset, .unset, .unset, .unset, .unset]) rfl ?_
      refine g_aload X1552 hx (pc' := 118) rfl (hD hby at_116) rfl rfl ?_
      refine g_iload X1552 hx (pc' := 120) rfl (hD hby at_118) rfl ?_
      refine g_iload X1552 hx (pc' := 122) rfl (hD hby at_120) rfl ?_
      refine g_castore X1552 hx hZ V1552 (i := 2) (by decide) (show (2 : Nat) < 10 by decide) G_a1539 (y := b') n_b' (pc' := 123) rfl (hD hby at_122) (fun T1559 h1559 X1559 W1559 N1559 => ?_)
      have f1560 := (by have q := (Keep.of_wr W1559).1; exact Nat.le_trans f1553 q : n0 ≤ h1559.size)
      have f1561 := f1554.wr W1559 G_a1539
      have f1562 := f1555.wr W1559
      have f1563 := f1556.other W1559 (Or.inl ne1539_t1532)
      have f1564 := f1557.other W1559 (Or.inl ne1539_t1532)
      have f1565 := f1558.other W1559 ne1539_tb1532
      have V1559 : AV Z h1559 a1539 .char [.int 91, .int a', .int b', .int 0, .int 0, .int 0, .int 0, .int 0, .int 0, .int 0] := N1559
      refine g_iincC X1559 hx (pc' := 126) (x := (2 : Int32)) (z := (3 : Int32)) rfl (hD hby at_123) rfl (by decide) (l' := #[.val (.int c0), .val (.int c1), .val (.int pp), .val (.int a'), .val (.int b'), .val (.int p'), .val (.ref a1256), .val (.ref t1532), .val (.int 1), .val (.ref a1539), .val (.int 3), .unset, .unset, .unset, .unset, .unset]) rfl ?_
      refine g_iload X1559 hx (pc' := 128) rfl (hD hby at_126) rfl ?_
      refine g_ifN X1559 hx (pcN := 131) (hD hby at_128) rfl (show ¬ ((1 : Int32) = 0) from by decide) ?_
      refine g_aload X1559 hx (pc' := 133) rfl (hD hby at_131) rfl rfl ?_
      refine g_iload X1559 hx (pc' := 135) rfl (hD hby at_133) rfl ?_
      refine g_bipush X1559 hx (pc' := 137) (z := (93 : Int32)) rfl (hD hby at_135) rfl ?_
      refine g_castore X1559 hx hZ V1559 (i := 3) (by decide) (show (3 : Nat) < 10 by decide) G_a1539 (y := (93 : Int32)) (by decide) (pc' := 138) rfl (hD hby at_137) (fun T1566 h1566 X1566 W1566 N1566 => ?_)
      have f1567 := (by have q := (Keep.of_wr W1566).1; exact Nat.le_trans f1560 q : n0 ≤ h1566.size)
      have f1568 := f1561.wr W1566 G_a1539
      have f1569 := f1562.wr W1566
      have f1570 := f1563.other W1566 (Or.inl ne1539_t1532)
      have f1571 := f1564.other W1566 (Or.inl ne1539_t1532)
      have f1572 := f1565.other W1566 ne1539_tb1532
      have V1566 : AV Z h1566 a1539 .char [.int 91, .int a', .int b', .int 93, .int 0, .int 0, .int 0, .int 0, .int 0, .int 0] := N1566
      refine g_iincC X1566 hx (pc' := 141) (x := (3 : Int32)) (z := (4 : Int32)) rfl (hD hby at_138) rfl (by decide) (l' := #[.val (.int c0), .val (.int c1), .val (.int pp), .val (.int a'), .val (.int b'), .val (.int p'), .val (.ref a1256), .val (.ref t1532), .val (.int 1), .val (.ref a1539), .val (.int 4), .unset, .unset, .unset, .unset, .unset]) rfl ?_
      refine g_aload X1566 hx (pc' := 143) rfl (hD hby at_141) rfl rfl ?_
      refine g_iload X1566 hx (pc' := 145) rfl (hD hby at_143) rfl ?_
      refine g_bipush X1566 hx (pc' := 147) (z := (58 : Int32)) rfl (hD hby at_145) rfl ?_
      refine g_castore X1566 hx hZ V1566 (i := 4) (by decide) (show (4 : Nat) < 10 by decide) G_a1539 (y := (58 : Int32)) (by decide) (pc' := 148) rfl (hD hby at_147) (fun T1573 h1573 X1573 W1573 N1573 => ?_)
      have f1574 := (by have q := (Keep.of_wr W1573).1; exact Nat.le_trans f1567 q : n0 ≤ h1573.size)
      have f1575 := f1568.wr W1573 G_a1539
      have f1576 := f1569.wr W1573
      have f1577 := f1570.other W1573 (Or.inl ne1539_t1532)
      have f1578 := f1571.other W1573 (Or.inl ne1539_t1532)
      have f1579 := f1572.other W1573 ne1539_tb1532
      have V1573 : AV Z h1573 a1539 .char [.int 91, .int a', .int b', .int 93, .int 58, .int 0, .int 0, .int 0, .int 0, .int 0] := N1573
      refine g_iincC X1573 hx (pc' := 151) (x := (4 : Int32)) (z := (5 : Int32)) rfl (hD hby at_148) rfl (by decide) (l' := #[.val (.int c0), .val (.int c1), .val (.int pp), .val (.int a'), .val (.int b'), .val (.int p'), .val (.ref a1256), .val (.ref t1532), .val (.int 1), .val (.ref a1539), .val (.int 5), .unset, .unset, .unset, .unset, .unset]) rfl ?_
      refine g_iload X1573 hx (pc' := 153) rfl (hD hby at_151) rfl ?_
      refine g_sipush X1573 hx (pc' := 156) (z := (10000 : Int32)) rfl (hD hby at_153) rfl ?_
      refine g_idiv X1573 hx (pc' := 157) rfl (hD hby at_156) (by decide) ?_
      refine g_absI (fun d4 h_d4 => ?_)
      refine g_istore X1573 hx (pc' := 159) rfl (hD hby at_157) (l' := #[.val (.int c0), .val (.int c1), .val (.int pp), .val (.int a'), .val (.int b'), .val (.int p'), .val (.ref a1256), .val (.ref t1532), .val (.int 1), .val (.ref a1539), .val (.int 5), .val (.int d4), .unset, .unset, .unset, .unset]) rfl ?_
      refine g_iload X1573 hx (pc' := 161) rfl (hD hby at_159) rfl ?_
      refine g_sipush X1573 hx (pc' := 164) (z := (1000 : Int32)) rfl (hD hby at_161) rfl ?_
      refine g_idiv X1573 hx (pc' := 165) rfl (hD hby at_164) (by decide) ?_
      refine g_bipush X1573 hx (pc' := 167) (z := (10 : Int32)) rfl (hD hby at_165) rfl ?_
      refine g_irem X1573 hx (pc' := 168) rfl (hD hby at_167) (by decide) ?_
      refine g_absI (fun d3 h_d3 => ?_)
      refine g_istore X1573 hx (pc' := 170) rfl (hD hby at_168) (l' := #[.val (.int c0), .val (.int c1), .val (.int pp), .val (.int a'), .val (.int b'), .val (.int p'), .val (.ref a1256), .val (.ref t1532), .val (.int 1), .val (.ref a1539), .val (.int 5), .val (.int d4), .val (.int d3), .unset, .unset, .unset]) rfl ?_
      refine g_iload X1573 hx (pc' := 172) rfl (hD hby at_170) rfl ?_
      refine g_bipush X1573 hx (pc' := 174) (z := (100 : Int32)) rfl (hD hby at_172) rfl ?_
      refine g_idiv X1573 hx (pc' := 175) rfl (hD hby at_174) (by decide) ?_
      refine g_bipush X1573 hx (pc' := 177) (z := (10 : Int32)) rfl (hD hby at_175) rfl ?_
      refine g_irem X1573 hx (pc' := 178) rfl (hD hby at_177) (by decide) ?_
      refine g_absI (fun d2 h_d2 => ?_)
      refine g_istore X1573 hx (pc' := 180) rfl (hD hby at_178) (l' := #[.val (.int c0), .val (.int c1), .val (.int pp), .val (.int a'), .val (.int b'), .val (.int p'), .val (.ref a1256), .val (.ref t1532), .val (.int 1), .val (.ref a1539), .val (.int 5), .val (.int d4), .val (.int d3), .val (.int d2), .unset, .unset]) rfl ?_
      refine g_iload X1573 hx (pc' := 182) rfl (hD hby at_180) rfl ?_
      refine g_bipush X1573 hx (pc' := 184) (z := (10 : Int32)) rfl (hD hby at_182) rfl ?_
      refine g_idiv X1573 hx (pc' := 185) rfl (hD hby at_184) (by decide) ?_
      refine g_bipush X1573 hx (pc' := 187) (z := (10 : Int32)) rfl (hD hby at_185) rfl ?_
      refine g_irem X1573 hx (pc' := 188) rfl (hD hby at_187) (by decide) ?_
      refine g_absI (fun d1 h_d1 => ?_)
      refine g_istore X1573 hx (pc' := 190) rfl (hD hby at_188) (l' := #[.val (.int c0), .val (.int c1), .val (.int pp), .val (.int a'), .val (.int b'), .val (.int p'), .val (.ref a1256), .val (.ref t1532), .val (.int 1), .val (.ref a1539), .val (.int 5), .val (.int d4), .val (.int d3), .val (.int d2), .val (.int d1), .unset]) rfl ?_
      refine g_iload X1573 hx (pc' := 192) rfl (hD hby at_190) rfl ?_
      refine g_bipush X1573 hx (pc' := 194) (z := (10 : Int32)) rfl (hD hby at_192) rfl ?_
      refine g_irem X1573 hx (pc' := 195) rfl (hD hby at_194) (by decide) ?_
      refine g_absI (fun d0 h_d0 => ?_)
      refine g_istore X1573 hx (pc' := 197) rfl (hD hby at_195) (l' := #[.val (.int c0), .val (.int c1), .val (.int pp), .val (.int a'), .val (.int b'), .val (.int p'), .val (.ref a1256), .val (.ref t1532), .val (.int 1), .val (.ref a1539), .val (.int 5), .val (.int d4), .val (.int d3), .val (.int d2), .val (.int d1), .val (.int d0)]) rfl ?_
      have fd0 : d0.toInt = p'.toInt % 10 := by rw [h_d0]; exact ar_mod hp0
      have fd1 : d1.toInt = (p'.toInt / 10) % 10 := by rw [h_d1]; have q : (p' / 10).toInt = p'.toInt / 10 := ar_div hp0 (by decide); rw [ar_mod (by omega), q]; rfl
      have fd2 : d2.toInt = (p'.toInt / 100) % 10 := by rw [h_d2]; have q : (p' / 100).toInt = p'.toInt / 100 := ar_div hp0 (by decide); rw [ar_mod (by omega), q]; rfl
      have fd3 : d3.toInt = (p'.toInt / 1000) % 10 := by rw [h_d3]; have q : (p' / 1000).toInt = p'.toInt / 1000 := ar_div hp0 (by decide); rw [ar_mod (by omega), q]; rfl
      have fd4 : d4.toInt = p'.toInt / 10000 := by rw [h_d4]; exact ar_div hp0 (by decide)
      refine g_iload X1573 hx (pc' := 199) rfl (hD hby at_197) rfl ?_
      refine g_sipush X1573 hx (pc' := 202) (z := (10000 : Int32)) rfl (hD hby at_199) rfl ?_
      refine g_icmpY X1573 hx (pcY := 219) (hD hby at_202) (by decide) (by decide) (show p' < (10000 : Int32) from by rw [Int32.lt_iff_toInt_lt]; have e : (10000 : Int32).toInt = 10000 := rfl; omega) ?_
      refine g_iload X1573 hx (pc' := 221) rfl (hD hby at_219) rfl ?_
      refine g_sipush X1573 hx (pc' := 224) (z := (1000 : Int32)) rfl (hD hby at_221) rfl ?_
      refine g_icmpY X1573 hx (pcY := 241) (hD hby at_224) (by decide) (by decide) (show p' < (1000 : Int32) from by rw [Int32.lt_iff_toInt_lt]; have e : (1000 : Int32).toInt = 1000 := rfl; omega) ?_
      refine g_iload X1573 hx (pc' := 243) rfl (hD hby at_241) rfl ?_
      refine g_bipush X1573 hx (pc' := 245) (z := (100 : Int32)) rfl (hD hby at_243) rfl ?_
      refine g_icmpY X1573 hx (pcY := 262) (hD hby at_245) (by decide) (by decide) (show p' < (100 : Int32) from by rw [Int32.lt_iff_toInt_lt]; have e : (100 : Int32).toInt = 100 := rfl; omega) ?_
      refine g_iload X1573 hx (pc' := 264) rfl (hD hby at_262) rfl ?_
      refine g_bipush X1573 hx (pc' := 266) (z := (10 : Int32)) rfl (hD hby at_264) rfl ?_
      refine g_icmpY X1573 hx (pcY := 283) (hD hby at_266) (by decide) (by decide) (show p' < (10 : Int32) from by rw [Int32.lt_iff_toInt_lt]; have e : (10 : Int32).toInt = 10 := rfl; omega) ?_
      refine g_aload X1573 hx (pc' := 285) rfl (hD hby at_283) rfl rfl ?_
      refine g_iload X1573 hx (pc' := 287) rfl (hD hby at_285) rfl ?_
      refine g_bipush X1573 hx (pc' := 289) (z := (48 : Int32)) rfl (hD hby at_287) rfl ?_
      refine g_iload X1573 hx (pc' := 291) rfl (hD hby at_289) rfl ?_
      refine g_iadd X1573 hx (pc' := 292) rfl (hD hby at_291) ?_
      refine g_i2c X1573 hx (pc' := 293) rfl (hD hby at_292) ?_
      refine g_castore X1573 hx hZ V1573 (i := 5) (by decide) (show (5 : Nat) < 10 by decide) G_a1539 (y := (((48 : Int32) + d0)).toUInt32.toUInt16.toUInt32.toInt32) (nar_i2c _) (pc' := 294) rfl (hD hby at_293) (fun T1580 h1580 X1580 W1580 N1580 => ?_)
      have f1581 := (by have q := (Keep.of_wr W1580).1; exact Nat.le_trans f1574 q : n0 ≤ h1580.size)
      have f1582 := f1575.wr W1580 G_a1539
      have f1583 := f1576.wr W1580
      have f1584 := f1577.other W1580 (Or.inl ne1539_t1532)
      have f1585 := f1578.other W1580 (Or.inl ne1539_t1532)
      have f1586 := f1579.other W1580 ne1539_tb1532
      have V1580 : AV Z h1580 a1539 .char [.int 91, .int a', .int b', .int 93, .int 58, .int (((48 : Int32) + d0)).toUInt32.toUInt16.toUInt32.toInt32, .int 0, .int 0, .int 0, .int 0] := N1580
      refine g_iincC X1580 hx (pc' := 297) (x := (5 : Int32)) (z := (6 : Int32)) rfl (hD hby at_294) rfl (by decide) (l' := #[.val (.int c0), .val (.int c1), .val (.int pp), .val (.int a'), .val (.int b'), .val (.int p'), .val (.ref a1256), .val (.ref t1532), .val (.int 1), .val (.ref a1539), .val (.int 6), .val (.int d4), .val (.int d3), .val (.int d2), .val (.int d1), .val (.int d0)]) rfl ?_
      refine tail0 l Z a0 hw n0 _ t1532 tb1532 fo a1539 _ _ _ _ _ _ _ _ _ _ _ _ _ _ cz _ _ f1581 O4 hfo O2 hcz f1582 f1583 f1584 f1585 f1586 rfl V1580 (show (6 : Nat) ≤ 10 by decide) (fun j hj => ?_) hx hZ hby hml hown hret hlk X1580
      match j, hj with
        | 0, _ => exact ⟨_, _, rfl, rfl, by decide⟩
        | 1, _ => exact ⟨_, _, rfl, rfl, own_eqc b_a'⟩
        | 2, _ => exact ⟨_, _, rfl, rfl, own_eqc b_b'⟩
        | 3, _ => exact ⟨_, _, rfl, rfl, by decide⟩
        | 4, _ => exact ⟨_, _, rfl, rfl, by decide⟩
        | 5, _ => exact ⟨_, _, rfl, rfl, own_dig (d := d0) (by omega) (by omega) (by omega)⟩
    · skip
      have V1532 : AV Z h1532 tb1532 .byte [.int 91, .int (a').toInt8.toInt32, .int (b').toInt8.toInt32, .int 93, .int 58, .int y1, .int y0] := VV1532
      refine g_astore X1532 hx (pc' := 57) rfl (hD hby at_55) rfl (l' := #[.val (.int c0), .val (.int c1), .val (.int pp), .val (.int a'), .val (.int b'), .val (.int p'), .val (.ref a1256), .val (.ref t1532), .unset, .unset, .unset, .unset, .unset, .unset, .unset, .unset]) rfl ?_
      refine g_iloadN X1532 hx (pc' := 58) rfl (hD hby at_57) rfl ?_
      refine g_bipush X1532 hx (pc' := 60) (z := (58 : Int32)) rfl (hD hby at_58) rfl ?_
      suffices J60 : Go p e below s n0 ((Z, ("]" :: "[" :: ":" :: Ts), fun v h => v = some (.int 1)) : GQ) room_1.cells room_1.slots (T1532.setTop (mkF m 70 #[.val (.int c0), .val (.int c1), .val (.int pp), .val (.int a'), .val (.int b'), .val (.int p'), .val (.ref a1256), .val (.ref t1532), .unset, .unset, .unset, .unset, .unset, .unset, .unset, .unset] [])) by
        refine g_icmp X1532 hx (pcY := 70) (pcN := 63) (hD hby at_60) (by decide) (by decide) rfl (fun hc60 => ?_) (fun hc60 => ?_)
        · replace hc60 : a' = (58 : Int32) := hc60
          exact J60  
        · replace hc60 : ¬ a' = (58 : Int32) := hc60
          refine g_iload X1532 hx (pc' := 65) rfl (hD hby at_63) rfl ?_
          refine g_bipush X1532 hx (pc' := 67) (z := (58 : Int32)) rfl (hD hby at_65) rfl ?_
          refine g_icmpN X1532 hx (pcN := 70) (hD hby at_67) rfl (show ¬ (¬ b' = (58 : Int32)) from not_not_intro (kb.1.resolve_left hc60)) ?_
          exact J60  
      refine g_iloadN X1532 hx (pc' := 71) rfl (hD hby at_70) rfl ?_
      refine g_bipush X1532 hx (pc' := 73) (z := (91 : Int32)) rfl (hD hby at_71) rfl ?_
      refine g_icmpN X1532 hx (pcN := 76) (hD hby at_73) rfl (show ¬ (a' = (91 : Int32)) from kb.2) ?_
      refine g_iconst X1532 hx (pc' := 77) (z := (1 : Int32)) rfl (hD hby at_76) rfl ?_
      refine g_goto X1532 hx (pc' := 81) (hD hby at_77) (by decide) (by decide) ?_
      refine g_istore X1532 hx (pc' := 83) rfl (hD hby at_81) (l' := #[.val (.int c0), .val (.int c1), .val (.int pp), .val (.int a'), .val (.int b'), .val (.int p'), .val (.ref a1256), .val (.ref t1532), .val (.int 1), .unset, .unset, .unset, .unset, .unset, .unset, .unset]) rfl ?_
      refine g_bipush X1532 hx (pc' := 85) (z := (10 : Int32)) rfl (hD hby at_83) rfl ?_
      refine g_newA X1532 hx hZ (aty := .char) (wat hw 5 rfl) (N := 10) (by decide) (cap := 10) (Nat.le_refl _) (by decide) (pc' := 87) rfl (hD hby at_85) (by decide) (by decide) (fun T1587 h1587 a1587 ha1587 X1587 E1587 N1587 => ?_)
      have ne1587_t1532 : t1532 ≠ a1587 := by rw [ha1587]; exact Nat.ne_of_lt E1532.lt
      have ne1587_tb1532 : tb1532 ≠ a1587 := by rw [ha1587]; exact Nat.ne_of_lt V1532.lt
      have f1588 := E1532.ext E1587
      have f1589 := FV1532.ext E1587
      have f1590 := FC1532.ext E1587
      have f1591 := V1532.ext E1587
      have G_a1587 : n0 ≤ a1587 := by rw [ha1587]; exact zs1532
      have Zs1587 : n0 ≤ h1587.size := Nat.le_trans zs1532 E1587.1
      have f1592 := f1533.ext E1587
      have V1587 : AV Z h1587 a1587 .char [.int 0, .int 0, .int 0, .int 0, .int 0, .int 0, .int 0, .int 0, .int 0, .int 0] := N1587
      refine g_astore X1587 hx (pc' := 89) rfl (hD hby at_87) rfl (l' := #[.val (.int c0), .val (.int c1), .val (.int pp), .val (.int a'), .val (.int b'), .val (.int p'), .val (.ref a1256), .val (.ref t1532), .val (.int 1), .val (.ref a1587), .unset, .unset, .unset, .unset, .unset, .unset]) rfl ?_
      refine g_iconst X1587 hx (pc' := 90) (z := (0 : Int32)) rfl (hD hby at_89) rfl ?_
      refine g_istore X1587 hx (pc' := 92) rfl (hD hby at_90) (l' := #[.val (.int c0), .val (.int c1), .val (.int pp), .val (.int a'), .val (.int b'), .val (.int p'), .val (.ref a1256), .val (.ref t1532), .val (.int 1), .val (.ref a1587), .val (.int 0), .unset, .unset, .unset, .unset, .unset]) rfl ?_
      refine g_iload X1587 hx (pc' := 94) rfl (hD hby at_92) rfl ?_
      refine g_ifN X1587 hx (pcN := 97) (hD hby at_94) rfl (show ¬ ((1 : Int32) = 0) from by decide) ?_
      refine g_aload X1587 hx (pc' := 99) rfl (hD hby at_97) rfl rfl ?_
      refine g_iload X1587 hx (pc' := 101) rfl (hD hby at_99) rfl ?_
      refine g_bipush X1587 hx (pc' := 103) (z := (91 : Int32)) rfl (hD hby at_101) rfl ?_
      refine g_castore X1587 hx hZ V1587 (i := 0) (by decide) (show (0 : Nat) < 10 by decide) G_a1587 (y := (91 : Int32)) (by decide) (pc' := 104) rfl (hD hby at_103) (fun T1593 h1593 X1593 W1593 N1593 => ?_)
      have f1594 := (by have q := (Keep.of_wr W1593).1; exact Nat.le_trans Zs1587 q : n0 ≤ h1593.size)
      have f1595 := f1592.wr W1593 G_a1587
      have f1596 := f1588.wr W1593
      have f1597 := f1589.other W1593 (Or.inl ne1587_t1532)
      have f1598 := f1590.other W1593 (Or.inl ne1587_t1532)
      have f1599 := f1591.other W1593 ne1587_tb1532
      have V1593 : AV Z h1593 a1587 .char [.int 91, .int 0, .int 0, .int 0, .int 0, .int 0, .int 0, .int 0, .int 0, .int 0] := N1593
      refine g_iincC X1593 hx (pc' := 107) (x := (0 : Int32)) (z := (1 : Int32)) rfl (hD hby at_104) rfl (by decide) (l' := #[.val (.int c0), .val (.int c1), .val (.int pp), .val (.int a'), .val (.int b'), .val (.int p'), .val (.ref a1256), .val (.ref t1532), .val (.int 1), .val (.ref a1587), .val (.int 1), .unset, .unset, .unset, .unset, .unset]) rfl ?_
      refine g_aload X1593 hx (pc' := 109) rfl (hD hby at_107) rfl rfl ?_
      refine g_iload X1593 hx (pc' := 111) rfl (hD hby at_109) rfl ?_
      refine g_iloadN X1593 hx (pc' := 112) rfl (hD hby at_111) rfl ?_
      refine g_castore X1593 hx hZ V1593 (i := 1) (by decide) (show (1 : Nat) < 10 by decide) G_a1587 (y := a') n_a' (pc' := 113) rfl (hD hby at_112) (fun T1600 h1600 X1600 W1600 N1600 => ?_)
      have f1601 := (by have q := (Keep.of_wr W1600).1; exact Nat.le_trans f1594 q : n0 ≤ h1600.size)
      have f1602 := f1595.wr W1600 G_a1587
      have f1603 := f1596.wr W1600
      have f1604 := f1597.other W1600 (Or.inl ne1587_t1532)
      have f1605 := f1598.other W1600 (Or.inl ne1587_t1532)
      have f1606 := f1599.other W1600 ne1587_tb1532
      have V1600 : AV Z h1600 a1587 .char [.int 91, .int a', .int 0, .int 0, .int 0, .int 0, .int 0, .int 0, .int 0, .int 0] := N1600
      refine g_iincC X1600 hx (pc' := 116) (x := (1 : Int32)) (z := (2 : Int32)) rfl (hD hby at_113) rfl (by decide) (l' := #[.val (.int c0), .val (.int c1), .val (.int pp), .val (.int a'), .val (.int b'), .val (.int p'), .val (.ref a1256), .val (.ref t1532), .val (.int 1), .val (.ref a1587), .val (.int 2), .unset, .unset, .unset, .unset, .unset]) rfl ?_
      refine g_aload X1600 hx (pc' := 118) rfl (hD hby at_116) rfl rfl ?_
      refine g_iload X1600 hx (pc' := 120) rfl (hD hby at_118) rfl ?_
      refine g_iload X1600 hx (pc' := 122) rfl (hD hby at_120) rfl ?_
      refine g_castore X1600 hx hZ V1600 (i := 2) (by decide) (show (2 : Nat) < 10 by decide) G_a1587 (y := b') n_b' (pc' := 123) rfl (hD hby at_122) (fun T1607 h1607 X1607 W1607 N1607 => ?_)
      have f1608 := (by have q := (Keep.of_wr W1607).1; exact Nat.le_trans f1601 q : n0 ≤ h1607.size)
      have f1609 := f1602.wr W1607 G_a1587
      have f1610 := f1603.wr W1607
      have f1611 := f1604.other W1607 (Or.inl ne1587_t1532)
      have f1612 := f1605.other W1607 (Or.inl ne1587_t1532)
      have f1613 := f1606.other W1607 ne1587_tb1532
      have V1607 : AV Z h1607 a1587 .char [.int 91, .int a', .int b', .int 0, .int 0, .int 0, .int 0, .int 0, .int 0, .int 0] := N1607
      refine g_iincC X1607 hx (pc' := 126) (x := (2 : Int32)) (z := (3 : Int32)) rfl (hD hby at_123) rfl (by decide) (l' := #[.val (.int c0), .val (.int c1), .val (.int pp), .val (.int a'), .val (.int b'), .val (.int p'), .val (.ref a1256), .val (.ref t1532), .val (.int 1), .val (.ref a1587), .val (.int 3), .unset, .unset, .unset, .unset, .unset]) rfl ?_
      refine g_iload X1607 hx (pc' := 128) rfl (hD hby at_126) rfl ?_
      refine g_ifN X1607 hx (pcN := 131) (hD hby at_128) rfl (show ¬ ((1 : Int32) = 0) from by decide) ?_
      refine g_aload X1607 hx (pc' := 133) rfl (hD hby at_131) rfl rfl ?_
      refine g_iload X1607 hx (pc' := 135) rfl (hD hby at_133) rfl ?_
      refine g_bipush X1607 hx (pc' := 137) (z := (93 : Int32)) rfl (hD hby at_135) rfl ?_
      refine g_castore X1607 hx hZ V1607 (i := 3) (by decide) (show (3 : Nat) < 10 by decide) G_a1587 (y := (93 : Int32)) (by decide) (pc' := 138) rfl (hD hby at_137) (fun T1614 h1614 X1614 W1614 N1614 => ?_)
      have f1615 := (by have q := (Keep.of_wr W1614).1; exact Nat.le_trans f1608 q : n0 ≤ h1614.size)
      have f1616 := f1609.wr W1614 G_a1587
      have f1617 := f1610.wr W1614
      have f1618 := f1611.other W1614 (Or.inl ne1587_t1532)
      have f1619 := f1612.other W1614 (Or.inl ne1587_t1532)
      have f1620 := f1613.other W1614 ne1587_tb1532
      have V1614 : AV Z h1614 a1587 .char [.int 91, .int a', .int b', .int 93, .int 0, .int 0, .int 0, .int 0, .int 0, .int 0] := N1614
      refine g_iincC X1614 hx (pc' := 141) (x := (3 : Int32)) (z := (4 : Int32)) rfl (hD hby at_138) rfl (by decide) (l' := #[.val (.int c0), .val (.int c1), .val (.int pp), .val (.int a'), .val (.int b'), .val (.int p'), .val (.ref a1256), .val (.ref t1532), .val (.int 1), .val (.ref a1587), .val (.int 4), .unset, .unset, .unset, .unset, .unset]) rfl ?_
      refine g_aload X1614 hx (pc' := 143) rfl (hD hby at_141) rfl rfl ?_
      refine g_iload X1614 hx (pc' := 145) rfl (hD hby at_143) rfl ?_
      refine g_bipush X1614 hx (pc' := 147) (z := (58 : Int32)) rfl (hD hby at_145) rfl ?_
      refine g_castore X1614 hx hZ V1614 (i := 4) (by decide) (show (4 : Nat) < 10 by decide) G_a1587 (y := (58 : Int32)) (by decide) (pc' := 148) rfl (hD hby at_147) (fun T1621 h1621 X1621 W1621 N1621 => ?_)
      have f1622 := (by have q := (Keep.of_wr W1621).1; exact Nat.le_trans f1615 q : n0 ≤ h1621.size)
      have f1623 := f1616.wr W1621 G_a1587
      have f1624 := f1617.wr W1621
      have f1625 := f1618.other W1621 (Or.inl ne1587_t1532)
      have f1626 := f1619.other W1621 (Or.inl ne1587_t1532)
      have f1627 := f1620.other W1621 ne1587_tb1532
      have V1621 : AV Z h1621 a1587 .char [.int 91, .int a', .int b', .int 93, .int 58, .int 0, .int 0, .int 0, .int 0, .int 0] := N1621
      refine g_iincC X1621 hx (pc' := 151) (x := (4 : Int32)) (z := (5 : Int32)) rfl (hD hby at_148) rfl (by decide) (l' := #[.val (.int c0), .val (.int c1), .val (.int pp), .val (.int a'), .val (.int b'), .val (.int p'), .val (.ref a1256), .val (.ref t1532), .val (.int 1), .val (.ref a1587), .val (.int 5), .unset, .unset, .unset, .unset, .unset]) rfl ?_
      refine g_iload X1621 hx (pc' := 153) rfl (hD hby at_151) rfl ?_
      refine g_sipush X1621 hx (pc' := 156) (z := (10000 : Int32)) rfl (hD hby at_153) rfl ?_
      refine g_idiv X1621 hx (pc' := 157) rfl (hD hby at_156) (by decide) ?_
      refine g_absI (fun d4 h_d4 => ?_)
      refine g_istore X1621 hx (pc' := 159) rfl (hD hby at_157) (l' := #[.val (.int c0), .val (.int c1), .val (.int pp), .val (.int a'), .val (.int b'), .val (.int p'), .val (.ref a1256), .val (.ref t1532), .val (.int 1), .val (.ref a1587), .val (.int 5), .val (.int d4), .unset, .unset, .unset, .unset]) rfl ?_
      refine g_iload X1621 hx (pc' := 161) rfl (hD hby at_159) rfl ?_
      refine g_sipush X1621 hx (pc' := 164) (z := (1000 : Int32)) rfl (hD hby at_161) rfl ?_
      refine g_idiv X1621 hx (pc' := 165) rfl (hD hby at_164) (by decide) ?_
      refine g_bipush X1621 hx (pc' := 167) (z := (10 : Int32)) rfl (hD hby at_165) rfl ?_
      refine g_irem X1621 hx (pc' := 168) rfl (hD hby at_167) (by decide) ?_
      refine g_absI (fun d3 h_d3 => ?_)
      refine g_istore X1621 hx (pc' := 170) rfl (hD hby at_168) (l' := #[.val (.int c0), .val (.int c1), .val (.int pp), .val (.int a'), .val (.int b'), .val (.int p'), .val (.ref a1256), .val (.ref t1532), .val (.int 1), .val (.ref a1587), .val (.int 5), .val (.int d4), .val (.int d3), .unset, .unset, .unset]) rfl ?_
      refine g_iload X1621 hx (pc' := 172) rfl (hD hby at_170) rfl ?_
      refine g_bipush X1621 hx (pc' := 174) (z := (100 : Int32)) rfl (hD hby at_172) rfl ?_
      refine g_idiv X1621 hx (pc' := 175) rfl (hD hby at_174) (by decide) ?_
      refine g_bipush X1621 hx (pc' := 177) (z := (10 : Int32)) rfl (hD hby at_175) rfl ?_
      refine g_irem X1621 hx (pc' := 178) rfl (hD hby at_177) (by decide) ?_
      refine g_absI (fun d2 h_d2 => ?_)
      refine g_istore X1621 hx (pc' := 180) rfl (hD hby at_178) (l' := #[.val (.int c0), .val (.int c1), .val (.int pp), .val (.int a'), .val (.int b'), .val (.int p'), .val (.ref a1256), .val (.ref t1532), .val (.int 1), .val (.ref a1587), .val (.int 5), .val (.int d4), .val (.int d3), .val (.int d2), .unset, .unset]) rfl ?_
      refine g_iload X1621 hx (pc' := 182) rfl (hD hby at_180) rfl ?_
      refine g_bipush X1621 hx (pc' := 184) (z := (10 : Int32)) rfl (hD hby at_182) rfl ?_
      refine g_idiv X1621 hx (pc' := 185) rfl (hD hby at_184) (by decide) ?_
      refine g_bipush X1621 hx (pc' := 187) (z := (10 : Int32)) rfl (hD hby at_185) rfl ?_
      refine g_irem X1621 hx (pc' := 188) rfl (hD hby at_187) (by decide) ?_
      refine g_absI (fun d1 h_d1 => ?_)
      refine g_istore X1621 hx (pc' := 190) rfl (hD hby at_188) (l' := #[.val (.int c0), .val (.int c1), .val (.int pp), .val (.int a'), .val (.int b'), .val (.int p'), .val (.ref a1256), .val (.ref t1532), .val (.int 1), .val (.ref a1587), .val (.int 5), .val (.int d4), .val (.int d3), .val (.int d2), .val (.int d1), .unset]) rfl ?_
      refine g_iload X1621 hx (pc' := 192) rfl (hD hby at_190) rfl ?_
      refine g_bipush X1621 hx (pc' := 194) (z := (10 : Int32)) rfl (hD hby at_192) rfl ?_
      refine g_irem X1621 hx (pc' := 195) rfl (hD hby at_194) (by decide) ?_
      refine g_absI (fun d0 h_d0 => ?_)
      refine g_istore X1621 hx (pc' := 197) rfl (hD hby at_195) (l' := #[.val (.int c0), .val (.int c1), .val (.int pp), .val (.int a'), .val (.int b'), .val (.int p'), .val (.ref a1256), .val (.ref t1532), .val (.int 1), .val (.ref a1587), .val (.int 5), .val (.int d4), .val (.int d3), .val (.int d2), .val (.int d1), .val (.int d0)]) rfl ?_
      have fd0 : d0.toInt = p'.toInt % 10 := by rw [h_d0]; exact ar_mod hp0
      have fd1 : d1.toInt = (p'.toInt / 10) % 10 := by rw [h_d1]; have q : (p' / 10).toInt = p'.toInt / 10 := ar_div hp0 (by decide); rw [ar_mod (by omega), q]; rfl
      have fd2 : d2.toInt = (p'.toInt / 100) % 10 := by rw [h_d2]; have q : (p' / 100).toInt = p'.toInt / 100 := ar_div hp0 (by decide); rw [ar_mod (by omega), q]; rfl
      have fd3 : d3.toInt = (p'.toInt / 1000) % 10 := by rw [h_d3]; have q : (p' / 1000).toInt = p'.toInt / 1000 := ar_div hp0 (by decide); rw [ar_mod (by omega), q]; rfl
      have fd4 : d4.toInt = p'.toInt / 10000 := by rw [h_d4]; exact ar_div hp0 (by decide)
      refine g_iload X1621 hx (pc' := 199) rfl (hD hby at_197) rfl ?_
      refine g_sipush X1621 hx (pc' := 202) (z := (10000 : Int32)) rfl (hD hby at_199) rfl ?_
      refine g_icmpY X1621 hx (pcY := 219) (hD hby at_202) (by decide) (by decide) (show p' < (10000 : Int32) from by rw [Int32.lt_iff_toInt_lt]; have e : (10000 : Int32).toInt = 10000 := rfl; omega) ?_
      refine g_iload X1621 hx (pc' := 221) rfl (hD hby at_219) rfl ?_
      refine g_sipush X1621 hx (pc' := 224) (z := (1000 : Int32)) rfl (hD hby at_221) rfl ?_
      refine g_icmpY X1621 hx (pcY := 241) (hD hby at_224) (by decide) (by decide) (show p' < (1000 : Int32) from by rw [Int32.lt_iff_toInt_lt]; have e : (1000 : Int32).toInt = 1000 := rfl; omega) ?_
      refine g_iload X1621 hx (pc' := 243) rfl (hD hby at_241) rfl ?_
      refine g_bipush X1621 hx (pc' := 245) (z := (100 : Int32)) rfl (hD hby at_243) rfl ?_
      refine g_icmpY X1621 hx (pcY := 262) (hD hby at_245) (by decide) (by decide) (show p' < (100 : Int32) from by rw [Int32.lt_iff_toInt_lt]; have e : (100 : Int32).toInt = 100 := rfl; omega) ?_
      refine g_iload X1621 hx (pc' := 264) rfl (hD hby at_262) rfl ?_
      refine g_bipush X1621 hx (pc' := 266) (z := (10 : Int32)) rfl (hD hby at_264) rfl ?_
      refine g_icmpN X1621 hx (pcN := 269) (hD hby at_266) rfl (show ¬ (p' < (10 : Int32)) from by rw [Int32.lt_iff_toInt_lt]; have e : (10 : Int32).toInt = 10 := rfl; omega) ?_
      refine g_aload X1621 hx (pc' := 271) rfl (hD hby at_269) rfl rfl ?_
      refine g_iload X1621 hx (pc' := 273) rfl (hD hby at_271) rfl ?_
      refine g_bipush X1621 hx (pc' := 275) (z := (48 : Int32)) rfl (hD hby at_273) rfl ?_
      refine g_iload X1621 hx (pc' := 277) rfl (hD hby at_275) rfl ?_
      refine g_iadd X1621 hx (pc' := 278) rfl (hD hby at_277) ?_
      refine g_i2c X1621 hx (pc' := 279) rfl (hD hby at_278) ?_
      refine g_castore X1621 hx hZ V1621 (i := 5) (by decide) (show (5 : Nat) < 10 by decide) G_a1587 (y := (((48 : Int32) + d1)).toUInt32.toUInt16.toUInt32.toInt32) (nar_i2c _) (pc' := 280) rfl (hD hby at_279) (fun T1628 h1628 X1628 W1628 N1628 => ?_)
      have f1629 := (by have q := (Keep.of_wr W1628).1; exact Nat.le_trans f1622 q : n0 ≤ h1628.size)
      have f1630 := f1623.wr W1628 G_a1587
      have f1631 := f1624.wr W1628
      have f1632 := f1625.other W1628 (Or.inl ne1587_t1532)
      have f1633 := f1626.other W1628 (Or.inl ne1587_t1532)
      have f1634 := f1627.other W1628 ne1587_tb1532
      have V1628 : AV Z h1628 a1587 .char [.int 91, .int a', .int b', .int 93, .int 58, .int (((48 : Int32) + d1)).toUInt32.toUInt16.toUInt32.toInt32, .int 0, .int 0, .int 0, .int 0] := N1628
      refine g_iincC X1628 hx (pc' := 283) (x := (5 : Int32)) (z := (6 : Int32)) rfl (hD hby at_280) rfl (by decide) (l' := #[.val (.int c0), .val (.int c1), .val (.int pp), .val (.int a'), .val (.int b'), .val (.int p'), .val (.ref a1256), .val (.ref t1532), .val (.int 1), .val (.ref a1587), .val (.int 6), .val (.int d4), .val (.int d3), .val (.int d2), .val (.int d1), .val (.int d0)]) rfl ?_
      refine g_aload X1628 hx (pc' := 285) rfl (hD hby at_283) rfl rfl ?_
      refine g_iload X1628 hx (pc' := 287) rfl (hD hby at_285) rfl ?_
      refine g_bipush X1628 hx (pc' := 289) (z := (48 : Int32)) rfl (hD hby at_287) rfl ?_
      refine g_iload X1628 hx (pc' := 291) rfl (hD hby at_289) rfl ?_
      refine g_iadd X1628 hx (pc' := 292) rfl (hD hby at_291) ?_
      refine g_i2c X1628 hx (pc' := 293) rfl (hD hby at_292) ?_
      refine g_castore X1628 hx hZ V1628 (i := 6) (by decide) (show (6 : Nat) < 10 by decide) G_a1587 (y := (((48 : Int32) + d0)).toUInt32.toUInt16.toUInt32.toInt32) (nar_i2c _) (pc' := 294) rfl (hD hby at_293) (fun T1635 h1635 X1635 W1635 N1635 => ?_)
      have f1636 := (by have q := (Keep.of_wr W1635).1; exact Nat.le_trans f1629 q : n0 ≤ h1635.size)
      have f1637 := f1630.wr W1635 G_a1587
      have f1638 := f1631.wr W1635
      have f1639 := f1632.other W1635 (Or.inl ne1587_t1532)
      have f1640 := f1633.other W1635 (Or.inl ne1587_t1532)
      have f1641 := f1634.other W1635 ne1587_tb1532
      have V1635 : AV Z h1635 a1587 .char [.int 91, .int a', .int b', .int 93, .int 58, .int (((48 : Int32) + d1)).toUInt32.toUInt16.toUInt32.toInt32, .int (((48 : Int32) + d0)).toUInt32.toUInt16.toUInt32.toInt32, .int 0, .int 0, .int 0] := N1635
      refine g_iincC X1635 hx (pc' := 297) (x := (6 : Int32)) (z := (7 : Int32)) rfl (hD hby at_294) rfl (by decide) (l' := #[.val (.int c0), .val (.int c1), .val (.int pp), .val (.int a'), .val (.int b'), .val (.int p'), .val (.ref a1256), .val (.ref t1532), .val (.int 1), .val (.ref a1587), .val (.int 7), .val (.int d4), .val (.int d3), .val (.int d2), .val (.int d1), .val (.int d0)]) rfl ?_
      refine tail0 l Z a0 hw n0 _ t1532 tb1532 fo a1587 _ _ _ _ _ _ _ _ _ _ _ _ _ _ cz _ _ f1636 O4 hfo O2 hcz f1637 f1638 f1639 f1640 f1641 rfl V1635 (show (7 : Nat) ≤ 10 by decide) (fun j hj => ?_) hx hZ hby hml hown hret hlk X1635
      match j, hj with
        | 0, _ => exact ⟨_, _, rfl, rfl, by decide⟩
        | 1, _ => exact ⟨_, _, rfl, rfl, own_eqc b_a'⟩
        | 2, _ => exact ⟨_, _, rfl, rfl, own_eqc b_b'⟩
        | 3, _ => exact ⟨_, _, rfl, rfl, by decide⟩
        | 4, _ => exact ⟨_, _, rfl, rfl, by decide⟩
        | 5, _ => exact ⟨_, _, rfl, rfl, own_dig (d := d1) (by omega) (by omega) (by omega)⟩
        | 6, _ => exact ⟨_, _, rfl, rfl, own_dig (d := d0) (by omega) (by omega) (by omega)⟩
    · skip
      have V1532 : AV Z h1532 tb1532 .byte [.int 91, .int (a').toInt8.toInt32, .int (b').toInt8.toInt32, .int 93, .int 58, .int y2, .int y1, .int y0] := VV1532
      refine g_astore X1532 hx (pc' := 57) rfl (hD hby at_55) rfl (l' := #[.val (.int c0), .val (.int c1), .val (.int pp), .val (.int a'), .val (.int b'), .val (.int p'), .val (.ref a1256), .val (.ref t1532), .unset, .unset, .unset, .unset, .unset, .unset, .unset, .unset]) rfl ?_
      refine g_iloadN X1532 hx (pc' := 58) rfl (hD hby at_57) rfl ?_
      refine g_bipush X1532 hx (pc' := 60) (z := (58 : Int32)) rfl (hD hby at_58) rfl ?_
      suffices J60 : Go p e below s n0 ((Z, ("]" :: "[" :: ":" :: Ts), fun v h => v = some (.int 1)) : GQ) room_1.cells room_1.slots (T1532.setTop (mkF m 70 #[.val (.int c0), .val (.int c1), .val (.int pp), .val (.int a'), .val (.int b'), .val (.int p'), .val (.ref a1256), .val (.ref t1532), .unset, .unset, .unset, .unset, .unset, .unset, .unset, .unset] [])) by
        refine g_icmp X1532 hx (pcY := 70) (pcN := 63) (hD hby at_60) (by decide) (by decide) rfl (fun hc60 => ?_) (fun hc60 => ?_)
        · replace hc60 : a' = (58 : Int32) := hc60
          exact J60  
        · replace hc60 : ¬ a' = (58 : Int32) := hc60
          refine g_iload X1532 hx (pc' := 65) rfl (hD hby at_63) rfl ?_
          refine g_bipush X1532 hx (pc' := 67) (z := (58 : Int32)) rfl (hD hby at_65) rfl ?_
          refine g_icmpN X1532 hx (pcN := 70) (hD hby at_67) rfl (show ¬ (¬ b' = (58 : Int32)) from not_not_intro (kb.1.resolve_left hc60)) ?_
          exact J60  
      refine g_iloadN X1532 hx (pc' := 71) rfl (hD hby at_70) rfl ?_
      refine g_bipush X1532 hx (pc' := 73) (z := (91 : Int32)) rfl (hD hby at_71) rfl ?_
      refine g_icmpN X1532 hx (pcN := 76) (hD hby at_73) rfl (show ¬ (a' = (91 : Int32)) from kb.2) ?_
      refine g_iconst X1532 hx (pc' := 77) (z := (1 : Int32)) rfl (hD hby at_76) rfl ?_
      refine g_goto X1532 hx (pc' := 81) (hD hby at_77) (by decide) (by decide) ?_
      refine g_istore X1532 hx (pc' := 83) rfl (hD hby at_81) (l' := #[.val (.int c0), .val (.int c1), .val (.int pp), .val (.int a'), .val (.int b'), .val (.int p'), .val (.ref a1256), .val (.ref t1532), .val (.int 1), .unset, .unset, .unset, .unset, .unset, .unset, .unset]) rfl ?_
      refine g_bipush X1532 hx (pc' := 85) (z := (10 : Int32)) rfl (hD hby at_83) rfl ?_
      refine g_newA X1532 hx hZ (aty := .char) (wat hw 5 rfl) (N := 10) (by decide) (cap := 10) (Nat.le_refl _) (by decide) (pc' := 87) rfl (hD hby at_85) (by decide) (by decide) (fun T1642 h1642 a1642 ha1642 X1642 E1642 N1642 => ?_)
      have ne1642_t1532 : t1532 ≠ a1642 := by rw [ha1642]; exact Nat.ne_of_lt E1532.lt
      have ne1642_tb1532 : tb1532 ≠ a1642 := by rw [ha1642]; exact Nat.ne_of_lt V1532.lt
      have f1643 := E1532.ext E1642
      have f1644 := FV1532.ext E1642
      have f1645 := FC1532.ext E1642
      have f1646 := V1532.ext E1642
      have G_a1642 : n0 ≤ a1642 := by rw [ha1642]; exact zs1532
      have Zs1642 : n0 ≤ h1642.size := Nat.le_trans zs1532 E1642.1
      have f1647 := f1533.ext E1642
      have V1642 : AV Z h1642 a1642 .char [.int 0, .int 0, .int 0, .int 0, .int 0, .int 0, .int 0, .int 0, .int 0, .int 0] := N1642
      refine g_astore X1642 hx (pc' := 89) rfl (hD hby at_87) rfl (l' := #[.val (.int c0), .val (.int c1), .val (.int pp), .val (.int a'), .val (.int b'), .val (.int p'), .val (.ref a1256), .val (.ref t1532), .val (.int 1), .val (.ref a1642), .unset, .unset, .unset, .unset, .unset, .unset]) rfl ?_
      refine g_iconst X1642 hx (pc' := 90) (z := (0 : Int32)) rfl (hD hby at_89) rfl ?_
      refine g_istore X1642 hx (pc' := 92) rfl (hD hby at_90) (l' := #[.val (.int c0), .val (.int c1), .val (.int pp), .val (.int a'), .val (.int b'), .val (.int p'), .val (.ref a1256), .val (.ref t1532), .val (.int 1), .val (.ref a1642), .val (.int 0), .unset, .unset, .unset, .unset, .unset]) rfl ?_
      refine g_iload X1642 hx (pc' := 94) rfl (hD hby at_92) rfl ?_
      refine g_ifN X1642 hx (pcN := 97) (hD hby at_94) rfl (show ¬ ((1 : Int32) = 0) from by decide) ?_
      refine g_aload X1642 hx (pc' := 99) rfl (hD hby at_97) rfl rfl ?_
      refine g_iload X1642 hx (pc' := 101) rfl (hD hby at_99) rfl ?_
      refine g_bipush X1642 hx (pc' := 103) (z := (91 : Int32)) rfl (hD hby at_101) rfl ?_
      refine g_castore X1642 hx hZ V1642 (i := 0) (by decide) (show (0 : Nat) < 10 by decide) G_a1642 (y := (91 : Int32)) (by decide) (pc' := 104) rfl (hD hby at_103) (fun T1648 h1648 X1648 W1648 N1648 => ?_)
      have f1649 := (by have q := (Keep.of_wr W1648).1; exact Nat.le_trans Zs1642 q : n0 ≤ h1648.size)
      have f1650 := f1647.wr W1648 G_a1642
      have f1651 := f1643.wr W1648
      have f1652 := f1644.other W1648 (Or.inl ne1642_t1532)
      have f1653 := f1645.other W1648 (Or.inl ne1642_t1532)
      have f1654 := f1646.other W1648 ne1642_tb1532
      have V1648 : AV Z h1648 a1642 .char [.int 91, .int 0, .int 0, .int 0, .int 0, .int 0, .int 0, .int 0, .int 0, .int 0] := N1648
      refine g_iincC X1648 hx (pc' := 107) (x := (0 : Int32)) (z := (1 : Int32)) rfl (hD hby at_104) rfl (by decide) (l' := #[.val (.int c0), .val (.int c1), .val (.int pp), .val (.int a'), .val (.int b'), .val (.int p'), .val (.ref a1256), .val (.ref t1532), .val (.int 1), .val (.ref a1642), .val (.int 1), .unset, .unset, .unset, .unset, .unset]) rfl ?_
      refine g_aload X1648 hx (pc' := 109) rfl (hD hby at_107) rfl rfl ?_
      refine g_iload X1648 hx (pc' := 111) rfl (hD hby at_109) rfl ?_
      refine g_iloadN X1648 hx (pc' := 112) rfl (hD hby at_111) rfl ?_
      refine g_castore X1648 hx hZ V1648 (i := 1) (by decide) (show (1 : Nat) < 10 by decide) G_a1642 (y := a') n_a' (pc' := 113) rfl (hD hby at_112) (fun T1655 h1655 X1655 W1655 N1655 => ?_)
      have f1656 := (by have q := (Keep.of_wr W1655).1; exact Nat.le_trans f1649 q : n0 ≤ h1655.size)
      have f1657 := f1650.wr W1655 G_a1642
      have f1658 := f1651.wr W1655
      have f1659 := f1652.other W1655 (Or.inl ne1642_t1532)
      have f1660 := f1653.other W1655 (Or.inl ne1642_t1532)
      have f1661 := f1654.other W1655 ne1642_tb1532
      have V1655 : AV Z h1655 a1642 .char [.int 91, .int a', .int 0, .int 0, .int 0, .int 0, .int 0, .int 0, .int 0, .int 0] := N1655
      refine g_iincC X1655 hx (pc' := 116) (x := (1 : Int32)) (z := (2 : Int32)) rfl (hD hby at_113) rfl (by decide) (l' := #[.val (.int c0), .val (.int c1), .val (.int pp), .val (.int a'), .val (.int b'), .val (.int p'), .val (.ref a1256), .val (.ref t1532), .val (.int 1), .val (.ref a1642), .val (.int 2), .unset, .unset, .unset, .unset, .unset]) rfl ?_
      refine g_aload X1655 hx (pc' := 118) rfl (hD hby at_116) rfl rfl ?_
      refine g_iload X1655 hx (pc' := 120) rfl (hD hby at_118) rfl ?_
      refine g_iload X1655 hx (pc' := 122) rfl (hD hby at_120) rfl ?_
      refine g_castore X1655 hx hZ V1655 (i := 2) (by decide) (show (2 : Nat) < 10 by decide) G_a1642 (y := b') n_b' (pc' := 123) rfl (hD hby at_122) (fun T1662 h1662 X1662 W1662 N1662 => ?_)
      have f1663 := (by have q := (Keep.of_wr W1662).1; exact Nat.le_trans f1656 q : n0 ≤ h1662.size)
      have f1664 := f1657.wr W1662 G_a1642
      have f1665 := f1658.wr W1662
      have f1666 := f1659.other W1662 (Or.inl ne1642_t1532)
      have f1667 := f1660.other W1662 (Or.inl ne1642_t1532)
      have f1668 := f1661.other W1662 ne1642_tb1532
      have V1662 : AV Z h1662 a1642 .char [.int 91, .int a', .int b', .int 0, .int 0, .int 0, .int 0, .int 0, .int 0, .int 0] := N1662
      refine g_iincC X1662 hx (pc' := 126) (x := (2 : Int32)) (z := (3 : Int32)) rfl (hD hby at_123) rfl (by decide) (l' := #[.val (.int c0), .val (.int c1), .val (.int pp), .val (.int a'), .val (.int b'), .val (.int p'), .val (.ref a1256), .val (.ref t1532), .val (.int 1), .val (.ref a1642), .val (.int 3), .unset, .unset, .unset, .unset, .unset]) rfl ?_
      refine g_iload X1662 hx (pc' := 128) rfl (hD hby at_126) rfl ?_
      refine g_ifN X1662 hx (pcN := 131) (hD hby at_128) rfl (show ¬ ((1 : Int32) = 0) from by decide) ?_
      refine g_aload X1662 hx (pc' := 133) rfl (hD hby at_131) rfl rfl ?_
      refine g_iload X1662 hx (pc' := 135) rfl (hD hby at_133) rfl ?_
      refine g_bipush X1662 hx (pc' := 137) (z := (93 : Int32)) rfl (hD hby at_135) rfl ?_
      refine g_castore X1662 hx hZ V1662 (i := 3) (by decide) (show (3 : Nat) < 10 by decide) G_a1642 (y := (93 : Int32)) (by decide) (pc' := 138) rfl (hD hby at_137) (fun T1669 h1669 X1669 W1669 N1669 => ?_)
      have f1670 := (by have q := (Keep.of_wr W1669).1; exact Nat.le_trans f1663 q : n0 ≤ h1669.size)
      have f1671 := f1664.wr W1669 G_a1642
      have f1672 := f1665.wr W1669
      have f1673 := f1666.other W1669 (Or.inl ne1642_t1532)
      have f1674 := f1667.other W1669 (Or.inl ne1642_t1532)
      have f1675 := f1668.other W1669 ne1642_tb1532
      have V1669 : AV Z h1669 a1642 .char [.int 91, .int a', .int b', .int 93, .int 0, .int 0, .int 0, .int 0, .int 0, .int 0] := N1669
      refine g_iincC X1669 hx (pc' := 141) (x := (3 : Int32)) (z := (4 : Int32)) rfl (hD hby at_138) rfl (by decide) (l' := #[.val (.int c0), .val (.int c1), .val (.int pp), .val (.int a'), .val (.int b'), .val (.int p'), .val (.ref a1256), .val (.ref t1532), .val (.int 1), .val (.ref a1642), .val (.int 4), .unset, .unset, .unset, .unset, .unset]) rfl ?_
      refine g_aload X1669 hx (pc' := 143) rfl (hD hby at_141) rfl rfl ?_
      refine g_iload X1669 hx (pc' := 145) rfl (hD hby at_143) rfl ?_
      refine g_bipush X1669 hx (pc' := 147) (z := (58 : Int32)) rfl (hD hby at_145) rfl ?_
      refine g_castore X1669 hx hZ V1669 (i := 4) (by decide) (show (4 : Nat) < 10 by decide) G_a1642 (y := (58 : Int32)) (by decide) (pc' := 148) rfl (hD hby at_147) (fun T1676 h1676 X1676 W1676 N1676 => ?_)
      have f1677 := (by have q := (Keep.of_wr W1676).1; exact Nat.le_trans f1670 q : n0 ≤ h1676.size)
      have f1678 := f1671.wr W1676 G_a1642
      have f1679 := f1672.wr W1676
      have f1680 := f1673.other W1676 (Or.inl ne1642_t1532)
      have f1681 := f1674.other W1676 (Or.inl ne1642_t1532)
      have f1682 := f1675.other W1676 ne1642_tb1532
      have V1676 : AV Z h1676 a1642 .char [.int 91, .int a', .int b', .int 93, .int 58, .int 0, .int 0, .int 0, .int 0, .int 0] := N1676
      refine g_iincC X1676 hx (pc' := 151) (x := (4 : Int32)) (z := (5 : Int32)) rfl (hD hby at_148) rfl (by decide) (l' := #[.val (.int c0), .val (.int c1), .val (.int pp), .val (.int a'), .val (.int b'), .val (.int p'), .val (.ref a1256), .val (.ref t1532), .val (.int 1), .val (.ref a1642), .val (.int 5), .unset, .unset, .unset, .unset, .unset]) rfl ?_
      refine g_iload X1676 hx (pc' := 153) rfl (hD hby at_151) rfl ?_
      refine g_sipush X1676 hx (pc' := 156) (z := (10000 : Int32)) rfl (hD hby at_153) rfl ?_
      refine g_idiv X1676 hx (pc' := 157) rfl (hD hby at_156) (by decide) ?_
      refine g_absI (fun d4 h_d4 => ?_)
      refine g_istore X1676 hx (pc' := 159) rfl (hD hby at_157) (l' := #[.val (.int c0), .val (.int c1), .val (.int pp), .val (.int a'), .val (.int b'), .val (.int p'), .val (.ref a1256), .val (.ref t1532), .val (.int 1), .val (.ref a1642), .val (.int 5), .val (.int d4), .unset, .unset, .unset, .unset]) rfl ?_
      refine g_iload X1676 hx (pc' := 161) rfl (hD hby at_159) rfl ?_
      refine g_sipush X1676 hx (pc' := 164) (z := (1000 : Int32)) rfl (hD hby at_161) rfl ?_
      refine g_idiv X1676 hx (pc' := 165) rfl (hD hby at_164) (by decide) ?_
      refine g_bipush X1676 hx (pc' := 167) (z := (10 : Int32)) rfl (hD hby at_165) rfl ?_
      refine g_irem X1676 hx (pc' := 168) rfl (hD hby at_167) (by decide) ?_
      refine g_absI (fun d3 h_d3 => ?_)
      refine g_istore X1676 hx (pc' := 170) rfl (hD hby at_168) (l' := #[.val (.int c0), .val (.int c1), .val (.int pp), .val (.int a'), .val (.int b'), .val (.int p'), .val (.ref a1256), .val (.ref t1532), .val (.int 1), .val (.ref a1642), .val (.int 5), .val (.int d4), .val (.int d3), .unset, .unset, .unset]) rfl ?_
      refine g_iload X1676 hx (pc' := 172) rfl (hD hby at_170) rfl ?_
      refine g_bipush X1676 hx (pc' := 174) (z := (100 : Int32)) rfl (hD hby at_172) rfl ?_
      refine g_idiv X1676 hx (pc' := 175) rfl (hD hby at_174) (by decide) ?_
      refine g_bipush X1676 hx (pc' := 177) (z := (10 : Int32)) rfl (hD hby at_175) rfl ?_
      refine g_irem X1676 hx (pc' := 178) rfl (hD hby at_177) (by decide) ?_
      refine g_absI (fun d2 h_d2 => ?_)
      refine g_istore X1676 hx (pc' := 180) rfl (hD hby at_178) (l' := #[.val (.int c0), .val (.int c1), .val (.int pp), .val (.int a'), .val (.int b'), .val (.int p'), .val (.ref a1256), .val (.ref t1532), .val (.int 1), .val (.ref a1642), .val (.int 5), .val (.int d4), .val (.int d3), .val (.int d2), .unset, .unset]) rfl ?_
      refine g_iload X1676 hx (pc' := 182) rfl (hD hby at_180) rfl ?_
      refine g_bipush X1676 hx (pc' := 184) (z := (10 : Int32)) rfl (hD hby at_182) rfl ?_
      refine g_idiv X1676 hx (pc' := 185) rfl (hD hby at_184) (by decide) ?_
      refine g_bipush X1676 hx (pc' := 187) (z := (10 : Int32)) rfl (hD hby at_185) rfl ?_
      refine g_irem X1676 hx (pc' := 188) rfl (hD hby at_187) (by decide) ?_
      refine g_absI (fun d1 h_d1 => ?_)
      refine g_istore X1676 hx (pc' := 190) rfl (hD hby at_188) (l' := #[.val (.int c0), .val (.int c1), .val (.int pp), .val (.int a'), .val (.int b'), .val (.int p'), .val (.ref a1256), .val (.ref t1532), .val (.int 1), .val (.ref a1642), .val (.int 5), .val (.int d4), .val (.int d3), .val (.int d2), .val (.int d1), .unset]) rfl ?_
      refine g_iload X1676 hx (pc' := 192) rfl (hD hby at_190) rfl ?_
      refine g_bipush X1676 hx (pc' := 194) (z := (10 : Int32)) rfl (hD hby at_192) rfl ?_
      refine g_irem X1676 hx (pc' := 195) rfl (hD hby at_194) (by decide) ?_
      refine g_absI (fun d0 h_d0 => ?_)
      refine g_istore X1676 hx (pc' := 197) rfl (hD hby at_195) (l' := #[.val (.int c0), .val (.int c1), .val (.int pp), .val (.int a'), .val (.int b'), .val (.int p'), .val (.ref a1256), .val (.ref t1532), .val (.int 1), .val (.ref a1642), .val (.int 5), .val (.int d4), .val (.int d3), .val (.int d2), .val (.int d1), .val (.int d0)]) rfl ?_
      have fd0 : d0.toInt = p'.toInt % 10 := by rw [h_d0]; exact ar_mod hp0
      have fd1 : d1.toInt = (p'.toInt / 10) % 10 := by rw [h_d1]; have q : (p' / 10).toInt = p'.toInt / 10 := ar_div hp0 (by decide); rw [ar_mod (by omega), q]; rfl
      have fd2 : d2.toInt = (p'.toInt / 100) % 10 := by rw [h_d2]; have q : (p' / 100).toInt = p'.toInt / 100 := ar_div hp0 (by decide); rw [ar_mod (by omega), q]; rfl
      have fd3 : d3.toInt = (p'.toInt / 1000) % 10 := by rw [h_d3]; have q : (p' / 1000).toInt = p'.toInt / 1000 := ar_div hp0 (by decide); rw [ar_mod (by omega), q]; rfl
      have fd4 : d4.toInt = p'.toInt / 10000 := by rw [h_d4]; exact ar_div hp0 (by decide)
      refine g_iload X1676 hx (pc' := 199) rfl (hD hby at_197) rfl ?_
      refine g_sipush X1676 hx (pc' := 202) (z := (10000 : Int32)) rfl (hD hby at_199) rfl ?_
      refine g_icmpY X1676 hx (pcY := 219) (hD hby at_202) (by decide) (by decide) (show p' < (10000 : Int32) from by rw [Int32.lt_iff_toInt_lt]; have e : (10000 : Int32).toInt = 10000 := rfl; omega) ?_
      refine g_iload X1676 hx (pc' := 221) rfl (hD hby at_219) rfl ?_
      refine g_sipush X1676 hx (pc' := 224) (z := (1000 : Int32)) rfl (hD hby at_221) rfl ?_
      refine g_icmpY X1676 hx (pcY := 241) (hD hby at_224) (by decide) (by decide) (show p' < (1000 : Int32) from by rw [Int32.lt_iff_toInt_lt]; have e : (1000 : Int32).toInt = 1000 := rfl; omega) ?_
      refine g_iload X1676 hx (pc' := 243) rfl (hD hby at_241) rfl ?_
      refine g_bipush X1676 hx (pc' := 245) (z := (100 : Int32)) rfl (hD hby at_243) rfl ?_
      refine g_icmpN X1676 hx (pcN := 248) (hD hby at_245) rfl (show ¬ (p' < (100 : Int32)) from by rw [Int32.lt_iff_toInt_lt]; have e : (100 : Int32).toInt = 100 := rfl; omega) ?_
      refine g_aload X1676 hx (pc' := 250) rfl (hD hby at_248) rfl rfl ?_
      refine g_iload X1676 hx (pc' := 252) rfl (hD hby at_250) rfl ?_
      refine g_bipush X1676 hx (pc' := 254) (z := (48 : Int32)) rfl (hD hby at_252) rfl ?_
      refine g_iload X1676 hx (pc' := 256) rfl (hD hby at_254) rfl ?_
      refine g_iadd X1676 hx (pc' := 257) rfl (hD hby at_256) ?_
      refine g_i2c X1676 hx (pc' := 258) rfl (hD hby at_257) ?_
      refine g_castore X1676 hx hZ V1676 (i := 5) (by decide) (show (5 : Nat) < 10 by decide) G_a1642 (y := (((48 : Int32) + d2)).toUInt32.toUInt16.toUInt32.toInt32) (nar_i2c _) (pc' := 259) rfl (hD hby at_258) (fun T1683 h1683 X1683 W1683 N1683 => ?_)
      have f1684 := (by have q := (Keep.of_wr W1683).1; exact Nat.le_trans f1677 q : n0 ≤ h1683.size)
      have f1685 := f1678.wr W1683 G_a1642
      have f1686 := f1679.wr W1683
      have f1687 := f1680.other W1683 (Or.inl ne1642_t1532)
      have f1688 := f1681.other W1683 (Or.inl ne1642_t1532)
      have f1689 := f1682.other W1683 ne1642_tb1532
      have V1683 : AV Z h1683 a1642 .char [.int 91, .int a', .int b', .int 93, .int 58, .int (((48 : Int32) + d2)).toUInt32.toUInt16.toUInt32.toInt32, .int 0, .int 0, .int 0, .int 0] := N1683
      refine g_iincC X1683 hx (pc' := 262) (x := (5 : Int32)) (z := (6 : Int32)) rfl (hD hby at_259) rfl (by decide) (l' := #[.val (.int c0), .val (.int c1), .val (.int pp), .val (.int a'), .val (.int b'), .val (.int p'), .val (.ref a1256), .val (.ref t1532), .val (.int 1), .val (.ref a1642), .val (.int 6), .val (.int d4), .val (.int d3), .val (.int d2), .val (.int d1), .val (.int d0)]) rfl ?_
      refine g_iload X1683 hx (pc' := 264) rfl (hD hby at_262) rfl ?_
      refine g_bipush X1683 hx (pc' := 266) (z := (10 : Int32)) rfl (hD hby at_264) rfl ?_
      refine g_icmpN X1683 hx (pcN := 269) (hD hby at_266) rfl (show ¬ (p' < (10 : Int32)) from by rw [Int32.lt_iff_toInt_lt]; have e : (10 : Int32).toInt = 10 := rfl; omega) ?_
      refine g_aload X1683 hx (pc' := 271) rfl (hD hby at_269) rfl rfl ?_
      refine g_iload X1683 hx (pc' := 273) rfl (hD hby at_271) rfl ?_
      refine g_bipush X1683 hx (pc' := 275) (z := (48 : Int32)) rfl (hD hby at_273) rfl ?_
      refine g_iload X1683 hx (pc' := 277) rfl (hD hby at_275) rfl ?_
      refine g_iadd X1683 hx (pc' := 278) rfl (hD hby at_277) ?_
      refine g_i2c X1683 hx (pc' := 279) rfl (hD hby at_278) ?_
      refine g_castore X1683 hx hZ V1683 (i := 6) (by decide) (show (6 : Nat) < 10 by decide) G_a1642 (y := (((48 : Int32) + d1)).toUInt32.toUInt16.toUInt32.toInt32) (nar_i2c _) (pc' := 280) rfl (hD hby at_279) (fun T1690 h1690 X1690 W1690 N1690 => ?_)
      have f1691 := (by have q := (Keep.of_wr W1690).1; exact Nat.le_trans f1684 q : n0 ≤ h1690.size)
      have f1692 := f1685.wr W1690 G_a1642
      have f1693 := f1686.wr W1690
      have f1694 := f1687.other W1690 (Or.inl ne1642_t1532)
      have f1695 := f1688.other W1690 (Or.inl ne1642_t1532)
      have f1696 := f1689.other W1690 ne1642_tb1532
      have V1690 : AV Z h1690 a1642 .char [.int 91, .int a', .int b', .int 93, .int 58, .int (((48 : Int32) + d2)).toUInt32.toUInt16.toUInt32.toInt32, .int (((48 : Int32) + d1)).toUInt32.toUInt16.toUInt32.toInt32, .int 0, .int 0, .int 0] := N1690
      refine g_iincC X1690 hx (pc' := 283) (x := (6 : Int32)) (z := (7 : Int32)) rfl (hD hby at_280) rfl (by decide) (l' := #[.val (.int c0), .val (.int c1), .val (.int pp), .val (.int a'), .val (.int b'), .val (.int p'), .val (.ref a1256), .val (.ref t1532), .val (.int 1), .val (.ref a1642), .val (.int 7), .val (.int d4), .val (.int d3), .val (.int d2), .val (.int d1), .val (.int d0)]) rfl ?_
      refine g_aload X1690 hx (pc' := 285) rfl (hD hby at_283) rfl rfl ?_
      refine g_iload X1690 hx (pc' := 287) rfl (hD hby at_285) rfl ?_
      refine g_bipush X1690 hx (pc' := 289) (z := (48 : Int32)) rfl (hD hby at_287) rfl ?_
      refine g_iload X1690 hx (pc' := 291) rfl (hD hby at_289) rfl ?_
      refine g_iadd X1690 hx (pc' := 292) rfl (hD hby at_291) ?_
      refine g_i2c X1690 hx (pc' := 293) rfl (hD hby at_292) ?_
      refine g_castore X1690 hx hZ V1690 (i := 7) (by decide) (show (7 : Nat) < 10 by decide) G_a1642 (y := (((48 : Int32) + d0)).toUInt32.toUInt16.toUInt32.toInt32) (nar_i2c _) (pc' := 294) rfl (hD hby at_293) (fun T1697 h1697 X1697 W1697 N1697 => ?_)
      have f1698 := (by have q := (Keep.of_wr W1697).1; exact Nat.le_trans f1691 q : n0 ≤ h1697.size)
      have f1699 := f1692.wr W1697 G_a1642
      have f1700 := f1693.wr W1697
      have f1701 := f1694.other W1697 (Or.inl ne1642_t1532)
      have f1702 := f1695.other W1697 (Or.inl ne1642_t1532)
      have f1703 := f1696.other W1697 ne1642_tb1532
      have V1697 : AV Z h1697 a1642 .char [.int 91, .int a', .int b', .int 93, .int 58, .int (((48 : Int32) + d2)).toUInt32.toUInt16.toUInt32.toInt32, .int (((48 : Int32) + d1)).toUInt32.toUInt16.toUInt32.toInt32, .int (((48 : Int32) + d0)).toUInt32.toUInt16.toUInt32.toInt32, .int 0, .int 0] := N1697
      refine g_iincC X1697 hx (pc' := 297) (x := (7 : Int32)) (z := (8 : Int32)) rfl (hD hby at_294) rfl (by decide) (l' := #[.val (.int c0), .val (.int c1), .val (.int pp), .val (.int a'), .val (.int b'), .val (.int p'), .val (.ref a1256), .val (.ref t1532), .val (.int 1), .val (.ref a1642), .val (.int 8), .val (.int d4), .val (.int d3), .val (.int d2), .val (.int d1), .val (.int d0)]) rfl ?_
      refine tail0 l Z a0 hw n0 _ t1532 tb1532 fo a1642 _ _ _ _ _ _ _ _ _ _ _ _ _ _ cz _ _ f1698 O4 hfo O2 hcz f1699 f1700 f1701 f1702 f1703 rfl V1697 (show (8 : Nat) ≤ 10 by decide) (fun j hj => ?_) hx hZ hby hml hown hret hlk X1697
      match j, hj with
        | 0, _ => exact ⟨_, _, rfl, rfl, by decide⟩
        | 1, _ => exact ⟨_, _, rfl, rfl, own_eqc b_a'⟩
        | 2, _ => exact ⟨_, _, rfl, rfl, own_eqc b_b'⟩
        | 3, _ => exact ⟨_, _, rfl, rfl, by decide⟩
        | 4, _ => exact ⟨_, _, rfl, rfl, by decide⟩
        | 5, _ => exact ⟨_, _, rfl, rfl, own_dig (d := d2) (by omega) (by omega) (by omega)⟩
        | 6, _ => exact ⟨_, _, rfl, rfl, own_dig (d := d1) (by omega) (by omega) (by omega)⟩
        | 7, _ => exact ⟨_, _, rfl, rfl, own_dig (d := d0) (by omega) (by omega) (by omega)⟩
    · skip
      have V1532 : AV Z h1532 tb1532 .byte [.int 91, .int (a').toInt8.toInt32, .int (b').toInt8.toInt32, .int 93, .int 58, .int y3, .int y2, .int y1, .int y0] := VV1532
      refine g_astore X1532 hx (pc' := 57) rfl (hD hby at_55) rfl (l' := #[.val (.int c0), .val (.int c1), .val (.int pp), .val (.int a'), .val (.int b'), .val (.int p'), .val (.ref a1256), .val (.ref t1532), .unset, .unset, .unset, .unset, .unset, .unset, .unset, .unset]) rfl ?_
      refine g_iloadN X1532 hx (pc' := 58) rfl (hD hby at_57) rfl ?_
      refine g_bipush X1532 hx (pc' := 60) (z := (58 : Int32)) rfl (hD hby at_58) rfl ?_
      suffices J60 : Go p e below s n0 ((Z, ("]" :: "[" :: ":" :: Ts), fun v h => v = some (.int 1)) : GQ) room_1.cells room_1.slots (T1532.setTop (mkF m 70 #[.val (.int c0), .val (.int c1), .val (.int pp), .val (.int a'), .val (.int b'), .val (.int p'), .val (.ref a1256), .val (.ref t1532), .unset, .unset, .unset, .unset, .unset, .unset, .unset, .unset] [])) by
        refine g_icmp X1532 hx (pcY := 70) (pcN := 63) (hD hby at_60) (by decide) (by decide) rfl (fun hc60 => ?_) (fun hc60 => ?_)
        · replace hc60 : a' = (58 : Int32) := hc60
          exact J60  
        · replace hc60 : ¬ a' = (58 : Int32) := hc60
          refine g_iload X1532 hx (pc' := 65) rfl (hD hby at_63) rfl ?_
          refine g_bipush X1532 hx (pc' := 67) (z := (58 : Int32)) rfl (hD hby at_65) rfl ?_
          refine g_icmpN X1532 hx (pcN := 70) (hD hby at_67) rfl (show ¬ (¬ b' = (58 : Int32)) from not_not_intro (kb.1.resolve_left hc60)) ?_
          exact J60  
      refine g_iloadN X1532 hx (pc' := 71) rfl (hD hby at_70) rfl ?_
      refine g_bipush X1532 hx (pc' := 73) (z := (91 : Int32)) rfl (hD hby at_71) rfl ?_
      refine g_icmpN X1532 hx (pcN := 76) (hD hby at_73) rfl (show ¬ (a' = (91 : Int32)) from kb.2) ?_
      refine g_iconst X1532 hx (pc' := 77) (z := (1 : Int32)) rfl (hD hby at_76) rfl ?_
      refine g_goto X1532 hx (pc' := 81) (hD hby at_77) (by decide) (by decide) ?_
      refine g_istore X1532 hx (pc' := 83) rfl (hD hby at_81) (l' := #[.val (.int c0), .val (.int c1), .val (.int pp), .val (.int a'), .val (.int b'), .val (.int p'), .val (.ref a1256), .val (.ref t1532), .val (.int 1), .unset, .unset, .unset, .unset, .unset, .unset, .unset]) rfl ?_
      refine g_bipush X1532 hx (pc' := 85) (z := (10 : Int32)) rfl (hD hby at_83) rfl ?_
      refine g_newA X1532 hx hZ (aty := .char) (wat hw 5 rfl) (N := 10) (by decide) (cap := 10) (Nat.le_refl _) (by decide) (pc' := 87) rfl (hD hby at_85) (by decide) (by decide) (fun T1704 h1704 a1704 ha1704 X1704 E1704 N1704 => ?_)
      have ne1704_t1532 : t1532 ≠ a1704 := by rw [ha1704]; exact Nat.ne_of_lt E1532.lt
      have ne1704_tb1532 : tb1532 ≠ a1704 := by rw [ha1704]; exact Nat.ne_of_lt V1532.lt
      have f1705 := E1532.ext E1704
      have f1706 := FV1532.ext E1704
      have f1707 := FC1532.ext E1704
      have f1708 := V1532.ext E1704
      have G_a1704 : n0 ≤ a1704 := by rw [ha1704]; exact zs1532
      have Zs1704 : n0 ≤ h1704.size := Nat.le_trans zs1532 E1704.1
      have f1709 := f1533.ext E1704
      have V1704 : AV Z h1704 a1704 .char [.int 0, .int 0, .int 0, .int 0, .int 0, .int 0, .int 0, .int 0, .int 0, .int 0] := N1704
      refine g_astore X1704 hx (pc' := 89) rfl (hD hby at_87) rfl (l' := #[.val (.int c0), .val (.int c1), .val (.int pp), .val (.int a'), .val (.int b'), .val (.int p'), .val (.ref a1256), .val (.ref t1532), .val (.int 1), .val (.ref a1704), .unset, .unset, .unset, .unset, .unset, .unset]) rfl ?_
      refine g_iconst X1704 hx (pc' := 90) (z := (0 : Int32)) rfl (hD hby at_89) rfl ?_
      refine g_istore X1704 hx (pc' := 92) rfl (hD hby at_90) (l' := #[.val (.int c0), .val (.int c1), .val (.int pp), .val (.int a'), .val (.int b'), .val (.int p'), .val (.ref a1256), .val (.ref t1532), .val (.int 1), .val (.ref a1704), .val (.int 0), .unset, .unset, .unset, .unset, .unset]) rfl ?_
      refine g_iload X1704 hx (pc' := 94) rfl (hD hby at_92) rfl ?_
      refine g_ifN X1704 hx (pcN := 97) (hD hby at_94) rfl (show ¬ ((1 : Int32) = 0) from by decide) ?_
      refine g_aload X1704 hx (pc' := 99) rfl (hD hby at_97) rfl rfl ?_
      refine g_iload X1704 hx (pc' := 101) rfl (hD hby at_99) rfl ?_
      refine g_bipush X1704 hx (pc' := 103) (z := (91 : Int32)) rfl (hD hby at_101) rfl ?_
      refine g_castore X1704 hx hZ V1704 (i := 0) (by decide) (show (0 : Nat) < 10 by decide) G_a1704 (y := (91 : Int32)) (by decide) (pc' := 104) rfl (hD hby at_103) (fun T1710 h1710 X1710 W1710 N1710 => ?_)
      have f1711 := (by have q := (Keep.of_wr W1710).1; exact Nat.le_trans Zs1704 q : n0 ≤ h1710.size)
      have f1712 := f1709.wr W1710 G_a1704
      have f1713 := f1705.wr W1710
      have f1714 := f1706.other W1710 (Or.inl ne1704_t1532)
      have f1715 := f1707.other W1710 (Or.inl ne1704_t1532)
      have f1716 := f1708.other W1710 ne1704_tb1532
      have V1710 : AV Z h1710 a1704 .char [.int 91, .int 0, .int 0, .int 0, .int 0, .int 0, .int 0, .int 0, .int 0, .int 0] := N1710
      refine g_iincC X1710 hx (pc' := 107) (x := (0 : Int32)) (z := (1 : Int32)) rfl (hD hby at_104) rfl (by decide) (l' := #[.val (.int c0), .val (.int c1), .val (.int pp), .val (.int a'), .val (.int b'), .val (.int p'), .val (.ref a1256), .val (.ref t1532), .val (.int 1), .val (.ref a1704), .val (.int 1), .unset, .unset, .unset, .unset, .unset]) rfl ?_
      refine g_aload X1710 hx (pc' := 109) rfl (hD hby at_107) rfl rfl ?_
      refine g_iload X1710 hx (pc' := 111) rfl (hD hby at_109) rfl ?_
      refine g_iloadN X1710 hx (pc' := 112) rfl (hD hby at_111) rfl ?_
      refine g_castore X1710 hx hZ V1710 (i := 1) (by decide) (show (1 : Nat) < 10 by decide) G_a1704 (y := a') n_a' (pc' := 113) rfl (hD hby at_112) (fun T1717 h1717 X1717 W1717 N1717 => ?_)
      have f1718 := (by have q := (Keep.of_wr W1717).1; exact Nat.le_trans f1711 q : n0 ≤ h1717.size)
      have f1719 := f1712.wr W1717 G_a1704
      have f1720 := f1713.wr W1717
      have f1721 := f1714.other W1717 (Or.inl ne1704_t1532)
      have f1722 := f1715.other W1717 (Or.inl ne1704_t1532)
      have f1723 := f1716.other W1717 ne1704_tb1532
      have V1717 : AV Z h1717 a1704 .char [.int 91, .int a', .int 0, .int 0, .int 0, .int 0, .int 0, .int 0, .int 0, .int 0] := N1717
      refine g_iincC X1717 hx (pc' := 116) (x := (1 : Int32)) (z := (2 : Int32)) rfl (hD hby at_113) rfl (by decide) (l' := #[.val (.int c0), .val (.int c1), .val (.int pp), .val (.int a'), .val (.int b'), .val (.int p'), .val (.ref a1256), .val (.ref t1532), .val (.int 1), .val (.ref a1704), .val (.int 2), .unset, .unset, .unset, .unset, .unset]) rfl ?_
      refine g_aload X1717 hx (pc' := 118) rfl (hD hby at_116) rfl rfl ?_
      refine g_iload X1717 hx (pc' := 120) rfl (hD hby at_118) rfl ?_
      refine g_iload X1717 hx (pc' := 122) rfl (hD hby at_120) rfl ?_
      refine g_castore X1717 hx hZ V1717 (i := 2) (by decide) (show (2 : Nat) < 10 by decide) G_a1704 (y := b') n_b' (pc' := 123) rfl (hD hby at_122) (fun T1724 h1724 X1724 W1724 N1724 => ?_)
      have f1725 := (by have q := (Keep.of_wr W1724).1; exact Nat.le_trans f1718 q : n0 ≤ h1724.size)
      have f1726 := f1719.wr W1724 G_a1704
      have f1727 := f1720.wr W1724
      have f1728 := f1721.other W1724 (Or.inl ne1704_t1532)
      have f1729 := f1722.other W1724 (Or.inl ne1704_t1532)
      have f1730 := f1723.other W1724 ne1704_tb1532
      have V1724 : AV Z h1724 a1704 .char [.int 91, .int a', .int b', .int 0, .int 0, .int 0, .int 0, .int 0, .int 0, .int 0] := N1724
      refine g_iincC X1724 hx (pc' := 126) (x := (2 : Int32)) (z := (3 : Int32)) rfl (hD hby at_123) rfl (by decide) (l' := #[.val (.int c0), .val (.int c1), .val (.int pp), .val (.int a'), .val (.int b'), .val (.int p'), .val (.ref a1256), .val (.ref t1532), .val (.int 1), .val (.ref a1704), .val (.int 3), .unset, .unset, .unset, .unset, .unset]) rfl ?_
      refine g_iload X1724 hx (pc' := 128) rfl (hD hby at_126) rfl ?_
      refine g_ifN X1724 hx (pcN := 131) (hD hby at_128) rfl (show ¬ ((1 : Int32) = 0) from by decide) ?_
      refine g_aload X1724 hx (pc' := 133) rfl (hD hby at_131) rfl rfl ?_
      refine g_iload X1724 hx (pc' := 135) rfl (hD hby at_133) rfl ?_
      refine g_bipush X1724 hx (pc' := 137) (z := (93 : Int32)) rfl (hD hby at_135) rfl ?_
      refine g_castore X1724 hx hZ V1724 (i := 3) (by decide) (show (3 : Nat) < 10 by decide) G_a1704 (y := (93 : Int32)) (by decide) (pc' := 138) rfl (hD hby at_137) (fun T1731 h1731 X1731 W1731 N1731 => ?_)
      have f1732 := (by have q := (Keep.of_wr W1731).1; exact Nat.le_trans f1725 q : n0 ≤ h1731.size)
      have f1733 := f1726.wr W1731 G_a1704
      have f1734 := f1727.wr W1731
      have f1735 := f1728.other W1731 (Or.inl ne1704_t1532)
      have f1736 := f1729.other W1731 (Or.inl ne1704_t1532)
      have f1737 := f1730.other W1731 ne1704_tb1532
      have V1731 : AV Z h1731 a1704 .char [.int 91, .int a', .int b', .int 93, .int 0, .int 0, .int 0, .int 0, .int 0, .int 0] := N1731
      refine g_iincC X1731 hx (pc' := 141) (x := (3 : Int32)) (z := (4 : Int32)) rfl (hD hby at_138) rfl (by decide) (l' := #[.val (.int c0), .val (.int c1), .val (.int pp), .val (.int a'), .val (.int b'), .val (.int p'), .val (.ref a1256), .val (.ref t1532), .val (.int 1), .val (.ref a1704), .val (.int 4), .unset, .unset, .unset, .unset, .unset]) rfl ?_
      refine g_aload X1731 hx (pc' := 143) rfl (hD hby at_141) rfl rfl ?_
      refine g_iload X1731 hx (pc' := 145) rfl (hD hby at_143) rfl ?_
      refine g_bipush X1731 hx (pc' := 147) (z := (58 : Int32)) rfl (hD hby at_145) rfl ?_
      refine g_castore X1731 hx hZ V1731 (i := 4) (by decide) (show (4 : Nat) < 10 by decide) G_a1704 (y := (58 : Int32)) (by decide) (pc' := 148) rfl (hD hby at_147) (fun T1738 h1738 X1738 W1738 N1738 => ?_)
      have f1739 := (by have q := (Keep.of_wr W1738).1; exact Nat.le_trans f1732 q : n0 ≤ h1738.size)
      have f1740 := f1733.wr W1738 G_a1704
      have f1741 := f1734.wr W1738
      have f1742 := f1735.other W1738 (Or.inl ne1704_t1532)
      have f1743 := f1736.other W1738 (Or.inl ne1704_t1532)
      have f1744 := f1737.other W1738 ne1704_tb1532
      have V1738 : AV Z h1738 a1704 .char [.int 91, .int a', .int b', .int 93, .int 58, .int 0, .int 0, .int 0, .int 0, .int 0] := N1738
      refine g_iincC X1738 hx (pc' := 151) (x := (4 : Int32)) (z := (5 : Int32)) rfl (hD hby at_148) rfl (by decide) (l' := #[.val (.int c0), .val (.int c1), .val (.int pp), .val (.int a'), .val (.int b'), .val (.int p'), .val (.ref a1256), .val (.ref t1532), .val (.int 1), .val (.ref a1704), .val (.int 5), .unset, .unset, .unset, .unset, .unset]) rfl ?_
      refine g_iload X1738 hx (pc' := 153) rfl (hD hby at_151) rfl ?_
      refine g_sipush X1738 hx (pc' := 156) (z := (10000 : Int32)) rfl (hD hby at_153) rfl ?_
      refine g_idiv X1738 hx (pc' := 157) rfl (hD hby at_156) (by decide) ?_
      refine g_absI (fun d4 h_d4 => ?_)
      refine g_istore X1738 hx (pc' := 159) rfl (hD hby at_157) (l' := #[.val (.int c0), .val (.int c1), .val (.int pp), .val (.int a'), .val (.int b'), .val (.int p'), .val (.ref a1256), .val (.ref t1532), .val (.int 1), .val (.ref a1704), .val (.int 5), .val (.int d4), .unset, .unset, .unset, .unset]) rfl ?_
      refine g_iload X1738 hx (pc' := 161) rfl (hD hby at_159) rfl ?_
      refine g_sipush X1738 hx (pc' := 164) (z := (1000 : Int32)) rfl (hD hby at_161) rfl ?_
      refine g_idiv X1738 hx (pc' := 165) rfl (hD hby at_164) (by decide) ?_
      refine g_bipush X1738 hx (pc' := 167) (z := (10 : Int32)) rfl (hD hby at_165) rfl ?_
      refine g_irem X1738 hx (pc' := 168) rfl (hD hby at_167) (by decide) ?_
      refine g_absI (fun d3 h_d3 => ?_)
      refine g_istore X1738 hx (pc' := 170) rfl (hD hby at_168) (l' := #[.val (.int c0), .val (.int c1), .val (.int pp), .val (.int a'), .val (.int b'), .val (.int p'), .val (.ref a1256), .val (.ref t1532), .val (.int 1), .val (.ref a1704), .val (.int 5), .val (.int d4), .val (.int d3), .unset, .unset, .unset]) rfl ?_
      refine g_iload X1738 hx (pc' := 172) rfl (hD hby at_170) rfl ?_
      refine g_bipush X1738 hx (pc' := 174) (z := (100 : Int32)) rfl (hD hby at_172) rfl ?_
      refine g_idiv X1738 hx (pc' := 175) rfl (hD hby at_174) (by decide) ?_
      refine g_bipush X1738 hx (pc' := 177) (z := (10 : Int32)) rfl (hD hby at_175) rfl ?_
      refine g_irem X1738 hx (pc' := 178) rfl (hD hby at_177) (by decide) ?_
      refine g_absI (fun d2 h_d2 => ?_)
      refine g_istore X1738 hx (pc' := 180) rfl (hD hby at_178) (l' := #[.val (.int c0), .val (.int c1), .val (.int pp), .val (.int a'), .val (.int b'), .val (.int p'), .val (.ref a1256), .val (.ref t1532), .val (.int 1), .val (.ref a1704), .val (.int 5), .val (.int d4), .val (.int d3), .val (.int d2), .unset, .unset]) rfl ?_
      refine g_iload X1738 hx (pc' := 182) rfl (hD hby at_180) rfl ?_
      refine g_bipush X1738 hx (pc' := 184) (z := (10 : Int32)) rfl (hD hby at_182) rfl ?_
      refine g_idiv X1738 hx (pc' := 185) rfl (hD hby at_184) (by decide) ?_
      refine g_bipush X1738 hx (pc' := 187) (z := (10 : Int32)) rfl (hD hby at_185) rfl ?_
      refine g_irem X1738 hx (pc' := 188) rfl (hD hby at_187) (by decide) ?_
      refine g_absI (fun d1 h_d1 => ?_)
      refine g_istore X1738 hx (pc' := 190) rfl (hD hby at_188) (l' := #[.val (.int c0), .val (.int c1), .val (.int pp), .val (.int a'), .val (.int b'), .val (.int p'), .val (.ref a1256), .val (.ref t1532), .val (.int 1), .val (.ref a1704), .val (.int 5), .val (.int d4), .val (.int d3), .val (.int d2), .val (.int d1), .unset]) rfl ?_
      refine g_iload X1738 hx (pc' := 192) rfl (hD hby at_190) rfl ?_
      refine g_bipush X1738 hx (pc' := 194) (z := (10 : Int32)) rfl (hD hby at_192) rfl ?_
      refine g_irem X1738 hx (pc' := 195) rfl (hD hby at_194) (by decide) ?_
      refine g_absI (fun d0 h_d0 => ?_)
      refine g_istore X1738 hx (pc' := 197) rfl (hD hby at_195) (l' := #[.val (.int c0), .val (.int c1), .val (.int pp), .val (.int a'), .val (.int b'), .val (.int p'), .val (.ref a1256), .val (.ref t1532), .val (.int 1), .val (.ref a1704), .val (.int 5), .val (.int d4), .val (.int d3), .val (.int d2), .val (.int d1), .val (.int d0)]) rfl ?_
      have fd0 : d0.toInt = p'.toInt % 10 := by rw [h_d0]; exact ar_mod hp0
      have fd1 : d1.toInt = (p'.toInt / 10) % 10 := by rw [h_d1]; have q : (p' / 10).toInt = p'.toInt / 10 := ar_div hp0 (by decide); rw [ar_mod (by omega), q]; rfl
      have fd2 : d2.toInt = (p'.toInt / 100) % 10 := by rw [h_d2]; have q : (p' / 100).toInt = p'.toInt / 100 := ar_div hp0 (by decide); rw [ar_mod (by omega), q]; rfl
      have fd3 : d3.toInt = (p'.toInt / 1000) % 10 := by rw [h_d3]; have q : (p' / 1000).toInt = p'.toInt / 1000 := ar_div hp0 (by decide); rw [ar_mod (by omega), q]; rfl
      have fd4 : d4.toInt = p'.toInt / 10000 := by rw [h_d4]; exact ar_div hp0 (by decide)
      refine g_iload X1738 hx (pc' := 199) rfl (hD hby at_197) rfl ?_
      refine g_sipush X1738 hx (pc' := 202) (z := (10000 : Int32)) rfl (hD hby at_199) rfl ?_
      refine g_icmpY X1738 hx (pcY := 219) (hD hby at_202) (by decide) (by decide) (show p' < (10000 : Int32) from by rw [Int32.lt_iff_toInt_lt]; have e : (10000 : Int32).toInt = 10000 := rfl; omega) ?_
      refine g_iload X1738 hx (pc' := 221) rfl (hD hby at_219) rfl ?_
      refine g_sipush X1738 hx (pc' := 224) (z := (1000 : Int32)) rfl (hD hby at_221) rfl ?_
      refine g_icmpN X1738 hx (pcN := 227) (hD hby at_224) rfl (show ¬ (p' < (1000 : Int32)) from by rw [Int32.lt_iff_toInt_lt]; have e : (1000 : Int32).toInt = 1000 := rfl; omega) ?_
      refine g_aload X1738 hx (pc' := 229) rfl (hD hby at_227) rfl rfl ?_
      refine g_iload X1738 hx (pc' := 231) rfl (hD hby at_229) rfl ?_
      refine g_bipush X1738 hx (pc' := 233) (z := (48 : Int32)) rfl (hD hby at_231) rfl ?_
      refine g_iload X1738 hx (pc' := 235) rfl (hD hby at_233) rfl ?_
      refine g_iadd X1738 hx (pc' := 236) rfl (hD hby at_235) ?_
      refine g_i2c X1738 hx (pc' := 237) rfl (hD hby at_236) ?_
      refine g_castore X1738 hx hZ V1738 (i := 5) (by decide) (show (5 : Nat) < 10 by decide) G_a1704 (y := (((48 : Int32) + d3)).toUInt32.toUInt16.toUInt32.toInt32) (nar_i2c _) (pc' := 238) rfl (hD hby at_237) (fun T1745 h1745 X1745 W1745 N1745 => ?_)
      have f1746 := (by have q := (Keep.of_wr W1745).1; exact Nat.le_trans f1739 q : n0 ≤ h1745.size)
      have f1747 := f1740.wr W1745 G_a1704
      have f1748 := f1741.wr W1745
      have f1749 := f1742.other W1745 (Or.inl ne1704_t1532)
      have f1750 := f1743.other W1745 (Or.inl ne1704_t1532)
      have f1751 := f1744.other W1745 ne1704_tb1532
      have V1745 : AV Z h1745 a1704 .char [.int 91, .int a', .int b', .int 93, .int 58, .int (((48 : Int32) + d3)).toUInt32.toUInt16.toUInt32.toInt32, .int 0, .int 0, .int 0, .int 0] := N1745
      refine g_iincC X1745 hx (pc' := 241) (x := (5 : Int32)) (z := (6 : Int32)) rfl (hD hby at_238) rfl (by decide) (l' := #[.val (.int c0), .val (.int c1), .val (.int pp), .val (.int a'), .val (.int b'), .val (.int p'), .val (.ref a1256), .val (.ref t1532), .val (.int 1), .val (.ref a1704), .val (.int 6), .val (.int d4), .val (.int d3), .val (.int d2), .val (.int d1), .val (.int d0)]) rfl ?_
      refine g_iload X1745 hx (pc' := 243) rfl (hD hby at_241) rfl ?_
      refine g_bipush X1745 hx (pc' := 245) (z := (100 : Int32)) rfl (hD hby at_243) rfl ?_
      refine g_icmpN X1745 hx (pcN := 248) (hD hby at_245) rfl (show ¬ (p' < (100 : Int32)) from by rw [Int32.lt_iff_toInt_lt]; have e : (100 : Int32).toInt = 100 := rfl; omega) ?_
      refine g_aload X1745 hx (pc' := 250) rfl (hD hby at_248) rfl rfl ?_
      refine g_iload X1745 hx (pc' := 252) rfl (hD hby at_250) rfl ?_
      refine g_bipush X1745 hx (pc' := 254) (z := (48 : Int32)) rfl (hD hby at_252) rfl ?_
      refine g_iload X1745 hx (pc' := 256) rfl (hD hby at_254) rfl ?_
      refine g_iadd X1745 hx (pc' := 257) rfl (hD hby at_256) ?_
      refine g_i2c X1745 hx (pc' := 258) rfl (hD hby at_257) ?_
      refine g_castore X1745 hx hZ V1745 (i := 6) (by decide) (show (6 : Nat) < 10 by decide) G_a1704 (y := (((48 : Int32) + d2)).toUInt32.toUInt16.toUInt32.toInt32) (nar_i2c _) (pc' := 259) rfl (hD hby at_258) (fun T1752 h1752 X1752 W1752 N1752 => ?_)
      have f1753 := (by have q := (Keep.of_wr W1752).1; exact Nat.le_trans f1746 q : n0 ≤ h1752.size)
      have f1754 := f1747.wr W1752 G_a1704
      have f1755 := f1748.wr W1752
      have f1756 := f1749.other W1752 (Or.inl ne1704_t1532)
      have f1757 := f1750.other W1752 (Or.inl ne1704_t1532)
      have f1758 := f1751.other W1752 ne1704_tb1532
      have V1752 : AV Z h1752 a1704 .char [.int 91, .int a', .int b', .int 93, .int 58, .int (((48 : Int32) + d3)).toUInt32.toUInt16.toUInt32.toInt32, .int (((48 : Int32) + d2)).toUInt32.toUInt16.toUInt32.toInt32, .int 0, .int 0, .int 0] := N1752
      refine g_iincC X1752 hx (pc' := 262) (x := (6 : Int32)) (z := (7 : Int32)) rfl (hD hby at_259) rfl (by decide) (l' := #[.val (.int c0), .val (.int c1), .val (.int pp), .val (.int a'), .val (.int b'), .val (.int p'), .val (.ref a1256), .val (.ref t1532), .val (.int 1), .val (.ref a1704), .val (.int 7), .val (.int d4), .val (.int d3), .val (.int d2), .val (.int d1), .val (.int d0)]) rfl ?_
      refine g_iload X1752 hx (pc' := 264) rfl (hD hby at_262) rfl ?_
      refine g_bipush X1752 hx (pc' := 266) (z := (10 : Int32)) rfl (hD hby at_264) rfl ?_
      refine g_icmpN X1752 hx (pcN := 269) (hD hby at_266) rfl (show ¬ (p' < (10 : Int32)) from by rw [Int32.lt_iff_toInt_lt]; have e : (10 : Int32).toInt = 10 := rfl; omega) ?_
      refine g_aload X1752 hx (pc' := 271) rfl (hD hby at_269) rfl rfl ?_
      refine g_iload X1752 hx (pc' := 273) rfl (hD hby at_271) rfl ?_
      refine g_bipush X1752 hx (pc' := 275) (z := (48 : Int32)) rfl (hD hby at_273) rfl ?_
      refine g_iload X1752 hx (pc' := 277) rfl (hD hby at_275) rfl ?_
      refine g_iadd X1752 hx (pc' := 278) rfl (hD hby at_277) ?_
      refine g_i2c X1752 hx (pc' := 279) rfl (hD hby at_278) ?_
      refine g_castore X1752 hx hZ V1752 (i := 7) (by decide) (show (7 : Nat) < 10 by decide) G_a1704 (y := (((48 : Int32) + d1)).toUInt32.toUInt16.toUInt32.toInt32) (nar_i2c _) (pc' := 280) rfl (hD hby at_279) (fun T1759 h1759 X1759 W1759 N1759 => ?_)
      have f1760 := (by have q := (Keep.of_wr W1759).1; exact Nat.le_trans f1753 q : n0 ≤ h1759.size)
      have f1761 := f1754.wr W1759 G_a1704
      have f1762 := f1755.wr W1759
      have f1763 := f1756.other W1759 (Or.inl ne1704_t1532)
      have f1764 := f1757.other W1759 (Or.inl ne1704_t1532)
      have f1765 := f1758.other W1759 ne1704_tb1532
      have V1759 : AV Z h1759 a1704 .char [.int 91, .int a', .int b', .int 93, .int 58, .int (((48 : Int32) + d3)).toUInt32.toUInt16.toUInt32.toInt32, .int (((48 : Int32) + d2)).toUInt32.toUInt16.toUInt32.toInt32, .int (((48 : Int32) + d1)).toUInt32.toUInt16.toUInt32.toInt32, .int 0, .int 0] := N1759
      refine g_iincC X1759 hx (pc' := 283) (x := (7 : Int32)) (z := (8 : Int32)) rfl (hD hby at_280) rfl (by decide) (l' := #[.val (.int c0), .val (.int c1), .val (.int pp), .val (.int a'), .val (.int b'), .val (.int p'), .val (.ref a1256), .val (.ref t1532), .val (.int 1), .val (.ref a1704), .val (.int 8), .val (.int d4), .val (.int d3), .val (.int d2), .val (.int d1), .val (.int d0)]) rfl ?_
      refine g_aload X1759 hx (pc' := 285) rfl (hD hby at_283) rfl rfl ?_
      refine g_iload X1759 hx (pc' := 287) rfl (hD hby at_285) rfl ?_
      refine g_bipush X1759 hx (pc' := 289) (z := (48 : Int32)) rfl (hD hby at_287) rfl ?_
      refine g_iload X1759 hx (pc' := 291) rfl (hD hby at_289) rfl ?_
      refine g_iadd X1759 hx (pc' := 292) rfl (hD hby at_291) ?_
      refine g_i2c X1759 hx (pc' := 293) rfl (hD hby at_292) ?_
      refine g_castore X1759 hx hZ V1759 (i := 8) (by decide) (show (8 : Nat) < 10 by decide) G_a1704 (y := (((48 : Int32) + d0)).toUInt32.toUInt16.toUInt32.toInt32) (nar_i2c _) (pc' := 294) rfl (hD hby at_293) (fun T1766 h1766 X1766 W1766 N1766 => ?_)
      have f1767 := (by have q := (Keep.of_wr W1766).1; exact Nat.le_trans f1760 q : n0 ≤ h1766.size)
      have f1768 := f1761.wr W1766 G_a1704
      have f1769 := f1762.wr W1766
      have f1770 := f1763.other W1766 (Or.inl ne1704_t1532)
      have f1771 := f1764.other W1766 (Or.inl ne1704_t1532)
      have f1772 := f1765.other W1766 ne1704_tb1532
      have V1766 : AV Z h1766 a1704 .char [.int 91, .int a', .int b', .int 93, .int 58, .int (((48 : Int32) + d3)).toUInt32.toUInt16.toUInt32.toInt32, .int (((48 : Int32) + d2)).toUInt32.toUInt16.toUInt32.toInt32, .int (((48 : Int32) + d1)).toUInt32.toUInt16.toUInt32.toInt32, .int (((48 : Int32) + d0)).toUInt32.toUInt16.toUInt32.toInt32, .int 0] := N1766
      refine g_iincC X1766 hx (pc' := 297) (x := (8 : Int32)) (z := (9 : Int32)) rfl (hD hby at_294) rfl (by decide) (l' := #[.val (.int c0), .val (.int c1), .val (.int pp), .val (.int a'), .val (.int b'), .val (.int p'), .val (.ref a1256), .val (.ref t1532), .val (.int 1), .val (.ref a1704), .val (.int 9), .val (.int d4), .val (.int d3), .val (.int d2), .val (.int d1), .val (.int d0)]) rfl ?_
      refine tail0 l Z a0 hw n0 _ t1532 tb1532 fo a1704 _ _ _ _ _ _ _ _ _ _ _ _ _ _ cz _ _ f1767 O4 hfo O2 hcz f1768 f1769 f1770 f1771 f1772 rfl V1766 (show (9 : Nat) ≤ 10 by decide) (fun j hj => ?_) hx hZ hby hml hown hret hlk X1766
      match j, hj with
        | 0, _ => exact ⟨_, _, rfl, rfl, by decide⟩
        | 1, _ => exact ⟨_, _, rfl, rfl, own_eqc b_a'⟩
        | 2, _ => exact ⟨_, _, rfl, rfl, own_eqc b_b'⟩
        | 3, _ => exact ⟨_, _, rfl, rfl, by decide⟩
        | 4, _ => exact ⟨_, _, rfl, rfl, by decide⟩
        | 5, _ => exact ⟨_, _, rfl, rfl, own_dig (d := d3) (by omega) (by omega) (by omega)⟩
        | 6, _ => exact ⟨_, _, rfl, rfl, own_dig (d := d2) (by omega) (by omega) (by omega)⟩
        | 7, _ => exact ⟨_, _, rfl, rfl, own_dig (d := d1) (by omega) (by omega) (by omega)⟩
        | 8, _ => exact ⟨_, _, rfl, rfl, own_dig (d := d0) (by omega) (by omega) (by omega)⟩
    · skip
      have V1532 : AV Z h1532 tb1532 .byte [.int 91, .int (a').toInt8.toInt32, .int (b').toInt8.toInt32, .int 93, .int 58, .int y4, .int y3, .int y2, .int y1, .int y0] := VV1532
      refine g_astore X1532 hx (pc' := 57) rfl (hD hby at_55) rfl (l' := #[.val (.int c0), .val (.int c1), .val (.int pp), .val (.int a'), .val (.int b'), .val (.int p'), .val (.ref a1256), .val (.ref t1532), .unset, .unset, .unset, .unset, .unset, .unset, .unset, .unset]) rfl ?_
      refine g_iloadN X1532 hx (pc' := 58) rfl (hD hby at_57) rfl ?_
      refine g_bipush X1532 hx (pc' := 60) (z := (58 : Int32)) rfl (hD hby at_58) rfl ?_
      suffices J60 : Go p e below s n0 ((Z, ("]" :: "[" :: ":" :: Ts), fun v h => v = some (.int 1)) : GQ) room_1.cells room_1.slots (T1532.setTop (mkF m 70 #[.val (.int c0), .val (.int c1), .val (.int pp), .val (.int a'), .val (.int b'), .val (.int p'), .val (.ref a1256), .val (.ref t1532), .unset, .unset, .unset, .unset, .unset, .unset, .unset, .unset] [])) by
        refine g_icmp X1532 hx (pcY := 70) (pcN := 63) (hD hby at_60) (by decide) (by decide) rfl (fun hc60 => ?_) (fun hc60 => ?_)
        · replace hc60 : a' = (58 : Int32) := hc60
          exact J60  
        · replace hc60 : ¬ a' = (58 : Int32) := hc60
          refine g_iload X1532 hx (pc' := 65) rfl (hD hby at_63) rfl ?_
          refine g_bipush X1532 hx (pc' := 67) (z := (58 : Int32)) rfl (hD hby at_65) rfl ?_
          refine g_icmpN X1532 hx (pcN := 70) (hD hby at_67) rfl (show ¬ (¬ b' = (58 : Int32)) from not_not_intro (kb.1.resolve_left hc60)) ?_
          exact J60  
      refine g_iloadN X1532 hx (pc' := 71) rfl (hD hby at_70) rfl ?_
      refine g_bipush X1532 hx (pc' := 73) (z := (91 : Int32)) rfl (hD hby at_71) rfl ?_
      refine g_icmpN X1532 hx (pcN := 76) (hD hby at_73) rfl (show ¬ (a' = (91 : Int32)) from kb.2) ?_
      refine g_iconst X1532 hx (pc' := 77) (z := (1 : Int32)) rfl (hD hby at_76) rfl ?_
      refine g_goto X1532 hx (pc' := 81) (hD hby at_77) (by decide) (by decide) ?_
      refine g_istore X1532 hx (pc' := 83) rfl (hD hby at_81) (l' := #[.val (.int c0), .val (.int c1), .val (.int pp), .val (.int a'), .val (.int b'), .val (.int p'), .val (.ref a1256), .val (.ref t1532), .val (.int 1), .unset, .unset, .unset, .unset, .unset, .unset, .unset]) rfl ?_
      refine g_bipush X1532 hx (pc' := 85) (z := (10 : Int32)) rfl (hD hby at_83) rfl ?_
      refine g_newA X1532 hx hZ (aty := .char) (wat hw 5 rfl) (N := 10) (by decide) (cap := 10) (Nat.le_refl _) (by decide) (pc' := 87) rfl (hD hby at_85) (by decide) (by decide) (fun T1773 h1773 a1773 ha1773 X1773 E1773 N1773 => ?_)
      have ne1773_t1532 : t1532 ≠ a1773 := by rw [ha1773]; exact Nat.ne_of_lt E1532.lt
      have ne1773_tb1532 : tb1532 ≠ a1773 := by rw [ha1773]; exact Nat.ne_of_lt V1532.lt
      have f1774 := E1532.ext E1773
      have f1775 := FV1532.ext E1773
      have f1776 := FC1532.ext E1773
      have f1777 := V1532.ext E1773
      have G_a1773 : n0 ≤ a1773 := by rw [ha1773]; exact zs1532
      have Zs1773 : n0 ≤ h1773.size := Nat.le_trans zs1532 E1773.1
      have f1778 := f1533.ext E1773
      have V1773 : AV Z h1773 a1773 .char [.int 0, .int 0, .int 0, .int 0, .int 0, .int 0, .int 0, .int 0, .int 0, .int 0] := N1773
      refine g_astore X1773 hx (pc' := 89) rfl (hD hby at_87) rfl (l' := #[.val (.int c0), .val (.int c1), .val (.int pp), .val (.int a'), .val (.int b'), .val (.int p'), .val (.ref a1256), .val (.ref t1532), .val (.int 1), .val (.ref a1773), .unset, .unset, .unset, .unset, .unset, .unset]) rfl ?_
      refine g_iconst X1773 hx (pc' := 90) (z := (0 : Int32)) rfl (hD hby at_89) rfl ?_
      refine g_istore X1773 hx (pc' := 92) rfl (hD hby at_90) (l' := #[.val (.int c0), .val (.int c1), .val (.int pp), .val (.int a'), .val (.int b'), .val (.int p'), .val (.ref a1256), .val (.ref t1532), .val (.int 1), .val (.ref a1773), .val (.int 0), .unset, .unset, .unset, .unset, .unset]) rfl ?_
      refine g_iload X1773 hx (pc' := 94) rfl (hD hby at_92) rfl ?_
      refine g_ifN X1773 hx (pcN := 97) (hD hby at_94) rfl (show ¬ ((1 : Int32) = 0) from by decide) ?_
      refine g_aload X1773 hx (pc' := 99) rfl (hD hby at_97) rfl rfl ?_
      refine g_iload X1773 hx (pc' := 101) rfl (hD hby at_99) rfl ?_
      refine g_bipush X1773 hx (pc' := 103) (z := (91 : Int32)) rfl (hD hby at_101) rfl ?_
      refine g_castore X1773 hx hZ V1773 (i := 0) (by decide) (show (0 : Nat) < 10 by decide) G_a1773 (y := (91 : Int32)) (by decide) (pc' := 104) rfl (hD hby at_103) (fun T1779 h1779 X1779 W1779 N1779 => ?_)
      have f1780 := (by have q := (Keep.of_wr W1779).1; exact Nat.le_trans Zs1773 q : n0 ≤ h1779.size)
      have f1781 := f1778.wr W1779 G_a1773
      have f1782 := f1774.wr W1779
      have f1783 := f1775.other W1779 (Or.inl ne1773_t1532)
      have f1784 := f1776.other W1779 (Or.inl ne1773_t1532)
      have f1785 := f1777.other W1779 ne1773_tb1532
      have V1779 : AV Z h1779 a1773 .char [.int 91, .int 0, .int 0, .int 0, .int 0, .int 0, .int 0, .int 0, .int 0, .int 0] := N1779
      refine g_iincC X1779 hx (pc' := 107) (x := (0 : Int32)) (z := (1 : Int32)) rfl (hD hby at_104) rfl (by decide) (l' := #[.val (.int c0), .val (.int c1), .val (.int pp), .val (.int a'), .val (.int b'), .val (.int p'), .val (.ref a1256), .val (.ref t1532), .val (.int 1), .val (.ref a1773), .val (.int 1), .unset, .unset, .unset, .unset, .unset]) rfl ?_
      refine g_aload X1779 hx (pc' := 109) rfl (hD hby at_107) rfl rfl ?_
      refine g_iload X1779 hx (pc' := 111) rfl (hD hby at_109) rfl ?_
      refine g_iloadN X1779 hx (pc' := 112) rfl (hD hby at_111) rfl ?_
      refine g_castore X1779 hx hZ V1779 (i := 1) (by decide) (show (1 : Nat) < 10 by decide) G_a1773 (y := a') n_a' (pc' := 113) rfl (hD hby at_112) (fun T1786 h1786 X1786 W1786 N1786 => ?_)
      have f1787 := (by have q := (Keep.of_wr W1786).1; exact Nat.le_trans f1780 q : n0 ≤ h1786.size)
      have f1788 := f1781.wr W1786 G_a1773
      have f1789 := f1782.wr W1786
      have f1790 := f1783.other W1786 (Or.inl ne1773_t1532)
      have f1791 := f1784.other W1786 (Or.inl ne1773_t1532)
      have f1792 := f1785.other W1786 ne1773_tb1532
      have V1786 : AV Z h1786 a1773 .char [.int 91, .int a', .int 0, .int 0, .int 0, .int 0, .int 0, .int 0, .int 0, .int 0] := N1786
      refine g_iincC X1786 hx (pc' := 116) (x := (1 : Int32)) (z := (2 : Int32)) rfl (hD hby at_113) rfl (by decide) (l' := #[.val (.int c0), .val (.int c1), .val (.int pp), .val (.int a'), .val (.int b'), .val (.int p'), .val (.ref a1256), .val (.ref t1532), .val (.int 1), .val (.ref a1773), .val (.int 2), .unset, .unset, .unset, .unset, .unset]) rfl ?_
      refine g_aload X1786 hx (pc' := 118) rfl (hD hby at_116) rfl rfl ?_
      refine g_iload X1786 hx (pc' := 120) rfl (hD hby at_118) rfl ?_
      refine g_iload X1786 hx (pc' := 122) rfl (hD hby at_120) rfl ?_
      refine g_castore X1786 hx hZ V1786 (i := 2) (by decide) (show (2 : Nat) < 10 by decide) G_a1773 (y := b') n_b' (pc' := 123) rfl (hD hby at_122) (fun T1793 h1793 X1793 W1793 N1793 => ?_)
      have f1794 := (by have q := (Keep.of_wr W1793).1; exact Nat.le_trans f1787 q : n0 ≤ h1793.size)
      have f1795 := f1788.wr W1793 G_a1773
      have f1796 := f1789.wr W1793
      have f1797 := f1790.other W1793 (Or.inl ne1773_t1532)
      have f1798 := f1791.other W1793 (Or.inl ne1773_t1532)
      have f1799 := f1792.other W1793 ne1773_tb1532
      have V1793 : AV Z h1793 a1773 .char [.int 91, .int a', .int b', .int 0, .int 0, .int 0, .int 0, .int 0, .int 0, .int 0] := N1793
      refine g_iincC X1793 hx (pc' := 126) (x := (2 : Int32)) (z := (3 : Int32)) rfl (hD hby at_123) rfl (by decide) (l' := #[.val (.int c0), .val (.int c1), .val (.int pp), .val (.int a'), .val (.int b'), .val (.int p'), .val (.ref a1256), .val (.ref t1532), .val (.int 1), .val (.ref a1773), .val (.int 3), .unset, .unset, .unset, .unset, .unset]) rfl ?_
      refine g_iload X1793 hx (pc' := 128) rfl (hD hby at_126) rfl ?_
      refine g_ifN X1793 hx (pcN := 131) (hD hby at_128) rfl (show ¬ ((1 : Int32) = 0) from by decide) ?_
      refine g_aload X1793 hx (pc' := 133) rfl (hD hby at_131) rfl rfl ?_
      refine g_iload X1793 hx (pc' := 135) rfl (hD hby at_133) rfl ?_
      refine g_bipush X1793 hx (pc' := 137) (z := (93 : Int32)) rfl (hD hby at_135) rfl ?_
      refine g_castore X1793 hx hZ V1793 (i := 3) (by decide) (show (3 : Nat) < 10 by decide) G_a1773 (y := (93 : Int32)) (by decide) (pc' := 138) rfl (hD hby at_137) (fun T1800 h1800 X1800 W1800 N1800 => ?_)
      have f1801 := (by have q := (Keep.of_wr W1800).1; exact Nat.le_trans f1794 q : n0 ≤ h1800.size)
      have f1802 := f1795.wr W1800 G_a1773
      have f1803 := f1796.wr W1800
      have f1804 := f1797.other W1800 (Or.inl ne1773_t1532)
      have f1805 := f1798.other W1800 (Or.inl ne1773_t1532)
      have f1806 := f1799.other W1800 ne1773_tb1532
      have V1800 : AV Z h1800 a1773 .char [.int 91, .int a', .int b', .int 93, .int 0, .int 0, .int 0, .int 0, .int 0, .int 0] := N1800
      refine g_iincC X1800 hx (pc' := 141) (x := (3 : Int32)) (z := (4 : Int32)) rfl (hD hby at_138) rfl (by decide) (l' := #[.val (.int c0), .val (.int c1), .val (.int pp), .val (.int a'), .val (.int b'), .val (.int p'), .val (.ref a1256), .val (.ref t1532), .val (.int 1), .val (.ref a1773), .val (.int 4), .unset, .unset, .unset, .unset, .unset]) rfl ?_
      refine g_aload X1800 hx (pc' := 143) rfl (hD hby at_141) rfl rfl ?_
      refine g_iload X1800 hx (pc' := 145) rfl (hD hby at_143) rfl ?_
      refine g_bipush X1800 hx (pc' := 147) (z := (58 : Int32)) rfl (hD hby at_145) rfl ?_
      refine g_castore X1800 hx hZ V1800 (i := 4) (by decide) (show (4 : Nat) < 10 by decide) G_a1773 (y := (58 : Int32)) (by decide) (pc' := 148) rfl (hD hby at_147) (fun T1807 h1807 X1807 W1807 N1807 => ?_)
      have f1808 := (by have q := (Keep.of_wr W1807).1; exact Nat.le_trans f1801 q : n0 ≤ h1807.size)
      have f1809 := f1802.wr W1807 G_a1773
      have f1810 := f1803.wr W1807
      have f1811 := f1804.other W1807 (Or.inl ne1773_t1532)
      have f1812 := f1805.other W1807 (Or.inl ne1773_t1532)
      have f1813 := f1806.other W1807 ne1773_tb1532
      have V1807 : AV Z h1807 a1773 .char [.int 91, .int a', .int b', .int 93, .int 58, .int 0, .int 0, .int 0, .int 0, .int 0] := N1807
      refine g_iincC X1807 hx (pc' := 151) (x := (4 : Int32)) (z := (5 : Int32)) rfl (hD hby at_148) rfl (by decide) (l' := #[.val (.int c0), .val (.int c1), .val (.int pp), .val (.int a'), .val (.int b'), .val (.int p'), .val (.ref a1256), .val (.ref t1532), .val (.int 1), .val (.ref a1773), .val (.int 5), .unset, .unset, .unset, .unset, .unset]) rfl ?_
      refine g_iload X1807 hx (pc' := 153) rfl (hD hby at_151) rfl ?_
      refine g_sipush X1807 hx (pc' := 156) (z := (10000 : Int32)) rfl (hD hby at_153) rfl ?_
      refine g_idiv X1807 hx (pc' := 157) rfl (hD hby at_156) (by decide) ?_
      refine g_absI (fun d4 h_d4 => ?_)
      refine g_istore X1807 hx (pc' := 159) rfl (hD hby at_157) (l' := #[.val (.int c0), .val (.int c1), .val (.int pp), .val (.int a'), .val (.int b'), .val (.int p'), .val (.ref a1256), .val (.ref t1532), .val (.int 1), .val (.ref a1773), .val (.int 5), .val (.int d4), .unset, .unset, .unset, .unset]) rfl ?_
      refine g_iload X1807 hx (pc' := 161) rfl (hD hby at_159) rfl ?_
      refine g_sipush X1807 hx (pc' := 164) (z := (1000 : Int32)) rfl (hD hby at_161) rfl ?_
      refine g_idiv X1807 hx (pc' := 165) rfl (hD hby at_164) (by decide) ?_
      refine g_bipush X1807 hx (pc' := 167) (z := (10 : Int32)) rfl (hD hby at_165) rfl ?_
      refine g_irem X1807 hx (pc' := 168) rfl (hD hby at_167) (by decide) ?_
      refine g_absI (fun d3 h_d3 => ?_)
      refine g_istore X1807 hx (pc' := 170) rfl (hD hby at_168) (l' := #[.val (.int c0), .val (.int c1), .val (.int pp), .val (.int a'), .val (.int b'), .val (.int p'), .val (.ref a1256), .val (.ref t1532), .val (.int 1), .val (.ref a1773), .val (.int 5), .val (.int d4), .val (.int d3), .unset, .unset, .unset]) rfl ?_
      refine g_iload X1807 hx (pc' := 172) rfl (hD hby at_170) rfl ?_
      refine g_bipush X1807 hx (pc' := 174) (z := (100 : Int32)) rfl (hD hby at_172) rfl ?_
      refine g_idiv X1807 hx (pc' := 175) rfl (hD hby at_174) (by decide) ?_
      refine g_bipush X1807 hx (pc' := 177) (z := (10 : Int32)) rfl (hD hby at_175) rfl ?_
      refine g_irem X1807 hx (pc' := 178) rfl (hD hby at_177) (by decide) ?_
      refine g_absI (fun d2 h_d2 => ?_)
      refine g_istore X1807 hx (pc' := 180) rfl (hD hby at_178) (l' := #[.val (.int c0), .val (.int c1), .val (.int pp), .val (.int a'), .val (.int b'), .val (.int p'), .val (.ref a1256), .val (.ref t1532), .val (.int 1), .val (.ref a1773), .val (.int 5), .val (.int d4), .val (.int d3), .val (.int d2), .unset, .unset]) rfl ?_
      refine g_iload X1807 hx (pc' := 182) rfl (hD hby at_180) rfl ?_
      refine g_bipush X1807 hx (pc' := 184) (z := (10 : Int32)) rfl (hD hby at_182) rfl ?_
      refine g_idiv X1807 hx (pc' := 185) rfl (hD hby at_184) (by decide) ?_
      refine g_bipush X1807 hx (pc' := 187) (z := (10 : Int32)) rfl (hD hby at_185) rfl ?_
      refine g_irem X1807 hx (pc' := 188) rfl (hD hby at_187) (by decide) ?_
      refine g_absI (fun d1 h_d1 => ?_)
      refine g_istore X1807 hx (pc' := 190) rfl (hD hby at_188) (l' := #[.val (.int c0), .val (.int c1), .val (.int pp), .val (.int a'), .val (.int b'), .val (.int p'), .val (.ref a1256), .val (.ref t1532), .val (.int 1), .val (.ref a1773), .val (.int 5), .val (.int d4), .val (.int d3), .val (.int d2), .val (.int d1), .unset]) rfl ?_
      refine g_iload X1807 hx (pc' := 192) rfl (hD hby at_190) rfl ?_
      refine g_bipush X1807 hx (pc' := 194) (z := (10 : Int32)) rfl (hD hby at_192) rfl ?_
      refine g_irem X1807 hx (pc' := 195) rfl (hD hby at_194) (by decide) ?_
      refine g_absI (fun d0 h_d0 => ?_)
      refine g_istore X1807 hx (pc' := 197) rfl (hD hby at_195) (l' := #[.val (.int c0), .val (.int c1), .val (.int pp), .val (.int a'), .val (.int b'), .val (.int p'), .val (.ref a1256), .val (.ref t1532), .val (.int 1), .val (.ref a1773), .val (.int 5), .val (.int d4), .val (.int d3), .val (.int d2), .val (.int d1), .val (.int d0)]) rfl ?_
      have fd0 : d0.toInt = p'.toInt % 10 := by rw [h_d0]; exact ar_mod hp0
      have fd1 : d1.toInt = (p'.toInt / 10) % 10 := by rw [h_d1]; have q : (p' / 10).toInt = p'.toInt / 10 := ar_div hp0 (by decide); rw [ar_mod (by omega), q]; rfl
      have fd2 : d2.toInt = (p'.toInt / 100) % 10 := by rw [h_d2]; have q : (p' / 100).toInt = p'.toInt / 100 := ar_div hp0 (by decide); rw [ar_mod (by omega), q]; rfl
      have fd3 : d3.toInt = (p'.toInt / 1000) % 10 := by rw [h_d3]; have q : (p' / 1000).toInt = p'.toInt / 1000 := ar_div hp0 (by decide); rw [ar_mod (by omega), q]; rfl
      have fd4 : d4.toInt = p'.toInt / 10000 := by rw [h_d4]; exact ar_div hp0 (by decide)
      refine g_iload X1807 hx (pc' := 199) rfl (hD hby at_197) rfl ?_
      refine g_sipush X1807 hx (pc' := 202) (z := (10000 : Int32)) rfl (hD hby at_199) rfl ?_
      refine g_icmpN X1807 hx (pcN := 205) (hD hby at_202) rfl (show ¬ (p' < (10000 : Int32)) from by rw [Int32.lt_iff_toInt_lt]; have e : (10000 : Int32).toInt = 10000 := rfl; omega) ?_
      refine g_aload X1807 hx (pc' := 207) rfl (hD hby at_205) rfl rfl ?_
      refine g_iload X1807 hx (pc' := 209) rfl (hD hby at_207) rfl ?_
      refine g_bipush X1807 hx (pc' := 211) (z := (48 : Int32)) rfl (hD hby at_209) rfl ?_
      refine g_iload X1807 hx (pc' := 213) rfl (hD hby at_211) rfl ?_
      refine g_iadd X1807 hx (pc' := 214) rfl (hD hby at_213) ?_
      refine g_i2c X1807 hx (pc' := 215) rfl (hD hby at_214) ?_
      refine g_castore X1807 hx hZ V1807 (i := 5) (by decide) (show (5 : Nat) < 10 by decide) G_a1773 (y := (((48 : Int32) + d4)).toUInt32.toUInt16.toUInt32.toInt32) (nar_i2c _) (pc' := 216) rfl (hD hby at_215) (fun T1814 h1814 X1814 W1814 N1814 => ?_)
      have f1815 := (by have q := (Keep.of_wr W1814).1; exact Nat.le_trans f1808 q : n0 ≤ h1814.size)
      have f1816 := f1809.wr W1814 G_a1773
      have f1817 := f1810.wr W1814
      have f1818 := f1811.other W1814 (Or.inl ne1773_t1532)
      have f1819 := f1812.other W1814 (Or.inl ne1773_t1532)
      have f1820 := f1813.other W1814 ne1773_tb1532
      have V1814 : AV Z h1814 a1773 .char [.int 91, .int a', .int b', .int 93, .int 58, .int (((48 : Int32) + d4)).toUInt32.toUInt16.toUInt32.toInt32, .int 0, .int 0, .int 0, .int 0] := N1814
      refine g_iincC X1814 hx (pc' := 219) (x := (5 : Int32)) (z := (6 : Int32)) rfl (hD hby at_216) rfl (by decide) (l' := #[.val (.int c0), .val (.int c1), .val (.int pp), .val (.int a'), .val (.int b'), .val (.int p'), .val (.ref a1256), .val (.ref t1532), .val (.int 1), .val (.ref a1773), .val (.int 6), .val (.int d4), .val (.int d3), .val (.int d2), .val (.int d1), .val (.int d0)]) rfl ?_
      refine g_iload X1814 hx (pc' := 221) rfl (hD hby at_219) rfl ?_
      refine g_sipush X1814 hx (pc' := 224) (z := (1000 : Int32)) rfl (hD hby at_221) rfl ?_
      refine g_icmpN X1814 hx (pcN := 227) (hD hby at_224) rfl (show ¬ (p' < (1000 : Int32)) from by rw [Int32.lt_iff_toInt_lt]; have e : (1000 : Int32).toInt = 1000 := rfl; omega) ?_
      refine g_aload X1814 hx (pc' := 229) rfl (hD hby at_227) rfl rfl ?_
      refine g_iload X1814 hx (pc' := 231) rfl (hD hby at_229) rfl ?_
      refine g_bipush X1814 hx (pc' := 233) (z := (48 : Int32)) rfl (hD hby at_231) rfl ?_
      refine g_iload X1814 hx (pc' := 235) rfl (hD hby at_233) rfl ?_
      refine g_iadd X1814 hx (pc' := 236) rfl (hD hby at_235) ?_
      refine g_i2c X1814 hx (pc' := 237) rfl (hD hby at_236) ?_
      refine g_castore X1814 hx hZ V1814 (i := 6) (by decide) (show (6 : Nat) < 10 by decide) G_a1773 (y := (((48 : Int32) + d3)).toUInt32.toUInt16.toUInt32.toInt32) (nar_i2c _) (pc' := 238) rfl (hD hby at_237) (fun T1821 h1821 X1821 W1821 N1821 => ?_)
      have f1822 := (by have q := (Keep.of_wr W1821).1; exact Nat.le_trans f1815 q : n0 ≤ h1821.size)
      have f1823 := f1816.wr W1821 G_a1773
      have f1824 := f1817.wr W1821
      have f1825 := f1818.other W1821 (Or.inl ne1773_t1532)
      have f1826 := f1819.other W1821 (Or.inl ne1773_t1532)
      have f1827 := f1820.other W1821 ne1773_tb1532
      have V1821 : AV Z h1821 a1773 .char [.int 91, .int a', .int b', .int 93, .int 58, .int (((48 : Int32) + d4)).toUInt32.toUInt16.toUInt32.toInt32, .int (((48 : Int32) + d3)).toUInt32.toUInt16.toUInt32.toInt32, .int 0, .int 0, .int 0] := N1821
      refine g_iincC X1821 hx (pc' := 241) (x := (6 : Int32)) (z := (7 : Int32)) rfl (hD hby at_238) rfl (by decide) (l' := #[.val (.int c0), .val (.int c1), .val (.int pp), .val (.int a'), .val (.int b'), .val (.int p'), .val (.ref a1256), .val (.ref t1532), .val (.int 1), .val (.ref a1773), .val (.int 7), .val (.int d4), .val (.int d3), .val (.int d2), .val (.int d1), .val (.int d0)]) rfl ?_
      refine g_iload X1821 hx (pc' := 243) rfl (hD hby at_241) rfl ?_
      refine g_bipush X1821 hx (pc' := 245) (z := (100 : Int32)) rfl (hD hby at_243) rfl ?_
      refine g_icmpN X1821 hx (pcN := 248) (hD hby at_245) rfl (show ¬ (p' < (100 : Int32)) from by rw [Int32.lt_iff_toInt_lt]; have e : (100 : Int32).toInt = 100 := rfl; omega) ?_
      refine g_aload X1821 hx (pc' := 250) rfl (hD hby at_248) rfl rfl ?_
      refine g_iload X1821 hx (pc' := 252) rfl (hD hby at_250) rfl ?_
      refine g_bipush X1821 hx (pc' := 254) (z := (48 : Int32)) rfl (hD hby at_252) rfl ?_
      refine g_iload X1821 hx (pc' := 256) rfl (hD hby at_254) rfl ?_
      refine g_iadd X1821 hx (pc' := 257) rfl (hD hby at_256) ?_
      refine g_i2c X1821 hx (pc' := 258) rfl (hD hby at_257) ?_
      refine g_castore X1821 hx hZ V1821 (i := 7) (by decide) (show (7 : Nat) < 10 by decide) G_a1773 (y := (((48 : Int32) + d2)).toUInt32.toUInt16.toUInt32.toInt32) (nar_i2c _) (pc' := 259) rfl (hD hby at_258) (fun T1828 h1828 X1828 W1828 N1828 => ?_)
      have f1829 := (by have q := (Keep.of_wr W1828).1; exact Nat.le_trans f1822 q : n0 ≤ h1828.size)
      have f1830 := f1823.wr W1828 G_a1773
      have f1831 := f1824.wr W1828
      have f1832 := f1825.other W1828 (Or.inl ne1773_t1532)
      have f1833 := f1826.other W1828 (Or.inl ne1773_t1532)
      have f1834 := f1827.other W1828 ne1773_tb1532
      have V1828 : AV Z h1828 a1773 .char [.int 91, .int a', .int b', .int 93, .int 58, .int (((48 : Int32) + d4)).toUInt32.toUInt16.toUInt32.toInt32, .int (((48 : Int32) + d3)).toUInt32.toUInt16.toUInt32.toInt32, .int (((48 : Int32) + d2)).toUInt32.toUInt16.toUInt32.toInt32, .int 0, .int 0] := N1828
      refine g_iincC X1828 hx (pc' := 262) (x := (7 : Int32)) (z := (8 : Int32)) rfl (hD hby at_259) rfl (by decide) (l' := #[.val (.int c0), .val (.int c1), .val (.int pp), .val (.int a'), .val (.int b'), .val (.int p'), .val (.ref a1256), .val (.ref t1532), .val (.int 1), .val (.ref a1773), .val (.int 8), .val (.int d4), .val (.int d3), .val (.int d2), .val (.int d1), .val (.int d0)]) rfl ?_
      refine g_iload X1828 hx (pc' := 264) rfl (hD hby at_262) rfl ?_
      refine g_bipush X1828 hx (pc' := 266) (z := (10 : Int32)) rfl (hD hby at_264) rfl ?_
      refine g_icmpN X1828 hx (pcN := 269) (hD hby at_266) rfl (show ¬ (p' < (10 : Int32)) from by rw [Int32.lt_iff_toInt_lt]; have e : (10 : Int32).toInt = 10 := rfl; omega) ?_
      refine g_aload X1828 hx (pc' := 271) rfl (hD hby at_269) rfl rfl ?_
      refine g_iload X1828 hx (pc' := 273) rfl (hD hby at_271) rfl ?_
      refine g_bipush X1828 hx (pc' := 275) (z := (48 : Int32)) rfl (hD hby at_273) rfl ?_
      refine g_iload X1828 hx (pc' := 277) rfl (hD hby at_275) rfl ?_
      refine g_iadd X1828 hx (pc' := 278) rfl (hD hby at_277) ?_
      refine g_i2c X1828 hx (pc' := 279) rfl (hD hby at_278) ?_
      refine g_castore X1828 hx hZ V1828 (i := 8) (by decide) (show (8 : Nat) < 10 by decide) G_a1773 (y := (((48 : Int32) + d1)).toUInt32.toUInt16.toUInt32.toInt32) (nar_i2c _) (pc' := 280) rfl (hD hby at_279) (fun T1835 h1835 X1835 W1835 N1835 => ?_)
      have f1836 := (by have q := (Keep.of_wr W1835).1; exact Nat.le_trans f1829 q : n0 ≤ h1835.size)
      have f1837 := f1830.wr W1835 G_a1773
      have f1838 := f1831.wr W1835
      have f1839 := f1832.other W1835 (Or.inl ne1773_t1532)
      have f1840 := f1833.other W1835 (Or.inl ne1773_t1532)
      have f1841 := f1834.other W1835 ne1773_tb1532
      have V1835 : AV Z h1835 a1773 .char [.int 91, .int a', .int b', .int 93, .int 58, .int (((48 : Int32) + d4)).toUInt32.toUInt16.toUInt32.toInt32, .int (((48 : Int32) + d3)).toUInt32.toUInt16.toUInt32.toInt32, .int (((48 : Int32) + d2)).toUInt32.toUInt16.toUInt32.toInt32, .int (((48 : Int32) + d1)).toUInt32.toUInt16.toUInt32.toInt32, .int 0] := N1835
      refine g_iincC X1835 hx (pc' := 283) (x := (8 : Int32)) (z := (9 : Int32)) rfl (hD hby at_280) rfl (by decide) (l' := #[.val (.int c0), .val (.int c1), .val (.int pp), .val (.int a'), .val (.int b'), .val (.int p'), .val (.ref a1256), .val (.ref t1532), .val (.int 1), .val (.ref a1773), .val (.int 9), .val (.int d4), .val (.int d3), .val (.int d2), .val (.int d1), .val (.int d0)]) rfl ?_
      refine g_aload X1835 hx (pc' := 285) rfl (hD hby at_283) rfl rfl ?_
      refine g_iload X1835 hx (pc' := 287) rfl (hD hby at_285) rfl ?_
      refine g_bipush X1835 hx (pc' := 289) (z := (48 : Int32)) rfl (hD hby at_287) rfl ?_
      refine g_iload X1835 hx (pc' := 291) rfl (hD hby at_289) rfl ?_
      refine g_iadd X1835 hx (pc' := 292) rfl (hD hby at_291) ?_
      refine g_i2c X1835 hx (pc' := 293) rfl (hD hby at_292) ?_
      refine g_castore X1835 hx hZ V1835 (i := 9) (by decide) (show (9 : Nat) < 10 by decide) G_a1773 (y := (((48 : Int32) + d0)).toUInt32.toUInt16.toUInt32.toInt32) (nar_i2c _) (pc' := 294) rfl (hD hby at_293) (fun T1842 h1842 X1842 W1842 N1842 => ?_)
      have f1843 := (by have q := (Keep.of_wr W1842).1; exact Nat.le_trans f1836 q : n0 ≤ h1842.size)
      have f1844 := f1837.wr W1842 G_a1773
      have f1845 := f1838.wr W1842
      have f1846 := f1839.other W1842 (Or.inl ne1773_t1532)
      have f1847 := f1840.other W1842 (Or.inl ne1773_t1532)
      have f1848 := f1841.other W1842 ne1773_tb1532
      have V1842 : AV Z h1842 a1773 .char [.int 91, .int a', .int b', .int 93, .int 58, .int (((48 : Int32) + d4)).toUInt32.toUInt16.toUInt32.toInt32, .int (((48 : Int32) + d3)).toUInt32.toUInt16.toUInt32.toInt32, .int (((48 : Int32) + d2)).toUInt32.toUInt16.toUInt32.toInt32, .int (((48 : Int32) + d1)).toUInt32.toUInt16.toUInt32.toInt32, .int (((48 : Int32) + d0)).toUInt32.toUInt16.toUInt32.toInt32] := N1842
      refine g_iincC X1842 hx (pc' := 297) (x := (9 : Int32)) (z := (10 : Int32)) rfl (hD hby at_294) rfl (by decide) (l' := #[.val (.int c0), .val (.int c1), .val (.int pp), .val (.int a'), .val (.int b'), .val (.int p'), .val (.ref a1256), .val (.ref t1532), .val (.int 1), .val (.ref a1773), .val (.int 10), .val (.int d4), .val (.int d3), .val (.int d2), .val (.int d1), .val (.int d0)]) rfl ?_
      refine tail0 l Z a0 hw n0 _ t1532 tb1532 fo a1773 _ _ _ _ _ _ _ _ _ _ _ _ _ _ cz _ _ f1843 O4 hfo O2 hcz f1844 f1845 f1846 f1847 f1848 rfl V1842 (show (10 : Nat) ≤ 10 by decide) (fun j hj => ?_) hx hZ hby hml hown hret hlk X1842
      match j, hj with
        | 0, _ => exact ⟨_, _, rfl, rfl, by decide⟩
        | 1, _ => exact ⟨_, _, rfl, rfl, own_eqc b_a'⟩
        | 2, _ => exact ⟨_, _, rfl, rfl, own_eqc b_b'⟩
        | 3, _ => exact ⟨_, _, rfl, rfl, by decide⟩
        | 4, _ => exact ⟨_, _, rfl, rfl, by decide⟩
        | 5, _ => exact ⟨_, _, rfl, rfl, own_dig (d := d4) (by omega) (by omega) (by omega)⟩
        | 6, _ => exact ⟨_, _, rfl, rfl, own_dig (d := d3) (by omega) (by omega) (by omega)⟩
        | 7, _ => exact ⟨_, _, rfl, rfl, own_dig (d := d2) (by omega) (by omega) (by omega)⟩
        | 8, _ => exact ⟨_, _, rfl, rfl, own_dig (d := d1) (by omega) (by omega) (by omega)⟩
        | 9, _ => exact ⟨_, _, rfl, rfl, own_dig (d := d0) (by omega) (by omega) (by omega)⟩
theorem fits_sm {n : Nat} (h : n < 128) : Jvm.fits .byte (.int (Int32.ofNat n)) = true := by
  have all : ∀ n : Fin 128, Jvm.fits .byte (.int (Int32.ofNat n.val)) = true := by decide +kernel
  exact all ⟨n, h⟩
theorem eq_Iv {args : Array Value} {first s : State} {o : Option Outcome} {idx : List Nat} {a b : Term} {x y : Int32} (ha : a.eval args first o idx s = some (.int x)) (hb : b.eval args first o idx s = some (.int y)) : (Cond.eq a b).value args first o s idx = some (decide (x = y)) := by simp [Cond.value, ha, hb]
theorem own_nz {s : State} {args : Array Value} {T : Term} {x : Int32} (e : T.eval args s none [] s = some (.int x)) (h : (Cond.not (Cond.eq T (Term.int 0))).value args s none s [] = some true) : ¬ x = 0 := by
  have q := not_v h
  simp only [Cond.value, e, Term.eval] at q
  intro hx; subst hx; simp at q
theorem own_tbl {s : State} {args : Array Value} {name : String} {U : Term} {f : Nat → Nat} (hU : ∀ i, i < 100 → U.eval args s none [i] s = some (.int (Int32.ofNat (48 + f i)))) (hf : ∀ i, i < 100 → 48 + f i < 128)
    (h1 : (Cond.exactly (Term.static "java/lang/Integer" name "[B") "[B").value args s none s [] = some true) (h2 : (Cond.eq (Term.length (Term.static "java/lang/Integer" name "[B")) (Term.int 100)).value args s none s [] = some true)
    (h3 : (Cond.all (Term.static "java/lang/Integer" name "[B") (Cond.eq (Term.elem (Term.static "java/lang/Integer" name "[B") (Term.index 0)) U)).value args s none s [] = some true) (wa : (Cond.arrayClass .byte).before args s = true) :
    ∃ a, (Term.static "java/lang/Integer" name "[B").eval args s none [] s = some (.ref a) ∧ AV s s.heap a .byte ((List.range 100).map fun i => Value.int (Int32.ofNat (48 + f i))) := by
  obtain ⟨d, cB, D, kB, hev, hfcB, hcD, hkB, hstD, hclsD, -⟩ := Cond.exactly_spec (Cond.before_iff.mpr h1)
  have hl := Cond.eq_int (Cond.before_iff.mpr h2) rfl
  obtain ⟨d', D', hev', hA, hlen⟩ := Term.length_spec hl
  cases hev.symm.trans hev'
  obtain ⟨hcD', hkn, -, -⟩ := State.arrayAt?_spec hA
  cases hcD.symm.trans hcD'
  have hsz : D.slots.size = 100 := by
    by_cases h31 : D.slots.size < 2 ^ 31
    · have e := len_f hev hA h31
      have q : D.slots.size.toInt32 = 100 := by simpa using Option.some.inj (e.symm.trans hl)
      have := congrArg Int32.toInt q
      rw [len_toInt h31] at this
      have e2 : (100 : Int32).toInt = 100 := rfl
      omega
    · simp [Term.eval] at hev
      simp [Term.eval, hev, hA, h31] at hl
  obtain ⟨cB', kB', comp, hn, hkB', hki⟩ := Cond.arrayClass_spec wa
  have eBA : ("[" ++ FieldType.toString .byte) = "[B" := by decide
  rw [eBA] at hn
  cases hfcB.symm.trans hn
  cases hkB.symm.trans hkB'
  have AR : Arr s s.heap d D .byte := ⟨hcD, ⟨(fun q h => by rw [h] at hstD; cases hstD), kB, by rw [hclsD]; exact hkB, comp, hki⟩, hkn⟩
  have key : ∀ i, i < 100 → D.slots[i]? = some (.int (Int32.ofNat (48 + f i))) := fun i hi => by
    have hc := Cond.all_elim hev hA h3 i (by omega)
    have q := own_len (n := i) (by omega)
    have e1 : (Term.elem (Term.static "java/lang/Integer" name "[B") (Term.index 0)).eval args s none [i] s = D.slots[i]? := by
      have hevi : (Term.static "java/lang/Integer" name "[B").eval args s none [i] s = some (.ref d) := by
        simp only [Term.eval] at hev ⊢; exact hev
      have hidx : (Term.index 0).eval args s none [i] s = some (.int i.toInt32) := rfl
      rw [elem_f hevi hidx hA q.2, q.1]
    obtain ⟨x, y, a1, a2, k1, k2⟩ := cmp_v (Or.inl hc)
    cases (hU i hi).symm.trans a2
    obtain ⟨z, rfl⟩ := k2
    have := gotT (eq_Iv a1 a2) hc
    rw [e1] at a1; rw [a1, this]
  refine ⟨d, hev, D, AR, by simp [hsz], by simp, fun i hi => ?_, fun i hi => ?_⟩
  · simp only [List.length_map, List.length_range] at hi
    rw [key i hi]; simp [List.getD_eq_getElem?_getD, hi]
  · simp only [List.length_map, List.length_range] at hi
    have hb := hf i hi
    simp only [List.getD_eq_getElem?_getD, List.getElem?_map, List.getElem?_range hi, Option.map_some, Option.getD_some]
    exact fits_sm hb
theorem own_u1 {s : State} {args : Array Value} (i : Nat) (h : i < 100) : (Jvm.Term.add (Jvm.Term.int (48 : Int32)) (Jvm.Term.rem (Jvm.Term.index (0 : Nat)) (Jvm.Term.int (10 : Int32)))).eval args s none [i] s = some (.int (Int32.ofNat (48 + i % 10))) := by
  have e : (Term.index 0).eval args s none [i] s = some (.int i.toInt32) := rfl
  have q : (48 : Int32) + i.toInt32 % 10 = Int32.ofNat (48 + i % 10) := by
    have all : ∀ n : Fin 100, (48 : Int32) + n.val.toInt32 % 10 = Int32.ofNat (48 + n.val % 10) := by decide +kernel
    exact all ⟨i, h⟩
  simp [Term.eval, q]
theorem own_u2 {s : State} {args : Array Value} (i : Nat) (h : i < 100) : (Jvm.Term.add (Jvm.Term.int (48 : Int32)) (Jvm.Term.div (Jvm.Term.index (0 : Nat)) (Jvm.Term.int (10 : Int32)))).eval args s none [i] s = some (.int (Int32.ofNat (48 + i / 10))) := by
  have e : (Term.index 0).eval args s none [i] s = some (.int i.toInt32) := rfl
  have q : (48 : Int32) + i.toInt32 / 10 = Int32.ofNat (48 + i / 10) := by
    have all : ∀ n : Fin 100, (48 : Int32) + n.val.toInt32 / 10 = Int32.ofNat (48 + n.val / 10) := by decide +kernel
    exact all ⟨i, h⟩
  simp [Term.eval, q]
set_option maxRecDepth 65536 in
set_option maxHeartbeats 40000000 in
theorem comes_1 {Post : Tables → Env → Array Value → State → Outcome → State → Prop} (hpost : ∀ tb e args s v u, (limb_1_1.after args s (.returned v) u = true ∧ limb_1_2.after args s (.returned v) u = true ∧ True) → Jvm.D.FramedW s (.returned v) u (Jvm.fieldLocs frame_1_writes args s ++ Jvm.arrayLocs frame_1_arrays args s ++ Jvm.staticLocs frame_1_statics s) 40 3328 → Post tb e args s (.returned v) u) :
    ArmFor flags0 classFile x code maxLocals ret World_1 tables_1 room_1 Calls_1 rest_1 Pre_1 Post := by
  intro l hfl _ _ p e ha hc hk s m args below hf hA hF happ hP
  obtain ⟨hcalls, hrest, hpre⟩ := hP
  obtain ⟨-, -, -, hnamed, -, -, -, hat⟩ := (Spec.applies_iff hf).mp happ
  obtain ⟨hg, hn⟩ := and_e (Cond.before_iff.mp (show (Jvm.Cond.and given_1 narrow_1).before args s = true from hpre))
  obtain ⟨hcount, hg0⟩ := and_e hg
  obtain ⟨ha0, hg1⟩ := and_e hg0
  obtain ⟨ha1, hg2⟩ := and_e hg1
  have ha2 := hg2
  obtain ⟨w0, w1, w2, rfl⟩ : ∃ w0 w1 w2 : Value, args = #[w0, w1, w2] := by
    have hs : args.size = 3 := by simpa [Cond.value, given_1] using hcount
    obtain ⟨L⟩ := args
    match L, hs with
    | [w0, w1, w2], _ => exact ⟨w0, w1, w2, rfl⟩
  have hw := fun d (hd : d ∈ tables_1) => atoms_spec (ws := Jvm.Cond.code x code maxLocals ret :: tables_1) hat d (List.mem_cons_of_mem _ hd)
  obtain ⟨i0, ei0⟩ := is_v ha0
  obtain rfl : w0 = (.int i0) := Option.some.inj ei0
  obtain ⟨i1, ei1⟩ := is_v ha1
  obtain rfl : w1 = (.int i1) := Option.some.inj ei1
  obtain ⟨i2, ei2⟩ := is_v ha2
  obtain rfl : w2 = (.int i2) := Option.some.inj ei2
  obtain ⟨hk1, -⟩ := hcalls
  obtain ⟨hr1, hr⟩ := and_e (Cond.before_iff.mp (show rest_1_c.before _ s = true from hrest))
  obtain ⟨hr2, hr⟩ := and_e hr
  obtain ⟨hr3, hr⟩ := and_e hr
  obtain ⟨hr4, hr⟩ := and_e hr
  obtain ⟨hr5, hr⟩ := and_e hr
  obtain ⟨hr6, hr⟩ := and_e hr
  obtain ⟨hr7, hr⟩ := and_e hr
  obtain ⟨hr8, hr⟩ := and_e hr
  obtain ⟨hr9, hr⟩ := and_e hr
  obtain ⟨hr10, hr⟩ := and_e hr
  obtain ⟨hr11, hr⟩ := and_e hr
  obtain ⟨hr12, hr⟩ := and_e hr
  obtain ⟨hr13, hr⟩ := and_e hr
  obtain ⟨hr14, hr⟩ := and_e hr
  obtain ⟨hr15, hr⟩ := and_e hr
  obtain ⟨hr16, hr⟩ := and_e hr
  obtain ⟨hr17, hr⟩ := and_e hr
  obtain ⟨hr18, hr⟩ := and_e hr
  obtain ⟨hr19, hr⟩ := and_e hr
  obtain ⟨hr20, hr⟩ := and_e hr
  obtain ⟨cz, ecz⟩ := is_v hr2
  have O2 := Sta.start ecz (Or.inl (Cond.before_iff.mpr hr1))
  obtain ⟨fo, efo, hfo⟩ := isR_v hr9
  have O4 := Sta.start efo (Or.inl (Cond.before_iff.mpr hr8))
  obtain ⟨dO, e1, A1⟩ := own_tbl own_u1 (fun i hi => by omega) hr13 hr14 hr15 (wat hw 21 rfl)
  have S1 := Sta.start e1 (Or.inl (Cond.before_iff.mpr hr12))
  obtain ⟨dT, e2, A2⟩ := own_tbl own_u2 (fun i hi => by omega) hr18 hr19 hr20 (wat hw 21 rfl)
  have S2 := Sta.start e2 (Or.inl (Cond.before_iff.mpr hr17))
  obtain ⟨n, o, h1, h2, h3, _, L, rfl, ⟨N, rfl, -⟩, hq⟩ := rm0 l s _ hw tables_1 s.heap.size [] i0 i1 i2 cz dO dT fo s.heap (Nat.le_refl _) (Cond.before_iff.mpr hr3) hk1 O2 (own_nz ecz hr3) (OldP.start s) (by decide) (by decide) (by decide) S1 A1 S2 A2 O4 hfo p e ha hc hk s m _ below hf ((Spec.applies_iff_loose hf).mp happ).1 ⟨rfl, State.Warmed39.refl s, rfl, IB.start⟩ trivial
  refine ⟨n, _, h1, h2, h3, hpost _ _ _ _ _ _ ⟨Cond.after_iff.mpr rfl, Cond.after_iff.mpr (eq_i res_at (Term.int_eval (1)) rfl), trivial⟩ ⟨hq.1, hq.2.1, hq.2.2.1, (hq.2.2.2.sift fun y hy => Or.inr (N y hy)).mono (by decide) (by decide)⟩⟩
theorem main_1_1 : Claimed_1_1 := comes_1 fun _ _ _ _ _ _ h hF => ⟨h.1, hF⟩
theorem main_1_2 : Claimed_1_2 := comes_1 fun _ _ _ _ _ _ h hF => ⟨h.2.1, hF⟩
end Jvm.Pilot.@@N@@
-- WITNESS
namespace Jvm.Pilot.@@N@@
open Jvm Jvm.ClassFile Sem Op Lib Jvm.Free Jvm.Stand Jvm.Pilot.@@N@@.Jvm.D
/-! MADE BY PROGRAM (witnessworld.py) out of the Statement's table words and the real class files: 28 classes; the members and pool entries that the words name. The judged class is class 1, her method 1. -/
namespace start1
open Jvm.ClassFile
def u (s : String) : CpInfo := .utf8 (stringToUtf16 s)
/-- a pool by its gaps: so many unusable entries, then the entry; so many at the end -/
def gap : Nat → List CpInfo → List CpInfo
  | 0, r => r
  | n + 1, r => .unusable :: gap n r
def poolList (es : List (Nat × CpInfo)) (last : Nat) : List CpInfo := es.foldr (fun e r => gap e.1 (e.2 :: r)) (gap last [])
def pool (es : List (Nat × CpInfo)) (last : Nat) : Array CpInfo := ⟨poolList es last⟩
def fileOf (pool : Array CpInfo) (this : Nat) (attrs : Array Attribute := #[]) (ms : Array MethodInfo := #[]) (fl : Nat := 33) (sup : Nat := 0) (ifs : Array Nat := #[]) (fds : Array FieldInfo := #[]) : ClassFile where
  minorVersion := 0
  majorVersion := 65
  constantPool := pool
  accessFlags := fl
  thisClass := this
  superClass := sup
  interfaces := ifs
  fields := fds
  methods := ms
  attributes := attrs
def plain (name : String) (sup : Option ClassId) : Class where
  name := name
  kind := .ordinary
  loader := none
  accessFlags := 33
  super := sup
  interfaces := #[]
  cf := none
  fields := #[]
  methods := #[]
  instanceTypes := #[]
  staticTypes := #[]
  resolved := #[]
  callSites := []
  init := .initialized
  statics := none
  mirror := none

def pool0 : Array CpInfo := pool [(5, u "<init>"), (0, u "()V"), (1, .class_ 10), (1, u "java/lang/Object")] 113

def k0c0 : Code := { maxStack := 0, maxLocals := 1, code := object_method_1_code, exceptionTable := #[], attributes := #[] }
def k0m0 : Method := { name := "<init>", desc := "()V", sig := { parameters := [], returnType := none }, accessFlags := 1, code := some k0c0 }
/-- java/lang/Object -/
def k0 : Class := { plain "java/lang/Object" none with
  accessFlags := 33
  interfaces := #[]
  cf := some (fileOf pool0 8 #[] #[{ accessFlags := 1, nameIndex := 5, descriptorIndex := 6, attributes := #[] }] 33 0 #[] #[])
  fields := #[]
  methods := #[k0m0]
  instanceTypes := #[]
  staticTypes := #[]
  resolved := Array.replicate 124 none
  statics := none }

def pool1 : Array CpInfo := pool [(2, .class_ 4), (1, u "java/lang/Object"), (0, u "<init>"), (0, u "()V"), (0, .integer 2147483647), (0, .integer 65536), (0, .class_ 10), (0, u "java/lang/String"), (0, .methodref 9 12), (0, .nameAndType 5 13), (0, u "([C)V"), (0, .methodref 15 16), (0, .class_ 17), (0, .nameAndType 18 19), (0, u "com/example/lanternwood/lanternwood/ReplAddress"), (0, u "tcp"), (0, u "(Ljava/lang/String;I)Lcom/example/lanternwood/lanternwood/ReplAddress;"), (0, .methodref 15 21), (0, .nameAndType 22 23), (0, u "toString"), (0, u "()Ljava/lang/String;"), (0, .methodref 9 25), (0, .nameAndType 26 27), (0, u "length"), (0, u "()I"), (0, .methodref 29 30), (0, .class_ 31), (0, .nameAndType 32 33), (0, u "com/example/lanternwood/lanternwood/ReplAddressTcpPinLaw"), (0, u "same"), (0, u "(Ljava/lang/String;[CII)Z"), (0, .methodref 9 35), (0, .nameAndType 36 37), (0, u "charAt"), (0, u "(I)C"), (2, u "law"), (0, u "(III)Z")] 5

def k1m0 : Method := { name := "<init>", desc := "()V", sig := { parameters := [], returnType := none }, accessFlags := 1, code := none }
def k1c1 : Code := { maxStack := 6, maxLocals := 16, code := code, exceptionTable := #[], attributes := #[] }
def k1m1 : Method := { name := "law", desc := "(III)Z", sig := { parameters := [.int, .int, .int], returnType := some .boolean }, accessFlags := 9, code := some k1c1 }
def k1c2 : Code := { maxStack := 3, maxLocals := 4, code := method_3_code, exceptionTable := #[], attributes := #[] }
def k1m2 : Method := { name := "same", desc := "(Ljava/lang/String;[CII)Z", sig := { parameters := [(.object "java/lang/String"), (.array .char), .int, .int], returnType := some .boolean }, accessFlags := 10, code := some k1c2 }
/-- com/example/lanternwood/lanternwood/ReplAddressTcpPinLaw -/
def k1 : Class := { plain "com/example/lanternwood/lanternwood/ReplAddressTcpPinLaw" (some 0) with
  accessFlags := 49
  interfaces := #[]
  cf := some (fileOf pool1 29 #[] #[{ accessFlags := 1, nameIndex := 5, descriptorIndex := 6, attributes := #[] }, { accessFlags := 9, nameIndex := 40, descriptorIndex := 41, attributes := #[] }, { accessFlags := 10, nameIndex := 32, descriptorIndex := 33, attributes := #[] }] 49 2 #[] #[])
  fields := #[]
  methods := #[k1m0, k1m1, k1m2]
  instanceTypes := #[]
  staticTypes := #[]
  resolved := Array.replicate 47 none
  statics := none }

def pool2 : Array CpInfo := pool [(1, .class_ 2), (0, u "java/io/Serializable"), (0, .class_ 4), (0, u "java/lang/Object")] 2

/-- java/io/Serializable -/
def k2 : Class := { plain "java/io/Serializable" (some 0) with
  accessFlags := 1537
  interfaces := #[]
  cf := some (fileOf pool2 1 #[] #[] 1537 3 #[] #[])
  fields := #[]
  methods := #[]
  instanceTypes := #[]
  staticTypes := #[]
  resolved := Array.replicate 7 none
  statics := none }

def pool3 : Array CpInfo := pool [(1, .class_ 2), (0, u "java/lang/Comparable"), (0, .class_ 4), (0, u "java/lang/Object")] 7

/-- java/lang/Comparable -/
def k3 : Class := { plain "java/lang/Comparable" (some 0) with
  accessFlags := 1537
  interfaces := #[]
  cf := some (fileOf pool3 1 #[] #[] 1537 3 #[] #[])
  fields := #[]
  methods := #[]
  instanceTypes := #[]
  staticTypes := #[]
  resolved := Array.replicate 12 none
  statics := none }

def pool4 : Array CpInfo := pool [(2, .class_ 4), (1, u "java/lang/CharSequence"), (42, .class_ 48), (0, u "java/lang/CharSequence$1CodePointIterator"), (10, .class_ 60), (0, u "java/lang/CharSequence$1CharIterator"), (5, .class_ 67), (0, u "java/lang/Object"), (10, u "toString"), (0, u "()Ljava/lang/String;")] 51

def k4m0 : Method := { name := "toString", desc := "()Ljava/lang/String;", sig := { parameters := [], returnType := some (.object "java/lang/String") }, accessFlags := 1025, code := none }
/-- java/lang/CharSequence -/
def k4 : Class := { plain "java/lang/CharSequence" (some 0) with
  accessFlags := 1537
  interfaces := #[]
  cf := some (fileOf pool4 2 #[.nestMembers #[47, 59]] #[{ accessFlags := 1025, nameIndex := 78, descriptorIndex := 79, attributes := #[] }] 1537 66 #[] #[])
  fields := #[]
  methods := #[k4m0]
  instanceTypes := #[]
  staticTypes := #[]
  resolved := Array.replicate 131 none
  statics := none }

def pool5 : Array CpInfo := pool [(1, .class_ 2), (0, u "java/lang/constant/Constable"), (0, .class_ 4), (0, u "java/lang/Object")] 6

/-- java/lang/constant/Constable -/
def k5 : Class := { plain "java/lang/constant/Constable" (some 0) with
  accessFlags := 1537
  interfaces := #[]
  cf := some (fileOf pool5 1 #[] #[] 1537 3 #[] #[])
  fields := #[]
  methods := #[]
  instanceTypes := #[]
  staticTypes := #[]
  resolved := Array.replicate 11 none
  statics := none }

def pool6 : Array CpInfo := pool [(1, .class_ 2), (0, u "java/lang/constant/ConstantDesc"), (0, .class_ 4), (0, u "java/lang/Object")] 32

/-- java/lang/constant/ConstantDesc -/
def k6 : Class := { plain "java/lang/constant/ConstantDesc" (some 0) with
  accessFlags := 1537
  interfaces := #[]
  cf := some (fileOf pool6 1 #[] #[] 1537 3 #[] #[])
  fields := #[]
  methods := #[]
  instanceTypes := #[]
  staticTypes := #[]
  resolved := Array.replicate 37 none
  statics := none }

def pool7 : Array CpInfo := pool [(1, .methodref 2 3), (0, .class_ 4), (0, .nameAndType 5 6), (0, u "java/lang/Object"), (0, u "<init>"), (0, u "()V"), (2, .fieldref 10 11), (0, .class_ 12), (0, .nameAndType 13 14), (0, u "java/lang/String"), (0, u "value"), (0, u "[B"), (0, .fieldref 10 16), (0, .nameAndType 17 18), (0, u "coder"), (0, u "B"), (2, u "hash"), (0, u "I"), (2, u "hashIsZero"), (0, u "Z"), (0, .methodref 10 28), (0, .nameAndType 5 29), (0, u "([CIILjava/lang/Void;)V"), (8, .fieldref 10 39), (0, .nameAndType 40 26), (0, u "COMPACT_STRINGS"), (1, .class_ 44), (1, u "java/lang/StringUTF16"), (0, u "compress"), (1, .methodref 42 48), (0, .nameAndType 49 50), (0, u "coderFromArrayLen"), (0, u "([BI)B"), (3, .methodref 55 56), (0, .class_ 57), (0, .nameAndType 58 59), (0, u "java/util/Arrays"), (0, u "copyOfRange"), (0, u "([BII)[B"), (47, .class_ 109), (1, u "java/lang/StringLatin1"), (32, u "()Z"), (34, .methodref 42 178), (0, .nameAndType 45 179), (0, u "([CII)[B"), (13, .class_ 195), (1, u "java/lang/System"), (16, .methodref 193 213), (0, .nameAndType 214 215), (0, u "arraycopy"), (0, u "(Ljava/lang/Object;ILjava/lang/Object;II)V"), (118, u "()I"), (0, .methodref 10 336), (0, .nameAndType 17 337), (0, u "()B"), (2, u "()[B"), (22, u "([BI)C"), (12, u "([BI[BII)I"), (14, u "(II)V"), (35, u "(I)C"), (34, .nameAndType 463 464), (0, u "toString"), (0, u "()Ljava/lang/String;"), (24, .methodref 10 490), (0, .nameAndType 5 491), (0, u "(Ljava/lang/AbstractStringBuilder;Ljava/lang/Void;)V"), (0, .methodref 10 493), (0, .nameAndType 494 142), (0, u "isLatin1"), (0, .methodref 107 496), (0, .nameAndType 497 363), (0, u "charAt"), (3, u "checkIndex"), (3, .methodref 10 506), (0, .nameAndType 507 334), (0, u "length"), (24, u "getBytes"), (15, u "(Ljava/lang/CharSequence;)Z"), (0, .methodref 550 506), (0, .class_ 551), (0, u "java/lang/AbstractStringBuilder"), (0, .methodref 550 553), (0, .nameAndType 554 340), (0, u "getValue"), (4, .class_ 561), (1, u "jdk/internal/util/ArraysSupport"), (0, u "mismatch"), (12, .class_ 576), (0, u "java/lang/CharSequence"), (12, u "([B[B)I"), (9, u "CASE_INSENSITIVE_ORDER"), (0, u "Ljava/util/Comparator;"), (6, .methodref 559 608), (0, .nameAndType 562 376), (15, .methodref 10 625), (0, .nameAndType 626 627), (0, u "startsWith"), (0, u "(Ljava/lang/String;I)Z"), (7, u "indexOf"), (11, .methodref 107 648), (0, .nameAndType 635 589), (61, .interfaceMethodref 575 462), (0, .methodref 10 712), (0, .nameAndType 635 713), (0, u "(Ljava/lang/String;)I"), (107, u "([BIB)V"), (188, u "([C)V"), (36, .methodref 550 493), (5, .fieldref 1054 1055), (0, .class_ 1056), (0, .nameAndType 1057 1058), (0, u "jdk/internal/util/Preconditions"), (0, u "SIOOBE_FORMATTER"), (0, u "Ljava/util/function/BiFunction;"), (0, .methodref 1054 1060), (0, .nameAndType 501 1061), (0, u "(IILjava/util/function/BiFunction;)I"), (39, u "serialPersistentFields"), (0, u "[Ljava/io/ObjectStreamField;"), (0, .class_ 1104), (0, u "java/lang/String$CaseInsensitiveComparator"), (1, .class_ 1107), (0, u "java/io/Serializable"), (0, .class_ 1109), (0, u "java/lang/Comparable"), (0, .class_ 1111), (0, u "java/lang/constant/Constable"), (0, .class_ 1113), (0, u "java/lang/constant/ConstantDesc"), (2, u "serialVersionUID"), (0, u "J"), (3, u "REPL"), (0, u "C"), (2, u "LATIN1"), (1, u "UTF16"), (105, u "(Ljava/lang/StringBuilder;)V"), (23, u "(Ljava/lang/String;)Z"), (33, u "contains")] 159

def k7m0 : Method := { name := "<init>", desc := "()V", sig := { parameters := [], returnType := none }, accessFlags := 1, code := none }
def k7c1 : Code := { maxStack := 5, maxLocals := 2, code := jdk_42_method_3_code, exceptionTable := #[], attributes := #[] }
def k7m1 : Method := { name := "<init>", desc := "([C)V", sig := { parameters := [(.array .char)], returnType := none }, accessFlags := 1, code := some k7c1 }
def k7c2 : Code := { maxStack := 3, maxLocals := 2, code := jdk_42_method_53_code, exceptionTable := #[], attributes := #[] }
def k7m2 : Method := { name := "<init>", desc := "(Ljava/lang/StringBuilder;)V", sig := { parameters := [(.object "java/lang/StringBuilder")], returnType := none }, accessFlags := 1, code := some k7c2 }
def k7c3 : Code := { maxStack := 2, maxLocals := 1, code := jdk_42_method_54_code, exceptionTable := #[], attributes := #[] }
def k7m3 : Method := { name := "length", desc := "()I", sig := { parameters := [], returnType := some .int }, accessFlags := 1, code := some k7c3 }
def k7c4 : Code := { maxStack := 2, maxLocals := 2, code := jdk_42_method_56_code, exceptionTable := #[], attributes := #[] }
def k7m4 : Method := { name := "charAt", desc := "(I)C", sig := { parameters := [.int], returnType := some .char }, accessFlags := 1, code := some k7c4 }
def k7c5 : Code := { maxStack := 5, maxLocals := 8, code := jdk_42_method_75_code, exceptionTable := #[], attributes := #[] }
def k7m5 : Method := { name := "startsWith", desc := "(Ljava/lang/String;I)Z", sig := { parameters := [(.object "java/lang/String"), .int], returnType := some .boolean }, accessFlags := 1, code := some k7c5 }
def k7c6 : Code := { maxStack := 3, maxLocals := 2, code := jdk_42_method_76_code, exceptionTable := #[], attributes := #[] }
def k7m6 : Method := { name := "startsWith", desc := "(Ljava/lang/String;)Z", sig := { parameters := [(.object "java/lang/String")], returnType := some .boolean }, accessFlags := 1, code := some k7c6 }
def k7c7 : Code := { maxStack := 2, maxLocals := 3, code := jdk_42_method_84_code, exceptionTable := #[], attributes := #[] }
def k7m7 : Method := { name := "indexOf", desc := "(Ljava/lang/String;)I", sig := { parameters := [(.object "java/lang/String")], returnType := some .int }, accessFlags := 1, code := some k7c7 }
def k7c8 : Code := { maxStack := 2, maxLocals := 2, code := jdk_42_method_97_code, exceptionTable := #[], attributes := #[] }
def k7m8 : Method := { name := "contains", desc := "(Ljava/lang/CharSequence;)Z", sig := { parameters := [(.object "java/lang/CharSequence")], returnType := some .boolean }, accessFlags := 1, code := some k7c8 }
def k7c9 : Code := { maxStack := 1, maxLocals := 1, code := jdk_42_method_126_code, exceptionTable := #[], attributes := #[] }
def k7m9 : Method := { name := "toString", desc := "()Ljava/lang/String;", sig := { parameters := [], returnType := some (.object "java/lang/String") }, accessFlags := 1, code := some k7c9 }
def k7c10 : Code := { maxStack := 5, maxLocals := 4, code := jdk_42_method_147_code, exceptionTable := #[], attributes := #[] }
def k7m10 : Method := { name := "getBytes", desc := "([BIB)V", sig := { parameters := [(.array .byte), .int, .byte], returnType := none }, accessFlags := 0, code := some k7c10 }
def k7c11 : Code := { maxStack := 4, maxLocals := 6, code := jdk_42_method_149_code, exceptionTable := #[], attributes := #[] }
def k7m11 : Method := { name := "<init>", desc := "([CIILjava/lang/Void;)V", sig := { parameters := [(.array .char), .int, .int, (.object "java/lang/Void")], returnType := none }, accessFlags := 2, code := some k7c11 }
def k7c12 : Code := { maxStack := 5, maxLocals := 5, code := jdk_42_method_150_code, exceptionTable := #[], attributes := #[] }
def k7m12 : Method := { name := "<init>", desc := "(Ljava/lang/AbstractStringBuilder;Ljava/lang/Void;)V", sig := { parameters := [(.object "java/lang/AbstractStringBuilder"), (.object "java/lang/Void")], returnType := none }, accessFlags := 0, code := some k7c12 }
def k7c13 : Code := { maxStack := 1, maxLocals := 1, code := jdk_42_method_152_code, exceptionTable := #[], attributes := #[] }
def k7m13 : Method := { name := "coder", desc := "()B", sig := { parameters := [], returnType := some .byte }, accessFlags := 0, code := some k7c13 }
def k7c14 : Code := { maxStack := 1, maxLocals := 1, code := jdk_42_method_154_code, exceptionTable := #[], attributes := #[] }
def k7m14 : Method := { name := "isLatin1", desc := "()Z", sig := { parameters := [], returnType := some .boolean }, accessFlags := 0, code := some k7c14 }
def k7c15 : Code := { maxStack := 3, maxLocals := 2, code := jdk_42_method_155_code, exceptionTable := #[], attributes := #[] }
def k7m15 : Method := { name := "checkIndex", desc := "(II)V", sig := { parameters := [.int, .int], returnType := none }, accessFlags := 8, code := some k7c15 }
/-- java/lang/String -/
def k7 : Class := { plain "java/lang/String" (some 0) with
  accessFlags := 49
  interfaces := #[2, 3, 4, 5, 6]
  cf := some (fileOf pool7 10 #[.nestMembers #[1103]] #[{ accessFlags := 1, nameIndex := 5, descriptorIndex := 6, attributes := #[] }, { accessFlags := 1, nameIndex := 5, descriptorIndex := 1010, attributes := #[] }, { accessFlags := 1, nameIndex := 5, descriptorIndex := 1233, attributes := #[] }, { accessFlags := 1, nameIndex := 507, descriptorIndex := 334, attributes := #[] }, { accessFlags := 1, nameIndex := 497, descriptorIndex := 427, attributes := #[] }, { accessFlags := 1, nameIndex := 626, descriptorIndex := 627, attributes := #[] }, { accessFlags := 1, nameIndex := 626, descriptorIndex := 1257, attributes := #[] }, { accessFlags := 1, nameIndex := 635, descriptorIndex := 713, attributes := #[] }, { accessFlags := 1, nameIndex := 1291, descriptorIndex := 548, attributes := #[] }, { accessFlags := 1, nameIndex := 463, descriptorIndex := 464, attributes := #[] }, { accessFlags := 0, nameIndex := 532, descriptorIndex := 821, attributes := #[] }, { accessFlags := 2, nameIndex := 5, descriptorIndex := 29, attributes := #[] }, { accessFlags := 0, nameIndex := 5, descriptorIndex := 491, attributes := #[] }, { accessFlags := 0, nameIndex := 17, descriptorIndex := 337, attributes := #[] }, { accessFlags := 0, nameIndex := 494, descriptorIndex := 142, attributes := #[] }, { accessFlags := 8, nameIndex := 501, descriptorIndex := 391, attributes := #[] }] 49 2 #[1106, 1108, 575, 1110, 1112] #[{ accessFlags := 18, nameIndex := 13, descriptorIndex := 14, attributes := #[] }, { accessFlags := 18, nameIndex := 17, descriptorIndex := 18, attributes := #[] }, { accessFlags := 2, nameIndex := 21, descriptorIndex := 22, attributes := #[] }, { accessFlags := 2, nameIndex := 25, descriptorIndex := 26, attributes := #[] }, { accessFlags := 26, nameIndex := 1116, descriptorIndex := 1117, attributes := #[] }, { accessFlags := 24, nameIndex := 40, descriptorIndex := 26, attributes := #[] }, { accessFlags := 26, nameIndex := 1101, descriptorIndex := 1102, attributes := #[] }, { accessFlags := 26, nameIndex := 1121, descriptorIndex := 1122, attributes := #[] }, { accessFlags := 25, nameIndex := 599, descriptorIndex := 600, attributes := #[] }, { accessFlags := 24, nameIndex := 1125, descriptorIndex := 18, attributes := #[] }, { accessFlags := 24, nameIndex := 1127, descriptorIndex := 18, attributes := #[] }])
  fields := #[{ name := "value", type := (.array .byte), accessFlags := 18, slot := 0, constantValue := 0 }, { name := "coder", type := .byte, accessFlags := 18, slot := 1, constantValue := 0 }, { name := "hash", type := .int, accessFlags := 2, slot := 2, constantValue := 0 }, { name := "hashIsZero", type := .boolean, accessFlags := 2, slot := 3, constantValue := 0 }, { name := "serialVersionUID", type := .long, accessFlags := 26, slot := 0, constantValue := 0 }, { name := "COMPACT_STRINGS", type := .boolean, accessFlags := 24, slot := 1, constantValue := 0 }, { name := "serialPersistentFields", type := (.array (.object "java/io/ObjectStreamField")), accessFlags := 26, slot := 2, constantValue := 0 }, { name := "REPL", type := .char, accessFlags := 26, slot := 3, constantValue := 0 }, { name := "CASE_INSENSITIVE_ORDER", type := (.object "java/util/Comparator"), accessFlags := 25, slot := 4, constantValue := 0 }, { name := "LATIN1", type := .byte, accessFlags := 24, slot := 5, constantValue := 0 }, { name := "UTF16", type := .byte, accessFlags := 24, slot := 6, constantValue := 0 }]
  methods := #[k7m0, k7m1, k7m2, k7m3, k7m4, k7m5, k7m6, k7m7, k7m8, k7m9, k7m10, k7m11, k7m12, k7m13, k7m14, k7m15]
  instanceTypes := #[(.array .byte), .byte, .int, .boolean]
  staticTypes := #[.long, .boolean, (.array (.object "java/io/ObjectStreamField")), .char, (.object "java/util/Comparator"), .byte, .byte]
  resolved := Array.replicate 1451 none
  statics := some 0 }

def pool8 : Array CpInfo := pool [(6, .class_ 8), (1, u "java/lang/Object"), (0, u "<init>"), (0, u "()V"), (1, .class_ 14), (1, u "java/lang/StringUTF16"), (31, u "$assertionsDisabled"), (0, u "Z"), (13, u "HI_BYTE_SHIFT"), (0, u "I"), (2, u "LO_BYTE_SHIFT"), (49, .methodref 12 116), (0, .nameAndType 117 118), (0, u "compress"), (0, u "([CI[BII)I"), (3, u "([CII)[B"), (138, u "coderFromArrayLen"), (0, u "([BI)B"), (106, .class_ 371), (1, u "java/lang/StringUTF16$LinesSpliterator"), (58, u "MAX_LENGTH"), (196, .class_ 628), (0, u "java/lang/StringUTF16$CodePointsSpliterator"), (0, .class_ 630), (0, u "java/lang/StringUTF16$CharsSpliterator")] 4

def k8m0 : Method := { name := "<init>", desc := "()V", sig := { parameters := [], returnType := none }, accessFlags := 0, code := none }
def k8c1 : Code := { maxStack := 2, maxLocals := 2, code := jdk_52_method_15_code, exceptionTable := #[], attributes := #[] }
def k8m1 : Method := { name := "coderFromArrayLen", desc := "([BI)B", sig := { parameters := [(.array .byte), .int], returnType := some .byte }, accessFlags := 8, code := some k8c1 }
def k8c2 : Code := { maxStack := 5, maxLocals := 6, code := jdk_52_method_16_code, exceptionTable := #[], attributes := #[] }
def k8m2 : Method := { name := "compress", desc := "([CII)[B", sig := { parameters := [(.array .char), .int, .int], returnType := some (.array .byte) }, accessFlags := 9, code := some k8c2 }
def k8c3 : Code := { maxStack := 3, maxLocals := 7, code := jdk_52_method_21_code, exceptionTable := #[], attributes := #[] }
def k8m3 : Method := { name := "compress", desc := "([CI[BII)I", sig := { parameters := [(.array .char), .int, (.array .byte), .int, .int], returnType := some .int }, accessFlags := 9, code := some k8c3 }
/-- java/lang/StringUTF16 -/
def k8 : Class := { plain "java/lang/StringUTF16" (some 0) with
  accessFlags := 48
  interfaces := #[]
  cf := some (fileOf pool8 12 #[.nestMembers #[627, 629, 369]] #[{ accessFlags := 0, nameIndex := 9, descriptorIndex := 10, attributes := #[] }, { accessFlags := 8, nameIndex := 261, descriptorIndex := 262, attributes := #[] }, { accessFlags := 9, nameIndex := 117, descriptorIndex := 122, attributes := #[] }, { accessFlags := 9, nameIndex := 117, descriptorIndex := 118, attributes := #[] }] 48 6 #[] #[{ accessFlags := 26, nameIndex := 61, descriptorIndex := 62, attributes := #[] }, { accessFlags := 26, nameIndex := 65, descriptorIndex := 62, attributes := #[] }, { accessFlags := 24, nameIndex := 430, descriptorIndex := 62, attributes := #[] }, { accessFlags := 4120, nameIndex := 46, descriptorIndex := 47, attributes := #[] }])
  fields := #[{ name := "HI_BYTE_SHIFT", type := .int, accessFlags := 26, slot := 0, constantValue := 0 }, { name := "LO_BYTE_SHIFT", type := .int, accessFlags := 26, slot := 1, constantValue := 0 }, { name := "MAX_LENGTH", type := .int, accessFlags := 24, slot := 2, constantValue := 0 }, { name := "$assertionsDisabled", type := .boolean, accessFlags := 4120, slot := 3, constantValue := 0 }]
  methods := #[k8m0, k8m1, k8m2, k8m3]
  instanceTypes := #[]
  staticTypes := #[.int, .int, .int, .boolean]
  resolved := Array.replicate 635 none
  statics := none }

def pool9 : Array CpInfo := pool [(1, .methodref 2 3), (0, .class_ 4), (0, .nameAndType 5 6), (0, u "java/lang/Object"), (0, u "<init>"), (0, u "()V"), (0, .fieldref 8 9), (0, .class_ 10), (0, .nameAndType 11 12), (0, u "com/example/lanternwood/lanternwood/ReplAddress"), (0, u "host"), (0, u "Ljava/lang/String;"), (0, .fieldref 8 14), (0, .nameAndType 15 16), (0, u "port"), (0, u "I"), (0, .fieldref 8 18), (0, .nameAndType 19 20), (0, u "socket"), (0, u "Ljava/nio/file/Path;"), (0, .fieldref 8 22), (0, .nameAndType 23 20), (0, u "portFile"), (0, .methodref 8 25), (0, .nameAndType 5 26), (0, u "(Ljava/lang/String;ILjava/nio/file/Path;Ljava/nio/file/Path;)V"), (2, .methodref 30 31), (0, .class_ 32), (0, .nameAndType 33 34), (0, u "java/lang/String"), (0, u "startsWith"), (0, u "(Ljava/lang/String;)Z"), (43, u "tcp"), (0, u "(Ljava/lang/String;I)Lcom/example/lanternwood/lanternwood/ReplAddress;"), (48, .class_ 129), (0, u "java/lang/StringBuilder"), (0, .methodref 128 3), (2, .methodref 128 134), (0, .nameAndType 135 136), (0, u "append"), (0, u "(Ljava/lang/String;)Ljava/lang/StringBuilder;"), (0, .methodref 128 138), (0, .nameAndType 139 140), (0, u "toString"), (0, u "()Ljava/lang/String;"), (79, .string 221), (0, u ":"), (0, .methodref 30 223), (0, .nameAndType 224 225), (0, u "contains"), (0, u "(Ljava/lang/CharSequence;)Z"), (0, .string 227), (0, u "["), (0, .string 229), (0, u "]"), (0, .methodref 128 231), (0, .nameAndType 135 232), (0, u "(I)Ljava/lang/StringBuilder;"), (4, u "CONNECT_TIMEOUT_MILLIS"), (2, u "TCP_URL"), (0, u "UNIX_URL"), (0, u "UNIX_SOCKETS_SINCE")] 16

def k9c0 : Code := { maxStack := 2, maxLocals := 5, code := prog_17_method_1_code, exceptionTable := #[], attributes := #[] }
def k9m0 : Method := { name := "<init>", desc := "(Ljava/lang/String;ILjava/nio/file/Path;Ljava/nio/file/Path;)V", sig := { parameters := [(.object "java/lang/String"), .int, (.object "java/nio/file/Path"), (.object "java/nio/file/Path")], returnType := none }, accessFlags := 2, code := some k9c0 }
def k9c1 : Code := { maxStack := 6, maxLocals := 2, code := prog_17_method_2_code, exceptionTable := #[], attributes := #[] }
def k9m1 : Method := { name := "tcp", desc := "(Ljava/lang/String;I)Lcom/example/lanternwood/lanternwood/ReplAddress;", sig := { parameters := [(.object "java/lang/String"), .int], returnType := some (.object "com/example/lanternwood/lanternwood/ReplAddress") }, accessFlags := 8, code := some k9c1 }
def k9c2 : Code := { maxStack := 3, maxLocals := 3, code := prog_17_method_12_code, exceptionTable := #[], attributes := #[] }
def k9m2 : Method := { name := "toString", desc := "()Ljava/lang/String;", sig := { parameters := [], returnType := some (.object "java/lang/String") }, accessFlags := 1, code := some k9c2 }
/-- com/example/lanternwood/lanternwood/ReplAddress -/
def k9 : Class := { plain "com/example/lanternwood/lanternwood/ReplAddress" (some 0) with
  accessFlags := 48
  interfaces := #[]
  cf := some (fileOf pool9 8 #[] #[{ accessFlags := 2, nameIndex := 5, descriptorIndex := 26, attributes := #[] }, { accessFlags := 8, nameIndex := 78, descriptorIndex := 79, attributes := #[] }, { accessFlags := 1, nameIndex := 139, descriptorIndex := 140, attributes := #[] }] 48 2 #[] #[{ accessFlags := 26, nameIndex := 237, descriptorIndex := 16, attributes := #[] }, { accessFlags := 26, nameIndex := 240, descriptorIndex := 12, attributes := #[] }, { accessFlags := 26, nameIndex := 241, descriptorIndex := 12, attributes := #[] }, { accessFlags := 26, nameIndex := 242, descriptorIndex := 16, attributes := #[] }, { accessFlags := 18, nameIndex := 11, descriptorIndex := 12, attributes := #[] }, { accessFlags := 18, nameIndex := 15, descriptorIndex := 16, attributes := #[] }, { accessFlags := 18, nameIndex := 19, descriptorIndex := 20, attributes := #[] }, { accessFlags := 18, nameIndex := 23, descriptorIndex := 20, attributes := #[] }])
  fields := #[{ name := "CONNECT_TIMEOUT_MILLIS", type := .int, accessFlags := 26, slot := 0, constantValue := 0 }, { name := "TCP_URL", type := (.object "java/lang/String"), accessFlags := 26, slot := 1, constantValue := 0 }, { name := "UNIX_URL", type := (.object "java/lang/String"), accessFlags := 26, slot := 2, constantValue := 0 }, { name := "UNIX_SOCKETS_SINCE", type := .int, accessFlags := 26, slot := 3, constantValue := 0 }, { name := "host", type := (.object "java/lang/String"), accessFlags := 18, slot := 0, constantValue := 0 }, { name := "port", type := .int, accessFlags := 18, slot := 1, constantValue := 0 }, { name := "socket", type := (.object "java/nio/file/Path"), accessFlags := 18, slot := 2, constantValue := 0 }, { name := "portFile", type := (.object "java/nio/file/Path"), accessFlags := 18, slot := 3, constantValue := 0 }]
  methods := #[k9m0, k9m1, k9m2]
  instanceTypes := #[(.object "java/lang/String"), .int, (.object "java/nio/file/Path"), (.object "java/nio/file/Path")]
  staticTypes := #[.int, (.object "java/lang/String"), (.object "java/lang/String"), .int]
  resolved := Array.replicate 259 none
  statics := none }

def pool10 : Array CpInfo := pool [(1, .class_ 2), (0, u "java/lang/String"), (1, .class_ 6), (1, u "java/lang/Object"), (0, u "<init>"), (0, u "()V"), (0, .methodref 1 10), (0, .nameAndType 11 12), (0, u "checkIndex"), (0, u "(II)V"), (1, .class_ 16), (1, u "java/lang/StringLatin1"), (36, u "([BI)C"), (45, .methodref 14 100), (0, .nameAndType 101 102), (0, u "indexOf"), (0, u "([BI[BII)I"), (18, u "$assertionsDisabled"), (0, u "Z"), (98, .class_ 223), (1, u "java/lang/StringLatin1$LinesSpliterator"), (28, u "charAt"), (34, u "([B[B)I"), (102, .class_ 391), (0, u "java/lang/StringLatin1$CharsSpliterator")] 3

def k10m0 : Method := { name := "<init>", desc := "()V", sig := { parameters := [], returnType := none }, accessFlags := 0, code := none }
def k10c1 : Code := { maxStack := 2, maxLocals := 2, code := jdk_43_method_2_code, exceptionTable := #[], attributes := #[] }
def k10m1 : Method := { name := "charAt", desc := "([BI)C", sig := { parameters := [(.array .byte), .int], returnType := some .char }, accessFlags := 9, code := some k10c1 }
def k10c2 : Code := { maxStack := 5, maxLocals := 2, code := jdk_43_method_24_code, exceptionTable := #[], attributes := #[] }
def k10m2 : Method := { name := "indexOf", desc := "([B[B)I", sig := { parameters := [(.array .byte), (.array .byte)], returnType := some .int }, accessFlags := 9, code := some k10c2 }
def k10c3 : Code := { maxStack := 3, maxLocals := 11, code := jdk_43_method_25_code, exceptionTable := #[], attributes := #[] }
def k10m3 : Method := { name := "indexOf", desc := "([BI[BII)I", sig := { parameters := [(.array .byte), .int, (.array .byte), .int, .int], returnType := some .int }, accessFlags := 9, code := some k10c3 }
/-- java/lang/StringLatin1 -/
def k10 : Class := { plain "java/lang/StringLatin1" (some 0) with
  accessFlags := 48
  interfaces := #[]
  cf := some (fileOf pool10 14 #[.nestMembers #[390, 221]] #[{ accessFlags := 0, nameIndex := 7, descriptorIndex := 8, attributes := #[] }, { accessFlags := 9, nameIndex := 252, descriptorIndex := 53, attributes := #[] }, { accessFlags := 9, nameIndex := 101, descriptorIndex := 287, attributes := #[] }, { accessFlags := 9, nameIndex := 101, descriptorIndex := 102, attributes := #[] }] 48 4 #[] #[{ accessFlags := 4120, nameIndex := 121, descriptorIndex := 122, attributes := #[] }])
  fields := #[{ name := "$assertionsDisabled", type := .boolean, accessFlags := 4120, slot := 0, constantValue := 0 }]
  methods := #[k10m0, k10m1, k10m2, k10m3]
  instanceTypes := #[]
  staticTypes := #[.boolean]
  resolved := Array.replicate 395 none
  statics := none }

def pool11 : Array CpInfo := pool [(1, .class_ 2), (0, u "java/lang/Appendable"), (0, .class_ 4), (0, u "java/lang/Object")] 9

/-- java/lang/Appendable -/
def k11 : Class := { plain "java/lang/Appendable" (some 0) with
  accessFlags := 1537
  interfaces := #[]
  cf := some (fileOf pool11 1 #[] #[] 1537 3 #[] #[])
  fields := #[]
  methods := #[]
  instanceTypes := #[]
  staticTypes := #[]
  resolved := Array.replicate 14 none
  statics := none }

def pool12 : Array CpInfo := pool [(1, .class_ 2), (0, u "java/lang/String"), (0, .methodref 4 5), (0, .class_ 6), (0, .nameAndType 7 8), (0, u "java/lang/Object"), (0, u "<init>"), (0, u "()V"), (1, .class_ 12), (1, u "java/lang/AbstractStringBuilder"), (0, u "EMPTYVALUE"), (0, u "[B"), (0, .fieldref 10 16), (0, .nameAndType 17 14), (0, u "value"), (0, .fieldref 1 19), (0, .nameAndType 20 21), (0, u "COMPACT_STRINGS"), (0, u "Z"), (0, .fieldref 10 23), (0, .nameAndType 24 25), (0, u "coder"), (0, u "B"), (6, .methodref 1 33), (0, .nameAndType 34 35), (0, u "length"), (0, u "()I"), (0, .class_ 37), (0, u "java/lang/Integer"), (2, .methodref 1 41), (0, .nameAndType 24 42), (0, u "()B"), (2, u "append"), (0, u "(Ljava/lang/String;)Ljava/lang/AbstractStringBuilder;"), (1, .class_ 49), (0, u "java/lang/CharSequence"), (19, u "(Ljava/lang/String;)V"), (5, u "maybeLatin1"), (3, .fieldref 10 80), (0, .nameAndType 81 82), (0, u "count"), (0, u "I"), (0, .methodref 10 84), (0, .nameAndType 85 86), (0, u "isLatin1"), (0, u "()Z"), (13, .methodref 10 101), (0, .nameAndType 102 103), (0, u "ensureCapacityInternal"), (0, u "(I)V"), (3, u "(I)I"), (80, u "getChars"), (19, .methodref 10 209), (0, .nameAndType 210 211), (0, u "putStringAt"), (0, u "(ILjava/lang/String;)V"), (5, u "inflateIfNeededFor"), (2, .nameAndType 221 222), (0, u "getBytes"), (0, u "([BIB)V"), (22, .methodref 36 246), (0, .nameAndType 247 107), (0, u "stringSize"), (0, .methodref 36 249), (0, .nameAndType 188 250), (0, u "(II[B)I"), (146, .methodref 10 398), (0, .nameAndType 217 69), (0, .methodref 1 220), (3, u "()[B"), (40, .class_ 445), (0, u "java/lang/Appendable"), (65, u "(I)Ljava/lang/AbstractStringBuilder;"), (40, u "getValue")] 56

def k12m0 : Method := { name := "<init>", desc := "()V", sig := { parameters := [], returnType := none }, accessFlags := 0, code := none }
def k12c1 : Code := { maxStack := 2, maxLocals := 2, code := jdk_68_method_2_code, exceptionTable := #[], attributes := #[] }
def k12m1 : Method := { name := "<init>", desc := "(I)V", sig := { parameters := [.int], returnType := none }, accessFlags := 0, code := some k12c1 }
def k12c2 : Code := { maxStack := 1, maxLocals := 1, code := jdk_68_method_6_code, exceptionTable := #[], attributes := #[] }
def k12m2 : Method := { name := "length", desc := "()I", sig := { parameters := [], returnType := some .int }, accessFlags := 1, code := some k12c2 }
def k12c3 : Code := { maxStack := 4, maxLocals := 3, code := jdk_68_method_9_code, exceptionTable := #[], attributes := #[] }
def k12m3 : Method := { name := "ensureCapacityInternal", desc := "(I)V", sig := { parameters := [.int], returnType := none }, accessFlags := 2, code := some k12c3 }
def k12c4 : Code := { maxStack := 3, maxLocals := 3, code := jdk_68_method_22_code, exceptionTable := #[], attributes := #[] }
def k12m4 : Method := { name := "append", desc := "(Ljava/lang/String;)Ljava/lang/AbstractStringBuilder;", sig := { parameters := [(.object "java/lang/String")], returnType := some (.object "java/lang/AbstractStringBuilder") }, accessFlags := 1, code := some k12c4 }
def k12c5 : Code := { maxStack := 4, maxLocals := 4, code := jdk_68_method_32_code, exceptionTable := #[], attributes := #[] }
def k12m5 : Method := { name := "append", desc := "(I)Ljava/lang/AbstractStringBuilder;", sig := { parameters := [.int], returnType := some (.object "java/lang/AbstractStringBuilder") }, accessFlags := 1, code := some k12c5 }
def k12c6 : Code := { maxStack := 1, maxLocals := 1, code := jdk_68_method_64_code, exceptionTable := #[], attributes := #[] }
def k12m6 : Method := { name := "getValue", desc := "()[B", sig := { parameters := [], returnType := some (.array .byte) }, accessFlags := 16, code := some k12c6 }
def k12c7 : Code := { maxStack := 1, maxLocals := 1, code := jdk_68_method_68_code, exceptionTable := #[], attributes := #[] }
def k12m7 : Method := { name := "isLatin1", desc := "()Z", sig := { parameters := [], returnType := some .boolean }, accessFlags := 16, code := some k12c7 }
def k12c8 : Code := { maxStack := 2, maxLocals := 2, code := jdk_68_method_71_code, exceptionTable := #[], attributes := #[] }
def k12m8 : Method := { name := "inflateIfNeededFor", desc := "(Ljava/lang/String;)V", sig := { parameters := [(.object "java/lang/String")], returnType := none }, accessFlags := 2, code := some k12c8 }
def k12c9 : Code := { maxStack := 4, maxLocals := 3, code := jdk_68_method_73_code, exceptionTable := #[], attributes := #[] }
def k12m9 : Method := { name := "putStringAt", desc := "(ILjava/lang/String;)V", sig := { parameters := [.int, (.object "java/lang/String")], returnType := none }, accessFlags := 2, code := some k12c9 }
/-- java/lang/AbstractStringBuilder -/
def k12 : Class := { plain "java/lang/AbstractStringBuilder" (some 0) with
  accessFlags := 1056
  interfaces := #[11, 4]
  cf := some (fileOf pool12 10 #[] #[{ accessFlags := 0, nameIndex := 7, descriptorIndex := 8, attributes := #[] }, { accessFlags := 0, nameIndex := 7, descriptorIndex := 103, attributes := #[] }, { accessFlags := 1, nameIndex := 34, descriptorIndex := 35, attributes := #[] }, { accessFlags := 2, nameIndex := 102, descriptorIndex := 103, attributes := #[] }, { accessFlags := 1, nameIndex := 45, descriptorIndex := 46, attributes := #[] }, { accessFlags := 1, nameIndex := 45, descriptorIndex := 511, attributes := #[] }, { accessFlags := 16, nameIndex := 552, descriptorIndex := 403, attributes := #[] }, { accessFlags := 16, nameIndex := 85, descriptorIndex := 86, attributes := #[] }, { accessFlags := 2, nameIndex := 217, descriptorIndex := 69, attributes := #[] }, { accessFlags := 2, nameIndex := 210, descriptorIndex := 211, attributes := #[] }] 1056 4 #[444, 48] #[{ accessFlags := 0, nameIndex := 17, descriptorIndex := 14, attributes := #[] }, { accessFlags := 0, nameIndex := 24, descriptorIndex := 25, attributes := #[] }, { accessFlags := 0, nameIndex := 75, descriptorIndex := 21, attributes := #[] }, { accessFlags := 0, nameIndex := 81, descriptorIndex := 82, attributes := #[] }, { accessFlags := 26, nameIndex := 13, descriptorIndex := 14, attributes := #[] }])
  fields := #[{ name := "value", type := (.array .byte), accessFlags := 0, slot := 0, constantValue := 0 }, { name := "coder", type := .byte, accessFlags := 0, slot := 1, constantValue := 0 }, { name := "maybeLatin1", type := .boolean, accessFlags := 0, slot := 2, constantValue := 0 }, { name := "count", type := .int, accessFlags := 0, slot := 3, constantValue := 0 }, { name := "EMPTYVALUE", type := (.array .byte), accessFlags := 26, slot := 0, constantValue := 0 }]
  methods := #[k12m0, k12m1, k12m2, k12m3, k12m4, k12m5, k12m6, k12m7, k12m8, k12m9]
  instanceTypes := #[(.array .byte), .byte, .boolean, .int]
  staticTypes := #[(.array .byte)]
  resolved := Array.replicate 609 none
  statics := none }

def pool13 : Array CpInfo := pool [(1, .methodref 2 3), (0, .class_ 4), (0, .nameAndType 5 6), (0, u "java/lang/AbstractStringBuilder"), (0, u "<init>"), (0, u "(I)V"), (11, .class_ 20), (1, u "java/lang/String"), (3, .class_ 26), (1, u "java/lang/StringBuilder"), (0, u "append"), (0, u "(Ljava/lang/String;)Ljava/lang/StringBuilder;"), (0, .methodref 2 30), (0, .nameAndType 27 31), (0, u "(Ljava/lang/String;)Ljava/lang/AbstractStringBuilder;"), (21, .methodref 2 54), (0, .nameAndType 27 55), (0, u "(I)Ljava/lang/AbstractStringBuilder;"), (81, .methodref 18 138), (0, .nameAndType 5 139), (0, u "(Ljava/lang/StringBuilder;)V"), (5, u "()V"), (10, u "()I"), (111, u "(I)Ljava/lang/StringBuilder;"), (74, .methodref 2 344), (0, .nameAndType 345 156), (0, u "length"), (3, .class_ 350), (0, u "java/lang/Appendable"), (0, .class_ 352), (0, u "java/io/Serializable"), (0, .class_ 354), (0, u "java/lang/Comparable"), (0, .class_ 356), (0, u "java/lang/CharSequence"), (0, u "serialVersionUID"), (0, u "J"), (40, u "toString"), (0, u "()Ljava/lang/String;")] 21

def k13c0 : Code := { maxStack := 2, maxLocals := 1, code := jdk_67_method_1_code, exceptionTable := #[], attributes := #[] }
def k13m0 : Method := { name := "<init>", desc := "()V", sig := { parameters := [], returnType := none }, accessFlags := 1, code := some k13c0 }
def k13c1 : Code := { maxStack := 2, maxLocals := 2, code := jdk_67_method_7_code, exceptionTable := #[], attributes := #[] }
def k13m1 : Method := { name := "append", desc := "(Ljava/lang/String;)Ljava/lang/StringBuilder;", sig := { parameters := [(.object "java/lang/String")], returnType := some (.object "java/lang/StringBuilder") }, accessFlags := 1, code := some k13c1 }
def k13c2 : Code := { maxStack := 2, maxLocals := 2, code := jdk_67_method_15_code, exceptionTable := #[], attributes := #[] }
def k13m2 : Method := { name := "append", desc := "(I)Ljava/lang/StringBuilder;", sig := { parameters := [.int], returnType := some (.object "java/lang/StringBuilder") }, accessFlags := 1, code := some k13c2 }
def k13c3 : Code := { maxStack := 3, maxLocals := 1, code := jdk_67_method_42_code, exceptionTable := #[], attributes := #[] }
def k13m3 : Method := { name := "toString", desc := "()Ljava/lang/String;", sig := { parameters := [], returnType := some (.object "java/lang/String") }, accessFlags := 1, code := some k13c3 }
def k13c4 : Code := { maxStack := 1, maxLocals := 1, code := jdk_67_method_93_code, exceptionTable := #[], attributes := #[] }
def k13m4 : Method := { name := "length", desc := "()I", sig := { parameters := [], returnType := some .int }, accessFlags := 4161, code := some k13c4 }
/-- java/lang/StringBuilder -/
def k13 : Class := { plain "java/lang/StringBuilder" (some 12) with
  accessFlags := 49
  interfaces := #[11, 2, 3, 4]
  cf := some (fileOf pool13 24 #[] #[{ accessFlags := 1, nameIndex := 5, descriptorIndex := 145, attributes := #[] }, { accessFlags := 1, nameIndex := 27, descriptorIndex := 28, attributes := #[] }, { accessFlags := 1, nameIndex := 27, descriptorIndex := 268, attributes := #[] }, { accessFlags := 1, nameIndex := 399, descriptorIndex := 400, attributes := #[] }, { accessFlags := 4161, nameIndex := 345, descriptorIndex := 156, attributes := #[] }] 49 2 #[349, 351, 353, 355] #[{ accessFlags := 24, nameIndex := 357, descriptorIndex := 358, attributes := #[] }])
  fields := #[{ name := "serialVersionUID", type := .long, accessFlags := 24, slot := 0, constantValue := 0 }]
  methods := #[k13m0, k13m1, k13m2, k13m3, k13m4]
  instanceTypes := #[(.array .byte), .byte, .boolean, .int]
  staticTypes := #[.long]
  resolved := Array.replicate 422 none
  statics := none }

def pool14 : Array CpInfo := pool [(2, .class_ 4), (1, u "java/lang/Object"), (0, u "<init>"), (0, u "()V"), (1, .class_ 10), (1, u "java/lang/System"), (0, u "allowSecurityManager"), (0, u "I"), (16, u "cons"), (0, u "Ljava/io/Console;"), (77, .class_ 110), (1, u "java/lang/System$CallersHolder"), (43, u "initialErrStream"), (0, u "Ljava/io/PrintStream;"), (19, u "security"), (0, u "Ljava/lang/SecurityManager;"), (31, .class_ 209), (0, u "java/lang/System$1"), (7, u "props"), (0, u "Ljava/util/Properties;"), (2, u "lineSeparator"), (0, u "Ljava/lang/String;"), (96, .class_ 321), (1, u "java/lang/System$LoggerFinder"), (5, .class_ 328), (0, u "java/lang/System$Logger"), (67, u "err"), (2, u "out"), (91, u "notSupportedJnuEncoding"), (15, u "in"), (17, u "initialIn"), (0, u "Ljava/io/InputStream;"), (35, u "bootLayer"), (0, u "Ljava/lang/ModuleLayer;"), (99, .class_ 664), (0, u "java/lang/System$2"), (9, u "NEVER"), (2, u "MAYBE"), (49, u "arraycopy"), (0, u "(Ljava/lang/Object;ILjava/lang/Object;II)V"), (72, .class_ 802), (0, u "java/lang/System$Logger$Level")] 31

def k14m0 : Method := { name := "<init>", desc := "()V", sig := { parameters := [], returnType := none }, accessFlags := 2, code := none }
def k14m1 : Method := { name := "arraycopy", desc := "(Ljava/lang/Object;ILjava/lang/Object;II)V", sig := { parameters := [(.object "java/lang/Object"), .int, (.object "java/lang/Object"), .int, .int], returnType := none }, accessFlags := 265, code := none }
/-- java/lang/System -/
def k14 : Class := { plain "java/lang/System" (some 0) with
  accessFlags := 49
  interfaces := #[]
  cf := some (fileOf pool14 8 #[.nestMembers #[319, 327, 801, 108, 663, 208]] #[{ accessFlags := 2, nameIndex := 5, descriptorIndex := 6, attributes := #[] }, { accessFlags := 265, nameIndex := 727, descriptorIndex := 728, attributes := #[] }] 49 2 #[] #[{ accessFlags := 25, nameIndex := 507, descriptorIndex := 526, attributes := #[] }, { accessFlags := 25, nameIndex := 399, descriptorIndex := 155, attributes := #[] }, { accessFlags := 25, nameIndex := 396, descriptorIndex := 155, attributes := #[] }, { accessFlags := 10, nameIndex := 525, descriptorIndex := 526, attributes := #[] }, { accessFlags := 26, nameIndex := 674, descriptorIndex := 12, attributes := #[] }, { accessFlags := 26, nameIndex := 677, descriptorIndex := 12, attributes := #[] }, { accessFlags := 10, nameIndex := 11, descriptorIndex := 12, attributes := #[] }, { accessFlags := 74, nameIndex := 175, descriptorIndex := 176, attributes := #[] }, { accessFlags := 10, nameIndex := 491, descriptorIndex := 222, attributes := #[] }, { accessFlags := 74, nameIndex := 29, descriptorIndex := 30, attributes := #[] }, { accessFlags := 74, nameIndex := 154, descriptorIndex := 155, attributes := #[] }, { accessFlags := 10, nameIndex := 217, descriptorIndex := 218, attributes := #[] }, { accessFlags := 10, nameIndex := 221, descriptorIndex := 222, attributes := #[] }, { accessFlags := 8, nameIndex := 562, descriptorIndex := 563, attributes := #[] }])
  fields := #[{ name := "in", type := (.object "java/io/InputStream"), accessFlags := 25, slot := 0, constantValue := 0 }, { name := "out", type := (.object "java/io/PrintStream"), accessFlags := 25, slot := 1, constantValue := 0 }, { name := "err", type := (.object "java/io/PrintStream"), accessFlags := 25, slot := 2, constantValue := 0 }, { name := "initialIn", type := (.object "java/io/InputStream"), accessFlags := 10, slot := 3, constantValue := 0 }, { name := "NEVER", type := .int, accessFlags := 26, slot := 4, constantValue := 0 }, { name := "MAYBE", type := .int, accessFlags := 26, slot := 5, constantValue := 0 }, { name := "allowSecurityManager", type := .int, accessFlags := 10, slot := 6, constantValue := 0 }, { name := "security", type := (.object "java/lang/SecurityManager"), accessFlags := 74, slot := 7, constantValue := 0 }, { name := "notSupportedJnuEncoding", type := (.object "java/lang/String"), accessFlags := 10, slot := 8, constantValue := 0 }, { name := "cons", type := (.object "java/io/Console"), accessFlags := 74, slot := 9, constantValue := 0 }, { name := "initialErrStream", type := (.object "java/io/PrintStream"), accessFlags := 74, slot := 10, constantValue := 0 }, { name := "props", type := (.object "java/util/Properties"), accessFlags := 10, slot := 11, constantValue := 0 }, { name := "lineSeparator", type := (.object "java/lang/String"), accessFlags := 10, slot := 12, constantValue := 0 }, { name := "bootLayer", type := (.object "java/lang/ModuleLayer"), accessFlags := 8, slot := 13, constantValue := 0 }]
  methods := #[k14m0, k14m1]
  instanceTypes := #[]
  staticTypes := #[(.object "java/io/InputStream"), (.object "java/io/PrintStream"), (.object "java/io/PrintStream"), (.object "java/io/InputStream"), .int, .int, .int, (.object "java/lang/SecurityManager"), (.object "java/lang/String"), (.object "java/io/Console"), (.object "java/io/PrintStream"), (.object "java/util/Properties"), (.object "java/lang/String"), (.object "java/lang/ModuleLayer")]
  resolved := Array.replicate 834 none
  statics := none }

def pool15 : Array CpInfo := pool [(2, .class_ 4), (1, u "java/lang/Object"), (0, u "<init>"), (0, u "()V"), (1, .class_ 10), (1, u "java/lang/Number"), (2, .class_ 14), (0, u "java/io/Serializable"), (0, u "serialVersionUID"), (0, u "J")] 20

def k15m0 : Method := { name := "<init>", desc := "()V", sig := { parameters := [], returnType := none }, accessFlags := 1, code := none }
/-- java/lang/Number -/
def k15 : Class := { plain "java/lang/Number" (some 0) with
  accessFlags := 1057
  interfaces := #[2]
  cf := some (fileOf pool15 8 #[] #[{ accessFlags := 1, nameIndex := 5, descriptorIndex := 6, attributes := #[] }] 1057 2 #[13] #[{ accessFlags := 26, nameIndex := 15, descriptorIndex := 16, attributes := #[] }])
  fields := #[{ name := "serialVersionUID", type := .long, accessFlags := 26, slot := 0, constantValue := 0 }]
  methods := #[k15m0]
  instanceTypes := #[]
  staticTypes := #[.long]
  resolved := Array.replicate 37 none
  statics := none }

def pool16 : Array CpInfo := pool [(1, .class_ 2), (0, u "java/lang/Integer"), (16, u "digits"), (0, u "[C"), (33, u "(I)I"), (19, u "stringSize"), (2, u "getChars"), (0, u "(II[B)I"), (4, .fieldref 1 84), (0, .nameAndType 85 86), (0, u "DigitOnes"), (0, u "[B"), (0, .fieldref 1 88), (0, .nameAndType 89 86), (0, u "DigitTens"), (99, .class_ 190), (0, u "java/lang/Integer$IntegerCache"), (3, u "I"), (8, .class_ 204), (0, u "java/lang/Number"), (2, u "value"), (94, u "TYPE"), (0, u "Ljava/lang/Class;"), (0, .class_ 305), (0, u "java/lang/Comparable"), (0, .class_ 307), (0, u "java/lang/constant/Constable"), (0, .class_ 309), (0, u "java/lang/constant/ConstantDesc"), (0, u "MIN_VALUE"), (1, u "MAX_VALUE"), (3, u "SIZE"), (1, u "BYTES"), (1, u "serialVersionUID"), (0, u "J")] 131

def k16c0 : Code := { maxStack := 4, maxLocals := 7, code := jdk_33_method_12_code, exceptionTable := #[], attributes := #[] }
def k16m0 : Method := { name := "getChars", desc := "(II[B)I", sig := { parameters := [.int, .int, (.array .byte)], returnType := some .int }, accessFlags := 8, code := some k16c0 }
def k16c1 : Code := { maxStack := 2, maxLocals := 4, code := jdk_33_method_13_code, exceptionTable := #[], attributes := #[] }
def k16m1 : Method := { name := "stringSize", desc := "(I)I", sig := { parameters := [.int], returnType := some .int }, accessFlags := 8, code := some k16c1 }
/-- java/lang/Integer -/
def k16 : Class := { plain "java/lang/Integer" (some 15) with
  accessFlags := 49
  interfaces := #[3, 5, 6]
  cf := some (fileOf pool16 1 #[.nestMembers #[189]] #[{ accessFlags := 8, nameIndex := 77, descriptorIndex := 78, attributes := #[] }, { accessFlags := 8, nameIndex := 74, descriptorIndex := 54, attributes := #[] }] 49 203 #[304, 306, 308] #[{ accessFlags := 25, nameIndex := 310, descriptorIndex := 194, attributes := #[] }, { accessFlags := 25, nameIndex := 312, descriptorIndex := 194, attributes := #[] }, { accessFlags := 25, nameIndex := 302, descriptorIndex := 303, attributes := #[] }, { accessFlags := 24, nameIndex := 19, descriptorIndex := 20, attributes := #[] }, { accessFlags := 24, nameIndex := 89, descriptorIndex := 86, attributes := #[] }, { accessFlags := 24, nameIndex := 85, descriptorIndex := 86, attributes := #[] }, { accessFlags := 18, nameIndex := 207, descriptorIndex := 194, attributes := #[] }, { accessFlags := 25, nameIndex := 316, descriptorIndex := 194, attributes := #[] }, { accessFlags := 25, nameIndex := 318, descriptorIndex := 194, attributes := #[] }, { accessFlags := 26, nameIndex := 320, descriptorIndex := 321, attributes := #[] }])
  fields := #[{ name := "MIN_VALUE", type := .int, accessFlags := 25, slot := 0, constantValue := 0 }, { name := "MAX_VALUE", type := .int, accessFlags := 25, slot := 1, constantValue := 0 }, { name := "TYPE", type := (.object "java/lang/Class"), accessFlags := 25, slot := 2, constantValue := 0 }, { name := "digits", type := (.array .char), accessFlags := 24, slot := 3, constantValue := 0 }, { name := "DigitTens", type := (.array .byte), accessFlags := 24, slot := 4, constantValue := 0 }, { name := "DigitOnes", type := (.array .byte), accessFlags := 24, slot := 5, constantValue := 0 }, { name := "value", type := .int, accessFlags := 18, slot := 0, constantValue := 0 }, { name := "SIZE", type := .int, accessFlags := 25, slot := 6, constantValue := 0 }, { name := "BYTES", type := .int, accessFlags := 25, slot := 7, constantValue := 0 }, { name := "serialVersionUID", type := .long, accessFlags := 26, slot := 8, constantValue := 0 }]
  methods := #[k16m0, k16m1]
  instanceTypes := #[.int]
  staticTypes := #[.int, .int, (.object "java/lang/Class"), (.array .char), (.array .byte), (.array .byte), .int, .int, .long]
  resolved := Array.replicate 453 none
  statics := some 1 }

def pool17 : Array CpInfo := pool [(2, .class_ 4), (1, u "java/lang/Object"), (0, u "<init>"), (0, u "()V"), (7, .class_ 16), (1, u "java/util/Arrays"), (57, .class_ 76), (1, u "java/util/Arrays$NaturalOrder"), (36, .class_ 115), (1, u "java/util/Arrays$LegacyMergeSort"), (1, u "Z"), (21, u "copyOfRange"), (10, .methodref 151 152), (0, .class_ 153), (0, .nameAndType 154 155), (0, u "java/lang/System"), (0, u "arraycopy"), (0, u "(Ljava/lang/Object;ILjava/lang/Object;II)V"), (148, .methodref 305 306), (0, .class_ 307), (0, .nameAndType 308 309), (0, u "java/lang/Math"), (0, u "min"), (0, u "(II)I"), (29, .methodref 14 340), (0, .nameAndType 341 342), (0, u "copyOfRangeByte"), (0, u "([BII)[B"), (0, .methodref 14 344), (0, .nameAndType 345 346), (0, u "checkLength"), (0, u "(II)V"), (28, .class_ 376), (0, u "java/util/Arrays$ArrayList"), (68, u "$assertionsDisabled"), (269, u "MIN_ARRAY_SORT_GRAN"), (0, u "I"), (2, u "INSERTIONSORT_THRESHOLD"), (255, .class_ 976), (0, u "java/util/Arrays$ArrayItr")] 52

def k17m0 : Method := { name := "<init>", desc := "()V", sig := { parameters := [], returnType := none }, accessFlags := 2, code := none }
def k17c1 : Code := { maxStack := 4, maxLocals := 2, code := jdk_65_method_131_code, exceptionTable := #[], attributes := #[] }
def k17m1 : Method := { name := "checkLength", desc := "(II)V", sig := { parameters := [.int, .int], returnType := none }, accessFlags := 10, code := some k17c1 }
def k17c2 : Code := { maxStack := 3, maxLocals := 3, code := jdk_65_method_132_code, exceptionTable := #[], attributes := #[] }
def k17m2 : Method := { name := "copyOfRange", desc := "([BII)[B", sig := { parameters := [(.array .byte), .int, .int], returnType := some (.array .byte) }, accessFlags := 9, code := some k17c2 }
def k17c3 : Code := { maxStack := 6, maxLocals := 5, code := jdk_65_method_133_code, exceptionTable := #[], attributes := #[] }
def k17m3 : Method := { name := "copyOfRangeByte", desc := "([BII)[B", sig := { parameters := [(.array .byte), .int, .int], returnType := some (.array .byte) }, accessFlags := 10, code := some k17c3 }
/-- java/util/Arrays -/
def k17 : Class := { plain "java/util/Arrays" (some 0) with
  accessFlags := 49
  interfaces := #[]
  cf := some (fileOf pool17 14 #[.nestMembers #[975, 375, 113, 74]] #[{ accessFlags := 2, nameIndex := 5, descriptorIndex := 6, attributes := #[] }, { accessFlags := 10, nameIndex := 345, descriptorIndex := 346, attributes := #[] }, { accessFlags := 9, nameIndex := 139, descriptorIndex := 342, attributes := #[] }, { accessFlags := 10, nameIndex := 341, descriptorIndex := 342, attributes := #[] }] 49 2 #[] #[{ accessFlags := 26, nameIndex := 715, descriptorIndex := 716, attributes := #[] }, { accessFlags := 26, nameIndex := 719, descriptorIndex := 716, attributes := #[] }, { accessFlags := 4120, nameIndex := 445, descriptorIndex := 117, attributes := #[] }])
  fields := #[{ name := "MIN_ARRAY_SORT_GRAN", type := .int, accessFlags := 26, slot := 0, constantValue := 0 }, { name := "INSERTIONSORT_THRESHOLD", type := .int, accessFlags := 26, slot := 1, constantValue := 0 }, { name := "$assertionsDisabled", type := .boolean, accessFlags := 4120, slot := 2, constantValue := 0 }]
  methods := #[k17m0, k17m1, k17m2, k17m3]
  instanceTypes := #[]
  staticTypes := #[.int, .int, .boolean]
  resolved := Array.replicate 1029 none
  statics := none }

def pool18 : Array CpInfo := pool [(1, .class_ 2), (0, u "java/lang/Math"), (1, .class_ 6), (1, u "java/lang/Object"), (0, u "<init>"), (0, u "()V"), (89, .class_ 100), (1, u "java/lang/Math$RandomNumberGeneratorHolder"), (71, u "negativeZeroFloatBits"), (0, u "J"), (2, u "negativeZeroDoubleBits"), (24, u "min"), (43, u "$assertionsDisabled"), (0, u "Z"), (88, u "(II)I"), (2, u "twoToTheDoubleScaleDown"), (0, u "D"), (4, u "twoToTheDoubleScaleUp"), (9, u "E"), (3, u "PI"), (2, u "TAU"), (2, u "DEGREES_TO_RADIANS"), (0, u "RADIANS_TO_DEGREES")] 94

def k18m0 : Method := { name := "<init>", desc := "()V", sig := { parameters := [], returnType := none }, accessFlags := 2, code := none }
def k18c1 : Code := { maxStack := 2, maxLocals := 2, code := jdk_29_method_69_code, exceptionTable := #[], attributes := #[] }
def k18m1 : Method := { name := "min", desc := "(II)I", sig := { parameters := [.int, .int], returnType := some .int }, accessFlags := 9, code := some k18c1 }
/-- java/lang/Math -/
def k18 : Class := { plain "java/lang/Math" (some 0) with
  accessFlags := 49
  interfaces := #[]
  cf := some (fileOf pool18 1 #[.nestMembers #[98]] #[{ accessFlags := 2, nameIndex := 7, descriptorIndex := 8, attributes := #[] }, { accessFlags := 9, nameIndex := 201, descriptorIndex := 335, attributes := #[] }] 49 4 #[] #[{ accessFlags := 25, nameIndex := 354, descriptorIndex := 339, attributes := #[] }, { accessFlags := 25, nameIndex := 358, descriptorIndex := 339, attributes := #[] }, { accessFlags := 25, nameIndex := 361, descriptorIndex := 339, attributes := #[] }, { accessFlags := 26, nameIndex := 364, descriptorIndex := 339, attributes := #[] }, { accessFlags := 26, nameIndex := 365, descriptorIndex := 339, attributes := #[] }, { accessFlags := 26, nameIndex := 172, descriptorIndex := 173, attributes := #[] }, { accessFlags := 26, nameIndex := 176, descriptorIndex := 173, attributes := #[] }, { accessFlags := 8, nameIndex := 344, descriptorIndex := 339, attributes := #[] }, { accessFlags := 8, nameIndex := 338, descriptorIndex := 339, attributes := #[] }, { accessFlags := 4120, nameIndex := 245, descriptorIndex := 246, attributes := #[] }])
  fields := #[{ name := "E", type := .double, accessFlags := 25, slot := 0, constantValue := 0 }, { name := "PI", type := .double, accessFlags := 25, slot := 1, constantValue := 0 }, { name := "TAU", type := .double, accessFlags := 25, slot := 2, constantValue := 0 }, { name := "DEGREES_TO_RADIANS", type := .double, accessFlags := 26, slot := 3, constantValue := 0 }, { name := "RADIANS_TO_DEGREES", type := .double, accessFlags := 26, slot := 4, constantValue := 0 }, { name := "negativeZeroFloatBits", type := .long, accessFlags := 26, slot := 5, constantValue := 0 }, { name := "negativeZeroDoubleBits", type := .long, accessFlags := 26, slot := 6, constantValue := 0 }, { name := "twoToTheDoubleScaleUp", type := .double, accessFlags := 8, slot := 7, constantValue := 0 }, { name := "twoToTheDoubleScaleDown", type := .double, accessFlags := 8, slot := 8, constantValue := 0 }, { name := "$assertionsDisabled", type := .boolean, accessFlags := 4120, slot := 9, constantValue := 0 }]
  methods := #[k18m0, k18m1]
  instanceTypes := #[]
  staticTypes := #[.double, .double, .double, .double, .double, .long, .long, .double, .double, .boolean]
  resolved := Array.replicate 460 none
  statics := none }

def pool19 : Array CpInfo := pool [(2, .class_ 4), (1, u "java/lang/Object"), (0, u "<init>"), (0, u "()V"), (17, .class_ 26), (1, u "jdk/internal/util/Preconditions"), (6, u "checkIndex"), (21, .class_ 56), (0, u "jdk/internal/util/Preconditions$4"), (57, .class_ 115), (0, u "jdk/internal/util/Preconditions$1"), (7, u "SIOOBE_FORMATTER"), (0, u "Ljava/util/function/BiFunction;"), (0, .class_ 126), (0, u "jdk/internal/util/Preconditions$2"), (3, u "AIOOBE_FORMATTER"), (0, .class_ 132), (0, u "jdk/internal/util/Preconditions$3"), (3, u "IOOBE_FORMATTER"), (41, u "(IILjava/util/function/BiFunction;)I")] 15

def k19m0 : Method := { name := "<init>", desc := "()V", sig := { parameters := [], returnType := none }, accessFlags := 1, code := none }
def k19c1 : Code := { maxStack := 3, maxLocals := 3, code := jdk_41_method_11_code, exceptionTable := #[], attributes := #[] }
def k19m1 : Method := { name := "checkIndex", desc := "(IILjava/util/function/BiFunction;)I", sig := { parameters := [.int, .int, (.object "java/util/function/BiFunction")], returnType := some .int }, accessFlags := 9, code := some k19c1 }
/-- jdk/internal/util/Preconditions -/
def k19 : Class := { plain "jdk/internal/util/Preconditions" (some 0) with
  accessFlags := 33
  interfaces := #[]
  cf := some (fileOf pool19 24 #[.nestMembers #[55, 131, 125, 114]] #[{ accessFlags := 1, nameIndex := 5, descriptorIndex := 6, attributes := #[] }, { accessFlags := 9, nameIndex := 33, descriptorIndex := 178, attributes := #[] }] 33 2 #[] #[{ accessFlags := 25, nameIndex := 123, descriptorIndex := 124, attributes := #[] }, { accessFlags := 25, nameIndex := 130, descriptorIndex := 124, attributes := #[] }, { accessFlags := 25, nameIndex := 136, descriptorIndex := 124, attributes := #[] }])
  fields := #[{ name := "SIOOBE_FORMATTER", type := (.object "java/util/function/BiFunction"), accessFlags := 25, slot := 0, constantValue := 0 }, { name := "AIOOBE_FORMATTER", type := (.object "java/util/function/BiFunction"), accessFlags := 25, slot := 1, constantValue := 0 }, { name := "IOOBE_FORMATTER", type := (.object "java/util/function/BiFunction"), accessFlags := 25, slot := 2, constantValue := 0 }]
  methods := #[k19m0, k19m1]
  instanceTypes := #[]
  staticTypes := #[(.object "java/util/function/BiFunction"), (.object "java/util/function/BiFunction"), (.object "java/util/function/BiFunction")]
  resolved := Array.replicate 194 none
  statics := some 2 }

def pool20 : Array CpInfo := pool [(9, u "<init>"), (6, .class_ 18), (1, u "java/lang/Object"), (0, u "()V"), (1, .class_ 23), (1, u "jdk/internal/util/ArraysSupport"), (0, u "LOG2_ARRAY_LONG_INDEX_SCALE"), (0, u "I"), (2, u "U"), (0, u "Ljdk/internal/misc/Unsafe;"), (8, u "BIG_ENDIAN"), (0, u "Z"), (8, u "LOG2_BYTE_BIT_SIZE"), (4, u "LOG2_ARRAY_INT_INDEX_SCALE"), (54, u "JLA"), (0, u "Ljdk/internal/access/JavaLangAccess;"), (11, u "LOG2_ARRAY_BOOLEAN_INDEX_SCALE"), (9, u "LOG2_ARRAY_BYTE_INDEX_SCALE"), (5, u "LOG2_ARRAY_CHAR_INDEX_SCALE"), (5, u "LOG2_ARRAY_SHORT_INDEX_SCALE"), (5, u "mismatch"), (12, u "LOG2_ARRAY_FLOAT_INDEX_SCALE"), (24, u "LOG2_ARRAY_DOUBLE_INDEX_SCALE"), (89, u "T_BOOLEAN"), (2, u "T_CHAR"), (1, u "T_FLOAT"), (1, u "T_DOUBLE"), (1, u "T_BYTE"), (1, u "T_SHORT"), (1, u "T_INT"), (1, u "T_LONG"), (1, u "SOFT_MAX_ARRAY_LENGTH"), (42, u "([BI[BII)I")] 40

def k20m0 : Method := { name := "<init>", desc := "()V", sig := { parameters := [], returnType := none }, accessFlags := 2, code := none }
def k20c1 : Code := { maxStack := 8, maxLocals := 8, code := jdk_48_method_14_code, exceptionTable := #[], attributes := #[] }
def k20m1 : Method := { name := "mismatch", desc := "([BI[BII)I", sig := { parameters := [(.array .byte), .int, (.array .byte), .int, .int], returnType := some .int }, accessFlags := 9, code := some k20c1 }
/-- jdk/internal/util/ArraysSupport -/
def k20 : Class := { plain "jdk/internal/util/ArraysSupport" (some 0) with
  accessFlags := 33
  interfaces := #[]
  cf := some (fileOf pool20 21 #[] #[{ accessFlags := 2, nameIndex := 9, descriptorIndex := 19, attributes := #[] }, { accessFlags := 9, nameIndex := 149, descriptorIndex := 337, attributes := #[] }] 33 16 #[] #[{ accessFlags := 24, nameIndex := 28, descriptorIndex := 29, attributes := #[] }, { accessFlags := 26, nameIndex := 38, descriptorIndex := 39, attributes := #[] }, { accessFlags := 25, nameIndex := 121, descriptorIndex := 25, attributes := #[] }, { accessFlags := 25, nameIndex := 131, descriptorIndex := 25, attributes := #[] }, { accessFlags := 25, nameIndex := 137, descriptorIndex := 25, attributes := #[] }, { accessFlags := 25, nameIndex := 143, descriptorIndex := 25, attributes := #[] }, { accessFlags := 25, nameIndex := 53, descriptorIndex := 25, attributes := #[] }, { accessFlags := 25, nameIndex := 24, descriptorIndex := 25, attributes := #[] }, { accessFlags := 25, nameIndex := 162, descriptorIndex := 25, attributes := #[] }, { accessFlags := 25, nameIndex := 187, descriptorIndex := 25, attributes := #[] }, { accessFlags := 26, nameIndex := 48, descriptorIndex := 25, attributes := #[] }, { accessFlags := 25, nameIndex := 277, descriptorIndex := 25, attributes := #[] }, { accessFlags := 25, nameIndex := 280, descriptorIndex := 25, attributes := #[] }, { accessFlags := 25, nameIndex := 282, descriptorIndex := 25, attributes := #[] }, { accessFlags := 25, nameIndex := 284, descriptorIndex := 25, attributes := #[] }, { accessFlags := 25, nameIndex := 286, descriptorIndex := 25, attributes := #[] }, { accessFlags := 25, nameIndex := 288, descriptorIndex := 25, attributes := #[] }, { accessFlags := 25, nameIndex := 290, descriptorIndex := 25, attributes := #[] }, { accessFlags := 25, nameIndex := 292, descriptorIndex := 25, attributes := #[] }, { accessFlags := 26, nameIndex := 108, descriptorIndex := 109, attributes := #[] }, { accessFlags := 25, nameIndex := 294, descriptorIndex := 25, attributes := #[] }])
  fields := #[{ name := "U", type := (.object "jdk/internal/misc/Unsafe"), accessFlags := 24, slot := 0, constantValue := 0 }, { name := "BIG_ENDIAN", type := .boolean, accessFlags := 26, slot := 1, constantValue := 0 }, { name := "LOG2_ARRAY_BOOLEAN_INDEX_SCALE", type := .int, accessFlags := 25, slot := 2, constantValue := 0 }, { name := "LOG2_ARRAY_BYTE_INDEX_SCALE", type := .int, accessFlags := 25, slot := 3, constantValue := 0 }, { name := "LOG2_ARRAY_CHAR_INDEX_SCALE", type := .int, accessFlags := 25, slot := 4, constantValue := 0 }, { name := "LOG2_ARRAY_SHORT_INDEX_SCALE", type := .int, accessFlags := 25, slot := 5, constantValue := 0 }, { name := "LOG2_ARRAY_INT_INDEX_SCALE", type := .int, accessFlags := 25, slot := 6, constantValue := 0 }, { name := "LOG2_ARRAY_LONG_INDEX_SCALE", type := .int, accessFlags := 25, slot := 7, constantValue := 0 }, { name := "LOG2_ARRAY_FLOAT_INDEX_SCALE", type := .int, accessFlags := 25, slot := 8, constantValue := 0 }, { name := "LOG2_ARRAY_DOUBLE_INDEX_SCALE", type := .int, accessFlags := 25, slot := 9, constantValue := 0 }, { name := "LOG2_BYTE_BIT_SIZE", type := .int, accessFlags := 26, slot := 10, constantValue := 0 }, { name := "T_BOOLEAN", type := .int, accessFlags := 25, slot := 11, constantValue := 0 }, { name := "T_CHAR", type := .int, accessFlags := 25, slot := 12, constantValue := 0 }, { name := "T_FLOAT", type := .int, accessFlags := 25, slot := 13, constantValue := 0 }, { name := "T_DOUBLE", type := .int, accessFlags := 25, slot := 14, constantValue := 0 }, { name := "T_BYTE", type := .int, accessFlags := 25, slot := 15, constantValue := 0 }, { name := "T_SHORT", type := .int, accessFlags := 25, slot := 16, constantValue := 0 }, { name := "T_INT", type := .int, accessFlags := 25, slot := 17, constantValue := 0 }, { name := "T_LONG", type := .int, accessFlags := 25, slot := 18, constantValue := 0 }, { name := "JLA", type := (.object "jdk/internal/access/JavaLangAccess"), accessFlags := 26, slot := 19, constantValue := 0 }, { name := "SOFT_MAX_ARRAY_LENGTH", type := .int, accessFlags := 25, slot := 20, constantValue := 0 }]
  methods := #[k20m0, k20m1]
  instanceTypes := #[]
  staticTypes := #[(.object "jdk/internal/misc/Unsafe"), .boolean, .int, .int, .int, .int, .int, .int, .int, .int, .int, .int, .int, .int, .int, .int, .int, .int, .int, (.object "jdk/internal/access/JavaLangAccess"), .int]
  resolved := Array.replicate 378 none
  statics := none }

def pool21 : Array CpInfo := pool [(1, u "java/lang/Cloneable"), (0, .class_ 1), (0, u "java/lang/Object"), (0, .class_ 3)] 3

/-- java/lang/Cloneable -/
def k21 : Class := { plain "java/lang/Cloneable" (some 0) with
  accessFlags := 1537
  interfaces := #[]
  cf := some (fileOf pool21 2 #[] #[] 1537 4 #[] #[])
  fields := #[]
  methods := #[]
  instanceTypes := #[]
  staticTypes := #[]
  resolved := Array.replicate 8 none
  statics := none }

/-- the primitive byte -/
def k22 : Class := { plain "byte" none with kind := .primitive 'B', accessFlags := 0x411 }
/-- [B -/
def k23 : Class := { plain "[B" (some 0) with kind := .array 22 .byte, interfaces := #[21, 2], accessFlags := 1041 }

/-- the primitive char -/
def k24 : Class := { plain "char" none with kind := .primitive 'C', accessFlags := 0x411 }
/-- [C -/
def k25 : Class := { plain "[C" (some 0) with kind := .array 24 .char, interfaces := #[21, 2], accessFlags := 1041 }

/-- the primitive int -/
def k26 : Class := { plain "int" none with kind := .primitive 'I', accessFlags := 0x411 }
/-- [I -/
def k27 : Class := { plain "[I" (some 0) with kind := .array 26 .int, interfaces := #[21, 2], accessFlags := 1041 }

def heap : Heap := #[{ cls := 7, slots := #[.long 0, .int 1, .null, .int 0, .null, .int 0, .int 0], vm := .statics 7 },
  { cls := 16, slots := #[.int 0, .int 0, .null, .null, .ref 4, .ref 3, .int 0, .int 0, .long 0], vm := .statics 16 },
  { cls := 19, slots := #[.null, .null, .null], vm := .statics 19 },
  { cls := 23, slots := #[.int 48, .int 49, .int 50, .int 51, .int 52, .int 53, .int 54, .int 55, .int 56, .int 57, .int 48, .int 49, .int 50, .int 51, .int 52, .int 53, .int 54, .int 55, .int 56, .int 57, .int 48, .int 49, .int 50, .int 51, .int 52, .int 53, .int 54, .int 55, .int 56, .int 57, .int 48, .int 49, .int 50, .int 51, .int 52, .int 53, .int 54, .int 55, .int 56, .int 57, .int 48, .int 49, .int 50, .int 51, .int 52, .int 53, .int 54, .int 55, .int 56, .int 57, .int 48, .int 49, .int 50, .int 51, .int 52, .int 53, .int 54, .int 55, .int 56, .int 57, .int 48, .int 49, .int 50, .int 51, .int 52, .int 53, .int 54, .int 55, .int 56, .int 57, .int 48, .int 49, .int 50, .int 51, .int 52, .int 53, .int 54, .int 55, .int 56, .int 57, .int 48, .int 49, .int 50, .int 51, .int 52, .int 53, .int 54, .int 55, .int 56, .int 57, .int 48, .int 49, .int 50, .int 51, .int 52, .int 53, .int 54, .int 55, .int 56, .int 57], vm := .none },
  { cls := 23, slots := #[.int 48, .int 48, .int 48, .int 48, .int 48, .int 48, .int 48, .int 48, .int 48, .int 48, .int 49, .int 49, .int 49, .int 49, .int 49, .int 49, .int 49, .int 49, .int 49, .int 49, .int 50, .int 50, .int 50, .int 50, .int 50, .int 50, .int 50, .int 50, .int 50, .int 50, .int 51, .int 51, .int 51, .int 51, .int 51, .int 51, .int 51, .int 51, .int 51, .int 51, .int 52, .int 52, .int 52, .int 52, .int 52, .int 52, .int 52, .int 52, .int 52, .int 52, .int 53, .int 53, .int 53, .int 53, .int 53, .int 53, .int 53, .int 53, .int 53, .int 53, .int 54, .int 54, .int 54, .int 54, .int 54, .int 54, .int 54, .int 54, .int 54, .int 54, .int 55, .int 55, .int 55, .int 55, .int 55, .int 55, .int 55, .int 55, .int 55, .int 55, .int 56, .int 56, .int 56, .int 56, .int 56, .int 56, .int 56, .int 56, .int 56, .int 56, .int 57, .int 57, .int 57, .int 57, .int 57, .int 57, .int 57, .int 57, .int 57, .int 57], vm := .none }]
def classes : Array Class := #[k0, k1, k2, k3, k4, k5, k6, k7, k8, k9, k10, k11, k12, k13, k14, k15, k16, k17, k18, k19, k20, k21, k22, k23, k24, k25, k26, k27]
def interned : List (Array UInt16 × Addr) := []
def slotsUsed : Nat := 219
def theMethod : MethodId := ⟨1, 1⟩
def args0 : Array Value := #[.int 65, .int 66, .int 8080]
def aboutOver (below : List Frame) : State where
  vm := { classes := classes, interned := interned.toArray }
  heap := heap
  slotsUsed := slotsUsed
  threads := #[{ frames := .invoking theMethod args0 :: below }]
def below0 : List Frame := [.native { method := ⟨0, 0⟩, args := #[] }]
def about1 : State := aboutOver below0
def p0 : Program := .bare "" "" ""
def e0 : Env := launch0.env 0 0 0
theorem w_frames : about1.frames = Frame.invoking theMethod args0 :: below0 := rfl
set_option maxRecDepth 65536 in
theorem w_args : argsFit about1.vm theMethod args0 = true := by decide +kernel
set_option maxRecDepth 65536 in
theorem w_heap : heapFits about1 = true := by decide +kernel
set_option maxRecDepth 65536 in
theorem w_runnable : about1.curStatus? = some .runnable := by decide +kernel
set_option maxRecDepth 65536 in
theorem w_alone : about1.alone = true := by decide +kernel
set_option maxRecDepth 65536 in
theorem w_named : about1.methodNamed? x = some theMethod := by decide +kernel
set_option maxRecDepth 65536 in
theorem w_hears : about1.hears theMethod below0 = true := by decide +kernel
set_option maxRecDepth 65536 in
theorem w_ripe : about1.ripe theMethod args0 below0 = true := by decide +kernel
theorem w_running : about1.status = .running := rfl
set_option maxRecDepth 65536 in
theorem w_room : about1.hasRoom e0.platform room_1 = true :=
  launch0.hasRoom_least _ room_1 (by decide +kernel) (by decide +kernel) (by decide +kernel) (by decide +kernel) (by decide +kernel) (by decide +kernel)
theorem allAtoms_all (ts : List Jvm.Cond) (a : Array Jvm.Value) (st : Jvm.State) : (allAtoms ts).before a st = ts.all (fun c => c.before a st) := by
  induction ts with
  | nil => rfl
  | cons c t ih =>
    show (Jvm.Cond.and c (allAtoms t)).before a st = _
    rw [Jvm.Cond.before_and, ih, List.all_cons]
def words1 : List Jvm.Cond := Jvm.Cond.code x code maxLocals ret :: tables_1
/-- a 'code' word, met by the world's own term for the bytes: nothing is compared byte by byte -/
theorem code_word {y : MethodName} {bytes : ByteArray} {mx : Nat} {rt : Option FieldType} {a : Array Value} {s : State} {m : MethodId} {meth : Method} {c : Code} (h1 : s.methodNamed? y = some m) (h2 : s.vm.method? m = some meth) (h3 : meth.code = some c) (h4 : c.code = bytes)
    (h5 : (c.maxLocals == mx && c.exceptionTable.isEmpty && decide (c.maxStack ≤ mostOperands) && decide (meth.sig.returnType = rt) && !meth.locks && decide (parseMethodDescriptor y.desc = some meth.sig)) = true) : (Jvm.Cond.code y bytes mx rt).before a s = true := by
  simp only [Bool.and_eq_true, beq_iff_eq, Bool.not_eq_true', decide_eq_true_eq] at h5
  obtain ⟨⟨⟨⟨⟨g1, g2⟩, g3⟩, g4⟩, g5⟩, g6⟩ := h5
  simp [Cond.before, Cond.holds, Cond.value, h1, h2, h3, h4, g1, g2, g3, g4, g5, g6]
def isCode : Jvm.Cond → Bool
  | .code _ _ _ _ => true
  | _ => false
theorem all_split {L : List Jvm.Cond} {P : Jvm.Cond → Bool} (h1 : L.all (fun c => isCode c || P c) = true) (h2 : ∀ c ∈ L.filter isCode, P c = true) : L.all P = true := by
  refine List.all_eq_true.mpr fun c hc => ?_
  have h := List.all_eq_true.mp h1 c hc
  rcases Bool.eq_false_or_eq_true (isCode c) with hi | hi
  · exact h2 c (List.mem_filter.mpr ⟨hc, hi⟩)
  · simpa [hi] using h
set_option maxRecDepth 65536 in
theorem w_c0 : (Jvm.Cond.code x code maxLocals ret).before args0 about1 = true := code_word (m := ⟨1, 1⟩) (meth := k1m1) (c := k1c1) (by decide +kernel) rfl rfl rfl (by decide +kernel)
set_option maxRecDepth 65536 in
theorem w_c1 : (Jvm.Cond.code ({ cls := "java/lang/String", name := "<init>", desc := "([C)V" } : Jvm.MethodName) jdk_42_method_3_code (2 : Nat) (Option.none : Option Jvm.ClassFile.FieldType)).before args0 about1 = true := code_word (m := ⟨7, 1⟩) (meth := k7m1) (c := k7c1) (by decide +kernel) rfl rfl rfl (by decide +kernel)
set_option maxRecDepth 65536 in
theorem w_c2 : (Jvm.Cond.code ({ cls := "java/lang/String", name := "<init>", desc := "([CIILjava/lang/Void;)V" } : Jvm.MethodName) jdk_42_method_149_code (6 : Nat) (Option.none : Option Jvm.ClassFile.FieldType)).before args0 about1 = true := code_word (m := ⟨7, 11⟩) (meth := k7m11) (c := k7c11) (by decide +kernel) rfl rfl rfl (by decide +kernel)
set_option maxRecDepth 65536 in
theorem w_c3 : (Jvm.Cond.code ({ cls := "java/lang/Object", name := "<init>", desc := "()V" } : Jvm.MethodName) object_method_1_code (1 : Nat) (Option.none : Option Jvm.ClassFile.FieldType)).before args0 about1 = true := code_word (m := ⟨0, 0⟩) (meth := k0m0) (c := k0c0) (by decide +kernel) rfl rfl rfl (by decide +kernel)
set_option maxRecDepth 65536 in
theorem w_c4 : (Jvm.Cond.code ({ cls := "java/lang/StringUTF16", name := "compress", desc := "([CII)[B" } : Jvm.MethodName) jdk_52_method_16_code (6 : Nat) (Option.some (Jvm.ClassFile.FieldType.array Jvm.ClassFile.FieldType.byte))).before args0 about1 = true := code_word (m := ⟨8, 2⟩) (meth := k8m2) (c := k8c2) (by decide +kernel) rfl rfl rfl (by decide +kernel)
set_option maxRecDepth 65536 in
theorem w_c5 : (Jvm.Cond.code ({ cls := "java/lang/StringUTF16", name := "compress", desc := "([CI[BII)I" } : Jvm.MethodName) jdk_52_method_21_code (7 : Nat) (Option.some Jvm.ClassFile.FieldType.int)).before args0 about1 = true := code_word (m := ⟨8, 3⟩) (meth := k8m3) (c := k8c3) (by decide +kernel) rfl rfl rfl (by decide +kernel)
set_option maxRecDepth 65536 in
theorem w_c6 : (Jvm.Cond.code ({ cls := "java/lang/StringUTF16", name := "coderFromArrayLen", desc := "([BI)B" } : Jvm.MethodName) jdk_52_method_15_code (2 : Nat) (Option.some Jvm.ClassFile.FieldType.byte)).before args0 about1 = true := code_word (m := ⟨8, 1⟩) (meth := k8m1) (c := k8c1) (by decide +kernel) rfl rfl rfl (by decide +kernel)
set_option maxRecDepth 65536 in
theorem w_c7 : (Jvm.Cond.code ({ cls := "com/example/lanternwood/lanternwood/ReplAddress", name := "tcp", desc := "(Ljava/lang/String;I)Lcom/example/lanternwood/lanternwood/ReplAddress;" } : Jvm.MethodName) prog_17_method_2_code (2 : Nat) (Option.some (Jvm.ClassFile.FieldType.object "com/example/lanternwood/lanternwood/ReplAddress"))).before args0 about1 = true := code_word (m := ⟨9, 1⟩) (meth := k9m1) (c := k9c1) (by decide +kernel) rfl rfl rfl (by decide +kernel)
set_option maxRecDepth 65536 in
theorem w_c8 : (Jvm.Cond.code ({ cls := "com/example/lanternwood/lanternwood/ReplAddress", name := "<init>", desc := "(Ljava/lang/String;ILjava/nio/file/Path;Ljava/nio/file/Path;)V" } : Jvm.MethodName) prog_17_method_1_code (5 : Nat) (Option.none : Option Jvm.ClassFile.FieldType)).before args0 about1 = true := code_word (m := ⟨9, 0⟩) (meth := k9m0) (c := k9c0) (by decide +kernel) rfl rfl rfl (by decide +kernel)
set_option maxRecDepth 65536 in
theorem w_c9 : (Jvm.Cond.code ({ cls := "com/example/lanternwood/lanternwood/ReplAddress", name := "toString", desc := "()Ljava/lang/String;" } : Jvm.MethodName) prog_17_method_12_code (3 : Nat) (Option.some (Jvm.ClassFile.FieldType.object "java/lang/String"))).before args0 about1 = true := code_word (m := ⟨9, 2⟩) (meth := k9m2) (c := k9c2) (by decide +kernel) rfl rfl rfl (by decide +kernel)
set_option maxRecDepth 65536 in
theorem w_c10 : (Jvm.Cond.code ({ cls := "java/lang/String", name := "contains", desc := "(Ljava/lang/CharSequence;)Z" } : Jvm.MethodName) jdk_42_method_97_code (2 : Nat) (Option.some Jvm.ClassFile.FieldType.boolean)).before args0 about1 = true := code_word (m := ⟨7, 8⟩) (meth := k7m8) (c := k7c8) (by decide +kernel) rfl rfl rfl (by decide +kernel)
set_option maxRecDepth 65536 in
theorem w_c11 : (Jvm.Cond.code ({ cls := "java/lang/String", name := "toString", desc := "()Ljava/lang/String;" } : Jvm.MethodName) jdk_42_method_126_code (1 : Nat) (Option.some (Jvm.ClassFile.FieldType.object "java/lang/String"))).before args0 about1 = true := code_word (m := ⟨7, 9⟩) (meth := k7m9) (c := k7c9) (by decide +kernel) rfl rfl rfl (by decide +kernel)
set_option maxRecDepth 65536 in
theorem w_c12 : (Jvm.Cond.code ({ cls := "java/lang/String", name := "indexOf", desc := "(Ljava/lang/String;)I" } : Jvm.MethodName) jdk_42_method_84_code (3 : Nat) (Option.some Jvm.ClassFile.FieldType.int)).before args0 about1 = true := code_word (m := ⟨7, 7⟩) (meth := k7m7) (c := k7c7) (by decide +kernel) rfl rfl rfl (by decide +kernel)
set_option maxRecDepth 65536 in
theorem w_c13 : (Jvm.Cond.code ({ cls := "java/lang/String", name := "coder", desc := "()B" } : Jvm.MethodName) jdk_42_method_152_code (1 : Nat) (Option.some Jvm.ClassFile.FieldType.byte)).before args0 about1 = true := code_word (m := ⟨7, 13⟩) (meth := k7m13) (c := k7c13) (by decide +kernel) rfl rfl rfl (by decide +kernel)
set_option maxRecDepth 65536 in
theorem w_c14 : (Jvm.Cond.code ({ cls := "java/lang/String", name := "isLatin1", desc := "()Z" } : Jvm.MethodName) jdk_42_method_154_code (1 : Nat) (Option.some Jvm.ClassFile.FieldType.boolean)).before args0 about1 = true := code_word (m := ⟨7, 14⟩) (meth := k7m14) (c := k7c14) (by decide +kernel) rfl rfl rfl (by decide +kernel)
set_option maxRecDepth 65536 in
theorem w_c15 : (Jvm.Cond.code ({ cls := "java/lang/StringLatin1", name := "indexOf", desc := "([B[B)I" } : Jvm.MethodName) jdk_43_method_24_code (2 : Nat) (Option.some Jvm.ClassFile.FieldType.int)).before args0 about1 = true := code_word (m := ⟨10, 2⟩) (meth := k10m2) (c := k10c2) (by decide +kernel) rfl rfl rfl (by decide +kernel)
set_option maxRecDepth 65536 in
theorem w_c16 : (Jvm.Cond.code ({ cls := "java/lang/StringLatin1", name := "indexOf", desc := "([BI[BII)I" } : Jvm.MethodName) jdk_43_method_25_code (11 : Nat) (Option.some Jvm.ClassFile.FieldType.int)).before args0 about1 = true := code_word (m := ⟨10, 3⟩) (meth := k10m3) (c := k10c3) (by decide +kernel) rfl rfl rfl (by decide +kernel)
set_option maxRecDepth 65536 in
theorem w_c17 : (Jvm.Cond.code ({ cls := "java/lang/StringBuilder", name := "<init>", desc := "()V" } : Jvm.MethodName) jdk_67_method_1_code (1 : Nat) (Option.none : Option Jvm.ClassFile.FieldType)).before args0 about1 = true := code_word (m := ⟨13, 0⟩) (meth := k13m0) (c := k13c0) (by decide +kernel) rfl rfl rfl (by decide +kernel)
set_option maxRecDepth 65536 in
theorem w_c18 : (Jvm.Cond.code ({ cls := "java/lang/AbstractStringBuilder", name := "<init>", desc := "(I)V" } : Jvm.MethodName) jdk_68_method_2_code (2 : Nat) (Option.none : Option Jvm.ClassFile.FieldType)).before args0 about1 = true := code_word (m := ⟨12, 1⟩) (meth := k12m1) (c := k12c1) (by decide +kernel) rfl rfl rfl (by decide +kernel)
set_option maxRecDepth 65536 in
theorem w_c19 : (Jvm.Cond.code ({ cls := "java/lang/StringBuilder", name := "append", desc := "(Ljava/lang/String;)Ljava/lang/StringBuilder;" } : Jvm.MethodName) jdk_67_method_7_code (2 : Nat) (Option.some (Jvm.ClassFile.FieldType.object "java/lang/StringBuilder"))).before args0 about1 = true := code_word (m := ⟨13, 1⟩) (meth := k13m1) (c := k13c1) (by decide +kernel) rfl rfl rfl (by decide +kernel)
set_option maxRecDepth 65536 in
theorem w_c20 : (Jvm.Cond.code ({ cls := "java/lang/AbstractStringBuilder", name := "append", desc := "(Ljava/lang/String;)Ljava/lang/AbstractStringBuilder;" } : Jvm.MethodName) jdk_68_method_22_code (3 : Nat) (Option.some (Jvm.ClassFile.FieldType.object "java/lang/AbstractStringBuilder"))).before args0 about1 = true := code_word (m := ⟨12, 4⟩) (meth := k12m4) (c := k12c4) (by decide +kernel) rfl rfl rfl (by decide +kernel)
set_option maxRecDepth 65536 in
theorem w_c21 : (Jvm.Cond.code ({ cls := "java/lang/String", name := "length", desc := "()I" } : Jvm.MethodName) jdk_42_method_54_code (1 : Nat) (Option.some Jvm.ClassFile.FieldType.int)).before args0 about1 = true := code_word (m := ⟨7, 3⟩) (meth := k7m3) (c := k7c3) (by decide +kernel) rfl rfl rfl (by decide +kernel)
set_option maxRecDepth 65536 in
theorem w_c22 : (Jvm.Cond.code ({ cls := "java/lang/AbstractStringBuilder", name := "ensureCapacityInternal", desc := "(I)V" } : Jvm.MethodName) jdk_68_method_9_code (3 : Nat) (Option.none : Option Jvm.ClassFile.FieldType)).before args0 about1 = true := code_word (m := ⟨12, 3⟩) (meth := k12m3) (c := k12c3) (by decide +kernel) rfl rfl rfl (by decide +kernel)
set_option maxRecDepth 65536 in
theorem w_c23 : (Jvm.Cond.code ({ cls := "java/lang/AbstractStringBuilder", name := "putStringAt", desc := "(ILjava/lang/String;)V" } : Jvm.MethodName) jdk_68_method_73_code (3 : Nat) (Option.none : Option Jvm.ClassFile.FieldType)).before args0 about1 = true := code_word (m := ⟨12, 9⟩) (meth := k12m9) (c := k12c9) (by decide +kernel) rfl rfl rfl (by decide +kernel)
set_option maxRecDepth 65536 in
theorem w_c24 : (Jvm.Cond.code ({ cls := "java/lang/AbstractStringBuilder", name := "inflateIfNeededFor", desc := "(Ljava/lang/String;)V" } : Jvm.MethodName) jdk_68_method_71_code (2 : Nat) (Option.none : Option Jvm.ClassFile.FieldType)).before args0 about1 = true := code_word (m := ⟨12, 8⟩) (meth := k12m8) (c := k12c8) (by decide +kernel) rfl rfl rfl (by decide +kernel)
set_option maxRecDepth 65536 in
theorem w_c25 : (Jvm.Cond.code ({ cls := "java/lang/String", name := "getBytes", desc := "([BIB)V" } : Jvm.MethodName) jdk_42_method_147_code (4 : Nat) (Option.none : Option Jvm.ClassFile.FieldType)).before args0 about1 = true := code_word (m := ⟨7, 10⟩) (meth := k7m10) (c := k7c10) (by decide +kernel) rfl rfl rfl (by decide +kernel)
set_option maxRecDepth 65536 in
theorem w_c26 : (Jvm.Cond.code ({ cls := "java/lang/StringBuilder", name := "append", desc := "(I)Ljava/lang/StringBuilder;" } : Jvm.MethodName) jdk_67_method_15_code (2 : Nat) (Option.some (Jvm.ClassFile.FieldType.object "java/lang/StringBuilder"))).before args0 about1 = true := code_word (m := ⟨13, 2⟩) (meth := k13m2) (c := k13c2) (by decide +kernel) rfl rfl rfl (by decide +kernel)
set_option maxRecDepth 65536 in
theorem w_c27 : (Jvm.Cond.code ({ cls := "java/lang/AbstractStringBuilder", name := "append", desc := "(I)Ljava/lang/AbstractStringBuilder;" } : Jvm.MethodName) jdk_68_method_32_code (4 : Nat) (Option.some (Jvm.ClassFile.FieldType.object "java/lang/AbstractStringBuilder"))).before args0 about1 = true := code_word (m := ⟨12, 5⟩) (meth := k12m5) (c := k12c5) (by decide +kernel) rfl rfl rfl (by decide +kernel)
set_option maxRecDepth 65536 in
theorem w_c28 : (Jvm.Cond.code ({ cls := "java/lang/Integer", name := "stringSize", desc := "(I)I" } : Jvm.MethodName) jdk_33_method_13_code (4 : Nat) (Option.some Jvm.ClassFile.FieldType.int)).before args0 about1 = true := code_word (m := ⟨16, 1⟩) (meth := k16m1) (c := k16c1) (by decide +kernel) rfl rfl rfl (by decide +kernel)
set_option maxRecDepth 65536 in
theorem w_c29 : (Jvm.Cond.code ({ cls := "java/lang/AbstractStringBuilder", name := "isLatin1", desc := "()Z" } : Jvm.MethodName) jdk_68_method_68_code (1 : Nat) (Option.some Jvm.ClassFile.FieldType.boolean)).before args0 about1 = true := code_word (m := ⟨12, 7⟩) (meth := k12m7) (c := k12c7) (by decide +kernel) rfl rfl rfl (by decide +kernel)
set_option maxRecDepth 65536 in
theorem w_c30 : (Jvm.Cond.code ({ cls := "java/lang/Integer", name := "getChars", desc := "(II[B)I" } : Jvm.MethodName) jdk_33_method_12_code (7 : Nat) (Option.some Jvm.ClassFile.FieldType.int)).before args0 about1 = true := code_word (m := ⟨16, 0⟩) (meth := k16m0) (c := k16c0) (by decide +kernel) rfl rfl rfl (by decide +kernel)
set_option maxRecDepth 65536 in
theorem w_c31 : (Jvm.Cond.code ({ cls := "java/lang/StringBuilder", name := "toString", desc := "()Ljava/lang/String;" } : Jvm.MethodName) jdk_67_method_42_code (1 : Nat) (Option.some (Jvm.ClassFile.FieldType.object "java/lang/String"))).before args0 about1 = true := code_word (m := ⟨13, 3⟩) (meth := k13m3) (c := k13c3) (by decide +kernel) rfl rfl rfl (by decide +kernel)
set_option maxRecDepth 65536 in
theorem w_c32 : (Jvm.Cond.code ({ cls := "java/lang/String", name := "<init>", desc := "(Ljava/lang/StringBuilder;)V" } : Jvm.MethodName) jdk_42_method_53_code (2 : Nat) (Option.none : Option Jvm.ClassFile.FieldType)).before args0 about1 = true := code_word (m := ⟨7, 2⟩) (meth := k7m2) (c := k7c2) (by decide +kernel) rfl rfl rfl (by decide +kernel)
set_option maxRecDepth 65536 in
theorem w_c33 : (Jvm.Cond.code ({ cls := "java/lang/String", name := "<init>", desc := "(Ljava/lang/AbstractStringBuilder;Ljava/lang/Void;)V" } : Jvm.MethodName) jdk_42_method_150_code (5 : Nat) (Option.none : Option Jvm.ClassFile.FieldType)).before args0 about1 = true := code_word (m := ⟨7, 12⟩) (meth := k7m12) (c := k7c12) (by decide +kernel) rfl rfl rfl (by decide +kernel)
set_option maxRecDepth 65536 in
theorem w_c34 : (Jvm.Cond.code ({ cls := "java/lang/AbstractStringBuilder", name := "getValue", desc := "()[B" } : Jvm.MethodName) jdk_68_method_64_code (1 : Nat) (Option.some (Jvm.ClassFile.FieldType.array Jvm.ClassFile.FieldType.byte))).before args0 about1 = true := code_word (m := ⟨12, 6⟩) (meth := k12m6) (c := k12c6) (by decide +kernel) rfl rfl rfl (by decide +kernel)
set_option maxRecDepth 65536 in
theorem w_c35 : (Jvm.Cond.code ({ cls := "java/lang/StringBuilder", name := "length", desc := "()I" } : Jvm.MethodName) jdk_67_method_93_code (1 : Nat) (Option.some Jvm.ClassFile.FieldType.int)).before args0 about1 = true := code_word (m := ⟨13, 4⟩) (meth := k13m4) (c := k13c4) (by decide +kernel) rfl rfl rfl (by decide +kernel)
set_option maxRecDepth 65536 in
theorem w_c36 : (Jvm.Cond.code ({ cls := "java/lang/AbstractStringBuilder", name := "length", desc := "()I" } : Jvm.MethodName) jdk_68_method_6_code (1 : Nat) (Option.some Jvm.ClassFile.FieldType.int)).before args0 about1 = true := code_word (m := ⟨12, 2⟩) (meth := k12m2) (c := k12c2) (by decide +kernel) rfl rfl rfl (by decide +kernel)
set_option maxRecDepth 65536 in
theorem w_c37 : (Jvm.Cond.code ({ cls := "java/util/Arrays", name := "copyOfRange", desc := "([BII)[B" } : Jvm.MethodName) jdk_65_method_132_code (3 : Nat) (Option.some (Jvm.ClassFile.FieldType.array Jvm.ClassFile.FieldType.byte))).before args0 about1 = true := code_word (m := ⟨17, 2⟩) (meth := k17m2) (c := k17c2) (by decide +kernel) rfl rfl rfl (by decide +kernel)
set_option maxRecDepth 65536 in
theorem w_c38 : (Jvm.Cond.code ({ cls := "java/util/Arrays", name := "copyOfRangeByte", desc := "([BII)[B" } : Jvm.MethodName) jdk_65_method_133_code (5 : Nat) (Option.some (Jvm.ClassFile.FieldType.array Jvm.ClassFile.FieldType.byte))).before args0 about1 = true := code_word (m := ⟨17, 3⟩) (meth := k17m3) (c := k17c3) (by decide +kernel) rfl rfl rfl (by decide +kernel)
set_option maxRecDepth 65536 in
theorem w_c39 : (Jvm.Cond.code ({ cls := "java/util/Arrays", name := "checkLength", desc := "(II)V" } : Jvm.MethodName) jdk_65_method_131_code (2 : Nat) (Option.none : Option Jvm.ClassFile.FieldType)).before args0 about1 = true := code_word (m := ⟨17, 1⟩) (meth := k17m1) (c := k17c1) (by decide +kernel) rfl rfl rfl (by decide +kernel)
set_option maxRecDepth 65536 in
theorem w_c40 : (Jvm.Cond.code ({ cls := "java/lang/Math", name := "min", desc := "(II)I" } : Jvm.MethodName) jdk_29_method_69_code (2 : Nat) (Option.some Jvm.ClassFile.FieldType.int)).before args0 about1 = true := code_word (m := ⟨18, 1⟩) (meth := k18m1) (c := k18c1) (by decide +kernel) rfl rfl rfl (by decide +kernel)
set_option maxRecDepth 65536 in
theorem w_c41 : (Jvm.Cond.code ({ cls := "com/example/lanternwood/lanternwood/ReplAddressTcpPinLaw", name := "same", desc := "(Ljava/lang/String;[CII)Z" } : Jvm.MethodName) method_3_code (4 : Nat) (Option.some Jvm.ClassFile.FieldType.boolean)).before args0 about1 = true := code_word (m := ⟨1, 2⟩) (meth := k1m2) (c := k1c2) (by decide +kernel) rfl rfl rfl (by decide +kernel)
set_option maxRecDepth 65536 in
theorem w_c42 : (Jvm.Cond.code ({ cls := "java/lang/String", name := "charAt", desc := "(I)C" } : Jvm.MethodName) jdk_42_method_56_code (2 : Nat) (Option.some Jvm.ClassFile.FieldType.char)).before args0 about1 = true := code_word (m := ⟨7, 4⟩) (meth := k7m4) (c := k7c4) (by decide +kernel) rfl rfl rfl (by decide +kernel)
set_option maxRecDepth 65536 in
theorem w_c43 : (Jvm.Cond.code ({ cls := "java/lang/StringLatin1", name := "charAt", desc := "([BI)C" } : Jvm.MethodName) jdk_43_method_2_code (2 : Nat) (Option.some Jvm.ClassFile.FieldType.char)).before args0 about1 = true := code_word (m := ⟨10, 1⟩) (meth := k10m1) (c := k10c1) (by decide +kernel) rfl rfl rfl (by decide +kernel)
set_option maxRecDepth 65536 in
theorem w_c44 : (Jvm.Cond.code ({ cls := "java/lang/String", name := "checkIndex", desc := "(II)V" } : Jvm.MethodName) jdk_42_method_155_code (2 : Nat) (Option.none : Option Jvm.ClassFile.FieldType)).before args0 about1 = true := code_word (m := ⟨7, 15⟩) (meth := k7m15) (c := k7c15) (by decide +kernel) rfl rfl rfl (by decide +kernel)
set_option maxRecDepth 65536 in
theorem w_c45 : (Jvm.Cond.code ({ cls := "jdk/internal/util/Preconditions", name := "checkIndex", desc := "(IILjava/util/function/BiFunction;)I" } : Jvm.MethodName) jdk_41_method_11_code (3 : Nat) (Option.some Jvm.ClassFile.FieldType.int)).before args0 about1 = true := code_word (m := ⟨19, 1⟩) (meth := k19m1) (c := k19c1) (by decide +kernel) rfl rfl rfl (by decide +kernel)
set_option maxRecDepth 65536 in
theorem w_c46 : (Jvm.Cond.code ({ cls := "java/lang/String", name := "startsWith", desc := "(Ljava/lang/String;)Z" } : Jvm.MethodName) jdk_42_method_76_code (2 : Nat) (Option.some Jvm.ClassFile.FieldType.boolean)).before args0 about1 = true := code_word (m := ⟨7, 6⟩) (meth := k7m6) (c := k7c6) (by decide +kernel) rfl rfl rfl (by decide +kernel)
set_option maxRecDepth 65536 in
theorem w_c47 : (Jvm.Cond.code ({ cls := "java/lang/String", name := "startsWith", desc := "(Ljava/lang/String;I)Z" } : Jvm.MethodName) jdk_42_method_75_code (8 : Nat) (Option.some Jvm.ClassFile.FieldType.boolean)).before args0 about1 = true := code_word (m := ⟨7, 5⟩) (meth := k7m5) (c := k7c5) (by decide +kernel) rfl rfl rfl (by decide +kernel)
set_option maxRecDepth 65536 in
theorem w_c48 : (Jvm.Cond.code ({ cls := "jdk/internal/util/ArraysSupport", name := "mismatch", desc := "([BI[BII)I" } : Jvm.MethodName) jdk_48_method_14_code (8 : Nat) (Option.some Jvm.ClassFile.FieldType.int)).before args0 about1 = true := code_word (m := ⟨20, 1⟩) (meth := k20m1) (c := k20c1) (by decide +kernel) rfl rfl rfl (by decide +kernel)
def codes1 : List Jvm.Cond := [Jvm.Cond.code x code maxLocals ret, Jvm.Cond.code ({ cls := "java/lang/String", name := "<init>", desc := "([C)V" } : Jvm.MethodName) jdk_42_method_3_code (2 : Nat) (Option.none : Option Jvm.ClassFile.FieldType), Jvm.Cond.code ({ cls := "java/lang/String", name := "<init>", desc := "([CIILjava/lang/Void;)V" } : Jvm.MethodName) jdk_42_method_149_code (6 : Nat) (Option.none : Option Jvm.ClassFile.FieldType), Jvm.Cond.code ({ cls := "java/lang/Object", name := "<init>", desc := "()V" } : Jvm.MethodName) object_method_1_code (1 : Nat) (Option.none : Option Jvm.ClassFile.FieldType), Jvm.Cond.code ({ cls := "java/lang/StringUTF16", name := "compress", desc := "([CII)[B" } : Jvm.MethodName) jdk_52_method_16_code (6 : Nat) (Option.some (Jvm.ClassFile.FieldType.array Jvm.ClassFile.FieldType.byte)), Jvm.Cond.code ({ cls := "java/lang/StringUTF16", name := "compress", desc := "([CI[BII)I" } : Jvm.MethodName) jdk_52_method_21_code (7 : Nat) (Option.some Jvm.ClassFile.FieldType.int), Jvm.Cond.code ({ cls := "java/lang/StringUTF16", name := "coderFromArrayLen", desc := "([BI)B" } : Jvm.MethodName) jdk_52_method_15_code (2 : Nat) (Option.some Jvm.ClassFile.FieldType.byte), Jvm.Cond.code ({ cls := "com/example/lanternwood/lanternwood/ReplAddress", name := "tcp", desc := "(Ljava/lang/String;I)Lcom/example/lanternwood/lanternwood/ReplAddress;" } : Jvm.MethodName) prog_17_method_2_code (2 : Nat) (Option.some (Jvm.ClassFile.FieldType.object "com/example/lanternwood/lanternwood/ReplAddress")), Jvm.Cond.code ({ cls := "com/example/lanternwood/lanternwood/ReplAddress", name := "<init>", desc := "(Ljava/lang/String;ILjava/nio/file/Path;Ljava/nio/file/Path;)V" } : Jvm.MethodName) prog_17_method_1_code (5 : Nat) (Option.none : Option Jvm.ClassFile.FieldType), Jvm.Cond.code ({ cls := "com/example/lanternwood/lanternwood/ReplAddress", name := "toString", desc := "()Ljava/lang/String;" } : Jvm.MethodName) prog_17_method_12_code (3 : Nat) (Option.some (Jvm.ClassFile.FieldType.object "java/lang/String")), Jvm.Cond.code ({ cls := "java/lang/String", name := "contains", desc := "(Ljava/lang/CharSequence;)Z" } : Jvm.MethodName) jdk_42_method_97_code (2 : Nat) (Option.some Jvm.ClassFile.FieldType.boolean), Jvm.Cond.code ({ cls := "java/lang/String", name := "toString", desc := "()Ljava/lang/String;" } : Jvm.MethodName) jdk_42_method_126_code (1 : Nat) (Option.some (Jvm.ClassFile.FieldType.object "java/lang/String")), Jvm.Cond.code ({ cls := "java/lang/String", name := "indexOf", desc := "(Ljava/lang/String;)I" } : Jvm.MethodName) jdk_42_method_84_code (3 : Nat) (Option.some Jvm.ClassFile.FieldType.int), Jvm.Cond.code ({ cls := "java/lang/String", name := "coder", desc := "()B" } : Jvm.MethodName) jdk_42_method_152_code (1 : Nat) (Option.some Jvm.ClassFile.FieldType.byte), Jvm.Cond.code ({ cls := "java/lang/String", name := "isLatin1", desc := "()Z" } : Jvm.MethodName) jdk_42_method_154_code (1 : Nat) (Option.some Jvm.ClassFile.FieldType.boolean), Jvm.Cond.code ({ cls := "java/lang/StringLatin1", name := "indexOf", desc := "([B[B)I" } : Jvm.MethodName) jdk_43_method_24_code (2 : Nat) (Option.some Jvm.ClassFile.FieldType.int), Jvm.Cond.code ({ cls := "java/lang/StringLatin1", name := "indexOf", desc := "([BI[BII)I" } : Jvm.MethodName) jdk_43_method_25_code (11 : Nat) (Option.some Jvm.ClassFile.FieldType.int), Jvm.Cond.code ({ cls := "java/lang/StringBuilder", name := "<init>", desc := "()V" } : Jvm.MethodName) jdk_67_method_1_code (1 : Nat) (Option.none : Option Jvm.ClassFile.FieldType), Jvm.Cond.code ({ cls := "java/lang/AbstractStringBuilder", name := "<init>", desc := "(I)V" } : Jvm.MethodName) jdk_68_method_2_code (2 : Nat) (Option.none : Option Jvm.ClassFile.FieldType), Jvm.Cond.code ({ cls := "java/lang/StringBuilder", name := "append", desc := "(Ljava/lang/String;)Ljava/lang/StringBuilder;" } : Jvm.MethodName) jdk_67_method_7_code (2 : Nat) (Option.some (Jvm.ClassFile.FieldType.object "java/lang/StringBuilder")), Jvm.Cond.code ({ cls := "java/lang/AbstractStringBuilder", name := "append", desc := "(Ljava/lang/String;)Ljava/lang/AbstractStringBuilder;" } : Jvm.MethodName) jdk_68_method_22_code (3 : Nat) (Option.some (Jvm.ClassFile.FieldType.object "java/lang/AbstractStringBuilder")), Jvm.Cond.code ({ cls := "java/lang/String", name := "length", desc := "()I" } : Jvm.MethodName) jdk_42_method_54_code (1 : Nat) (Option.some Jvm.ClassFile.FieldType.int), Jvm.Cond.code ({ cls := "java/lang/AbstractStringBuilder", name := "ensureCapacityInternal", desc := "(I)V" } : Jvm.MethodName) jdk_68_method_9_code (3 : Nat) (Option.none : Option Jvm.ClassFile.FieldType), Jvm.Cond.code ({ cls := "java/lang/AbstractStringBuilder", name := "putStringAt", desc := "(ILjava/lang/String;)V" } : Jvm.MethodName) jdk_68_method_73_code (3 : Nat) (Option.none : Option Jvm.ClassFile.FieldType), Jvm.Cond.code ({ cls := "java/lang/AbstractStringBuilder", name := "inflateIfNeededFor", desc := "(Ljava/lang/String;)V" } : Jvm.MethodName) jdk_68_method_71_code (2 : Nat) (Option.none : Option Jvm.ClassFile.FieldType), Jvm.Cond.code ({ cls := "java/lang/String", name := "getBytes", desc := "([BIB)V" } : Jvm.MethodName) jdk_42_method_147_code (4 : Nat) (Option.none : Option Jvm.ClassFile.FieldType), Jvm.Cond.code ({ cls := "java/lang/StringBuilder", name := "append", desc := "(I)Ljava/lang/StringBuilder;" } : Jvm.MethodName) jdk_67_method_15_code (2 : Nat) (Option.some (Jvm.ClassFile.FieldType.object "java/lang/StringBuilder")), Jvm.Cond.code ({ cls := "java/lang/AbstractStringBuilder", name := "append", desc := "(I)Ljava/lang/AbstractStringBuilder;" } : Jvm.MethodName) jdk_68_method_32_code (4 : Nat) (Option.some (Jvm.ClassFile.FieldType.object "java/lang/AbstractStringBuilder")), Jvm.Cond.code ({ cls := "java/lang/Integer", name := "stringSize", desc := "(I)I" } : Jvm.MethodName) jdk_33_method_13_code (4 : Nat) (Option.some Jvm.ClassFile.FieldType.int), Jvm.Cond.code ({ cls := "java/lang/AbstractStringBuilder", name := "isLatin1", desc := "()Z" } : Jvm.MethodName) jdk_68_method_68_code (1 : Nat) (Option.some Jvm.ClassFile.FieldType.boolean), Jvm.Cond.code ({ cls := "java/lang/Integer", name := "getChars", desc := "(II[B)I" } : Jvm.MethodName) jdk_33_method_12_code (7 : Nat) (Option.some Jvm.ClassFile.FieldType.int), Jvm.Cond.code ({ cls := "java/lang/StringBuilder", name := "toString", desc := "()Ljava/lang/String;" } : Jvm.MethodName) jdk_67_method_42_code (1 : Nat) (Option.some (Jvm.ClassFile.FieldType.object "java/lang/String")), Jvm.Cond.code ({ cls := "java/lang/String", name := "<init>", desc := "(Ljava/lang/StringBuilder;)V" } : Jvm.MethodName) jdk_42_method_53_code (2 : Nat) (Option.none : Option Jvm.ClassFile.FieldType), Jvm.Cond.code ({ cls := "java/lang/String", name := "<init>", desc := "(Ljava/lang/AbstractStringBuilder;Ljava/lang/Void;)V" } : Jvm.MethodName) jdk_42_method_150_code (5 : Nat) (Option.none : Option Jvm.ClassFile.FieldType), Jvm.Cond.code ({ cls := "java/lang/AbstractStringBuilder", name := "getValue", desc := "()[B" } : Jvm.MethodName) jdk_68_method_64_code (1 : Nat) (Option.some (Jvm.ClassFile.FieldType.array Jvm.ClassFile.FieldType.byte)), Jvm.Cond.code ({ cls := "java/lang/StringBuilder", name := "length", desc := "()I" } : Jvm.MethodName) jdk_67_method_93_code (1 : Nat) (Option.some Jvm.ClassFile.FieldType.int), Jvm.Cond.code ({ cls := "java/lang/AbstractStringBuilder", name := "length", desc := "()I" } : Jvm.MethodName) jdk_68_method_6_code (1 : Nat) (Option.some Jvm.ClassFile.FieldType.int), Jvm.Cond.code ({ cls := "java/util/Arrays", name := "copyOfRange", desc := "([BII)[B" } : Jvm.MethodName) jdk_65_method_132_code (3 : Nat) (Option.some (Jvm.ClassFile.FieldType.array Jvm.ClassFile.FieldType.byte)), Jvm.Cond.code ({ cls := "java/util/Arrays", name := "copyOfRangeByte", desc := "([BII)[B" } : Jvm.MethodName) jdk_65_method_133_code (5 : Nat) (Option.some (Jvm.ClassFile.FieldType.array Jvm.ClassFile.FieldType.byte)), Jvm.Cond.code ({ cls := "java/util/Arrays", name := "checkLength", desc := "(II)V" } : Jvm.MethodName) jdk_65_method_131_code (2 : Nat) (Option.none : Option Jvm.ClassFile.FieldType), Jvm.Cond.code ({ cls := "java/lang/Math", name := "min", desc := "(II)I" } : Jvm.MethodName) jdk_29_method_69_code (2 : Nat) (Option.some Jvm.ClassFile.FieldType.int), Jvm.Cond.code ({ cls := "com/example/lanternwood/lanternwood/ReplAddressTcpPinLaw", name := "same", desc := "(Ljava/lang/String;[CII)Z" } : Jvm.MethodName) method_3_code (4 : Nat) (Option.some Jvm.ClassFile.FieldType.boolean), Jvm.Cond.code ({ cls := "java/lang/String", name := "charAt", desc := "(I)C" } : Jvm.MethodName) jdk_42_method_56_code (2 : Nat) (Option.some Jvm.ClassFile.FieldType.char), Jvm.Cond.code ({ cls := "java/lang/StringLatin1", name := "charAt", desc := "([BI)C" } : Jvm.MethodName) jdk_43_method_2_code (2 : Nat) (Option.some Jvm.ClassFile.FieldType.char), Jvm.Cond.code ({ cls := "java/lang/String", name := "checkIndex", desc := "(II)V" } : Jvm.MethodName) jdk_42_method_155_code (2 : Nat) (Option.none : Option Jvm.ClassFile.FieldType), Jvm.Cond.code ({ cls := "jdk/internal/util/Preconditions", name := "checkIndex", desc := "(IILjava/util/function/BiFunction;)I" } : Jvm.MethodName) jdk_41_method_11_code (3 : Nat) (Option.some Jvm.ClassFile.FieldType.int), Jvm.Cond.code ({ cls := "java/lang/String", name := "startsWith", desc := "(Ljava/lang/String;)Z" } : Jvm.MethodName) jdk_42_method_76_code (2 : Nat) (Option.some Jvm.ClassFile.FieldType.boolean), Jvm.Cond.code ({ cls := "java/lang/String", name := "startsWith", desc := "(Ljava/lang/String;I)Z" } : Jvm.MethodName) jdk_42_method_75_code (8 : Nat) (Option.some Jvm.ClassFile.FieldType.boolean), Jvm.Cond.code ({ cls := "jdk/internal/util/ArraysSupport", name := "mismatch", desc := "([BI[BII)I" } : Jvm.MethodName) jdk_48_method_14_code (8 : Nat) (Option.some Jvm.ClassFile.FieldType.int)]
set_option maxRecDepth 65536 in
theorem codes_eq : words1.filter isCode = codes1 := rfl
theorem w_codes : ∀ c ∈ words1.filter isCode, c.before args0 about1 = true := by
  rw [codes_eq]
  intro c hc
  simp only [codes1, List.mem_cons, List.not_mem_nil, or_false] at hc
  rcases hc with rfl | rfl | rfl | rfl | rfl | rfl | rfl | rfl | rfl | rfl | rfl | rfl | rfl | rfl | rfl | rfl | rfl | rfl | rfl | rfl | rfl | rfl | rfl | rfl | rfl | rfl | rfl | rfl | rfl | rfl | rfl | rfl | rfl | rfl | rfl | rfl | rfl | rfl | rfl | rfl | rfl | rfl | rfl | rfl | rfl | rfl | rfl | rfl | rfl
  · exact w_c0
  · exact w_c1
  · exact w_c2
  · exact w_c3
  · exact w_c4
  · exact w_c5
  · exact w_c6
  · exact w_c7
  · exact w_c8
  · exact w_c9
  · exact w_c10
  · exact w_c11
  · exact w_c12
  · exact w_c13
  · exact w_c14
  · exact w_c15
  · exact w_c16
  · exact w_c17
  · exact w_c18
  · exact w_c19
  · exact w_c20
  · exact w_c21
  · exact w_c22
  · exact w_c23
  · exact w_c24
  · exact w_c25
  · exact w_c26
  · exact w_c27
  · exact w_c28
  · exact w_c29
  · exact w_c30
  · exact w_c31
  · exact w_c32
  · exact w_c33
  · exact w_c34
  · exact w_c35
  · exact w_c36
  · exact w_c37
  · exact w_c38
  · exact w_c39
  · exact w_c40
  · exact w_c41
  · exact w_c42
  · exact w_c43
  · exact w_c44
  · exact w_c45
  · exact w_c46
  · exact w_c47
  · exact w_c48
set_option maxRecDepth 65536 in
theorem w_t1 : (words1.take 24).all (fun c => isCode c || c.before args0 about1) = true := by decide +kernel
set_option maxRecDepth 65536 in
theorem w_t2 : ((words1.drop 24).take 24).all (fun c => isCode c || c.before args0 about1) = true := by decide +kernel
set_option maxRecDepth 65536 in
theorem w_t3 : (((words1.drop 24).drop 24).take 24).all (fun c => isCode c || c.before args0 about1) = true := by decide +kernel
set_option maxRecDepth 65536 in
theorem w_t4 : ((((words1.drop 24).drop 24).drop 24).take 24).all (fun c => isCode c || c.before args0 about1) = true := by decide +kernel
set_option maxRecDepth 65536 in
theorem w_t5 : (((((words1.drop 24).drop 24).drop 24).drop 24).take 24).all (fun c => isCode c || c.before args0 about1) = true := by decide +kernel
set_option maxRecDepth 65536 in
theorem w_t6 : ((((((words1.drop 24).drop 24).drop 24).drop 24).drop 24).take 24).all (fun c => isCode c || c.before args0 about1) = true := by decide +kernel
set_option maxRecDepth 65536 in
theorem w_t7 : (((((((words1.drop 24).drop 24).drop 24).drop 24).drop 24).drop 24).take 24).all (fun c => isCode c || c.before args0 about1) = true := by decide +kernel
set_option maxRecDepth 65536 in
theorem w_t8 : ((((((((words1.drop 24).drop 24).drop 24).drop 24).drop 24).drop 24).drop 24).take 24).all (fun c => isCode c || c.before args0 about1) = true := by decide +kernel
set_option maxRecDepth 65536 in
theorem w_t9 : (((((((((words1.drop 24).drop 24).drop 24).drop 24).drop 24).drop 24).drop 24).drop 24).take 24).all (fun c => isCode c || c.before args0 about1) = true := by decide +kernel
set_option maxRecDepth 65536 in
theorem w_t10 : ((((((((((words1.drop 24).drop 24).drop 24).drop 24).drop 24).drop 24).drop 24).drop 24).drop 24).take 24).all (fun c => isCode c || c.before args0 about1) = true := by decide +kernel
set_option maxRecDepth 65536 in
theorem w_t11 : ((((((((((words1.drop 24).drop 24).drop 24).drop 24).drop 24).drop 24).drop 24).drop 24).drop 24).drop 24).all (fun c => isCode c || c.before args0 about1) = true := by decide +kernel
theorem w_tables : (allAtoms (Jvm.Cond.code x code maxLocals ret :: tables_1)).before args0 about1 = true := by
  rw [allAtoms_all]
  show words1.all (fun c => c.before args0 about1) = true
  refine all_split ?_ w_codes
  rw [← List.take_append_drop 24 words1, List.all_append, w_t1, ← List.take_append_drop 24 (words1.drop 24), List.all_append, w_t2, ← List.take_append_drop 24 ((words1.drop 24).drop 24), List.all_append, w_t3, ← List.take_append_drop 24 (((words1.drop 24).drop 24).drop 24), List.all_append, w_t4, ← List.take_append_drop 24 ((((words1.drop 24).drop 24).drop 24).drop 24), List.all_append, w_t5, ← List.take_append_drop 24 (((((words1.drop 24).drop 24).drop 24).drop 24).drop 24), List.all_append, w_t6, ← List.take_append_drop 24 ((((((words1.drop 24).drop 24).drop 24).drop 24).drop 24).drop 24), List.all_append, w_t7, ← List.take_append_drop 24 (((((((words1.drop 24).drop 24).drop 24).drop 24).drop 24).drop 24).drop 24), List.all_append, w_t8, ← List.take_append_drop 24 ((((((((words1.drop 24).drop 24).drop 24).drop 24).drop 24).drop 24).drop 24).drop 24), List.all_append, w_t9, ← List.take_append_drop 24 (((((((((words1.drop 24).drop 24).drop 24).drop 24).drop 24).drop 24).drop 24).drop 24).drop 24), List.all_append, w_t10, w_t11]
  rfl
set_option maxRecDepth 65536 in
theorem w_rest : rest_1_c.before args0 about1 = true := by decide +kernel
set_option maxRecDepth 65536 in
theorem w_case : (Jvm.Cond.and given_1 narrow_1).before args0 about1 = true := by decide +kernel
set_option maxRecDepth 65536 in
theorem w_consts : constsHeld consts_1 about1 := Jvm.Lit.constsHeldB_iff.mp (by decide +kernel)
theorem w_applies : (headSpec (Jvm.Cond.code x code maxLocals ret :: tables_1) room_1).applies x e0.platform about1 = true :=
  (Spec.applies_iff w_frames).mpr ⟨w_running, w_runnable, w_alone, w_named, w_hears, w_ripe, w_room, w_tables⟩
theorem atStart : AtStart classFile x code maxLocals ret World_1 tables_1 room_1 Calls_1 rest_1 Pre_1 launch0 p0 e0 about1 theMethod args0 below0 :=
  ⟨lists_1, trivial, launch0.admits_env _ _ _, launch0.least_env, fairChoices_fair.cas, fairChoices_fair.clock, w_frames, w_args, w_heap, w_applies, ⟨w_consts, trivial⟩, w_rest, w_case⟩
end start1
theorem witness_1 : WitnessClaimed_1 := ⟨start1.p0, start1.e0, start1.about1, start1.theMethod, start1.args0, start1.below0, start1.atStart⟩
end Jvm.Pilot.@@N@@
