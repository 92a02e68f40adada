import JvmDerived
import JvmDerived.Pilot.@@N@@Statement
import JvmDerived.Pilot.@@N@@Code
set_option linter.unusedVariables false
set_option linter.unusedSimpArgs false
namespace Jvm.Pilot.@@N@@
open Jvm Jvm.ClassFile Sem Op Lib Jvm.Free Jvm.Stand Jvm.LawKit Jvm.RoadKit Bundle Jvm.Pilot.@@N@@.Jvm.D
set_option maxRecDepth 65536
set_option maxHeartbeats 40000000
section OwnKit
open Jvm.FP Jvm.Free.Fl
/-- what a walk's end is asked: the start, the texts interned meanwhile, Q of value and heap -/
abbrev GQ : Type := State × List String × (Option Value → Heap → Prop)
variable {p : Program} {l : Launch} {e : Env} {R : Room} {s : State} {m : MethodId} {args : Array Value} {below : List Frame} {meth : Method} {c : Code} {T : State} {Z : State} {a0 : Array Value} {h h' : Heap} {n0 n1 cells slots nc ns pc pc' : Nat} {Ls : Array Slot} {st rest : List Value} {Q : GQ} {Ts Ts' : List String} {Lt : List (String × Nat × Addr)} {vm0 : Vm}
/-- a contract: the method returns, what it leaves is Q, nothing below n0 is written, only texts of Ts' are interned -/
def Con (l : Launch) (Z : State) (n0 : Nat) (Ts Ts' : List String) (y : MethodName) (bytes : ByteArray) (ml : Nat) (ret : Option FieldType) (ws : List Jvm.Cond) (rm : Room) (as : Array Value) (h0 : Heap) (Q : Option Value → Heap → Prop) : Prop :=
  MetFree l y (head1 (Jvm.Cond.code y bytes ml ret :: ws) rm) (fun a U => a = as ∧ Z.Warmed39 U.vm ∧ U.heap = h0 ∧ IB Z U.vm Ts) (fun _ _ _ _ _ => True) (fun _ U o U' => ∃ v L, o = .returned v ∧ (Fr n0 L ∧ Q v U'.heap ∧ IB Z U'.vm Ts') ∧ ReturnedEndW U o U' L rm.cells rm.slots)
/-- the tables at hand: grown from the true start, the texts interned, the constants resolved -/
abbrev Bs (Z s : State) (vm0 : Vm) (h : Heap) (Ts : List String) (Lt : List (String × Nat × Addr)) : Prop :=
  (∃ k0, s.Since vm0 k0 ∧ k0 ≤ h.size) ∧ IB Z vm0 Ts ∧ ∀ q ∈ Lt, Lit (s.setVm vm0) q.1 q.2.1 q.2.2
theorem Bs.ib (B : Bs Z s vm0 h Ts Lt) : IB Z vm0 Ts := B.2.1
theorem Bs.lt (B : Bs Z s vm0 h Ts Lt) : ∀ q ∈ Lt, Lit (s.setVm vm0) q.1 q.2.1 q.2.2 := B.2.2
theorem Bs.grow (B : Bs Z s vm0 h Ts Lt) (q : h.size ≤ h'.size) : Bs Z s vm0 h' Ts Lt := by
  obtain ⟨⟨k0, a, b⟩, i, t⟩ := B; exact ⟨⟨k0, a, Nat.le_trans b q⟩, i, t⟩
theorem Bs.hZ (B : Bs Z s vm0 h Ts Lt) (hZ : Z.Warmed39 s.vm) : Z.Warmed39 (s.setVm vm0).vm := by
  obtain ⟨⟨k0, a, b⟩, i, t⟩ := B; exact State.Warmed39.trans hZ a.1
theorem Bs.fc (B : Bs Z s vm0 h Ts Lt) {own : String} {k : ClassId} (hown : s.vm.findClass own = some k) : (s.setVm vm0).vm.findClass own = some k := by
  obtain ⟨⟨k0, a, b⟩, i, t⟩ := B
  show vm0.findClass own = some k
  rw [a.1.alike.findClass]; exact hown
theorem Bs.call {vm1 : Vm} (B : Bs Z s vm0 h Ts Lt) {n : Nat} (hS : (s.setVm vm0).Since vm1 n) (hn : h.size ≤ n) (hn' : n ≤ h'.size) (I : IB Z vm1 Ts') : Bs Z s vm1 h' Ts' Lt := by
  obtain ⟨⟨k0, a, b⟩, i, t⟩ := B
  exact ⟨⟨n, a.trans hS (Nat.le_trans b hn), hn'⟩, I, fun q hq => Lit.stays (t q hq) hS.1⟩
/-- where a walk stands, the places written kept to themselves -/
def Wk (p : Program) (l : Launch) (e : Env) (R : Room) (s : State) (m : MethodId) (args : Array Value) (below : List Frame) (meth : Method) (c : Code) (n1 : Nat) (Z : State) (Ts : List String) (Lt : List (String × Nat × Addr)) (T : State) (h : Heap) (cells slots : Nat) : Prop :=
  ∃ locs vm0, Stand p l e R (s.setVm vm0) m args below meth c T locs cells slots ∧ Fr n1 locs ∧ T.heap = h ∧ Bs Z s vm0 h Ts Lt
/-- from t the run ends, and leaves Q -/
def Go (p : Program) (e : Env) (below : List Frame) (s : State) (n0 : Nat) (Q : GQ) (nc ns : Nat) (t : State) : Prop :=
  ∃ s₂ o, Steps p.tables e below t s₂ ∧ s₂.status = .running ∧ Ended s₂ below o ∧ ∃ v L, o = .returned v ∧ (Fr n0 L ∧ Q.2.2 v s₂.heap ∧ IB Q.1 s₂.vm Q.2.1) ∧ ReturnedEndW s o s₂ L nc ns
theorem Wk.here (X : Wk p l e R s m args below meth c n1 Z Ts Lt T h cells slots) : At T m c below := by obtain ⟨_, _, X, -⟩ := X; exact X.here
theorem Wk.heap (X : Wk p l e R s m args below meth c n1 Z Ts Lt T h cells slots) : T.heap = h := by obtain ⟨_, _, -, -, q, -⟩ := X; exact q
theorem Wk.low (X : Wk p l e R s m args below meth c n1 Z Ts Lt T h cells slots) (q : n0 ≤ n1) : Wk p l e R s m args below meth c n0 Z Ts Lt T h cells slots := by
  obtain ⟨locs, vm0, X, N, r⟩ := X; exact ⟨locs, vm0, X, fun y hy => Nat.le_trans q (N y hy), r⟩
theorem go_back {t t' : State} (b : ∀ target, Steps p.tables e below t' target → Steps p.tables e below t target) (k : Go p e below s n0 Q nc ns t') : Go p e below s n0 Q nc ns t := by
  obtain ⟨u, o, h1, r⟩ := k
  exact ⟨u, o, b u h1, r⟩
theorem con_start {y : MethodName} {bytes : ByteArray} {ml : Nat} {ret : Option FieldType} {ws : List Jvm.Cond} {rm : Room} {as : Array Value} {h0 : Heap} {Qv : Option Value → Heap → Prop} {fr0 : MethodId → JFrame}
    (k : ∀ (p : Program) (e : Env) (s : State) (m : MethodId) (below : List Frame) (meth : Method) (c : Code) (s₁ : State), p.tables.exec = Jvm.exec → Z.Warmed39 s.vm → c.code = bytes → c.maxLocals = ml → s.vm.findClass y.cls = some m.cls → meth.name = y.name → meth.sig.returnType = ret → meth.locks = false →
      s.heap = h0 → (∀ n1, Wk p l e rm s m as below meth c n1 Z Ts [] s₁ h0 0 0) → Go p e below s n0 ⟨Z, Ts', Qv⟩ rm.cells rm.slots (s₁.setTop (fr0 m)))
    (hpl : plainFor y = true := by exact plainFor_of_name (by first | (simp [plainName, overriddenIn]; done) | decide +kernel)) (hfr : ∀ m, entryFrame m as ml = fr0 m := by intro m; first | (simp [entryFrame, mkF, argsToLocals, Value.category]; done) | rfl) : Con l Z n0 Ts Ts' y bytes ml ret ws rm as h0 Qv := by
  refine MetFree.of_bodySF hpl hisR ?_
  intro p e s m args below meth c s₁ Bd hml0 hP hK
  obtain ⟨rfl, hZ, hh, hI⟩ := hP
  rw [hfr]
  exact k p e s m below meth c s₁ Bd.exec hZ Bd.bytes hml0 (findClass_of_methodNamed Bd.named) (name_of_methodNamed Bd.named Bd.method).1 Bd.returns Bd.notSynchronized hh
    (fun n1 => ⟨[], s.vm, Stand.of_body Bd, Fr.nil n1, by rw [← hh, Bd.state]; rfl, ⟨⟨0, (State.WarmedH.refl s).since 0, Nat.zero_le _⟩, hI, fun q hq => nomatch hq⟩⟩)
/-- what an int branch asks -/
def cP : ClassFile.Cond → Int32 → Int32 → Prop
  | .eq, x, y => x = y
  | .ne, x, y => ¬ x = y
  | .lt, x, y => x < y
  | .ge, x, y => ¬ x < y
  | .gt, x, y => y < x
  | .le, x, y => ¬ y < x
theorem cP_yes {cd : ClassFile.Cond} {x y : Int32} (q : cP cd x y) : if_icmp.holds cd x y = true := by
  cases cd
  · exact (teq q).1
  · exact (feq q).2
  · exact (tlt q).1
  · exact (flt q).2.1
  · exact (tlt q).2.2.1
  · exact (flt q).2.2.2
theorem cP_no {cd : ClassFile.Cond} {x y : Int32} (q : ¬ cP cd x y) : if_icmp.holds cd x y = false := by
  cases cd
  · exact (feq q).1
  · exact (teq (Classical.not_not.mp q)).2
  · exact (flt q).1
  · exact (tlt (Classical.not_not.mp q)).2.1
  · exact (flt q).2.2.1
  · exact (tlt (Classical.not_not.mp q)).2.2.2
theorem g_iload (X : Wk p l e R s m args below meth c n1 Z Ts Lt T h cells slots) (hx : p.tables.exec = Jvm.exec) {k : Nat} {v : Int32} (hp : pc + 2 = pc') (hd : decode c.code pc = .ok (.iload k, 2)) (hl : Ls[k]? = some (.val (.int v))) (k : Go p e below s n0 Q nc ns (T.setTop (mkF m pc' Ls (.int v :: st)))) : Go p e below s n0 Q nc ns (T.setTop (mkF m pc Ls (st))) := by
  subst hp; exact go_back (fun _ j => XS.iload X.here hx rfl hd hl j) k
theorem g_iloadN (X : Wk p l e R s m args below meth c n1 Z Ts Lt T h cells slots) (hx : p.tables.exec = Jvm.exec) {k : Fin 4} {v : Int32} (hp : pc + 1 = pc') (hd : decode c.code pc = .ok (.iload_n k, 1)) (hl : Ls[k.val]? = some (.val (.int v))) (k : Go p e below s n0 Q nc ns (T.setTop (mkF m pc' Ls (.int v :: st)))) : Go p e below s n0 Q nc ns (T.setTop (mkF m pc Ls (st))) := by
  subst hp; exact go_back (fun _ j => XS.iloadN X.here hx rfl hd hl j) k
theorem g_istore (X : Wk p l e R s m args below meth c n1 Z Ts Lt T h cells slots) (hx : p.tables.exec = Jvm.exec) {k : Nat} {x : Int32} {l' : Array Slot} (hp : pc + 2 = pc') (hd : decode c.code pc = .ok (.istore k, 2)) (hl : storeLocals Ls k (.int x) = some l') (k : Go p e below s n0 Q nc ns (T.setTop (mkF m pc' l' (rest)))) : Go p e below s n0 Q nc ns (T.setTop (mkF m pc Ls (.int x :: rest))) := by
  subst hp; exact go_back (fun _ j => XS.istore X.here hx rfl hd rfl hl j) k
theorem g_istoreN (X : Wk p l e R s m args below meth c n1 Z Ts Lt T h cells slots) (hx : p.tables.exec = Jvm.exec) {k : Fin 4} {x : Int32} {l' : Array Slot} (hp : pc + 1 = pc') (hd : decode c.code pc = .ok (.istore_n k, 1)) (hl : storeLocals Ls k.val (.int x) = some l') (k : Go p e below s n0 Q nc ns (T.setTop (mkF m pc' l' (rest)))) : Go p e below s n0 Q nc ns (T.setTop (mkF m pc Ls (.int x :: rest))) := by
  subst hp; exact go_back (fun _ j => XS.istoreN X.here hx rfl hd rfl hl j) k
theorem g_absI {x : Int32} (k : ∀ z : Int32, z = x → Go p e below s n0 Q nc ns (T.setTop (mkF m pc Ls (.int z :: rest)))) : Go p e below s n0 Q nc ns (T.setTop (mkF m pc Ls (.int x :: rest))) := k x rfl
theorem g_lload (X : Wk p l e R s m args below meth c n1 Z Ts Lt T h cells slots) (hx : p.tables.exec = Jvm.exec) {k : Nat} {v : Int64} (hp : pc + 2 = pc') (hd : decode c.code pc = .ok (.lload k, 2)) (hl : Ls[k]? = some (.val (.long v))) (k : Go p e below s n0 Q nc ns (T.setTop (mkF m pc' Ls (.long v :: st)))) : Go p e below s n0 Q nc ns (T.setTop (mkF m pc Ls (st))) := by
  subst hp; exact go_back (fun _ j => XS.lload X.here hx rfl hd hl j) k
theorem g_lloadN (X : Wk p l e R s m args below meth c n1 Z Ts Lt T h cells slots) (hx : p.tables.exec = Jvm.exec) {k : Fin 4} {v : Int64} (hp : pc + 1 = pc') (hd : decode c.code pc = .ok (.lload_n k, 1)) (hl : Ls[k.val]? = some (.val (.long v))) (k : Go p e below s n0 Q nc ns (T.setTop (mkF m pc' Ls (.long v :: st)))) : Go p e below s n0 Q nc ns (T.setTop (mkF m pc Ls (st))) := by
  subst hp; exact go_back (fun _ j => XS.lloadN X.here hx rfl hd hl j) k
theorem g_lstore (X : Wk p l e R s m args below meth c n1 Z Ts Lt T h cells slots) (hx : p.tables.exec = Jvm.exec) {k : Nat} {x : Int64} {l' : Array Slot} (hp : pc + 2 = pc') (hd : decode c.code pc = .ok (.lstore k, 2)) (hl : storeLocals Ls k (.long x) = some l') (k : Go p e below s n0 Q nc ns (T.setTop (mkF m pc' l' (rest)))) : Go p e below s n0 Q nc ns (T.setTop (mkF m pc Ls (.long x :: rest))) := by
  subst hp; exact go_back (fun _ j => XS.lstore X.here hx rfl hd rfl hl j) k
theorem g_lstoreN (X : Wk p l e R s m args below meth c n1 Z Ts Lt T h cells slots) (hx : p.tables.exec = Jvm.exec) {k : Fin 4} {x : Int64} {l' : Array Slot} (hp : pc + 1 = pc') (hd : decode c.code pc = .ok (.lstore_n k, 1)) (hl : storeLocals Ls k.val (.long x) = some l') (k : Go p e below s n0 Q nc ns (T.setTop (mkF m pc' l' (rest)))) : Go p e below s n0 Q nc ns (T.setTop (mkF m pc Ls (.long x :: rest))) := by
  subst hp; exact go_back (fun _ j => XS.lstoreN X.here hx rfl hd rfl hl j) k
theorem g_absL {x : Int64} (k : ∀ z : Int64, z = x → Go p e below s n0 Q nc ns (T.setTop (mkF m pc Ls (.long z :: rest)))) : Go p e below s n0 Q nc ns (T.setTop (mkF m pc Ls (.long x :: rest))) := k x rfl
theorem g_dload (X : Wk p l e R s m args below meth c n1 Z Ts Lt T h cells slots) (hx : p.tables.exec = Jvm.exec) {k : Nat} {v : UInt64} (hp : pc + 2 = pc') (hd : decode c.code pc = .ok (.dload k, 2)) (hl : Ls[k]? = some (.val (.double v))) (k : Go p e below s n0 Q nc ns (T.setTop (mkF m pc' Ls (.double v :: st)))) : Go p e below s n0 Q nc ns (T.setTop (mkF m pc Ls (st))) := by
  subst hp; exact go_back (fun _ j => XS.dload X.here hx rfl hd hl j) k
theorem g_dloadN (X : Wk p l e R s m args below meth c n1 Z Ts Lt T h cells slots) (hx : p.tables.exec = Jvm.exec) {k : Fin 4} {v : UInt64} (hp : pc + 1 = pc') (hd : decode c.code pc = .ok (.dload_n k, 1)) (hl : Ls[k.val]? = some (.val (.double v))) (k : Go p e below s n0 Q nc ns (T.setTop (mkF m pc' Ls (.double v :: st)))) : Go p e below s n0 Q nc ns (T.setTop (mkF m pc Ls (st))) := by
  subst hp; exact go_back (fun _ j => XS.dloadN X.here hx rfl hd hl j) k
theorem g_dstore (X : Wk p l e R s m args below meth c n1 Z Ts Lt T h cells slots) (hx : p.tables.exec = Jvm.exec) {k : Nat} {x : UInt64} {l' : Array Slot} (hp : pc + 2 = pc') (hd : decode c.code pc = .ok (.dstore k, 2)) (hl : storeLocals Ls k (.double x) = some l') (k : Go p e below s n0 Q nc ns (T.setTop (mkF m pc' l' (rest)))) : Go p e below s n0 Q nc ns (T.setTop (mkF m pc Ls (.double x :: rest))) := by
  subst hp; exact go_back (fun _ j => XS.dstore X.here hx rfl hd rfl hl j) k
theorem g_dstoreN (X : Wk p l e R s m args below meth c n1 Z Ts Lt T h cells slots) (hx : p.tables.exec = Jvm.exec) {k : Fin 4} {x : UInt64} {l' : Array Slot} (hp : pc + 1 = pc') (hd : decode c.code pc = .ok (.dstore_n k, 1)) (hl : storeLocals Ls k.val (.double x) = some l') (k : Go p e below s n0 Q nc ns (T.setTop (mkF m pc' l' (rest)))) : Go p e below s n0 Q nc ns (T.setTop (mkF m pc Ls (.double x :: rest))) := by
  subst hp; exact go_back (fun _ j => XS.dstoreN X.here hx rfl hd rfl hl j) k
theorem g_absD {x : UInt64} (k : ∀ z : UInt64, z = x → Go p e below s n0 Q nc ns (T.setTop (mkF m pc Ls (.double z :: rest)))) : Go p e below s n0 Q nc ns (T.setTop (mkF m pc Ls (.double x :: rest))) := k x rfl
theorem g_aload (X : Wk p l e R s m args below meth c n1 Z Ts Lt T h cells slots) (hx : p.tables.exec = Jvm.exec) {k : Nat} {v : Value} (hp : pc + 2 = pc') (hd : decode c.code pc = .ok (.aload k, 2)) (hl : Ls[k]? = some (.val v)) (hv : v.isRef = true) (k : Go p e below s n0 Q nc ns (T.setTop (mkF m pc' Ls (v :: st)))) : Go p e below s n0 Q nc ns (T.setTop (mkF m pc Ls (st))) := by
  subst hp; exact go_back (fun _ j => XS.aload X.here hx rfl hd hl hv j) k
theorem g_aloadN (X : Wk p l e R s m args below meth c n1 Z Ts Lt T h cells slots) (hx : p.tables.exec = Jvm.exec) {k : Fin 4} {v : Value} (hp : pc + 1 = pc') (hd : decode c.code pc = .ok (.aload_n k, 1)) (hl : Ls[k.val]? = some (.val v)) (hv : v.isRef = true) (k : Go p e below s n0 Q nc ns (T.setTop (mkF m pc' Ls (v :: st)))) : Go p e below s n0 Q nc ns (T.setTop (mkF m pc Ls (st))) := by
  subst hp; exact go_back (fun _ j => XS.aloadN X.here hx rfl hd hl hv j) k
theorem g_astore (X : Wk p l e R s m args below meth c n1 Z Ts Lt T h cells slots) (hx : p.tables.exec = Jvm.exec) {k : Nat} {x : Value} {l' : Array Slot} (hp : pc + 2 = pc') (hd : decode c.code pc = .ok (.astore k, 2)) (hv : x.isRef = true) (hl : storeLocals Ls k x = some l') (k : Go p e below s n0 Q nc ns (T.setTop (mkF m pc' l' (rest)))) : Go p e below s n0 Q nc ns (T.setTop (mkF m pc Ls (x :: rest))) := by
  subst hp; exact go_back (fun _ j => XS.astore X.here hx rfl hd rfl hv hl j) k
theorem g_astoreN (X : Wk p l e R s m args below meth c n1 Z Ts Lt T h cells slots) (hx : p.tables.exec = Jvm.exec) {k : Fin 4} {x : Value} {l' : Array Slot} (hp : pc + 1 = pc') (hd : decode c.code pc = .ok (.astore_n k, 1)) (hv : x.isRef = true) (hl : storeLocals Ls k.val x = some l') (k : Go p e below s n0 Q nc ns (T.setTop (mkF m pc' l' (rest)))) : Go p e below s n0 Q nc ns (T.setTop (mkF m pc Ls (x :: rest))) := by
  subst hp; exact go_back (fun _ j => XS.astoreN X.here hx rfl hd rfl hv hl j) k
theorem g_iconst (X : Wk p l e R s m args below meth c n1 Z Ts Lt T h cells slots) (hx : p.tables.exec = Jvm.exec) {i : Int} {z : Int32} (hp : pc + 1 = pc') (hd : decode c.code pc = .ok (.iconst i, 1)) (hz : Int32.ofInt i = z) (k : Go p e below s n0 Q nc ns (T.setTop (mkF m pc' Ls (.int z :: st)))) : Go p e below s n0 Q nc ns (T.setTop (mkF m pc Ls (st))) := by
  subst hp; exact go_back (fun _ j => XS.iconst X.here hx rfl hd (show Steps _ _ _ (T.setTop (mkF m (pc + 1) Ls (.int (Int32.ofInt i) :: st))) _ from hz ▸ j)) k
theorem g_bipush (X : Wk p l e R s m args below meth c n1 Z Ts Lt T h cells slots) (hx : p.tables.exec = Jvm.exec) {i : Int} {z : Int32} (hp : pc + 2 = pc') (hd : decode c.code pc = .ok (.bipush i, 2)) (hz : (Int8.ofInt i).toInt32 = z) (k : Go p e below s n0 Q nc ns (T.setTop (mkF m pc' Ls (.int z :: st)))) : Go p e below s n0 Q nc ns (T.setTop (mkF m pc Ls (st))) := by
  subst hp; exact go_back (fun _ j => XS.bipush X.here hx rfl hd (show Steps _ _ _ (T.setTop (mkF m (pc + 2) Ls (.int (Int8.ofInt i).toInt32 :: st))) _ from hz ▸ j)) k
theorem g_sipush (X : Wk p l e R s m args below meth c n1 Z Ts Lt T h cells slots) (hx : p.tables.exec = Jvm.exec) {i : Int} {z : Int32} (hp : pc + 3 = pc') (hd : decode c.code pc = .ok (.sipush i, 3)) (hz : (Int16.ofInt i).toInt32 = z) (k : Go p e below s n0 Q nc ns (T.setTop (mkF m pc' Ls (.int z :: st)))) : Go p e below s n0 Q nc ns (T.setTop (mkF m pc Ls (st))) := by
  subst hp; exact go_back (fun _ j => XS.sipush X.here hx rfl hd (show Steps _ _ _ (T.setTop (mkF m (pc + 3) Ls (.int (Int16.ofInt i).toInt32 :: st))) _ from hz ▸ j)) k
theorem g_lconst (X : Wk p l e R s m args below meth c n1 Z Ts Lt T h cells slots) (hx : p.tables.exec = Jvm.exec) {i : Fin 2} {z : Int64} (hp : pc + 1 = pc') (hd : decode c.code pc = .ok (.lconst i, 1)) (hz : Int64.ofNat i = z) (k : Go p e below s n0 Q nc ns (T.setTop (mkF m pc' Ls (.long z :: st)))) : Go p e below s n0 Q nc ns (T.setTop (mkF m pc Ls (st))) := by
  subst hp; exact go_back (fun _ j => XS.lconst X.here hx rfl hd (show Steps _ _ _ (T.setTop (mkF m (pc + 1) Ls (.long (Int64.ofNat i) :: st))) _ from hz ▸ j)) k
theorem g_dconst0 (X : Wk p l e R s m args below meth c n1 Z Ts Lt T h cells slots) (hx : p.tables.exec = Jvm.exec)  (hp : pc + 1 = pc') (hd : decode c.code pc = .ok (.dconst 0, 1))  (k : Go p e below s n0 Q nc ns (T.setTop (mkF m pc' Ls (.double 0 :: st)))) : Go p e below s n0 Q nc ns (T.setTop (mkF m pc Ls (st))) := by
  subst hp; exact go_back (fun _ j => XS.dconst0 X.here hx rfl hd rfl j) k
theorem g_dconst1 (X : Wk p l e R s m args below meth c n1 Z Ts Lt T h cells slots) (hx : p.tables.exec = Jvm.exec)  (hp : pc + 1 = pc') (hd : decode c.code pc = .ok (.dconst 1, 1))  (k : Go p e below s n0 Q nc ns (T.setTop (mkF m pc' Ls (.double 4607182418800017408 :: st)))) : Go p e below s n0 Q nc ns (T.setTop (mkF m pc Ls (st))) := by
  subst hp; exact go_back (fun _ j => XS.dconst1 X.here hx rfl hd rfl j) k
theorem g_aconst_null (X : Wk p l e R s m args below meth c n1 Z Ts Lt T h cells slots) (hx : p.tables.exec = Jvm.exec)  (hp : pc + 1 = pc') (hd : decode c.code pc = .ok (.aconst_null, 1))  (k : Go p e below s n0 Q nc ns (T.setTop (mkF m pc' Ls (.null :: st)))) : Go p e below s n0 Q nc ns (T.setTop (mkF m pc Ls (st))) := by
  subst hp; exact go_back (fun _ j => XS.aconstNull X.here hx rfl hd j) k
theorem g_iadd (X : Wk p l e R s m args below meth c n1 Z Ts Lt T h cells slots) (hx : p.tables.exec = Jvm.exec) {x y : Int32} (hp : pc + 1 = pc') (hd : decode c.code pc = .ok (.iadd, 1))  (k : Go p e below s n0 Q nc ns (T.setTop (mkF m pc' Ls (.int (x + y) :: rest)))) : Go p e below s n0 Q nc ns (T.setTop (mkF m pc Ls (.int y :: .int x :: rest))) := by
  subst hp; exact go_back (fun _ j => XS.iadd X.here hx rfl hd rfl j) k
theorem g_ladd (X : Wk p l e R s m args below meth c n1 Z Ts Lt T h cells slots) (hx : p.tables.exec = Jvm.exec) {x y : Int64} (hp : pc + 1 = pc') (hd : decode c.code pc = .ok (.ladd, 1))  (k : Go p e below s n0 Q nc ns (T.setTop (mkF m pc' Ls (.long (x + y) :: rest)))) : Go p e below s n0 Q nc ns (T.setTop (mkF m pc Ls (.long y :: .long x :: rest))) := by
  subst hp; exact go_back (fun _ j => XS.ladd X.here hx rfl hd rfl j) k
theorem g_isub (X : Wk p l e R s m args below meth c n1 Z Ts Lt T h cells slots) (hx : p.tables.exec = Jvm.exec) {x y : Int32} (hp : pc + 1 = pc') (hd : decode c.code pc = .ok (.isub, 1))  (k : Go p e below s n0 Q nc ns (T.setTop (mkF m pc' Ls (.int (x - y) :: rest)))) : Go p e below s n0 Q nc ns (T.setTop (mkF m pc Ls (.int y :: .int x :: rest))) := by
  subst hp; exact go_back (fun _ j => XS.isub X.here hx rfl hd rfl j) k
theorem g_lsub (X : Wk p l e R s m args below meth c n1 Z Ts Lt T h cells slots) (hx : p.tables.exec = Jvm.exec) {x y : Int64} (hp : pc + 1 = pc') (hd : decode c.code pc = .ok (.lsub, 1))  (k : Go p e below s n0 Q nc ns (T.setTop (mkF m pc' Ls (.long (x - y) :: rest)))) : Go p e below s n0 Q nc ns (T.setTop (mkF m pc Ls (.long y :: .long x :: rest))) := by
  subst hp; exact go_back (fun _ j => XS.lsub X.here hx rfl hd rfl j) k
theorem g_imul (X : Wk p l e R s m args below meth c n1 Z Ts Lt T h cells slots) (hx : p.tables.exec = Jvm.exec) {x y : Int32} (hp : pc + 1 = pc') (hd : decode c.code pc = .ok (.imul, 1))  (k : Go p e below s n0 Q nc ns (T.setTop (mkF m pc' Ls (.int (x * y) :: rest)))) : Go p e below s n0 Q nc ns (T.setTop (mkF m pc Ls (.int y :: .int x :: rest))) := by
  subst hp; exact go_back (fun _ j => XS.imul X.here hx rfl hd rfl j) k
theorem g_lmul (X : Wk p l e R s m args below meth c n1 Z Ts Lt T h cells slots) (hx : p.tables.exec = Jvm.exec) {x y : Int64} (hp : pc + 1 = pc') (hd : decode c.code pc = .ok (.lmul, 1))  (k : Go p e below s n0 Q nc ns (T.setTop (mkF m pc' Ls (.long (x * y) :: rest)))) : Go p e below s n0 Q nc ns (T.setTop (mkF m pc Ls (.long y :: .long x :: rest))) := by
  subst hp; exact go_back (fun _ j => XS.lmul X.here hx rfl hd rfl j) k
theorem g_iand (X : Wk p l e R s m args below meth c n1 Z Ts Lt T h cells slots) (hx : p.tables.exec = Jvm.exec) {x y : Int32} (hp : pc + 1 = pc') (hd : decode c.code pc = .ok (.iand, 1))  (k : Go p e below s n0 Q nc ns (T.setTop (mkF m pc' Ls (.int (x &&& y) :: rest)))) : Go p e below s n0 Q nc ns (T.setTop (mkF m pc Ls (.int y :: .int x :: rest))) := by
  subst hp; exact go_back (fun _ j => XS.iand X.here hx rfl hd rfl j) k
theorem g_land (X : Wk p l e R s m args below meth c n1 Z Ts Lt T h cells slots) (hx : p.tables.exec = Jvm.exec) {x y : Int64} (hp : pc + 1 = pc') (hd : decode c.code pc = .ok (.land, 1))  (k : Go p e below s n0 Q nc ns (T.setTop (mkF m pc' Ls (.long (x &&& y) :: rest)))) : Go p e below s n0 Q nc ns (T.setTop (mkF m pc Ls (.long y :: .long x :: rest))) := by
  subst hp; exact go_back (fun _ j => XS.land X.here hx rfl hd rfl j) k
theorem g_ior (X : Wk p l e R s m args below meth c n1 Z Ts Lt T h cells slots) (hx : p.tables.exec = Jvm.exec) {x y : Int32} (hp : pc + 1 = pc') (hd : decode c.code pc = .ok (.ior, 1))  (k : Go p e below s n0 Q nc ns (T.setTop (mkF m pc' Ls (.int (x ||| y) :: rest)))) : Go p e below s n0 Q nc ns (T.setTop (mkF m pc Ls (.int y :: .int x :: rest))) := by
  subst hp; exact go_back (fun _ j => XS.ior X.here hx rfl hd rfl j) k
theorem g_lor (X : Wk p l e R s m args below meth c n1 Z Ts Lt T h cells slots) (hx : p.tables.exec = Jvm.exec) {x y : Int64} (hp : pc + 1 = pc') (hd : decode c.code pc = .ok (.lor, 1))  (k : Go p e below s n0 Q nc ns (T.setTop (mkF m pc' Ls (.long (x ||| y) :: rest)))) : Go p e below s n0 Q nc ns (T.setTop (mkF m pc Ls (.long y :: .long x :: rest))) := by
  subst hp; exact go_back (fun _ j => XS.lor X.here hx rfl hd rfl j) k
theorem g_ixor (X : Wk p l e R s m args below meth c n1 Z Ts Lt T h cells slots) (hx : p.tables.exec = Jvm.exec) {x y : Int32} (hp : pc + 1 = pc') (hd : decode c.code pc = .ok (.ixor, 1))  (k : Go p e below s n0 Q nc ns (T.setTop (mkF m pc' Ls (.int (x ^^^ y) :: rest)))) : Go p e below s n0 Q nc ns (T.setTop (mkF m pc Ls (.int y :: .int x :: rest))) := by
  subst hp; exact go_back (fun _ j => XS.ixor X.here hx rfl hd rfl j) k
theorem g_lxor (X : Wk p l e R s m args below meth c n1 Z Ts Lt T h cells slots) (hx : p.tables.exec = Jvm.exec) {x y : Int64} (hp : pc + 1 = pc') (hd : decode c.code pc = .ok (.lxor, 1))  (k : Go p e below s n0 Q nc ns (T.setTop (mkF m pc' Ls (.long (x ^^^ y) :: rest)))) : Go p e below s n0 Q nc ns (T.setTop (mkF m pc Ls (.long y :: .long x :: rest))) := by
  subst hp; exact go_back (fun _ j => XS.lxor X.here hx rfl hd rfl j) k
theorem g_idiv (X : Wk p l e R s m args below meth c n1 Z Ts Lt T h cells slots) (hx : p.tables.exec = Jvm.exec) {x y : Int32} (hp : pc + 1 = pc') (hd : decode c.code pc = .ok (.idiv, 1)) (hy : y ≠ 0) (k : Go p e below s n0 Q nc ns (T.setTop (mkF m pc' Ls (.int (x / y) :: rest)))) : Go p e below s n0 Q nc ns (T.setTop (mkF m pc Ls (.int y :: .int x :: rest))) := by
  subst hp; exact go_back (fun _ j => XS.idiv X.here hx rfl hd rfl hy j) k
theorem g_irem (X : Wk p l e R s m args below meth c n1 Z Ts Lt T h cells slots) (hx : p.tables.exec = Jvm.exec) {x y : Int32} (hp : pc + 1 = pc') (hd : decode c.code pc = .ok (.irem, 1)) (hy : y ≠ 0) (k : Go p e below s n0 Q nc ns (T.setTop (mkF m pc' Ls (.int (x % y) :: rest)))) : Go p e below s n0 Q nc ns (T.setTop (mkF m pc Ls (.int y :: .int x :: rest))) := by
  subst hp; obtain ⟨_, _, X, -⟩ := X; exact go_back (fun _ j => iremM X hx (g := mkF m pc Ls (.int y :: .int x :: rest)) rfl hd rfl hy j) k
theorem g_ldiv (X : Wk p l e R s m args below meth c n1 Z Ts Lt T h cells slots) (hx : p.tables.exec = Jvm.exec) {x y : Int64} (hp : pc + 1 = pc') (hd : decode c.code pc = .ok (.ldiv, 1)) (hy : y ≠ 0) (k : Go p e below s n0 Q nc ns (T.setTop (mkF m pc' Ls (.long (x / y) :: rest)))) : Go p e below s n0 Q nc ns (T.setTop (mkF m pc Ls (.long y :: .long x :: rest))) := by
  subst hp; exact go_back (fun _ j => XS.ldiv X.here hx rfl hd rfl hy j) k
theorem g_lrem (X : Wk p l e R s m args below meth c n1 Z Ts Lt T h cells slots) (hx : p.tables.exec = Jvm.exec) {x y : Int64} (hp : pc + 1 = pc') (hd : decode c.code pc = .ok (.lrem, 1)) (hy : y ≠ 0) (k : Go p e below s n0 Q nc ns (T.setTop (mkF m pc' Ls (.long (x - (x / y) * y) :: rest)))) : Go p e below s n0 Q nc ns (T.setTop (mkF m pc Ls (.long y :: .long x :: rest))) := by
  subst hp; exact go_back (fun _ j => XS.lrem X.here hx rfl hd rfl hy j) k
theorem g_ishl (X : Wk p l e R s m args below meth c n1 Z Ts Lt T h cells slots) (hx : p.tables.exec = Jvm.exec) {x y : Int32} (hp : pc + 1 = pc') (hd : decode c.code pc = .ok (.ishl, 1))  (k : Go p e below s n0 Q nc ns (T.setTop (mkF m pc' Ls (.int (x <<< (y &&& 31)) :: rest)))) : Go p e below s n0 Q nc ns (T.setTop (mkF m pc Ls (.int y :: .int x :: rest))) := by
  subst hp; exact go_back (fun _ j => XS.ishl X.here hx rfl hd rfl j) k
theorem g_ishr (X : Wk p l e R s m args below meth c n1 Z Ts Lt T h cells slots) (hx : p.tables.exec = Jvm.exec) {x y : Int32} (hp : pc + 1 = pc') (hd : decode c.code pc = .ok (.ishr, 1))  (k : Go p e below s n0 Q nc ns (T.setTop (mkF m pc' Ls (.int (x >>> (y &&& 31)) :: rest)))) : Go p e below s n0 Q nc ns (T.setTop (mkF m pc Ls (.int y :: .int x :: rest))) := by
  subst hp; exact go_back (fun _ j => XS.ishr X.here hx rfl hd rfl j) k
theorem g_iushr (X : Wk p l e R s m args below meth c n1 Z Ts Lt T h cells slots) (hx : p.tables.exec = Jvm.exec) {x y : Int32} (hp : pc + 1 = pc') (hd : decode c.code pc = .ok (.iushr, 1))  (k : Go p e below s n0 Q nc ns (T.setTop (mkF m pc' Ls (.int ((x.toUInt32 >>> (y &&& 31).toUInt32).toInt32) :: rest)))) : Go p e below s n0 Q nc ns (T.setTop (mkF m pc Ls (.int y :: .int x :: rest))) := by
  subst hp; exact go_back (fun _ j => XS.iushr X.here hx rfl hd rfl j) k
theorem g_lshl (X : Wk p l e R s m args below meth c n1 Z Ts Lt T h cells slots) (hx : p.tables.exec = Jvm.exec) {x : Int64} {y : Int32} (hp : pc + 1 = pc') (hd : decode c.code pc = .ok (.lshl, 1))  (k : Go p e below s n0 Q nc ns (T.setTop (mkF m pc' Ls (.long (x <<< (y &&& 0x3f).toInt64) :: rest)))) : Go p e below s n0 Q nc ns (T.setTop (mkF m pc Ls (.int y :: .long x :: rest))) := by
  subst hp; exact go_back (fun _ j => XS.lshl X.here hx rfl hd rfl j) k
theorem g_lshr (X : Wk p l e R s m args below meth c n1 Z Ts Lt T h cells slots) (hx : p.tables.exec = Jvm.exec) {x : Int64} {y : Int32} (hp : pc + 1 = pc') (hd : decode c.code pc = .ok (.lshr, 1))  (k : Go p e below s n0 Q nc ns (T.setTop (mkF m pc' Ls (.long (x >>> (y &&& 0x3f).toInt64) :: rest)))) : Go p e below s n0 Q nc ns (T.setTop (mkF m pc Ls (.int y :: .long x :: rest))) := by
  subst hp; exact go_back (fun _ j => XS.lshr X.here hx rfl hd rfl j) k
theorem g_lushr (X : Wk p l e R s m args below meth c n1 Z Ts Lt T h cells slots) (hx : p.tables.exec = Jvm.exec) {x : Int64} {y : Int32} (hp : pc + 1 = pc') (hd : decode c.code pc = .ok (.lushr, 1))  (k : Go p e below s n0 Q nc ns (T.setTop (mkF m pc' Ls (.long ((x.toUInt64 >>> (y &&& 0x3f).toInt64.toUInt64).toInt64) :: rest)))) : Go p e below s n0 Q nc ns (T.setTop (mkF m pc Ls (.int y :: .long x :: rest))) := by
  subst hp; exact go_back (fun _ j => XS.lushr X.here hx rfl hd rfl j) k
theorem g_ineg (X : Wk p l e R s m args below meth c n1 Z Ts Lt T h cells slots) (hx : p.tables.exec = Jvm.exec) {x : Int32} (hp : pc + 1 = pc') (hd : decode c.code pc = .ok (.ineg, 1))  (k : Go p e below s n0 Q nc ns (T.setTop (mkF m pc' Ls (.int (-x) :: rest)))) : Go p e below s n0 Q nc ns (T.setTop (mkF m pc Ls (.int x :: rest))) := by
  subst hp; exact go_back (fun _ j => XS.ineg X.here hx rfl hd rfl j) k
theorem g_lneg (X : Wk p l e R s m args below meth c n1 Z Ts Lt T h cells slots) (hx : p.tables.exec = Jvm.exec) {x : Int64} (hp : pc + 1 = pc') (hd : decode c.code pc = .ok (.lneg, 1))  (k : Go p e below s n0 Q nc ns (T.setTop (mkF m pc' Ls (.long (-x) :: rest)))) : Go p e below s n0 Q nc ns (T.setTop (mkF m pc Ls (.long x :: rest))) := by
  subst hp; exact go_back (fun _ j => XS.lneg X.here hx rfl hd rfl j) k
theorem g_i2l (X : Wk p l e R s m args below meth c n1 Z Ts Lt T h cells slots) (hx : p.tables.exec = Jvm.exec) {x : Int32} (hp : pc + 1 = pc') (hd : decode c.code pc = .ok (.i2l, 1))  (k : Go p e below s n0 Q nc ns (T.setTop (mkF m pc' Ls (.long x.toInt64 :: rest)))) : Go p e below s n0 Q nc ns (T.setTop (mkF m pc Ls (.int x :: rest))) := by
  subst hp; exact go_back (fun _ j => XS.i2l X.here hx rfl hd rfl j) k
theorem g_l2i (X : Wk p l e R s m args below meth c n1 Z Ts Lt T h cells slots) (hx : p.tables.exec = Jvm.exec) {x : Int64} (hp : pc + 1 = pc') (hd : decode c.code pc = .ok (.l2i, 1))  (k : Go p e below s n0 Q nc ns (T.setTop (mkF m pc' Ls (.int x.toInt32 :: rest)))) : Go p e below s n0 Q nc ns (T.setTop (mkF m pc Ls (.long x :: rest))) := by
  subst hp; exact go_back (fun _ j => XS.l2i X.here hx rfl hd rfl j) k
theorem g_i2b (X : Wk p l e R s m args below meth c n1 Z Ts Lt T h cells slots) (hx : p.tables.exec = Jvm.exec) {x : Int32} (hp : pc + 1 = pc') (hd : decode c.code pc = .ok (.i2b, 1))  (k : Go p e below s n0 Q nc ns (T.setTop (mkF m pc' Ls (.int x.toInt8.toInt32 :: rest)))) : Go p e below s n0 Q nc ns (T.setTop (mkF m pc Ls (.int x :: rest))) := by
  subst hp; exact go_back (fun _ j => XS.i2b X.here hx rfl hd rfl j) k
theorem g_i2s (X : Wk p l e R s m args below meth c n1 Z Ts Lt T h cells slots) (hx : p.tables.exec = Jvm.exec) {x : Int32} (hp : pc + 1 = pc') (hd : decode c.code pc = .ok (.i2s, 1))  (k : Go p e below s n0 Q nc ns (T.setTop (mkF m pc' Ls (.int x.toInt16.toInt32 :: rest)))) : Go p e below s n0 Q nc ns (T.setTop (mkF m pc Ls (.int x :: rest))) := by
  subst hp; exact go_back (fun _ j => XS.i2s X.here hx rfl hd rfl j) k
theorem g_i2c (X : Wk p l e R s m args below meth c n1 Z Ts Lt T h cells slots) (hx : p.tables.exec = Jvm.exec) {x : Int32} (hp : pc + 1 = pc') (hd : decode c.code pc = .ok (.i2c, 1))  (k : Go p e below s n0 Q nc ns (T.setTop (mkF m pc' Ls (.int x.toUInt32.toUInt16.toUInt32.toInt32 :: rest)))) : Go p e below s n0 Q nc ns (T.setTop (mkF m pc Ls (.int x :: rest))) := by
  subst hp; exact go_back (fun _ j => XS.i2c X.here hx rfl hd rfl j) k
theorem g_lcmp (X : Wk p l e R s m args below meth c n1 Z Ts Lt T h cells slots) (hx : p.tables.exec = Jvm.exec) {x y : Int64} (hp : pc + 1 = pc') (hd : decode c.code pc = .ok (.lcmp, 1))  (k : Go p e below s n0 Q nc ns (T.setTop (mkF m pc' Ls (.int (lcmpW x y) :: rest)))) : Go p e below s n0 Q nc ns (T.setTop (mkF m pc Ls (.long y :: .long x :: rest))) := by
  subst hp; exact go_back (fun _ j => XS.lcmp X.here hx rfl hd rfl j) k
theorem g_i2d (X : Wk p l e R s m args below meth c n1 Z Ts Lt T h cells slots) (hx : p.tables.exec = Jvm.exec) {x : Int32} (hp : pc + 1 = pc') (hd : decode c.code pc = .ok (.i2d, 1))  (k : Go p e below s n0 Q nc ns (T.setTop (mkF m pc' Ls (.double (FP.i2d x) :: rest)))) : Go p e below s n0 Q nc ns (T.setTop (mkF m pc Ls (.int x :: rest))) := by
  subst hp; exact go_back (fun _ j => XS.i2dS X.here hx rfl hd rfl rfl j) k
theorem g_l2d (X : Wk p l e R s m args below meth c n1 Z Ts Lt T h cells slots) (hx : p.tables.exec = Jvm.exec) {x : Int64} (hp : pc + 1 = pc') (hd : decode c.code pc = .ok (.l2d, 1))  (k : Go p e below s n0 Q nc ns (T.setTop (mkF m pc' Ls (.double (FP.l2d x) :: rest)))) : Go p e below s n0 Q nc ns (T.setTop (mkF m pc Ls (.long x :: rest))) := by
  subst hp; exact go_back (fun _ j => XS.l2dS X.here hx rfl hd rfl rfl j) k
theorem g_dneg (X : Wk p l e R s m args below meth c n1 Z Ts Lt T h cells slots) (hx : p.tables.exec = Jvm.exec) {x : UInt64} (hp : pc + 1 = pc') (hd : decode c.code pc = .ok (.dneg, 1))  (k : Go p e below s n0 Q nc ns (T.setTop (mkF m pc' Ls (.double (FP.dneg x) :: rest)))) : Go p e below s n0 Q nc ns (T.setTop (mkF m pc Ls (.double x :: rest))) := by
  subst hp; exact go_back (fun _ j => XS.dnegS X.here hx rfl hd rfl rfl j) k
theorem g_dcmp (X : Wk p l e R s m args below meth c n1 Z Ts Lt T h cells slots) (hx : p.tables.exec = Jvm.exec) {o : CmpOp} {x y : UInt64} {z : Int32} (hp : pc + 1 = pc') (hd : decode c.code pc = .ok (.dcmp o, 1)) (hz : cmpValue (FP.dcmp x y) o = z) (k : Go p e below s n0 Q nc ns (T.setTop (mkF m pc' Ls (.int z :: rest)))) : Go p e below s n0 Q nc ns (T.setTop (mkF m pc Ls (.double y :: .double x :: rest))) := by
  subst hp; exact go_back (fun _ j => XS.dcmpS X.here hx rfl hd rfl hz j) k
theorem g_dadd (X : Wk p l e R s m args below meth c n1 Z Ts Lt T h cells slots) (hx : p.tables.exec = Jvm.exec) {x y z : UInt64} (hp : pc + 1 = pc') (hd : decode c.code pc = .ok (.dadd, 1)) (hn : NoNaN64 (FP.dadd x y)) (hz : FP.dadd x y = z) (k : Go p e below s n0 Q nc ns (T.setTop (mkF m pc' Ls (.double z :: rest)))) : Go p e below s n0 Q nc ns (T.setTop (mkF m pc Ls (.double y :: .double x :: rest))) := by
  subst hp; exact go_back (fun _ j => XS.daddS X.here hx rfl hd rfl hn hz j) k
theorem g_dsub (X : Wk p l e R s m args below meth c n1 Z Ts Lt T h cells slots) (hx : p.tables.exec = Jvm.exec) {x y z : UInt64} (hp : pc + 1 = pc') (hd : decode c.code pc = .ok (.dsub, 1)) (hn : NoNaN64 (FP.dsub x y)) (hz : FP.dsub x y = z) (k : Go p e below s n0 Q nc ns (T.setTop (mkF m pc' Ls (.double z :: rest)))) : Go p e below s n0 Q nc ns (T.setTop (mkF m pc Ls (.double y :: .double x :: rest))) := by
  subst hp; exact go_back (fun _ j => XS.dsubS X.here hx rfl hd rfl hn hz j) k
theorem g_dmul (X : Wk p l e R s m args below meth c n1 Z Ts Lt T h cells slots) (hx : p.tables.exec = Jvm.exec) {x y z : UInt64} (hp : pc + 1 = pc') (hd : decode c.code pc = .ok (.dmul, 1)) (hn : NoNaN64 (FP.dmul x y)) (hz : FP.dmul x y = z) (k : Go p e below s n0 Q nc ns (T.setTop (mkF m pc' Ls (.double z :: rest)))) : Go p e below s n0 Q nc ns (T.setTop (mkF m pc Ls (.double y :: .double x :: rest))) := by
  subst hp; exact go_back (fun _ j => XS.dmulS X.here hx rfl hd rfl hn hz j) k
theorem g_ddiv (X : Wk p l e R s m args below meth c n1 Z Ts Lt T h cells slots) (hx : p.tables.exec = Jvm.exec) {x y z : UInt64} (hp : pc + 1 = pc') (hd : decode c.code pc = .ok (.ddiv, 1)) (hn : NoNaN64 (FP.ddiv x y)) (hz : FP.ddiv x y = z) (k : Go p e below s n0 Q nc ns (T.setTop (mkF m pc' Ls (.double z :: rest)))) : Go p e below s n0 Q nc ns (T.setTop (mkF m pc Ls (.double y :: .double x :: rest))) := by
  subst hp; exact go_back (fun _ j => XS.ddivS X.here hx rfl hd rfl hn hz j) k
theorem g_dup (X : Wk p l e R s m args below meth c n1 Z Ts Lt T h cells slots) (hx : p.tables.exec = Jvm.exec) {x : Value} (hp : pc + 1 = pc') (hd : decode c.code pc = .ok (.dup, 1)) (hc : x.category = 1) (k : Go p e below s n0 Q nc ns (T.setTop (mkF m pc' Ls (x :: x :: rest)))) : Go p e below s n0 Q nc ns (T.setTop (mkF m pc Ls (x :: rest))) := by
  subst hp; exact go_back (fun _ j => XS.dup X.here hx rfl hd rfl hc j) k
theorem g_dup_x1 (X : Wk p l e R s m args below meth c n1 Z Ts Lt T h cells slots) (hx : p.tables.exec = Jvm.exec) {x y : Value} (hp : pc + 1 = pc') (hd : decode c.code pc = .ok (.dup_x1, 1)) (hc : x.category = 1) (hc' : y.category = 1) (k : Go p e below s n0 Q nc ns (T.setTop (mkF m pc' Ls (x :: y :: x :: rest)))) : Go p e below s n0 Q nc ns (T.setTop (mkF m pc Ls (x :: y :: rest))) := by
  subst hp; exact go_back (fun _ j => XS.dupX1 X.here hx rfl hd rfl hc hc' j) k
theorem g_pop (X : Wk p l e R s m args below meth c n1 Z Ts Lt T h cells slots) (hx : p.tables.exec = Jvm.exec) {x : Value} (hp : pc + 1 = pc') (hd : decode c.code pc = .ok (.pop, 1)) (hc : x.category = 1) (k : Go p e below s n0 Q nc ns (T.setTop (mkF m pc' Ls (rest)))) : Go p e below s n0 Q nc ns (T.setTop (mkF m pc Ls (x :: rest))) := by
  subst hp; exact go_back (fun _ j => XS.pop X.here hx rfl hd rfl hc j) k
theorem g_dup2 (X : Wk p l e R s m args below meth c n1 Z Ts Lt T h cells slots) (hx : p.tables.exec = Jvm.exec) {x y : Value} (hp : pc + 1 = pc') (hd : decode c.code pc = .ok (.dup2, 1)) (hc : x.category = 1) (hc' : y.category = 1) (k : Go p e below s n0 Q nc ns (T.setTop (mkF m pc' Ls (x :: y :: x :: y :: rest)))) : Go p e below s n0 Q nc ns (T.setTop (mkF m pc Ls (x :: y :: rest))) := by
  subst hp; exact go_back (fun _ j => Jvm.Free.XT.dup2 X.here hx rfl hd rfl hc hc' j) k
theorem g_iinc (X : Wk p l e R s m args below meth c n1 Z Ts Lt T h cells slots) (hx : p.tables.exec = Jvm.exec) {k : Nat} {cst : Int} {x : Int32} {l' : Array Slot} (hp : pc + 3 = pc') (hd : decode c.code pc = .ok (.iinc k cst, 3)) (hl : Ls[k]? = some (.val (.int x))) (hl' : storeLocals Ls k (.int (x + Int32.ofInt cst)) = some l') (q : Go p e below s n0 Q nc ns (T.setTop (mkF m pc' l' st))) : Go p e below s n0 Q nc ns (T.setTop (mkF m pc Ls st)) := by
  subst hp; exact go_back (fun _ j => XS.iinc X.here hx rfl hd hl hl' j) q
theorem g_goto (X : Wk p l e R s m args below meth c n1 Z Ts Lt T h cells slots) (hx : p.tables.exec = Jvm.exec) {o : Int} (hd : decode c.code pc = .ok (.goto o, 3)) (ho : 0 ≤ (pc : Int) + o) (hp : ((pc : Int) + o).toNat = pc') (k : Go p e below s n0 Q nc ns (T.setTop (mkF m pc' Ls st))) : Go p e below s n0 Q nc ns (T.setTop (mkF m pc Ls st)) :=
  go_back (fun _ j => XS.goto X.here hx rfl rfl hd ho hp j) k
theorem g_ifY (X : Wk p l e R s m args below meth c n1 Z Ts Lt T h cells slots) (hx : p.tables.exec = Jvm.exec) {cd : ClassFile.Cond} {o : Int} {x : Int32} {pcY : Nat} (hd : decode c.code pc = .ok (.ifCond cd o, 3)) (ho : 0 ≤ (pc : Int) + o) (hY : ((pc : Int) + o).toNat = pcY) (q : cP cd x 0) (k : Go p e below s n0 Q nc ns (T.setTop (mkF m pcY Ls rest))) : Go p e below s n0 Q nc ns (T.setTop (mkF m pc Ls (.int x :: rest))) :=
  go_back (fun _ j => XS.ifYes X.here hx rfl rfl hd rfl ((if0 _ _).trans (cP_yes q)) ho hY j) k
theorem g_ifN (X : Wk p l e R s m args below meth c n1 Z Ts Lt T h cells slots) (hx : p.tables.exec = Jvm.exec) {cd : ClassFile.Cond} {o : Int} {x : Int32} {pcN : Nat} (hd : decode c.code pc = .ok (.ifCond cd o, 3)) (hN : pc + 3 = pcN) (q : ¬ cP cd x 0) (k : Go p e below s n0 Q nc ns (T.setTop (mkF m pcN Ls rest))) : Go p e below s n0 Q nc ns (T.setTop (mkF m pc Ls (.int x :: rest))) := by
  subst hN; exact go_back (fun _ j => XS.ifNo X.here hx rfl hd rfl ((if0 _ _).trans (cP_no q)) j) k
theorem g_if (X : Wk p l e R s m args below meth c n1 Z Ts Lt T h cells slots) (hx : p.tables.exec = Jvm.exec) {cd : ClassFile.Cond} {o : Int} {x : Int32} {pcY pcN : Nat} (hd : decode c.code pc = .ok (.ifCond cd o, 3)) (ho : 0 ≤ (pc : Int) + o) (hY : ((pc : Int) + o).toNat = pcY) (hN : pc + 3 = pcN) (kY : cP cd x 0 → Go p e below s n0 Q nc ns (T.setTop (mkF m pcY Ls rest))) (kN : ¬ cP cd x 0 → Go p e below s n0 Q nc ns (T.setTop (mkF m pcN Ls rest))) : Go p e below s n0 Q nc ns (T.setTop (mkF m pc Ls (.int x :: rest))) := by
  by_cases q : cP cd x 0
  · exact g_ifY X hx hd ho hY q (kY q)
  · exact g_ifN X hx hd hN q (kN q)
theorem g_icmpY (X : Wk p l e R s m args below meth c n1 Z Ts Lt T h cells slots) (hx : p.tables.exec = Jvm.exec) {cd : ClassFile.Cond} {o : Int} {x y : Int32} {pcY : Nat} (hd : decode c.code pc = .ok (.if_icmp cd o, 3)) (ho : 0 ≤ (pc : Int) + o) (hY : ((pc : Int) + o).toNat = pcY) (q : cP cd x y) (k : Go p e below s n0 Q nc ns (T.setTop (mkF m pcY Ls rest))) : Go p e below s n0 Q nc ns (T.setTop (mkF m pc Ls (.int y :: .int x :: rest))) :=
  go_back (fun _ j => XS.icmpYes X.here hx rfl rfl hd rfl (cP_yes q) ho hY j) k
theorem g_icmpN (X : Wk p l e R s m args below meth c n1 Z Ts Lt T h cells slots) (hx : p.tables.exec = Jvm.exec) {cd : ClassFile.Cond} {o : Int} {x y : Int32} {pcN : Nat} (hd : decode c.code pc = .ok (.if_icmp cd o, 3)) (hN : pc + 3 = pcN) (q : ¬ cP cd x y) (k : Go p e below s n0 Q nc ns (T.setTop (mkF m pcN Ls rest))) : Go p e below s n0 Q nc ns (T.setTop (mkF m pc Ls (.int y :: .int x :: rest))) := by
  subst hN; exact go_back (fun _ j => XS.icmpNo X.here hx rfl hd rfl (cP_no q) j) k
theorem g_icmp (X : Wk p l e R s m args below meth c n1 Z Ts Lt T h cells slots) (hx : p.tables.exec = Jvm.exec) {cd : ClassFile.Cond} {o : Int} {x y : Int32} {pcY pcN : Nat} (hd : decode c.code pc = .ok (.if_icmp cd o, 3)) (ho : 0 ≤ (pc : Int) + o) (hY : ((pc : Int) + o).toNat = pcY) (hN : pc + 3 = pcN) (kY : cP cd x y → Go p e below s n0 Q nc ns (T.setTop (mkF m pcY Ls rest))) (kN : ¬ cP cd x y → Go p e below s n0 Q nc ns (T.setTop (mkF m pcN Ls rest))) : Go p e below s n0 Q nc ns (T.setTop (mkF m pc Ls (.int y :: .int x :: rest))) := by
  by_cases q : cP cd x y
  · exact g_icmpY X hx hd ho hY q (kY q)
  · exact g_icmpN X hx hd hN q (kN q)
theorem g_ifnullY (X : Wk p l e R s m args below meth c n1 Z Ts Lt T h cells slots) (hx : p.tables.exec = Jvm.exec) {o : Int} {pcY : Nat} (hd : decode c.code pc = .ok (.ifnull o, 3)) (ho : 0 ≤ (pc : Int) + o) (hY : ((pc : Int) + o).toNat = pcY) (k : Go p e below s n0 Q nc ns (T.setTop (mkF m pcY Ls rest))) : Go p e below s n0 Q nc ns (T.setTop (mkF m pc Ls (.null :: rest))) :=
  go_back (fun _ j => XS.ifnullYes X.here hx rfl rfl hd rfl ho hY j) k
theorem g_ifnullN (X : Wk p l e R s m args below meth c n1 Z Ts Lt T h cells slots) (hx : p.tables.exec = Jvm.exec) {o : Int} {b : Addr} {pcN : Nat} (hd : decode c.code pc = .ok (.ifnull o, 3)) (hN : pc + 3 = pcN) (k : Go p e below s n0 Q nc ns (T.setTop (mkF m pcN Ls rest))) : Go p e below s n0 Q nc ns (T.setTop (mkF m pc Ls (.ref b :: rest))) := by
  subst hN; exact go_back (fun _ j => XS.ifnullNo X.here hx rfl hd rfl j) k
theorem g_ifnonnullY (X : Wk p l e R s m args below meth c n1 Z Ts Lt T h cells slots) (hx : p.tables.exec = Jvm.exec) {o : Int} {b : Addr} {pcY : Nat} (hd : decode c.code pc = .ok (.ifnonnull o, 3)) (ho : 0 ≤ (pc : Int) + o) (hY : ((pc : Int) + o).toNat = pcY) (k : Go p e below s n0 Q nc ns (T.setTop (mkF m pcY Ls rest))) : Go p e below s n0 Q nc ns (T.setTop (mkF m pc Ls (.ref b :: rest))) :=
  go_back (fun _ j => XS.ifnonnullYes X.here hx rfl rfl hd rfl ho hY j) k
theorem g_ifnonnullN (X : Wk p l e R s m args below meth c n1 Z Ts Lt T h cells slots) (hx : p.tables.exec = Jvm.exec) {o : Int} {pcN : Nat} (hd : decode c.code pc = .ok (.ifnonnull o, 3)) (hN : pc + 3 = pcN) (k : Go p e below s n0 Q nc ns (T.setTop (mkF m pcN Ls rest))) : Go p e below s n0 Q nc ns (T.setTop (mkF m pc Ls (.null :: rest))) := by
  subst hN; exact go_back (fun _ j => XS.ifnonnullNo X.here hx rfl hd rfl j) k
theorem g_normI {x z : Int32} (hz : x = z) (k : Go p e below s n0 Q nc ns (T.setTop (mkF m pc Ls (.int z :: rest)))) : Go p e below s n0 Q nc ns (T.setTop (mkF m pc Ls (.int x :: rest))) := hz ▸ k
theorem g_normD {x z : UInt64} (hz : x = z) (k : Go p e below s n0 Q nc ns (T.setTop (mkF m pc Ls (.double z :: rest)))) : Go p e below s n0 Q nc ns (T.setTop (mkF m pc Ls (.double x :: rest))) := hz ▸ k
theorem g_iincC (X : Wk p l e R s m args below meth c n1 Z Ts Lt T h cells slots) (hx : p.tables.exec = Jvm.exec) {k : Nat} {cst : Int} {x z : Int32} {l' : Array Slot} (hp : pc + 3 = pc') (hd : decode c.code pc = .ok (.iinc k cst, 3)) (hl : Ls[k]? = some (.val (.int x))) (hz : x + Int32.ofInt cst = z) (hl' : storeLocals Ls k (.int z) = some l') (q : Go p e below s n0 Q nc ns (T.setTop (mkF m pc' l' st))) : Go p e below s n0 Q nc ns (T.setTop (mkF m pc Ls st)) := by
  subst hz; exact g_iinc X hx hp hd hl hl' q
theorem g_ldcI (X : Wk p l e R s m args below meth c n1 Z Ts Lt T h cells slots) (hx : p.tables.exec = Jvm.exec) (hZ : Z.Warmed39 s.vm) {own : String} {index : Nat} {v : Int32} (hown : s.vm.findClass own = some m.cls) (w : (Jvm.Cond.constant own index v).before a0 Z = true) (hp : pc + 2 = pc') (hd : decode c.code pc = .ok (.ldc index, 2))
    (k : Go p e below s n0 Q nc ns (T.setTop (mkF m pc' Ls (.int v :: st)))) : Go p e below s n0 Q nc ns (T.setTop (mkF m pc Ls st)) := by
  subst hp; obtain ⟨_, _, X, -, -, B⟩ := X; replace hZ := B.hZ hZ; replace hown := B.fc hown
  exact go_back (X.ldcInt hx hown (mvT hZ w) (g := mkF m pc Ls st) rfl hd) k
theorem g_ldc2L (X : Wk p l e R s m args below meth c n1 Z Ts Lt T h cells slots) (hx : p.tables.exec = Jvm.exec) (hZ : Z.Warmed39 s.vm) {own : String} {index : Nat} {v : Int64} (hown : s.vm.findClass own = some m.cls) (w : (Jvm.Cond.constantLong own index v).before a0 Z = true) (hp : pc + 3 = pc') (hd : decode c.code pc = .ok (.ldc2_w index, 3))
    (k : Go p e below s n0 Q nc ns (T.setTop (mkF m pc' Ls (.long v :: st)))) : Go p e below s n0 Q nc ns (T.setTop (mkF m pc Ls st)) := by
  subst hp; obtain ⟨_, _, X, -, -, B⟩ := X; replace hZ := B.hZ hZ; replace hown := B.fc hown
  exact go_back (X.ldc2Long hx hown (mvT hZ w) (g := mkF m pc Ls st) rfl hd) k
theorem g_ldc2D (X : Wk p l e R s m args below meth c n1 Z Ts Lt T h cells slots) (hx : p.tables.exec = Jvm.exec) (hZ : Z.Warmed39 s.vm) {own : String} {index : Nat} {v : UInt64} (hown : s.vm.findClass own = some m.cls) (w : (Jvm.Cond.constantDouble own index v).before a0 Z = true) (hp : pc + 3 = pc') (hd : decode c.code pc = .ok (.ldc2_w index, 3))
    (k : Go p e below s n0 Q nc ns (T.setTop (mkF m pc' Ls (.double v :: st)))) : Go p e below s n0 Q nc ns (T.setTop (mkF m pc Ls st)) := by
  subst hp; obtain ⟨_, _, X, -, -, B⟩ := X; replace hZ := B.hZ hZ; replace hown := B.fc hown
  exact go_back (X.ldc2DoubleC hx hown (mvT hZ w) (g := mkF m pc Ls st) rfl hd) k
theorem g_getF (X : Wk p l e R s m args below meth c n1 Z Ts Lt T h cells slots) (hx : p.tables.exec = Jvm.exec) (hZ : Z.Warmed39 s.vm) {own R0 O n d : String} {index : Nat} (hown : s.vm.findClass own = some m.cls) (w : (Jvm.Cond.fieldLink own index R0 n d).before a0 Z = true) (via : Via Z R0 O n d) {a : Addr} {v : Value} (F : Fld Z h a O n d v) (hp : pc + 3 = pc') (hd : decode c.code pc = .ok (.getfield index, 3))
    (k : ∀ T', Wk p l e R s m args below meth c n1 Z Ts Lt T' h cells slots → Go p e below s n0 Q nc ns (T'.setTop (mkF m pc' Ls (v :: rest)))) : Go p e below s n0 Q nc ns (T.setTop (mkF m pc Ls (.ref a :: rest))) := by
  subst hp; obtain ⟨locs, vm0, X, N, eT, B⟩ := X; replace hZ := B.hZ hZ; replace hown := B.fc hown
  obtain ⟨T', X', e', b⟩ := getF X hx hZ hown (host := "") (Or.inl w) via eT F (g := mkF m pc Ls (.ref a :: rest)) rfl rfl hd
  exact go_back b (k T' ⟨locs, vm0, X', N, e', B⟩)
theorem g_getS (X : Wk p l e R s m args below meth c n1 Z Ts Lt T h cells slots) (hx : p.tables.exec = Jvm.exec) (hZ : Z.Warmed39 s.vm) {own R0 O n d : String} {index : Nat} (hown : s.vm.findClass own = some m.cls) (w : (Jvm.Cond.fieldLink own index R0 n d).before a0 Z = true) (via : Via Z R0 O n d) {v : Value} (F : Sta Z h O n d v) (hp : pc + 3 = pc') (hd : decode c.code pc = .ok (.getstatic index, 3))
    (k : ∀ T', Wk p l e R s m args below meth c n1 Z Ts Lt T' h cells slots → Go p e below s n0 Q nc ns (T'.setTop (mkF m pc' Ls (v :: st)))) : Go p e below s n0 Q nc ns (T.setTop (mkF m pc Ls st)) := by
  subst hp; obtain ⟨locs, vm0, X, N, eT, B⟩ := X; replace hZ := B.hZ hZ; replace hown := B.fc hown
  obtain ⟨T', X', e', b⟩ := getS X hx hZ hown w via eT F (g := mkF m pc Ls st) rfl hd (host := "")
  exact go_back b (k T' ⟨locs, vm0, X', N, e', B⟩)
theorem g_putF (X : Wk p l e R s m args below meth c n1 Z Ts Lt T h cells slots) (hx : p.tables.exec = Jvm.exec) (hZ : Z.Warmed39 s.vm) {own R0 O n d C : String} {index kk : Nat} {ty : FieldType} (hown : s.vm.findClass own = some m.cls) (w : (Jvm.Cond.fieldLink own index R0 n d).before a0 Z = true) (via : Via Z R0 O n d) {a : Addr} {v old : Value} (F : Fld Z h a O n d old) (E : Exa Z h a C)
    (L : (Jvm.Cond.lays C O n d).before a0 Z = true ∨ ((Jvm.Cond.laysFinal C O n d).before a0 Z = true ∧ own = O ∧ meth.name = "<init>")) (wi : (Jvm.Cond.instantiable C kk).before a0 Z = true) (hty : parseFieldDescriptor d = some ty) (hn : narrow ty v = v) (hf : fits ty v = true) (hna : n1 ≤ a) (hp : pc + 3 = pc') (hd : decode c.code pc = .ok (.putfield index, 3))
    (k : ∀ T' h', Wk p l e R s m args below meth c n1 Z Ts Lt T' h' cells slots → Wr h h' a (Jvm.RoadKit.slotOf Z O n d) v → Go p e below s n0 Q nc ns (T'.setTop (mkF m pc' Ls rest))) : Go p e below s n0 Q nc ns (T.setTop (mkF m pc Ls (v :: .ref a :: rest))) := by
  subst hp; obtain ⟨locs, vm0, X, N, eT, B⟩ := X; replace hZ := B.hZ hZ; replace hown := B.fc hown
  obtain ⟨T', h', X', e', W', b⟩ := putF X hx hZ hown (host := "") (Or.inl w) via eT F E L wi hty hn hf (g := mkF m pc Ls (v :: .ref a :: rest)) rfl rfl hd
  exact go_back b (k T' h' ⟨_, vm0, X', Fr.snoc X' N hna, e', B.grow (Nat.le_of_eq W'.size.symm)⟩ W')
theorem g_newO (X : Wk p l e R s m args below meth c n1 Z Ts Lt T h cells slots) (hx : p.tables.exec = Jvm.exec) (hZ : Z.Warmed39 s.vm) {own C : String} {index n : Nat} (hown : s.vm.findClass own = some m.cls) (w : (Jvm.Cond.classLink own index C).before a0 Z = true) (wi : (Jvm.Cond.instantiable C n).before a0 Z = true) (wz : (Jvm.Cond.initialized C).before a0 Z = true) (hp : pc + 3 = pc') (hd : decode c.code pc = .ok (.new index, 3)) (hc : cells + 1 ≤ R.cells) (hl : slots + n ≤ R.slots)
    (k : ∀ T' h' a, a = h.size → Wk p l e R s m args below meth c n1 Z Ts Lt T' h' (cells + 1) (slots + n) → Ext h h' → Exa Z h' a C → (∀ {O nm d : String} {ty : FieldType}, Laid Z a0 C O nm d → parseFieldDescriptor d = some ty → Fld Z h' a O nm d (defaultValue ty)) → Go p e below s n0 Q nc ns (T'.setTop (mkF m pc' Ls (.ref a :: st)))) : Go p e below s n0 Q nc ns (T.setTop (mkF m pc Ls st)) := by
  subst hp; obtain ⟨locs, vm0, X, N, eT, B⟩ := X; replace hZ := B.hZ hZ; replace hown := B.fc hown
  obtain ⟨T', h', X', e', E', A', D', -, b⟩ := newO X hx hZ hown w wi wz eT (g := mkF m pc Ls st) rfl hd hc hl
  exact go_back b (k T' h' h.size rfl ⟨_, vm0, X', N, e', B.grow E'.1⟩ E' A' (fun L q => D' L q))
theorem g_initO (X : Wk p l e R s m args below meth c n1 Z Ts Lt T h cells slots) (hx : p.tables.exec = Jvm.exec) (hZ : Z.Warmed39 s.vm) {own : String} {index : Nat} (hown : s.vm.findClass own = some m.cls) (w1 : (Jvm.Cond.methodLink own index Lib.objectInit).before a0 Z = true) (w2 : (Jvm.Cond.instanceMethod Lib.objectInit).before a0 Z = true) (w3 : (Jvm.Cond.code Lib.objectInit ⟨#[0xb1]⟩ 1 none).before a0 Z = true) {a : Addr} (hsz : Ls.size = c.maxLocals) (hp : pc + 3 = pc') (hd : decode c.code pc = .ok (.invokespecial index, 3)) (hf : 1 ≤ R.frames) {W : Nat} (hW : 2 * 0 + (rest.map fun v => v.category).sum ≤ W) (hl : W + 12 ≤ R.locals)
    (k : ∀ T', Wk p l e R s m args below meth c n1 Z Ts Lt T' h cells slots → Go p e below s n0 Q nc ns (T'.setTop (mkF m pc' Ls rest))) : Go p e below s n0 Q nc ns (T.setTop (mkF m pc Ls (.ref a :: rest))) := by
  subst hp; obtain ⟨locs, vm0, X, N, eT, B⟩ := X; replace hZ := B.hZ hZ; replace hown := B.fc hown
  obtain ⟨T', X', e', b⟩ := initO X hx hZ hown w1 w2 w3 eT (g := mkF m pc Ls (.ref a :: rest)) rfl hsz rfl hd hf hW hl
  exact go_back b (k T' ⟨_, vm0, X', N, e', B⟩)

theorem own_nf {s : State} {args : Array Value} {C : String} {y y' y0 : MethodName} (hcl : y'.cls = y.cls) (w : (Jvm.Cond.selects C y0 y').before args s = true) : NotFace s y := fun r0 h0 => by
  obtain ⟨c2, r2, m2, q1, q2, q3, q4, kP, hkP, hkPi⟩ := Cond.selects_spec w
  have a := findClass_of_methodNamed h0
  have b := findClass_of_methodNamed q3
  rw [hcl] at b
  have q : m2.cls = r0.cls := Option.some.inj (b.symm.trans a)
  rw [q] at hkP
  exact ⟨kP, hkP, hkPi⟩
theorem own_same {s : State} {args a1 : Array Value} {y : MethodName} (nf : NotFace s y) (wi : (Jvm.Cond.instanceMethod y).before args s = true) (hy : y.cls ≠ "java/lang/invoke/MethodHandle" ∧ y.cls ≠ "java/lang/invoke/VarHandle") : (Jvm.Cond.sameMethod y.cls y.cls y.name y.desc).before a1 s = true := by
  obtain ⟨mk, methM, hn, hm, -, -⟩ := Cond.instanceMethod_spec wi
  obtain ⟨kr, hk, hi⟩ := nf _ hn
  have hc := findClass_of_methodNamed hn
  have hn' : s.methodNamed? ⟨y.cls, y.name, y.desc⟩ = some mk := hn
  simp [Cond.before, Cond.holds, Cond.value, hc, State.methodFound?_of_named hn hy, hn', hk, hi]
/-- a private method, the word 'selects' said of a subclass -/
theorem own_privS {locs : List Loc} (X : Stand p l e R s m args below meth c T locs cells slots) (hexec : p.tables.exec = Jvm.exec) {own C : String} {index : Nat} {y : MethodName} {bytes : ByteArray} {maxL : Nat} {ret : Option FieldType}
    (hown : s.vm.findClass own = some m.cls) (hlink : (Cond.methodLink own index y).before args s = true) (hinst : (Cond.instanceMethod y).before args s = true) (hsel : (Cond.selects C y y).before args s = true)
    (hpriv : s.PrivateAt y) (hcode : (Cond.code y bytes maxL ret).before args s = true) (hy : y.cls ≠ "java/lang/invoke/MethodHandle" ∧ y.cls ≠ "java/lang/invoke/VarHandle")
    {W : Nat} {Pre : Free.Pt → Array Value → Prop} {Post : Free.Pt → Array Value → Option Value → Free.Pt → Prop} (hK : Free.BackS l R p e below s args y 3 W Pre Post)
    {g : JFrame} (hg : g.method = m) (hsize : g.locals.size = c.maxLocals) {s₀ : State} (hcome : Steps p.tables e below s₀ (T.setTop g)) {a : Addr} {cell : Cell} (hcell : T.heap[a]? = some cell) (hobj : ∀ q, cell.vm ≠ .statics q)
    {argsL rest : List Value} (hlen : ∀ sig, parseMethodDescriptor y.desc = some sig → argsL.length = sig.parameters.length)
    (hstack : g.stack = argsL.reverse ++ .ref a :: rest) (hW : 2 * g.monitorRoom + (rest.map fun v => v.category).sum ≤ W) (hdg : decode c.code g.pc = .ok (.invokevirtual index, 3))
    (hpre : ∀ vm₁, s.WarmedH vm₁ → Pre ⟨T.setVm vm₁, locs, cells, slots⟩ (.ref a :: argsL).toArray) :
    ∃ (v : Option Value) (vm₁ : Vm) (B : Free.Pt), s.WarmedH vm₁ ∧ Stand p l e R (s.setVm B.U.vm) m args below meth c B.U B.locs B.cells B.slots ∧ s.Since B.U.vm B.U.heap.size ∧ T.heap.size ≤ B.U.heap.size ∧ Post ⟨T.setVm vm₁, locs, cells, slots⟩ (.ref a :: argsL).toArray v B ∧
      Steps p.tables e below s₀ (B.U.setTop { g with pc := g.pc + 3, stack := v.toList ++ rest }) := by
  obtain ⟨mk, mM, hn, hmM, hst, hab⟩ := Cond.instanceMethod_spec hinst
  obtain ⟨m3, cM, hm3, -, -, -, -, -, -, hsig⟩ := Cond.code_spec hn hcode
  cases hmM.symm.trans hm3
  obtain ⟨c2, r2, m2, -, -, q3, -, kP, hkP, hkPi⟩ := Cond.selects_spec hsel
  cases hn.symm.trans q3
  obtain ⟨vm₁, X₁, st₁⟩ := X.invokevirtual hexec hown hlink hn hmM hst hkP hkPi hy (a := a) (cell := cell) hcell hobj (selectMethod_private hmM (hpriv mk mM hn hmM)) hmM hab hkP hkPi (g := g) hg (argsL := argsL) (rest := rest) (hlen _ hsig) hstack hdg
  obtain ⟨v, B, X', hS, hgr, hpost, hsteps⟩ := hK m meth c ⟨T.setVm vm₁, locs, cells, slots⟩ { g with stack := rest } (.invokevirtual index) mk (.ref a :: argsL).toArray X₁ hg hsize hdg hW (X₁.named hn) (hpre vm₁ X₁.warmed)
  exact ⟨v, vm₁, B, X₁.warmed, X', hS, hgr, hpost, (hcome.trans (st₁ _ fun acts => by rw [doInvoke_state]; exact Steps.refl _)).trans hsteps⟩
/-- more texts may be told of -/
theorem Wk.more (X : Wk p l e R s m args below meth c n1 Z Ts Lt T h cells slots) (q : ∀ t ∈ Ts, t ∈ Ts') : Wk p l e R s m args below meth c n1 Z Ts' Lt T h cells slots := by
  obtain ⟨locs, vm0, X, N, eT, B⟩ := X
  obtain ⟨w, ⟨more, e1, e2⟩, t⟩ := B
  exact ⟨locs, vm0, X, N, eT, w, ⟨more, e1, fun r hr => by obtain ⟨t, ht, u⟩ := e2 r hr; exact ⟨t, q t ht, u⟩⟩, t⟩
section Calls
variable {y z : MethodName} {bytes : ByteArray} {maxL : Nat} {ret : Option FieldType} {rm : Room} {as : Array Value} {Qc : Option Value → Heap → Prop} {own : String} {index W : Nat} {argsL : List Value} {ps : List FieldType} {r : Option FieldType}
theorem backW {len : Nat} (hM : Con l Z n1 Ts Ts' y bytes maxL ret [] rm as h Qc) (hZ : Z.Warmed39 vm0) (wc : (Jvm.Cond.code y bytes maxL ret).before a0 Z = true) (wz : (Jvm.Cond.initialized y.cls).before a0 Z = true) (hf : rm.frames + 1 ≤ R.frames) (hl : W + (maxL + 11) + rm.locals ≤ R.locals) (I : IB Z vm0 Ts) :
    BackS l R p e below (s.setVm vm0) args y len W (fun A a => a = as ∧ A.U.heap = h ∧ A.cells + rm.cells ≤ R.cells ∧ A.slots + rm.slots ≤ R.slots)
      (fun A _ v B => ∃ L, (Fr n1 L ∧ Qc v B.U.heap ∧ IB Z B.U.vm Ts') ∧ B.locs = A.locs ++ L ∧ B.cells = A.cells + rm.cells ∧ B.slots = A.slots + rm.slots) :=
  BackS.of_freeW (bytes := bytes) (maxL := maxL) (ret := ret) (E := fun _ first o t L k n => k = rm.cells ∧ n = rm.slots ∧ ∃ v, o = .returned v ∧ (Fr n1 L ∧ Qc v t.heap ∧ IB Z t.vm Ts')) hM hf hl
    (fun m meth c A a Y hp => have hU : Z.Warmed39 A.U.vm := wtrans (s := s.setVm vm0) hZ Y.warmed
      ⟨by show (Jvm.Cond.and _ .tt).before a A.U = true; rw [Cond.before_and, mv hU wc]; rfl, mv hU wc, mv hU wz, hp.2.2.1, hp.2.2.2⟩)
    (fun m meth c A a g mk Y hp => ⟨hp.1, wtrans (s := s.setVm vm0) hZ Y.warmed, hp.2.1, by
      obtain ⟨more, e1, e2⟩ := I
      exact ⟨more, (show A.U.vm.interned = _ from Y.warmed.interned_eq).trans e1, e2⟩⟩) (fun _ _ _ _ _ _ _ _ _ => trivial)
    (fun _ _ _ _ ⟨v, L, h1, h2, h3⟩ => ⟨L, _, _, h3, rfl, rfl, v, h1, h2⟩)
    (fun m meth c A a g mk v t L k n Y hp _ _ ⟨e1, e2, v', e3, e4⟩ => by cases e3; subst e1 e2; exact ⟨L, e4, rfl, rfl, rfl⟩)
theorem g_callS (X : Wk p l e R s m args below meth c n1 Z Ts Lt T h cells slots) (hx : p.tables.exec = Jvm.exec) (hZ : Z.Warmed39 s.vm) (hown : s.vm.findClass own = some m.cls) (w1 : (Jvm.Cond.methodLink own index y).before a0 Z = true) (w2 : (Jvm.Cond.static y).before a0 Z = true) (w3 : (Jvm.Cond.initialized y.cls).before a0 Z = true) (w4 : (Jvm.Cond.code y bytes maxL ret).before a0 Z = true) 
    (hy : y.cls ≠ "java/lang/invoke/MethodHandle" ∧ y.cls ≠ "java/lang/invoke/VarHandle") (hM : Con l Z n1 Ts Ts' y bytes maxL ret [] rm as h Qc) (hlen : parseMethodDescriptor y.desc = some ⟨ps, r⟩) (hl : argsL.length = ps.length) (has : as = argsL.toArray) (hp : pc + 3 = pc') (hd : decode c.code pc = .ok (.invokestatic index, 3))
    (hst : st = argsL.reverse ++ rest)
    (k : ∀ v T' h', Wk p l e R s m args below meth c n1 Z Ts' Lt T' h' (cells + rm.cells) (slots + rm.slots) → Qc v h' → Go p e below s n0 Q nc ns (T'.setTop (mkF m pc' Ls (v.toList ++ rest)))) (hsz : Ls.size = c.maxLocals := by rw [‹c.maxLocals = _›]; rfl) (hW : 2 * 0 + (rest.map fun v => v.category).sum ≤ W := by exact Nat.le_of_eq rfl) (hf : rm.frames + 1 ≤ R.frames := by decide) (hlo : W + (maxL + 11) + rm.locals ≤ R.locals := by decide) (hc : cells + rm.cells ≤ R.cells := by decide) (hs : slots + rm.slots ≤ R.slots := by decide) : Go p e below s n0 Q nc ns (T.setTop (mkF m pc Ls st)) := by
  subst hp; subst has; obtain ⟨locs, vm0, X, N, eT, B⟩ := X; replace hZ := B.hZ hZ; replace hown := B.fc hown
  obtain ⟨v, vm1, ⟨U, L1, c1, s1⟩, -, X', hS, hgr, ⟨Lc, hQ, l1, y1, z1⟩, b⟩ := Jvm.RoadKit.callSS X hx hown (mvT hZ w1) (mvT hZ w2) (mvT hZ w3) (mvT hZ w4) hy (backW (W := W) hM hZ w4 w3 hf hlo B.ib) (g := mkF m pc Ls st) rfl hsz (argsL := argsL) (rest := rest) (lenOf hlen hl) hst hW hd (fun _ _ => ⟨rfl, eT, hc, hs⟩)
  dsimp only [Pt.U, Pt.locs, Pt.cells, Pt.slots] at X' l1 y1 z1 b hQ hS hgr
  subst l1 y1 z1
  exact go_back (fun _ j => b.trans j) (k v U U.heap ⟨_, U.vm, X', Fr.app N hQ.1, rfl, B.call hS (by rw [← eT]; exact hgr) (Nat.le_refl _) hQ.2.2⟩ hQ.2.1)
theorem g_callI (X : Wk p l e R s m args below meth c n1 Z Ts Lt T h cells slots) (hx : p.tables.exec = Jvm.exec) (hZ : Z.Warmed39 s.vm) (hown : s.vm.findClass own = some m.cls) (hy1 : y.name = "<init>") (w1 : (Jvm.Cond.methodLink own index y).before a0 Z = true) (w2 : (Jvm.Cond.instanceMethod y).before a0 Z = true) (w3 : (Jvm.Cond.initialized y.cls).before a0 Z = true) (w4 : (Jvm.Cond.code y bytes maxL none).before a0 Z = true) 
    (hy : y.cls ≠ "java/lang/invoke/MethodHandle" ∧ y.cls ≠ "java/lang/invoke/VarHandle") {a : Addr} (hM : Con l Z n1 Ts Ts' y bytes maxL none [] rm as h Qc) (hlen : parseMethodDescriptor y.desc = some ⟨ps, r⟩) (hl : argsL.length = ps.length) (has : as = (Value.ref a :: argsL).toArray) (hp : pc + 3 = pc') (hd : decode c.code pc = .ok (.invokespecial index, 3))
    (hst : st = argsL.reverse ++ .ref a :: rest)
    (k : ∀ v T' h', Wk p l e R s m args below meth c n1 Z Ts' Lt T' h' (cells + rm.cells) (slots + rm.slots) → Qc v h' → Go p e below s n0 Q nc ns (T'.setTop (mkF m pc' Ls (v.toList ++ rest)))) (hsz : Ls.size = c.maxLocals := by rw [‹c.maxLocals = _›]; rfl) (hW : 2 * 0 + (rest.map fun v => v.category).sum ≤ W := by exact Nat.le_of_eq rfl) (hf : rm.frames + 1 ≤ R.frames := by decide) (hlo : W + (maxL + 11) + rm.locals ≤ R.locals := by decide) (hc : cells + rm.cells ≤ R.cells := by decide) (hs : slots + rm.slots ≤ R.slots := by decide) : Go p e below s n0 Q nc ns (T.setTop (mkF m pc Ls st)) := by
  subst hp; subst has; obtain ⟨locs, vm0, X, N, eT, B⟩ := X; replace hZ := B.hZ hZ; replace hown := B.fc hown
  obtain ⟨v, vm1, ⟨U, L1, c1, s1⟩, -, X', hS, hgr, ⟨Lc, hQ, l1, y1, z1⟩, b⟩ := X.specialBackS hx hy1 hown (mvT hZ w1) (mvT hZ w2) (mvT hZ w4) hy (backW (W := W) hM hZ w4 w3 hf hlo B.ib) (g := mkF m pc Ls st) rfl hsz (Steps.refl _) (argsL := argsL) (rest := rest) (lenOf hlen hl) hst hW hd (fun _ _ => ⟨rfl, eT, hc, hs⟩)
  dsimp only [Pt.U, Pt.locs, Pt.cells, Pt.slots] at X' l1 y1 z1 b hQ hS hgr
  subst l1 y1 z1
  exact go_back (fun _ j => b.trans j) (k v U U.heap ⟨_, U.vm, X', Fr.app N hQ.1, rfl, B.call hS (by rw [← eT]; exact hgr) (Nat.le_refl _) hQ.2.2⟩ hQ.2.1)
theorem g_callV (X : Wk p l e R s m args below meth c n1 Z Ts Lt T h cells slots) (hx : p.tables.exec = Jvm.exec) (hZ : Z.Warmed39 s.vm) (hown : s.vm.findClass own = some m.cls) {C : String} (w1 : (Jvm.Cond.methodLink own index y).before a0 Z = true) (w2 : (Jvm.Cond.declares y).before a0 Z = true) (w5 : (Jvm.Cond.selects C y y).before a0 Z = true) (w6 : (Jvm.Cond.instanceMethod y).before a0 Z = true) (w3 : (Jvm.Cond.initialized y.cls).before a0 Z = true) (w4 : (Jvm.Cond.code y bytes maxL ret).before a0 Z = true) 
    (hy : y.cls ≠ "java/lang/invoke/MethodHandle" ∧ y.cls ≠ "java/lang/invoke/VarHandle") {a : Addr} (E : Exa Z h a C) (hM : Con l Z n1 Ts Ts' y bytes maxL ret [] rm as h Qc) (hlen : parseMethodDescriptor y.desc = some ⟨ps, r⟩) (hl : argsL.length = ps.length) (has : as = (Value.ref a :: argsL).toArray) (hp : pc + 3 = pc') (hd : decode c.code pc = .ok (.invokevirtual index, 3))
    (hst : st = argsL.reverse ++ .ref a :: rest)
    (k : ∀ v T' h', Wk p l e R s m args below meth c n1 Z Ts' Lt T' h' (cells + rm.cells) (slots + rm.slots) → Qc v h' → Go p e below s n0 Q nc ns (T'.setTop (mkF m pc' Ls (v.toList ++ rest)))) (hsz : Ls.size = c.maxLocals := by rw [‹c.maxLocals = _›]; rfl) (hW : 2 * 0 + (rest.map fun v => v.category).sum ≤ W := by exact Nat.le_of_eq rfl) (hf : rm.frames + 1 ≤ R.frames := by decide) (hlo : W + (maxL + 11) + rm.locals ≤ R.locals := by decide) (hc : cells + rm.cells ≤ R.cells := by decide) (hs : slots + rm.slots ≤ R.slots := by decide) : Go p e below s n0 Q nc ns (T.setTop (mkF m pc Ls st)) := by
  subst hp; subst has; obtain ⟨locs, vm0, X, N, eT, B⟩ := X; replace hZ := B.hZ hZ; replace hown := B.fc hown
  obtain ⟨cq, kq, qa, qb, qc⟩ := isOf hZ eT E
  obtain ⟨v, vm1, ⟨U, L1, c1, s1⟩, -, X', hS, hgr, ⟨Lc, hQ, l1, y1, z1⟩, b⟩ := X.virtualBackS hx (y := y) (z := y) hown (mvT hZ w1) (mvT hZ w2) (notFace_of_selects (args := #[]) (mvT hZ w5)) (mvT hZ w5) (mvT hZ w6) hy (backW (W := W) hM hZ w4 w3 hf hlo B.ib) qa qc (g := mkF m pc Ls st) rfl hsz (Steps.refl _) (argsL := argsL) (rest := rest) (lenOf hlen hl) hst hW hd (fun _ _ => ⟨rfl, eT, hc, hs⟩)
  dsimp only [Pt.U, Pt.locs, Pt.cells, Pt.slots] at X' l1 y1 z1 b hQ hS hgr
  subst l1 y1 z1
  exact go_back (fun _ j => b.trans j) (k v U U.heap ⟨_, U.vm, X', Fr.app N hQ.1, rfl, B.call hS (by rw [← eT]; exact hgr) (Nat.le_refl _) hQ.2.2⟩ hQ.2.1)
theorem g_callVS (X : Wk p l e R s m args below meth c n1 Z Ts Lt T h cells slots) (hx : p.tables.exec = Jvm.exec) (hZ : Z.Warmed39 s.vm) (hown : s.vm.findClass own = some m.cls) {C S : String} (w1 : (Jvm.Cond.methodLink own index y).before a0 Z = true) (w2 : (Jvm.Cond.declares y).before a0 Z = true) (w0 : (Jvm.Cond.superclass y.cls S).before a0 Z = true) (w5 : (Jvm.Cond.selects C y z).before a0 Z = true) (w6 : (Jvm.Cond.instanceMethod z).before a0 Z = true) (w3 : (Jvm.Cond.initialized z.cls).before a0 Z = true) (w4 : (Jvm.Cond.code z bytes maxL ret).before a0 Z = true) 
    (hy : y.cls ≠ "java/lang/invoke/MethodHandle" ∧ y.cls ≠ "java/lang/invoke/VarHandle") {a : Addr} (E : Exa Z h a C) (hM : Con l Z n1 Ts Ts' z bytes maxL ret [] rm as h Qc) (hlen : parseMethodDescriptor y.desc = some ⟨ps, r⟩) (hl : argsL.length = ps.length) (has : as = (Value.ref a :: argsL).toArray) (hp : pc + 3 = pc') (hd : decode c.code pc = .ok (.invokevirtual index, 3))
    (hst : st = argsL.reverse ++ .ref a :: rest)
    (k : ∀ v T' h', Wk p l e R s m args below meth c n1 Z Ts' Lt T' h' (cells + rm.cells) (slots + rm.slots) → Qc v h' → Go p e below s n0 Q nc ns (T'.setTop (mkF m pc' Ls (v.toList ++ rest)))) (hsz : Ls.size = c.maxLocals := by rw [‹c.maxLocals = _›]; rfl) (hW : 2 * 0 + (rest.map fun v => v.category).sum ≤ W := by exact Nat.le_of_eq rfl) (hf : rm.frames + 1 ≤ R.frames := by decide) (hlo : W + (maxL + 11) + rm.locals ≤ R.locals := by decide) (hc : cells + rm.cells ≤ R.cells := by decide) (hs : slots + rm.slots ≤ R.slots := by decide) : Go p e below s n0 Q nc ns (T.setTop (mkF m pc Ls st)) := by
  subst hp; subst has; obtain ⟨locs, vm0, X, N, eT, B⟩ := X; replace hZ := B.hZ hZ; replace hown := B.fc hown
  obtain ⟨cq, kq, qa, qb, qc⟩ := isOf hZ eT E
  obtain ⟨v, vm1, ⟨U, L1, c1, s1⟩, -, X', hS, hgr, ⟨Lc, hQ, l1, y1, z1⟩, b⟩ := X.virtualBackS hx (y := y) (z := z) hown (mvT hZ w1) (mvT hZ w2) (nf_super (args := #[]) (mvT hZ w0)) (mvT hZ w5) (mvT hZ w6) hy (backW (W := W) hM hZ w4 w3 hf hlo B.ib) qa qc (g := mkF m pc Ls st) rfl hsz (Steps.refl _) (argsL := argsL) (rest := rest) (lenOf hlen hl) hst hW hd (fun _ _ => ⟨rfl, eT, hc, hs⟩)
  dsimp only [Pt.U, Pt.locs, Pt.cells, Pt.slots] at X' l1 y1 z1 b hQ hS hgr
  subst l1 y1 z1
  exact go_back (fun _ j => b.trans j) (k v U U.heap ⟨_, U.vm, X', Fr.app N hQ.1, rfl, B.call hS (by rw [← eT]; exact hgr) (Nat.le_refl _) hQ.2.2⟩ hQ.2.1)
theorem g_callVT (X : Wk p l e R s m args below meth c n1 Z Ts Lt T h cells slots) (hx : p.tables.exec = Jvm.exec) (hZ : Z.Warmed39 s.vm) (hown : s.vm.findClass own = some m.cls) {C : String} (w1 : (Jvm.Cond.methodLink own index y).before a0 Z = true) (w2 : (Jvm.Cond.declares y).before a0 Z = true) (w0 : (Jvm.Cond.noSuperclass y.cls).before a0 Z = true) (w5 : (Jvm.Cond.selects C y z).before a0 Z = true) (w6 : (Jvm.Cond.instanceMethod z).before a0 Z = true) (w3 : (Jvm.Cond.initialized z.cls).before a0 Z = true) (w4 : (Jvm.Cond.code z bytes maxL ret).before a0 Z = true) 
    (hy : y.cls ≠ "java/lang/invoke/MethodHandle" ∧ y.cls ≠ "java/lang/invoke/VarHandle") {a : Addr} (E : Exa Z h a C) (hM : Con l Z n1 Ts Ts' z bytes maxL ret [] rm as h Qc) (hlen : parseMethodDescriptor y.desc = some ⟨ps, r⟩) (hl : argsL.length = ps.length) (has : as = (Value.ref a :: argsL).toArray) (hp : pc + 3 = pc') (hd : decode c.code pc = .ok (.invokevirtual index, 3))
    (hst : st = argsL.reverse ++ .ref a :: rest)
    (k : ∀ v T' h', Wk p l e R s m args below meth c n1 Z Ts' Lt T' h' (cells + rm.cells) (slots + rm.slots) → Qc v h' → Go p e below s n0 Q nc ns (T'.setTop (mkF m pc' Ls (v.toList ++ rest)))) (hsz : Ls.size = c.maxLocals := by rw [‹c.maxLocals = _›]; rfl) (hW : 2 * 0 + (rest.map fun v => v.category).sum ≤ W := by exact Nat.le_of_eq rfl) (hf : rm.frames + 1 ≤ R.frames := by decide) (hlo : W + (maxL + 11) + rm.locals ≤ R.locals := by decide) (hc : cells + rm.cells ≤ R.cells := by decide) (hs : slots + rm.slots ≤ R.slots := by decide) : Go p e below s n0 Q nc ns (T.setTop (mkF m pc Ls st)) := by
  subst hp; subst has; obtain ⟨locs, vm0, X, N, eT, B⟩ := X; replace hZ := B.hZ hZ; replace hown := B.fc hown
  obtain ⟨cq, kq, qa, qb, qc⟩ := isOf hZ eT E
  obtain ⟨v, vm1, ⟨U, L1, c1, s1⟩, -, X', hS, hgr, ⟨Lc, hQ, l1, y1, z1⟩, b⟩ := X.virtualBackS hx (y := y) (z := z) hown (mvT hZ w1) (mvT hZ w2) (nf_top (args := #[]) (mvT hZ w0)) (mvT hZ w5) (mvT hZ w6) hy (backW (W := W) hM hZ w4 w3 hf hlo B.ib) qa qc (g := mkF m pc Ls st) rfl hsz (Steps.refl _) (argsL := argsL) (rest := rest) (lenOf hlen hl) hst hW hd (fun _ _ => ⟨rfl, eT, hc, hs⟩)
  dsimp only [Pt.U, Pt.locs, Pt.cells, Pt.slots] at X' l1 y1 z1 b hQ hS hgr
  subst l1 y1 z1
  exact go_back (fun _ j => b.trans j) (k v U U.heap ⟨_, U.vm, X', Fr.app N hQ.1, rfl, B.call hS (by rw [← eT]; exact hgr) (Nat.le_refl _) hQ.2.2⟩ hQ.2.1)
theorem g_callIf (X : Wk p l e R s m args below meth c n1 Z Ts Lt T h cells slots) (hx : p.tables.exec = Jvm.exec) (hZ : Z.Warmed39 s.vm) (hown : s.vm.findClass own = some m.cls) {C : String} {count : Nat} (w1 : (Jvm.Cond.methodLink own index y).before a0 Z = true) (w2 : (Jvm.Cond.declares y).before a0 Z = true) (w7 : (Jvm.Cond.interfaceMethod y.cls y.cls y.name y.desc).before a0 Z = true) (hfa : ((Jvm.Cond.interfaceMethod y.cls y.cls y.name y.desc).onTables && (Jvm.Cond.interfaceMethod y.cls y.cls y.name y.desc).keepsFace) = true) (w5 : (Jvm.Cond.selects C y z).before a0 Z = true) (w6 : (Jvm.Cond.instanceMethod z).before a0 Z = true) (w8 : (Jvm.Cond.publicMethod z).before a0 Z = true) (w9 : (Jvm.Cond.unhidden C y.name y.desc).before a0 Z = true) (w10 : (Jvm.Cond.castable C y.cls).before a0 Z = true) (w3 : (Jvm.Cond.initialized z.cls).before a0 Z = true) (w4 : (Jvm.Cond.code z bytes maxL ret).before a0 Z = true) 
    (hy : y.cls ≠ "java/lang/invoke/MethodHandle" ∧ y.cls ≠ "java/lang/invoke/VarHandle") {a : Addr} (E : Exa Z h a C) (hM : Con l Z n1 Ts Ts' z bytes maxL ret [] rm as h Qc) (hlen : parseMethodDescriptor y.desc = some ⟨ps, r⟩) (hl : argsL.length = ps.length) (has : as = (Value.ref a :: argsL).toArray) (hp : pc + 5 = pc') (hd : decode c.code pc = .ok (.invokeinterface index count, 5))
    (hst : st = argsL.reverse ++ .ref a :: rest)
    (k : ∀ v T' h', Wk p l e R s m args below meth c n1 Z Ts' Lt T' h' (cells + rm.cells) (slots + rm.slots) → Qc v h' → Go p e below s n0 Q nc ns (T'.setTop (mkF m pc' Ls (v.toList ++ rest)))) (hsz : Ls.size = c.maxLocals := by rw [‹c.maxLocals = _›]; rfl) (hW : 2 * 0 + (rest.map fun v => v.category).sum ≤ W := by exact Nat.le_of_eq rfl) (hf : rm.frames + 1 ≤ R.frames := by decide) (hlo : W + (maxL + 11) + rm.locals ≤ R.locals := by decide) (hc : cells + rm.cells ≤ R.cells := by decide) (hs : slots + rm.slots ≤ R.slots := by decide) : Go p e below s n0 Q nc ns (T.setTop (mkF m pc Ls st)) := by
  subst hp; subst has; obtain ⟨locs, vm0, X, N, eT, B⟩ := X; replace hZ := B.hZ hZ; replace hown := B.fc hown
  obtain ⟨cq, kq, qa, qb, qc⟩ := isOf hZ eT E
  obtain ⟨v, vm1, ⟨U, L1, c1, s1⟩, -, X', hS, hgr, ⟨Lc, hQ, l1, y1, z1⟩, b⟩ := X.interfaceBackS hx hown (mvT hZ w1) (mvT hZ w2) (mvT hZ w7 hfa) (mvT hZ w5) (mvT hZ w6) (mvT hZ w8) (mvT hZ w9) (mvT hZ w10) hy (backW (W := W) hM hZ w4 w3 hf hlo B.ib) qa qb qc (g := mkF m pc Ls st) rfl hsz (Steps.refl _) (argsL := argsL) (rest := rest) (lenOf hlen hl) hst hW hd (fun _ _ => ⟨rfl, eT, hc, hs⟩)
  dsimp only [Pt.U, Pt.locs, Pt.cells, Pt.slots] at X' l1 y1 z1 b hQ hS hgr
  subst l1 y1 z1
  exact go_back (fun _ j => b.trans j) (k v U U.heap ⟨_, U.vm, X', Fr.app N hQ.1, rfl, B.call hS (by rw [← eT]; exact hgr) (Nat.le_refl _) hQ.2.2⟩ hQ.2.1)
theorem g_callP (X : Wk p l e R s m args below meth c n1 Z Ts Lt T h cells slots) (hx : p.tables.exec = Jvm.exec) (hZ : Z.Warmed39 s.vm) (hown : s.vm.findClass own = some m.cls) {C : String} (w1 : (Jvm.Cond.methodLink own index y).before a0 Z = true) (w2 : (Jvm.Cond.instanceMethod y).before a0 Z = true) (w5 : (Jvm.Cond.selects y.cls y y).before a0 Z = true) (w6 : (Jvm.Cond.privateMethod y).before a0 Z = true) (w3 : (Jvm.Cond.initialized y.cls).before a0 Z = true) (w4 : (Jvm.Cond.code y bytes maxL ret).before a0 Z = true) 
    (hy : y.cls ≠ "java/lang/invoke/MethodHandle" ∧ y.cls ≠ "java/lang/invoke/VarHandle") {a : Addr} (E : Exa Z h a C) (hM : Con l Z n1 Ts Ts' y bytes maxL ret [] rm as h Qc) (hlen : parseMethodDescriptor y.desc = some ⟨ps, r⟩) (hl : argsL.length = ps.length) (has : as = (Value.ref a :: argsL).toArray) (hp : pc + 3 = pc') (hd : decode c.code pc = .ok (.invokevirtual index, 3))
    (hst : st = argsL.reverse ++ .ref a :: rest)
    (k : ∀ v T' h', Wk p l e R s m args below meth c n1 Z Ts' Lt T' h' (cells + rm.cells) (slots + rm.slots) → Qc v h' → Go p e below s n0 Q nc ns (T'.setTop (mkF m pc' Ls (v.toList ++ rest)))) (hsz : Ls.size = c.maxLocals := by rw [‹c.maxLocals = _›]; rfl) (hW : 2 * 0 + (rest.map fun v => v.category).sum ≤ W := by exact Nat.le_of_eq rfl) (hf : rm.frames + 1 ≤ R.frames := by decide) (hlo : W + (maxL + 11) + rm.locals ≤ R.locals := by decide) (hc : cells + rm.cells ≤ R.cells := by decide) (hs : slots + rm.slots ≤ R.slots := by decide) : Go p e below s n0 Q nc ns (T.setTop (mkF m pc Ls st)) := by
  subst hp; subst has; obtain ⟨locs, vm0, X, N, eT, B⟩ := X; replace hZ := B.hZ hZ; replace hown := B.fc hown
  obtain ⟨cE, hE1, hE2⟩ := Exa.cell E
  obtain ⟨v, vm1, ⟨U, L1, c1, s1⟩, -, X', hS, hgr, ⟨Lc, hQ, l1, y1, z1⟩, b⟩ := X.privateBackS hx hown (mvT hZ w1) (mvT hZ w2) (mvT hZ w5) (Cond.privateMethod_at (args := #[]) (mvP hZ w6)) (mvT hZ w4) hy (backW (W := W) hM hZ w4 w3 hf hlo B.ib) (g := mkF m pc Ls st) rfl hsz (Steps.refl _) (a := a) (cell := cE) (by rw [eT]; exact hE1) hE2 (argsL := argsL) (rest := rest) (lenOf hlen hl) hst hW hd (fun _ _ => ⟨rfl, eT, hc, hs⟩)
  dsimp only [Pt.U, Pt.locs, Pt.cells, Pt.slots] at X' l1 y1 z1 b hQ hS hgr
  subst l1 y1 z1
  exact go_back (fun _ j => b.trans j) (k v U U.heap ⟨_, U.vm, X', Fr.app N hQ.1, rfl, B.call hS (by rw [← eT]; exact hgr) (Nat.le_refl _) hQ.2.2⟩ hQ.2.1)
theorem g_callSup (X : Wk p l e R s m args below meth c n1 Z Ts Lt T h cells slots) (hx : p.tables.exec = Jvm.exec) (hZ : Z.Warmed39 s.vm) (hown : s.vm.findClass own = some m.cls) {C C' : String} {y' y0 : MethodName} (hn : y.name ≠ "<init>") (w1 : (Jvm.Cond.methodLink own index y).before a0 Z = true) (w2 : (Jvm.Cond.instanceMethod y).before a0 Z = true) (hcl : y'.cls = y.cls) (w7 : (Jvm.Cond.selects C' y0 y').before a0 Z = true) (w8 : (Jvm.Cond.superclass own y.cls).before a0 Z = true) (w3 : (Jvm.Cond.initialized y.cls).before a0 Z = true) (w4 : (Jvm.Cond.code y bytes maxL ret).before a0 Z = true) 
    (hy : y.cls ≠ "java/lang/invoke/MethodHandle" ∧ y.cls ≠ "java/lang/invoke/VarHandle") {a : Addr} (E : Exa Z h a C) (hM : Con l Z n1 Ts Ts' y bytes maxL ret [] rm as h Qc) (hlen : parseMethodDescriptor y.desc = some ⟨ps, r⟩) (hl : argsL.length = ps.length) (has : as = (Value.ref a :: argsL).toArray) (hp : pc + 3 = pc') (hd : decode c.code pc = .ok (.invokespecial index, 3))
    (hst : st = argsL.reverse ++ .ref a :: rest)
    (k : ∀ v T' h', Wk p l e R s m args below meth c n1 Z Ts' Lt T' h' (cells + rm.cells) (slots + rm.slots) → Qc v h' → Go p e below s n0 Q nc ns (T'.setTop (mkF m pc' Ls (v.toList ++ rest)))) (hsz : Ls.size = c.maxLocals := by rw [‹c.maxLocals = _›]; rfl) (hW : 2 * 0 + (rest.map fun v => v.category).sum ≤ W := by exact Nat.le_of_eq rfl) (hf : rm.frames + 1 ≤ R.frames := by decide) (hlo : W + (maxL + 11) + rm.locals ≤ R.locals := by decide) (hc : cells + rm.cells ≤ R.cells := by decide) (hs : slots + rm.slots ≤ R.slots := by decide) : Go p e below s n0 Q nc ns (T.setTop (mkF m pc Ls st)) := by
  subst hp; subst has; obtain ⟨locs, vm0, X, N, eT, B⟩ := X; replace hZ := B.hZ hZ; replace hown := B.fc hown
  obtain ⟨v, vm1, ⟨U, L1, c1, s1⟩, -, X', hS, hgr, ⟨Lc, hQ, l1, y1, z1⟩, b⟩ := superBackS X hx hZ hown w1 (own_same (own_nf hcl w7) w2 hy) w2 w8 hn (backW (W := W) hM hZ w4 w3 hf hlo B.ib) eT (Ins.self E) (g := mkF m pc Ls st) rfl hsz w4 (argsL := argsL) (rest := rest) (lenOf hlen hl) hst hW hd (fun _ _ => ⟨rfl, eT, hc, hs⟩)
  dsimp only [Pt.U, Pt.locs, Pt.cells, Pt.slots] at X' l1 y1 z1 b hQ hS hgr
  subst l1 y1 z1
  exact go_back (fun _ j => b.trans j) (k v U U.heap ⟨_, U.vm, X', Fr.app N hQ.1, rfl, B.call hS (by rw [← eT]; exact hgr) (Nat.le_refl _) hQ.2.2⟩ hQ.2.1)
theorem g_callVN (X : Wk p l e R s m args below meth c n1 Z Ts Lt T h cells slots) (hx : p.tables.exec = Jvm.exec) (hZ : Z.Warmed39 s.vm) (hown : s.vm.findClass own = some m.cls) {C : String} (w1 : (Jvm.Cond.methodLink own index y).before a0 Z = true) (w2 : (Jvm.Cond.declares y).before a0 Z = true) {C' : String} {y' y0 : MethodName} (hcl : y'.cls = y.cls) (w0 : (Jvm.Cond.selects C' y0 y').before a0 Z = true) (w5 : (Jvm.Cond.selects C y z).before a0 Z = true) (w6 : (Jvm.Cond.instanceMethod z).before a0 Z = true) (w3 : (Jvm.Cond.initialized z.cls).before a0 Z = true) (w4 : (Jvm.Cond.code z bytes maxL ret).before a0 Z = true) 
    (hy : y.cls ≠ "java/lang/invoke/MethodHandle" ∧ y.cls ≠ "java/lang/invoke/VarHandle") {a : Addr} (E : Exa Z h a C) (hM : Con l Z n1 Ts Ts' z bytes maxL ret [] rm as h Qc) (hlen : parseMethodDescriptor y.desc = some ⟨ps, r⟩) (hl : argsL.length = ps.length) (has : as = (Value.ref a :: argsL).toArray) (hp : pc + 3 = pc') (hd : decode c.code pc = .ok (.invokevirtual index, 3))
    (hst : st = argsL.reverse ++ .ref a :: rest)
    (k : ∀ v T' h', Wk p l e R s m args below meth c n1 Z Ts' Lt T' h' (cells + rm.cells) (slots + rm.slots) → Qc v h' → Go p e below s n0 Q nc ns (T'.setTop (mkF m pc' Ls (v.toList ++ rest)))) (hsz : Ls.size = c.maxLocals := by rw [‹c.maxLocals = _›]; rfl) (hW : 2 * 0 + (rest.map fun v => v.category).sum ≤ W := by exact Nat.le_of_eq rfl) (hf : rm.frames + 1 ≤ R.frames := by decide) (hlo : W + (maxL + 11) + rm.locals ≤ R.locals := by decide) (hc : cells + rm.cells ≤ R.cells := by decide) (hs : slots + rm.slots ≤ R.slots := by decide) : Go p e below s n0 Q nc ns (T.setTop (mkF m pc Ls st)) := by
  subst hp; subst has; obtain ⟨locs, vm0, X, N, eT, B⟩ := X; replace hZ := B.hZ hZ; replace hown := B.fc hown
  obtain ⟨cq, kq, qa, qb, qc⟩ := isOf hZ eT E
  obtain ⟨v, vm1, ⟨U, L1, c1, s1⟩, -, X', hS, hgr, ⟨Lc, hQ, l1, y1, z1⟩, b⟩ := X.virtualBackS hx (y := y) (z := z) hown (mvT hZ w1) (mvT hZ w2) (own_nf (args := #[]) hcl (mvT hZ w0)) (mvT hZ w5) (mvT hZ w6) hy (backW (W := W) hM hZ w4 w3 hf hlo B.ib) qa qc (g := mkF m pc Ls st) rfl hsz (Steps.refl _) (argsL := argsL) (rest := rest) (lenOf hlen hl) hst hW hd (fun _ _ => ⟨rfl, eT, hc, hs⟩)
  dsimp only [Pt.U, Pt.locs, Pt.cells, Pt.slots] at X' l1 y1 z1 b hQ hS hgr
  subst l1 y1 z1
  exact go_back (fun _ j => b.trans j) (k v U U.heap ⟨_, U.vm, X', Fr.app N hQ.1, rfl, B.call hS (by rw [← eT]; exact hgr) (Nat.le_refl _) hQ.2.2⟩ hQ.2.1)
theorem g_callPS (X : Wk p l e R s m args below meth c n1 Z Ts Lt T h cells slots) (hx : p.tables.exec = Jvm.exec) (hZ : Z.Warmed39 s.vm) (hown : s.vm.findClass own = some m.cls) {C C' : String} (w1 : (Jvm.Cond.methodLink own index y).before a0 Z = true) (w2 : (Jvm.Cond.instanceMethod y).before a0 Z = true) (w5 : (Jvm.Cond.selects C' y y).before a0 Z = true) (w6 : (Jvm.Cond.privateMethod y).before a0 Z = true) (w3 : (Jvm.Cond.initialized y.cls).before a0 Z = true) (w4 : (Jvm.Cond.code y bytes maxL ret).before a0 Z = true) 
    (hy : y.cls ≠ "java/lang/invoke/MethodHandle" ∧ y.cls ≠ "java/lang/invoke/VarHandle") {a : Addr} (E : Exa Z h a C) (hM : Con l Z n1 Ts Ts' y bytes maxL ret [] rm as h Qc) (hlen : parseMethodDescriptor y.desc = some ⟨ps, r⟩) (hl : argsL.length = ps.length) (has : as = (Value.ref a :: argsL).toArray) (hp : pc + 3 = pc') (hd : decode c.code pc = .ok (.invokevirtual index, 3))
    (hst : st = argsL.reverse ++ .ref a :: rest)
    (k : ∀ v T' h', Wk p l e R s m args below meth c n1 Z Ts' Lt T' h' (cells + rm.cells) (slots + rm.slots) → Qc v h' → Go p e below s n0 Q nc ns (T'.setTop (mkF m pc' Ls (v.toList ++ rest)))) (hsz : Ls.size = c.maxLocals := by rw [‹c.maxLocals = _›]; rfl) (hW : 2 * 0 + (rest.map fun v => v.category).sum ≤ W := by exact Nat.le_of_eq rfl) (hf : rm.frames + 1 ≤ R.frames := by decide) (hlo : W + (maxL + 11) + rm.locals ≤ R.locals := by decide) (hc : cells + rm.cells ≤ R.cells := by decide) (hs : slots + rm.slots ≤ R.slots := by decide) : Go p e below s n0 Q nc ns (T.setTop (mkF m pc Ls st)) := by
  subst hp; subst has; obtain ⟨locs, vm0, X, N, eT, B⟩ := X; replace hZ := B.hZ hZ; replace hown := B.fc hown
  obtain ⟨cE, hE1, hE2⟩ := Exa.cell E
  obtain ⟨v, vm1, ⟨U, L1, c1, s1⟩, -, X', hS, hgr, ⟨Lc, hQ, l1, y1, z1⟩, b⟩ := own_privS X hx hown (mvT hZ w1) (mvT hZ w2) (mvT hZ w5) (Cond.privateMethod_at (args := #[]) (mvP hZ w6)) (mvT hZ w4) hy (backW (W := W) hM hZ w4 w3 hf hlo B.ib) (g := mkF m pc Ls st) rfl hsz (Steps.refl _) (a := a) (cell := cE) (by rw [eT]; exact hE1) hE2 (argsL := argsL) (rest := rest) (lenOf hlen hl) hst hW hd (fun _ _ => ⟨rfl, eT, hc, hs⟩)
  dsimp only [Pt.U, Pt.locs, Pt.cells, Pt.slots] at X' l1 y1 z1 b hQ hS hgr
  subst l1 y1 z1
  exact go_back (fun _ j => b.trans j) (k v U U.heap ⟨_, U.vm, X', Fr.app N hQ.1, rfl, B.call hS (by rw [← eT]; exact hgr) (Nat.le_refl _) hQ.2.2⟩ hQ.2.1)
theorem g_nat (X : Wk p l e R s m args below meth c n1 Z Ts Lt T h cells slots) (hx : p.tables.exec = Jvm.exec) (hZ : Z.Warmed39 s.vm) (hown : s.vm.findClass own = some m.cls) (w1 : (Jvm.Cond.methodLink own index y).before a0 Z = true) (w2 : (Jvm.Cond.static y).before a0 Z = true) (w3 : (Jvm.Cond.initialized y.cls).before a0 Z = true) (w4 : (Jvm.Cond.code y bytes maxL ret).before a0 Z = true)
    (hy : y.cls ≠ "java/lang/invoke/MethodHandle" ∧ y.cls ≠ "java/lang/invoke/VarHandle") {F : Array Value → Prop} {val : Value} (hK : ∀ s', (Jvm.Cond.code y bytes maxL ret).before args s' = true → Back l R p e below s' args y 3 W (fun A a' => A.cells ≤ R.cells ∧ A.slots ≤ R.slots ∧ F a') (fun A _ v B => v = some val ∧ B = A)) (hlen : parseMethodDescriptor y.desc = some ⟨ps, r⟩) (hl : argsL.length = ps.length) (hsz : Ls.size = c.maxLocals) (hp : pc + 3 = pc') (hd : decode c.code pc = .ok (.invokestatic index, 3))
    (hst : st = argsL.reverse ++ rest) (hW : 2 * 0 + (rest.map fun v => v.category).sum ≤ W) (hc : cells ≤ R.cells) (hs : slots ≤ R.slots) (hF : F argsL.toArray)
    (k : ∀ T', Wk p l e R s m args below meth c n1 Z Ts Lt T' h cells slots → Go p e below s n0 Q nc ns (T'.setTop (mkF m pc' Ls (val :: rest)))) : Go p e below s n0 Q nc ns (T.setTop (mkF m pc Ls st)) := by
  subst hp; obtain ⟨locs, vm0, X, N, eT, B⟩ := X; replace hZ := B.hZ hZ; replace hown := B.fc hown
  obtain ⟨T', X', e', b⟩ := natS X hx hZ hown w1 w2 w3 w4 hy eT (hK _) (g := mkF m pc Ls st) rfl hsz (argsL := argsL) (rest := rest) (lenOf hlen hl) hst hW hd hc hs hF rfl
  exact go_back b (k T' ⟨_, vm0, X', N, e', B⟩)
end Calls
theorem g_absD2 (X : Wk p l e R s m args below meth c n1 Z Ts Lt T h cells slots) (hx : p.tables.exec = Jvm.exec) (hZ : Z.Warmed39 s.vm) {own : String} {index W : Nat} (hown : s.vm.findClass own = some m.cls) (w1 : (Jvm.Cond.methodLink own index Jvm.Free.Fl.Abs.absDN).before a0 Z = true) (w2 : (Jvm.Cond.static Jvm.Free.Fl.Abs.absDN).before a0 Z = true) (w3 : (Jvm.Cond.initialized Jvm.Free.Fl.Abs.absDN.cls).before a0 Z = true) (w4 : (Jvm.Cond.code Jvm.Free.Fl.Abs.absDN Jvm.Free.Fl.Abs.absDCode 2 (some .double)).before a0 Z = true)
    {x : UInt64} (hn : NoNaN64 x) (hsz : Ls.size = c.maxLocals) (hp : pc + 3 = pc') (hd : decode c.code pc = .ok (.invokestatic index, 3)) (hW : 2 * 0 + (rest.map fun v => v.category).sum ≤ W) (hf : 1 ≤ R.frames) (hlo : W + 13 ≤ R.locals) (hc : cells ≤ R.cells) (hs : slots ≤ R.slots)
    (k : ∀ T', Wk p l e R s m args below meth c n1 Z Ts Lt T' h cells slots → Go p e below s n0 Q nc ns (T'.setTop (mkF m pc' Ls (.double (x &&& 0x7fffffffffffffff) :: rest)))) : Go p e below s n0 Q nc ns (T.setTop (mkF m pc Ls (.double x :: rest))) :=
  g_nat X hx hZ hown w1 w2 w3 w4 (by decide) (fun _ q => Jvm.Free.Fl.Abs.absD_pays x q hf hlo) (ps := [.double]) (r := some .double) (by decide +kernel) (argsL := [.double x]) rfl hsz hp hd rfl hW hc hs ⟨rfl, hn⟩ k
theorem g_ret {Qv : Option Value → Heap → Prop} (X : Wk p l e R s m args below meth c n1 Z Ts Lt T h cells slots) (hx : p.tables.exec = Jvm.exec) (hlk : meth.locks = false) {t : FieldType} {w : Value} {i : Instr} (hret : meth.sig.returnType = some t) (hn : narrow t w = w)
    (hi : (i = .ireturn ∧ (t = .int ∨ t = .boolean ∨ t = .byte ∨ t = .char ∨ t = .short) ∧ ∃ z, w = .int z) ∨ (i = .lreturn ∧ t = .long ∧ ∃ z, w = .long z) ∨ (i = .dreturn ∧ t = .double ∧ ∃ z, w = .double z) ∨ (i = .freturn ∧ t = .float ∧ ∃ z, w = .float z) ∨ (i = .areturn ∧ t.isReference = true ∧ w.isRef = true))
    (hd : decode c.code pc = .ok (i, 1)) (hc : cells ≤ nc) (hs : slots ≤ ns) (hle : n0 ≤ n1) (hQ : Qv (some w) h) : Go p e below s n0 ⟨Z, Ts, Qv⟩ nc ns (T.setTop (mkF m pc Ls (w :: rest))) := by
  obtain ⟨locs, vm0, X, N, eT, ⟨⟨k0, hS, hk⟩, I, -⟩⟩ := X
  obtain ⟨fs, hr, hrun, hended, hE⟩ := X.leaveW hS (by rw [eT]; exact hk) (v := some w) (fun q => by rw [hret] at q; cases q) hlk
  exact ⟨_, _, retOut X hx hret hn hi hd hr, hrun, hended, _, _, rfl, ⟨fun y hy => Nat.le_trans hle (N y hy), by show Qv (some w) T.heap; rw [eT]; exact hQ, by obtain ⟨more, e1, e2⟩ := I; exact ⟨more, (show T.vm.interned = _ from X.warmed.interned_eq).trans e1, e2⟩⟩, hE.1, hE.2.1, hE.2.2.1, hE.2.2.2.mono hc hs⟩
theorem g_retI {Qv : Option Value → Heap → Prop} (X : Wk p l e R s m args below meth c n1 Z Ts Lt T h cells slots) (hx : p.tables.exec = Jvm.exec) (hlk : meth.locks = false) {z : Int32} (hret : meth.sig.returnType = some .int) (hd : decode c.code pc = .ok (.ireturn, 1)) (hc : cells ≤ nc) (hs : slots ≤ ns) (hle : n0 ≤ n1) (hQ : Qv (some (.int z)) h) : Go p e below s n0 ⟨Z, Ts, Qv⟩ nc ns (T.setTop (mkF m pc Ls (.int z :: rest))) :=
  g_ret X hx hlk hret rfl (Or.inl ⟨rfl, Or.inl rfl, z, rfl⟩) hd hc hs hle hQ
theorem g_retZ {Qv : Option Value → Heap → Prop} (X : Wk p l e R s m args below meth c n1 Z Ts Lt T h cells slots) (hx : p.tables.exec = Jvm.exec) (hlk : meth.locks = false) {z : Int32} (hret : meth.sig.returnType = some .boolean) (hz : z = 0 ∨ z = 1) (hd : decode c.code pc = .ok (.ireturn, 1)) (hc : cells ≤ nc) (hs : slots ≤ ns) (hle : n0 ≤ n1) (hQ : Qv (some (.int z)) h) : Go p e below s n0 ⟨Z, Ts, Qv⟩ nc ns (T.setTop (mkF m pc Ls (.int z :: rest))) :=
  g_ret X hx hlk hret (by rcases hz with rfl | rfl <;> rfl) (Or.inl ⟨rfl, Or.inr (Or.inl rfl), z, rfl⟩) hd hc hs hle hQ
theorem g_retL {Qv : Option Value → Heap → Prop} (X : Wk p l e R s m args below meth c n1 Z Ts Lt T h cells slots) (hx : p.tables.exec = Jvm.exec) (hlk : meth.locks = false) {z : Int64} (hret : meth.sig.returnType = some .long) (hd : decode c.code pc = .ok (.lreturn, 1)) (hc : cells ≤ nc) (hs : slots ≤ ns) (hle : n0 ≤ n1) (hQ : Qv (some (.long z)) h) : Go p e below s n0 ⟨Z, Ts, Qv⟩ nc ns (T.setTop (mkF m pc Ls (.long z :: rest))) :=
  g_ret X hx hlk hret rfl (Or.inr (Or.inl ⟨rfl, rfl, z, rfl⟩)) hd hc hs hle hQ
theorem g_retD {Qv : Option Value → Heap → Prop} (X : Wk p l e R s m args below meth c n1 Z Ts Lt T h cells slots) (hx : p.tables.exec = Jvm.exec) (hlk : meth.locks = false) {z : UInt64} (hret : meth.sig.returnType = some .double) (hd : decode c.code pc = .ok (.dreturn, 1)) (hc : cells ≤ nc) (hs : slots ≤ ns) (hle : n0 ≤ n1) (hQ : Qv (some (.double z)) h) : Go p e below s n0 ⟨Z, Ts, Qv⟩ nc ns (T.setTop (mkF m pc Ls (.double z :: rest))) :=
  g_ret X hx hlk hret rfl (Or.inr (Or.inr (Or.inl ⟨rfl, rfl, z, rfl⟩))) hd hc hs hle hQ
theorem g_retV {Qv : Option Value → Heap → Prop} (X : Wk p l e R s m args below meth c n1 Z Ts Lt T h cells slots) (hx : p.tables.exec = Jvm.exec) (hlk : meth.locks = false) (hret : meth.sig.returnType = none) (hd : decode c.code pc = .ok (.return_, 1)) (hc : cells ≤ nc) (hs : slots ≤ ns) (hle : n0 ≤ n1) (hQ : Qv none h) : Go p e below s n0 ⟨Z, Ts, Qv⟩ nc ns (T.setTop (mkF m pc Ls [])) := by
  obtain ⟨locs, vm0, X, N, eT, ⟨⟨k0, hS, hk⟩, I, -⟩⟩ := X
  obtain ⟨fs, hr, hrun, hended, hE⟩ := X.leaveW hS (by rw [eT]; exact hk) (v := none) (fun _ => rfl) hlk
  exact ⟨_, _, X.returnOut hx hret hd hr, hrun, hended, _, _, rfl, ⟨fun y hy => Nat.le_trans hle (N y hy), by show Qv none T.heap; rw [eT]; exact hQ, by obtain ⟨more, e1, e2⟩ := I; exact ⟨more, (show T.vm.interned = _ from X.warmed.interned_eq).trans e1, e2⟩⟩, hE.1, hE.2.1, hE.2.2.1, hE.2.2.2.mono hc hs⟩

end OwnKit
abbrev HW (a0 : Array Value) (Z : State) : Prop := ∀ d ∈ tables_1, d.before a0 Z = true
theorem hD {c : Code} {code : ByteArray} (h : c.code = code) {pc : Nat} {r : Except ClassFile.DecodeError (ClassFile.Instr × Nat)} (h2 : decode code pc = r) : decode c.code pc = r := h ▸ h2
theorem wat {Z : State} {a0 : Array Value} (hw : ∀ d ∈ tables_1, d.before a0 Z = true) (i : Nat) {d : Jvm.Cond} (q : tables_1[i]? = some d) : d.before a0 Z = true := hw _ (List.mem_of_getElem? q)
abbrev SV (Z : State) (h : Heap) (a : Addr) (v : Value) : Prop := Fld Z h a "java/lang/String" "value" "[B" v
abbrev SC (Z : State) (h : Heap) (a : Addr) (v : Value) : Prop := Fld Z h a "java/lang/String" "coder" "B" v
abbrev XSt (Z : State) (h : Heap) (a : Addr) : Prop := Exa Z h a "java/lang/String"
abbrev St0 (Z : State) (v : Value) : Prop := Sta Z Z.heap "java/lang/String" "COMPACT_STRINGS" "Z" v
abbrev St1 (Z : State) (v : Value) : Prop := Sta Z Z.heap "jdk/internal/util/Preconditions" "SIOOBE_FORMATTER" "Ljava/util/function/BiFunction;" v
abbrev St2 (Z : State) (v : Value) : Prop := Sta Z Z.heap "java/lang/StringUTF16" "$assertionsDisabled" "Z" v
abbrev St3 (Z : State) (v : Value) : Prop := Sta Z Z.heap "java/lang/StringUTF16" "HI_BYTE_SHIFT" "I" v
abbrev St4 (Z : State) (v : Value) : Prop := Sta Z Z.heap "java/lang/StringUTF16" "LO_BYTE_SHIFT" "I" v
abbrev K1 := method_3_code
abbrev K2 := method_4_code
abbrev K3 := jdk_42_method_3_code
abbrev K4 := jdk_42_method_149_code
abbrev K6 := jdk_52_method_16_code
abbrev K7 := jdk_52_method_21_code
abbrev K8 := jdk_52_method_15_code
abbrev K9 := prog_9_method_3_code
abbrev K10 := jdk_42_method_54_code
abbrev K11 := jdk_42_method_152_code
abbrev K12 := method_2_code
abbrev K13 := jdk_52_method_14_code
abbrev K14 := jdk_52_method_2_code
abbrev K15 := jdk_52_method_3_code
abbrev K16 := jdk_52_method_4_code
abbrev K17 := jdk_52_method_5_code
abbrev K18 := jdk_42_method_56_code
abbrev K19 := jdk_42_method_154_code
abbrev K20 := jdk_52_method_83_code
abbrev K21 := jdk_52_method_91_code
abbrev K22 := jdk_52_method_6_code
abbrev K23 := jdk_42_method_155_code
abbrev K24 := jdk_41_method_11_code
abbrev K25 := prog_9_method_7_code
abbrev K26 := jdk_42_method_139_code
abbrev K27 := jdk_43_method_3_code
abbrev K28 := jdk_43_method_46_code
abbrev K29 := jdk_42_method_151_code
abbrev K30 := jdk_43_method_2_code
abbrev K31 := jdk_52_method_24_code
theorem d1_0 : decode K1 0 = .ok (.iload_n 0, 1) := by decide +kernel
theorem d1_1 : decode K1 1 = .ok (.bipush 8, 2) := by decide +kernel
theorem d1_3 : decode K1 3 = .ok (.iushr, 1) := by decide +kernel
theorem d1_4 : decode K1 4 = .ok (.iconst 1, 1) := by decide +kernel
theorem d1_5 : decode K1 5 = .ok (.iand, 1) := by decide +kernel
theorem d1_6 : decode K1 6 = .ok (.ifCond .ne 9, 3) := by decide +kernel
theorem d1_9 : decode K1 9 = .ok (.iload_n 0, 1) := by decide +kernel
theorem d1_10 : decode K1 10 = .ok (.bipush 127, 2) := by decide +kernel
theorem d1_12 : decode K1 12 = .ok (.iand, 1) := by decide +kernel
theorem d1_13 : decode K1 13 = .ok (.i2c, 1) := by decide +kernel
theorem d1_14 : decode K1 14 = .ok (.ireturn, 1) := by decide +kernel
theorem d1_15 : decode K1 15 = .ok (.iload_n 0, 1) := by decide +kernel
theorem d1_16 : decode K1 16 = .ok (.bipush 16, 2) := by decide +kernel
theorem d1_18 : decode K1 18 = .ok (.iushr, 1) := by decide +kernel
theorem d1_19 : decode K1 19 = .ok (.i2c, 1) := by decide +kernel
theorem d1_20 : decode K1 20 = .ok (.ireturn, 1) := by decide +kernel
theorem d2_0 : decode K2 0 = .ok (.iload_n 0, 1) := by decide +kernel
theorem d2_1 : decode K2 1 = .ok (.bipush 42, 2) := by decide +kernel
theorem d2_3 : decode K2 3 = .ok (.if_icmp .ne 212, 3) := by decide +kernel
theorem d2_6 : decode K2 6 = .ok (.bipush 42, 2) := by decide +kernel
theorem d2_8 : decode K2 8 = .ok (.newarray .char, 2) := by decide +kernel
theorem d2_214 : decode K2 214 = .ok (.areturn, 1) := by decide +kernel
theorem d2_215 : decode K2 215 = .ok (.iload_n 0, 1) := by decide +kernel
theorem d2_216 : decode K2 216 = .ok (.bipush 43, 2) := by decide +kernel
theorem d2_218 : decode K2 218 = .ok (.if_icmp .ne 217, 3) := by decide +kernel
theorem d2_221 : decode K2 221 = .ok (.bipush 43, 2) := by decide +kernel
theorem d2_223 : decode K2 223 = .ok (.newarray .char, 2) := by decide +kernel
theorem d2_434 : decode K2 434 = .ok (.areturn, 1) := by decide +kernel
theorem d2_435 : decode K2 435 = .ok (.iload_n 0, 1) := by decide +kernel
theorem d2_436 : decode K2 436 = .ok (.sipush 128, 3) := by decide +kernel
theorem d2_439 : decode K2 439 = .ok (.if_icmp .ne 643, 3) := by decide +kernel
theorem d2_442 : decode K2 442 = .ok (.sipush 128, 3) := by decide +kernel
theorem d2_445 : decode K2 445 = .ok (.newarray .char, 2) := by decide +kernel
theorem d2_1081 : decode K2 1081 = .ok (.areturn, 1) := by decide +kernel
theorem d2_1082 : decode K2 1082 = .ok (.sipush 129, 3) := by decide +kernel
theorem d2_1085 : decode K2 1085 = .ok (.newarray .char, 2) := by decide +kernel
theorem d2_1727 : decode K2 1727 = .ok (.areturn, 1) := by decide +kernel
theorem d3_0 : decode K3 0 = .ok (.aload_n 0, 1) := by decide +kernel
theorem d3_1 : decode K3 1 = .ok (.aload_n 1, 1) := by decide +kernel
theorem d3_2 : decode K3 2 = .ok (.iconst 0, 1) := by decide +kernel
theorem d3_3 : decode K3 3 = .ok (.aload_n 1, 1) := by decide +kernel
theorem d3_4 : decode K3 4 = .ok (.arraylength, 1) := by decide +kernel
theorem d3_5 : decode K3 5 = .ok (.aconst_null, 1) := by decide +kernel
theorem d3_6 : decode K3 6 = .ok (.invokespecial 27, 3) := by decide +kernel
theorem d3_9 : decode K3 9 = .ok (.return_, 1) := by decide +kernel
theorem d4_0 : decode K4 0 = .ok (.aload_n 0, 1) := by decide +kernel
theorem d4_1 : decode K4 1 = .ok (.invokespecial 1, 3) := by decide +kernel
theorem d4_4 : decode K4 4 = .ok (.iload_n 3, 1) := by decide +kernel
theorem d4_5 : decode K4 5 = .ok (.ifCond .ne 22, 3) := by decide +kernel
theorem d4_8 : decode K4 8 = .ok (.aload_n 0, 1) := by decide +kernel
theorem d4_9 : decode K4 9 = .ok (.ldc 7, 2) := by decide +kernel
theorem d4_11 : decode K4 11 = .ok (.getfield 9, 3) := by decide +kernel
theorem d4_14 : decode K4 14 = .ok (.putfield 9, 3) := by decide +kernel
theorem d4_17 : decode K4 17 = .ok (.aload_n 0, 1) := by decide +kernel
theorem d4_18 : decode K4 18 = .ok (.ldc 7, 2) := by decide +kernel
theorem d4_20 : decode K4 20 = .ok (.getfield 15, 3) := by decide +kernel
theorem d4_23 : decode K4 23 = .ok (.putfield 15, 3) := by decide +kernel
theorem d4_26 : decode K4 26 = .ok (.return_, 1) := by decide +kernel
theorem d4_27 : decode K4 27 = .ok (.getstatic 38, 3) := by decide +kernel
theorem d4_30 : decode K4 30 = .ok (.ifCond .eq 28, 3) := by decide +kernel
theorem d4_33 : decode K4 33 = .ok (.aload_n 1, 1) := by decide +kernel
theorem d4_34 : decode K4 34 = .ok (.iload_n 2, 1) := by decide +kernel
theorem d4_35 : decode K4 35 = .ok (.iload_n 3, 1) := by decide +kernel
theorem d4_36 : decode K4 36 = .ok (.invokestatic 177, 3) := by decide +kernel
theorem d4_39 : decode K4 39 = .ok (.astore 5, 2) := by decide +kernel
theorem d4_41 : decode K4 41 = .ok (.aload_n 0, 1) := by decide +kernel
theorem d4_42 : decode K4 42 = .ok (.aload 5, 2) := by decide +kernel
theorem d4_44 : decode K4 44 = .ok (.iload_n 3, 1) := by decide +kernel
theorem d4_45 : decode K4 45 = .ok (.invokestatic 47, 3) := by decide +kernel
theorem d4_48 : decode K4 48 = .ok (.putfield 15, 3) := by decide +kernel
theorem d4_51 : decode K4 51 = .ok (.aload_n 0, 1) := by decide +kernel
theorem d4_52 : decode K4 52 = .ok (.aload 5, 2) := by decide +kernel
theorem d4_54 : decode K4 54 = .ok (.putfield 9, 3) := by decide +kernel
theorem d4_57 : decode K4 57 = .ok (.return_, 1) := by decide +kernel
theorem d6_0 : decode K6 0 = .ok (.iload_n 2, 1) := by decide +kernel
theorem d6_1 : decode K6 1 = .ok (.newarray .byte, 2) := by decide +kernel
theorem d6_3 : decode K6 3 = .ok (.astore_n 3, 1) := by decide +kernel
theorem d6_4 : decode K6 4 = .ok (.aload_n 0, 1) := by decide +kernel
theorem d6_5 : decode K6 5 = .ok (.iload_n 1, 1) := by decide +kernel
theorem d6_6 : decode K6 6 = .ok (.aload_n 3, 1) := by decide +kernel
theorem d6_7 : decode K6 7 = .ok (.iconst 0, 1) := by decide +kernel
theorem d6_8 : decode K6 8 = .ok (.iload_n 2, 1) := by decide +kernel
theorem d6_9 : decode K6 9 = .ok (.invokestatic 115, 3) := by decide +kernel
theorem d6_12 : decode K6 12 = .ok (.istore 4, 2) := by decide +kernel
theorem d6_14 : decode K6 14 = .ok (.iload 4, 2) := by decide +kernel
theorem d6_16 : decode K6 16 = .ok (.iload_n 2, 1) := by decide +kernel
theorem d6_17 : decode K6 17 = .ok (.if_icmp .eq 40, 3) := by decide +kernel
theorem d6_20 : decode K6 20 = .ok (.aload_n 0, 1) := by decide +kernel
theorem d6_21 : decode K6 21 = .ok (.iload_n 1, 1) := by decide +kernel
theorem d6_22 : decode K6 22 = .ok (.iload_n 2, 1) := by decide +kernel
theorem d6_23 : decode K6 23 = .ok (.invokestatic 119, 3) := by decide +kernel
theorem d6_26 : decode K6 26 = .ok (.astore 5, 2) := by decide +kernel
theorem d6_28 : decode K6 28 = .ok (.aload 5, 2) := by decide +kernel
theorem d6_30 : decode K6 30 = .ok (.iload 4, 2) := by decide +kernel
theorem d6_32 : decode K6 32 = .ok (.invokestatic 71, 3) := by decide +kernel
theorem d6_35 : decode K6 35 = .ok (.sipush 255, 3) := by decide +kernel
theorem d6_38 : decode K6 38 = .ok (.if_icmp .gt 16, 3) := by decide +kernel
theorem d6_54 : decode K6 54 = .ok (.aload 5, 2) := by decide +kernel
theorem d6_56 : decode K6 56 = .ok (.areturn, 1) := by decide +kernel
theorem d6_57 : decode K6 57 = .ok (.aload_n 3, 1) := by decide +kernel
theorem d6_58 : decode K6 58 = .ok (.areturn, 1) := by decide +kernel
theorem d7_0 : decode K7 0 = .ok (.iconst 0, 1) := by decide +kernel
theorem d7_1 : decode K7 1 = .ok (.istore 5, 2) := by decide +kernel
theorem d7_3 : decode K7 3 = .ok (.iload 5, 2) := by decide +kernel
theorem d7_5 : decode K7 5 = .ok (.iload 4, 2) := by decide +kernel
theorem d7_7 : decode K7 7 = .ok (.if_icmp .ge 37, 3) := by decide +kernel
theorem d7_10 : decode K7 10 = .ok (.aload_n 0, 1) := by decide +kernel
theorem d7_11 : decode K7 11 = .ok (.iload_n 1, 1) := by decide +kernel
theorem d7_12 : decode K7 12 = .ok (.caload, 1) := by decide +kernel
theorem d7_13 : decode K7 13 = .ok (.istore 6, 2) := by decide +kernel
theorem d7_15 : decode K7 15 = .ok (.iload 6, 2) := by decide +kernel
theorem d7_17 : decode K7 17 = .ok (.sipush 255, 3) := by decide +kernel
theorem d7_20 : decode K7 20 = .ok (.if_icmp .le 6, 3) := by decide +kernel
theorem d7_23 : decode K7 23 = .ok (.iload 5, 2) := by decide +kernel
theorem d7_25 : decode K7 25 = .ok (.ireturn, 1) := by decide +kernel
theorem d7_26 : decode K7 26 = .ok (.aload_n 2, 1) := by decide +kernel
theorem d7_27 : decode K7 27 = .ok (.iload_n 3, 1) := by decide +kernel
theorem d7_28 : decode K7 28 = .ok (.iload 6, 2) := by decide +kernel
theorem d7_30 : decode K7 30 = .ok (.i2b, 1) := by decide +kernel
theorem d7_31 : decode K7 31 = .ok (.bastore, 1) := by decide +kernel
theorem d7_32 : decode K7 32 = .ok (.iinc 1 1, 3) := by decide +kernel
theorem d7_35 : decode K7 35 = .ok (.iinc 3 1, 3) := by decide +kernel
theorem d7_38 : decode K7 38 = .ok (.iinc 5 1, 3) := by decide +kernel
theorem d7_41 : decode K7 41 = .ok (.goto (-38), 3) := by decide +kernel
theorem d7_44 : decode K7 44 = .ok (.iload 4, 2) := by decide +kernel
theorem d7_46 : decode K7 46 = .ok (.ireturn, 1) := by decide +kernel
theorem d8_0 : decode K8 0 = .ok (.iload_n 1, 1) := by decide +kernel
theorem d8_1 : decode K8 1 = .ok (.aload_n 0, 1) := by decide +kernel
theorem d8_2 : decode K8 2 = .ok (.arraylength, 1) := by decide +kernel
theorem d8_3 : decode K8 3 = .ok (.isub, 1) := by decide +kernel
theorem d8_4 : decode K8 4 = .ok (.bipush 31, 2) := by decide +kernel
theorem d8_6 : decode K8 6 = .ok (.iushr, 1) := by decide +kernel
theorem d8_7 : decode K8 7 = .ok (.i2b, 1) := by decide +kernel
theorem d8_8 : decode K8 8 = .ok (.ireturn, 1) := by decide +kernel
theorem d9_0 : decode K9 0 = .ok (.aload_n 0, 1) := by decide +kernel
theorem d9_1 : decode K9 1 = .ok (.ifnull 22, 3) := by decide +kernel
theorem d9_4 : decode K9 4 = .ok (.aload_n 0, 1) := by decide +kernel
theorem d9_5 : decode K9 5 = .ok (.invokevirtual 7, 3) := by decide +kernel
theorem d9_8 : decode K9 8 = .ok (.bipush 43, 2) := by decide +kernel
theorem d9_10 : decode K9 10 = .ok (.if_icmp .lt 13, 3) := by decide +kernel
theorem d9_13 : decode K9 13 = .ok (.aload_n 0, 1) := by decide +kernel
theorem d9_14 : decode K9 14 = .ok (.invokevirtual 7, 3) := by decide +kernel
theorem d9_17 : decode K9 17 = .ok (.sipush 128, 3) := by decide +kernel
theorem d9_20 : decode K9 20 = .ok (.if_icmp .le 5, 3) := by decide +kernel
theorem d9_23 : decode K9 23 = .ok (.iconst 0, 1) := by decide +kernel
theorem d9_24 : decode K9 24 = .ok (.ireturn, 1) := by decide +kernel
theorem d9_25 : decode K9 25 = .ok (.iconst 0, 1) := by decide +kernel
theorem d9_26 : decode K9 26 = .ok (.istore_n 1, 1) := by decide +kernel
theorem d9_27 : decode K9 27 = .ok (.iload_n 1, 1) := by decide +kernel
theorem d9_28 : decode K9 28 = .ok (.aload_n 0, 1) := by decide +kernel
theorem d9_29 : decode K9 29 = .ok (.invokevirtual 7, 3) := by decide +kernel
theorem d9_32 : decode K9 32 = .ok (.if_icmp .ge 48, 3) := by decide +kernel
theorem d9_35 : decode K9 35 = .ok (.aload_n 0, 1) := by decide +kernel
theorem d9_36 : decode K9 36 = .ok (.iload_n 1, 1) := by decide +kernel
theorem d9_37 : decode K9 37 = .ok (.invokevirtual 35, 3) := by decide +kernel
theorem d9_40 : decode K9 40 = .ok (.istore_n 2, 1) := by decide +kernel
theorem d9_41 : decode K9 41 = .ok (.iload_n 2, 1) := by decide +kernel
theorem d9_42 : decode K9 42 = .ok (.invokestatic 39, 3) := by decide +kernel
theorem d9_45 : decode K9 45 = .ok (.ifCond .ne 29, 3) := by decide +kernel
theorem d9_48 : decode K9 48 = .ok (.iload_n 2, 1) := by decide +kernel
theorem d9_49 : decode K9 49 = .ok (.bipush 45, 2) := by decide +kernel
theorem d9_51 : decode K9 51 = .ok (.if_icmp .eq 23, 3) := by decide +kernel
theorem d9_54 : decode K9 54 = .ok (.iload_n 2, 1) := by decide +kernel
theorem d9_55 : decode K9 55 = .ok (.bipush 46, 2) := by decide +kernel
theorem d9_57 : decode K9 57 = .ok (.if_icmp .eq 17, 3) := by decide +kernel
theorem d9_60 : decode K9 60 = .ok (.iload_n 2, 1) := by decide +kernel
theorem d9_61 : decode K9 61 = .ok (.bipush 95, 2) := by decide +kernel
theorem d9_63 : decode K9 63 = .ok (.if_icmp .eq 11, 3) := by decide +kernel
theorem d9_66 : decode K9 66 = .ok (.iload_n 2, 1) := by decide +kernel
theorem d9_67 : decode K9 67 = .ok (.bipush 126, 2) := by decide +kernel
theorem d9_69 : decode K9 69 = .ok (.if_icmp .eq 5, 3) := by decide +kernel
theorem d9_72 : decode K9 72 = .ok (.iconst 0, 1) := by decide +kernel
theorem d9_73 : decode K9 73 = .ok (.ireturn, 1) := by decide +kernel
theorem d9_74 : decode K9 74 = .ok (.iinc 1 1, 3) := by decide +kernel
theorem d9_77 : decode K9 77 = .ok (.goto (-50), 3) := by decide +kernel
theorem d9_80 : decode K9 80 = .ok (.iconst 1, 1) := by decide +kernel
theorem d9_81 : decode K9 81 = .ok (.ireturn, 1) := by decide +kernel
theorem d10_0 : decode K10 0 = .ok (.aload_n 0, 1) := by decide +kernel
theorem d10_1 : decode K10 1 = .ok (.getfield 9, 3) := by decide +kernel
theorem d10_4 : decode K10 4 = .ok (.arraylength, 1) := by decide +kernel
theorem d10_5 : decode K10 5 = .ok (.aload_n 0, 1) := by decide +kernel
theorem d10_6 : decode K10 6 = .ok (.invokevirtual 335, 3) := by decide +kernel
theorem d10_9 : decode K10 9 = .ok (.ishr, 1) := by decide +kernel
theorem d10_10 : decode K10 10 = .ok (.ireturn, 1) := by decide +kernel
theorem d11_0 : decode K11 0 = .ok (.getstatic 38, 3) := by decide +kernel
theorem d11_3 : decode K11 3 = .ok (.ifCond .eq 10, 3) := by decide +kernel
theorem d11_6 : decode K11 6 = .ok (.aload_n 0, 1) := by decide +kernel
theorem d11_7 : decode K11 7 = .ok (.getfield 15, 3) := by decide +kernel
theorem d11_10 : decode K11 10 = .ok (.goto 4, 3) := by decide +kernel
theorem d11_14 : decode K11 14 = .ok (.ireturn, 1) := by decide +kernel
theorem d12_0 : decode K12 0 = .ok (.ldc2_w 7, 3) := by decide +kernel
theorem d12_3 : decode K12 3 = .ok (.lstore_n 1, 1) := by decide +kernel
theorem d12_4 : decode K12 4 = .ok (.ldc2_w 9, 3) := by decide +kernel
theorem d12_7 : decode K12 7 = .ok (.lstore_n 3, 1) := by decide +kernel
theorem d12_8 : decode K12 8 = .ok (.iload_n 0, 1) := by decide +kernel
theorem d12_9 : decode K12 9 = .ok (.bipush 64, 2) := by decide +kernel
theorem d12_11 : decode K12 11 = .ok (.if_icmp .ge 19, 3) := by decide +kernel
theorem d12_14 : decode K12 14 = .ok (.lload_n 1, 1) := by decide +kernel
theorem d12_15 : decode K12 15 = .ok (.iload_n 0, 1) := by decide +kernel
theorem d12_16 : decode K12 16 = .ok (.lushr, 1) := by decide +kernel
theorem d12_17 : decode K12 17 = .ok (.lconst 1, 1) := by decide +kernel
theorem d12_18 : decode K12 18 = .ok (.land, 1) := by decide +kernel
theorem d12_19 : decode K12 19 = .ok (.lconst 0, 1) := by decide +kernel
theorem d12_20 : decode K12 20 = .ok (.lcmp, 1) := by decide +kernel
theorem d12_21 : decode K12 21 = .ok (.ifCond .eq 7, 3) := by decide +kernel
theorem d12_24 : decode K12 24 = .ok (.iconst 1, 1) := by decide +kernel
theorem d12_25 : decode K12 25 = .ok (.goto 4, 3) := by decide +kernel
theorem d12_28 : decode K12 28 = .ok (.iconst 0, 1) := by decide +kernel
theorem d12_29 : decode K12 29 = .ok (.ireturn, 1) := by decide +kernel
theorem d12_30 : decode K12 30 = .ok (.iload_n 0, 1) := by decide +kernel
theorem d12_31 : decode K12 31 = .ok (.sipush 128, 3) := by decide +kernel
theorem d12_34 : decode K12 34 = .ok (.if_icmp .ge 22, 3) := by decide +kernel
theorem d12_37 : decode K12 37 = .ok (.lload_n 3, 1) := by decide +kernel
theorem d12_38 : decode K12 38 = .ok (.iload_n 0, 1) := by decide +kernel
theorem d12_39 : decode K12 39 = .ok (.bipush 64, 2) := by decide +kernel
theorem d12_41 : decode K12 41 = .ok (.isub, 1) := by decide +kernel
theorem d12_42 : decode K12 42 = .ok (.lushr, 1) := by decide +kernel
theorem d12_43 : decode K12 43 = .ok (.lconst 1, 1) := by decide +kernel
theorem d12_44 : decode K12 44 = .ok (.land, 1) := by decide +kernel
theorem d12_45 : decode K12 45 = .ok (.lconst 0, 1) := by decide +kernel
theorem d12_46 : decode K12 46 = .ok (.lcmp, 1) := by decide +kernel
theorem d12_47 : decode K12 47 = .ok (.ifCond .eq 7, 3) := by decide +kernel
theorem d12_50 : decode K12 50 = .ok (.iconst 1, 1) := by decide +kernel
theorem d12_51 : decode K12 51 = .ok (.goto 4, 3) := by decide +kernel
theorem d12_54 : decode K12 54 = .ok (.iconst 0, 1) := by decide +kernel
theorem d12_55 : decode K12 55 = .ok (.ireturn, 1) := by decide +kernel
theorem d12_56 : decode K12 56 = .ok (.iconst 0, 1) := by decide +kernel
theorem d12_57 : decode K12 57 = .ok (.ireturn, 1) := by decide +kernel
theorem d13_0 : decode K13 0 = .ok (.iload_n 2, 1) := by decide +kernel
theorem d13_1 : decode K13 1 = .ok (.invokestatic 107, 3) := by decide +kernel
theorem d13_4 : decode K13 4 = .ok (.astore_n 3, 1) := by decide +kernel
theorem d13_5 : decode K13 5 = .ok (.iconst 0, 1) := by decide +kernel
theorem d13_6 : decode K13 6 = .ok (.istore 4, 2) := by decide +kernel
theorem d13_8 : decode K13 8 = .ok (.iload 4, 2) := by decide +kernel
theorem d13_10 : decode K13 10 = .ok (.iload_n 2, 1) := by decide +kernel
theorem d13_11 : decode K13 11 = .ok (.if_icmp .ge 21, 3) := by decide +kernel
theorem d13_14 : decode K13 14 = .ok (.aload_n 3, 1) := by decide +kernel
theorem d13_15 : decode K13 15 = .ok (.iload 4, 2) := by decide +kernel
theorem d13_17 : decode K13 17 = .ok (.aload_n 0, 1) := by decide +kernel
theorem d13_18 : decode K13 18 = .ok (.iload_n 1, 1) := by decide +kernel
theorem d13_19 : decode K13 19 = .ok (.caload, 1) := by decide +kernel
theorem d13_20 : decode K13 20 = .ok (.invokestatic 111, 3) := by decide +kernel
theorem d13_23 : decode K13 23 = .ok (.iinc 1 1, 3) := by decide +kernel
theorem d13_26 : decode K13 26 = .ok (.iinc 4 1, 3) := by decide +kernel
theorem d13_29 : decode K13 29 = .ok (.goto (-21), 3) := by decide +kernel
theorem d13_32 : decode K13 32 = .ok (.aload_n 3, 1) := by decide +kernel
theorem d13_33 : decode K13 33 = .ok (.areturn, 1) := by decide +kernel
theorem d14_0 : decode K14 0 = .ok (.iload_n 0, 1) := by decide +kernel
theorem d14_1 : decode K14 1 = .ok (.invokestatic 11, 3) := by decide +kernel
theorem d14_4 : decode K14 4 = .ok (.newarray .byte, 2) := by decide +kernel
theorem d14_6 : decode K14 6 = .ok (.areturn, 1) := by decide +kernel
theorem d15_0 : decode K15 0 = .ok (.iload_n 0, 1) := by decide +kernel
theorem d15_1 : decode K15 1 = .ok (.ifCond .ge 11, 3) := by decide +kernel
theorem d15_12 : decode K15 12 = .ok (.iload_n 0, 1) := by decide +kernel
theorem d15_13 : decode K15 13 = .ok (.ldc 20, 2) := by decide +kernel
theorem d15_15 : decode K15 15 = .ok (.if_icmp .lt 40, 3) := by decide +kernel
theorem d15_55 : decode K15 55 = .ok (.iload_n 0, 1) := by decide +kernel
theorem d15_56 : decode K15 56 = .ok (.iconst 1, 1) := by decide +kernel
theorem d15_57 : decode K15 57 = .ok (.ishl, 1) := by decide +kernel
theorem d15_58 : decode K15 58 = .ok (.ireturn, 1) := by decide +kernel
theorem d16_0 : decode K16 0 = .ok (.getstatic 44, 3) := by decide +kernel
theorem d16_3 : decode K16 3 = .ok (.ifCond .ne 25, 3) := by decide +kernel
theorem d16_28 : decode K16 28 = .ok (.iload_n 1, 1) := by decide +kernel
theorem d16_29 : decode K16 29 = .ok (.iconst 1, 1) := by decide +kernel
theorem d16_30 : decode K16 30 = .ok (.ishl, 1) := by decide +kernel
theorem d16_31 : decode K16 31 = .ok (.istore_n 1, 1) := by decide +kernel
theorem d16_32 : decode K16 32 = .ok (.aload_n 0, 1) := by decide +kernel
theorem d16_33 : decode K16 33 = .ok (.iload_n 1, 1) := by decide +kernel
theorem d16_34 : decode K16 34 = .ok (.iinc 1 1, 3) := by decide +kernel
theorem d16_37 : decode K16 37 = .ok (.iload_n 2, 1) := by decide +kernel
theorem d16_38 : decode K16 38 = .ok (.getstatic 59, 3) := by decide +kernel
theorem d16_41 : decode K16 41 = .ok (.ishr, 1) := by decide +kernel
theorem d16_42 : decode K16 42 = .ok (.i2b, 1) := by decide +kernel
theorem d16_43 : decode K16 43 = .ok (.bastore, 1) := by decide +kernel
theorem d16_44 : decode K16 44 = .ok (.aload_n 0, 1) := by decide +kernel
theorem d16_45 : decode K16 45 = .ok (.iload_n 1, 1) := by decide +kernel
theorem d16_46 : decode K16 46 = .ok (.iload_n 2, 1) := by decide +kernel
theorem d16_47 : decode K16 47 = .ok (.getstatic 63, 3) := by decide +kernel
theorem d16_50 : decode K16 50 = .ok (.ishr, 1) := by decide +kernel
theorem d16_51 : decode K16 51 = .ok (.i2b, 1) := by decide +kernel
theorem d16_52 : decode K16 52 = .ok (.bastore, 1) := by decide +kernel
theorem d16_53 : decode K16 53 = .ok (.return_, 1) := by decide +kernel
theorem d17_0 : decode K17 0 = .ok (.getstatic 44, 3) := by decide +kernel
theorem d17_3 : decode K17 3 = .ok (.ifCond .ne 25, 3) := by decide +kernel
theorem d17_28 : decode K17 28 = .ok (.iload_n 1, 1) := by decide +kernel
theorem d17_29 : decode K17 29 = .ok (.iconst 1, 1) := by decide +kernel
theorem d17_30 : decode K17 30 = .ok (.ishl, 1) := by decide +kernel
theorem d17_31 : decode K17 31 = .ok (.istore_n 1, 1) := by decide +kernel
theorem d17_32 : decode K17 32 = .ok (.aload_n 0, 1) := by decide +kernel
theorem d17_33 : decode K17 33 = .ok (.iload_n 1, 1) := by decide +kernel
theorem d17_34 : decode K17 34 = .ok (.iinc 1 1, 3) := by decide +kernel
theorem d17_37 : decode K17 37 = .ok (.baload, 1) := by decide +kernel
theorem d17_38 : decode K17 38 = .ok (.sipush 255, 3) := by decide +kernel
theorem d17_41 : decode K17 41 = .ok (.iand, 1) := by decide +kernel
theorem d17_42 : decode K17 42 = .ok (.getstatic 59, 3) := by decide +kernel
theorem d17_45 : decode K17 45 = .ok (.ishl, 1) := by decide +kernel
theorem d17_46 : decode K17 46 = .ok (.aload_n 0, 1) := by decide +kernel
theorem d17_47 : decode K17 47 = .ok (.iload_n 1, 1) := by decide +kernel
theorem d17_48 : decode K17 48 = .ok (.baload, 1) := by decide +kernel
theorem d17_49 : decode K17 49 = .ok (.sipush 255, 3) := by decide +kernel
theorem d17_52 : decode K17 52 = .ok (.iand, 1) := by decide +kernel
theorem d17_53 : decode K17 53 = .ok (.getstatic 63, 3) := by decide +kernel
theorem d17_56 : decode K17 56 = .ok (.ishl, 1) := by decide +kernel
theorem d17_57 : decode K17 57 = .ok (.ior, 1) := by decide +kernel
theorem d17_58 : decode K17 58 = .ok (.i2c, 1) := by decide +kernel
theorem d17_59 : decode K17 59 = .ok (.ireturn, 1) := by decide +kernel
theorem d18_0 : decode K18 0 = .ok (.aload_n 0, 1) := by decide +kernel
theorem d18_1 : decode K18 1 = .ok (.invokevirtual 492, 3) := by decide +kernel
theorem d18_4 : decode K18 4 = .ok (.ifCond .eq 12, 3) := by decide +kernel
theorem d18_7 : decode K18 7 = .ok (.aload_n 0, 1) := by decide +kernel
theorem d18_8 : decode K18 8 = .ok (.getfield 9, 3) := by decide +kernel
theorem d18_11 : decode K18 11 = .ok (.iload_n 1, 1) := by decide +kernel
theorem d18_12 : decode K18 12 = .ok (.invokestatic 495, 3) := by decide +kernel
theorem d18_15 : decode K18 15 = .ok (.ireturn, 1) := by decide +kernel
theorem d18_16 : decode K18 16 = .ok (.aload_n 0, 1) := by decide +kernel
theorem d18_17 : decode K18 17 = .ok (.getfield 9, 3) := by decide +kernel
theorem d18_20 : decode K18 20 = .ok (.iload_n 1, 1) := by decide +kernel
theorem d18_21 : decode K18 21 = .ok (.invokestatic 498, 3) := by decide +kernel
theorem d18_24 : decode K18 24 = .ok (.ireturn, 1) := by decide +kernel
theorem d19_0 : decode K19 0 = .ok (.getstatic 38, 3) := by decide +kernel
theorem d19_3 : decode K19 3 = .ok (.ifCond .eq 14, 3) := by decide +kernel
theorem d19_6 : decode K19 6 = .ok (.aload_n 0, 1) := by decide +kernel
theorem d19_7 : decode K19 7 = .ok (.getfield 15, 3) := by decide +kernel
theorem d19_10 : decode K19 10 = .ok (.ifCond .ne 7, 3) := by decide +kernel
theorem d19_13 : decode K19 13 = .ok (.iconst 1, 1) := by decide +kernel
theorem d19_14 : decode K19 14 = .ok (.goto 4, 3) := by decide +kernel
theorem d19_17 : decode K19 17 = .ok (.iconst 0, 1) := by decide +kernel
theorem d19_18 : decode K19 18 = .ok (.ireturn, 1) := by decide +kernel
theorem d20_0 : decode K20 0 = .ok (.iload_n 1, 1) := by decide +kernel
theorem d20_1 : decode K20 1 = .ok (.aload_n 0, 1) := by decide +kernel
theorem d20_2 : decode K20 2 = .ok (.invokestatic 67, 3) := by decide +kernel
theorem d20_5 : decode K20 5 = .ok (.aload_n 0, 1) := by decide +kernel
theorem d20_6 : decode K20 6 = .ok (.iload_n 1, 1) := by decide +kernel
theorem d20_7 : decode K20 7 = .ok (.invokestatic 71, 3) := by decide +kernel
theorem d20_10 : decode K20 10 = .ok (.ireturn, 1) := by decide +kernel
theorem d21_0 : decode K21 0 = .ok (.iload_n 0, 1) := by decide +kernel
theorem d21_1 : decode K21 1 = .ok (.aload_n 1, 1) := by decide +kernel
theorem d21_2 : decode K21 2 = .ok (.invokestatic 48, 3) := by decide +kernel
theorem d21_5 : decode K21 5 = .ok (.invokestatic 414, 3) := by decide +kernel
theorem d21_8 : decode K21 8 = .ok (.return_, 1) := by decide +kernel
theorem d22_0 : decode K22 0 = .ok (.aload_n 0, 1) := by decide +kernel
theorem d22_1 : decode K22 1 = .ok (.arraylength, 1) := by decide +kernel
theorem d22_2 : decode K22 2 = .ok (.iconst 1, 1) := by decide +kernel
theorem d22_3 : decode K22 3 = .ok (.ishr, 1) := by decide +kernel
theorem d22_4 : decode K22 4 = .ok (.ireturn, 1) := by decide +kernel
theorem d23_0 : decode K23 0 = .ok (.iload_n 0, 1) := by decide +kernel
theorem d23_1 : decode K23 1 = .ok (.iload_n 1, 1) := by decide +kernel
theorem d23_2 : decode K23 2 = .ok (.getstatic 1053, 3) := by decide +kernel
theorem d23_5 : decode K23 5 = .ok (.invokestatic 1059, 3) := by decide +kernel
theorem d23_8 : decode K23 8 = .ok (.pop, 1) := by decide +kernel
theorem d23_9 : decode K23 9 = .ok (.return_, 1) := by decide +kernel
theorem d24_0 : decode K24 0 = .ok (.iload_n 0, 1) := by decide +kernel
theorem d24_1 : decode K24 1 = .ok (.ifCond .lt 8, 3) := by decide +kernel
theorem d24_4 : decode K24 4 = .ok (.iload_n 0, 1) := by decide +kernel
theorem d24_5 : decode K24 5 = .ok (.iload_n 1, 1) := by decide +kernel
theorem d24_6 : decode K24 6 = .ok (.if_icmp .lt 10, 3) := by decide +kernel
theorem d24_16 : decode K24 16 = .ok (.iload_n 0, 1) := by decide +kernel
theorem d24_17 : decode K24 17 = .ok (.ireturn, 1) := by decide +kernel
theorem d25_0 : decode K25 0 = .ok (.iload_n 0, 1) := by decide +kernel
theorem d25_1 : decode K25 1 = .ok (.bipush 65, 2) := by decide +kernel
theorem d25_3 : decode K25 3 = .ok (.if_icmp .lt 9, 3) := by decide +kernel
theorem d25_6 : decode K25 6 = .ok (.iload_n 0, 1) := by decide +kernel
theorem d25_7 : decode K25 7 = .ok (.bipush 90, 2) := by decide +kernel
theorem d25_9 : decode K25 9 = .ok (.if_icmp .le 27, 3) := by decide +kernel
theorem d25_12 : decode K25 12 = .ok (.iload_n 0, 1) := by decide +kernel
theorem d25_13 : decode K25 13 = .ok (.bipush 97, 2) := by decide +kernel
theorem d25_15 : decode K25 15 = .ok (.if_icmp .lt 9, 3) := by decide +kernel
theorem d25_18 : decode K25 18 = .ok (.iload_n 0, 1) := by decide +kernel
theorem d25_19 : decode K25 19 = .ok (.bipush 122, 2) := by decide +kernel
theorem d25_21 : decode K25 21 = .ok (.if_icmp .le 15, 3) := by decide +kernel
theorem d25_24 : decode K25 24 = .ok (.iload_n 0, 1) := by decide +kernel
theorem d25_25 : decode K25 25 = .ok (.bipush 48, 2) := by decide +kernel
theorem d25_27 : decode K25 27 = .ok (.if_icmp .lt 13, 3) := by decide +kernel
theorem d25_30 : decode K25 30 = .ok (.iload_n 0, 1) := by decide +kernel
theorem d25_31 : decode K25 31 = .ok (.bipush 57, 2) := by decide +kernel
theorem d25_33 : decode K25 33 = .ok (.if_icmp .gt 7, 3) := by decide +kernel
theorem d25_36 : decode K25 36 = .ok (.iconst 1, 1) := by decide +kernel
theorem d25_37 : decode K25 37 = .ok (.goto 4, 3) := by decide +kernel
theorem d25_40 : decode K25 40 = .ok (.iconst 0, 1) := by decide +kernel
theorem d25_41 : decode K25 41 = .ok (.ireturn, 1) := by decide +kernel
theorem d26_0 : decode K26 0 = .ok (.getstatic 38, 3) := by decide +kernel
theorem d26_3 : decode K26 3 = .ok (.ifCond .eq 23, 3) := by decide +kernel
theorem d26_6 : decode K26 6 = .ok (.iload_n 0, 1) := by decide +kernel
theorem d26_7 : decode K26 7 = .ok (.invokestatic 1015, 3) := by decide +kernel
theorem d26_10 : decode K26 10 = .ok (.ifCond .eq 16, 3) := by decide +kernel
theorem d26_13 : decode K26 13 = .ok (.new 10, 3) := by decide +kernel
theorem d26_16 : decode K26 16 = .ok (.dup, 1) := by decide +kernel
theorem d26_17 : decode K26 17 = .ok (.iload_n 0, 1) := by decide +kernel
theorem d26_18 : decode K26 18 = .ok (.invokestatic 1018, 3) := by decide +kernel
theorem d26_21 : decode K26 21 = .ok (.iconst 0, 1) := by decide +kernel
theorem d26_22 : decode K26 22 = .ok (.invokespecial 209, 3) := by decide +kernel
theorem d26_25 : decode K26 25 = .ok (.areturn, 1) := by decide +kernel
theorem d26_26 : decode K26 26 = .ok (.new 10, 3) := by decide +kernel
theorem d26_29 : decode K26 29 = .ok (.dup, 1) := by decide +kernel
theorem d26_30 : decode K26 30 = .ok (.iload_n 0, 1) := by decide +kernel
theorem d26_31 : decode K26 31 = .ok (.invokestatic 1021, 3) := by decide +kernel
theorem d26_34 : decode K26 34 = .ok (.iconst 1, 1) := by decide +kernel
theorem d26_35 : decode K26 35 = .ok (.invokespecial 209, 3) := by decide +kernel
theorem d26_38 : decode K26 38 = .ok (.areturn, 1) := by decide +kernel
theorem d27_0 : decode K27 0 = .ok (.iload_n 0, 1) := by decide +kernel
theorem d27_1 : decode K27 1 = .ok (.sipush 255, 3) := by decide +kernel
theorem d27_4 : decode K27 4 = .ok (.if_icmp .gt 7, 3) := by decide +kernel
theorem d27_7 : decode K27 7 = .ok (.iconst 1, 1) := by decide +kernel
theorem d27_8 : decode K27 8 = .ok (.goto 4, 3) := by decide +kernel
theorem d27_11 : decode K27 11 = .ok (.iconst 0, 1) := by decide +kernel
theorem d27_12 : decode K27 12 = .ok (.ireturn, 1) := by decide +kernel
theorem d28_0 : decode K28 0 = .ok (.iconst 1, 1) := by decide +kernel
theorem d28_1 : decode K28 1 = .ok (.newarray .byte, 2) := by decide +kernel
theorem d28_3 : decode K28 3 = .ok (.dup, 1) := by decide +kernel
theorem d28_4 : decode K28 4 = .ok (.iconst 0, 1) := by decide +kernel
theorem d28_5 : decode K28 5 = .ok (.iload_n 0, 1) := by decide +kernel
theorem d28_6 : decode K28 6 = .ok (.i2b, 1) := by decide +kernel
theorem d28_7 : decode K28 7 = .ok (.bastore, 1) := by decide +kernel
theorem d28_8 : decode K28 8 = .ok (.areturn, 1) := by decide +kernel
theorem d29_0 : decode K29 0 = .ok (.aload_n 0, 1) := by decide +kernel
theorem d29_1 : decode K29 1 = .ok (.invokespecial 1, 3) := by decide +kernel
theorem d29_4 : decode K29 4 = .ok (.aload_n 0, 1) := by decide +kernel
theorem d29_5 : decode K29 5 = .ok (.aload_n 1, 1) := by decide +kernel
theorem d29_6 : decode K29 6 = .ok (.putfield 9, 3) := by decide +kernel
theorem d29_9 : decode K29 9 = .ok (.aload_n 0, 1) := by decide +kernel
theorem d29_10 : decode K29 10 = .ok (.iload_n 2, 1) := by decide +kernel
theorem d29_11 : decode K29 11 = .ok (.putfield 15, 3) := by decide +kernel
theorem d29_14 : decode K29 14 = .ok (.return_, 1) := by decide +kernel
theorem d30_0 : decode K30 0 = .ok (.iload_n 1, 1) := by decide +kernel
theorem d30_1 : decode K30 1 = .ok (.aload_n 0, 1) := by decide +kernel
theorem d30_2 : decode K30 2 = .ok (.arraylength, 1) := by decide +kernel
theorem d30_3 : decode K30 3 = .ok (.invokestatic 9, 3) := by decide +kernel
theorem d30_6 : decode K30 6 = .ok (.aload_n 0, 1) := by decide +kernel
theorem d30_7 : decode K30 7 = .ok (.iload_n 1, 1) := by decide +kernel
theorem d30_8 : decode K30 8 = .ok (.baload, 1) := by decide +kernel
theorem d30_9 : decode K30 9 = .ok (.sipush 255, 3) := by decide +kernel
theorem d30_12 : decode K30 12 = .ok (.iand, 1) := by decide +kernel
theorem d30_13 : decode K30 13 = .ok (.i2c, 1) := by decide +kernel
theorem d30_14 : decode K30 14 = .ok (.ireturn, 1) := by decide +kernel
theorem d31_0 : decode K31 0 = .ok (.iconst 2, 1) := by decide +kernel
theorem d31_1 : decode K31 1 = .ok (.newarray .byte, 2) := by decide +kernel
theorem d31_3 : decode K31 3 = .ok (.astore_n 1, 1) := by decide +kernel
theorem d31_4 : decode K31 4 = .ok (.aload_n 1, 1) := by decide +kernel
theorem d31_5 : decode K31 5 = .ok (.iconst 0, 1) := by decide +kernel
theorem d31_6 : decode K31 6 = .ok (.iload_n 0, 1) := by decide +kernel
theorem d31_7 : decode K31 7 = .ok (.invokestatic 111, 3) := by decide +kernel
theorem d31_10 : decode K31 10 = .ok (.aload_n 1, 1) := by decide +kernel
theorem d31_11 : decode K31 11 = .ok (.areturn, 1) := by decide +kernel
theorem pd_0 : parseMethodDescriptor "()B" = some ⟨[], some .byte⟩ := by decide +kernel
theorem pd_1 : parseMethodDescriptor "(IILjava/util/function/BiFunction;)I" = some ⟨[.int, .int, (.object "java/util/function/BiFunction")], some .int⟩ := by decide +kernel
theorem pd_2 : parseMethodDescriptor "([B)I" = some ⟨[(.array .byte)], some .int⟩ := by decide +kernel
theorem pd_3 : parseMethodDescriptor "(II)V" = some ⟨[.int, .int], none⟩ := by decide +kernel
theorem pd_4 : parseMethodDescriptor "(I[B)V" = some ⟨[.int, (.array .byte)], none⟩ := by decide +kernel
theorem pd_5 : parseMethodDescriptor "([BI)C" = some ⟨[(.array .byte), .int], some .char⟩ := by decide +kernel
theorem pd_6 : parseMethodDescriptor "()Z" = some ⟨[], some .boolean⟩ := by decide +kernel
theorem pd_7 : parseMethodDescriptor "()I" = some ⟨[], some .int⟩ := by decide +kernel
theorem pd_8 : parseMethodDescriptor "(I)C" = some ⟨[.int], some .char⟩ := by decide +kernel
theorem pd_9 : parseMethodDescriptor "(C)Z" = some ⟨[.char], some .boolean⟩ := by decide +kernel
theorem pd_10 : parseMethodDescriptor "(I)I" = some ⟨[.int], some .int⟩ := by decide +kernel
theorem pd_11 : parseMethodDescriptor "([BII)V" = some ⟨[(.array .byte), .int, .int], none⟩ := by decide +kernel
theorem pd_12 : parseMethodDescriptor "(I)[B" = some ⟨[.int], some (.array .byte)⟩ := by decide +kernel
theorem pd_13 : parseMethodDescriptor "([CI[BII)I" = some ⟨[(.array .char), .int, (.array .byte), .int, .int], some .int⟩ := by decide +kernel
theorem pd_14 : parseMethodDescriptor "([CII)[B" = some ⟨[(.array .char), .int, .int], some (.array .byte)⟩ := by decide +kernel
theorem pd_15 : parseMethodDescriptor "([BI)B" = some ⟨[(.array .byte), .int], some .byte⟩ := by decide +kernel
theorem pd_16 : parseMethodDescriptor "([CIILjava/lang/Void;)V" = some ⟨[(.array .char), .int, .int, (.object "java/lang/Void")], none⟩ := by decide +kernel
theorem pd_17 : parseMethodDescriptor "(C)[B" = some ⟨[.char], some (.array .byte)⟩ := by decide +kernel
theorem pd_18 : parseMethodDescriptor "([BB)V" = some ⟨[(.array .byte), .byte], none⟩ := by decide +kernel
theorem pd_19 : parseMethodDescriptor "(IC)[C" = some ⟨[.int, .char], some (.array .char)⟩ := by decide +kernel
theorem pd_20 : parseMethodDescriptor "([C)V" = some ⟨[(.array .char)], none⟩ := by decide +kernel
theorem pd_21 : parseMethodDescriptor "(Ljava/lang/String;)Z" = some ⟨[(.object "java/lang/String")], some .boolean⟩ := by decide +kernel
theorem pd_22 : parseMethodDescriptor "(C)Ljava/lang/String;" = some ⟨[.char], some (.object "java/lang/String")⟩ := by decide +kernel
section OwnAv
variable {p : Program} {l : Launch} {e : Env} {R : Room} {s : State} {m : MethodId} {args : Array Value} {below : List Frame} {meth : Method} {c : Code} {T : State} {Z : State} {a0 : Array Value} {h h' : Heap} {n0 n1 cells slots nc ns pc pc' : Nat} {Ls : Array Slot} {st rest : List Value} {Q : GQ} {Ts Ts' : List String} {Lt : List (String × Nat × Addr)} {vm0 : Vm} {a b : Addr} {ty : FieldType} {vs ws : List Value}
/-- in heap h, at a, there is an array of ty that holds just these -/
def AV (Z : State) (h : Heap) (a : Addr) (ty : FieldType) (vs : List Value) : Prop := ∃ c : Cell, Arr Z h a c ty ∧ c.slots.size = vs.length ∧ vs.length < 2147483648 ∧ (∀ i, i < vs.length → c.slots[i]? = some (vs.getD i .null)) ∧ ∀ i, i < vs.length → Jvm.fits ty (vs.getD i .null) = true
theorem AV.lt (F : AV Z h a ty vs) : a < h.size := by obtain ⟨c, A, -⟩ := F; exact A.lt
theorem AV.ext (F : AV Z h a ty vs) (E : Ext h h') : AV Z h' a ty vs := by obtain ⟨c, A, r⟩ := F; exact ⟨c, A.ext E, r⟩
theorem AV.other {sl : Nat} {v : Value} (F : AV Z h b ty vs) (W : Wr h h' a sl v) (q : b ≠ a) : AV Z h' b ty vs := by obtain ⟨c, A, r⟩ := F; exact ⟨c, A.other W q, r⟩
theorem AV.keep {ws : List Addr} (F : AV Z h a ty vs) (K : Keep h h' ws) (q : a ∉ ws) : AV Z h' a ty vs := by obtain ⟨c, A, r⟩ := F; exact ⟨c, ⟨K.2.1 a c A.1 q, A.2⟩, r⟩
theorem own_len {n : Nat} (h : n < 2147483648) : (Nat.toInt32 n).toNatClampNeg = n ∧ ¬ Nat.toInt32 n < 0 := by
  have e : (Nat.toInt32 n).toInt = n := Int32.toInt_ofNat_small (by omega)
  constructor
  · simp only [Int32.toNatClampNeg, e]; rfl
  · rw [Int32.lt_iff_toInt_lt, e]; have : (0 : Int32).toInt = 0 := rfl
    omega
theorem AV.arv (F : AV Z h a ty vs) : ∃ k, Arv Z h a k ty (Nat.toInt32 vs.length) vs .null := by
  obtain ⟨c, A, S, L, H, G⟩ := F
  obtain ⟨q1, q2⟩ := own_len L
  exact ⟨c.cls, c, A, rfl, by rw [S, q1], q2, fun i hi => H i (by omega), fun i hi => G i (by omega)⟩
theorem Arv.av {k : ClassId} {z : Int32} {dv : Value} (F : Arv Z h a k ty z vs dv) (q : z.toNatClampNeg = vs.length) (L : vs.length < 2147483648) : AV Z h a ty vs := by
  obtain ⟨c, A, -, S, -, H, G⟩ := F
  have e : ∀ i, i < vs.length → vs.getD i dv = vs.getD i .null := fun i hi => by
    simp only [List.getD_eq_getElem?_getD, List.getElem?_eq_getElem hi, Option.getD_some]
  exact ⟨c, A, by rw [S, q], L, fun i hi => by rw [← e i hi]; exact H i (by omega), fun i hi => by rw [← e i hi]; exact G i (by omega)⟩

theorem own_idx {j : Int32} {i : Nat} (hj : j.toInt = (i : Int)) : j.toNatClampNeg = i ∧ ¬ j < 0 := by
  constructor
  · unfold Int32.toNatClampNeg; rw [hj]; rfl
  · rw [Int32.lt_iff_toInt_lt, hj]; have : (0 : Int32).toInt = 0 := rfl
    omega
theorem g_caload (X : Wk p l e R s m args below meth c n1 Z Ts Lt T h cells slots) (hx : p.tables.exec = Jvm.exec) (hZ : Z.Warmed39 s.vm) (F : AV Z h a .char vs) {j : Int32} {i : Nat} (hj : j.toInt = (i : Int)) (hi : i < vs.length) {x : Int32} (hv : vs.getD i .null = .int x) (hp : pc + 1 = pc') (hd : decode c.code pc = .ok (.caload, 1))
    (k : Go p e below s n0 Q nc ns (T.setTop (mkF m pc' Ls (.int x :: rest)))) : Go p e below s n0 Q nc ns (T.setTop (mkF m pc Ls (.int j :: .ref a :: rest))) := by
  subst hp; obtain ⟨locs, vm0, X, N, eT, B⟩ := X; replace hZ := B.hZ hZ
  obtain ⟨cl, A, S, -, H, -⟩ := F
  obtain ⟨e1, e2⟩ := own_idx hj
  have hin : ¬ (j < 0 ∨ cl.slots.size ≤ j.toNatClampNeg) := by rw [e1, S]; intro q; rcases q with q | q; exact e2 q; omega
  exact go_back (fun t q => X.caload hx (j := j) (v := .int x) (by rw [eT]; exact A.1) (State.isArrayOf_alike hZ.alike A.2.1) A.2.2 hin (by rw [e1, ← hv]; exact H i hi) (g := mkF m pc Ls (.int j :: .ref a :: rest)) rfl rfl hd t q) k
theorem g_baload (X : Wk p l e R s m args below meth c n1 Z Ts Lt T h cells slots) (hx : p.tables.exec = Jvm.exec) (hZ : Z.Warmed39 s.vm) (F : AV Z h a .byte vs) {j : Int32} {i : Nat} (hj : j.toInt = (i : Int)) (hi : i < vs.length) {x : Int32} (hv : vs.getD i .null = .int x) (hp : pc + 1 = pc') (hd : decode c.code pc = .ok (.baload, 1))
    (k : Go p e below s n0 Q nc ns (T.setTop (mkF m pc' Ls (.int x :: rest)))) : Go p e below s n0 Q nc ns (T.setTop (mkF m pc Ls (.int j :: .ref a :: rest))) := by
  subst hp; obtain ⟨locs, vm0, X, N, eT, B⟩ := X; replace hZ := B.hZ hZ
  obtain ⟨cl, A, S, -, H, -⟩ := F
  obtain ⟨e1, e2⟩ := own_idx hj
  have hin : ¬ (j < 0 ∨ cl.slots.size ≤ j.toNatClampNeg) := by rw [e1, S]; intro q; rcases q with q | q; exact e2 q; omega
  exact go_back (fun t q => X.baloadBytes hx (j := j) (v := .int x) (by rw [eT]; exact A.1) (State.isArrayOf_alike hZ.alike A.2.1) A.2.2 hin (by rw [e1, ← hv]; exact H i hi) (g := mkF m pc Ls (.int j :: .ref a :: rest)) rfl rfl hd t q) k
theorem AV.set {j : Int32} {i : Nat} {v : Value} (F : AV Z h a ty vs) (hj : j.toNatClampNeg = i) (hi : i < vs.length) (hf : Jvm.fits ty v = true) (W : Wr h h' a j.toNatClampNeg v) : AV Z h' a ty (vs.set i v) := by
  obtain ⟨cl, A, S, hl, H, G⟩ := F
  refine ⟨_, A.same W, by rw [sz_set, S, List.length_set], by rw [List.length_set]; exact hl, fun k hk => ?_, fun k hk => ?_⟩
  · rw [List.length_set] at hk
    rw [hj]
    by_cases u : i = k
    · subst u; simp [Cell.setSlot, S, hi]
    · have q := H k hk
      simp only [Cell.setSlot, List.getD_eq_getElem?_getD] at q ⊢
      rw [Array.getElem?_setIfInBounds_ne u, List.getElem?_set_ne u]; exact q
  · rw [List.length_set] at hk
    by_cases u : i = k
    · subst u; simpa [hi] using hf
    · have q := G k hk
      simp only [List.getD_eq_getElem?_getD] at q ⊢
      rw [List.getElem?_set_ne u]; exact q
theorem g_bastore (X : Wk p l e R s m args below meth c n1 Z Ts Lt T h cells slots) (hx : p.tables.exec = Jvm.exec) (hZ : Z.Warmed39 s.vm) (F : AV Z h a .byte vs) {j : Int32} {i : Nat} (hj : j.toInt = (i : Int)) (hi : i < vs.length) (hna : n1 ≤ a) {x y : Int32} (hxy : nar .byte x = y) (hp : pc + 1 = pc') (hd : decode c.code pc = .ok (.bastore, 1))
    (k : ∀ T' h', Wk p l e R s m args below meth c n1 Z Ts Lt T' h' cells slots → Wr h h' a j.toNatClampNeg (.int y) → AV Z h' a .byte (vs.set i (.int y)) → Go p e below s n0 Q nc ns (T'.setTop (mkF m pc' Ls rest))) : Go p e below s n0 Q nc ns (T.setTop (mkF m pc Ls (.int x :: .int j :: .ref a :: rest))) := by
  subst hp; subst hxy; obtain ⟨locs, vm0, X, N, eT, B⟩ := X; replace hZ := B.hZ hZ
  obtain ⟨e1, e2⟩ := own_idx hj
  obtain ⟨cl, A, S, hl, H⟩ := F
  have hin : ¬ (j < 0 ∨ cl.slots.size ≤ j.toNatClampNeg) := by rw [e1, S]; intro q; rcases q with q | q; exact e2 q; omega
  obtain ⟨T', h', X', e', W', b⟩ := stB X hx hZ eT A (x := x) hin (g := mkF m pc Ls (.int x :: .int j :: .ref a :: rest)) rfl rfl hd
  exact go_back b (k T' h' ⟨_, vm0, X', Fr.snoc X' N hna, e', B.grow (Nat.le_of_eq W'.size.symm)⟩ W' (AV.set ⟨cl, A, S, hl, H⟩ e1 hi (fits_nar_byte x) W'))
theorem g_castore (X : Wk p l e R s m args below meth c n1 Z Ts Lt T h cells slots) (hx : p.tables.exec = Jvm.exec) (hZ : Z.Warmed39 s.vm) (F : AV Z h a .char vs) {j : Int32} {i : Nat} (hj : j.toInt = (i : Int)) (hi : i < vs.length) (hna : n1 ≤ a) {x y : Int32} (hxy : nar .char x = y) (hp : pc + 1 = pc') (hd : decode c.code pc = .ok (.castore, 1))
    (k : ∀ T' h', Wk p l e R s m args below meth c n1 Z Ts Lt T' h' cells slots → Wr h h' a j.toNatClampNeg (.int y) → AV Z h' a .char (vs.set i (.int y)) → Go p e below s n0 Q nc ns (T'.setTop (mkF m pc' Ls rest))) : Go p e below s n0 Q nc ns (T.setTop (mkF m pc Ls (.int x :: .int j :: .ref a :: rest))) := by
  subst hp; subst hxy; obtain ⟨locs, vm0, X, N, eT, B⟩ := X; replace hZ := B.hZ hZ
  obtain ⟨e1, e2⟩ := own_idx hj
  obtain ⟨cl, A, S, hl, H⟩ := F
  have hin : ¬ (j < 0 ∨ cl.slots.size ≤ j.toNatClampNeg) := by rw [e1, S]; intro q; rcases q with q | q; exact e2 q; omega
  obtain ⟨T', h', X', e', W', b⟩ := stC X hx hZ eT A (x := x) hin (g := mkF m pc Ls (.int x :: .int j :: .ref a :: rest)) rfl rfl hd
  exact go_back b (k T' h' ⟨_, vm0, X', Fr.snoc X' N hna, e', B.grow (Nat.le_of_eq W'.size.symm)⟩ W' (AV.set ⟨cl, A, S, hl, H⟩ e1 hi (fits_nar_char x) W'))
theorem g_newA (X : Wk p l e R s m args below meth c n1 Z Ts Lt T h cells slots) (hx : p.tables.exec = Jvm.exec) (hZ : Z.Warmed39 s.vm) {aty : ArrayType} (w : (Jvm.Cond.arrayClass (newarray.typeOf aty)).before a0 Z = true) {n : Int32} {N : Nat} (hn : n.toInt = (N : Int)) {cap : Nat} (hcap : N ≤ cap) (hb : cap * 8 ≤ 536870912) (hp : pc + 2 = pc') (hd : decode c.code pc = .ok (.newarray aty, 2)) (hc : cells + 1 ≤ R.cells) (hl : slots + cap ≤ R.slots)
    (k : ∀ T' h' a, a = h.size → Wk p l e R s m args below meth c n1 Z Ts Lt T' h' (cells + 1) (slots + cap) → Ext h h' → AV Z h' a (newarray.typeOf aty) (List.replicate N (defaultValue (newarray.typeOf aty))) → Go p e below s n0 Q nc ns (T'.setTop (mkF m pc' Ls (.ref a :: rest)))) : Go p e below s n0 Q nc ns (T.setTop (mkF m pc Ls (.int n :: rest))) := by
  subst hp; obtain ⟨locs, vm0, X, Nf, eT, B⟩ := X; replace hZ := B.hZ hZ
  obtain ⟨e1, e2⟩ := own_idx hn
  obtain ⟨T', h', cA, X', e', E', A', b⟩ := newP X hx hZ (aty := aty) w eT (g := mkF m pc Ls (.int n :: rest)) rfl hd rfl e2 (cap := cap) (by rw [e1]; exact hcap) hb hc hl
  have V := Arv.pad (vs' := List.replicate N (defaultValue (newarray.typeOf aty))) (Arv.new A' e2) (fun i => by
    have q := pad_rep [] (defaultValue (newarray.typeOf aty)) N i
    simpa using q)
  exact go_back b (k T' h' h.size rfl ⟨_, vm0, X', Nf, e', B.grow E'.1⟩ E' (Arv.av V (by rw [e1, List.length_replicate]) (by rw [List.length_replicate]; omega)))
theorem g_alen (X : Wk p l e R s m args below meth c n1 Z Ts Lt T h cells slots) (hx : p.tables.exec = Jvm.exec) (hZ : Z.Warmed39 s.vm) (F : AV Z h a ty vs) {z : Int32} (hz : z.toInt = (vs.length : Int)) (hp : pc + 1 = pc') (hd : decode c.code pc = .ok (.arraylength, 1))
    (k : Go p e below s n0 Q nc ns (T.setTop (mkF m pc' Ls (.int z :: rest)))) : Go p e below s n0 Q nc ns (T.setTop (mkF m pc Ls (.ref a :: rest))) := by
  subst hp; obtain ⟨locs, vm0, X, N, eT, B⟩ := X; replace hZ := B.hZ hZ
  obtain ⟨cl, A, S, -, H⟩ := F
  obtain ⟨e1, e2⟩ := own_idx hz
  have e3 : cl.slots.size.toInt32 = z := len_of (by rw [S, e1]) e2
  refine go_back (fun t q => X.arraylength hx (by rw [eT]; exact A.1) (State.isArrayOf_alike hZ.alike A.2.1) (g := mkF m pc Ls (.ref a :: rest)) rfl rfl hd t ?_) k
  rw [e3]; exact q
theorem since_up {s : State} {vm : Vm} {n n' : Nat} (q : s.Since vm n) (hn : n ≤ n') : s.Since vm n' := ⟨q.1, fun j p hj hp => ⟨(q.2 j p hj hp).1, Nat.lt_of_lt_of_le (q.2 j p hj hp).2 hn⟩⟩
/-- ldc of a String constant, the first time (its text is not among those loaded) -/
theorem g_ldcS (X : Wk p l e R s m args below meth c s.heap.size Z Ts Lt T h cells slots) (hx : p.tables.exec = Jvm.exec) (hZ : Z.Warmed39 s.vm) {own text : String} {index : Nat} (hown : s.vm.findClass own = some m.cls) (w : (Jvm.Cond.stringLink own index text).before a0 Z = true) (wS : ∀ d ∈ Bundle.stringAtoms, d.before a0 Z = true)
    (hkeep : ∀ (b : Addr) (cl : Cell), Z.heap[b]? = some cl → s.heap[b]? = some cl) (hnot : text ∉ Ts) (hh : Jvm.Lit.constHeld Z own index) (hcw : Jvm.Lit.compactW.before a0 Z = true)
    (ht : (∀ q ∈ text.toList, q.toNat < 256) ∧ text.toList.map (fun q => Value.int (Jvm.Lit.byteI q.toNat.toUInt16)) = vs) (hL : vs.length < 2147483648) (hp : pc + 2 = pc') (hd : decode c.code pc = .ok (.ldc index, 2)) {n : Nat} (hn : 4 * text.toList.length ≤ n) (hbig : n ≤ 536870912) (hc : cells + 2 ≤ R.cells) (hl : slots + (n + 4) ≤ R.slots)
    (k : ∀ T' h' a b, Wk p l e R s m args below meth c s.heap.size Z (text :: Ts) ((own, index, a) :: Lt) T' h' (cells + 2) (slots + (n + 4)) → Ext h h' → XSt Z h' a → SC Z h' a (.int 0) → SV Z h' a (.ref b) → AV Z h' b .byte vs → ((a < s.heap.size ∧ b < s.heap.size) ∨ (h.size ≤ a ∧ h.size ≤ b)) →
      Go p e below s n0 Q nc ns (T'.setTop (mkF m pc' Ls (.ref a :: st)))) : Go p e below s n0 Q nc ns (T.setTop (mkF m pc Ls st)) := by
  subst hp; obtain ⟨locs, vm0, X, N, eT, B⟩ := X; replace hZ := B.hZ hZ; replace hown := B.fc hown
  obtain ⟨⟨k0, hS, hk⟩, I, t⟩ := B
  obtain ⟨a, T', h', k1, b, kk, X', e', E, hS', hk', hW, hf, h1, h2, h3, h4, -, -, I', L', hw, st'⟩ := ldcSVd (s := s.setVm vm0) (vm0 := vm0) X hx hZ hown w wS eT ((State.WarmedH.refl (s.setVm vm0)).since h.size) (Nat.le_refl _) N hkeep I hnot hh hcw (z := Nat.toInt32 vs.length) ht (own_len hL).2 (own_len hL).1 (g := mkF m pc Ls st) rfl hd hn hbig hc hl
  refine go_back st' (k T' h' a b ⟨_, T'.vm, X', N, e', ⟨⟨h'.size, hS.trans (since_up hS' hk') (Nat.le_trans hk E.1), Nat.le_refl _⟩, I', fun q hq => ?_⟩⟩ E h1 h2 h3 (Arv.av h4 (own_len hL).1 hL) hw)
  rcases List.mem_cons.mp hq with rfl | hq
  · exact L'
  · exact Lit.stays (t q hq) hS'.1
theorem g_ldcA (X : Wk p l e R s m args below meth c n1 Z Ts Lt T h cells slots) (hx : p.tables.exec = Jvm.exec) (hZ : Z.Warmed39 s.vm) {own text : String} {index : Nat} (hown : s.vm.findClass own = some m.cls) (w : (Jvm.Cond.stringLink own index text).before a0 Z = true) (hm : (own, index, a) ∈ Lt) (hp : pc + 2 = pc') (hd : decode c.code pc = .ok (.ldc index, 2))
    (k : Go p e below s n0 Q nc ns (T.setTop (mkF m pc' Ls (.ref a :: st)))) : Go p e below s n0 Q nc ns (T.setTop (mkF m pc Ls st)) := by
  subst hp; obtain ⟨locs, vm0, X, N, eT, B⟩ := X; replace hZ := B.hZ hZ; replace hown := B.fc hown
  exact go_back (ldcAgain X hx hZ hown w (B.lt _ hm) (g := mkF m pc Ls st) rfl hd) k
theorem g_cast (X : Wk p l e R s m args below meth c n1 Z Ts Lt T h cells slots) (hx : p.tables.exec = Jvm.exec) (hZ : Z.Warmed39 s.vm) {own K : String} {index : Nat} (hown : s.vm.findClass own = some m.cls) (w : (Jvm.Cond.classLink own index K).before a0 Z = true) (F : Ins Z h a K true) (hp : pc + 3 = pc') (hd : decode c.code pc = .ok (.checkcast index, 3))
    (k : ∀ T', Wk p l e R s m args below meth c n1 Z Ts Lt T' h cells slots → Go p e below s n0 Q nc ns (T'.setTop (mkF m pc' Ls (.ref a :: rest)))) : Go p e below s n0 Q nc ns (T.setTop (mkF m pc Ls (.ref a :: rest))) := by
  subst hp; obtain ⟨locs, vm0, X, N, eT, B⟩ := X; replace hZ := B.hZ hZ; replace hown := B.fc hown
  obtain ⟨T', X', e', b⟩ := castY X hx hZ hown w eT F (g := mkF m pc Ls (.ref a :: rest)) rfl rfl hd
  exact go_back b (k T' ⟨_, vm0, X', N, e', B⟩)
/-- System.arraycopy between arrays of one primitive type -/
theorem g_copyP (X : Wk p l e R s m args below meth c n1 Z Ts Lt T h cells slots) (hx : p.tables.exec = Jvm.exec) (hZ : Z.Warmed39 s.vm) {own : String} {index : Nat} (hown : s.vm.findClass own = some m.cls)
    (w1 : (Jvm.Cond.methodLink own index Jvm.Stand.acN).before a0 Z = true) (w2 : (Jvm.Cond.native Jvm.Stand.acN).before a0 Z = true) (w3 : (Jvm.Cond.static Jvm.Stand.acN).before a0 Z = true) (w4 : (Jvm.Cond.initialized "java/lang/System").before a0 Z = true)
    (A : AV Z h a ty vs) (B : AV Z h b ty ws) (hty : refKind ty = false) {sp dp nn : Int32} {i j n : Nat} (h1 : sp.toInt = (i : Int)) (h2 : dp.toInt = (j : Int)) (h3 : nn.toInt = (n : Int)) (h4 : i + n ≤ vs.length) (h5 : j + n ≤ ws.length) (ge : n1 ≤ b)
    (hsz : Ls.size = c.maxLocals) (hp : pc + 3 = pc') (hd : decode c.code pc = .ok (.invokestatic index, 3)) (hf : 1 ≤ R.frames) {W : Nat} (hW : 2 * 0 + (rest.map fun v => v.category).sum ≤ W) (hlo : W + (nativeFrameWords "java/lang/System" "arraycopy" 5 + 11) ≤ R.locals)
    (k : ∀ T' h', Wk p l e R s m args below meth c n1 Z Ts Lt T' h' cells slots → Keep h h' [b] → AV Z h' b ty (ws.take j ++ (vs.drop i).take n ++ ws.drop (j + n)) → Go p e below s n0 Q nc ns (T'.setTop (mkF m pc' Ls rest))) : Go p e below s n0 Q nc ns (T.setTop (mkF m pc Ls (.int nn :: .int dp :: .ref b :: .int sp :: .ref a :: rest))) := by
  subst hp; obtain ⟨locs, vm0, X, N, eT, B0⟩ := X; replace hZ := B0.hZ hZ; replace hown := B0.fc hown
  have LA := A
  have LB := B
  obtain ⟨-, -, -, LA, -⟩ := LA
  obtain ⟨-, -, -, LB, -⟩ := LB
  obtain ⟨ka, A⟩ := A.arv
  obtain ⟨kb, B⟩ := B.arv
  have idx : ∀ {z : Int32} {t : Nat}, z.toInt = (t : Int) → z.toNatClampNeg = t ∧ ¬ z < 0 := fun {z t} hj => by
    constructor
    · unfold Int32.toNatClampNeg; rw [hj]; rfl
    · rw [Int32.lt_iff_toInt_lt, hj]; have : (0 : Int32).toInt = 0 := rfl
      omega
  obtain ⟨s1, s2⟩ := idx h1
  obtain ⟨d1, d2⟩ := idx h2
  obtain ⟨n1, n2⟩ := idx h3
  have hus : (vs.drop i).take n = (List.range nn.toNatClampNeg).map fun t => vs.getD (sp.toNatClampNeg + t) .null := by
    rw [s1, n1]
    apply List.ext_getElem?
    intro t
    simp only [List.getElem?_map, List.getElem?_take, List.getElem?_drop, List.getElem?_range]
    by_cases ht : t < n
    · simp [ht, List.getElem?_eq_getElem (show i + t < vs.length by omega), List.getElem?_range ht]
    · simp [ht]
  obtain ⟨T', h', L, X', e', N', K, V, b'⟩ := cpA X hx hZ hown w1 w2 w3 w4 eT A B (Or.inl ⟨rfl, hty⟩) s2 d2 n2 (by rw [s1, n1, (own_len LA).1]; exact h4) (by rw [d1, n1, (own_len LB).1]; exact h5) hus (by rw [d1, n1]; exact h5) N ge (g := mkF m pc Ls (.int nn :: .int dp :: .ref b :: .int sp :: .ref a :: rest)) rfl hsz rfl hd hf hW hlo
  have el : (ws.take j ++ (vs.drop i).take n ++ ws.drop (j + n)).length = ws.length := by
    simp only [List.length_append, List.length_take, List.length_drop]; omega
  rw [d1, n1] at V
  exact go_back b' (k T' h' ⟨_, vm0, X', N', e', B0.grow K.1⟩ K (Arv.av V (by rw [(own_len LB).1, el]) (by rw [el]; exact LB)))
theorem nar_i2b (x : Int32) : nar .byte (x.toInt8.toInt32) = x.toInt8.toInt32 := by simp [nar]
theorem nar_i2c (x : Int32) : nar .char (x.toUInt32.toUInt16.toUInt32.toInt32) = x.toUInt32.toUInt16.toUInt32.toInt32 := by
  show (x.toUInt32.toUInt16.toUInt32.toInt32).toUInt32.toUInt16.toUInt32.toInt32 = _
  rw [UInt32.toUInt32_toInt32, UInt16.toUInt16_toUInt32]
end OwnAv
section OwnAri
theorem ar_neg {p : Int32} (h : 0 ≤ p.toInt) : (-p).toInt = -p.toInt := by
  have := p.toInt_lt
  rw [Int32.toInt_neg, Int.bmod_eq_of_le (by omega) (by omega)]
theorem ar_div {p c : Int32} (h : 0 ≤ p.toInt) (hc : 0 < c.toInt) : (p / c).toInt = p.toInt / c.toInt := by
  rw [Int32.toInt_div_of_ne_right p c (fun q => by rw [q] at hc; exact absurd hc (by decide)), Int.tdiv_eq_ediv_of_nonneg h]
theorem ar_mod {p c : Int32} (h : 0 ≤ p.toInt) : (p % c).toInt = p.toInt % c.toInt := by
  rw [Int32.toInt_mod, Int.tmod_eq_emod_of_nonneg h]
theorem ar_add {p c : Int32} (h1 : -2147483648 ≤ p.toInt + c.toInt) (h2 : p.toInt + c.toInt < 2147483648) : (p + c).toInt = p.toInt + c.toInt := by
  rw [Int32.toInt_add, Int.bmod_eq_of_le (by omega) (by omega)]
theorem ar_sub {p c : Int32} (h1 : -2147483648 ≤ p.toInt - c.toInt) (h2 : p.toInt - c.toInt < 2147483648) : (p - c).toInt = p.toInt - c.toInt := by
  rw [Int32.toInt_sub, Int.bmod_eq_of_le (by omega) (by omega)]
theorem ar_mul {p c : Int32} (h1 : -2147483648 ≤ p.toInt * c.toInt) (h2 : p.toInt * c.toInt < 2147483648) : (p * c).toInt = p.toInt * c.toInt := by
  rw [Int32.toInt_mul, Int.bmod_eq_of_le (by omega) (by omega)]
theorem ar_ndiv {p c : Int32} (h : 0 ≤ p.toInt) (hc : 0 < c.toInt) : (-p) / c = -(p / c) := by
  apply Int32.toInt_inj.mp
  have hd := ar_div h hc
  have h0 : 0 ≤ (p / c).toInt := by rw [hd]; exact Int.ediv_nonneg h (by omega)
  rw [Int32.toInt_div_of_ne_right _ c (fun q => by rw [q] at hc; exact absurd hc (by decide)), ar_neg h, ar_neg h0, Int.neg_tdiv, Int.tdiv_eq_ediv_of_nonneg h, hd]
theorem ar_rem {p : Int32} (h : 0 ≤ p.toInt) (h2 : p.toInt < 65536) : -(p / 100) * 100 - (-p) = p % 100 := by
  apply Int32.toInt_inj.mp
  have e : (100 : Int32).toInt = 100 := rfl
  have hd := ar_div (c := 100) h (by decide)
  rw [e] at hd
  have h0 : 0 ≤ (p / 100).toInt := by omega
  have hn := ar_neg h0
  have hm : (-(p / 100) * 100).toInt = -(p / 100).toInt * 100 := by rw [ar_mul (by rw [hn, e]; omega) (by rw [hn, e]; omega), hn, e]
  rw [ar_sub (by rw [hm, ar_neg h]; omega) (by rw [hm, ar_neg h]; omega), hm, ar_neg h, ar_mod h, e]
  omega
theorem ar_lt {x p : Int32} (h : 0 ≤ p.toInt) (q : p.toInt < -x.toInt) : x < -p := by
  rw [Int32.lt_iff_toInt_lt, ar_neg h]; omega
theorem ar_nlt {x p : Int32} (h : 0 ≤ p.toInt) (q : -x.toInt ≤ p.toInt) : ¬ x < -p := by
  rw [Int32.lt_iff_toInt_lt, ar_neg h]; omega
theorem ar_lt' {x p : Int32} (h : 0 ≤ p.toInt) (q : -x.toInt < p.toInt) : -p < x := by
  rw [Int32.lt_iff_toInt_lt, ar_neg h]; omega
theorem ar_nlt' {x p : Int32} (h : 0 ≤ p.toInt) (q : p.toInt ≤ -x.toInt) : ¬ -p < x := by
  rw [Int32.lt_iff_toInt_lt, ar_neg h]; omega
theorem ar_nneg {p : Int32} (h : 0 ≤ p.toInt) : ¬ p < 0 := by
  rw [Int32.lt_iff_toInt_lt]; have : (0 : Int32).toInt = 0 := rfl
  omega
theorem ar_nn {p : Int32} : -(-p) = p := Int32.neg_neg
theorem ar_of {n : Nat} (h : n < 2147483648) : (Int32.ofNat n).toInt = (n : Int) := Int32.toInt_ofNat_of_lt h
theorem ar_u {w : UInt32} (h : w.toNat < 2147483648) : w.toInt32.toInt = (w.toNat : Int) := by
  have e : w.toInt32 = Int32.ofNat w.toNat := by rw [← UInt32.toInt32_ofNat', UInt32.ofNat_toNat]
  rw [e]; exact ar_of h
theorem ar_n {u : Int32} (h : 0 ≤ u.toInt) : u.toUInt32.toNat = u.toInt.toNat := by
  rw [Int32.toNat_toUInt32_of_le (by rw [Int32.le_iff_toInt_le]; exact h)]; rfl
theorem ar_id {a : Int32} (h : 0 ≤ a.toInt) : a = Int32.ofNat a.toInt.toNat := by
  have := a.toInt_lt
  apply Int32.toInt_inj.mp; rw [ar_of (by omega)]; omega
/-- a small char -/
theorem ar_i2c {u : Int32} (h1 : 0 ≤ u.toInt) (h2 : u.toInt < 65536) : u.toUInt32.toUInt16.toUInt32.toInt32 = u := by
  apply Int32.toInt_inj.mp
  have e2 : u.toUInt32.toUInt16.toUInt32.toNat = u.toInt.toNat := by
    rw [UInt16.toNat_toUInt32, UInt32.toNat_toUInt16, ar_n h1]; omega
  rw [ar_u (by omega), e2]; omega
theorem ar_and (y : Int32) : 0 ≤ (y &&& (255 : Int32)).toInt ∧ (y &&& (255 : Int32)).toInt ≤ 255 := by
  have h1 : (y.toUInt32 &&& 255).toNat ≤ 255 := by rw [UInt32.toNat_and]; exact Nat.and_le_right
  have e : (y &&& (255 : Int32)) = (y.toUInt32 &&& 255).toInt32 := rfl
  rw [e, ar_u (by omega)]; omega
/-- a byte that was a char's low half, read as a char -/
theorem ar_b {a : Int32} (h1 : 0 ≤ a.toInt) (h2 : a.toInt ≤ 255) : (a.toInt8.toInt32 &&& (255 : Int32)) = a := by
  have all : ∀ n : Fin 256, ((Int32.ofNat n.val).toInt8.toInt32 &&& (255 : Int32)) = Int32.ofNat n.val := by decide +kernel
  have := all ⟨a.toInt.toNat, by omega⟩
  rw [ar_id h1]; exact this
theorem ar_58 {a : Int32} (h1 : 0 ≤ a.toInt) (h2 : a.toInt ≤ 255) : (a.toInt8.toInt32 = 58) ↔ a = 58 := by
  have all : ∀ n : Fin 256, ((Int32.ofNat n.val).toInt8.toInt32 = 58) ↔ Int32.ofNat n.val = 58 := by decide +kernel
  have := all ⟨a.toInt.toNat, by omega⟩
  rw [ar_id h1]; exact this
theorem ar_91 {a : Int32} (h1 : 0 ≤ a.toInt) (h2 : a.toInt ≤ 255) : (a.toInt8.toInt32 = 91) ↔ a = 91 := by
  have all : ∀ n : Fin 256, ((Int32.ofNat n.val).toInt8.toInt32 = 91) ↔ Int32.ofNat n.val = 91 := by decide +kernel
  have := all ⟨a.toInt.toNat, by omega⟩
  rw [ar_id h1]; exact this
theorem ar_small {y : Int32} (h1 : 0 ≤ y.toInt) (h2 : y.toInt ≤ 127) : (y &&& (255 : Int32)) = y := by
  have all : ∀ n : Fin 128, (Int32.ofNat n.val &&& (255 : Int32)) = Int32.ofNat n.val := by decide +kernel
  have := all ⟨y.toInt.toNat, by omega⟩
  rw [ar_id h1]; exact this
end OwnAri
section OwnAr9
theorem ar_c (x : Int32) : 0 ≤ x.toUInt32.toUInt16.toUInt32.toInt32.toInt ∧ x.toUInt32.toUInt16.toUInt32.toInt32.toInt < 65536 := by
  have h : x.toUInt32.toUInt16.toUInt32.toNat < 65536 := by rw [UInt16.toNat_toUInt32]; exact UInt16.toNat_lt _
  rw [ar_u (by omega)]; omega
/-- letters and digits; and the four signs -/
def alb (c : Int32) : Bool := (!decide (c < 65) && !decide (90 < c)) || (!decide (c < 97) && !decide (122 < c)) || (!decide (c < 48) && !decide (57 < c))
def okb (c : Int32) : Bool := alb c || decide (c = 45) || decide (c = 46) || decide (c = 95) || decide (c = 126)
theorem okb_big {c : Int32} (h : ¬ c < 128) : okb c = false := by
  have e : ∀ k : Int32, k.toInt < 128 → k < c := fun k hk => by
    rw [Int32.lt_iff_toInt_lt] at h ⊢; have : (128 : Int32).toInt = 128 := rfl
    omega
  have a1 := e 90 (by decide)
  have a2 := e 122 (by decide)
  have a3 := e 57 (by decide)
  have b : ∀ k : Int32, k.toInt < 128 → ¬ c = k := fun k hk q => by have := e k hk; rw [q] at this; exact absurd this (by rw [Int32.lt_iff_toInt_lt]; omega)
  simp [okb, alb, a1, a2, a3, b 45 (by decide), b 46 (by decide), b 95 (by decide), b 126 (by decide)]
theorem chr_nat {c : Int32} (h0 : 0 ≤ c.toInt) {n : Nat} (h : c.toInt < n) : ∃ k : Fin n, c = Int32.ofNat k.val := ⟨⟨c.toInt.toNat, by omega⟩, ar_id h0⟩
theorem ar_b255 (x : Int32) : x.toInt8.toInt32 &&& (255 : Int32) = x &&& (255 : Int32) := by
  apply Int32.toBitVec_inj.mp
  apply BitVec.eq_of_getLsbD_eq
  intro i hi
  have e : ((255 : Int32).toBitVec).getLsbD i = decide (i < 8) := by
    have all : ∀ i : Fin 32, ((255 : Int32).toBitVec).getLsbD i.val = decide (i.val < 8) := by decide +kernel
    exact all ⟨i, hi⟩
  rw [Int32.toBitVec_and, Int32.toBitVec_and, BitVec.getLsbD_and, BitVec.getLsbD_and, e]
  by_cases h : i < 8
  · rw [Int8.toBitVec_toInt32, Int32.toBitVec_toInt8]
    rw [BitVec.getLsbD_signExtend, BitVec.getLsbD_signExtend]
    simp [h, hi]
  · simp [h]
theorem ar_hi {c : Int32} (h0 : 0 ≤ c.toInt) (h1 : c.toInt < 65536) (i : Nat) (hi : 16 ≤ i) : c.toBitVec.getLsbD i = false := by
  apply Nat.testBit_lt_two_pow
  have q := ar_n h0
  rw [← Int32.toNat_toBitVec] at q
  have : 2 ^ 16 ≤ 2 ^ i := Nat.pow_le_pow_right (by decide) hi
  rw [q]; omega
theorem ar_pair {c : Int32} (h0 : 0 ≤ c.toInt) (h1 : c.toInt < 65536) :
    ((((c >>> ((0 : Int32) &&& 31)).toInt8.toInt32 &&& (255 : Int32)) <<< ((0 : Int32) &&& 31)) ||| (((c >>> ((8 : Int32) &&& 31)).toInt8.toInt32 &&& (255 : Int32)) <<< ((8 : Int32) &&& 31))).toUInt32.toUInt16.toUInt32.toInt32 = c := by
  rw [ar_b255, ar_b255]
  have key : ((c >>> ((0 : Int32) &&& 31) &&& (255 : Int32)) <<< ((0 : Int32) &&& 31)) ||| ((c >>> ((8 : Int32) &&& 31) &&& (255 : Int32)) <<< ((8 : Int32) &&& 31)) = c := by
    apply Int32.toBitVec_inj.mp
    apply BitVec.eq_of_getLsbD_eq
    intro i hi
    have e : ∀ i, i < 32 → ((255 : Int32).toBitVec).getLsbD i = decide (i < 8) := by
      have all : ∀ i : Fin 32, ((255 : Int32).toBitVec).getLsbD i.val = decide (i.val < 8) := by decide +kernel
      exact fun i hi => all ⟨i, hi⟩
    have s0 : (Int32.toBitVec 0 &&& Int32.toBitVec 31).smod 32 = 0#32 := by decide
    have s8 : (Int32.toBitVec 8 &&& Int32.toBitVec 31).smod 32 = 8#32 := by decide
    simp only [Int32.toBitVec_or, Int32.toBitVec_shiftLeft, Int32.toBitVec_and, Int32.toBitVec_shiftRight, s0, s8]
    rw [BitVec.getLsbD_or, BitVec.shiftLeft_eq', BitVec.shiftLeft_eq', BitVec.getLsbD_shiftLeft, BitVec.getLsbD_shiftLeft, BitVec.getLsbD_and, BitVec.getLsbD_and, BitVec.sshiftRight_eq', BitVec.sshiftRight_eq', BitVec.getLsbD_sshiftRight, BitVec.getLsbD_sshiftRight]
    have z0 : (0#32).toNat = 0 := rfl
    have z8 : (8#32).toNat = 8 := rfl
    rw [z0, z8, Nat.sub_zero, Nat.zero_add, e i hi, e (i - 8) (by omega)]
    by_cases a : i < 8
    · simp [a, hi]
    · by_cases b : i < 16
      · have e8 : 8 + (i - 8) = i := by omega
        simp [a, hi, e8, show i - 8 < 8 by omega]
        omega
      · rw [ar_hi h0 h1 i (by omega)]
        simp [a, hi, show ¬ i - 8 < 8 by omega]
  rw [key]; exact ar_i2c h0 h1
/-- the two tables of bits -/
theorem own_lo {c : Int32} (h0 : 0 ≤ c.toInt) (h1 : c.toInt < 64) : (((288054454291267584 : Int64).toUInt64 >>> (c &&& 0x3f).toInt64.toUInt64).toInt64 &&& (1 : Int64)) = if okb c then 1 else 0 := by
  obtain ⟨k, rfl⟩ := chr_nat h0 (n := 64) h1
  have all : ∀ k : Fin 64, (((288054454291267584 : Int64).toUInt64 >>> (Int32.ofNat k.val &&& 0x3f).toInt64.toUInt64).toInt64 &&& (1 : Int64)) = if okb (Int32.ofNat k.val) then 1 else 0 := by decide +kernel
  exact all k
theorem own_hi {c : Int32} (h0 : 64 ≤ c.toInt) (h1 : c.toInt < 128) : (((5188146764422578174 : Int64).toUInt64 >>> ((c - (64 : Int32)) &&& 0x3f).toInt64.toUInt64).toInt64 &&& (1 : Int64)) = if okb c then 1 else 0 := by
  obtain ⟨k, rfl⟩ := chr_nat (by omega : 0 ≤ c.toInt) (n := 128) h1
  have all : ∀ k : Fin 128, 64 ≤ k.val → (((5188146764422578174 : Int64).toUInt64 >>> ((Int32.ofNat k.val - (64 : Int32)) &&& 0x3f).toInt64.toUInt64).toInt64 &&& (1 : Int64)) = if okb (Int32.ofNat k.val) then 1 else 0 := by decide +kernel
  refine all k ?_
  have := ar_of (n := k.val) (by omega)
  omega
/-- the chars that the law lays out -/
def laid (n : Nat) (f x y : Int32) (i j : Nat) : List Int32 := ((List.replicate n f).set i x).set j y
theorem laid_len {n : Nat} {f x y : Int32} {i j : Nat} : (laid n f x y i j).length = n := by simp [laid]
theorem laid_get {n : Nat} {f x y : Int32} {i j k : Nat} (hk : k < n) : (laid n f x y i j).getD k 0 = if j = k then y else if i = k then x else f := by
  simp only [laid, List.getD_eq_getElem?_getD, List.getElem?_set, List.length_set, List.length_replicate, List.getElem?_replicate]
  by_cases a : j = k
  · subst a; simp [hk]
  · by_cases b : i = k
    · subst b; simp [a, hk]
    · simp [a, b, hk]
theorem laid_ok {n : Nat} {f x y : Int32} {i j : Nat} (hf : okb f = true) (hy : okb y = true) (hx : i = j ∨ okb x = true) : ∀ k, k < (laid n f x y i j).length → okb ((laid n f x y i j).getD k 0) = true := by
  intro k hk
  rw [laid_len] at hk
  rw [laid_get hk]
  split
  · exact hy
  · split
    · rename_i a b
      rcases hx with q | q
      · exact absurd (q.symm.trans b) a
      · exact q
    · exact hf
theorem laid_badF {n : Nat} {f x y : Int32} {i j : Nat} (hn : 3 ≤ n) (hf : okb f = false) : ∃ k, k < (laid n f x y i j).length ∧ okb ((laid n f x y i j).getD k 0) = false := by
  have : ∃ k, k < n ∧ j ≠ k ∧ i ≠ k := by
    by_cases a : j ≠ 0 ∧ i ≠ 0
    · exact ⟨0, by omega, a.1, a.2⟩
    · by_cases b : j ≠ 1 ∧ i ≠ 1
      · exact ⟨1, by omega, b.1, b.2⟩
      · exact ⟨2, by omega, by omega, by omega⟩
  obtain ⟨k, h1, h2, h3⟩ := this
  exact ⟨k, by rw [laid_len]; exact h1, by rw [laid_get h1, if_neg h2, if_neg h3]; exact hf⟩
theorem laid_badY {n : Nat} {f x y : Int32} {i j : Nat} (hj : j < n) (hy : okb y = false) : ∃ k, k < (laid n f x y i j).length ∧ okb ((laid n f x y i j).getD k 0) = false :=
  ⟨j, by rw [laid_len]; exact hj, by rw [laid_get hj, if_pos rfl]; exact hy⟩
theorem laid_badX {n : Nat} {f x y : Int32} {i j : Nat} (hi : i < n) (hij : ¬ i = j) (hx : okb x = false) : ∃ k, k < (laid n f x y i j).length ∧ okb ((laid n f x y i j).getD k 0) = false :=
  ⟨i, by rw [laid_len]; exact hi, by rw [laid_get hi, if_neg (fun q => hij q.symm), if_pos rfl]; exact hx⟩
theorem laid_chr {n : Nat} {f x y : Int32} {i j : Nat} {P : Int32 → Prop} (hf : P f) (hx : P x) (hy : P y) : ∀ c ∈ laid n f x y i j, P c := by
  intro c hc
  rcases List.mem_or_eq_of_mem_set hc with q | rfl
  · rcases List.mem_or_eq_of_mem_set q with q | rfl
    · rw [List.eq_of_mem_replicate q]; exact hf
    · exact hx
  · exact hy
end OwnAr9
section OwnFill
variable {p : Program} {l : Launch} {e : Env} {R : Room} {s : State} {m : MethodId} {args : Array Value} {below : List Frame} {meth : Method} {c : Code} {T : State} {Z : State} {a0 : Array Value} {h h' : Heap} {n0 n1 cells slots nc ns pc pc' : Nat} {Ls : Array Slot} {st rest : List Value} {Q : GQ} {Ts Ts' : List String} {Lt : List (String × Nat × Addr)} {vm0 : Vm} {a b : Addr} {ty : FieldType} {vs ws : List Value}
theorem rep_step (i r : Nat) (x y : Value) : (List.replicate i x ++ List.replicate (r + 1) y).set i x = List.replicate (i + 1) x ++ List.replicate r y := by
  rw [List.set_append_right _ _ (by simp)]
  simp only [List.length_replicate, Nat.sub_self, List.replicate_succ, List.set_cons_zero]
  rw [List.append_cons, ← List.replicate_succ', List.replicate_succ]
/-- dup, the index, the value, castore -/
theorem fill_step (X : Wk p l e R s m args below meth c n1 Z Ts Lt T h cells slots) (hx : p.tables.exec = Jvm.exec) (hZ : Z.Warmed39 s.vm) {f : Int32} {i r : Nat} (F : AV Z h a .char (List.replicate i (.int f) ++ List.replicate (r + 1) (.int 0))) (hna : n1 ≤ a) (hf : nar .char f = f) (hi : i < 1000)
    (hl : Ls[1]? = some (.val (.int f))) {pc w : Nat} (h1 : decode c.code pc = .ok (.dup, 1)) (hpush : ∀ st : List Value, Go p e below s n0 Q nc ns (T.setTop (mkF m (pc + 1 + w) Ls (.int (Int32.ofNat i) :: st))) → Go p e below s n0 Q nc ns (T.setTop (mkF m (pc + 1) Ls st)))
    (h3 : decode c.code (pc + 1 + w) = .ok (.iload_n 1, 1)) (h4 : decode c.code (pc + 1 + w + 1) = .ok (.castore, 1))
    (k : ∀ T' h', Wk p l e R s m args below meth c n1 Z Ts Lt T' h' cells slots → Keep h h' [a] → AV Z h' a .char (List.replicate (i + 1) (.int f) ++ List.replicate r (.int 0)) → Go p e below s n0 Q nc ns (T'.setTop (mkF m (pc + 1 + w + 2) Ls [.ref a]))) :
    Go p e below s n0 Q nc ns (T.setTop (mkF m pc Ls [.ref a])) := by
  refine g_dup X hx (pc' := pc + 1) rfl h1 rfl ?_
  refine hpush _ ?_
  refine g_iloadN X hx (k := 1) (v := f) (pc' := pc + 1 + w + 1) rfl h3 hl ?_
  refine g_castore X hx hZ F (i := i) (ar_of (by omega)) (by simp) hna (y := f) hf (pc' := pc + 1 + w + 2) rfl h4 (fun T' h' X' W' N' => ?_)
  exact k T' h' X' (Keep.of_wr W') (by rw [rep_step] at N'; exact N')
def pcf (B i : Nat) : Nat := if i ≤ 6 then B + 4 * i else if i ≤ 128 then B + 24 + 5 * (i - 6) else B + 640
def fillAt (code : ByteArray) (B i : Nat) : Prop :=
  decode code (pcf B i) = .ok (.dup, 1) ∧ (if i < 6 then decode code (pcf B i + 1) = .ok (.iconst i, 1) ∧ decode code (pcf B i + 1 + 1) = .ok (.iload_n 1, 1) ∧ decode code (pcf B i + 1 + 1 + 1) = .ok (.castore, 1)
    else if i < 128 then decode code (pcf B i + 1) = .ok (.bipush i, 2) ∧ decode code (pcf B i + 1 + 2) = .ok (.iload_n 1, 1) ∧ decode code (pcf B i + 1 + 2 + 1) = .ok (.castore, 1)
    else decode code (pcf B i + 1) = .ok (.sipush i, 3) ∧ decode code (pcf B i + 1 + 3) = .ok (.iload_n 1, 1) ∧ decode code (pcf B i + 1 + 3 + 1) = .ok (.castore, 1))
theorem own_push : (∀ i : Fin 6, Int32.ofInt (i.val : Int) = Int32.ofNat i.val) ∧ (∀ i : Fin 128, (Int8.ofInt (i.val : Int)).toInt32 = Int32.ofNat i.val) ∧ (Int16.ofInt ((128 : Nat) : Int)).toInt32 = Int32.ofNat 128 := by decide +kernel
theorem fill_all {code2 : ByteArray} {n B : Nat} (hn : n ≤ 129) (hby : c.code = code2) (hdec : ∀ i, i < n → fillAt code2 B i) (hx : p.tables.exec = Jvm.exec) (hZ : Z.Warmed39 s.vm) {f : Int32} (hna : n1 ≤ a) (hf : nar .char f = f) (hl : Ls[1]? = some (.val (.int f))) {hh : Heap}
    (k : ∀ T' h', Wk p l e R s m args below meth c n1 Z Ts Lt T' h' cells slots → Keep hh h' [a] → AV Z h' a .char (List.replicate n (.int f)) → Go p e below s n0 Q nc ns (T'.setTop (mkF m (pcf B n) Ls [.ref a]))) :
    ∀ (r i : Nat) (T : State) (h : Heap), i + r = n → Wk p l e R s m args below meth c n1 Z Ts Lt T h cells slots → Keep hh h [a] → AV Z h a .char (List.replicate i (.int f) ++ List.replicate r (.int 0)) → Go p e below s n0 Q nc ns (T.setTop (mkF m (pcf B i) Ls [.ref a])) := by
  intro r
  induction r with
  | zero => intro i T h hi X K F; cases hi; exact k T h X K (by simpa using F)
  | succ r ih =>
    intro i T h hi X K F
    have hd := hdec i (by omega)
    rw [← hby] at hd
    obtain ⟨d1, d2⟩ := hd
    by_cases c1 : i < 6
    · rw [if_pos c1] at d2
      refine fill_step X hx hZ F hna hf (by omega) hl (w := 1) d1 (fun st g => g_iconst X hx (pc' := pcf B i + 1 + 1) rfl d2.1 (own_push.1 ⟨i, c1⟩) g) d2.2.1 d2.2.2 (fun T' h' X' K' F' => ?_)
      have e : pcf B i + 1 + 1 + 2 = pcf B (i + 1) := by unfold pcf; rw [if_pos (by omega), if_pos (by omega)]; omega
      rw [e]; exact ih (i + 1) T' h' (by omega) X' (K.trans K' fun x q => Or.inl q) F'
    · rw [if_neg c1] at d2
      by_cases c2 : i < 128
      · rw [if_pos c2] at d2
        refine fill_step X hx hZ F hna hf (by omega) hl (w := 2) d1 (fun st g => g_bipush X hx (pc' := pcf B i + 1 + 2) rfl d2.1 (own_push.2.1 ⟨i, c2⟩) g) d2.2.1 d2.2.2 (fun T' h' X' K' F' => ?_)
        have e : pcf B i + 1 + 2 + 2 = pcf B (i + 1) := by
          unfold pcf
          by_cases c3 : i = 6
          · subst c3; rw [if_pos (by omega), if_neg (by omega), if_pos (by omega)]
          · rw [if_neg (by omega), if_pos (by omega), if_neg (by omega), if_pos (by omega)]; omega
        rw [e]; exact ih (i + 1) T' h' (by omega) X' (K.trans K' fun x q => Or.inl q) F'
      · rw [if_neg c2] at d2
        have e0 : i = 128 := by omega
        subst e0
        refine fill_step X hx hZ F hna hf (by omega) hl (w := 3) d1 (fun st g => g_sipush X hx (pc' := pcf B 128 + 1 + 3) rfl d2.1 own_push.2.2 g) d2.2.1 d2.2.2 (fun T' h' X' K' F' => ?_)
        have e : pcf B 128 + 1 + 3 + 2 = pcf B (128 + 1) := by unfold pcf; rw [if_neg (by omega), if_pos (by omega), if_neg (by omega), if_neg (by omega)]
        rw [e]; exact ih (128 + 1) T' h' (by omega) X' (K.trans K' fun x q => Or.inl q) F'
end OwnFill
theorem own_wS {Z : State} {a0 : Array Value} (hw : ∀ d ∈ tables_1, d.before a0 Z = true) : ∀ d ∈ Bundle.stringAtoms, d.before a0 Z = true := by
  intro d hd
  simp only [Bundle.stringAtoms, Bundle.sN, List.mem_cons, List.not_mem_nil, or_false] at hd
  rcases hd with rfl | rfl | rfl | rfl | rfl | rfl | rfl
  · exact (wat hw 11 rfl)
  · exact (wat hw 10 rfl)
  · exact (wat hw 27 rfl)
  · exact (wat hw 37 rfl)
  · exact (wat hw 35 rfl)
  · exact (wat hw 53 rfl)
  · exact (wat hw 54 rfl)
theorem own_neA {Z : State} {a0 : Array Value} {h : Heap} {a b : Addr} {C : String} {k : Nat} {ty : FieldType} {vs : List Value} (E : Exa Z h a C) (wi : (Jvm.Cond.instantiable C k).before a0 Z = true) (A : AV Z h b ty vs) : a ≠ b := by
  obtain ⟨c, A, -⟩ := A; exact ne_arr E wi A
theorem own_nm1 {a c : String} {Ts : List String} (h1 : c ≠ a) (h : c ∉ Ts) : c ∉ a :: Ts := fun q => (List.mem_cons.mp q).elim h1 h
/-- the start's cells stand, and all that is written lies above them -/
def OldP (Z : State) (n0 : Nat) (h : Heap) : Prop := Z.heap.size ≤ n0 ∧ Ext Z.heap h
theorem OldP.start (s : State) : OldP s s.heap.size s.heap := ⟨Nat.le_refl _, Nat.le_refl _, fun _ _ q => q⟩
theorem OldP.up {Z : State} {n0 n1 : Nat} {h : Heap} (X : OldP Z n0 h) (q : n0 ≤ n1) : OldP Z n1 h := ⟨Nat.le_trans X.1 q, X.2⟩
theorem OldP.ext {Z : State} {n0 : Nat} {h h' : Heap} (X : OldP Z n0 h) (E : Ext h h') : OldP Z n0 h' := ⟨X.1, Nat.le_trans X.2.1 E.1, fun x c q => E.2 x c (X.2.2 x c q)⟩
theorem OldP.keep {Z : State} {n0 : Nat} {h h' : Heap} {ws : List Addr} (X : OldP Z n0 h) (K : Keep h h' ws) (q : ∀ x ∈ ws, n0 ≤ x) : OldP Z n0 h' := ⟨X.1, Nat.le_trans X.2.1 K.1, fun x c r => K.2.1 x c (X.2.2 x c r) fun z => absurd (Array.getElem?_eq_some_iff.mp r).1 (Nat.not_lt.mpr (Nat.le_trans X.1 (q x z)))⟩
theorem OldP.wr {Z : State} {n0 : Nat} {h h' : Heap} {a : Addr} {sl : Nat} {v : Value} (X : OldP Z n0 h) (W : Wr h h' a sl v) (q : n0 ≤ a) : OldP Z n0 h' := X.keep (Keep.of_wr W) (allS q all0)
theorem nar_chr {r : Int32} (h : 0 ≤ r.toInt ∧ r.toInt < 65536) : nar .char r = r := by
  have e := ar_i2c h.1 h.2
  have q := nar_i2c r
  rw [e] at q; exact q
def L1 (cs : List Int32) : List Value := cs.map fun c => .int c.toInt8.toInt32
def U16 (cs : List Int32) : List Value := cs.flatMap fun c => [.int (c >>> ((0 : Int32) &&& 31)).toInt8.toInt32, .int (c >>> ((8 : Int32) &&& 31)).toInt8.toInt32]
theorem L1_len (cs : List Int32) : (L1 cs).length = cs.length := by simp [L1]
theorem L1_get {cs : List Int32} {i : Nat} (h : i < cs.length) : (L1 cs).getD i .null = .int (cs.getD i 0).toInt8.toInt32 := by
  simp [L1, List.getD_eq_getElem?_getD, h]
theorem C_get {cs : List Int32} {i : Nat} (h : i < cs.length) : (cs.map Value.int).getD i .null = .int (cs.getD i 0) := by
  simp [List.getD_eq_getElem?_getD, h]
theorem U16_len (cs : List Int32) : (U16 cs).length = 2 * cs.length := by
  induction cs with
  | nil => rfl
  | cons c r ih => simp only [U16, List.flatMap_cons, List.length_append, List.length_cons, List.length_nil] at ih ⊢; omega
theorem U16_get {cs : List Int32} {i : Nat} (h : i < cs.length) : (U16 cs).getD (2 * i) .null = .int ((cs.getD i 0) >>> ((0 : Int32) &&& 31)).toInt8.toInt32 ∧ (U16 cs).getD (2 * i + 1) .null = .int ((cs.getD i 0) >>> ((8 : Int32) &&& 31)).toInt8.toInt32 := by
  induction cs generalizing i with
  | nil => exact absurd h (Nat.not_lt_zero i)
  | cons c r ih =>
    match i, h with
    | 0, _ => exact ⟨rfl, rfl⟩
    | i + 1, h => exact ih (i := i) (by simpa using h)
theorem L1_app (a b : List Int32) : L1 (a ++ b) = L1 a ++ L1 b := by simp [L1]
theorem L1_step {cs : List Int32} {i r : Nat} (h : i + (r + 1) = cs.length) : (L1 (cs.take i) ++ List.replicate (r + 1) (Value.int 0)).set i (.int (cs.getD i 0).toInt8.toInt32) = L1 (cs.take (i + 1)) ++ List.replicate r (Value.int 0) := by
  have hi : i < cs.length := by omega
  have e : (L1 (cs.take i)).length = i := by rw [L1_len, List.length_take]; omega
  rw [List.set_append_right _ _ (by omega), e, Nat.sub_self, List.replicate_succ, List.set_cons_zero, ← List.take_append_getElem hi, L1_app, List.append_assoc]
  simp [L1, List.getD_eq_getElem?_getD, hi]
theorem U16_app (a b : List Int32) : U16 (a ++ b) = U16 a ++ U16 b := by simp [U16]
theorem U16_step {cs : List Int32} {i r : Nat} (h : i + (r + 1) = cs.length) : ((U16 (cs.take i) ++ List.replicate (2 * (r + 1)) (Value.int 0)).set (2 * i) (.int ((cs.getD i 0) >>> ((0 : Int32) &&& 31)).toInt8.toInt32)).set (2 * i + 1) (.int ((cs.getD i 0) >>> ((8 : Int32) &&& 31)).toInt8.toInt32) = U16 (cs.take (i + 1)) ++ List.replicate (2 * r) (Value.int 0) := by
  have hi : i < cs.length := by omega
  have e : (U16 (cs.take i)).length = 2 * i := by rw [U16_len, List.length_take]; omega
  rw [List.set_append_right _ _ (by omega), e, Nat.sub_self, show 2 * (r + 1) = (2 * r + 1) + 1 by omega, List.replicate_succ, List.set_cons_zero, List.set_append_right _ _ (by omega), e, show 2 * i + 1 - 2 * i = 1 by omega, List.replicate_succ, List.set_cons_succ, List.set_cons_zero, ← List.take_append_getElem hi, U16_app]
  simp [U16, List.getD_eq_getElem?_getD, hi]
def StrC (Z : State) (h : Heap) (t : Addr) (cs : List Int32) : Prop := XSt Z h t ∧ ∃ b, SV Z h t (.ref b) ∧ ((SC Z h t (.int 0) ∧ AV Z h b .byte (L1 cs) ∧ ∀ c ∈ cs, 0 ≤ c.toInt ∧ c.toInt ≤ 255) ∨ (SC Z h t (.int 1) ∧ AV Z h b .byte (U16 cs) ∧ ∀ c ∈ cs, 0 ≤ c.toInt ∧ c.toInt < 65536))
theorem mem_getD {cs : List Int32} {i : Nat} (h : i < cs.length) : cs.getD i 0 ∈ cs := by
  rw [List.getD_eq_getElem?_getD, List.getElem?_eq_getElem h]; exact List.getElem_mem h
theorem rm1 (l : Launch) (Z : State) (a0 : Array Value) (hw : HW a0 Z) (ws : List Jvm.Cond) (n0 : Nat) (Ts : List String) (v0 : Int32) (h0 : Heap) (hn0 : n0 ≤ h0.size)  :
    Con l Z n0 Ts (Ts) (⟨"com/example/grantor/grantor/core/CodeChallengeIsWellFormedVerifierPinLaw", "draw", "(I)C"⟩ : MethodName) method_3_code 1 (some .char) ws ({ frames := 0, cells := 0, slots := 0, locals := 0 } : Room) #[(.int v0)] h0 (fun v h => ∃ r, v = some (.int r) ∧ (0 ≤ r.toInt ∧ r.toInt < 65536) ∧ h = h0) := by
  refine con_start (fr0 := fun m => mkF m 0 #[.val (.int v0)] []) ?_
  intro p e s m below meth c T0 hx hZ hby hml hown hnm hret hlk hsh XA
  have X0 := XA n0
  have hlow : n0 ≤ s.heap.size := by rw [hsh]; exact hn0
  replace hown : s.vm.findClass "com/example/grantor/grantor/core/CodeChallengeIsWellFormedVerifierPinLaw" = some m.cls := hown
  replace hml : c.maxLocals = 1 := hml
  refine g_iloadN X0 hx (pc' := 1) rfl (hD hby d1_0) rfl ?_
  refine g_bipush X0 hx (pc' := 3) (z := (8 : Int32)) rfl (hD hby d1_1) rfl ?_
  refine g_iushr X0 hx (pc' := 4) rfl (hD hby d1_3) ?_
  refine g_iconst X0 hx (pc' := 5) (z := (1 : Int32)) rfl (hD hby d1_4) rfl ?_
  refine g_iand X0 hx (pc' := 6) rfl (hD hby d1_5) ?_
  refine g_if X0 hx (pcY := 15) (pcN := 9) (hD hby d1_6) (by decide) (by decide) rfl (fun hc6 => ?_) (fun hc6 => ?_)
  · replace hc6 : ¬ (((v0.toUInt32 >>> ((8 : Int32) &&& 31).toUInt32).toInt32) &&& (1 : Int32)) = 0 := hc6
    refine g_iloadN X0 hx (pc' := 16) rfl (hD hby d1_15) rfl ?_
    refine g_bipush X0 hx (pc' := 18) (z := (16 : Int32)) rfl (hD hby d1_16) rfl ?_
    refine g_iushr X0 hx (pc' := 19) rfl (hD hby d1_18) ?_
    refine g_i2c X0 hx (pc' := 20) rfl (hD hby d1_19) ?_
    exact g_ret X0 hx hlk hret (by first | rfl | exact congrArg Value.int (nar_i2c _) | exact congrArg Value.int (nar_i2b _)) (Or.inl ⟨rfl, Or.inr (Or.inr (Or.inr (Or.inl rfl))), _, rfl⟩) (hD hby d1_20) (by decide) (by decide) (Nat.le_refl _) (⟨_, rfl, ar_c _, rfl⟩)
  · replace hc6 : (((v0.toUInt32 >>> ((8 : Int32) &&& 31).toUInt32).toInt32) &&& (1 : Int32)) = 0 := Classical.not_not.mp hc6
    refine g_iloadN X0 hx (pc' := 10) rfl (hD hby d1_9) rfl ?_
    refine g_bipush X0 hx (pc' := 12) (z := (127 : Int32)) rfl (hD hby d1_10) rfl ?_
    refine g_iand X0 hx (pc' := 13) rfl (hD hby d1_12) ?_
    refine g_i2c X0 hx (pc' := 14) rfl (hD hby d1_13) ?_
    exact g_ret X0 hx hlk hret (by first | rfl | exact congrArg Value.int (nar_i2c _) | exact congrArg Value.int (nar_i2b _)) (Or.inl ⟨rfl, Or.inr (Or.inr (Or.inr (Or.inl rfl))), _, rfl⟩) (hD hby d1_14) (by decide) (by decide) (Nat.le_refl _) (⟨_, rfl, ar_c _, rfl⟩)
theorem own_chunk {code : ByteArray} {B k w i : Nat} (f : ∀ j : Fin w, fillAt code B (k + j.val)) (h1 : k ≤ i) (h2 : i < k + w) : fillAt code B i := by
  have q := f ⟨i - k, by omega⟩
  have e : k + (i - k) = i := by omega
  rw [show k + (⟨i - k, by omega⟩ : Fin w).val = i from e] at q
  exact q
theorem fdec42_0 : ∀ j : Fin 8, fillAt method_4_code 10 (0 + j.val) := by unfold fillAt pcf; decide +kernel
theorem fdec42_1 : ∀ j : Fin 8, fillAt method_4_code 10 (8 + j.val) := by unfold fillAt pcf; decide +kernel
theorem fdec42_2 : ∀ j : Fin 8, fillAt method_4_code 10 (16 + j.val) := by unfold fillAt pcf; decide +kernel
theorem fdec42_3 : ∀ j : Fin 8, fillAt method_4_code 10 (24 + j.val) := by unfold fillAt pcf; decide +kernel
theorem fdec42_4 : ∀ j : Fin 8, fillAt method_4_code 10 (32 + j.val) := by unfold fillAt pcf; decide +kernel
theorem fdec42_5 : ∀ j : Fin 2, fillAt method_4_code 10 (40 + j.val) := by unfold fillAt pcf; decide +kernel
theorem fdec42 : ∀ i, i < 42 → fillAt method_4_code 10 i := fun i hi => by
  rcases (show i / 8 = 0 ∨ i / 8 = 1 ∨ i / 8 = 2 ∨ i / 8 = 3 ∨ i / 8 = 4 ∨ i / 8 = 5 by omega) with h | h | h | h | h | h
  · exact own_chunk (k := 0) (w := 8) fdec42_0 (by omega) (by omega)
  · exact own_chunk (k := 8) (w := 8) fdec42_1 (by omega) (by omega)
  · exact own_chunk (k := 16) (w := 8) fdec42_2 (by omega) (by omega)
  · exact own_chunk (k := 24) (w := 8) fdec42_3 (by omega) (by omega)
  · exact own_chunk (k := 32) (w := 8) fdec42_4 (by omega) (by omega)
  · exact own_chunk (k := 40) (w := 2) fdec42_5 (by omega) (by omega)
theorem rm2_42 (l : Launch) (Z : State) (a0 : Array Value) (hw : HW a0 Z) (ws : List Jvm.Cond) (n0 : Nat) (Ts : List String) (f' : Int32) (h0 : Heap) (hn0 : n0 ≤ h0.size) (hf : nar .char f' = f') :
    Con l Z n0 Ts (Ts) (⟨"com/example/grantor/grantor/core/CodeChallengeIsWellFormedVerifierPinLaw", "filled", "(IC)[C"⟩ : MethodName) method_4_code 2 (some (.array .char)) ws ({ frames := 0, cells := 1, slots := 42, locals := 0 } : Room) #[(.int 42), (.int f')] h0 (fun v h => ∃ a, v = some (.ref a) ∧ n0 ≤ a ∧ h0.size ≤ a ∧ Keep h0 h [] ∧ AV Z h a .char (List.replicate 42 (.int f'))) := by
  refine con_start (fr0 := fun m => mkF m 0 #[.val (.int 42), .val (.int f')] []) ?_
  intro p e s m below meth c T0 hx hZ hby hml hown hnm hret hlk hsh XA
  have X0 := XA n0
  have hlow : n0 ≤ s.heap.size := by rw [hsh]; exact hn0
  replace hown : s.vm.findClass "com/example/grantor/grantor/core/CodeChallengeIsWellFormedVerifierPinLaw" = some m.cls := hown
  replace hml : c.maxLocals = 2 := hml
  refine g_iloadN X0 hx (pc' := 1) rfl (hD hby d2_0) rfl ?_
  refine g_bipush X0 hx (pc' := 3) (z := (42 : Int32)) rfl (hD hby d2_1) rfl ?_
  refine g_icmpN X0 hx (pcN := 6) (hD hby d2_3) rfl (show ¬ (¬ (42 : Int32) = (42 : Int32)) from by decide) ?_
  refine g_bipush X0 hx (pc' := 8) (z := (42 : Int32)) rfl (hD hby d2_6) rfl ?_
  refine g_newA X0 hx hZ (aty := .char) (wat hw 7 rfl) (n := (42 : Int32)) (N := 42) rfl (cap := 42) (Nat.le_refl _) (by decide) (pc' := 10) rfl (hD hby d2_8) (by decide) (by decide) (fun T1 h1 a1 ha1 X1 E1 N1 => ?_)
  have sz1 : h0.size ≤ a1 := by rw [ha1]; exact (Keep.refl h0 []).1
  have f2 := (Keep.refl h0 []).ext E1
  have G_a1 : n0 ≤ a1 := by rw [ha1]; exact hn0
  have Zs1 : n0 ≤ h1.size := Nat.le_trans hn0 E1.1
  have V1 : AV Z h1 a1 .char (List.replicate 0 (.int f') ++ List.replicate 42 (.int 0)) := N1
  refine fill_all (hh := h1) (B := 10) (n := 42) (by decide) hby fdec42 hx hZ (f := f') G_a1 hf rfl (fun T3 h3 X3 KK3 V3 => ?_) 42 0 _ _ rfl X1 (Keep.refl _ _) V1
  have K3 := f2.trans KK3 (allS (Or.inr sz1) all0)
  show Go p e below s n0 _ _ _ (T3.setTop (mkF m 214 _ [(.ref a1)]))
  exact g_ret X3 hx hlk hret rfl (Or.inr (Or.inr (Or.inr (Or.inr ⟨rfl, rfl, rfl⟩)))) (hD hby d2_214) (by decide) (by decide) (Nat.le_refl _) (⟨a1, rfl, G_a1, sz1, K3, V3⟩)
theorem fdec43_0 : ∀ j : Fin 8, fillAt method_4_code 225 (0 + j.val) := by unfold fillAt pcf; decide +kernel
theorem fdec43_1 : ∀ j : Fin 8, fillAt method_4_code 225 (8 + j.val) := by unfold fillAt pcf; decide +kernel
theorem fdec43_2 : ∀ j : Fin 8, fillAt method_4_code 225 (16 + j.val) := by unfold fillAt pcf; decide +kernel
theorem fdec43_3 : ∀ j : Fin 8, fillAt method_4_code 225 (24 + j.val) := by unfold fillAt pcf; decide +kernel
theorem fdec43_4 : ∀ j : Fin 8, fillAt method_4_code 225 (32 + j.val) := by unfold fillAt pcf; decide +kernel
theorem fdec43_5 : ∀ j : Fin 3, fillAt method_4_code 225 (40 + j.val) := by unfold fillAt pcf; decide +kernel
theorem fdec43 : ∀ i, i < 43 → fillAt method_4_code 225 i := fun i hi => by
  rcases (show i / 8 = 0 ∨ i / 8 = 1 ∨ i / 8 = 2 ∨ i / 8 = 3 ∨ i / 8 = 4 ∨ i / 8 = 5 by omega) with h | h | h | h | h | h
  · exact own_chunk (k := 0) (w := 8) fdec43_0 (by omega) (by omega)
  · exact own_chunk (k := 8) (w := 8) fdec43_1 (by omega) (by omega)
  · exact own_chunk (k := 16) (w := 8) fdec43_2 (by omega) (by omega)
  · exact own_chunk (k := 24) (w := 8) fdec43_3 (by omega) (by omega)
  · exact own_chunk (k := 32) (w := 8) fdec43_4 (by omega) (by omega)
  · exact own_chunk (k := 40) (w := 3) fdec43_5 (by omega) (by omega)
theorem rm2_43 (l : Launch) (Z : State) (a0 : Array Value) (hw : HW a0 Z) (ws : List Jvm.Cond) (n0 : Nat) (Ts : List String) (f' : Int32) (h0 : Heap) (hn0 : n0 ≤ h0.size) (hf : nar .char f' = f') :
    Con l Z n0 Ts (Ts) (⟨"com/example/grantor/grantor/core/CodeChallengeIsWellFormedVerifierPinLaw", "filled", "(IC)[C"⟩ : MethodName) method_4_code 2 (some (.array .char)) ws ({ frames := 0, cells := 1, slots := 43, locals := 0 } : Room) #[(.int 43), (.int f')] h0 (fun v h => ∃ a, v = some (.ref a) ∧ n0 ≤ a ∧ h0.size ≤ a ∧ Keep h0 h [] ∧ AV Z h a .char (List.replicate 43 (.int f'))) := by
  refine con_start (fr0 := fun m => mkF m 0 #[.val (.int 43), .val (.int f')] []) ?_
  intro p e s m below meth c T0 hx hZ hby hml hown hnm hret hlk hsh XA
  have X0 := XA n0
  have hlow : n0 ≤ s.heap.size := by rw [hsh]; exact hn0
  replace hown : s.vm.findClass "com/example/grantor/grantor/core/CodeChallengeIsWellFormedVerifierPinLaw" = some m.cls := hown
  replace hml : c.maxLocals = 2 := hml
  refine g_iloadN X0 hx (pc' := 1) rfl (hD hby d2_0) rfl ?_
  refine g_bipush X0 hx (pc' := 3) (z := (42 : Int32)) rfl (hD hby d2_1) rfl ?_
  refine g_icmpY X0 hx (pcY := 215) (hD hby d2_3) (by decide) (by decide) (show ¬ (43 : Int32) = (42 : Int32) from by decide) ?_
  refine g_iloadN X0 hx (pc' := 216) rfl (hD hby d2_215) rfl ?_
  refine g_bipush X0 hx (pc' := 218) (z := (43 : Int32)) rfl (hD hby d2_216) rfl ?_
  refine g_icmpN X0 hx (pcN := 221) (hD hby d2_218) rfl (show ¬ (¬ (43 : Int32) = (43 : Int32)) from by decide) ?_
  refine g_bipush X0 hx (pc' := 223) (z := (43 : Int32)) rfl (hD hby d2_221) rfl ?_
  refine g_newA X0 hx hZ (aty := .char) (wat hw 7 rfl) (n := (43 : Int32)) (N := 43) rfl (cap := 43) (Nat.le_refl _) (by decide) (pc' := 225) rfl (hD hby d2_223) (by decide) (by decide) (fun T4 h4 a4 ha4 X4 E4 N4 => ?_)
  have sz4 : h0.size ≤ a4 := by rw [ha4]; exact (Keep.refl h0 []).1
  have f5 := (Keep.refl h0 []).ext E4
  have G_a4 : n0 ≤ a4 := by rw [ha4]; exact hn0
  have Zs4 : n0 ≤ h4.size := Nat.le_trans hn0 E4.1
  have V4 : AV Z h4 a4 .char (List.replicate 0 (.int f') ++ List.replicate 43 (.int 0)) := N4
  refine fill_all (hh := h4) (B := 225) (n := 43) (by decide) hby fdec43 hx hZ (f := f') G_a4 hf rfl (fun T6 h6 X6 KK6 V6 => ?_) 43 0 _ _ rfl X4 (Keep.refl _ _) V4
  have K6 := f5.trans KK6 (allS (Or.inr sz4) all0)
  show Go p e below s n0 _ _ _ (T6.setTop (mkF m 434 _ [(.ref a4)]))
  exact g_ret X6 hx hlk hret rfl (Or.inr (Or.inr (Or.inr (Or.inr ⟨rfl, rfl, rfl⟩)))) (hD hby d2_434) (by decide) (by decide) (Nat.le_refl _) (⟨a4, rfl, G_a4, sz4, K6, V6⟩)
theorem fdec128_0 : ∀ j : Fin 8, fillAt method_4_code 447 (0 + j.val) := by unfold fillAt pcf; decide +kernel
theorem fdec128_1 : ∀ j : Fin 8, fillAt method_4_code 447 (8 + j.val) := by unfold fillAt pcf; decide +kernel
theorem fdec128_2 : ∀ j : Fin 8, fillAt method_4_code 447 (16 + j.val) := by unfold fillAt pcf; decide +kernel
theorem fdec128_3 : ∀ j : Fin 8, fillAt method_4_code 447 (24 + j.val) := by unfold fillAt pcf; decide +kernel
theorem fdec128_4 : ∀ j : Fin 8, fillAt method_4_code 447 (32 + j.val) := by unfold fillAt pcf; decide +kernel
theorem fdec128_5 : ∀ j : Fin 8, fillAt method_4_code 447 (40 + j.val) := by unfold fillAt pcf; decide +kernel
theorem fdec128_6 : ∀ j : Fin 8, fillAt method_4_code 447 (48 + j.val) := by unfold fillAt pcf; decide +kernel
theorem fdec128_7 : ∀ j : Fin 8, fillAt method_4_code 447 (56 + j.val) := by unfold fillAt pcf; decide +kernel
theorem fdec128_8 : ∀ j : Fin 8, fillAt method_4_code 447 (64 + j.val) := by unfold fillAt pcf; decide +kernel
theorem fdec128_9 : ∀ j : Fin 8, fillAt method_4_code 447 (72 + j.val) := by unfold fillAt pcf; decide +kernel
theorem fdec128_10 : ∀ j : Fin 8, fillAt method_4_code 447 (80 + j.val) := by unfold fillAt pcf; decide +kernel
theorem fdec128_11 : ∀ j : Fin 8, fillAt method_4_code 447 (88 + j.val) := by unfold fillAt pcf; decide +kernel
theorem fdec128_12 : ∀ j : Fin 8, fillAt method_4_code 447 (96 + j.val) := by unfold fillAt pcf; decide +kernel
theorem fdec128_13 : ∀ j : Fin 8, fillAt method_4_code 447 (104 + j.val) := by unfold fillAt pcf; decide +kernel
theorem fdec128_14 : ∀ j : Fin 8, fillAt method_4_code 447 (112 + j.val) := by unfold fillAt pcf; decide +kernel
theorem fdec128_15 : ∀ j : Fin 8, fillAt method_4_code 447 (120 + j.val) := by unfold fillAt pcf; decide +kernel
theorem fdec128 : ∀ i, i < 128 → fillAt method_4_code 447 i := fun i hi => by
  rcases (show i / 8 = 0 ∨ i / 8 = 1 ∨ i / 8 = 2 ∨ i / 8 = 3 ∨ i / 8 = 4 ∨ i / 8 = 5 ∨ i / 8 = 6 ∨ i / 8 = 7 ∨ i / 8 = 8 ∨ i / 8 = 9 ∨ i / 8 = 10 ∨ i / 8 = 11 ∨ i / 8 = 12 ∨ i / 8 = 13 ∨ i / 8 = 14 ∨ i / 8 = 15 by omega) with h | h | h | h | h | h | h | h | h | h | h | h | h | h | h | h
  · exact own_chunk (k := 0) (w := 8) fdec128_0 (by omega) (by omega)
  · exact own_chunk (k := 8) (w := 8) fdec128_1 (by omega) (by omega)
  · exact own_chunk (k := 16) (w := 8) fdec128_2 (by omega) (by omega)
  · exact own_chunk (k := 24) (w := 8) fdec128_3 (by omega) (by omega)
  · exact own_chunk (k := 32) (w := 8) fdec128_4 (by omega) (by omega)
  · exact own_chunk (k := 40) (w := 8) fdec128_5 (by omega) (by omega)
  · exact own_chunk (k := 48) (w := 8) fdec128_6 (by omega) (by omega)
  · exact own_chunk (k := 56) (w := 8) fdec128_7 (by omega) (by omega)
  · exact own_chunk (k := 64) (w := 8) fdec128_8 (by omega) (by omega)
  · exact own_chunk (k := 72) (w := 8) fdec128_9 (by omega) (by omega)
  · exact own_chunk (k := 80) (w := 8) fdec128_10 (by omega) (by omega)
  · exact own_chunk (k := 88) (w := 8) fdec128_11 (by omega) (by omega)
  · exact own_chunk (k := 96) (w := 8) fdec128_12 (by omega) (by omega)
  · exact own_chunk (k := 104) (w := 8) fdec128_13 (by omega) (by omega)
  · exact own_chunk (k := 112) (w := 8) fdec128_14 (by omega) (by omega)
  · exact own_chunk (k := 120) (w := 8) fdec128_15 (by omega) (by omega)
theorem rm2_128 (l : Launch) (Z : State) (a0 : Array Value) (hw : HW a0 Z) (ws : List Jvm.Cond) (n0 : Nat) (Ts : List String) (f' : Int32) (h0 : Heap) (hn0 : n0 ≤ h0.size) (hf : nar .char f' = f') :
    Con l Z n0 Ts (Ts) (⟨"com/example/grantor/grantor/core/CodeChallengeIsWellFormedVerifierPinLaw", "filled", "(IC)[C"⟩ : MethodName) method_4_code 2 (some (.array .char)) ws ({ frames := 0, cells := 1, slots := 128, locals := 0 } : Room) #[(.int 128), (.int f')] h0 (fun v h => ∃ a, v = some (.ref a) ∧ n0 ≤ a ∧ h0.size ≤ a ∧ Keep h0 h [] ∧ AV Z h a .char (List.replicate 128 (.int f'))) := by
  refine con_start (fr0 := fun m => mkF m 0 #[.val (.int 128), .val (.int f')] []) ?_
  intro p e s m below meth c T0 hx hZ hby hml hown hnm hret hlk hsh XA
  have X0 := XA n0
  have hlow : n0 ≤ s.heap.size := by rw [hsh]; exact hn0
  replace hown : s.vm.findClass "com/example/grantor/grantor/core/CodeChallengeIsWellFormedVerifierPinLaw" = some m.cls := hown
  replace hml : c.maxLocals = 2 := hml
  refine g_iloadN X0 hx (pc' := 1) rfl (hD hby d2_0) rfl ?_
  refine g_bipush X0 hx (pc' := 3) (z := (42 : Int32)) rfl (hD hby d2_1) rfl ?_
  refine g_icmpY X0 hx (pcY := 215) (hD hby d2_3) (by decide) (by decide) (show ¬ (128 : Int32) = (42 : Int32) from by decide) ?_
  refine g_iloadN X0 hx (pc' := 216) rfl (hD hby d2_215) rfl ?_
  refine g_bipush X0 hx (pc' := 218) (z := (43 : Int32)) rfl (hD hby d2_216) rfl ?_
  refine g_icmpY X0 hx (pcY := 435) (hD hby d2_218) (by decide) (by decide) (show ¬ (128 : Int32) = (43 : Int32) from by decide) ?_
  refine g_iloadN X0 hx (pc' := 436) rfl (hD hby d2_435) rfl ?_
  refine g_sipush X0 hx (pc' := 439) (z := (128 : Int32)) rfl (hD hby d2_436) rfl ?_
  refine g_icmpN X0 hx (pcN := 442) (hD hby d2_439) rfl (show ¬ (¬ (128 : Int32) = (128 : Int32)) from by decide) ?_
  refine g_sipush X0 hx (pc' := 445) (z := (128 : Int32)) rfl (hD hby d2_442) rfl ?_
  refine g_newA X0 hx hZ (aty := .char) (wat hw 7 rfl) (n := (128 : Int32)) (N := 128) rfl (cap := 128) (Nat.le_refl _) (by decide) (pc' := 447) rfl (hD hby d2_445) (by decide) (by decide) (fun T7 h7 a7 ha7 X7 E7 N7 => ?_)
  have sz7 : h0.size ≤ a7 := by rw [ha7]; exact (Keep.refl h0 []).1
  have f8 := (Keep.refl h0 []).ext E7
  have G_a7 : n0 ≤ a7 := by rw [ha7]; exact hn0
  have Zs7 : n0 ≤ h7.size := Nat.le_trans hn0 E7.1
  have V7 : AV Z h7 a7 .char (List.replicate 0 (.int f') ++ List.replicate 128 (.int 0)) := N7
  refine fill_all (hh := h7) (B := 447) (n := 128) (by decide) hby fdec128 hx hZ (f := f') G_a7 hf rfl (fun T9 h9 X9 KK9 V9 => ?_) 128 0 _ _ rfl X7 (Keep.refl _ _) V7
  have K9 := f8.trans KK9 (allS (Or.inr sz7) all0)
  show Go p e below s n0 _ _ _ (T9.setTop (mkF m 1081 _ [(.ref a7)]))
  exact g_ret X9 hx hlk hret rfl (Or.inr (Or.inr (Or.inr (Or.inr ⟨rfl, rfl, rfl⟩)))) (hD hby d2_1081) (by decide) (by decide) (Nat.le_refl _) (⟨a7, rfl, G_a7, sz7, K9, V9⟩)
theorem fdec129_0 : ∀ j : Fin 8, fillAt method_4_code 1087 (0 + j.val) := by unfold fillAt pcf; decide +kernel
theorem fdec129_1 : ∀ j : Fin 8, fillAt method_4_code 1087 (8 + j.val) := by unfold fillAt pcf; decide +kernel
theorem fdec129_2 : ∀ j : Fin 8, fillAt method_4_code 1087 (16 + j.val) := by unfold fillAt pcf; decide +kernel
theorem fdec129_3 : ∀ j : Fin 8, fillAt method_4_code 1087 (24 + j.val) := by unfold fillAt pcf; decide +kernel
theorem fdec129_4 : ∀ j : Fin 8, fillAt method_4_code 1087 (32 + j.val) := by unfold fillAt pcf; decide +kernel
theorem fdec129_5 : ∀ j : Fin 8, fillAt method_4_code 1087 (40 + j.val) := by unfold fillAt pcf; decide +kernel
theorem fdec129_6 : ∀ j : Fin 8, fillAt method_4_code 1087 (48 + j.val) := by unfold fillAt pcf; decide +kernel
theorem fdec129_7 : ∀ j : Fin 8, fillAt method_4_code 1087 (56 + j.val) := by unfold fillAt pcf; decide +kernel
theorem fdec129_8 : ∀ j : Fin 8, fillAt method_4_code 1087 (64 + j.val) := by unfold fillAt pcf; decide +kernel
theorem fdec129_9 : ∀ j : Fin 8, fillAt method_4_code 1087 (72 + j.val) := by unfold fillAt pcf; decide +kernel
theorem fdec129_10 : ∀ j : Fin 8, fillAt method_4_code 1087 (80 + j.val) := by unfold fillAt pcf; decide +kernel
theorem fdec129_11 : ∀ j : Fin 8, fillAt method_4_code 1087 (88 + j.val) := by unfold fillAt pcf; decide +kernel
theorem fdec129_12 : ∀ j : Fin 8, fillAt method_4_code 1087 (96 + j.val) := by unfold fillAt pcf; decide +kernel
theorem fdec129_13 : ∀ j : Fin 8, fillAt method_4_code 1087 (104 + j.val) := by unfold fillAt pcf; decide +kernel
theorem fdec129_14 : ∀ j : Fin 8, fillAt method_4_code 1087 (112 + j.val) := by unfold fillAt pcf; decide +kernel
theorem fdec129_15 : ∀ j : Fin 8, fillAt method_4_code 1087 (120 + j.val) := by unfold fillAt pcf; decide +kernel
theorem fdec129_16 : ∀ j : Fin 1, fillAt method_4_code 1087 (128 + j.val) := by unfold fillAt pcf; decide +kernel
theorem fdec129 : ∀ i, i < 129 → fillAt method_4_code 1087 i := fun i hi => by
  rcases (show i / 8 = 0 ∨ i / 8 = 1 ∨ i / 8 = 2 ∨ i / 8 = 3 ∨ i / 8 = 4 ∨ i / 8 = 5 ∨ i / 8 = 6 ∨ i / 8 = 7 ∨ i / 8 = 8 ∨ i / 8 = 9 ∨ i / 8 = 10 ∨ i / 8 = 11 ∨ i / 8 = 12 ∨ i / 8 = 13 ∨ i / 8 = 14 ∨ i / 8 = 15 ∨ i / 8 = 16 by omega) with h | h | h | h | h | h | h | h | h | h | h | h | h | h | h | h | h
  · exact own_chunk (k := 0) (w := 8) fdec129_0 (by omega) (by omega)
  · exact own_chunk (k := 8) (w := 8) fdec129_1 (by omega) (by omega)
  · exact own_chunk (k := 16) (w := 8) fdec129_2 (by omega) (by omega)
  · exact own_chunk (k := 24) (w := 8) fdec129_3 (by omega) (by omega)
  · exact own_chunk (k := 32) (w := 8) fdec129_4 (by omega) (by omega)
  · exact own_chunk (k := 40) (w := 8) fdec129_5 (by omega) (by omega)
  · exact own_chunk (k := 48) (w := 8) fdec129_6 (by omega) (by omega)
  · exact own_chunk (k := 56) (w := 8) fdec129_7 (by omega) (by omega)
  · exact own_chunk (k := 64) (w := 8) fdec129_8 (by omega) (by omega)
  · exact own_chunk (k := 72) (w := 8) fdec129_9 (by omega) (by omega)
  · exact own_chunk (k := 80) (w := 8) fdec129_10 (by omega) (by omega)
  · exact own_chunk (k := 88) (w := 8) fdec129_11 (by omega) (by omega)
  · exact own_chunk (k := 96) (w := 8) fdec129_12 (by omega) (by omega)
  · exact own_chunk (k := 104) (w := 8) fdec129_13 (by omega) (by omega)
  · exact own_chunk (k := 112) (w := 8) fdec129_14 (by omega) (by omega)
  · exact own_chunk (k := 120) (w := 8) fdec129_15 (by omega) (by omega)
  · exact own_chunk (k := 128) (w := 1) fdec129_16 (by omega) (by omega)
theorem rm2_129 (l : Launch) (Z : State) (a0 : Array Value) (hw : HW a0 Z) (ws : List Jvm.Cond) (n0 : Nat) (Ts : List String) (f' : Int32) (h0 : Heap) (hn0 : n0 ≤ h0.size) (hf : nar .char f' = f') :
    Con l Z n0 Ts (Ts) (⟨"com/example/grantor/grantor/core/CodeChallengeIsWellFormedVerifierPinLaw", "filled", "(IC)[C"⟩ : MethodName) method_4_code 2 (some (.array .char)) ws ({ frames := 0, cells := 1, slots := 129, locals := 0 } : Room) #[(.int 129), (.int f')] h0 (fun v h => ∃ a, v = some (.ref a) ∧ n0 ≤ a ∧ h0.size ≤ a ∧ Keep h0 h [] ∧ AV Z h a .char (List.replicate 129 (.int f'))) := by
  refine con_start (fr0 := fun m => mkF m 0 #[.val (.int 129), .val (.int f')] []) ?_
  intro p e s m below meth c T0 hx hZ hby hml hown hnm hret hlk hsh XA
  have X0 := XA n0
  have hlow : n0 ≤ s.heap.size := by rw [hsh]; exact hn0
  replace hown : s.vm.findClass "com/example/grantor/grantor/core/CodeChallengeIsWellFormedVerifierPinLaw" = some m.cls := hown
  replace hml : c.maxLocals = 2 := hml
  refine g_iloadN X0 hx (pc' := 1) rfl (hD hby d2_0) rfl ?_
  refine g_bipush X0 hx (pc' := 3) (z := (42 : Int32)) rfl (hD hby d2_1) rfl ?_
  refine g_icmpY X0 hx (pcY := 215) (hD hby d2_3) (by decide) (by decide) (show ¬ (129 : Int32) = (42 : Int32) from by decide) ?_
  refine g_iloadN X0 hx (pc' := 216) rfl (hD hby d2_215) rfl ?_
  refine g_bipush X0 hx (pc' := 218) (z := (43 : Int32)) rfl (hD hby d2_216) rfl ?_
  refine g_icmpY X0 hx (pcY := 435) (hD hby d2_218) (by decide) (by decide) (show ¬ (129 : Int32) = (43 : Int32) from by decide) ?_
  refine g_iloadN X0 hx (pc' := 436) rfl (hD hby d2_435) rfl ?_
  refine g_sipush X0 hx (pc' := 439) (z := (128 : Int32)) rfl (hD hby d2_436) rfl ?_
  refine g_icmpY X0 hx (pcY := 1082) (hD hby d2_439) (by decide) (by decide) (show ¬ (129 : Int32) = (128 : Int32) from by decide) ?_
  refine g_sipush X0 hx (pc' := 1085) (z := (129 : Int32)) rfl (hD hby d2_1082) rfl ?_
  refine g_newA X0 hx hZ (aty := .char) (wat hw 7 rfl) (n := (129 : Int32)) (N := 129) rfl (cap := 129) (Nat.le_refl _) (by decide) (pc' := 1087) rfl (hD hby d2_1085) (by decide) (by decide) (fun T10 h10 a10 ha10 X10 E10 N10 => ?_)
  have sz10 : h0.size ≤ a10 := by rw [ha10]; exact (Keep.refl h0 []).1
  have f11 := (Keep.refl h0 []).ext E10
  have G_a10 : n0 ≤ a10 := by rw [ha10]; exact hn0
  have Zs10 : n0 ≤ h10.size := Nat.le_trans hn0 E10.1
  have V10 : AV Z h10 a10 .char (List.replicate 0 (.int f') ++ List.replicate 129 (.int 0)) := N10
  refine fill_all (hh := h10) (B := 1087) (n := 129) (by decide) hby fdec129 hx hZ (f := f') G_a10 hf rfl (fun T12 h12 X12 KK12 V12 => ?_) 129 0 _ _ rfl X10 (Keep.refl _ _) V10
  have K12 := f11.trans KK12 (allS (Or.inr sz10) all0)
  show Go p e below s n0 _ _ _ (T12.setTop (mkF m 1727 _ [(.ref a10)]))
  exact g_ret X12 hx hlk hret rfl (Or.inr (Or.inr (Or.inr (Or.inr ⟨rfl, rfl, rfl⟩)))) (hD hby d2_1727) (by decide) (by decide) (Nat.le_refl _) (⟨a10, rfl, G_a10, sz10, K12, V12⟩)
theorem rm11_0 (l : Launch) (Z : State) (a0 : Array Value) (hw : HW a0 Z) (ws : List Jvm.Cond) (n0 : Nat) (Ts : List String) (t : Addr) (cz : Int32) (h0 : Heap) (hn0 : n0 ≤ h0.size) (O2 : St0 Z (.int cz)) (hcz : ¬ cz = 0) (OLD : OldP Z n0 h0) (Fc : SC Z h0 t (.int 0)) :
    Con l Z n0 Ts (Ts) (⟨"java/lang/String", "coder", "()B"⟩ : MethodName) jdk_42_method_152_code 1 (some .byte) ws ({ frames := 0, cells := 0, slots := 0, locals := 0 } : Room) #[(.ref t)] h0 (fun v h => v = some (.int 0) ∧ h = h0) := by
  refine con_start (fr0 := fun m => mkF m 0 #[.val (.ref t)] []) ?_
  intro p e s m below meth c T0 hx hZ hby hml hown hnm hret hlk hsh XA
  have X0 := XA n0
  have hlow : n0 ≤ s.heap.size := by rw [hsh]; exact hn0
  replace hown : s.vm.findClass "java/lang/String" = some m.cls := hown
  replace hml : c.maxLocals = 1 := hml
  refine g_getS X0 hx hZ hown (wat hw 22 rfl) Via.refl (Sta.ext OLD.2 O2) (pc' := 3) rfl (hD hby d11_0) (fun T13 X13 => ?_)
  refine g_ifN X13 hx (pcN := 6) (hD hby d11_3) rfl (show ¬ (cz = 0) from hcz) ?_
  refine g_aloadN X13 hx (pc' := 7) rfl (hD hby d11_6) rfl rfl ?_
  refine g_getF X13 hx hZ hown (wat hw 34 rfl) Via.refl Fc (pc' := 10) rfl (hD hby d11_7) (fun T14 X14 => ?_)
  refine g_goto X14 hx (pc' := 14) (hD hby d11_10) (by decide) (by decide) ?_
  exact g_ret X14 hx hlk hret (by first | rfl | exact congrArg Value.int (nar_i2c _) | exact congrArg Value.int (nar_i2b _)) (Or.inl ⟨rfl, Or.inr (Or.inr (Or.inl rfl)), _, rfl⟩) (hD hby d11_14) (by decide) (by decide) (Nat.le_refl _) (⟨rfl, rfl⟩)
theorem rm11_1 (l : Launch) (Z : State) (a0 : Array Value) (hw : HW a0 Z) (ws : List Jvm.Cond) (n0 : Nat) (Ts : List String) (t : Addr) (cz : Int32) (h0 : Heap) (hn0 : n0 ≤ h0.size) (O2 : St0 Z (.int cz)) (hcz : ¬ cz = 0) (OLD : OldP Z n0 h0) (Fc : SC Z h0 t (.int 1)) :
    Con l Z n0 Ts (Ts) (⟨"java/lang/String", "coder", "()B"⟩ : MethodName) jdk_42_method_152_code 1 (some .byte) ws ({ frames := 0, cells := 0, slots := 0, locals := 0 } : Room) #[(.ref t)] h0 (fun v h => v = some (.int 1) ∧ h = h0) := by
  refine con_start (fr0 := fun m => mkF m 0 #[.val (.ref t)] []) ?_
  intro p e s m below meth c T0 hx hZ hby hml hown hnm hret hlk hsh XA
  have X0 := XA n0
  have hlow : n0 ≤ s.heap.size := by rw [hsh]; exact hn0
  replace hown : s.vm.findClass "java/lang/String" = some m.cls := hown
  replace hml : c.maxLocals = 1 := hml
  refine g_getS X0 hx hZ hown (wat hw 22 rfl) Via.refl (Sta.ext OLD.2 O2) (pc' := 3) rfl (hD hby d11_0) (fun T15 X15 => ?_)
  refine g_ifN X15 hx (pcN := 6) (hD hby d11_3) rfl (show ¬ (cz = 0) from hcz) ?_
  refine g_aloadN X15 hx (pc' := 7) rfl (hD hby d11_6) rfl rfl ?_
  refine g_getF X15 hx hZ hown (wat hw 34 rfl) Via.refl Fc (pc' := 10) rfl (hD hby d11_7) (fun T16 X16 => ?_)
  refine g_goto X16 hx (pc' := 14) (hD hby d11_10) (by decide) (by decide) ?_
  exact g_ret X16 hx hlk hret (by first | rfl | exact congrArg Value.int (nar_i2c _) | exact congrArg Value.int (nar_i2b _)) (Or.inl ⟨rfl, Or.inr (Or.inr (Or.inl rfl)), _, rfl⟩) (hD hby d11_14) (by decide) (by decide) (Nat.le_refl _) (⟨rfl, rfl⟩)
theorem rm19_0 (l : Launch) (Z : State) (a0 : Array Value) (hw : HW a0 Z) (ws : List Jvm.Cond) (n0 : Nat) (Ts : List String) (t : Addr) (cz : Int32) (h0 : Heap) (hn0 : n0 ≤ h0.size) (O2 : St0 Z (.int cz)) (hcz : ¬ cz = 0) (OLD : OldP Z n0 h0) (Fc : SC Z h0 t (.int 0)) :
    Con l Z n0 Ts (Ts) (⟨"java/lang/String", "isLatin1", "()Z"⟩ : MethodName) jdk_42_method_154_code 1 (some .boolean) ws ({ frames := 0, cells := 0, slots := 0, locals := 0 } : Room) #[(.ref t)] h0 (fun v h => v = some (.int 1) ∧ h = h0) := by
  refine con_start (fr0 := fun m => mkF m 0 #[.val (.ref t)] []) ?_
  intro p e s m below meth c T0 hx hZ hby hml hown hnm hret hlk hsh XA
  have X0 := XA n0
  have hlow : n0 ≤ s.heap.size := by rw [hsh]; exact hn0
  replace hown : s.vm.findClass "java/lang/String" = some m.cls := hown
  replace hml : c.maxLocals = 1 := hml
  refine g_getS X0 hx hZ hown (wat hw 22 rfl) Via.refl (Sta.ext OLD.2 O2) (pc' := 3) rfl (hD hby d19_0) (fun T17 X17 => ?_)
  refine g_ifN X17 hx (pcN := 6) (hD hby d19_3) rfl (show ¬ (cz = 0) from hcz) ?_
  refine g_aloadN X17 hx (pc' := 7) rfl (hD hby d19_6) rfl rfl ?_
  refine g_getF X17 hx hZ hown (wat hw 34 rfl) Via.refl Fc (pc' := 10) rfl (hD hby d19_7) (fun T18 X18 => ?_)
  refine g_ifN X18 hx (pcN := 13) (hD hby d19_10) rfl (show ¬ (¬ (0 : Int32) = 0) from by decide) ?_
  refine g_iconst X18 hx (pc' := 14) (z := (1 : Int32)) rfl (hD hby d19_13) rfl ?_
  refine g_goto X18 hx (pc' := 18) (hD hby d19_14) (by decide) (by decide) ?_
  exact g_retZ X18 hx hlk hret (by first | exact Or.inl rfl | exact Or.inr rfl) (hD hby d19_18) (by decide) (by decide) (Nat.le_refl _) (⟨rfl, rfl⟩)
theorem rm19_1 (l : Launch) (Z : State) (a0 : Array Value) (hw : HW a0 Z) (ws : List Jvm.Cond) (n0 : Nat) (Ts : List String) (t : Addr) (cz : Int32) (h0 : Heap) (hn0 : n0 ≤ h0.size) (O2 : St0 Z (.int cz)) (hcz : ¬ cz = 0) (OLD : OldP Z n0 h0) (Fc : SC Z h0 t (.int 1)) :
    Con l Z n0 Ts (Ts) (⟨"java/lang/String", "isLatin1", "()Z"⟩ : MethodName) jdk_42_method_154_code 1 (some .boolean) ws ({ frames := 0, cells := 0, slots := 0, locals := 0 } : Room) #[(.ref t)] h0 (fun v h => v = some (.int 0) ∧ h = h0) := by
  refine con_start (fr0 := fun m => mkF m 0 #[.val (.ref t)] []) ?_
  intro p e s m below meth c T0 hx hZ hby hml hown hnm hret hlk hsh XA
  have X0 := XA n0
  have hlow : n0 ≤ s.heap.size := by rw [hsh]; exact hn0
  replace hown : s.vm.findClass "java/lang/String" = some m.cls := hown
  replace hml : c.maxLocals = 1 := hml
  refine g_getS X0 hx hZ hown (wat hw 22 rfl) Via.refl (Sta.ext OLD.2 O2) (pc' := 3) rfl (hD hby d19_0) (fun T19 X19 => ?_)
  refine g_ifN X19 hx (pcN := 6) (hD hby d19_3) rfl (show ¬ (cz = 0) from hcz) ?_
  refine g_aloadN X19 hx (pc' := 7) rfl (hD hby d19_6) rfl rfl ?_
  refine g_getF X19 hx hZ hown (wat hw 34 rfl) Via.refl Fc (pc' := 10) rfl (hD hby d19_7) (fun T20 X20 => ?_)
  refine g_ifY X20 hx (pcY := 17) (hD hby d19_10) (by decide) (by decide) (show ¬ (1 : Int32) = 0 from by decide) ?_
  refine g_iconst X20 hx (pc' := 18) (z := (0 : Int32)) rfl (hD hby d19_17) rfl ?_
  exact g_retZ X20 hx hlk hret (by first | exact Or.inl rfl | exact Or.inr rfl) (hD hby d19_18) (by decide) (by decide) (Nat.le_refl _) (⟨rfl, rfl⟩)
theorem ar_shr0 (x : Int32) : x >>> ((0 : Int32) &&& 31) = x := by simp
theorem ar_shl0 (x : Int32) : x <<< ((0 : Int32) &&& 31) = x := by simp
theorem rm10 (l : Launch) (Z : State) (a0 : Array Value) (hw : HW a0 Z) (ws : List Jvm.Cond) (n0 : Nat) (Ts : List String) (t : Addr) (cs : List Int32) (n' m' : Int32) (cz : Int32) (h0 : Heap) (hn0 : n0 ≤ h0.size) (O2 : St0 Z (.int cz)) (hcz : ¬ cz = 0) (OLD : OldP Z n0 h0) (S0 : StrC Z h0 t cs) (hn : n'.toInt = (cs.length : Int)) (hM : m'.toInt = ((2 * cs.length : Nat) : Int)) (hs : m' >>> ((1 : Int32) &&& 31) = n') :
    Con l Z n0 Ts (Ts) (⟨"java/lang/String", "length", "()I"⟩ : MethodName) jdk_42_method_54_code 1 (some .int) ws ({ frames := 1, cells := 0, slots := 0, locals := 16 } : Room) #[(.ref t)] h0 (fun v h => v = some (.int n') ∧ h = h0) := by
  refine con_start (fr0 := fun m => mkF m 0 #[.val (.ref t)] []) ?_
  intro p e s m below meth c T0 hx hZ hby hml hown hnm hret hlk hsh XA
  have X0 := XA n0
  have hlow : n0 ≤ s.heap.size := by rw [hsh]; exact hn0
  replace hown : s.vm.findClass "java/lang/String" = some m.cls := hown
  replace hml : c.maxLocals = 1 := hml
  obtain ⟨Et, tb, Fv, S0⟩ := S0
  rcases S0 with ⟨Fc, Ab, hcs⟩ | ⟨Fc, Ab, hcs⟩
  · skip
    refine g_aloadN X0 hx (pc' := 1) rfl (hD hby d10_0) rfl rfl ?_
    refine g_getF X0 hx hZ hown (wat hw 36 rfl) Via.refl Fv (pc' := 4) rfl (hD hby d10_1) (fun T21 X21 => ?_)
    refine g_alen X21 hx hZ Ab (z := n') (by rw [L1_len]; exact hn) (pc' := 5) rfl (hD hby d10_4) ?_
    refine g_aloadN X21 hx (pc' := 6) rfl (hD hby d10_5) rfl rfl ?_
    refine g_callV X21 hx hZ hown (wat hw 47 rfl) (wat hw 48 rfl) (wat hw 50 rfl) (wat hw 49 rfl) (wat hw 11 rfl) (wat hw 51 rfl) (by decide) (a := t) Et (rm11_0 l Z a0 hw [] n0 (Ts) t cz h0 hn0 O2 hcz OLD Fc) pd_0 rfl rfl (pc' := 9) rfl (hD hby d10_6) (argsL := []) (rest := [(.int n')]) rfl (W := 1) (fun v22 T22 h22 X22 hQ22 => ?_)
    obtain ⟨rfl, he22⟩ := hQ22
    rw [he22] at X22
    show Go p e below s n0 _ _ _ (T22.setTop (mkF m 9 _ [(.int 0), (.int n')]))
    refine g_ishr X22 hx (pc' := 10) rfl (hD hby d10_9) ?_
    refine g_normI (z := n') (ar_shr0 _) ?_
    exact g_retI X22 hx hlk hret (hD hby d10_10) (by decide) (by decide) (Nat.le_refl _) (⟨rfl, rfl⟩)
  · skip
    refine g_aloadN X0 hx (pc' := 1) rfl (hD hby d10_0) rfl rfl ?_
    refine g_getF X0 hx hZ hown (wat hw 36 rfl) Via.refl Fv (pc' := 4) rfl (hD hby d10_1) (fun T23 X23 => ?_)
    refine g_alen X23 hx hZ Ab (z := m') (by rw [U16_len]; exact hM) (pc' := 5) rfl (hD hby d10_4) ?_
    refine g_aloadN X23 hx (pc' := 6) rfl (hD hby d10_5) rfl rfl ?_
    refine g_callV X23 hx hZ hown (wat hw 47 rfl) (wat hw 48 rfl) (wat hw 50 rfl) (wat hw 49 rfl) (wat hw 11 rfl) (wat hw 51 rfl) (by decide) (a := t) Et (rm11_1 l Z a0 hw [] n0 (Ts) t cz h0 hn0 O2 hcz OLD Fc) pd_0 rfl rfl (pc' := 9) rfl (hD hby d10_6) (argsL := []) (rest := [(.int m')]) rfl (W := 1) (fun v24 T24 h24 X24 hQ24 => ?_)
    obtain ⟨rfl, he24⟩ := hQ24
    rw [he24] at X24
    show Go p e below s n0 _ _ _ (T24.setTop (mkF m 9 _ [(.int 1), (.int m')]))
    refine g_ishr X24 hx (pc' := 10) rfl (hD hby d10_9) ?_
    refine g_normI (z := n') hs ?_
    exact g_retI X24 hx hlk hret (hD hby d10_10) (by decide) (by decide) (Nat.le_refl _) (⟨rfl, rfl⟩)
theorem rm24_r (l : Launch) (Z : State) (a0 : Array Value) (hw : HW a0 Z) (ws : List Jvm.Cond) (n0 : Nat) (Ts : List String) (i' k' : Int32) (fo' : Addr) (h0 : Heap) (hn0 : n0 ≤ h0.size) (hi0 : ¬ i' < 0) (hik : i' < k') :
    Con l Z n0 Ts (Ts) (⟨"jdk/internal/util/Preconditions", "checkIndex", "(IILjava/util/function/BiFunction;)I"⟩ : MethodName) jdk_41_method_11_code 3 (some .int) ws ({ frames := 0, cells := 0, slots := 0, locals := 0 } : Room) #[(.int i'), (.int k'), (.ref fo')] h0 (fun v h => v = some (.int i') ∧ h = h0) := by
  refine con_start (fr0 := fun m => mkF m 0 #[.val (.int i'), .val (.int k'), .val (.ref fo')] []) ?_
  intro p e s m below meth c T0 hx hZ hby hml hown hnm hret hlk hsh XA
  have X0 := XA n0
  have hlow : n0 ≤ s.heap.size := by rw [hsh]; exact hn0
  replace hown : s.vm.findClass "jdk/internal/util/Preconditions" = some m.cls := hown
  replace hml : c.maxLocals = 3 := hml
  refine g_iloadN X0 hx (pc' := 1) rfl (hD hby d24_0) rfl ?_
  refine g_ifN X0 hx (pcN := 4) (hD hby d24_1) rfl (show ¬ (i' < 0) from hi0) ?_
  refine g_iloadN X0 hx (pc' := 5) rfl (hD hby d24_4) rfl ?_
  refine g_iloadN X0 hx (pc' := 6) rfl (hD hby d24_5) rfl ?_
  refine g_icmpY X0 hx (pcY := 16) (hD hby d24_6) (by decide) (by decide) (show i' < k' from hik) ?_
  refine g_iloadN X0 hx (pc' := 17) rfl (hD hby d24_16) rfl ?_
  exact g_retI X0 hx hlk hret (hD hby d24_17) (by decide) (by decide) (Nat.le_refl _) (⟨rfl, rfl⟩)
theorem rm24_0 (l : Launch) (Z : State) (a0 : Array Value) (hw : HW a0 Z) (ws : List Jvm.Cond) (n0 : Nat) (Ts : List String) (i' k' : Int32) (fo' : Addr) (h0 : Heap) (hn0 : n0 ≤ h0.size) (hi0 : ¬ i' < 0) (hik : i' < k') :
    Con l Z n0 Ts (Ts) (⟨"jdk/internal/util/Preconditions", "checkIndex", "(IILjava/util/function/BiFunction;)I"⟩ : MethodName) jdk_41_method_11_code 3 (some .int) ws ({ frames := 0, cells := 0, slots := 0, locals := 0 } : Room) #[(.int i'), (.int k'), .null] h0 (fun v h => v = some (.int i') ∧ h = h0) := by
  refine con_start (fr0 := fun m => mkF m 0 #[.val (.int i'), .val (.int k'), .val .null] []) ?_
  intro p e s m below meth c T0 hx hZ hby hml hown hnm hret hlk hsh XA
  have X0 := XA n0
  have hlow : n0 ≤ s.heap.size := by rw [hsh]; exact hn0
  replace hown : s.vm.findClass "jdk/internal/util/Preconditions" = some m.cls := hown
  replace hml : c.maxLocals = 3 := hml
  refine g_iloadN X0 hx (pc' := 1) rfl (hD hby d24_0) rfl ?_
  refine g_ifN X0 hx (pcN := 4) (hD hby d24_1) rfl (show ¬ (i' < 0) from hi0) ?_
  refine g_iloadN X0 hx (pc' := 5) rfl (hD hby d24_4) rfl ?_
  refine g_iloadN X0 hx (pc' := 6) rfl (hD hby d24_5) rfl ?_
  refine g_icmpY X0 hx (pcY := 16) (hD hby d24_6) (by decide) (by decide) (show i' < k' from hik) ?_
  refine g_iloadN X0 hx (pc' := 17) rfl (hD hby d24_16) rfl ?_
  exact g_retI X0 hx hlk hret (hD hby d24_17) (by decide) (by decide) (Nat.le_refl _) (⟨rfl, rfl⟩)
theorem rm23 (l : Launch) (Z : State) (a0 : Array Value) (hw : HW a0 Z) (ws : List Jvm.Cond) (n0 : Nat) (Ts : List String) (i' k' : Int32) (fo : Value) (h0 : Heap) (hn0 : n0 ≤ h0.size) (O4 : St1 Z fo) (hfo : fo.isRef = true) (OLD : OldP Z n0 h0) (hi0 : ¬ i' < 0) (hik : i' < k') :
    Con l Z n0 Ts (Ts) (⟨"java/lang/String", "checkIndex", "(II)V"⟩ : MethodName) jdk_42_method_155_code 2 none ws ({ frames := 1, cells := 0, slots := 0, locals := 16 } : Room) #[(.int i'), (.int k')] h0 (fun v h => v = none ∧ h = h0) := by
  refine con_start (fr0 := fun m => mkF m 0 #[.val (.int i'), .val (.int k')] []) ?_
  intro p e s m below meth c T0 hx hZ hby hml hown hnm hret hlk hsh XA
  have X0 := XA n0
  have hlow : n0 ≤ s.heap.size := by rw [hsh]; exact hn0
  replace hown : s.vm.findClass "java/lang/String" = some m.cls := hown
  replace hml : c.maxLocals = 2 := hml
  rcases ref_cases hfo with rfl | ⟨fo', rfl⟩
  · skip
    refine g_iloadN X0 hx (pc' := 1) rfl (hD hby d23_0) rfl ?_
    refine g_iloadN X0 hx (pc' := 2) rfl (hD hby d23_1) rfl ?_
    refine g_getS X0 hx hZ hown (wat hw 101 rfl) Via.refl (Sta.ext OLD.2 O4) (pc' := 5) rfl (hD hby d23_2) (fun T25 X25 => ?_)
    refine g_callS X25 hx hZ hown (wat hw 103 rfl) (wat hw 104 rfl) (wat hw 102 rfl) (wat hw 105 rfl) (by decide) (rm24_0 l Z a0 hw [] n0 (Ts) i' k' 0 h0 hn0 hi0 hik) pd_1 rfl rfl (pc' := 8) rfl (hD hby d23_5) (argsL := [(.int i'), (.int k'), .null]) (rest := []) rfl (W := 0) (fun v26 T26 h26 X26 hQ26 => ?_)
    obtain ⟨rfl, he26⟩ := hQ26
    rw [he26] at X26
    show Go p e below s n0 _ _ _ (T26.setTop (mkF m 8 _ [(.int i')]))
    refine g_pop X26 hx (pc' := 9) rfl (hD hby d23_8) rfl ?_
    exact g_retV X26 hx hlk hret (hD hby d23_9) (by decide) (by decide) (Nat.le_refl _) (⟨rfl, rfl⟩)
  · skip
    refine g_iloadN X0 hx (pc' := 1) rfl (hD hby d23_0) rfl ?_
    refine g_iloadN X0 hx (pc' := 2) rfl (hD hby d23_1) rfl ?_
    refine g_getS X0 hx hZ hown (wat hw 101 rfl) Via.refl (Sta.ext OLD.2 O4) (pc' := 5) rfl (hD hby d23_2) (fun T27 X27 => ?_)
    refine g_callS X27 hx hZ hown (wat hw 103 rfl) (wat hw 104 rfl) (wat hw 102 rfl) (wat hw 105 rfl) (by decide) (rm24_r l Z a0 hw [] n0 (Ts) i' k' fo' h0 hn0 hi0 hik) pd_1 rfl rfl (pc' := 8) rfl (hD hby d23_5) (argsL := [(.int i'), (.int k'), (.ref fo')]) (rest := []) rfl (W := 0) (fun v28 T28 h28 X28 hQ28 => ?_)
    obtain ⟨rfl, he28⟩ := hQ28
    rw [he28] at X28
    show Go p e below s n0 _ _ _ (T28.setTop (mkF m 8 _ [(.int i')]))
    refine g_pop X28 hx (pc' := 9) rfl (hD hby d23_8) rfl ?_
    exact g_retV X28 hx hlk hret (hD hby d23_9) (by decide) (by decide) (Nat.le_refl _) (⟨rfl, rfl⟩)
theorem rm22 (l : Launch) (Z : State) (a0 : Array Value) (hw : HW a0 Z) (ws : List Jvm.Cond) (n0 : Nat) (Ts : List String) (tb : Addr) (xs : List Value) (n' m' : Int32) (h0 : Heap) (hn0 : n0 ≤ h0.size) (Ab : AV Z h0 tb .byte xs) (hM : m'.toInt = (xs.length : Int)) (hs : m' >>> ((1 : Int32) &&& 31) = n') :
    Con l Z n0 Ts (Ts) (⟨"java/lang/StringUTF16", "length", "([B)I"⟩ : MethodName) jdk_52_method_6_code 1 (some .int) ws ({ frames := 0, cells := 0, slots := 0, locals := 0 } : Room) #[(.ref tb)] h0 (fun v h => v = some (.int n') ∧ h = h0) := by
  refine con_start (fr0 := fun m => mkF m 0 #[.val (.ref tb)] []) ?_
  intro p e s m below meth c T0 hx hZ hby hml hown hnm hret hlk hsh XA
  have X0 := XA n0
  have hlow : n0 ≤ s.heap.size := by rw [hsh]; exact hn0
  replace hown : s.vm.findClass "java/lang/StringUTF16" = some m.cls := hown
  replace hml : c.maxLocals = 1 := hml
  refine g_aloadN X0 hx (pc' := 1) rfl (hD hby d22_0) rfl rfl ?_
  refine g_alen X0 hx hZ Ab (z := m') hM (pc' := 2) rfl (hD hby d22_1) ?_
  refine g_iconst X0 hx (pc' := 3) (z := (1 : Int32)) rfl (hD hby d22_2) rfl ?_
  refine g_ishr X0 hx (pc' := 4) rfl (hD hby d22_3) ?_
  refine g_normI (z := n') hs ?_
  exact g_retI X0 hx hlk hret (hD hby d22_4) (by decide) (by decide) (Nat.le_refl _) (⟨rfl, rfl⟩)
theorem rm21 (l : Launch) (Z : State) (a0 : Array Value) (hw : HW a0 Z) (ws : List Jvm.Cond) (n0 : Nat) (Ts : List String) (tb : Addr) (xs : List Value) (i' n' m' : Int32) (fo : Value) (h0 : Heap) (hn0 : n0 ≤ h0.size) (O4 : St1 Z fo) (hfo : fo.isRef = true) (OLD : OldP Z n0 h0) (Ab : AV Z h0 tb .byte xs) (hM : m'.toInt = (xs.length : Int)) (hs : m' >>> ((1 : Int32) &&& 31) = n') (hi0 : ¬ i' < 0) (hik : i' < n') :
    Con l Z n0 Ts (Ts) (⟨"java/lang/StringUTF16", "checkIndex", "(I[B)V"⟩ : MethodName) jdk_52_method_91_code 2 none ws ({ frames := 2, cells := 0, slots := 0, locals := 40 } : Room) #[(.int i'), (.ref tb)] h0 (fun v h => v = none ∧ h = h0) := by
  refine con_start (fr0 := fun m => mkF m 0 #[.val (.int i'), .val (.ref tb)] []) ?_
  intro p e s m below meth c T0 hx hZ hby hml hown hnm hret hlk hsh XA
  have X0 := XA n0
  have hlow : n0 ≤ s.heap.size := by rw [hsh]; exact hn0
  replace hown : s.vm.findClass "java/lang/StringUTF16" = some m.cls := hown
  replace hml : c.maxLocals = 2 := hml
  refine g_iloadN X0 hx (pc' := 1) rfl (hD hby d21_0) rfl ?_
  refine g_aloadN X0 hx (pc' := 2) rfl (hD hby d21_1) rfl rfl ?_
  refine g_callS X0 hx hZ hown (wat hw 95 rfl) (wat hw 96 rfl) (wat hw 25 rfl) (wat hw 97 rfl) (by decide) (rm22 l Z a0 hw [] n0 (Ts) tb xs n' m' h0 hn0 Ab hM hs) pd_2 rfl rfl (pc' := 5) rfl (hD hby d21_2) (argsL := [(.ref tb)]) (rest := [(.int i')]) rfl (W := 1) (fun v29 T29 h29 X29 hQ29 => ?_)
  obtain ⟨rfl, he29⟩ := hQ29
  rw [he29] at X29
  show Go p e below s n0 _ _ _ (T29.setTop (mkF m 5 _ [(.int n'), (.int i')]))
  refine g_callS X29 hx hZ hown (wat hw 98 rfl) (wat hw 99 rfl) (wat hw 11 rfl) (wat hw 100 rfl) (by decide) (rm23 l Z a0 hw [] n0 (Ts) i' n' fo h0 hn0 O4 hfo OLD hi0 hik) pd_3 rfl rfl (pc' := 8) rfl (hD hby d21_5) (argsL := [(.int i'), (.int n')]) (rest := []) rfl (W := 0) (fun v30 T30 h30 X30 hQ30 => ?_)
  obtain ⟨rfl, he30⟩ := hQ30
  rw [he30] at X30
  show Go p e below s n0 _ _ _ (T30.setTop (mkF m 8 _ []))
  exact g_retV X30 hx hlk hret (hD hby d21_8) (by decide) (by decide) (Nat.le_refl _) (⟨rfl, rfl⟩)
theorem ar_shl1 {x : Int32} {i : Nat} (h : x.toInt = (i : Int)) (hb : i < 512) : (x <<< ((1 : Int32) &&& 31)).toInt = ((2 * i : Nat) : Int) := by
  have all : ∀ k : Fin 512, (Int32.ofNat k.val <<< ((1 : Int32) &&& 31)) = Int32.ofNat (2 * k.val) := by decide +kernel
  have e : x = Int32.ofNat i := by have q := ar_id (a := x) (by omega); rw [h] at q; exact q
  rw [e, all ⟨i, hb⟩, ar_of (by show 2 * i < _; omega)]
theorem ar_add1 {x : Int32} {i : Nat} (h : x.toInt = (i : Int)) (hb : i < 1000) : (x + (1 : Int32)).toInt = ((i + 1 : Nat) : Int) := by
  have e : (1 : Int32).toInt = 1 := rfl
  rw [ar_add (by omega) (by omega)]; omega
theorem own_eqc {a : Int32} (h : 0 ≤ a.toInt ∧ a.toInt ≤ 255) : ((a.toInt8.toInt32 &&& (255 : Int32))).toUInt32.toUInt16.toUInt32.toInt32 = a := by
  rw [ar_b h.1 h.2]; exact ar_i2c h.1 (by omega)
theorem rm17 (l : Launch) (Z : State) (a0 : Array Value) (hw : HW a0 Z) (ws : List Jvm.Cond) (n0 : Nat) (Ts : List String) (tb : Addr) (cs : List Int32) (i' : Int32) (i : Nat) (h0 : Heap) (hn0 : n0 ≤ h0.size) (U1 : St2 Z (.int 1)) (U2 : St3 Z (.int 0)) (U3 : St4 Z (.int 8)) (OLD : OldP Z n0 h0) (Ab : AV Z h0 tb .byte (U16 cs)) (hcs : ∀ c ∈ cs, 0 ≤ c.toInt ∧ c.toInt < 65536) (hi : i'.toInt = (i : Int)) (hlt : i < cs.length) (hb : cs.length < 500) :
    Con l Z n0 Ts (Ts) (⟨"java/lang/StringUTF16", "getChar", "([BI)C"⟩ : MethodName) jdk_52_method_5_code 2 (some .char) ws ({ frames := 0, cells := 0, slots := 0, locals := 0 } : Room) #[(.ref tb), (.int i')] h0 (fun v h => v = some (.int (cs.getD i 0)) ∧ h = h0) := by
  refine con_start (fr0 := fun m => mkF m 0 #[.val (.ref tb), .val (.int i')] []) ?_
  intro p e s m below meth c T0 hx hZ hby hml hown hnm hret hlk hsh XA
  have X0 := XA n0
  have hlow : n0 ≤ s.heap.size := by rw [hsh]; exact hn0
  replace hown : s.vm.findClass "java/lang/StringUTF16" = some m.cls := hown
  replace hml : c.maxLocals = 2 := hml
  refine g_getS X0 hx hZ hown (wat hw 73 rfl) Via.refl (Sta.ext OLD.2 U1) (pc' := 3) rfl (hD hby d17_0) (fun T31 X31 => ?_)
  refine g_ifY X31 hx (pcY := 28) (hD hby d17_3) (by decide) (by decide) (show ¬ (1 : Int32) = 0 from by decide) ?_
  refine g_iloadN X31 hx (pc' := 29) rfl (hD hby d17_28) rfl ?_
  refine g_iconst X31 hx (pc' := 30) (z := (1 : Int32)) rfl (hD hby d17_29) rfl ?_
  refine g_ishl X31 hx (pc' := 31) rfl (hD hby d17_30) ?_
  refine g_absI (fun k' hk' => ?_)
  have gk : k'.toInt = ((2 * i : Nat) : Int) := by rw [hk']; exact ar_shl1 hi (by omega)
  refine g_istoreN X31 hx (pc' := 32) rfl (hD hby d17_31) (l' := #[.val (.ref tb), .val (.int k')]) rfl ?_
  refine g_aloadN X31 hx (pc' := 33) rfl (hD hby d17_32) rfl rfl ?_
  refine g_iloadN X31 hx (pc' := 34) rfl (hD hby d17_33) rfl ?_
  refine g_iinc X31 hx (pc' := 37) (x := k') rfl (hD hby d17_34) rfl (l' := #[.val (.ref tb), .val (.int (k' + (1 : Int32)))]) rfl ?_
  refine g_baload X31 hx hZ Ab (i := 2 * i) gk (by rw [U16_len]; omega) (x := ((cs.getD i 0) >>> ((0 : Int32) &&& 31)).toInt8.toInt32) (U16_get hlt).1 (pc' := 38) rfl (hD hby d17_37) ?_
  refine g_sipush X31 hx (pc' := 41) (z := (255 : Int32)) rfl (hD hby d17_38) rfl ?_
  refine g_iand X31 hx (pc' := 42) rfl (hD hby d17_41) ?_
  refine g_getS X31 hx hZ hown (wat hw 74 rfl) Via.refl (Sta.ext OLD.2 U2) (pc' := 45) rfl (hD hby d17_42) (fun T32 X32 => ?_)
  refine g_ishl X32 hx (pc' := 46) rfl (hD hby d17_45) ?_
  refine g_aloadN X32 hx (pc' := 47) rfl (hD hby d17_46) rfl rfl ?_
  refine g_iloadN X32 hx (pc' := 48) rfl (hD hby d17_47) rfl ?_
  refine g_baload X32 hx hZ Ab (i := 2 * i + 1) (ar_add1 gk (by omega)) (by rw [U16_len]; omega) (x := ((cs.getD i 0) >>> ((8 : Int32) &&& 31)).toInt8.toInt32) (U16_get hlt).2 (pc' := 49) rfl (hD hby d17_48) ?_
  refine g_sipush X32 hx (pc' := 52) (z := (255 : Int32)) rfl (hD hby d17_49) rfl ?_
  refine g_iand X32 hx (pc' := 53) rfl (hD hby d17_52) ?_
  refine g_getS X32 hx hZ hown (wat hw 75 rfl) Via.refl (Sta.ext OLD.2 U3) (pc' := 56) rfl (hD hby d17_53) (fun T33 X33 => ?_)
  refine g_ishl X33 hx (pc' := 57) rfl (hD hby d17_56) ?_
  refine g_ior X33 hx (pc' := 58) rfl (hD hby d17_57) ?_
  refine g_i2c X33 hx (pc' := 59) rfl (hD hby d17_58) ?_
  refine g_normI (z := cs.getD i 0) (ar_pair (hcs _ (mem_getD hlt)).1 (hcs _ (mem_getD hlt)).2) ?_
  exact g_ret X33 hx hlk hret (congrArg Value.int (nar_chr (hcs _ (mem_getD hlt)))) (Or.inl ⟨rfl, Or.inr (Or.inr (Or.inr (Or.inl rfl))), _, rfl⟩) (hD hby d17_59) (by decide) (by decide) (Nat.le_refl _) (⟨rfl, rfl⟩)
theorem rm16 (l : Launch) (Z : State) (a0 : Array Value) (hw : HW a0 Z) (ws : List Jvm.Cond) (n0 : Nat) (Ts : List String) (va : Addr) (vs : List Value) (i' c' : Int32) (i : Nat) (h0 : Heap) (hn0 : n0 ≤ h0.size) (U1 : St2 Z (.int 1)) (U2 : St3 Z (.int 0)) (U3 : St4 Z (.int 8)) (OLD : OldP Z n0 h0) (Av : AV Z h0 va .byte vs) (hgv : n0 ≤ va) (hi : i'.toInt = (i : Int)) (hlt : 2 * i + 1 < vs.length) (hb : i < 500) :
    Con l Z n0 Ts (Ts) (⟨"java/lang/StringUTF16", "putChar", "([BII)V"⟩ : MethodName) jdk_52_method_4_code 3 none ws ({ frames := 0, cells := 0, slots := 0, locals := 0 } : Room) #[(.ref va), (.int i'), (.int c')] h0 (fun v h => v = none ∧ Keep h0 h [va] ∧ AV Z h va .byte ((vs.set (2 * i) (.int (c' >>> ((0 : Int32) &&& 31)).toInt8.toInt32)).set (2 * i + 1) (.int (c' >>> ((8 : Int32) &&& 31)).toInt8.toInt32))) := by
  refine con_start (fr0 := fun m => mkF m 0 #[.val (.ref va), .val (.int i'), .val (.int c')] []) ?_
  intro p e s m below meth c T0 hx hZ hby hml hown hnm hret hlk hsh XA
  have X0 := XA n0
  have hlow : n0 ≤ s.heap.size := by rw [hsh]; exact hn0
  replace hown : s.vm.findClass "java/lang/StringUTF16" = some m.cls := hown
  replace hml : c.maxLocals = 3 := hml
  refine g_getS X0 hx hZ hown (wat hw 73 rfl) Via.refl (Sta.ext OLD.2 U1) (pc' := 3) rfl (hD hby d16_0) (fun T34 X34 => ?_)
  refine g_ifY X34 hx (pcY := 28) (hD hby d16_3) (by decide) (by decide) (show ¬ (1 : Int32) = 0 from by decide) ?_
  refine g_iloadN X34 hx (pc' := 29) rfl (hD hby d16_28) rfl ?_
  refine g_iconst X34 hx (pc' := 30) (z := (1 : Int32)) rfl (hD hby d16_29) rfl ?_
  refine g_ishl X34 hx (pc' := 31) rfl (hD hby d16_30) ?_
  refine g_absI (fun k' hk' => ?_)
  have gk : k'.toInt = ((2 * i : Nat) : Int) := by rw [hk']; exact ar_shl1 hi (by omega)
  refine g_istoreN X34 hx (pc' := 32) rfl (hD hby d16_31) (l' := #[.val (.ref va), .val (.int k'), .val (.int c')]) rfl ?_
  refine g_aloadN X34 hx (pc' := 33) rfl (hD hby d16_32) rfl rfl ?_
  refine g_iloadN X34 hx (pc' := 34) rfl (hD hby d16_33) rfl ?_
  refine g_iinc X34 hx (pc' := 37) (x := k') rfl (hD hby d16_34) rfl (l' := #[.val (.ref va), .val (.int (k' + (1 : Int32))), .val (.int c')]) rfl ?_
  refine g_iloadN X34 hx (pc' := 38) rfl (hD hby d16_37) rfl ?_
  refine g_getS X34 hx hZ hown (wat hw 74 rfl) Via.refl (Sta.ext OLD.2 U2) (pc' := 41) rfl (hD hby d16_38) (fun T35 X35 => ?_)
  refine g_ishr X35 hx (pc' := 42) rfl (hD hby d16_41) ?_
  refine g_i2b X35 hx (pc' := 43) rfl (hD hby d16_42) ?_
  refine g_bastore X35 hx hZ Av (i := 2 * i) gk (by omega) hgv (y := (c' >>> ((0 : Int32) &&& 31)).toInt8.toInt32) (nar_i2b _) (pc' := 44) rfl (hD hby d16_43) (fun T36 h36 X36 W36 N36 => ?_)
  have f37 := (by have q := (Keep.of_wr W36).1; exact Nat.le_trans hn0 q : n0 ≤ h36.size)
  have f38 := (Keep.refl h0 [va]).wr W36 (Or.inl (List.mem_of_getElem? (i := 0) rfl))
  have f39 := OLD.wr W36 hgv
  have V36 : AV Z h36 va .byte (vs.set (2 * i) (.int (c' >>> ((0 : Int32) &&& 31)).toInt8.toInt32)) := N36
  refine g_aloadN X36 hx (pc' := 45) rfl (hD hby d16_44) rfl rfl ?_
  refine g_iloadN X36 hx (pc' := 46) rfl (hD hby d16_45) rfl ?_
  refine g_iloadN X36 hx (pc' := 47) rfl (hD hby d16_46) rfl ?_
  refine g_getS X36 hx hZ hown (wat hw 75 rfl) Via.refl (Sta.ext f39.2 U3) (pc' := 50) rfl (hD hby d16_47) (fun T40 X40 => ?_)
  refine g_ishr X40 hx (pc' := 51) rfl (hD hby d16_50) ?_
  refine g_i2b X40 hx (pc' := 52) rfl (hD hby d16_51) ?_
  refine g_bastore X40 hx hZ V36 (i := 2 * i + 1) (ar_add1 gk (by omega)) (by rw [List.length_set]; omega) hgv (y := (c' >>> ((8 : Int32) &&& 31)).toInt8.toInt32) (nar_i2b _) (pc' := 53) rfl (hD hby d16_52) (fun T41 h41 X41 W41 N41 => ?_)
  have f42 := (by have q := (Keep.of_wr W41).1; exact Nat.le_trans f37 q : n0 ≤ h41.size)
  have f43 := f38.wr W41 (Or.inl (List.mem_of_getElem? (i := 0) rfl))
  have f44 := f39.wr W41 hgv
  have V41 : AV Z h41 va .byte ((vs.set (2 * i) (.int (c' >>> ((0 : Int32) &&& 31)).toInt8.toInt32)).set (2 * i + 1) (.int (c' >>> ((8 : Int32) &&& 31)).toInt8.toInt32)) := N41
  exact g_retV X41 hx hlk hret (hD hby d16_53) (by decide) (by decide) (Nat.le_refl _) (⟨rfl, f43, V41⟩)
theorem own_ix {i' n' : Int32} {i : Nat} {cs : List Int32} (hi : i'.toInt = (i : Int)) (hlt : i < cs.length) (hn : n'.toInt = (cs.length : Int)) : ¬ i' < 0 ∧ i' < n' := by
  refine ⟨(own_idx hi).2, ?_⟩
  rw [Int32.lt_iff_toInt_lt]; omega
theorem rm20 (l : Launch) (Z : State) (a0 : Array Value) (hw : HW a0 Z) (ws : List Jvm.Cond) (n0 : Nat) (Ts : List String) (tb : Addr) (cs : List Int32) (i' n' m' : Int32) (i : Nat) (fo : Value) (h0 : Heap) (hn0 : n0 ≤ h0.size) (O4 : St1 Z fo) (hfo : fo.isRef = true) (U1 : St2 Z (.int 1)) (U2 : St3 Z (.int 0)) (U3 : St4 Z (.int 8)) (OLD : OldP Z n0 h0) (Ab : AV Z h0 tb .byte (U16 cs)) (hcs : ∀ c ∈ cs, 0 ≤ c.toInt ∧ c.toInt < 65536) (hi : i'.toInt = (i : Int)) (hlt : i < cs.length) (hb : cs.length < 500) (hn : n'.toInt = (cs.length : Int)) (hM : m'.toInt = ((2 * cs.length : Nat) : Int)) (hs : m' >>> ((1 : Int32) &&& 31) = n') :
    Con l Z n0 Ts (Ts) (⟨"java/lang/StringUTF16", "charAt", "([BI)C"⟩ : MethodName) jdk_52_method_83_code 2 (some .char) ws ({ frames := 3, cells := 0, slots := 0, locals := 64 } : Room) #[(.ref tb), (.int i')] h0 (fun v h => v = some (.int (cs.getD i 0)) ∧ h = h0) := by
  refine con_start (fr0 := fun m => mkF m 0 #[.val (.ref tb), .val (.int i')] []) ?_
  intro p e s m below meth c T0 hx hZ hby hml hown hnm hret hlk hsh XA
  have X0 := XA n0
  have hlow : n0 ≤ s.heap.size := by rw [hsh]; exact hn0
  replace hown : s.vm.findClass "java/lang/StringUTF16" = some m.cls := hown
  replace hml : c.maxLocals = 2 := hml
  refine g_iloadN X0 hx (pc' := 1) rfl (hD hby d20_0) rfl ?_
  refine g_aloadN X0 hx (pc' := 2) rfl (hD hby d20_1) rfl rfl ?_
  refine g_callS X0 hx hZ hown (wat hw 92 rfl) (wat hw 93 rfl) (wat hw 25 rfl) (wat hw 94 rfl) (by decide) (rm21 l Z a0 hw [] n0 (Ts) tb (U16 cs) i' n' m' fo h0 hn0 O4 hfo OLD Ab (by rw [U16_len]; exact hM) hs (own_ix hi hlt hn).1 (own_ix hi hlt hn).2) pd_4 rfl rfl (pc' := 5) rfl (hD hby d20_2) (argsL := [(.int i'), (.ref tb)]) (rest := []) rfl (W := 0) (fun v45 T45 h45 X45 hQ45 => ?_)
  obtain ⟨rfl, he45⟩ := hQ45
  rw [he45] at X45
  show Go p e below s n0 _ _ _ (T45.setTop (mkF m 5 _ []))
  refine g_aloadN X45 hx (pc' := 6) rfl (hD hby d20_5) rfl rfl ?_
  refine g_iloadN X45 hx (pc' := 7) rfl (hD hby d20_6) rfl ?_
  refine g_callS X45 hx hZ hown (wat hw 76 rfl) (wat hw 77 rfl) (wat hw 25 rfl) (wat hw 78 rfl) (by decide) (rm17 l Z a0 hw [] n0 (Ts) tb cs i' i h0 hn0 U1 U2 U3 OLD Ab hcs hi hlt hb) pd_5 rfl rfl (pc' := 10) rfl (hD hby d20_7) (argsL := [(.ref tb), (.int i')]) (rest := []) rfl (W := 0) (fun v46 T46 h46 X46 hQ46 => ?_)
  obtain ⟨rfl, he46⟩ := hQ46
  rw [he46] at X46
  show Go p e below s n0 _ _ _ (T46.setTop (mkF m 10 _ [(.int (cs.getD i 0))]))
  exact g_ret X46 hx hlk hret (congrArg Value.int (nar_chr (hcs _ (mem_getD hlt)))) (Or.inl ⟨rfl, Or.inr (Or.inr (Or.inr (Or.inl rfl))), _, rfl⟩) (hD hby d20_10) (by decide) (by decide) (Nat.le_refl _) (⟨rfl, rfl⟩)
theorem rm30 (l : Launch) (Z : State) (a0 : Array Value) (hw : HW a0 Z) (ws : List Jvm.Cond) (n0 : Nat) (Ts : List String) (tb : Addr) (cs : List Int32) (i' n' m' : Int32) (i : Nat) (fo : Value) (h0 : Heap) (hn0 : n0 ≤ h0.size) (O4 : St1 Z fo) (hfo : fo.isRef = true) (OLD : OldP Z n0 h0) (Ab : AV Z h0 tb .byte (L1 cs)) (hcs : ∀ c ∈ cs, 0 ≤ c.toInt ∧ c.toInt ≤ 255) (hi : i'.toInt = (i : Int)) (hlt : i < cs.length) (hb : cs.length < 500) (hn : n'.toInt = (cs.length : Int)) (hM : m'.toInt = ((2 * cs.length : Nat) : Int)) (hs : m' >>> ((1 : Int32) &&& 31) = n') :
    Con l Z n0 Ts (Ts) (⟨"java/lang/StringLatin1", "charAt", "([BI)C"⟩ : MethodName) jdk_43_method_2_code 2 (some .char) ws ({ frames := 2, cells := 0, slots := 0, locals := 40 } : Room) #[(.ref tb), (.int i')] h0 (fun v h => v = some (.int (cs.getD i 0)) ∧ h = h0) := by
  refine con_start (fr0 := fun m => mkF m 0 #[.val (.ref tb), .val (.int i')] []) ?_
  intro p e s m below meth c T0 hx hZ hby hml hown hnm hret hlk hsh XA
  have X0 := XA n0
  have hlow : n0 ≤ s.heap.size := by rw [hsh]; exact hn0
  replace hown : s.vm.findClass "java/lang/StringLatin1" = some m.cls := hown
  replace hml : c.maxLocals = 2 := hml
  refine g_iloadN X0 hx (pc' := 1) rfl (hD hby d30_0) rfl ?_
  refine g_aloadN X0 hx (pc' := 2) rfl (hD hby d30_1) rfl rfl ?_
  refine g_alen X0 hx hZ Ab (z := n') (by rw [L1_len]; exact hn) (pc' := 3) rfl (hD hby d30_2) ?_
  refine g_callS X0 hx hZ hown (wat hw 126 rfl) (wat hw 99 rfl) (wat hw 11 rfl) (wat hw 100 rfl) (by decide) (rm23 l Z a0 hw [] n0 (Ts) i' n' fo h0 hn0 O4 hfo OLD (own_ix hi hlt hn).1 (own_ix hi hlt hn).2) pd_3 rfl rfl (pc' := 6) rfl (hD hby d30_3) (argsL := [(.int i'), (.int n')]) (rest := []) rfl (W := 0) (fun v47 T47 h47 X47 hQ47 => ?_)
  obtain ⟨rfl, he47⟩ := hQ47
  rw [he47] at X47
  show Go p e below s n0 _ _ _ (T47.setTop (mkF m 6 _ []))
  refine g_aloadN X47 hx (pc' := 7) rfl (hD hby d30_6) rfl rfl ?_
  refine g_iloadN X47 hx (pc' := 8) rfl (hD hby d30_7) rfl ?_
  refine g_baload X47 hx hZ Ab (i := i) hi (by rw [L1_len]; exact hlt) (x := (cs.getD i 0).toInt8.toInt32) (L1_get hlt) (pc' := 9) rfl (hD hby d30_8) ?_
  refine g_sipush X47 hx (pc' := 12) (z := (255 : Int32)) rfl (hD hby d30_9) rfl ?_
  refine g_iand X47 hx (pc' := 13) rfl (hD hby d30_12) ?_
  refine g_i2c X47 hx (pc' := 14) rfl (hD hby d30_13) ?_
  refine g_normI (z := cs.getD i 0) (own_eqc (hcs _ (mem_getD hlt))) ?_
  exact g_ret X47 hx hlk hret (congrArg Value.int (nar_chr (by have q := hcs _ (mem_getD hlt); omega))) (Or.inl ⟨rfl, Or.inr (Or.inr (Or.inr (Or.inl rfl))), _, rfl⟩) (hD hby d30_14) (by decide) (by decide) (Nat.le_refl _) (⟨rfl, rfl⟩)
theorem rm18 (l : Launch) (Z : State) (a0 : Array Value) (hw : HW a0 Z) (ws : List Jvm.Cond) (n0 : Nat) (Ts : List String) (t : Addr) (cs : List Int32) (i' n' m' : Int32) (i : Nat) (fo : Value) (cz : Int32) (h0 : Heap) (hn0 : n0 ≤ h0.size) (O4 : St1 Z fo) (hfo : fo.isRef = true) (U1 : St2 Z (.int 1)) (U2 : St3 Z (.int 0)) (U3 : St4 Z (.int 8)) (O2 : St0 Z (.int cz)) (hcz : ¬ cz = 0) (OLD : OldP Z n0 h0) (S0 : StrC Z h0 t cs) (hi : i'.toInt = (i : Int)) (hlt : i < cs.length) (hb : cs.length < 500) (hn : n'.toInt = (cs.length : Int)) (hM : m'.toInt = ((2 * cs.length : Nat) : Int)) (hs : m' >>> ((1 : Int32) &&& 31) = n') :
    Con l Z n0 Ts (Ts) (⟨"java/lang/String", "charAt", "(I)C"⟩ : MethodName) jdk_42_method_56_code 2 (some .char) ws ({ frames := 4, cells := 0, slots := 0, locals := 88 } : Room) #[(.ref t), (.int i')] h0 (fun v h => v = some (.int (cs.getD i 0)) ∧ h = h0) := by
  refine con_start (fr0 := fun m => mkF m 0 #[.val (.ref t), .val (.int i')] []) ?_
  intro p e s m below meth c T0 hx hZ hby hml hown hnm hret hlk hsh XA
  have X0 := XA n0
  have hlow : n0 ≤ s.heap.size := by rw [hsh]; exact hn0
  replace hown : s.vm.findClass "java/lang/String" = some m.cls := hown
  replace hml : c.maxLocals = 2 := hml
  obtain ⟨Et, tb, Fv, S0⟩ := S0
  rcases S0 with ⟨Fc, Ab, hcs⟩ | ⟨Fc, Ab, hcs⟩
  · skip
    refine g_aloadN X0 hx (pc' := 1) rfl (hD hby d18_0) rfl rfl ?_
    refine g_callV X0 hx hZ hown (wat hw 84 rfl) (wat hw 85 rfl) (wat hw 87 rfl) (wat hw 86 rfl) (wat hw 11 rfl) (wat hw 88 rfl) (by decide) (a := t) Et (rm19_0 l Z a0 hw [] n0 (Ts) t cz h0 hn0 O2 hcz OLD Fc) pd_6 rfl rfl (pc' := 4) rfl (hD hby d18_1) (argsL := []) (rest := []) rfl (W := 0) (fun v48 T48 h48 X48 hQ48 => ?_)
    obtain ⟨rfl, he48⟩ := hQ48
    rw [he48] at X48
    show Go p e below s n0 _ _ _ (T48.setTop (mkF m 4 _ [(.int 1)]))
    refine g_ifN X48 hx (pcN := 7) (hD hby d18_4) rfl (show ¬ ((1 : Int32) = 0) from by decide) ?_
    refine g_aloadN X48 hx (pc' := 8) rfl (hD hby d18_7) rfl rfl ?_
    refine g_getF X48 hx hZ hown (wat hw 36 rfl) Via.refl Fv (pc' := 11) rfl (hD hby d18_8) (fun T49 X49 => ?_)
    refine g_iloadN X49 hx (pc' := 12) rfl (hD hby d18_11) rfl ?_
    refine g_callS X49 hx hZ hown (wat hw 123 rfl) (wat hw 124 rfl) (wat hw 114 rfl) (wat hw 125 rfl) (by decide) (rm30 l Z a0 hw [] n0 (Ts) tb cs i' n' m' i fo h0 hn0 O4 hfo OLD Ab hcs hi hlt hb hn hM hs) pd_5 rfl rfl (pc' := 15) rfl (hD hby d18_12) (argsL := [(.ref tb), (.int i')]) (rest := []) rfl (W := 0) (fun v50 T50 h50 X50 hQ50 => ?_)
    obtain ⟨rfl, he50⟩ := hQ50
    rw [he50] at X50
    show Go p e below s n0 _ _ _ (T50.setTop (mkF m 15 _ [(.int (cs.getD i 0))]))
    exact g_ret X50 hx hlk hret (congrArg Value.int (nar_chr (by have q := hcs _ (mem_getD hlt); omega))) (Or.inl ⟨rfl, Or.inr (Or.inr (Or.inr (Or.inl rfl))), _, rfl⟩) (hD hby d18_15) (by decide) (by decide) (Nat.le_refl _) (⟨rfl, rfl⟩)
  · skip
    refine g_aloadN X0 hx (pc' := 1) rfl (hD hby d18_0) rfl rfl ?_
    refine g_callV X0 hx hZ hown (wat hw 84 rfl) (wat hw 85 rfl) (wat hw 87 rfl) (wat hw 86 rfl) (wat hw 11 rfl) (wat hw 88 rfl) (by decide) (a := t) Et (rm19_1 l Z a0 hw [] n0 (Ts) t cz h0 hn0 O2 hcz OLD Fc) pd_6 rfl rfl (pc' := 4) rfl (hD hby d18_1) (argsL := []) (rest := []) rfl (W := 0) (fun v51 T51 h51 X51 hQ51 => ?_)
    obtain ⟨rfl, he51⟩ := hQ51
    rw [he51] at X51
    show Go p e below s n0 _ _ _ (T51.setTop (mkF m 4 _ [(.int 0)]))
    refine g_ifY X51 hx (pcY := 16) (hD hby d18_4) (by decide) (by decide) (show (0 : Int32) = 0 from by decide) ?_
    refine g_aloadN X51 hx (pc' := 17) rfl (hD hby d18_16) rfl rfl ?_
    refine g_getF X51 hx hZ hown (wat hw 36 rfl) Via.refl Fv (pc' := 20) rfl (hD hby d18_17) (fun T52 X52 => ?_)
    refine g_iloadN X52 hx (pc' := 21) rfl (hD hby d18_20) rfl ?_
    refine g_callS X52 hx hZ hown (wat hw 89 rfl) (wat hw 90 rfl) (wat hw 25 rfl) (wat hw 91 rfl) (by decide) (rm20 l Z a0 hw [] n0 (Ts) tb cs i' n' m' i fo h0 hn0 O4 hfo U1 U2 U3 OLD Ab hcs hi hlt hb hn hM hs) pd_5 rfl rfl (pc' := 24) rfl (hD hby d18_21) (argsL := [(.ref tb), (.int i')]) (rest := []) rfl (W := 0) (fun v53 T53 h53 X53 hQ53 => ?_)
    obtain ⟨rfl, he53⟩ := hQ53
    rw [he53] at X53
    show Go p e below s n0 _ _ _ (T53.setTop (mkF m 24 _ [(.int (cs.getD i 0))]))
    exact g_ret X53 hx hlk hret (congrArg Value.int (nar_chr (hcs _ (mem_getD hlt)))) (Or.inl ⟨rfl, Or.inr (Or.inr (Or.inr (Or.inl rfl))), _, rfl⟩) (hD hby d18_24) (by decide) (by decide) (Nat.le_refl _) (⟨rfl, rfl⟩)
theorem rm25 (l : Launch) (Z : State) (a0 : Array Value) (hw : HW a0 Z) (ws : List Jvm.Cond) (n0 : Nat) (Ts : List String) (c' : Int32) (h0 : Heap) (hn0 : n0 ≤ h0.size)  :
    Con l Z n0 Ts (Ts) (⟨"com/example/grantor/grantor/core/CodeChallenge", "isAlphanumeric", "(C)Z"⟩ : MethodName) prog_9_method_7_code 1 (some .boolean) ws ({ frames := 0, cells := 0, slots := 0, locals := 0 } : Room) #[(.int c')] h0 (fun v h => v = some (.int (if alb c' then 1 else 0)) ∧ h = h0) := by
  refine con_start (fr0 := fun m => mkF m 0 #[.val (.int c')] []) ?_
  intro p e s m below meth c T0 hx hZ hby hml hown hnm hret hlk hsh XA
  have X0 := XA n0
  have hlow : n0 ≤ s.heap.size := by rw [hsh]; exact hn0
  replace hown : s.vm.findClass "com/example/grantor/grantor/core/CodeChallenge" = some m.cls := hown
  replace hml : c.maxLocals = 1 := hml
  refine g_iloadN X0 hx (pc' := 1) rfl (hD hby d25_0) rfl ?_
  refine g_bipush X0 hx (pc' := 3) (z := (65 : Int32)) rfl (hD hby d25_1) rfl ?_
  refine g_icmp X0 hx (pcY := 12) (pcN := 6) (hD hby d25_3) (by decide) (by decide) rfl (fun hc3 => ?_) (fun hc3 => ?_)
  · replace hc3 : c' < (65 : Int32) := hc3
    refine g_iloadN X0 hx (pc' := 13) rfl (hD hby d25_12) rfl ?_
    refine g_bipush X0 hx (pc' := 15) (z := (97 : Int32)) rfl (hD hby d25_13) rfl ?_
    refine g_icmp X0 hx (pcY := 24) (pcN := 18) (hD hby d25_15) (by decide) (by decide) rfl (fun hc15 => ?_) (fun hc15 => ?_)
    · replace hc15 : c' < (97 : Int32) := hc15
      refine g_iloadN X0 hx (pc' := 25) rfl (hD hby d25_24) rfl ?_
      refine g_bipush X0 hx (pc' := 27) (z := (48 : Int32)) rfl (hD hby d25_25) rfl ?_
      refine g_icmp X0 hx (pcY := 40) (pcN := 30) (hD hby d25_27) (by decide) (by decide) rfl (fun hc27 => ?_) (fun hc27 => ?_)
      · replace hc27 : c' < (48 : Int32) := hc27
        refine g_iconst X0 hx (pc' := 41) (z := (0 : Int32)) rfl (hD hby d25_40) rfl ?_
        exact g_retZ X0 hx hlk hret (by first | exact Or.inl rfl | exact Or.inr rfl) (hD hby d25_41) (by decide) (by decide) (Nat.le_refl _) (⟨by simp [alb, hc3, hc15, hc27], rfl⟩)
      · replace hc27 : ¬ c' < (48 : Int32) := hc27
        refine g_iloadN X0 hx (pc' := 31) rfl (hD hby d25_30) rfl ?_
        refine g_bipush X0 hx (pc' := 33) (z := (57 : Int32)) rfl (hD hby d25_31) rfl ?_
        refine g_icmp X0 hx (pcY := 40) (pcN := 36) (hD hby d25_33) (by decide) (by decide) rfl (fun hc33 => ?_) (fun hc33 => ?_)
        · replace hc33 : (57 : Int32) < c' := hc33
          refine g_iconst X0 hx (pc' := 41) (z := (0 : Int32)) rfl (hD hby d25_40) rfl ?_
          exact g_retZ X0 hx hlk hret (by first | exact Or.inl rfl | exact Or.inr rfl) (hD hby d25_41) (by decide) (by decide) (Nat.le_refl _) (⟨by simp [alb, hc3, hc15, hc27, hc33], rfl⟩)
        · replace hc33 : ¬ (57 : Int32) < c' := hc33
          refine g_iconst X0 hx (pc' := 37) (z := (1 : Int32)) rfl (hD hby d25_36) rfl ?_
          refine g_goto X0 hx (pc' := 41) (hD hby d25_37) (by decide) (by decide) ?_
          exact g_retZ X0 hx hlk hret (by first | exact Or.inl rfl | exact Or.inr rfl) (hD hby d25_41) (by decide) (by decide) (Nat.le_refl _) (⟨by simp [alb, hc3, hc15, hc27, hc33], rfl⟩)
    · replace hc15 : ¬ c' < (97 : Int32) := hc15
      refine g_iloadN X0 hx (pc' := 19) rfl (hD hby d25_18) rfl ?_
      refine g_bipush X0 hx (pc' := 21) (z := (122 : Int32)) rfl (hD hby d25_19) rfl ?_
      refine g_icmp X0 hx (pcY := 36) (pcN := 24) (hD hby d25_21) (by decide) (by decide) rfl (fun hc21 => ?_) (fun hc21 => ?_)
      · replace hc21 : ¬ (122 : Int32) < c' := hc21
        refine g_iconst X0 hx (pc' := 37) (z := (1 : Int32)) rfl (hD hby d25_36) rfl ?_
        refine g_goto X0 hx (pc' := 41) (hD hby d25_37) (by decide) (by decide) ?_
        exact g_retZ X0 hx hlk hret (by first | exact Or.inl rfl | exact Or.inr rfl) (hD hby d25_41) (by decide) (by decide) (Nat.le_refl _) (⟨by simp [alb, hc3, hc15, hc21], rfl⟩)
      · replace hc21 : (122 : Int32) < c' := Classical.not_not.mp hc21
        refine g_iloadN X0 hx (pc' := 25) rfl (hD hby d25_24) rfl ?_
        refine g_bipush X0 hx (pc' := 27) (z := (48 : Int32)) rfl (hD hby d25_25) rfl ?_
        refine g_icmp X0 hx (pcY := 40) (pcN := 30) (hD hby d25_27) (by decide) (by decide) rfl (fun hc27 => ?_) (fun hc27 => ?_)
        · replace hc27 : c' < (48 : Int32) := hc27
          refine g_iconst X0 hx (pc' := 41) (z := (0 : Int32)) rfl (hD hby d25_40) rfl ?_
          exact g_retZ X0 hx hlk hret (by first | exact Or.inl rfl | exact Or.inr rfl) (hD hby d25_41) (by decide) (by decide) (Nat.le_refl _) (⟨by simp [alb, hc3, hc15, hc21, hc27], rfl⟩)
        · replace hc27 : ¬ c' < (48 : Int32) := hc27
          refine g_iloadN X0 hx (pc' := 31) rfl (hD hby d25_30) rfl ?_
          refine g_bipush X0 hx (pc' := 33) (z := (57 : Int32)) rfl (hD hby d25_31) rfl ?_
          refine g_icmp X0 hx (pcY := 40) (pcN := 36) (hD hby d25_33) (by decide) (by decide) rfl (fun hc33 => ?_) (fun hc33 => ?_)
          · replace hc33 : (57 : Int32) < c' := hc33
            refine g_iconst X0 hx (pc' := 41) (z := (0 : Int32)) rfl (hD hby d25_40) rfl ?_
            exact g_retZ X0 hx hlk hret (by first | exact Or.inl rfl | exact Or.inr rfl) (hD hby d25_41) (by decide) (by decide) (Nat.le_refl _) (⟨by simp [alb, hc3, hc15, hc21, hc27, hc33], rfl⟩)
          · replace hc33 : ¬ (57 : Int32) < c' := hc33
            refine g_iconst X0 hx (pc' := 37) (z := (1 : Int32)) rfl (hD hby d25_36) rfl ?_
            refine g_goto X0 hx (pc' := 41) (hD hby d25_37) (by decide) (by decide) ?_
            exact g_retZ X0 hx hlk hret (by first | exact Or.inl rfl | exact Or.inr rfl) (hD hby d25_41) (by decide) (by decide) (Nat.le_refl _) (⟨by simp [alb, hc3, hc15, hc21, hc27, hc33], rfl⟩)
  · replace hc3 : ¬ c' < (65 : Int32) := hc3
    refine g_iloadN X0 hx (pc' := 7) rfl (hD hby d25_6) rfl ?_
    refine g_bipush X0 hx (pc' := 9) (z := (90 : Int32)) rfl (hD hby d25_7) rfl ?_
    refine g_icmp X0 hx (pcY := 36) (pcN := 12) (hD hby d25_9) (by decide) (by decide) rfl (fun hc9 => ?_) (fun hc9 => ?_)
    · replace hc9 : ¬ (90 : Int32) < c' := hc9
      refine g_iconst X0 hx (pc' := 37) (z := (1 : Int32)) rfl (hD hby d25_36) rfl ?_
      refine g_goto X0 hx (pc' := 41) (hD hby d25_37) (by decide) (by decide) ?_
      exact g_retZ X0 hx hlk hret (by first | exact Or.inl rfl | exact Or.inr rfl) (hD hby d25_41) (by decide) (by decide) (Nat.le_refl _) (⟨by simp [alb, hc3, hc9], rfl⟩)
    · replace hc9 : (90 : Int32) < c' := Classical.not_not.mp hc9
      refine g_iloadN X0 hx (pc' := 13) rfl (hD hby d25_12) rfl ?_
      refine g_bipush X0 hx (pc' := 15) (z := (97 : Int32)) rfl (hD hby d25_13) rfl ?_
      refine g_icmp X0 hx (pcY := 24) (pcN := 18) (hD hby d25_15) (by decide) (by decide) rfl (fun hc15 => ?_) (fun hc15 => ?_)
      · replace hc15 : c' < (97 : Int32) := hc15
        refine g_iloadN X0 hx (pc' := 25) rfl (hD hby d25_24) rfl ?_
        refine g_bipush X0 hx (pc' := 27) (z := (48 : Int32)) rfl (hD hby d25_25) rfl ?_
        refine g_icmp X0 hx (pcY := 40) (pcN := 30) (hD hby d25_27) (by decide) (by decide) rfl (fun hc27 => ?_) (fun hc27 => ?_)
        · replace hc27 : c' < (48 : Int32) := hc27
          refine g_iconst X0 hx (pc' := 41) (z := (0 : Int32)) rfl (hD hby d25_40) rfl ?_
          exact g_retZ X0 hx hlk hret (by first | exact Or.inl rfl | exact Or.inr rfl) (hD hby d25_41) (by decide) (by decide) (Nat.le_refl _) (⟨by simp [alb, hc3, hc9, hc15, hc27], rfl⟩)
        · replace hc27 : ¬ c' < (48 : Int32) := hc27
          refine g_iloadN X0 hx (pc' := 31) rfl (hD hby d25_30) rfl ?_
          refine g_bipush X0 hx (pc' := 33) (z := (57 : Int32)) rfl (hD hby d25_31) rfl ?_
          refine g_icmp X0 hx (pcY := 40) (pcN := 36) (hD hby d25_33) (by decide) (by decide) rfl (fun hc33 => ?_) (fun hc33 => ?_)
          · replace hc33 : (57 : Int32) < c' := hc33
            refine g_iconst X0 hx (pc' := 41) (z := (0 : Int32)) rfl (hD hby d25_40) rfl ?_
            exact g_retZ X0 hx hlk hret (by first | exact Or.inl rfl | exact Or.inr rfl) (hD hby d25_41) (by decide) (by decide) (Nat.le_refl _) (⟨by simp [alb, hc3, hc9, hc15, hc27, hc33], rfl⟩)
          · replace hc33 : ¬ (57 : Int32) < c' := hc33
            refine g_iconst X0 hx (pc' := 37) (z := (1 : Int32)) rfl (hD hby d25_36) rfl ?_
            refine g_goto X0 hx (pc' := 41) (hD hby d25_37) (by decide) (by decide) ?_
            exact g_retZ X0 hx hlk hret (by first | exact Or.inl rfl | exact Or.inr rfl) (hD hby d25_41) (by decide) (by decide) (Nat.le_refl _) (⟨by simp [alb, hc3, hc9, hc15, hc27, hc33], rfl⟩)
      · replace hc15 : ¬ c' < (97 : Int32) := hc15
        refine g_iloadN X0 hx (pc' := 19) rfl (hD hby d25_18) rfl ?_
        refine g_bipush X0 hx (pc' := 21) (z := (122 : Int32)) rfl (hD hby d25_19) rfl ?_
        refine g_icmp X0 hx (pcY := 36) (pcN := 24) (hD hby d25_21) (by decide) (by decide) rfl (fun hc21 => ?_) (fun hc21 => ?_)
        · replace hc21 : ¬ (122 : Int32) < c' := hc21
          refine g_iconst X0 hx (pc' := 37) (z := (1 : Int32)) rfl (hD hby d25_36) rfl ?_
          refine g_goto X0 hx (pc' := 41) (hD hby d25_37) (by decide) (by decide) ?_
          exact g_retZ X0 hx hlk hret (by first | exact Or.inl rfl | exact Or.inr rfl) (hD hby d25_41) (by decide) (by decide) (Nat.le_refl _) (⟨by simp [alb, hc3, hc9, hc15, hc21], rfl⟩)
        · replace hc21 : (122 : Int32) < c' := Classical.not_not.mp hc21
          refine g_iloadN X0 hx (pc' := 25) rfl (hD hby d25_24) rfl ?_
          refine g_bipush X0 hx (pc' := 27) (z := (48 : Int32)) rfl (hD hby d25_25) rfl ?_
          refine g_icmp X0 hx (pcY := 40) (pcN := 30) (hD hby d25_27) (by decide) (by decide) rfl (fun hc27 => ?_) (fun hc27 => ?_)
          · replace hc27 : c' < (48 : Int32) := hc27
            refine g_iconst X0 hx (pc' := 41) (z := (0 : Int32)) rfl (hD hby d25_40) rfl ?_
            exact g_retZ X0 hx hlk hret (by first | exact Or.inl rfl | exact Or.inr rfl) (hD hby d25_41) (by decide) (by decide) (Nat.le_refl _) (⟨by simp [alb, hc3, hc9, hc15, hc21, hc27], rfl⟩)
          · replace hc27 : ¬ c' < (48 : Int32) := hc27
            refine g_iloadN X0 hx (pc' := 31) rfl (hD hby d25_30) rfl ?_
            refine g_bipush X0 hx (pc' := 33) (z := (57 : Int32)) rfl (hD hby d25_31) rfl ?_
            refine g_icmp X0 hx (pcY := 40) (pcN := 36) (hD hby d25_33) (by decide) (by decide) rfl (fun hc33 => ?_) (fun hc33 => ?_)
            · replace hc33 : (57 : Int32) < c' := hc33
              refine g_iconst X0 hx (pc' := 41) (z := (0 : Int32)) rfl (hD hby d25_40) rfl ?_
              exact g_retZ X0 hx hlk hret (by first | exact Or.inl rfl | exact Or.inr rfl) (hD hby d25_41) (by decide) (by decide) (Nat.le_refl _) (⟨by simp [alb, hc3, hc9, hc15, hc21, hc27, hc33], rfl⟩)
            · replace hc33 : ¬ (57 : Int32) < c' := hc33
              refine g_iconst X0 hx (pc' := 37) (z := (1 : Int32)) rfl (hD hby d25_36) rfl ?_
              refine g_goto X0 hx (pc' := 41) (hD hby d25_37) (by decide) (by decide) ?_
              exact g_retZ X0 hx hlk hret (by first | exact Or.inl rfl | exact Or.inr rfl) (hD hby d25_41) (by decide) (by decide) (Nat.le_refl _) (⟨by simp [alb, hc3, hc9, hc15, hc21, hc27, hc33], rfl⟩)
theorem own_bitY {E : Int64} {b : Bool} (h : E = if b then 1 else 0) (q : lcmpW E 0 = 0) : b = false := by subst h; cases b; rfl; exact absurd q (by decide)
theorem own_bitN {E : Int64} {b : Bool} (h : E = if b then 1 else 0) (q : ¬ lcmpW E 0 = 0) : b = true := by subst h; cases b; exact absurd (by decide) q; rfl
theorem own_c64 {c : Int32} (h : c < 64) : c.toInt < 64 := by rw [Int32.lt_iff_toInt_lt] at h; exact h
theorem own_c64' {c : Int32} (h : ¬ c < 64) : 64 ≤ c.toInt := by
  rw [Int32.lt_iff_toInt_lt] at h; have : (64 : Int32).toInt = 64 := rfl
  omega
theorem own_c128 {c : Int32} (h : c < 128) : c.toInt < 128 := by rw [Int32.lt_iff_toInt_lt] at h; exact h
theorem rm12 (l : Launch) (Z : State) (a0 : Array Value) (hw : HW a0 Z) (ws : List Jvm.Cond) (n0 : Nat) (Ts : List String) (c' : Int32) (h0 : Heap) (hn0 : n0 ≤ h0.size) (hc : 0 ≤ c'.toInt ∧ c'.toInt < 65536) :
    Con l Z n0 Ts (Ts) (⟨"com/example/grantor/grantor/core/CodeChallengeIsWellFormedVerifierPinLaw", "unreserved", "(C)Z"⟩ : MethodName) method_2_code 5 (some .boolean) ws ({ frames := 0, cells := 0, slots := 0, locals := 0 } : Room) #[(.int c')] h0 (fun v h => v = some (.int (if okb c' then 1 else 0)) ∧ h = h0) := by
  refine con_start (fr0 := fun m => mkF m 0 #[.val (.int c'), .unset, .unset, .unset, .unset] []) ?_
  intro p e s m below meth c T0 hx hZ hby hml hown hnm hret hlk hsh XA
  have X0 := XA n0
  have hlow : n0 ≤ s.heap.size := by rw [hsh]; exact hn0
  replace hown : s.vm.findClass "com/example/grantor/grantor/core/CodeChallengeIsWellFormedVerifierPinLaw" = some m.cls := hown
  replace hml : c.maxLocals = 5 := hml
  refine g_ldc2L X0 hx hZ hown (wat hw 58 rfl) (pc' := 3) (v := (288054454291267584 : Int64)) rfl (hD hby d12_0) ?_
  refine g_lstoreN X0 hx (pc' := 4) rfl (hD hby d12_3) (l' := #[.val (.int c'), .val (.long (288054454291267584 : Int64)), .second, .unset, .unset]) rfl ?_
  refine g_ldc2L X0 hx hZ hown (wat hw 59 rfl) (pc' := 7) (v := (5188146764422578174 : Int64)) rfl (hD hby d12_4) ?_
  refine g_lstoreN X0 hx (pc' := 8) rfl (hD hby d12_7) (l' := #[.val (.int c'), .val (.long (288054454291267584 : Int64)), .second, .val (.long (5188146764422578174 : Int64)), .second]) rfl ?_
  refine g_iloadN X0 hx (pc' := 9) rfl (hD hby d12_8) rfl ?_
  refine g_bipush X0 hx (pc' := 11) (z := (64 : Int32)) rfl (hD hby d12_9) rfl ?_
  refine g_icmp X0 hx (pcY := 30) (pcN := 14) (hD hby d12_11) (by decide) (by decide) rfl (fun hc11 => ?_) (fun hc11 => ?_)
  · replace hc11 : ¬ c' < (64 : Int32) := hc11
    refine g_iloadN X0 hx (pc' := 31) rfl (hD hby d12_30) rfl ?_
    refine g_sipush X0 hx (pc' := 34) (z := (128 : Int32)) rfl (hD hby d12_31) rfl ?_
    refine g_icmp X0 hx (pcY := 56) (pcN := 37) (hD hby d12_34) (by decide) (by decide) rfl (fun hc34 => ?_) (fun hc34 => ?_)
    · replace hc34 : ¬ c' < (128 : Int32) := hc34
      refine g_iconst X0 hx (pc' := 57) (z := (0 : Int32)) rfl (hD hby d12_56) rfl ?_
      exact g_retZ X0 hx hlk hret (by first | exact Or.inl rfl | exact Or.inr rfl) (hD hby d12_57) (by decide) (by decide) (Nat.le_refl _) (⟨by rw [okb_big hc34]; rfl, rfl⟩)
    · replace hc34 : c' < (128 : Int32) := Classical.not_not.mp hc34
      refine g_lloadN X0 hx (pc' := 38) rfl (hD hby d12_37) rfl ?_
      refine g_iloadN X0 hx (pc' := 39) rfl (hD hby d12_38) rfl ?_
      refine g_bipush X0 hx (pc' := 41) (z := (64 : Int32)) rfl (hD hby d12_39) rfl ?_
      refine g_isub X0 hx (pc' := 42) rfl (hD hby d12_41) ?_
      refine g_lushr X0 hx (pc' := 43) rfl (hD hby d12_42) ?_
      refine g_lconst X0 hx (pc' := 44) (z := (1 : Int64)) rfl (hD hby d12_43) rfl ?_
      refine g_land X0 hx (pc' := 45) rfl (hD hby d12_44) ?_
      refine g_lconst X0 hx (pc' := 46) (z := (0 : Int64)) rfl (hD hby d12_45) rfl ?_
      refine g_lcmp X0 hx (pc' := 47) rfl (hD hby d12_46) ?_
      refine g_if X0 hx (pcY := 54) (pcN := 50) (hD hby d12_47) (by decide) (by decide) rfl (fun hc47 => ?_) (fun hc47 => ?_)
      · replace hc47 : (lcmpW ((((5188146764422578174 : Int64).toUInt64 >>> ((c' - (64 : Int32)) &&& 0x3f).toInt64.toUInt64).toInt64) &&& (1 : Int64)) (0 : Int64)) = 0 := hc47
        refine g_iconst X0 hx (pc' := 55) (z := (0 : Int32)) rfl (hD hby d12_54) rfl ?_
        exact g_retZ X0 hx hlk hret (by first | exact Or.inl rfl | exact Or.inr rfl) (hD hby d12_55) (by decide) (by decide) (Nat.le_refl _) (⟨by rw [own_bitY (own_hi (own_c64' hc11) (own_c128 hc34)) hc47]; rfl, rfl⟩)
      · replace hc47 : ¬ (lcmpW ((((5188146764422578174 : Int64).toUInt64 >>> ((c' - (64 : Int32)) &&& 0x3f).toInt64.toUInt64).toInt64) &&& (1 : Int64)) (0 : Int64)) = 0 := hc47
        refine g_iconst X0 hx (pc' := 51) (z := (1 : Int32)) rfl (hD hby d12_50) rfl ?_
        refine g_goto X0 hx (pc' := 55) (hD hby d12_51) (by decide) (by decide) ?_
        exact g_retZ X0 hx hlk hret (by first | exact Or.inl rfl | exact Or.inr rfl) (hD hby d12_55) (by decide) (by decide) (Nat.le_refl _) (⟨by rw [own_bitN (own_hi (own_c64' hc11) (own_c128 hc34)) hc47]; rfl, rfl⟩)
  · replace hc11 : c' < (64 : Int32) := Classical.not_not.mp hc11
    refine g_lloadN X0 hx (pc' := 15) rfl (hD hby d12_14) rfl ?_
    refine g_iloadN X0 hx (pc' := 16) rfl (hD hby d12_15) rfl ?_
    refine g_lushr X0 hx (pc' := 17) rfl (hD hby d12_16) ?_
    refine g_lconst X0 hx (pc' := 18) (z := (1 : Int64)) rfl (hD hby d12_17) rfl ?_
    refine g_land X0 hx (pc' := 19) rfl (hD hby d12_18) ?_
    refine g_lconst X0 hx (pc' := 20) (z := (0 : Int64)) rfl (hD hby d12_19) rfl ?_
    refine g_lcmp X0 hx (pc' := 21) rfl (hD hby d12_20) ?_
    refine g_if X0 hx (pcY := 28) (pcN := 24) (hD hby d12_21) (by decide) (by decide) rfl (fun hc21 => ?_) (fun hc21 => ?_)
    · replace hc21 : (lcmpW ((((288054454291267584 : Int64).toUInt64 >>> (c' &&& 0x3f).toInt64.toUInt64).toInt64) &&& (1 : Int64)) (0 : Int64)) = 0 := hc21
      refine g_iconst X0 hx (pc' := 29) (z := (0 : Int32)) rfl (hD hby d12_28) rfl ?_
      exact g_retZ X0 hx hlk hret (by first | exact Or.inl rfl | exact Or.inr rfl) (hD hby d12_29) (by decide) (by decide) (Nat.le_refl _) (⟨by rw [own_bitY (own_lo hc.1 (own_c64 hc11)) hc21]; rfl, rfl⟩)
    · replace hc21 : ¬ (lcmpW ((((288054454291267584 : Int64).toUInt64 >>> (c' &&& 0x3f).toInt64.toUInt64).toInt64) &&& (1 : Int64)) (0 : Int64)) = 0 := hc21
      refine g_iconst X0 hx (pc' := 25) (z := (1 : Int32)) rfl (hD hby d12_24) rfl ?_
      refine g_goto X0 hx (pc' := 29) (hD hby d12_25) (by decide) (by decide) ?_
      exact g_retZ X0 hx hlk hret (by first | exact Or.inl rfl | exact Or.inr rfl) (hD hby d12_29) (by decide) (by decide) (Nat.le_refl _) (⟨by rw [own_bitN (own_lo hc.1 (own_c64 hc11)) hc21]; rfl, rfl⟩)
theorem own_ge {i' n' : Int32} {i : Nat} {cs : List Int32} (hi : i'.toInt = (i : Int)) (hn : n'.toInt = (cs.length : Int)) (h : i = cs.length) : ¬ i' < n' := by
  rw [Int32.lt_iff_toInt_lt]; omega
theorem own_r1 {r' : Int32} {cs : List Int32} {i : Nat} (hr : (r' = 1 ∧ ∀ j, j < cs.length → okb (cs.getD j 0) = true) ∨ (r' = 0 ∧ ∃ j, j < cs.length ∧ okb (cs.getD j 0) = false)) (hall : ∀ j, j < i → okb (cs.getD j 0) = true) (h : i = cs.length) : r' = 1 := by
  rcases hr with q | ⟨-, j, h1, h2⟩
  · exact q.1
  · rw [hall j (by omega)] at h2; cases h2
theorem own_r0 {r' : Int32} {cs : List Int32} {i : Nat} (hr : (r' = 1 ∧ ∀ j, j < cs.length → okb (cs.getD j 0) = true) ∨ (r' = 0 ∧ ∃ j, j < cs.length ∧ okb (cs.getD j 0) = false)) (h : i < cs.length) (hb : okb (cs.getD i 0) = false) : r' = 0 := by
  rcases hr with ⟨-, q⟩ | q
  · rw [q i h] at hb; cases hb
  · exact q.1
theorem own_hall {cs : List Int32} {i : Nat} (hall : ∀ j, j < i → okb (cs.getD j 0) = true) (h : okb (cs.getD i 0) = true) : ∀ j, j < i + 1 → okb (cs.getD j 0) = true := fun j hj => by
  by_cases q : j = i
  · rw [q]; exact h
  · exact hall j (by omega)
theorem own_a45 {c : Int32} (h : ¬ (if alb c then (1 : Int32) else 0) = 0) : alb c = true := by cases q : alb c; rw [q] at h; exact absurd rfl h; rfl
theorem own_n45 {c : Int32} (h : (if alb c then (1 : Int32) else 0) = 0) : alb c = false := by cases q : alb c; rfl; rw [q] at h; exact absurd h (by decide)
theorem lp9 (l : Launch) (Z : State) (a0 : Array Value) (hw : HW a0 Z) (n0 : Nat) (Ts : List String) (t : Addr) (cs : List Int32) (n' m' r' : Int32) (fo : Value) (cz : Int32) {h0 : Heap} (hn0 : n0 ≤ h0.size) {p : Program} {e : Env} {s : State} {m : MethodId} {below : List Frame} {meth : Method} {c : Code} (hx : p.tables.exec = Jvm.exec) (hZ : Z.Warmed39 s.vm) (hby : c.code = prog_9_method_3_code) (hml : c.maxLocals = 3) (hown : s.vm.findClass "com/example/grantor/grantor/core/CodeChallenge" = some m.cls) (hret : meth.sig.returnType = some .boolean) (hlk : meth.locks = false) (O4 : St1 Z fo) (hfo : fo.isRef = true) (U1 : St2 Z (.int 1)) (U2 : St3 Z (.int 0)) (U3 : St4 Z (.int 8)) (O2 : St0 Z (.int cz)) (hcz : ¬ cz = 0) (OLD : OldP Z n0 h0) (S0 : StrC Z h0 t cs) (hb : cs.length < 500) (hn : n'.toInt = (cs.length : Int)) (hM : m'.toInt = ((2 * cs.length : Nat) : Int)) (hs : m' >>> ((1 : Int32) &&& 31) = n') (hr : (r' = 1 ∧ ∀ j, j < cs.length → okb (cs.getD j 0) = true) ∨ (r' = 0 ∧ ∃ j, j < cs.length ∧ okb (cs.getD j 0) = false)) :
    ∀ (r i : Nat) (i' : Int32) (c2 : Slot) (T0 : State) (h_c2 : c2 = .unset ∨ ∃ z, c2 = .val (.int z)) (hir : i + r = cs.length) (hi : i'.toInt = (i : Int)) (hall : ∀ j, j < i → okb (cs.getD j 0) = true) (X0 : Wk p l e ({ frames := 5, cells := 0, slots := 0, locals := 120 } : Room) s m #[(.ref t)] below meth c n0 Z (Ts) [] T0 h0 0 0), Go p e below s n0 ((Z, (Ts), fun v h => v = some (.int r') ∧ h = h0) : GQ) ({ frames := 5, cells := 0, slots := 0, locals := 120 } : Room).cells ({ frames := 5, cells := 0, slots := 0, locals := 120 } : Room).slots (T0.setTop (mkF m 27 #[.val (.ref t), .val (.int i'), c2] [])) := by
  intro r
  induction r with
  | zero =>
    intro i i' c2 T0 h_c2 hir hi hall X0
    refine g_iloadN X0 hx (pc' := 28) rfl (hD hby d9_27) rfl ?_
    refine g_aloadN X0 hx (pc' := 29) rfl (hD hby d9_28) rfl rfl ?_
    refine g_callV X0 hx hZ hown (wat hw 42 rfl) (wat hw 43 rfl) (wat hw 45 rfl) (wat hw 44 rfl) (wat hw 11 rfl) (wat hw 46 rfl) (by decide) (a := t) S0.1 (rm10 l Z a0 hw [] n0 (Ts) t cs n' m' cz h0 hn0 O2 hcz OLD S0 hn hM hs) pd_7 rfl rfl (pc' := 32) rfl (hD hby d9_29) (argsL := []) (rest := [(.int i')]) rfl (W := 1) (fun v54 T54 h54 X54 hQ54 => ?_)
    obtain ⟨rfl, he54⟩ := hQ54
    rw [he54] at X54
    show Go p e below s n0 _ _ _ (T54.setTop (mkF m 32 _ [(.int n'), (.int i')]))
    refine g_icmpY X54 hx (pcY := 80) (hD hby d9_32) (by decide) (by decide) (show ¬ i' < n' from own_ge hi hn (by omega)) ?_
    refine g_iconst X54 hx (pc' := 81) (z := (1 : Int32)) rfl (hD hby d9_80) rfl ?_
    exact g_retZ X54 hx hlk hret (by first | exact Or.inl rfl | exact Or.inr rfl) (hD hby d9_81) (by decide) (by decide) (Nat.le_refl _) (⟨congrArg (fun z => some (Value.int z)) (own_r1 hr hall (by omega)).symm, rfl⟩)
  | succ r ih =>
    intro i i' c2 T0 h_c2 hir hi hall X0
    refine g_iloadN X0 hx (pc' := 28) rfl (hD hby d9_27) rfl ?_
    refine g_aloadN X0 hx (pc' := 29) rfl (hD hby d9_28) rfl rfl ?_
    refine g_callV X0 hx hZ hown (wat hw 42 rfl) (wat hw 43 rfl) (wat hw 45 rfl) (wat hw 44 rfl) (wat hw 11 rfl) (wat hw 46 rfl) (by decide) (a := t) S0.1 (rm10 l Z a0 hw [] n0 (Ts) t cs n' m' cz h0 hn0 O2 hcz OLD S0 hn hM hs) pd_7 rfl rfl (pc' := 32) rfl (hD hby d9_29) (argsL := []) (rest := [(.int i')]) rfl (W := 1) (fun v55 T55 h55 X55 hQ55 => ?_)
    obtain ⟨rfl, he55⟩ := hQ55
    rw [he55] at X55
    show Go p e below s n0 _ _ _ (T55.setTop (mkF m 32 _ [(.int n'), (.int i')]))
    refine g_icmpN X55 hx (pcN := 35) (hD hby d9_32) rfl (show ¬ (¬ i' < n') from not_not_intro (own_ix hi (by omega) hn).2) ?_
    refine g_aloadN X55 hx (pc' := 36) rfl (hD hby d9_35) rfl rfl ?_
    refine g_iloadN X55 hx (pc' := 37) rfl (hD hby d9_36) rfl ?_
    refine g_callV X55 hx hZ hown (wat hw 79 rfl) (wat hw 80 rfl) (wat hw 82 rfl) (wat hw 81 rfl) (wat hw 11 rfl) (wat hw 83 rfl) (by decide) (a := t) S0.1 (rm18 l Z a0 hw [] n0 (Ts) t cs i' n' m' i fo cz h0 hn0 O4 hfo U1 U2 U3 O2 hcz OLD S0 hi (by omega) hb hn hM hs) pd_8 rfl rfl (pc' := 40) rfl (hD hby d9_37) (argsL := [(.int i')]) (rest := []) rfl (W := 0) (fun v56 T56 h56 X56 hQ56 => ?_)
    obtain ⟨rfl, he56⟩ := hQ56
    rw [he56] at X56
    show Go p e below s n0 _ _ _ (T56.setTop (mkF m 40 _ [(.int (cs.getD i 0))]))
    obtain ⟨cc, e_cc⟩ : ∃ z, z = cs.getD i 0 := ⟨_, rfl⟩
    refine g_normI (z := cc) e_cc.symm ?_
    refine g_istoreN X56 hx (pc' := 41) rfl (hD hby d9_40) (l' := #[.val (.ref t), .val (.int i'), .val (.int cc)]) (by rcases h_c2 with rfl | ⟨z, rfl⟩ <;> rfl) ?_
    refine g_iloadN X56 hx (pc' := 42) rfl (hD hby d9_41) rfl ?_
    refine g_callS X56 hx hZ hown (wat hw 106 rfl) (wat hw 107 rfl) (wat hw 40 rfl) (wat hw 108 rfl) (by decide) (rm25 l Z a0 hw [] n0 (Ts) (cc) h0 hn0 ) pd_9 rfl rfl (pc' := 45) rfl (hD hby d9_42) (argsL := [(.int cc)]) (rest := []) rfl (W := 0) (fun v57 T57 h57 X57 hQ57 => ?_)
    obtain ⟨rfl, he57⟩ := hQ57
    rw [he57] at X57
    show Go p e below s n0 _ _ _ (T57.setTop (mkF m 45 _ [(.int (if alb cc then (1 : Int32) else 0))]))
    refine g_if X57 hx (pcY := 74) (pcN := 48) (hD hby d9_45) (by decide) (by decide) rfl (fun hc45 => ?_) (fun hc45 => ?_)
    · replace hc45 : ¬ (if alb cc then (1 : Int32) else 0) = 0 := hc45
      have hok : okb cc = true := by simp [okb, own_a45 hc45]
      refine g_iinc X57 hx (pc' := 77) (x := i') rfl (hD hby d9_74) rfl (l' := #[.val (.ref t), .val (.int (i' + (1 : Int32))), .val (.int cc)]) rfl ?_
      refine g_goto X57 hx (pc' := 27) (hD hby d9_77) (by decide) (by decide) ?_
      exact ih (i + 1) _ _ _ (Or.inr ⟨_, rfl⟩) (by omega) (ar_add1 hi (by omega)) (own_hall hall (e_cc ▸ hok)) X57
    · replace hc45 : (if alb cc then (1 : Int32) else 0) = 0 := Classical.not_not.mp hc45
      refine g_iloadN X57 hx (pc' := 49) rfl (hD hby d9_48) rfl ?_
      refine g_bipush X57 hx (pc' := 51) (z := (45 : Int32)) rfl (hD hby d9_49) rfl ?_
      refine g_icmp X57 hx (pcY := 74) (pcN := 54) (hD hby d9_51) (by decide) (by decide) rfl (fun hc51 => ?_) (fun hc51 => ?_)
      · replace hc51 : cc = (45 : Int32) := hc51
        have hok : okb cc = true := by simp [okb, own_n45 hc45, hc51]
        refine g_iinc X57 hx (pc' := 77) (x := i') rfl (hD hby d9_74) rfl (l' := #[.val (.ref t), .val (.int (i' + (1 : Int32))), .val (.int cc)]) rfl ?_
        refine g_goto X57 hx (pc' := 27) (hD hby d9_77) (by decide) (by decide) ?_
        exact ih (i + 1) _ _ _ (Or.inr ⟨_, rfl⟩) (by omega) (ar_add1 hi (by omega)) (own_hall hall (e_cc ▸ hok)) X57
      · replace hc51 : ¬ cc = (45 : Int32) := hc51
        refine g_iloadN X57 hx (pc' := 55) rfl (hD hby d9_54) rfl ?_
        refine g_bipush X57 hx (pc' := 57) (z := (46 : Int32)) rfl (hD hby d9_55) rfl ?_
        refine g_icmp X57 hx (pcY := 74) (pcN := 60) (hD hby d9_57) (by decide) (by decide) rfl (fun hc57 => ?_) (fun hc57 => ?_)
        · replace hc57 : cc = (46 : Int32) := hc57
          have hok : okb cc = true := by simp [okb, own_n45 hc45, hc51, hc57]
          refine g_iinc X57 hx (pc' := 77) (x := i') rfl (hD hby d9_74) rfl (l' := #[.val (.ref t), .val (.int (i' + (1 : Int32))), .val (.int cc)]) rfl ?_
          refine g_goto X57 hx (pc' := 27) (hD hby d9_77) (by decide) (by decide) ?_
          exact ih (i + 1) _ _ _ (Or.inr ⟨_, rfl⟩) (by omega) (ar_add1 hi (by omega)) (own_hall hall (e_cc ▸ hok)) X57
        · replace hc57 : ¬ cc = (46 : Int32) := hc57
          refine g_iloadN X57 hx (pc' := 61) rfl (hD hby d9_60) rfl ?_
          refine g_bipush X57 hx (pc' := 63) (z := (95 : Int32)) rfl (hD hby d9_61) rfl ?_
          refine g_icmp X57 hx (pcY := 74) (pcN := 66) (hD hby d9_63) (by decide) (by decide) rfl (fun hc63 => ?_) (fun hc63 => ?_)
          · replace hc63 : cc = (95 : Int32) := hc63
            have hok : okb cc = true := by simp [okb, own_n45 hc45, hc51, hc57, hc63]
            refine g_iinc X57 hx (pc' := 77) (x := i') rfl (hD hby d9_74) rfl (l' := #[.val (.ref t), .val (.int (i' + (1 : Int32))), .val (.int cc)]) rfl ?_
            refine g_goto X57 hx (pc' := 27) (hD hby d9_77) (by decide) (by decide) ?_
            exact ih (i + 1) _ _ _ (Or.inr ⟨_, rfl⟩) (by omega) (ar_add1 hi (by omega)) (own_hall hall (e_cc ▸ hok)) X57
          · replace hc63 : ¬ cc = (95 : Int32) := hc63
            refine g_iloadN X57 hx (pc' := 67) rfl (hD hby d9_66) rfl ?_
            refine g_bipush X57 hx (pc' := 69) (z := (126 : Int32)) rfl (hD hby d9_67) rfl ?_
            refine g_icmp X57 hx (pcY := 74) (pcN := 72) (hD hby d9_69) (by decide) (by decide) rfl (fun hc69 => ?_) (fun hc69 => ?_)
            · replace hc69 : cc = (126 : Int32) := hc69
              have hok : okb cc = true := by simp [okb, own_n45 hc45, hc51, hc57, hc63, hc69]
              refine g_iinc X57 hx (pc' := 77) (x := i') rfl (hD hby d9_74) rfl (l' := #[.val (.ref t), .val (.int (i' + (1 : Int32))), .val (.int cc)]) rfl ?_
              refine g_goto X57 hx (pc' := 27) (hD hby d9_77) (by decide) (by decide) ?_
              exact ih (i + 1) _ _ _ (Or.inr ⟨_, rfl⟩) (by omega) (ar_add1 hi (by omega)) (own_hall hall (e_cc ▸ hok)) X57
            · replace hc69 : ¬ cc = (126 : Int32) := hc69
              refine g_iconst X57 hx (pc' := 73) (z := (0 : Int32)) rfl (hD hby d9_72) rfl ?_
              exact g_retZ X57 hx hlk hret (by first | exact Or.inl rfl | exact Or.inr rfl) (hD hby d9_73) (by decide) (by decide) (Nat.le_refl _) (⟨congrArg (fun z => some (Value.int z)) (own_r0 hr (by omega) (e_cc ▸ (by simp [okb, own_n45 hc45, hc51, hc57, hc63, hc69] : okb cc = false))).symm, rfl⟩)
theorem rm9 (l : Launch) (Z : State) (a0 : Array Value) (hw : HW a0 Z) (ws : List Jvm.Cond) (n0 : Nat) (Ts : List String) (t : Addr) (cs : List Int32) (n' m' r' : Int32) (fo : Value) (cz : Int32) (h0 : Heap) (hn0 : n0 ≤ h0.size) (O4 : St1 Z fo) (hfo : fo.isRef = true) (U1 : St2 Z (.int 1)) (U2 : St3 Z (.int 0)) (U3 : St4 Z (.int 8)) (O2 : St0 Z (.int cz)) (hcz : ¬ cz = 0) (OLD : OldP Z n0 h0) (S0 : StrC Z h0 t cs) (hb : cs.length < 500) (hn : n'.toInt = (cs.length : Int)) (hM : m'.toInt = ((2 * cs.length : Nat) : Int)) (hs : m' >>> ((1 : Int32) &&& 31) = n') (h43 : ¬ n' < (43 : Int32)) (h128 : ¬ (128 : Int32) < n') (hr : (r' = 1 ∧ ∀ j, j < cs.length → okb (cs.getD j 0) = true) ∨ (r' = 0 ∧ ∃ j, j < cs.length ∧ okb (cs.getD j 0) = false)) :
    Con l Z n0 Ts (Ts) (⟨"com/example/grantor/grantor/core/CodeChallenge", "isWellFormedVerifier", "(Ljava/lang/String;)Z"⟩ : MethodName) prog_9_method_3_code 3 (some .boolean) ws ({ frames := 5, cells := 0, slots := 0, locals := 120 } : Room) #[(.ref t)] h0 (fun v h => v = some (.int r') ∧ h = h0) := by
  refine con_start (fr0 := fun m => mkF m 0 #[.val (.ref t), .unset, .unset] []) ?_
  intro p e s m below meth c T0 hx hZ hby hml hown hnm hret hlk hsh XA
  have X0 := XA n0
  have hlow : n0 ≤ s.heap.size := by rw [hsh]; exact hn0
  replace hown : s.vm.findClass "com/example/grantor/grantor/core/CodeChallenge" = some m.cls := hown
  replace hml : c.maxLocals = 3 := hml
  refine g_aloadN X0 hx (pc' := 1) rfl (hD hby d9_0) rfl rfl ?_
  refine g_ifnullN X0 hx (pcN := 4) (hD hby d9_1) rfl ?_
  refine g_aloadN X0 hx (pc' := 5) rfl (hD hby d9_4) rfl rfl ?_
  refine g_callV X0 hx hZ hown (wat hw 42 rfl) (wat hw 43 rfl) (wat hw 45 rfl) (wat hw 44 rfl) (wat hw 11 rfl) (wat hw 46 rfl) (by decide) (a := t) S0.1 (rm10 l Z a0 hw [] n0 (Ts) t cs n' m' cz h0 hn0 O2 hcz OLD S0 hn hM hs) pd_7 rfl rfl (pc' := 8) rfl (hD hby d9_5) (argsL := []) (rest := []) rfl (W := 0) (fun v58 T58 h58 X58 hQ58 => ?_)
  obtain ⟨rfl, he58⟩ := hQ58
  rw [he58] at X58
  show Go p e below s n0 _ _ _ (T58.setTop (mkF m 8 _ [(.int n')]))
  refine g_bipush X58 hx (pc' := 10) (z := (43 : Int32)) rfl (hD hby d9_8) rfl ?_
  refine g_icmpN X58 hx (pcN := 13) (hD hby d9_10) rfl (show ¬ (n' < (43 : Int32)) from h43) ?_
  refine g_aloadN X58 hx (pc' := 14) rfl (hD hby d9_13) rfl rfl ?_
  refine g_callV X58 hx hZ hown (wat hw 42 rfl) (wat hw 43 rfl) (wat hw 45 rfl) (wat hw 44 rfl) (wat hw 11 rfl) (wat hw 46 rfl) (by decide) (a := t) S0.1 (rm10 l Z a0 hw [] n0 (Ts) t cs n' m' cz h0 hn0 O2 hcz OLD S0 hn hM hs) pd_7 rfl rfl (pc' := 17) rfl (hD hby d9_14) (argsL := []) (rest := []) rfl (W := 0) (fun v59 T59 h59 X59 hQ59 => ?_)
  obtain ⟨rfl, he59⟩ := hQ59
  rw [he59] at X59
  show Go p e below s n0 _ _ _ (T59.setTop (mkF m 17 _ [(.int n')]))
  refine g_sipush X59 hx (pc' := 20) (z := (128 : Int32)) rfl (hD hby d9_17) rfl ?_
  refine g_icmpY X59 hx (pcY := 25) (hD hby d9_20) (by decide) (by decide) (show ¬ (128 : Int32) < n' from h128) ?_
  refine g_iconst X59 hx (pc' := 26) (z := (0 : Int32)) rfl (hD hby d9_25) rfl ?_
  refine g_istoreN X59 hx (pc' := 27) rfl (hD hby d9_26) (l' := #[.val (.ref t), .val (.int 0), .unset]) rfl ?_
  exact lp9 l Z a0 hw n0 Ts t cs n' m' r' fo cz hn0 hx hZ hby hml hown hret hlk O4 hfo U1 U2 U3 O2 hcz OLD S0 hb hn hM hs hr cs.length 0 0 .unset T59 (Or.inl rfl) (by omega) rfl (fun j hj => absurd hj (Nat.not_lt_zero j)) X59
theorem rm9_s (l : Launch) (Z : State) (a0 : Array Value) (hw : HW a0 Z) (ws : List Jvm.Cond) (n0 : Nat) (Ts : List String) (t : Addr) (cs : List Int32) (n' m' : Int32) (cz : Int32) (h0 : Heap) (hn0 : n0 ≤ h0.size) (O2 : St0 Z (.int cz)) (hcz : ¬ cz = 0) (OLD : OldP Z n0 h0) (S0 : StrC Z h0 t cs) (hn : n'.toInt = (cs.length : Int)) (hM : m'.toInt = ((2 * cs.length : Nat) : Int)) (hs : m' >>> ((1 : Int32) &&& 31) = n') (h43 : n' < (43 : Int32)) :
    Con l Z n0 Ts (Ts) (⟨"com/example/grantor/grantor/core/CodeChallenge", "isWellFormedVerifier", "(Ljava/lang/String;)Z"⟩ : MethodName) prog_9_method_3_code 3 (some .boolean) ws ({ frames := 2, cells := 0, slots := 0, locals := 40 } : Room) #[(.ref t)] h0 (fun v h => v = some (.int 0) ∧ h = h0) := by
  refine con_start (fr0 := fun m => mkF m 0 #[.val (.ref t), .unset, .unset] []) ?_
  intro p e s m below meth c T0 hx hZ hby hml hown hnm hret hlk hsh XA
  have X0 := XA n0
  have hlow : n0 ≤ s.heap.size := by rw [hsh]; exact hn0
  replace hown : s.vm.findClass "com/example/grantor/grantor/core/CodeChallenge" = some m.cls := hown
  replace hml : c.maxLocals = 3 := hml
  refine g_aloadN X0 hx (pc' := 1) rfl (hD hby d9_0) rfl rfl ?_
  refine g_ifnullN X0 hx (pcN := 4) (hD hby d9_1) rfl ?_
  refine g_aloadN X0 hx (pc' := 5) rfl (hD hby d9_4) rfl rfl ?_
  refine g_callV X0 hx hZ hown (wat hw 42 rfl) (wat hw 43 rfl) (wat hw 45 rfl) (wat hw 44 rfl) (wat hw 11 rfl) (wat hw 46 rfl) (by decide) (a := t) S0.1 (rm10 l Z a0 hw [] n0 (Ts) t cs n' m' cz h0 hn0 O2 hcz OLD S0 hn hM hs) pd_7 rfl rfl (pc' := 8) rfl (hD hby d9_5) (argsL := []) (rest := []) rfl (W := 0) (fun v60 T60 h60 X60 hQ60 => ?_)
  obtain ⟨rfl, he60⟩ := hQ60
  rw [he60] at X60
  show Go p e below s n0 _ _ _ (T60.setTop (mkF m 8 _ [(.int n')]))
  refine g_bipush X60 hx (pc' := 10) (z := (43 : Int32)) rfl (hD hby d9_8) rfl ?_
  refine g_icmpY X60 hx (pcY := 23) (hD hby d9_10) (by decide) (by decide) (show n' < (43 : Int32) from h43) ?_
  refine g_iconst X60 hx (pc' := 24) (z := (0 : Int32)) rfl (hD hby d9_23) rfl ?_
  exact g_retZ X60 hx hlk hret (by first | exact Or.inl rfl | exact Or.inr rfl) (hD hby d9_24) (by decide) (by decide) (Nat.le_refl _) (⟨rfl, rfl⟩)
theorem rm9_g (l : Launch) (Z : State) (a0 : Array Value) (hw : HW a0 Z) (ws : List Jvm.Cond) (n0 : Nat) (Ts : List String) (t : Addr) (cs : List Int32) (n' m' : Int32) (cz : Int32) (h0 : Heap) (hn0 : n0 ≤ h0.size) (O2 : St0 Z (.int cz)) (hcz : ¬ cz = 0) (OLD : OldP Z n0 h0) (S0 : StrC Z h0 t cs) (hn : n'.toInt = (cs.length : Int)) (hM : m'.toInt = ((2 * cs.length : Nat) : Int)) (hs : m' >>> ((1 : Int32) &&& 31) = n') (h43 : ¬ n' < (43 : Int32)) (h128 : (128 : Int32) < n') :
    Con l Z n0 Ts (Ts) (⟨"com/example/grantor/grantor/core/CodeChallenge", "isWellFormedVerifier", "(Ljava/lang/String;)Z"⟩ : MethodName) prog_9_method_3_code 3 (some .boolean) ws ({ frames := 2, cells := 0, slots := 0, locals := 40 } : Room) #[(.ref t)] h0 (fun v h => v = some (.int 0) ∧ h = h0) := by
  refine con_start (fr0 := fun m => mkF m 0 #[.val (.ref t), .unset, .unset] []) ?_
  intro p e s m below meth c T0 hx hZ hby hml hown hnm hret hlk hsh XA
  have X0 := XA n0
  have hlow : n0 ≤ s.heap.size := by rw [hsh]; exact hn0
  replace hown : s.vm.findClass "com/example/grantor/grantor/core/CodeChallenge" = some m.cls := hown
  replace hml : c.maxLocals = 3 := hml
  refine g_aloadN X0 hx (pc' := 1) rfl (hD hby d9_0) rfl rfl ?_
  refine g_ifnullN X0 hx (pcN := 4) (hD hby d9_1) rfl ?_
  refine g_aloadN X0 hx (pc' := 5) rfl (hD hby d9_4) rfl rfl ?_
  refine g_callV X0 hx hZ hown (wat hw 42 rfl) (wat hw 43 rfl) (wat hw 45 rfl) (wat hw 44 rfl) (wat hw 11 rfl) (wat hw 46 rfl) (by decide) (a := t) S0.1 (rm10 l Z a0 hw [] n0 (Ts) t cs n' m' cz h0 hn0 O2 hcz OLD S0 hn hM hs) pd_7 rfl rfl (pc' := 8) rfl (hD hby d9_5) (argsL := []) (rest := []) rfl (W := 0) (fun v61 T61 h61 X61 hQ61 => ?_)
  obtain ⟨rfl, he61⟩ := hQ61
  rw [he61] at X61
  show Go p e below s n0 _ _ _ (T61.setTop (mkF m 8 _ [(.int n')]))
  refine g_bipush X61 hx (pc' := 10) (z := (43 : Int32)) rfl (hD hby d9_8) rfl ?_
  refine g_icmpN X61 hx (pcN := 13) (hD hby d9_10) rfl (show ¬ (n' < (43 : Int32)) from h43) ?_
  refine g_aloadN X61 hx (pc' := 14) rfl (hD hby d9_13) rfl rfl ?_
  refine g_callV X61 hx hZ hown (wat hw 42 rfl) (wat hw 43 rfl) (wat hw 45 rfl) (wat hw 44 rfl) (wat hw 11 rfl) (wat hw 46 rfl) (by decide) (a := t) S0.1 (rm10 l Z a0 hw [] n0 (Ts) t cs n' m' cz h0 hn0 O2 hcz OLD S0 hn hM hs) pd_7 rfl rfl (pc' := 17) rfl (hD hby d9_14) (argsL := []) (rest := []) rfl (W := 0) (fun v62 T62 h62 X62 hQ62 => ?_)
  obtain ⟨rfl, he62⟩ := hQ62
  rw [he62] at X62
  show Go p e below s n0 _ _ _ (T62.setTop (mkF m 17 _ [(.int n')]))
  refine g_sipush X62 hx (pc' := 20) (z := (128 : Int32)) rfl (hD hby d9_17) rfl ?_
  refine g_icmpN X62 hx (pcN := 23) (hD hby d9_20) rfl (show ¬ (¬ (128 : Int32) < n') from not_not_intro h128) ?_
  refine g_iconst X62 hx (pc' := 24) (z := (0 : Int32)) rfl (hD hby d9_23) rfl ?_
  exact g_retZ X62 hx hlk hret (by first | exact Or.inl rfl | exact Or.inr rfl) (hD hby d9_24) (by decide) (by decide) (Nat.le_refl _) (⟨rfl, rfl⟩)
theorem rm9_0 (l : Launch) (Z : State) (a0 : Array Value) (hw : HW a0 Z) (ws : List Jvm.Cond) (n0 : Nat) (Ts : List String)  (h0 : Heap) (hn0 : n0 ≤ h0.size)  :
    Con l Z n0 Ts (Ts) (⟨"com/example/grantor/grantor/core/CodeChallenge", "isWellFormedVerifier", "(Ljava/lang/String;)Z"⟩ : MethodName) prog_9_method_3_code 3 (some .boolean) ws ({ frames := 0, cells := 0, slots := 0, locals := 0 } : Room) #[.null] h0 (fun v h => v = some (.int 0) ∧ h = h0) := by
  refine con_start (fr0 := fun m => mkF m 0 #[.val .null, .unset, .unset] []) ?_
  intro p e s m below meth c T0 hx hZ hby hml hown hnm hret hlk hsh XA
  have X0 := XA n0
  have hlow : n0 ≤ s.heap.size := by rw [hsh]; exact hn0
  replace hown : s.vm.findClass "com/example/grantor/grantor/core/CodeChallenge" = some m.cls := hown
  replace hml : c.maxLocals = 3 := hml
  refine g_aloadN X0 hx (pc' := 1) rfl (hD hby d9_0) rfl rfl ?_
  refine g_ifnullY X0 hx (pcY := 23) (hD hby d9_1) (by decide) (by decide) ?_
  refine g_iconst X0 hx (pc' := 24) (z := (0 : Int32)) rfl (hD hby d9_23) rfl ?_
  exact g_retZ X0 hx hlk hret (by first | exact Or.inl rfl | exact Or.inr rfl) (hD hby d9_24) (by decide) (by decide) (Nat.le_refl _) (⟨rfl, rfl⟩)
theorem own_n15 {n' : Int32} {n : Nat} (hn : n'.toInt = (n : Int)) (hb : n < 500) : ¬ n' < 0 ∧ n' < (1073741823 : Int32) := by
  refine ⟨(own_idx hn).2, ?_⟩
  rw [Int32.lt_iff_toInt_lt]; have e : (1073741823 : Int32).toInt = 1073741823 := rfl
  omega
theorem ar_sub0 (x : Int32) : x - 0 = x := by simp
theorem rm15 (l : Launch) (Z : State) (a0 : Array Value) (hw : HW a0 Z) (ws : List Jvm.Cond) (n0 : Nat) (Ts : List String) (cs : List Int32) (n' m' : Int32) (h0 : Heap) (hn0 : n0 ≤ h0.size) (hn : n'.toInt = (cs.length : Int)) (hM : m'.toInt = ((2 * cs.length : Nat) : Int)) (hm : n' <<< ((1 : Int32) &&& 31) = m') (h129 : cs.length ≤ 129) :
    Con l Z n0 Ts (Ts) (⟨"java/lang/StringUTF16", "newBytesLength", "(I)I"⟩ : MethodName) jdk_52_method_3_code 1 (some .int) ws ({ frames := 0, cells := 0, slots := 0, locals := 0 } : Room) #[(.int n')] h0 (fun v h => v = some (.int m') ∧ h = h0) := by
  refine con_start (fr0 := fun m => mkF m 0 #[.val (.int n')] []) ?_
  intro p e s m below meth c T0 hx hZ hby hml hown hnm hret hlk hsh XA
  have X0 := XA n0
  have hlow : n0 ≤ s.heap.size := by rw [hsh]; exact hn0
  replace hown : s.vm.findClass "java/lang/StringUTF16" = some m.cls := hown
  replace hml : c.maxLocals = 1 := hml
  refine g_iloadN X0 hx (pc' := 1) rfl (hD hby d15_0) rfl ?_
  refine g_ifY X0 hx (pcY := 12) (hD hby d15_1) (by decide) (by decide) (show ¬ n' < 0 from (own_n15 hn (by omega)).1) ?_
  refine g_iloadN X0 hx (pc' := 13) rfl (hD hby d15_12) rfl ?_
  refine g_ldcI X0 hx hZ hown (wat hw 69 rfl) (pc' := 15) (v := (1073741823 : Int32)) rfl (hD hby d15_13) ?_
  refine g_icmpY X0 hx (pcY := 55) (hD hby d15_15) (by decide) (by decide) (show n' < (1073741823 : Int32) from (own_n15 hn (by omega)).2) ?_
  refine g_iloadN X0 hx (pc' := 56) rfl (hD hby d15_55) rfl ?_
  refine g_iconst X0 hx (pc' := 57) (z := (1 : Int32)) rfl (hD hby d15_56) rfl ?_
  refine g_ishl X0 hx (pc' := 58) rfl (hD hby d15_57) ?_
  refine g_normI (z := m') hm ?_
  exact g_retI X0 hx hlk hret (hD hby d15_58) (by decide) (by decide) (Nat.le_refl _) (⟨rfl, rfl⟩)
theorem rm14 (l : Launch) (Z : State) (a0 : Array Value) (hw : HW a0 Z) (ws : List Jvm.Cond) (n0 : Nat) (Ts : List String) (cs : List Int32) (n' m' : Int32) (h0 : Heap) (hn0 : n0 ≤ h0.size) (hn : n'.toInt = (cs.length : Int)) (hM : m'.toInt = ((2 * cs.length : Nat) : Int)) (hm : n' <<< ((1 : Int32) &&& 31) = m') (h129 : cs.length ≤ 129) :
    Con l Z n0 Ts (Ts) (⟨"java/lang/StringUTF16", "newBytesFor", "(I)[B"⟩ : MethodName) jdk_52_method_2_code 1 (some (.array .byte)) ws ({ frames := 1, cells := 1, slots := 258, locals := 16 } : Room) #[(.int n')] h0 (fun v h => ∃ nb, v = some (.ref nb) ∧ n0 ≤ nb ∧ h0.size ≤ nb ∧ Keep h0 h [] ∧ AV Z h nb .byte (U16 (cs.take 0) ++ List.replicate (2 * cs.length) (.int 0))) := by
  refine con_start (fr0 := fun m => mkF m 0 #[.val (.int n')] []) ?_
  intro p e s m below meth c T0 hx hZ hby hml hown hnm hret hlk hsh XA
  have X0 := XA n0
  have hlow : n0 ≤ s.heap.size := by rw [hsh]; exact hn0
  replace hown : s.vm.findClass "java/lang/StringUTF16" = some m.cls := hown
  replace hml : c.maxLocals = 1 := hml
  refine g_iloadN X0 hx (pc' := 1) rfl (hD hby d14_0) rfl ?_
  refine g_callS X0 hx hZ hown (wat hw 66 rfl) (wat hw 67 rfl) (wat hw 25 rfl) (wat hw 68 rfl) (by decide) (rm15 l Z a0 hw [] n0 (Ts) cs n' m' h0 hn0 hn hM hm h129) pd_10 rfl rfl (pc' := 4) rfl (hD hby d14_1) (argsL := [(.int n')]) (rest := []) rfl (W := 0) (fun v63 T63 h63 X63 hQ63 => ?_)
  obtain ⟨rfl, he63⟩ := hQ63
  rw [he63] at X63
  show Go p e below s n0 _ _ _ (T63.setTop (mkF m 4 _ [(.int m')]))
  refine g_newA X63 hx hZ (aty := .byte) (wat hw 27 rfl) (n := m') (N := 2 * cs.length) hM (cap := 258) (by omega) (by decide) (pc' := 6) rfl (hD hby d14_4) (by decide) (by decide) (fun T64 h64 a64 ha64 X64 E64 N64 => ?_)
  have sz64 : h0.size ≤ a64 := by rw [ha64]; exact (Keep.refl h0 []).1
  have f65 := (Keep.refl h0 []).ext E64
  have G_a64 : n0 ≤ a64 := by rw [ha64]; exact hn0
  have Zs64 : n0 ≤ h64.size := Nat.le_trans hn0 E64.1
  have V64 : AV Z h64 a64 .byte (U16 (cs.take 0) ++ List.replicate (2 * cs.length) (.int 0)) := (by simpa [U16, newarray.typeOf, defaultValue] using N64)
  exact g_ret X64 hx hlk hret rfl (Or.inr (Or.inr (Or.inr (Or.inr ⟨rfl, rfl, rfl⟩)))) (hD hby d14_6) (by decide) (by decide) (Nat.le_refl _) (⟨a64, rfl, G_a64, sz64, f65, V64⟩)
theorem own_t0 {cs : List Int32} {i : Nat} (h : i = cs.length) : cs.take i = cs := by rw [h]; exact List.take_length
theorem lp13 (l : Launch) (Z : State) (a0 : Array Value) (hw : HW a0 Z) (n0 : Nat) (Ts : List String) (ca nb : Addr) (cs : List Int32) (n' m' : Int32) {h0 : Heap} {p : Program} {e : Env} {s : State} {m : MethodId} {below : List Frame} {meth : Method} {c : Code} (hx : p.tables.exec = Jvm.exec) (hZ : Z.Warmed39 s.vm) (hby : c.code = jdk_52_method_14_code) (hml : c.maxLocals = 5) (hown : s.vm.findClass "java/lang/StringUTF16" = some m.cls) (hret : meth.sig.returnType = some (.array .byte)) (hlk : meth.locks = false) (U1 : St2 Z (.int 1)) (U2 : St3 Z (.int 0)) (U3 : St4 Z (.int 8)) (hn : n'.toInt = (cs.length : Int)) (hM : m'.toInt = ((2 * cs.length : Nat) : Int)) (hm : n' <<< ((1 : Int32) &&& 31) = m') (h129 : cs.length ≤ 129) (hgn : n0 ≤ nb) (hs0 : h0.size ≤ nb) (hne : ca ≠ nb) :
    ∀ (r i : Nat) (i' : Int32) (T0 : State) (h1 : Heap) (hir : i + r = cs.length) (hi : i'.toInt = (i : Int)) (hz1 : n0 ≤ h1.size) (OLD1 : OldP Z n0 h1) (K1 : Keep h0 h1 []) (Ac1 : AV Z h1 ca .char (cs.map Value.int)) (An1 : AV Z h1 nb .byte (U16 (cs.take i) ++ List.replicate (2 * r) (.int 0))) (X0 : Wk p l e ({ frames := 2, cells := 1, slots := 258, locals := 48 } : Room) s m #[(.ref ca), (.int 0), (.int n')] below meth c n0 Z (Ts) [] T0 h1 1 258), Go p e below s n0 ((Z, (Ts), fun v h => ∃ nb, v = some (.ref nb) ∧ n0 ≤ nb ∧ h0.size ≤ nb ∧ Keep h0 h [] ∧ AV Z h nb .byte (U16 cs)) : GQ) ({ frames := 2, cells := 1, slots := 258, locals := 48 } : Room).cells ({ frames := 2, cells := 1, slots := 258, locals := 48 } : Room).slots (T0.setTop (mkF m 8 #[.val (.ref ca), .val (.int i'), .val (.int n'), .val (.ref nb), .val (.int i')] [])) := by
  intro r
  induction r with
  | zero =>
    intro i i' T0 h1 hir hi hz1 OLD1 K1 Ac1 An1 X0
    refine g_iload X0 hx (pc' := 10) rfl (hD hby d13_8) rfl ?_
    refine g_iloadN X0 hx (pc' := 11) rfl (hD hby d13_10) rfl ?_
    refine g_icmpY X0 hx (pcY := 32) (hD hby d13_11) (by decide) (by decide) (show ¬ i' < n' from own_ge hi hn (by omega)) ?_
    refine g_aloadN X0 hx (pc' := 33) rfl (hD hby d13_32) rfl rfl ?_
    exact g_ret X0 hx hlk hret rfl (Or.inr (Or.inr (Or.inr (Or.inr ⟨rfl, rfl, rfl⟩)))) (hD hby d13_33) (by decide) (by decide) (Nat.le_refl _) (⟨nb, rfl, hgn, hs0, K1, own_t0 (by omega) ▸ (by simpa using An1)⟩)
  | succ r ih =>
    intro i i' T0 h1 hir hi hz1 OLD1 K1 Ac1 An1 X0
    refine g_iload X0 hx (pc' := 10) rfl (hD hby d13_8) rfl ?_
    refine g_iloadN X0 hx (pc' := 11) rfl (hD hby d13_10) rfl ?_
    refine g_icmpN X0 hx (pcN := 14) (hD hby d13_11) rfl (show ¬ (¬ i' < n') from not_not_intro (own_ix hi (by omega) hn).2) ?_
    refine g_aloadN X0 hx (pc' := 15) rfl (hD hby d13_14) rfl rfl ?_
    refine g_iload X0 hx (pc' := 17) rfl (hD hby d13_15) rfl ?_
    refine g_aloadN X0 hx (pc' := 18) rfl (hD hby d13_17) rfl rfl ?_
    refine g_iloadN X0 hx (pc' := 19) rfl (hD hby d13_18) rfl ?_
    refine g_caload X0 hx hZ Ac1 (i := i) hi (by rw [List.length_map]; omega) (x := (cs.getD i 0)) (C_get (by omega)) (pc' := 20) rfl (hD hby d13_19) ?_
    refine g_callS X0 hx hZ hown (wat hw 70 rfl) (wat hw 71 rfl) (wat hw 25 rfl) (wat hw 72 rfl) (by decide) (rm16 l Z a0 hw [] n0 (Ts) nb (U16 (cs.take i) ++ List.replicate (2 * (r + 1)) (.int 0)) i' (cs.getD i 0) i h1 hz1 U1 U2 U3 OLD1 An1 hgn hi (by rw [List.length_append, U16_len, List.length_take, List.length_replicate]; omega) (by omega)) pd_11 rfl rfl (pc' := 23) rfl (hD hby d13_20) (argsL := [(.ref nb), (.int i'), (.int (cs.getD i 0))]) (rest := []) rfl (W := 0) (fun v66 T66 h66 X66 hQ66 => ?_)
    obtain ⟨rfl, K66, V66⟩ := hQ66
    rw [U16_step (by omega)] at V66
    have f67 := OLD1.keep K66 (allS hgn all0)
    have f68 := K1.trans K66 (allS (Or.inr hs0) all0)
    have f69 := Ac1.keep K66 (ninS hne nin0)
    have zs66 : n0 ≤ h66.size := Nat.le_trans hz1 K66.1
    show Go p e below s n0 _ _ _ (T66.setTop (mkF m 23 _ []))
    refine g_iinc X66 hx (pc' := 26) (x := i') rfl (hD hby d13_23) rfl (l' := #[.val (.ref ca), .val (.int (i' + (1 : Int32))), .val (.int n'), .val (.ref nb), .val (.int i')]) rfl ?_
    refine g_iinc X66 hx (pc' := 29) (x := i') rfl (hD hby d13_26) rfl (l' := #[.val (.ref ca), .val (.int (i' + (1 : Int32))), .val (.int n'), .val (.ref nb), .val (.int (i' + (1 : Int32)))]) rfl ?_
    refine g_goto X66 hx (pc' := 8) (hD hby d13_29) (by decide) (by decide) ?_
    exact ih (i + 1) _ _ _ (by omega) (ar_add1 hi (by omega)) zs66 f67 f68 f69 V66 X66
theorem rm13 (l : Launch) (Z : State) (a0 : Array Value) (hw : HW a0 Z) (ws : List Jvm.Cond) (n0 : Nat) (Ts : List String) (ca : Addr) (cs : List Int32) (n' m' : Int32) (h0 : Heap) (hn0 : n0 ≤ h0.size) (U1 : St2 Z (.int 1)) (U2 : St3 Z (.int 0)) (U3 : St4 Z (.int 8)) (OLD : OldP Z n0 h0) (hn : n'.toInt = (cs.length : Int)) (hM : m'.toInt = ((2 * cs.length : Nat) : Int)) (hm : n' <<< ((1 : Int32) &&& 31) = m') (h129 : cs.length ≤ 129) (Ac : AV Z h0 ca .char (cs.map Value.int)) :
    Con l Z n0 Ts (Ts) (⟨"java/lang/StringUTF16", "toBytes", "([CII)[B"⟩ : MethodName) jdk_52_method_14_code 5 (some (.array .byte)) ws ({ frames := 2, cells := 1, slots := 258, locals := 48 } : Room) #[(.ref ca), (.int 0), (.int n')] h0 (fun v h => ∃ nb, v = some (.ref nb) ∧ n0 ≤ nb ∧ h0.size ≤ nb ∧ Keep h0 h [] ∧ AV Z h nb .byte (U16 cs)) := by
  refine con_start (fr0 := fun m => mkF m 0 #[.val (.ref ca), .val (.int 0), .val (.int n'), .unset, .unset] []) ?_
  intro p e s m below meth c T0 hx hZ hby hml hown hnm hret hlk hsh XA
  have X0 := XA n0
  have hlow : n0 ≤ s.heap.size := by rw [hsh]; exact hn0
  replace hown : s.vm.findClass "java/lang/StringUTF16" = some m.cls := hown
  replace hml : c.maxLocals = 5 := hml
  refine g_iloadN X0 hx (pc' := 1) rfl (hD hby d13_0) rfl ?_
  refine g_callS X0 hx hZ hown (wat hw 63 rfl) (wat hw 64 rfl) (wat hw 25 rfl) (wat hw 65 rfl) (by decide) (rm14 l Z a0 hw [] n0 (Ts) cs n' m' h0 hn0 hn hM hm h129) pd_12 rfl rfl (pc' := 4) rfl (hD hby d13_1) (argsL := [(.int n')]) (rest := []) rfl (W := 0) (fun v70 T70 h70 X70 hQ70 => ?_)
  obtain ⟨nb70, rfl, Gnb70, S70, K70, V70⟩ := hQ70
  have nenb70_ca : ca ≠ nb70 := Nat.ne_of_lt (Nat.lt_of_lt_of_le Ac.lt S70)
  have sznb70 : h0.size ≤ nb70 := Nat.le_trans (Keep.refl h0 []).1 S70
  have f71 := (Keep.refl h0 []).trans K70 all0
  have f72 := OLD.keep K70 all0
  have f73 := Ac.keep K70 nin0
  have zs70 : n0 ≤ h70.size := Nat.le_trans hn0 K70.1
  show Go p e below s n0 _ _ _ (T70.setTop (mkF m 4 _ [(.ref nb70)]))
  refine g_astoreN X70 hx (pc' := 5) rfl (hD hby d13_4) rfl (l' := #[.val (.ref ca), .val (.int 0), .val (.int n'), .val (.ref nb70), .unset]) rfl ?_
  refine g_iconst X70 hx (pc' := 6) (z := (0 : Int32)) rfl (hD hby d13_5) rfl ?_
  refine g_istore X70 hx (pc' := 8) rfl (hD hby d13_6) (l' := #[.val (.ref ca), .val (.int 0), .val (.int n'), .val (.ref nb70), .val (.int 0)]) rfl ?_
  exact lp13 l Z a0 hw n0 Ts ca nb70 cs n' m' hx hZ hby hml hown hret hlk U1 U2 U3 hn hM hm h129 Gnb70 sznb70 nenb70_ca cs.length 0 0 _ _ (by omega) rfl zs70 f72 f71 f73 V70 X70
theorem own_all {cs : List Int32} {i : Nat} (hcs : ∀ c ∈ cs, 0 ≤ c.toInt ∧ c.toInt < 65536) (hall : ∀ j, j < i → (cs.getD j 0).toInt ≤ 255) (h : i = cs.length) : ∀ c ∈ cs, 0 ≤ c.toInt ∧ c.toInt ≤ 255 := fun c hc => by
  obtain ⟨j, hj, rfl⟩ := List.getElem_of_mem hc
  have q := hall j (by omega)
  rw [List.getD_eq_getElem?_getD, List.getElem?_eq_getElem hj] at q
  exact ⟨(hcs _ hc).1, q⟩
theorem own_255 {c : Int32} (h : (255 : Int32) < c) : 255 < c.toInt := by rw [Int32.lt_iff_toInt_lt] at h; exact h
theorem own_255' {c : Int32} (h : ¬ (255 : Int32) < c) : c.toInt ≤ 255 := by
  rw [Int32.lt_iff_toInt_lt] at h; have e : (255 : Int32).toInt = 255 := rfl
  omega
theorem own_hal7 {cs : List Int32} {i : Nat} (hall : ∀ j, j < i → (cs.getD j 0).toInt ≤ 255) (h : (cs.getD i 0).toInt ≤ 255) : ∀ j, j < i + 1 → (cs.getD j 0).toInt ≤ 255 := fun j hj => by
  by_cases q : j = i
  · rw [q]; exact h
  · exact hall j (by omega)
theorem lp7 (l : Launch) (Z : State) (a0 : Array Value) (hw : HW a0 Z) (n0 : Nat) (Ts : List String) (ca ba : Addr) (cs : List Int32) (n' : Int32) {h0 : Heap} {p : Program} {e : Env} {s : State} {m : MethodId} {below : List Frame} {meth : Method} {c : Code} (hx : p.tables.exec = Jvm.exec) (hZ : Z.Warmed39 s.vm) (hby : c.code = jdk_52_method_21_code) (hml : c.maxLocals = 7) (hown : s.vm.findClass "java/lang/StringUTF16" = some m.cls) (hret : meth.sig.returnType = some .int) (hlk : meth.locks = false) (hn : n'.toInt = (cs.length : Int)) (h129 : cs.length ≤ 129) (hcs : ∀ c ∈ cs, 0 ≤ c.toInt ∧ c.toInt < 65536) (hgb : n0 ≤ ba) (hne : ca ≠ ba) :
    ∀ (r i : Nat) (i' : Int32) (c6 : Slot) (T0 : State) (h1 : Heap) (h_c6 : c6 = .unset ∨ ∃ z, c6 = .val (.int z)) (hir : i + r = cs.length) (hi : i'.toInt = (i : Int)) (hall : ∀ j, j < i → (cs.getD j 0).toInt ≤ 255) (hz1 : n0 ≤ h1.size) (K1 : Keep h0 h1 [ba]) (Ac1 : AV Z h1 ca .char (cs.map Value.int)) (An1 : AV Z h1 ba .byte (L1 (cs.take i) ++ List.replicate r (.int 0))) (X0 : Wk p l e ({ frames := 0, cells := 0, slots := 0, locals := 0 } : Room) s m #[(.ref ca), (.int 0), (.ref ba), (.int 0), (.int n')] below meth c n0 Z (Ts) [] T0 h1 0 0), Go p e below s n0 ((Z, (Ts), fun v h => Keep h0 h [ba] ∧ ((v = some (.int n') ∧ (∀ c ∈ cs, 0 ≤ c.toInt ∧ c.toInt ≤ 255) ∧ AV Z h ba .byte (L1 cs)) ∨ ∃ (j : Nat) (j' : Int32), v = some (.int j') ∧ j'.toInt = (j : Int) ∧ j < cs.length ∧ 255 < (cs.getD j 0).toInt)) : GQ) ({ frames := 0, cells := 0, slots := 0, locals := 0 } : Room).cells ({ frames := 0, cells := 0, slots := 0, locals := 0 } : Room).slots (T0.setTop (mkF m 3 #[.val (.ref ca), .val (.int i'), .val (.ref ba), .val (.int i'), .val (.int n'), .val (.int i'), c6] [])) := by
  intro r
  induction r with
  | zero =>
    intro i i' c6 T0 h1 h_c6 hir hi hall hz1 K1 Ac1 An1 X0
    refine g_iload X0 hx (pc' := 5) rfl (hD hby d7_3) rfl ?_
    refine g_iload X0 hx (pc' := 7) rfl (hD hby d7_5) rfl ?_
    refine g_icmpY X0 hx (pcY := 44) (hD hby d7_7) (by decide) (by decide) (show ¬ i' < n' from own_ge hi hn (by omega)) ?_
    refine g_iload X0 hx (pc' := 46) rfl (hD hby d7_44) rfl ?_
    exact g_retI X0 hx hlk hret (hD hby d7_46) (by decide) (by decide) (Nat.le_refl _) (⟨K1, Or.inl ⟨rfl, own_all hcs hall (by omega), own_t0 (by omega) ▸ (by simpa using An1)⟩⟩)
  | succ r ih =>
    intro i i' c6 T0 h1 h_c6 hir hi hall hz1 K1 Ac1 An1 X0
    refine g_iload X0 hx (pc' := 5) rfl (hD hby d7_3) rfl ?_
    refine g_iload X0 hx (pc' := 7) rfl (hD hby d7_5) rfl ?_
    refine g_icmpN X0 hx (pcN := 10) (hD hby d7_7) rfl (show ¬ (¬ i' < n') from not_not_intro (own_ix hi (by omega) hn).2) ?_
    refine g_aloadN X0 hx (pc' := 11) rfl (hD hby d7_10) rfl rfl ?_
    refine g_iloadN X0 hx (pc' := 12) rfl (hD hby d7_11) rfl ?_
    refine g_caload X0 hx hZ Ac1 (i := i) hi (by rw [List.length_map]; omega) (x := (cs.getD i 0)) (C_get (by omega)) (pc' := 13) rfl (hD hby d7_12) ?_
    obtain ⟨cc, e_cc⟩ : ∃ z, z = cs.getD i 0 := ⟨_, rfl⟩
    refine g_normI (z := cc) e_cc.symm ?_
    refine g_istore X0 hx (pc' := 15) rfl (hD hby d7_13) (l' := #[.val (.ref ca), .val (.int i'), .val (.ref ba), .val (.int i'), .val (.int n'), .val (.int i'), .val (.int cc)]) (by rcases h_c6 with rfl | ⟨z, rfl⟩ <;> rfl) ?_
    refine g_iload X0 hx (pc' := 17) rfl (hD hby d7_15) rfl ?_
    refine g_sipush X0 hx (pc' := 20) (z := (255 : Int32)) rfl (hD hby d7_17) rfl ?_
    refine g_icmp X0 hx (pcY := 26) (pcN := 23) (hD hby d7_20) (by decide) (by decide) rfl (fun hc20 => ?_) (fun hc20 => ?_)
    · replace hc20 : ¬ (255 : Int32) < cc := hc20
      refine g_aloadN X0 hx (pc' := 27) rfl (hD hby d7_26) rfl rfl ?_
      refine g_iloadN X0 hx (pc' := 28) rfl (hD hby d7_27) rfl ?_
      refine g_iload X0 hx (pc' := 30) rfl (hD hby d7_28) rfl ?_
      refine g_i2b X0 hx (pc' := 31) rfl (hD hby d7_30) ?_
      refine g_bastore X0 hx hZ An1 (i := i) hi (by rw [List.length_append, L1_len, List.length_take, List.length_replicate]; omega) hgb (y := (cc).toInt8.toInt32) (nar_i2b _) (pc' := 32) rfl (hD hby d7_31) (fun T74 h74 X74 W74 N74 => ?_)
      have f75 := (by have q := (Keep.of_wr W74).1; exact Nat.le_trans hz1 q : n0 ≤ h74.size)
      have f76 := K1.wr W74 (Or.inl (List.mem_of_getElem? (i := 0) rfl))
      have f77 := Ac1.other W74 hne
      have V74 : AV Z h74 ba .byte (L1 (cs.take (i + 1)) ++ List.replicate r (.int 0)) := (by rw [e_cc, L1_step (by omega)] at N74; assumption)
      refine g_iinc X74 hx (pc' := 35) (x := i') rfl (hD hby d7_32) rfl (l' := #[.val (.ref ca), .val (.int (i' + (1 : Int32))), .val (.ref ba), .val (.int i'), .val (.int n'), .val (.int i'), .val (.int cc)]) rfl ?_
      refine g_iinc X74 hx (pc' := 38) (x := i') rfl (hD hby d7_35) rfl (l' := #[.val (.ref ca), .val (.int (i' + (1 : Int32))), .val (.ref ba), .val (.int (i' + (1 : Int32))), .val (.int n'), .val (.int i'), .val (.int cc)]) rfl ?_
      refine g_iinc X74 hx (pc' := 41) (x := i') rfl (hD hby d7_38) rfl (l' := #[.val (.ref ca), .val (.int (i' + (1 : Int32))), .val (.ref ba), .val (.int (i' + (1 : Int32))), .val (.int n'), .val (.int (i' + (1 : Int32))), .val (.int cc)]) rfl ?_
      refine g_goto X74 hx (pc' := 3) (hD hby d7_41) (by decide) (by decide) ?_
      exact ih (i + 1) _ _ _ _ (Or.inr ⟨_, rfl⟩) (by omega) (ar_add1 hi (by omega)) (own_hal7 hall (e_cc ▸ own_255' hc20)) f75 f76 f77 V74 X74
    · replace hc20 : (255 : Int32) < cc := Classical.not_not.mp hc20
      refine g_iload X0 hx (pc' := 25) rfl (hD hby d7_23) rfl ?_
      exact g_retI X0 hx hlk hret (hD hby d7_25) (by decide) (by decide) (Nat.le_refl _) (⟨K1, Or.inr ⟨i, i', rfl, hi, by omega, e_cc ▸ own_255 hc20⟩⟩)
theorem rm7 (l : Launch) (Z : State) (a0 : Array Value) (hw : HW a0 Z) (ws : List Jvm.Cond) (n0 : Nat) (Ts : List String) (ca ba : Addr) (cs : List Int32) (n' : Int32) (h0 : Heap) (hn0 : n0 ≤ h0.size) (hn : n'.toInt = (cs.length : Int)) (h129 : cs.length ≤ 129) (hcs : ∀ c ∈ cs, 0 ≤ c.toInt ∧ c.toInt < 65536) (Ac : AV Z h0 ca .char (cs.map Value.int)) (Ab : AV Z h0 ba .byte (L1 (cs.take 0) ++ List.replicate cs.length (.int 0))) (hgb : n0 ≤ ba) (hne : ca ≠ ba) :
    Con l Z n0 Ts (Ts) (⟨"java/lang/StringUTF16", "compress", "([CI[BII)I"⟩ : MethodName) jdk_52_method_21_code 7 (some .int) ws ({ frames := 0, cells := 0, slots := 0, locals := 0 } : Room) #[(.ref ca), (.int 0), (.ref ba), (.int 0), (.int n')] h0 (fun v h => Keep h0 h [ba] ∧ ((v = some (.int n') ∧ (∀ c ∈ cs, 0 ≤ c.toInt ∧ c.toInt ≤ 255) ∧ AV Z h ba .byte (L1 cs)) ∨ ∃ (j : Nat) (j' : Int32), v = some (.int j') ∧ j'.toInt = (j : Int) ∧ j < cs.length ∧ 255 < (cs.getD j 0).toInt)) := by
  refine con_start (fr0 := fun m => mkF m 0 #[.val (.ref ca), .val (.int 0), .val (.ref ba), .val (.int 0), .val (.int n'), .unset, .unset] []) ?_
  intro p e s m below meth c T0 hx hZ hby hml hown hnm hret hlk hsh XA
  have X0 := XA n0
  have hlow : n0 ≤ s.heap.size := by rw [hsh]; exact hn0
  replace hown : s.vm.findClass "java/lang/StringUTF16" = some m.cls := hown
  replace hml : c.maxLocals = 7 := hml
  refine g_iconst X0 hx (pc' := 1) (z := (0 : Int32)) rfl (hD hby d7_0) rfl ?_
  refine g_istore X0 hx (pc' := 3) rfl (hD hby d7_1) (l' := #[.val (.ref ca), .val (.int 0), .val (.ref ba), .val (.int 0), .val (.int n'), .val (.int 0), .unset]) rfl ?_
  exact lp7 l Z a0 hw n0 Ts ca ba cs n' hx hZ hby hml hown hret hlk hn h129 hcs hgb hne cs.length 0 0 .unset _ _ (Or.inl rfl) (by omega) rfl (fun j hj => absurd hj (Nat.not_lt_zero j)) hn0 (Keep.refl _ _) Ac Ab X0
theorem own_nej {j' n' : Int32} {j : Nat} {cs : List Int32} (hj : j'.toInt = (j : Int)) (hn : n'.toInt = (cs.length : Int)) (h : j < cs.length) : ¬ j' = n' := fun q => by rw [q] at hj; omega
theorem own_gt255 {c : Int32} (h : 255 < c.toInt) : (255 : Int32) < c := by rw [Int32.lt_iff_toInt_lt]; exact h
theorem rm6 (l : Launch) (Z : State) (a0 : Array Value) (hw : HW a0 Z) (ws : List Jvm.Cond) (n0 : Nat) (Ts : List String) (ca : Addr) (cs : List Int32) (n' m' : Int32) (h0 : Heap) (hn0 : n0 ≤ h0.size) (U1 : St2 Z (.int 1)) (U2 : St3 Z (.int 0)) (U3 : St4 Z (.int 8)) (OLD : OldP Z n0 h0) (hn : n'.toInt = (cs.length : Int)) (hM : m'.toInt = ((2 * cs.length : Nat) : Int)) (hm : n' <<< ((1 : Int32) &&& 31) = m') (h129 : cs.length ≤ 129) (hcs : ∀ c ∈ cs, 0 ≤ c.toInt ∧ c.toInt < 65536) (Ac : AV Z h0 ca .char (cs.map Value.int)) :
    Con l Z n0 Ts (Ts) (⟨"java/lang/StringUTF16", "compress", "([CII)[B"⟩ : MethodName) jdk_52_method_16_code 6 (some (.array .byte)) ws ({ frames := 3, cells := 2, slots := 387, locals := 80 } : Room) #[(.ref ca), (.int 0), (.int n')] h0 (fun v h => ∃ nb, v = some (.ref nb) ∧ n0 ≤ nb ∧ h0.size ≤ nb ∧ Keep h0 h [] ∧ ((AV Z h nb .byte (L1 cs) ∧ ∀ c ∈ cs, 0 ≤ c.toInt ∧ c.toInt ≤ 255) ∨ AV Z h nb .byte (U16 cs))) := by
  refine con_start (fr0 := fun m => mkF m 0 #[.val (.ref ca), .val (.int 0), .val (.int n'), .unset, .unset, .unset] []) ?_
  intro p e s m below meth c T0 hx hZ hby hml hown hnm hret hlk hsh XA
  have X0 := XA n0
  have hlow : n0 ≤ s.heap.size := by rw [hsh]; exact hn0
  replace hown : s.vm.findClass "java/lang/StringUTF16" = some m.cls := hown
  replace hml : c.maxLocals = 6 := hml
  refine g_iloadN X0 hx (pc' := 1) rfl (hD hby d6_0) rfl ?_
  refine g_newA X0 hx hZ (aty := .byte) (wat hw 27 rfl) (n := n') (N := cs.length) hn (cap := 129) h129 (by decide) (pc' := 3) rfl (hD hby d6_1) (by decide) (by decide) (fun T78 h78 a78 ha78 X78 E78 N78 => ?_)
  have ne78_ca : ca ≠ a78 := by rw [ha78]; exact Nat.ne_of_lt Ac.lt
  have f79 := Ac.ext E78
  have sz78 : h0.size ≤ a78 := by rw [ha78]; exact (Keep.refl h0 []).1
  have f80 := (Keep.refl h0 []).ext E78
  have G_a78 : n0 ≤ a78 := by rw [ha78]; exact hn0
  have Zs78 : n0 ≤ h78.size := Nat.le_trans hn0 E78.1
  have f81 := OLD.ext E78
  have V78 : AV Z h78 a78 .byte (L1 (cs.take 0) ++ List.replicate cs.length (.int 0)) := (by simpa [L1, newarray.typeOf, defaultValue] using N78)
  refine g_astoreN X78 hx (pc' := 4) rfl (hD hby d6_3) rfl (l' := #[.val (.ref ca), .val (.int 0), .val (.int n'), .val (.ref a78), .unset, .unset]) rfl ?_
  refine g_aloadN X78 hx (pc' := 5) rfl (hD hby d6_4) rfl rfl ?_
  refine g_iloadN X78 hx (pc' := 6) rfl (hD hby d6_5) rfl ?_
  refine g_aloadN X78 hx (pc' := 7) rfl (hD hby d6_6) rfl rfl ?_
  refine g_iconst X78 hx (pc' := 8) (z := (0 : Int32)) rfl (hD hby d6_7) rfl ?_
  refine g_iloadN X78 hx (pc' := 9) rfl (hD hby d6_8) rfl ?_
  refine g_callS X78 hx hZ hown (wat hw 28 rfl) (wat hw 29 rfl) (wat hw 25 rfl) (wat hw 30 rfl) (by decide) (rm7 l Z a0 hw [] n0 (Ts) ca a78 cs n' h78 Zs78 hn h129 hcs f79 V78 G_a78 ne78_ca) pd_13 rfl rfl (pc' := 12) rfl (hD hby d6_9) (argsL := [(.ref ca), (.int 0), (.ref a78), (.int 0), (.int n')]) (rest := []) rfl (W := 0) (fun v82 T82 h82 X82 hQ82 => ?_)
  obtain ⟨K82, V82⟩ := hQ82
  have f83 := f80.trans K82 (allS (Or.inr sz78) all0)
  have f84 := f81.keep K82 (allS G_a78 all0)
  have f85 := f79.keep K82 (ninS ne78_ca nin0)
  have zs82 : n0 ≤ h82.size := Nat.le_trans Zs78 K82.1
  rcases V82 with ⟨rfl, hle, V82⟩ | ⟨j, j', rfl, hj, hjl, hbig⟩
  · skip
    show Go p e below s n0 _ _ _ (T82.setTop (mkF m 12 _ [(.int n')]))
    refine g_istore X82 hx (pc' := 14) rfl (hD hby d6_12) (l' := #[.val (.ref ca), .val (.int 0), .val (.int n'), .val (.ref a78), .val (.int n'), .unset]) rfl ?_
    refine g_iload X82 hx (pc' := 16) rfl (hD hby d6_14) rfl ?_
    refine g_iloadN X82 hx (pc' := 17) rfl (hD hby d6_16) rfl ?_
    refine g_icmpY X82 hx (pcY := 57) (hD hby d6_17) (by decide) (by decide) (show n' = n' from rfl) ?_
    refine g_aloadN X82 hx (pc' := 58) rfl (hD hby d6_57) rfl rfl ?_
    exact g_ret X82 hx hlk hret rfl (Or.inr (Or.inr (Or.inr (Or.inr ⟨rfl, rfl, rfl⟩)))) (hD hby d6_58) (by decide) (by decide) (Nat.le_refl _) (⟨a78, rfl, G_a78, sz78, f83, Or.inl ⟨V82, hle⟩⟩)
  · skip
    show Go p e below s n0 _ _ _ (T82.setTop (mkF m 12 _ [(.int j')]))
    refine g_istore X82 hx (pc' := 14) rfl (hD hby d6_12) (l' := #[.val (.ref ca), .val (.int 0), .val (.int n'), .val (.ref a78), .val (.int j'), .unset]) rfl ?_
    refine g_iload X82 hx (pc' := 16) rfl (hD hby d6_14) rfl ?_
    refine g_iloadN X82 hx (pc' := 17) rfl (hD hby d6_16) rfl ?_
    refine g_icmpN X82 hx (pcN := 20) (hD hby d6_17) rfl (show ¬ (j' = n') from own_nej hj hn hjl) ?_
    refine g_aloadN X82 hx (pc' := 21) rfl (hD hby d6_20) rfl rfl ?_
    refine g_iloadN X82 hx (pc' := 22) rfl (hD hby d6_21) rfl ?_
    refine g_iloadN X82 hx (pc' := 23) rfl (hD hby d6_22) rfl ?_
    refine g_callS X82 hx hZ hown (wat hw 60 rfl) (wat hw 61 rfl) (wat hw 25 rfl) (wat hw 62 rfl) (by decide) (rm13 l Z a0 hw [] n0 (Ts) ca cs n' m' h82 zs82 U1 U2 U3 f84 hn hM hm h129 f85) pd_14 rfl rfl (pc' := 26) rfl (hD hby d6_23) (argsL := [(.ref ca), (.int 0), (.int n')]) (rest := []) rfl (W := 0) (fun v86 T86 h86 X86 hQ86 => ?_)
    obtain ⟨ub86, rfl, Gub86, S86, K86, V86⟩ := hQ86
    have neub86_ca : ca ≠ ub86 := Nat.ne_of_lt (Nat.lt_of_lt_of_le f85.lt S86)
    have szub86 : h0.size ≤ ub86 := Nat.le_trans f83.1 S86
    have f87 := f83.trans K86 all0
    have f88 := f84.keep K86 all0
    have f89 := f85.keep K86 nin0
    have zs86 : n0 ≤ h86.size := Nat.le_trans zs82 K86.1
    show Go p e below s n0 _ _ _ (T86.setTop (mkF m 26 _ [(.ref ub86)]))
    refine g_astore X86 hx (pc' := 28) rfl (hD hby d6_26) rfl (l' := #[.val (.ref ca), .val (.int 0), .val (.int n'), .val (.ref a78), .val (.int j'), .val (.ref ub86)]) rfl ?_
    refine g_aload X86 hx (pc' := 30) rfl (hD hby d6_28) rfl rfl ?_
    refine g_iload X86 hx (pc' := 32) rfl (hD hby d6_30) rfl ?_
    refine g_callS X86 hx hZ hown (wat hw 76 rfl) (wat hw 77 rfl) (wat hw 25 rfl) (wat hw 78 rfl) (by decide) (rm17 l Z a0 hw [] n0 (Ts) ub86 cs j' j h86 zs86 U1 U2 U3 f88 V86 hcs hj hjl (by omega)) pd_5 rfl rfl (pc' := 35) rfl (hD hby d6_32) (argsL := [(.ref ub86), (.int j')]) (rest := []) rfl (W := 0) (fun v90 T90 h90 X90 hQ90 => ?_)
    obtain ⟨rfl, he90⟩ := hQ90
    rw [he90] at X90
    show Go p e below s n0 _ _ _ (T90.setTop (mkF m 35 _ [(.int (cs.getD j 0))]))
    refine g_sipush X90 hx (pc' := 38) (z := (255 : Int32)) rfl (hD hby d6_35) rfl ?_
    refine g_icmpY X90 hx (pcY := 54) (hD hby d6_38) (by decide) (by decide) (show (255 : Int32) < (cs.getD j 0) from own_gt255 hbig) ?_
    refine g_aload X90 hx (pc' := 56) rfl (hD hby d6_54) rfl rfl ?_
    exact g_ret X90 hx hlk hret rfl (Or.inr (Or.inr (Or.inr (Or.inr ⟨rfl, rfl, rfl⟩)))) (hD hby d6_56) (by decide) (by decide) (Nat.le_refl _) (⟨ub86, rfl, Gub86, szub86, f87, Or.inr V86⟩)
theorem ar_z8 (x : Int32) : (((x - x).toUInt32 >>> ((31 : Int32) &&& 31).toUInt32).toInt32).toInt8.toInt32 = 0 := by rw [Int32.sub_self]; decide
theorem ar_m8 {x : Int32} (h : x.toInt < 0) : ((x.toUInt32 >>> ((31 : Int32) &&& 31).toUInt32).toInt32).toInt8.toInt32 = 1 := by
  have h1 : 2147483648 ≤ x.toUInt32.toNat := by
    apply Nat.le_of_not_lt; intro q
    have e : x = Int32.ofNat x.toUInt32.toNat := by rw [← UInt32.toInt32_ofNat', UInt32.ofNat_toNat]; rfl
    have := congrArg Int32.toInt e
    rw [ar_of q] at this; omega
  have h2 := x.toUInt32.toNat_lt
  have e : x.toUInt32 >>> ((31 : Int32) &&& 31).toUInt32 = 1 := by
    apply UInt32.toNat_inj.mp
    have s : ((31 : Int32) &&& 31).toUInt32.toNat % 32 = 31 := by decide
    rw [UInt32.toNat_shiftRight, s, Nat.shiftRight_eq_div_pow]
    show x.toUInt32.toNat / 2 ^ 31 = 1
    omega
  rw [e]; decide
theorem rm8_0 (l : Launch) (Z : State) (a0 : Array Value) (hw : HW a0 Z) (ws : List Jvm.Cond) (n0 : Nat) (Ts : List String) (nb : Addr) (cs : List Int32) (n' m' : Int32) (h0 : Heap) (hn0 : n0 ≤ h0.size) (Ab : AV Z h0 nb .byte (L1 cs)) (hn : n'.toInt = (cs.length : Int)) (hM : m'.toInt = ((2 * cs.length : Nat) : Int)) (hm : n' <<< ((1 : Int32) &&& 31) = m') (h129 : cs.length ≤ 129) (h1 : 1 ≤ cs.length) :
    Con l Z n0 Ts (Ts) (⟨"java/lang/StringUTF16", "coderFromArrayLen", "([BI)B"⟩ : MethodName) jdk_52_method_15_code 2 (some .byte) ws ({ frames := 0, cells := 0, slots := 0, locals := 0 } : Room) #[(.ref nb), (.int n')] h0 (fun v h => v = some (.int 0) ∧ h = h0) := by
  refine con_start (fr0 := fun m => mkF m 0 #[.val (.ref nb), .val (.int n')] []) ?_
  intro p e s m below meth c T0 hx hZ hby hml hown hnm hret hlk hsh XA
  have X0 := XA n0
  have hlow : n0 ≤ s.heap.size := by rw [hsh]; exact hn0
  replace hown : s.vm.findClass "java/lang/StringUTF16" = some m.cls := hown
  replace hml : c.maxLocals = 2 := hml
  refine g_iloadN X0 hx (pc' := 1) rfl (hD hby d8_0) rfl ?_
  refine g_aloadN X0 hx (pc' := 2) rfl (hD hby d8_1) rfl rfl ?_
  refine g_alen X0 hx hZ Ab (z := n') (by rw [L1_len]; exact hn) (pc' := 3) rfl (hD hby d8_2) ?_
  refine g_isub X0 hx (pc' := 4) rfl (hD hby d8_3) ?_
  refine g_bipush X0 hx (pc' := 6) (z := (31 : Int32)) rfl (hD hby d8_4) rfl ?_
  refine g_iushr X0 hx (pc' := 7) rfl (hD hby d8_6) ?_
  refine g_i2b X0 hx (pc' := 8) rfl (hD hby d8_7) ?_
  refine g_normI (z := (0 : Int32)) (ar_z8 _) ?_
  exact g_ret X0 hx hlk hret (by first | rfl | exact congrArg Value.int (nar_i2c _) | exact congrArg Value.int (nar_i2b _)) (Or.inl ⟨rfl, Or.inr (Or.inr (Or.inl rfl)), _, rfl⟩) (hD hby d8_8) (by decide) (by decide) (Nat.le_refl _) (⟨rfl, rfl⟩)
theorem rm8_1 (l : Launch) (Z : State) (a0 : Array Value) (hw : HW a0 Z) (ws : List Jvm.Cond) (n0 : Nat) (Ts : List String) (nb : Addr) (cs : List Int32) (n' m' : Int32) (h0 : Heap) (hn0 : n0 ≤ h0.size) (Ab : AV Z h0 nb .byte (U16 cs)) (hn : n'.toInt = (cs.length : Int)) (hM : m'.toInt = ((2 * cs.length : Nat) : Int)) (hm : n' <<< ((1 : Int32) &&& 31) = m') (h129 : cs.length ≤ 129) (h1 : 1 ≤ cs.length) :
    Con l Z n0 Ts (Ts) (⟨"java/lang/StringUTF16", "coderFromArrayLen", "([BI)B"⟩ : MethodName) jdk_52_method_15_code 2 (some .byte) ws ({ frames := 0, cells := 0, slots := 0, locals := 0 } : Room) #[(.ref nb), (.int n')] h0 (fun v h => v = some (.int 1) ∧ h = h0) := by
  refine con_start (fr0 := fun m => mkF m 0 #[.val (.ref nb), .val (.int n')] []) ?_
  intro p e s m below meth c T0 hx hZ hby hml hown hnm hret hlk hsh XA
  have X0 := XA n0
  have hlow : n0 ≤ s.heap.size := by rw [hsh]; exact hn0
  replace hown : s.vm.findClass "java/lang/StringUTF16" = some m.cls := hown
  replace hml : c.maxLocals = 2 := hml
  refine g_iloadN X0 hx (pc' := 1) rfl (hD hby d8_0) rfl ?_
  refine g_aloadN X0 hx (pc' := 2) rfl (hD hby d8_1) rfl rfl ?_
  refine g_alen X0 hx hZ Ab (z := m') (by rw [U16_len]; exact hM) (pc' := 3) rfl (hD hby d8_2) ?_
  refine g_isub X0 hx (pc' := 4) rfl (hD hby d8_3) ?_
  refine g_bipush X0 hx (pc' := 6) (z := (31 : Int32)) rfl (hD hby d8_4) rfl ?_
  refine g_iushr X0 hx (pc' := 7) rfl (hD hby d8_6) ?_
  refine g_i2b X0 hx (pc' := 8) rfl (hD hby d8_7) ?_
  refine g_normI (z := (1 : Int32)) (ar_m8 (by rw [ar_sub (by omega) (by omega)]; omega)) ?_
  exact g_ret X0 hx hlk hret (by first | rfl | exact congrArg Value.int (nar_i2c _) | exact congrArg Value.int (nar_i2b _)) (Or.inl ⟨rfl, Or.inr (Or.inr (Or.inl rfl)), _, rfl⟩) (hD hby d8_8) (by decide) (by decide) (Nat.le_refl _) (⟨rfl, rfl⟩)
theorem own_c0 {x : Int32} {n : Nat} (h : x.toInt = (n : Int)) (h1 : 1 ≤ n) : ¬ x = 0 := fun q => by
  rw [q] at h; have e : (0 : Int32).toInt = 0 := rfl
  omega
theorem own_fne {Z : State} {h : Heap} {t a b : Addr} {C f d : String} (F : Fld Z h t C f d .null) (G : Fld Z h a C f d (.ref b)) : t ≠ a := fun q => by
  subst q
  obtain ⟨c1, cf, k, i, f1, a1, a2, -, -, -, -, a7⟩ := F
  obtain ⟨c2, cf2, k2, i2, f2, b1, b2, -, -, -, -, b7⟩ := G
  cases a1.symm.trans b1
  cases a2.symm.trans b2
  cases a7.symm.trans b7
theorem rm4 (l : Launch) (Z : State) (a0 : Array Value) (hw : HW a0 Z) (ws : List Jvm.Cond) (n0 : Nat) (Ts : List String) (t ca : Addr) (cs : List Int32) (n' m' : Int32) (cz : Int32) (h0 : Heap) (hn0 : n0 ≤ h0.size) (U1 : St2 Z (.int 1)) (U2 : St3 Z (.int 0)) (U3 : St4 Z (.int 8)) (O2 : St0 Z (.int cz)) (hcz : ¬ cz = 0) (OLD : OldP Z n0 h0) (hn : n'.toInt = (cs.length : Int)) (hM : m'.toInt = ((2 * cs.length : Nat) : Int)) (hm : n' <<< ((1 : Int32) &&& 31) = m') (h129 : cs.length ≤ 129) (h1 : 1 ≤ cs.length) (hcs : ∀ c ∈ cs, 0 ≤ c.toInt ∧ c.toInt < 65536) (Ac : AV Z h0 ca .char (cs.map Value.int)) (Et : XSt Z h0 t) (hgt : n0 ≤ t) (F_coder : SC Z h0 t (.int 0)) (F_value : SV Z h0 t .null) :
    Con l Z n0 Ts (Ts) (⟨"java/lang/String", "<init>", "([CIILjava/lang/Void;)V"⟩ : MethodName) jdk_42_method_149_code 6 none ws ({ frames := 4, cells := 2, slots := 387, locals := 112 } : Room) #[(.ref t), (.ref ca), (.int 0), (.int n'), .null] h0 (fun v h => v = none ∧ Keep h0 h [t] ∧ StrC Z h t cs) := by
  refine con_start (fr0 := fun m => mkF m 0 #[.val (.ref t), .val (.ref ca), .val (.int 0), .val (.int n'), .val .null, .unset] []) ?_
  intro p e s m below meth c T0 hx hZ hby hml hown hnm hret hlk hsh XA
  have X0 := XA n0
  have hlow : n0 ≤ s.heap.size := by rw [hsh]; exact hn0
  replace hown : s.vm.findClass "java/lang/String" = some m.cls := hown
  replace hml : c.maxLocals = 6 := hml
  have nA91 : t ≠ ca := own_neA Et (wat hw 10 rfl) Ac
  refine g_aloadN X0 hx (pc' := 1) rfl (hD hby d4_0) rfl rfl ?_
  refine g_initO X0 hx hZ hown (wat hw 19 rfl) (wat hw 20 rfl) (wat hw 21 rfl) (by rw [hml]; rfl) (pc' := 4) rfl (hD hby d4_1) (by decide) (W := 0) (Nat.le_of_eq rfl) (by decide) (fun T92 X92 => ?_)
  show Go p e below s n0 _ _ _ (T92.setTop (mkF m 4 _ []))
  refine g_iloadN X92 hx (pc' := 5) rfl (hD hby d4_4) rfl ?_
  refine g_ifY X92 hx (pcY := 27) (hD hby d4_5) (by decide) (by decide) (show ¬ n' = 0 from own_c0 hn h1) ?_
  refine g_getS X92 hx hZ hown (wat hw 22 rfl) Via.refl (Sta.ext OLD.2 O2) (pc' := 30) rfl (hD hby d4_27) (fun T93 X93 => ?_)
  refine g_ifN X93 hx (pcN := 33) (hD hby d4_30) rfl (show ¬ (cz = 0) from hcz) ?_
  refine g_aloadN X93 hx (pc' := 34) rfl (hD hby d4_33) rfl rfl ?_
  refine g_iloadN X93 hx (pc' := 35) rfl (hD hby d4_34) rfl ?_
  refine g_iloadN X93 hx (pc' := 36) rfl (hD hby d4_35) rfl ?_
  refine g_callS X93 hx hZ hown (wat hw 23 rfl) (wat hw 24 rfl) (wat hw 25 rfl) (wat hw 26 rfl) (by decide) (rm6 l Z a0 hw [] n0 (Ts) ca cs n' m' h0 hn0 U1 U2 U3 OLD hn hM hm h129 hcs Ac) pd_14 rfl rfl (pc' := 39) rfl (hD hby d4_36) (argsL := [(.ref ca), (.int 0), (.int n')]) (rest := []) rfl (W := 0) (fun v94 T94 h94 X94 hQ94 => ?_)
  obtain ⟨nb94, rfl, Gnb94, S94, K94, V94⟩ := hQ94
  have nenb94_t : t ≠ nb94 := Nat.ne_of_lt (Nat.lt_of_lt_of_le Et.lt S94)
  have nenb94_ca : ca ≠ nb94 := Nat.ne_of_lt (Nat.lt_of_lt_of_le Ac.lt S94)
  have sznb94 : h0.size ≤ nb94 := Nat.le_trans (Keep.refl h0 [t]).1 S94
  have f95 := (Keep.refl h0 [t]).trans K94 all0
  have f96 := OLD.keep K94 all0
  have f97 := Et.keep K94
  have f98 := F_coder.keep K94 nin0
  have f99 := F_value.keep K94 nin0
  have f100 := Ac.keep K94 nin0
  have zs94 : n0 ≤ h94.size := Nat.le_trans hn0 K94.1
  rcases V94 with ⟨V94, hle⟩ | V94
  · skip
    show Go p e below s n0 _ _ _ (T94.setTop (mkF m 39 _ [(.ref nb94)]))
    refine g_astore X94 hx (pc' := 41) rfl (hD hby d4_39) rfl (l' := #[.val (.ref t), .val (.ref ca), .val (.int 0), .val (.int n'), .val .null, .val (.ref nb94)]) rfl ?_
    refine g_aloadN X94 hx (pc' := 42) rfl (hD hby d4_41) rfl rfl ?_
    refine g_aload X94 hx (pc' := 44) rfl (hD hby d4_42) rfl rfl ?_
    refine g_iloadN X94 hx (pc' := 45) rfl (hD hby d4_44) rfl ?_
    refine g_callS X94 hx hZ hown (wat hw 31 rfl) (wat hw 32 rfl) (wat hw 25 rfl) (wat hw 33 rfl) (by decide) (rm8_0 l Z a0 hw [] n0 (Ts) nb94 cs n' m' h94 zs94 V94 hn hM hm h129 h1) pd_15 rfl rfl (pc' := 48) rfl (hD hby d4_45) (argsL := [(.ref nb94), (.int n')]) (rest := [(.ref t)]) rfl (W := 1) (fun v101 T101 h101 X101 hQ101 => ?_)
    obtain ⟨rfl, he101⟩ := hQ101
    rw [he101] at X101
    show Go p e below s n0 _ _ _ (T101.setTop (mkF m 48 _ [(.int 0), (.ref t)]))
    refine g_putF X101 hx hZ hown (wat hw 34 rfl) Via.refl f98 f97 (Or.inr ⟨(wat hw 35 rfl), rfl, hnm⟩) (wat hw 10 rfl) (ty := .byte) (by decide) rfl rfl hgt (pc' := 51) rfl (hD hby d4_48) (fun T102 h102 X102 W102 => ?_)
    have f103 := (by have q := (Keep.of_wr W102).1; exact Nat.le_trans zs94 q : n0 ≤ h102.size)
    have f104 := f95.wr W102 (Or.inl (List.mem_of_getElem? (i := 0) rfl))
    have f105 := f96.wr W102 hgt
    have f106 := f97.wr W102
    have f107 := f98.same W102
    have f108 := f99.other W102 (Or.inr (slot_ne (Or.inr (wat hw 37 rfl)) (Or.inr (wat hw 35 rfl)) (by decide) (t := (.array .byte)) (t' := .byte) (by decide) (by decide)))
    have f109 := f100.other W102 nA91.symm
    have f110 := V94.other W102 nenb94_t.symm
    refine g_aloadN X102 hx (pc' := 52) rfl (hD hby d4_51) rfl rfl ?_
    refine g_aload X102 hx (pc' := 54) rfl (hD hby d4_52) rfl rfl ?_
    refine g_putF X102 hx hZ hown (wat hw 36 rfl) Via.refl f108 f106 (Or.inr ⟨(wat hw 37 rfl), rfl, hnm⟩) (wat hw 10 rfl) (ty := (.array .byte)) (by decide) rfl rfl hgt (pc' := 57) rfl (hD hby d4_54) (fun T111 h111 X111 W111 => ?_)
    have f112 := (by have q := (Keep.of_wr W111).1; exact Nat.le_trans f103 q : n0 ≤ h111.size)
    have f113 := f104.wr W111 (Or.inl (List.mem_of_getElem? (i := 0) rfl))
    have f114 := f105.wr W111 hgt
    have f115 := f106.wr W111
    have f116 := f107.other W111 (Or.inr (slot_ne (Or.inr (wat hw 35 rfl)) (Or.inr (wat hw 37 rfl)) (by decide) (t := .byte) (t' := (.array .byte)) (by decide) (by decide)))
    have f117 := f108.same W111
    have f118 := f109.other W111 nA91.symm
    have f119 := f110.other W111 nenb94_t.symm
    exact g_retV X111 hx hlk hret (hD hby d4_57) (by decide) (by decide) (Nat.le_refl _) (⟨rfl, f113, ⟨f115, nb94, f117, Or.inl ⟨f116, f119, hle⟩⟩⟩)
  · skip
    show Go p e below s n0 _ _ _ (T94.setTop (mkF m 39 _ [(.ref nb94)]))
    refine g_astore X94 hx (pc' := 41) rfl (hD hby d4_39) rfl (l' := #[.val (.ref t), .val (.ref ca), .val (.int 0), .val (.int n'), .val .null, .val (.ref nb94)]) rfl ?_
    refine g_aloadN X94 hx (pc' := 42) rfl (hD hby d4_41) rfl rfl ?_
    refine g_aload X94 hx (pc' := 44) rfl (hD hby d4_42) rfl rfl ?_
    refine g_iloadN X94 hx (pc' := 45) rfl (hD hby d4_44) rfl ?_
    refine g_callS X94 hx hZ hown (wat hw 31 rfl) (wat hw 32 rfl) (wat hw 25 rfl) (wat hw 33 rfl) (by decide) (rm8_1 l Z a0 hw [] n0 (Ts) nb94 cs n' m' h94 zs94 V94 hn hM hm h129 h1) pd_15 rfl rfl (pc' := 48) rfl (hD hby d4_45) (argsL := [(.ref nb94), (.int n')]) (rest := [(.ref t)]) rfl (W := 1) (fun v120 T120 h120 X120 hQ120 => ?_)
    obtain ⟨rfl, he120⟩ := hQ120
    rw [he120] at X120
    show Go p e below s n0 _ _ _ (T120.setTop (mkF m 48 _ [(.int 1), (.ref t)]))
    refine g_putF X120 hx hZ hown (wat hw 34 rfl) Via.refl f98 f97 (Or.inr ⟨(wat hw 35 rfl), rfl, hnm⟩) (wat hw 10 rfl) (ty := .byte) (by decide) rfl rfl hgt (pc' := 51) rfl (hD hby d4_48) (fun T121 h121 X121 W121 => ?_)
    have f122 := (by have q := (Keep.of_wr W121).1; exact Nat.le_trans zs94 q : n0 ≤ h121.size)
    have f123 := f95.wr W121 (Or.inl (List.mem_of_getElem? (i := 0) rfl))
    have f124 := f96.wr W121 hgt
    have f125 := f97.wr W121
    have f126 := f98.same W121
    have f127 := f99.other W121 (Or.inr (slot_ne (Or.inr (wat hw 37 rfl)) (Or.inr (wat hw 35 rfl)) (by decide) (t := (.array .byte)) (t' := .byte) (by decide) (by decide)))
    have f128 := f100.other W121 nA91.symm
    have f129 := V94.other W121 nenb94_t.symm
    refine g_aloadN X121 hx (pc' := 52) rfl (hD hby d4_51) rfl rfl ?_
    refine g_aload X121 hx (pc' := 54) rfl (hD hby d4_52) rfl rfl ?_
    refine g_putF X121 hx hZ hown (wat hw 36 rfl) Via.refl f127 f125 (Or.inr ⟨(wat hw 37 rfl), rfl, hnm⟩) (wat hw 10 rfl) (ty := (.array .byte)) (by decide) rfl rfl hgt (pc' := 57) rfl (hD hby d4_54) (fun T130 h130 X130 W130 => ?_)
    have f131 := (by have q := (Keep.of_wr W130).1; exact Nat.le_trans f122 q : n0 ≤ h130.size)
    have f132 := f123.wr W130 (Or.inl (List.mem_of_getElem? (i := 0) rfl))
    have f133 := f124.wr W130 hgt
    have f134 := f125.wr W130
    have f135 := f126.other W130 (Or.inr (slot_ne (Or.inr (wat hw 35 rfl)) (Or.inr (wat hw 37 rfl)) (by decide) (t := .byte) (t' := (.array .byte)) (by decide) (by decide)))
    have f136 := f127.same W130
    have f137 := f128.other W130 nA91.symm
    have f138 := f129.other W130 nenb94_t.symm
    exact g_retV X130 hx hlk hret (hD hby d4_57) (by decide) (by decide) (Nat.le_refl _) (⟨rfl, f132, ⟨f134, nb94, f136, Or.inr ⟨f135, f138, hcs⟩⟩⟩)
theorem rm3 (l : Launch) (Z : State) (a0 : Array Value) (hw : HW a0 Z) (ws : List Jvm.Cond) (n0 : Nat) (Ts : List String) (t ca : Addr) (cs : List Int32) (n' m' : Int32) (cz : Int32) (h0 : Heap) (hn0 : n0 ≤ h0.size) (U1 : St2 Z (.int 1)) (U2 : St3 Z (.int 0)) (U3 : St4 Z (.int 8)) (O2 : St0 Z (.int cz)) (hcz : ¬ cz = 0) (OLD : OldP Z n0 h0) (hn : n'.toInt = (cs.length : Int)) (hM : m'.toInt = ((2 * cs.length : Nat) : Int)) (hm : n' <<< ((1 : Int32) &&& 31) = m') (h129 : cs.length ≤ 129) (h1 : 1 ≤ cs.length) (hcs : ∀ c ∈ cs, 0 ≤ c.toInt ∧ c.toInt < 65536) (Ac : AV Z h0 ca .char (cs.map Value.int)) (Et : XSt Z h0 t) (hgt : n0 ≤ t) (F_coder : SC Z h0 t (.int 0)) (F_value : SV Z h0 t .null) :
    Con l Z n0 Ts (Ts) (⟨"java/lang/String", "<init>", "([C)V"⟩ : MethodName) jdk_42_method_3_code 2 none ws ({ frames := 5, cells := 2, slots := 387, locals := 136 } : Room) #[(.ref t), (.ref ca)] h0 (fun v h => v = none ∧ Keep h0 h [t] ∧ StrC Z h t cs) := by
  refine con_start (fr0 := fun m => mkF m 0 #[.val (.ref t), .val (.ref ca)] []) ?_
  intro p e s m below meth c T0 hx hZ hby hml hown hnm hret hlk hsh XA
  have X0 := XA n0
  have hlow : n0 ≤ s.heap.size := by rw [hsh]; exact hn0
  replace hown : s.vm.findClass "java/lang/String" = some m.cls := hown
  replace hml : c.maxLocals = 2 := hml
  have nA139 : t ≠ ca := own_neA Et (wat hw 10 rfl) Ac
  refine g_aloadN X0 hx (pc' := 1) rfl (hD hby d3_0) rfl rfl ?_
  refine g_aloadN X0 hx (pc' := 2) rfl (hD hby d3_1) rfl rfl ?_
  refine g_iconst X0 hx (pc' := 3) (z := (0 : Int32)) rfl (hD hby d3_2) rfl ?_
  refine g_aloadN X0 hx (pc' := 4) rfl (hD hby d3_3) rfl rfl ?_
  refine g_alen X0 hx hZ Ac (z := n') (by rw [List.length_map]; exact hn) (pc' := 5) rfl (hD hby d3_4) ?_
  refine g_aconst_null X0 hx (pc' := 6) rfl (hD hby d3_5) ?_
  refine g_callI X0 hx hZ hown rfl (wat hw 15 rfl) (wat hw 16 rfl) (wat hw 11 rfl) (wat hw 18 rfl) (by decide) (a := t) (rm4 l Z a0 hw [] n0 (Ts) t ca cs n' m' cz h0 hn0 U1 U2 U3 O2 hcz OLD hn hM hm h129 h1 hcs Ac Et hgt F_coder F_value) pd_16 rfl rfl (pc' := 9) rfl (hD hby d3_6) (argsL := [(.ref ca), (.int 0), (.int n'), .null]) (rest := []) rfl (W := 0) (fun v140 T140 h140 X140 hQ140 => ?_)
  obtain ⟨rfl, K140, SS140⟩ := hQ140
  have f141 := (Keep.refl h0 [t]).trans K140 (allS (Or.inl (List.mem_of_getElem? (i := 0) rfl)) all0)
  have f142 := OLD.keep K140 (allS hgt all0)
  have f143 := Et.keep K140
  have f144 := Ac.keep K140 (ninS nA139.symm nin0)
  have zs140 : n0 ≤ h140.size := Nat.le_trans hn0 K140.1
  show Go p e below s n0 _ _ _ (T140.setTop (mkF m 9 _ []))
  exact g_retV X140 hx hlk hret (hD hby d3_9) (by decide) (by decide) (Nat.le_refl _) (⟨rfl, f141, SS140⟩)
theorem rm4_e (l : Launch) (Z : State) (a0 : Array Value) (hw : HW a0 Z) (ws : List Jvm.Cond) (n0 : Nat) (Ts : List String) (t ca : Addr) (cz : Int32) (h0 : Heap) (hn0 : n0 ≤ h0.size) (hcw : Jvm.Lit.compactW.before a0 Z = true) (hkc : ∀ q ∈ consts_1, Jvm.Lit.constHeld Z q.1 q.2) (O2 : St0 Z (.int cz)) (hcz : ¬ cz = 0) (OLD : OldP Z n0 h0) (hT : "" ∉ Ts) (Et : XSt Z h0 t) (hgt : n0 ≤ t) (F_coder : SC Z h0 t (.int 0)) (F_value : SV Z h0 t .null) :
    Con l Z n0 Ts ("" :: Ts) (⟨"java/lang/String", "<init>", "([CIILjava/lang/Void;)V"⟩ : MethodName) jdk_42_method_149_code 6 none ws ({ frames := 1, cells := 2, slots := 4, locals := 16 } : Room) #[(.ref t), (.ref ca), (.int 0), (.int 0), .null] h0 (fun v h => v = none ∧ Keep h0 h [t] ∧ StrC Z h t []) := by
  refine con_start (fr0 := fun m => mkF m 0 #[.val (.ref t), .val (.ref ca), .val (.int 0), .val (.int 0), .val .null, .unset] []) ?_
  intro p e s m below meth c T0 hx hZ hby hml hown hnm hret hlk hsh XA
  have X0 := XA s.heap.size
  have hlow : n0 ≤ s.heap.size := by rw [hsh]; exact hn0
  replace hown : s.vm.findClass "java/lang/String" = some m.cls := hown
  replace hml : c.maxLocals = 6 := hml
  refine g_aloadN X0 hx (pc' := 1) rfl (hD hby d4_0) rfl rfl ?_
  refine g_initO X0 hx hZ hown (wat hw 19 rfl) (wat hw 20 rfl) (wat hw 21 rfl) (by rw [hml]; rfl) (pc' := 4) rfl (hD hby d4_1) (by decide) (W := 0) (Nat.le_of_eq rfl) (by decide) (fun T145 X145 => ?_)
  show Go p e below s n0 _ _ _ (T145.setTop (mkF m 4 _ []))
  refine g_iloadN X145 hx (pc' := 5) rfl (hD hby d4_4) rfl ?_
  refine g_ifN X145 hx (pcN := 8) (hD hby d4_5) rfl (show ¬ (¬ (0 : Int32) = 0) from by decide) ?_
  refine g_aloadN X145 hx (pc' := 9) rfl (hD hby d4_8) rfl rfl ?_
  refine g_ldcS X145 hx hZ hown (wat hw 52 rfl) (own_wS hw) (fun b cl q => by rw [hsh]; exact OLD.2.2 b cl q) hT (hkc ("java/lang/String", 7) (by simp [consts_1])) hcw (vs := []) ⟨by decide, rfl⟩ (by decide) (pc' := 11) rfl (hD hby d4_9) (n := 0) (by decide) (by decide) (by decide) (by decide) (fun T146 h146 a146 b146 XX146 E146 EX146 FC146 FV146 AB146 WH146 => ?_)
  have X146 := XX146.low hlow
  have f147 := Et.ext E146
  have f148 := F_coder.ext E146
  have f149 := F_value.ext E146
  have f150 := (Keep.refl h0 [t]).ext E146
  have Zs146 : n0 ≤ h146.size := Nat.le_trans hn0 E146.1
  have f151 := OLD.ext E146
  show Go p e below s n0 _ _ _ (T146.setTop (mkF m 11 _ [(.ref a146), (.ref t)]))
  have ne_ta : t ≠ a146 := own_fne f149 FV146
  have nA152 : t ≠ b146 := own_neA f147 (wat hw 10 rfl) AB146
  refine g_getF X146 hx hZ hown (wat hw 36 rfl) Via.refl FV146 (pc' := 14) rfl (hD hby d4_11) (fun T153 X153 => ?_)
  refine g_putF X153 hx hZ hown (wat hw 36 rfl) Via.refl f149 f147 (Or.inr ⟨(wat hw 37 rfl), rfl, hnm⟩) (wat hw 10 rfl) (ty := (.array .byte)) (by decide) rfl rfl hgt (pc' := 17) rfl (hD hby d4_14) (fun T154 h154 X154 W154 => ?_)
  have f155 := (by have q := (Keep.of_wr W154).1; exact Nat.le_trans Zs146 q : n0 ≤ h154.size)
  have f156 := f150.wr W154 (Or.inl (List.mem_of_getElem? (i := 0) rfl))
  have f157 := f151.wr W154 hgt
  have f158 := f147.wr W154
  have f159 := f148.other W154 (Or.inr (slot_ne (Or.inr (wat hw 35 rfl)) (Or.inr (wat hw 37 rfl)) (by decide) (t := .byte) (t' := (.array .byte)) (by decide) (by decide)))
  have f160 := f149.same W154
  have f161 := EX146.wr W154
  have f162 := FC146.other W154 (Or.inl ne_ta.symm)
  have f163 := FV146.other W154 (Or.inl ne_ta.symm)
  have f164 := AB146.other W154 nA152.symm
  refine g_aloadN X154 hx (pc' := 18) rfl (hD hby d4_17) rfl rfl ?_
  refine g_ldcA X154 hx hZ hown (wat hw 52 rfl) (a := a146) (List.mem_of_getElem? (i := 0) rfl) (pc' := 20) rfl (hD hby d4_18) ?_
  refine g_getF X154 hx hZ hown (wat hw 34 rfl) Via.refl f162 (pc' := 23) rfl (hD hby d4_20) (fun T166 X166 => ?_)
  refine g_putF X166 hx hZ hown (wat hw 34 rfl) Via.refl f159 f158 (Or.inr ⟨(wat hw 35 rfl), rfl, hnm⟩) (wat hw 10 rfl) (ty := .byte) (by decide) rfl rfl hgt (pc' := 26) rfl (hD hby d4_23) (fun T167 h167 X167 W167 => ?_)
  have f168 := (by have q := (Keep.of_wr W167).1; exact Nat.le_trans f155 q : n0 ≤ h167.size)
  have f169 := f156.wr W167 (Or.inl (List.mem_of_getElem? (i := 0) rfl))
  have f170 := f157.wr W167 hgt
  have f171 := f158.wr W167
  have f172 := f159.same W167
  have f173 := f160.other W167 (Or.inr (slot_ne (Or.inr (wat hw 37 rfl)) (Or.inr (wat hw 35 rfl)) (by decide) (t := (.array .byte)) (t' := .byte) (by decide) (by decide)))
  have f174 := f161.wr W167
  have f175 := f162.other W167 (Or.inl ne_ta.symm)
  have f176 := f163.other W167 (Or.inl ne_ta.symm)
  have f177 := f164.other W167 nA152.symm
  exact g_retV X167 hx hlk hret (hD hby d4_26) (by decide) (by decide) (Nat.le_refl _) (⟨rfl, f169, ⟨f171, b146, f173, Or.inl ⟨f172, f177, fun c hc => absurd hc List.not_mem_nil⟩⟩⟩)
theorem rm3_e (l : Launch) (Z : State) (a0 : Array Value) (hw : HW a0 Z) (ws : List Jvm.Cond) (n0 : Nat) (Ts : List String) (t ca : Addr) (cz : Int32) (h0 : Heap) (hn0 : n0 ≤ h0.size) (hcw : Jvm.Lit.compactW.before a0 Z = true) (hkc : ∀ q ∈ consts_1, Jvm.Lit.constHeld Z q.1 q.2) (O2 : St0 Z (.int cz)) (hcz : ¬ cz = 0) (OLD : OldP Z n0 h0) (hT : "" ∉ Ts) (Et : XSt Z h0 t) (hgt : n0 ≤ t) (F_coder : SC Z h0 t (.int 0)) (F_value : SV Z h0 t .null) (Ac : AV Z h0 ca .char []) :
    Con l Z n0 Ts ("" :: Ts) (⟨"java/lang/String", "<init>", "([C)V"⟩ : MethodName) jdk_42_method_3_code 2 none ws ({ frames := 2, cells := 2, slots := 4, locals := 48 } : Room) #[(.ref t), (.ref ca)] h0 (fun v h => v = none ∧ Keep h0 h [t] ∧ StrC Z h t []) := by
  refine con_start (fr0 := fun m => mkF m 0 #[.val (.ref t), .val (.ref ca)] []) ?_
  intro p e s m below meth c T0 hx hZ hby hml hown hnm hret hlk hsh XA
  have X0 := XA n0
  have hlow : n0 ≤ s.heap.size := by rw [hsh]; exact hn0
  replace hown : s.vm.findClass "java/lang/String" = some m.cls := hown
  replace hml : c.maxLocals = 2 := hml
  have nA178 : t ≠ ca := own_neA Et (wat hw 10 rfl) Ac
  refine g_aloadN X0 hx (pc' := 1) rfl (hD hby d3_0) rfl rfl ?_
  refine g_aloadN X0 hx (pc' := 2) rfl (hD hby d3_1) rfl rfl ?_
  refine g_iconst X0 hx (pc' := 3) (z := (0 : Int32)) rfl (hD hby d3_2) rfl ?_
  refine g_aloadN X0 hx (pc' := 4) rfl (hD hby d3_3) rfl rfl ?_
  refine g_alen X0 hx hZ Ac (z := (0 : Int32)) rfl (pc' := 5) rfl (hD hby d3_4) ?_
  refine g_aconst_null X0 hx (pc' := 6) rfl (hD hby d3_5) ?_
  refine g_callI X0 hx hZ hown rfl (wat hw 15 rfl) (wat hw 16 rfl) (wat hw 11 rfl) (wat hw 18 rfl) (by decide) (a := t) (rm4_e l Z a0 hw [] n0 (Ts) t ca cz h0 hn0 hcw hkc O2 hcz OLD hT Et hgt F_coder F_value) pd_16 rfl rfl (pc' := 9) rfl (hD hby d3_6) (argsL := [(.ref ca), (.int 0), (.int 0), .null]) (rest := []) rfl (W := 0) (fun v179 T179 h179 X179 hQ179 => ?_)
  obtain ⟨rfl, K179, SS179⟩ := hQ179
  have f180 := (Keep.refl h0 [t]).trans K179 (allS (Or.inl (List.mem_of_getElem? (i := 0) rfl)) all0)
  have f181 := OLD.keep K179 (allS hgt all0)
  have f182 := Et.keep K179
  have f183 := Ac.keep K179 (ninS nA178.symm nin0)
  have zs179 : n0 ≤ h179.size := Nat.le_trans hn0 K179.1
  show Go p e below s n0 _ _ _ (T179.setTop (mkF m 9 _ []))
  exact g_retV X179 hx hlk hret (hD hby d3_9) (by decide) (by decide) (Nat.le_refl _) (⟨rfl, f180, SS179⟩)
theorem rm27_1 (l : Launch) (Z : State) (a0 : Array Value) (hw : HW a0 Z) (ws : List Jvm.Cond) (n0 : Nat) (Ts : List String) (c' : Int32) (h0 : Heap) (hn0 : n0 ≤ h0.size) (hc : ¬ (255 : Int32) < c') :
    Con l Z n0 Ts (Ts) (⟨"java/lang/StringLatin1", "canEncode", "(C)Z"⟩ : MethodName) jdk_43_method_3_code 1 (some .boolean) ws ({ frames := 0, cells := 0, slots := 0, locals := 0 } : Room) #[(.int c')] h0 (fun v h => v = some (.int 1) ∧ h = h0) := by
  refine con_start (fr0 := fun m => mkF m 0 #[.val (.int c')] []) ?_
  intro p e s m below meth c T0 hx hZ hby hml hown hnm hret hlk hsh XA
  have X0 := XA n0
  have hlow : n0 ≤ s.heap.size := by rw [hsh]; exact hn0
  replace hown : s.vm.findClass "java/lang/StringLatin1" = some m.cls := hown
  replace hml : c.maxLocals = 1 := hml
  refine g_iloadN X0 hx (pc' := 1) rfl (hD hby d27_0) rfl ?_
  refine g_sipush X0 hx (pc' := 4) (z := (255 : Int32)) rfl (hD hby d27_1) rfl ?_
  refine g_icmpN X0 hx (pcN := 7) (hD hby d27_4) rfl (show ¬ ((255 : Int32) < c') from hc) ?_
  refine g_iconst X0 hx (pc' := 8) (z := (1 : Int32)) rfl (hD hby d27_7) rfl ?_
  refine g_goto X0 hx (pc' := 12) (hD hby d27_8) (by decide) (by decide) ?_
  exact g_retZ X0 hx hlk hret (by first | exact Or.inl rfl | exact Or.inr rfl) (hD hby d27_12) (by decide) (by decide) (Nat.le_refl _) (⟨rfl, rfl⟩)
theorem rm27_0 (l : Launch) (Z : State) (a0 : Array Value) (hw : HW a0 Z) (ws : List Jvm.Cond) (n0 : Nat) (Ts : List String) (c' : Int32) (h0 : Heap) (hn0 : n0 ≤ h0.size) (hc : (255 : Int32) < c') :
    Con l Z n0 Ts (Ts) (⟨"java/lang/StringLatin1", "canEncode", "(C)Z"⟩ : MethodName) jdk_43_method_3_code 1 (some .boolean) ws ({ frames := 0, cells := 0, slots := 0, locals := 0 } : Room) #[(.int c')] h0 (fun v h => v = some (.int 0) ∧ h = h0) := by
  refine con_start (fr0 := fun m => mkF m 0 #[.val (.int c')] []) ?_
  intro p e s m below meth c T0 hx hZ hby hml hown hnm hret hlk hsh XA
  have X0 := XA n0
  have hlow : n0 ≤ s.heap.size := by rw [hsh]; exact hn0
  replace hown : s.vm.findClass "java/lang/StringLatin1" = some m.cls := hown
  replace hml : c.maxLocals = 1 := hml
  refine g_iloadN X0 hx (pc' := 1) rfl (hD hby d27_0) rfl ?_
  refine g_sipush X0 hx (pc' := 4) (z := (255 : Int32)) rfl (hD hby d27_1) rfl ?_
  refine g_icmpY X0 hx (pcY := 11) (hD hby d27_4) (by decide) (by decide) (show (255 : Int32) < c' from hc) ?_
  refine g_iconst X0 hx (pc' := 12) (z := (0 : Int32)) rfl (hD hby d27_11) rfl ?_
  exact g_retZ X0 hx hlk hret (by first | exact Or.inl rfl | exact Or.inr rfl) (hD hby d27_12) (by decide) (by decide) (Nat.le_refl _) (⟨rfl, rfl⟩)
theorem rm28 (l : Launch) (Z : State) (a0 : Array Value) (hw : HW a0 Z) (ws : List Jvm.Cond) (n0 : Nat) (Ts : List String) (c' : Int32) (h0 : Heap) (hn0 : n0 ≤ h0.size)  :
    Con l Z n0 Ts (Ts) (⟨"java/lang/StringLatin1", "toBytes", "(C)[B"⟩ : MethodName) jdk_43_method_46_code 1 (some (.array .byte)) ws ({ frames := 0, cells := 1, slots := 1, locals := 0 } : Room) #[(.int c')] h0 (fun v h => ∃ nb, v = some (.ref nb) ∧ n0 ≤ nb ∧ h0.size ≤ nb ∧ Keep h0 h [] ∧ AV Z h nb .byte (L1 [c'])) := by
  refine con_start (fr0 := fun m => mkF m 0 #[.val (.int c')] []) ?_
  intro p e s m below meth c T0 hx hZ hby hml hown hnm hret hlk hsh XA
  have X0 := XA n0
  have hlow : n0 ≤ s.heap.size := by rw [hsh]; exact hn0
  replace hown : s.vm.findClass "java/lang/StringLatin1" = some m.cls := hown
  replace hml : c.maxLocals = 1 := hml
  refine g_iconst X0 hx (pc' := 1) (z := (1 : Int32)) rfl (hD hby d28_0) rfl ?_
  refine g_newA X0 hx hZ (aty := .byte) (wat hw 27 rfl) (N := 1) (by decide) (cap := 1) (Nat.le_refl _) (by decide) (pc' := 3) rfl (hD hby d28_1) (by decide) (by decide) (fun T184 h184 a184 ha184 X184 E184 N184 => ?_)
  have sz184 : h0.size ≤ a184 := by rw [ha184]; exact (Keep.refl h0 []).1
  have f185 := (Keep.refl h0 []).ext E184
  have G_a184 : n0 ≤ a184 := by rw [ha184]; exact hn0
  have Zs184 : n0 ≤ h184.size := Nat.le_trans hn0 E184.1
  have V184 : AV Z h184 a184 .byte [.int 0] := N184
  refine g_dup X184 hx (pc' := 4) rfl (hD hby d28_3) rfl ?_
  refine g_iconst X184 hx (pc' := 5) (z := (0 : Int32)) rfl (hD hby d28_4) rfl ?_
  refine g_iloadN X184 hx (pc' := 6) rfl (hD hby d28_5) rfl ?_
  refine g_i2b X184 hx (pc' := 7) rfl (hD hby d28_6) ?_
  refine g_bastore X184 hx hZ V184 (i := 0) (by decide) (show (0 : Nat) < 1 by decide) G_a184 (y := (c').toInt8.toInt32) (nar_i2b _) (pc' := 8) rfl (hD hby d28_7) (fun T186 h186 X186 W186 N186 => ?_)
  have f187 := (by have q := (Keep.of_wr W186).1; exact Nat.le_trans Zs184 q : n0 ≤ h186.size)
  have f188 := f185.wr W186 (Or.inr sz184)
  have V186 : AV Z h186 a184 .byte [.int (c').toInt8.toInt32] := N186
  exact g_ret X186 hx hlk hret rfl (Or.inr (Or.inr (Or.inr (Or.inr ⟨rfl, rfl, rfl⟩)))) (hD hby d28_8) (by decide) (by decide) (Nat.le_refl _) (⟨a184, rfl, G_a184, sz184, f188, V186⟩)
theorem rm31 (l : Launch) (Z : State) (a0 : Array Value) (hw : HW a0 Z) (ws : List Jvm.Cond) (n0 : Nat) (Ts : List String) (c' : Int32) (h0 : Heap) (hn0 : n0 ≤ h0.size) (U1 : St2 Z (.int 1)) (U2 : St3 Z (.int 0)) (U3 : St4 Z (.int 8)) (OLD : OldP Z n0 h0) :
    Con l Z n0 Ts (Ts) (⟨"java/lang/StringUTF16", "toBytes", "(C)[B"⟩ : MethodName) jdk_52_method_24_code 2 (some (.array .byte)) ws ({ frames := 1, cells := 1, slots := 2, locals := 16 } : Room) #[(.int c')] h0 (fun v h => ∃ nb, v = some (.ref nb) ∧ n0 ≤ nb ∧ h0.size ≤ nb ∧ Keep h0 h [] ∧ AV Z h nb .byte (U16 [c'])) := by
  refine con_start (fr0 := fun m => mkF m 0 #[.val (.int c'), .unset] []) ?_
  intro p e s m below meth c T0 hx hZ hby hml hown hnm hret hlk hsh XA
  have X0 := XA n0
  have hlow : n0 ≤ s.heap.size := by rw [hsh]; exact hn0
  replace hown : s.vm.findClass "java/lang/StringUTF16" = some m.cls := hown
  replace hml : c.maxLocals = 2 := hml
  refine g_iconst X0 hx (pc' := 1) (z := (2 : Int32)) rfl (hD hby d31_0) rfl ?_
  refine g_newA X0 hx hZ (aty := .byte) (wat hw 27 rfl) (N := 2) (by decide) (cap := 2) (Nat.le_refl _) (by decide) (pc' := 3) rfl (hD hby d31_1) (by decide) (by decide) (fun T189 h189 a189 ha189 X189 E189 N189 => ?_)
  have sz189 : h0.size ≤ a189 := by rw [ha189]; exact (Keep.refl h0 []).1
  have f190 := (Keep.refl h0 []).ext E189
  have G_a189 : n0 ≤ a189 := by rw [ha189]; exact hn0
  have Zs189 : n0 ≤ h189.size := Nat.le_trans hn0 E189.1
  have f191 := OLD.ext E189
  have V189 : AV Z h189 a189 .byte [.int 0, .int 0] := N189
  refine g_astoreN X189 hx (pc' := 4) rfl (hD hby d31_3) rfl (l' := #[.val (.int c'), .val (.ref a189)]) rfl ?_
  refine g_aloadN X189 hx (pc' := 5) rfl (hD hby d31_4) rfl rfl ?_
  refine g_iconst X189 hx (pc' := 6) (z := (0 : Int32)) rfl (hD hby d31_5) rfl ?_
  refine g_iloadN X189 hx (pc' := 7) rfl (hD hby d31_6) rfl ?_
  refine g_callS X189 hx hZ hown (wat hw 70 rfl) (wat hw 71 rfl) (wat hw 25 rfl) (wat hw 72 rfl) (by decide) (rm16 l Z a0 hw [] n0 (Ts) a189 [.int 0, .int 0] 0 c' 0 h189 Zs189 U1 U2 U3 f191 V189 G_a189 rfl (by decide) (by decide)) pd_11 rfl rfl (pc' := 10) rfl (hD hby d31_7) (argsL := [(.ref a189), (.int 0), (.int c')]) (rest := []) rfl (W := 0) (fun v192 T192 h192 X192 hQ192 => ?_)
  obtain ⟨rfl, K192, V192⟩ := hQ192
  have f193 := f190.trans K192 (allS (Or.inr sz189) all0)
  have f194 := f191.keep K192 (allS G_a189 all0)
  have zs192 : n0 ≤ h192.size := Nat.le_trans Zs189 K192.1
  show Go p e below s n0 _ _ _ (T192.setTop (mkF m 10 _ []))
  refine g_aloadN X192 hx (pc' := 11) rfl (hD hby d31_10) rfl rfl ?_
  exact g_ret X192 hx hlk hret rfl (Or.inr (Or.inr (Or.inr (Or.inr ⟨rfl, rfl, rfl⟩)))) (hD hby d31_11) (by decide) (by decide) (Nat.le_refl _) (⟨a189, rfl, G_a189, sz189, f193, V192⟩)
theorem rm29_0 (l : Launch) (Z : State) (a0 : Array Value) (hw : HW a0 Z) (ws : List Jvm.Cond) (n0 : Nat) (Ts : List String) (t nb : Addr) (h0 : Heap) (hn0 : n0 ≤ h0.size) (Et : XSt Z h0 t) (hgt : n0 ≤ t) (F_coder : SC Z h0 t (.int 0)) (F_value : SV Z h0 t .null) :
    Con l Z n0 Ts (Ts) (⟨"java/lang/String", "<init>", "([BB)V"⟩ : MethodName) jdk_42_method_151_code 3 none ws ({ frames := 1, cells := 0, slots := 0, locals := 16 } : Room) #[(.ref t), (.ref nb), (.int 0)] h0 (fun v h => v = none ∧ Keep h0 h [t] ∧ SV Z h t (.ref nb) ∧ SC Z h t (.int 0)) := by
  refine con_start (fr0 := fun m => mkF m 0 #[.val (.ref t), .val (.ref nb), .val (.int 0)] []) ?_
  intro p e s m below meth c T0 hx hZ hby hml hown hnm hret hlk hsh XA
  have X0 := XA n0
  have hlow : n0 ≤ s.heap.size := by rw [hsh]; exact hn0
  replace hown : s.vm.findClass "java/lang/String" = some m.cls := hown
  replace hml : c.maxLocals = 3 := hml
  refine g_aloadN X0 hx (pc' := 1) rfl (hD hby d29_0) rfl rfl ?_
  refine g_initO X0 hx hZ hown (wat hw 19 rfl) (wat hw 20 rfl) (wat hw 21 rfl) (by rw [hml]; rfl) (pc' := 4) rfl (hD hby d29_1) (by decide) (W := 0) (Nat.le_of_eq rfl) (by decide) (fun T195 X195 => ?_)
  show Go p e below s n0 _ _ _ (T195.setTop (mkF m 4 _ []))
  refine g_aloadN X195 hx (pc' := 5) rfl (hD hby d29_4) rfl rfl ?_
  refine g_aloadN X195 hx (pc' := 6) rfl (hD hby d29_5) rfl rfl ?_
  refine g_putF X195 hx hZ hown (wat hw 36 rfl) Via.refl F_value Et (Or.inr ⟨(wat hw 37 rfl), rfl, hnm⟩) (wat hw 10 rfl) (ty := (.array .byte)) (by decide) rfl rfl hgt (pc' := 9) rfl (hD hby d29_6) (fun T196 h196 X196 W196 => ?_)
  have f197 := (by have q := (Keep.of_wr W196).1; exact Nat.le_trans hn0 q : n0 ≤ h196.size)
  have f198 := (Keep.refl h0 [t]).wr W196 (Or.inl (List.mem_of_getElem? (i := 0) rfl))
  have f199 := Et.wr W196
  have f200 := F_coder.other W196 (Or.inr (slot_ne (Or.inr (wat hw 35 rfl)) (Or.inr (wat hw 37 rfl)) (by decide) (t := .byte) (t' := (.array .byte)) (by decide) (by decide)))
  have f201 := F_value.same W196
  refine g_aloadN X196 hx (pc' := 10) rfl (hD hby d29_9) rfl rfl ?_
  refine g_iloadN X196 hx (pc' := 11) rfl (hD hby d29_10) rfl ?_
  refine g_putF X196 hx hZ hown (wat hw 34 rfl) Via.refl f200 f199 (Or.inr ⟨(wat hw 35 rfl), rfl, hnm⟩) (wat hw 10 rfl) (ty := .byte) (by decide) rfl rfl hgt (pc' := 14) rfl (hD hby d29_11) (fun T202 h202 X202 W202 => ?_)
  have f203 := (by have q := (Keep.of_wr W202).1; exact Nat.le_trans f197 q : n0 ≤ h202.size)
  have f204 := f198.wr W202 (Or.inl (List.mem_of_getElem? (i := 0) rfl))
  have f205 := f199.wr W202
  have f206 := f200.same W202
  have f207 := f201.other W202 (Or.inr (slot_ne (Or.inr (wat hw 37 rfl)) (Or.inr (wat hw 35 rfl)) (by decide) (t := (.array .byte)) (t' := .byte) (by decide) (by decide)))
  exact g_retV X202 hx hlk hret (hD hby d29_14) (by decide) (by decide) (Nat.le_refl _) (⟨rfl, f204, f207, f206⟩)
theorem rm29_1 (l : Launch) (Z : State) (a0 : Array Value) (hw : HW a0 Z) (ws : List Jvm.Cond) (n0 : Nat) (Ts : List String) (t nb : Addr) (h0 : Heap) (hn0 : n0 ≤ h0.size) (Et : XSt Z h0 t) (hgt : n0 ≤ t) (F_coder : SC Z h0 t (.int 0)) (F_value : SV Z h0 t .null) :
    Con l Z n0 Ts (Ts) (⟨"java/lang/String", "<init>", "([BB)V"⟩ : MethodName) jdk_42_method_151_code 3 none ws ({ frames := 1, cells := 0, slots := 0, locals := 16 } : Room) #[(.ref t), (.ref nb), (.int 1)] h0 (fun v h => v = none ∧ Keep h0 h [t] ∧ SV Z h t (.ref nb) ∧ SC Z h t (.int 1)) := by
  refine con_start (fr0 := fun m => mkF m 0 #[.val (.ref t), .val (.ref nb), .val (.int 1)] []) ?_
  intro p e s m below meth c T0 hx hZ hby hml hown hnm hret hlk hsh XA
  have X0 := XA n0
  have hlow : n0 ≤ s.heap.size := by rw [hsh]; exact hn0
  replace hown : s.vm.findClass "java/lang/String" = some m.cls := hown
  replace hml : c.maxLocals = 3 := hml
  refine g_aloadN X0 hx (pc' := 1) rfl (hD hby d29_0) rfl rfl ?_
  refine g_initO X0 hx hZ hown (wat hw 19 rfl) (wat hw 20 rfl) (wat hw 21 rfl) (by rw [hml]; rfl) (pc' := 4) rfl (hD hby d29_1) (by decide) (W := 0) (Nat.le_of_eq rfl) (by decide) (fun T208 X208 => ?_)
  show Go p e below s n0 _ _ _ (T208.setTop (mkF m 4 _ []))
  refine g_aloadN X208 hx (pc' := 5) rfl (hD hby d29_4) rfl rfl ?_
  refine g_aloadN X208 hx (pc' := 6) rfl (hD hby d29_5) rfl rfl ?_
  refine g_putF X208 hx hZ hown (wat hw 36 rfl) Via.refl F_value Et (Or.inr ⟨(wat hw 37 rfl), rfl, hnm⟩) (wat hw 10 rfl) (ty := (.array .byte)) (by decide) rfl rfl hgt (pc' := 9) rfl (hD hby d29_6) (fun T209 h209 X209 W209 => ?_)
  have f210 := (by have q := (Keep.of_wr W209).1; exact Nat.le_trans hn0 q : n0 ≤ h209.size)
  have f211 := (Keep.refl h0 [t]).wr W209 (Or.inl (List.mem_of_getElem? (i := 0) rfl))
  have f212 := Et.wr W209
  have f213 := F_coder.other W209 (Or.inr (slot_ne (Or.inr (wat hw 35 rfl)) (Or.inr (wat hw 37 rfl)) (by decide) (t := .byte) (t' := (.array .byte)) (by decide) (by decide)))
  have f214 := F_value.same W209
  refine g_aloadN X209 hx (pc' := 10) rfl (hD hby d29_9) rfl rfl ?_
  refine g_iloadN X209 hx (pc' := 11) rfl (hD hby d29_10) rfl ?_
  refine g_putF X209 hx hZ hown (wat hw 34 rfl) Via.refl f213 f212 (Or.inr ⟨(wat hw 35 rfl), rfl, hnm⟩) (wat hw 10 rfl) (ty := .byte) (by decide) rfl rfl hgt (pc' := 14) rfl (hD hby d29_11) (fun T215 h215 X215 W215 => ?_)
  have f216 := (by have q := (Keep.of_wr W215).1; exact Nat.le_trans f210 q : n0 ≤ h215.size)
  have f217 := f211.wr W215 (Or.inl (List.mem_of_getElem? (i := 0) rfl))
  have f218 := f212.wr W215
  have f219 := f213.same W215
  have f220 := f214.other W215 (Or.inr (slot_ne (Or.inr (wat hw 37 rfl)) (Or.inr (wat hw 35 rfl)) (by decide) (t := (.array .byte)) (t' := .byte) (by decide) (by decide)))
  exact g_retV X215 hx hlk hret (hD hby d29_14) (by decide) (by decide) (Nat.le_refl _) (⟨rfl, f217, f220, f219⟩)
theorem own_sg {c' : Int32} {P : Int32 → Prop} (h : P c') : ∀ c ∈ [c'], P c := fun c hc => by rw [List.mem_singleton.mp hc]; exact h
theorem rm26 (l : Launch) (Z : State) (a0 : Array Value) (hw : HW a0 Z) (ws : List Jvm.Cond) (n0 : Nat) (Ts : List String) (c' : Int32) (cz : Int32) (h0 : Heap) (hn0 : n0 ≤ h0.size) (U1 : St2 Z (.int 1)) (U2 : St3 Z (.int 0)) (U3 : St4 Z (.int 8)) (O2 : St0 Z (.int cz)) (hcz : ¬ cz = 0) (OLD : OldP Z n0 h0) (hc0 : 0 ≤ c'.toInt ∧ c'.toInt < 65536) :
    Con l Z n0 Ts (Ts) (⟨"java/lang/String", "valueOf", "(C)Ljava/lang/String;"⟩ : MethodName) jdk_42_method_139_code 1 (some (.object "java/lang/String")) ws ({ frames := 2, cells := 2, slots := 6, locals := 48 } : Room) #[(.int c')] h0 (fun v h => ∃ t, v = some (.ref t) ∧ n0 ≤ t ∧ Keep h0 h [] ∧ StrC Z h t [c']) := by
  refine con_start (fr0 := fun m => mkF m 0 #[.val (.int c')] []) ?_
  intro p e s m below meth c T0 hx hZ hby hml hown hnm hret hlk hsh XA
  have X0 := XA n0
  have hlow : n0 ≤ s.heap.size := by rw [hsh]; exact hn0
  replace hown : s.vm.findClass "java/lang/String" = some m.cls := hown
  replace hml : c.maxLocals = 1 := hml
  have hcs : ∀ c ∈ [c'], 0 ≤ c.toInt ∧ c.toInt < 65536 := own_sg hc0
  by_cases hc : (255 : Int32) < c'
  · skip
    refine g_getS X0 hx hZ hown (wat hw 22 rfl) Via.refl (Sta.ext OLD.2 O2) (pc' := 3) rfl (hD hby d26_0) (fun T221 X221 => ?_)
    refine g_ifN X221 hx (pcN := 6) (hD hby d26_3) rfl (show ¬ (cz = 0) from hcz) ?_
    refine g_iloadN X221 hx (pc' := 7) rfl (hD hby d26_6) rfl ?_
    refine g_callS X221 hx hZ hown (wat hw 112 rfl) (wat hw 113 rfl) (wat hw 114 rfl) (wat hw 115 rfl) (by decide) (rm27_0 l Z a0 hw [] n0 (Ts) c' h0 hn0 hc) pd_9 rfl rfl (pc' := 10) rfl (hD hby d26_7) (argsL := [(.int c')]) (rest := []) rfl (W := 0) (fun v222 T222 h222 X222 hQ222 => ?_)
    obtain ⟨rfl, he222⟩ := hQ222
    rw [he222] at X222
    show Go p e below s n0 _ _ _ (T222.setTop (mkF m 10 _ [(.int 0)]))
    refine g_ifY X222 hx (pcY := 26) (hD hby d26_10) (by decide) (by decide) (show (0 : Int32) = 0 from by decide) ?_
    refine g_newO X222 hx hZ hown (wat hw 116 rfl) (wat hw 10 rfl) (wat hw 11 rfl) (pc' := 29) rfl (hD hby d26_26) (by decide) (by decide) (fun T223 h223 a223 ha223 X223 E223 A223 D223 => ?_)
    have sz223 : h0.size ≤ a223 := by rw [ha223]; exact (Keep.refl h0 []).1
    have f224 := (Keep.refl h0 []).ext E223
    have G_a223 : n0 ≤ a223 := by rw [ha223]; exact hn0
    have Zs223 : n0 ≤ h223.size := Nat.le_trans hn0 E223.1
    have f225 := OLD.ext E223
    have F223_coder : SC Z h223 a223 (.int 0) := D223 (Or.inr (wat hw 35 rfl)) (ty := .byte) (by decide)
    have F223_value : SV Z h223 a223 .null := D223 (Or.inr (wat hw 37 rfl)) (ty := (.array .byte)) (by decide)
    refine g_dup X223 hx (pc' := 30) rfl (hD hby d26_29) rfl ?_
    refine g_iloadN X223 hx (pc' := 31) rfl (hD hby d26_30) rfl ?_
    refine g_callS X223 hx hZ hown (wat hw 127 rfl) (wat hw 128 rfl) (wat hw 25 rfl) (wat hw 129 rfl) (by decide) (rm31 l Z a0 hw [] n0 (Ts) c' h223 Zs223 U1 U2 U3 f225) pd_17 rfl rfl (pc' := 34) rfl (hD hby d26_31) (argsL := [(.int c')]) (rest := [(.ref a223), (.ref a223)]) rfl (W := 2) (fun v226 T226 h226 X226 hQ226 => ?_)
    obtain ⟨nb226, rfl, Gnb226, S226, K226, V226⟩ := hQ226
    have nenb226_a223 : a223 ≠ nb226 := Nat.ne_of_lt (Nat.lt_of_lt_of_le A223.lt S226)
    have sznb226 : h0.size ≤ nb226 := Nat.le_trans f224.1 S226
    have f227 := f224.trans K226 all0
    have f228 := f225.keep K226 all0
    have f229 := A223.keep K226
    have f230 := F223_coder.keep K226 nin0
    have f231 := F223_value.keep K226 nin0
    have zs226 : n0 ≤ h226.size := Nat.le_trans Zs223 K226.1
    show Go p e below s n0 _ _ _ (T226.setTop (mkF m 34 _ [(.ref nb226), (.ref a223), (.ref a223)]))
    refine g_iconst X226 hx (pc' := 35) (z := (1 : Int32)) rfl (hD hby d26_34) rfl ?_
    refine g_callI X226 hx hZ hown rfl (wat hw 120 rfl) (wat hw 121 rfl) (wat hw 11 rfl) (wat hw 122 rfl) (by decide) (a := a223) (rm29_1 l Z a0 hw [] n0 (Ts) a223 nb226 h226 zs226 f229 G_a223 f230 f231) pd_18 rfl rfl (pc' := 38) rfl (hD hby d26_35) (argsL := [(.ref nb226), (.int 1)]) (rest := [(.ref a223)]) rfl (W := 1) (fun v232 T232 h232 X232 hQ232 => ?_)
    obtain ⟨rfl, K232, FV232, FC232⟩ := hQ232
    have f233 := f227.trans K232 (allS (Or.inr sz223) all0)
    have f234 := f228.keep K232 (allS G_a223 all0)
    have f235 := f229.keep K232
    have f236 := V226.keep K232 (ninS nenb226_a223.symm nin0)
    have zs232 : n0 ≤ h232.size := Nat.le_trans zs226 K232.1
    show Go p e below s n0 _ _ _ (T232.setTop (mkF m 38 _ [(.ref a223)]))
    exact g_ret X232 hx hlk hret rfl (Or.inr (Or.inr (Or.inr (Or.inr ⟨rfl, rfl, rfl⟩)))) (hD hby d26_38) (by decide) (by decide) (Nat.le_refl _) (⟨a223, rfl, G_a223, f233, ⟨f235, nb226, FV232, Or.inr ⟨FC232, f236, hcs⟩⟩⟩)
  · skip
    have hle : ∀ c ∈ [c'], 0 ≤ c.toInt ∧ c.toInt ≤ 255 := own_sg ⟨hc0.1, own_255' hc⟩
    refine g_getS X0 hx hZ hown (wat hw 22 rfl) Via.refl (Sta.ext OLD.2 O2) (pc' := 3) rfl (hD hby d26_0) (fun T237 X237 => ?_)
    refine g_ifN X237 hx (pcN := 6) (hD hby d26_3) rfl (show ¬ (cz = 0) from hcz) ?_
    refine g_iloadN X237 hx (pc' := 7) rfl (hD hby d26_6) rfl ?_
    refine g_callS X237 hx hZ hown (wat hw 112 rfl) (wat hw 113 rfl) (wat hw 114 rfl) (wat hw 115 rfl) (by decide) (rm27_1 l Z a0 hw [] n0 (Ts) c' h0 hn0 hc) pd_9 rfl rfl (pc' := 10) rfl (hD hby d26_7) (argsL := [(.int c')]) (rest := []) rfl (W := 0) (fun v238 T238 h238 X238 hQ238 => ?_)
    obtain ⟨rfl, he238⟩ := hQ238
    rw [he238] at X238
    show Go p e below s n0 _ _ _ (T238.setTop (mkF m 10 _ [(.int 1)]))
    refine g_ifN X238 hx (pcN := 13) (hD hby d26_10) rfl (show ¬ ((1 : Int32) = 0) from by decide) ?_
    refine g_newO X238 hx hZ hown (wat hw 116 rfl) (wat hw 10 rfl) (wat hw 11 rfl) (pc' := 16) rfl (hD hby d26_13) (by decide) (by decide) (fun T239 h239 a239 ha239 X239 E239 A239 D239 => ?_)
    have sz239 : h0.size ≤ a239 := by rw [ha239]; exact (Keep.refl h0 []).1
    have f240 := (Keep.refl h0 []).ext E239
    have G_a239 : n0 ≤ a239 := by rw [ha239]; exact hn0
    have Zs239 : n0 ≤ h239.size := Nat.le_trans hn0 E239.1
    have f241 := OLD.ext E239
    have F239_coder : SC Z h239 a239 (.int 0) := D239 (Or.inr (wat hw 35 rfl)) (ty := .byte) (by decide)
    have F239_value : SV Z h239 a239 .null := D239 (Or.inr (wat hw 37 rfl)) (ty := (.array .byte)) (by decide)
    refine g_dup X239 hx (pc' := 17) rfl (hD hby d26_16) rfl ?_
    refine g_iloadN X239 hx (pc' := 18) rfl (hD hby d26_17) rfl ?_
    refine g_callS X239 hx hZ hown (wat hw 117 rfl) (wat hw 118 rfl) (wat hw 114 rfl) (wat hw 119 rfl) (by decide) (rm28 l Z a0 hw [] n0 (Ts) c' h239 Zs239 ) pd_17 rfl rfl (pc' := 21) rfl (hD hby d26_18) (argsL := [(.int c')]) (rest := [(.ref a239), (.ref a239)]) rfl (W := 2) (fun v242 T242 h242 X242 hQ242 => ?_)
    obtain ⟨nb242, rfl, Gnb242, S242, K242, V242⟩ := hQ242
    have nenb242_a239 : a239 ≠ nb242 := Nat.ne_of_lt (Nat.lt_of_lt_of_le A239.lt S242)
    have sznb242 : h0.size ≤ nb242 := Nat.le_trans f240.1 S242
    have f243 := f240.trans K242 all0
    have f244 := f241.keep K242 all0
    have f245 := A239.keep K242
    have f246 := F239_coder.keep K242 nin0
    have f247 := F239_value.keep K242 nin0
    have zs242 : n0 ≤ h242.size := Nat.le_trans Zs239 K242.1
    show Go p e below s n0 _ _ _ (T242.setTop (mkF m 21 _ [(.ref nb242), (.ref a239), (.ref a239)]))
    refine g_iconst X242 hx (pc' := 22) (z := (0 : Int32)) rfl (hD hby d26_21) rfl ?_
    refine g_callI X242 hx hZ hown rfl (wat hw 120 rfl) (wat hw 121 rfl) (wat hw 11 rfl) (wat hw 122 rfl) (by decide) (a := a239) (rm29_0 l Z a0 hw [] n0 (Ts) a239 nb242 h242 zs242 f245 G_a239 f246 f247) pd_18 rfl rfl (pc' := 25) rfl (hD hby d26_22) (argsL := [(.ref nb242), (.int 0)]) (rest := [(.ref a239)]) rfl (W := 1) (fun v248 T248 h248 X248 hQ248 => ?_)
    obtain ⟨rfl, K248, FV248, FC248⟩ := hQ248
    have f249 := f243.trans K248 (allS (Or.inr sz239) all0)
    have f250 := f244.keep K248 (allS G_a239 all0)
    have f251 := f245.keep K248
    have f252 := V242.keep K248 (ninS nenb242_a239.symm nin0)
    have zs248 : n0 ≤ h248.size := Nat.le_trans zs242 K248.1
    show Go p e below s n0 _ _ _ (T248.setTop (mkF m 25 _ [(.ref a239)]))
    exact g_ret X248 hx hlk hret rfl (Or.inr (Or.inr (Or.inr (Or.inr ⟨rfl, rfl, rfl⟩)))) (hD hby d26_25) (by decide) (by decide) (Nat.le_refl _) (⟨a239, rfl, G_a239, f249, ⟨f251, nb242, FV248, Or.inl ⟨FC248, f252, hle⟩⟩⟩)
theorem laid_map (n : Nat) (f x y : Int32) (i j : Nat) : (laid n f x y i j).map Value.int = ((List.replicate n (Value.int f)).set i (.int x)).set j (.int y) := by simp [laid, List.map_set]
theorem ar_and7 (x : Int32) : 0 ≤ (x &&& (7 : Int32)).toInt ∧ (x &&& (7 : Int32)).toInt ≤ 7 := by
  have h1 : (x.toUInt32 &&& 7).toNat ≤ 7 := by rw [UInt32.toNat_and]; exact Nat.and_le_right
  have e : (x &&& (7 : Int32)) = (x.toUInt32 &&& 7).toInt32 := rfl
  rw [e, ar_u (by omega)]; omega
theorem own_pos {x k : Int32} (hk : 0 < k.toInt) : 0 ≤ ((x &&& (2147483647 : Int32)) % k).toInt ∧ ((x &&& (2147483647 : Int32)) % k).toInt < k.toInt := by
  have h1 : (x.toUInt32 &&& 2147483647).toNat ≤ 2147483647 := by rw [UInt32.toNat_and]; exact Nat.and_le_right
  have e : (x &&& (2147483647 : Int32)) = (x.toUInt32 &&& 2147483647).toInt32 := rfl
  have h2 : 0 ≤ (x &&& (2147483647 : Int32)).toInt := by rw [e, ar_u (by omega)]; omega
  rw [ar_mod h2]
  exact ⟨Int.emod_nonneg _ (by omega), Int.emod_lt_of_pos _ hk⟩
theorem own_k7 {k : Int32} (h : 0 ≤ k.toInt ∧ k.toInt ≤ 7) (h0 : ¬ k = 0) (h1 : ¬ k = 1) (h2 : ¬ k = 2) (h3 : ¬ k = 3) (h4 : ¬ k = 4) (h5 : ¬ k = 5) (h6 : ¬ k = 6) : k = 7 := by
  obtain ⟨q, rfl⟩ := chr_nat h.1 (n := 8) (by omega)
  have all : ∀ q : Fin 8, Int32.ofNat q.val = 0 ∨ Int32.ofNat q.val = 1 ∨ Int32.ofNat q.val = 2 ∨ Int32.ofNat q.val = 3 ∨ Int32.ofNat q.val = 4 ∨ Int32.ofNat q.val = 5 ∨ Int32.ofNat q.val = 6 ∨ Int32.ofNat q.val = 7 := by decide +kernel
  rcases all q with r | r | r | r | r | r | r | r
  · exact absurd r h0
  · exact absurd r h1
  · exact absurd r h2
  · exact absurd r h3
  · exact absurd r h4
  · exact absurd r h5
  · exact absurd r h6
  · exact r
theorem own_pq {a b : Int32} (ha : 0 ≤ a.toInt) (hb : 0 ≤ b.toInt) (h : a.toInt.toNat = b.toInt.toNat) : a = b := by apply Int32.toInt_inj.mp; omega
theorem rm0 (l : Launch) (Z : State) (a0 : Array Value) (hw : HW a0 Z) (ws : List Jvm.Cond) (n0 : Nat) (Ts : List String) (se bs pp xx qq yy cz : Int32) (fo : Value) (h0 : Heap) (hn0 : n0 ≤ h0.size) (hcw : Jvm.Lit.compactW.before a0 Z = true) (hkc : ∀ q ∈ consts_1, Jvm.Lit.constHeld Z q.1 q.2) (O4 : St1 Z fo) (hfo : fo.isRef = true) (U1 : St2 Z (.int 1)) (U2 : St3 Z (.int 0)) (U3 : St4 Z (.int 8)) (O2 : St0 Z (.int cz)) (hcz : ¬ cz = 0) (OLD : OldP Z n0 h0) (hT : "" ∉ Ts) :
    Con l Z n0 Ts ("" :: Ts) x code maxLocals ret ws room_1 #[(.int se), (.int bs), (.int pp), (.int xx), (.int qq), (.int yy)] h0 (fun v h => v = some (.int 1)) := by
  refine con_start (hfr := fun m => by first | (simp [entryFrame, mkF, argsToLocals, Value.category, maxLocals]; done) | rfl) (fr0 := fun m => mkF m 0 #[.val (.int se), .val (.int bs), .val (.int pp), .val (.int xx), .val (.int qq), .val (.int yy), .unset, .unset, .unset, .unset, .unset, .unset, .unset, .unset, .unset, .unset] []) ?_
  intro p e s m below meth c T0 hx hZ hby hml hown hnm hret hlk hsh XA
  have X0 := XA n0
  have hlow : n0 ≤ s.heap.size := by rw [hsh]; exact hn0
  replace hown : s.vm.findClass "com/example/grantor/grantor/core/CodeChallengeIsWellFormedVerifierPinLaw" = some m.cls := hown
  replace hml : c.maxLocals = 16 := hml
  refine g_iloadN X0 hx (pc' := 1) rfl (hD hby at_0) rfl ?_
  refine g_callS X0 hx hZ hown (wat hw 0 rfl) (wat hw 1 rfl) (wat hw 2 rfl) (wat hw 3 rfl) (by decide) (rm1 l Z a0 hw [] n0 (Ts) bs h0 hn0 ) pd_8 rfl rfl (pc' := 4) rfl (hD hby at_1) (argsL := [(.int bs)]) (rest := []) rfl (W := 0) (fun v253 T253 h253 X253 hQ253 => ?_)
  obtain ⟨f', rfl, b_f', he253⟩ := hQ253
  rw [he253] at X253
  show Go p e below s n0 _ _ _ (T253.setTop (mkF m 4 _ [(.int f')]))
  refine g_istore X253 hx (pc' := 6) rfl (hD hby at_4) (l' := #[.val (.int se), .val (.int bs), .val (.int pp), .val (.int xx), .val (.int qq), .val (.int yy), .val (.int f'), .unset, .unset, .unset, .unset, .unset, .unset, .unset, .unset, .unset]) rfl ?_
  refine g_iloadN X253 hx (pc' := 7) rfl (hD hby at_6) rfl ?_
  refine g_callS X253 hx hZ hown (wat hw 0 rfl) (wat hw 1 rfl) (wat hw 2 rfl) (wat hw 3 rfl) (by decide) (rm1 l Z a0 hw [] n0 (Ts) xx h0 hn0 ) pd_8 rfl rfl (pc' := 10) rfl (hD hby at_7) (argsL := [(.int xx)]) (rest := []) rfl (W := 0) (fun v254 T254 h254 X254 hQ254 => ?_)
  obtain ⟨cx, rfl, b_cx, he254⟩ := hQ254
  rw [he254] at X254
  show Go p e below s n0 _ _ _ (T254.setTop (mkF m 10 _ [(.int cx)]))
  refine g_istore X254 hx (pc' := 12) rfl (hD hby at_10) (l' := #[.val (.int se), .val (.int bs), .val (.int pp), .val (.int xx), .val (.int qq), .val (.int yy), .val (.int f'), .val (.int cx), .unset, .unset, .unset, .unset, .unset, .unset, .unset, .unset]) rfl ?_
  refine g_iload X254 hx (pc' := 14) rfl (hD hby at_12) rfl ?_
  refine g_callS X254 hx hZ hown (wat hw 0 rfl) (wat hw 1 rfl) (wat hw 2 rfl) (wat hw 3 rfl) (by decide) (rm1 l Z a0 hw [] n0 (Ts) yy h0 hn0 ) pd_8 rfl rfl (pc' := 17) rfl (hD hby at_14) (argsL := [(.int yy)]) (rest := []) rfl (W := 0) (fun v255 T255 h255 X255 hQ255 => ?_)
  obtain ⟨cy, rfl, b_cy, he255⟩ := hQ255
  rw [he255] at X255
  show Go p e below s n0 _ _ _ (T255.setTop (mkF m 17 _ [(.int cy)]))
  refine g_istore X255 hx (pc' := 19) rfl (hD hby at_17) (l' := #[.val (.int se), .val (.int bs), .val (.int pp), .val (.int xx), .val (.int qq), .val (.int yy), .val (.int f'), .val (.int cx), .val (.int cy), .unset, .unset, .unset, .unset, .unset, .unset, .unset]) rfl ?_
  refine g_iloadN X255 hx (pc' := 20) rfl (hD hby at_19) rfl ?_
  refine g_bipush X255 hx (pc' := 22) (z := (7 : Int32)) rfl (hD hby at_20) rfl ?_
  refine g_iand X255 hx (pc' := 23) rfl (hD hby at_22) ?_
  refine g_absI (fun kd h_kd => ?_)
  refine g_istore X255 hx (pc' := 25) rfl (hD hby at_23) (l' := #[.val (.int se), .val (.int bs), .val (.int pp), .val (.int xx), .val (.int qq), .val (.int yy), .val (.int f'), .val (.int cx), .val (.int cy), .val (.int kd), .unset, .unset, .unset, .unset, .unset, .unset]) rfl ?_
  have b_kd : 0 ≤ kd.toInt ∧ kd.toInt ≤ 7 := by rw [h_kd]; exact ar_and7 _
  refine g_iload X255 hx (pc' := 27) rfl (hD hby at_25) rfl ?_
  refine g_iconst X255 hx (pc' := 28) (z := (4 : Int32)) rfl (hD hby at_27) rfl ?_
  refine g_icmp X255 hx (pcY := 44) (pcN := 31) (hD hby at_28) (by decide) (by decide) rfl (fun hc28 => ?_) (fun hc28 => ?_)
  · replace hc28 : ¬ kd = (4 : Int32) := hc28
    refine g_iload X255 hx (pc' := 46) rfl (hD hby at_44) rfl ?_
    refine g_iconst X255 hx (pc' := 47) (z := (5 : Int32)) rfl (hD hby at_46) rfl ?_
    refine g_icmp X255 hx (pcY := 72) (pcN := 50) (hD hby at_47) (by decide) (by decide) rfl (fun hc47 => ?_) (fun hc47 => ?_)
    · replace hc47 : ¬ kd = (5 : Int32) := hc47
      refine g_iload X255 hx (pc' := 74) rfl (hD hby at_72) rfl ?_
      refine g_bipush X255 hx (pc' := 76) (z := (6 : Int32)) rfl (hD hby at_74) rfl ?_
      refine g_icmp X255 hx (pcY := 96) (pcN := 79) (hD hby at_76) (by decide) (by decide) rfl (fun hc76 => ?_) (fun hc76 => ?_)
      · replace hc76 : ¬ kd = (6 : Int32) := hc76
        refine g_iload X255 hx (pc' := 98) rfl (hD hby at_96) rfl ?_
        refine g_if X255 hx (pcY := 108) (pcN := 101) (hD hby at_98) (by decide) (by decide) rfl (fun hc98 => ?_) (fun hc98 => ?_)
        · replace hc98 : ¬ kd = 0 := hc98
          refine g_iload X255 hx (pc' := 110) rfl (hD hby at_108) rfl ?_
          refine g_iconst X255 hx (pc' := 111) (z := (1 : Int32)) rfl (hD hby at_110) rfl ?_
          refine g_icmp X255 hx (pcY := 121) (pcN := 114) (hD hby at_111) (by decide) (by decide) rfl (fun hc111 => ?_) (fun hc111 => ?_)
          · replace hc111 : ¬ kd = (1 : Int32) := hc111
            refine g_iload X255 hx (pc' := 123) rfl (hD hby at_121) rfl ?_
            refine g_iconst X255 hx (pc' := 124) (z := (3 : Int32)) rfl (hD hby at_123) rfl ?_
            refine g_icmp X255 hx (pcY := 135) (pcN := 127) (hD hby at_124) (by decide) (by decide) rfl (fun hc124 => ?_) (fun hc124 => ?_)
            · replace hc124 : ¬ kd = (3 : Int32) := hc124
              refine g_sipush X255 hx (pc' := 138) (z := (128 : Int32)) rfl (hD hby at_135) rfl ?_
              refine g_istore X255 hx (pc' := 140) rfl (hD hby at_138) (l' := #[.val (.int se), .val (.int bs), .val (.int pp), .val (.int xx), .val (.int qq), .val (.int yy), .val (.int f'), .val (.int cx), .val (.int cy), .val (.int kd), .val (.int 128), .unset, .unset, .unset, .unset, .unset]) rfl ?_
              refine g_iload X255 hx (pc' := 142) rfl (hD hby at_140) rfl ?_
              refine g_iload X255 hx (pc' := 144) rfl (hD hby at_142) rfl ?_
              refine g_callS X255 hx hZ hown (wat hw 4 rfl) (wat hw 5 rfl) (wat hw 2 rfl) (wat hw 6 rfl) (by decide) (rm2_128 l Z a0 hw [] n0 (Ts) f' h0 hn0 (nar_chr b_f')) pd_19 rfl rfl (pc' := 147) rfl (hD hby at_144) (argsL := [(.int 128), (.int f')]) (rest := []) rfl (W := 0) (fun v256 T256 h256 X256 hQ256 => ?_)
              obtain ⟨a256, rfl, Ga256, S256, K256, V256⟩ := hQ256
              have f257 := OLD.keep K256 all0
              have zs256 : n0 ≤ h256.size := Nat.le_trans hn0 K256.1
              show Go p e below s n0 _ _ _ (T256.setTop (mkF m 147 _ [(.ref a256)]))
              refine g_astore X256 hx (pc' := 149) rfl (hD hby at_147) rfl (l' := #[.val (.int se), .val (.int bs), .val (.int pp), .val (.int xx), .val (.int qq), .val (.int yy), .val (.int f'), .val (.int cx), .val (.int cy), .val (.int kd), .val (.int 128), .val (.ref a256), .unset, .unset, .unset, .unset]) rfl ?_
              refine g_iloadN X256 hx (pc' := 150) rfl (hD hby at_149) rfl ?_
              refine g_ldcI X256 hx hZ hown (wat hw 8 rfl) (pc' := 152) (v := (2147483647 : Int32)) rfl (hD hby at_150) ?_
              refine g_iand X256 hx (pc' := 153) rfl (hD hby at_152) ?_
              refine g_iload X256 hx (pc' := 155) rfl (hD hby at_153) rfl ?_
              refine g_irem X256 hx (pc' := 156) rfl (hD hby at_155) (by decide) ?_
              refine g_absI (fun pi h_pi => ?_)
              refine g_istore X256 hx (pc' := 158) rfl (hD hby at_156) (l' := #[.val (.int se), .val (.int bs), .val (.int pp), .val (.int xx), .val (.int qq), .val (.int yy), .val (.int f'), .val (.int cx), .val (.int cy), .val (.int kd), .val (.int 128), .val (.ref a256), .val (.int pi), .unset, .unset, .unset]) rfl ?_
              have b_pi := own_pos (x := pp) (k := (128 : Int32)) (by decide)
              rw [← h_pi] at b_pi
              have e_pi : (128 : Int32).toInt = 128 := rfl
              rw [e_pi] at b_pi
              refine g_iload X256 hx (pc' := 160) rfl (hD hby at_158) rfl ?_
              refine g_ldcI X256 hx hZ hown (wat hw 8 rfl) (pc' := 162) (v := (2147483647 : Int32)) rfl (hD hby at_160) ?_
              refine g_iand X256 hx (pc' := 163) rfl (hD hby at_162) ?_
              refine g_iload X256 hx (pc' := 165) rfl (hD hby at_163) rfl ?_
              refine g_irem X256 hx (pc' := 166) rfl (hD hby at_165) (by decide) ?_
              refine g_absI (fun qi h_qi => ?_)
              refine g_istore X256 hx (pc' := 168) rfl (hD hby at_166) (l' := #[.val (.int se), .val (.int bs), .val (.int pp), .val (.int xx), .val (.int qq), .val (.int yy), .val (.int f'), .val (.int cx), .val (.int cy), .val (.int kd), .val (.int 128), .val (.ref a256), .val (.int pi), .val (.int qi), .unset, .unset]) rfl ?_
              have b_qi := own_pos (x := qq) (k := (128 : Int32)) (by decide)
              rw [← h_qi] at b_qi
              have e_qi : (128 : Int32).toInt = 128 := rfl
              rw [e_qi] at b_qi
              refine g_aload X256 hx (pc' := 170) rfl (hD hby at_168) rfl rfl ?_
              refine g_iload X256 hx (pc' := 172) rfl (hD hby at_170) rfl ?_
              refine g_iload X256 hx (pc' := 174) rfl (hD hby at_172) rfl ?_
              refine g_castore X256 hx hZ V256 (i := pi.toInt.toNat) (by omega) (by rw [List.length_replicate]; omega) Ga256 (y := cx) (nar_chr b_cx) (pc' := 175) rfl (hD hby at_174) (fun T258 h258 X258 W258 N258 => ?_)
              have f259 := (by have q := (Keep.of_wr W258).1; exact Nat.le_trans zs256 q : n0 ≤ h258.size)
              have f260 := f257.wr W258 Ga256
              have V258 : AV Z h258 a256 .char ((List.replicate 128 (.int f')).set (pi.toInt.toNat) (.int cx)) := N258
              refine g_aload X258 hx (pc' := 177) rfl (hD hby at_175) rfl rfl ?_
              refine g_iload X258 hx (pc' := 179) rfl (hD hby at_177) rfl ?_
              refine g_iload X258 hx (pc' := 181) rfl (hD hby at_179) rfl ?_
              refine g_castore X258 hx hZ V258 (i := qi.toInt.toNat) (by omega) (by rw [List.length_set, List.length_replicate]; omega) Ga256 (y := cy) (nar_chr b_cy) (pc' := 182) rfl (hD hby at_181) (fun T261 h261 X261 W261 N261 => ?_)
              have f262 := (by have q := (Keep.of_wr W261).1; exact Nat.le_trans f259 q : n0 ≤ h261.size)
              have f263 := f260.wr W261 Ga256
              have V261 : AV Z h261 a256 .char ((laid 128 f' cx cy (pi.toInt.toNat) (qi.toInt.toNat)).map Value.int) := (by rw [laid_map]; exact N261)
              refine g_iload X261 hx (pc' := 184) rfl (hD hby at_182) rfl ?_
              refine g_iconst X261 hx (pc' := 185) (z := (1 : Int32)) rfl (hD hby at_184) rfl ?_
              refine g_icmpN X261 hx (pcN := 188) (hD hby at_185) rfl (show ¬ (kd = (1 : Int32)) from hc111) ?_
              refine g_iload X261 hx (pc' := 190) rfl (hD hby at_188) rfl ?_
              refine g_iconst X261 hx (pc' := 191) (z := (2 : Int32)) rfl (hD hby at_190) rfl ?_
              suffices J191 : Go p e below s n0 ((Z, ("" :: Ts), fun v h => v = some (.int 1)) : GQ) room_1.cells room_1.slots (T261.setTop (mkF m 201 #[.val (.int se), .val (.int bs), .val (.int pp), .val (.int xx), .val (.int qq), .val (.int yy), .val (.int f'), .val (.int cx), .val (.int cy), .val (.int kd), .val (.int 128), .val (.ref a256), .val (.int pi), .val (.int qi), .unset, .unset] [])) by
                refine g_icmp X261 hx (pcY := 201) (pcN := 194) (hD hby at_191) (by decide) (by decide) rfl (fun hc191 => ?_) (fun hc191 => ?_)
                · replace hc191 : kd = (2 : Int32) := hc191
                  exact J191  
                · replace hc191 : ¬ kd = (2 : Int32) := hc191
                  refine g_iload X261 hx (pc' := 196) rfl (hD hby at_194) rfl ?_
                  refine g_bipush X261 hx (pc' := 198) (z := (7 : Int32)) rfl (hD hby at_196) rfl ?_
                  refine g_icmpN X261 hx (pcN := 201) (hD hby at_198) rfl (show ¬ (¬ kd = (7 : Int32)) from not_not_intro (own_k7 b_kd hc98 hc111 hc191 hc124 hc28 hc47 hc76)) ?_
                  exact J191  
              refine g_iconst X261 hx (pc' := 202) (z := (1 : Int32)) rfl (hD hby at_201) rfl ?_
              refine g_goto X261 hx (pc' := 206) (hD hby at_202) (by decide) (by decide) ?_
              refine g_istore X261 hx (pc' := 208) rfl (hD hby at_206) (l' := #[.val (.int se), .val (.int bs), .val (.int pp), .val (.int xx), .val (.int qq), .val (.int yy), .val (.int f'), .val (.int cx), .val (.int cy), .val (.int kd), .val (.int 128), .val (.ref a256), .val (.int pi), .val (.int qi), .val (.int 1), .unset]) rfl ?_
              refine g_iload X261 hx (pc' := 210) rfl (hD hby at_208) rfl ?_
              refine g_ifN X261 hx (pcN := 213) (hD hby at_210) rfl (show ¬ ((1 : Int32) = 0) from by decide) ?_
              cases u_f' : okb f'
              · skip
                refine g_iload X261 hx (pc' := 215) rfl (hD hby at_213) rfl ?_
                refine g_callS X261 hx hZ hown (wat hw 55 rfl) (wat hw 56 rfl) (wat hw 2 rfl) (wat hw 57 rfl) (by decide) (rm12 l Z a0 hw [] n0 (Ts) f' h261 f262 b_f') pd_9 rfl rfl (pc' := 218) rfl (hD hby at_215) (argsL := [(.int f')]) (rest := []) rfl (W := 0) (fun v264 T264 h264 X264 hQ264 => ?_)
                obtain ⟨rfl, he264⟩ := hQ264
                rw [he264] at X264
                show Go p e below s n0 _ _ _ (T264.setTop (mkF m 218 _ [(.int (if okb f' then 1 else 0))]))
                refine g_normI (z := (0 : Int32)) (by rw [u_f']; rfl) ?_
                refine g_ifY X264 hx (pcY := 248) (hD hby at_218) (by decide) (by decide) (show (0 : Int32) = 0 from by decide) ?_
                refine g_iconst X264 hx (pc' := 249) (z := (0 : Int32)) rfl (hD hby at_248) rfl ?_
                refine g_istore X264 hx (pc' := 251) rfl (hD hby at_249) (l' := #[.val (.int se), .val (.int bs), .val (.int pp), .val (.int xx), .val (.int qq), .val (.int yy), .val (.int f'), .val (.int cx), .val (.int cy), .val (.int kd), .val (.int 128), .val (.ref a256), .val (.int pi), .val (.int qi), .val (.int 1), .val (.int 0)]) rfl ?_
                refine g_newO X264 hx hZ hown (wat hw 9 rfl) (wat hw 10 rfl) (wat hw 11 rfl) (pc' := 254) rfl (hD hby at_251) (by decide) (by decide) (fun T265 h265 a265 ha265 X265 E265 A265 D265 => ?_)
                have ne265_a256 : a256 ≠ a265 := by rw [ha265]; exact Nat.ne_of_lt V261.lt
                have f266 := V261.ext E265
                have G_a265 : n0 ≤ a265 := by rw [ha265]; exact f262
                have Zs265 : n0 ≤ h265.size := Nat.le_trans f262 E265.1
                have f267 := f263.ext E265
                have F265_coder : SC Z h265 a265 (.int 0) := D265 (Or.inr (wat hw 35 rfl)) (ty := .byte) (by decide)
                have F265_value : SV Z h265 a265 .null := D265 (Or.inr (wat hw 37 rfl)) (ty := (.array .byte)) (by decide)
                refine g_dup X265 hx (pc' := 255) rfl (hD hby at_254) rfl ?_
                refine g_aload X265 hx (pc' := 257) rfl (hD hby at_255) rfl rfl ?_
                refine g_callI X265 hx hZ hown rfl (wat hw 12 rfl) (wat hw 13 rfl) (wat hw 11 rfl) (wat hw 14 rfl) (by decide) (a := a265) (rm3 l Z a0 hw [] n0 (Ts) a265 a256 (laid 128 f' cx cy (pi.toInt.toNat) (qi.toInt.toNat)) (128 : Int32) (256 : Int32) cz h265 Zs265 U1 U2 U3 O2 hcz f267 (by rw [laid_len]; rfl) (by rw [laid_len]; rfl) (by decide) (by rw [laid_len]; decide) (by rw [laid_len]; decide) (laid_chr b_f' b_cx b_cy) f266 A265 G_a265 F265_coder F265_value) pd_20 rfl rfl (pc' := 260) rfl (hD hby at_257) (argsL := [(.ref a256)]) (rest := [(.ref a265)]) rfl (W := 1) (fun v268 T268 h268 X268 hQ268 => ?_)
                obtain ⟨rfl, K268, SS268⟩ := hQ268
                have f269 := f267.keep K268 (allS G_a265 all0)
                have zs268 : n0 ≤ h268.size := Nat.le_trans Zs265 K268.1
                show Go p e below s n0 _ _ _ (T268.setTop (mkF m 260 _ [(.ref a265)]))
                refine g_callS X268 hx hZ hown (wat hw 38 rfl) (wat hw 39 rfl) (wat hw 40 rfl) (wat hw 41 rfl) (by decide) (rm9 l Z a0 hw [] n0 (Ts) a265 (laid 128 f' cx cy (pi.toInt.toNat) (qi.toInt.toNat)) (128 : Int32) (256 : Int32) (0 : Int32) fo cz h268 zs268 O4 hfo U1 U2 U3 O2 hcz f269 SS268 (by rw [laid_len]; decide) (by rw [laid_len]; rfl) (by rw [laid_len]; rfl) (by decide) (by decide) (by decide) (Or.inr ⟨rfl, laid_badF (by decide) u_f'⟩)) pd_21 rfl rfl (pc' := 263) rfl (hD hby at_260) (argsL := [(.ref a265)]) (rest := []) rfl (W := 0) (fun v270 T270 h270 X270 hQ270 => ?_)
                obtain ⟨rfl, he270⟩ := hQ270
                rw [he270] at X270
                show Go p e below s n0 _ _ _ (T270.setTop (mkF m 263 _ [(.int 0)]))
                refine g_iload X270 hx (pc' := 265) rfl (hD hby at_263) rfl ?_
                refine g_icmpN X270 hx (pcN := 268) (hD hby at_265) rfl (show ¬ (¬ (0 : Int32) = (0 : Int32)) from by decide) ?_
                refine g_iconst X270 hx (pc' := 269) (z := (1 : Int32)) rfl (hD hby at_268) rfl ?_
                refine g_goto X270 hx (pc' := 273) (hD hby at_269) (by decide) (by decide) ?_
                replace X270 := X270.more (Ts' := "" :: Ts) (by simp +contextual)
                exact g_retZ X270 hx hlk hret (by first | exact Or.inl rfl | exact Or.inr rfl) (hD hby at_273) (by decide) (by decide) (Nat.le_refl _) (rfl)
              · skip
                refine g_iload X261 hx (pc' := 215) rfl (hD hby at_213) rfl ?_
                refine g_callS X261 hx hZ hown (wat hw 55 rfl) (wat hw 56 rfl) (wat hw 2 rfl) (wat hw 57 rfl) (by decide) (rm12 l Z a0 hw [] n0 (Ts) f' h261 f262 b_f') pd_9 rfl rfl (pc' := 218) rfl (hD hby at_215) (argsL := [(.int f')]) (rest := []) rfl (W := 0) (fun v271 T271 h271 X271 hQ271 => ?_)
                obtain ⟨rfl, he271⟩ := hQ271
                rw [he271] at X271
                show Go p e below s n0 _ _ _ (T271.setTop (mkF m 218 _ [(.int (if okb f' then 1 else 0))]))
                refine g_normI (z := (1 : Int32)) (by rw [u_f']; rfl) ?_
                refine g_ifN X271 hx (pcN := 221) (hD hby at_218) rfl (show ¬ ((1 : Int32) = 0) from by decide) ?_
                cases u_cy : okb cy
                · skip
                  refine g_iload X271 hx (pc' := 223) rfl (hD hby at_221) rfl ?_
                  refine g_callS X271 hx hZ hown (wat hw 55 rfl) (wat hw 56 rfl) (wat hw 2 rfl) (wat hw 57 rfl) (by decide) (rm12 l Z a0 hw [] n0 (Ts) cy h261 f262 b_cy) pd_9 rfl rfl (pc' := 226) rfl (hD hby at_223) (argsL := [(.int cy)]) (rest := []) rfl (W := 0) (fun v272 T272 h272 X272 hQ272 => ?_)
                  obtain ⟨rfl, he272⟩ := hQ272
                  rw [he272] at X272
                  show Go p e below s n0 _ _ _ (T272.setTop (mkF m 226 _ [(.int (if okb cy then 1 else 0))]))
                  refine g_normI (z := (0 : Int32)) (by rw [u_cy]; rfl) ?_
                  refine g_ifY X272 hx (pcY := 248) (hD hby at_226) (by decide) (by decide) (show (0 : Int32) = 0 from by decide) ?_
                  refine g_iconst X272 hx (pc' := 249) (z := (0 : Int32)) rfl (hD hby at_248) rfl ?_
                  refine g_istore X272 hx (pc' := 251) rfl (hD hby at_249) (l' := #[.val (.int se), .val (.int bs), .val (.int pp), .val (.int xx), .val (.int qq), .val (.int yy), .val (.int f'), .val (.int cx), .val (.int cy), .val (.int kd), .val (.int 128), .val (.ref a256), .val (.int pi), .val (.int qi), .val (.int 1), .val (.int 0)]) rfl ?_
                  refine g_newO X272 hx hZ hown (wat hw 9 rfl) (wat hw 10 rfl) (wat hw 11 rfl) (pc' := 254) rfl (hD hby at_251) (by decide) (by decide) (fun T273 h273 a273 ha273 X273 E273 A273 D273 => ?_)
                  have ne273_a256 : a256 ≠ a273 := by rw [ha273]; exact Nat.ne_of_lt V261.lt
                  have f274 := V261.ext E273
                  have G_a273 : n0 ≤ a273 := by rw [ha273]; exact f262
                  have Zs273 : n0 ≤ h273.size := Nat.le_trans f262 E273.1
                  have f275 := f263.ext E273
                  have F273_coder : SC Z h273 a273 (.int 0) := D273 (Or.inr (wat hw 35 rfl)) (ty := .byte) (by decide)
                  have F273_value : SV Z h273 a273 .null := D273 (Or.inr (wat hw 37 rfl)) (ty := (.array .byte)) (by decide)
                  refine g_dup X273 hx (pc' := 255) rfl (hD hby at_254) rfl ?_
                  refine g_aload X273 hx (pc' := 257) rfl (hD hby at_255) rfl rfl ?_
                  refine g_callI X273 hx hZ hown rfl (wat hw 12 rfl) (wat hw 13 rfl) (wat hw 11 rfl) (wat hw 14 rfl) (by decide) (a := a273) (rm3 l Z a0 hw [] n0 (Ts) a273 a256 (laid 128 f' cx cy (pi.toInt.toNat) (qi.toInt.toNat)) (128 : Int32) (256 : Int32) cz h273 Zs273 U1 U2 U3 O2 hcz f275 (by rw [laid_len]; rfl) (by rw [laid_len]; rfl) (by decide) (by rw [laid_len]; decide) (by rw [laid_len]; decide) (laid_chr b_f' b_cx b_cy) f274 A273 G_a273 F273_coder F273_value) pd_20 rfl rfl (pc' := 260) rfl (hD hby at_257) (argsL := [(.ref a256)]) (rest := [(.ref a273)]) rfl (W := 1) (fun v276 T276 h276 X276 hQ276 => ?_)
                  obtain ⟨rfl, K276, SS276⟩ := hQ276
                  have f277 := f275.keep K276 (allS G_a273 all0)
                  have zs276 : n0 ≤ h276.size := Nat.le_trans Zs273 K276.1
                  show Go p e below s n0 _ _ _ (T276.setTop (mkF m 260 _ [(.ref a273)]))
                  refine g_callS X276 hx hZ hown (wat hw 38 rfl) (wat hw 39 rfl) (wat hw 40 rfl) (wat hw 41 rfl) (by decide) (rm9 l Z a0 hw [] n0 (Ts) a273 (laid 128 f' cx cy (pi.toInt.toNat) (qi.toInt.toNat)) (128 : Int32) (256 : Int32) (0 : Int32) fo cz h276 zs276 O4 hfo U1 U2 U3 O2 hcz f277 SS276 (by rw [laid_len]; decide) (by rw [laid_len]; rfl) (by rw [laid_len]; rfl) (by decide) (by decide) (by decide) (Or.inr ⟨rfl, laid_badY (by omega) u_cy⟩)) pd_21 rfl rfl (pc' := 263) rfl (hD hby at_260) (argsL := [(.ref a273)]) (rest := []) rfl (W := 0) (fun v278 T278 h278 X278 hQ278 => ?_)
                  obtain ⟨rfl, he278⟩ := hQ278
                  rw [he278] at X278
                  show Go p e below s n0 _ _ _ (T278.setTop (mkF m 263 _ [(.int 0)]))
                  refine g_iload X278 hx (pc' := 265) rfl (hD hby at_263) rfl ?_
                  refine g_icmpN X278 hx (pcN := 268) (hD hby at_265) rfl (show ¬ (¬ (0 : Int32) = (0 : Int32)) from by decide) ?_
                  refine g_iconst X278 hx (pc' := 269) (z := (1 : Int32)) rfl (hD hby at_268) rfl ?_
                  refine g_goto X278 hx (pc' := 273) (hD hby at_269) (by decide) (by decide) ?_
                  replace X278 := X278.more (Ts' := "" :: Ts) (by simp +contextual)
                  exact g_retZ X278 hx hlk hret (by first | exact Or.inl rfl | exact Or.inr rfl) (hD hby at_273) (by decide) (by decide) (Nat.le_refl _) (rfl)
                · skip
                  refine g_iload X271 hx (pc' := 223) rfl (hD hby at_221) rfl ?_
                  refine g_callS X271 hx hZ hown (wat hw 55 rfl) (wat hw 56 rfl) (wat hw 2 rfl) (wat hw 57 rfl) (by decide) (rm12 l Z a0 hw [] n0 (Ts) cy h261 f262 b_cy) pd_9 rfl rfl (pc' := 226) rfl (hD hby at_223) (argsL := [(.int cy)]) (rest := []) rfl (W := 0) (fun v279 T279 h279 X279 hQ279 => ?_)
                  obtain ⟨rfl, he279⟩ := hQ279
                  rw [he279] at X279
                  show Go p e below s n0 _ _ _ (T279.setTop (mkF m 226 _ [(.int (if okb cy then 1 else 0))]))
                  refine g_normI (z := (1 : Int32)) (by rw [u_cy]; rfl) ?_
                  refine g_ifN X279 hx (pcN := 229) (hD hby at_226) rfl (show ¬ ((1 : Int32) = 0) from by decide) ?_
                  refine g_iload X279 hx (pc' := 231) rfl (hD hby at_229) rfl ?_
                  refine g_iload X279 hx (pc' := 233) rfl (hD hby at_231) rfl ?_
                  refine g_icmp X279 hx (pcY := 244) (pcN := 236) (hD hby at_233) (by decide) (by decide) rfl (fun hc233 => ?_) (fun hc233 => ?_)
                  · replace hc233 : pi = qi := hc233
                    refine g_iconst X279 hx (pc' := 245) (z := (1 : Int32)) rfl (hD hby at_244) rfl ?_
                    refine g_goto X279 hx (pc' := 249) (hD hby at_245) (by decide) (by decide) ?_
                    refine g_istore X279 hx (pc' := 251) rfl (hD hby at_249) (l' := #[.val (.int se), .val (.int bs), .val (.int pp), .val (.int xx), .val (.int qq), .val (.int yy), .val (.int f'), .val (.int cx), .val (.int cy), .val (.int kd), .val (.int 128), .val (.ref a256), .val (.int pi), .val (.int qi), .val (.int 1), .val (.int 1)]) rfl ?_
                    refine g_newO X279 hx hZ hown (wat hw 9 rfl) (wat hw 10 rfl) (wat hw 11 rfl) (pc' := 254) rfl (hD hby at_251) (by decide) (by decide) (fun T280 h280 a280 ha280 X280 E280 A280 D280 => ?_)
                    have ne280_a256 : a256 ≠ a280 := by rw [ha280]; exact Nat.ne_of_lt V261.lt
                    have f281 := V261.ext E280
                    have G_a280 : n0 ≤ a280 := by rw [ha280]; exact f262
                    have Zs280 : n0 ≤ h280.size := Nat.le_trans f262 E280.1
                    have f282 := f263.ext E280
                    have F280_coder : SC Z h280 a280 (.int 0) := D280 (Or.inr (wat hw 35 rfl)) (ty := .byte) (by decide)
                    have F280_value : SV Z h280 a280 .null := D280 (Or.inr (wat hw 37 rfl)) (ty := (.array .byte)) (by decide)
                    refine g_dup X280 hx (pc' := 255) rfl (hD hby at_254) rfl ?_
                    refine g_aload X280 hx (pc' := 257) rfl (hD hby at_255) rfl rfl ?_
                    refine g_callI X280 hx hZ hown rfl (wat hw 12 rfl) (wat hw 13 rfl) (wat hw 11 rfl) (wat hw 14 rfl) (by decide) (a := a280) (rm3 l Z a0 hw [] n0 (Ts) a280 a256 (laid 128 f' cx cy (pi.toInt.toNat) (qi.toInt.toNat)) (128 : Int32) (256 : Int32) cz h280 Zs280 U1 U2 U3 O2 hcz f282 (by rw [laid_len]; rfl) (by rw [laid_len]; rfl) (by decide) (by rw [laid_len]; decide) (by rw [laid_len]; decide) (laid_chr b_f' b_cx b_cy) f281 A280 G_a280 F280_coder F280_value) pd_20 rfl rfl (pc' := 260) rfl (hD hby at_257) (argsL := [(.ref a256)]) (rest := [(.ref a280)]) rfl (W := 1) (fun v283 T283 h283 X283 hQ283 => ?_)
                    obtain ⟨rfl, K283, SS283⟩ := hQ283
                    have f284 := f282.keep K283 (allS G_a280 all0)
                    have zs283 : n0 ≤ h283.size := Nat.le_trans Zs280 K283.1
                    show Go p e below s n0 _ _ _ (T283.setTop (mkF m 260 _ [(.ref a280)]))
                    refine g_callS X283 hx hZ hown (wat hw 38 rfl) (wat hw 39 rfl) (wat hw 40 rfl) (wat hw 41 rfl) (by decide) (rm9 l Z a0 hw [] n0 (Ts) a280 (laid 128 f' cx cy (pi.toInt.toNat) (qi.toInt.toNat)) (128 : Int32) (256 : Int32) (1 : Int32) fo cz h283 zs283 O4 hfo U1 U2 U3 O2 hcz f284 SS283 (by rw [laid_len]; decide) (by rw [laid_len]; rfl) (by rw [laid_len]; rfl) (by decide) (by decide) (by decide) (Or.inl ⟨rfl, laid_ok u_f' u_cy (Or.inl (by rw [hc233]))⟩)) pd_21 rfl rfl (pc' := 263) rfl (hD hby at_260) (argsL := [(.ref a280)]) (rest := []) rfl (W := 0) (fun v285 T285 h285 X285 hQ285 => ?_)
                    obtain ⟨rfl, he285⟩ := hQ285
                    rw [he285] at X285
                    show Go p e below s n0 _ _ _ (T285.setTop (mkF m 263 _ [(.int 1)]))
                    refine g_iload X285 hx (pc' := 265) rfl (hD hby at_263) rfl ?_
                    refine g_icmpN X285 hx (pcN := 268) (hD hby at_265) rfl (show ¬ (¬ (1 : Int32) = (1 : Int32)) from by decide) ?_
                    refine g_iconst X285 hx (pc' := 269) (z := (1 : Int32)) rfl (hD hby at_268) rfl ?_
                    refine g_goto X285 hx (pc' := 273) (hD hby at_269) (by decide) (by decide) ?_
                    replace X285 := X285.more (Ts' := "" :: Ts) (by simp +contextual)
                    exact g_retZ X285 hx hlk hret (by first | exact Or.inl rfl | exact Or.inr rfl) (hD hby at_273) (by decide) (by decide) (Nat.le_refl _) (rfl)
                  · replace hc233 : ¬ pi = qi := hc233
                    cases u_cx : okb cx
                    · skip
                      refine g_iload X279 hx (pc' := 238) rfl (hD hby at_236) rfl ?_
                      refine g_callS X279 hx hZ hown (wat hw 55 rfl) (wat hw 56 rfl) (wat hw 2 rfl) (wat hw 57 rfl) (by decide) (rm12 l Z a0 hw [] n0 (Ts) cx h261 f262 b_cx) pd_9 rfl rfl (pc' := 241) rfl (hD hby at_238) (argsL := [(.int cx)]) (rest := []) rfl (W := 0) (fun v286 T286 h286 X286 hQ286 => ?_)
                      obtain ⟨rfl, he286⟩ := hQ286
                      rw [he286] at X286
                      show Go p e below s n0 _ _ _ (T286.setTop (mkF m 241 _ [(.int (if okb cx then 1 else 0))]))
                      refine g_normI (z := (0 : Int32)) (by rw [u_cx]; rfl) ?_
                      refine g_ifY X286 hx (pcY := 248) (hD hby at_241) (by decide) (by decide) (show (0 : Int32) = 0 from by decide) ?_
                      refine g_iconst X286 hx (pc' := 249) (z := (0 : Int32)) rfl (hD hby at_248) rfl ?_
                      refine g_istore X286 hx (pc' := 251) rfl (hD hby at_249) (l' := #[.val (.int se), .val (.int bs), .val (.int pp), .val (.int xx), .val (.int qq), .val (.int yy), .val (.int f'), .val (.int cx), .val (.int cy), .val (.int kd), .val (.int 128), .val (.ref a256), .val (.int pi), .val (.int qi), .val (.int 1), .val (.int 0)]) rfl ?_
                      refine g_newO X286 hx hZ hown (wat hw 9 rfl) (wat hw 10 rfl) (wat hw 11 rfl) (pc' := 254) rfl (hD hby at_251) (by decide) (by decide) (fun T287 h287 a287 ha287 X287 E287 A287 D287 => ?_)
                      have ne287_a256 : a256 ≠ a287 := by rw [ha287]; exact Nat.ne_of_lt V261.lt
                      have f288 := V261.ext E287
                      have G_a287 : n0 ≤ a287 := by rw [ha287]; exact f262
                      have Zs287 : n0 ≤ h287.size := Nat.le_trans f262 E287.1
                      have f289 := f263.ext E287
                      have F287_coder : SC Z h287 a287 (.int 0) := D287 (Or.inr (wat hw 35 rfl)) (ty := .byte) (by decide)
                      have F287_value : SV Z h287 a287 .null := D287 (Or.inr (wat hw 37 rfl)) (ty := (.array .byte)) (by decide)
                      refine g_dup X287 hx (pc' := 255) rfl (hD hby at_254) rfl ?_
                      refine g_aload X287 hx (pc' := 257) rfl (hD hby at_255) rfl rfl ?_
                      refine g_callI X287 hx hZ hown rfl (wat hw 12 rfl) (wat hw 13 rfl) (wat hw 11 rfl) (wat hw 14 rfl) (by decide) (a := a287) (rm3 l Z a0 hw [] n0 (Ts) a287 a256 (laid 128 f' cx cy (pi.toInt.toNat) (qi.toInt.toNat)) (128 : Int32) (256 : Int32) cz h287 Zs287 U1 U2 U3 O2 hcz f289 (by rw [laid_len]; rfl) (by rw [laid_len]; rfl) (by decide) (by rw [laid_len]; decide) (by rw [laid_len]; decide) (laid_chr b_f' b_cx b_cy) f288 A287 G_a287 F287_coder F287_value) pd_20 rfl rfl (pc' := 260) rfl (hD hby at_257) (argsL := [(.ref a256)]) (rest := [(.ref a287)]) rfl (W := 1) (fun v290 T290 h290 X290 hQ290 => ?_)
                      obtain ⟨rfl, K290, SS290⟩ := hQ290
                      have f291 := f289.keep K290 (allS G_a287 all0)
                      have zs290 : n0 ≤ h290.size := Nat.le_trans Zs287 K290.1
                      show Go p e below s n0 _ _ _ (T290.setTop (mkF m 260 _ [(.ref a287)]))
                      refine g_callS X290 hx hZ hown (wat hw 38 rfl) (wat hw 39 rfl) (wat hw 40 rfl) (wat hw 41 rfl) (by decide) (rm9 l Z a0 hw [] n0 (Ts) a287 (laid 128 f' cx cy (pi.toInt.toNat) (qi.toInt.toNat)) (128 : Int32) (256 : Int32) (0 : Int32) fo cz h290 zs290 O4 hfo U1 U2 U3 O2 hcz f291 SS290 (by rw [laid_len]; decide) (by rw [laid_len]; rfl) (by rw [laid_len]; rfl) (by decide) (by decide) (by decide) (Or.inr ⟨rfl, laid_badX (by omega) (fun q => hc233 (own_pq b_pi.1 b_qi.1 q)) u_cx⟩)) pd_21 rfl rfl (pc' := 263) rfl (hD hby at_260) (argsL := [(.ref a287)]) (rest := []) rfl (W := 0) (fun v292 T292 h292 X292 hQ292 => ?_)
                      obtain ⟨rfl, he292⟩ := hQ292
                      rw [he292] at X292
                      show Go p e below s n0 _ _ _ (T292.setTop (mkF m 263 _ [(.int 0)]))
                      refine g_iload X292 hx (pc' := 265) rfl (hD hby at_263) rfl ?_
                      refine g_icmpN X292 hx (pcN := 268) (hD hby at_265) rfl (show ¬ (¬ (0 : Int32) = (0 : Int32)) from by decide) ?_
                      refine g_iconst X292 hx (pc' := 269) (z := (1 : Int32)) rfl (hD hby at_268) rfl ?_
                      refine g_goto X292 hx (pc' := 273) (hD hby at_269) (by decide) (by decide) ?_
                      replace X292 := X292.more (Ts' := "" :: Ts) (by simp +contextual)
                      exact g_retZ X292 hx hlk hret (by first | exact Or.inl rfl | exact Or.inr rfl) (hD hby at_273) (by decide) (by decide) (Nat.le_refl _) (rfl)
                    · skip
                      refine g_iload X279 hx (pc' := 238) rfl (hD hby at_236) rfl ?_
                      refine g_callS X279 hx hZ hown (wat hw 55 rfl) (wat hw 56 rfl) (wat hw 2 rfl) (wat hw 57 rfl) (by decide) (rm12 l Z a0 hw [] n0 (Ts) cx h261 f262 b_cx) pd_9 rfl rfl (pc' := 241) rfl (hD hby at_238) (argsL := [(.int cx)]) (rest := []) rfl (W := 0) (fun v293 T293 h293 X293 hQ293 => ?_)
                      obtain ⟨rfl, he293⟩ := hQ293
                      rw [he293] at X293
                      show Go p e below s n0 _ _ _ (T293.setTop (mkF m 241 _ [(.int (if okb cx then 1 else 0))]))
                      refine g_normI (z := (1 : Int32)) (by rw [u_cx]; rfl) ?_
                      refine g_ifN X293 hx (pcN := 244) (hD hby at_241) rfl (show ¬ ((1 : Int32) = 0) from by decide) ?_
                      refine g_iconst X293 hx (pc' := 245) (z := (1 : Int32)) rfl (hD hby at_244) rfl ?_
                      refine g_goto X293 hx (pc' := 249) (hD hby at_245) (by decide) (by decide) ?_
                      refine g_istore X293 hx (pc' := 251) rfl (hD hby at_249) (l' := #[.val (.int se), .val (.int bs), .val (.int pp), .val (.int xx), .val (.int qq), .val (.int yy), .val (.int f'), .val (.int cx), .val (.int cy), .val (.int kd), .val (.int 128), .val (.ref a256), .val (.int pi), .val (.int qi), .val (.int 1), .val (.int 1)]) rfl ?_
                      refine g_newO X293 hx hZ hown (wat hw 9 rfl) (wat hw 10 rfl) (wat hw 11 rfl) (pc' := 254) rfl (hD hby at_251) (by decide) (by decide) (fun T294 h294 a294 ha294 X294 E294 A294 D294 => ?_)
                      have ne294_a256 : a256 ≠ a294 := by rw [ha294]; exact Nat.ne_of_lt V261.lt
                      have f295 := V261.ext E294
                      have G_a294 : n0 ≤ a294 := by rw [ha294]; exact f262
                      have Zs294 : n0 ≤ h294.size := Nat.le_trans f262 E294.1
                      have f296 := f263.ext E294
                      have F294_coder : SC Z h294 a294 (.int 0) := D294 (Or.inr (wat hw 35 rfl)) (ty := .byte) (by decide)
                      have F294_value : SV Z h294 a294 .null := D294 (Or.inr (wat hw 37 rfl)) (ty := (.array .byte)) (by decide)
                      refine g_dup X294 hx (pc' := 255) rfl (hD hby at_254) rfl ?_
                      refine g_aload X294 hx (pc' := 257) rfl (hD hby at_255) rfl rfl ?_
                      refine g_callI X294 hx hZ hown rfl (wat hw 12 rfl) (wat hw 13 rfl) (wat hw 11 rfl) (wat hw 14 rfl) (by decide) (a := a294) (rm3 l Z a0 hw [] n0 (Ts) a294 a256 (laid 128 f' cx cy (pi.toInt.toNat) (qi.toInt.toNat)) (128 : Int32) (256 : Int32) cz h294 Zs294 U1 U2 U3 O2 hcz f296 (by rw [laid_len]; rfl) (by rw [laid_len]; rfl) (by decide) (by rw [laid_len]; decide) (by rw [laid_len]; decide) (laid_chr b_f' b_cx b_cy) f295 A294 G_a294 F294_coder F294_value) pd_20 rfl rfl (pc' := 260) rfl (hD hby at_257) (argsL := [(.ref a256)]) (rest := [(.ref a294)]) rfl (W := 1) (fun v297 T297 h297 X297 hQ297 => ?_)
                      obtain ⟨rfl, K297, SS297⟩ := hQ297
                      have f298 := f296.keep K297 (allS G_a294 all0)
                      have zs297 : n0 ≤ h297.size := Nat.le_trans Zs294 K297.1
                      show Go p e below s n0 _ _ _ (T297.setTop (mkF m 260 _ [(.ref a294)]))
                      refine g_callS X297 hx hZ hown (wat hw 38 rfl) (wat hw 39 rfl) (wat hw 40 rfl) (wat hw 41 rfl) (by decide) (rm9 l Z a0 hw [] n0 (Ts) a294 (laid 128 f' cx cy (pi.toInt.toNat) (qi.toInt.toNat)) (128 : Int32) (256 : Int32) (1 : Int32) fo cz h297 zs297 O4 hfo U1 U2 U3 O2 hcz f298 SS297 (by rw [laid_len]; decide) (by rw [laid_len]; rfl) (by rw [laid_len]; rfl) (by decide) (by decide) (by decide) (Or.inl ⟨rfl, laid_ok u_f' u_cy (Or.inr u_cx)⟩)) pd_21 rfl rfl (pc' := 263) rfl (hD hby at_260) (argsL := [(.ref a294)]) (rest := []) rfl (W := 0) (fun v299 T299 h299 X299 hQ299 => ?_)
                      obtain ⟨rfl, he299⟩ := hQ299
                      rw [he299] at X299
                      show Go p e below s n0 _ _ _ (T299.setTop (mkF m 263 _ [(.int 1)]))
                      refine g_iload X299 hx (pc' := 265) rfl (hD hby at_263) rfl ?_
                      refine g_icmpN X299 hx (pcN := 268) (hD hby at_265) rfl (show ¬ (¬ (1 : Int32) = (1 : Int32)) from by decide) ?_
                      refine g_iconst X299 hx (pc' := 269) (z := (1 : Int32)) rfl (hD hby at_268) rfl ?_
                      refine g_goto X299 hx (pc' := 273) (hD hby at_269) (by decide) (by decide) ?_
                      replace X299 := X299.more (Ts' := "" :: Ts) (by simp +contextual)
                      exact g_retZ X299 hx hlk hret (by first | exact Or.inl rfl | exact Or.inr rfl) (hD hby at_273) (by decide) (by decide) (Nat.le_refl _) (rfl)
            · replace hc124 : kd = (3 : Int32) := Classical.not_not.mp hc124
              refine g_sipush X255 hx (pc' := 130) (z := (129 : Int32)) rfl (hD hby at_127) rfl ?_
              refine g_istore X255 hx (pc' := 132) rfl (hD hby at_130) (l' := #[.val (.int se), .val (.int bs), .val (.int pp), .val (.int xx), .val (.int qq), .val (.int yy), .val (.int f'), .val (.int cx), .val (.int cy), .val (.int kd), .val (.int 129), .unset, .unset, .unset, .unset, .unset]) rfl ?_
              refine g_goto X255 hx (pc' := 140) (hD hby at_132) (by decide) (by decide) ?_
              refine g_iload X255 hx (pc' := 142) rfl (hD hby at_140) rfl ?_
              refine g_iload X255 hx (pc' := 144) rfl (hD hby at_142) rfl ?_
              refine g_callS X255 hx hZ hown (wat hw 4 rfl) (wat hw 5 rfl) (wat hw 2 rfl) (wat hw 6 rfl) (by decide) (rm2_129 l Z a0 hw [] n0 (Ts) f' h0 hn0 (nar_chr b_f')) pd_19 rfl rfl (pc' := 147) rfl (hD hby at_144) (argsL := [(.int 129), (.int f')]) (rest := []) rfl (W := 0) (fun v300 T300 h300 X300 hQ300 => ?_)
              obtain ⟨a300, rfl, Ga300, S300, K300, V300⟩ := hQ300
              have f301 := OLD.keep K300 all0
              have zs300 : n0 ≤ h300.size := Nat.le_trans hn0 K300.1
              show Go p e below s n0 _ _ _ (T300.setTop (mkF m 147 _ [(.ref a300)]))
              refine g_astore X300 hx (pc' := 149) rfl (hD hby at_147) rfl (l' := #[.val (.int se), .val (.int bs), .val (.int pp), .val (.int xx), .val (.int qq), .val (.int yy), .val (.int f'), .val (.int cx), .val (.int cy), .val (.int kd), .val (.int 129), .val (.ref a300), .unset, .unset, .unset, .unset]) rfl ?_
              refine g_iloadN X300 hx (pc' := 150) rfl (hD hby at_149) rfl ?_
              refine g_ldcI X300 hx hZ hown (wat hw 8 rfl) (pc' := 152) (v := (2147483647 : Int32)) rfl (hD hby at_150) ?_
              refine g_iand X300 hx (pc' := 153) rfl (hD hby at_152) ?_
              refine g_iload X300 hx (pc' := 155) rfl (hD hby at_153) rfl ?_
              refine g_irem X300 hx (pc' := 156) rfl (hD hby at_155) (by decide) ?_
              refine g_absI (fun pi h_pi => ?_)
              refine g_istore X300 hx (pc' := 158) rfl (hD hby at_156) (l' := #[.val (.int se), .val (.int bs), .val (.int pp), .val (.int xx), .val (.int qq), .val (.int yy), .val (.int f'), .val (.int cx), .val (.int cy), .val (.int kd), .val (.int 129), .val (.ref a300), .val (.int pi), .unset, .unset, .unset]) rfl ?_
              have b_pi := own_pos (x := pp) (k := (129 : Int32)) (by decide)
              rw [← h_pi] at b_pi
              have e_pi : (129 : Int32).toInt = 129 := rfl
              rw [e_pi] at b_pi
              refine g_iload X300 hx (pc' := 160) rfl (hD hby at_158) rfl ?_
              refine g_ldcI X300 hx hZ hown (wat hw 8 rfl) (pc' := 162) (v := (2147483647 : Int32)) rfl (hD hby at_160) ?_
              refine g_iand X300 hx (pc' := 163) rfl (hD hby at_162) ?_
              refine g_iload X300 hx (pc' := 165) rfl (hD hby at_163) rfl ?_
              refine g_irem X300 hx (pc' := 166) rfl (hD hby at_165) (by decide) ?_
              refine g_absI (fun qi h_qi => ?_)
              refine g_istore X300 hx (pc' := 168) rfl (hD hby at_166) (l' := #[.val (.int se), .val (.int bs), .val (.int pp), .val (.int xx), .val (.int qq), .val (.int yy), .val (.int f'), .val (.int cx), .val (.int cy), .val (.int kd), .val (.int 129), .val (.ref a300), .val (.int pi), .val (.int qi), .unset, .unset]) rfl ?_
              have b_qi := own_pos (x := qq) (k := (129 : Int32)) (by decide)
              rw [← h_qi] at b_qi
              have e_qi : (129 : Int32).toInt = 129 := rfl
              rw [e_qi] at b_qi
              refine g_aload X300 hx (pc' := 170) rfl (hD hby at_168) rfl rfl ?_
              refine g_iload X300 hx (pc' := 172) rfl (hD hby at_170) rfl ?_
              refine g_iload X300 hx (pc' := 174) rfl (hD hby at_172) rfl ?_
              refine g_castore X300 hx hZ V300 (i := pi.toInt.toNat) (by omega) (by rw [List.length_replicate]; omega) Ga300 (y := cx) (nar_chr b_cx) (pc' := 175) rfl (hD hby at_174) (fun T302 h302 X302 W302 N302 => ?_)
              have f303 := (by have q := (Keep.of_wr W302).1; exact Nat.le_trans zs300 q : n0 ≤ h302.size)
              have f304 := f301.wr W302 Ga300
              have V302 : AV Z h302 a300 .char ((List.replicate 129 (.int f')).set (pi.toInt.toNat) (.int cx)) := N302
              refine g_aload X302 hx (pc' := 177) rfl (hD hby at_175) rfl rfl ?_
              refine g_iload X302 hx (pc' := 179) rfl (hD hby at_177) rfl ?_
              refine g_iload X302 hx (pc' := 181) rfl (hD hby at_179) rfl ?_
              refine g_castore X302 hx hZ V302 (i := qi.toInt.toNat) (by omega) (by rw [List.length_set, List.length_replicate]; omega) Ga300 (y := cy) (nar_chr b_cy) (pc' := 182) rfl (hD hby at_181) (fun T305 h305 X305 W305 N305 => ?_)
              have f306 := (by have q := (Keep.of_wr W305).1; exact Nat.le_trans f303 q : n0 ≤ h305.size)
              have f307 := f304.wr W305 Ga300
              have V305 : AV Z h305 a300 .char ((laid 129 f' cx cy (pi.toInt.toNat) (qi.toInt.toNat)).map Value.int) := (by rw [laid_map]; exact N305)
              refine g_iload X305 hx (pc' := 184) rfl (hD hby at_182) rfl ?_
              refine g_iconst X305 hx (pc' := 185) (z := (1 : Int32)) rfl (hD hby at_184) rfl ?_
              refine g_icmpN X305 hx (pcN := 188) (hD hby at_185) rfl (show ¬ (kd = (1 : Int32)) from (by rw [hc124]; decide)) ?_
              refine g_iload X305 hx (pc' := 190) rfl (hD hby at_188) rfl ?_
              refine g_iconst X305 hx (pc' := 191) (z := (2 : Int32)) rfl (hD hby at_190) rfl ?_
              refine g_icmpN X305 hx (pcN := 194) (hD hby at_191) rfl (show ¬ (kd = (2 : Int32)) from (by rw [hc124]; decide)) ?_
              refine g_iload X305 hx (pc' := 196) rfl (hD hby at_194) rfl ?_
              refine g_bipush X305 hx (pc' := 198) (z := (7 : Int32)) rfl (hD hby at_196) rfl ?_
              refine g_icmpY X305 hx (pcY := 205) (hD hby at_198) (by decide) (by decide) (show ¬ kd = (7 : Int32) from (by rw [hc124]; decide)) ?_
              refine g_iconst X305 hx (pc' := 206) (z := (0 : Int32)) rfl (hD hby at_205) rfl ?_
              refine g_istore X305 hx (pc' := 208) rfl (hD hby at_206) (l' := #[.val (.int se), .val (.int bs), .val (.int pp), .val (.int xx), .val (.int qq), .val (.int yy), .val (.int f'), .val (.int cx), .val (.int cy), .val (.int kd), .val (.int 129), .val (.ref a300), .val (.int pi), .val (.int qi), .val (.int 0), .unset]) rfl ?_
              refine g_iload X305 hx (pc' := 210) rfl (hD hby at_208) rfl ?_
              refine g_ifY X305 hx (pcY := 248) (hD hby at_210) (by decide) (by decide) (show (0 : Int32) = 0 from by decide) ?_
              refine g_iconst X305 hx (pc' := 249) (z := (0 : Int32)) rfl (hD hby at_248) rfl ?_
              refine g_istore X305 hx (pc' := 251) rfl (hD hby at_249) (l' := #[.val (.int se), .val (.int bs), .val (.int pp), .val (.int xx), .val (.int qq), .val (.int yy), .val (.int f'), .val (.int cx), .val (.int cy), .val (.int kd), .val (.int 129), .val (.ref a300), .val (.int pi), .val (.int qi), .val (.int 0), .val (.int 0)]) rfl ?_
              refine g_newO X305 hx hZ hown (wat hw 9 rfl) (wat hw 10 rfl) (wat hw 11 rfl) (pc' := 254) rfl (hD hby at_251) (by decide) (by decide) (fun T308 h308 a308 ha308 X308 E308 A308 D308 => ?_)
              have ne308_a300 : a300 ≠ a308 := by rw [ha308]; exact Nat.ne_of_lt V305.lt
              have f309 := V305.ext E308
              have G_a308 : n0 ≤ a308 := by rw [ha308]; exact f306
              have Zs308 : n0 ≤ h308.size := Nat.le_trans f306 E308.1
              have f310 := f307.ext E308
              have F308_coder : SC Z h308 a308 (.int 0) := D308 (Or.inr (wat hw 35 rfl)) (ty := .byte) (by decide)
              have F308_value : SV Z h308 a308 .null := D308 (Or.inr (wat hw 37 rfl)) (ty := (.array .byte)) (by decide)
              refine g_dup X308 hx (pc' := 255) rfl (hD hby at_254) rfl ?_
              refine g_aload X308 hx (pc' := 257) rfl (hD hby at_255) rfl rfl ?_
              refine g_callI X308 hx hZ hown rfl (wat hw 12 rfl) (wat hw 13 rfl) (wat hw 11 rfl) (wat hw 14 rfl) (by decide) (a := a308) (rm3 l Z a0 hw [] n0 (Ts) a308 a300 (laid 129 f' cx cy (pi.toInt.toNat) (qi.toInt.toNat)) (129 : Int32) (258 : Int32) cz h308 Zs308 U1 U2 U3 O2 hcz f310 (by rw [laid_len]; rfl) (by rw [laid_len]; rfl) (by decide) (by rw [laid_len]; decide) (by rw [laid_len]; decide) (laid_chr b_f' b_cx b_cy) f309 A308 G_a308 F308_coder F308_value) pd_20 rfl rfl (pc' := 260) rfl (hD hby at_257) (argsL := [(.ref a300)]) (rest := [(.ref a308)]) rfl (W := 1) (fun v311 T311 h311 X311 hQ311 => ?_)
              obtain ⟨rfl, K311, SS311⟩ := hQ311
              have f312 := f310.keep K311 (allS G_a308 all0)
              have zs311 : n0 ≤ h311.size := Nat.le_trans Zs308 K311.1
              show Go p e below s n0 _ _ _ (T311.setTop (mkF m 260 _ [(.ref a308)]))
              refine g_callS X311 hx hZ hown (wat hw 38 rfl) (wat hw 39 rfl) (wat hw 40 rfl) (wat hw 41 rfl) (by decide) (rm9_g l Z a0 hw [] n0 (Ts) a308 (laid 129 f' cx cy (pi.toInt.toNat) (qi.toInt.toNat)) (129 : Int32) (258 : Int32) cz h311 zs311 O2 hcz f312 SS311 (by rw [laid_len]; rfl) (by rw [laid_len]; rfl) (by decide) (by decide) (by decide)) pd_21 rfl rfl (pc' := 263) rfl (hD hby at_260) (argsL := [(.ref a308)]) (rest := []) rfl (W := 0) (fun v313 T313 h313 X313 hQ313 => ?_)
              obtain ⟨rfl, he313⟩ := hQ313
              rw [he313] at X313
              show Go p e below s n0 _ _ _ (T313.setTop (mkF m 263 _ [(.int 0)]))
              refine g_iload X313 hx (pc' := 265) rfl (hD hby at_263) rfl ?_
              refine g_icmpN X313 hx (pcN := 268) (hD hby at_265) rfl (show ¬ (¬ (0 : Int32) = (0 : Int32)) from by decide) ?_
              refine g_iconst X313 hx (pc' := 269) (z := (1 : Int32)) rfl (hD hby at_268) rfl ?_
              refine g_goto X313 hx (pc' := 273) (hD hby at_269) (by decide) (by decide) ?_
              replace X313 := X313.more (Ts' := "" :: Ts) (by simp +contextual)
              exact g_retZ X313 hx hlk hret (by first | exact Or.inl rfl | exact Or.inr rfl) (hD hby at_273) (by decide) (by decide) (Nat.le_refl _) (rfl)
          · replace hc111 : kd = (1 : Int32) := Classical.not_not.mp hc111
            refine g_bipush X255 hx (pc' := 116) (z := (43 : Int32)) rfl (hD hby at_114) rfl ?_
            refine g_istore X255 hx (pc' := 118) rfl (hD hby at_116) (l' := #[.val (.int se), .val (.int bs), .val (.int pp), .val (.int xx), .val (.int qq), .val (.int yy), .val (.int f'), .val (.int cx), .val (.int cy), .val (.int kd), .val (.int 43), .unset, .unset, .unset, .unset, .unset]) rfl ?_
            refine g_goto X255 hx (pc' := 140) (hD hby at_118) (by decide) (by decide) ?_
            refine g_iload X255 hx (pc' := 142) rfl (hD hby at_140) rfl ?_
            refine g_iload X255 hx (pc' := 144) rfl (hD hby at_142) rfl ?_
            refine g_callS X255 hx hZ hown (wat hw 4 rfl) (wat hw 5 rfl) (wat hw 2 rfl) (wat hw 6 rfl) (by decide) (rm2_43 l Z a0 hw [] n0 (Ts) f' h0 hn0 (nar_chr b_f')) pd_19 rfl rfl (pc' := 147) rfl (hD hby at_144) (argsL := [(.int 43), (.int f')]) (rest := []) rfl (W := 0) (fun v314 T314 h314 X314 hQ314 => ?_)
            obtain ⟨a314, rfl, Ga314, S314, K314, V314⟩ := hQ314
            have f315 := OLD.keep K314 all0
            have zs314 : n0 ≤ h314.size := Nat.le_trans hn0 K314.1
            show Go p e below s n0 _ _ _ (T314.setTop (mkF m 147 _ [(.ref a314)]))
            refine g_astore X314 hx (pc' := 149) rfl (hD hby at_147) rfl (l' := #[.val (.int se), .val (.int bs), .val (.int pp), .val (.int xx), .val (.int qq), .val (.int yy), .val (.int f'), .val (.int cx), .val (.int cy), .val (.int kd), .val (.int 43), .val (.ref a314), .unset, .unset, .unset, .unset]) rfl ?_
            refine g_iloadN X314 hx (pc' := 150) rfl (hD hby at_149) rfl ?_
            refine g_ldcI X314 hx hZ hown (wat hw 8 rfl) (pc' := 152) (v := (2147483647 : Int32)) rfl (hD hby at_150) ?_
            refine g_iand X314 hx (pc' := 153) rfl (hD hby at_152) ?_
            refine g_iload X314 hx (pc' := 155) rfl (hD hby at_153) rfl ?_
            refine g_irem X314 hx (pc' := 156) rfl (hD hby at_155) (by decide) ?_
            refine g_absI (fun pi h_pi => ?_)
            refine g_istore X314 hx (pc' := 158) rfl (hD hby at_156) (l' := #[.val (.int se), .val (.int bs), .val (.int pp), .val (.int xx), .val (.int qq), .val (.int yy), .val (.int f'), .val (.int cx), .val (.int cy), .val (.int kd), .val (.int 43), .val (.ref a314), .val (.int pi), .unset, .unset, .unset]) rfl ?_
            have b_pi := own_pos (x := pp) (k := (43 : Int32)) (by decide)
            rw [← h_pi] at b_pi
            have e_pi : (43 : Int32).toInt = 43 := rfl
            rw [e_pi] at b_pi
            refine g_iload X314 hx (pc' := 160) rfl (hD hby at_158) rfl ?_
            refine g_ldcI X314 hx hZ hown (wat hw 8 rfl) (pc' := 162) (v := (2147483647 : Int32)) rfl (hD hby at_160) ?_
            refine g_iand X314 hx (pc' := 163) rfl (hD hby at_162) ?_
            refine g_iload X314 hx (pc' := 165) rfl (hD hby at_163) rfl ?_
            refine g_irem X314 hx (pc' := 166) rfl (hD hby at_165) (by decide) ?_
            refine g_absI (fun qi h_qi => ?_)
            refine g_istore X314 hx (pc' := 168) rfl (hD hby at_166) (l' := #[.val (.int se), .val (.int bs), .val (.int pp), .val (.int xx), .val (.int qq), .val (.int yy), .val (.int f'), .val (.int cx), .val (.int cy), .val (.int kd), .val (.int 43), .val (.ref a314), .val (.int pi), .val (.int qi), .unset, .unset]) rfl ?_
            have b_qi := own_pos (x := qq) (k := (43 : Int32)) (by decide)
            rw [← h_qi] at b_qi
            have e_qi : (43 : Int32).toInt = 43 := rfl
            rw [e_qi] at b_qi
            refine g_aload X314 hx (pc' := 170) rfl (hD hby at_168) rfl rfl ?_
            refine g_iload X314 hx (pc' := 172) rfl (hD hby at_170) rfl ?_
            refine g_iload X314 hx (pc' := 174) rfl (hD hby at_172) rfl ?_
            refine g_castore X314 hx hZ V314 (i := pi.toInt.toNat) (by omega) (by rw [List.length_replicate]; omega) Ga314 (y := cx) (nar_chr b_cx) (pc' := 175) rfl (hD hby at_174) (fun T316 h316 X316 W316 N316 => ?_)
            have f317 := (by have q := (Keep.of_wr W316).1; exact Nat.le_trans zs314 q : n0 ≤ h316.size)
            have f318 := f315.wr W316 Ga314
            have V316 : AV Z h316 a314 .char ((List.replicate 43 (.int f')).set (pi.toInt.toNat) (.int cx)) := N316
            refine g_aload X316 hx (pc' := 177) rfl (hD hby at_175) rfl rfl ?_
            refine g_iload X316 hx (pc' := 179) rfl (hD hby at_177) rfl ?_
            refine g_iload X316 hx (pc' := 181) rfl (hD hby at_179) rfl ?_
            refine g_castore X316 hx hZ V316 (i := qi.toInt.toNat) (by omega) (by rw [List.length_set, List.length_replicate]; omega) Ga314 (y := cy) (nar_chr b_cy) (pc' := 182) rfl (hD hby at_181) (fun T319 h319 X319 W319 N319 => ?_)
            have f320 := (by have q := (Keep.of_wr W319).1; exact Nat.le_trans f317 q : n0 ≤ h319.size)
            have f321 := f318.wr W319 Ga314
            have V319 : AV Z h319 a314 .char ((laid 43 f' cx cy (pi.toInt.toNat) (qi.toInt.toNat)).map Value.int) := (by rw [laid_map]; exact N319)
            refine g_iload X319 hx (pc' := 184) rfl (hD hby at_182) rfl ?_
            refine g_iconst X319 hx (pc' := 185) (z := (1 : Int32)) rfl (hD hby at_184) rfl ?_
            refine g_icmpY X319 hx (pcY := 201) (hD hby at_185) (by decide) (by decide) (show kd = (1 : Int32) from hc111) ?_
            refine g_iconst X319 hx (pc' := 202) (z := (1 : Int32)) rfl (hD hby at_201) rfl ?_
            refine g_goto X319 hx (pc' := 206) (hD hby at_202) (by decide) (by decide) ?_
            refine g_istore X319 hx (pc' := 208) rfl (hD hby at_206) (l' := #[.val (.int se), .val (.int bs), .val (.int pp), .val (.int xx), .val (.int qq), .val (.int yy), .val (.int f'), .val (.int cx), .val (.int cy), .val (.int kd), .val (.int 43), .val (.ref a314), .val (.int pi), .val (.int qi), .val (.int 1), .unset]) rfl ?_
            refine g_iload X319 hx (pc' := 210) rfl (hD hby at_208) rfl ?_
            refine g_ifN X319 hx (pcN := 213) (hD hby at_210) rfl (show ¬ ((1 : Int32) = 0) from by decide) ?_
            cases u_f' : okb f'
            · skip
              refine g_iload X319 hx (pc' := 215) rfl (hD hby at_213) rfl ?_
              refine g_callS X319 hx hZ hown (wat hw 55 rfl) (wat hw 56 rfl) (wat hw 2 rfl) (wat hw 57 rfl) (by decide) (rm12 l Z a0 hw [] n0 (Ts) f' h319 f320 b_f') pd_9 rfl rfl (pc' := 218) rfl (hD hby at_215) (argsL := [(.int f')]) (rest := []) rfl (W := 0) (fun v322 T322 h322 X322 hQ322 => ?_)
              obtain ⟨rfl, he322⟩ := hQ322
              rw [he322] at X322
              show Go p e below s n0 _ _ _ (T322.setTop (mkF m 218 _ [(.int (if okb f' then 1 else 0))]))
              refine g_normI (z := (0 : Int32)) (by rw [u_f']; rfl) ?_
              refine g_ifY X322 hx (pcY := 248) (hD hby at_218) (by decide) (by decide) (show (0 : Int32) = 0 from by decide) ?_
              refine g_iconst X322 hx (pc' := 249) (z := (0 : Int32)) rfl (hD hby at_248) rfl ?_
              refine g_istore X322 hx (pc' := 251) rfl (hD hby at_249) (l' := #[.val (.int se), .val (.int bs), .val (.int pp), .val (.int xx), .val (.int qq), .val (.int yy), .val (.int f'), .val (.int cx), .val (.int cy), .val (.int kd), .val (.int 43), .val (.ref a314), .val (.int pi), .val (.int qi), .val (.int 1), .val (.int 0)]) rfl ?_
              refine g_newO X322 hx hZ hown (wat hw 9 rfl) (wat hw 10 rfl) (wat hw 11 rfl) (pc' := 254) rfl (hD hby at_251) (by decide) (by decide) (fun T323 h323 a323 ha323 X323 E323 A323 D323 => ?_)
              have ne323_a314 : a314 ≠ a323 := by rw [ha323]; exact Nat.ne_of_lt V319.lt
              have f324 := V319.ext E323
              have G_a323 : n0 ≤ a323 := by rw [ha323]; exact f320
              have Zs323 : n0 ≤ h323.size := Nat.le_trans f320 E323.1
              have f325 := f321.ext E323
              have F323_coder : SC Z h323 a323 (.int 0) := D323 (Or.inr (wat hw 35 rfl)) (ty := .byte) (by decide)
              have F323_value : SV Z h323 a323 .null := D323 (Or.inr (wat hw 37 rfl)) (ty := (.array .byte)) (by decide)
              refine g_dup X323 hx (pc' := 255) rfl (hD hby at_254) rfl ?_
              refine g_aload X323 hx (pc' := 257) rfl (hD hby at_255) rfl rfl ?_
              refine g_callI X323 hx hZ hown rfl (wat hw 12 rfl) (wat hw 13 rfl) (wat hw 11 rfl) (wat hw 14 rfl) (by decide) (a := a323) (rm3 l Z a0 hw [] n0 (Ts) a323 a314 (laid 43 f' cx cy (pi.toInt.toNat) (qi.toInt.toNat)) (43 : Int32) (86 : Int32) cz h323 Zs323 U1 U2 U3 O2 hcz f325 (by rw [laid_len]; rfl) (by rw [laid_len]; rfl) (by decide) (by rw [laid_len]; decide) (by rw [laid_len]; decide) (laid_chr b_f' b_cx b_cy) f324 A323 G_a323 F323_coder F323_value) pd_20 rfl rfl (pc' := 260) rfl (hD hby at_257) (argsL := [(.ref a314)]) (rest := [(.ref a323)]) rfl (W := 1) (fun v326 T326 h326 X326 hQ326 => ?_)
              obtain ⟨rfl, K326, SS326⟩ := hQ326
              have f327 := f325.keep K326 (allS G_a323 all0)
              have zs326 : n0 ≤ h326.size := Nat.le_trans Zs323 K326.1
              show Go p e below s n0 _ _ _ (T326.setTop (mkF m 260 _ [(.ref a323)]))
              refine g_callS X326 hx hZ hown (wat hw 38 rfl) (wat hw 39 rfl) (wat hw 40 rfl) (wat hw 41 rfl) (by decide) (rm9 l Z a0 hw [] n0 (Ts) a323 (laid 43 f' cx cy (pi.toInt.toNat) (qi.toInt.toNat)) (43 : Int32) (86 : Int32) (0 : Int32) fo cz h326 zs326 O4 hfo U1 U2 U3 O2 hcz f327 SS326 (by rw [laid_len]; decide) (by rw [laid_len]; rfl) (by rw [laid_len]; rfl) (by decide) (by decide) (by decide) (Or.inr ⟨rfl, laid_badF (by decide) u_f'⟩)) pd_21 rfl rfl (pc' := 263) rfl (hD hby at_260) (argsL := [(.ref a323)]) (rest := []) rfl (W := 0) (fun v328 T328 h328 X328 hQ328 => ?_)
              obtain ⟨rfl, he328⟩ := hQ328
              rw [he328] at X328
              show Go p e below s n0 _ _ _ (T328.setTop (mkF m 263 _ [(.int 0)]))
              refine g_iload X328 hx (pc' := 265) rfl (hD hby at_263) rfl ?_
              refine g_icmpN X328 hx (pcN := 268) (hD hby at_265) rfl (show ¬ (¬ (0 : Int32) = (0 : Int32)) from by decide) ?_
              refine g_iconst X328 hx (pc' := 269) (z := (1 : Int32)) rfl (hD hby at_268) rfl ?_
              refine g_goto X328 hx (pc' := 273) (hD hby at_269) (by decide) (by decide) ?_
              replace X328 := X328.more (Ts' := "" :: Ts) (by simp +contextual)
              exact g_retZ X328 hx hlk hret (by first | exact Or.inl rfl | exact Or.inr rfl) (hD hby at_273) (by decide) (by decide) (Nat.le_refl _) (rfl)
            · skip
              refine g_iload X319 hx (pc' := 215) rfl (hD hby at_213) rfl ?_
              refine g_callS X319 hx hZ hown (wat hw 55 rfl) (wat hw 56 rfl) (wat hw 2 rfl) (wat hw 57 rfl) (by decide) (rm12 l Z a0 hw [] n0 (Ts) f' h319 f320 b_f') pd_9 rfl rfl (pc' := 218) rfl (hD hby at_215) (argsL := [(.int f')]) (rest := []) rfl (W := 0) (fun v329 T329 h329 X329 hQ329 => ?_)
              obtain ⟨rfl, he329⟩ := hQ329
              rw [he329] at X329
              show Go p e below s n0 _ _ _ (T329.setTop (mkF m 218 _ [(.int (if okb f' then 1 else 0))]))
              refine g_normI (z := (1 : Int32)) (by rw [u_f']; rfl) ?_
              refine g_ifN X329 hx (pcN := 221) (hD hby at_218) rfl (show ¬ ((1 : Int32) = 0) from by decide) ?_
              cases u_cy : okb cy
              · skip
                refine g_iload X329 hx (pc' := 223) rfl (hD hby at_221) rfl ?_
                refine g_callS X329 hx hZ hown (wat hw 55 rfl) (wat hw 56 rfl) (wat hw 2 rfl) (wat hw 57 rfl) (by decide) (rm12 l Z a0 hw [] n0 (Ts) cy h319 f320 b_cy) pd_9 rfl rfl (pc' := 226) rfl (hD hby at_223) (argsL := [(.int cy)]) (rest := []) rfl (W := 0) (fun v330 T330 h330 X330 hQ330 => ?_)
                obtain ⟨rfl, he330⟩ := hQ330
                rw [he330] at X330
                show Go p e below s n0 _ _ _ (T330.setTop (mkF m 226 _ [(.int (if okb cy then 1 else 0))]))
                refine g_normI (z := (0 : Int32)) (by rw [u_cy]; rfl) ?_
                refine g_ifY X330 hx (pcY := 248) (hD hby at_226) (by decide) (by decide) (show (0 : Int32) = 0 from by decide) ?_
                refine g_iconst X330 hx (pc' := 249) (z := (0 : Int32)) rfl (hD hby at_248) rfl ?_
                refine g_istore X330 hx (pc' := 251) rfl (hD hby at_249) (l' := #[.val (.int se), .val (.int bs), .val (.int pp), .val (.int xx), .val (.int qq), .val (.int yy), .val (.int f'), .val (.int cx), .val (.int cy), .val (.int kd), .val (.int 43), .val (.ref a314), .val (.int pi), .val (.int qi), .val (.int 1), .val (.int 0)]) rfl ?_
                refine g_newO X330 hx hZ hown (wat hw 9 rfl) (wat hw 10 rfl) (wat hw 11 rfl) (pc' := 254) rfl (hD hby at_251) (by decide) (by decide) (fun T331 h331 a331 ha331 X331 E331 A331 D331 => ?_)
                have ne331_a314 : a314 ≠ a331 := by rw [ha331]; exact Nat.ne_of_lt V319.lt
                have f332 := V319.ext E331
                have G_a331 : n0 ≤ a331 := by rw [ha331]; exact f320
                have Zs331 : n0 ≤ h331.size := Nat.le_trans f320 E331.1
                have f333 := f321.ext E331
                have F331_coder : SC Z h331 a331 (.int 0) := D331 (Or.inr (wat hw 35 rfl)) (ty := .byte) (by decide)
                have F331_value : SV Z h331 a331 .null := D331 (Or.inr (wat hw 37 rfl)) (ty := (.array .byte)) (by decide)
                refine g_dup X331 hx (pc' := 255) rfl (hD hby at_254) rfl ?_
                refine g_aload X331 hx (pc' := 257) rfl (hD hby at_255) rfl rfl ?_
                refine g_callI X331 hx hZ hown rfl (wat hw 12 rfl) (wat hw 13 rfl) (wat hw 11 rfl) (wat hw 14 rfl) (by decide) (a := a331) (rm3 l Z a0 hw [] n0 (Ts) a331 a314 (laid 43 f' cx cy (pi.toInt.toNat) (qi.toInt.toNat)) (43 : Int32) (86 : Int32) cz h331 Zs331 U1 U2 U3 O2 hcz f333 (by rw [laid_len]; rfl) (by rw [laid_len]; rfl) (by decide) (by rw [laid_len]; decide) (by rw [laid_len]; decide) (laid_chr b_f' b_cx b_cy) f332 A331 G_a331 F331_coder F331_value) pd_20 rfl rfl (pc' := 260) rfl (hD hby at_257) (argsL := [(.ref a314)]) (rest := [(.ref a331)]) rfl (W := 1) (fun v334 T334 h334 X334 hQ334 => ?_)
                obtain ⟨rfl, K334, SS334⟩ := hQ334
                have f335 := f333.keep K334 (allS G_a331 all0)
                have zs334 : n0 ≤ h334.size := Nat.le_trans Zs331 K334.1
                show Go p e below s n0 _ _ _ (T334.setTop (mkF m 260 _ [(.ref a331)]))
                refine g_callS X334 hx hZ hown (wat hw 38 rfl) (wat hw 39 rfl) (wat hw 40 rfl) (wat hw 41 rfl) (by decide) (rm9 l Z a0 hw [] n0 (Ts) a331 (laid 43 f' cx cy (pi.toInt.toNat) (qi.toInt.toNat)) (43 : Int32) (86 : Int32) (0 : Int32) fo cz h334 zs334 O4 hfo U1 U2 U3 O2 hcz f335 SS334 (by rw [laid_len]; decide) (by rw [laid_len]; rfl) (by rw [laid_len]; rfl) (by decide) (by decide) (by decide) (Or.inr ⟨rfl, laid_badY (by omega) u_cy⟩)) pd_21 rfl rfl (pc' := 263) rfl (hD hby at_260) (argsL := [(.ref a331)]) (rest := []) rfl (W := 0) (fun v336 T336 h336 X336 hQ336 => ?_)
                obtain ⟨rfl, he336⟩ := hQ336
                rw [he336] at X336
                show Go p e below s n0 _ _ _ (T336.setTop (mkF m 263 _ [(.int 0)]))
                refine g_iload X336 hx (pc' := 265) rfl (hD hby at_263) rfl ?_
                refine g_icmpN X336 hx (pcN := 268) (hD hby at_265) rfl (show ¬ (¬ (0 : Int32) = (0 : Int32)) from by decide) ?_
                refine g_iconst X336 hx (pc' := 269) (z := (1 : Int32)) rfl (hD hby at_268) rfl ?_
                refine g_goto X336 hx (pc' := 273) (hD hby at_269) (by decide) (by decide) ?_
                replace X336 := X336.more (Ts' := "" :: Ts) (by simp +contextual)
                exact g_retZ X336 hx hlk hret (by first | exact Or.inl rfl | exact Or.inr rfl) (hD hby at_273) (by decide) (by decide) (Nat.le_refl _) (rfl)
              · skip
                refine g_iload X329 hx (pc' := 223) rfl (hD hby at_221) rfl ?_
                refine g_callS X329 hx hZ hown (wat hw 55 rfl) (wat hw 56 rfl) (wat hw 2 rfl) (wat hw 57 rfl) (by decide) (rm12 l Z a0 hw [] n0 (Ts) cy h319 f320 b_cy) pd_9 rfl rfl (pc' := 226) rfl (hD hby at_223) (argsL := [(.int cy)]) (rest := []) rfl (W := 0) (fun v337 T337 h337 X337 hQ337 => ?_)
                obtain ⟨rfl, he337⟩ := hQ337
                rw [he337] at X337
                show Go p e below s n0 _ _ _ (T337.setTop (mkF m 226 _ [(.int (if okb cy then 1 else 0))]))
                refine g_normI (z := (1 : Int32)) (by rw [u_cy]; rfl) ?_
                refine g_ifN X337 hx (pcN := 229) (hD hby at_226) rfl (show ¬ ((1 : Int32) = 0) from by decide) ?_
                refine g_iload X337 hx (pc' := 231) rfl (hD hby at_229) rfl ?_
                refine g_iload X337 hx (pc' := 233) rfl (hD hby at_231) rfl ?_
                refine g_icmp X337 hx (pcY := 244) (pcN := 236) (hD hby at_233) (by decide) (by decide) rfl (fun hc233 => ?_) (fun hc233 => ?_)
                · replace hc233 : pi = qi := hc233
                  refine g_iconst X337 hx (pc' := 245) (z := (1 : Int32)) rfl (hD hby at_244) rfl ?_
                  refine g_goto X337 hx (pc' := 249) (hD hby at_245) (by decide) (by decide) ?_
                  refine g_istore X337 hx (pc' := 251) rfl (hD hby at_249) (l' := #[.val (.int se), .val (.int bs), .val (.int pp), .val (.int xx), .val (.int qq), .val (.int yy), .val (.int f'), .val (.int cx), .val (.int cy), .val (.int kd), .val (.int 43), .val (.ref a314), .val (.int pi), .val (.int qi), .val (.int 1), .val (.int 1)]) rfl ?_
                  refine g_newO X337 hx hZ hown (wat hw 9 rfl) (wat hw 10 rfl) (wat hw 11 rfl) (pc' := 254) rfl (hD hby at_251) (by decide) (by decide) (fun T338 h338 a338 ha338 X338 E338 A338 D338 => ?_)
                  have ne338_a314 : a314 ≠ a338 := by rw [ha338]; exact Nat.ne_of_lt V319.lt
                  have f339 := V319.ext E338
                  have G_a338 : n0 ≤ a338 := by rw [ha338]; exact f320
                  have Zs338 : n0 ≤ h338.size := Nat.le_trans f320 E338.1
                  have f340 := f321.ext E338
                  have F338_coder : SC Z h338 a338 (.int 0) := D338 (Or.inr (wat hw 35 rfl)) (ty := .byte) (by decide)
                  have F338_value : SV Z h338 a338 .null := D338 (Or.inr (wat hw 37 rfl)) (ty := (.array .byte)) (by decide)
                  refine g_dup X338 hx (pc' := 255) rfl (hD hby at_254) rfl ?_
                  refine g_aload X338 hx (pc' := 257) rfl (hD hby at_255) rfl rfl ?_
                  refine g_callI X338 hx hZ hown rfl (wat hw 12 rfl) (wat hw 13 rfl) (wat hw 11 rfl) (wat hw 14 rfl) (by decide) (a := a338) (rm3 l Z a0 hw [] n0 (Ts) a338 a314 (laid 43 f' cx cy (pi.toInt.toNat) (qi.toInt.toNat)) (43 : Int32) (86 : Int32) cz h338 Zs338 U1 U2 U3 O2 hcz f340 (by rw [laid_len]; rfl) (by rw [laid_len]; rfl) (by decide) (by rw [laid_len]; decide) (by rw [laid_len]; decide) (laid_chr b_f' b_cx b_cy) f339 A338 G_a338 F338_coder F338_value) pd_20 rfl rfl (pc' := 260) rfl (hD hby at_257) (argsL := [(.ref a314)]) (rest := [(.ref a338)]) rfl (W := 1) (fun v341 T341 h341 X341 hQ341 => ?_)
                  obtain ⟨rfl, K341, SS341⟩ := hQ341
                  have f342 := f340.keep K341 (allS G_a338 all0)
                  have zs341 : n0 ≤ h341.size := Nat.le_trans Zs338 K341.1
                  show Go p e below s n0 _ _ _ (T341.setTop (mkF m 260 _ [(.ref a338)]))
                  refine g_callS X341 hx hZ hown (wat hw 38 rfl) (wat hw 39 rfl) (wat hw 40 rfl) (wat hw 41 rfl) (by decide) (rm9 l Z a0 hw [] n0 (Ts) a338 (laid 43 f' cx cy (pi.toInt.toNat) (qi.toInt.toNat)) (43 : Int32) (86 : Int32) (1 : Int32) fo cz h341 zs341 O4 hfo U1 U2 U3 O2 hcz f342 SS341 (by rw [laid_len]; decide) (by rw [laid_len]; rfl) (by rw [laid_len]; rfl) (by decide) (by decide) (by decide) (Or.inl ⟨rfl, laid_ok u_f' u_cy (Or.inl (by rw [hc233]))⟩)) pd_21 rfl rfl (pc' := 263) rfl (hD hby at_260) (argsL := [(.ref a338)]) (rest := []) rfl (W := 0) (fun v343 T343 h343 X343 hQ343 => ?_)
                  obtain ⟨rfl, he343⟩ := hQ343
                  rw [he343] at X343
                  show Go p e below s n0 _ _ _ (T343.setTop (mkF m 263 _ [(.int 1)]))
                  refine g_iload X343 hx (pc' := 265) rfl (hD hby at_263) rfl ?_
                  refine g_icmpN X343 hx (pcN := 268) (hD hby at_265) rfl (show ¬ (¬ (1 : Int32) = (1 : Int32)) from by decide) ?_
                  refine g_iconst X343 hx (pc' := 269) (z := (1 : Int32)) rfl (hD hby at_268) rfl ?_
                  refine g_goto X343 hx (pc' := 273) (hD hby at_269) (by decide) (by decide) ?_
                  replace X343 := X343.more (Ts' := "" :: Ts) (by simp +contextual)
                  exact g_retZ X343 hx hlk hret (by first | exact Or.inl rfl | exact Or.inr rfl) (hD hby at_273) (by decide) (by decide) (Nat.le_refl _) (rfl)
                · replace hc233 : ¬ pi = qi := hc233
                  cases u_cx : okb cx
                  · skip
                    refine g_iload X337 hx (pc' := 238) rfl (hD hby at_236) rfl ?_
                    refine g_callS X337 hx hZ hown (wat hw 55 rfl) (wat hw 56 rfl) (wat hw 2 rfl) (wat hw 57 rfl) (by decide) (rm12 l Z a0 hw [] n0 (Ts) cx h319 f320 b_cx) pd_9 rfl rfl (pc' := 241) rfl (hD hby at_238) (argsL := [(.int cx)]) (rest := []) rfl (W := 0) (fun v344 T344 h344 X344 hQ344 => ?_)
                    obtain ⟨rfl, he344⟩ := hQ344
                    rw [he344] at X344
                    show Go p e below s n0 _ _ _ (T344.setTop (mkF m 241 _ [(.int (if okb cx then 1 else 0))]))
                    refine g_normI (z := (0 : Int32)) (by rw [u_cx]; rfl) ?_
                    refine g_ifY X344 hx (pcY := 248) (hD hby at_241) (by decide) (by decide) (show (0 : Int32) = 0 from by decide) ?_
                    refine g_iconst X344 hx (pc' := 249) (z := (0 : Int32)) rfl (hD hby at_248) rfl ?_
                    refine g_istore X344 hx (pc' := 251) rfl (hD hby at_249) (l' := #[.val (.int se), .val (.int bs), .val (.int pp), .val (.int xx), .val (.int qq), .val (.int yy), .val (.int f'), .val (.int cx), .val (.int cy), .val (.int kd), .val (.int 43), .val (.ref a314), .val (.int pi), .val (.int qi), .val (.int 1), .val (.int 0)]) rfl ?_
                    refine g_newO X344 hx hZ hown (wat hw 9 rfl) (wat hw 10 rfl) (wat hw 11 rfl) (pc' := 254) rfl (hD hby at_251) (by decide) (by decide) (fun T345 h345 a345 ha345 X345 E345 A345 D345 => ?_)
                    have ne345_a314 : a314 ≠ a345 := by rw [ha345]; exact Nat.ne_of_lt V319.lt
                    have f346 := V319.ext E345
                    have G_a345 : n0 ≤ a345 := by rw [ha345]; exact f320
                    have Zs345 : n0 ≤ h345.size := Nat.le_trans f320 E345.1
                    have f347 := f321.ext E345
                    have F345_coder : SC Z h345 a345 (.int 0) := D345 (Or.inr (wat hw 35 rfl)) (ty := .byte) (by decide)
                    have F345_value : SV Z h345 a345 .null := D345 (Or.inr (wat hw 37 rfl)) (ty := (.array .byte)) (by decide)
                    refine g_dup X345 hx (pc' := 255) rfl (hD hby at_254) rfl ?_
                    refine g_aload X345 hx (pc' := 257) rfl (hD hby at_255) rfl rfl ?_
                    refine g_callI X345 hx hZ hown rfl (wat hw 12 rfl) (wat hw 13 rfl) (wat hw 11 rfl) (wat hw 14 rfl) (by decide) (a := a345) (rm3 l Z a0 hw [] n0 (Ts) a345 a314 (laid 43 f' cx cy (pi.toInt.toNat) (qi.toInt.toNat)) (43 : Int32) (86 : Int32) cz h345 Zs345 U1 U2 U3 O2 hcz f347 (by rw [laid_len]; rfl) (by rw [laid_len]; rfl) (by decide) (by rw [laid_len]; decide) (by rw [laid_len]; decide) (laid_chr b_f' b_cx b_cy) f346 A345 G_a345 F345_coder F345_value) pd_20 rfl rfl (pc' := 260) rfl (hD hby at_257) (argsL := [(.ref a314)]) (rest := [(.ref a345)]) rfl (W := 1) (fun v348 T348 h348 X348 hQ348 => ?_)
                    obtain ⟨rfl, K348, SS348⟩ := hQ348
                    have f349 := f347.keep K348 (allS G_a345 all0)
                    have zs348 : n0 ≤ h348.size := Nat.le_trans Zs345 K348.1
                    show Go p e below s n0 _ _ _ (T348.setTop (mkF m 260 _ [(.ref a345)]))
                    refine g_callS X348 hx hZ hown (wat hw 38 rfl) (wat hw 39 rfl) (wat hw 40 rfl) (wat hw 41 rfl) (by decide) (rm9 l Z a0 hw [] n0 (Ts) a345 (laid 43 f' cx cy (pi.toInt.toNat) (qi.toInt.toNat)) (43 : Int32) (86 : Int32) (0 : Int32) fo cz h348 zs348 O4 hfo U1 U2 U3 O2 hcz f349 SS348 (by rw [laid_len]; decide) (by rw [laid_len]; rfl) (by rw [laid_len]; rfl) (by decide) (by decide) (by decide) (Or.inr ⟨rfl, laid_badX (by omega) (fun q => hc233 (own_pq b_pi.1 b_qi.1 q)) u_cx⟩)) pd_21 rfl rfl (pc' := 263) rfl (hD hby at_260) (argsL := [(.ref a345)]) (rest := []) rfl (W := 0) (fun v350 T350 h350 X350 hQ350 => ?_)
                    obtain ⟨rfl, he350⟩ := hQ350
                    rw [he350] at X350
                    show Go p e below s n0 _ _ _ (T350.setTop (mkF m 263 _ [(.int 0)]))
                    refine g_iload X350 hx (pc' := 265) rfl (hD hby at_263) rfl ?_
                    refine g_icmpN X350 hx (pcN := 268) (hD hby at_265) rfl (show ¬ (¬ (0 : Int32) = (0 : Int32)) from by decide) ?_
                    refine g_iconst X350 hx (pc' := 269) (z := (1 : Int32)) rfl (hD hby at_268) rfl ?_
                    refine g_goto X350 hx (pc' := 273) (hD hby at_269) (by decide) (by decide) ?_
                    replace X350 := X350.more (Ts' := "" :: Ts) (by simp +contextual)
                    exact g_retZ X350 hx hlk hret (by first | exact Or.inl rfl | exact Or.inr rfl) (hD hby at_273) (by decide) (by decide) (Nat.le_refl _) (rfl)
                  · skip
                    refine g_iload X337 hx (pc' := 238) rfl (hD hby at_236) rfl ?_
                    refine g_callS X337 hx hZ hown (wat hw 55 rfl) (wat hw 56 rfl) (wat hw 2 rfl) (wat hw 57 rfl) (by decide) (rm12 l Z a0 hw [] n0 (Ts) cx h319 f320 b_cx) pd_9 rfl rfl (pc' := 241) rfl (hD hby at_238) (argsL := [(.int cx)]) (rest := []) rfl (W := 0) (fun v351 T351 h351 X351 hQ351 => ?_)
                    obtain ⟨rfl, he351⟩ := hQ351
                    rw [he351] at X351
                    show Go p e below s n0 _ _ _ (T351.setTop (mkF m 241 _ [(.int (if okb cx then 1 else 0))]))
                    refine g_normI (z := (1 : Int32)) (by rw [u_cx]; rfl) ?_
                    refine g_ifN X351 hx (pcN := 244) (hD hby at_241) rfl (show ¬ ((1 : Int32) = 0) from by decide) ?_
                    refine g_iconst X351 hx (pc' := 245) (z := (1 : Int32)) rfl (hD hby at_244) rfl ?_
                    refine g_goto X351 hx (pc' := 249) (hD hby at_245) (by decide) (by decide) ?_
                    refine g_istore X351 hx (pc' := 251) rfl (hD hby at_249) (l' := #[.val (.int se), .val (.int bs), .val (.int pp), .val (.int xx), .val (.int qq), .val (.int yy), .val (.int f'), .val (.int cx), .val (.int cy), .val (.int kd), .val (.int 43), .val (.ref a314), .val (.int pi), .val (.int qi), .val (.int 1), .val (.int 1)]) rfl ?_
                    refine g_newO X351 hx hZ hown (wat hw 9 rfl) (wat hw 10 rfl) (wat hw 11 rfl) (pc' := 254) rfl (hD hby at_251) (by decide) (by decide) (fun T352 h352 a352 ha352 X352 E352 A352 D352 => ?_)
                    have ne352_a314 : a314 ≠ a352 := by rw [ha352]; exact Nat.ne_of_lt V319.lt
                    have f353 := V319.ext E352
                    have G_a352 : n0 ≤ a352 := by rw [ha352]; exact f320
                    have Zs352 : n0 ≤ h352.size := Nat.le_trans f320 E352.1
                    have f354 := f321.ext E352
                    have F352_coder : SC Z h352 a352 (.int 0) := D352 (Or.inr (wat hw 35 rfl)) (ty := .byte) (by decide)
                    have F352_value : SV Z h352 a352 .null := D352 (Or.inr (wat hw 37 rfl)) (ty := (.array .byte)) (by decide)
                    refine g_dup X352 hx (pc' := 255) rfl (hD hby at_254) rfl ?_
                    refine g_aload X352 hx (pc' := 257) rfl (hD hby at_255) rfl rfl ?_
                    refine g_callI X352 hx hZ hown rfl (wat hw 12 rfl) (wat hw 13 rfl) (wat hw 11 rfl) (wat hw 14 rfl) (by decide) (a := a352) (rm3 l Z a0 hw [] n0 (Ts) a352 a314 (laid 43 f' cx cy (pi.toInt.toNat) (qi.toInt.toNat)) (43 : Int32) (86 : Int32) cz h352 Zs352 U1 U2 U3 O2 hcz f354 (by rw [laid_len]; rfl) (by rw [laid_len]; rfl) (by decide) (by rw [laid_len]; decide) (by rw [laid_len]; decide) (laid_chr b_f' b_cx b_cy) f353 A352 G_a352 F352_coder F352_value) pd_20 rfl rfl (pc' := 260) rfl (hD hby at_257) (argsL := [(.ref a314)]) (rest := [(.ref a352)]) rfl (W := 1) (fun v355 T355 h355 X355 hQ355 => ?_)
                    obtain ⟨rfl, K355, SS355⟩ := hQ355
                    have f356 := f354.keep K355 (allS G_a352 all0)
                    have zs355 : n0 ≤ h355.size := Nat.le_trans Zs352 K355.1
                    show Go p e below s n0 _ _ _ (T355.setTop (mkF m 260 _ [(.ref a352)]))
                    refine g_callS X355 hx hZ hown (wat hw 38 rfl) (wat hw 39 rfl) (wat hw 40 rfl) (wat hw 41 rfl) (by decide) (rm9 l Z a0 hw [] n0 (Ts) a352 (laid 43 f' cx cy (pi.toInt.toNat) (qi.toInt.toNat)) (43 : Int32) (86 : Int32) (1 : Int32) fo cz h355 zs355 O4 hfo U1 U2 U3 O2 hcz f356 SS355 (by rw [laid_len]; decide) (by rw [laid_len]; rfl) (by rw [laid_len]; rfl) (by decide) (by decide) (by decide) (Or.inl ⟨rfl, laid_ok u_f' u_cy (Or.inr u_cx)⟩)) pd_21 rfl rfl (pc' := 263) rfl (hD hby at_260) (argsL := [(.ref a352)]) (rest := []) rfl (W := 0) (fun v357 T357 h357 X357 hQ357 => ?_)
                    obtain ⟨rfl, he357⟩ := hQ357
                    rw [he357] at X357
                    show Go p e below s n0 _ _ _ (T357.setTop (mkF m 263 _ [(.int 1)]))
                    refine g_iload X357 hx (pc' := 265) rfl (hD hby at_263) rfl ?_
                    refine g_icmpN X357 hx (pcN := 268) (hD hby at_265) rfl (show ¬ (¬ (1 : Int32) = (1 : Int32)) from by decide) ?_
                    refine g_iconst X357 hx (pc' := 269) (z := (1 : Int32)) rfl (hD hby at_268) rfl ?_
                    refine g_goto X357 hx (pc' := 273) (hD hby at_269) (by decide) (by decide) ?_
                    replace X357 := X357.more (Ts' := "" :: Ts) (by simp +contextual)
                    exact g_retZ X357 hx hlk hret (by first | exact Or.inl rfl | exact Or.inr rfl) (hD hby at_273) (by decide) (by decide) (Nat.le_refl _) (rfl)
        · replace hc98 : kd = 0 := Classical.not_not.mp hc98
          refine g_bipush X255 hx (pc' := 103) (z := (42 : Int32)) rfl (hD hby at_101) rfl ?_
          refine g_istore X255 hx (pc' := 105) rfl (hD hby at_103) (l' := #[.val (.int se), .val (.int bs), .val (.int pp), .val (.int xx), .val (.int qq), .val (.int yy), .val (.int f'), .val (.int cx), .val (.int cy), .val (.int kd), .val (.int 42), .unset, .unset, .unset, .unset, .unset]) rfl ?_
          refine g_goto X255 hx (pc' := 140) (hD hby at_105) (by decide) (by decide) ?_
          refine g_iload X255 hx (pc' := 142) rfl (hD hby at_140) rfl ?_
          refine g_iload X255 hx (pc' := 144) rfl (hD hby at_142) rfl ?_
          refine g_callS X255 hx hZ hown (wat hw 4 rfl) (wat hw 5 rfl) (wat hw 2 rfl) (wat hw 6 rfl) (by decide) (rm2_42 l Z a0 hw [] n0 (Ts) f' h0 hn0 (nar_chr b_f')) pd_19 rfl rfl (pc' := 147) rfl (hD hby at_144) (argsL := [(.int 42), (.int f')]) (rest := []) rfl (W := 0) (fun v358 T358 h358 X358 hQ358 => ?_)
          obtain ⟨a358, rfl, Ga358, S358, K358, V358⟩ := hQ358
          have f359 := OLD.keep K358 all0
          have zs358 : n0 ≤ h358.size := Nat.le_trans hn0 K358.1
          show Go p e below s n0 _ _ _ (T358.setTop (mkF m 147 _ [(.ref a358)]))
          refine g_astore X358 hx (pc' := 149) rfl (hD hby at_147) rfl (l' := #[.val (.int se), .val (.int bs), .val (.int pp), .val (.int xx), .val (.int qq), .val (.int yy), .val (.int f'), .val (.int cx), .val (.int cy), .val (.int kd), .val (.int 42), .val (.ref a358), .unset, .unset, .unset, .unset]) rfl ?_
          refine g_iloadN X358 hx (pc' := 150) rfl (hD hby at_149) rfl ?_
          refine g_ldcI X358 hx hZ hown (wat hw 8 rfl) (pc' := 152) (v := (2147483647 : Int32)) rfl (hD hby at_150) ?_
          refine g_iand X358 hx (pc' := 153) rfl (hD hby at_152) ?_
          refine g_iload X358 hx (pc' := 155) rfl (hD hby at_153) rfl ?_
          refine g_irem X358 hx (pc' := 156) rfl (hD hby at_155) (by decide) ?_
          refine g_absI (fun pi h_pi => ?_)
          refine g_istore X358 hx (pc' := 158) rfl (hD hby at_156) (l' := #[.val (.int se), .val (.int bs), .val (.int pp), .val (.int xx), .val (.int qq), .val (.int yy), .val (.int f'), .val (.int cx), .val (.int cy), .val (.int kd), .val (.int 42), .val (.ref a358), .val (.int pi), .unset, .unset, .unset]) rfl ?_
          have b_pi := own_pos (x := pp) (k := (42 : Int32)) (by decide)
          rw [← h_pi] at b_pi
          have e_pi : (42 : Int32).toInt = 42 := rfl
          rw [e_pi] at b_pi
          refine g_iload X358 hx (pc' := 160) rfl (hD hby at_158) rfl ?_
          refine g_ldcI X358 hx hZ hown (wat hw 8 rfl) (pc' := 162) (v := (2147483647 : Int32)) rfl (hD hby at_160) ?_
          refine g_iand X358 hx (pc' := 163) rfl (hD hby at_162) ?_
          refine g_iload X358 hx (pc' := 165) rfl (hD hby at_163) rfl ?_
          refine g_irem X358 hx (pc' := 166) rfl (hD hby at_165) (by decide) ?_
          refine g_absI (fun qi h_qi => ?_)
          refine g_istore X358 hx (pc' := 168) rfl (hD hby at_166) (l' := #[.val (.int se), .val (.int bs), .val (.int pp), .val (.int xx), .val (.int qq), .val (.int yy), .val (.int f'), .val (.int cx), .val (.int cy), .val (.int kd), .val (.int 42), .val (.ref a358), .val (.int pi), .val (.int qi), .unset, .unset]) rfl ?_
          have b_qi := own_pos (x := qq) (k := (42 : Int32)) (by decide)
          rw [← h_qi] at b_qi
          have e_qi : (42 : Int32).toInt = 42 := rfl
          rw [e_qi] at b_qi
          refine g_aload X358 hx (pc' := 170) rfl (hD hby at_168) rfl rfl ?_
          refine g_iload X358 hx (pc' := 172) rfl (hD hby at_170) rfl ?_
          refine g_iload X358 hx (pc' := 174) rfl (hD hby at_172) rfl ?_
          refine g_castore X358 hx hZ V358 (i := pi.toInt.toNat) (by omega) (by rw [List.length_replicate]; omega) Ga358 (y := cx) (nar_chr b_cx) (pc' := 175) rfl (hD hby at_174) (fun T360 h360 X360 W360 N360 => ?_)
          have f361 := (by have q := (Keep.of_wr W360).1; exact Nat.le_trans zs358 q : n0 ≤ h360.size)
          have f362 := f359.wr W360 Ga358
          have V360 : AV Z h360 a358 .char ((List.replicate 42 (.int f')).set (pi.toInt.toNat) (.int cx)) := N360
          refine g_aload X360 hx (pc' := 177) rfl (hD hby at_175) rfl rfl ?_
          refine g_iload X360 hx (pc' := 179) rfl (hD hby at_177) rfl ?_
          refine g_iload X360 hx (pc' := 181) rfl (hD hby at_179) rfl ?_
          refine g_castore X360 hx hZ V360 (i := qi.toInt.toNat) (by omega) (by rw [List.length_set, List.length_replicate]; omega) Ga358 (y := cy) (nar_chr b_cy) (pc' := 182) rfl (hD hby at_181) (fun T363 h363 X363 W363 N363 => ?_)
          have f364 := (by have q := (Keep.of_wr W363).1; exact Nat.le_trans f361 q : n0 ≤ h363.size)
          have f365 := f362.wr W363 Ga358
          have V363 : AV Z h363 a358 .char ((laid 42 f' cx cy (pi.toInt.toNat) (qi.toInt.toNat)).map Value.int) := (by rw [laid_map]; exact N363)
          refine g_iload X363 hx (pc' := 184) rfl (hD hby at_182) rfl ?_
          refine g_iconst X363 hx (pc' := 185) (z := (1 : Int32)) rfl (hD hby at_184) rfl ?_
          refine g_icmpN X363 hx (pcN := 188) (hD hby at_185) rfl (show ¬ (kd = (1 : Int32)) from (by rw [hc98]; decide)) ?_
          refine g_iload X363 hx (pc' := 190) rfl (hD hby at_188) rfl ?_
          refine g_iconst X363 hx (pc' := 191) (z := (2 : Int32)) rfl (hD hby at_190) rfl ?_
          refine g_icmpN X363 hx (pcN := 194) (hD hby at_191) rfl (show ¬ (kd = (2 : Int32)) from (by rw [hc98]; decide)) ?_
          refine g_iload X363 hx (pc' := 196) rfl (hD hby at_194) rfl ?_
          refine g_bipush X363 hx (pc' := 198) (z := (7 : Int32)) rfl (hD hby at_196) rfl ?_
          refine g_icmpY X363 hx (pcY := 205) (hD hby at_198) (by decide) (by decide) (show ¬ kd = (7 : Int32) from (by rw [hc98]; decide)) ?_
          refine g_iconst X363 hx (pc' := 206) (z := (0 : Int32)) rfl (hD hby at_205) rfl ?_
          refine g_istore X363 hx (pc' := 208) rfl (hD hby at_206) (l' := #[.val (.int se), .val (.int bs), .val (.int pp), .val (.int xx), .val (.int qq), .val (.int yy), .val (.int f'), .val (.int cx), .val (.int cy), .val (.int kd), .val (.int 42), .val (.ref a358), .val (.int pi), .val (.int qi), .val (.int 0), .unset]) rfl ?_
          refine g_iload X363 hx (pc' := 210) rfl (hD hby at_208) rfl ?_
          refine g_ifY X363 hx (pcY := 248) (hD hby at_210) (by decide) (by decide) (show (0 : Int32) = 0 from by decide) ?_
          refine g_iconst X363 hx (pc' := 249) (z := (0 : Int32)) rfl (hD hby at_248) rfl ?_
          refine g_istore X363 hx (pc' := 251) rfl (hD hby at_249) (l' := #[.val (.int se), .val (.int bs), .val (.int pp), .val (.int xx), .val (.int qq), .val (.int yy), .val (.int f'), .val (.int cx), .val (.int cy), .val (.int kd), .val (.int 42), .val (.ref a358), .val (.int pi), .val (.int qi), .val (.int 0), .val (.int 0)]) rfl ?_
          refine g_newO X363 hx hZ hown (wat hw 9 rfl) (wat hw 10 rfl) (wat hw 11 rfl) (pc' := 254) rfl (hD hby at_251) (by decide) (by decide) (fun T366 h366 a366 ha366 X366 E366 A366 D366 => ?_)
          have ne366_a358 : a358 ≠ a366 := by rw [ha366]; exact Nat.ne_of_lt V363.lt
          have f367 := V363.ext E366
          have G_a366 : n0 ≤ a366 := by rw [ha366]; exact f364
          have Zs366 : n0 ≤ h366.size := Nat.le_trans f364 E366.1
          have f368 := f365.ext E366
          have F366_coder : SC Z h366 a366 (.int 0) := D366 (Or.inr (wat hw 35 rfl)) (ty := .byte) (by decide)
          have F366_value : SV Z h366 a366 .null := D366 (Or.inr (wat hw 37 rfl)) (ty := (.array .byte)) (by decide)
          refine g_dup X366 hx (pc' := 255) rfl (hD hby at_254) rfl ?_
          refine g_aload X366 hx (pc' := 257) rfl (hD hby at_255) rfl rfl ?_
          refine g_callI X366 hx hZ hown rfl (wat hw 12 rfl) (wat hw 13 rfl) (wat hw 11 rfl) (wat hw 14 rfl) (by decide) (a := a366) (rm3 l Z a0 hw [] n0 (Ts) a366 a358 (laid 42 f' cx cy (pi.toInt.toNat) (qi.toInt.toNat)) (42 : Int32) (84 : Int32) cz h366 Zs366 U1 U2 U3 O2 hcz f368 (by rw [laid_len]; rfl) (by rw [laid_len]; rfl) (by decide) (by rw [laid_len]; decide) (by rw [laid_len]; decide) (laid_chr b_f' b_cx b_cy) f367 A366 G_a366 F366_coder F366_value) pd_20 rfl rfl (pc' := 260) rfl (hD hby at_257) (argsL := [(.ref a358)]) (rest := [(.ref a366)]) rfl (W := 1) (fun v369 T369 h369 X369 hQ369 => ?_)
          obtain ⟨rfl, K369, SS369⟩ := hQ369
          have f370 := f368.keep K369 (allS G_a366 all0)
          have zs369 : n0 ≤ h369.size := Nat.le_trans Zs366 K369.1
          show Go p e below s n0 _ _ _ (T369.setTop (mkF m 260 _ [(.ref a366)]))
          refine g_callS X369 hx hZ hown (wat hw 38 rfl) (wat hw 39 rfl) (wat hw 40 rfl) (wat hw 41 rfl) (by decide) (rm9_s l Z a0 hw [] n0 (Ts) a366 (laid 42 f' cx cy (pi.toInt.toNat) (qi.toInt.toNat)) (42 : Int32) (84 : Int32) cz h369 zs369 O2 hcz f370 SS369 (by rw [laid_len]; rfl) (by rw [laid_len]; rfl) (by decide) (by decide)) pd_21 rfl rfl (pc' := 263) rfl (hD hby at_260) (argsL := [(.ref a366)]) (rest := []) rfl (W := 0) (fun v371 T371 h371 X371 hQ371 => ?_)
          obtain ⟨rfl, he371⟩ := hQ371
          rw [he371] at X371
          show Go p e below s n0 _ _ _ (T371.setTop (mkF m 263 _ [(.int 0)]))
          refine g_iload X371 hx (pc' := 265) rfl (hD hby at_263) rfl ?_
          refine g_icmpN X371 hx (pcN := 268) (hD hby at_265) rfl (show ¬ (¬ (0 : Int32) = (0 : Int32)) from by decide) ?_
          refine g_iconst X371 hx (pc' := 269) (z := (1 : Int32)) rfl (hD hby at_268) rfl ?_
          refine g_goto X371 hx (pc' := 273) (hD hby at_269) (by decide) (by decide) ?_
          replace X371 := X371.more (Ts' := "" :: Ts) (by simp +contextual)
          exact g_retZ X371 hx hlk hret (by first | exact Or.inl rfl | exact Or.inr rfl) (hD hby at_273) (by decide) (by decide) (Nat.le_refl _) (rfl)
      · replace hc76 : kd = (6 : Int32) := Classical.not_not.mp hc76
        refine g_iload X255 hx (pc' := 81) rfl (hD hby at_79) rfl ?_
        refine g_callS X255 hx hZ hown (wat hw 109 rfl) (wat hw 110 rfl) (wat hw 11 rfl) (wat hw 111 rfl) (by decide) (rm26 l Z a0 hw [] n0 (Ts) cx cz h0 hn0 U1 U2 U3 O2 hcz OLD b_cx) pd_22 rfl rfl (pc' := 84) rfl (hD hby at_81) (argsL := [(.int cx)]) (rest := []) rfl (W := 0) (fun v372 T372 h372 X372 hQ372 => ?_)
        obtain ⟨t372, rfl, G372, K372, SS372⟩ := hQ372
        have f373 := OLD.keep K372 all0
        have zs372 : n0 ≤ h372.size := Nat.le_trans hn0 K372.1
        show Go p e below s n0 _ _ _ (T372.setTop (mkF m 84 _ [(.ref t372)]))
        refine g_callS X372 hx hZ hown (wat hw 38 rfl) (wat hw 39 rfl) (wat hw 40 rfl) (wat hw 41 rfl) (by decide) (rm9_s l Z a0 hw [] n0 (Ts) t372 [cx] (1 : Int32) (2 : Int32) cz h372 zs372 O2 hcz f373 SS372 rfl rfl (by decide) (by decide)) pd_21 rfl rfl (pc' := 87) rfl (hD hby at_84) (argsL := [(.ref t372)]) (rest := []) rfl (W := 0) (fun v374 T374 h374 X374 hQ374 => ?_)
        obtain ⟨rfl, he374⟩ := hQ374
        rw [he374] at X374
        show Go p e below s n0 _ _ _ (T374.setTop (mkF m 87 _ [(.int 0)]))
        refine g_ifN X374 hx (pcN := 90) (hD hby at_87) rfl (show ¬ (¬ (0 : Int32) = 0) from by decide) ?_
        refine g_iconst X374 hx (pc' := 91) (z := (1 : Int32)) rfl (hD hby at_90) rfl ?_
        refine g_goto X374 hx (pc' := 95) (hD hby at_91) (by decide) (by decide) ?_
        replace X374 := X374.more (Ts' := "" :: Ts) (by simp +contextual)
        exact g_retZ X374 hx hlk hret (by first | exact Or.inl rfl | exact Or.inr rfl) (hD hby at_95) (by decide) (by decide) (Nat.le_refl _) (rfl)
    · replace hc47 : kd = (5 : Int32) := Classical.not_not.mp hc47
      refine g_newO X255 hx hZ hown (wat hw 9 rfl) (wat hw 10 rfl) (wat hw 11 rfl) (pc' := 53) rfl (hD hby at_50) (by decide) (by decide) (fun T375 h375 a375 ha375 X375 E375 A375 D375 => ?_)
      have G_a375 : n0 ≤ a375 := by rw [ha375]; exact hn0
      have Zs375 : n0 ≤ h375.size := Nat.le_trans hn0 E375.1
      have f376 := OLD.ext E375
      have F375_coder : SC Z h375 a375 (.int 0) := D375 (Or.inr (wat hw 35 rfl)) (ty := .byte) (by decide)
      have F375_value : SV Z h375 a375 .null := D375 (Or.inr (wat hw 37 rfl)) (ty := (.array .byte)) (by decide)
      refine g_dup X375 hx (pc' := 54) rfl (hD hby at_53) rfl ?_
      refine g_iconst X375 hx (pc' := 55) (z := (0 : Int32)) rfl (hD hby at_54) rfl ?_
      refine g_newA X375 hx hZ (aty := .char) (wat hw 7 rfl) (N := 0) (by decide) (cap := 0) (Nat.le_refl _) (by decide) (pc' := 57) rfl (hD hby at_55) (by decide) (by decide) (fun T377 h377 a377 ha377 X377 E377 N377 => ?_)
      have ne377_a375 : a375 ≠ a377 := by rw [ha377]; exact Nat.ne_of_lt A375.lt
      have f378 := A375.ext E377
      have f379 := F375_coder.ext E377
      have f380 := F375_value.ext E377
      have G_a377 : n0 ≤ a377 := by rw [ha377]; exact Zs375
      have Zs377 : n0 ≤ h377.size := Nat.le_trans Zs375 E377.1
      have f381 := f376.ext E377
      have V377 : AV Z h377 a377 .char [] := N377
      refine g_callI X377 hx hZ hown rfl (wat hw 12 rfl) (wat hw 13 rfl) (wat hw 11 rfl) (wat hw 14 rfl) (by decide) (a := a375) (rm3_e l Z a0 hw [] n0 (Ts) a375 a377 cz h377 Zs377 hcw hkc O2 hcz f381 hT f378 G_a375 f379 f380 V377) pd_20 rfl rfl (pc' := 60) rfl (hD hby at_57) (argsL := [(.ref a377)]) (rest := [(.ref a375)]) rfl (W := 1) (fun v382 T382 h382 X382 hQ382 => ?_)
      obtain ⟨rfl, K382, SS382⟩ := hQ382
      have f383 := f381.keep K382 (allS G_a375 all0)
      have zs382 : n0 ≤ h382.size := Nat.le_trans Zs377 K382.1
      show Go p e below s n0 _ _ _ (T382.setTop (mkF m 60 _ [(.ref a375)]))
      refine g_callS X382 hx hZ hown (wat hw 38 rfl) (wat hw 39 rfl) (wat hw 40 rfl) (wat hw 41 rfl) (by decide) (rm9_s l Z a0 hw [] n0 ("" :: Ts) a375 [] (0 : Int32) (0 : Int32) cz h382 zs382 O2 hcz f383 SS382 rfl rfl (by decide) (by decide)) pd_21 rfl rfl (pc' := 63) rfl (hD hby at_60) (argsL := [(.ref a375)]) (rest := []) rfl (W := 0) (fun v384 T384 h384 X384 hQ384 => ?_)
      obtain ⟨rfl, he384⟩ := hQ384
      rw [he384] at X384
      show Go p e below s n0 _ _ _ (T384.setTop (mkF m 63 _ [(.int 0)]))
      refine g_ifN X384 hx (pcN := 66) (hD hby at_63) rfl (show ¬ (¬ (0 : Int32) = 0) from by decide) ?_
      refine g_iconst X384 hx (pc' := 67) (z := (1 : Int32)) rfl (hD hby at_66) rfl ?_
      refine g_goto X384 hx (pc' := 71) (hD hby at_67) (by decide) (by decide) ?_
      exact g_retZ X384 hx hlk hret (by first | exact Or.inl rfl | exact Or.inr rfl) (hD hby at_71) (by decide) (by decide) (Nat.le_refl _) (rfl)
  · replace hc28 : kd = (4 : Int32) := Classical.not_not.mp hc28
    refine g_aconst_null X255 hx (pc' := 32) rfl (hD hby at_31) ?_
    refine g_callS X255 hx hZ hown (wat hw 38 rfl) (wat hw 39 rfl) (wat hw 40 rfl) (wat hw 41 rfl) (by decide) (rm9_0 l Z a0 hw [] n0 (Ts)  h0 hn0 ) pd_21 rfl rfl (pc' := 35) rfl (hD hby at_32) (argsL := [.null]) (rest := []) rfl (W := 0) (fun v385 T385 h385 X385 hQ385 => ?_)
    obtain ⟨rfl, he385⟩ := hQ385
    rw [he385] at X385
    show Go p e below s n0 _ _ _ (T385.setTop (mkF m 35 _ [(.int 0)]))
    refine g_ifN X385 hx (pcN := 38) (hD hby at_35) rfl (show ¬ (¬ (0 : Int32) = 0) from by decide) ?_
    refine g_iconst X385 hx (pc' := 39) (z := (1 : Int32)) rfl (hD hby at_38) rfl ?_
    refine g_goto X385 hx (pc' := 43) (hD hby at_39) (by decide) (by decide) ?_
    replace X385 := X385.more (Ts' := "" :: Ts) (by simp +contextual)
    exact g_retZ X385 hx hlk hret (by first | exact Or.inl rfl | exact Or.inr rfl) (hD hby at_43) (by decide) (by decide) (Nat.le_refl _) (rfl)
theorem own_nz {s : State} {args : Array Value} {T : Term} {x : Int32} (e : T.eval args s none [] s = some (.int x)) (h : (Cond.not (Cond.eq T (Term.int 0))).value args s none s [] = some true) : ¬ x = 0 := by
  have q := not_v h
  simp only [Cond.value, e, Term.eval] at q
  intro hx; subst hx; simp at q
theorem own_ev {s : State} {args : Array Value} {T : Term} {k : Int32} (h : (Cond.eq T (Term.int k)).value args s none s [] = some true) : T.eval args s none [] s = some (.int k) := Cond.eq_int (Cond.before_iff.mpr h) rfl
set_option maxRecDepth 65536 in
set_option maxHeartbeats 40000000 in
theorem comes_1 {Post : Tables → Env → Array Value → State → Outcome → State → Prop} (hpost : ∀ tb e args s v u, (limb_1_1.after args s (.returned v) u = true ∧ limb_1_2.after args s (.returned v) u = true ∧ True) → Jvm.D.FramedW s (.returned v) u (Jvm.fieldLocs frame_1_writes args s ++ Jvm.arrayLocs frame_1_arrays args s ++ Jvm.staticLocs frame_1_statics s) 24 2176 → Post tb e args s (.returned v) u) :
    ArmFor flags0 classFile x code maxLocals ret World_1 tables_1 room_1 Calls_1 rest_1 Pre_1 Post := by
  intro l hfl _ _ p e ha hc hk s m args below hf hA hF happ hP
  obtain ⟨hcalls, hrest, hpre⟩ := hP
  obtain ⟨-, -, -, hnamed, -, -, -, hat⟩ := (Spec.applies_iff hf).mp happ
  obtain ⟨hg, hn⟩ := and_e (Cond.before_iff.mp (show (Jvm.Cond.and given_1 narrow_1).before args s = true from hpre))
  obtain ⟨hcount, hg0⟩ := and_e hg
  obtain ⟨ha0, hg1⟩ := and_e hg0
  obtain ⟨ha1, hg2⟩ := and_e hg1
  obtain ⟨ha2, hg3⟩ := and_e hg2
  obtain ⟨ha3, hg4⟩ := and_e hg3
  obtain ⟨ha4, hg5⟩ := and_e hg4
  have ha5 := hg5
  obtain ⟨w0, w1, w2, w3, w4, w5, rfl⟩ : ∃ w0 w1 w2 w3 w4 w5 : Value, args = #[w0, w1, w2, w3, w4, w5] := by
    have hs : args.size = 6 := by simpa [Cond.value, given_1] using hcount
    obtain ⟨L⟩ := args
    match L, hs with
    | [w0, w1, w2, w3, w4, w5], _ => exact ⟨w0, w1, w2, w3, w4, w5, rfl⟩
  have hw := fun d (hd : d ∈ tables_1) => atoms_spec (ws := Jvm.Cond.code x code maxLocals ret :: tables_1) hat d (List.mem_cons_of_mem _ hd)
  obtain ⟨i0, ei0⟩ := is_v ha0
  obtain rfl : w0 = (.int i0) := Option.some.inj ei0
  obtain ⟨i1, ei1⟩ := is_v ha1
  obtain rfl : w1 = (.int i1) := Option.some.inj ei1
  obtain ⟨i2, ei2⟩ := is_v ha2
  obtain rfl : w2 = (.int i2) := Option.some.inj ei2
  obtain ⟨i3, ei3⟩ := is_v ha3
  obtain rfl : w3 = (.int i3) := Option.some.inj ei3
  obtain ⟨i4, ei4⟩ := is_v ha4
  obtain rfl : w4 = (.int i4) := Option.some.inj ei4
  obtain ⟨i5, ei5⟩ := is_v ha5
  obtain rfl : w5 = (.int i5) := Option.some.inj ei5
  obtain ⟨hk1, -⟩ := hcalls
  obtain ⟨hr1, hr⟩ := and_e (Cond.before_iff.mp (show rest_1_c.before _ s = true from hrest))
  obtain ⟨hr2, hr⟩ := and_e hr
  obtain ⟨hr3, hr⟩ := and_e hr
  obtain ⟨hr4, hr⟩ := and_e hr
  obtain ⟨hr5, hr⟩ := and_e hr
  obtain ⟨hr6, hr⟩ := and_e hr
  obtain ⟨hr7, hr⟩ := and_e hr
  obtain ⟨hr8, hr⟩ := and_e hr
  obtain ⟨hr9, hr⟩ := and_e hr
  obtain ⟨hr10, hr⟩ := and_e hr
  obtain ⟨hr11, hr⟩ := and_e hr
  obtain ⟨hr12, hr⟩ := and_e hr
  obtain ⟨hr13, hr⟩ := and_e hr
  obtain ⟨hr14, hr⟩ := and_e hr
  obtain ⟨hr15, hr⟩ := and_e hr
  obtain ⟨hr16, hr⟩ := and_e hr
  obtain ⟨hr17, hr⟩ := and_e hr
  obtain ⟨hr18, hr⟩ := and_e hr
  obtain ⟨hr19, hr⟩ := and_e hr
  obtain ⟨cz, ecz⟩ := is_v hr2
  have O2 := Sta.start ecz (Or.inl (Cond.before_iff.mpr hr1))
  obtain ⟨fo, efo, hfo⟩ := isR_v hr9
  have O4 := Sta.start efo (Or.inl (Cond.before_iff.mpr hr8))
  have U1 := Sta.start (own_ev hr13) (Or.inl (Cond.before_iff.mpr hr12))
  have U2 := Sta.start (own_ev hr16) (Or.inl (Cond.before_iff.mpr hr15))
  have U3 := Sta.start (own_ev hr19) (Or.inl (Cond.before_iff.mpr hr18))
  obtain ⟨n, o, h1, h2, h3, _, L, rfl, ⟨N, rfl, -⟩, hq⟩ := rm0 l s _ hw tables_1 s.heap.size [] i0 i1 i2 i3 i4 i5 cz fo s.heap (Nat.le_refl _) (Cond.before_iff.mpr hr3) hk1 O4 hfo U1 U2 U3 O2 (own_nz ecz hr3) (OldP.start s) (by decide) p e ha hc hk s m _ below hf ((Spec.applies_iff_loose hf).mp happ).1 ⟨rfl, State.Warmed39.refl s, rfl, IB.start⟩ trivial
  refine ⟨n, _, h1, h2, h3, hpost _ _ _ _ _ _ ⟨Cond.after_iff.mpr rfl, Cond.after_iff.mpr (eq_i res_at (Term.int_eval (1)) rfl), trivial⟩ ⟨hq.1, hq.2.1, hq.2.2.1, (hq.2.2.2.sift fun y hy => Or.inr (N y hy)).mono (by decide) (by decide)⟩⟩
theorem main_1_1 : Claimed_1_1 := comes_1 fun _ _ _ _ _ _ h hF => ⟨h.1, hF⟩
theorem main_1_2 : Claimed_1_2 := comes_1 fun _ _ _ _ _ _ h hF => ⟨h.2.1, hF⟩
end Jvm.Pilot.@@N@@
-- WITNESS
namespace Jvm.Pilot.@@N@@
open Jvm Jvm.ClassFile Sem Op Lib Jvm.Free Jvm.Stand Jvm.Pilot.@@N@@.Jvm.D
/-! MADE BY PROGRAM (witnessworld.py) out of the Statement's table words and the real class files: 21 classes; the members and pool entries that the words name. The judged class is class 1, her method 4. -/
namespace start1
open Jvm.ClassFile
def u (s : String) : CpInfo := .utf8 (stringToUtf16 s)
/-- a pool by its gaps: so many unusable entries, then the entry; so many at the end -/
def gap : Nat → List CpInfo → List CpInfo
  | 0, r => r
  | n + 1, r => .unusable :: gap n r
def poolList (es : List (Nat × CpInfo)) (last : Nat) : List CpInfo := es.foldr (fun e r => gap e.1 (e.2 :: r)) (gap last [])
def pool (es : List (Nat × CpInfo)) (last : Nat) : Array CpInfo := ⟨poolList es last⟩
def fileOf (pool : Array CpInfo) (this : Nat) (attrs : Array Attribute := #[]) (ms : Array MethodInfo := #[]) (fl : Nat := 33) (sup : Nat := 0) (ifs : Array Nat := #[]) (fds : Array FieldInfo := #[]) : ClassFile where
  minorVersion := 0
  majorVersion := 65
  constantPool := pool
  accessFlags := fl
  thisClass := this
  superClass := sup
  interfaces := ifs
  fields := fds
  methods := ms
  attributes := attrs
def plain (name : String) (sup : Option ClassId) : Class where
  name := name
  kind := .ordinary
  loader := none
  accessFlags := 33
  super := sup
  interfaces := #[]
  cf := none
  fields := #[]
  methods := #[]
  instanceTypes := #[]
  staticTypes := #[]
  resolved := #[]
  callSites := []
  init := .initialized
  statics := none
  mirror := none

def pool0 : Array CpInfo := pool [(5, u "<init>"), (0, u "()V"), (1, .class_ 10), (1, u "java/lang/Object")] 113

def k0c0 : Code := { maxStack := 0, maxLocals := 1, code := object_method_1_code, exceptionTable := #[], attributes := #[] }
def k0m0 : Method := { name := "<init>", desc := "()V", sig := { parameters := [], returnType := none }, accessFlags := 1, code := some k0c0 }
/-- java/lang/Object -/
def k0 : Class := { plain "java/lang/Object" none with
  accessFlags := 33
  interfaces := #[]
  cf := some (fileOf pool0 8 #[] #[{ accessFlags := 1, nameIndex := 5, descriptorIndex := 6, attributes := #[] }] 33 0 #[] #[])
  fields := #[]
  methods := #[k0m0]
  instanceTypes := #[]
  staticTypes := #[]
  resolved := Array.replicate 124 none
  statics := none }

def pool1 : Array CpInfo := pool [(2, .class_ 4), (1, u "java/lang/Object"), (0, u "<init>"), (0, u "()V"), (0, .long 288054454291267584), (1, .long 5188146764422578174), (1, .methodref 12 13), (0, .class_ 14), (0, .nameAndType 15 16), (0, u "com/example/grantor/grantor/core/CodeChallengeIsWellFormedVerifierPinLaw"), (0, u "draw"), (0, u "(I)C"), (0, .methodref 18 19), (0, .class_ 20), (0, .nameAndType 21 22), (0, u "com/example/grantor/grantor/core/CodeChallenge"), (0, u "isWellFormedVerifier"), (0, u "(Ljava/lang/String;)Z"), (0, .class_ 24), (0, u "java/lang/String"), (0, .methodref 23 26), (0, .nameAndType 5 27), (0, u "([C)V"), (0, .methodref 23 29), (0, .nameAndType 30 31), (0, u "valueOf"), (0, u "(C)Ljava/lang/String;"), (0, .methodref 12 33), (0, .nameAndType 34 35), (0, u "filled"), (0, u "(IC)[C"), (0, .integer 2147483647), (0, .methodref 12 38), (0, .nameAndType 39 40), (0, u "unreserved"), (0, u "(C)Z"), (3, u "law"), (0, u "(IIIIII)Z")] 4

def k1m0 : Method := { name := "<init>", desc := "()V", sig := { parameters := [], returnType := none }, accessFlags := 2, code := none }
def k1c1 : Code := { maxStack := 4, maxLocals := 5, code := method_2_code, exceptionTable := #[], attributes := #[] }
def k1m1 : Method := { name := "unreserved", desc := "(C)Z", sig := { parameters := [.char], returnType := some .boolean }, accessFlags := 10, code := some k1c1 }
def k1c2 : Code := { maxStack := 2, maxLocals := 1, code := method_3_code, exceptionTable := #[], attributes := #[] }
def k1m2 : Method := { name := "draw", desc := "(I)C", sig := { parameters := [.int], returnType := some .char }, accessFlags := 10, code := some k1c2 }
def k1c3 : Code := { maxStack := 4, maxLocals := 2, code := method_4_code, exceptionTable := #[], attributes := #[] }
def k1m3 : Method := { name := "filled", desc := "(IC)[C", sig := { parameters := [.int, .char], returnType := some (.array .char) }, accessFlags := 10, code := some k1c3 }
def k1c4 : Code := { maxStack := 3, maxLocals := 16, code := code, exceptionTable := #[], attributes := #[] }
def k1m4 : Method := { name := "law", desc := "(IIIIII)Z", sig := { parameters := [.int, .int, .int, .int, .int, .int], returnType := some .boolean }, accessFlags := 9, code := some k1c4 }
/-- com/example/grantor/grantor/core/CodeChallengeIsWellFormedVerifierPinLaw -/
def k1 : Class := { plain "com/example/grantor/grantor/core/CodeChallengeIsWellFormedVerifierPinLaw" (some 0) with
  accessFlags := 49
  interfaces := #[]
  cf := some (fileOf pool1 12 #[] #[{ accessFlags := 2, nameIndex := 5, descriptorIndex := 6, attributes := #[] }, { accessFlags := 10, nameIndex := 39, descriptorIndex := 40, attributes := #[] }, { accessFlags := 10, nameIndex := 15, descriptorIndex := 16, attributes := #[] }, { accessFlags := 10, nameIndex := 34, descriptorIndex := 35, attributes := #[] }, { accessFlags := 9, nameIndex := 44, descriptorIndex := 45, attributes := #[] }] 49 2 #[] #[])
  fields := #[]
  methods := #[k1m0, k1m1, k1m2, k1m3, k1m4]
  instanceTypes := #[]
  staticTypes := #[]
  resolved := Array.replicate 50 none
  statics := none }

def pool2 : Array CpInfo := pool [(1, .class_ 2), (0, u "java/io/Serializable"), (0, .class_ 4), (0, u "java/lang/Object")] 2

/-- java/io/Serializable -/
def k2 : Class := { plain "java/io/Serializable" (some 0) with
  accessFlags := 1537
  interfaces := #[]
  cf := some (fileOf pool2 1 #[] #[] 1537 3 #[] #[])
  fields := #[]
  methods := #[]
  instanceTypes := #[]
  staticTypes := #[]
  resolved := Array.replicate 7 none
  statics := none }

def pool3 : Array CpInfo := pool [(1, .class_ 2), (0, u "java/lang/Comparable"), (0, .class_ 4), (0, u "java/lang/Object")] 7

/-- java/lang/Comparable -/
def k3 : Class := { plain "java/lang/Comparable" (some 0) with
  accessFlags := 1537
  interfaces := #[]
  cf := some (fileOf pool3 1 #[] #[] 1537 3 #[] #[])
  fields := #[]
  methods := #[]
  instanceTypes := #[]
  staticTypes := #[]
  resolved := Array.replicate 12 none
  statics := none }

def pool4 : Array CpInfo := pool [(2, .class_ 4), (1, u "java/lang/CharSequence"), (42, .class_ 48), (0, u "java/lang/CharSequence$1CodePointIterator"), (10, .class_ 60), (0, u "java/lang/CharSequence$1CharIterator"), (5, .class_ 67), (0, u "java/lang/Object")] 63

/-- java/lang/CharSequence -/
def k4 : Class := { plain "java/lang/CharSequence" (some 0) with
  accessFlags := 1537
  interfaces := #[]
  cf := some (fileOf pool4 2 #[.nestMembers #[47, 59]] #[] 1537 66 #[] #[])
  fields := #[]
  methods := #[]
  instanceTypes := #[]
  staticTypes := #[]
  resolved := Array.replicate 131 none
  statics := none }

def pool5 : Array CpInfo := pool [(1, .class_ 2), (0, u "java/lang/constant/Constable"), (0, .class_ 4), (0, u "java/lang/Object")] 6

/-- java/lang/constant/Constable -/
def k5 : Class := { plain "java/lang/constant/Constable" (some 0) with
  accessFlags := 1537
  interfaces := #[]
  cf := some (fileOf pool5 1 #[] #[] 1537 3 #[] #[])
  fields := #[]
  methods := #[]
  instanceTypes := #[]
  staticTypes := #[]
  resolved := Array.replicate 11 none
  statics := none }

def pool6 : Array CpInfo := pool [(1, .class_ 2), (0, u "java/lang/constant/ConstantDesc"), (0, .class_ 4), (0, u "java/lang/Object")] 32

/-- java/lang/constant/ConstantDesc -/
def k6 : Class := { plain "java/lang/constant/ConstantDesc" (some 0) with
  accessFlags := 1537
  interfaces := #[]
  cf := some (fileOf pool6 1 #[] #[] 1537 3 #[] #[])
  fields := #[]
  methods := #[]
  instanceTypes := #[]
  staticTypes := #[]
  resolved := Array.replicate 37 none
  statics := none }

def pool7 : Array CpInfo := pool [(1, .methodref 2 3), (0, .class_ 4), (0, .nameAndType 5 6), (0, u "java/lang/Object"), (0, u "<init>"), (0, u "()V"), (0, .string 8), (0, u ""), (0, .fieldref 10 11), (0, .class_ 12), (0, .nameAndType 13 14), (0, u "java/lang/String"), (0, u "value"), (0, u "[B"), (0, .fieldref 10 16), (0, .nameAndType 17 18), (0, u "coder"), (0, u "B"), (2, u "hash"), (0, u "I"), (2, u "hashIsZero"), (0, u "Z"), (0, .methodref 10 28), (0, .nameAndType 5 29), (0, u "([CIILjava/lang/Void;)V"), (8, .fieldref 10 39), (0, .nameAndType 40 26), (0, u "COMPACT_STRINGS"), (1, .class_ 44), (1, u "java/lang/StringUTF16"), (0, u "compress"), (1, .methodref 42 48), (0, .nameAndType 49 50), (0, u "coderFromArrayLen"), (0, u "([BI)B"), (2, u "toBytes"), (53, .class_ 109), (1, u "java/lang/StringLatin1"), (32, u "()Z"), (34, .methodref 42 178), (0, .nameAndType 45 179), (0, u "([CII)[B"), (29, .methodref 10 210), (0, .nameAndType 5 211), (0, u "([BB)V"), (122, u "()I"), (0, .methodref 10 336), (0, .nameAndType 17 337), (0, u "()B"), (25, u "([BI)C"), (5, u "(C)Z"), (21, u "(II)V"), (35, u "(I)C"), (64, .methodref 10 493), (0, .nameAndType 494 142), (0, u "isLatin1"), (0, .methodref 107 496), (0, .nameAndType 497 363), (0, u "charAt"), (0, .methodref 42 496), (2, u "checkIndex"), (5, u "length"), (67, .class_ 576), (0, u "java/lang/CharSequence"), (22, u "CASE_INSENSITIVE_ORDER"), (0, u "Ljava/util/Comparator;"), (181, u "valueOf"), (0, u "(C)Ljava/lang/String;"), (226, u "([C)V"), (4, .methodref 107 1016), (0, .nameAndType 1017 369), (0, u "canEncode"), (0, .methodref 107 1019), (0, .nameAndType 53 1020), (0, u "(C)[B"), (0, .methodref 42 1019), (31, .fieldref 1054 1055), (0, .class_ 1056), (0, .nameAndType 1057 1058), (0, u "jdk/internal/util/Preconditions"), (0, u "SIOOBE_FORMATTER"), (0, u "Ljava/util/function/BiFunction;"), (0, .methodref 1054 1060), (0, .nameAndType 501 1061), (0, u "(IILjava/util/function/BiFunction;)I"), (39, u "serialPersistentFields"), (0, u "[Ljava/io/ObjectStreamField;"), (0, .class_ 1104), (0, u "java/lang/String$CaseInsensitiveComparator"), (1, .class_ 1107), (0, u "java/io/Serializable"), (0, .class_ 1109), (0, u "java/lang/Comparable"), (0, .class_ 1111), (0, u "java/lang/constant/Constable"), (0, .class_ 1113), (0, u "java/lang/constant/ConstantDesc"), (2, u "serialVersionUID"), (0, u "J"), (3, u "REPL"), (0, u "C"), (2, u "LATIN1"), (1, u "UTF16")] 323

def k7m0 : Method := { name := "<init>", desc := "()V", sig := { parameters := [], returnType := none }, accessFlags := 1, code := none }
def k7c1 : Code := { maxStack := 5, maxLocals := 2, code := jdk_42_method_3_code, exceptionTable := #[], attributes := #[] }
def k7m1 : Method := { name := "<init>", desc := "([C)V", sig := { parameters := [(.array .char)], returnType := none }, accessFlags := 1, code := some k7c1 }
def k7c2 : Code := { maxStack := 2, maxLocals := 1, code := jdk_42_method_54_code, exceptionTable := #[], attributes := #[] }
def k7m2 : Method := { name := "length", desc := "()I", sig := { parameters := [], returnType := some .int }, accessFlags := 1, code := some k7c2 }
def k7c3 : Code := { maxStack := 2, maxLocals := 2, code := jdk_42_method_56_code, exceptionTable := #[], attributes := #[] }
def k7m3 : Method := { name := "charAt", desc := "(I)C", sig := { parameters := [.int], returnType := some .char }, accessFlags := 1, code := some k7c3 }
def k7c4 : Code := { maxStack := 4, maxLocals := 1, code := jdk_42_method_139_code, exceptionTable := #[], attributes := #[] }
def k7m4 : Method := { name := "valueOf", desc := "(C)Ljava/lang/String;", sig := { parameters := [.char], returnType := some (.object "java/lang/String") }, accessFlags := 9, code := some k7c4 }
def k7c5 : Code := { maxStack := 4, maxLocals := 6, code := jdk_42_method_149_code, exceptionTable := #[], attributes := #[] }
def k7m5 : Method := { name := "<init>", desc := "([CIILjava/lang/Void;)V", sig := { parameters := [(.array .char), .int, .int, (.object "java/lang/Void")], returnType := none }, accessFlags := 2, code := some k7c5 }
def k7c6 : Code := { maxStack := 2, maxLocals := 3, code := jdk_42_method_151_code, exceptionTable := #[], attributes := #[] }
def k7m6 : Method := { name := "<init>", desc := "([BB)V", sig := { parameters := [(.array .byte), .byte], returnType := none }, accessFlags := 0, code := some k7c6 }
def k7c7 : Code := { maxStack := 1, maxLocals := 1, code := jdk_42_method_152_code, exceptionTable := #[], attributes := #[] }
def k7m7 : Method := { name := "coder", desc := "()B", sig := { parameters := [], returnType := some .byte }, accessFlags := 0, code := some k7c7 }
def k7c8 : Code := { maxStack := 1, maxLocals := 1, code := jdk_42_method_154_code, exceptionTable := #[], attributes := #[] }
def k7m8 : Method := { name := "isLatin1", desc := "()Z", sig := { parameters := [], returnType := some .boolean }, accessFlags := 0, code := some k7c8 }
def k7c9 : Code := { maxStack := 3, maxLocals := 2, code := jdk_42_method_155_code, exceptionTable := #[], attributes := #[] }
def k7m9 : Method := { name := "checkIndex", desc := "(II)V", sig := { parameters := [.int, .int], returnType := none }, accessFlags := 8, code := some k7c9 }
/-- java/lang/String -/
def k7 : Class := { plain "java/lang/String" (some 0) with
  accessFlags := 49
  interfaces := #[2, 3, 4, 5, 6]
  cf := some (fileOf pool7 10 #[.nestMembers #[1103]] #[{ accessFlags := 1, nameIndex := 5, descriptorIndex := 6, attributes := #[] }, { accessFlags := 1, nameIndex := 5, descriptorIndex := 1010, attributes := #[] }, { accessFlags := 1, nameIndex := 507, descriptorIndex := 334, attributes := #[] }, { accessFlags := 1, nameIndex := 497, descriptorIndex := 427, attributes := #[] }, { accessFlags := 9, nameIndex := 782, descriptorIndex := 783, attributes := #[] }, { accessFlags := 2, nameIndex := 5, descriptorIndex := 29, attributes := #[] }, { accessFlags := 0, nameIndex := 5, descriptorIndex := 211, attributes := #[] }, { accessFlags := 0, nameIndex := 17, descriptorIndex := 337, attributes := #[] }, { accessFlags := 0, nameIndex := 494, descriptorIndex := 142, attributes := #[] }, { accessFlags := 8, nameIndex := 501, descriptorIndex := 391, attributes := #[] }] 49 2 #[1106, 1108, 575, 1110, 1112] #[{ accessFlags := 18, nameIndex := 13, descriptorIndex := 14, attributes := #[] }, { accessFlags := 18, nameIndex := 17, descriptorIndex := 18, attributes := #[] }, { accessFlags := 2, nameIndex := 21, descriptorIndex := 22, attributes := #[] }, { accessFlags := 2, nameIndex := 25, descriptorIndex := 26, attributes := #[] }, { accessFlags := 26, nameIndex := 1116, descriptorIndex := 1117, attributes := #[] }, { accessFlags := 24, nameIndex := 40, descriptorIndex := 26, attributes := #[] }, { accessFlags := 26, nameIndex := 1101, descriptorIndex := 1102, attributes := #[] }, { accessFlags := 26, nameIndex := 1121, descriptorIndex := 1122, attributes := #[] }, { accessFlags := 25, nameIndex := 599, descriptorIndex := 600, attributes := #[] }, { accessFlags := 24, nameIndex := 1125, descriptorIndex := 18, attributes := #[] }, { accessFlags := 24, nameIndex := 1127, descriptorIndex := 18, attributes := #[] }])
  fields := #[{ name := "value", type := (.array .byte), accessFlags := 18, slot := 0, constantValue := 0 }, { name := "coder", type := .byte, accessFlags := 18, slot := 1, constantValue := 0 }, { name := "hash", type := .int, accessFlags := 2, slot := 2, constantValue := 0 }, { name := "hashIsZero", type := .boolean, accessFlags := 2, slot := 3, constantValue := 0 }, { name := "serialVersionUID", type := .long, accessFlags := 26, slot := 0, constantValue := 0 }, { name := "COMPACT_STRINGS", type := .boolean, accessFlags := 24, slot := 1, constantValue := 0 }, { name := "serialPersistentFields", type := (.array (.object "java/io/ObjectStreamField")), accessFlags := 26, slot := 2, constantValue := 0 }, { name := "REPL", type := .char, accessFlags := 26, slot := 3, constantValue := 0 }, { name := "CASE_INSENSITIVE_ORDER", type := (.object "java/util/Comparator"), accessFlags := 25, slot := 4, constantValue := 0 }, { name := "LATIN1", type := .byte, accessFlags := 24, slot := 5, constantValue := 0 }, { name := "UTF16", type := .byte, accessFlags := 24, slot := 6, constantValue := 0 }]
  methods := #[k7m0, k7m1, k7m2, k7m3, k7m4, k7m5, k7m6, k7m7, k7m8, k7m9]
  instanceTypes := #[(.array .byte), .byte, .int, .boolean]
  staticTypes := #[.long, .boolean, (.array (.object "java/io/ObjectStreamField")), .char, (.object "java/util/Comparator"), .byte, .byte]
  resolved := Array.replicate 1451 none
  statics := some 0 }

def pool8 : Array CpInfo := pool [(3, .class_ 4), (0, u "java/lang/String"), (1, .class_ 8), (1, u "java/lang/Object"), (0, u "<init>"), (0, u "()V"), (0, .methodref 12 13), (0, .class_ 14), (0, .nameAndType 15 16), (0, u "java/lang/StringUTF16"), (0, u "newBytesLength"), (0, u "(I)I"), (3, .integer 1073741823), (23, .fieldref 12 45), (0, .nameAndType 46 47), (0, u "$assertionsDisabled"), (0, u "Z"), (0, .methodref 12 49), (0, .nameAndType 50 51), (0, u "length"), (0, u "([B)I"), (7, .fieldref 12 60), (0, .nameAndType 61 62), (0, u "HI_BYTE_SHIFT"), (0, u "I"), (0, .fieldref 12 64), (0, .nameAndType 65 62), (0, u "LO_BYTE_SHIFT"), (1, .methodref 12 68), (0, .nameAndType 69 70), (0, u "checkIndex"), (0, u "(I[B)V"), (0, .methodref 12 72), (0, .nameAndType 73 74), (0, u "getChar"), (0, u "([BI)C"), (32, .methodref 12 108), (0, .nameAndType 109 110), (0, u "newBytesFor"), (0, u "(I)[B"), (0, .methodref 12 112), (0, .nameAndType 113 114), (0, u "putChar"), (0, u "([BII)V"), (0, .methodref 12 116), (0, .nameAndType 117 118), (0, u "compress"), (0, u "([CI[BII)I"), (0, .methodref 12 120), (0, .nameAndType 121 122), (0, u "toBytes"), (0, u "([CII)[B"), (138, u "coderFromArrayLen"), (0, u "([BI)B"), (106, .class_ 371), (1, u "java/lang/StringUTF16$LinesSpliterator"), (20, u "charAt"), (21, .methodref 3 415), (0, .nameAndType 69 416), (0, u "(II)V"), (13, u "MAX_LENGTH"), (44, u "(C)[B"), (151, .class_ 628), (0, u "java/lang/StringUTF16$CodePointsSpliterator"), (0, .class_ 630), (0, u "java/lang/StringUTF16$CharsSpliterator")] 4

def k8m0 : Method := { name := "<init>", desc := "()V", sig := { parameters := [], returnType := none }, accessFlags := 0, code := none }
def k8c1 : Code := { maxStack := 1, maxLocals := 1, code := jdk_52_method_2_code, exceptionTable := #[], attributes := #[] }
def k8m1 : Method := { name := "newBytesFor", desc := "(I)[B", sig := { parameters := [.int], returnType := some (.array .byte) }, accessFlags := 9, code := some k8c1 }
def k8c2 : Code := { maxStack := 4, maxLocals := 1, code := jdk_52_method_3_code, exceptionTable := #[], attributes := #[] }
def k8m2 : Method := { name := "newBytesLength", desc := "(I)I", sig := { parameters := [.int], returnType := some .int }, accessFlags := 9, code := some k8c2 }
def k8c3 : Code := { maxStack := 4, maxLocals := 3, code := jdk_52_method_4_code, exceptionTable := #[], attributes := #[] }
def k8m3 : Method := { name := "putChar", desc := "([BII)V", sig := { parameters := [(.array .byte), .int, .int], returnType := none }, accessFlags := 8, code := some k8c3 }
def k8c4 : Code := { maxStack := 3, maxLocals := 2, code := jdk_52_method_5_code, exceptionTable := #[], attributes := #[] }
def k8m4 : Method := { name := "getChar", desc := "([BI)C", sig := { parameters := [(.array .byte), .int], returnType := some .char }, accessFlags := 8, code := some k8c4 }
def k8c5 : Code := { maxStack := 2, maxLocals := 1, code := jdk_52_method_6_code, exceptionTable := #[], attributes := #[] }
def k8m5 : Method := { name := "length", desc := "([B)I", sig := { parameters := [(.array .byte)], returnType := some .int }, accessFlags := 9, code := some k8c5 }
def k8c6 : Code := { maxStack := 4, maxLocals := 5, code := jdk_52_method_14_code, exceptionTable := #[], attributes := #[] }
def k8m6 : Method := { name := "toBytes", desc := "([CII)[B", sig := { parameters := [(.array .char), .int, .int], returnType := some (.array .byte) }, accessFlags := 9, code := some k8c6 }
def k8c7 : Code := { maxStack := 2, maxLocals := 2, code := jdk_52_method_15_code, exceptionTable := #[], attributes := #[] }
def k8m7 : Method := { name := "coderFromArrayLen", desc := "([BI)B", sig := { parameters := [(.array .byte), .int], returnType := some .byte }, accessFlags := 8, code := some k8c7 }
def k8c8 : Code := { maxStack := 5, maxLocals := 6, code := jdk_52_method_16_code, exceptionTable := #[], attributes := #[] }
def k8m8 : Method := { name := "compress", desc := "([CII)[B", sig := { parameters := [(.array .char), .int, .int], returnType := some (.array .byte) }, accessFlags := 9, code := some k8c8 }
def k8c9 : Code := { maxStack := 3, maxLocals := 7, code := jdk_52_method_21_code, exceptionTable := #[], attributes := #[] }
def k8m9 : Method := { name := "compress", desc := "([CI[BII)I", sig := { parameters := [(.array .char), .int, (.array .byte), .int, .int], returnType := some .int }, accessFlags := 9, code := some k8c9 }
def k8c10 : Code := { maxStack := 3, maxLocals := 2, code := jdk_52_method_24_code, exceptionTable := #[], attributes := #[] }
def k8m10 : Method := { name := "toBytes", desc := "(C)[B", sig := { parameters := [.char], returnType := some (.array .byte) }, accessFlags := 9, code := some k8c10 }
def k8c11 : Code := { maxStack := 2, maxLocals := 2, code := jdk_52_method_83_code, exceptionTable := #[], attributes := #[] }
def k8m11 : Method := { name := "charAt", desc := "([BI)C", sig := { parameters := [(.array .byte), .int], returnType := some .char }, accessFlags := 9, code := some k8c11 }
def k8c12 : Code := { maxStack := 2, maxLocals := 2, code := jdk_52_method_91_code, exceptionTable := #[], attributes := #[] }
def k8m12 : Method := { name := "checkIndex", desc := "(I[B)V", sig := { parameters := [.int, (.array .byte)], returnType := none }, accessFlags := 9, code := some k8c12 }
/-- java/lang/StringUTF16 -/
def k8 : Class := { plain "java/lang/StringUTF16" (some 0) with
  accessFlags := 48
  interfaces := #[]
  cf := some (fileOf pool8 12 #[.nestMembers #[627, 629, 369]] #[{ accessFlags := 0, nameIndex := 9, descriptorIndex := 10, attributes := #[] }, { accessFlags := 9, nameIndex := 109, descriptorIndex := 110, attributes := #[] }, { accessFlags := 9, nameIndex := 15, descriptorIndex := 16, attributes := #[] }, { accessFlags := 8, nameIndex := 113, descriptorIndex := 114, attributes := #[] }, { accessFlags := 8, nameIndex := 73, descriptorIndex := 74, attributes := #[] }, { accessFlags := 9, nameIndex := 50, descriptorIndex := 51, attributes := #[] }, { accessFlags := 9, nameIndex := 121, descriptorIndex := 122, attributes := #[] }, { accessFlags := 8, nameIndex := 261, descriptorIndex := 262, attributes := #[] }, { accessFlags := 9, nameIndex := 117, descriptorIndex := 122, attributes := #[] }, { accessFlags := 9, nameIndex := 117, descriptorIndex := 118, attributes := #[] }, { accessFlags := 9, nameIndex := 121, descriptorIndex := 475, attributes := #[] }, { accessFlags := 9, nameIndex := 392, descriptorIndex := 74, attributes := #[] }, { accessFlags := 9, nameIndex := 69, descriptorIndex := 70, attributes := #[] }] 48 6 #[] #[{ accessFlags := 26, nameIndex := 61, descriptorIndex := 62, attributes := #[] }, { accessFlags := 26, nameIndex := 65, descriptorIndex := 62, attributes := #[] }, { accessFlags := 24, nameIndex := 430, descriptorIndex := 62, attributes := #[] }, { accessFlags := 4120, nameIndex := 46, descriptorIndex := 47, attributes := #[] }])
  fields := #[{ name := "HI_BYTE_SHIFT", type := .int, accessFlags := 26, slot := 0, constantValue := 0 }, { name := "LO_BYTE_SHIFT", type := .int, accessFlags := 26, slot := 1, constantValue := 0 }, { name := "MAX_LENGTH", type := .int, accessFlags := 24, slot := 2, constantValue := 0 }, { name := "$assertionsDisabled", type := .boolean, accessFlags := 4120, slot := 3, constantValue := 0 }]
  methods := #[k8m0, k8m1, k8m2, k8m3, k8m4, k8m5, k8m6, k8m7, k8m8, k8m9, k8m10, k8m11, k8m12]
  instanceTypes := #[]
  staticTypes := #[.int, .int, .int, .boolean]
  resolved := Array.replicate 635 none
  statics := some 1 }

def pool9 : Array CpInfo := pool [(2, .class_ 4), (1, u "java/lang/Object"), (0, u "<init>"), (0, u "()V"), (0, .class_ 8), (0, u "java/lang/Record")] 13

def k9m0 : Method := { name := "<init>", desc := "()V", sig := { parameters := [], returnType := none }, accessFlags := 4, code := none }
/-- java/lang/Record -/
def k9 : Class := { plain "java/lang/Record" (some 0) with
  accessFlags := 1057
  interfaces := #[]
  cf := some (fileOf pool9 7 #[] #[{ accessFlags := 4, nameIndex := 5, descriptorIndex := 6, attributes := #[] }] 1057 2 #[] #[])
  fields := #[]
  methods := #[k9m0]
  instanceTypes := #[]
  staticTypes := #[]
  resolved := Array.replicate 22 none
  statics := none }

def pool10 : Array CpInfo := pool [(2, .class_ 4), (1, u "java/lang/Record"), (2, .methodref 8 9), (0, .class_ 10), (0, .nameAndType 11 12), (0, u "java/lang/String"), (0, u "length"), (0, u "()I"), (0, .class_ 14), (0, u "com/example/grantor/grantor/core/CodeChallenge"), (3, u "(Ljava/lang/String;)Z"), (9, u "value"), (0, u "Ljava/lang/String;"), (5, .methodref 8 36), (0, .nameAndType 37 38), (0, u "charAt"), (0, u "(I)C"), (0, .methodref 13 40), (0, .nameAndType 41 42), (0, u "isAlphanumeric"), (0, u "(C)Z"), (18, u "isWellFormedVerifier"), (10, u "ENCODER"), (0, u "Ljava/util/Base64$Encoder;"), (8, u "DECODER"), (0, u "Ljava/util/Base64$Decoder;"), (34, u "METHOD"), (3, u "CHALLENGE_LENGTH"), (0, u "I"), (1, u "VERIFIER_MIN_LENGTH"), (0, u "VERIFIER_MAX_LENGTH")] 31

def k10c0 : Code := { maxStack := 2, maxLocals := 3, code := prog_9_method_3_code, exceptionTable := #[], attributes := #[] }
def k10m0 : Method := { name := "isWellFormedVerifier", desc := "(Ljava/lang/String;)Z", sig := { parameters := [(.object "java/lang/String")], returnType := some .boolean }, accessFlags := 9, code := some k10c0 }
def k10c1 : Code := { maxStack := 2, maxLocals := 1, code := prog_9_method_7_code, exceptionTable := #[], attributes := #[] }
def k10m1 : Method := { name := "isAlphanumeric", desc := "(C)Z", sig := { parameters := [.char], returnType := some .boolean }, accessFlags := 10, code := some k10c1 }
/-- com/example/grantor/grantor/core/CodeChallenge -/
def k10 : Class := { plain "com/example/grantor/grantor/core/CodeChallenge" (some 9) with
  accessFlags := 49
  interfaces := #[]
  cf := some (fileOf pool10 13 #[] #[{ accessFlags := 9, nameIndex := 61, descriptorIndex := 18, attributes := #[] }, { accessFlags := 10, nameIndex := 41, descriptorIndex := 42, attributes := #[] }] 49 2 #[] #[{ accessFlags := 18, nameIndex := 28, descriptorIndex := 29, attributes := #[] }, { accessFlags := 25, nameIndex := 118, descriptorIndex := 29, attributes := #[] }, { accessFlags := 26, nameIndex := 122, descriptorIndex := 123, attributes := #[] }, { accessFlags := 26, nameIndex := 125, descriptorIndex := 123, attributes := #[] }, { accessFlags := 26, nameIndex := 126, descriptorIndex := 123, attributes := #[] }, { accessFlags := 26, nameIndex := 72, descriptorIndex := 73, attributes := #[] }, { accessFlags := 26, nameIndex := 82, descriptorIndex := 83, attributes := #[] }])
  fields := #[{ name := "value", type := (.object "java/lang/String"), accessFlags := 18, slot := 0, constantValue := 0 }, { name := "METHOD", type := (.object "java/lang/String"), accessFlags := 25, slot := 0, constantValue := 0 }, { name := "CHALLENGE_LENGTH", type := .int, accessFlags := 26, slot := 1, constantValue := 0 }, { name := "VERIFIER_MIN_LENGTH", type := .int, accessFlags := 26, slot := 2, constantValue := 0 }, { name := "VERIFIER_MAX_LENGTH", type := .int, accessFlags := 26, slot := 3, constantValue := 0 }, { name := "ENCODER", type := (.object "java/util/Base64$Encoder"), accessFlags := 26, slot := 4, constantValue := 0 }, { name := "DECODER", type := (.object "java/util/Base64$Decoder"), accessFlags := 26, slot := 5, constantValue := 0 }]
  methods := #[k10m0, k10m1]
  instanceTypes := #[(.object "java/lang/String")]
  staticTypes := #[(.object "java/lang/String"), .int, .int, .int, (.object "java/util/Base64$Encoder"), (.object "java/util/Base64$Decoder")]
  resolved := Array.replicate 158 none
  statics := none }

def pool11 : Array CpInfo := pool [(2, .class_ 4), (1, u "java/lang/Object"), (0, u "<init>"), (0, u "()V"), (17, .class_ 26), (1, u "jdk/internal/util/Preconditions"), (6, u "checkIndex"), (21, .class_ 56), (0, u "jdk/internal/util/Preconditions$4"), (57, .class_ 115), (0, u "jdk/internal/util/Preconditions$1"), (7, u "SIOOBE_FORMATTER"), (0, u "Ljava/util/function/BiFunction;"), (0, .class_ 126), (0, u "jdk/internal/util/Preconditions$2"), (3, u "AIOOBE_FORMATTER"), (0, .class_ 132), (0, u "jdk/internal/util/Preconditions$3"), (3, u "IOOBE_FORMATTER"), (41, u "(IILjava/util/function/BiFunction;)I")] 15

def k11m0 : Method := { name := "<init>", desc := "()V", sig := { parameters := [], returnType := none }, accessFlags := 1, code := none }
def k11c1 : Code := { maxStack := 3, maxLocals := 3, code := jdk_41_method_11_code, exceptionTable := #[], attributes := #[] }
def k11m1 : Method := { name := "checkIndex", desc := "(IILjava/util/function/BiFunction;)I", sig := { parameters := [.int, .int, (.object "java/util/function/BiFunction")], returnType := some .int }, accessFlags := 9, code := some k11c1 }
/-- jdk/internal/util/Preconditions -/
def k11 : Class := { plain "jdk/internal/util/Preconditions" (some 0) with
  accessFlags := 33
  interfaces := #[]
  cf := some (fileOf pool11 24 #[.nestMembers #[55, 131, 125, 114]] #[{ accessFlags := 1, nameIndex := 5, descriptorIndex := 6, attributes := #[] }, { accessFlags := 9, nameIndex := 33, descriptorIndex := 178, attributes := #[] }] 33 2 #[] #[{ accessFlags := 25, nameIndex := 123, descriptorIndex := 124, attributes := #[] }, { accessFlags := 25, nameIndex := 130, descriptorIndex := 124, attributes := #[] }, { accessFlags := 25, nameIndex := 136, descriptorIndex := 124, attributes := #[] }])
  fields := #[{ name := "SIOOBE_FORMATTER", type := (.object "java/util/function/BiFunction"), accessFlags := 25, slot := 0, constantValue := 0 }, { name := "AIOOBE_FORMATTER", type := (.object "java/util/function/BiFunction"), accessFlags := 25, slot := 1, constantValue := 0 }, { name := "IOOBE_FORMATTER", type := (.object "java/util/function/BiFunction"), accessFlags := 25, slot := 2, constantValue := 0 }]
  methods := #[k11m0, k11m1]
  instanceTypes := #[]
  staticTypes := #[(.object "java/util/function/BiFunction"), (.object "java/util/function/BiFunction"), (.object "java/util/function/BiFunction")]
  resolved := Array.replicate 194 none
  statics := some 2 }

def pool12 : Array CpInfo := pool [(1, .class_ 2), (0, u "java/lang/String"), (1, .class_ 6), (1, u "java/lang/Object"), (0, u "<init>"), (0, u "()V"), (0, .methodref 1 10), (0, .nameAndType 11 12), (0, u "checkIndex"), (0, u "(II)V"), (1, .class_ 16), (1, u "java/lang/StringLatin1"), (36, u "([BI)C"), (36, u "canEncode"), (14, u "(C)Z"), (15, u "$assertionsDisabled"), (0, u "Z"), (98, .class_ 223), (1, u "java/lang/StringLatin1$LinesSpliterator"), (28, u "charAt"), (127, u "toBytes"), (1, u "(C)[B"), (7, .class_ 391), (0, u "java/lang/StringLatin1$CharsSpliterator")] 3

def k12m0 : Method := { name := "<init>", desc := "()V", sig := { parameters := [], returnType := none }, accessFlags := 0, code := none }
def k12c1 : Code := { maxStack := 2, maxLocals := 2, code := jdk_43_method_2_code, exceptionTable := #[], attributes := #[] }
def k12m1 : Method := { name := "charAt", desc := "([BI)C", sig := { parameters := [(.array .byte), .int], returnType := some .char }, accessFlags := 9, code := some k12c1 }
def k12c2 : Code := { maxStack := 2, maxLocals := 1, code := jdk_43_method_3_code, exceptionTable := #[], attributes := #[] }
def k12m2 : Method := { name := "canEncode", desc := "(C)Z", sig := { parameters := [.char], returnType := some .boolean }, accessFlags := 9, code := some k12c2 }
def k12c3 : Code := { maxStack := 4, maxLocals := 1, code := jdk_43_method_46_code, exceptionTable := #[], attributes := #[] }
def k12m3 : Method := { name := "toBytes", desc := "(C)[B", sig := { parameters := [.char], returnType := some (.array .byte) }, accessFlags := 9, code := some k12c3 }
/-- java/lang/StringLatin1 -/
def k12 : Class := { plain "java/lang/StringLatin1" (some 0) with
  accessFlags := 48
  interfaces := #[]
  cf := some (fileOf pool12 14 #[.nestMembers #[390, 221]] #[{ accessFlags := 0, nameIndex := 7, descriptorIndex := 8, attributes := #[] }, { accessFlags := 9, nameIndex := 252, descriptorIndex := 53, attributes := #[] }, { accessFlags := 9, nameIndex := 90, descriptorIndex := 105, attributes := #[] }, { accessFlags := 9, nameIndex := 380, descriptorIndex := 382, attributes := #[] }] 48 4 #[] #[{ accessFlags := 4120, nameIndex := 121, descriptorIndex := 122, attributes := #[] }])
  fields := #[{ name := "$assertionsDisabled", type := .boolean, accessFlags := 4120, slot := 0, constantValue := 0 }]
  methods := #[k12m0, k12m1, k12m2, k12m3]
  instanceTypes := #[]
  staticTypes := #[.boolean]
  resolved := Array.replicate 395 none
  statics := none }

def pool13 : Array CpInfo := pool [(9, u "<init>"), (6, .class_ 18), (1, u "java/lang/Object"), (0, u "()V"), (1, .class_ 23), (1, u "jdk/internal/util/ArraysSupport"), (0, u "LOG2_ARRAY_LONG_INDEX_SCALE"), (0, u "I"), (2, u "U"), (0, u "Ljdk/internal/misc/Unsafe;"), (8, u "BIG_ENDIAN"), (0, u "Z"), (8, u "LOG2_BYTE_BIT_SIZE"), (4, u "LOG2_ARRAY_INT_INDEX_SCALE"), (54, u "JLA"), (0, u "Ljdk/internal/access/JavaLangAccess;"), (11, u "LOG2_ARRAY_BOOLEAN_INDEX_SCALE"), (9, u "LOG2_ARRAY_BYTE_INDEX_SCALE"), (5, u "LOG2_ARRAY_CHAR_INDEX_SCALE"), (5, u "LOG2_ARRAY_SHORT_INDEX_SCALE"), (18, u "LOG2_ARRAY_FLOAT_INDEX_SCALE"), (24, u "LOG2_ARRAY_DOUBLE_INDEX_SCALE"), (89, u "T_BOOLEAN"), (2, u "T_CHAR"), (1, u "T_FLOAT"), (1, u "T_DOUBLE"), (1, u "T_BYTE"), (1, u "T_SHORT"), (1, u "T_INT"), (1, u "T_LONG"), (1, u "SOFT_MAX_ARRAY_LENGTH")] 83

def k13m0 : Method := { name := "<init>", desc := "()V", sig := { parameters := [], returnType := none }, accessFlags := 2, code := none }
/-- jdk/internal/util/ArraysSupport -/
def k13 : Class := { plain "jdk/internal/util/ArraysSupport" (some 0) with
  accessFlags := 33
  interfaces := #[]
  cf := some (fileOf pool13 21 #[] #[{ accessFlags := 2, nameIndex := 9, descriptorIndex := 19, attributes := #[] }] 33 16 #[] #[{ accessFlags := 24, nameIndex := 28, descriptorIndex := 29, attributes := #[] }, { accessFlags := 26, nameIndex := 38, descriptorIndex := 39, attributes := #[] }, { accessFlags := 25, nameIndex := 121, descriptorIndex := 25, attributes := #[] }, { accessFlags := 25, nameIndex := 131, descriptorIndex := 25, attributes := #[] }, { accessFlags := 25, nameIndex := 137, descriptorIndex := 25, attributes := #[] }, { accessFlags := 25, nameIndex := 143, descriptorIndex := 25, attributes := #[] }, { accessFlags := 25, nameIndex := 53, descriptorIndex := 25, attributes := #[] }, { accessFlags := 25, nameIndex := 24, descriptorIndex := 25, attributes := #[] }, { accessFlags := 25, nameIndex := 162, descriptorIndex := 25, attributes := #[] }, { accessFlags := 25, nameIndex := 187, descriptorIndex := 25, attributes := #[] }, { accessFlags := 26, nameIndex := 48, descriptorIndex := 25, attributes := #[] }, { accessFlags := 25, nameIndex := 277, descriptorIndex := 25, attributes := #[] }, { accessFlags := 25, nameIndex := 280, descriptorIndex := 25, attributes := #[] }, { accessFlags := 25, nameIndex := 282, descriptorIndex := 25, attributes := #[] }, { accessFlags := 25, nameIndex := 284, descriptorIndex := 25, attributes := #[] }, { accessFlags := 25, nameIndex := 286, descriptorIndex := 25, attributes := #[] }, { accessFlags := 25, nameIndex := 288, descriptorIndex := 25, attributes := #[] }, { accessFlags := 25, nameIndex := 290, descriptorIndex := 25, attributes := #[] }, { accessFlags := 25, nameIndex := 292, descriptorIndex := 25, attributes := #[] }, { accessFlags := 26, nameIndex := 108, descriptorIndex := 109, attributes := #[] }, { accessFlags := 25, nameIndex := 294, descriptorIndex := 25, attributes := #[] }])
  fields := #[{ name := "U", type := (.object "jdk/internal/misc/Unsafe"), accessFlags := 24, slot := 0, constantValue := 0 }, { name := "BIG_ENDIAN", type := .boolean, accessFlags := 26, slot := 1, constantValue := 0 }, { name := "LOG2_ARRAY_BOOLEAN_INDEX_SCALE", type := .int, accessFlags := 25, slot := 2, constantValue := 0 }, { name := "LOG2_ARRAY_BYTE_INDEX_SCALE", type := .int, accessFlags := 25, slot := 3, constantValue := 0 }, { name := "LOG2_ARRAY_CHAR_INDEX_SCALE", type := .int, accessFlags := 25, slot := 4, constantValue := 0 }, { name := "LOG2_ARRAY_SHORT_INDEX_SCALE", type := .int, accessFlags := 25, slot := 5, constantValue := 0 }, { name := "LOG2_ARRAY_INT_INDEX_SCALE", type := .int, accessFlags := 25, slot := 6, constantValue := 0 }, { name := "LOG2_ARRAY_LONG_INDEX_SCALE", type := .int, accessFlags := 25, slot := 7, constantValue := 0 }, { name := "LOG2_ARRAY_FLOAT_INDEX_SCALE", type := .int, accessFlags := 25, slot := 8, constantValue := 0 }, { name := "LOG2_ARRAY_DOUBLE_INDEX_SCALE", type := .int, accessFlags := 25, slot := 9, constantValue := 0 }, { name := "LOG2_BYTE_BIT_SIZE", type := .int, accessFlags := 26, slot := 10, constantValue := 0 }, { name := "T_BOOLEAN", type := .int, accessFlags := 25, slot := 11, constantValue := 0 }, { name := "T_CHAR", type := .int, accessFlags := 25, slot := 12, constantValue := 0 }, { name := "T_FLOAT", type := .int, accessFlags := 25, slot := 13, constantValue := 0 }, { name := "T_DOUBLE", type := .int, accessFlags := 25, slot := 14, constantValue := 0 }, { name := "T_BYTE", type := .int, accessFlags := 25, slot := 15, constantValue := 0 }, { name := "T_SHORT", type := .int, accessFlags := 25, slot := 16, constantValue := 0 }, { name := "T_INT", type := .int, accessFlags := 25, slot := 17, constantValue := 0 }, { name := "T_LONG", type := .int, accessFlags := 25, slot := 18, constantValue := 0 }, { name := "JLA", type := (.object "jdk/internal/access/JavaLangAccess"), accessFlags := 26, slot := 19, constantValue := 0 }, { name := "SOFT_MAX_ARRAY_LENGTH", type := .int, accessFlags := 25, slot := 20, constantValue := 0 }]
  methods := #[k13m0]
  instanceTypes := #[]
  staticTypes := #[(.object "jdk/internal/misc/Unsafe"), .boolean, .int, .int, .int, .int, .int, .int, .int, .int, .int, .int, .int, .int, .int, .int, .int, .int, .int, (.object "jdk/internal/access/JavaLangAccess"), .int]
  resolved := Array.replicate 378 none
  statics := none }

def pool14 : Array CpInfo := pool [(1, u "java/lang/Cloneable"), (0, .class_ 1), (0, u "java/lang/Object"), (0, .class_ 3)] 3

/-- java/lang/Cloneable -/
def k14 : Class := { plain "java/lang/Cloneable" (some 0) with
  accessFlags := 1537
  interfaces := #[]
  cf := some (fileOf pool14 2 #[] #[] 1537 4 #[] #[])
  fields := #[]
  methods := #[]
  instanceTypes := #[]
  staticTypes := #[]
  resolved := Array.replicate 8 none
  statics := none }

/-- the primitive byte -/
def k15 : Class := { plain "byte" none with kind := .primitive 'B', accessFlags := 0x411 }
/-- [B -/
def k16 : Class := { plain "[B" (some 0) with kind := .array 15 .byte, interfaces := #[14, 2], accessFlags := 1041 }

/-- the primitive char -/
def k17 : Class := { plain "char" none with kind := .primitive 'C', accessFlags := 0x411 }
/-- [C -/
def k18 : Class := { plain "[C" (some 0) with kind := .array 17 .char, interfaces := #[14, 2], accessFlags := 1041 }

/-- the primitive int -/
def k19 : Class := { plain "int" none with kind := .primitive 'I', accessFlags := 0x411 }
/-- [I -/
def k20 : Class := { plain "[I" (some 0) with kind := .array 19 .int, interfaces := #[14, 2], accessFlags := 1041 }

def heap : Heap := #[{ cls := 7, slots := #[.long 0, .int 1, .null, .int 0, .null, .int 0, .int 0], vm := .statics 7 },
  { cls := 8, slots := #[.int 0, .int 8, .int 0, .int 1], vm := .statics 8 },
  { cls := 11, slots := #[.null, .null, .null], vm := .statics 11 }]
def classes : Array Class := #[k0, k1, k2, k3, k4, k5, k6, k7, k8, k9, k10, k11, k12, k13, k14, k15, k16, k17, k18, k19, k20]
def interned : List (Array UInt16 × Addr) := []
def slotsUsed : Nat := 14
def theMethod : MethodId := ⟨1, 4⟩
def args0 : Array Value := #[.int 5, .int 65, .int 66, .int 67, .int 5, .int 6]
def aboutOver (below : List Frame) : State where
  vm := { classes := classes, interned := interned.toArray }
  heap := heap
  slotsUsed := slotsUsed
  threads := #[{ frames := .invoking theMethod args0 :: below }]
def below0 : List Frame := [.native { method := ⟨0, 0⟩, args := #[] }]
def about1 : State := aboutOver below0
def p0 : Program := .bare "" "" ""
def e0 : Env := launch0.env 0 0 0
theorem w_frames : about1.frames = Frame.invoking theMethod args0 :: below0 := rfl
set_option maxRecDepth 65536 in
theorem w_args : argsFit about1.vm theMethod args0 = true := by decide +kernel
set_option maxRecDepth 65536 in
theorem w_heap : heapFits about1 = true := by decide +kernel
set_option maxRecDepth 65536 in
theorem w_runnable : about1.curStatus? = some .runnable := by decide +kernel
set_option maxRecDepth 65536 in
theorem w_alone : about1.alone = true := by decide +kernel
set_option maxRecDepth 65536 in
theorem w_named : about1.methodNamed? x = some theMethod := by decide +kernel
set_option maxRecDepth 65536 in
theorem w_hears : about1.hears theMethod below0 = true := by decide +kernel
set_option maxRecDepth 65536 in
theorem w_ripe : about1.ripe theMethod args0 below0 = true := by decide +kernel
theorem w_running : about1.status = .running := rfl
set_option maxRecDepth 65536 in
theorem w_room : about1.hasRoom e0.platform room_1 = true :=
  launch0.hasRoom_least _ room_1 (by decide +kernel) (by decide +kernel) (by decide +kernel) (by decide +kernel) (by decide +kernel) (by decide +kernel)
theorem allAtoms_all (ts : List Jvm.Cond) (a : Array Jvm.Value) (st : Jvm.State) : (allAtoms ts).before a st = ts.all (fun c => c.before a st) := by
  induction ts with
  | nil => rfl
  | cons c t ih =>
    show (Jvm.Cond.and c (allAtoms t)).before a st = _
    rw [Jvm.Cond.before_and, ih, List.all_cons]
def words1 : List Jvm.Cond := Jvm.Cond.code x code maxLocals ret :: tables_1
/-- a 'code' word, met by the world's own term for the bytes: nothing is compared byte by byte -/
theorem code_word {y : MethodName} {bytes : ByteArray} {mx : Nat} {rt : Option FieldType} {a : Array Value} {s : State} {m : MethodId} {meth : Method} {c : Code} (h1 : s.methodNamed? y = some m) (h2 : s.vm.method? m = some meth) (h3 : meth.code = some c) (h4 : c.code = bytes)
    (h5 : (c.maxLocals == mx && c.exceptionTable.isEmpty && decide (c.maxStack ≤ mostOperands) && decide (meth.sig.returnType = rt) && !meth.locks && decide (parseMethodDescriptor y.desc = some meth.sig)) = true) : (Jvm.Cond.code y bytes mx rt).before a s = true := by
  simp only [Bool.and_eq_true, beq_iff_eq, Bool.not_eq_true', decide_eq_true_eq] at h5
  obtain ⟨⟨⟨⟨⟨g1, g2⟩, g3⟩, g4⟩, g5⟩, g6⟩ := h5
  simp [Cond.before, Cond.holds, Cond.value, h1, h2, h3, h4, g1, g2, g3, g4, g5, g6]
def isCode : Jvm.Cond → Bool
  | .code _ _ _ _ => true
  | _ => false
theorem all_split {L : List Jvm.Cond} {P : Jvm.Cond → Bool} (h1 : L.all (fun c => isCode c || P c) = true) (h2 : ∀ c ∈ L.filter isCode, P c = true) : L.all P = true := by
  refine List.all_eq_true.mpr fun c hc => ?_
  have h := List.all_eq_true.mp h1 c hc
  rcases Bool.eq_false_or_eq_true (isCode c) with hi | hi
  · exact h2 c (List.mem_filter.mpr ⟨hc, hi⟩)
  · simpa [hi] using h
set_option maxRecDepth 65536 in
theorem w_c0 : (Jvm.Cond.code x code maxLocals ret).before args0 about1 = true := code_word (m := ⟨1, 4⟩) (meth := k1m4) (c := k1c4) (by decide +kernel) rfl rfl rfl (by decide +kernel)
set_option maxRecDepth 65536 in
theorem w_c1 : (Jvm.Cond.code ({ cls := "com/example/grantor/grantor/core/CodeChallengeIsWellFormedVerifierPinLaw", name := "draw", desc := "(I)C" } : Jvm.MethodName) method_3_code (1 : Nat) (Option.some Jvm.ClassFile.FieldType.char)).before args0 about1 = true := code_word (m := ⟨1, 2⟩) (meth := k1m2) (c := k1c2) (by decide +kernel) rfl rfl rfl (by decide +kernel)
set_option maxRecDepth 65536 in
theorem w_c2 : (Jvm.Cond.code ({ cls := "com/example/grantor/grantor/core/CodeChallengeIsWellFormedVerifierPinLaw", name := "filled", desc := "(IC)[C" } : Jvm.MethodName) method_4_code (2 : Nat) (Option.some (Jvm.ClassFile.FieldType.array Jvm.ClassFile.FieldType.char))).before args0 about1 = true := code_word (m := ⟨1, 3⟩) (meth := k1m3) (c := k1c3) (by decide +kernel) rfl rfl rfl (by decide +kernel)
set_option maxRecDepth 65536 in
theorem w_c3 : (Jvm.Cond.code ({ cls := "java/lang/String", name := "<init>", desc := "([C)V" } : Jvm.MethodName) jdk_42_method_3_code (2 : Nat) (Option.none : Option Jvm.ClassFile.FieldType)).before args0 about1 = true := code_word (m := ⟨7, 1⟩) (meth := k7m1) (c := k7c1) (by decide +kernel) rfl rfl rfl (by decide +kernel)
set_option maxRecDepth 65536 in
theorem w_c4 : (Jvm.Cond.code ({ cls := "java/lang/String", name := "<init>", desc := "([CIILjava/lang/Void;)V" } : Jvm.MethodName) jdk_42_method_149_code (6 : Nat) (Option.none : Option Jvm.ClassFile.FieldType)).before args0 about1 = true := code_word (m := ⟨7, 5⟩) (meth := k7m5) (c := k7c5) (by decide +kernel) rfl rfl rfl (by decide +kernel)
set_option maxRecDepth 65536 in
theorem w_c5 : (Jvm.Cond.code ({ cls := "java/lang/Object", name := "<init>", desc := "()V" } : Jvm.MethodName) object_method_1_code (1 : Nat) (Option.none : Option Jvm.ClassFile.FieldType)).before args0 about1 = true := code_word (m := ⟨0, 0⟩) (meth := k0m0) (c := k0c0) (by decide +kernel) rfl rfl rfl (by decide +kernel)
set_option maxRecDepth 65536 in
theorem w_c6 : (Jvm.Cond.code ({ cls := "java/lang/StringUTF16", name := "compress", desc := "([CII)[B" } : Jvm.MethodName) jdk_52_method_16_code (6 : Nat) (Option.some (Jvm.ClassFile.FieldType.array Jvm.ClassFile.FieldType.byte))).before args0 about1 = true := code_word (m := ⟨8, 8⟩) (meth := k8m8) (c := k8c8) (by decide +kernel) rfl rfl rfl (by decide +kernel)
set_option maxRecDepth 65536 in
theorem w_c7 : (Jvm.Cond.code ({ cls := "java/lang/StringUTF16", name := "compress", desc := "([CI[BII)I" } : Jvm.MethodName) jdk_52_method_21_code (7 : Nat) (Option.some Jvm.ClassFile.FieldType.int)).before args0 about1 = true := code_word (m := ⟨8, 9⟩) (meth := k8m9) (c := k8c9) (by decide +kernel) rfl rfl rfl (by decide +kernel)
set_option maxRecDepth 65536 in
theorem w_c8 : (Jvm.Cond.code ({ cls := "java/lang/StringUTF16", name := "coderFromArrayLen", desc := "([BI)B" } : Jvm.MethodName) jdk_52_method_15_code (2 : Nat) (Option.some Jvm.ClassFile.FieldType.byte)).before args0 about1 = true := code_word (m := ⟨8, 7⟩) (meth := k8m7) (c := k8c7) (by decide +kernel) rfl rfl rfl (by decide +kernel)
set_option maxRecDepth 65536 in
theorem w_c9 : (Jvm.Cond.code ({ cls := "com/example/grantor/grantor/core/CodeChallenge", name := "isWellFormedVerifier", desc := "(Ljava/lang/String;)Z" } : Jvm.MethodName) prog_9_method_3_code (3 : Nat) (Option.some Jvm.ClassFile.FieldType.boolean)).before args0 about1 = true := code_word (m := ⟨10, 0⟩) (meth := k10m0) (c := k10c0) (by decide +kernel) rfl rfl rfl (by decide +kernel)
set_option maxRecDepth 65536 in
theorem w_c10 : (Jvm.Cond.code ({ cls := "java/lang/String", name := "length", desc := "()I" } : Jvm.MethodName) jdk_42_method_54_code (1 : Nat) (Option.some Jvm.ClassFile.FieldType.int)).before args0 about1 = true := code_word (m := ⟨7, 2⟩) (meth := k7m2) (c := k7c2) (by decide +kernel) rfl rfl rfl (by decide +kernel)
set_option maxRecDepth 65536 in
theorem w_c11 : (Jvm.Cond.code ({ cls := "java/lang/String", name := "coder", desc := "()B" } : Jvm.MethodName) jdk_42_method_152_code (1 : Nat) (Option.some Jvm.ClassFile.FieldType.byte)).before args0 about1 = true := code_word (m := ⟨7, 7⟩) (meth := k7m7) (c := k7c7) (by decide +kernel) rfl rfl rfl (by decide +kernel)
set_option maxRecDepth 65536 in
theorem w_c12 : (Jvm.Cond.code ({ cls := "com/example/grantor/grantor/core/CodeChallengeIsWellFormedVerifierPinLaw", name := "unreserved", desc := "(C)Z" } : Jvm.MethodName) method_2_code (5 : Nat) (Option.some Jvm.ClassFile.FieldType.boolean)).before args0 about1 = true := code_word (m := ⟨1, 1⟩) (meth := k1m1) (c := k1c1) (by decide +kernel) rfl rfl rfl (by decide +kernel)
set_option maxRecDepth 65536 in
theorem w_c13 : (Jvm.Cond.code ({ cls := "java/lang/StringUTF16", name := "toBytes", desc := "([CII)[B" } : Jvm.MethodName) jdk_52_method_14_code (5 : Nat) (Option.some (Jvm.ClassFile.FieldType.array Jvm.ClassFile.FieldType.byte))).before args0 about1 = true := code_word (m := ⟨8, 6⟩) (meth := k8m6) (c := k8c6) (by decide +kernel) rfl rfl rfl (by decide +kernel)
set_option maxRecDepth 65536 in
theorem w_c14 : (Jvm.Cond.code ({ cls := "java/lang/StringUTF16", name := "newBytesFor", desc := "(I)[B" } : Jvm.MethodName) jdk_52_method_2_code (1 : Nat) (Option.some (Jvm.ClassFile.FieldType.array Jvm.ClassFile.FieldType.byte))).before args0 about1 = true := code_word (m := ⟨8, 1⟩) (meth := k8m1) (c := k8c1) (by decide +kernel) rfl rfl rfl (by decide +kernel)
set_option maxRecDepth 65536 in
theorem w_c15 : (Jvm.Cond.code ({ cls := "java/lang/StringUTF16", name := "newBytesLength", desc := "(I)I" } : Jvm.MethodName) jdk_52_method_3_code (1 : Nat) (Option.some Jvm.ClassFile.FieldType.int)).before args0 about1 = true := code_word (m := ⟨8, 2⟩) (meth := k8m2) (c := k8c2) (by decide +kernel) rfl rfl rfl (by decide +kernel)
set_option maxRecDepth 65536 in
theorem w_c16 : (Jvm.Cond.code ({ cls := "java/lang/StringUTF16", name := "putChar", desc := "([BII)V" } : Jvm.MethodName) jdk_52_method_4_code (3 : Nat) (Option.none : Option Jvm.ClassFile.FieldType)).before args0 about1 = true := code_word (m := ⟨8, 3⟩) (meth := k8m3) (c := k8c3) (by decide +kernel) rfl rfl rfl (by decide +kernel)
set_option maxRecDepth 65536 in
theorem w_c17 : (Jvm.Cond.code ({ cls := "java/lang/StringUTF16", name := "getChar", desc := "([BI)C" } : Jvm.MethodName) jdk_52_method_5_code (2 : Nat) (Option.some Jvm.ClassFile.FieldType.char)).before args0 about1 = true := code_word (m := ⟨8, 4⟩) (meth := k8m4) (c := k8c4) (by decide +kernel) rfl rfl rfl (by decide +kernel)
set_option maxRecDepth 65536 in
theorem w_c18 : (Jvm.Cond.code ({ cls := "java/lang/String", name := "charAt", desc := "(I)C" } : Jvm.MethodName) jdk_42_method_56_code (2 : Nat) (Option.some Jvm.ClassFile.FieldType.char)).before args0 about1 = true := code_word (m := ⟨7, 3⟩) (meth := k7m3) (c := k7c3) (by decide +kernel) rfl rfl rfl (by decide +kernel)
set_option maxRecDepth 65536 in
theorem w_c19 : (Jvm.Cond.code ({ cls := "java/lang/String", name := "isLatin1", desc := "()Z" } : Jvm.MethodName) jdk_42_method_154_code (1 : Nat) (Option.some Jvm.ClassFile.FieldType.boolean)).before args0 about1 = true := code_word (m := ⟨7, 8⟩) (meth := k7m8) (c := k7c8) (by decide +kernel) rfl rfl rfl (by decide +kernel)
set_option maxRecDepth 65536 in
theorem w_c20 : (Jvm.Cond.code ({ cls := "java/lang/StringUTF16", name := "charAt", desc := "([BI)C" } : Jvm.MethodName) jdk_52_method_83_code (2 : Nat) (Option.some Jvm.ClassFile.FieldType.char)).before args0 about1 = true := code_word (m := ⟨8, 11⟩) (meth := k8m11) (c := k8c11) (by decide +kernel) rfl rfl rfl (by decide +kernel)
set_option maxRecDepth 65536 in
theorem w_c21 : (Jvm.Cond.code ({ cls := "java/lang/StringUTF16", name := "checkIndex", desc := "(I[B)V" } : Jvm.MethodName) jdk_52_method_91_code (2 : Nat) (Option.none : Option Jvm.ClassFile.FieldType)).before args0 about1 = true := code_word (m := ⟨8, 12⟩) (meth := k8m12) (c := k8c12) (by decide +kernel) rfl rfl rfl (by decide +kernel)
set_option maxRecDepth 65536 in
theorem w_c22 : (Jvm.Cond.code ({ cls := "java/lang/StringUTF16", name := "length", desc := "([B)I" } : Jvm.MethodName) jdk_52_method_6_code (1 : Nat) (Option.some Jvm.ClassFile.FieldType.int)).before args0 about1 = true := code_word (m := ⟨8, 5⟩) (meth := k8m5) (c := k8c5) (by decide +kernel) rfl rfl rfl (by decide +kernel)
set_option maxRecDepth 65536 in
theorem w_c23 : (Jvm.Cond.code ({ cls := "java/lang/String", name := "checkIndex", desc := "(II)V" } : Jvm.MethodName) jdk_42_method_155_code (2 : Nat) (Option.none : Option Jvm.ClassFile.FieldType)).before args0 about1 = true := code_word (m := ⟨7, 9⟩) (meth := k7m9) (c := k7c9) (by decide +kernel) rfl rfl rfl (by decide +kernel)
set_option maxRecDepth 65536 in
theorem w_c24 : (Jvm.Cond.code ({ cls := "jdk/internal/util/Preconditions", name := "checkIndex", desc := "(IILjava/util/function/BiFunction;)I" } : Jvm.MethodName) jdk_41_method_11_code (3 : Nat) (Option.some Jvm.ClassFile.FieldType.int)).before args0 about1 = true := code_word (m := ⟨11, 1⟩) (meth := k11m1) (c := k11c1) (by decide +kernel) rfl rfl rfl (by decide +kernel)
set_option maxRecDepth 65536 in
theorem w_c25 : (Jvm.Cond.code ({ cls := "com/example/grantor/grantor/core/CodeChallenge", name := "isAlphanumeric", desc := "(C)Z" } : Jvm.MethodName) prog_9_method_7_code (1 : Nat) (Option.some Jvm.ClassFile.FieldType.boolean)).before args0 about1 = true := code_word (m := ⟨10, 1⟩) (meth := k10m1) (c := k10c1) (by decide +kernel) rfl rfl rfl (by decide +kernel)
set_option maxRecDepth 65536 in
theorem w_c26 : (Jvm.Cond.code ({ cls := "java/lang/String", name := "valueOf", desc := "(C)Ljava/lang/String;" } : Jvm.MethodName) jdk_42_method_139_code (1 : Nat) (Option.some (Jvm.ClassFile.FieldType.object "java/lang/String"))).before args0 about1 = true := code_word (m := ⟨7, 4⟩) (meth := k7m4) (c := k7c4) (by decide +kernel) rfl rfl rfl (by decide +kernel)
set_option maxRecDepth 65536 in
theorem w_c27 : (Jvm.Cond.code ({ cls := "java/lang/StringLatin1", name := "canEncode", desc := "(C)Z" } : Jvm.MethodName) jdk_43_method_3_code (1 : Nat) (Option.some Jvm.ClassFile.FieldType.boolean)).before args0 about1 = true := code_word (m := ⟨12, 2⟩) (meth := k12m2) (c := k12c2) (by decide +kernel) rfl rfl rfl (by decide +kernel)
set_option maxRecDepth 65536 in
theorem w_c28 : (Jvm.Cond.code ({ cls := "java/lang/StringLatin1", name := "toBytes", desc := "(C)[B" } : Jvm.MethodName) jdk_43_method_46_code (1 : Nat) (Option.some (Jvm.ClassFile.FieldType.array Jvm.ClassFile.FieldType.byte))).before args0 about1 = true := code_word (m := ⟨12, 3⟩) (meth := k12m3) (c := k12c3) (by decide +kernel) rfl rfl rfl (by decide +kernel)
set_option maxRecDepth 65536 in
theorem w_c29 : (Jvm.Cond.code ({ cls := "java/lang/String", name := "<init>", desc := "([BB)V" } : Jvm.MethodName) jdk_42_method_151_code (3 : Nat) (Option.none : Option Jvm.ClassFile.FieldType)).before args0 about1 = true := code_word (m := ⟨7, 6⟩) (meth := k7m6) (c := k7c6) (by decide +kernel) rfl rfl rfl (by decide +kernel)
set_option maxRecDepth 65536 in
theorem w_c30 : (Jvm.Cond.code ({ cls := "java/lang/StringLatin1", name := "charAt", desc := "([BI)C" } : Jvm.MethodName) jdk_43_method_2_code (2 : Nat) (Option.some Jvm.ClassFile.FieldType.char)).before args0 about1 = true := code_word (m := ⟨12, 1⟩) (meth := k12m1) (c := k12c1) (by decide +kernel) rfl rfl rfl (by decide +kernel)
set_option maxRecDepth 65536 in
theorem w_c31 : (Jvm.Cond.code ({ cls := "java/lang/StringUTF16", name := "toBytes", desc := "(C)[B" } : Jvm.MethodName) jdk_52_method_24_code (2 : Nat) (Option.some (Jvm.ClassFile.FieldType.array Jvm.ClassFile.FieldType.byte))).before args0 about1 = true := code_word (m := ⟨8, 10⟩) (meth := k8m10) (c := k8c10) (by decide +kernel) rfl rfl rfl (by decide +kernel)
def codes1 : List Jvm.Cond := [Jvm.Cond.code x code maxLocals ret, Jvm.Cond.code ({ cls := "com/example/grantor/grantor/core/CodeChallengeIsWellFormedVerifierPinLaw", name := "draw", desc := "(I)C" } : Jvm.MethodName) method_3_code (1 : Nat) (Option.some Jvm.ClassFile.FieldType.char), Jvm.Cond.code ({ cls := "com/example/grantor/grantor/core/CodeChallengeIsWellFormedVerifierPinLaw", name := "filled", desc := "(IC)[C" } : Jvm.MethodName) method_4_code (2 : Nat) (Option.some (Jvm.ClassFile.FieldType.array Jvm.ClassFile.FieldType.char)), Jvm.Cond.code ({ cls := "java/lang/String", name := "<init>", desc := "([C)V" } : Jvm.MethodName) jdk_42_method_3_code (2 : Nat) (Option.none : Option Jvm.ClassFile.FieldType), Jvm.Cond.code ({ cls := "java/lang/String", name := "<init>", desc := "([CIILjava/lang/Void;)V" } : Jvm.MethodName) jdk_42_method_149_code (6 : Nat) (Option.none : Option Jvm.ClassFile.FieldType), Jvm.Cond.code ({ cls := "java/lang/Object", name := "<init>", desc := "()V" } : Jvm.MethodName) object_method_1_code (1 : Nat) (Option.none : Option Jvm.ClassFile.FieldType), Jvm.Cond.code ({ cls := "java/lang/StringUTF16", name := "compress", desc := "([CII)[B" } : Jvm.MethodName) jdk_52_method_16_code (6 : Nat) (Option.some (Jvm.ClassFile.FieldType.array Jvm.ClassFile.FieldType.byte)), Jvm.Cond.code ({ cls := "java/lang/StringUTF16", name := "compress", desc := "([CI[BII)I" } : Jvm.MethodName) jdk_52_method_21_code (7 : Nat) (Option.some Jvm.ClassFile.FieldType.int), Jvm.Cond.code ({ cls := "java/lang/StringUTF16", name := "coderFromArrayLen", desc := "([BI)B" } : Jvm.MethodName) jdk_52_method_15_code (2 : Nat) (Option.some Jvm.ClassFile.FieldType.byte), Jvm.Cond.code ({ cls := "com/example/grantor/grantor/core/CodeChallenge", name := "isWellFormedVerifier", desc := "(Ljava/lang/String;)Z" } : Jvm.MethodName) prog_9_method_3_code (3 : Nat) (Option.some Jvm.ClassFile.FieldType.boolean), Jvm.Cond.code ({ cls := "java/lang/String", name := "length", desc := "()I" } : Jvm.MethodName) jdk_42_method_54_code (1 : Nat) (Option.some Jvm.ClassFile.FieldType.int), Jvm.Cond.code ({ cls := "java/lang/String", name := "coder", desc := "()B" } : Jvm.MethodName) jdk_42_method_152_code (1 : Nat) (Option.some Jvm.ClassFile.FieldType.byte), Jvm.Cond.code ({ cls := "com/example/grantor/grantor/core/CodeChallengeIsWellFormedVerifierPinLaw", name := "unreserved", desc := "(C)Z" } : Jvm.MethodName) method_2_code (5 : Nat) (Option.some Jvm.ClassFile.FieldType.boolean), Jvm.Cond.code ({ cls := "java/lang/StringUTF16", name := "toBytes", desc := "([CII)[B" } : Jvm.MethodName) jdk_52_method_14_code (5 : Nat) (Option.some (Jvm.ClassFile.FieldType.array Jvm.ClassFile.FieldType.byte)), Jvm.Cond.code ({ cls := "java/lang/StringUTF16", name := "newBytesFor", desc := "(I)[B" } : Jvm.MethodName) jdk_52_method_2_code (1 : Nat) (Option.some (Jvm.ClassFile.FieldType.array Jvm.ClassFile.FieldType.byte)), Jvm.Cond.code ({ cls := "java/lang/StringUTF16", name := "newBytesLength", desc := "(I)I" } : Jvm.MethodName) jdk_52_method_3_code (1 : Nat) (Option.some Jvm.ClassFile.FieldType.int), Jvm.Cond.code ({ cls := "java/lang/StringUTF16", name := "putChar", desc := "([BII)V" } : Jvm.MethodName) jdk_52_method_4_code (3 : Nat) (Option.none : Option Jvm.ClassFile.FieldType), Jvm.Cond.code ({ cls := "java/lang/StringUTF16", name := "getChar", desc := "([BI)C" } : Jvm.MethodName) jdk_52_method_5_code (2 : Nat) (Option.some Jvm.ClassFile.FieldType.char), Jvm.Cond.code ({ cls := "java/lang/String", name := "charAt", desc := "(I)C" } : Jvm.MethodName) jdk_42_method_56_code (2 : Nat) (Option.some Jvm.ClassFile.FieldType.char), Jvm.Cond.code ({ cls := "java/lang/String", name := "isLatin1", desc := "()Z" } : Jvm.MethodName) jdk_42_method_154_code (1 : Nat) (Option.some Jvm.ClassFile.FieldType.boolean), Jvm.Cond.code ({ cls := "java/lang/StringUTF16", name := "charAt", desc := "([BI)C" } : Jvm.MethodName) jdk_52_method_83_code (2 : Nat) (Option.some Jvm.ClassFile.FieldType.char), Jvm.Cond.code ({ cls := "java/lang/StringUTF16", name := "checkIndex", desc := "(I[B)V" } : Jvm.MethodName) jdk_52_method_91_code (2 : Nat) (Option.none : Option Jvm.ClassFile.FieldType), Jvm.Cond.code ({ cls := "java/lang/StringUTF16", name := "length", desc := "([B)I" } : Jvm.MethodName) jdk_52_method_6_code (1 : Nat) (Option.some Jvm.ClassFile.FieldType.int), Jvm.Cond.code ({ cls := "java/lang/String", name := "checkIndex", desc := "(II)V" } : Jvm.MethodName) jdk_42_method_155_code (2 : Nat) (Option.none : Option Jvm.ClassFile.FieldType), Jvm.Cond.code ({ cls := "jdk/internal/util/Preconditions", name := "checkIndex", desc := "(IILjava/util/function/BiFunction;)I" } : Jvm.MethodName) jdk_41_method_11_code (3 : Nat) (Option.some Jvm.ClassFile.FieldType.int), Jvm.Cond.code ({ cls := "com/example/grantor/grantor/core/CodeChallenge", name := "isAlphanumeric", desc := "(C)Z" } : Jvm.MethodName) prog_9_method_7_code (1 : Nat) (Option.some Jvm.ClassFile.FieldType.boolean), Jvm.Cond.code ({ cls := "java/lang/String", name := "valueOf", desc := "(C)Ljava/lang/String;" } : Jvm.MethodName) jdk_42_method_139_code (1 : Nat) (Option.some (Jvm.ClassFile.FieldType.object "java/lang/String")), Jvm.Cond.code ({ cls := "java/lang/StringLatin1", name := "canEncode", desc := "(C)Z" } : Jvm.MethodName) jdk_43_method_3_code (1 : Nat) (Option.some Jvm.ClassFile.FieldType.boolean), Jvm.Cond.code ({ cls := "java/lang/StringLatin1", name := "toBytes", desc := "(C)[B" } : Jvm.MethodName) jdk_43_method_46_code (1 : Nat) (Option.some (Jvm.ClassFile.FieldType.array Jvm.ClassFile.FieldType.byte)), Jvm.Cond.code ({ cls := "java/lang/String", name := "<init>", desc := "([BB)V" } : Jvm.MethodName) jdk_42_method_151_code (3 : Nat) (Option.none : Option Jvm.ClassFile.FieldType), Jvm.Cond.code ({ cls := "java/lang/StringLatin1", name := "charAt", desc := "([BI)C" } : Jvm.MethodName) jdk_43_method_2_code (2 : Nat) (Option.some Jvm.ClassFile.FieldType.char), Jvm.Cond.code ({ cls := "java/lang/StringUTF16", name := "toBytes", desc := "(C)[B" } : Jvm.MethodName) jdk_52_method_24_code (2 : Nat) (Option.some (Jvm.ClassFile.FieldType.array Jvm.ClassFile.FieldType.byte))]
set_option maxRecDepth 65536 in
theorem codes_eq : words1.filter isCode = codes1 := rfl
theorem w_codes : ∀ c ∈ words1.filter isCode, c.before args0 about1 = true := by
  rw [codes_eq]
  intro c hc
  simp only [codes1, List.mem_cons, List.not_mem_nil, or_false] at hc
  rcases hc with rfl | rfl | rfl | rfl | rfl | rfl | rfl | rfl | rfl | rfl | rfl | rfl | rfl | rfl | rfl | rfl | rfl | rfl | rfl | rfl | rfl | rfl | rfl | rfl | rfl | rfl | rfl | rfl | rfl | rfl | rfl | rfl
  · exact w_c0
  · exact w_c1
  · exact w_c2
  · exact w_c3
  · exact w_c4
  · exact w_c5
  · exact w_c6
  · exact w_c7
  · exact w_c8
  · exact w_c9
  · exact w_c10
  · exact w_c11
  · exact w_c12
  · exact w_c13
  · exact w_c14
  · exact w_c15
  · exact w_c16
  · exact w_c17
  · exact w_c18
  · exact w_c19
  · exact w_c20
  · exact w_c21
  · exact w_c22
  · exact w_c23
  · exact w_c24
  · exact w_c25
  · exact w_c26
  · exact w_c27
  · exact w_c28
  · exact w_c29
  · exact w_c30
  · exact w_c31
set_option maxRecDepth 65536 in
theorem w_t1 : (words1.take 24).all (fun c => isCode c || c.before args0 about1) = true := by decide +kernel
set_option maxRecDepth 65536 in
theorem w_t2 : ((words1.drop 24).take 24).all (fun c => isCode c || c.before args0 about1) = true := by decide +kernel
set_option maxRecDepth 65536 in
theorem w_t3 : (((words1.drop 24).drop 24).take 24).all (fun c => isCode c || c.before args0 about1) = true := by decide +kernel
set_option maxRecDepth 65536 in
theorem w_t4 : ((((words1.drop 24).drop 24).drop 24).take 24).all (fun c => isCode c || c.before args0 about1) = true := by decide +kernel
set_option maxRecDepth 65536 in
theorem w_t5 : (((((words1.drop 24).drop 24).drop 24).drop 24).take 24).all (fun c => isCode c || c.before args0 about1) = true := by decide +kernel
set_option maxRecDepth 65536 in
theorem w_t6 : (((((words1.drop 24).drop 24).drop 24).drop 24).drop 24).all (fun c => isCode c || c.before args0 about1) = true := by decide +kernel
theorem w_tables : (allAtoms (Jvm.Cond.code x code maxLocals ret :: tables_1)).before args0 about1 = true := by
  rw [allAtoms_all]
  show words1.all (fun c => c.before args0 about1) = true
  refine all_split ?_ w_codes
  rw [← List.take_append_drop 24 words1, List.all_append, w_t1, ← List.take_append_drop 24 (words1.drop 24), List.all_append, w_t2, ← List.take_append_drop 24 ((words1.drop 24).drop 24), List.all_append, w_t3, ← List.take_append_drop 24 (((words1.drop 24).drop 24).drop 24), List.all_append, w_t4, ← List.take_append_drop 24 ((((words1.drop 24).drop 24).drop 24).drop 24), List.all_append, w_t5, w_t6]
  rfl
set_option maxRecDepth 65536 in
theorem w_rest : rest_1_c.before args0 about1 = true := by decide +kernel
set_option maxRecDepth 65536 in
theorem w_case : (Jvm.Cond.and given_1 narrow_1).before args0 about1 = true := by decide +kernel
set_option maxRecDepth 65536 in
theorem w_consts : constsHeld consts_1 about1 := Jvm.Lit.constsHeldB_iff.mp (by decide +kernel)
theorem w_applies : (headSpec (Jvm.Cond.code x code maxLocals ret :: tables_1) room_1).applies x e0.platform about1 = true :=
  (Spec.applies_iff w_frames).mpr ⟨w_running, w_runnable, w_alone, w_named, w_hears, w_ripe, w_room, w_tables⟩
theorem atStart : AtStart classFile x code maxLocals ret World_1 tables_1 room_1 Calls_1 rest_1 Pre_1 launch0 p0 e0 about1 theMethod args0 below0 :=
  ⟨lists_1, trivial, launch0.admits_env _ _ _, launch0.least_env, fairChoices_fair.cas, fairChoices_fair.clock, w_frames, w_args, w_heap, w_applies, ⟨w_consts, trivial⟩, w_rest, w_case⟩
end start1
theorem witness_1 : WitnessClaimed_1 := ⟨start1.p0, start1.e0, start1.about1, start1.theMethod, start1.args0, start1.below0, start1.atStart⟩
end Jvm.Pilot.@@N@@
