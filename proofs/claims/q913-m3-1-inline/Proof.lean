import JvmDerived
import JvmDerived.Pilot.@@N@@Statement
import JvmDerived.Pilot.@@N@@Code
set_option linter.unusedVariables false
set_option linter.unusedSimpArgs false
namespace Jvm.Pilot.@@N@@
open Jvm Jvm.ClassFile Sem Op Lib Jvm.Free Jvm.Stand Jvm.LawKit Jvm.RoadKit Bundle Jvm.Pilot.@@N@@.Jvm.D
set_option maxRecDepth 65536
set_option maxHeartbeats 40000000
section OwnKit
open Jvm.FP Jvm.Free.Fl
/-- what a walk's end is asked: the start, the texts interned meanwhile, Q of value and heap -/
abbrev GQ : Type := State × List String × (Option Value → Heap → Prop)
variable {p : Program} {l : Launch} {e : Env} {R : Room} {s : State} {m : MethodId} {args : Array Value} {below : List Frame} {meth : Method} {c : Code} {T : State} {Z : State} {a0 : Array Value} {h h' : Heap} {n0 n1 cells slots nc ns pc pc' : Nat} {Ls : Array Slot} {st rest : List Value} {Q : GQ} {Ts Ts' : List String} {Lt : List (String × Nat × Addr)} {vm0 : Vm}
/-- a contract: the method returns, what it leaves is Q, nothing below n0 is written, only texts of Ts' are interned -/
def Con (l : Launch) (Z : State) (n0 : Nat) (Ts Ts' : List String) (y : MethodName) (bytes : ByteArray) (ml : Nat) (ret : Option FieldType) (ws : List Jvm.Cond) (rm : Room) (as : Array Value) (h0 : Heap) (Q : Option Value → Heap → Prop) : Prop :=
  MetFree l y (head1 (Jvm.Cond.code y bytes ml ret :: ws) rm) (fun a U => a = as ∧ Z.Warmed39 U.vm ∧ U.heap = h0 ∧ IB Z U.vm Ts) (fun _ _ _ _ _ => True) (fun _ U o U' => ∃ v L, o = .returned v ∧ (Fr n0 L ∧ Q v U'.heap ∧ IB Z U'.vm Ts') ∧ ReturnedEndW U o U' L rm.cells rm.slots)
/-- the tables at hand: grown from the true start, the texts interned, the constants resolved -/
abbrev Bs (Z s : State) (vm0 : Vm) (h : Heap) (Ts : List String) (Lt : List (String × Nat × Addr)) : Prop :=
  (∃ k0, s.Since vm0 k0 ∧ k0 ≤ h.size) ∧ IB Z vm0 Ts ∧ ∀ q ∈ Lt, Lit (s.setVm vm0) q.1 q.2.1 q.2.2
theorem Bs.ib (B : Bs Z s vm0 h Ts Lt) : IB Z vm0 Ts := B.2.1
theorem Bs.lt (B : Bs Z s vm0 h Ts Lt) : ∀ q ∈ Lt, Lit (s.setVm vm0) q.1 q.2.1 q.2.2 := B.2.2
theorem Bs.grow (B : Bs Z s vm0 h Ts Lt) (q : h.size ≤ h'.size) : Bs Z s vm0 h' Ts Lt := by
  obtain ⟨⟨k0, a, b⟩, i, t⟩ := B; exact ⟨⟨k0, a, Nat.le_trans b q⟩, i, t⟩
theorem Bs.hZ (B : Bs Z s vm0 h Ts Lt) (hZ : Z.Warmed39 s.vm) : Z.Warmed39 (s.setVm vm0).vm := by
  obtain ⟨⟨k0, a, b⟩, i, t⟩ := B; exact State.Warmed39.trans hZ a.1
theorem Bs.fc (B : Bs Z s vm0 h Ts Lt) {own : String} {k : ClassId} (hown : s.vm.findClass own = some k) : (s.setVm vm0).vm.findClass own = some k := by
  obtain ⟨⟨k0, a, b⟩, i, t⟩ := B
  show vm0.findClass own = some k
  rw [a.1.alike.findClass]; exact hown
theorem Bs.call {vm1 : Vm} (B : Bs Z s vm0 h Ts Lt) {n : Nat} (hS : (s.setVm vm0).Since vm1 n) (hn : h.size ≤ n) (hn' : n ≤ h'.size) (I : IB Z vm1 Ts') : Bs Z s vm1 h' Ts' Lt := by
  obtain ⟨⟨k0, a, b⟩, i, t⟩ := B
  exact ⟨⟨n, a.trans hS (Nat.le_trans b hn), hn'⟩, I, fun q hq => Lit.stays (t q hq) hS.1⟩
/-- where a walk stands, the places written kept to themselves -/
def Wk (p : Program) (l : Launch) (e : Env) (R : Room) (s : State) (m : MethodId) (args : Array Value) (below : List Frame) (meth : Method) (c : Code) (n1 : Nat) (Z : State) (Ts : List String) (Lt : List (String × Nat × Addr)) (T : State) (h : Heap) (cells slots : Nat) : Prop :=
  ∃ locs vm0, Stand p l e R (s.setVm vm0) m args below meth c T locs cells slots ∧ Fr n1 locs ∧ T.heap = h ∧ Bs Z s vm0 h Ts Lt
/-- from t the run ends, and leaves Q -/
def Go (p : Program) (e : Env) (below : List Frame) (s : State) (n0 : Nat) (Q : GQ) (nc ns : Nat) (t : State) : Prop :=
  ∃ s₂ o, Steps p.tables e below t s₂ ∧ s₂.status = .running ∧ Ended s₂ below o ∧ ∃ v L, o = .returned v ∧ (Fr n0 L ∧ Q.2.2 v s₂.heap ∧ IB Q.1 s₂.vm Q.2.1) ∧ ReturnedEndW s o s₂ L nc ns
theorem Wk.here (X : Wk p l e R s m args below meth c n1 Z Ts Lt T h cells slots) : At T m c below := by obtain ⟨_, _, X, -⟩ := X; exact X.here
theorem Wk.heap (X : Wk p l e R s m args below meth c n1 Z Ts Lt T h cells slots) : T.heap = h := by obtain ⟨_, _, -, -, q, -⟩ := X; exact q
theorem Wk.low (X : Wk p l e R s m args below meth c n1 Z Ts Lt T h cells slots) (q : n0 ≤ n1) : Wk p l e R s m args below meth c n0 Z Ts Lt T h cells slots := by
  obtain ⟨locs, vm0, X, N, r⟩ := X; exact ⟨locs, vm0, X, fun y hy => Nat.le_trans q (N y hy), r⟩
theorem go_back {t t' : State} (b : ∀ target, Steps p.tables e below t' target → Steps p.tables e below t target) (k : Go p e below s n0 Q nc ns t') : Go p e below s n0 Q nc ns t := by
  obtain ⟨u, o, h1, r⟩ := k
  exact ⟨u, o, b u h1, r⟩
theorem con_start {y : MethodName} {bytes : ByteArray} {ml : Nat} {ret : Option FieldType} {ws : List Jvm.Cond} {rm : Room} {as : Array Value} {h0 : Heap} {Qv : Option Value → Heap → Prop} {fr0 : MethodId → JFrame}
    (k : ∀ (p : Program) (e : Env) (s : State) (m : MethodId) (below : List Frame) (meth : Method) (c : Code) (s₁ : State), p.tables.exec = Jvm.exec → Z.Warmed39 s.vm → c.code = bytes → c.maxLocals = ml → s.vm.findClass y.cls = some m.cls → meth.name = y.name → meth.sig.returnType = ret → meth.locks = false →
      s.heap = h0 → (∀ n1, Wk p l e rm s m as below meth c n1 Z Ts [] s₁ h0 0 0) → Go p e below s n0 ⟨Z, Ts', Qv⟩ rm.cells rm.slots (s₁.setTop (fr0 m)))
    (hpl : plainFor y = true := by exact plainFor_of_name (by first | (simp [plainName, overriddenIn]; done) | decide +kernel)) (hfr : ∀ m, entryFrame m as ml = fr0 m := by intro m; first | (simp [entryFrame, mkF, argsToLocals, Value.category]; done) | rfl) : Con l Z n0 Ts Ts' y bytes ml ret ws rm as h0 Qv := by
  refine MetFree.of_bodySF hpl hisR ?_
  intro p e s m args below meth c s₁ Bd hml0 hP hK
  obtain ⟨rfl, hZ, hh, hI⟩ := hP
  rw [hfr]
  exact k p e s m below meth c s₁ Bd.exec hZ Bd.bytes hml0 (findClass_of_methodNamed Bd.named) (name_of_methodNamed Bd.named Bd.method).1 Bd.returns Bd.notSynchronized hh
    (fun n1 => ⟨[], s.vm, Stand.of_body Bd, Fr.nil n1, by rw [← hh, Bd.state]; rfl, ⟨⟨0, (State.WarmedH.refl s).since 0, Nat.zero_le _⟩, hI, fun q hq => nomatch hq⟩⟩)
/-- what an int branch asks -/
def cP : ClassFile.Cond → Int32 → Int32 → Prop
  | .eq, x, y => x = y
  | .ne, x, y => ¬ x = y
  | .lt, x, y => x < y
  | .ge, x, y => ¬ x < y
  | .gt, x, y => y < x
  | .le, x, y => ¬ y < x
theorem cP_yes {cd : ClassFile.Cond} {x y : Int32} (q : cP cd x y) : if_icmp.holds cd x y = true := by
  cases cd
  · exact (teq q).1
  · exact (feq q).2
  · exact (tlt q).1
  · exact (flt q).2.1
  · exact (tlt q).2.2.1
  · exact (flt q).2.2.2
theorem cP_no {cd : ClassFile.Cond} {x y : Int32} (q : ¬ cP cd x y) : if_icmp.holds cd x y = false := by
  cases cd
  · exact (feq q).1
  · exact (teq (Classical.not_not.mp q)).2
  · exact (flt q).1
  · exact (tlt (Classical.not_not.mp q)).2.1
  · exact (flt q).2.2.1
  · exact (tlt (Classical.not_not.mp q)).2.2.2
theorem g_iload (X : Wk p l e R s m args below meth c n1 Z Ts Lt T h cells slots) (hx : p.tables.exec = Jvm.exec) {k : Nat} {v : Int32} (hp : pc + 2 = pc') (hd : decode c.code pc = .ok (.iload k, 2)) (hl : Ls[k]? = some (.val (.int v))) (k : Go p e below s n0 Q nc ns (T.setTop (mkF m pc' Ls (.int v :: st)))) : Go p e below s n0 Q nc ns (T.setTop (mkF m pc Ls (st))) := by
  subst hp; exact go_back (fun _ j => XS.iload X.here hx rfl hd hl j) k
theorem g_iloadN (X : Wk p l e R s m args below meth c n1 Z Ts Lt T h cells slots) (hx : p.tables.exec = Jvm.exec) {k : Fin 4} {v : Int32} (hp : pc + 1 = pc') (hd : decode c.code pc = .ok (.iload_n k, 1)) (hl : Ls[k.val]? = some (.val (.int v))) (k : Go p e below s n0 Q nc ns (T.setTop (mkF m pc' Ls (.int v :: st)))) : Go p e below s n0 Q nc ns (T.setTop (mkF m pc Ls (st))) := by
  subst hp; exact go_back (fun _ j => XS.iloadN X.here hx rfl hd hl j) k
theorem g_istore (X : Wk p l e R s m args below meth c n1 Z Ts Lt T h cells slots) (hx : p.tables.exec = Jvm.exec) {k : Nat} {x : Int32} {l' : Array Slot} (hp : pc + 2 = pc') (hd : decode c.code pc = .ok (.istore k, 2)) (hl : storeLocals Ls k (.int x) = some l') (k : Go p e below s n0 Q nc ns (T.setTop (mkF m pc' l' (rest)))) : Go p e below s n0 Q nc ns (T.setTop (mkF m pc Ls (.int x :: rest))) := by
  subst hp; exact go_back (fun _ j => XS.istore X.here hx rfl hd rfl hl j) k
theorem g_istoreN (X : Wk p l e R s m args below meth c n1 Z Ts Lt T h cells slots) (hx : p.tables.exec = Jvm.exec) {k : Fin 4} {x : Int32} {l' : Array Slot} (hp : pc + 1 = pc') (hd : decode c.code pc = .ok (.istore_n k, 1)) (hl : storeLocals Ls k.val (.int x) = some l') (k : Go p e below s n0 Q nc ns (T.setTop (mkF m pc' l' (rest)))) : Go p e below s n0 Q nc ns (T.setTop (mkF m pc Ls (.int x :: rest))) := by
  subst hp; exact go_back (fun _ j => XS.istoreN X.here hx rfl hd rfl hl j) k
theorem g_absI {x : Int32} (k : ∀ z : Int32, z = x → Go p e below s n0 Q nc ns (T.setTop (mkF m pc Ls (.int z :: rest)))) : Go p e below s n0 Q nc ns (T.setTop (mkF m pc Ls (.int x :: rest))) := k x rfl
theorem g_lload (X : Wk p l e R s m args below meth c n1 Z Ts Lt T h cells slots) (hx : p.tables.exec = Jvm.exec) {k : Nat} {v : Int64} (hp : pc + 2 = pc') (hd : decode c.code pc = .ok (.lload k, 2)) (hl : Ls[k]? = some (.val (.long v))) (k : Go p e below s n0 Q nc ns (T.setTop (mkF m pc' Ls (.long v :: st)))) : Go p e below s n0 Q nc ns (T.setTop (mkF m pc Ls (st))) := by
  subst hp; exact go_back (fun _ j => XS.lload X.here hx rfl hd hl j) k
theorem g_lloadN (X : Wk p l e R s m args below meth c n1 Z Ts Lt T h cells slots) (hx : p.tables.exec = Jvm.exec) {k : Fin 4} {v : Int64} (hp : pc + 1 = pc') (hd : decode c.code pc = .ok (.lload_n k, 1)) (hl : Ls[k.val]? = some (.val (.long v))) (k : Go p e below s n0 Q nc ns (T.setTop (mkF m pc' Ls (.long v :: st)))) : Go p e below s n0 Q nc ns (T.setTop (mkF m pc Ls (st))) := by
  subst hp; exact go_back (fun _ j => XS.lloadN X.here hx rfl hd hl j) k
theorem g_lstore (X : Wk p l e R s m args below meth c n1 Z Ts Lt T h cells slots) (hx : p.tables.exec = Jvm.exec) {k : Nat} {x : Int64} {l' : Array Slot} (hp : pc + 2 = pc') (hd : decode c.code pc = .ok (.lstore k, 2)) (hl : storeLocals Ls k (.long x) = some l') (k : Go p e below s n0 Q nc ns (T.setTop (mkF m pc' l' (rest)))) : Go p e below s n0 Q nc ns (T.setTop (mkF m pc Ls (.long x :: rest))) := by
  subst hp; exact go_back (fun _ j => XS.lstore X.here hx rfl hd rfl hl j) k
theorem g_lstoreN (X : Wk p l e R s m args below meth c n1 Z Ts Lt T h cells slots) (hx : p.tables.exec = Jvm.exec) {k : Fin 4} {x : Int64} {l' : Array Slot} (hp : pc + 1 = pc') (hd : decode c.code pc = .ok (.lstore_n k, 1)) (hl : storeLocals Ls k.val (.long x) = some l') (k : Go p e below s n0 Q nc ns (T.setTop (mkF m pc' l' (rest)))) : Go p e below s n0 Q nc ns (T.setTop (mkF m pc Ls (.long x :: rest))) := by
  subst hp; exact go_back (fun _ j => XS.lstoreN X.here hx rfl hd rfl hl j) k
theorem g_absL {x : Int64} (k : ∀ z : Int64, z = x → Go p e below s n0 Q nc ns (T.setTop (mkF m pc Ls (.long z :: rest)))) : Go p e below s n0 Q nc ns (T.setTop (mkF m pc Ls (.long x :: rest))) := k x rfl
theorem g_dload (X : Wk p l e R s m args below meth c n1 Z Ts Lt T h cells slots) (hx : p.tables.exec = Jvm.exec) {k : Nat} {v : UInt64} (hp : pc + 2 = pc') (hd : decode c.code pc = .ok (.dload k, 2)) (hl : Ls[k]? = some (.val (.double v))) (k : Go p e below s n0 Q nc ns (T.setTop (mkF m pc' Ls (.double v :: st)))) : Go p e below s n0 Q nc ns (T.setTop (mkF m pc Ls (st))) := by
  subst hp; exact go_back (fun _ j => XS.dload X.here hx rfl hd hl j) k
theorem g_dloadN (X : Wk p l e R s m args below meth c n1 Z Ts Lt T h cells slots) (hx : p.tables.exec = Jvm.exec) {k : Fin 4} {v : UInt64} (hp : pc + 1 = pc') (hd : decode c.code pc = .ok (.dload_n k, 1)) (hl : Ls[k.val]? = some (.val (.double v))) (k : Go p e below s n0 Q nc ns (T.setTop (mkF m pc' Ls (.double v :: st)))) : Go p e below s n0 Q nc ns (T.setTop (mkF m pc Ls (st))) := by
  subst hp; exact go_back (fun _ j => XS.dloadN X.here hx rfl hd hl j) k
theorem g_dstore (X : Wk p l e R s m args below meth c n1 Z Ts Lt T h cells slots) (hx : p.tables.exec = Jvm.exec) {k : Nat} {x : UInt64} {l' : Array Slot} (hp : pc + 2 = pc') (hd : decode c.code pc = .ok (.dstore k, 2)) (hl : storeLocals Ls k (.double x) = some l') (k : Go p e below s n0 Q nc ns (T.setTop (mkF m pc' l' (rest)))) : Go p e below s n0 Q nc ns (T.setTop (mkF m pc Ls (.double x :: rest))) := by
  subst hp; exact go_back (fun _ j => XS.dstore X.here hx rfl hd rfl hl j) k
theorem g_dstoreN (X : Wk p l e R s m args below meth c n1 Z Ts Lt T h cells slots) (hx : p.tables.exec = Jvm.exec) {k : Fin 4} {x : UInt64} {l' : Array Slot} (hp : pc + 1 = pc') (hd : decode c.code pc = .ok (.dstore_n k, 1)) (hl : storeLocals Ls k.val (.double x) = some l') (k : Go p e below s n0 Q nc ns (T.setTop (mkF m pc' l' (rest)))) : Go p e below s n0 Q nc ns (T.setTop (mkF m pc Ls (.double x :: rest))) := by
  subst hp; exact go_back (fun _ j => XS.dstoreN X.here hx rfl hd rfl hl j) k
theorem g_absD {x : UInt64} (k : ∀ z : UInt64, z = x → Go p e below s n0 Q nc ns (T.setTop (mkF m pc Ls (.double z :: rest)))) : Go p e below s n0 Q nc ns (T.setTop (mkF m pc Ls (.double x :: rest))) := k x rfl
theorem g_aload (X : Wk p l e R s m args below meth c n1 Z Ts Lt T h cells slots) (hx : p.tables.exec = Jvm.exec) {k : Nat} {v : Value} (hp : pc + 2 = pc') (hd : decode c.code pc = .ok (.aload k, 2)) (hl : Ls[k]? = some (.val v)) (hv : v.isRef = true) (k : Go p e below s n0 Q nc ns (T.setTop (mkF m pc' Ls (v :: st)))) : Go p e below s n0 Q nc ns (T.setTop (mkF m pc Ls (st))) := by
  subst hp; exact go_back (fun _ j => XS.aload X.here hx rfl hd hl hv j) k
theorem g_aloadN (X : Wk p l e R s m args below meth c n1 Z Ts Lt T h cells slots) (hx : p.tables.exec = Jvm.exec) {k : Fin 4} {v : Value} (hp : pc + 1 = pc') (hd : decode c.code pc = .ok (.aload_n k, 1)) (hl : Ls[k.val]? = some (.val v)) (hv : v.isRef = true) (k : Go p e below s n0 Q nc ns (T.setTop (mkF m pc' Ls (v :: st)))) : Go p e below s n0 Q nc ns (T.setTop (mkF m pc Ls (st))) := by
  subst hp; exact go_back (fun _ j => XS.aloadN X.here hx rfl hd hl hv j) k
theorem g_astore (X : Wk p l e R s m args below meth c n1 Z Ts Lt T h cells slots) (hx : p.tables.exec = Jvm.exec) {k : Nat} {x : Value} {l' : Array Slot} (hp : pc + 2 = pc') (hd : decode c.code pc = .ok (.astore k, 2)) (hv : x.isRef = true) (hl : storeLocals Ls k x = some l') (k : Go p e below s n0 Q nc ns (T.setTop (mkF m pc' l' (rest)))) : Go p e below s n0 Q nc ns (T.setTop (mkF m pc Ls (x :: rest))) := by
  subst hp; exact go_back (fun _ j => XS.astore X.here hx rfl hd rfl hv hl j) k
theorem g_astoreN (X : Wk p l e R s m args below meth c n1 Z Ts Lt T h cells slots) (hx : p.tables.exec = Jvm.exec) {k : Fin 4} {x : Value} {l' : Array Slot} (hp : pc + 1 = pc') (hd : decode c.code pc = .ok (.astore_n k, 1)) (hv : x.isRef = true) (hl : storeLocals Ls k.val x = some l') (k : Go p e below s n0 Q nc ns (T.setTop (mkF m pc' l' (rest)))) : Go p e below s n0 Q nc ns (T.setTop (mkF m pc Ls (x :: rest))) := by
  subst hp; exact go_back (fun _ j => XS.astoreN X.here hx rfl hd rfl hv hl j) k
theorem g_iconst (X : Wk p l e R s m args below meth c n1 Z Ts Lt T h cells slots) (hx : p.tables.exec = Jvm.exec) {i : Int} {z : Int32} (hp : pc + 1 = pc') (hd : decode c.code pc = .ok (.iconst i, 1)) (hz : Int32.ofInt i = z) (k : Go p e below s n0 Q nc ns (T.setTop (mkF m pc' Ls (.int z :: st)))) : Go p e below s n0 Q nc ns (T.setTop (mkF m pc Ls (st))) := by
  subst hp; exact go_back (fun _ j => XS.iconst X.here hx rfl hd (show Steps _ _ _ (T.setTop (mkF m (pc + 1) Ls (.int (Int32.ofInt i) :: st))) _ from hz ▸ j)) k
theorem g_bipush (X : Wk p l e R s m args below meth c n1 Z Ts Lt T h cells slots) (hx : p.tables.exec = Jvm.exec) {i : Int} {z : Int32} (hp : pc + 2 = pc') (hd : decode c.code pc = .ok (.bipush i, 2)) (hz : (Int8.ofInt i).toInt32 = z) (k : Go p e below s n0 Q nc ns (T.setTop (mkF m pc' Ls (.int z :: st)))) : Go p e below s n0 Q nc ns (T.setTop (mkF m pc Ls (st))) := by
  subst hp; exact go_back (fun _ j => XS.bipush X.here hx rfl hd (show Steps _ _ _ (T.setTop (mkF m (pc + 2) Ls (.int (Int8.ofInt i).toInt32 :: st))) _ from hz ▸ j)) k
theorem g_sipush (X : Wk p l e R s m args below meth c n1 Z Ts Lt T h cells slots) (hx : p.tables.exec = Jvm.exec) {i : Int} {z : Int32} (hp : pc + 3 = pc') (hd : decode c.code pc = .ok (.sipush i, 3)) (hz : (Int16.ofInt i).toInt32 = z) (k : Go p e below s n0 Q nc ns (T.setTop (mkF m pc' Ls (.int z :: st)))) : Go p e below s n0 Q nc ns (T.setTop (mkF m pc Ls (st))) := by
  subst hp; exact go_back (fun _ j => XS.sipush X.here hx rfl hd (show Steps _ _ _ (T.setTop (mkF m (pc + 3) Ls (.int (Int16.ofInt i).toInt32 :: st))) _ from hz ▸ j)) k
theorem g_lconst (X : Wk p l e R s m args below meth c n1 Z Ts Lt T h cells slots) (hx : p.tables.exec = Jvm.exec) {i : Fin 2} {z : Int64} (hp : pc + 1 = pc') (hd : decode c.code pc = .ok (.lconst i, 1)) (hz : Int64.ofNat i = z) (k : Go p e below s n0 Q nc ns (T.setTop (mkF m pc' Ls (.long z :: st)))) : Go p e below s n0 Q nc ns (T.setTop (mkF m pc Ls (st))) := by
  subst hp; exact go_back (fun _ j => XS.lconst X.here hx rfl hd (show Steps _ _ _ (T.setTop (mkF m (pc + 1) Ls (.long (Int64.ofNat i) :: st))) _ from hz ▸ j)) k
theorem g_dconst0 (X : Wk p l e R s m args below meth c n1 Z Ts Lt T h cells slots) (hx : p.tables.exec = Jvm.exec)  (hp : pc + 1 = pc') (hd : decode c.code pc = .ok (.dconst 0, 1))  (k : Go p e below s n0 Q nc ns (T.setTop (mkF m pc' Ls (.double 0 :: st)))) : Go p e below s n0 Q nc ns (T.setTop (mkF m pc Ls (st))) := by
  subst hp; exact go_back (fun _ j => XS.dconst0 X.here hx rfl hd rfl j) k
theorem g_dconst1 (X : Wk p l e R s m args below meth c n1 Z Ts Lt T h cells slots) (hx : p.tables.exec = Jvm.exec)  (hp : pc + 1 = pc') (hd : decode c.code pc = .ok (.dconst 1, 1))  (k : Go p e below s n0 Q nc ns (T.setTop (mkF m pc' Ls (.double 4607182418800017408 :: st)))) : Go p e below s n0 Q nc ns (T.setTop (mkF m pc Ls (st))) := by
  subst hp; exact go_back (fun _ j => XS.dconst1 X.here hx rfl hd rfl j) k
theorem g_aconst_null (X : Wk p l e R s m args below meth c n1 Z Ts Lt T h cells slots) (hx : p.tables.exec = Jvm.exec)  (hp : pc + 1 = pc') (hd : decode c.code pc = .ok (.aconst_null, 1))  (k : Go p e below s n0 Q nc ns (T.setTop (mkF m pc' Ls (.null :: st)))) : Go p e below s n0 Q nc ns (T.setTop (mkF m pc Ls (st))) := by
  subst hp; exact go_back (fun _ j => XS.aconstNull X.here hx rfl hd j) k
theorem g_iadd (X : Wk p l e R s m args below meth c n1 Z Ts Lt T h cells slots) (hx : p.tables.exec = Jvm.exec) {x y : Int32} (hp : pc + 1 = pc') (hd : decode c.code pc = .ok (.iadd, 1))  (k : Go p e below s n0 Q nc ns (T.setTop (mkF m pc' Ls (.int (x + y) :: rest)))) : Go p e below s n0 Q nc ns (T.setTop (mkF m pc Ls (.int y :: .int x :: rest))) := by
  subst hp; exact go_back (fun _ j => XS.iadd X.here hx rfl hd rfl j) k
theorem g_ladd (X : Wk p l e R s m args below meth c n1 Z Ts Lt T h cells slots) (hx : p.tables.exec = Jvm.exec) {x y : Int64} (hp : pc + 1 = pc') (hd : decode c.code pc = .ok (.ladd, 1))  (k : Go p e below s n0 Q nc ns (T.setTop (mkF m pc' Ls (.long (x + y) :: rest)))) : Go p e below s n0 Q nc ns (T.setTop (mkF m pc Ls (.long y :: .long x :: rest))) := by
  subst hp; exact go_back (fun _ j => XS.ladd X.here hx rfl hd rfl j) k
theorem g_isub (X : Wk p l e R s m args below meth c n1 Z Ts Lt T h cells slots) (hx : p.tables.exec = Jvm.exec) {x y : Int32} (hp : pc + 1 = pc') (hd : decode c.code pc = .ok (.isub, 1))  (k : Go p e below s n0 Q nc ns (T.setTop (mkF m pc' Ls (.int (x - y) :: rest)))) : Go p e below s n0 Q nc ns (T.setTop (mkF m pc Ls (.int y :: .int x :: rest))) := by
  subst hp; exact go_back (fun _ j => XS.isub X.here hx rfl hd rfl j) k
theorem g_lsub (X : Wk p l e R s m args below meth c n1 Z Ts Lt T h cells slots) (hx : p.tables.exec = Jvm.exec) {x y : Int64} (hp : pc + 1 = pc') (hd : decode c.code pc = .ok (.lsub, 1))  (k : Go p e below s n0 Q nc ns (T.setTop (mkF m pc' Ls (.long (x - y) :: rest)))) : Go p e below s n0 Q nc ns (T.setTop (mkF m pc Ls (.long y :: .long x :: rest))) := by
  subst hp; exact go_back (fun _ j => XS.lsub X.here hx rfl hd rfl j) k
theorem g_imul (X : Wk p l e R s m args below meth c n1 Z Ts Lt T h cells slots) (hx : p.tables.exec = Jvm.exec) {x y : Int32} (hp : pc + 1 = pc') (hd : decode c.code pc = .ok (.imul, 1))  (k : Go p e below s n0 Q nc ns (T.setTop (mkF m pc' Ls (.int (x * y) :: rest)))) : Go p e below s n0 Q nc ns (T.setTop (mkF m pc Ls (.int y :: .int x :: rest))) := by
  subst hp; exact go_back (fun _ j => XS.imul X.here hx rfl hd rfl j) k
theorem g_lmul (X : Wk p l e R s m args below meth c n1 Z Ts Lt T h cells slots) (hx : p.tables.exec = Jvm.exec) {x y : Int64} (hp : pc + 1 = pc') (hd : decode c.code pc = .ok (.lmul, 1))  (k : Go p e below s n0 Q nc ns (T.setTop (mkF m pc' Ls (.long (x * y) :: rest)))) : Go p e below s n0 Q nc ns (T.setTop (mkF m pc Ls (.long y :: .long x :: rest))) := by
  subst hp; exact go_back (fun _ j => XS.lmul X.here hx rfl hd rfl j) k
theorem g_iand (X : Wk p l e R s m args below meth c n1 Z Ts Lt T h cells slots) (hx : p.tables.exec = Jvm.exec) {x y : Int32} (hp : pc + 1 = pc') (hd : decode c.code pc = .ok (.iand, 1))  (k : Go p e below s n0 Q nc ns (T.setTop (mkF m pc' Ls (.int (x &&& y) :: rest)))) : Go p e below s n0 Q nc ns (T.setTop (mkF m pc Ls (.int y :: .int x :: rest))) := by
  subst hp; exact go_back (fun _ j => XS.iand X.here hx rfl hd rfl j) k
theorem g_land (X : Wk p l e R s m args below meth c n1 Z Ts Lt T h cells slots) (hx : p.tables.exec = Jvm.exec) {x y : Int64} (hp : pc + 1 = pc') (hd : decode c.code pc = .ok (.land, 1))  (k : Go p e below s n0 Q nc ns (T.setTop (mkF m pc' Ls (.long (x &&& y) :: rest)))) : Go p e below s n0 Q nc ns (T.setTop (mkF m pc Ls (.long y :: .long x :: rest))) := by
  subst hp; exact go_back (fun _ j => XS.land X.here hx rfl hd rfl j) k
theorem g_ior (X : Wk p l e R s m args below meth c n1 Z Ts Lt T h cells slots) (hx : p.tables.exec = Jvm.exec) {x y : Int32} (hp : pc + 1 = pc') (hd : decode c.code pc = .ok (.ior, 1))  (k : Go p e below s n0 Q nc ns (T.setTop (mkF m pc' Ls (.int (x ||| y) :: rest)))) : Go p e below s n0 Q nc ns (T.setTop (mkF m pc Ls (.int y :: .int x :: rest))) := by
  subst hp; exact go_back (fun _ j => XS.ior X.here hx rfl hd rfl j) k
theorem g_lor (X : Wk p l e R s m args below meth c n1 Z Ts Lt T h cells slots) (hx : p.tables.exec = Jvm.exec) {x y : Int64} (hp : pc + 1 = pc') (hd : decode c.code pc = .ok (.lor, 1))  (k : Go p e below s n0 Q nc ns (T.setTop (mkF m pc' Ls (.long (x ||| y) :: rest)))) : Go p e below s n0 Q nc ns (T.setTop (mkF m pc Ls (.long y :: .long x :: rest))) := by
  subst hp; exact go_back (fun _ j => XS.lor X.here hx rfl hd rfl j) k
theorem g_ixor (X : Wk p l e R s m args below meth c n1 Z Ts Lt T h cells slots) (hx : p.tables.exec = Jvm.exec) {x y : Int32} (hp : pc + 1 = pc') (hd : decode c.code pc = .ok (.ixor, 1))  (k : Go p e below s n0 Q nc ns (T.setTop (mkF m pc' Ls (.int (x ^^^ y) :: rest)))) : Go p e below s n0 Q nc ns (T.setTop (mkF m pc Ls (.int y :: .int x :: rest))) := by
  subst hp; exact go_back (fun _ j => XS.ixor X.here hx rfl hd rfl j) k
theorem g_lxor (X : Wk p l e R s m args below meth c n1 Z Ts Lt T h cells slots) (hx : p.tables.exec = Jvm.exec) {x y : Int64} (hp : pc + 1 = pc') (hd : decode c.code pc = .ok (.lxor, 1))  (k : Go p e below s n0 Q nc ns (T.setTop (mkF m pc' Ls (.long (x ^^^ y) :: rest)))) : Go p e below s n0 Q nc ns (T.setTop (mkF m pc Ls (.long y :: .long x :: rest))) := by
  subst hp; exact go_back (fun _ j => XS.lxor X.here hx rfl hd rfl j) k
theorem g_idiv (X : Wk p l e R s m args below meth c n1 Z Ts Lt T h cells slots) (hx : p.tables.exec = Jvm.exec) {x y : Int32} (hp : pc + 1 = pc') (hd : decode c.code pc = .ok (.idiv, 1)) (hy : y ≠ 0) (k : Go p e below s n0 Q nc ns (T.setTop (mkF m pc' Ls (.int (x / y) :: rest)))) : Go p e below s n0 Q nc ns (T.setTop (mkF m pc Ls (.int y :: .int x :: rest))) := by
  subst hp; exact go_back (fun _ j => XS.idiv X.here hx rfl hd rfl hy j) k
theorem g_irem (X : Wk p l e R s m args below meth c n1 Z Ts Lt T h cells slots) (hx : p.tables.exec = Jvm.exec) {x y : Int32} (hp : pc + 1 = pc') (hd : decode c.code pc = .ok (.irem, 1)) (hy : y ≠ 0) (k : Go p e below s n0 Q nc ns (T.setTop (mkF m pc' Ls (.int (x % y) :: rest)))) : Go p e below s n0 Q nc ns (T.setTop (mkF m pc Ls (.int y :: .int x :: rest))) := by
  subst hp; obtain ⟨_, _, X, -⟩ := X; exact go_back (fun _ j => iremM X hx (g := mkF m pc Ls (.int y :: .int x :: rest)) rfl hd rfl hy j) k
theorem g_ldiv (X : Wk p l e R s m args below meth c n1 Z Ts Lt T h cells slots) (hx : p.tables.exec = Jvm.exec) {x y : Int64} (hp : pc + 1 = pc') (hd : decode c.code pc = .ok (.ldiv, 1)) (hy : y ≠ 0) (k : Go p e below s n0 Q nc ns (T.setTop (mkF m pc' Ls (.long (x / y) :: rest)))) : Go p e below s n0 Q nc ns (T.setTop (mkF m pc Ls (.long y :: .long x :: rest))) := by
  subst hp; exact go_back (fun _ j => XS.ldiv X.here hx rfl hd rfl hy j) k
theorem g_lrem (X : Wk p l e R s m args below meth c n1 Z Ts Lt T h cells slots) (hx : p.tables.exec = Jvm.exec) {x y : Int64} (hp : pc + 1 = pc') (hd : decode c.code pc = .ok (.lrem, 1)) (hy : y ≠ 0) (k : Go p e below s n0 Q nc ns (T.setTop (mkF m pc' Ls (.long (x - (x / y) * y) :: rest)))) : Go p e below s n0 Q nc ns (T.setTop (mkF m pc Ls (.long y :: .long x :: rest))) := by
  subst hp; exact go_back (fun _ j => XS.lrem X.here hx rfl hd rfl hy j) k
theorem g_ishl (X : Wk p l e R s m args below meth c n1 Z Ts Lt T h cells slots) (hx : p.tables.exec = Jvm.exec) {x y : Int32} (hp : pc + 1 = pc') (hd : decode c.code pc = .ok (.ishl, 1))  (k : Go p e below s n0 Q nc ns (T.setTop (mkF m pc' Ls (.int (x <<< (y &&& 31)) :: rest)))) : Go p e below s n0 Q nc ns (T.setTop (mkF m pc Ls (.int y :: .int x :: rest))) := by
  subst hp; exact go_back (fun _ j => XS.ishl X.here hx rfl hd rfl j) k
theorem g_ishr (X : Wk p l e R s m args below meth c n1 Z Ts Lt T h cells slots) (hx : p.tables.exec = Jvm.exec) {x y : Int32} (hp : pc + 1 = pc') (hd : decode c.code pc = .ok (.ishr, 1))  (k : Go p e below s n0 Q nc ns (T.setTop (mkF m pc' Ls (.int (x >>> (y &&& 31)) :: rest)))) : Go p e below s n0 Q nc ns (T.setTop (mkF m pc Ls (.int y :: .int x :: rest))) := by
  subst hp; exact go_back (fun _ j => XS.ishr X.here hx rfl hd rfl j) k
theorem g_iushr (X : Wk p l e R s m args below meth c n1 Z Ts Lt T h cells slots) (hx : p.tables.exec = Jvm.exec) {x y : Int32} (hp : pc + 1 = pc') (hd : decode c.code pc = .ok (.iushr, 1))  (k : Go p e below s n0 Q nc ns (T.setTop (mkF m pc' Ls (.int ((x.toUInt32 >>> (y &&& 31).toUInt32).toInt32) :: rest)))) : Go p e below s n0 Q nc ns (T.setTop (mkF m pc Ls (.int y :: .int x :: rest))) := by
  subst hp; exact go_back (fun _ j => XS.iushr X.here hx rfl hd rfl j) k
theorem g_lshl (X : Wk p l e R s m args below meth c n1 Z Ts Lt T h cells slots) (hx : p.tables.exec = Jvm.exec) {x : Int64} {y : Int32} (hp : pc + 1 = pc') (hd : decode c.code pc = .ok (.lshl, 1))  (k : Go p e below s n0 Q nc ns (T.setTop (mkF m pc' Ls (.long (x <<< (y &&& 0x3f).toInt64) :: rest)))) : Go p e below s n0 Q nc ns (T.setTop (mkF m pc Ls (.int y :: .long x :: rest))) := by
  subst hp; exact go_back (fun _ j => XS.lshl X.here hx rfl hd rfl j) k
theorem g_lshr (X : Wk p l e R s m args below meth c n1 Z Ts Lt T h cells slots) (hx : p.tables.exec = Jvm.exec) {x : Int64} {y : Int32} (hp : pc + 1 = pc') (hd : decode c.code pc = .ok (.lshr, 1))  (k : Go p e below s n0 Q nc ns (T.setTop (mkF m pc' Ls (.long (x >>> (y &&& 0x3f).toInt64) :: rest)))) : Go p e below s n0 Q nc ns (T.setTop (mkF m pc Ls (.int y :: .long x :: rest))) := by
  subst hp; exact go_back (fun _ j => XS.lshr X.here hx rfl hd rfl j) k
theorem g_lushr (X : Wk p l e R s m args below meth c n1 Z Ts Lt T h cells slots) (hx : p.tables.exec = Jvm.exec) {x : Int64} {y : Int32} (hp : pc + 1 = pc') (hd : decode c.code pc = .ok (.lushr, 1))  (k : Go p e below s n0 Q nc ns (T.setTop (mkF m pc' Ls (.long ((x.toUInt64 >>> (y &&& 0x3f).toInt64.toUInt64).toInt64) :: rest)))) : Go p e below s n0 Q nc ns (T.setTop (mkF m pc Ls (.int y :: .long x :: rest))) := by
  subst hp; exact go_back (fun _ j => XS.lushr X.here hx rfl hd rfl j) k
theorem g_ineg (X : Wk p l e R s m args below meth c n1 Z Ts Lt T h cells slots) (hx : p.tables.exec = Jvm.exec) {x : Int32} (hp : pc + 1 = pc') (hd : decode c.code pc = .ok (.ineg, 1))  (k : Go p e below s n0 Q nc ns (T.setTop (mkF m pc' Ls (.int (-x) :: rest)))) : Go p e below s n0 Q nc ns (T.setTop (mkF m pc Ls (.int x :: rest))) := by
  subst hp; exact go_back (fun _ j => XS.ineg X.here hx rfl hd rfl j) k
theorem g_lneg (X : Wk p l e R s m args below meth c n1 Z Ts Lt T h cells slots) (hx : p.tables.exec = Jvm.exec) {x : Int64} (hp : pc + 1 = pc') (hd : decode c.code pc = .ok (.lneg, 1))  (k : Go p e below s n0 Q nc ns (T.setTop (mkF m pc' Ls (.long (-x) :: rest)))) : Go p e below s n0 Q nc ns (T.setTop (mkF m pc Ls (.long x :: rest))) := by
  subst hp; exact go_back (fun _ j => XS.lneg X.here hx rfl hd rfl j) k
theorem g_i2l (X : Wk p l e R s m args below meth c n1 Z Ts Lt T h cells slots) (hx : p.tables.exec = Jvm.exec) {x : Int32} (hp : pc + 1 = pc') (hd : decode c.code pc = .ok (.i2l, 1))  (k : Go p e below s n0 Q nc ns (T.setTop (mkF m pc' Ls (.long x.toInt64 :: rest)))) : Go p e below s n0 Q nc ns (T.setTop (mkF m pc Ls (.int x :: rest))) := by
  subst hp; exact go_back (fun _ j => XS.i2l X.here hx rfl hd rfl j) k
theorem g_l2i (X : Wk p l e R s m args below meth c n1 Z Ts Lt T h cells slots) (hx : p.tables.exec = Jvm.exec) {x : Int64} (hp : pc + 1 = pc') (hd : decode c.code pc = .ok (.l2i, 1))  (k : Go p e below s n0 Q nc ns (T.setTop (mkF m pc' Ls (.int x.toInt32 :: rest)))) : Go p e below s n0 Q nc ns (T.setTop (mkF m pc Ls (.long x :: rest))) := by
  subst hp; exact go_back (fun _ j => XS.l2i X.here hx rfl hd rfl j) k
theorem g_i2b (X : Wk p l e R s m args below meth c n1 Z Ts Lt T h cells slots) (hx : p.tables.exec = Jvm.exec) {x : Int32} (hp : pc + 1 = pc') (hd : decode c.code pc = .ok (.i2b, 1))  (k : Go p e below s n0 Q nc ns (T.setTop (mkF m pc' Ls (.int x.toInt8.toInt32 :: rest)))) : Go p e below s n0 Q nc ns (T.setTop (mkF m pc Ls (.int x :: rest))) := by
  subst hp; exact go_back (fun _ j => XS.i2b X.here hx rfl hd rfl j) k
theorem g_i2s (X : Wk p l e R s m args below meth c n1 Z Ts Lt T h cells slots) (hx : p.tables.exec = Jvm.exec) {x : Int32} (hp : pc + 1 = pc') (hd : decode c.code pc = .ok (.i2s, 1))  (k : Go p e below s n0 Q nc ns (T.setTop (mkF m pc' Ls (.int x.toInt16.toInt32 :: rest)))) : Go p e below s n0 Q nc ns (T.setTop (mkF m pc Ls (.int x :: rest))) := by
  subst hp; exact go_back (fun _ j => XS.i2s X.here hx rfl hd rfl j) k
theorem g_i2c (X : Wk p l e R s m args below meth c n1 Z Ts Lt T h cells slots) (hx : p.tables.exec = Jvm.exec) {x : Int32} (hp : pc + 1 = pc') (hd : decode c.code pc = .ok (.i2c, 1))  (k : Go p e below s n0 Q nc ns (T.setTop (mkF m pc' Ls (.int x.toUInt32.toUInt16.toUInt32.toInt32 :: rest)))) : Go p e below s n0 Q nc ns (T.setTop (mkF m pc Ls (.int x :: rest))) := by
  subst hp; exact go_back (fun _ j => XS.i2c X.here hx rfl hd rfl j) k
theorem g_lcmp (X : Wk p l e R s m args below meth c n1 Z Ts Lt T h cells slots) (hx : p.tables.exec = Jvm.exec) {x y : Int64} (hp : pc + 1 = pc') (hd : decode c.code pc = .ok (.lcmp, 1))  (k : Go p e below s n0 Q nc ns (T.setTop (mkF m pc' Ls (.int (lcmpW x y) :: rest)))) : Go p e below s n0 Q nc ns (T.setTop (mkF m pc Ls (.long y :: .long x :: rest))) := by
  subst hp; exact go_back (fun _ j => XS.lcmp X.here hx rfl hd rfl j) k
theorem g_i2d (X : Wk p l e R s m args below meth c n1 Z Ts Lt T h cells slots) (hx : p.tables.exec = Jvm.exec) {x : Int32} (hp : pc + 1 = pc') (hd : decode c.code pc = .ok (.i2d, 1))  (k : Go p e below s n0 Q nc ns (T.setTop (mkF m pc' Ls (.double (FP.i2d x) :: rest)))) : Go p e below s n0 Q nc ns (T.setTop (mkF m pc Ls (.int x :: rest))) := by
  subst hp; exact go_back (fun _ j => XS.i2dS X.here hx rfl hd rfl rfl j) k
theorem g_l2d (X : Wk p l e R s m args below meth c n1 Z Ts Lt T h cells slots) (hx : p.tables.exec = Jvm.exec) {x : Int64} (hp : pc + 1 = pc') (hd : decode c.code pc = .ok (.l2d, 1))  (k : Go p e below s n0 Q nc ns (T.setTop (mkF m pc' Ls (.double (FP.l2d x) :: rest)))) : Go p e below s n0 Q nc ns (T.setTop (mkF m pc Ls (.long x :: rest))) := by
  subst hp; exact go_back (fun _ j => XS.l2dS X.here hx rfl hd rfl rfl j) k
theorem g_dneg (X : Wk p l e R s m args below meth c n1 Z Ts Lt T h cells slots) (hx : p.tables.exec = Jvm.exec) {x : UInt64} (hp : pc + 1 = pc') (hd : decode c.code pc = .ok (.dneg, 1))  (k : Go p e below s n0 Q nc ns (T.setTop (mkF m pc' Ls (.double (FP.dneg x) :: rest)))) : Go p e below s n0 Q nc ns (T.setTop (mkF m pc Ls (.double x :: rest))) := by
  subst hp; exact go_back (fun _ j => XS.dnegS X.here hx rfl hd rfl rfl j) k
theorem g_dcmp (X : Wk p l e R s m args below meth c n1 Z Ts Lt T h cells slots) (hx : p.tables.exec = Jvm.exec) {o : CmpOp} {x y : UInt64} {z : Int32} (hp : pc + 1 = pc') (hd : decode c.code pc = .ok (.dcmp o, 1)) (hz : cmpValue (FP.dcmp x y) o = z) (k : Go p e below s n0 Q nc ns (T.setTop (mkF m pc' Ls (.int z :: rest)))) : Go p e below s n0 Q nc ns (T.setTop (mkF m pc Ls (.double y :: .double x :: rest))) := by
  subst hp; exact go_back (fun _ j => XS.dcmpS X.here hx rfl hd rfl hz j) k
theorem g_dadd (X : Wk p l e R s m args below meth c n1 Z Ts Lt T h cells slots) (hx : p.tables.exec = Jvm.exec) {x y z : UInt64} (hp : pc + 1 = pc') (hd : decode c.code pc = .ok (.dadd, 1)) (hn : NoNaN64 (FP.dadd x y)) (hz : FP.dadd x y = z) (k : Go p e below s n0 Q nc ns (T.setTop (mkF m pc' Ls (.double z :: rest)))) : Go p e below s n0 Q nc ns (T.setTop (mkF m pc Ls (.double y :: .double x :: rest))) := by
  subst hp; exact go_back (fun _ j => XS.daddS X.here hx rfl hd rfl hn hz j) k
theorem g_dsub (X : Wk p l e R s m args below meth c n1 Z Ts Lt T h cells slots) (hx : p.tables.exec = Jvm.exec) {x y z : UInt64} (hp : pc + 1 = pc') (hd : decode c.code pc = .ok (.dsub, 1)) (hn : NoNaN64 (FP.dsub x y)) (hz : FP.dsub x y = z) (k : Go p e below s n0 Q nc ns (T.setTop (mkF m pc' Ls (.double z :: rest)))) : Go p e below s n0 Q nc ns (T.setTop (mkF m pc Ls (.double y :: .double x :: rest))) := by
  subst hp; exact go_back (fun _ j => XS.dsubS X.here hx rfl hd rfl hn hz j) k
theorem g_dmul (X : Wk p l e R s m args below meth c n1 Z Ts Lt T h cells slots) (hx : p.tables.exec = Jvm.exec) {x y z : UInt64} (hp : pc + 1 = pc') (hd : decode c.code pc = .ok (.dmul, 1)) (hn : NoNaN64 (FP.dmul x y)) (hz : FP.dmul x y = z) (k : Go p e below s n0 Q nc ns (T.setTop (mkF m pc' Ls (.double z :: rest)))) : Go p e below s n0 Q nc ns (T.setTop (mkF m pc Ls (.double y :: .double x :: rest))) := by
  subst hp; exact go_back (fun _ j => XS.dmulS X.here hx rfl hd rfl hn hz j) k
theorem g_ddiv (X : Wk p l e R s m args below meth c n1 Z Ts Lt T h cells slots) (hx : p.tables.exec = Jvm.exec) {x y z : UInt64} (hp : pc + 1 = pc') (hd : decode c.code pc = .ok (.ddiv, 1)) (hn : NoNaN64 (FP.ddiv x y)) (hz : FP.ddiv x y = z) (k : Go p e below s n0 Q nc ns (T.setTop (mkF m pc' Ls (.double z :: rest)))) : Go p e below s n0 Q nc ns (T.setTop (mkF m pc Ls (.double y :: .double x :: rest))) := by
  subst hp; exact go_back (fun _ j => XS.ddivS X.here hx rfl hd rfl hn hz j) k
theorem g_dup (X : Wk p l e R s m args below meth c n1 Z Ts Lt T h cells slots) (hx : p.tables.exec = Jvm.exec) {x : Value} (hp : pc + 1 = pc') (hd : decode c.code pc = .ok (.dup, 1)) (hc : x.category = 1) (k : Go p e below s n0 Q nc ns (T.setTop (mkF m pc' Ls (x :: x :: rest)))) : Go p e below s n0 Q nc ns (T.setTop (mkF m pc Ls (x :: rest))) := by
  subst hp; exact go_back (fun _ j => XS.dup X.here hx rfl hd rfl hc j) k
theorem g_dup_x1 (X : Wk p l e R s m args below meth c n1 Z Ts Lt T h cells slots) (hx : p.tables.exec = Jvm.exec) {x y : Value} (hp : pc + 1 = pc') (hd : decode c.code pc = .ok (.dup_x1, 1)) (hc : x.category = 1) (hc' : y.category = 1) (k : Go p e below s n0 Q nc ns (T.setTop (mkF m pc' Ls (x :: y :: x :: rest)))) : Go p e below s n0 Q nc ns (T.setTop (mkF m pc Ls (x :: y :: rest))) := by
  subst hp; exact go_back (fun _ j => XS.dupX1 X.here hx rfl hd rfl hc hc' j) k
theorem g_pop (X : Wk p l e R s m args below meth c n1 Z Ts Lt T h cells slots) (hx : p.tables.exec = Jvm.exec) {x : Value} (hp : pc + 1 = pc') (hd : decode c.code pc = .ok (.pop, 1)) (hc : x.category = 1) (k : Go p e below s n0 Q nc ns (T.setTop (mkF m pc' Ls (rest)))) : Go p e below s n0 Q nc ns (T.setTop (mkF m pc Ls (x :: rest))) := by
  subst hp; exact go_back (fun _ j => XS.pop X.here hx rfl hd rfl hc j) k
theorem g_dup2 (X : Wk p l e R s m args below meth c n1 Z Ts Lt T h cells slots) (hx : p.tables.exec = Jvm.exec) {x y : Value} (hp : pc + 1 = pc') (hd : decode c.code pc = .ok (.dup2, 1)) (hc : x.category = 1) (hc' : y.category = 1) (k : Go p e below s n0 Q nc ns (T.setTop (mkF m pc' Ls (x :: y :: x :: y :: rest)))) : Go p e below s n0 Q nc ns (T.setTop (mkF m pc Ls (x :: y :: rest))) := by
  subst hp; exact go_back (fun _ j => Jvm.Free.XT.dup2 X.here hx rfl hd rfl hc hc' j) k
theorem g_iinc (X : Wk p l e R s m args below meth c n1 Z Ts Lt T h cells slots) (hx : p.tables.exec = Jvm.exec) {k : Nat} {cst : Int} {x : Int32} {l' : Array Slot} (hp : pc + 3 = pc') (hd : decode c.code pc = .ok (.iinc k cst, 3)) (hl : Ls[k]? = some (.val (.int x))) (hl' : storeLocals Ls k (.int (x + Int32.ofInt cst)) = some l') (q : Go p e below s n0 Q nc ns (T.setTop (mkF m pc' l' st))) : Go p e below s n0 Q nc ns (T.setTop (mkF m pc Ls st)) := by
  subst hp; exact go_back (fun _ j => XS.iinc X.here hx rfl hd hl hl' j) q
theorem g_goto (X : Wk p l e R s m args below meth c n1 Z Ts Lt T h cells slots) (hx : p.tables.exec = Jvm.exec) {o : Int} (hd : decode c.code pc = .ok (.goto o, 3)) (ho : 0 ≤ (pc : Int) + o) (hp : ((pc : Int) + o).toNat = pc') (k : Go p e below s n0 Q nc ns (T.setTop (mkF m pc' Ls st))) : Go p e below s n0 Q nc ns (T.setTop (mkF m pc Ls st)) :=
  go_back (fun _ j => XS.goto X.here hx rfl rfl hd ho hp j) k
theorem g_ifY (X : Wk p l e R s m args below meth c n1 Z Ts Lt T h cells slots) (hx : p.tables.exec = Jvm.exec) {cd : ClassFile.Cond} {o : Int} {x : Int32} {pcY : Nat} (hd : decode c.code pc = .ok (.ifCond cd o, 3)) (ho : 0 ≤ (pc : Int) + o) (hY : ((pc : Int) + o).toNat = pcY) (q : cP cd x 0) (k : Go p e below s n0 Q nc ns (T.setTop (mkF m pcY Ls rest))) : Go p e below s n0 Q nc ns (T.setTop (mkF m pc Ls (.int x :: rest))) :=
  go_back (fun _ j => XS.ifYes X.here hx rfl rfl hd rfl ((if0 _ _).trans (cP_yes q)) ho hY j) k
theorem g_ifN (X : Wk p l e R s m args below meth c n1 Z Ts Lt T h cells slots) (hx : p.tables.exec = Jvm.exec) {cd : ClassFile.Cond} {o : Int} {x : Int32} {pcN : Nat} (hd : decode c.code pc = .ok (.ifCond cd o, 3)) (hN : pc + 3 = pcN) (q : ¬ cP cd x 0) (k : Go p e below s n0 Q nc ns (T.setTop (mkF m pcN Ls rest))) : Go p e below s n0 Q nc ns (T.setTop (mkF m pc Ls (.int x :: rest))) := by
  subst hN; exact go_back (fun _ j => XS.ifNo X.here hx rfl hd rfl ((if0 _ _).trans (cP_no q)) j) k
theorem g_if (X : Wk p l e R s m args below meth c n1 Z Ts Lt T h cells slots) (hx : p.tables.exec = Jvm.exec) {cd : ClassFile.Cond} {o : Int} {x : Int32} {pcY pcN : Nat} (hd : decode c.code pc = .ok (.ifCond cd o, 3)) (ho : 0 ≤ (pc : Int) + o) (hY : ((pc : Int) + o).toNat = pcY) (hN : pc + 3 = pcN) (kY : cP cd x 0 → Go p e below s n0 Q nc ns (T.setTop (mkF m pcY Ls rest))) (kN : ¬ cP cd x 0 → Go p e below s n0 Q nc ns (T.setTop (mkF m pcN Ls rest))) : Go p e below s n0 Q nc ns (T.setTop (mkF m pc Ls (.int x :: rest))) := by
  by_cases q : cP cd x 0
  · exact g_ifY X hx hd ho hY q (kY q)
  · exact g_ifN X hx hd hN q (kN q)
theorem g_icmpY (X : Wk p l e R s m args below meth c n1 Z Ts Lt T h cells slots) (hx : p.tables.exec = Jvm.exec) {cd : ClassFile.Cond} {o : Int} {x y : Int32} {pcY : Nat} (hd : decode c.code pc = .ok (.if_icmp cd o, 3)) (ho : 0 ≤ (pc : Int) + o) (hY : ((pc : Int) + o).toNat = pcY) (q : cP cd x y) (k : Go p e below s n0 Q nc ns (T.setTop (mkF m pcY Ls rest))) : Go p e below s n0 Q nc ns (T.setTop (mkF m pc Ls (.int y :: .int x :: rest))) :=
  go_back (fun _ j => XS.icmpYes X.here hx rfl rfl hd rfl (cP_yes q) ho hY j) k
theorem g_icmpN (X : Wk p l e R s m args below meth c n1 Z Ts Lt T h cells slots) (hx : p.tables.exec = Jvm.exec) {cd : ClassFile.Cond} {o : Int} {x y : Int32} {pcN : Nat} (hd : decode c.code pc = .ok (.if_icmp cd o, 3)) (hN : pc + 3 = pcN) (q : ¬ cP cd x y) (k : Go p e below s n0 Q nc ns (T.setTop (mkF m pcN Ls rest))) : Go p e below s n0 Q nc ns (T.setTop (mkF m pc Ls (.int y :: .int x :: rest))) := by
  subst hN; exact go_back (fun _ j => XS.icmpNo X.here hx rfl hd rfl (cP_no q) j) k
theorem g_icmp (X : Wk p l e R s m args below meth c n1 Z Ts Lt T h cells slots) (hx : p.tables.exec = Jvm.exec) {cd : ClassFile.Cond} {o : Int} {x y : Int32} {pcY pcN : Nat} (hd : decode c.code pc = .ok (.if_icmp cd o, 3)) (ho : 0 ≤ (pc : Int) + o) (hY : ((pc : Int) + o).toNat = pcY) (hN : pc + 3 = pcN) (kY : cP cd x y → Go p e below s n0 Q nc ns (T.setTop (mkF m pcY Ls rest))) (kN : ¬ cP cd x y → Go p e below s n0 Q nc ns (T.setTop (mkF m pcN Ls rest))) : Go p e below s n0 Q nc ns (T.setTop (mkF m pc Ls (.int y :: .int x :: rest))) := by
  by_cases q : cP cd x y
  · exact g_icmpY X hx hd ho hY q (kY q)
  · exact g_icmpN X hx hd hN q (kN q)
theorem g_ifnullY (X : Wk p l e R s m args below meth c n1 Z Ts Lt T h cells slots) (hx : p.tables.exec = Jvm.exec) {o : Int} {pcY : Nat} (hd : decode c.code pc = .ok (.ifnull o, 3)) (ho : 0 ≤ (pc : Int) + o) (hY : ((pc : Int) + o).toNat = pcY) (k : Go p e below s n0 Q nc ns (T.setTop (mkF m pcY Ls rest))) : Go p e below s n0 Q nc ns (T.setTop (mkF m pc Ls (.null :: rest))) :=
  go_back (fun _ j => XS.ifnullYes X.here hx rfl rfl hd rfl ho hY j) k
theorem g_ifnullN (X : Wk p l e R s m args below meth c n1 Z Ts Lt T h cells slots) (hx : p.tables.exec = Jvm.exec) {o : Int} {b : Addr} {pcN : Nat} (hd : decode c.code pc = .ok (.ifnull o, 3)) (hN : pc + 3 = pcN) (k : Go p e below s n0 Q nc ns (T.setTop (mkF m pcN Ls rest))) : Go p e below s n0 Q nc ns (T.setTop (mkF m pc Ls (.ref b :: rest))) := by
  subst hN; exact go_back (fun _ j => XS.ifnullNo X.here hx rfl hd rfl j) k
theorem g_ifnonnullY (X : Wk p l e R s m args below meth c n1 Z Ts Lt T h cells slots) (hx : p.tables.exec = Jvm.exec) {o : Int} {b : Addr} {pcY : Nat} (hd : decode c.code pc = .ok (.ifnonnull o, 3)) (ho : 0 ≤ (pc : Int) + o) (hY : ((pc : Int) + o).toNat = pcY) (k : Go p e below s n0 Q nc ns (T.setTop (mkF m pcY Ls rest))) : Go p e below s n0 Q nc ns (T.setTop (mkF m pc Ls (.ref b :: rest))) :=
  go_back (fun _ j => XS.ifnonnullYes X.here hx rfl rfl hd rfl ho hY j) k
theorem g_ifnonnullN (X : Wk p l e R s m args below meth c n1 Z Ts Lt T h cells slots) (hx : p.tables.exec = Jvm.exec) {o : Int} {pcN : Nat} (hd : decode c.code pc = .ok (.ifnonnull o, 3)) (hN : pc + 3 = pcN) (k : Go p e below s n0 Q nc ns (T.setTop (mkF m pcN Ls rest))) : Go p e below s n0 Q nc ns (T.setTop (mkF m pc Ls (.null :: rest))) := by
  subst hN; exact go_back (fun _ j => XS.ifnonnullNo X.here hx rfl hd rfl j) k
theorem g_normI {x z : Int32} (hz : x = z) (k : Go p e below s n0 Q nc ns (T.setTop (mkF m pc Ls (.int z :: rest)))) : Go p e below s n0 Q nc ns (T.setTop (mkF m pc Ls (.int x :: rest))) := hz ▸ k
theorem g_normD {x z : UInt64} (hz : x = z) (k : Go p e below s n0 Q nc ns (T.setTop (mkF m pc Ls (.double z :: rest)))) : Go p e below s n0 Q nc ns (T.setTop (mkF m pc Ls (.double x :: rest))) := hz ▸ k
theorem g_iincC (X : Wk p l e R s m args below meth c n1 Z Ts Lt T h cells slots) (hx : p.tables.exec = Jvm.exec) {k : Nat} {cst : Int} {x z : Int32} {l' : Array Slot} (hp : pc + 3 = pc') (hd : decode c.code pc = .ok (.iinc k cst, 3)) (hl : Ls[k]? = some (.val (.int x))) (hz : x + Int32.ofInt cst = z) (hl' : storeLocals Ls k (.int z) = some l') (q : Go p e below s n0 Q nc ns (T.setTop (mkF m pc' l' st))) : Go p e below s n0 Q nc ns (T.setTop (mkF m pc Ls st)) := by
  subst hz; exact g_iinc X hx hp hd hl hl' q
theorem g_ldcI (X : Wk p l e R s m args below meth c n1 Z Ts Lt T h cells slots) (hx : p.tables.exec = Jvm.exec) (hZ : Z.Warmed39 s.vm) {own : String} {index : Nat} {v : Int32} (hown : s.vm.findClass own = some m.cls) (w : (Jvm.Cond.constant own index v).before a0 Z = true) (hp : pc + 2 = pc') (hd : decode c.code pc = .ok (.ldc index, 2))
    (k : Go p e below s n0 Q nc ns (T.setTop (mkF m pc' Ls (.int v :: st)))) : Go p e below s n0 Q nc ns (T.setTop (mkF m pc Ls st)) := by
  subst hp; obtain ⟨_, _, X, -, -, B⟩ := X; replace hZ := B.hZ hZ; replace hown := B.fc hown
  exact go_back (X.ldcInt hx hown (mvT hZ w) (g := mkF m pc Ls st) rfl hd) k
theorem g_ldc2L (X : Wk p l e R s m args below meth c n1 Z Ts Lt T h cells slots) (hx : p.tables.exec = Jvm.exec) (hZ : Z.Warmed39 s.vm) {own : String} {index : Nat} {v : Int64} (hown : s.vm.findClass own = some m.cls) (w : (Jvm.Cond.constantLong own index v).before a0 Z = true) (hp : pc + 3 = pc') (hd : decode c.code pc = .ok (.ldc2_w index, 3))
    (k : Go p e below s n0 Q nc ns (T.setTop (mkF m pc' Ls (.long v :: st)))) : Go p e below s n0 Q nc ns (T.setTop (mkF m pc Ls st)) := by
  subst hp; obtain ⟨_, _, X, -, -, B⟩ := X; replace hZ := B.hZ hZ; replace hown := B.fc hown
  exact go_back (X.ldc2Long hx hown (mvT hZ w) (g := mkF m pc Ls st) rfl hd) k
theorem g_ldc2D (X : Wk p l e R s m args below meth c n1 Z Ts Lt T h cells slots) (hx : p.tables.exec = Jvm.exec) (hZ : Z.Warmed39 s.vm) {own : String} {index : Nat} {v : UInt64} (hown : s.vm.findClass own = some m.cls) (w : (Jvm.Cond.constantDouble own index v).before a0 Z = true) (hp : pc + 3 = pc') (hd : decode c.code pc = .ok (.ldc2_w index, 3))
    (k : Go p e below s n0 Q nc ns (T.setTop (mkF m pc' Ls (.double v :: st)))) : Go p e below s n0 Q nc ns (T.setTop (mkF m pc Ls st)) := by
  subst hp; obtain ⟨_, _, X, -, -, B⟩ := X; replace hZ := B.hZ hZ; replace hown := B.fc hown
  exact go_back (X.ldc2DoubleC hx hown (mvT hZ w) (g := mkF m pc Ls st) rfl hd) k
theorem g_getF (X : Wk p l e R s m args below meth c n1 Z Ts Lt T h cells slots) (hx : p.tables.exec = Jvm.exec) (hZ : Z.Warmed39 s.vm) {own R0 O n d : String} {index : Nat} (hown : s.vm.findClass own = some m.cls) (w : (Jvm.Cond.fieldLink own index R0 n d).before a0 Z = true) (via : Via Z R0 O n d) {a : Addr} {v : Value} (F : Fld Z h a O n d v) (hp : pc + 3 = pc') (hd : decode c.code pc = .ok (.getfield index, 3))
    (k : ∀ T', Wk p l e R s m args below meth c n1 Z Ts Lt T' h cells slots → Go p e below s n0 Q nc ns (T'.setTop (mkF m pc' Ls (v :: rest)))) : Go p e below s n0 Q nc ns (T.setTop (mkF m pc Ls (.ref a :: rest))) := by
  subst hp; obtain ⟨locs, vm0, X, N, eT, B⟩ := X; replace hZ := B.hZ hZ; replace hown := B.fc hown
  obtain ⟨T', X', e', b⟩ := getF X hx hZ hown (host := "") (Or.inl w) via eT F (g := mkF m pc Ls (.ref a :: rest)) rfl rfl hd
  exact go_back b (k T' ⟨locs, vm0, X', N, e', B⟩)
theorem g_getS (X : Wk p l e R s m args below meth c n1 Z Ts Lt T h cells slots) (hx : p.tables.exec = Jvm.exec) (hZ : Z.Warmed39 s.vm) {own R0 O n d : String} {index : Nat} (hown : s.vm.findClass own = some m.cls) (w : (Jvm.Cond.fieldLink own index R0 n d).before a0 Z = true) (via : Via Z R0 O n d) {v : Value} (F : Sta Z h O n d v) (hp : pc + 3 = pc') (hd : decode c.code pc = .ok (.getstatic index, 3))
    (k : ∀ T', Wk p l e R s m args below meth c n1 Z Ts Lt T' h cells slots → Go p e below s n0 Q nc ns (T'.setTop (mkF m pc' Ls (v :: st)))) : Go p e below s n0 Q nc ns (T.setTop (mkF m pc Ls st)) := by
  subst hp; obtain ⟨locs, vm0, X, N, eT, B⟩ := X; replace hZ := B.hZ hZ; replace hown := B.fc hown
  obtain ⟨T', X', e', b⟩ := getS X hx hZ hown w via eT F (g := mkF m pc Ls st) rfl hd (host := "")
  exact go_back b (k T' ⟨locs, vm0, X', N, e', B⟩)
theorem g_putF (X : Wk p l e R s m args below meth c n1 Z Ts Lt T h cells slots) (hx : p.tables.exec = Jvm.exec) (hZ : Z.Warmed39 s.vm) {own R0 O n d C : String} {index kk : Nat} {ty : FieldType} (hown : s.vm.findClass own = some m.cls) (w : (Jvm.Cond.fieldLink own index R0 n d).before a0 Z = true) (via : Via Z R0 O n d) {a : Addr} {v old : Value} (F : Fld Z h a O n d old) (E : Exa Z h a C)
    (L : (Jvm.Cond.lays C O n d).before a0 Z = true ∨ ((Jvm.Cond.laysFinal C O n d).before a0 Z = true ∧ own = O ∧ meth.name = "<init>")) (wi : (Jvm.Cond.instantiable C kk).before a0 Z = true) (hty : parseFieldDescriptor d = some ty) (hn : narrow ty v = v) (hf : fits ty v = true) (hna : n1 ≤ a) (hp : pc + 3 = pc') (hd : decode c.code pc = .ok (.putfield index, 3))
    (k : ∀ T' h', Wk p l e R s m args below meth c n1 Z Ts Lt T' h' cells slots → Wr h h' a (Jvm.RoadKit.slotOf Z O n d) v → Go p e below s n0 Q nc ns (T'.setTop (mkF m pc' Ls rest))) : Go p e below s n0 Q nc ns (T.setTop (mkF m pc Ls (v :: .ref a :: rest))) := by
  subst hp; obtain ⟨locs, vm0, X, N, eT, B⟩ := X; replace hZ := B.hZ hZ; replace hown := B.fc hown
  obtain ⟨T', h', X', e', W', b⟩ := putF X hx hZ hown (host := "") (Or.inl w) via eT F E L wi hty hn hf (g := mkF m pc Ls (v :: .ref a :: rest)) rfl rfl hd
  exact go_back b (k T' h' ⟨_, vm0, X', Fr.snoc X' N hna, e', B.grow (Nat.le_of_eq W'.size.symm)⟩ W')
theorem g_newO (X : Wk p l e R s m args below meth c n1 Z Ts Lt T h cells slots) (hx : p.tables.exec = Jvm.exec) (hZ : Z.Warmed39 s.vm) {own C : String} {index n : Nat} (hown : s.vm.findClass own = some m.cls) (w : (Jvm.Cond.classLink own index C).before a0 Z = true) (wi : (Jvm.Cond.instantiable C n).before a0 Z = true) (wz : (Jvm.Cond.initialized C).before a0 Z = true) (hp : pc + 3 = pc') (hd : decode c.code pc = .ok (.new index, 3)) (hc : cells + 1 ≤ R.cells) (hl : slots + n ≤ R.slots)
    (k : ∀ T' h' a, a = h.size → Wk p l e R s m args below meth c n1 Z Ts Lt T' h' (cells + 1) (slots + n) → Ext h h' → Exa Z h' a C → (∀ {O nm d : String} {ty : FieldType}, Laid Z a0 C O nm d → parseFieldDescriptor d = some ty → Fld Z h' a O nm d (defaultValue ty)) → Go p e below s n0 Q nc ns (T'.setTop (mkF m pc' Ls (.ref a :: st)))) : Go p e below s n0 Q nc ns (T.setTop (mkF m pc Ls st)) := by
  subst hp; obtain ⟨locs, vm0, X, N, eT, B⟩ := X; replace hZ := B.hZ hZ; replace hown := B.fc hown
  obtain ⟨T', h', X', e', E', A', D', -, b⟩ := newO X hx hZ hown w wi wz eT (g := mkF m pc Ls st) rfl hd hc hl
  exact go_back b (k T' h' h.size rfl ⟨_, vm0, X', N, e', B.grow E'.1⟩ E' A' (fun L q => D' L q))
theorem g_initO (X : Wk p l e R s m args below meth c n1 Z Ts Lt T h cells slots) (hx : p.tables.exec = Jvm.exec) (hZ : Z.Warmed39 s.vm) {own : String} {index : Nat} (hown : s.vm.findClass own = some m.cls) (w1 : (Jvm.Cond.methodLink own index Lib.objectInit).before a0 Z = true) (w2 : (Jvm.Cond.instanceMethod Lib.objectInit).before a0 Z = true) (w3 : (Jvm.Cond.code Lib.objectInit ⟨#[0xb1]⟩ 1 none).before a0 Z = true) {a : Addr} (hsz : Ls.size = c.maxLocals) (hp : pc + 3 = pc') (hd : decode c.code pc = .ok (.invokespecial index, 3)) (hf : 1 ≤ R.frames) {W : Nat} (hW : 2 * 0 + (rest.map fun v => v.category).sum ≤ W) (hl : W + 12 ≤ R.locals)
    (k : ∀ T', Wk p l e R s m args below meth c n1 Z Ts Lt T' h cells slots → Go p e below s n0 Q nc ns (T'.setTop (mkF m pc' Ls rest))) : Go p e below s n0 Q nc ns (T.setTop (mkF m pc Ls (.ref a :: rest))) := by
  subst hp; obtain ⟨locs, vm0, X, N, eT, B⟩ := X; replace hZ := B.hZ hZ; replace hown := B.fc hown
  obtain ⟨T', X', e', b⟩ := initO X hx hZ hown w1 w2 w3 eT (g := mkF m pc Ls (.ref a :: rest)) rfl hsz rfl hd hf hW hl
  exact go_back b (k T' ⟨_, vm0, X', N, e', B⟩)

theorem own_nf {s : State} {args : Array Value} {C : String} {y y' y0 : MethodName} (hcl : y'.cls = y.cls) (w : (Jvm.Cond.selects C y0 y').before args s = true) : NotFace s y := fun r0 h0 => by
  obtain ⟨c2, r2, m2, q1, q2, q3, q4, kP, hkP, hkPi⟩ := Cond.selects_spec w
  have a := findClass_of_methodNamed h0
  have b := findClass_of_methodNamed q3
  rw [hcl] at b
  have q : m2.cls = r0.cls := Option.some.inj (b.symm.trans a)
  rw [q] at hkP
  exact ⟨kP, hkP, hkPi⟩
theorem own_same {s : State} {args a1 : Array Value} {y : MethodName} (nf : NotFace s y) (wi : (Jvm.Cond.instanceMethod y).before args s = true) (hy : y.cls ≠ "java/lang/invoke/MethodHandle" ∧ y.cls ≠ "java/lang/invoke/VarHandle") : (Jvm.Cond.sameMethod y.cls y.cls y.name y.desc).before a1 s = true := by
  obtain ⟨mk, methM, hn, hm, -, -⟩ := Cond.instanceMethod_spec wi
  obtain ⟨kr, hk, hi⟩ := nf _ hn
  have hc := findClass_of_methodNamed hn
  have hn' : s.methodNamed? ⟨y.cls, y.name, y.desc⟩ = some mk := hn
  simp [Cond.before, Cond.holds, Cond.value, hc, State.methodFound?_of_named hn hy, hn', hk, hi]
/-- a private method, the word 'selects' said of a subclass -/
theorem own_privS {locs : List Loc} (X : Stand p l e R s m args below meth c T locs cells slots) (hexec : p.tables.exec = Jvm.exec) {own C : String} {index : Nat} {y : MethodName} {bytes : ByteArray} {maxL : Nat} {ret : Option FieldType}
    (hown : s.vm.findClass own = some m.cls) (hlink : (Cond.methodLink own index y).before args s = true) (hinst : (Cond.instanceMethod y).before args s = true) (hsel : (Cond.selects C y y).before args s = true)
    (hpriv : s.PrivateAt y) (hcode : (Cond.code y bytes maxL ret).before args s = true) (hy : y.cls ≠ "java/lang/invoke/MethodHandle" ∧ y.cls ≠ "java/lang/invoke/VarHandle")
    {W : Nat} {Pre : Free.Pt → Array Value → Prop} {Post : Free.Pt → Array Value → Option Value → Free.Pt → Prop} (hK : Free.BackS l R p e below s args y 3 W Pre Post)
    {g : JFrame} (hg : g.method = m) (hsize : g.locals.size = c.maxLocals) {s₀ : State} (hcome : Steps p.tables e below s₀ (T.setTop g)) {a : Addr} {cell : Cell} (hcell : T.heap[a]? = some cell) (hobj : ∀ q, cell.vm ≠ .statics q)
    {argsL rest : List Value} (hlen : ∀ sig, parseMethodDescriptor y.desc = some sig → argsL.length = sig.parameters.length)
    (hstack : g.stack = argsL.reverse ++ .ref a :: rest) (hW : 2 * g.monitorRoom + (rest.map fun v => v.category).sum ≤ W) (hdg : decode c.code g.pc = .ok (.invokevirtual index, 3))
    (hpre : ∀ vm₁, s.WarmedH vm₁ → Pre ⟨T.setVm vm₁, locs, cells, slots⟩ (.ref a :: argsL).toArray) :
    ∃ (v : Option Value) (vm₁ : Vm) (B : Free.Pt), s.WarmedH vm₁ ∧ Stand p l e R (s.setVm B.U.vm) m args below meth c B.U B.locs B.cells B.slots ∧ s.Since B.U.vm B.U.heap.size ∧ T.heap.size ≤ B.U.heap.size ∧ Post ⟨T.setVm vm₁, locs, cells, slots⟩ (.ref a :: argsL).toArray v B ∧
      Steps p.tables e below s₀ (B.U.setTop { g with pc := g.pc + 3, stack := v.toList ++ rest }) := by
  obtain ⟨mk, mM, hn, hmM, hst, hab⟩ := Cond.instanceMethod_spec hinst
  obtain ⟨m3, cM, hm3, -, -, -, -, -, -, hsig⟩ := Cond.code_spec hn hcode
  cases hmM.symm.trans hm3
  obtain ⟨c2, r2, m2, -, -, q3, -, kP, hkP, hkPi⟩ := Cond.selects_spec hsel
  cases hn.symm.trans q3
  obtain ⟨vm₁, X₁, st₁⟩ := X.invokevirtual hexec hown hlink hn hmM hst hkP hkPi hy (a := a) (cell := cell) hcell hobj (selectMethod_private hmM (hpriv mk mM hn hmM)) hmM hab hkP hkPi (g := g) hg (argsL := argsL) (rest := rest) (hlen _ hsig) hstack hdg
  obtain ⟨v, B, X', hS, hgr, hpost, hsteps⟩ := hK m meth c ⟨T.setVm vm₁, locs, cells, slots⟩ { g with stack := rest } (.invokevirtual index) mk (.ref a :: argsL).toArray X₁ hg hsize hdg hW (X₁.named hn) (hpre vm₁ X₁.warmed)
  exact ⟨v, vm₁, B, X₁.warmed, X', hS, hgr, hpost, (hcome.trans (st₁ _ fun acts => by rw [doInvoke_state]; exact Steps.refl _)).trans hsteps⟩
/-- more texts may be told of -/
theorem Wk.more (X : Wk p l e R s m args below meth c n1 Z Ts Lt T h cells slots) (q : ∀ t ∈ Ts, t ∈ Ts') : Wk p l e R s m args below meth c n1 Z Ts' Lt T h cells slots := by
  obtain ⟨locs, vm0, X, N, eT, B⟩ := X
  obtain ⟨w, ⟨more, e1, e2⟩, t⟩ := B
  exact ⟨locs, vm0, X, N, eT, w, ⟨more, e1, fun r hr => by obtain ⟨t, ht, u⟩ := e2 r hr; exact ⟨t, q t ht, u⟩⟩, t⟩
section Calls
variable {y z : MethodName} {bytes : ByteArray} {maxL : Nat} {ret : Option FieldType} {rm : Room} {as : Array Value} {Qc : Option Value → Heap → Prop} {own : String} {index W : Nat} {argsL : List Value} {ps : List FieldType} {r : Option FieldType}
theorem backW {len : Nat} (hM : Con l Z n1 Ts Ts' y bytes maxL ret [] rm as h Qc) (hZ : Z.Warmed39 vm0) (wc : (Jvm.Cond.code y bytes maxL ret).before a0 Z = true) (wz : (Jvm.Cond.initialized y.cls).before a0 Z = true) (hf : rm.frames + 1 ≤ R.frames) (hl : W + (maxL + 11) + rm.locals ≤ R.locals) (I : IB Z vm0 Ts) :
    BackS l R p e below (s.setVm vm0) args y len W (fun A a => a = as ∧ A.U.heap = h ∧ A.cells + rm.cells ≤ R.cells ∧ A.slots + rm.slots ≤ R.slots)
      (fun A _ v B => ∃ L, (Fr n1 L ∧ Qc v B.U.heap ∧ IB Z B.U.vm Ts') ∧ B.locs = A.locs ++ L ∧ B.cells = A.cells + rm.cells ∧ B.slots = A.slots + rm.slots) :=
  BackS.of_freeW (bytes := bytes) (maxL := maxL) (ret := ret) (E := fun _ first o t L k n => k = rm.cells ∧ n = rm.slots ∧ ∃ v, o = .returned v ∧ (Fr n1 L ∧ Qc v t.heap ∧ IB Z t.vm Ts')) hM hf hl
    (fun m meth c A a Y hp => have hU : Z.Warmed39 A.U.vm := wtrans (s := s.setVm vm0) hZ Y.warmed
      ⟨by show (Jvm.Cond.and _ .tt).before a A.U = true; rw [Cond.before_and, mv hU wc]; rfl, mv hU wc, mv hU wz, hp.2.2.1, hp.2.2.2⟩)
    (fun m meth c A a g mk Y hp => ⟨hp.1, wtrans (s := s.setVm vm0) hZ Y.warmed, hp.2.1, by
      obtain ⟨more, e1, e2⟩ := I
      exact ⟨more, (show A.U.vm.interned = _ from Y.warmed.interned_eq).trans e1, e2⟩⟩) (fun _ _ _ _ _ _ _ _ _ => trivial)
    (fun _ _ _ _ ⟨v, L, h1, h2, h3⟩ => ⟨L, _, _, h3, rfl, rfl, v, h1, h2⟩)
    (fun m meth c A a g mk v t L k n Y hp _ _ ⟨e1, e2, v', e3, e4⟩ => by cases e3; subst e1 e2; exact ⟨L, e4, rfl, rfl, rfl⟩)
theorem g_callS (X : Wk p l e R s m args below meth c n1 Z Ts Lt T h cells slots) (hx : p.tables.exec = Jvm.exec) (hZ : Z.Warmed39 s.vm) (hown : s.vm.findClass own = some m.cls) (w1 : (Jvm.Cond.methodLink own index y).before a0 Z = true) (w2 : (Jvm.Cond.static y).before a0 Z = true) (w3 : (Jvm.Cond.initialized y.cls).before a0 Z = true) (w4 : (Jvm.Cond.code y bytes maxL ret).before a0 Z = true) 
    (hy : y.cls ≠ "java/lang/invoke/MethodHandle" ∧ y.cls ≠ "java/lang/invoke/VarHandle") (hM : Con l Z n1 Ts Ts' y bytes maxL ret [] rm as h Qc) (hlen : parseMethodDescriptor y.desc = some ⟨ps, r⟩) (hl : argsL.length = ps.length) (has : as = argsL.toArray) (hp : pc + 3 = pc') (hd : decode c.code pc = .ok (.invokestatic index, 3))
    (hst : st = argsL.reverse ++ rest)
    (k : ∀ v T' h', Wk p l e R s m args below meth c n1 Z Ts' Lt T' h' (cells + rm.cells) (slots + rm.slots) → Qc v h' → Go p e below s n0 Q nc ns (T'.setTop (mkF m pc' Ls (v.toList ++ rest)))) (hsz : Ls.size = c.maxLocals := by rw [‹c.maxLocals = _›]; rfl) (hW : 2 * 0 + (rest.map fun v => v.category).sum ≤ W := by exact Nat.le_of_eq rfl) (hf : rm.frames + 1 ≤ R.frames := by decide) (hlo : W + (maxL + 11) + rm.locals ≤ R.locals := by decide) (hc : cells + rm.cells ≤ R.cells := by decide) (hs : slots + rm.slots ≤ R.slots := by decide) : Go p e below s n0 Q nc ns (T.setTop (mkF m pc Ls st)) := by
  subst hp; subst has; obtain ⟨locs, vm0, X, N, eT, B⟩ := X; replace hZ := B.hZ hZ; replace hown := B.fc hown
  obtain ⟨v, vm1, ⟨U, L1, c1, s1⟩, -, X', hS, hgr, ⟨Lc, hQ, l1, y1, z1⟩, b⟩ := Jvm.RoadKit.callSS X hx hown (mvT hZ w1) (mvT hZ w2) (mvT hZ w3) (mvT hZ w4) hy (backW (W := W) hM hZ w4 w3 hf hlo B.ib) (g := mkF m pc Ls st) rfl hsz (argsL := argsL) (rest := rest) (lenOf hlen hl) hst hW hd (fun _ _ => ⟨rfl, eT, hc, hs⟩)
  dsimp only [Pt.U, Pt.locs, Pt.cells, Pt.slots] at X' l1 y1 z1 b hQ hS hgr
  subst l1 y1 z1
  exact go_back (fun _ j => b.trans j) (k v U U.heap ⟨_, U.vm, X', Fr.app N hQ.1, rfl, B.call hS (by rw [← eT]; exact hgr) (Nat.le_refl _) hQ.2.2⟩ hQ.2.1)
theorem g_callI (X : Wk p l e R s m args below meth c n1 Z Ts Lt T h cells slots) (hx : p.tables.exec = Jvm.exec) (hZ : Z.Warmed39 s.vm) (hown : s.vm.findClass own = some m.cls) (hy1 : y.name = "<init>") (w1 : (Jvm.Cond.methodLink own index y).before a0 Z = true) (w2 : (Jvm.Cond.instanceMethod y).before a0 Z = true) (w3 : (Jvm.Cond.initialized y.cls).before a0 Z = true) (w4 : (Jvm.Cond.code y bytes maxL none).before a0 Z = true) 
    (hy : y.cls ≠ "java/lang/invoke/MethodHandle" ∧ y.cls ≠ "java/lang/invoke/VarHandle") {a : Addr} (hM : Con l Z n1 Ts Ts' y bytes maxL none [] rm as h Qc) (hlen : parseMethodDescriptor y.desc = some ⟨ps, r⟩) (hl : argsL.length = ps.length) (has : as = (Value.ref a :: argsL).toArray) (hp : pc + 3 = pc') (hd : decode c.code pc = .ok (.invokespecial index, 3))
    (hst : st = argsL.reverse ++ .ref a :: rest)
    (k : ∀ v T' h', Wk p l e R s m args below meth c n1 Z Ts' Lt T' h' (cells + rm.cells) (slots + rm.slots) → Qc v h' → Go p e below s n0 Q nc ns (T'.setTop (mkF m pc' Ls (v.toList ++ rest)))) (hsz : Ls.size = c.maxLocals := by rw [‹c.maxLocals = _›]; rfl) (hW : 2 * 0 + (rest.map fun v => v.category).sum ≤ W := by exact Nat.le_of_eq rfl) (hf : rm.frames + 1 ≤ R.frames := by decide) (hlo : W + (maxL + 11) + rm.locals ≤ R.locals := by decide) (hc : cells + rm.cells ≤ R.cells := by decide) (hs : slots + rm.slots ≤ R.slots := by decide) : Go p e below s n0 Q nc ns (T.setTop (mkF m pc Ls st)) := by
  subst hp; subst has; obtain ⟨locs, vm0, X, N, eT, B⟩ := X; replace hZ := B.hZ hZ; replace hown := B.fc hown
  obtain ⟨v, vm1, ⟨U, L1, c1, s1⟩, -, X', hS, hgr, ⟨Lc, hQ, l1, y1, z1⟩, b⟩ := X.specialBackS hx hy1 hown (mvT hZ w1) (mvT hZ w2) (mvT hZ w4) hy (backW (W := W) hM hZ w4 w3 hf hlo B.ib) (g := mkF m pc Ls st) rfl hsz (Steps.refl _) (argsL := argsL) (rest := rest) (lenOf hlen hl) hst hW hd (fun _ _ => ⟨rfl, eT, hc, hs⟩)
  dsimp only [Pt.U, Pt.locs, Pt.cells, Pt.slots] at X' l1 y1 z1 b hQ hS hgr
  subst l1 y1 z1
  exact go_back (fun _ j => b.trans j) (k v U U.heap ⟨_, U.vm, X', Fr.app N hQ.1, rfl, B.call hS (by rw [← eT]; exact hgr) (Nat.le_refl _) hQ.2.2⟩ hQ.2.1)
theorem g_callV (X : Wk p l e R s m args below meth c n1 Z Ts Lt T h cells slots) (hx : p.tables.exec = Jvm.exec) (hZ : Z.Warmed39 s.vm) (hown : s.vm.findClass own = some m.cls) {C : String} (w1 : (Jvm.Cond.methodLink own index y).before a0 Z = true) (w2 : (Jvm.Cond.declares y).before a0 Z = true) (w5 : (Jvm.Cond.selects C y y).before a0 Z = true) (w6 : (Jvm.Cond.instanceMethod y).before a0 Z = true) (w3 : (Jvm.Cond.initialized y.cls).before a0 Z = true) (w4 : (Jvm.Cond.code y bytes maxL ret).before a0 Z = true) 
    (hy : y.cls ≠ "java/lang/invoke/MethodHandle" ∧ y.cls ≠ "java/lang/invoke/VarHandle") {a : Addr} (E : Exa Z h a C) (hM : Con l Z n1 Ts Ts' y bytes maxL ret [] rm as h Qc) (hlen : parseMethodDescriptor y.desc = some ⟨ps, r⟩) (hl : argsL.length = ps.length) (has : as = (Value.ref a :: argsL).toArray) (hp : pc + 3 = pc') (hd : decode c.code pc = .ok (.invokevirtual index, 3))
    (hst : st = argsL.reverse ++ .ref a :: rest)
    (k : ∀ v T' h', Wk p l e R s m args below meth c n1 Z Ts' Lt T' h' (cells + rm.cells) (slots + rm.slots) → Qc v h' → Go p e below s n0 Q nc ns (T'.setTop (mkF m pc' Ls (v.toList ++ rest)))) (hsz : Ls.size = c.maxLocals := by rw [‹c.maxLocals = _›]; rfl) (hW : 2 * 0 + (rest.map fun v => v.category).sum ≤ W := by exact Nat.le_of_eq rfl) (hf : rm.frames + 1 ≤ R.frames := by decide) (hlo : W + (maxL + 11) + rm.locals ≤ R.locals := by decide) (hc : cells + rm.cells ≤ R.cells := by decide) (hs : slots + rm.slots ≤ R.slots := by decide) : Go p e below s n0 Q nc ns (T.setTop (mkF m pc Ls st)) := by
  subst hp; subst has; obtain ⟨locs, vm0, X, N, eT, B⟩ := X; replace hZ := B.hZ hZ; replace hown := B.fc hown
  obtain ⟨cq, kq, qa, qb, qc⟩ := isOf hZ eT E
  obtain ⟨v, vm1, ⟨U, L1, c1, s1⟩, -, X', hS, hgr, ⟨Lc, hQ, l1, y1, z1⟩, b⟩ := X.virtualBackS hx (y := y) (z := y) hown (mvT hZ w1) (mvT hZ w2) (notFace_of_selects (args := #[]) (mvT hZ w5)) (mvT hZ w5) (mvT hZ w6) hy (backW (W := W) hM hZ w4 w3 hf hlo B.ib) qa qc (g := mkF m pc Ls st) rfl hsz (Steps.refl _) (argsL := argsL) (rest := rest) (lenOf hlen hl) hst hW hd (fun _ _ => ⟨rfl, eT, hc, hs⟩)
  dsimp only [Pt.U, Pt.locs, Pt.cells, Pt.slots] at X' l1 y1 z1 b hQ hS hgr
  subst l1 y1 z1
  exact go_back (fun _ j => b.trans j) (k v U U.heap ⟨_, U.vm, X', Fr.app N hQ.1, rfl, B.call hS (by rw [← eT]; exact hgr) (Nat.le_refl _) hQ.2.2⟩ hQ.2.1)
theorem g_callVS (X : Wk p l e R s m args below meth c n1 Z Ts Lt T h cells slots) (hx : p.tables.exec = Jvm.exec) (hZ : Z.Warmed39 s.vm) (hown : s.vm.findClass own = some m.cls) {C S : String} (w1 : (Jvm.Cond.methodLink own index y).before a0 Z = true) (w2 : (Jvm.Cond.declares y).before a0 Z = true) (w0 : (Jvm.Cond.superclass y.cls S).before a0 Z = true) (w5 : (Jvm.Cond.selects C y z).before a0 Z = true) (w6 : (Jvm.Cond.instanceMethod z).before a0 Z = true) (w3 : (Jvm.Cond.initialized z.cls).before a0 Z = true) (w4 : (Jvm.Cond.code z bytes maxL ret).before a0 Z = true) 
    (hy : y.cls ≠ "java/lang/invoke/MethodHandle" ∧ y.cls ≠ "java/lang/invoke/VarHandle") {a : Addr} (E : Exa Z h a C) (hM : Con l Z n1 Ts Ts' z bytes maxL ret [] rm as h Qc) (hlen : parseMethodDescriptor y.desc = some ⟨ps, r⟩) (hl : argsL.length = ps.length) (has : as = (Value.ref a :: argsL).toArray) (hp : pc + 3 = pc') (hd : decode c.code pc = .ok (.invokevirtual index, 3))
    (hst : st = argsL.reverse ++ .ref a :: rest)
    (k : ∀ v T' h', Wk p l e R s m args below meth c n1 Z Ts' Lt T' h' (cells + rm.cells) (slots + rm.slots) → Qc v h' → Go p e below s n0 Q nc ns (T'.setTop (mkF m pc' Ls (v.toList ++ rest)))) (hsz : Ls.size = c.maxLocals := by rw [‹c.maxLocals = _›]; rfl) (hW : 2 * 0 + (rest.map fun v => v.category).sum ≤ W := by exact Nat.le_of_eq rfl) (hf : rm.frames + 1 ≤ R.frames := by decide) (hlo : W + (maxL + 11) + rm.locals ≤ R.locals := by decide) (hc : cells + rm.cells ≤ R.cells := by decide) (hs : slots + rm.slots ≤ R.slots := by decide) : Go p e below s n0 Q nc ns (T.setTop (mkF m pc Ls st)) := by
  subst hp; subst has; obtain ⟨locs, vm0, X, N, eT, B⟩ := X; replace hZ := B.hZ hZ; replace hown := B.fc hown
  obtain ⟨cq, kq, qa, qb, qc⟩ := isOf hZ eT E
  obtain ⟨v, vm1, ⟨U, L1, c1, s1⟩, -, X', hS, hgr, ⟨Lc, hQ, l1, y1, z1⟩, b⟩ := X.virtualBackS hx (y := y) (z := z) hown (mvT hZ w1) (mvT hZ w2) (nf_super (args := #[]) (mvT hZ w0)) (mvT hZ w5) (mvT hZ w6) hy (backW (W := W) hM hZ w4 w3 hf hlo B.ib) qa qc (g := mkF m pc Ls st) rfl hsz (Steps.refl _) (argsL := argsL) (rest := rest) (lenOf hlen hl) hst hW hd (fun _ _ => ⟨rfl, eT, hc, hs⟩)
  dsimp only [Pt.U, Pt.locs, Pt.cells, Pt.slots] at X' l1 y1 z1 b hQ hS hgr
  subst l1 y1 z1
  exact go_back (fun _ j => b.trans j) (k v U U.heap ⟨_, U.vm, X', Fr.app N hQ.1, rfl, B.call hS (by rw [← eT]; exact hgr) (Nat.le_refl _) hQ.2.2⟩ hQ.2.1)
theorem g_callVT (X : Wk p l e R s m args below meth c n1 Z Ts Lt T h cells slots) (hx : p.tables.exec = Jvm.exec) (hZ : Z.Warmed39 s.vm) (hown : s.vm.findClass own = some m.cls) {C : String} (w1 : (Jvm.Cond.methodLink own index y).before a0 Z = true) (w2 : (Jvm.Cond.declares y).before a0 Z = true) (w0 : (Jvm.Cond.noSuperclass y.cls).before a0 Z = true) (w5 : (Jvm.Cond.selects C y z).before a0 Z = true) (w6 : (Jvm.Cond.instanceMethod z).before a0 Z = true) (w3 : (Jvm.Cond.initialized z.cls).before a0 Z = true) (w4 : (Jvm.Cond.code z bytes maxL ret).before a0 Z = true) 
    (hy : y.cls ≠ "java/lang/invoke/MethodHandle" ∧ y.cls ≠ "java/lang/invoke/VarHandle") {a : Addr} (E : Exa Z h a C) (hM : Con l Z n1 Ts Ts' z bytes maxL ret [] rm as h Qc) (hlen : parseMethodDescriptor y.desc = some ⟨ps, r⟩) (hl : argsL.length = ps.length) (has : as = (Value.ref a :: argsL).toArray) (hp : pc + 3 = pc') (hd : decode c.code pc = .ok (.invokevirtual index, 3))
    (hst : st = argsL.reverse ++ .ref a :: rest)
    (k : ∀ v T' h', Wk p l e R s m args below meth c n1 Z Ts' Lt T' h' (cells + rm.cells) (slots + rm.slots) → Qc v h' → Go p e below s n0 Q nc ns (T'.setTop (mkF m pc' Ls (v.toList ++ rest)))) (hsz : Ls.size = c.maxLocals := by rw [‹c.maxLocals = _›]; rfl) (hW : 2 * 0 + (rest.map fun v => v.category).sum ≤ W := by exact Nat.le_of_eq rfl) (hf : rm.frames + 1 ≤ R.frames := by decide) (hlo : W + (maxL + 11) + rm.locals ≤ R.locals := by decide) (hc : cells + rm.cells ≤ R.cells := by decide) (hs : slots + rm.slots ≤ R.slots := by decide) : Go p e below s n0 Q nc ns (T.setTop (mkF m pc Ls st)) := by
  subst hp; subst has; obtain ⟨locs, vm0, X, N, eT, B⟩ := X; replace hZ := B.hZ hZ; replace hown := B.fc hown
  obtain ⟨cq, kq, qa, qb, qc⟩ := isOf hZ eT E
  obtain ⟨v, vm1, ⟨U, L1, c1, s1⟩, -, X', hS, hgr, ⟨Lc, hQ, l1, y1, z1⟩, b⟩ := X.virtualBackS hx (y := y) (z := z) hown (mvT hZ w1) (mvT hZ w2) (nf_top (args := #[]) (mvT hZ w0)) (mvT hZ w5) (mvT hZ w6) hy (backW (W := W) hM hZ w4 w3 hf hlo B.ib) qa qc (g := mkF m pc Ls st) rfl hsz (Steps.refl _) (argsL := argsL) (rest := rest) (lenOf hlen hl) hst hW hd (fun _ _ => ⟨rfl, eT, hc, hs⟩)
  dsimp only [Pt.U, Pt.locs, Pt.cells, Pt.slots] at X' l1 y1 z1 b hQ hS hgr
  subst l1 y1 z1
  exact go_back (fun _ j => b.trans j) (k v U U.heap ⟨_, U.vm, X', Fr.app N hQ.1, rfl, B.call hS (by rw [← eT]; exact hgr) (Nat.le_refl _) hQ.2.2⟩ hQ.2.1)
theorem g_callIf (X : Wk p l e R s m args below meth c n1 Z Ts Lt T h cells slots) (hx : p.tables.exec = Jvm.exec) (hZ : Z.Warmed39 s.vm) (hown : s.vm.findClass own = some m.cls) {C : String} {count : Nat} (w1 : (Jvm.Cond.methodLink own index y).before a0 Z = true) (w2 : (Jvm.Cond.declares y).before a0 Z = true) (w7 : (Jvm.Cond.interfaceMethod y.cls y.cls y.name y.desc).before a0 Z = true) (hfa : ((Jvm.Cond.interfaceMethod y.cls y.cls y.name y.desc).onTables && (Jvm.Cond.interfaceMethod y.cls y.cls y.name y.desc).keepsFace) = true) (w5 : (Jvm.Cond.selects C y z).before a0 Z = true) (w6 : (Jvm.Cond.instanceMethod z).before a0 Z = true) (w8 : (Jvm.Cond.publicMethod z).before a0 Z = true) (w9 : (Jvm.Cond.unhidden C y.name y.desc).before a0 Z = true) (w10 : (Jvm.Cond.castable C y.cls).before a0 Z = true) (w3 : (Jvm.Cond.initialized z.cls).before a0 Z = true) (w4 : (Jvm.Cond.code z bytes maxL ret).before a0 Z = true) 
    (hy : y.cls ≠ "java/lang/invoke/MethodHandle" ∧ y.cls ≠ "java/lang/invoke/VarHandle") {a : Addr} (E : Exa Z h a C) (hM : Con l Z n1 Ts Ts' z bytes maxL ret [] rm as h Qc) (hlen : parseMethodDescriptor y.desc = some ⟨ps, r⟩) (hl : argsL.length = ps.length) (has : as = (Value.ref a :: argsL).toArray) (hp : pc + 5 = pc') (hd : decode c.code pc = .ok (.invokeinterface index count, 5))
    (hst : st = argsL.reverse ++ .ref a :: rest)
    (k : ∀ v T' h', Wk p l e R s m args below meth c n1 Z Ts' Lt T' h' (cells + rm.cells) (slots + rm.slots) → Qc v h' → Go p e below s n0 Q nc ns (T'.setTop (mkF m pc' Ls (v.toList ++ rest)))) (hsz : Ls.size = c.maxLocals := by rw [‹c.maxLocals = _›]; rfl) (hW : 2 * 0 + (rest.map fun v => v.category).sum ≤ W := by exact Nat.le_of_eq rfl) (hf : rm.frames + 1 ≤ R.frames := by decide) (hlo : W + (maxL + 11) + rm.locals ≤ R.locals := by decide) (hc : cells + rm.cells ≤ R.cells := by decide) (hs : slots + rm.slots ≤ R.slots := by decide) : Go p e below s n0 Q nc ns (T.setTop (mkF m pc Ls st)) := by
  subst hp; subst has; obtain ⟨locs, vm0, X, N, eT, B⟩ := X; replace hZ := B.hZ hZ; replace hown := B.fc hown
  obtain ⟨cq, kq, qa, qb, qc⟩ := isOf hZ eT E
  obtain ⟨v, vm1, ⟨U, L1, c1, s1⟩, -, X', hS, hgr, ⟨Lc, hQ, l1, y1, z1⟩, b⟩ := X.interfaceBackS hx hown (mvT hZ w1) (mvT hZ w2) (mvT hZ w7 hfa) (mvT hZ w5) (mvT hZ w6) (mvT hZ w8) (mvT hZ w9) (mvT hZ w10) hy (backW (W := W) hM hZ w4 w3 hf hlo B.ib) qa qb qc (g := mkF m pc Ls st) rfl hsz (Steps.refl _) (argsL := argsL) (rest := rest) (lenOf hlen hl) hst hW hd (fun _ _ => ⟨rfl, eT, hc, hs⟩)
  dsimp only [Pt.U, Pt.locs, Pt.cells, Pt.slots] at X' l1 y1 z1 b hQ hS hgr
  subst l1 y1 z1
  exact go_back (fun _ j => b.trans j) (k v U U.heap ⟨_, U.vm, X', Fr.app N hQ.1, rfl, B.call hS (by rw [← eT]; exact hgr) (Nat.le_refl _) hQ.2.2⟩ hQ.2.1)
theorem g_callP (X : Wk p l e R s m args below meth c n1 Z Ts Lt T h cells slots) (hx : p.tables.exec = Jvm.exec) (hZ : Z.Warmed39 s.vm) (hown : s.vm.findClass own = some m.cls) {C : String} (w1 : (Jvm.Cond.methodLink own index y).before a0 Z = true) (w2 : (Jvm.Cond.instanceMethod y).before a0 Z = true) (w5 : (Jvm.Cond.selects y.cls y y).before a0 Z = true) (w6 : (Jvm.Cond.privateMethod y).before a0 Z = true) (w3 : (Jvm.Cond.initialized y.cls).before a0 Z = true) (w4 : (Jvm.Cond.code y bytes maxL ret).before a0 Z = true) 
    (hy : y.cls ≠ "java/lang/invoke/MethodHandle" ∧ y.cls ≠ "java/lang/invoke/VarHandle") {a : Addr} (E : Exa Z h a C) (hM : Con l Z n1 Ts Ts' y bytes maxL ret [] rm as h Qc) (hlen : parseMethodDescriptor y.desc = some ⟨ps, r⟩) (hl : argsL.length = ps.length) (has : as = (Value.ref a :: argsL).toArray) (hp : pc + 3 = pc') (hd : decode c.code pc = .ok (.invokevirtual index, 3))
    (hst : st = argsL.reverse ++ .ref a :: rest)
    (k : ∀ v T' h', Wk p l e R s m args below meth c n1 Z Ts' Lt T' h' (cells + rm.cells) (slots + rm.slots) → Qc v h' → Go p e below s n0 Q nc ns (T'.setTop (mkF m pc' Ls (v.toList ++ rest)))) (hsz : Ls.size = c.maxLocals := by rw [‹c.maxLocals = _›]; rfl) (hW : 2 * 0 + (rest.map fun v => v.category).sum ≤ W := by exact Nat.le_of_eq rfl) (hf : rm.frames + 1 ≤ R.frames := by decide) (hlo : W + (maxL + 11) + rm.locals ≤ R.locals := by decide) (hc : cells + rm.cells ≤ R.cells := by decide) (hs : slots + rm.slots ≤ R.slots := by decide) : Go p e below s n0 Q nc ns (T.setTop (mkF m pc Ls st)) := by
  subst hp; subst has; obtain ⟨locs, vm0, X, N, eT, B⟩ := X; replace hZ := B.hZ hZ; replace hown := B.fc hown
  obtain ⟨cE, hE1, hE2⟩ := Exa.cell E
  obtain ⟨v, vm1, ⟨U, L1, c1, s1⟩, -, X', hS, hgr, ⟨Lc, hQ, l1, y1, z1⟩, b⟩ := X.privateBackS hx hown (mvT hZ w1) (mvT hZ w2) (mvT hZ w5) (Cond.privateMethod_at (args := #[]) (mvP hZ w6)) (mvT hZ w4) hy (backW (W := W) hM hZ w4 w3 hf hlo B.ib) (g := mkF m pc Ls st) rfl hsz (Steps.refl _) (a := a) (cell := cE) (by rw [eT]; exact hE1) hE2 (argsL := argsL) (rest := rest) (lenOf hlen hl) hst hW hd (fun _ _ => ⟨rfl, eT, hc, hs⟩)
  dsimp only [Pt.U, Pt.locs, Pt.cells, Pt.slots] at X' l1 y1 z1 b hQ hS hgr
  subst l1 y1 z1
  exact go_back (fun _ j => b.trans j) (k v U U.heap ⟨_, U.vm, X', Fr.app N hQ.1, rfl, B.call hS (by rw [← eT]; exact hgr) (Nat.le_refl _) hQ.2.2⟩ hQ.2.1)
theorem g_callSup (X : Wk p l e R s m args below meth c n1 Z Ts Lt T h cells slots) (hx : p.tables.exec = Jvm.exec) (hZ : Z.Warmed39 s.vm) (hown : s.vm.findClass own = some m.cls) {C C' : String} {y' y0 : MethodName} (hn : y.name ≠ "<init>") (w1 : (Jvm.Cond.methodLink own index y).before a0 Z = true) (w2 : (Jvm.Cond.instanceMethod y).before a0 Z = true) (hcl : y'.cls = y.cls) (w7 : (Jvm.Cond.selects C' y0 y').before a0 Z = true) (w8 : (Jvm.Cond.superclass own y.cls).before a0 Z = true) (w3 : (Jvm.Cond.initialized y.cls).before a0 Z = true) (w4 : (Jvm.Cond.code y bytes maxL ret).before a0 Z = true) 
    (hy : y.cls ≠ "java/lang/invoke/MethodHandle" ∧ y.cls ≠ "java/lang/invoke/VarHandle") {a : Addr} (E : Exa Z h a C) (hM : Con l Z n1 Ts Ts' y bytes maxL ret [] rm as h Qc) (hlen : parseMethodDescriptor y.desc = some ⟨ps, r⟩) (hl : argsL.length = ps.length) (has : as = (Value.ref a :: argsL).toArray) (hp : pc + 3 = pc') (hd : decode c.code pc = .ok (.invokespecial index, 3))
    (hst : st = argsL.reverse ++ .ref a :: rest)
    (k : ∀ v T' h', Wk p l e R s m args below meth c n1 Z Ts' Lt T' h' (cells + rm.cells) (slots + rm.slots) → Qc v h' → Go p e below s n0 Q nc ns (T'.setTop (mkF m pc' Ls (v.toList ++ rest)))) (hsz : Ls.size = c.maxLocals := by rw [‹c.maxLocals = _›]; rfl) (hW : 2 * 0 + (rest.map fun v => v.category).sum ≤ W := by exact Nat.le_of_eq rfl) (hf : rm.frames + 1 ≤ R.frames := by decide) (hlo : W + (maxL + 11) + rm.locals ≤ R.locals := by decide) (hc : cells + rm.cells ≤ R.cells := by decide) (hs : slots + rm.slots ≤ R.slots := by decide) : Go p e below s n0 Q nc ns (T.setTop (mkF m pc Ls st)) := by
  subst hp; subst has; obtain ⟨locs, vm0, X, N, eT, B⟩ := X; replace hZ := B.hZ hZ; replace hown := B.fc hown
  obtain ⟨v, vm1, ⟨U, L1, c1, s1⟩, -, X', hS, hgr, ⟨Lc, hQ, l1, y1, z1⟩, b⟩ := superBackS X hx hZ hown w1 (own_same (own_nf hcl w7) w2 hy) w2 w8 hn (backW (W := W) hM hZ w4 w3 hf hlo B.ib) eT (Ins.self E) (g := mkF m pc Ls st) rfl hsz w4 (argsL := argsL) (rest := rest) (lenOf hlen hl) hst hW hd (fun _ _ => ⟨rfl, eT, hc, hs⟩)
  dsimp only [Pt.U, Pt.locs, Pt.cells, Pt.slots] at X' l1 y1 z1 b hQ hS hgr
  subst l1 y1 z1
  exact go_back (fun _ j => b.trans j) (k v U U.heap ⟨_, U.vm, X', Fr.app N hQ.1, rfl, B.call hS (by rw [← eT]; exact hgr) (Nat.le_refl _) hQ.2.2⟩ hQ.2.1)
theorem g_callVN (X : Wk p l e R s m args below meth c n1 Z Ts Lt T h cells slots) (hx : p.tables.exec = Jvm.exec) (hZ : Z.Warmed39 s.vm) (hown : s.vm.findClass own = some m.cls) {C : String} (w1 : (Jvm.Cond.methodLink own index y).before a0 Z = true) (w2 : (Jvm.Cond.declares y).before a0 Z = true) {C' : String} {y' y0 : MethodName} (hcl : y'.cls = y.cls) (w0 : (Jvm.Cond.selects C' y0 y').before a0 Z = true) (w5 : (Jvm.Cond.selects C y z).before a0 Z = true) (w6 : (Jvm.Cond.instanceMethod z).before a0 Z = true) (w3 : (Jvm.Cond.initialized z.cls).before a0 Z = true) (w4 : (Jvm.Cond.code z bytes maxL ret).before a0 Z = true) 
    (hy : y.cls ≠ "java/lang/invoke/MethodHandle" ∧ y.cls ≠ "java/lang/invoke/VarHandle") {a : Addr} (E : Exa Z h a C) (hM : Con l Z n1 Ts Ts' z bytes maxL ret [] rm as h Qc) (hlen : parseMethodDescriptor y.desc = some ⟨ps, r⟩) (hl : argsL.length = ps.length) (has : as = (Value.ref a :: argsL).toArray) (hp : pc + 3 = pc') (hd : decode c.code pc = .ok (.invokevirtual index, 3))
    (hst : st = argsL.reverse ++ .ref a :: rest)
    (k : ∀ v T' h', Wk p l e R s m args below meth c n1 Z Ts' Lt T' h' (cells + rm.cells) (slots + rm.slots) → Qc v h' → Go p e below s n0 Q nc ns (T'.setTop (mkF m pc' Ls (v.toList ++ rest)))) (hsz : Ls.size = c.maxLocals := by rw [‹c.maxLocals = _›]; rfl) (hW : 2 * 0 + (rest.map fun v => v.category).sum ≤ W := by exact Nat.le_of_eq rfl) (hf : rm.frames + 1 ≤ R.frames := by decide) (hlo : W + (maxL + 11) + rm.locals ≤ R.locals := by decide) (hc : cells + rm.cells ≤ R.cells := by decide) (hs : slots + rm.slots ≤ R.slots := by decide) : Go p e below s n0 Q nc ns (T.setTop (mkF m pc Ls st)) := by
  subst hp; subst has; obtain ⟨locs, vm0, X, N, eT, B⟩ := X; replace hZ := B.hZ hZ; replace hown := B.fc hown
  obtain ⟨cq, kq, qa, qb, qc⟩ := isOf hZ eT E
  obtain ⟨v, vm1, ⟨U, L1, c1, s1⟩, -, X', hS, hgr, ⟨Lc, hQ, l1, y1, z1⟩, b⟩ := X.virtualBackS hx (y := y) (z := z) hown (mvT hZ w1) (mvT hZ w2) (own_nf (args := #[]) hcl (mvT hZ w0)) (mvT hZ w5) (mvT hZ w6) hy (backW (W := W) hM hZ w4 w3 hf hlo B.ib) qa qc (g := mkF m pc Ls st) rfl hsz (Steps.refl _) (argsL := argsL) (rest := rest) (lenOf hlen hl) hst hW hd (fun _ _ => ⟨rfl, eT, hc, hs⟩)
  dsimp only [Pt.U, Pt.locs, Pt.cells, Pt.slots] at X' l1 y1 z1 b hQ hS hgr
  subst l1 y1 z1
  exact go_back (fun _ j => b.trans j) (k v U U.heap ⟨_, U.vm, X', Fr.app N hQ.1, rfl, B.call hS (by rw [← eT]; exact hgr) (Nat.le_refl _) hQ.2.2⟩ hQ.2.1)
theorem g_callPS (X : Wk p l e R s m args below meth c n1 Z Ts Lt T h cells slots) (hx : p.tables.exec = Jvm.exec) (hZ : Z.Warmed39 s.vm) (hown : s.vm.findClass own = some m.cls) {C C' : String} (w1 : (Jvm.Cond.methodLink own index y).before a0 Z = true) (w2 : (Jvm.Cond.instanceMethod y).before a0 Z = true) (w5 : (Jvm.Cond.selects C' y y).before a0 Z = true) (w6 : (Jvm.Cond.privateMethod y).before a0 Z = true) (w3 : (Jvm.Cond.initialized y.cls).before a0 Z = true) (w4 : (Jvm.Cond.code y bytes maxL ret).before a0 Z = true) 
    (hy : y.cls ≠ "java/lang/invoke/MethodHandle" ∧ y.cls ≠ "java/lang/invoke/VarHandle") {a : Addr} (E : Exa Z h a C) (hM : Con l Z n1 Ts Ts' y bytes maxL ret [] rm as h Qc) (hlen : parseMethodDescriptor y.desc = some ⟨ps, r⟩) (hl : argsL.length = ps.length) (has : as = (Value.ref a :: argsL).toArray) (hp : pc + 3 = pc') (hd : decode c.code pc = .ok (.invokevirtual index, 3))
    (hst : st = argsL.reverse ++ .ref a :: rest)
    (k : ∀ v T' h', Wk p l e R s m args below meth c n1 Z Ts' Lt T' h' (cells + rm.cells) (slots + rm.slots) → Qc v h' → Go p e below s n0 Q nc ns (T'.setTop (mkF m pc' Ls (v.toList ++ rest)))) (hsz : Ls.size = c.maxLocals := by rw [‹c.maxLocals = _›]; rfl) (hW : 2 * 0 + (rest.map fun v => v.category).sum ≤ W := by exact Nat.le_of_eq rfl) (hf : rm.frames + 1 ≤ R.frames := by decide) (hlo : W + (maxL + 11) + rm.locals ≤ R.locals := by decide) (hc : cells + rm.cells ≤ R.cells := by decide) (hs : slots + rm.slots ≤ R.slots := by decide) : Go p e below s n0 Q nc ns (T.setTop (mkF m pc Ls st)) := by
  subst hp; subst has; obtain ⟨locs, vm0, X, N, eT, B⟩ := X; replace hZ := B.hZ hZ; replace hown := B.fc hown
  obtain ⟨cE, hE1, hE2⟩ := Exa.cell E
  obtain ⟨v, vm1, ⟨U, L1, c1, s1⟩, -, X', hS, hgr, ⟨Lc, hQ, l1, y1, z1⟩, b⟩ := own_privS X hx hown (mvT hZ w1) (mvT hZ w2) (mvT hZ w5) (Cond.privateMethod_at (args := #[]) (mvP hZ w6)) (mvT hZ w4) hy (backW (W := W) hM hZ w4 w3 hf hlo B.ib) (g := mkF m pc Ls st) rfl hsz (Steps.refl _) (a := a) (cell := cE) (by rw [eT]; exact hE1) hE2 (argsL := argsL) (rest := rest) (lenOf hlen hl) hst hW hd (fun _ _ => ⟨rfl, eT, hc, hs⟩)
  dsimp only [Pt.U, Pt.locs, Pt.cells, Pt.slots] at X' l1 y1 z1 b hQ hS hgr
  subst l1 y1 z1
  exact go_back (fun _ j => b.trans j) (k v U U.heap ⟨_, U.vm, X', Fr.app N hQ.1, rfl, B.call hS (by rw [← eT]; exact hgr) (Nat.le_refl _) hQ.2.2⟩ hQ.2.1)
theorem g_nat (X : Wk p l e R s m args below meth c n1 Z Ts Lt T h cells slots) (hx : p.tables.exec = Jvm.exec) (hZ : Z.Warmed39 s.vm) (hown : s.vm.findClass own = some m.cls) (w1 : (Jvm.Cond.methodLink own index y).before a0 Z = true) (w2 : (Jvm.Cond.static y).before a0 Z = true) (w3 : (Jvm.Cond.initialized y.cls).before a0 Z = true) (w4 : (Jvm.Cond.code y bytes maxL ret).before a0 Z = true)
    (hy : y.cls ≠ "java/lang/invoke/MethodHandle" ∧ y.cls ≠ "java/lang/invoke/VarHandle") {F : Array Value → Prop} {val : Value} (hK : ∀ s', (Jvm.Cond.code y bytes maxL ret).before args s' = true → Back l R p e below s' args y 3 W (fun A a' => A.cells ≤ R.cells ∧ A.slots ≤ R.slots ∧ F a') (fun A _ v B => v = some val ∧ B = A)) (hlen : parseMethodDescriptor y.desc = some ⟨ps, r⟩) (hl : argsL.length = ps.length) (hsz : Ls.size = c.maxLocals) (hp : pc + 3 = pc') (hd : decode c.code pc = .ok (.invokestatic index, 3))
    (hst : st = argsL.reverse ++ rest) (hW : 2 * 0 + (rest.map fun v => v.category).sum ≤ W) (hc : cells ≤ R.cells) (hs : slots ≤ R.slots) (hF : F argsL.toArray)
    (k : ∀ T', Wk p l e R s m args below meth c n1 Z Ts Lt T' h cells slots → Go p e below s n0 Q nc ns (T'.setTop (mkF m pc' Ls (val :: rest)))) : Go p e below s n0 Q nc ns (T.setTop (mkF m pc Ls st)) := by
  subst hp; obtain ⟨locs, vm0, X, N, eT, B⟩ := X; replace hZ := B.hZ hZ; replace hown := B.fc hown
  obtain ⟨T', X', e', b⟩ := natS X hx hZ hown w1 w2 w3 w4 hy eT (hK _) (g := mkF m pc Ls st) rfl hsz (argsL := argsL) (rest := rest) (lenOf hlen hl) hst hW hd hc hs hF rfl
  exact go_back b (k T' ⟨_, vm0, X', N, e', B⟩)
end Calls
theorem g_absD2 (X : Wk p l e R s m args below meth c n1 Z Ts Lt T h cells slots) (hx : p.tables.exec = Jvm.exec) (hZ : Z.Warmed39 s.vm) {own : String} {index W : Nat} (hown : s.vm.findClass own = some m.cls) (w1 : (Jvm.Cond.methodLink own index Jvm.Free.Fl.Abs.absDN).before a0 Z = true) (w2 : (Jvm.Cond.static Jvm.Free.Fl.Abs.absDN).before a0 Z = true) (w3 : (Jvm.Cond.initialized Jvm.Free.Fl.Abs.absDN.cls).before a0 Z = true) (w4 : (Jvm.Cond.code Jvm.Free.Fl.Abs.absDN Jvm.Free.Fl.Abs.absDCode 2 (some .double)).before a0 Z = true)
    {x : UInt64} (hn : NoNaN64 x) (hsz : Ls.size = c.maxLocals) (hp : pc + 3 = pc') (hd : decode c.code pc = .ok (.invokestatic index, 3)) (hW : 2 * 0 + (rest.map fun v => v.category).sum ≤ W) (hf : 1 ≤ R.frames) (hlo : W + 13 ≤ R.locals) (hc : cells ≤ R.cells) (hs : slots ≤ R.slots)
    (k : ∀ T', Wk p l e R s m args below meth c n1 Z Ts Lt T' h cells slots → Go p e below s n0 Q nc ns (T'.setTop (mkF m pc' Ls (.double (x &&& 0x7fffffffffffffff) :: rest)))) : Go p e below s n0 Q nc ns (T.setTop (mkF m pc Ls (.double x :: rest))) :=
  g_nat X hx hZ hown w1 w2 w3 w4 (by decide) (fun _ q => Jvm.Free.Fl.Abs.absD_pays x q hf hlo) (ps := [.double]) (r := some .double) (by decide +kernel) (argsL := [.double x]) rfl hsz hp hd rfl hW hc hs ⟨rfl, hn⟩ k
theorem g_ret {Qv : Option Value → Heap → Prop} (X : Wk p l e R s m args below meth c n1 Z Ts Lt T h cells slots) (hx : p.tables.exec = Jvm.exec) (hlk : meth.locks = false) {t : FieldType} {w : Value} {i : Instr} (hret : meth.sig.returnType = some t) (hn : narrow t w = w)
    (hi : (i = .ireturn ∧ (t = .int ∨ t = .boolean ∨ t = .byte ∨ t = .char ∨ t = .short) ∧ ∃ z, w = .int z) ∨ (i = .lreturn ∧ t = .long ∧ ∃ z, w = .long z) ∨ (i = .dreturn ∧ t = .double ∧ ∃ z, w = .double z) ∨ (i = .freturn ∧ t = .float ∧ ∃ z, w = .float z) ∨ (i = .areturn ∧ t.isReference = true ∧ w.isRef = true))
    (hd : decode c.code pc = .ok (i, 1)) (hc : cells ≤ nc) (hs : slots ≤ ns) (hle : n0 ≤ n1) (hQ : Qv (some w) h) : Go p e below s n0 ⟨Z, Ts, Qv⟩ nc ns (T.setTop (mkF m pc Ls (w :: rest))) := by
  obtain ⟨locs, vm0, X, N, eT, ⟨⟨k0, hS, hk⟩, I, -⟩⟩ := X
  obtain ⟨fs, hr, hrun, hended, hE⟩ := X.leaveW hS (by rw [eT]; exact hk) (v := some w) (fun q => by rw [hret] at q; cases q) hlk
  exact ⟨_, _, retOut X hx hret hn hi hd hr, hrun, hended, _, _, rfl, ⟨fun y hy => Nat.le_trans hle (N y hy), by show Qv (some w) T.heap; rw [eT]; exact hQ, by obtain ⟨more, e1, e2⟩ := I; exact ⟨more, (show T.vm.interned = _ from X.warmed.interned_eq).trans e1, e2⟩⟩, hE.1, hE.2.1, hE.2.2.1, hE.2.2.2.mono hc hs⟩
theorem g_retI {Qv : Option Value → Heap → Prop} (X : Wk p l e R s m args below meth c n1 Z Ts Lt T h cells slots) (hx : p.tables.exec = Jvm.exec) (hlk : meth.locks = false) {z : Int32} (hret : meth.sig.returnType = some .int) (hd : decode c.code pc = .ok (.ireturn, 1)) (hc : cells ≤ nc) (hs : slots ≤ ns) (hle : n0 ≤ n1) (hQ : Qv (some (.int z)) h) : Go p e below s n0 ⟨Z, Ts, Qv⟩ nc ns (T.setTop (mkF m pc Ls (.int z :: rest))) :=
  g_ret X hx hlk hret rfl (Or.inl ⟨rfl, Or.inl rfl, z, rfl⟩) hd hc hs hle hQ
theorem g_retZ {Qv : Option Value → Heap → Prop} (X : Wk p l e R s m args below meth c n1 Z Ts Lt T h cells slots) (hx : p.tables.exec = Jvm.exec) (hlk : meth.locks = false) {z : Int32} (hret : meth.sig.returnType = some .boolean) (hz : z = 0 ∨ z = 1) (hd : decode c.code pc = .ok (.ireturn, 1)) (hc : cells ≤ nc) (hs : slots ≤ ns) (hle : n0 ≤ n1) (hQ : Qv (some (.int z)) h) : Go p e below s n0 ⟨Z, Ts, Qv⟩ nc ns (T.setTop (mkF m pc Ls (.int z :: rest))) :=
  g_ret X hx hlk hret (by rcases hz with rfl | rfl <;> rfl) (Or.inl ⟨rfl, Or.inr (Or.inl rfl), z, rfl⟩) hd hc hs hle hQ
theorem g_retL {Qv : Option Value → Heap → Prop} (X : Wk p l e R s m args below meth c n1 Z Ts Lt T h cells slots) (hx : p.tables.exec = Jvm.exec) (hlk : meth.locks = false) {z : Int64} (hret : meth.sig.returnType = some .long) (hd : decode c.code pc = .ok (.lreturn, 1)) (hc : cells ≤ nc) (hs : slots ≤ ns) (hle : n0 ≤ n1) (hQ : Qv (some (.long z)) h) : Go p e below s n0 ⟨Z, Ts, Qv⟩ nc ns (T.setTop (mkF m pc Ls (.long z :: rest))) :=
  g_ret X hx hlk hret rfl (Or.inr (Or.inl ⟨rfl, rfl, z, rfl⟩)) hd hc hs hle hQ
theorem g_retD {Qv : Option Value → Heap → Prop} (X : Wk p l e R s m args below meth c n1 Z Ts Lt T h cells slots) (hx : p.tables.exec = Jvm.exec) (hlk : meth.locks = false) {z : UInt64} (hret : meth.sig.returnType = some .double) (hd : decode c.code pc = .ok (.dreturn, 1)) (hc : cells ≤ nc) (hs : slots ≤ ns) (hle : n0 ≤ n1) (hQ : Qv (some (.double z)) h) : Go p e below s n0 ⟨Z, Ts, Qv⟩ nc ns (T.setTop (mkF m pc Ls (.double z :: rest))) :=
  g_ret X hx hlk hret rfl (Or.inr (Or.inr (Or.inl ⟨rfl, rfl, z, rfl⟩))) hd hc hs hle hQ
theorem g_retV {Qv : Option Value → Heap → Prop} (X : Wk p l e R s m args below meth c n1 Z Ts Lt T h cells slots) (hx : p.tables.exec = Jvm.exec) (hlk : meth.locks = false) (hret : meth.sig.returnType = none) (hd : decode c.code pc = .ok (.return_, 1)) (hc : cells ≤ nc) (hs : slots ≤ ns) (hle : n0 ≤ n1) (hQ : Qv none h) : Go p e below s n0 ⟨Z, Ts, Qv⟩ nc ns (T.setTop (mkF m pc Ls [])) := by
  obtain ⟨locs, vm0, X, N, eT, ⟨⟨k0, hS, hk⟩, I, -⟩⟩ := X
  obtain ⟨fs, hr, hrun, hended, hE⟩ := X.leaveW hS (by rw [eT]; exact hk) (v := none) (fun _ => rfl) hlk
  exact ⟨_, _, X.returnOut hx hret hd hr, hrun, hended, _, _, rfl, ⟨fun y hy => Nat.le_trans hle (N y hy), by show Qv none T.heap; rw [eT]; exact hQ, by obtain ⟨more, e1, e2⟩ := I; exact ⟨more, (show T.vm.interned = _ from X.warmed.interned_eq).trans e1, e2⟩⟩, hE.1, hE.2.1, hE.2.2.1, hE.2.2.2.mono hc hs⟩

end OwnKit
abbrev HW (a0 : Array Value) (Z : State) : Prop := ∀ d ∈ tables_1, d.before a0 Z = true
theorem hD {c : Code} {code : ByteArray} (h : c.code = code) {pc : Nat} {r : Except ClassFile.DecodeError (ClassFile.Instr × Nat)} (h2 : decode code pc = r) : decode c.code pc = r := h ▸ h2
theorem wat {Z : State} {a0 : Array Value} (hw : ∀ d ∈ tables_1, d.before a0 Z = true) (i : Nat) {d : Jvm.Cond} (q : tables_1[i]? = some d) : d.before a0 Z = true := hw _ (List.mem_of_getElem? q)
abbrev SV (Z : State) (h : Heap) (a : Addr) (v : Value) : Prop := Fld Z h a "java/lang/String" "value" "[B" v
abbrev SC (Z : State) (h : Heap) (a : Addr) (v : Value) : Prop := Fld Z h a "java/lang/String" "coder" "B" v
abbrev BV (Z : State) (h : Heap) (a : Addr) (v : Value) : Prop := Fld Z h a "java/lang/AbstractStringBuilder" "value" "[B" v
abbrev BC (Z : State) (h : Heap) (a : Addr) (v : Value) : Prop := Fld Z h a "java/lang/AbstractStringBuilder" "coder" "B" v
abbrev BN (Z : State) (h : Heap) (a : Addr) (v : Value) : Prop := Fld Z h a "java/lang/AbstractStringBuilder" "count" "I" v
abbrev BM (Z : State) (h : Heap) (a : Addr) (v : Value) : Prop := Fld Z h a "java/lang/AbstractStringBuilder" "maybeLatin1" "Z" v
abbrev XSt (Z : State) (h : Heap) (a : Addr) : Prop := Exa Z h a "java/lang/String"
abbrev XSb (Z : State) (h : Heap) (a : Addr) : Prop := Exa Z h a "java/lang/StringBuilder"
abbrev St0 (Z : State) (v : Value) : Prop := Sta Z Z.heap "java/lang/String" "COMPACT_STRINGS" "Z" v
abbrev St1 (Z : State) (v : Value) : Prop := Sta Z Z.heap "jdk/internal/util/Preconditions" "SIOOBE_FORMATTER" "Ljava/util/function/BiFunction;" v
abbrev St2 (Z : State) (v : Value) : Prop := Sta Z Z.heap "java/lang/StringUTF16" "$assertionsDisabled" "Z" v
abbrev St3 (Z : State) (v : Value) : Prop := Sta Z Z.heap "java/lang/StringUTF16" "HI_BYTE_SHIFT" "I" v
abbrev St4 (Z : State) (v : Value) : Prop := Sta Z Z.heap "java/lang/StringUTF16" "LO_BYTE_SHIFT" "I" v
abbrev St5 (Z : State) (v : Value) : Prop := Sta Z Z.heap "com/example/tenorbook/tenorbook/terms/AgreementTerm" "FACILITY_ID" "Lcom/example/tenorbook/tenorbook/terms/AgreementTerm;" v
abbrev K1 := jdk_42_method_3_code
abbrev K2 := jdk_42_method_149_code
abbrev K4 := prog_49_method_2_code
abbrev K5 := jdk_67_method_1_code
abbrev K6 := jdk_68_method_2_code
abbrev K7 := jdk_67_method_6_code
abbrev K8 := jdk_42_method_133_code
abbrev K9 := prog_51_method_6_code
abbrev K10 := jdk_67_method_7_code
abbrev K11 := jdk_68_method_22_code
abbrev K12 := jdk_42_method_54_code
abbrev K13 := jdk_42_method_152_code
abbrev K14 := jdk_68_method_9_code
abbrev K15 := jdk_68_method_73_code
abbrev K16 := jdk_68_method_71_code
abbrev K17 := jdk_42_method_147_code
abbrev K18 := jdk_67_method_42_code
abbrev K19 := jdk_42_method_53_code
abbrev K20 := jdk_42_method_150_code
abbrev K21 := jdk_68_method_64_code
abbrev K22 := jdk_67_method_93_code
abbrev K23 := jdk_68_method_6_code
abbrev K24 := jdk_68_method_68_code
abbrev K25 := jdk_65_method_132_code
abbrev K26 := jdk_65_method_133_code
abbrev K27 := jdk_65_method_131_code
abbrev K28 := jdk_29_method_69_code
abbrev K29 := jdk_68_method_10_code
abbrev K30 := jdk_48_method_27_code
abbrev K31 := jdk_29_method_65_code
abbrev K32 := jdk_65_method_121_code
abbrev K33 := method_3_code
abbrev K34 := jdk_42_method_56_code
abbrev K35 := jdk_42_method_154_code
abbrev K36 := jdk_43_method_2_code
abbrev K37 := jdk_42_method_155_code
abbrev K38 := jdk_41_method_11_code
abbrev K39 := method_4_code
abbrev K40 := jdk_52_method_16_code
abbrev K41 := jdk_52_method_21_code
abbrev K42 := jdk_52_method_15_code
abbrev K43 := jdk_52_method_14_code
abbrev K44 := jdk_52_method_2_code
abbrev K45 := jdk_52_method_3_code
abbrev K46 := jdk_52_method_4_code
abbrev K47 := jdk_52_method_5_code
abbrev K48 := jdk_68_method_11_code
abbrev K49 := jdk_43_method_50_code
abbrev K50 := jdk_52_method_86_code
abbrev K51 := jdk_52_method_94_code
abbrev K52 := jdk_52_method_6_code
abbrev K53 := jdk_42_method_157_code
abbrev K54 := jdk_41_method_13_code
abbrev K55 := jdk_52_method_83_code
abbrev K56 := jdk_52_method_91_code
abbrev K57 := jdk_42_method_139_code
abbrev K58 := jdk_43_method_3_code
abbrev K59 := jdk_43_method_46_code
abbrev K60 := jdk_42_method_151_code
abbrev K61 := jdk_52_method_24_code
theorem d1_0 : decode K1 0 = .ok (.aload_n 0, 1) := by decide +kernel
theorem d1_1 : decode K1 1 = .ok (.aload_n 1, 1) := by decide +kernel
theorem d1_2 : decode K1 2 = .ok (.iconst 0, 1) := by decide +kernel
theorem d1_3 : decode K1 3 = .ok (.aload_n 1, 1) := by decide +kernel
theorem d1_4 : decode K1 4 = .ok (.arraylength, 1) := by decide +kernel
theorem d1_5 : decode K1 5 = .ok (.aconst_null, 1) := by decide +kernel
theorem d1_6 : decode K1 6 = .ok (.invokespecial 27, 3) := by decide +kernel
theorem d1_9 : decode K1 9 = .ok (.return_, 1) := by decide +kernel
theorem d2_0 : decode K2 0 = .ok (.aload_n 0, 1) := by decide +kernel
theorem d2_1 : decode K2 1 = .ok (.invokespecial 1, 3) := by decide +kernel
theorem d2_4 : decode K2 4 = .ok (.iload_n 3, 1) := by decide +kernel
theorem d2_5 : decode K2 5 = .ok (.ifCond .ne 22, 3) := by decide +kernel
theorem d2_8 : decode K2 8 = .ok (.aload_n 0, 1) := by decide +kernel
theorem d2_9 : decode K2 9 = .ok (.ldc 7, 2) := by decide +kernel
theorem d2_11 : decode K2 11 = .ok (.getfield 9, 3) := by decide +kernel
theorem d2_14 : decode K2 14 = .ok (.putfield 9, 3) := by decide +kernel
theorem d2_17 : decode K2 17 = .ok (.aload_n 0, 1) := by decide +kernel
theorem d2_18 : decode K2 18 = .ok (.ldc 7, 2) := by decide +kernel
theorem d2_20 : decode K2 20 = .ok (.getfield 15, 3) := by decide +kernel
theorem d2_23 : decode K2 23 = .ok (.putfield 15, 3) := by decide +kernel
theorem d2_26 : decode K2 26 = .ok (.return_, 1) := by decide +kernel
theorem d2_27 : decode K2 27 = .ok (.getstatic 38, 3) := by decide +kernel
theorem d2_30 : decode K2 30 = .ok (.ifCond .eq 28, 3) := by decide +kernel
theorem d2_33 : decode K2 33 = .ok (.aload_n 1, 1) := by decide +kernel
theorem d2_34 : decode K2 34 = .ok (.iload_n 2, 1) := by decide +kernel
theorem d2_35 : decode K2 35 = .ok (.iload_n 3, 1) := by decide +kernel
theorem d2_36 : decode K2 36 = .ok (.invokestatic 177, 3) := by decide +kernel
theorem d2_39 : decode K2 39 = .ok (.astore 5, 2) := by decide +kernel
theorem d2_41 : decode K2 41 = .ok (.aload_n 0, 1) := by decide +kernel
theorem d2_42 : decode K2 42 = .ok (.aload 5, 2) := by decide +kernel
theorem d2_44 : decode K2 44 = .ok (.iload_n 3, 1) := by decide +kernel
theorem d2_45 : decode K2 45 = .ok (.invokestatic 47, 3) := by decide +kernel
theorem d2_48 : decode K2 48 = .ok (.putfield 15, 3) := by decide +kernel
theorem d2_51 : decode K2 51 = .ok (.aload_n 0, 1) := by decide +kernel
theorem d2_52 : decode K2 52 = .ok (.aload 5, 2) := by decide +kernel
theorem d2_54 : decode K2 54 = .ok (.putfield 9, 3) := by decide +kernel
theorem d2_57 : decode K2 57 = .ok (.return_, 1) := by decide +kernel
theorem d4_0 : decode K4 0 = .ok (.new 37, 3) := by decide +kernel
theorem d4_3 : decode K4 3 = .ok (.dup, 1) := by decide +kernel
theorem d4_4 : decode K4 4 = .ok (.invokespecial 39, 3) := by decide +kernel
theorem d4_7 : decode K4 7 = .ok (.getstatic 75, 3) := by decide +kernel
theorem d4_10 : decode K4 10 = .ok (.invokevirtual 40, 3) := by decide +kernel
theorem d4_13 : decode K4 13 = .ok (.ldc 173, 2) := by decide +kernel
theorem d4_15 : decode K4 15 = .ok (.invokevirtual 46, 3) := by decide +kernel
theorem d4_18 : decode K4 18 = .ok (.aload_n 0, 1) := by decide +kernel
theorem d4_19 : decode K4 19 = .ok (.invokevirtual 46, 3) := by decide +kernel
theorem d4_22 : decode K4 22 = .ok (.ldc 175, 2) := by decide +kernel
theorem d4_24 : decode K4 24 = .ok (.invokevirtual 46, 3) := by decide +kernel
theorem d4_27 : decode K4 27 = .ok (.invokevirtual 49, 3) := by decide +kernel
theorem d4_30 : decode K4 30 = .ok (.areturn, 1) := by decide +kernel
theorem d5_0 : decode K5 0 = .ok (.aload_n 0, 1) := by decide +kernel
theorem d5_1 : decode K5 1 = .ok (.bipush 16, 2) := by decide +kernel
theorem d5_3 : decode K5 3 = .ok (.invokespecial 1, 3) := by decide +kernel
theorem d5_6 : decode K5 6 = .ok (.return_, 1) := by decide +kernel
theorem d6_0 : decode K6 0 = .ok (.aload_n 0, 1) := by decide +kernel
theorem d6_1 : decode K6 1 = .ok (.invokespecial 3, 3) := by decide +kernel
theorem d6_4 : decode K6 4 = .ok (.getstatic 18, 3) := by decide +kernel
theorem d6_7 : decode K6 7 = .ok (.ifCond .eq 18, 3) := by decide +kernel
theorem d6_10 : decode K6 10 = .ok (.aload_n 0, 1) := by decide +kernel
theorem d6_11 : decode K6 11 = .ok (.iload_n 1, 1) := by decide +kernel
theorem d6_12 : decode K6 12 = .ok (.newarray .byte, 2) := by decide +kernel
theorem d6_14 : decode K6 14 = .ok (.putfield 15, 3) := by decide +kernel
theorem d6_17 : decode K6 17 = .ok (.aload_n 0, 1) := by decide +kernel
theorem d6_18 : decode K6 18 = .ok (.iconst 0, 1) := by decide +kernel
theorem d6_19 : decode K6 19 = .ok (.putfield 22, 3) := by decide +kernel
theorem d6_22 : decode K6 22 = .ok (.goto 16, 3) := by decide +kernel
theorem d6_38 : decode K6 38 = .ok (.return_, 1) := by decide +kernel
theorem d7_0 : decode K7 0 = .ok (.aload_n 0, 1) := by decide +kernel
theorem d7_1 : decode K7 1 = .ok (.aload_n 1, 1) := by decide +kernel
theorem d7_2 : decode K7 2 = .ok (.invokestatic 17, 3) := by decide +kernel
theorem d7_5 : decode K7 5 = .ok (.invokevirtual 23, 3) := by decide +kernel
theorem d7_8 : decode K7 8 = .ok (.areturn, 1) := by decide +kernel
theorem d8_0 : decode K8 0 = .ok (.aload_n 0, 1) := by decide +kernel
theorem d8_1 : decode K8 1 = .ok (.ifnonnull 9, 3) := by decide +kernel
theorem d8_10 : decode K8 10 = .ok (.aload_n 0, 1) := by decide +kernel
theorem d8_11 : decode K8 11 = .ok (.invokevirtual 1007, 3) := by decide +kernel
theorem d8_14 : decode K8 14 = .ok (.areturn, 1) := by decide +kernel
theorem d9_0 : decode K9 0 = .ok (.new 66, 3) := by decide +kernel
theorem d9_3 : decode K9 3 = .ok (.dup, 1) := by decide +kernel
theorem d9_4 : decode K9 4 = .ok (.invokespecial 68, 3) := by decide +kernel
theorem d9_7 : decode K9 7 = .ok (.ldc 71, 2) := by decide +kernel
theorem d9_9 : decode K9 9 = .ok (.invokevirtual 73, 3) := by decide +kernel
theorem d9_12 : decode K9 12 = .ok (.aload_n 0, 1) := by decide +kernel
theorem d9_13 : decode K9 13 = .ok (.getfield 59, 3) := by decide +kernel
theorem d9_16 : decode K9 16 = .ok (.invokevirtual 73, 3) := by decide +kernel
theorem d9_19 : decode K9 19 = .ok (.ldc 77, 2) := by decide +kernel
theorem d9_21 : decode K9 21 = .ok (.invokevirtual 73, 3) := by decide +kernel
theorem d9_24 : decode K9 24 = .ok (.aload_n 0, 1) := by decide +kernel
theorem d9_25 : decode K9 25 = .ok (.getfield 63, 3) := by decide +kernel
theorem d9_28 : decode K9 28 = .ok (.invokevirtual 73, 3) := by decide +kernel
theorem d9_31 : decode K9 31 = .ok (.invokevirtual 79, 3) := by decide +kernel
theorem d9_34 : decode K9 34 = .ok (.areturn, 1) := by decide +kernel
theorem d10_0 : decode K10 0 = .ok (.aload_n 0, 1) := by decide +kernel
theorem d10_1 : decode K10 1 = .ok (.aload_n 1, 1) := by decide +kernel
theorem d10_2 : decode K10 2 = .ok (.invokespecial 29, 3) := by decide +kernel
theorem d10_5 : decode K10 5 = .ok (.pop, 1) := by decide +kernel
theorem d10_6 : decode K10 6 = .ok (.aload_n 0, 1) := by decide +kernel
theorem d10_7 : decode K10 7 = .ok (.areturn, 1) := by decide +kernel
theorem d11_0 : decode K11 0 = .ok (.aload_n 1, 1) := by decide +kernel
theorem d11_1 : decode K11 1 = .ok (.ifnonnull 8, 3) := by decide +kernel
theorem d11_9 : decode K11 9 = .ok (.aload_n 1, 1) := by decide +kernel
theorem d11_10 : decode K11 10 = .ok (.invokevirtual 32, 3) := by decide +kernel
theorem d11_13 : decode K11 13 = .ok (.istore_n 2, 1) := by decide +kernel
theorem d11_14 : decode K11 14 = .ok (.aload_n 0, 1) := by decide +kernel
theorem d11_15 : decode K11 15 = .ok (.aload_n 0, 1) := by decide +kernel
theorem d11_16 : decode K11 16 = .ok (.getfield 79, 3) := by decide +kernel
theorem d11_19 : decode K11 19 = .ok (.iload_n 2, 1) := by decide +kernel
theorem d11_20 : decode K11 20 = .ok (.iadd, 1) := by decide +kernel
theorem d11_21 : decode K11 21 = .ok (.invokevirtual 100, 3) := by decide +kernel
theorem d11_24 : decode K11 24 = .ok (.aload_n 0, 1) := by decide +kernel
theorem d11_25 : decode K11 25 = .ok (.aload_n 0, 1) := by decide +kernel
theorem d11_26 : decode K11 26 = .ok (.getfield 79, 3) := by decide +kernel
theorem d11_29 : decode K11 29 = .ok (.aload_n 1, 1) := by decide +kernel
theorem d11_30 : decode K11 30 = .ok (.invokevirtual 208, 3) := by decide +kernel
theorem d11_33 : decode K11 33 = .ok (.aload_n 0, 1) := by decide +kernel
theorem d11_34 : decode K11 34 = .ok (.dup, 1) := by decide +kernel
theorem d11_35 : decode K11 35 = .ok (.getfield 79, 3) := by decide +kernel
theorem d11_38 : decode K11 38 = .ok (.iload_n 2, 1) := by decide +kernel
theorem d11_39 : decode K11 39 = .ok (.iadd, 1) := by decide +kernel
theorem d11_40 : decode K11 40 = .ok (.putfield 79, 3) := by decide +kernel
theorem d11_43 : decode K11 43 = .ok (.aload_n 0, 1) := by decide +kernel
theorem d11_44 : decode K11 44 = .ok (.areturn, 1) := by decide +kernel
theorem d12_0 : decode K12 0 = .ok (.aload_n 0, 1) := by decide +kernel
theorem d12_1 : decode K12 1 = .ok (.getfield 9, 3) := by decide +kernel
theorem d12_4 : decode K12 4 = .ok (.arraylength, 1) := by decide +kernel
theorem d12_5 : decode K12 5 = .ok (.aload_n 0, 1) := by decide +kernel
theorem d12_6 : decode K12 6 = .ok (.invokevirtual 335, 3) := by decide +kernel
theorem d12_9 : decode K12 9 = .ok (.ishr, 1) := by decide +kernel
theorem d12_10 : decode K12 10 = .ok (.ireturn, 1) := by decide +kernel
theorem d13_0 : decode K13 0 = .ok (.getstatic 38, 3) := by decide +kernel
theorem d13_3 : decode K13 3 = .ok (.ifCond .eq 10, 3) := by decide +kernel
theorem d13_6 : decode K13 6 = .ok (.aload_n 0, 1) := by decide +kernel
theorem d13_7 : decode K13 7 = .ok (.getfield 15, 3) := by decide +kernel
theorem d13_10 : decode K13 10 = .ok (.goto 4, 3) := by decide +kernel
theorem d13_14 : decode K13 14 = .ok (.ireturn, 1) := by decide +kernel
theorem d14_0 : decode K14 0 = .ok (.aload_n 0, 1) := by decide +kernel
theorem d14_1 : decode K14 1 = .ok (.getfield 15, 3) := by decide +kernel
theorem d14_4 : decode K14 4 = .ok (.arraylength, 1) := by decide +kernel
theorem d14_5 : decode K14 5 = .ok (.aload_n 0, 1) := by decide +kernel
theorem d14_6 : decode K14 6 = .ok (.getfield 22, 3) := by decide +kernel
theorem d14_9 : decode K14 9 = .ok (.ishr, 1) := by decide +kernel
theorem d14_10 : decode K14 10 = .ok (.istore_n 2, 1) := by decide +kernel
theorem d14_11 : decode K14 11 = .ok (.iload_n 1, 1) := by decide +kernel
theorem d14_12 : decode K14 12 = .ok (.iload_n 2, 1) := by decide +kernel
theorem d14_13 : decode K14 13 = .ok (.isub, 1) := by decide +kernel
theorem d14_14 : decode K14 14 = .ok (.ifCond .le 24, 3) := by decide +kernel
theorem d14_17 : decode K14 17 = .ok (.aload_n 0, 1) := by decide +kernel
theorem d14_18 : decode K14 18 = .ok (.aload_n 0, 1) := by decide +kernel
theorem d14_19 : decode K14 19 = .ok (.getfield 15, 3) := by decide +kernel
theorem d14_22 : decode K14 22 = .ok (.aload_n 0, 1) := by decide +kernel
theorem d14_23 : decode K14 23 = .ok (.iload_n 1, 1) := by decide +kernel
theorem d14_24 : decode K14 24 = .ok (.invokevirtual 104, 3) := by decide +kernel
theorem d14_27 : decode K14 27 = .ok (.aload_n 0, 1) := by decide +kernel
theorem d14_28 : decode K14 28 = .ok (.getfield 22, 3) := by decide +kernel
theorem d14_31 : decode K14 31 = .ok (.ishl, 1) := by decide +kernel
theorem d14_32 : decode K14 32 = .ok (.invokestatic 108, 3) := by decide +kernel
theorem d14_35 : decode K14 35 = .ok (.putfield 15, 3) := by decide +kernel
theorem d14_38 : decode K14 38 = .ok (.return_, 1) := by decide +kernel
theorem d15_0 : decode K15 0 = .ok (.aload_n 0, 1) := by decide +kernel
theorem d15_1 : decode K15 1 = .ok (.aload_n 2, 1) := by decide +kernel
theorem d15_2 : decode K15 2 = .ok (.invokevirtual 397, 3) := by decide +kernel
theorem d15_5 : decode K15 5 = .ok (.aload_n 2, 1) := by decide +kernel
theorem d15_6 : decode K15 6 = .ok (.aload_n 0, 1) := by decide +kernel
theorem d15_7 : decode K15 7 = .ok (.getfield 15, 3) := by decide +kernel
theorem d15_10 : decode K15 10 = .ok (.iload_n 1, 1) := by decide +kernel
theorem d15_11 : decode K15 11 = .ok (.aload_n 0, 1) := by decide +kernel
theorem d15_12 : decode K15 12 = .ok (.getfield 22, 3) := by decide +kernel
theorem d15_15 : decode K15 15 = .ok (.invokevirtual 399, 3) := by decide +kernel
theorem d15_18 : decode K15 18 = .ok (.return_, 1) := by decide +kernel
theorem d16_0 : decode K16 0 = .ok (.getstatic 18, 3) := by decide +kernel
theorem d16_3 : decode K16 3 = .ok (.ifCond .eq 18, 3) := by decide +kernel
theorem d16_6 : decode K16 6 = .ok (.aload_n 0, 1) := by decide +kernel
theorem d16_7 : decode K16 7 = .ok (.getfield 22, 3) := by decide +kernel
theorem d16_10 : decode K16 10 = .ok (.aload_n 1, 1) := by decide +kernel
theorem d16_11 : decode K16 11 = .ok (.invokevirtual 40, 3) := by decide +kernel
theorem d16_14 : decode K16 14 = .ok (.if_icmp .eq 7, 3) := by decide +kernel
theorem d16_17 : decode K16 17 = .ok (.aload_n 0, 1) := by decide +kernel
theorem d16_18 : decode K16 18 = .ok (.invokevirtual 195, 3) := by decide +kernel
theorem d16_21 : decode K16 21 = .ok (.return_, 1) := by decide +kernel
theorem d17_0 : decode K17 0 = .ok (.aload_n 0, 1) := by decide +kernel
theorem d17_1 : decode K17 1 = .ok (.invokevirtual 335, 3) := by decide +kernel
theorem d17_4 : decode K17 4 = .ok (.iload_n 3, 1) := by decide +kernel
theorem d17_5 : decode K17 5 = .ok (.if_icmp .ne 23, 3) := by decide +kernel
theorem d17_8 : decode K17 8 = .ok (.aload_n 0, 1) := by decide +kernel
theorem d17_9 : decode K17 9 = .ok (.getfield 9, 3) := by decide +kernel
theorem d17_12 : decode K17 12 = .ok (.iconst 0, 1) := by decide +kernel
theorem d17_13 : decode K17 13 = .ok (.aload_n 1, 1) := by decide +kernel
theorem d17_14 : decode K17 14 = .ok (.iload_n 2, 1) := by decide +kernel
theorem d17_15 : decode K17 15 = .ok (.iload_n 3, 1) := by decide +kernel
theorem d17_16 : decode K17 16 = .ok (.ishl, 1) := by decide +kernel
theorem d17_17 : decode K17 17 = .ok (.aload_n 0, 1) := by decide +kernel
theorem d17_18 : decode K17 18 = .ok (.getfield 9, 3) := by decide +kernel
theorem d17_21 : decode K17 21 = .ok (.arraylength, 1) := by decide +kernel
theorem d17_22 : decode K17 22 = .ok (.invokestatic 212, 3) := by decide +kernel
theorem d17_25 : decode K17 25 = .ok (.goto 18, 3) := by decide +kernel
theorem d17_28 : decode K17 28 = .ok (.aload_n 0, 1) := by decide +kernel
theorem d17_29 : decode K17 29 = .ok (.getfield 9, 3) := by decide +kernel
theorem d17_32 : decode K17 32 = .ok (.iconst 0, 1) := by decide +kernel
theorem d17_33 : decode K17 33 = .ok (.aload_n 1, 1) := by decide +kernel
theorem d17_34 : decode K17 34 = .ok (.iload_n 2, 1) := by decide +kernel
theorem d17_35 : decode K17 35 = .ok (.aload_n 0, 1) := by decide +kernel
theorem d17_36 : decode K17 36 = .ok (.getfield 9, 3) := by decide +kernel
theorem d17_39 : decode K17 39 = .ok (.arraylength, 1) := by decide +kernel
theorem d17_40 : decode K17 40 = .ok (.invokestatic 106, 3) := by decide +kernel
theorem d17_43 : decode K17 43 = .ok (.return_, 1) := by decide +kernel
theorem d18_0 : decode K18 0 = .ok (.new 18, 3) := by decide +kernel
theorem d18_3 : decode K18 3 = .ok (.dup, 1) := by decide +kernel
theorem d18_4 : decode K18 4 = .ok (.aload_n 0, 1) := by decide +kernel
theorem d18_5 : decode K18 5 = .ok (.invokespecial 137, 3) := by decide +kernel
theorem d18_8 : decode K18 8 = .ok (.areturn, 1) := by decide +kernel
theorem d19_0 : decode K19 0 = .ok (.aload_n 0, 1) := by decide +kernel
theorem d19_1 : decode K19 1 = .ok (.aload_n 1, 1) := by decide +kernel
theorem d19_2 : decode K19 2 = .ok (.aconst_null, 1) := by decide +kernel
theorem d19_3 : decode K19 3 = .ok (.invokespecial 489, 3) := by decide +kernel
theorem d19_6 : decode K19 6 = .ok (.return_, 1) := by decide +kernel
theorem d20_0 : decode K20 0 = .ok (.aload_n 0, 1) := by decide +kernel
theorem d20_1 : decode K20 1 = .ok (.invokespecial 1, 3) := by decide +kernel
theorem d20_4 : decode K20 4 = .ok (.aload_n 1, 1) := by decide +kernel
theorem d20_5 : decode K20 5 = .ok (.invokevirtual 552, 3) := by decide +kernel
theorem d20_8 : decode K20 8 = .ok (.astore_n 3, 1) := by decide +kernel
theorem d20_9 : decode K20 9 = .ok (.aload_n 1, 1) := by decide +kernel
theorem d20_10 : decode K20 10 = .ok (.invokevirtual 549, 3) := by decide +kernel
theorem d20_13 : decode K20 13 = .ok (.istore 4, 2) := by decide +kernel
theorem d20_15 : decode K20 15 = .ok (.aload_n 1, 1) := by decide +kernel
theorem d20_16 : decode K20 16 = .ok (.invokevirtual 1047, 3) := by decide +kernel
theorem d20_19 : decode K20 19 = .ok (.ifCond .eq 22, 3) := by decide +kernel
theorem d20_22 : decode K20 22 = .ok (.aload_n 0, 1) := by decide +kernel
theorem d20_23 : decode K20 23 = .ok (.iconst 0, 1) := by decide +kernel
theorem d20_24 : decode K20 24 = .ok (.putfield 15, 3) := by decide +kernel
theorem d20_27 : decode K20 27 = .ok (.aload_n 0, 1) := by decide +kernel
theorem d20_28 : decode K20 28 = .ok (.aload_n 3, 1) := by decide +kernel
theorem d20_29 : decode K20 29 = .ok (.iconst 0, 1) := by decide +kernel
theorem d20_30 : decode K20 30 = .ok (.iload 4, 2) := by decide +kernel
theorem d20_32 : decode K20 32 = .ok (.invokestatic 54, 3) := by decide +kernel
theorem d20_35 : decode K20 35 = .ok (.putfield 9, 3) := by decide +kernel
theorem d20_38 : decode K20 38 = .ok (.goto 59, 3) := by decide +kernel
theorem d20_41 : decode K20 41 = .ok (.getstatic 38, 3) := by decide +kernel
theorem d20_44 : decode K20 44 = .ok (.ifCond .eq 35, 3) := by decide +kernel
theorem d20_47 : decode K20 47 = .ok (.aload_n 1, 1) := by decide +kernel
theorem d20_48 : decode K20 48 = .ok (.getfield 1048, 3) := by decide +kernel
theorem d20_51 : decode K20 51 = .ok (.ifCond .eq 28, 3) := by decide +kernel
theorem d20_79 : decode K20 79 = .ok (.aload_n 0, 1) := by decide +kernel
theorem d20_80 : decode K20 80 = .ok (.iconst 1, 1) := by decide +kernel
theorem d20_81 : decode K20 81 = .ok (.putfield 15, 3) := by decide +kernel
theorem d20_84 : decode K20 84 = .ok (.aload_n 0, 1) := by decide +kernel
theorem d20_85 : decode K20 85 = .ok (.aload_n 3, 1) := by decide +kernel
theorem d20_86 : decode K20 86 = .ok (.iconst 0, 1) := by decide +kernel
theorem d20_87 : decode K20 87 = .ok (.iload 4, 2) := by decide +kernel
theorem d20_89 : decode K20 89 = .ok (.iconst 1, 1) := by decide +kernel
theorem d20_90 : decode K20 90 = .ok (.ishl, 1) := by decide +kernel
theorem d20_91 : decode K20 91 = .ok (.invokestatic 54, 3) := by decide +kernel
theorem d20_94 : decode K20 94 = .ok (.putfield 9, 3) := by decide +kernel
theorem d20_97 : decode K20 97 = .ok (.return_, 1) := by decide +kernel
theorem d21_0 : decode K21 0 = .ok (.aload_n 0, 1) := by decide +kernel
theorem d21_1 : decode K21 1 = .ok (.getfield 15, 3) := by decide +kernel
theorem d21_4 : decode K21 4 = .ok (.areturn, 1) := by decide +kernel
theorem d22_0 : decode K22 0 = .ok (.aload_n 0, 1) := by decide +kernel
theorem d22_1 : decode K22 1 = .ok (.invokespecial 343, 3) := by decide +kernel
theorem d22_4 : decode K22 4 = .ok (.ireturn, 1) := by decide +kernel
theorem d23_0 : decode K23 0 = .ok (.aload_n 0, 1) := by decide +kernel
theorem d23_1 : decode K23 1 = .ok (.getfield 79, 3) := by decide +kernel
theorem d23_4 : decode K23 4 = .ok (.ireturn, 1) := by decide +kernel
theorem d24_0 : decode K24 0 = .ok (.getstatic 18, 3) := by decide +kernel
theorem d24_3 : decode K24 3 = .ok (.ifCond .eq 14, 3) := by decide +kernel
theorem d24_6 : decode K24 6 = .ok (.aload_n 0, 1) := by decide +kernel
theorem d24_7 : decode K24 7 = .ok (.getfield 22, 3) := by decide +kernel
theorem d24_10 : decode K24 10 = .ok (.ifCond .ne 7, 3) := by decide +kernel
theorem d24_13 : decode K24 13 = .ok (.iconst 1, 1) := by decide +kernel
theorem d24_14 : decode K24 14 = .ok (.goto 4, 3) := by decide +kernel
theorem d24_17 : decode K24 17 = .ok (.iconst 0, 1) := by decide +kernel
theorem d24_18 : decode K24 18 = .ok (.ireturn, 1) := by decide +kernel
theorem d25_0 : decode K25 0 = .ok (.iload_n 1, 1) := by decide +kernel
theorem d25_1 : decode K25 1 = .ok (.ifCond .ne 9, 3) := by decide +kernel
theorem d25_4 : decode K25 4 = .ok (.iload_n 2, 1) := by decide +kernel
theorem d25_5 : decode K25 5 = .ok (.aload_n 0, 1) := by decide +kernel
theorem d25_6 : decode K25 6 = .ok (.arraylength, 1) := by decide +kernel
theorem d25_7 : decode K25 7 = .ok (.if_icmp .eq 10, 3) := by decide +kernel
theorem d25_10 : decode K25 10 = .ok (.aload_n 0, 1) := by decide +kernel
theorem d25_11 : decode K25 11 = .ok (.iload_n 1, 1) := by decide +kernel
theorem d25_12 : decode K25 12 = .ok (.iload_n 2, 1) := by decide +kernel
theorem d25_13 : decode K25 13 = .ok (.invokestatic 339, 3) := by decide +kernel
theorem d25_16 : decode K25 16 = .ok (.areturn, 1) := by decide +kernel
theorem d25_17 : decode K25 17 = .ok (.aload_n 0, 1) := by decide +kernel
theorem d25_18 : decode K25 18 = .ok (.invokevirtual 310, 3) := by decide +kernel
theorem d25_21 : decode K25 21 = .ok (.checkcast 311, 3) := by decide +kernel
theorem d25_24 : decode K25 24 = .ok (.areturn, 1) := by decide +kernel
theorem d26_0 : decode K26 0 = .ok (.iload_n 1, 1) := by decide +kernel
theorem d26_1 : decode K26 1 = .ok (.iload_n 2, 1) := by decide +kernel
theorem d26_2 : decode K26 2 = .ok (.invokestatic 343, 3) := by decide +kernel
theorem d26_5 : decode K26 5 = .ok (.iload_n 2, 1) := by decide +kernel
theorem d26_6 : decode K26 6 = .ok (.iload_n 1, 1) := by decide +kernel
theorem d26_7 : decode K26 7 = .ok (.isub, 1) := by decide +kernel
theorem d26_8 : decode K26 8 = .ok (.istore_n 3, 1) := by decide +kernel
theorem d26_9 : decode K26 9 = .ok (.iload_n 3, 1) := by decide +kernel
theorem d26_10 : decode K26 10 = .ok (.newarray .byte, 2) := by decide +kernel
theorem d26_12 : decode K26 12 = .ok (.astore 4, 2) := by decide +kernel
theorem d26_14 : decode K26 14 = .ok (.aload_n 0, 1) := by decide +kernel
theorem d26_15 : decode K26 15 = .ok (.iload_n 1, 1) := by decide +kernel
theorem d26_16 : decode K26 16 = .ok (.aload 4, 2) := by decide +kernel
theorem d26_18 : decode K26 18 = .ok (.iconst 0, 1) := by decide +kernel
theorem d26_19 : decode K26 19 = .ok (.aload_n 0, 1) := by decide +kernel
theorem d26_20 : decode K26 20 = .ok (.arraylength, 1) := by decide +kernel
theorem d26_21 : decode K26 21 = .ok (.iload_n 1, 1) := by decide +kernel
theorem d26_22 : decode K26 22 = .ok (.isub, 1) := by decide +kernel
theorem d26_23 : decode K26 23 = .ok (.iload_n 3, 1) := by decide +kernel
theorem d26_24 : decode K26 24 = .ok (.invokestatic 304, 3) := by decide +kernel
theorem d26_27 : decode K26 27 = .ok (.invokestatic 150, 3) := by decide +kernel
theorem d26_30 : decode K26 30 = .ok (.aload 4, 2) := by decide +kernel
theorem d26_32 : decode K26 32 = .ok (.areturn, 1) := by decide +kernel
theorem d27_0 : decode K27 0 = .ok (.iload_n 1, 1) := by decide +kernel
theorem d27_1 : decode K27 1 = .ok (.iload_n 0, 1) := by decide +kernel
theorem d27_2 : decode K27 2 = .ok (.if_icmp .ge 35, 3) := by decide +kernel
theorem d27_37 : decode K27 37 = .ok (.return_, 1) := by decide +kernel
theorem d28_0 : decode K28 0 = .ok (.iload_n 0, 1) := by decide +kernel
theorem d28_1 : decode K28 1 = .ok (.iload_n 1, 1) := by decide +kernel
theorem d28_2 : decode K28 2 = .ok (.if_icmp .gt 7, 3) := by decide +kernel
theorem d28_5 : decode K28 5 = .ok (.iload_n 0, 1) := by decide +kernel
theorem d28_6 : decode K28 6 = .ok (.goto 4, 3) := by decide +kernel
theorem d28_9 : decode K28 9 = .ok (.iload_n 1, 1) := by decide +kernel
theorem d28_10 : decode K28 10 = .ok (.ireturn, 1) := by decide +kernel
theorem d29_0 : decode K29 0 = .ok (.aload_n 0, 1) := by decide +kernel
theorem d29_1 : decode K29 1 = .ok (.getfield 15, 3) := by decide +kernel
theorem d29_4 : decode K29 4 = .ok (.arraylength, 1) := by decide +kernel
theorem d29_5 : decode K29 5 = .ok (.istore_n 2, 1) := by decide +kernel
theorem d29_6 : decode K29 6 = .ok (.iload_n 1, 1) := by decide +kernel
theorem d29_7 : decode K29 7 = .ok (.aload_n 0, 1) := by decide +kernel
theorem d29_8 : decode K29 8 = .ok (.getfield 22, 3) := by decide +kernel
theorem d29_11 : decode K29 11 = .ok (.ishl, 1) := by decide +kernel
theorem d29_12 : decode K29 12 = .ok (.istore_n 3, 1) := by decide +kernel
theorem d29_13 : decode K29 13 = .ok (.iload_n 3, 1) := by decide +kernel
theorem d29_14 : decode K29 14 = .ok (.iload_n 2, 1) := by decide +kernel
theorem d29_15 : decode K29 15 = .ok (.isub, 1) := by decide +kernel
theorem d29_16 : decode K29 16 = .ok (.istore 4, 2) := by decide +kernel
theorem d29_18 : decode K29 18 = .ok (.iload_n 2, 1) := by decide +kernel
theorem d29_19 : decode K29 19 = .ok (.iload 4, 2) := by decide +kernel
theorem d29_21 : decode K29 21 = .ok (.iload_n 2, 1) := by decide +kernel
theorem d29_22 : decode K29 22 = .ok (.iconst 2, 1) := by decide +kernel
theorem d29_23 : decode K29 23 = .ok (.aload_n 0, 1) := by decide +kernel
theorem d29_24 : decode K29 24 = .ok (.getfield 22, 3) := by decide +kernel
theorem d29_27 : decode K29 27 = .ok (.ishl, 1) := by decide +kernel
theorem d29_28 : decode K29 28 = .ok (.iadd, 1) := by decide +kernel
theorem d29_29 : decode K29 29 = .ok (.invokestatic 114, 3) := by decide +kernel
theorem d29_32 : decode K29 32 = .ok (.istore 5, 2) := by decide +kernel
theorem d29_34 : decode K29 34 = .ok (.iload 5, 2) := by decide +kernel
theorem d29_36 : decode K29 36 = .ok (.ldc 39, 2) := by decide +kernel
theorem d29_38 : decode K29 38 = .ok (.if_icmp .ne 13, 3) := by decide +kernel
theorem d29_51 : decode K29 51 = .ok (.iload 5, 2) := by decide +kernel
theorem d29_53 : decode K29 53 = .ok (.aload_n 0, 1) := by decide +kernel
theorem d29_54 : decode K29 54 = .ok (.getfield 22, 3) := by decide +kernel
theorem d29_57 : decode K29 57 = .ok (.ishr, 1) := by decide +kernel
theorem d29_58 : decode K29 58 = .ok (.ireturn, 1) := by decide +kernel
theorem d30_0 : decode K30 0 = .ok (.iload_n 0, 1) := by decide +kernel
theorem d30_1 : decode K30 1 = .ok (.iload_n 1, 1) := by decide +kernel
theorem d30_2 : decode K30 2 = .ok (.iload_n 2, 1) := by decide +kernel
theorem d30_3 : decode K30 3 = .ok (.invokestatic 194, 3) := by decide +kernel
theorem d30_6 : decode K30 6 = .ok (.iadd, 1) := by decide +kernel
theorem d30_7 : decode K30 7 = .ok (.istore_n 3, 1) := by decide +kernel
theorem d30_8 : decode K30 8 = .ok (.iconst 0, 1) := by decide +kernel
theorem d30_9 : decode K30 9 = .ok (.iload_n 3, 1) := by decide +kernel
theorem d30_10 : decode K30 10 = .ok (.if_icmp .ge 11, 3) := by decide +kernel
theorem d30_13 : decode K30 13 = .ok (.iload_n 3, 1) := by decide +kernel
theorem d30_14 : decode K30 14 = .ok (.ldc 200, 2) := by decide +kernel
theorem d30_16 : decode K30 16 = .ok (.if_icmp .gt 5, 3) := by decide +kernel
theorem d30_19 : decode K30 19 = .ok (.iload_n 3, 1) := by decide +kernel
theorem d30_20 : decode K30 20 = .ok (.ireturn, 1) := by decide +kernel
theorem d31_0 : decode K31 0 = .ok (.iload_n 0, 1) := by decide +kernel
theorem d31_1 : decode K31 1 = .ok (.iload_n 1, 1) := by decide +kernel
theorem d31_2 : decode K31 2 = .ok (.if_icmp .lt 7, 3) := by decide +kernel
theorem d31_5 : decode K31 5 = .ok (.iload_n 0, 1) := by decide +kernel
theorem d31_6 : decode K31 6 = .ok (.goto 4, 3) := by decide +kernel
theorem d31_9 : decode K31 9 = .ok (.iload_n 1, 1) := by decide +kernel
theorem d31_10 : decode K31 10 = .ok (.ireturn, 1) := by decide +kernel
theorem d32_0 : decode K32 0 = .ok (.iload_n 1, 1) := by decide +kernel
theorem d32_1 : decode K32 1 = .ok (.aload_n 0, 1) := by decide +kernel
theorem d32_2 : decode K32 2 = .ok (.arraylength, 1) := by decide +kernel
theorem d32_3 : decode K32 3 = .ok (.if_icmp .ne 11, 3) := by decide +kernel
theorem d32_14 : decode K32 14 = .ok (.iload_n 1, 1) := by decide +kernel
theorem d32_15 : decode K32 15 = .ok (.newarray .byte, 2) := by decide +kernel
theorem d32_17 : decode K32 17 = .ok (.astore_n 2, 1) := by decide +kernel
theorem d32_18 : decode K32 18 = .ok (.aload_n 0, 1) := by decide +kernel
theorem d32_19 : decode K32 19 = .ok (.iconst 0, 1) := by decide +kernel
theorem d32_20 : decode K32 20 = .ok (.aload_n 2, 1) := by decide +kernel
theorem d32_21 : decode K32 21 = .ok (.iconst 0, 1) := by decide +kernel
theorem d32_22 : decode K32 22 = .ok (.aload_n 0, 1) := by decide +kernel
theorem d32_23 : decode K32 23 = .ok (.arraylength, 1) := by decide +kernel
theorem d32_24 : decode K32 24 = .ok (.iload_n 1, 1) := by decide +kernel
theorem d32_25 : decode K32 25 = .ok (.invokestatic 304, 3) := by decide +kernel
theorem d32_28 : decode K32 28 = .ok (.invokestatic 150, 3) := by decide +kernel
theorem d32_31 : decode K32 31 = .ok (.aload_n 2, 1) := by decide +kernel
theorem d32_32 : decode K32 32 = .ok (.areturn, 1) := by decide +kernel
theorem d33_0 : decode K33 0 = .ok (.aload_n 0, 1) := by decide +kernel
theorem d33_1 : decode K33 1 = .ok (.iconst 0, 1) := by decide +kernel
theorem d33_2 : decode K33 2 = .ok (.invokevirtual 26, 3) := by decide +kernel
theorem d33_5 : decode K33 5 = .ok (.bipush 91, 2) := by decide +kernel
theorem d33_7 : decode K33 7 = .ok (.if_icmp .ne 156, 3) := by decide +kernel
theorem d33_10 : decode K33 10 = .ok (.aload_n 0, 1) := by decide +kernel
theorem d33_11 : decode K33 11 = .ok (.iconst 1, 1) := by decide +kernel
theorem d33_12 : decode K33 12 = .ok (.invokevirtual 26, 3) := by decide +kernel
theorem d33_15 : decode K33 15 = .ok (.bipush 102, 2) := by decide +kernel
theorem d33_17 : decode K33 17 = .ok (.if_icmp .ne 146, 3) := by decide +kernel
theorem d33_20 : decode K33 20 = .ok (.aload_n 0, 1) := by decide +kernel
theorem d33_21 : decode K33 21 = .ok (.iconst 2, 1) := by decide +kernel
theorem d33_22 : decode K33 22 = .ok (.invokevirtual 26, 3) := by decide +kernel
theorem d33_25 : decode K33 25 = .ok (.bipush 97, 2) := by decide +kernel
theorem d33_27 : decode K33 27 = .ok (.if_icmp .ne 136, 3) := by decide +kernel
theorem d33_30 : decode K33 30 = .ok (.aload_n 0, 1) := by decide +kernel
theorem d33_31 : decode K33 31 = .ok (.iconst 3, 1) := by decide +kernel
theorem d33_32 : decode K33 32 = .ok (.invokevirtual 26, 3) := by decide +kernel
theorem d33_35 : decode K33 35 = .ok (.bipush 99, 2) := by decide +kernel
theorem d33_37 : decode K33 37 = .ok (.if_icmp .ne 126, 3) := by decide +kernel
theorem d33_40 : decode K33 40 = .ok (.aload_n 0, 1) := by decide +kernel
theorem d33_41 : decode K33 41 = .ok (.iconst 4, 1) := by decide +kernel
theorem d33_42 : decode K33 42 = .ok (.invokevirtual 26, 3) := by decide +kernel
theorem d33_45 : decode K33 45 = .ok (.bipush 105, 2) := by decide +kernel
theorem d33_47 : decode K33 47 = .ok (.if_icmp .ne 116, 3) := by decide +kernel
theorem d33_50 : decode K33 50 = .ok (.aload_n 0, 1) := by decide +kernel
theorem d33_51 : decode K33 51 = .ok (.iconst 5, 1) := by decide +kernel
theorem d33_52 : decode K33 52 = .ok (.invokevirtual 26, 3) := by decide +kernel
theorem d33_55 : decode K33 55 = .ok (.bipush 108, 2) := by decide +kernel
theorem d33_57 : decode K33 57 = .ok (.if_icmp .ne 106, 3) := by decide +kernel
theorem d33_60 : decode K33 60 = .ok (.aload_n 0, 1) := by decide +kernel
theorem d33_61 : decode K33 61 = .ok (.bipush 6, 2) := by decide +kernel
theorem d33_63 : decode K33 63 = .ok (.invokevirtual 26, 3) := by decide +kernel
theorem d33_66 : decode K33 66 = .ok (.bipush 105, 2) := by decide +kernel
theorem d33_68 : decode K33 68 = .ok (.if_icmp .ne 95, 3) := by decide +kernel
theorem d33_71 : decode K33 71 = .ok (.aload_n 0, 1) := by decide +kernel
theorem d33_72 : decode K33 72 = .ok (.bipush 7, 2) := by decide +kernel
theorem d33_74 : decode K33 74 = .ok (.invokevirtual 26, 3) := by decide +kernel
theorem d33_77 : decode K33 77 = .ok (.bipush 116, 2) := by decide +kernel
theorem d33_79 : decode K33 79 = .ok (.if_icmp .ne 84, 3) := by decide +kernel
theorem d33_82 : decode K33 82 = .ok (.aload_n 0, 1) := by decide +kernel
theorem d33_83 : decode K33 83 = .ok (.bipush 8, 2) := by decide +kernel
theorem d33_85 : decode K33 85 = .ok (.invokevirtual 26, 3) := by decide +kernel
theorem d33_88 : decode K33 88 = .ok (.bipush 121, 2) := by decide +kernel
theorem d33_90 : decode K33 90 = .ok (.if_icmp .ne 73, 3) := by decide +kernel
theorem d33_93 : decode K33 93 = .ok (.aload_n 0, 1) := by decide +kernel
theorem d33_94 : decode K33 94 = .ok (.bipush 9, 2) := by decide +kernel
theorem d33_96 : decode K33 96 = .ok (.invokevirtual 26, 3) := by decide +kernel
theorem d33_99 : decode K33 99 = .ok (.bipush 93, 2) := by decide +kernel
theorem d33_101 : decode K33 101 = .ok (.if_icmp .ne 62, 3) := by decide +kernel
theorem d33_104 : decode K33 104 = .ok (.aload_n 0, 1) := by decide +kernel
theorem d33_105 : decode K33 105 = .ok (.bipush 10, 2) := by decide +kernel
theorem d33_107 : decode K33 107 = .ok (.invokevirtual 26, 3) := by decide +kernel
theorem d33_110 : decode K33 110 = .ok (.bipush 32, 2) := by decide +kernel
theorem d33_112 : decode K33 112 = .ok (.if_icmp .ne 51, 3) := by decide +kernel
theorem d33_115 : decode K33 115 = .ok (.aload_n 0, 1) := by decide +kernel
theorem d33_116 : decode K33 116 = .ok (.bipush 11, 2) := by decide +kernel
theorem d33_118 : decode K33 118 = .ok (.invokevirtual 26, 3) := by decide +kernel
theorem d33_121 : decode K33 121 = .ok (.bipush 105, 2) := by decide +kernel
theorem d33_123 : decode K33 123 = .ok (.if_icmp .ne 40, 3) := by decide +kernel
theorem d33_126 : decode K33 126 = .ok (.aload_n 0, 1) := by decide +kernel
theorem d33_127 : decode K33 127 = .ok (.bipush 12, 2) := by decide +kernel
theorem d33_129 : decode K33 129 = .ok (.invokevirtual 26, 3) := by decide +kernel
theorem d33_132 : decode K33 132 = .ok (.bipush 100, 2) := by decide +kernel
theorem d33_134 : decode K33 134 = .ok (.if_icmp .ne 29, 3) := by decide +kernel
theorem d33_137 : decode K33 137 = .ok (.aload_n 0, 1) := by decide +kernel
theorem d33_138 : decode K33 138 = .ok (.bipush 13, 2) := by decide +kernel
theorem d33_140 : decode K33 140 = .ok (.invokevirtual 26, 3) := by decide +kernel
theorem d33_143 : decode K33 143 = .ok (.bipush 32, 2) := by decide +kernel
theorem d33_145 : decode K33 145 = .ok (.if_icmp .ne 18, 3) := by decide +kernel
theorem d33_148 : decode K33 148 = .ok (.aload_n 0, 1) := by decide +kernel
theorem d33_149 : decode K33 149 = .ok (.bipush 14, 2) := by decide +kernel
theorem d33_151 : decode K33 151 = .ok (.invokevirtual 26, 3) := by decide +kernel
theorem d33_154 : decode K33 154 = .ok (.bipush 34, 2) := by decide +kernel
theorem d33_156 : decode K33 156 = .ok (.if_icmp .ne 7, 3) := by decide +kernel
theorem d33_159 : decode K33 159 = .ok (.iconst 1, 1) := by decide +kernel
theorem d33_160 : decode K33 160 = .ok (.goto 4, 3) := by decide +kernel
theorem d33_164 : decode K33 164 = .ok (.ireturn, 1) := by decide +kernel
theorem d34_0 : decode K34 0 = .ok (.aload_n 0, 1) := by decide +kernel
theorem d34_1 : decode K34 1 = .ok (.invokevirtual 492, 3) := by decide +kernel
theorem d34_4 : decode K34 4 = .ok (.ifCond .eq 12, 3) := by decide +kernel
theorem d34_7 : decode K34 7 = .ok (.aload_n 0, 1) := by decide +kernel
theorem d34_8 : decode K34 8 = .ok (.getfield 9, 3) := by decide +kernel
theorem d34_11 : decode K34 11 = .ok (.iload_n 1, 1) := by decide +kernel
theorem d34_12 : decode K34 12 = .ok (.invokestatic 495, 3) := by decide +kernel
theorem d34_15 : decode K34 15 = .ok (.ireturn, 1) := by decide +kernel
theorem d34_16 : decode K34 16 = .ok (.aload_n 0, 1) := by decide +kernel
theorem d34_17 : decode K34 17 = .ok (.getfield 9, 3) := by decide +kernel
theorem d34_20 : decode K34 20 = .ok (.iload_n 1, 1) := by decide +kernel
theorem d34_21 : decode K34 21 = .ok (.invokestatic 498, 3) := by decide +kernel
theorem d34_24 : decode K34 24 = .ok (.ireturn, 1) := by decide +kernel
theorem d35_0 : decode K35 0 = .ok (.getstatic 38, 3) := by decide +kernel
theorem d35_3 : decode K35 3 = .ok (.ifCond .eq 14, 3) := by decide +kernel
theorem d35_6 : decode K35 6 = .ok (.aload_n 0, 1) := by decide +kernel
theorem d35_7 : decode K35 7 = .ok (.getfield 15, 3) := by decide +kernel
theorem d35_10 : decode K35 10 = .ok (.ifCond .ne 7, 3) := by decide +kernel
theorem d35_13 : decode K35 13 = .ok (.iconst 1, 1) := by decide +kernel
theorem d35_14 : decode K35 14 = .ok (.goto 4, 3) := by decide +kernel
theorem d35_17 : decode K35 17 = .ok (.iconst 0, 1) := by decide +kernel
theorem d35_18 : decode K35 18 = .ok (.ireturn, 1) := by decide +kernel
theorem d36_0 : decode K36 0 = .ok (.iload_n 1, 1) := by decide +kernel
theorem d36_1 : decode K36 1 = .ok (.aload_n 0, 1) := by decide +kernel
theorem d36_2 : decode K36 2 = .ok (.arraylength, 1) := by decide +kernel
theorem d36_3 : decode K36 3 = .ok (.invokestatic 9, 3) := by decide +kernel
theorem d36_6 : decode K36 6 = .ok (.aload_n 0, 1) := by decide +kernel
theorem d36_7 : decode K36 7 = .ok (.iload_n 1, 1) := by decide +kernel
theorem d36_8 : decode K36 8 = .ok (.baload, 1) := by decide +kernel
theorem d36_9 : decode K36 9 = .ok (.sipush 255, 3) := by decide +kernel
theorem d36_12 : decode K36 12 = .ok (.iand, 1) := by decide +kernel
theorem d36_13 : decode K36 13 = .ok (.i2c, 1) := by decide +kernel
theorem d36_14 : decode K36 14 = .ok (.ireturn, 1) := by decide +kernel
theorem d37_0 : decode K37 0 = .ok (.iload_n 0, 1) := by decide +kernel
theorem d37_1 : decode K37 1 = .ok (.iload_n 1, 1) := by decide +kernel
theorem d37_2 : decode K37 2 = .ok (.getstatic 1053, 3) := by decide +kernel
theorem d37_5 : decode K37 5 = .ok (.invokestatic 1059, 3) := by decide +kernel
theorem d37_8 : decode K37 8 = .ok (.pop, 1) := by decide +kernel
theorem d37_9 : decode K37 9 = .ok (.return_, 1) := by decide +kernel
theorem d38_0 : decode K38 0 = .ok (.iload_n 0, 1) := by decide +kernel
theorem d38_1 : decode K38 1 = .ok (.ifCond .lt 8, 3) := by decide +kernel
theorem d38_4 : decode K38 4 = .ok (.iload_n 0, 1) := by decide +kernel
theorem d38_5 : decode K38 5 = .ok (.iload_n 1, 1) := by decide +kernel
theorem d38_6 : decode K38 6 = .ok (.if_icmp .lt 10, 3) := by decide +kernel
theorem d38_16 : decode K38 16 = .ok (.iload_n 0, 1) := by decide +kernel
theorem d38_17 : decode K38 17 = .ok (.ireturn, 1) := by decide +kernel
theorem d39_0 : decode K39 0 = .ok (.aload_n 0, 1) := by decide +kernel
theorem d39_1 : decode K39 1 = .ok (.iload_n 1, 1) := by decide +kernel
theorem d39_2 : decode K39 2 = .ok (.invokevirtual 26, 3) := by decide +kernel
theorem d39_5 : decode K39 5 = .ok (.bipush 34, 2) := by decide +kernel
theorem d39_7 : decode K39 7 = .ok (.if_icmp .ne 275, 3) := by decide +kernel
theorem d39_10 : decode K39 10 = .ok (.aload_n 0, 1) := by decide +kernel
theorem d39_11 : decode K39 11 = .ok (.iload_n 1, 1) := by decide +kernel
theorem d39_12 : decode K39 12 = .ok (.iconst 1, 1) := by decide +kernel
theorem d39_13 : decode K39 13 = .ok (.iadd, 1) := by decide +kernel
theorem d39_14 : decode K39 14 = .ok (.invokevirtual 26, 3) := by decide +kernel
theorem d39_17 : decode K39 17 = .ok (.bipush 32, 2) := by decide +kernel
theorem d39_19 : decode K39 19 = .ok (.if_icmp .ne 263, 3) := by decide +kernel
theorem d39_22 : decode K39 22 = .ok (.aload_n 0, 1) := by decide +kernel
theorem d39_23 : decode K39 23 = .ok (.iload_n 1, 1) := by decide +kernel
theorem d39_24 : decode K39 24 = .ok (.iconst 2, 1) := by decide +kernel
theorem d39_25 : decode K39 25 = .ok (.iadd, 1) := by decide +kernel
theorem d39_26 : decode K39 26 = .ok (.invokevirtual 26, 3) := by decide +kernel
theorem d39_29 : decode K39 29 = .ok (.bipush 110, 2) := by decide +kernel
theorem d39_31 : decode K39 31 = .ok (.if_icmp .ne 251, 3) := by decide +kernel
theorem d39_34 : decode K39 34 = .ok (.aload_n 0, 1) := by decide +kernel
theorem d39_35 : decode K39 35 = .ok (.iload_n 1, 1) := by decide +kernel
theorem d39_36 : decode K39 36 = .ok (.iconst 3, 1) := by decide +kernel
theorem d39_37 : decode K39 37 = .ok (.iadd, 1) := by decide +kernel
theorem d39_38 : decode K39 38 = .ok (.invokevirtual 26, 3) := by decide +kernel
theorem d39_41 : decode K39 41 = .ok (.bipush 97, 2) := by decide +kernel
theorem d39_43 : decode K39 43 = .ok (.if_icmp .ne 239, 3) := by decide +kernel
theorem d39_46 : decode K39 46 = .ok (.aload_n 0, 1) := by decide +kernel
theorem d39_47 : decode K39 47 = .ok (.iload_n 1, 1) := by decide +kernel
theorem d39_48 : decode K39 48 = .ok (.iconst 4, 1) := by decide +kernel
theorem d39_49 : decode K39 49 = .ok (.iadd, 1) := by decide +kernel
theorem d39_50 : decode K39 50 = .ok (.invokevirtual 26, 3) := by decide +kernel
theorem d39_53 : decode K39 53 = .ok (.bipush 109, 2) := by decide +kernel
theorem d39_55 : decode K39 55 = .ok (.if_icmp .ne 227, 3) := by decide +kernel
theorem d39_58 : decode K39 58 = .ok (.aload_n 0, 1) := by decide +kernel
theorem d39_59 : decode K39 59 = .ok (.iload_n 1, 1) := by decide +kernel
theorem d39_60 : decode K39 60 = .ok (.iconst 5, 1) := by decide +kernel
theorem d39_61 : decode K39 61 = .ok (.iadd, 1) := by decide +kernel
theorem d39_62 : decode K39 62 = .ok (.invokevirtual 26, 3) := by decide +kernel
theorem d39_65 : decode K39 65 = .ok (.bipush 101, 2) := by decide +kernel
theorem d39_67 : decode K39 67 = .ok (.if_icmp .ne 215, 3) := by decide +kernel
theorem d39_70 : decode K39 70 = .ok (.aload_n 0, 1) := by decide +kernel
theorem d39_71 : decode K39 71 = .ok (.iload_n 1, 1) := by decide +kernel
theorem d39_72 : decode K39 72 = .ok (.bipush 6, 2) := by decide +kernel
theorem d39_74 : decode K39 74 = .ok (.iadd, 1) := by decide +kernel
theorem d39_75 : decode K39 75 = .ok (.invokevirtual 26, 3) := by decide +kernel
theorem d39_78 : decode K39 78 = .ok (.bipush 115, 2) := by decide +kernel
theorem d39_80 : decode K39 80 = .ok (.if_icmp .ne 202, 3) := by decide +kernel
theorem d39_83 : decode K39 83 = .ok (.aload_n 0, 1) := by decide +kernel
theorem d39_84 : decode K39 84 = .ok (.iload_n 1, 1) := by decide +kernel
theorem d39_85 : decode K39 85 = .ok (.bipush 7, 2) := by decide +kernel
theorem d39_87 : decode K39 87 = .ok (.iadd, 1) := by decide +kernel
theorem d39_88 : decode K39 88 = .ok (.invokevirtual 26, 3) := by decide +kernel
theorem d39_91 : decode K39 91 = .ok (.bipush 32, 2) := by decide +kernel
theorem d39_93 : decode K39 93 = .ok (.if_icmp .ne 189, 3) := by decide +kernel
theorem d39_96 : decode K39 96 = .ok (.aload_n 0, 1) := by decide +kernel
theorem d39_97 : decode K39 97 = .ok (.iload_n 1, 1) := by decide +kernel
theorem d39_98 : decode K39 98 = .ok (.bipush 8, 2) := by decide +kernel
theorem d39_100 : decode K39 100 = .ok (.iadd, 1) := by decide +kernel
theorem d39_101 : decode K39 101 = .ok (.invokevirtual 26, 3) := by decide +kernel
theorem d39_104 : decode K39 104 = .ok (.bipush 116, 2) := by decide +kernel
theorem d39_106 : decode K39 106 = .ok (.if_icmp .ne 176, 3) := by decide +kernel
theorem d39_109 : decode K39 109 = .ok (.aload_n 0, 1) := by decide +kernel
theorem d39_110 : decode K39 110 = .ok (.iload_n 1, 1) := by decide +kernel
theorem d39_111 : decode K39 111 = .ok (.bipush 9, 2) := by decide +kernel
theorem d39_113 : decode K39 113 = .ok (.iadd, 1) := by decide +kernel
theorem d39_114 : decode K39 114 = .ok (.invokevirtual 26, 3) := by decide +kernel
theorem d39_117 : decode K39 117 = .ok (.bipush 119, 2) := by decide +kernel
theorem d39_119 : decode K39 119 = .ok (.if_icmp .ne 163, 3) := by decide +kernel
theorem d39_122 : decode K39 122 = .ok (.aload_n 0, 1) := by decide +kernel
theorem d39_123 : decode K39 123 = .ok (.iload_n 1, 1) := by decide +kernel
theorem d39_124 : decode K39 124 = .ok (.bipush 10, 2) := by decide +kernel
theorem d39_126 : decode K39 126 = .ok (.iadd, 1) := by decide +kernel
theorem d39_127 : decode K39 127 = .ok (.invokevirtual 26, 3) := by decide +kernel
theorem d39_130 : decode K39 130 = .ok (.bipush 111, 2) := by decide +kernel
theorem d39_132 : decode K39 132 = .ok (.if_icmp .ne 150, 3) := by decide +kernel
theorem d39_135 : decode K39 135 = .ok (.aload_n 0, 1) := by decide +kernel
theorem d39_136 : decode K39 136 = .ok (.iload_n 1, 1) := by decide +kernel
theorem d39_137 : decode K39 137 = .ok (.bipush 11, 2) := by decide +kernel
theorem d39_139 : decode K39 139 = .ok (.iadd, 1) := by decide +kernel
theorem d39_140 : decode K39 140 = .ok (.invokevirtual 26, 3) := by decide +kernel
theorem d39_143 : decode K39 143 = .ok (.bipush 32, 2) := by decide +kernel
theorem d39_145 : decode K39 145 = .ok (.if_icmp .ne 137, 3) := by decide +kernel
theorem d39_148 : decode K39 148 = .ok (.aload_n 0, 1) := by decide +kernel
theorem d39_149 : decode K39 149 = .ok (.iload_n 1, 1) := by decide +kernel
theorem d39_150 : decode K39 150 = .ok (.bipush 12, 2) := by decide +kernel
theorem d39_152 : decode K39 152 = .ok (.iadd, 1) := by decide +kernel
theorem d39_153 : decode K39 153 = .ok (.invokevirtual 26, 3) := by decide +kernel
theorem d39_156 : decode K39 156 = .ok (.bipush 102, 2) := by decide +kernel
theorem d39_158 : decode K39 158 = .ok (.if_icmp .ne 124, 3) := by decide +kernel
theorem d39_161 : decode K39 161 = .ok (.aload_n 0, 1) := by decide +kernel
theorem d39_162 : decode K39 162 = .ok (.iload_n 1, 1) := by decide +kernel
theorem d39_163 : decode K39 163 = .ok (.bipush 13, 2) := by decide +kernel
theorem d39_165 : decode K39 165 = .ok (.iadd, 1) := by decide +kernel
theorem d39_166 : decode K39 166 = .ok (.invokevirtual 26, 3) := by decide +kernel
theorem d39_169 : decode K39 169 = .ok (.bipush 97, 2) := by decide +kernel
theorem d39_171 : decode K39 171 = .ok (.if_icmp .ne 111, 3) := by decide +kernel
theorem d39_174 : decode K39 174 = .ok (.aload_n 0, 1) := by decide +kernel
theorem d39_175 : decode K39 175 = .ok (.iload_n 1, 1) := by decide +kernel
theorem d39_176 : decode K39 176 = .ok (.bipush 14, 2) := by decide +kernel
theorem d39_178 : decode K39 178 = .ok (.iadd, 1) := by decide +kernel
theorem d39_179 : decode K39 179 = .ok (.invokevirtual 26, 3) := by decide +kernel
theorem d39_182 : decode K39 182 = .ok (.bipush 99, 2) := by decide +kernel
theorem d39_184 : decode K39 184 = .ok (.if_icmp .ne 98, 3) := by decide +kernel
theorem d39_187 : decode K39 187 = .ok (.aload_n 0, 1) := by decide +kernel
theorem d39_188 : decode K39 188 = .ok (.iload_n 1, 1) := by decide +kernel
theorem d39_189 : decode K39 189 = .ok (.bipush 15, 2) := by decide +kernel
theorem d39_191 : decode K39 191 = .ok (.iadd, 1) := by decide +kernel
theorem d39_192 : decode K39 192 = .ok (.invokevirtual 26, 3) := by decide +kernel
theorem d39_195 : decode K39 195 = .ok (.bipush 105, 2) := by decide +kernel
theorem d39_197 : decode K39 197 = .ok (.if_icmp .ne 85, 3) := by decide +kernel
theorem d39_200 : decode K39 200 = .ok (.aload_n 0, 1) := by decide +kernel
theorem d39_201 : decode K39 201 = .ok (.iload_n 1, 1) := by decide +kernel
theorem d39_202 : decode K39 202 = .ok (.bipush 16, 2) := by decide +kernel
theorem d39_204 : decode K39 204 = .ok (.iadd, 1) := by decide +kernel
theorem d39_205 : decode K39 205 = .ok (.invokevirtual 26, 3) := by decide +kernel
theorem d39_208 : decode K39 208 = .ok (.bipush 108, 2) := by decide +kernel
theorem d39_210 : decode K39 210 = .ok (.if_icmp .ne 72, 3) := by decide +kernel
theorem d39_213 : decode K39 213 = .ok (.aload_n 0, 1) := by decide +kernel
theorem d39_214 : decode K39 214 = .ok (.iload_n 1, 1) := by decide +kernel
theorem d39_215 : decode K39 215 = .ok (.bipush 17, 2) := by decide +kernel
theorem d39_217 : decode K39 217 = .ok (.iadd, 1) := by decide +kernel
theorem d39_218 : decode K39 218 = .ok (.invokevirtual 26, 3) := by decide +kernel
theorem d39_221 : decode K39 221 = .ok (.bipush 105, 2) := by decide +kernel
theorem d39_223 : decode K39 223 = .ok (.if_icmp .ne 59, 3) := by decide +kernel
theorem d39_226 : decode K39 226 = .ok (.aload_n 0, 1) := by decide +kernel
theorem d39_227 : decode K39 227 = .ok (.iload_n 1, 1) := by decide +kernel
theorem d39_228 : decode K39 228 = .ok (.bipush 18, 2) := by decide +kernel
theorem d39_230 : decode K39 230 = .ok (.iadd, 1) := by decide +kernel
theorem d39_231 : decode K39 231 = .ok (.invokevirtual 26, 3) := by decide +kernel
theorem d39_234 : decode K39 234 = .ok (.bipush 116, 2) := by decide +kernel
theorem d39_236 : decode K39 236 = .ok (.if_icmp .ne 46, 3) := by decide +kernel
theorem d39_239 : decode K39 239 = .ok (.aload_n 0, 1) := by decide +kernel
theorem d39_240 : decode K39 240 = .ok (.iload_n 1, 1) := by decide +kernel
theorem d39_241 : decode K39 241 = .ok (.bipush 19, 2) := by decide +kernel
theorem d39_243 : decode K39 243 = .ok (.iadd, 1) := by decide +kernel
theorem d39_244 : decode K39 244 = .ok (.invokevirtual 26, 3) := by decide +kernel
theorem d39_247 : decode K39 247 = .ok (.bipush 105, 2) := by decide +kernel
theorem d39_249 : decode K39 249 = .ok (.if_icmp .ne 33, 3) := by decide +kernel
theorem d39_252 : decode K39 252 = .ok (.aload_n 0, 1) := by decide +kernel
theorem d39_253 : decode K39 253 = .ok (.iload_n 1, 1) := by decide +kernel
theorem d39_254 : decode K39 254 = .ok (.bipush 20, 2) := by decide +kernel
theorem d39_256 : decode K39 256 = .ok (.iadd, 1) := by decide +kernel
theorem d39_257 : decode K39 257 = .ok (.invokevirtual 26, 3) := by decide +kernel
theorem d39_260 : decode K39 260 = .ok (.bipush 101, 2) := by decide +kernel
theorem d39_262 : decode K39 262 = .ok (.if_icmp .ne 20, 3) := by decide +kernel
theorem d39_265 : decode K39 265 = .ok (.aload_n 0, 1) := by decide +kernel
theorem d39_266 : decode K39 266 = .ok (.iload_n 1, 1) := by decide +kernel
theorem d39_267 : decode K39 267 = .ok (.bipush 21, 2) := by decide +kernel
theorem d39_269 : decode K39 269 = .ok (.iadd, 1) := by decide +kernel
theorem d39_270 : decode K39 270 = .ok (.invokevirtual 26, 3) := by decide +kernel
theorem d39_273 : decode K39 273 = .ok (.bipush 115, 2) := by decide +kernel
theorem d39_275 : decode K39 275 = .ok (.if_icmp .ne 7, 3) := by decide +kernel
theorem d39_278 : decode K39 278 = .ok (.iconst 1, 1) := by decide +kernel
theorem d39_279 : decode K39 279 = .ok (.goto 4, 3) := by decide +kernel
theorem d39_283 : decode K39 283 = .ok (.ireturn, 1) := by decide +kernel
theorem d40_0 : decode K40 0 = .ok (.iload_n 2, 1) := by decide +kernel
theorem d40_1 : decode K40 1 = .ok (.newarray .byte, 2) := by decide +kernel
theorem d40_3 : decode K40 3 = .ok (.astore_n 3, 1) := by decide +kernel
theorem d40_4 : decode K40 4 = .ok (.aload_n 0, 1) := by decide +kernel
theorem d40_5 : decode K40 5 = .ok (.iload_n 1, 1) := by decide +kernel
theorem d40_6 : decode K40 6 = .ok (.aload_n 3, 1) := by decide +kernel
theorem d40_7 : decode K40 7 = .ok (.iconst 0, 1) := by decide +kernel
theorem d40_8 : decode K40 8 = .ok (.iload_n 2, 1) := by decide +kernel
theorem d40_9 : decode K40 9 = .ok (.invokestatic 115, 3) := by decide +kernel
theorem d40_12 : decode K40 12 = .ok (.istore 4, 2) := by decide +kernel
theorem d40_14 : decode K40 14 = .ok (.iload 4, 2) := by decide +kernel
theorem d40_16 : decode K40 16 = .ok (.iload_n 2, 1) := by decide +kernel
theorem d40_17 : decode K40 17 = .ok (.if_icmp .eq 40, 3) := by decide +kernel
theorem d40_20 : decode K40 20 = .ok (.aload_n 0, 1) := by decide +kernel
theorem d40_21 : decode K40 21 = .ok (.iload_n 1, 1) := by decide +kernel
theorem d40_22 : decode K40 22 = .ok (.iload_n 2, 1) := by decide +kernel
theorem d40_23 : decode K40 23 = .ok (.invokestatic 119, 3) := by decide +kernel
theorem d40_26 : decode K40 26 = .ok (.astore 5, 2) := by decide +kernel
theorem d40_28 : decode K40 28 = .ok (.aload 5, 2) := by decide +kernel
theorem d40_30 : decode K40 30 = .ok (.iload 4, 2) := by decide +kernel
theorem d40_32 : decode K40 32 = .ok (.invokestatic 71, 3) := by decide +kernel
theorem d40_35 : decode K40 35 = .ok (.sipush 255, 3) := by decide +kernel
theorem d40_38 : decode K40 38 = .ok (.if_icmp .gt 16, 3) := by decide +kernel
theorem d40_54 : decode K40 54 = .ok (.aload 5, 2) := by decide +kernel
theorem d40_56 : decode K40 56 = .ok (.areturn, 1) := by decide +kernel
theorem d40_57 : decode K40 57 = .ok (.aload_n 3, 1) := by decide +kernel
theorem d40_58 : decode K40 58 = .ok (.areturn, 1) := by decide +kernel
theorem d41_0 : decode K41 0 = .ok (.iconst 0, 1) := by decide +kernel
theorem d41_1 : decode K41 1 = .ok (.istore 5, 2) := by decide +kernel
theorem d41_3 : decode K41 3 = .ok (.iload 5, 2) := by decide +kernel
theorem d41_5 : decode K41 5 = .ok (.iload 4, 2) := by decide +kernel
theorem d41_7 : decode K41 7 = .ok (.if_icmp .ge 37, 3) := by decide +kernel
theorem d41_10 : decode K41 10 = .ok (.aload_n 0, 1) := by decide +kernel
theorem d41_11 : decode K41 11 = .ok (.iload_n 1, 1) := by decide +kernel
theorem d41_12 : decode K41 12 = .ok (.caload, 1) := by decide +kernel
theorem d41_13 : decode K41 13 = .ok (.istore 6, 2) := by decide +kernel
theorem d41_15 : decode K41 15 = .ok (.iload 6, 2) := by decide +kernel
theorem d41_17 : decode K41 17 = .ok (.sipush 255, 3) := by decide +kernel
theorem d41_20 : decode K41 20 = .ok (.if_icmp .le 6, 3) := by decide +kernel
theorem d41_23 : decode K41 23 = .ok (.iload 5, 2) := by decide +kernel
theorem d41_25 : decode K41 25 = .ok (.ireturn, 1) := by decide +kernel
theorem d41_26 : decode K41 26 = .ok (.aload_n 2, 1) := by decide +kernel
theorem d41_27 : decode K41 27 = .ok (.iload_n 3, 1) := by decide +kernel
theorem d41_28 : decode K41 28 = .ok (.iload 6, 2) := by decide +kernel
theorem d41_30 : decode K41 30 = .ok (.i2b, 1) := by decide +kernel
theorem d41_31 : decode K41 31 = .ok (.bastore, 1) := by decide +kernel
theorem d41_32 : decode K41 32 = .ok (.iinc 1 1, 3) := by decide +kernel
theorem d41_35 : decode K41 35 = .ok (.iinc 3 1, 3) := by decide +kernel
theorem d41_38 : decode K41 38 = .ok (.iinc 5 1, 3) := by decide +kernel
theorem d41_41 : decode K41 41 = .ok (.goto (-38), 3) := by decide +kernel
theorem d41_44 : decode K41 44 = .ok (.iload 4, 2) := by decide +kernel
theorem d41_46 : decode K41 46 = .ok (.ireturn, 1) := by decide +kernel
theorem d42_0 : decode K42 0 = .ok (.iload_n 1, 1) := by decide +kernel
theorem d42_1 : decode K42 1 = .ok (.aload_n 0, 1) := by decide +kernel
theorem d42_2 : decode K42 2 = .ok (.arraylength, 1) := by decide +kernel
theorem d42_3 : decode K42 3 = .ok (.isub, 1) := by decide +kernel
theorem d42_4 : decode K42 4 = .ok (.bipush 31, 2) := by decide +kernel
theorem d42_6 : decode K42 6 = .ok (.iushr, 1) := by decide +kernel
theorem d42_7 : decode K42 7 = .ok (.i2b, 1) := by decide +kernel
theorem d42_8 : decode K42 8 = .ok (.ireturn, 1) := by decide +kernel
theorem d43_0 : decode K43 0 = .ok (.iload_n 2, 1) := by decide +kernel
theorem d43_1 : decode K43 1 = .ok (.invokestatic 107, 3) := by decide +kernel
theorem d43_4 : decode K43 4 = .ok (.astore_n 3, 1) := by decide +kernel
theorem d43_5 : decode K43 5 = .ok (.iconst 0, 1) := by decide +kernel
theorem d43_6 : decode K43 6 = .ok (.istore 4, 2) := by decide +kernel
theorem d43_8 : decode K43 8 = .ok (.iload 4, 2) := by decide +kernel
theorem d43_10 : decode K43 10 = .ok (.iload_n 2, 1) := by decide +kernel
theorem d43_11 : decode K43 11 = .ok (.if_icmp .ge 21, 3) := by decide +kernel
theorem d43_14 : decode K43 14 = .ok (.aload_n 3, 1) := by decide +kernel
theorem d43_15 : decode K43 15 = .ok (.iload 4, 2) := by decide +kernel
theorem d43_17 : decode K43 17 = .ok (.aload_n 0, 1) := by decide +kernel
theorem d43_18 : decode K43 18 = .ok (.iload_n 1, 1) := by decide +kernel
theorem d43_19 : decode K43 19 = .ok (.caload, 1) := by decide +kernel
theorem d43_20 : decode K43 20 = .ok (.invokestatic 111, 3) := by decide +kernel
theorem d43_23 : decode K43 23 = .ok (.iinc 1 1, 3) := by decide +kernel
theorem d43_26 : decode K43 26 = .ok (.iinc 4 1, 3) := by decide +kernel
theorem d43_29 : decode K43 29 = .ok (.goto (-21), 3) := by decide +kernel
theorem d43_32 : decode K43 32 = .ok (.aload_n 3, 1) := by decide +kernel
theorem d43_33 : decode K43 33 = .ok (.areturn, 1) := by decide +kernel
theorem d44_0 : decode K44 0 = .ok (.iload_n 0, 1) := by decide +kernel
theorem d44_1 : decode K44 1 = .ok (.invokestatic 11, 3) := by decide +kernel
theorem d44_4 : decode K44 4 = .ok (.newarray .byte, 2) := by decide +kernel
theorem d44_6 : decode K44 6 = .ok (.areturn, 1) := by decide +kernel
theorem d45_0 : decode K45 0 = .ok (.iload_n 0, 1) := by decide +kernel
theorem d45_1 : decode K45 1 = .ok (.ifCond .ge 11, 3) := by decide +kernel
theorem d45_12 : decode K45 12 = .ok (.iload_n 0, 1) := by decide +kernel
theorem d45_13 : decode K45 13 = .ok (.ldc 20, 2) := by decide +kernel
theorem d45_15 : decode K45 15 = .ok (.if_icmp .lt 40, 3) := by decide +kernel
theorem d45_55 : decode K45 55 = .ok (.iload_n 0, 1) := by decide +kernel
theorem d45_56 : decode K45 56 = .ok (.iconst 1, 1) := by decide +kernel
theorem d45_57 : decode K45 57 = .ok (.ishl, 1) := by decide +kernel
theorem d45_58 : decode K45 58 = .ok (.ireturn, 1) := by decide +kernel
theorem d46_0 : decode K46 0 = .ok (.getstatic 44, 3) := by decide +kernel
theorem d46_3 : decode K46 3 = .ok (.ifCond .ne 25, 3) := by decide +kernel
theorem d46_28 : decode K46 28 = .ok (.iload_n 1, 1) := by decide +kernel
theorem d46_29 : decode K46 29 = .ok (.iconst 1, 1) := by decide +kernel
theorem d46_30 : decode K46 30 = .ok (.ishl, 1) := by decide +kernel
theorem d46_31 : decode K46 31 = .ok (.istore_n 1, 1) := by decide +kernel
theorem d46_32 : decode K46 32 = .ok (.aload_n 0, 1) := by decide +kernel
theorem d46_33 : decode K46 33 = .ok (.iload_n 1, 1) := by decide +kernel
theorem d46_34 : decode K46 34 = .ok (.iinc 1 1, 3) := by decide +kernel
theorem d46_37 : decode K46 37 = .ok (.iload_n 2, 1) := by decide +kernel
theorem d46_38 : decode K46 38 = .ok (.getstatic 59, 3) := by decide +kernel
theorem d46_41 : decode K46 41 = .ok (.ishr, 1) := by decide +kernel
theorem d46_42 : decode K46 42 = .ok (.i2b, 1) := by decide +kernel
theorem d46_43 : decode K46 43 = .ok (.bastore, 1) := by decide +kernel
theorem d46_44 : decode K46 44 = .ok (.aload_n 0, 1) := by decide +kernel
theorem d46_45 : decode K46 45 = .ok (.iload_n 1, 1) := by decide +kernel
theorem d46_46 : decode K46 46 = .ok (.iload_n 2, 1) := by decide +kernel
theorem d46_47 : decode K46 47 = .ok (.getstatic 63, 3) := by decide +kernel
theorem d46_50 : decode K46 50 = .ok (.ishr, 1) := by decide +kernel
theorem d46_51 : decode K46 51 = .ok (.i2b, 1) := by decide +kernel
theorem d46_52 : decode K46 52 = .ok (.bastore, 1) := by decide +kernel
theorem d46_53 : decode K46 53 = .ok (.return_, 1) := by decide +kernel
theorem d47_0 : decode K47 0 = .ok (.getstatic 44, 3) := by decide +kernel
theorem d47_3 : decode K47 3 = .ok (.ifCond .ne 25, 3) := by decide +kernel
theorem d47_28 : decode K47 28 = .ok (.iload_n 1, 1) := by decide +kernel
theorem d47_29 : decode K47 29 = .ok (.iconst 1, 1) := by decide +kernel
theorem d47_30 : decode K47 30 = .ok (.ishl, 1) := by decide +kernel
theorem d47_31 : decode K47 31 = .ok (.istore_n 1, 1) := by decide +kernel
theorem d47_32 : decode K47 32 = .ok (.aload_n 0, 1) := by decide +kernel
theorem d47_33 : decode K47 33 = .ok (.iload_n 1, 1) := by decide +kernel
theorem d47_34 : decode K47 34 = .ok (.iinc 1 1, 3) := by decide +kernel
theorem d47_37 : decode K47 37 = .ok (.baload, 1) := by decide +kernel
theorem d47_38 : decode K47 38 = .ok (.sipush 255, 3) := by decide +kernel
theorem d47_41 : decode K47 41 = .ok (.iand, 1) := by decide +kernel
theorem d47_42 : decode K47 42 = .ok (.getstatic 59, 3) := by decide +kernel
theorem d47_45 : decode K47 45 = .ok (.ishl, 1) := by decide +kernel
theorem d47_46 : decode K47 46 = .ok (.aload_n 0, 1) := by decide +kernel
theorem d47_47 : decode K47 47 = .ok (.iload_n 1, 1) := by decide +kernel
theorem d47_48 : decode K47 48 = .ok (.baload, 1) := by decide +kernel
theorem d47_49 : decode K47 49 = .ok (.sipush 255, 3) := by decide +kernel
theorem d47_52 : decode K47 52 = .ok (.iand, 1) := by decide +kernel
theorem d47_53 : decode K47 53 = .ok (.getstatic 63, 3) := by decide +kernel
theorem d47_56 : decode K47 56 = .ok (.ishl, 1) := by decide +kernel
theorem d47_57 : decode K47 57 = .ok (.ior, 1) := by decide +kernel
theorem d47_58 : decode K47 58 = .ok (.i2c, 1) := by decide +kernel
theorem d47_59 : decode K47 59 = .ok (.ireturn, 1) := by decide +kernel
theorem d48_0 : decode K48 0 = .ok (.aload_n 0, 1) := by decide +kernel
theorem d48_1 : decode K48 1 = .ok (.invokevirtual 83, 3) := by decide +kernel
theorem d48_4 : decode K48 4 = .ok (.ifCond .ne 4, 3) := by decide +kernel
theorem d48_7 : decode K48 7 = .ok (.return_, 1) := by decide +kernel
theorem d48_8 : decode K48 8 = .ok (.aload_n 0, 1) := by decide +kernel
theorem d48_9 : decode K48 9 = .ok (.getfield 15, 3) := by decide +kernel
theorem d48_12 : decode K48 12 = .ok (.arraylength, 1) := by decide +kernel
theorem d48_13 : decode K48 13 = .ok (.invokestatic 26, 3) := by decide +kernel
theorem d48_16 : decode K48 16 = .ok (.astore_n 1, 1) := by decide +kernel
theorem d48_17 : decode K48 17 = .ok (.aload_n 0, 1) := by decide +kernel
theorem d48_18 : decode K48 18 = .ok (.getfield 15, 3) := by decide +kernel
theorem d48_21 : decode K48 21 = .ok (.iconst 0, 1) := by decide +kernel
theorem d48_22 : decode K48 22 = .ok (.aload_n 1, 1) := by decide +kernel
theorem d48_23 : decode K48 23 = .ok (.iconst 0, 1) := by decide +kernel
theorem d48_24 : decode K48 24 = .ok (.aload_n 0, 1) := by decide +kernel
theorem d48_25 : decode K48 25 = .ok (.getfield 79, 3) := by decide +kernel
theorem d48_28 : decode K48 28 = .ok (.invokestatic 125, 3) := by decide +kernel
theorem d48_31 : decode K48 31 = .ok (.aload_n 0, 1) := by decide +kernel
theorem d48_32 : decode K48 32 = .ok (.aload_n 1, 1) := by decide +kernel
theorem d48_33 : decode K48 33 = .ok (.putfield 15, 3) := by decide +kernel
theorem d48_36 : decode K48 36 = .ok (.aload_n 0, 1) := by decide +kernel
theorem d48_37 : decode K48 37 = .ok (.iconst 1, 1) := by decide +kernel
theorem d48_38 : decode K48 38 = .ok (.putfield 22, 3) := by decide +kernel
theorem d48_41 : decode K48 41 = .ok (.return_, 1) := by decide +kernel
theorem d49_0 : decode K49 0 = .ok (.aload_n 0, 1) := by decide +kernel
theorem d49_1 : decode K49 1 = .ok (.iload_n 1, 1) := by decide +kernel
theorem d49_2 : decode K49 2 = .ok (.aload_n 2, 1) := by decide +kernel
theorem d49_3 : decode K49 3 = .ok (.iload_n 3, 1) := by decide +kernel
theorem d49_4 : decode K49 4 = .ok (.iload 4, 2) := by decide +kernel
theorem d49_6 : decode K49 6 = .ok (.invokestatic 240, 3) := by decide +kernel
theorem d49_9 : decode K49 9 = .ok (.return_, 1) := by decide +kernel
theorem d50_0 : decode K50 0 = .ok (.iload_n 3, 1) := by decide +kernel
theorem d50_1 : decode K50 1 = .ok (.iload 4, 2) := by decide +kernel
theorem d50_3 : decode K50 3 = .ok (.aload_n 2, 1) := by decide +kernel
theorem d50_4 : decode K50 4 = .ok (.invokestatic 173, 3) := by decide +kernel
theorem d50_7 : decode K50 7 = .ok (.iconst 0, 1) := by decide +kernel
theorem d50_8 : decode K50 8 = .ok (.istore 5, 2) := by decide +kernel
theorem d50_10 : decode K50 10 = .ok (.iload 5, 2) := by decide +kernel
theorem d50_12 : decode K50 12 = .ok (.iload 4, 2) := by decide +kernel
theorem d50_14 : decode K50 14 = .ok (.if_icmp .ge 27, 3) := by decide +kernel
theorem d50_17 : decode K50 17 = .ok (.aload_n 2, 1) := by decide +kernel
theorem d50_18 : decode K50 18 = .ok (.iload_n 3, 1) := by decide +kernel
theorem d50_19 : decode K50 19 = .ok (.iinc 3 1, 3) := by decide +kernel
theorem d50_22 : decode K50 22 = .ok (.aload_n 0, 1) := by decide +kernel
theorem d50_23 : decode K50 23 = .ok (.iload_n 1, 1) := by decide +kernel
theorem d50_24 : decode K50 24 = .ok (.iinc 1 1, 3) := by decide +kernel
theorem d50_27 : decode K50 27 = .ok (.baload, 1) := by decide +kernel
theorem d50_28 : decode K50 28 = .ok (.sipush 255, 3) := by decide +kernel
theorem d50_31 : decode K50 31 = .ok (.iand, 1) := by decide +kernel
theorem d50_32 : decode K50 32 = .ok (.invokestatic 111, 3) := by decide +kernel
theorem d50_35 : decode K50 35 = .ok (.iinc 5 1, 3) := by decide +kernel
theorem d50_38 : decode K50 38 = .ok (.goto (-28), 3) := by decide +kernel
theorem d50_41 : decode K50 41 = .ok (.return_, 1) := by decide +kernel
theorem d51_0 : decode K51 0 = .ok (.iload_n 0, 1) := by decide +kernel
theorem d51_1 : decode K51 1 = .ok (.iload_n 1, 1) := by decide +kernel
theorem d51_2 : decode K51 2 = .ok (.aload_n 2, 1) := by decide +kernel
theorem d51_3 : decode K51 3 = .ok (.invokestatic 48, 3) := by decide +kernel
theorem d51_6 : decode K51 6 = .ok (.invokestatic 419, 3) := by decide +kernel
theorem d51_9 : decode K51 9 = .ok (.pop, 1) := by decide +kernel
theorem d51_10 : decode K51 10 = .ok (.return_, 1) := by decide +kernel
theorem d52_0 : decode K52 0 = .ok (.aload_n 0, 1) := by decide +kernel
theorem d52_1 : decode K52 1 = .ok (.arraylength, 1) := by decide +kernel
theorem d52_2 : decode K52 2 = .ok (.iconst 1, 1) := by decide +kernel
theorem d52_3 : decode K52 3 = .ok (.ishr, 1) := by decide +kernel
theorem d52_4 : decode K52 4 = .ok (.ireturn, 1) := by decide +kernel
theorem d53_0 : decode K53 0 = .ok (.iload_n 0, 1) := by decide +kernel
theorem d53_1 : decode K53 1 = .ok (.iload_n 1, 1) := by decide +kernel
theorem d53_2 : decode K53 2 = .ok (.iload_n 2, 1) := by decide +kernel
theorem d53_3 : decode K53 3 = .ok (.getstatic 1053, 3) := by decide +kernel
theorem d53_6 : decode K53 6 = .ok (.invokestatic 1065, 3) := by decide +kernel
theorem d53_9 : decode K53 9 = .ok (.ireturn, 1) := by decide +kernel
theorem d54_0 : decode K54 0 = .ok (.iload_n 2, 1) := by decide +kernel
theorem d54_1 : decode K54 1 = .ok (.iload_n 0, 1) := by decide +kernel
theorem d54_2 : decode K54 2 = .ok (.ior, 1) := by decide +kernel
theorem d54_3 : decode K54 3 = .ok (.iload_n 1, 1) := by decide +kernel
theorem d54_4 : decode K54 4 = .ok (.ior, 1) := by decide +kernel
theorem d54_5 : decode K54 5 = .ok (.ifCond .lt 10, 3) := by decide +kernel
theorem d54_8 : decode K54 8 = .ok (.iload_n 1, 1) := by decide +kernel
theorem d54_9 : decode K54 9 = .ok (.iload_n 2, 1) := by decide +kernel
theorem d54_10 : decode K54 10 = .ok (.iload_n 0, 1) := by decide +kernel
theorem d54_11 : decode K54 11 = .ok (.isub, 1) := by decide +kernel
theorem d54_12 : decode K54 12 = .ok (.if_icmp .le 11, 3) := by decide +kernel
theorem d54_23 : decode K54 23 = .ok (.iload_n 0, 1) := by decide +kernel
theorem d54_24 : decode K54 24 = .ok (.ireturn, 1) := by decide +kernel
theorem d55_0 : decode K55 0 = .ok (.iload_n 1, 1) := by decide +kernel
theorem d55_1 : decode K55 1 = .ok (.aload_n 0, 1) := by decide +kernel
theorem d55_2 : decode K55 2 = .ok (.invokestatic 67, 3) := by decide +kernel
theorem d55_5 : decode K55 5 = .ok (.aload_n 0, 1) := by decide +kernel
theorem d55_6 : decode K55 6 = .ok (.iload_n 1, 1) := by decide +kernel
theorem d55_7 : decode K55 7 = .ok (.invokestatic 71, 3) := by decide +kernel
theorem d55_10 : decode K55 10 = .ok (.ireturn, 1) := by decide +kernel
theorem d56_0 : decode K56 0 = .ok (.iload_n 0, 1) := by decide +kernel
theorem d56_1 : decode K56 1 = .ok (.aload_n 1, 1) := by decide +kernel
theorem d56_2 : decode K56 2 = .ok (.invokestatic 48, 3) := by decide +kernel
theorem d56_5 : decode K56 5 = .ok (.invokestatic 414, 3) := by decide +kernel
theorem d56_8 : decode K56 8 = .ok (.return_, 1) := by decide +kernel
theorem d57_0 : decode K57 0 = .ok (.getstatic 38, 3) := by decide +kernel
theorem d57_3 : decode K57 3 = .ok (.ifCond .eq 23, 3) := by decide +kernel
theorem d57_6 : decode K57 6 = .ok (.iload_n 0, 1) := by decide +kernel
theorem d57_7 : decode K57 7 = .ok (.invokestatic 1015, 3) := by decide +kernel
theorem d57_10 : decode K57 10 = .ok (.ifCond .eq 16, 3) := by decide +kernel
theorem d57_13 : decode K57 13 = .ok (.new 10, 3) := by decide +kernel
theorem d57_16 : decode K57 16 = .ok (.dup, 1) := by decide +kernel
theorem d57_17 : decode K57 17 = .ok (.iload_n 0, 1) := by decide +kernel
theorem d57_18 : decode K57 18 = .ok (.invokestatic 1018, 3) := by decide +kernel
theorem d57_21 : decode K57 21 = .ok (.iconst 0, 1) := by decide +kernel
theorem d57_22 : decode K57 22 = .ok (.invokespecial 209, 3) := by decide +kernel
theorem d57_25 : decode K57 25 = .ok (.areturn, 1) := by decide +kernel
theorem d57_26 : decode K57 26 = .ok (.new 10, 3) := by decide +kernel
theorem d57_29 : decode K57 29 = .ok (.dup, 1) := by decide +kernel
theorem d57_30 : decode K57 30 = .ok (.iload_n 0, 1) := by decide +kernel
theorem d57_31 : decode K57 31 = .ok (.invokestatic 1021, 3) := by decide +kernel
theorem d57_34 : decode K57 34 = .ok (.iconst 1, 1) := by decide +kernel
theorem d57_35 : decode K57 35 = .ok (.invokespecial 209, 3) := by decide +kernel
theorem d57_38 : decode K57 38 = .ok (.areturn, 1) := by decide +kernel
theorem d58_0 : decode K58 0 = .ok (.iload_n 0, 1) := by decide +kernel
theorem d58_1 : decode K58 1 = .ok (.sipush 255, 3) := by decide +kernel
theorem d58_4 : decode K58 4 = .ok (.if_icmp .gt 7, 3) := by decide +kernel
theorem d58_7 : decode K58 7 = .ok (.iconst 1, 1) := by decide +kernel
theorem d58_8 : decode K58 8 = .ok (.goto 4, 3) := by decide +kernel
theorem d58_11 : decode K58 11 = .ok (.iconst 0, 1) := by decide +kernel
theorem d58_12 : decode K58 12 = .ok (.ireturn, 1) := by decide +kernel
theorem d59_0 : decode K59 0 = .ok (.iconst 1, 1) := by decide +kernel
theorem d59_1 : decode K59 1 = .ok (.newarray .byte, 2) := by decide +kernel
theorem d59_3 : decode K59 3 = .ok (.dup, 1) := by decide +kernel
theorem d59_4 : decode K59 4 = .ok (.iconst 0, 1) := by decide +kernel
theorem d59_5 : decode K59 5 = .ok (.iload_n 0, 1) := by decide +kernel
theorem d59_6 : decode K59 6 = .ok (.i2b, 1) := by decide +kernel
theorem d59_7 : decode K59 7 = .ok (.bastore, 1) := by decide +kernel
theorem d59_8 : decode K59 8 = .ok (.areturn, 1) := by decide +kernel
theorem d60_0 : decode K60 0 = .ok (.aload_n 0, 1) := by decide +kernel
theorem d60_1 : decode K60 1 = .ok (.invokespecial 1, 3) := by decide +kernel
theorem d60_4 : decode K60 4 = .ok (.aload_n 0, 1) := by decide +kernel
theorem d60_5 : decode K60 5 = .ok (.aload_n 1, 1) := by decide +kernel
theorem d60_6 : decode K60 6 = .ok (.putfield 9, 3) := by decide +kernel
theorem d60_9 : decode K60 9 = .ok (.aload_n 0, 1) := by decide +kernel
theorem d60_10 : decode K60 10 = .ok (.iload_n 2, 1) := by decide +kernel
theorem d60_11 : decode K60 11 = .ok (.putfield 15, 3) := by decide +kernel
theorem d60_14 : decode K60 14 = .ok (.return_, 1) := by decide +kernel
theorem d61_0 : decode K61 0 = .ok (.iconst 2, 1) := by decide +kernel
theorem d61_1 : decode K61 1 = .ok (.newarray .byte, 2) := by decide +kernel
theorem d61_3 : decode K61 3 = .ok (.astore_n 1, 1) := by decide +kernel
theorem d61_4 : decode K61 4 = .ok (.aload_n 1, 1) := by decide +kernel
theorem d61_5 : decode K61 5 = .ok (.iconst 0, 1) := by decide +kernel
theorem d61_6 : decode K61 6 = .ok (.iload_n 0, 1) := by decide +kernel
theorem d61_7 : decode K61 7 = .ok (.invokestatic 111, 3) := by decide +kernel
theorem d61_10 : decode K61 10 = .ok (.aload_n 1, 1) := by decide +kernel
theorem d61_11 : decode K61 11 = .ok (.areturn, 1) := by decide +kernel
theorem pd_0 : parseMethodDescriptor "()B" = some ⟨[], some .byte⟩ := by decide +kernel
theorem pd_1 : parseMethodDescriptor "(IILjava/util/function/BiFunction;)I" = some ⟨[.int, .int, (.object "java/util/function/BiFunction")], some .int⟩ := by decide +kernel
theorem pd_2 : parseMethodDescriptor "([B)I" = some ⟨[(.array .byte)], some .int⟩ := by decide +kernel
theorem pd_3 : parseMethodDescriptor "(II)V" = some ⟨[.int, .int], none⟩ := by decide +kernel
theorem pd_4 : parseMethodDescriptor "(I[B)V" = some ⟨[.int, (.array .byte)], none⟩ := by decide +kernel
theorem pd_5 : parseMethodDescriptor "([BI)C" = some ⟨[(.array .byte), .int], some .char⟩ := by decide +kernel
theorem pd_6 : parseMethodDescriptor "()Z" = some ⟨[], some .boolean⟩ := by decide +kernel
theorem pd_7 : parseMethodDescriptor "(I)I" = some ⟨[.int], some .int⟩ := by decide +kernel
theorem pd_8 : parseMethodDescriptor "([BII)V" = some ⟨[(.array .byte), .int, .int], none⟩ := by decide +kernel
theorem pd_9 : parseMethodDescriptor "(I)[B" = some ⟨[.int], some (.array .byte)⟩ := by decide +kernel
theorem pd_10 : parseMethodDescriptor "([CI[BII)I" = some ⟨[(.array .char), .int, (.array .byte), .int, .int], some .int⟩ := by decide +kernel
theorem pd_11 : parseMethodDescriptor "([CII)[B" = some ⟨[(.array .char), .int, .int], some (.array .byte)⟩ := by decide +kernel
theorem pd_12 : parseMethodDescriptor "([BI)B" = some ⟨[(.array .byte), .int], some .byte⟩ := by decide +kernel
theorem pd_13 : parseMethodDescriptor "([CIILjava/lang/Void;)V" = some ⟨[(.array .char), .int, .int, (.object "java/lang/Void")], none⟩ := by decide +kernel
theorem pd_14 : parseMethodDescriptor "(C)Z" = some ⟨[.char], some .boolean⟩ := by decide +kernel
theorem pd_15 : parseMethodDescriptor "(C)[B" = some ⟨[.char], some (.array .byte)⟩ := by decide +kernel
theorem pd_16 : parseMethodDescriptor "([BB)V" = some ⟨[(.array .byte), .byte], none⟩ := by decide +kernel
theorem pd_17 : parseMethodDescriptor "(I)V" = some ⟨[.int], none⟩ := by decide +kernel
theorem pd_18 : parseMethodDescriptor "(II)I" = some ⟨[.int, .int], some .int⟩ := by decide +kernel
theorem pd_19 : parseMethodDescriptor "(III)I" = some ⟨[.int, .int, .int], some .int⟩ := by decide +kernel
theorem pd_20 : parseMethodDescriptor "([BI)[B" = some ⟨[(.array .byte), .int], some (.array .byte)⟩ := by decide +kernel
theorem pd_21 : parseMethodDescriptor "(IIILjava/util/function/BiFunction;)I" = some ⟨[.int, .int, .int, (.object "java/util/function/BiFunction")], some .int⟩ := by decide +kernel
theorem pd_22 : parseMethodDescriptor "(II[B)V" = some ⟨[.int, .int, (.array .byte)], none⟩ := by decide +kernel
theorem pd_23 : parseMethodDescriptor "([BI[BII)V" = some ⟨[(.array .byte), .int, (.array .byte), .int, .int], none⟩ := by decide +kernel
theorem pd_24 : parseMethodDescriptor "()V" = some ⟨[], none⟩ := by decide +kernel
theorem pd_25 : parseMethodDescriptor "(Ljava/lang/String;)V" = some ⟨[(.object "java/lang/String")], none⟩ := by decide +kernel
theorem pd_26 : parseMethodDescriptor "([BIB)V" = some ⟨[(.array .byte), .int, .byte], none⟩ := by decide +kernel
theorem pd_27 : parseMethodDescriptor "()I" = some ⟨[], some .int⟩ := by decide +kernel
theorem pd_28 : parseMethodDescriptor "(ILjava/lang/String;)V" = some ⟨[.int, (.object "java/lang/String")], none⟩ := by decide +kernel
theorem pd_29 : parseMethodDescriptor "(Ljava/lang/String;)Ljava/lang/AbstractStringBuilder;" = some ⟨[(.object "java/lang/String")], some (.object "java/lang/AbstractStringBuilder")⟩ := by decide +kernel
theorem pd_30 : parseMethodDescriptor "([BII)[B" = some ⟨[(.array .byte), .int, .int], some (.array .byte)⟩ := by decide +kernel
theorem pd_31 : parseMethodDescriptor "()[B" = some ⟨[], some (.array .byte)⟩ := by decide +kernel
theorem pd_32 : parseMethodDescriptor "(Ljava/lang/AbstractStringBuilder;Ljava/lang/Void;)V" = some ⟨[(.object "java/lang/AbstractStringBuilder"), (.object "java/lang/Void")], none⟩ := by decide +kernel
theorem pd_33 : parseMethodDescriptor "(Ljava/lang/StringBuilder;)V" = some ⟨[(.object "java/lang/StringBuilder")], none⟩ := by decide +kernel
theorem pd_34 : parseMethodDescriptor "(Ljava/lang/String;)Ljava/lang/StringBuilder;" = some ⟨[(.object "java/lang/String")], some (.object "java/lang/StringBuilder")⟩ := by decide +kernel
theorem pd_35 : parseMethodDescriptor "()Ljava/lang/String;" = some ⟨[], some (.object "java/lang/String")⟩ := by decide +kernel
theorem pd_36 : parseMethodDescriptor "(Ljava/lang/Object;)Ljava/lang/String;" = some ⟨[(.object "java/lang/Object")], some (.object "java/lang/String")⟩ := by decide +kernel
theorem pd_37 : parseMethodDescriptor "(Ljava/lang/Object;)Ljava/lang/StringBuilder;" = some ⟨[(.object "java/lang/Object")], some (.object "java/lang/StringBuilder")⟩ := by decide +kernel
theorem pd_38 : parseMethodDescriptor "(I)C" = some ⟨[.int], some .char⟩ := by decide +kernel
theorem pd_39 : parseMethodDescriptor "([C)V" = some ⟨[(.array .char)], none⟩ := by decide +kernel
theorem pd_40 : parseMethodDescriptor "(Ljava/lang/String;)Ljava/lang/String;" = some ⟨[(.object "java/lang/String")], some (.object "java/lang/String")⟩ := by decide +kernel
theorem pd_41 : parseMethodDescriptor "(Ljava/lang/String;)Z" = some ⟨[(.object "java/lang/String")], some .boolean⟩ := by decide +kernel
theorem pd_42 : parseMethodDescriptor "(Ljava/lang/String;I)Z" = some ⟨[(.object "java/lang/String"), .int], some .boolean⟩ := by decide +kernel
theorem pd_43 : parseMethodDescriptor "(C)Ljava/lang/String;" = some ⟨[.char], some (.object "java/lang/String")⟩ := by decide +kernel
section OwnAv
variable {p : Program} {l : Launch} {e : Env} {R : Room} {s : State} {m : MethodId} {args : Array Value} {below : List Frame} {meth : Method} {c : Code} {T : State} {Z : State} {a0 : Array Value} {h h' : Heap} {n0 n1 cells slots nc ns pc pc' : Nat} {Ls : Array Slot} {st rest : List Value} {Q : GQ} {Ts Ts' : List String} {Lt : List (String × Nat × Addr)} {vm0 : Vm} {a b : Addr} {ty : FieldType} {vs ws : List Value}
/-- in heap h, at a, there is an array of ty that holds just these -/
def AV (Z : State) (h : Heap) (a : Addr) (ty : FieldType) (vs : List Value) : Prop := ∃ c : Cell, Arr Z h a c ty ∧ c.slots.size = vs.length ∧ vs.length < 2147483648 ∧ (∀ i, i < vs.length → c.slots[i]? = some (vs.getD i .null)) ∧ ∀ i, i < vs.length → Jvm.fits ty (vs.getD i .null) = true
theorem AV.lt (F : AV Z h a ty vs) : a < h.size := by obtain ⟨c, A, -⟩ := F; exact A.lt
theorem AV.ext (F : AV Z h a ty vs) (E : Ext h h') : AV Z h' a ty vs := by obtain ⟨c, A, r⟩ := F; exact ⟨c, A.ext E, r⟩
theorem AV.other {sl : Nat} {v : Value} (F : AV Z h b ty vs) (W : Wr h h' a sl v) (q : b ≠ a) : AV Z h' b ty vs := by obtain ⟨c, A, r⟩ := F; exact ⟨c, A.other W q, r⟩
theorem AV.keep {ws : List Addr} (F : AV Z h a ty vs) (K : Keep h h' ws) (q : a ∉ ws) : AV Z h' a ty vs := by obtain ⟨c, A, r⟩ := F; exact ⟨c, ⟨K.2.1 a c A.1 q, A.2⟩, r⟩
theorem own_len {n : Nat} (h : n < 2147483648) : (Nat.toInt32 n).toNatClampNeg = n ∧ ¬ Nat.toInt32 n < 0 := by
  have e : (Nat.toInt32 n).toInt = n := Int32.toInt_ofNat_small (by omega)
  constructor
  · simp only [Int32.toNatClampNeg, e]; rfl
  · rw [Int32.lt_iff_toInt_lt, e]; have : (0 : Int32).toInt = 0 := rfl
    omega
theorem AV.arv (F : AV Z h a ty vs) : ∃ k, Arv Z h a k ty (Nat.toInt32 vs.length) vs .null := by
  obtain ⟨c, A, S, L, H, G⟩ := F
  obtain ⟨q1, q2⟩ := own_len L
  exact ⟨c.cls, c, A, rfl, by rw [S, q1], q2, fun i hi => H i (by omega), fun i hi => G i (by omega)⟩
theorem Arv.av {k : ClassId} {z : Int32} {dv : Value} (F : Arv Z h a k ty z vs dv) (q : z.toNatClampNeg = vs.length) (L : vs.length < 2147483648) : AV Z h a ty vs := by
  obtain ⟨c, A, -, S, -, H, G⟩ := F
  have e : ∀ i, i < vs.length → vs.getD i dv = vs.getD i .null := fun i hi => by
    simp only [List.getD_eq_getElem?_getD, List.getElem?_eq_getElem hi, Option.getD_some]
  exact ⟨c, A, by rw [S, q], L, fun i hi => by rw [← e i hi]; exact H i (by omega), fun i hi => by rw [← e i hi]; exact G i (by omega)⟩

theorem own_idx {j : Int32} {i : Nat} (hj : j.toInt = (i : Int)) : j.toNatClampNeg = i ∧ ¬ j < 0 := by
  constructor
  · unfold Int32.toNatClampNeg; rw [hj]; rfl
  · rw [Int32.lt_iff_toInt_lt, hj]; have : (0 : Int32).toInt = 0 := rfl
    omega
theorem g_caload (X : Wk p l e R s m args below meth c n1 Z Ts Lt T h cells slots) (hx : p.tables.exec = Jvm.exec) (hZ : Z.Warmed39 s.vm) (F : AV Z h a .char vs) {j : Int32} {i : Nat} (hj : j.toInt = (i : Int)) (hi : i < vs.length) {x : Int32} (hv : vs.getD i .null = .int x) (hp : pc + 1 = pc') (hd : decode c.code pc = .ok (.caload, 1))
    (k : Go p e below s n0 Q nc ns (T.setTop (mkF m pc' Ls (.int x :: rest)))) : Go p e below s n0 Q nc ns (T.setTop (mkF m pc Ls (.int j :: .ref a :: rest))) := by
  subst hp; obtain ⟨locs, vm0, X, N, eT, B⟩ := X; replace hZ := B.hZ hZ
  obtain ⟨cl, A, S, -, H, -⟩ := F
  obtain ⟨e1, e2⟩ := own_idx hj
  have hin : ¬ (j < 0 ∨ cl.slots.size ≤ j.toNatClampNeg) := by rw [e1, S]; intro q; rcases q with q | q; exact e2 q; omega
  exact go_back (fun t q => X.caload hx (j := j) (v := .int x) (by rw [eT]; exact A.1) (State.isArrayOf_alike hZ.alike A.2.1) A.2.2 hin (by rw [e1, ← hv]; exact H i hi) (g := mkF m pc Ls (.int j :: .ref a :: rest)) rfl rfl hd t q) k
theorem g_baload (X : Wk p l e R s m args below meth c n1 Z Ts Lt T h cells slots) (hx : p.tables.exec = Jvm.exec) (hZ : Z.Warmed39 s.vm) (F : AV Z h a .byte vs) {j : Int32} {i : Nat} (hj : j.toInt = (i : Int)) (hi : i < vs.length) {x : Int32} (hv : vs.getD i .null = .int x) (hp : pc + 1 = pc') (hd : decode c.code pc = .ok (.baload, 1))
    (k : Go p e below s n0 Q nc ns (T.setTop (mkF m pc' Ls (.int x :: rest)))) : Go p e below s n0 Q nc ns (T.setTop (mkF m pc Ls (.int j :: .ref a :: rest))) := by
  subst hp; obtain ⟨locs, vm0, X, N, eT, B⟩ := X; replace hZ := B.hZ hZ
  obtain ⟨cl, A, S, -, H, -⟩ := F
  obtain ⟨e1, e2⟩ := own_idx hj
  have hin : ¬ (j < 0 ∨ cl.slots.size ≤ j.toNatClampNeg) := by rw [e1, S]; intro q; rcases q with q | q; exact e2 q; omega
  exact go_back (fun t q => X.baloadBytes hx (j := j) (v := .int x) (by rw [eT]; exact A.1) (State.isArrayOf_alike hZ.alike A.2.1) A.2.2 hin (by rw [e1, ← hv]; exact H i hi) (g := mkF m pc Ls (.int j :: .ref a :: rest)) rfl rfl hd t q) k
theorem AV.set {j : Int32} {i : Nat} {v : Value} (F : AV Z h a ty vs) (hj : j.toNatClampNeg = i) (hi : i < vs.length) (hf : Jvm.fits ty v = true) (W : Wr h h' a j.toNatClampNeg v) : AV Z h' a ty (vs.set i v) := by
  obtain ⟨cl, A, S, hl, H, G⟩ := F
  refine ⟨_, A.same W, by rw [sz_set, S, List.length_set], by rw [List.length_set]; exact hl, fun k hk => ?_, fun k hk => ?_⟩
  · rw [List.length_set] at hk
    rw [hj]
    by_cases u : i = k
    · subst u; simp [Cell.setSlot, S, hi]
    · have q := H k hk
      simp only [Cell.setSlot, List.getD_eq_getElem?_getD] at q ⊢
      rw [Array.getElem?_setIfInBounds_ne u, List.getElem?_set_ne u]; exact q
  · rw [List.length_set] at hk
    by_cases u : i = k
    · subst u; simpa [hi] using hf
    · have q := G k hk
      simp only [List.getD_eq_getElem?_getD] at q ⊢
      rw [List.getElem?_set_ne u]; exact q
theorem g_bastore (X : Wk p l e R s m args below meth c n1 Z Ts Lt T h cells slots) (hx : p.tables.exec = Jvm.exec) (hZ : Z.Warmed39 s.vm) (F : AV Z h a .byte vs) {j : Int32} {i : Nat} (hj : j.toInt = (i : Int)) (hi : i < vs.length) (hna : n1 ≤ a) {x y : Int32} (hxy : nar .byte x = y) (hp : pc + 1 = pc') (hd : decode c.code pc = .ok (.bastore, 1))
    (k : ∀ T' h', Wk p l e R s m args below meth c n1 Z Ts Lt T' h' cells slots → Wr h h' a j.toNatClampNeg (.int y) → AV Z h' a .byte (vs.set i (.int y)) → Go p e below s n0 Q nc ns (T'.setTop (mkF m pc' Ls rest))) : Go p e below s n0 Q nc ns (T.setTop (mkF m pc Ls (.int x :: .int j :: .ref a :: rest))) := by
  subst hp; subst hxy; obtain ⟨locs, vm0, X, N, eT, B⟩ := X; replace hZ := B.hZ hZ
  obtain ⟨e1, e2⟩ := own_idx hj
  obtain ⟨cl, A, S, hl, H⟩ := F
  have hin : ¬ (j < 0 ∨ cl.slots.size ≤ j.toNatClampNeg) := by rw [e1, S]; intro q; rcases q with q | q; exact e2 q; omega
  obtain ⟨T', h', X', e', W', b⟩ := stB X hx hZ eT A (x := x) hin (g := mkF m pc Ls (.int x :: .int j :: .ref a :: rest)) rfl rfl hd
  exact go_back b (k T' h' ⟨_, vm0, X', Fr.snoc X' N hna, e', B.grow (Nat.le_of_eq W'.size.symm)⟩ W' (AV.set ⟨cl, A, S, hl, H⟩ e1 hi (fits_nar_byte x) W'))
theorem g_castore (X : Wk p l e R s m args below meth c n1 Z Ts Lt T h cells slots) (hx : p.tables.exec = Jvm.exec) (hZ : Z.Warmed39 s.vm) (F : AV Z h a .char vs) {j : Int32} {i : Nat} (hj : j.toInt = (i : Int)) (hi : i < vs.length) (hna : n1 ≤ a) {x y : Int32} (hxy : nar .char x = y) (hp : pc + 1 = pc') (hd : decode c.code pc = .ok (.castore, 1))
    (k : ∀ T' h', Wk p l e R s m args below meth c n1 Z Ts Lt T' h' cells slots → Wr h h' a j.toNatClampNeg (.int y) → AV Z h' a .char (vs.set i (.int y)) → Go p e below s n0 Q nc ns (T'.setTop (mkF m pc' Ls rest))) : Go p e below s n0 Q nc ns (T.setTop (mkF m pc Ls (.int x :: .int j :: .ref a :: rest))) := by
  subst hp; subst hxy; obtain ⟨locs, vm0, X, N, eT, B⟩ := X; replace hZ := B.hZ hZ
  obtain ⟨e1, e2⟩ := own_idx hj
  obtain ⟨cl, A, S, hl, H⟩ := F
  have hin : ¬ (j < 0 ∨ cl.slots.size ≤ j.toNatClampNeg) := by rw [e1, S]; intro q; rcases q with q | q; exact e2 q; omega
  obtain ⟨T', h', X', e', W', b⟩ := stC X hx hZ eT A (x := x) hin (g := mkF m pc Ls (.int x :: .int j :: .ref a :: rest)) rfl rfl hd
  exact go_back b (k T' h' ⟨_, vm0, X', Fr.snoc X' N hna, e', B.grow (Nat.le_of_eq W'.size.symm)⟩ W' (AV.set ⟨cl, A, S, hl, H⟩ e1 hi (fits_nar_char x) W'))
theorem g_newA (X : Wk p l e R s m args below meth c n1 Z Ts Lt T h cells slots) (hx : p.tables.exec = Jvm.exec) (hZ : Z.Warmed39 s.vm) {aty : ArrayType} (w : (Jvm.Cond.arrayClass (newarray.typeOf aty)).before a0 Z = true) {n : Int32} {N : Nat} (hn : n.toInt = (N : Int)) {cap : Nat} (hcap : N ≤ cap) (hb : cap * 8 ≤ 536870912) (hp : pc + 2 = pc') (hd : decode c.code pc = .ok (.newarray aty, 2)) (hc : cells + 1 ≤ R.cells) (hl : slots + cap ≤ R.slots)
    (k : ∀ T' h' a, a = h.size → Wk p l e R s m args below meth c n1 Z Ts Lt T' h' (cells + 1) (slots + cap) → Ext h h' → AV Z h' a (newarray.typeOf aty) (List.replicate N (defaultValue (newarray.typeOf aty))) → Go p e below s n0 Q nc ns (T'.setTop (mkF m pc' Ls (.ref a :: rest)))) : Go p e below s n0 Q nc ns (T.setTop (mkF m pc Ls (.int n :: rest))) := by
  subst hp; obtain ⟨locs, vm0, X, Nf, eT, B⟩ := X; replace hZ := B.hZ hZ
  obtain ⟨e1, e2⟩ := own_idx hn
  obtain ⟨T', h', cA, X', e', E', A', b⟩ := newP X hx hZ (aty := aty) w eT (g := mkF m pc Ls (.int n :: rest)) rfl hd rfl e2 (cap := cap) (by rw [e1]; exact hcap) hb hc hl
  have V := Arv.pad (vs' := List.replicate N (defaultValue (newarray.typeOf aty))) (Arv.new A' e2) (fun i => by
    have q := pad_rep [] (defaultValue (newarray.typeOf aty)) N i
    simpa using q)
  exact go_back b (k T' h' h.size rfl ⟨_, vm0, X', Nf, e', B.grow E'.1⟩ E' (Arv.av V (by rw [e1, List.length_replicate]) (by rw [List.length_replicate]; omega)))
theorem g_alen (X : Wk p l e R s m args below meth c n1 Z Ts Lt T h cells slots) (hx : p.tables.exec = Jvm.exec) (hZ : Z.Warmed39 s.vm) (F : AV Z h a ty vs) {z : Int32} (hz : z.toInt = (vs.length : Int)) (hp : pc + 1 = pc') (hd : decode c.code pc = .ok (.arraylength, 1))
    (k : Go p e below s n0 Q nc ns (T.setTop (mkF m pc' Ls (.int z :: rest)))) : Go p e below s n0 Q nc ns (T.setTop (mkF m pc Ls (.ref a :: rest))) := by
  subst hp; obtain ⟨locs, vm0, X, N, eT, B⟩ := X; replace hZ := B.hZ hZ
  obtain ⟨cl, A, S, -, H⟩ := F
  obtain ⟨e1, e2⟩ := own_idx hz
  have e3 : cl.slots.size.toInt32 = z := len_of (by rw [S, e1]) e2
  refine go_back (fun t q => X.arraylength hx (by rw [eT]; exact A.1) (State.isArrayOf_alike hZ.alike A.2.1) (g := mkF m pc Ls (.ref a :: rest)) rfl rfl hd t ?_) k
  rw [e3]; exact q
theorem since_up {s : State} {vm : Vm} {n n' : Nat} (q : s.Since vm n) (hn : n ≤ n') : s.Since vm n' := ⟨q.1, fun j p hj hp => ⟨(q.2 j p hj hp).1, Nat.lt_of_lt_of_le (q.2 j p hj hp).2 hn⟩⟩
/-- ldc of a String constant, the first time (its text is not among those loaded) -/
theorem g_ldcS (X : Wk p l e R s m args below meth c s.heap.size Z Ts Lt T h cells slots) (hx : p.tables.exec = Jvm.exec) (hZ : Z.Warmed39 s.vm) {own text : String} {index : Nat} (hown : s.vm.findClass own = some m.cls) (w : (Jvm.Cond.stringLink own index text).before a0 Z = true) (wS : ∀ d ∈ Bundle.stringAtoms, d.before a0 Z = true)
    (hkeep : ∀ (b : Addr) (cl : Cell), Z.heap[b]? = some cl → s.heap[b]? = some cl) (hnot : text ∉ Ts) (hh : Jvm.Lit.constHeld Z own index) (hcw : Jvm.Lit.compactW.before a0 Z = true)
    (ht : (∀ q ∈ text.toList, q.toNat < 256) ∧ text.toList.map (fun q => Value.int (Jvm.Lit.byteI q.toNat.toUInt16)) = vs) (hL : vs.length < 2147483648) (hp : pc + 2 = pc') (hd : decode c.code pc = .ok (.ldc index, 2)) {n : Nat} (hn : 4 * text.toList.length ≤ n) (hbig : n ≤ 536870912) (hc : cells + 2 ≤ R.cells) (hl : slots + (n + 4) ≤ R.slots)
    (k : ∀ T' h' a b, Wk p l e R s m args below meth c s.heap.size Z (text :: Ts) ((own, index, a) :: Lt) T' h' (cells + 2) (slots + (n + 4)) → Ext h h' → XSt Z h' a → SC Z h' a (.int 0) → SV Z h' a (.ref b) → AV Z h' b .byte vs → ((a < s.heap.size ∧ b < s.heap.size) ∨ (h.size ≤ a ∧ h.size ≤ b)) →
      Go p e below s n0 Q nc ns (T'.setTop (mkF m pc' Ls (.ref a :: st)))) : Go p e below s n0 Q nc ns (T.setTop (mkF m pc Ls st)) := by
  subst hp; obtain ⟨locs, vm0, X, N, eT, B⟩ := X; replace hZ := B.hZ hZ; replace hown := B.fc hown
  obtain ⟨⟨k0, hS, hk⟩, I, t⟩ := B
  obtain ⟨a, T', h', k1, b, kk, X', e', E, hS', hk', hW, hf, h1, h2, h3, h4, -, -, I', L', hw, st'⟩ := ldcSVd (s := s.setVm vm0) (vm0 := vm0) X hx hZ hown w wS eT ((State.WarmedH.refl (s.setVm vm0)).since h.size) (Nat.le_refl _) N hkeep I hnot hh hcw (z := Nat.toInt32 vs.length) ht (own_len hL).2 (own_len hL).1 (g := mkF m pc Ls st) rfl hd hn hbig hc hl
  refine go_back st' (k T' h' a b ⟨_, T'.vm, X', N, e', ⟨⟨h'.size, hS.trans (since_up hS' hk') (Nat.le_trans hk E.1), Nat.le_refl _⟩, I', fun q hq => ?_⟩⟩ E h1 h2 h3 (Arv.av h4 (own_len hL).1 hL) hw)
  rcases List.mem_cons.mp hq with rfl | hq
  · exact L'
  · exact Lit.stays (t q hq) hS'.1
theorem g_ldcA (X : Wk p l e R s m args below meth c n1 Z Ts Lt T h cells slots) (hx : p.tables.exec = Jvm.exec) (hZ : Z.Warmed39 s.vm) {own text : String} {index : Nat} (hown : s.vm.findClass own = some m.cls) (w : (Jvm.Cond.stringLink own index text).before a0 Z = true) (hm : (own, index, a) ∈ Lt) (hp : pc + 2 = pc') (hd : decode c.code pc = .ok (.ldc index, 2))
    (k : Go p e below s n0 Q nc ns (T.setTop (mkF m pc' Ls (.ref a :: st)))) : Go p e below s n0 Q nc ns (T.setTop (mkF m pc Ls st)) := by
  subst hp; obtain ⟨locs, vm0, X, N, eT, B⟩ := X; replace hZ := B.hZ hZ; replace hown := B.fc hown
  exact go_back (ldcAgain X hx hZ hown w (B.lt _ hm) (g := mkF m pc Ls st) rfl hd) k
theorem g_cast (X : Wk p l e R s m args below meth c n1 Z Ts Lt T h cells slots) (hx : p.tables.exec = Jvm.exec) (hZ : Z.Warmed39 s.vm) {own K : String} {index : Nat} (hown : s.vm.findClass own = some m.cls) (w : (Jvm.Cond.classLink own index K).before a0 Z = true) (F : Ins Z h a K true) (hp : pc + 3 = pc') (hd : decode c.code pc = .ok (.checkcast index, 3))
    (k : ∀ T', Wk p l e R s m args below meth c n1 Z Ts Lt T' h cells slots → Go p e below s n0 Q nc ns (T'.setTop (mkF m pc' Ls (.ref a :: rest)))) : Go p e below s n0 Q nc ns (T.setTop (mkF m pc Ls (.ref a :: rest))) := by
  subst hp; obtain ⟨locs, vm0, X, N, eT, B⟩ := X; replace hZ := B.hZ hZ; replace hown := B.fc hown
  obtain ⟨T', X', e', b⟩ := castY X hx hZ hown w eT F (g := mkF m pc Ls (.ref a :: rest)) rfl rfl hd
  exact go_back b (k T' ⟨_, vm0, X', N, e', B⟩)
/-- System.arraycopy between arrays of one primitive type -/
theorem g_copyP (X : Wk p l e R s m args below meth c n1 Z Ts Lt T h cells slots) (hx : p.tables.exec = Jvm.exec) (hZ : Z.Warmed39 s.vm) {own : String} {index : Nat} (hown : s.vm.findClass own = some m.cls)
    (w1 : (Jvm.Cond.methodLink own index Jvm.Stand.acN).before a0 Z = true) (w2 : (Jvm.Cond.native Jvm.Stand.acN).before a0 Z = true) (w3 : (Jvm.Cond.static Jvm.Stand.acN).before a0 Z = true) (w4 : (Jvm.Cond.initialized "java/lang/System").before a0 Z = true)
    (A : AV Z h a ty vs) (B : AV Z h b ty ws) (hty : refKind ty = false) {sp dp nn : Int32} {i j n : Nat} (h1 : sp.toInt = (i : Int)) (h2 : dp.toInt = (j : Int)) (h3 : nn.toInt = (n : Int)) (h4 : i + n ≤ vs.length) (h5 : j + n ≤ ws.length) (ge : n1 ≤ b)
    (hsz : Ls.size = c.maxLocals) (hp : pc + 3 = pc') (hd : decode c.code pc = .ok (.invokestatic index, 3)) (hf : 1 ≤ R.frames) {W : Nat} (hW : 2 * 0 + (rest.map fun v => v.category).sum ≤ W) (hlo : W + (nativeFrameWords "java/lang/System" "arraycopy" 5 + 11) ≤ R.locals)
    (k : ∀ T' h', Wk p l e R s m args below meth c n1 Z Ts Lt T' h' cells slots → Keep h h' [b] → AV Z h' b ty (ws.take j ++ (vs.drop i).take n ++ ws.drop (j + n)) → Go p e below s n0 Q nc ns (T'.setTop (mkF m pc' Ls rest))) : Go p e below s n0 Q nc ns (T.setTop (mkF m pc Ls (.int nn :: .int dp :: .ref b :: .int sp :: .ref a :: rest))) := by
  subst hp; obtain ⟨locs, vm0, X, N, eT, B0⟩ := X; replace hZ := B0.hZ hZ; replace hown := B0.fc hown
  have LA := A
  have LB := B
  obtain ⟨-, -, -, LA, -⟩ := LA
  obtain ⟨-, -, -, LB, -⟩ := LB
  obtain ⟨ka, A⟩ := A.arv
  obtain ⟨kb, B⟩ := B.arv
  have idx : ∀ {z : Int32} {t : Nat}, z.toInt = (t : Int) → z.toNatClampNeg = t ∧ ¬ z < 0 := fun {z t} hj => by
    constructor
    · unfold Int32.toNatClampNeg; rw [hj]; rfl
    · rw [Int32.lt_iff_toInt_lt, hj]; have : (0 : Int32).toInt = 0 := rfl
      omega
  obtain ⟨s1, s2⟩ := idx h1
  obtain ⟨d1, d2⟩ := idx h2
  obtain ⟨n1, n2⟩ := idx h3
  have hus : (vs.drop i).take n = (List.range nn.toNatClampNeg).map fun t => vs.getD (sp.toNatClampNeg + t) .null := by
    rw [s1, n1]
    apply List.ext_getElem?
    intro t
    simp only [List.getElem?_map, List.getElem?_take, List.getElem?_drop, List.getElem?_range]
    by_cases ht : t < n
    · simp [ht, List.getElem?_eq_getElem (show i + t < vs.length by omega), List.getElem?_range ht]
    · simp [ht]
  obtain ⟨T', h', L, X', e', N', K, V, b'⟩ := cpA X hx hZ hown w1 w2 w3 w4 eT A B (Or.inl ⟨rfl, hty⟩) s2 d2 n2 (by rw [s1, n1, (own_len LA).1]; exact h4) (by rw [d1, n1, (own_len LB).1]; exact h5) hus (by rw [d1, n1]; exact h5) N ge (g := mkF m pc Ls (.int nn :: .int dp :: .ref b :: .int sp :: .ref a :: rest)) rfl hsz rfl hd hf hW hlo
  have el : (ws.take j ++ (vs.drop i).take n ++ ws.drop (j + n)).length = ws.length := by
    simp only [List.length_append, List.length_take, List.length_drop]; omega
  rw [d1, n1] at V
  exact go_back b' (k T' h' ⟨_, vm0, X', N', e', B0.grow K.1⟩ K (Arv.av V (by rw [(own_len LB).1, el]) (by rw [el]; exact LB)))
theorem nar_i2b (x : Int32) : nar .byte (x.toInt8.toInt32) = x.toInt8.toInt32 := by simp [nar]
theorem nar_i2c (x : Int32) : nar .char (x.toUInt32.toUInt16.toUInt32.toInt32) = x.toUInt32.toUInt16.toUInt32.toInt32 := by
  show (x.toUInt32.toUInt16.toUInt32.toInt32).toUInt32.toUInt16.toUInt32.toInt32 = _
  rw [UInt32.toUInt32_toInt32, UInt16.toUInt16_toUInt32]
end OwnAv
section OwnAe
variable {p : Program} {l : Launch} {e : Env} {R : Room} {s : State} {m : MethodId} {args : Array Value} {below : List Frame} {meth : Method} {c : Code} {T : State} {Z : State} {a0 : Array Value} {h h' : Heap} {n0 n1 cells slots nc ns pc pc' : Nat} {Ls : Array Slot} {st rest : List Value} {Q : GQ} {Ts Ts' : List String} {Lt : List (String × Nat × Addr)} {vm0 : Vm} {a b : Addr} {ty : FieldType} {vs ws : List Value}
/-- newarray, its class told too -/
theorem g_newAE (X : Wk p l e R s m args below meth c n1 Z Ts Lt T h cells slots) (hx : p.tables.exec = Jvm.exec) (hZ : Z.Warmed39 s.vm) {aty : ArrayType} (w : (Jvm.Cond.arrayClass (newarray.typeOf aty)).before a0 Z = true) {n : Int32} {N : Nat} (hn : n.toInt = (N : Int)) {cap : Nat} (hcap : N ≤ cap) (hb : cap * 8 ≤ 536870912) {ad : String} (had : "[" ++ (newarray.typeOf aty).toString = ad) (hp : pc + 2 = pc') (hd : decode c.code pc = .ok (.newarray aty, 2)) (hc : cells + 1 ≤ R.cells) (hl : slots + cap ≤ R.slots)
    (k : ∀ T' h' a, a = h.size → Wk p l e R s m args below meth c n1 Z Ts Lt T' h' (cells + 1) (slots + cap) → Ext h h' → AV Z h' a (newarray.typeOf aty) (List.replicate N (defaultValue (newarray.typeOf aty))) → Exa Z h' a ad → Go p e below s n0 Q nc ns (T'.setTop (mkF m pc' Ls (.ref a :: rest)))) : Go p e below s n0 Q nc ns (T.setTop (mkF m pc Ls (.int n :: rest))) := by
  subst hp; obtain ⟨locs, vm0, X, Nf, eT, B⟩ := X; replace hZ := B.hZ hZ
  obtain ⟨e1, e2⟩ := own_idx hn
  obtain ⟨T', h', cA, X', e', E', A', EX, b⟩ := newPE X hx hZ (aty := aty) w eT (g := mkF m pc Ls (.int n :: rest)) rfl hd rfl e2 (cap := cap) (by rw [e1]; exact hcap) hb hc hl had
  have V := Arv.pad (vs' := List.replicate N (defaultValue (newarray.typeOf aty))) (Arv.new A' e2) (fun i => by
    have q := pad_rep [] (defaultValue (newarray.typeOf aty)) N i
    simpa using q)
  exact go_back b (k T' h' h.size rfl ⟨_, vm0, X', Nf, e', B.grow E'.1⟩ E' (Arv.av V (by rw [e1, List.length_replicate]) (by rw [List.length_replicate]; omega)) EX)
/-- clone of an array -/
theorem g_clone (X : Wk p l e R s m args below meth c n1 Z Ts Lt T h cells slots) (hx : p.tables.exec = Jvm.exec) (hZ : Z.Warmed39 s.vm) {own ad : String} {index : Nat} (hown : s.vm.findClass own = some m.cls)
    (w1 : (Jvm.Cond.methodLink own index ⟨ad, "clone", "()Ljava/lang/Object;"⟩).before a0 Z = true) (w2 : (Jvm.Cond.sameMethod ad "java/lang/Object" "clone" "()Ljava/lang/Object;").before a0 Z = true) (w3 : (Jvm.Cond.native ⟨"java/lang/Object", "clone", "()Ljava/lang/Object;"⟩).before a0 Z = true)
    (w4 : (Jvm.Cond.instanceMethod ⟨"java/lang/Object", "clone", "()Ljava/lang/Object;"⟩).before a0 Z = true) (w5 : (Jvm.Cond.selects ad ⟨ad, "clone", "()Ljava/lang/Object;"⟩ ⟨"java/lang/Object", "clone", "()Ljava/lang/Object;"⟩).before a0 Z = true) (w6 : (Jvm.Cond.castable ad "java/lang/Cloneable").before a0 Z = true)
    (F : AV Z h a ty vs) (E : Exa Z h a ad) (hsz : Ls.size = c.maxLocals) (hp : pc + 3 = pc') (hd : decode c.code pc = .ok (.invokevirtual index, 3)) (hf : 1 ≤ R.frames) {W cap : Nat} (hW : 2 * 0 + (rest.map fun v => v.category).sum ≤ W) (hl : W + 14 ≤ R.locals) (hcap : vs.length ≤ cap) (hc : cells + 1 ≤ R.cells) (hsl : slots + cap ≤ R.slots)
    (k : ∀ T' h' a', a' = h.size → Wk p l e R s m args below meth c n1 Z Ts Lt T' h' (cells + 1) (slots + cap) → Ext h h' → AV Z h' a' ty vs → Exa Z h' a' ad → Go p e below s n0 Q nc ns (T'.setTop (mkF m pc' Ls (.ref a' :: rest)))) : Go p e below s n0 Q nc ns (T.setTop (mkF m pc Ls (.ref a :: rest))) := by
  subst hp; obtain ⟨locs, vm0, X, Nf, eT, B⟩ := X; replace hZ := B.hZ hZ; replace hown := B.fc hown
  obtain ⟨cl, A, S, hL, H, G⟩ := F
  have FC : FitC Z cl := fitC_of A fun i hi v hv => by rw [H i (by omega)] at hv; cases hv; exact G i (by omega)
  obtain ⟨T', h', X', e', ex, A', E', st'⟩ := cloneA X hx hZ hown w1 w2 w3 w4 w5 w6 eT A E FC (g := mkF m pc Ls (.ref a :: rest)) rfl hsz rfl hd hf hW hl (by rw [S]; exact hcap) hc hsl
  exact go_back st' (k T' h' h.size rfl ⟨_, vm0, X', Nf, e', B.grow ex.1⟩ ex ⟨cloneOf cl, A', S, hL, H, G⟩ E')
end OwnAe
section OwnAri
theorem ar_neg {p : Int32} (h : 0 ≤ p.toInt) : (-p).toInt = -p.toInt := by
  have := p.toInt_lt
  rw [Int32.toInt_neg, Int.bmod_eq_of_le (by omega) (by omega)]
theorem ar_div {p c : Int32} (h : 0 ≤ p.toInt) (hc : 0 < c.toInt) : (p / c).toInt = p.toInt / c.toInt := by
  rw [Int32.toInt_div_of_ne_right p c (fun q => by rw [q] at hc; exact absurd hc (by decide)), Int.tdiv_eq_ediv_of_nonneg h]
theorem ar_mod {p c : Int32} (h : 0 ≤ p.toInt) : (p % c).toInt = p.toInt % c.toInt := by
  rw [Int32.toInt_mod, Int.tmod_eq_emod_of_nonneg h]
theorem ar_add {p c : Int32} (h1 : -2147483648 ≤ p.toInt + c.toInt) (h2 : p.toInt + c.toInt < 2147483648) : (p + c).toInt = p.toInt + c.toInt := by
  rw [Int32.toInt_add, Int.bmod_eq_of_le (by omega) (by omega)]
theorem ar_sub {p c : Int32} (h1 : -2147483648 ≤ p.toInt - c.toInt) (h2 : p.toInt - c.toInt < 2147483648) : (p - c).toInt = p.toInt - c.toInt := by
  rw [Int32.toInt_sub, Int.bmod_eq_of_le (by omega) (by omega)]
theorem ar_mul {p c : Int32} (h1 : -2147483648 ≤ p.toInt * c.toInt) (h2 : p.toInt * c.toInt < 2147483648) : (p * c).toInt = p.toInt * c.toInt := by
  rw [Int32.toInt_mul, Int.bmod_eq_of_le (by omega) (by omega)]
theorem ar_ndiv {p c : Int32} (h : 0 ≤ p.toInt) (hc : 0 < c.toInt) : (-p) / c = -(p / c) := by
  apply Int32.toInt_inj.mp
  have hd := ar_div h hc
  have h0 : 0 ≤ (p / c).toInt := by rw [hd]; exact Int.ediv_nonneg h (by omega)
  rw [Int32.toInt_div_of_ne_right _ c (fun q => by rw [q] at hc; exact absurd hc (by decide)), ar_neg h, ar_neg h0, Int.neg_tdiv, Int.tdiv_eq_ediv_of_nonneg h, hd]
theorem ar_rem {p : Int32} (h : 0 ≤ p.toInt) (h2 : p.toInt < 65536) : -(p / 100) * 100 - (-p) = p % 100 := by
  apply Int32.toInt_inj.mp
  have e : (100 : Int32).toInt = 100 := rfl
  have hd := ar_div (c := 100) h (by decide)
  rw [e] at hd
  have h0 : 0 ≤ (p / 100).toInt := by omega
  have hn := ar_neg h0
  have hm : (-(p / 100) * 100).toInt = -(p / 100).toInt * 100 := by rw [ar_mul (by rw [hn, e]; omega) (by rw [hn, e]; omega), hn, e]
  rw [ar_sub (by rw [hm, ar_neg h]; omega) (by rw [hm, ar_neg h]; omega), hm, ar_neg h, ar_mod h, e]
  omega
theorem ar_lt {x p : Int32} (h : 0 ≤ p.toInt) (q : p.toInt < -x.toInt) : x < -p := by
  rw [Int32.lt_iff_toInt_lt, ar_neg h]; omega
theorem ar_nlt {x p : Int32} (h : 0 ≤ p.toInt) (q : -x.toInt ≤ p.toInt) : ¬ x < -p := by
  rw [Int32.lt_iff_toInt_lt, ar_neg h]; omega
theorem ar_lt' {x p : Int32} (h : 0 ≤ p.toInt) (q : -x.toInt < p.toInt) : -p < x := by
  rw [Int32.lt_iff_toInt_lt, ar_neg h]; omega
theorem ar_nlt' {x p : Int32} (h : 0 ≤ p.toInt) (q : p.toInt ≤ -x.toInt) : ¬ -p < x := by
  rw [Int32.lt_iff_toInt_lt, ar_neg h]; omega
theorem ar_nneg {p : Int32} (h : 0 ≤ p.toInt) : ¬ p < 0 := by
  rw [Int32.lt_iff_toInt_lt]; have : (0 : Int32).toInt = 0 := rfl
  omega
theorem ar_nn {p : Int32} : -(-p) = p := Int32.neg_neg
theorem ar_of {n : Nat} (h : n < 2147483648) : (Int32.ofNat n).toInt = (n : Int) := Int32.toInt_ofNat_of_lt h
theorem ar_u {w : UInt32} (h : w.toNat < 2147483648) : w.toInt32.toInt = (w.toNat : Int) := by
  have e : w.toInt32 = Int32.ofNat w.toNat := by rw [← UInt32.toInt32_ofNat', UInt32.ofNat_toNat]
  rw [e]; exact ar_of h
theorem ar_n {u : Int32} (h : 0 ≤ u.toInt) : u.toUInt32.toNat = u.toInt.toNat := by
  rw [Int32.toNat_toUInt32_of_le (by rw [Int32.le_iff_toInt_le]; exact h)]; rfl
theorem ar_id {a : Int32} (h : 0 ≤ a.toInt) : a = Int32.ofNat a.toInt.toNat := by
  have := a.toInt_lt
  apply Int32.toInt_inj.mp; rw [ar_of (by omega)]; omega
/-- a small char -/
theorem ar_i2c {u : Int32} (h1 : 0 ≤ u.toInt) (h2 : u.toInt < 65536) : u.toUInt32.toUInt16.toUInt32.toInt32 = u := by
  apply Int32.toInt_inj.mp
  have e2 : u.toUInt32.toUInt16.toUInt32.toNat = u.toInt.toNat := by
    rw [UInt16.toNat_toUInt32, UInt32.toNat_toUInt16, ar_n h1]; omega
  rw [ar_u (by omega), e2]; omega
theorem ar_and (y : Int32) : 0 ≤ (y &&& (255 : Int32)).toInt ∧ (y &&& (255 : Int32)).toInt ≤ 255 := by
  have h1 : (y.toUInt32 &&& 255).toNat ≤ 255 := by rw [UInt32.toNat_and]; exact Nat.and_le_right
  have e : (y &&& (255 : Int32)) = (y.toUInt32 &&& 255).toInt32 := rfl
  rw [e, ar_u (by omega)]; omega
/-- a byte that was a char's low half, read as a char -/
theorem ar_b {a : Int32} (h1 : 0 ≤ a.toInt) (h2 : a.toInt ≤ 255) : (a.toInt8.toInt32 &&& (255 : Int32)) = a := by
  have all : ∀ n : Fin 256, ((Int32.ofNat n.val).toInt8.toInt32 &&& (255 : Int32)) = Int32.ofNat n.val := by decide +kernel
  have := all ⟨a.toInt.toNat, by omega⟩
  rw [ar_id h1]; exact this
theorem ar_58 {a : Int32} (h1 : 0 ≤ a.toInt) (h2 : a.toInt ≤ 255) : (a.toInt8.toInt32 = 58) ↔ a = 58 := by
  have all : ∀ n : Fin 256, ((Int32.ofNat n.val).toInt8.toInt32 = 58) ↔ Int32.ofNat n.val = 58 := by decide +kernel
  have := all ⟨a.toInt.toNat, by omega⟩
  rw [ar_id h1]; exact this
theorem ar_91 {a : Int32} (h1 : 0 ≤ a.toInt) (h2 : a.toInt ≤ 255) : (a.toInt8.toInt32 = 91) ↔ a = 91 := by
  have all : ∀ n : Fin 256, ((Int32.ofNat n.val).toInt8.toInt32 = 91) ↔ Int32.ofNat n.val = 91 := by decide +kernel
  have := all ⟨a.toInt.toNat, by omega⟩
  rw [ar_id h1]; exact this
theorem ar_small {y : Int32} (h1 : 0 ≤ y.toInt) (h2 : y.toInt ≤ 127) : (y &&& (255 : Int32)) = y := by
  have all : ∀ n : Fin 128, (Int32.ofNat n.val &&& (255 : Int32)) = Int32.ofNat n.val := by decide +kernel
  have := all ⟨y.toInt.toNat, by omega⟩
  rw [ar_id h1]; exact this
end OwnAri
section OwnAr9
theorem ar_c (x : Int32) : 0 ≤ x.toUInt32.toUInt16.toUInt32.toInt32.toInt ∧ x.toUInt32.toUInt16.toUInt32.toInt32.toInt < 65536 := by
  have h : x.toUInt32.toUInt16.toUInt32.toNat < 65536 := by rw [UInt16.toNat_toUInt32]; exact UInt16.toNat_lt _
  rw [ar_u (by omega)]; omega
/-- letters and digits; and the four signs -/
def alb (c : Int32) : Bool := (!decide (c < 65) && !decide (90 < c)) || (!decide (c < 97) && !decide (122 < c)) || (!decide (c < 48) && !decide (57 < c))
def okb (c : Int32) : Bool := alb c || decide (c = 45) || decide (c = 46) || decide (c = 95) || decide (c = 126)
theorem okb_big {c : Int32} (h : ¬ c < 128) : okb c = false := by
  have e : ∀ k : Int32, k.toInt < 128 → k < c := fun k hk => by
    rw [Int32.lt_iff_toInt_lt] at h ⊢; have : (128 : Int32).toInt = 128 := rfl
    omega
  have a1 := e 90 (by decide)
  have a2 := e 122 (by decide)
  have a3 := e 57 (by decide)
  have b : ∀ k : Int32, k.toInt < 128 → ¬ c = k := fun k hk q => by have := e k hk; rw [q] at this; exact absurd this (by rw [Int32.lt_iff_toInt_lt]; omega)
  simp [okb, alb, a1, a2, a3, b 45 (by decide), b 46 (by decide), b 95 (by decide), b 126 (by decide)]
theorem chr_nat {c : Int32} (h0 : 0 ≤ c.toInt) {n : Nat} (h : c.toInt < n) : ∃ k : Fin n, c = Int32.ofNat k.val := ⟨⟨c.toInt.toNat, by omega⟩, ar_id h0⟩
theorem ar_b255 (x : Int32) : x.toInt8.toInt32 &&& (255 : Int32) = x &&& (255 : Int32) := by
  apply Int32.toBitVec_inj.mp
  apply BitVec.eq_of_getLsbD_eq
  intro i hi
  have e : ((255 : Int32).toBitVec).getLsbD i = decide (i < 8) := by
    have all : ∀ i : Fin 32, ((255 : Int32).toBitVec).getLsbD i.val = decide (i.val < 8) := by decide +kernel
    exact all ⟨i, hi⟩
  rw [Int32.toBitVec_and, Int32.toBitVec_and, BitVec.getLsbD_and, BitVec.getLsbD_and, e]
  by_cases h : i < 8
  · rw [Int8.toBitVec_toInt32, Int32.toBitVec_toInt8]
    rw [BitVec.getLsbD_signExtend, BitVec.getLsbD_signExtend]
    simp [h, hi]
  · simp [h]
theorem ar_hi {c : Int32} (h0 : 0 ≤ c.toInt) (h1 : c.toInt < 65536) (i : Nat) (hi : 16 ≤ i) : c.toBitVec.getLsbD i = false := by
  apply Nat.testBit_lt_two_pow
  have q := ar_n h0
  rw [← Int32.toNat_toBitVec] at q
  have : 2 ^ 16 ≤ 2 ^ i := Nat.pow_le_pow_right (by decide) hi
  rw [q]; omega
theorem ar_pair {c : Int32} (h0 : 0 ≤ c.toInt) (h1 : c.toInt < 65536) :
    ((((c >>> ((0 : Int32) &&& 31)).toInt8.toInt32 &&& (255 : Int32)) <<< ((0 : Int32) &&& 31)) ||| (((c >>> ((8 : Int32) &&& 31)).toInt8.toInt32 &&& (255 : Int32)) <<< ((8 : Int32) &&& 31))).toUInt32.toUInt16.toUInt32.toInt32 = c := by
  rw [ar_b255, ar_b255]
  have key : ((c >>> ((0 : Int32) &&& 31) &&& (255 : Int32)) <<< ((0 : Int32) &&& 31)) ||| ((c >>> ((8 : Int32) &&& 31) &&& (255 : Int32)) <<< ((8 : Int32) &&& 31)) = c := by
    apply Int32.toBitVec_inj.mp
    apply BitVec.eq_of_getLsbD_eq
    intro i hi
    have e : ∀ i, i < 32 → ((255 : Int32).toBitVec).getLsbD i = decide (i < 8) := by
      have all : ∀ i : Fin 32, ((255 : Int32).toBitVec).getLsbD i.val = decide (i.val < 8) := by decide +kernel
      exact fun i hi => all ⟨i, hi⟩
    have s0 : (Int32.toBitVec 0 &&& Int32.toBitVec 31).smod 32 = 0#32 := by decide
    have s8 : (Int32.toBitVec 8 &&& Int32.toBitVec 31).smod 32 = 8#32 := by decide
    simp only [Int32.toBitVec_or, Int32.toBitVec_shiftLeft, Int32.toBitVec_and, Int32.toBitVec_shiftRight, s0, s8]
    rw [BitVec.getLsbD_or, BitVec.shiftLeft_eq', BitVec.shiftLeft_eq', BitVec.getLsbD_shiftLeft, BitVec.getLsbD_shiftLeft, BitVec.getLsbD_and, BitVec.getLsbD_and, BitVec.sshiftRight_eq', BitVec.sshiftRight_eq', BitVec.getLsbD_sshiftRight, BitVec.getLsbD_sshiftRight]
    have z0 : (0#32).toNat = 0 := rfl
    have z8 : (8#32).toNat = 8 := rfl
    rw [z0, z8, Nat.sub_zero, Nat.zero_add, e i hi, e (i - 8) (by omega)]
    by_cases a : i < 8
    · simp [a, hi]
    · by_cases b : i < 16
      · have e8 : 8 + (i - 8) = i := by omega
        simp [a, hi, e8, show i - 8 < 8 by omega]
        omega
      · rw [ar_hi h0 h1 i (by omega)]
        simp [a, hi, show ¬ i - 8 < 8 by omega]
  rw [key]; exact ar_i2c h0 h1
/-- the two tables of bits -/
theorem own_lo {c : Int32} (h0 : 0 ≤ c.toInt) (h1 : c.toInt < 64) : (((288054454291267584 : Int64).toUInt64 >>> (c &&& 0x3f).toInt64.toUInt64).toInt64 &&& (1 : Int64)) = if okb c then 1 else 0 := by
  obtain ⟨k, rfl⟩ := chr_nat h0 (n := 64) h1
  have all : ∀ k : Fin 64, (((288054454291267584 : Int64).toUInt64 >>> (Int32.ofNat k.val &&& 0x3f).toInt64.toUInt64).toInt64 &&& (1 : Int64)) = if okb (Int32.ofNat k.val) then 1 else 0 := by decide +kernel
  exact all k
theorem own_hi {c : Int32} (h0 : 64 ≤ c.toInt) (h1 : c.toInt < 128) : (((5188146764422578174 : Int64).toUInt64 >>> ((c - (64 : Int32)) &&& 0x3f).toInt64.toUInt64).toInt64 &&& (1 : Int64)) = if okb c then 1 else 0 := by
  obtain ⟨k, rfl⟩ := chr_nat (by omega : 0 ≤ c.toInt) (n := 128) h1
  have all : ∀ k : Fin 128, 64 ≤ k.val → (((5188146764422578174 : Int64).toUInt64 >>> ((Int32.ofNat k.val - (64 : Int32)) &&& 0x3f).toInt64.toUInt64).toInt64 &&& (1 : Int64)) = if okb (Int32.ofNat k.val) then 1 else 0 := by decide +kernel
  refine all k ?_
  have := ar_of (n := k.val) (by omega)
  omega
/-- the chars that the law lays out -/
def laid (n : Nat) (f x y : Int32) (i j : Nat) : List Int32 := ((List.replicate n f).set i x).set j y
theorem laid_len {n : Nat} {f x y : Int32} {i j : Nat} : (laid n f x y i j).length = n := by simp [laid]
theorem laid_get {n : Nat} {f x y : Int32} {i j k : Nat} (hk : k < n) : (laid n f x y i j).getD k 0 = if j = k then y else if i = k then x else f := by
  simp only [laid, List.getD_eq_getElem?_getD, List.getElem?_set, List.length_set, List.length_replicate, List.getElem?_replicate]
  by_cases a : j = k
  · subst a; simp [hk]
  · by_cases b : i = k
    · subst b; simp [a, hk]
    · simp [a, b, hk]
theorem laid_ok {n : Nat} {f x y : Int32} {i j : Nat} (hf : okb f = true) (hy : okb y = true) (hx : i = j ∨ okb x = true) : ∀ k, k < (laid n f x y i j).length → okb ((laid n f x y i j).getD k 0) = true := by
  intro k hk
  rw [laid_len] at hk
  rw [laid_get hk]
  split
  · exact hy
  · split
    · rename_i a b
      rcases hx with q | q
      · exact absurd (q.symm.trans b) a
      · exact q
    · exact hf
theorem laid_badF {n : Nat} {f x y : Int32} {i j : Nat} (hn : 3 ≤ n) (hf : okb f = false) : ∃ k, k < (laid n f x y i j).length ∧ okb ((laid n f x y i j).getD k 0) = false := by
  have : ∃ k, k < n ∧ j ≠ k ∧ i ≠ k := by
    by_cases a : j ≠ 0 ∧ i ≠ 0
    · exact ⟨0, by omega, a.1, a.2⟩
    · by_cases b : j ≠ 1 ∧ i ≠ 1
      · exact ⟨1, by omega, b.1, b.2⟩
      · exact ⟨2, by omega, by omega, by omega⟩
  obtain ⟨k, h1, h2, h3⟩ := this
  exact ⟨k, by rw [laid_len]; exact h1, by rw [laid_get h1, if_neg h2, if_neg h3]; exact hf⟩
theorem laid_badY {n : Nat} {f x y : Int32} {i j : Nat} (hj : j < n) (hy : okb y = false) : ∃ k, k < (laid n f x y i j).length ∧ okb ((laid n f x y i j).getD k 0) = false :=
  ⟨j, by rw [laid_len]; exact hj, by rw [laid_get hj, if_pos rfl]; exact hy⟩
theorem laid_badX {n : Nat} {f x y : Int32} {i j : Nat} (hi : i < n) (hij : ¬ i = j) (hx : okb x = false) : ∃ k, k < (laid n f x y i j).length ∧ okb ((laid n f x y i j).getD k 0) = false :=
  ⟨i, by rw [laid_len]; exact hi, by rw [laid_get hi, if_neg (fun q => hij q.symm), if_pos rfl]; exact hx⟩
theorem laid_chr {n : Nat} {f x y : Int32} {i j : Nat} {P : Int32 → Prop} (hf : P f) (hx : P x) (hy : P y) : ∀ c ∈ laid n f x y i j, P c := by
  intro c hc
  rcases List.mem_or_eq_of_mem_set hc with q | rfl
  · rcases List.mem_or_eq_of_mem_set q with q | rfl
    · rw [List.eq_of_mem_replicate q]; exact hf
    · exact hx
  · exact hy
end OwnAr9
theorem own_wS {Z : State} {a0 : Array Value} (hw : ∀ d ∈ tables_1, d.before a0 Z = true) : ∀ d ∈ Bundle.stringAtoms, d.before a0 Z = true := by
  intro d hd
  simp only [Bundle.stringAtoms, Bundle.sN, List.mem_cons, List.not_mem_nil, or_false] at hd
  rcases hd with rfl | rfl | rfl | rfl | rfl | rfl | rfl
  · exact (wat hw 2 rfl)
  · exact (wat hw 1 rfl)
  · exact (wat hw 15 rfl)
  · exact (wat hw 16 rfl)
  · exact (wat hw 17 rfl)
  · exact (wat hw 18 rfl)
  · exact (wat hw 19 rfl)
theorem own_neA {Z : State} {a0 : Array Value} {h : Heap} {a b : Addr} {C : String} {k : Nat} {ty : FieldType} {vs : List Value} (E : Exa Z h a C) (wi : (Jvm.Cond.instantiable C k).before a0 Z = true) (A : AV Z h b ty vs) : a ≠ b := by
  obtain ⟨c, A, -⟩ := A; exact ne_arr E wi A
theorem own_nm1 {a c : String} {Ts : List String} (h1 : c ≠ a) (h : c ∉ Ts) : c ∉ a :: Ts := fun q => (List.mem_cons.mp q).elim h1 h
/-- the start's cells stand, and all that is written lies above them -/
def OldP (Z : State) (n0 : Nat) (h : Heap) : Prop := Z.heap.size ≤ n0 ∧ Ext Z.heap h
theorem OldP.start (s : State) : OldP s s.heap.size s.heap := ⟨Nat.le_refl _, Nat.le_refl _, fun _ _ q => q⟩
theorem OldP.up {Z : State} {n0 n1 : Nat} {h : Heap} (X : OldP Z n0 h) (q : n0 ≤ n1) : OldP Z n1 h := ⟨Nat.le_trans X.1 q, X.2⟩
theorem OldP.ext {Z : State} {n0 : Nat} {h h' : Heap} (X : OldP Z n0 h) (E : Ext h h') : OldP Z n0 h' := ⟨X.1, Nat.le_trans X.2.1 E.1, fun x c q => E.2 x c (X.2.2 x c q)⟩
theorem OldP.keep {Z : State} {n0 : Nat} {h h' : Heap} {ws : List Addr} (X : OldP Z n0 h) (K : Keep h h' ws) (q : ∀ x ∈ ws, n0 ≤ x) : OldP Z n0 h' := ⟨X.1, Nat.le_trans X.2.1 K.1, fun x c r => K.2.1 x c (X.2.2 x c r) fun z => absurd (Array.getElem?_eq_some_iff.mp r).1 (Nat.not_lt.mpr (Nat.le_trans X.1 (q x z)))⟩
theorem OldP.wr {Z : State} {n0 : Nat} {h h' : Heap} {a : Addr} {sl : Nat} {v : Value} (X : OldP Z n0 h) (W : Wr h h' a sl v) (q : n0 ≤ a) : OldP Z n0 h' := X.keep (Keep.of_wr W) (allS q all0)
theorem nar_chr {r : Int32} (h : 0 ≤ r.toInt ∧ r.toInt < 65536) : nar .char r = r := by
  have e := ar_i2c h.1 h.2
  have q := nar_i2c r
  rw [e] at q; exact q
def L1 (cs : List Int32) : List Value := cs.map fun c => .int c.toInt8.toInt32
def U16 (cs : List Int32) : List Value := cs.flatMap fun c => [.int (c >>> ((0 : Int32) &&& 31)).toInt8.toInt32, .int (c >>> ((8 : Int32) &&& 31)).toInt8.toInt32]
theorem L1_len (cs : List Int32) : (L1 cs).length = cs.length := by simp [L1]
theorem L1_get {cs : List Int32} {i : Nat} (h : i < cs.length) : (L1 cs).getD i .null = .int (cs.getD i 0).toInt8.toInt32 := by
  simp [L1, List.getD_eq_getElem?_getD, h]
theorem C_get {cs : List Int32} {i : Nat} (h : i < cs.length) : (cs.map Value.int).getD i .null = .int (cs.getD i 0) := by
  simp [List.getD_eq_getElem?_getD, h]
theorem U16_len (cs : List Int32) : (U16 cs).length = 2 * cs.length := by
  induction cs with
  | nil => rfl
  | cons c r ih => simp only [U16, List.flatMap_cons, List.length_append, List.length_cons, List.length_nil] at ih ⊢; omega
theorem U16_get {cs : List Int32} {i : Nat} (h : i < cs.length) : (U16 cs).getD (2 * i) .null = .int ((cs.getD i 0) >>> ((0 : Int32) &&& 31)).toInt8.toInt32 ∧ (U16 cs).getD (2 * i + 1) .null = .int ((cs.getD i 0) >>> ((8 : Int32) &&& 31)).toInt8.toInt32 := by
  induction cs generalizing i with
  | nil => exact absurd h (Nat.not_lt_zero i)
  | cons c r ih =>
    match i, h with
    | 0, _ => exact ⟨rfl, rfl⟩
    | i + 1, h => exact ih (i := i) (by simpa using h)
theorem L1_app (a b : List Int32) : L1 (a ++ b) = L1 a ++ L1 b := by simp [L1]
theorem L1_step {cs : List Int32} {i r : Nat} (h : i + (r + 1) = cs.length) : (L1 (cs.take i) ++ List.replicate (r + 1) (Value.int 0)).set i (.int (cs.getD i 0).toInt8.toInt32) = L1 (cs.take (i + 1)) ++ List.replicate r (Value.int 0) := by
  have hi : i < cs.length := by omega
  have e : (L1 (cs.take i)).length = i := by rw [L1_len, List.length_take]; omega
  rw [List.set_append_right _ _ (by omega), e, Nat.sub_self, List.replicate_succ, List.set_cons_zero, ← List.take_append_getElem hi, L1_app, List.append_assoc]
  simp [L1, List.getD_eq_getElem?_getD, hi]
theorem U16_app (a b : List Int32) : U16 (a ++ b) = U16 a ++ U16 b := by simp [U16]
theorem U16_step {cs : List Int32} {i r : Nat} (h : i + (r + 1) = cs.length) : ((U16 (cs.take i) ++ List.replicate (2 * (r + 1)) (Value.int 0)).set (2 * i) (.int ((cs.getD i 0) >>> ((0 : Int32) &&& 31)).toInt8.toInt32)).set (2 * i + 1) (.int ((cs.getD i 0) >>> ((8 : Int32) &&& 31)).toInt8.toInt32) = U16 (cs.take (i + 1)) ++ List.replicate (2 * r) (Value.int 0) := by
  have hi : i < cs.length := by omega
  have e : (U16 (cs.take i)).length = 2 * i := by rw [U16_len, List.length_take]; omega
  rw [List.set_append_right _ _ (by omega), e, Nat.sub_self, show 2 * (r + 1) = (2 * r + 1) + 1 by omega, List.replicate_succ, List.set_cons_zero, List.set_append_right _ _ (by omega), e, show 2 * i + 1 - 2 * i = 1 by omega, List.replicate_succ, List.set_cons_succ, List.set_cons_zero, ← List.take_append_getElem hi, U16_app]
  simp [U16, List.getD_eq_getElem?_getD, hi]
def StrC (Z : State) (h : Heap) (t : Addr) (cs : List Int32) : Prop := XSt Z h t ∧ ∃ b, SV Z h t (.ref b) ∧ ((SC Z h t (.int 0) ∧ AV Z h b .byte (L1 cs) ∧ ∀ c ∈ cs, 0 ≤ c.toInt ∧ c.toInt ≤ 255) ∨ (SC Z h t (.int 1) ∧ AV Z h b .byte (U16 cs) ∧ ∀ c ∈ cs, 0 ≤ c.toInt ∧ c.toInt < 65536))
theorem mem_getD {cs : List Int32} {i : Nat} (h : i < cs.length) : cs.getD i 0 ∈ cs := by
  rw [List.getD_eq_getElem?_getD, List.getElem?_eq_getElem h]; exact List.getElem_mem h
theorem own_nm2 {a b c : String} {Ts : List String} (h1 : c ≠ a) (h2 : c ≠ b) (h : c ∉ Ts) : c ∉ a :: b :: Ts := own_nm1 h1 (own_nm1 h2 h)
theorem own_nm3 {a b c d : String} {Ts : List String} (h1 : d ≠ a) (h2 : d ≠ b) (h3 : d ≠ c) (h : d ∉ Ts) : d ∉ a :: b :: c :: Ts := own_nm1 h1 (own_nm2 h2 h3 h)
theorem rm13_0 (l : Launch) (Z : State) (a0 : Array Value) (hw : HW a0 Z) (ws : List Jvm.Cond) (n0 : Nat) (Ts : List String) (t : Addr) (cz : Int32) (h0 : Heap) (hn0 : n0 ≤ h0.size) (O2 : St0 Z (.int cz)) (hcz : ¬ cz = 0) (OLD : OldP Z n0 h0) (Fc : SC Z h0 t (.int 0)) :
    Con l Z n0 Ts (Ts) (⟨"java/lang/String", "coder", "()B"⟩ : MethodName) jdk_42_method_152_code 1 (some .byte) ws ({ frames := 0, cells := 0, slots := 0, locals := 0 } : Room) #[(.ref t)] h0 (fun v h => v = some (.int 0) ∧ h = h0) := by
  refine con_start (fr0 := fun m => mkF m 0 #[.val (.ref t)] []) ?_
  intro p e s m below meth c T0 hx hZ hby hml hown hnm hret hlk hsh XA
  have X0 := XA n0
  have hlow : n0 ≤ s.heap.size := by rw [hsh]; exact hn0
  replace hown : s.vm.findClass "java/lang/String" = some m.cls := hown
  replace hml : c.maxLocals = 1 := hml
  refine g_getS X0 hx hZ hown (wat hw 84 rfl) Via.refl (Sta.ext OLD.2 O2) (pc' := 3) rfl (hD hby d13_0) (fun T1 X1 => ?_)
  refine g_ifN X1 hx (pcN := 6) (hD hby d13_3) rfl (show ¬ (cz = 0) from hcz) ?_
  refine g_aloadN X1 hx (pc' := 7) rfl (hD hby d13_6) rfl rfl ?_
  refine g_getF X1 hx hZ hown (wat hw 21 rfl) Via.refl Fc (pc' := 10) rfl (hD hby d13_7) (fun T2 X2 => ?_)
  refine g_goto X2 hx (pc' := 14) (hD hby d13_10) (by decide) (by decide) ?_
  exact g_ret X2 hx hlk hret (by first | rfl | exact congrArg Value.int (nar_i2c _) | exact congrArg Value.int (nar_i2b _)) (Or.inl ⟨rfl, Or.inr (Or.inr (Or.inl rfl)), _, rfl⟩) (hD hby d13_14) (by decide) (by decide) (Nat.le_refl _) (⟨rfl, rfl⟩)
theorem rm13_1 (l : Launch) (Z : State) (a0 : Array Value) (hw : HW a0 Z) (ws : List Jvm.Cond) (n0 : Nat) (Ts : List String) (t : Addr) (cz : Int32) (h0 : Heap) (hn0 : n0 ≤ h0.size) (O2 : St0 Z (.int cz)) (hcz : ¬ cz = 0) (OLD : OldP Z n0 h0) (Fc : SC Z h0 t (.int 1)) :
    Con l Z n0 Ts (Ts) (⟨"java/lang/String", "coder", "()B"⟩ : MethodName) jdk_42_method_152_code 1 (some .byte) ws ({ frames := 0, cells := 0, slots := 0, locals := 0 } : Room) #[(.ref t)] h0 (fun v h => v = some (.int 1) ∧ h = h0) := by
  refine con_start (fr0 := fun m => mkF m 0 #[.val (.ref t)] []) ?_
  intro p e s m below meth c T0 hx hZ hby hml hown hnm hret hlk hsh XA
  have X0 := XA n0
  have hlow : n0 ≤ s.heap.size := by rw [hsh]; exact hn0
  replace hown : s.vm.findClass "java/lang/String" = some m.cls := hown
  replace hml : c.maxLocals = 1 := hml
  refine g_getS X0 hx hZ hown (wat hw 84 rfl) Via.refl (Sta.ext OLD.2 O2) (pc' := 3) rfl (hD hby d13_0) (fun T3 X3 => ?_)
  refine g_ifN X3 hx (pcN := 6) (hD hby d13_3) rfl (show ¬ (cz = 0) from hcz) ?_
  refine g_aloadN X3 hx (pc' := 7) rfl (hD hby d13_6) rfl rfl ?_
  refine g_getF X3 hx hZ hown (wat hw 21 rfl) Via.refl Fc (pc' := 10) rfl (hD hby d13_7) (fun T4 X4 => ?_)
  refine g_goto X4 hx (pc' := 14) (hD hby d13_10) (by decide) (by decide) ?_
  exact g_ret X4 hx hlk hret (by first | rfl | exact congrArg Value.int (nar_i2c _) | exact congrArg Value.int (nar_i2b _)) (Or.inl ⟨rfl, Or.inr (Or.inr (Or.inl rfl)), _, rfl⟩) (hD hby d13_14) (by decide) (by decide) (Nat.le_refl _) (⟨rfl, rfl⟩)
theorem rm35_0 (l : Launch) (Z : State) (a0 : Array Value) (hw : HW a0 Z) (ws : List Jvm.Cond) (n0 : Nat) (Ts : List String) (t : Addr) (cz : Int32) (h0 : Heap) (hn0 : n0 ≤ h0.size) (O2 : St0 Z (.int cz)) (hcz : ¬ cz = 0) (OLD : OldP Z n0 h0) (Fc : SC Z h0 t (.int 0)) :
    Con l Z n0 Ts (Ts) (⟨"java/lang/String", "isLatin1", "()Z"⟩ : MethodName) jdk_42_method_154_code 1 (some .boolean) ws ({ frames := 0, cells := 0, slots := 0, locals := 0 } : Room) #[(.ref t)] h0 (fun v h => v = some (.int 1) ∧ h = h0) := by
  refine con_start (fr0 := fun m => mkF m 0 #[.val (.ref t)] []) ?_
  intro p e s m below meth c T0 hx hZ hby hml hown hnm hret hlk hsh XA
  have X0 := XA n0
  have hlow : n0 ≤ s.heap.size := by rw [hsh]; exact hn0
  replace hown : s.vm.findClass "java/lang/String" = some m.cls := hown
  replace hml : c.maxLocals = 1 := hml
  refine g_getS X0 hx hZ hown (wat hw 84 rfl) Via.refl (Sta.ext OLD.2 O2) (pc' := 3) rfl (hD hby d35_0) (fun T5 X5 => ?_)
  refine g_ifN X5 hx (pcN := 6) (hD hby d35_3) rfl (show ¬ (cz = 0) from hcz) ?_
  refine g_aloadN X5 hx (pc' := 7) rfl (hD hby d35_6) rfl rfl ?_
  refine g_getF X5 hx hZ hown (wat hw 21 rfl) Via.refl Fc (pc' := 10) rfl (hD hby d35_7) (fun T6 X6 => ?_)
  refine g_ifN X6 hx (pcN := 13) (hD hby d35_10) rfl (show ¬ (¬ (0 : Int32) = 0) from by decide) ?_
  refine g_iconst X6 hx (pc' := 14) (z := (1 : Int32)) rfl (hD hby d35_13) rfl ?_
  refine g_goto X6 hx (pc' := 18) (hD hby d35_14) (by decide) (by decide) ?_
  exact g_retZ X6 hx hlk hret (by first | exact Or.inl rfl | exact Or.inr rfl) (hD hby d35_18) (by decide) (by decide) (Nat.le_refl _) (⟨rfl, rfl⟩)
theorem rm35_1 (l : Launch) (Z : State) (a0 : Array Value) (hw : HW a0 Z) (ws : List Jvm.Cond) (n0 : Nat) (Ts : List String) (t : Addr) (cz : Int32) (h0 : Heap) (hn0 : n0 ≤ h0.size) (O2 : St0 Z (.int cz)) (hcz : ¬ cz = 0) (OLD : OldP Z n0 h0) (Fc : SC Z h0 t (.int 1)) :
    Con l Z n0 Ts (Ts) (⟨"java/lang/String", "isLatin1", "()Z"⟩ : MethodName) jdk_42_method_154_code 1 (some .boolean) ws ({ frames := 0, cells := 0, slots := 0, locals := 0 } : Room) #[(.ref t)] h0 (fun v h => v = some (.int 0) ∧ h = h0) := by
  refine con_start (fr0 := fun m => mkF m 0 #[.val (.ref t)] []) ?_
  intro p e s m below meth c T0 hx hZ hby hml hown hnm hret hlk hsh XA
  have X0 := XA n0
  have hlow : n0 ≤ s.heap.size := by rw [hsh]; exact hn0
  replace hown : s.vm.findClass "java/lang/String" = some m.cls := hown
  replace hml : c.maxLocals = 1 := hml
  refine g_getS X0 hx hZ hown (wat hw 84 rfl) Via.refl (Sta.ext OLD.2 O2) (pc' := 3) rfl (hD hby d35_0) (fun T7 X7 => ?_)
  refine g_ifN X7 hx (pcN := 6) (hD hby d35_3) rfl (show ¬ (cz = 0) from hcz) ?_
  refine g_aloadN X7 hx (pc' := 7) rfl (hD hby d35_6) rfl rfl ?_
  refine g_getF X7 hx hZ hown (wat hw 21 rfl) Via.refl Fc (pc' := 10) rfl (hD hby d35_7) (fun T8 X8 => ?_)
  refine g_ifY X8 hx (pcY := 17) (hD hby d35_10) (by decide) (by decide) (show ¬ (1 : Int32) = 0 from by decide) ?_
  refine g_iconst X8 hx (pc' := 18) (z := (0 : Int32)) rfl (hD hby d35_17) rfl ?_
  exact g_retZ X8 hx hlk hret (by first | exact Or.inl rfl | exact Or.inr rfl) (hD hby d35_18) (by decide) (by decide) (Nat.le_refl _) (⟨rfl, rfl⟩)
theorem ar_shr0 (x : Int32) : x >>> ((0 : Int32) &&& 31) = x := by simp
theorem ar_shl0 (x : Int32) : x <<< ((0 : Int32) &&& 31) = x := by simp
theorem rm12 (l : Launch) (Z : State) (a0 : Array Value) (hw : HW a0 Z) (ws : List Jvm.Cond) (n0 : Nat) (Ts : List String) (t : Addr) (cs : List Int32) (n' m' : Int32) (cz : Int32) (h0 : Heap) (hn0 : n0 ≤ h0.size) (O2 : St0 Z (.int cz)) (hcz : ¬ cz = 0) (OLD : OldP Z n0 h0) (S0 : StrC Z h0 t cs) (hn : n'.toInt = (cs.length : Int)) (hM : m'.toInt = ((2 * cs.length : Nat) : Int)) (hs : m' >>> ((1 : Int32) &&& 31) = n') :
    Con l Z n0 Ts (Ts) (⟨"java/lang/String", "length", "()I"⟩ : MethodName) jdk_42_method_54_code 1 (some .int) ws ({ frames := 1, cells := 0, slots := 0, locals := 16 } : Room) #[(.ref t)] h0 (fun v h => v = some (.int n') ∧ h = h0) := by
  refine con_start (fr0 := fun m => mkF m 0 #[.val (.ref t)] []) ?_
  intro p e s m below meth c T0 hx hZ hby hml hown hnm hret hlk hsh XA
  have X0 := XA n0
  have hlow : n0 ≤ s.heap.size := by rw [hsh]; exact hn0
  replace hown : s.vm.findClass "java/lang/String" = some m.cls := hown
  replace hml : c.maxLocals = 1 := hml
  obtain ⟨Et, tb, Fv, S0⟩ := S0
  rcases S0 with ⟨Fc, Ab, hcs⟩ | ⟨Fc, Ab, hcs⟩
  · skip
    refine g_aloadN X0 hx (pc' := 1) rfl (hD hby d12_0) rfl rfl ?_
    refine g_getF X0 hx hZ hown (wat hw 20 rfl) Via.refl Fv (pc' := 4) rfl (hD hby d12_1) (fun T9 X9 => ?_)
    refine g_alen X9 hx hZ Ab (z := n') (by rw [L1_len]; exact hn) (pc' := 5) rfl (hD hby d12_4) ?_
    refine g_aloadN X9 hx (pc' := 6) rfl (hD hby d12_5) rfl rfl ?_
    refine g_callV X9 hx hZ hown (wat hw 79 rfl) (wat hw 80 rfl) (wat hw 82 rfl) (wat hw 81 rfl) (wat hw 2 rfl) (wat hw 83 rfl) (by decide) (a := t) Et (rm13_0 l Z a0 hw [] n0 (Ts) t cz h0 hn0 O2 hcz OLD Fc) pd_0 rfl rfl (pc' := 9) rfl (hD hby d12_6) (argsL := []) (rest := [(.int n')]) rfl (W := 1) (fun v10 T10 h10 X10 hQ10 => ?_)
    obtain ⟨rfl, he10⟩ := hQ10
    rw [he10] at X10
    show Go p e below s n0 _ _ _ (T10.setTop (mkF m 9 _ [(.int 0), (.int n')]))
    refine g_ishr X10 hx (pc' := 10) rfl (hD hby d12_9) ?_
    refine g_normI (z := n') (ar_shr0 _) ?_
    exact g_retI X10 hx hlk hret (hD hby d12_10) (by decide) (by decide) (Nat.le_refl _) (⟨rfl, rfl⟩)
  · skip
    refine g_aloadN X0 hx (pc' := 1) rfl (hD hby d12_0) rfl rfl ?_
    refine g_getF X0 hx hZ hown (wat hw 20 rfl) Via.refl Fv (pc' := 4) rfl (hD hby d12_1) (fun T11 X11 => ?_)
    refine g_alen X11 hx hZ Ab (z := m') (by rw [U16_len]; exact hM) (pc' := 5) rfl (hD hby d12_4) ?_
    refine g_aloadN X11 hx (pc' := 6) rfl (hD hby d12_5) rfl rfl ?_
    refine g_callV X11 hx hZ hown (wat hw 79 rfl) (wat hw 80 rfl) (wat hw 82 rfl) (wat hw 81 rfl) (wat hw 2 rfl) (wat hw 83 rfl) (by decide) (a := t) Et (rm13_1 l Z a0 hw [] n0 (Ts) t cz h0 hn0 O2 hcz OLD Fc) pd_0 rfl rfl (pc' := 9) rfl (hD hby d12_6) (argsL := []) (rest := [(.int m')]) rfl (W := 1) (fun v12 T12 h12 X12 hQ12 => ?_)
    obtain ⟨rfl, he12⟩ := hQ12
    rw [he12] at X12
    show Go p e below s n0 _ _ _ (T12.setTop (mkF m 9 _ [(.int 1), (.int m')]))
    refine g_ishr X12 hx (pc' := 10) rfl (hD hby d12_9) ?_
    refine g_normI (z := n') hs ?_
    exact g_retI X12 hx hlk hret (hD hby d12_10) (by decide) (by decide) (Nat.le_refl _) (⟨rfl, rfl⟩)
theorem rm38_r (l : Launch) (Z : State) (a0 : Array Value) (hw : HW a0 Z) (ws : List Jvm.Cond) (n0 : Nat) (Ts : List String) (i' k' : Int32) (fo' : Addr) (h0 : Heap) (hn0 : n0 ≤ h0.size) (hi0 : ¬ i' < 0) (hik : i' < k') :
    Con l Z n0 Ts (Ts) (⟨"jdk/internal/util/Preconditions", "checkIndex", "(IILjava/util/function/BiFunction;)I"⟩ : MethodName) jdk_41_method_11_code 3 (some .int) ws ({ frames := 0, cells := 0, slots := 0, locals := 0 } : Room) #[(.int i'), (.int k'), (.ref fo')] h0 (fun v h => v = some (.int i') ∧ h = h0) := by
  refine con_start (fr0 := fun m => mkF m 0 #[.val (.int i'), .val (.int k'), .val (.ref fo')] []) ?_
  intro p e s m below meth c T0 hx hZ hby hml hown hnm hret hlk hsh XA
  have X0 := XA n0
  have hlow : n0 ≤ s.heap.size := by rw [hsh]; exact hn0
  replace hown : s.vm.findClass "jdk/internal/util/Preconditions" = some m.cls := hown
  replace hml : c.maxLocals = 3 := hml
  refine g_iloadN X0 hx (pc' := 1) rfl (hD hby d38_0) rfl ?_
  refine g_ifN X0 hx (pcN := 4) (hD hby d38_1) rfl (show ¬ (i' < 0) from hi0) ?_
  refine g_iloadN X0 hx (pc' := 5) rfl (hD hby d38_4) rfl ?_
  refine g_iloadN X0 hx (pc' := 6) rfl (hD hby d38_5) rfl ?_
  refine g_icmpY X0 hx (pcY := 16) (hD hby d38_6) (by decide) (by decide) (show i' < k' from hik) ?_
  refine g_iloadN X0 hx (pc' := 17) rfl (hD hby d38_16) rfl ?_
  exact g_retI X0 hx hlk hret (hD hby d38_17) (by decide) (by decide) (Nat.le_refl _) (⟨rfl, rfl⟩)
theorem rm38_0 (l : Launch) (Z : State) (a0 : Array Value) (hw : HW a0 Z) (ws : List Jvm.Cond) (n0 : Nat) (Ts : List String) (i' k' : Int32) (fo' : Addr) (h0 : Heap) (hn0 : n0 ≤ h0.size) (hi0 : ¬ i' < 0) (hik : i' < k') :
    Con l Z n0 Ts (Ts) (⟨"jdk/internal/util/Preconditions", "checkIndex", "(IILjava/util/function/BiFunction;)I"⟩ : MethodName) jdk_41_method_11_code 3 (some .int) ws ({ frames := 0, cells := 0, slots := 0, locals := 0 } : Room) #[(.int i'), (.int k'), .null] h0 (fun v h => v = some (.int i') ∧ h = h0) := by
  refine con_start (fr0 := fun m => mkF m 0 #[.val (.int i'), .val (.int k'), .val .null] []) ?_
  intro p e s m below meth c T0 hx hZ hby hml hown hnm hret hlk hsh XA
  have X0 := XA n0
  have hlow : n0 ≤ s.heap.size := by rw [hsh]; exact hn0
  replace hown : s.vm.findClass "jdk/internal/util/Preconditions" = some m.cls := hown
  replace hml : c.maxLocals = 3 := hml
  refine g_iloadN X0 hx (pc' := 1) rfl (hD hby d38_0) rfl ?_
  refine g_ifN X0 hx (pcN := 4) (hD hby d38_1) rfl (show ¬ (i' < 0) from hi0) ?_
  refine g_iloadN X0 hx (pc' := 5) rfl (hD hby d38_4) rfl ?_
  refine g_iloadN X0 hx (pc' := 6) rfl (hD hby d38_5) rfl ?_
  refine g_icmpY X0 hx (pcY := 16) (hD hby d38_6) (by decide) (by decide) (show i' < k' from hik) ?_
  refine g_iloadN X0 hx (pc' := 17) rfl (hD hby d38_16) rfl ?_
  exact g_retI X0 hx hlk hret (hD hby d38_17) (by decide) (by decide) (Nat.le_refl _) (⟨rfl, rfl⟩)
theorem rm37 (l : Launch) (Z : State) (a0 : Array Value) (hw : HW a0 Z) (ws : List Jvm.Cond) (n0 : Nat) (Ts : List String) (i' k' : Int32) (fo : Value) (h0 : Heap) (hn0 : n0 ≤ h0.size) (O4 : St1 Z fo) (hfo : fo.isRef = true) (OLD : OldP Z n0 h0) (hi0 : ¬ i' < 0) (hik : i' < k') :
    Con l Z n0 Ts (Ts) (⟨"java/lang/String", "checkIndex", "(II)V"⟩ : MethodName) jdk_42_method_155_code 2 none ws ({ frames := 1, cells := 0, slots := 0, locals := 16 } : Room) #[(.int i'), (.int k')] h0 (fun v h => v = none ∧ h = h0) := by
  refine con_start (fr0 := fun m => mkF m 0 #[.val (.int i'), .val (.int k')] []) ?_
  intro p e s m below meth c T0 hx hZ hby hml hown hnm hret hlk hsh XA
  have X0 := XA n0
  have hlow : n0 ≤ s.heap.size := by rw [hsh]; exact hn0
  replace hown : s.vm.findClass "java/lang/String" = some m.cls := hown
  replace hml : c.maxLocals = 2 := hml
  rcases ref_cases hfo with rfl | ⟨fo', rfl⟩
  · skip
    refine g_iloadN X0 hx (pc' := 1) rfl (hD hby d37_0) rfl ?_
    refine g_iloadN X0 hx (pc' := 2) rfl (hD hby d37_1) rfl ?_
    refine g_getS X0 hx hZ hown (wat hw 215 rfl) Via.refl (Sta.ext OLD.2 O4) (pc' := 5) rfl (hD hby d37_2) (fun T13 X13 => ?_)
    refine g_callS X13 hx hZ hown (wat hw 217 rfl) (wat hw 218 rfl) (wat hw 216 rfl) (wat hw 219 rfl) (by decide) (rm38_0 l Z a0 hw [] n0 (Ts) i' k' 0 h0 hn0 hi0 hik) pd_1 rfl rfl (pc' := 8) rfl (hD hby d37_5) (argsL := [(.int i'), (.int k'), .null]) (rest := []) rfl (W := 0) (fun v14 T14 h14 X14 hQ14 => ?_)
    obtain ⟨rfl, he14⟩ := hQ14
    rw [he14] at X14
    show Go p e below s n0 _ _ _ (T14.setTop (mkF m 8 _ [(.int i')]))
    refine g_pop X14 hx (pc' := 9) rfl (hD hby d37_8) rfl ?_
    exact g_retV X14 hx hlk hret (hD hby d37_9) (by decide) (by decide) (Nat.le_refl _) (⟨rfl, rfl⟩)
  · skip
    refine g_iloadN X0 hx (pc' := 1) rfl (hD hby d37_0) rfl ?_
    refine g_iloadN X0 hx (pc' := 2) rfl (hD hby d37_1) rfl ?_
    refine g_getS X0 hx hZ hown (wat hw 215 rfl) Via.refl (Sta.ext OLD.2 O4) (pc' := 5) rfl (hD hby d37_2) (fun T15 X15 => ?_)
    refine g_callS X15 hx hZ hown (wat hw 217 rfl) (wat hw 218 rfl) (wat hw 216 rfl) (wat hw 219 rfl) (by decide) (rm38_r l Z a0 hw [] n0 (Ts) i' k' fo' h0 hn0 hi0 hik) pd_1 rfl rfl (pc' := 8) rfl (hD hby d37_5) (argsL := [(.int i'), (.int k'), (.ref fo')]) (rest := []) rfl (W := 0) (fun v16 T16 h16 X16 hQ16 => ?_)
    obtain ⟨rfl, he16⟩ := hQ16
    rw [he16] at X16
    show Go p e below s n0 _ _ _ (T16.setTop (mkF m 8 _ [(.int i')]))
    refine g_pop X16 hx (pc' := 9) rfl (hD hby d37_8) rfl ?_
    exact g_retV X16 hx hlk hret (hD hby d37_9) (by decide) (by decide) (Nat.le_refl _) (⟨rfl, rfl⟩)
theorem rm52 (l : Launch) (Z : State) (a0 : Array Value) (hw : HW a0 Z) (ws : List Jvm.Cond) (n0 : Nat) (Ts : List String) (tb : Addr) (xs : List Value) (n' m' : Int32) (h0 : Heap) (hn0 : n0 ≤ h0.size) (Ab : AV Z h0 tb .byte xs) (hM : m'.toInt = (xs.length : Int)) (hs : m' >>> ((1 : Int32) &&& 31) = n') :
    Con l Z n0 Ts (Ts) (⟨"java/lang/StringUTF16", "length", "([B)I"⟩ : MethodName) jdk_52_method_6_code 1 (some .int) ws ({ frames := 0, cells := 0, slots := 0, locals := 0 } : Room) #[(.ref tb)] h0 (fun v h => v = some (.int n') ∧ h = h0) := by
  refine con_start (fr0 := fun m => mkF m 0 #[.val (.ref tb)] []) ?_
  intro p e s m below meth c T0 hx hZ hby hml hown hnm hret hlk hsh XA
  have X0 := XA n0
  have hlow : n0 ≤ s.heap.size := by rw [hsh]; exact hn0
  replace hown : s.vm.findClass "java/lang/StringUTF16" = some m.cls := hown
  replace hml : c.maxLocals = 1 := hml
  refine g_aloadN X0 hx (pc' := 1) rfl (hD hby d52_0) rfl rfl ?_
  refine g_alen X0 hx hZ Ab (z := m') hM (pc' := 2) rfl (hD hby d52_1) ?_
  refine g_iconst X0 hx (pc' := 3) (z := (1 : Int32)) rfl (hD hby d52_2) rfl ?_
  refine g_ishr X0 hx (pc' := 4) rfl (hD hby d52_3) ?_
  refine g_normI (z := n') hs ?_
  exact g_retI X0 hx hlk hret (hD hby d52_4) (by decide) (by decide) (Nat.le_refl _) (⟨rfl, rfl⟩)
theorem rm56 (l : Launch) (Z : State) (a0 : Array Value) (hw : HW a0 Z) (ws : List Jvm.Cond) (n0 : Nat) (Ts : List String) (tb : Addr) (xs : List Value) (i' n' m' : Int32) (fo : Value) (h0 : Heap) (hn0 : n0 ≤ h0.size) (O4 : St1 Z fo) (hfo : fo.isRef = true) (OLD : OldP Z n0 h0) (Ab : AV Z h0 tb .byte xs) (hM : m'.toInt = (xs.length : Int)) (hs : m' >>> ((1 : Int32) &&& 31) = n') (hi0 : ¬ i' < 0) (hik : i' < n') :
    Con l Z n0 Ts (Ts) (⟨"java/lang/StringUTF16", "checkIndex", "(I[B)V"⟩ : MethodName) jdk_52_method_91_code 2 none ws ({ frames := 2, cells := 0, slots := 0, locals := 40 } : Room) #[(.int i'), (.ref tb)] h0 (fun v h => v = none ∧ h = h0) := by
  refine con_start (fr0 := fun m => mkF m 0 #[.val (.int i'), .val (.ref tb)] []) ?_
  intro p e s m below meth c T0 hx hZ hby hml hown hnm hret hlk hsh XA
  have X0 := XA n0
  have hlow : n0 ≤ s.heap.size := by rw [hsh]; exact hn0
  replace hown : s.vm.findClass "java/lang/StringUTF16" = some m.cls := hown
  replace hml : c.maxLocals = 2 := hml
  refine g_iloadN X0 hx (pc' := 1) rfl (hD hby d56_0) rfl ?_
  refine g_aloadN X0 hx (pc' := 2) rfl (hD hby d56_1) rfl rfl ?_
  refine g_callS X0 hx hZ hown (wat hw 268 rfl) (wat hw 269 rfl) (wat hw 225 rfl) (wat hw 270 rfl) (by decide) (rm52 l Z a0 hw [] n0 (Ts) tb xs n' m' h0 hn0 Ab hM hs) pd_2 rfl rfl (pc' := 5) rfl (hD hby d56_2) (argsL := [(.ref tb)]) (rest := [(.int i')]) rfl (W := 1) (fun v17 T17 h17 X17 hQ17 => ?_)
  obtain ⟨rfl, he17⟩ := hQ17
  rw [he17] at X17
  show Go p e below s n0 _ _ _ (T17.setTop (mkF m 5 _ [(.int n'), (.int i')]))
  refine g_callS X17 hx hZ hown (wat hw 286 rfl) (wat hw 213 rfl) (wat hw 2 rfl) (wat hw 214 rfl) (by decide) (rm37 l Z a0 hw [] n0 (Ts) i' n' fo h0 hn0 O4 hfo OLD hi0 hik) pd_3 rfl rfl (pc' := 8) rfl (hD hby d56_5) (argsL := [(.int i'), (.int n')]) (rest := []) rfl (W := 0) (fun v18 T18 h18 X18 hQ18 => ?_)
  obtain ⟨rfl, he18⟩ := hQ18
  rw [he18] at X18
  show Go p e below s n0 _ _ _ (T18.setTop (mkF m 8 _ []))
  exact g_retV X18 hx hlk hret (hD hby d56_8) (by decide) (by decide) (Nat.le_refl _) (⟨rfl, rfl⟩)
theorem ar_shl1 {x : Int32} {i : Nat} (h : x.toInt = (i : Int)) (hb : i < 512) : (x <<< ((1 : Int32) &&& 31)).toInt = ((2 * i : Nat) : Int) := by
  have all : ∀ k : Fin 512, (Int32.ofNat k.val <<< ((1 : Int32) &&& 31)) = Int32.ofNat (2 * k.val) := by decide +kernel
  have e : x = Int32.ofNat i := by have q := ar_id (a := x) (by omega); rw [h] at q; exact q
  rw [e, all ⟨i, hb⟩, ar_of (by show 2 * i < _; omega)]
theorem ar_add1 {x : Int32} {i : Nat} (h : x.toInt = (i : Int)) (hb : i < 1000) : (x + (1 : Int32)).toInt = ((i + 1 : Nat) : Int) := by
  have e : (1 : Int32).toInt = 1 := rfl
  rw [ar_add (by omega) (by omega)]; omega
theorem own_eqc {a : Int32} (h : 0 ≤ a.toInt ∧ a.toInt ≤ 255) : ((a.toInt8.toInt32 &&& (255 : Int32))).toUInt32.toUInt16.toUInt32.toInt32 = a := by
  rw [ar_b h.1 h.2]; exact ar_i2c h.1 (by omega)
theorem rm47 (l : Launch) (Z : State) (a0 : Array Value) (hw : HW a0 Z) (ws : List Jvm.Cond) (n0 : Nat) (Ts : List String) (tb : Addr) (cs : List Int32) (i' : Int32) (i : Nat) (h0 : Heap) (hn0 : n0 ≤ h0.size) (U1 : St2 Z (.int 1)) (U2 : St3 Z (.int 0)) (U3 : St4 Z (.int 8)) (OLD : OldP Z n0 h0) (Ab : AV Z h0 tb .byte (U16 cs)) (hcs : ∀ c ∈ cs, 0 ≤ c.toInt ∧ c.toInt < 65536) (hi : i'.toInt = (i : Int)) (hlt : i < cs.length) (hb : cs.length < 500) :
    Con l Z n0 Ts (Ts) (⟨"java/lang/StringUTF16", "getChar", "([BI)C"⟩ : MethodName) jdk_52_method_5_code 2 (some .char) ws ({ frames := 0, cells := 0, slots := 0, locals := 0 } : Room) #[(.ref tb), (.int i')] h0 (fun v h => v = some (.int (cs.getD i 0)) ∧ h = h0) := by
  refine con_start (fr0 := fun m => mkF m 0 #[.val (.ref tb), .val (.int i')] []) ?_
  intro p e s m below meth c T0 hx hZ hby hml hown hnm hret hlk hsh XA
  have X0 := XA n0
  have hlow : n0 ≤ s.heap.size := by rw [hsh]; exact hn0
  replace hown : s.vm.findClass "java/lang/StringUTF16" = some m.cls := hown
  replace hml : c.maxLocals = 2 := hml
  refine g_getS X0 hx hZ hown (wat hw 246 rfl) Via.refl (Sta.ext OLD.2 U1) (pc' := 3) rfl (hD hby d47_0) (fun T19 X19 => ?_)
  refine g_ifY X19 hx (pcY := 28) (hD hby d47_3) (by decide) (by decide) (show ¬ (1 : Int32) = 0 from by decide) ?_
  refine g_iloadN X19 hx (pc' := 29) rfl (hD hby d47_28) rfl ?_
  refine g_iconst X19 hx (pc' := 30) (z := (1 : Int32)) rfl (hD hby d47_29) rfl ?_
  refine g_ishl X19 hx (pc' := 31) rfl (hD hby d47_30) ?_
  refine g_absI (fun k' hk' => ?_)
  have gk : k'.toInt = ((2 * i : Nat) : Int) := by rw [hk']; exact ar_shl1 hi (by omega)
  refine g_istoreN X19 hx (pc' := 32) rfl (hD hby d47_31) (l' := #[.val (.ref tb), .val (.int k')]) rfl ?_
  refine g_aloadN X19 hx (pc' := 33) rfl (hD hby d47_32) rfl rfl ?_
  refine g_iloadN X19 hx (pc' := 34) rfl (hD hby d47_33) rfl ?_
  refine g_iinc X19 hx (pc' := 37) (x := k') rfl (hD hby d47_34) rfl (l' := #[.val (.ref tb), .val (.int (k' + (1 : Int32)))]) rfl ?_
  refine g_baload X19 hx hZ Ab (i := 2 * i) gk (by rw [U16_len]; omega) (x := ((cs.getD i 0) >>> ((0 : Int32) &&& 31)).toInt8.toInt32) (U16_get hlt).1 (pc' := 38) rfl (hD hby d47_37) ?_
  refine g_sipush X19 hx (pc' := 41) (z := (255 : Int32)) rfl (hD hby d47_38) rfl ?_
  refine g_iand X19 hx (pc' := 42) rfl (hD hby d47_41) ?_
  refine g_getS X19 hx hZ hown (wat hw 247 rfl) Via.refl (Sta.ext OLD.2 U2) (pc' := 45) rfl (hD hby d47_42) (fun T20 X20 => ?_)
  refine g_ishl X20 hx (pc' := 46) rfl (hD hby d47_45) ?_
  refine g_aloadN X20 hx (pc' := 47) rfl (hD hby d47_46) rfl rfl ?_
  refine g_iloadN X20 hx (pc' := 48) rfl (hD hby d47_47) rfl ?_
  refine g_baload X20 hx hZ Ab (i := 2 * i + 1) (ar_add1 gk (by omega)) (by rw [U16_len]; omega) (x := ((cs.getD i 0) >>> ((8 : Int32) &&& 31)).toInt8.toInt32) (U16_get hlt).2 (pc' := 49) rfl (hD hby d47_48) ?_
  refine g_sipush X20 hx (pc' := 52) (z := (255 : Int32)) rfl (hD hby d47_49) rfl ?_
  refine g_iand X20 hx (pc' := 53) rfl (hD hby d47_52) ?_
  refine g_getS X20 hx hZ hown (wat hw 248 rfl) Via.refl (Sta.ext OLD.2 U3) (pc' := 56) rfl (hD hby d47_53) (fun T21 X21 => ?_)
  refine g_ishl X21 hx (pc' := 57) rfl (hD hby d47_56) ?_
  refine g_ior X21 hx (pc' := 58) rfl (hD hby d47_57) ?_
  refine g_i2c X21 hx (pc' := 59) rfl (hD hby d47_58) ?_
  refine g_normI (z := cs.getD i 0) (ar_pair (hcs _ (mem_getD hlt)).1 (hcs _ (mem_getD hlt)).2) ?_
  exact g_ret X21 hx hlk hret (congrArg Value.int (nar_chr (hcs _ (mem_getD hlt)))) (Or.inl ⟨rfl, Or.inr (Or.inr (Or.inr (Or.inl rfl))), _, rfl⟩) (hD hby d47_59) (by decide) (by decide) (Nat.le_refl _) (⟨rfl, rfl⟩)
theorem rm46 (l : Launch) (Z : State) (a0 : Array Value) (hw : HW a0 Z) (ws : List Jvm.Cond) (n0 : Nat) (Ts : List String) (va : Addr) (vs : List Value) (i' c' : Int32) (i : Nat) (h0 : Heap) (hn0 : n0 ≤ h0.size) (U1 : St2 Z (.int 1)) (U2 : St3 Z (.int 0)) (U3 : St4 Z (.int 8)) (OLD : OldP Z n0 h0) (Av : AV Z h0 va .byte vs) (hgv : n0 ≤ va) (hi : i'.toInt = (i : Int)) (hlt : 2 * i + 1 < vs.length) (hb : i < 500) :
    Con l Z n0 Ts (Ts) (⟨"java/lang/StringUTF16", "putChar", "([BII)V"⟩ : MethodName) jdk_52_method_4_code 3 none ws ({ frames := 0, cells := 0, slots := 0, locals := 0 } : Room) #[(.ref va), (.int i'), (.int c')] h0 (fun v h => v = none ∧ Keep h0 h [va] ∧ AV Z h va .byte ((vs.set (2 * i) (.int (c' >>> ((0 : Int32) &&& 31)).toInt8.toInt32)).set (2 * i + 1) (.int (c' >>> ((8 : Int32) &&& 31)).toInt8.toInt32))) := by
  refine con_start (fr0 := fun m => mkF m 0 #[.val (.ref va), .val (.int i'), .val (.int c')] []) ?_
  intro p e s m below meth c T0 hx hZ hby hml hown hnm hret hlk hsh XA
  have X0 := XA n0
  have hlow : n0 ≤ s.heap.size := by rw [hsh]; exact hn0
  replace hown : s.vm.findClass "java/lang/StringUTF16" = some m.cls := hown
  replace hml : c.maxLocals = 3 := hml
  refine g_getS X0 hx hZ hown (wat hw 246 rfl) Via.refl (Sta.ext OLD.2 U1) (pc' := 3) rfl (hD hby d46_0) (fun T22 X22 => ?_)
  refine g_ifY X22 hx (pcY := 28) (hD hby d46_3) (by decide) (by decide) (show ¬ (1 : Int32) = 0 from by decide) ?_
  refine g_iloadN X22 hx (pc' := 29) rfl (hD hby d46_28) rfl ?_
  refine g_iconst X22 hx (pc' := 30) (z := (1 : Int32)) rfl (hD hby d46_29) rfl ?_
  refine g_ishl X22 hx (pc' := 31) rfl (hD hby d46_30) ?_
  refine g_absI (fun k' hk' => ?_)
  have gk : k'.toInt = ((2 * i : Nat) : Int) := by rw [hk']; exact ar_shl1 hi (by omega)
  refine g_istoreN X22 hx (pc' := 32) rfl (hD hby d46_31) (l' := #[.val (.ref va), .val (.int k'), .val (.int c')]) rfl ?_
  refine g_aloadN X22 hx (pc' := 33) rfl (hD hby d46_32) rfl rfl ?_
  refine g_iloadN X22 hx (pc' := 34) rfl (hD hby d46_33) rfl ?_
  refine g_iinc X22 hx (pc' := 37) (x := k') rfl (hD hby d46_34) rfl (l' := #[.val (.ref va), .val (.int (k' + (1 : Int32))), .val (.int c')]) rfl ?_
  refine g_iloadN X22 hx (pc' := 38) rfl (hD hby d46_37) rfl ?_
  refine g_getS X22 hx hZ hown (wat hw 247 rfl) Via.refl (Sta.ext OLD.2 U2) (pc' := 41) rfl (hD hby d46_38) (fun T23 X23 => ?_)
  refine g_ishr X23 hx (pc' := 42) rfl (hD hby d46_41) ?_
  refine g_i2b X23 hx (pc' := 43) rfl (hD hby d46_42) ?_
  refine g_bastore X23 hx hZ Av (i := 2 * i) gk (by omega) hgv (y := (c' >>> ((0 : Int32) &&& 31)).toInt8.toInt32) (nar_i2b _) (pc' := 44) rfl (hD hby d46_43) (fun T24 h24 X24 W24 N24 => ?_)
  have f25 := (by have q := (Keep.of_wr W24).1; exact Nat.le_trans hn0 q : n0 ≤ h24.size)
  have f26 := (Keep.refl h0 [va]).wr W24 (Or.inl (List.mem_of_getElem? (i := 0) rfl))
  have f27 := OLD.wr W24 hgv
  have V24 : AV Z h24 va .byte (vs.set (2 * i) (.int (c' >>> ((0 : Int32) &&& 31)).toInt8.toInt32)) := N24
  refine g_aloadN X24 hx (pc' := 45) rfl (hD hby d46_44) rfl rfl ?_
  refine g_iloadN X24 hx (pc' := 46) rfl (hD hby d46_45) rfl ?_
  refine g_iloadN X24 hx (pc' := 47) rfl (hD hby d46_46) rfl ?_
  refine g_getS X24 hx hZ hown (wat hw 248 rfl) Via.refl (Sta.ext f27.2 U3) (pc' := 50) rfl (hD hby d46_47) (fun T28 X28 => ?_)
  refine g_ishr X28 hx (pc' := 51) rfl (hD hby d46_50) ?_
  refine g_i2b X28 hx (pc' := 52) rfl (hD hby d46_51) ?_
  refine g_bastore X28 hx hZ V24 (i := 2 * i + 1) (ar_add1 gk (by omega)) (by rw [List.length_set]; omega) hgv (y := (c' >>> ((8 : Int32) &&& 31)).toInt8.toInt32) (nar_i2b _) (pc' := 53) rfl (hD hby d46_52) (fun T29 h29 X29 W29 N29 => ?_)
  have f30 := (by have q := (Keep.of_wr W29).1; exact Nat.le_trans f25 q : n0 ≤ h29.size)
  have f31 := f26.wr W29 (Or.inl (List.mem_of_getElem? (i := 0) rfl))
  have f32 := f27.wr W29 hgv
  have V29 : AV Z h29 va .byte ((vs.set (2 * i) (.int (c' >>> ((0 : Int32) &&& 31)).toInt8.toInt32)).set (2 * i + 1) (.int (c' >>> ((8 : Int32) &&& 31)).toInt8.toInt32)) := N29
  exact g_retV X29 hx hlk hret (hD hby d46_53) (by decide) (by decide) (Nat.le_refl _) (⟨rfl, f31, V29⟩)
theorem own_ix {i' n' : Int32} {i : Nat} {cs : List Int32} (hi : i'.toInt = (i : Int)) (hlt : i < cs.length) (hn : n'.toInt = (cs.length : Int)) : ¬ i' < 0 ∧ i' < n' := by
  refine ⟨(own_idx hi).2, ?_⟩
  rw [Int32.lt_iff_toInt_lt]; omega
theorem rm55 (l : Launch) (Z : State) (a0 : Array Value) (hw : HW a0 Z) (ws : List Jvm.Cond) (n0 : Nat) (Ts : List String) (tb : Addr) (cs : List Int32) (i' n' m' : Int32) (i : Nat) (fo : Value) (h0 : Heap) (hn0 : n0 ≤ h0.size) (O4 : St1 Z fo) (hfo : fo.isRef = true) (U1 : St2 Z (.int 1)) (U2 : St3 Z (.int 0)) (U3 : St4 Z (.int 8)) (OLD : OldP Z n0 h0) (Ab : AV Z h0 tb .byte (U16 cs)) (hcs : ∀ c ∈ cs, 0 ≤ c.toInt ∧ c.toInt < 65536) (hi : i'.toInt = (i : Int)) (hlt : i < cs.length) (hb : cs.length < 500) (hn : n'.toInt = (cs.length : Int)) (hM : m'.toInt = ((2 * cs.length : Nat) : Int)) (hs : m' >>> ((1 : Int32) &&& 31) = n') :
    Con l Z n0 Ts (Ts) (⟨"java/lang/StringUTF16", "charAt", "([BI)C"⟩ : MethodName) jdk_52_method_83_code 2 (some .char) ws ({ frames := 3, cells := 0, slots := 0, locals := 64 } : Room) #[(.ref tb), (.int i')] h0 (fun v h => v = some (.int (cs.getD i 0)) ∧ h = h0) := by
  refine con_start (fr0 := fun m => mkF m 0 #[.val (.ref tb), .val (.int i')] []) ?_
  intro p e s m below meth c T0 hx hZ hby hml hown hnm hret hlk hsh XA
  have X0 := XA n0
  have hlow : n0 ≤ s.heap.size := by rw [hsh]; exact hn0
  replace hown : s.vm.findClass "java/lang/StringUTF16" = some m.cls := hown
  replace hml : c.maxLocals = 2 := hml
  refine g_iloadN X0 hx (pc' := 1) rfl (hD hby d55_0) rfl ?_
  refine g_aloadN X0 hx (pc' := 2) rfl (hD hby d55_1) rfl rfl ?_
  refine g_callS X0 hx hZ hown (wat hw 283 rfl) (wat hw 284 rfl) (wat hw 225 rfl) (wat hw 285 rfl) (by decide) (rm56 l Z a0 hw [] n0 (Ts) tb (U16 cs) i' n' m' fo h0 hn0 O4 hfo OLD Ab (by rw [U16_len]; exact hM) hs (own_ix hi hlt hn).1 (own_ix hi hlt hn).2) pd_4 rfl rfl (pc' := 5) rfl (hD hby d55_2) (argsL := [(.int i'), (.ref tb)]) (rest := []) rfl (W := 0) (fun v33 T33 h33 X33 hQ33 => ?_)
  obtain ⟨rfl, he33⟩ := hQ33
  rw [he33] at X33
  show Go p e below s n0 _ _ _ (T33.setTop (mkF m 5 _ []))
  refine g_aloadN X33 hx (pc' := 6) rfl (hD hby d55_5) rfl rfl ?_
  refine g_iloadN X33 hx (pc' := 7) rfl (hD hby d55_6) rfl ?_
  refine g_callS X33 hx hZ hown (wat hw 249 rfl) (wat hw 250 rfl) (wat hw 225 rfl) (wat hw 251 rfl) (by decide) (rm47 l Z a0 hw [] n0 (Ts) tb cs i' i h0 hn0 U1 U2 U3 OLD Ab hcs hi hlt hb) pd_5 rfl rfl (pc' := 10) rfl (hD hby d55_7) (argsL := [(.ref tb), (.int i')]) (rest := []) rfl (W := 0) (fun v34 T34 h34 X34 hQ34 => ?_)
  obtain ⟨rfl, he34⟩ := hQ34
  rw [he34] at X34
  show Go p e below s n0 _ _ _ (T34.setTop (mkF m 10 _ [(.int (cs.getD i 0))]))
  exact g_ret X34 hx hlk hret (congrArg Value.int (nar_chr (hcs _ (mem_getD hlt)))) (Or.inl ⟨rfl, Or.inr (Or.inr (Or.inr (Or.inl rfl))), _, rfl⟩) (hD hby d55_10) (by decide) (by decide) (Nat.le_refl _) (⟨rfl, rfl⟩)
theorem rm36 (l : Launch) (Z : State) (a0 : Array Value) (hw : HW a0 Z) (ws : List Jvm.Cond) (n0 : Nat) (Ts : List String) (tb : Addr) (cs : List Int32) (i' n' m' : Int32) (i : Nat) (fo : Value) (h0 : Heap) (hn0 : n0 ≤ h0.size) (O4 : St1 Z fo) (hfo : fo.isRef = true) (OLD : OldP Z n0 h0) (Ab : AV Z h0 tb .byte (L1 cs)) (hcs : ∀ c ∈ cs, 0 ≤ c.toInt ∧ c.toInt ≤ 255) (hi : i'.toInt = (i : Int)) (hlt : i < cs.length) (hb : cs.length < 500) (hn : n'.toInt = (cs.length : Int)) (hM : m'.toInt = ((2 * cs.length : Nat) : Int)) (hs : m' >>> ((1 : Int32) &&& 31) = n') :
    Con l Z n0 Ts (Ts) (⟨"java/lang/StringLatin1", "charAt", "([BI)C"⟩ : MethodName) jdk_43_method_2_code 2 (some .char) ws ({ frames := 2, cells := 0, slots := 0, locals := 40 } : Room) #[(.ref tb), (.int i')] h0 (fun v h => v = some (.int (cs.getD i 0)) ∧ h = h0) := by
  refine con_start (fr0 := fun m => mkF m 0 #[.val (.ref tb), .val (.int i')] []) ?_
  intro p e s m below meth c T0 hx hZ hby hml hown hnm hret hlk hsh XA
  have X0 := XA n0
  have hlow : n0 ≤ s.heap.size := by rw [hsh]; exact hn0
  replace hown : s.vm.findClass "java/lang/StringLatin1" = some m.cls := hown
  replace hml : c.maxLocals = 2 := hml
  refine g_iloadN X0 hx (pc' := 1) rfl (hD hby d36_0) rfl ?_
  refine g_aloadN X0 hx (pc' := 2) rfl (hD hby d36_1) rfl rfl ?_
  refine g_alen X0 hx hZ Ab (z := n') (by rw [L1_len]; exact hn) (pc' := 3) rfl (hD hby d36_2) ?_
  refine g_callS X0 hx hZ hown (wat hw 212 rfl) (wat hw 213 rfl) (wat hw 2 rfl) (wat hw 214 rfl) (by decide) (rm37 l Z a0 hw [] n0 (Ts) i' n' fo h0 hn0 O4 hfo OLD (own_ix hi hlt hn).1 (own_ix hi hlt hn).2) pd_3 rfl rfl (pc' := 6) rfl (hD hby d36_3) (argsL := [(.int i'), (.int n')]) (rest := []) rfl (W := 0) (fun v35 T35 h35 X35 hQ35 => ?_)
  obtain ⟨rfl, he35⟩ := hQ35
  rw [he35] at X35
  show Go p e below s n0 _ _ _ (T35.setTop (mkF m 6 _ []))
  refine g_aloadN X35 hx (pc' := 7) rfl (hD hby d36_6) rfl rfl ?_
  refine g_iloadN X35 hx (pc' := 8) rfl (hD hby d36_7) rfl ?_
  refine g_baload X35 hx hZ Ab (i := i) hi (by rw [L1_len]; exact hlt) (x := (cs.getD i 0).toInt8.toInt32) (L1_get hlt) (pc' := 9) rfl (hD hby d36_8) ?_
  refine g_sipush X35 hx (pc' := 12) (z := (255 : Int32)) rfl (hD hby d36_9) rfl ?_
  refine g_iand X35 hx (pc' := 13) rfl (hD hby d36_12) ?_
  refine g_i2c X35 hx (pc' := 14) rfl (hD hby d36_13) ?_
  refine g_normI (z := cs.getD i 0) (own_eqc (hcs _ (mem_getD hlt))) ?_
  exact g_ret X35 hx hlk hret (congrArg Value.int (nar_chr (by have q := hcs _ (mem_getD hlt); omega))) (Or.inl ⟨rfl, Or.inr (Or.inr (Or.inr (Or.inl rfl))), _, rfl⟩) (hD hby d36_14) (by decide) (by decide) (Nat.le_refl _) (⟨rfl, rfl⟩)
theorem rm34 (l : Launch) (Z : State) (a0 : Array Value) (hw : HW a0 Z) (ws : List Jvm.Cond) (n0 : Nat) (Ts : List String) (t : Addr) (cs : List Int32) (i' n' m' : Int32) (i : Nat) (fo : Value) (cz : Int32) (h0 : Heap) (hn0 : n0 ≤ h0.size) (O4 : St1 Z fo) (hfo : fo.isRef = true) (U1 : St2 Z (.int 1)) (U2 : St3 Z (.int 0)) (U3 : St4 Z (.int 8)) (O2 : St0 Z (.int cz)) (hcz : ¬ cz = 0) (OLD : OldP Z n0 h0) (S0 : StrC Z h0 t cs) (hi : i'.toInt = (i : Int)) (hlt : i < cs.length) (hb : cs.length < 500) (hn : n'.toInt = (cs.length : Int)) (hM : m'.toInt = ((2 * cs.length : Nat) : Int)) (hs : m' >>> ((1 : Int32) &&& 31) = n') :
    Con l Z n0 Ts (Ts) (⟨"java/lang/String", "charAt", "(I)C"⟩ : MethodName) jdk_42_method_56_code 2 (some .char) ws ({ frames := 4, cells := 0, slots := 0, locals := 88 } : Room) #[(.ref t), (.int i')] h0 (fun v h => v = some (.int (cs.getD i 0)) ∧ h = h0) := by
  refine con_start (fr0 := fun m => mkF m 0 #[.val (.ref t), .val (.int i')] []) ?_
  intro p e s m below meth c T0 hx hZ hby hml hown hnm hret hlk hsh XA
  have X0 := XA n0
  have hlow : n0 ≤ s.heap.size := by rw [hsh]; exact hn0
  replace hown : s.vm.findClass "java/lang/String" = some m.cls := hown
  replace hml : c.maxLocals = 2 := hml
  obtain ⟨Et, tb, Fv, S0⟩ := S0
  rcases S0 with ⟨Fc, Ab, hcs⟩ | ⟨Fc, Ab, hcs⟩
  · skip
    refine g_aloadN X0 hx (pc' := 1) rfl (hD hby d34_0) rfl rfl ?_
    refine g_callV X0 hx hZ hown (wat hw 203 rfl) (wat hw 204 rfl) (wat hw 206 rfl) (wat hw 205 rfl) (wat hw 2 rfl) (wat hw 207 rfl) (by decide) (a := t) Et (rm35_0 l Z a0 hw [] n0 (Ts) t cz h0 hn0 O2 hcz OLD Fc) pd_6 rfl rfl (pc' := 4) rfl (hD hby d34_1) (argsL := []) (rest := []) rfl (W := 0) (fun v36 T36 h36 X36 hQ36 => ?_)
    obtain ⟨rfl, he36⟩ := hQ36
    rw [he36] at X36
    show Go p e below s n0 _ _ _ (T36.setTop (mkF m 4 _ [(.int 1)]))
    refine g_ifN X36 hx (pcN := 7) (hD hby d34_4) rfl (show ¬ ((1 : Int32) = 0) from by decide) ?_
    refine g_aloadN X36 hx (pc' := 8) rfl (hD hby d34_7) rfl rfl ?_
    refine g_getF X36 hx hZ hown (wat hw 20 rfl) Via.refl Fv (pc' := 11) rfl (hD hby d34_8) (fun T37 X37 => ?_)
    refine g_iloadN X37 hx (pc' := 12) rfl (hD hby d34_11) rfl ?_
    refine g_callS X37 hx hZ hown (wat hw 208 rfl) (wat hw 209 rfl) (wat hw 210 rfl) (wat hw 211 rfl) (by decide) (rm36 l Z a0 hw [] n0 (Ts) tb cs i' n' m' i fo h0 hn0 O4 hfo OLD Ab hcs hi hlt hb hn hM hs) pd_5 rfl rfl (pc' := 15) rfl (hD hby d34_12) (argsL := [(.ref tb), (.int i')]) (rest := []) rfl (W := 0) (fun v38 T38 h38 X38 hQ38 => ?_)
    obtain ⟨rfl, he38⟩ := hQ38
    rw [he38] at X38
    show Go p e below s n0 _ _ _ (T38.setTop (mkF m 15 _ [(.int (cs.getD i 0))]))
    exact g_ret X38 hx hlk hret (congrArg Value.int (nar_chr (by have q := hcs _ (mem_getD hlt); omega))) (Or.inl ⟨rfl, Or.inr (Or.inr (Or.inr (Or.inl rfl))), _, rfl⟩) (hD hby d34_15) (by decide) (by decide) (Nat.le_refl _) (⟨rfl, rfl⟩)
  · skip
    refine g_aloadN X0 hx (pc' := 1) rfl (hD hby d34_0) rfl rfl ?_
    refine g_callV X0 hx hZ hown (wat hw 203 rfl) (wat hw 204 rfl) (wat hw 206 rfl) (wat hw 205 rfl) (wat hw 2 rfl) (wat hw 207 rfl) (by decide) (a := t) Et (rm35_1 l Z a0 hw [] n0 (Ts) t cz h0 hn0 O2 hcz OLD Fc) pd_6 rfl rfl (pc' := 4) rfl (hD hby d34_1) (argsL := []) (rest := []) rfl (W := 0) (fun v39 T39 h39 X39 hQ39 => ?_)
    obtain ⟨rfl, he39⟩ := hQ39
    rw [he39] at X39
    show Go p e below s n0 _ _ _ (T39.setTop (mkF m 4 _ [(.int 0)]))
    refine g_ifY X39 hx (pcY := 16) (hD hby d34_4) (by decide) (by decide) (show (0 : Int32) = 0 from by decide) ?_
    refine g_aloadN X39 hx (pc' := 17) rfl (hD hby d34_16) rfl rfl ?_
    refine g_getF X39 hx hZ hown (wat hw 20 rfl) Via.refl Fv (pc' := 20) rfl (hD hby d34_17) (fun T40 X40 => ?_)
    refine g_iloadN X40 hx (pc' := 21) rfl (hD hby d34_20) rfl ?_
    refine g_callS X40 hx hZ hown (wat hw 280 rfl) (wat hw 281 rfl) (wat hw 225 rfl) (wat hw 282 rfl) (by decide) (rm55 l Z a0 hw [] n0 (Ts) tb cs i' n' m' i fo h0 hn0 O4 hfo U1 U2 U3 OLD Ab hcs hi hlt hb hn hM hs) pd_5 rfl rfl (pc' := 24) rfl (hD hby d34_21) (argsL := [(.ref tb), (.int i')]) (rest := []) rfl (W := 0) (fun v41 T41 h41 X41 hQ41 => ?_)
    obtain ⟨rfl, he41⟩ := hQ41
    rw [he41] at X41
    show Go p e below s n0 _ _ _ (T41.setTop (mkF m 24 _ [(.int (cs.getD i 0))]))
    exact g_ret X41 hx hlk hret (congrArg Value.int (nar_chr (hcs _ (mem_getD hlt)))) (Or.inl ⟨rfl, Or.inr (Or.inr (Or.inr (Or.inl rfl))), _, rfl⟩) (hD hby d34_24) (by decide) (by decide) (Nat.le_refl _) (⟨rfl, rfl⟩)
theorem own_ge {i' n' : Int32} {i : Nat} {cs : List Int32} (hi : i'.toInt = (i : Int)) (hn : n'.toInt = (cs.length : Int)) (h : i = cs.length) : ¬ i' < n' := by
  rw [Int32.lt_iff_toInt_lt]; omega
theorem own_n15 {n' : Int32} {n : Nat} (hn : n'.toInt = (n : Int)) (hb : n < 500) : ¬ n' < 0 ∧ n' < (1073741823 : Int32) := by
  refine ⟨(own_idx hn).2, ?_⟩
  rw [Int32.lt_iff_toInt_lt]; have e : (1073741823 : Int32).toInt = 1073741823 := rfl
  omega
theorem ar_sub0 (x : Int32) : x - 0 = x := by simp
theorem rm45 (l : Launch) (Z : State) (a0 : Array Value) (hw : HW a0 Z) (ws : List Jvm.Cond) (n0 : Nat) (Ts : List String) (cs : List Int32) (n' m' : Int32) (h0 : Heap) (hn0 : n0 ≤ h0.size) (hn : n'.toInt = (cs.length : Int)) (hM : m'.toInt = ((2 * cs.length : Nat) : Int)) (hm : n' <<< ((1 : Int32) &&& 31) = m') (h129 : cs.length ≤ 129) :
    Con l Z n0 Ts (Ts) (⟨"java/lang/StringUTF16", "newBytesLength", "(I)I"⟩ : MethodName) jdk_52_method_3_code 1 (some .int) ws ({ frames := 0, cells := 0, slots := 0, locals := 0 } : Room) #[(.int n')] h0 (fun v h => v = some (.int m') ∧ h = h0) := by
  refine con_start (fr0 := fun m => mkF m 0 #[.val (.int n')] []) ?_
  intro p e s m below meth c T0 hx hZ hby hml hown hnm hret hlk hsh XA
  have X0 := XA n0
  have hlow : n0 ≤ s.heap.size := by rw [hsh]; exact hn0
  replace hown : s.vm.findClass "java/lang/StringUTF16" = some m.cls := hown
  replace hml : c.maxLocals = 1 := hml
  refine g_iloadN X0 hx (pc' := 1) rfl (hD hby d45_0) rfl ?_
  refine g_ifY X0 hx (pcY := 12) (hD hby d45_1) (by decide) (by decide) (show ¬ n' < 0 from (own_n15 hn (by omega)).1) ?_
  refine g_iloadN X0 hx (pc' := 13) rfl (hD hby d45_12) rfl ?_
  refine g_ldcI X0 hx hZ hown (wat hw 242 rfl) (pc' := 15) (v := (1073741823 : Int32)) rfl (hD hby d45_13) ?_
  refine g_icmpY X0 hx (pcY := 55) (hD hby d45_15) (by decide) (by decide) (show n' < (1073741823 : Int32) from (own_n15 hn (by omega)).2) ?_
  refine g_iloadN X0 hx (pc' := 56) rfl (hD hby d45_55) rfl ?_
  refine g_iconst X0 hx (pc' := 57) (z := (1 : Int32)) rfl (hD hby d45_56) rfl ?_
  refine g_ishl X0 hx (pc' := 58) rfl (hD hby d45_57) ?_
  refine g_normI (z := m') hm ?_
  exact g_retI X0 hx hlk hret (hD hby d45_58) (by decide) (by decide) (Nat.le_refl _) (⟨rfl, rfl⟩)
theorem rm44 (l : Launch) (Z : State) (a0 : Array Value) (hw : HW a0 Z) (ws : List Jvm.Cond) (n0 : Nat) (Ts : List String) (cs : List Int32) (n' m' : Int32) (h0 : Heap) (hn0 : n0 ≤ h0.size) (hn : n'.toInt = (cs.length : Int)) (hM : m'.toInt = ((2 * cs.length : Nat) : Int)) (hm : n' <<< ((1 : Int32) &&& 31) = m') (h129 : cs.length ≤ 129) :
    Con l Z n0 Ts (Ts) (⟨"java/lang/StringUTF16", "newBytesFor", "(I)[B"⟩ : MethodName) jdk_52_method_2_code 1 (some (.array .byte)) ws ({ frames := 1, cells := 1, slots := 258, locals := 16 } : Room) #[(.int n')] h0 (fun v h => ∃ nb, v = some (.ref nb) ∧ n0 ≤ nb ∧ h0.size ≤ nb ∧ Keep h0 h [] ∧ AV Z h nb .byte (U16 (cs.take 0) ++ List.replicate (2 * cs.length) (.int 0))) := by
  refine con_start (fr0 := fun m => mkF m 0 #[.val (.int n')] []) ?_
  intro p e s m below meth c T0 hx hZ hby hml hown hnm hret hlk hsh XA
  have X0 := XA n0
  have hlow : n0 ≤ s.heap.size := by rw [hsh]; exact hn0
  replace hown : s.vm.findClass "java/lang/StringUTF16" = some m.cls := hown
  replace hml : c.maxLocals = 1 := hml
  refine g_iloadN X0 hx (pc' := 1) rfl (hD hby d44_0) rfl ?_
  refine g_callS X0 hx hZ hown (wat hw 239 rfl) (wat hw 240 rfl) (wat hw 225 rfl) (wat hw 241 rfl) (by decide) (rm45 l Z a0 hw [] n0 (Ts) cs n' m' h0 hn0 hn hM hm h129) pd_7 rfl rfl (pc' := 4) rfl (hD hby d44_1) (argsL := [(.int n')]) (rest := []) rfl (W := 0) (fun v42 T42 h42 X42 hQ42 => ?_)
  obtain ⟨rfl, he42⟩ := hQ42
  rw [he42] at X42
  show Go p e below s n0 _ _ _ (T42.setTop (mkF m 4 _ [(.int m')]))
  refine g_newA X42 hx hZ (aty := .byte) (wat hw 15 rfl) (n := m') (N := 2 * cs.length) hM (cap := 258) (by omega) (by decide) (pc' := 6) rfl (hD hby d44_4) (by decide) (by decide) (fun T43 h43 a43 ha43 X43 E43 N43 => ?_)
  have sz43 : h0.size ≤ a43 := by rw [ha43]; exact (Keep.refl h0 []).1
  have f44 := (Keep.refl h0 []).ext E43
  have G_a43 : n0 ≤ a43 := by rw [ha43]; exact hn0
  have Zs43 : n0 ≤ h43.size := Nat.le_trans hn0 E43.1
  have V43 : AV Z h43 a43 .byte (U16 (cs.take 0) ++ List.replicate (2 * cs.length) (.int 0)) := (by simpa [U16, newarray.typeOf, defaultValue] using N43)
  exact g_ret X43 hx hlk hret rfl (Or.inr (Or.inr (Or.inr (Or.inr ⟨rfl, rfl, rfl⟩)))) (hD hby d44_6) (by decide) (by decide) (Nat.le_refl _) (⟨a43, rfl, G_a43, sz43, f44, V43⟩)
theorem own_t0 {cs : List Int32} {i : Nat} (h : i = cs.length) : cs.take i = cs := by rw [h]; exact List.take_length
theorem lp13 (l : Launch) (Z : State) (a0 : Array Value) (hw : HW a0 Z) (n0 : Nat) (Ts : List String) (ca nb : Addr) (cs : List Int32) (n' m' : Int32) {h0 : Heap} {p : Program} {e : Env} {s : State} {m : MethodId} {below : List Frame} {meth : Method} {c : Code} (hx : p.tables.exec = Jvm.exec) (hZ : Z.Warmed39 s.vm) (hby : c.code = jdk_52_method_14_code) (hml : c.maxLocals = 5) (hown : s.vm.findClass "java/lang/StringUTF16" = some m.cls) (hret : meth.sig.returnType = some (.array .byte)) (hlk : meth.locks = false) (U1 : St2 Z (.int 1)) (U2 : St3 Z (.int 0)) (U3 : St4 Z (.int 8)) (hn : n'.toInt = (cs.length : Int)) (hM : m'.toInt = ((2 * cs.length : Nat) : Int)) (hm : n' <<< ((1 : Int32) &&& 31) = m') (h129 : cs.length ≤ 129) (hgn : n0 ≤ nb) (hs0 : h0.size ≤ nb) (hne : ca ≠ nb) :
    ∀ (r i : Nat) (i' : Int32) (T0 : State) (h1 : Heap) (hir : i + r = cs.length) (hi : i'.toInt = (i : Int)) (hz1 : n0 ≤ h1.size) (OLD1 : OldP Z n0 h1) (K1 : Keep h0 h1 []) (Ac1 : AV Z h1 ca .char (cs.map Value.int)) (An1 : AV Z h1 nb .byte (U16 (cs.take i) ++ List.replicate (2 * r) (.int 0))) (X0 : Wk p l e ({ frames := 2, cells := 1, slots := 258, locals := 48 } : Room) s m #[(.ref ca), (.int 0), (.int n')] below meth c n0 Z (Ts) [] T0 h1 1 258), Go p e below s n0 ((Z, (Ts), fun v h => ∃ nb, v = some (.ref nb) ∧ n0 ≤ nb ∧ h0.size ≤ nb ∧ Keep h0 h [] ∧ AV Z h nb .byte (U16 cs)) : GQ) ({ frames := 2, cells := 1, slots := 258, locals := 48 } : Room).cells ({ frames := 2, cells := 1, slots := 258, locals := 48 } : Room).slots (T0.setTop (mkF m 8 #[.val (.ref ca), .val (.int i'), .val (.int n'), .val (.ref nb), .val (.int i')] [])) := by
  intro r
  induction r with
  | zero =>
    intro i i' T0 h1 hir hi hz1 OLD1 K1 Ac1 An1 X0
    refine g_iload X0 hx (pc' := 10) rfl (hD hby d43_8) rfl ?_
    refine g_iloadN X0 hx (pc' := 11) rfl (hD hby d43_10) rfl ?_
    refine g_icmpY X0 hx (pcY := 32) (hD hby d43_11) (by decide) (by decide) (show ¬ i' < n' from own_ge hi hn (by omega)) ?_
    refine g_aloadN X0 hx (pc' := 33) rfl (hD hby d43_32) rfl rfl ?_
    exact g_ret X0 hx hlk hret rfl (Or.inr (Or.inr (Or.inr (Or.inr ⟨rfl, rfl, rfl⟩)))) (hD hby d43_33) (by decide) (by decide) (Nat.le_refl _) (⟨nb, rfl, hgn, hs0, K1, own_t0 (by omega) ▸ (by simpa using An1)⟩)
  | succ r ih =>
    intro i i' T0 h1 hir hi hz1 OLD1 K1 Ac1 An1 X0
    refine g_iload X0 hx (pc' := 10) rfl (hD hby d43_8) rfl ?_
    refine g_iloadN X0 hx (pc' := 11) rfl (hD hby d43_10) rfl ?_
    refine g_icmpN X0 hx (pcN := 14) (hD hby d43_11) rfl (show ¬ (¬ i' < n') from not_not_intro (own_ix hi (by omega) hn).2) ?_
    refine g_aloadN X0 hx (pc' := 15) rfl (hD hby d43_14) rfl rfl ?_
    refine g_iload X0 hx (pc' := 17) rfl (hD hby d43_15) rfl ?_
    refine g_aloadN X0 hx (pc' := 18) rfl (hD hby d43_17) rfl rfl ?_
    refine g_iloadN X0 hx (pc' := 19) rfl (hD hby d43_18) rfl ?_
    refine g_caload X0 hx hZ Ac1 (i := i) hi (by rw [List.length_map]; omega) (x := (cs.getD i 0)) (C_get (by omega)) (pc' := 20) rfl (hD hby d43_19) ?_
    refine g_callS X0 hx hZ hown (wat hw 243 rfl) (wat hw 244 rfl) (wat hw 225 rfl) (wat hw 245 rfl) (by decide) (rm46 l Z a0 hw [] n0 (Ts) nb (U16 (cs.take i) ++ List.replicate (2 * (r + 1)) (.int 0)) i' (cs.getD i 0) i h1 hz1 U1 U2 U3 OLD1 An1 hgn hi (by rw [List.length_append, U16_len, List.length_take, List.length_replicate]; omega) (by omega)) pd_8 rfl rfl (pc' := 23) rfl (hD hby d43_20) (argsL := [(.ref nb), (.int i'), (.int (cs.getD i 0))]) (rest := []) rfl (W := 0) (fun v45 T45 h45 X45 hQ45 => ?_)
    obtain ⟨rfl, K45, V45⟩ := hQ45
    rw [U16_step (by omega)] at V45
    have f46 := OLD1.keep K45 (allS hgn all0)
    have f47 := K1.trans K45 (allS (Or.inr hs0) all0)
    have f48 := Ac1.keep K45 (ninS hne nin0)
    have zs45 : n0 ≤ h45.size := Nat.le_trans hz1 K45.1
    show Go p e below s n0 _ _ _ (T45.setTop (mkF m 23 _ []))
    refine g_iinc X45 hx (pc' := 26) (x := i') rfl (hD hby d43_23) rfl (l' := #[.val (.ref ca), .val (.int (i' + (1 : Int32))), .val (.int n'), .val (.ref nb), .val (.int i')]) rfl ?_
    refine g_iinc X45 hx (pc' := 29) (x := i') rfl (hD hby d43_26) rfl (l' := #[.val (.ref ca), .val (.int (i' + (1 : Int32))), .val (.int n'), .val (.ref nb), .val (.int (i' + (1 : Int32)))]) rfl ?_
    refine g_goto X45 hx (pc' := 8) (hD hby d43_29) (by decide) (by decide) ?_
    exact ih (i + 1) _ _ _ (by omega) (ar_add1 hi (by omega)) zs45 f46 f47 f48 V45 X45
theorem rm43 (l : Launch) (Z : State) (a0 : Array Value) (hw : HW a0 Z) (ws : List Jvm.Cond) (n0 : Nat) (Ts : List String) (ca : Addr) (cs : List Int32) (n' m' : Int32) (h0 : Heap) (hn0 : n0 ≤ h0.size) (U1 : St2 Z (.int 1)) (U2 : St3 Z (.int 0)) (U3 : St4 Z (.int 8)) (OLD : OldP Z n0 h0) (hn : n'.toInt = (cs.length : Int)) (hM : m'.toInt = ((2 * cs.length : Nat) : Int)) (hm : n' <<< ((1 : Int32) &&& 31) = m') (h129 : cs.length ≤ 129) (Ac : AV Z h0 ca .char (cs.map Value.int)) :
    Con l Z n0 Ts (Ts) (⟨"java/lang/StringUTF16", "toBytes", "([CII)[B"⟩ : MethodName) jdk_52_method_14_code 5 (some (.array .byte)) ws ({ frames := 2, cells := 1, slots := 258, locals := 48 } : Room) #[(.ref ca), (.int 0), (.int n')] h0 (fun v h => ∃ nb, v = some (.ref nb) ∧ n0 ≤ nb ∧ h0.size ≤ nb ∧ Keep h0 h [] ∧ AV Z h nb .byte (U16 cs)) := by
  refine con_start (fr0 := fun m => mkF m 0 #[.val (.ref ca), .val (.int 0), .val (.int n'), .unset, .unset] []) ?_
  intro p e s m below meth c T0 hx hZ hby hml hown hnm hret hlk hsh XA
  have X0 := XA n0
  have hlow : n0 ≤ s.heap.size := by rw [hsh]; exact hn0
  replace hown : s.vm.findClass "java/lang/StringUTF16" = some m.cls := hown
  replace hml : c.maxLocals = 5 := hml
  refine g_iloadN X0 hx (pc' := 1) rfl (hD hby d43_0) rfl ?_
  refine g_callS X0 hx hZ hown (wat hw 236 rfl) (wat hw 237 rfl) (wat hw 225 rfl) (wat hw 238 rfl) (by decide) (rm44 l Z a0 hw [] n0 (Ts) cs n' m' h0 hn0 hn hM hm h129) pd_9 rfl rfl (pc' := 4) rfl (hD hby d43_1) (argsL := [(.int n')]) (rest := []) rfl (W := 0) (fun v49 T49 h49 X49 hQ49 => ?_)
  obtain ⟨nb49, rfl, Gnb49, S49, K49, V49⟩ := hQ49
  have nenb49_ca : ca ≠ nb49 := Nat.ne_of_lt (Nat.lt_of_lt_of_le Ac.lt S49)
  have sznb49 : h0.size ≤ nb49 := Nat.le_trans (Keep.refl h0 []).1 S49
  have f50 := (Keep.refl h0 []).trans K49 all0
  have f51 := OLD.keep K49 all0
  have f52 := Ac.keep K49 nin0
  have zs49 : n0 ≤ h49.size := Nat.le_trans hn0 K49.1
  show Go p e below s n0 _ _ _ (T49.setTop (mkF m 4 _ [(.ref nb49)]))
  refine g_astoreN X49 hx (pc' := 5) rfl (hD hby d43_4) rfl (l' := #[.val (.ref ca), .val (.int 0), .val (.int n'), .val (.ref nb49), .unset]) rfl ?_
  refine g_iconst X49 hx (pc' := 6) (z := (0 : Int32)) rfl (hD hby d43_5) rfl ?_
  refine g_istore X49 hx (pc' := 8) rfl (hD hby d43_6) (l' := #[.val (.ref ca), .val (.int 0), .val (.int n'), .val (.ref nb49), .val (.int 0)]) rfl ?_
  exact lp13 l Z a0 hw n0 Ts ca nb49 cs n' m' hx hZ hby hml hown hret hlk U1 U2 U3 hn hM hm h129 Gnb49 sznb49 nenb49_ca cs.length 0 0 _ _ (by omega) rfl zs49 f51 f50 f52 V49 X49
theorem own_all {cs : List Int32} {i : Nat} (hcs : ∀ c ∈ cs, 0 ≤ c.toInt ∧ c.toInt < 65536) (hall : ∀ j, j < i → (cs.getD j 0).toInt ≤ 255) (h : i = cs.length) : ∀ c ∈ cs, 0 ≤ c.toInt ∧ c.toInt ≤ 255 := fun c hc => by
  obtain ⟨j, hj, rfl⟩ := List.getElem_of_mem hc
  have q := hall j (by omega)
  rw [List.getD_eq_getElem?_getD, List.getElem?_eq_getElem hj] at q
  exact ⟨(hcs _ hc).1, q⟩
theorem own_255 {c : Int32} (h : (255 : Int32) < c) : 255 < c.toInt := by rw [Int32.lt_iff_toInt_lt] at h; exact h
theorem own_255' {c : Int32} (h : ¬ (255 : Int32) < c) : c.toInt ≤ 255 := by
  rw [Int32.lt_iff_toInt_lt] at h; have e : (255 : Int32).toInt = 255 := rfl
  omega
theorem own_hal7 {cs : List Int32} {i : Nat} (hall : ∀ j, j < i → (cs.getD j 0).toInt ≤ 255) (h : (cs.getD i 0).toInt ≤ 255) : ∀ j, j < i + 1 → (cs.getD j 0).toInt ≤ 255 := fun j hj => by
  by_cases q : j = i
  · rw [q]; exact h
  · exact hall j (by omega)
theorem lp7 (l : Launch) (Z : State) (a0 : Array Value) (hw : HW a0 Z) (n0 : Nat) (Ts : List String) (ca ba : Addr) (cs : List Int32) (n' : Int32) {h0 : Heap} {p : Program} {e : Env} {s : State} {m : MethodId} {below : List Frame} {meth : Method} {c : Code} (hx : p.tables.exec = Jvm.exec) (hZ : Z.Warmed39 s.vm) (hby : c.code = jdk_52_method_21_code) (hml : c.maxLocals = 7) (hown : s.vm.findClass "java/lang/StringUTF16" = some m.cls) (hret : meth.sig.returnType = some .int) (hlk : meth.locks = false) (hn : n'.toInt = (cs.length : Int)) (h129 : cs.length ≤ 129) (hcs : ∀ c ∈ cs, 0 ≤ c.toInt ∧ c.toInt < 65536) (hgb : n0 ≤ ba) (hne : ca ≠ ba) :
    ∀ (r i : Nat) (i' : Int32) (c6 : Slot) (T0 : State) (h1 : Heap) (h_c6 : c6 = .unset ∨ ∃ z, c6 = .val (.int z)) (hir : i + r = cs.length) (hi : i'.toInt = (i : Int)) (hall : ∀ j, j < i → (cs.getD j 0).toInt ≤ 255) (hz1 : n0 ≤ h1.size) (K1 : Keep h0 h1 [ba]) (Ac1 : AV Z h1 ca .char (cs.map Value.int)) (An1 : AV Z h1 ba .byte (L1 (cs.take i) ++ List.replicate r (.int 0))) (X0 : Wk p l e ({ frames := 0, cells := 0, slots := 0, locals := 0 } : Room) s m #[(.ref ca), (.int 0), (.ref ba), (.int 0), (.int n')] below meth c n0 Z (Ts) [] T0 h1 0 0), Go p e below s n0 ((Z, (Ts), fun v h => Keep h0 h [ba] ∧ ((v = some (.int n') ∧ (∀ c ∈ cs, 0 ≤ c.toInt ∧ c.toInt ≤ 255) ∧ AV Z h ba .byte (L1 cs)) ∨ ∃ (j : Nat) (j' : Int32), v = some (.int j') ∧ j'.toInt = (j : Int) ∧ j < cs.length ∧ 255 < (cs.getD j 0).toInt)) : GQ) ({ frames := 0, cells := 0, slots := 0, locals := 0 } : Room).cells ({ frames := 0, cells := 0, slots := 0, locals := 0 } : Room).slots (T0.setTop (mkF m 3 #[.val (.ref ca), .val (.int i'), .val (.ref ba), .val (.int i'), .val (.int n'), .val (.int i'), c6] [])) := by
  intro r
  induction r with
  | zero =>
    intro i i' c6 T0 h1 h_c6 hir hi hall hz1 K1 Ac1 An1 X0
    refine g_iload X0 hx (pc' := 5) rfl (hD hby d41_3) rfl ?_
    refine g_iload X0 hx (pc' := 7) rfl (hD hby d41_5) rfl ?_
    refine g_icmpY X0 hx (pcY := 44) (hD hby d41_7) (by decide) (by decide) (show ¬ i' < n' from own_ge hi hn (by omega)) ?_
    refine g_iload X0 hx (pc' := 46) rfl (hD hby d41_44) rfl ?_
    exact g_retI X0 hx hlk hret (hD hby d41_46) (by decide) (by decide) (Nat.le_refl _) (⟨K1, Or.inl ⟨rfl, own_all hcs hall (by omega), own_t0 (by omega) ▸ (by simpa using An1)⟩⟩)
  | succ r ih =>
    intro i i' c6 T0 h1 h_c6 hir hi hall hz1 K1 Ac1 An1 X0
    refine g_iload X0 hx (pc' := 5) rfl (hD hby d41_3) rfl ?_
    refine g_iload X0 hx (pc' := 7) rfl (hD hby d41_5) rfl ?_
    refine g_icmpN X0 hx (pcN := 10) (hD hby d41_7) rfl (show ¬ (¬ i' < n') from not_not_intro (own_ix hi (by omega) hn).2) ?_
    refine g_aloadN X0 hx (pc' := 11) rfl (hD hby d41_10) rfl rfl ?_
    refine g_iloadN X0 hx (pc' := 12) rfl (hD hby d41_11) rfl ?_
    refine g_caload X0 hx hZ Ac1 (i := i) hi (by rw [List.length_map]; omega) (x := (cs.getD i 0)) (C_get (by omega)) (pc' := 13) rfl (hD hby d41_12) ?_
    obtain ⟨cc, e_cc⟩ : ∃ z, z = cs.getD i 0 := ⟨_, rfl⟩
    refine g_normI (z := cc) e_cc.symm ?_
    refine g_istore X0 hx (pc' := 15) rfl (hD hby d41_13) (l' := #[.val (.ref ca), .val (.int i'), .val (.ref ba), .val (.int i'), .val (.int n'), .val (.int i'), .val (.int cc)]) (by rcases h_c6 with rfl | ⟨z, rfl⟩ <;> rfl) ?_
    refine g_iload X0 hx (pc' := 17) rfl (hD hby d41_15) rfl ?_
    refine g_sipush X0 hx (pc' := 20) (z := (255 : Int32)) rfl (hD hby d41_17) rfl ?_
    refine g_icmp X0 hx (pcY := 26) (pcN := 23) (hD hby d41_20) (by decide) (by decide) rfl (fun hc20 => ?_) (fun hc20 => ?_)
    · replace hc20 : ¬ (255 : Int32) < cc := hc20
      refine g_aloadN X0 hx (pc' := 27) rfl (hD hby d41_26) rfl rfl ?_
      refine g_iloadN X0 hx (pc' := 28) rfl (hD hby d41_27) rfl ?_
      refine g_iload X0 hx (pc' := 30) rfl (hD hby d41_28) rfl ?_
      refine g_i2b X0 hx (pc' := 31) rfl (hD hby d41_30) ?_
      refine g_bastore X0 hx hZ An1 (i := i) hi (by rw [List.length_append, L1_len, List.length_take, List.length_replicate]; omega) hgb (y := (cc).toInt8.toInt32) (nar_i2b _) (pc' := 32) rfl (hD hby d41_31) (fun T53 h53 X53 W53 N53 => ?_)
      have f54 := (by have q := (Keep.of_wr W53).1; exact Nat.le_trans hz1 q : n0 ≤ h53.size)
      have f55 := K1.wr W53 (Or.inl (List.mem_of_getElem? (i := 0) rfl))
      have f56 := Ac1.other W53 hne
      have V53 : AV Z h53 ba .byte (L1 (cs.take (i + 1)) ++ List.replicate r (.int 0)) := (by rw [e_cc, L1_step (by omega)] at N53; assumption)
      refine g_iinc X53 hx (pc' := 35) (x := i') rfl (hD hby d41_32) rfl (l' := #[.val (.ref ca), .val (.int (i' + (1 : Int32))), .val (.ref ba), .val (.int i'), .val (.int n'), .val (.int i'), .val (.int cc)]) rfl ?_
      refine g_iinc X53 hx (pc' := 38) (x := i') rfl (hD hby d41_35) rfl (l' := #[.val (.ref ca), .val (.int (i' + (1 : Int32))), .val (.ref ba), .val (.int (i' + (1 : Int32))), .val (.int n'), .val (.int i'), .val (.int cc)]) rfl ?_
      refine g_iinc X53 hx (pc' := 41) (x := i') rfl (hD hby d41_38) rfl (l' := #[.val (.ref ca), .val (.int (i' + (1 : Int32))), .val (.ref ba), .val (.int (i' + (1 : Int32))), .val (.int n'), .val (.int (i' + (1 : Int32))), .val (.int cc)]) rfl ?_
      refine g_goto X53 hx (pc' := 3) (hD hby d41_41) (by decide) (by decide) ?_
      exact ih (i + 1) _ _ _ _ (Or.inr ⟨_, rfl⟩) (by omega) (ar_add1 hi (by omega)) (own_hal7 hall (e_cc ▸ own_255' hc20)) f54 f55 f56 V53 X53
    · replace hc20 : (255 : Int32) < cc := Classical.not_not.mp hc20
      refine g_iload X0 hx (pc' := 25) rfl (hD hby d41_23) rfl ?_
      exact g_retI X0 hx hlk hret (hD hby d41_25) (by decide) (by decide) (Nat.le_refl _) (⟨K1, Or.inr ⟨i, i', rfl, hi, by omega, e_cc ▸ own_255 hc20⟩⟩)
theorem rm41 (l : Launch) (Z : State) (a0 : Array Value) (hw : HW a0 Z) (ws : List Jvm.Cond) (n0 : Nat) (Ts : List String) (ca ba : Addr) (cs : List Int32) (n' : Int32) (h0 : Heap) (hn0 : n0 ≤ h0.size) (hn : n'.toInt = (cs.length : Int)) (h129 : cs.length ≤ 129) (hcs : ∀ c ∈ cs, 0 ≤ c.toInt ∧ c.toInt < 65536) (Ac : AV Z h0 ca .char (cs.map Value.int)) (Ab : AV Z h0 ba .byte (L1 (cs.take 0) ++ List.replicate cs.length (.int 0))) (hgb : n0 ≤ ba) (hne : ca ≠ ba) :
    Con l Z n0 Ts (Ts) (⟨"java/lang/StringUTF16", "compress", "([CI[BII)I"⟩ : MethodName) jdk_52_method_21_code 7 (some .int) ws ({ frames := 0, cells := 0, slots := 0, locals := 0 } : Room) #[(.ref ca), (.int 0), (.ref ba), (.int 0), (.int n')] h0 (fun v h => Keep h0 h [ba] ∧ ((v = some (.int n') ∧ (∀ c ∈ cs, 0 ≤ c.toInt ∧ c.toInt ≤ 255) ∧ AV Z h ba .byte (L1 cs)) ∨ ∃ (j : Nat) (j' : Int32), v = some (.int j') ∧ j'.toInt = (j : Int) ∧ j < cs.length ∧ 255 < (cs.getD j 0).toInt)) := by
  refine con_start (fr0 := fun m => mkF m 0 #[.val (.ref ca), .val (.int 0), .val (.ref ba), .val (.int 0), .val (.int n'), .unset, .unset] []) ?_
  intro p e s m below meth c T0 hx hZ hby hml hown hnm hret hlk hsh XA
  have X0 := XA n0
  have hlow : n0 ≤ s.heap.size := by rw [hsh]; exact hn0
  replace hown : s.vm.findClass "java/lang/StringUTF16" = some m.cls := hown
  replace hml : c.maxLocals = 7 := hml
  refine g_iconst X0 hx (pc' := 1) (z := (0 : Int32)) rfl (hD hby d41_0) rfl ?_
  refine g_istore X0 hx (pc' := 3) rfl (hD hby d41_1) (l' := #[.val (.ref ca), .val (.int 0), .val (.ref ba), .val (.int 0), .val (.int n'), .val (.int 0), .unset]) rfl ?_
  exact lp7 l Z a0 hw n0 Ts ca ba cs n' hx hZ hby hml hown hret hlk hn h129 hcs hgb hne cs.length 0 0 .unset _ _ (Or.inl rfl) (by omega) rfl (fun j hj => absurd hj (Nat.not_lt_zero j)) hn0 (Keep.refl _ _) Ac Ab X0
theorem own_nej {j' n' : Int32} {j : Nat} {cs : List Int32} (hj : j'.toInt = (j : Int)) (hn : n'.toInt = (cs.length : Int)) (h : j < cs.length) : ¬ j' = n' := fun q => by rw [q] at hj; omega
theorem own_gt255 {c : Int32} (h : 255 < c.toInt) : (255 : Int32) < c := by rw [Int32.lt_iff_toInt_lt]; exact h
theorem rm40 (l : Launch) (Z : State) (a0 : Array Value) (hw : HW a0 Z) (ws : List Jvm.Cond) (n0 : Nat) (Ts : List String) (ca : Addr) (cs : List Int32) (n' m' : Int32) (h0 : Heap) (hn0 : n0 ≤ h0.size) (U1 : St2 Z (.int 1)) (U2 : St3 Z (.int 0)) (U3 : St4 Z (.int 8)) (OLD : OldP Z n0 h0) (hn : n'.toInt = (cs.length : Int)) (hM : m'.toInt = ((2 * cs.length : Nat) : Int)) (hm : n' <<< ((1 : Int32) &&& 31) = m') (h129 : cs.length ≤ 129) (hcs : ∀ c ∈ cs, 0 ≤ c.toInt ∧ c.toInt < 65536) (Ac : AV Z h0 ca .char (cs.map Value.int)) :
    Con l Z n0 Ts (Ts) (⟨"java/lang/StringUTF16", "compress", "([CII)[B"⟩ : MethodName) jdk_52_method_16_code 6 (some (.array .byte)) ws ({ frames := 3, cells := 2, slots := 387, locals := 80 } : Room) #[(.ref ca), (.int 0), (.int n')] h0 (fun v h => ∃ nb, v = some (.ref nb) ∧ n0 ≤ nb ∧ h0.size ≤ nb ∧ Keep h0 h [] ∧ ((AV Z h nb .byte (L1 cs) ∧ ∀ c ∈ cs, 0 ≤ c.toInt ∧ c.toInt ≤ 255) ∨ AV Z h nb .byte (U16 cs))) := by
  refine con_start (fr0 := fun m => mkF m 0 #[.val (.ref ca), .val (.int 0), .val (.int n'), .unset, .unset, .unset] []) ?_
  intro p e s m below meth c T0 hx hZ hby hml hown hnm hret hlk hsh XA
  have X0 := XA n0
  have hlow : n0 ≤ s.heap.size := by rw [hsh]; exact hn0
  replace hown : s.vm.findClass "java/lang/StringUTF16" = some m.cls := hown
  replace hml : c.maxLocals = 6 := hml
  refine g_iloadN X0 hx (pc' := 1) rfl (hD hby d40_0) rfl ?_
  refine g_newA X0 hx hZ (aty := .byte) (wat hw 15 rfl) (n := n') (N := cs.length) hn (cap := 129) h129 (by decide) (pc' := 3) rfl (hD hby d40_1) (by decide) (by decide) (fun T57 h57 a57 ha57 X57 E57 N57 => ?_)
  have ne57_ca : ca ≠ a57 := by rw [ha57]; exact Nat.ne_of_lt Ac.lt
  have f58 := Ac.ext E57
  have sz57 : h0.size ≤ a57 := by rw [ha57]; exact (Keep.refl h0 []).1
  have f59 := (Keep.refl h0 []).ext E57
  have G_a57 : n0 ≤ a57 := by rw [ha57]; exact hn0
  have Zs57 : n0 ≤ h57.size := Nat.le_trans hn0 E57.1
  have f60 := OLD.ext E57
  have V57 : AV Z h57 a57 .byte (L1 (cs.take 0) ++ List.replicate cs.length (.int 0)) := (by simpa [L1, newarray.typeOf, defaultValue] using N57)
  refine g_astoreN X57 hx (pc' := 4) rfl (hD hby d40_3) rfl (l' := #[.val (.ref ca), .val (.int 0), .val (.int n'), .val (.ref a57), .unset, .unset]) rfl ?_
  refine g_aloadN X57 hx (pc' := 5) rfl (hD hby d40_4) rfl rfl ?_
  refine g_iloadN X57 hx (pc' := 6) rfl (hD hby d40_5) rfl ?_
  refine g_aloadN X57 hx (pc' := 7) rfl (hD hby d40_6) rfl rfl ?_
  refine g_iconst X57 hx (pc' := 8) (z := (0 : Int32)) rfl (hD hby d40_7) rfl ?_
  refine g_iloadN X57 hx (pc' := 9) rfl (hD hby d40_8) rfl ?_
  refine g_callS X57 hx hZ hown (wat hw 227 rfl) (wat hw 228 rfl) (wat hw 225 rfl) (wat hw 229 rfl) (by decide) (rm41 l Z a0 hw [] n0 (Ts) ca a57 cs n' h57 Zs57 hn h129 hcs f58 V57 G_a57 ne57_ca) pd_10 rfl rfl (pc' := 12) rfl (hD hby d40_9) (argsL := [(.ref ca), (.int 0), (.ref a57), (.int 0), (.int n')]) (rest := []) rfl (W := 0) (fun v61 T61 h61 X61 hQ61 => ?_)
  obtain ⟨K61, V61⟩ := hQ61
  have f62 := f59.trans K61 (allS (Or.inr sz57) all0)
  have f63 := f60.keep K61 (allS G_a57 all0)
  have f64 := f58.keep K61 (ninS ne57_ca nin0)
  have zs61 : n0 ≤ h61.size := Nat.le_trans Zs57 K61.1
  rcases V61 with ⟨rfl, hle, V61⟩ | ⟨j, j', rfl, hj, hjl, hbig⟩
  · skip
    show Go p e below s n0 _ _ _ (T61.setTop (mkF m 12 _ [(.int n')]))
    refine g_istore X61 hx (pc' := 14) rfl (hD hby d40_12) (l' := #[.val (.ref ca), .val (.int 0), .val (.int n'), .val (.ref a57), .val (.int n'), .unset]) rfl ?_
    refine g_iload X61 hx (pc' := 16) rfl (hD hby d40_14) rfl ?_
    refine g_iloadN X61 hx (pc' := 17) rfl (hD hby d40_16) rfl ?_
    refine g_icmpY X61 hx (pcY := 57) (hD hby d40_17) (by decide) (by decide) (show n' = n' from rfl) ?_
    refine g_aloadN X61 hx (pc' := 58) rfl (hD hby d40_57) rfl rfl ?_
    exact g_ret X61 hx hlk hret rfl (Or.inr (Or.inr (Or.inr (Or.inr ⟨rfl, rfl, rfl⟩)))) (hD hby d40_58) (by decide) (by decide) (Nat.le_refl _) (⟨a57, rfl, G_a57, sz57, f62, Or.inl ⟨V61, hle⟩⟩)
  · skip
    show Go p e below s n0 _ _ _ (T61.setTop (mkF m 12 _ [(.int j')]))
    refine g_istore X61 hx (pc' := 14) rfl (hD hby d40_12) (l' := #[.val (.ref ca), .val (.int 0), .val (.int n'), .val (.ref a57), .val (.int j'), .unset]) rfl ?_
    refine g_iload X61 hx (pc' := 16) rfl (hD hby d40_14) rfl ?_
    refine g_iloadN X61 hx (pc' := 17) rfl (hD hby d40_16) rfl ?_
    refine g_icmpN X61 hx (pcN := 20) (hD hby d40_17) rfl (show ¬ (j' = n') from own_nej hj hn hjl) ?_
    refine g_aloadN X61 hx (pc' := 21) rfl (hD hby d40_20) rfl rfl ?_
    refine g_iloadN X61 hx (pc' := 22) rfl (hD hby d40_21) rfl ?_
    refine g_iloadN X61 hx (pc' := 23) rfl (hD hby d40_22) rfl ?_
    refine g_callS X61 hx hZ hown (wat hw 233 rfl) (wat hw 234 rfl) (wat hw 225 rfl) (wat hw 235 rfl) (by decide) (rm43 l Z a0 hw [] n0 (Ts) ca cs n' m' h61 zs61 U1 U2 U3 f63 hn hM hm h129 f64) pd_11 rfl rfl (pc' := 26) rfl (hD hby d40_23) (argsL := [(.ref ca), (.int 0), (.int n')]) (rest := []) rfl (W := 0) (fun v65 T65 h65 X65 hQ65 => ?_)
    obtain ⟨ub65, rfl, Gub65, S65, K65, V65⟩ := hQ65
    have neub65_ca : ca ≠ ub65 := Nat.ne_of_lt (Nat.lt_of_lt_of_le f64.lt S65)
    have szub65 : h0.size ≤ ub65 := Nat.le_trans f62.1 S65
    have f66 := f62.trans K65 all0
    have f67 := f63.keep K65 all0
    have f68 := f64.keep K65 nin0
    have zs65 : n0 ≤ h65.size := Nat.le_trans zs61 K65.1
    show Go p e below s n0 _ _ _ (T65.setTop (mkF m 26 _ [(.ref ub65)]))
    refine g_astore X65 hx (pc' := 28) rfl (hD hby d40_26) rfl (l' := #[.val (.ref ca), .val (.int 0), .val (.int n'), .val (.ref a57), .val (.int j'), .val (.ref ub65)]) rfl ?_
    refine g_aload X65 hx (pc' := 30) rfl (hD hby d40_28) rfl rfl ?_
    refine g_iload X65 hx (pc' := 32) rfl (hD hby d40_30) rfl ?_
    refine g_callS X65 hx hZ hown (wat hw 249 rfl) (wat hw 250 rfl) (wat hw 225 rfl) (wat hw 251 rfl) (by decide) (rm47 l Z a0 hw [] n0 (Ts) ub65 cs j' j h65 zs65 U1 U2 U3 f67 V65 hcs hj hjl (by omega)) pd_5 rfl rfl (pc' := 35) rfl (hD hby d40_32) (argsL := [(.ref ub65), (.int j')]) (rest := []) rfl (W := 0) (fun v69 T69 h69 X69 hQ69 => ?_)
    obtain ⟨rfl, he69⟩ := hQ69
    rw [he69] at X69
    show Go p e below s n0 _ _ _ (T69.setTop (mkF m 35 _ [(.int (cs.getD j 0))]))
    refine g_sipush X69 hx (pc' := 38) (z := (255 : Int32)) rfl (hD hby d40_35) rfl ?_
    refine g_icmpY X69 hx (pcY := 54) (hD hby d40_38) (by decide) (by decide) (show (255 : Int32) < (cs.getD j 0) from own_gt255 hbig) ?_
    refine g_aload X69 hx (pc' := 56) rfl (hD hby d40_54) rfl rfl ?_
    exact g_ret X69 hx hlk hret rfl (Or.inr (Or.inr (Or.inr (Or.inr ⟨rfl, rfl, rfl⟩)))) (hD hby d40_56) (by decide) (by decide) (Nat.le_refl _) (⟨ub65, rfl, Gub65, szub65, f66, Or.inr V65⟩)
theorem ar_z8 (x : Int32) : (((x - x).toUInt32 >>> ((31 : Int32) &&& 31).toUInt32).toInt32).toInt8.toInt32 = 0 := by rw [Int32.sub_self]; decide
theorem ar_m8 {x : Int32} (h : x.toInt < 0) : ((x.toUInt32 >>> ((31 : Int32) &&& 31).toUInt32).toInt32).toInt8.toInt32 = 1 := by
  have h1 : 2147483648 ≤ x.toUInt32.toNat := by
    apply Nat.le_of_not_lt; intro q
    have e : x = Int32.ofNat x.toUInt32.toNat := by rw [← UInt32.toInt32_ofNat', UInt32.ofNat_toNat]; rfl
    have := congrArg Int32.toInt e
    rw [ar_of q] at this; omega
  have h2 := x.toUInt32.toNat_lt
  have e : x.toUInt32 >>> ((31 : Int32) &&& 31).toUInt32 = 1 := by
    apply UInt32.toNat_inj.mp
    have s : ((31 : Int32) &&& 31).toUInt32.toNat % 32 = 31 := by decide
    rw [UInt32.toNat_shiftRight, s, Nat.shiftRight_eq_div_pow]
    show x.toUInt32.toNat / 2 ^ 31 = 1
    omega
  rw [e]; decide
theorem rm42_0 (l : Launch) (Z : State) (a0 : Array Value) (hw : HW a0 Z) (ws : List Jvm.Cond) (n0 : Nat) (Ts : List String) (nb : Addr) (cs : List Int32) (n' m' : Int32) (h0 : Heap) (hn0 : n0 ≤ h0.size) (Ab : AV Z h0 nb .byte (L1 cs)) (hn : n'.toInt = (cs.length : Int)) (hM : m'.toInt = ((2 * cs.length : Nat) : Int)) (hm : n' <<< ((1 : Int32) &&& 31) = m') (h129 : cs.length ≤ 129) (h1 : 1 ≤ cs.length) :
    Con l Z n0 Ts (Ts) (⟨"java/lang/StringUTF16", "coderFromArrayLen", "([BI)B"⟩ : MethodName) jdk_52_method_15_code 2 (some .byte) ws ({ frames := 0, cells := 0, slots := 0, locals := 0 } : Room) #[(.ref nb), (.int n')] h0 (fun v h => v = some (.int 0) ∧ h = h0) := by
  refine con_start (fr0 := fun m => mkF m 0 #[.val (.ref nb), .val (.int n')] []) ?_
  intro p e s m below meth c T0 hx hZ hby hml hown hnm hret hlk hsh XA
  have X0 := XA n0
  have hlow : n0 ≤ s.heap.size := by rw [hsh]; exact hn0
  replace hown : s.vm.findClass "java/lang/StringUTF16" = some m.cls := hown
  replace hml : c.maxLocals = 2 := hml
  refine g_iloadN X0 hx (pc' := 1) rfl (hD hby d42_0) rfl ?_
  refine g_aloadN X0 hx (pc' := 2) rfl (hD hby d42_1) rfl rfl ?_
  refine g_alen X0 hx hZ Ab (z := n') (by rw [L1_len]; exact hn) (pc' := 3) rfl (hD hby d42_2) ?_
  refine g_isub X0 hx (pc' := 4) rfl (hD hby d42_3) ?_
  refine g_bipush X0 hx (pc' := 6) (z := (31 : Int32)) rfl (hD hby d42_4) rfl ?_
  refine g_iushr X0 hx (pc' := 7) rfl (hD hby d42_6) ?_
  refine g_i2b X0 hx (pc' := 8) rfl (hD hby d42_7) ?_
  refine g_normI (z := (0 : Int32)) (ar_z8 _) ?_
  exact g_ret X0 hx hlk hret (by first | rfl | exact congrArg Value.int (nar_i2c _) | exact congrArg Value.int (nar_i2b _)) (Or.inl ⟨rfl, Or.inr (Or.inr (Or.inl rfl)), _, rfl⟩) (hD hby d42_8) (by decide) (by decide) (Nat.le_refl _) (⟨rfl, rfl⟩)
theorem rm42_1 (l : Launch) (Z : State) (a0 : Array Value) (hw : HW a0 Z) (ws : List Jvm.Cond) (n0 : Nat) (Ts : List String) (nb : Addr) (cs : List Int32) (n' m' : Int32) (h0 : Heap) (hn0 : n0 ≤ h0.size) (Ab : AV Z h0 nb .byte (U16 cs)) (hn : n'.toInt = (cs.length : Int)) (hM : m'.toInt = ((2 * cs.length : Nat) : Int)) (hm : n' <<< ((1 : Int32) &&& 31) = m') (h129 : cs.length ≤ 129) (h1 : 1 ≤ cs.length) :
    Con l Z n0 Ts (Ts) (⟨"java/lang/StringUTF16", "coderFromArrayLen", "([BI)B"⟩ : MethodName) jdk_52_method_15_code 2 (some .byte) ws ({ frames := 0, cells := 0, slots := 0, locals := 0 } : Room) #[(.ref nb), (.int n')] h0 (fun v h => v = some (.int 1) ∧ h = h0) := by
  refine con_start (fr0 := fun m => mkF m 0 #[.val (.ref nb), .val (.int n')] []) ?_
  intro p e s m below meth c T0 hx hZ hby hml hown hnm hret hlk hsh XA
  have X0 := XA n0
  have hlow : n0 ≤ s.heap.size := by rw [hsh]; exact hn0
  replace hown : s.vm.findClass "java/lang/StringUTF16" = some m.cls := hown
  replace hml : c.maxLocals = 2 := hml
  refine g_iloadN X0 hx (pc' := 1) rfl (hD hby d42_0) rfl ?_
  refine g_aloadN X0 hx (pc' := 2) rfl (hD hby d42_1) rfl rfl ?_
  refine g_alen X0 hx hZ Ab (z := m') (by rw [U16_len]; exact hM) (pc' := 3) rfl (hD hby d42_2) ?_
  refine g_isub X0 hx (pc' := 4) rfl (hD hby d42_3) ?_
  refine g_bipush X0 hx (pc' := 6) (z := (31 : Int32)) rfl (hD hby d42_4) rfl ?_
  refine g_iushr X0 hx (pc' := 7) rfl (hD hby d42_6) ?_
  refine g_i2b X0 hx (pc' := 8) rfl (hD hby d42_7) ?_
  refine g_normI (z := (1 : Int32)) (ar_m8 (by rw [ar_sub (by omega) (by omega)]; omega)) ?_
  exact g_ret X0 hx hlk hret (by first | rfl | exact congrArg Value.int (nar_i2c _) | exact congrArg Value.int (nar_i2b _)) (Or.inl ⟨rfl, Or.inr (Or.inr (Or.inl rfl)), _, rfl⟩) (hD hby d42_8) (by decide) (by decide) (Nat.le_refl _) (⟨rfl, rfl⟩)
theorem own_c0 {x : Int32} {n : Nat} (h : x.toInt = (n : Int)) (h1 : 1 ≤ n) : ¬ x = 0 := fun q => by
  rw [q] at h; have e : (0 : Int32).toInt = 0 := rfl
  omega
theorem own_fne {Z : State} {h : Heap} {t a b : Addr} {C f d : String} (F : Fld Z h t C f d .null) (G : Fld Z h a C f d (.ref b)) : t ≠ a := fun q => by
  subst q
  obtain ⟨c1, cf, k, i, f1, a1, a2, -, -, -, -, a7⟩ := F
  obtain ⟨c2, cf2, k2, i2, f2, b1, b2, -, -, -, -, b7⟩ := G
  cases a1.symm.trans b1
  cases a2.symm.trans b2
  cases a7.symm.trans b7
theorem rm2 (l : Launch) (Z : State) (a0 : Array Value) (hw : HW a0 Z) (ws : List Jvm.Cond) (n0 : Nat) (Ts : List String) (t ca : Addr) (cs : List Int32) (n' m' : Int32) (cz : Int32) (h0 : Heap) (hn0 : n0 ≤ h0.size) (U1 : St2 Z (.int 1)) (U2 : St3 Z (.int 0)) (U3 : St4 Z (.int 8)) (O2 : St0 Z (.int cz)) (hcz : ¬ cz = 0) (OLD : OldP Z n0 h0) (hn : n'.toInt = (cs.length : Int)) (hM : m'.toInt = ((2 * cs.length : Nat) : Int)) (hm : n' <<< ((1 : Int32) &&& 31) = m') (h129 : cs.length ≤ 129) (h1 : 1 ≤ cs.length) (hcs : ∀ c ∈ cs, 0 ≤ c.toInt ∧ c.toInt < 65536) (Ac : AV Z h0 ca .char (cs.map Value.int)) (Et : XSt Z h0 t) (hgt : n0 ≤ t) (F_value : SV Z h0 t .null) (F_coder : SC Z h0 t (.int 0)) :
    Con l Z n0 Ts (Ts) (⟨"java/lang/String", "<init>", "([CIILjava/lang/Void;)V"⟩ : MethodName) jdk_42_method_149_code 6 none ws ({ frames := 4, cells := 2, slots := 387, locals := 112 } : Room) #[(.ref t), (.ref ca), (.int 0), (.int n'), .null] h0 (fun v h => v = none ∧ Keep h0 h [t] ∧ StrC Z h t cs) := by
  refine con_start (fr0 := fun m => mkF m 0 #[.val (.ref t), .val (.ref ca), .val (.int 0), .val (.int n'), .val .null, .unset] []) ?_
  intro p e s m below meth c T0 hx hZ hby hml hown hnm hret hlk hsh XA
  have X0 := XA n0
  have hlow : n0 ≤ s.heap.size := by rw [hsh]; exact hn0
  replace hown : s.vm.findClass "java/lang/String" = some m.cls := hown
  replace hml : c.maxLocals = 6 := hml
  have nA70 : t ≠ ca := own_neA Et (wat hw 1 rfl) Ac
  refine g_aloadN X0 hx (pc' := 1) rfl (hD hby d2_0) rfl rfl ?_
  refine g_initO X0 hx hZ hown (wat hw 11 rfl) (wat hw 12 rfl) (wat hw 13 rfl) (by rw [hml]; rfl) (pc' := 4) rfl (hD hby d2_1) (by decide) (W := 0) (Nat.le_of_eq rfl) (by decide) (fun T71 X71 => ?_)
  show Go p e below s n0 _ _ _ (T71.setTop (mkF m 4 _ []))
  refine g_iloadN X71 hx (pc' := 5) rfl (hD hby d2_4) rfl ?_
  refine g_ifY X71 hx (pcY := 27) (hD hby d2_5) (by decide) (by decide) (show ¬ n' = 0 from own_c0 hn h1) ?_
  refine g_getS X71 hx hZ hown (wat hw 84 rfl) Via.refl (Sta.ext OLD.2 O2) (pc' := 30) rfl (hD hby d2_27) (fun T72 X72 => ?_)
  refine g_ifN X72 hx (pcN := 33) (hD hby d2_30) rfl (show ¬ (cz = 0) from hcz) ?_
  refine g_aloadN X72 hx (pc' := 34) rfl (hD hby d2_33) rfl rfl ?_
  refine g_iloadN X72 hx (pc' := 35) rfl (hD hby d2_34) rfl ?_
  refine g_iloadN X72 hx (pc' := 36) rfl (hD hby d2_35) rfl ?_
  refine g_callS X72 hx hZ hown (wat hw 223 rfl) (wat hw 224 rfl) (wat hw 225 rfl) (wat hw 226 rfl) (by decide) (rm40 l Z a0 hw [] n0 (Ts) ca cs n' m' h0 hn0 U1 U2 U3 OLD hn hM hm h129 hcs Ac) pd_11 rfl rfl (pc' := 39) rfl (hD hby d2_36) (argsL := [(.ref ca), (.int 0), (.int n')]) (rest := []) rfl (W := 0) (fun v73 T73 h73 X73 hQ73 => ?_)
  obtain ⟨nb73, rfl, Gnb73, S73, K73, V73⟩ := hQ73
  have nenb73_t : t ≠ nb73 := Nat.ne_of_lt (Nat.lt_of_lt_of_le Et.lt S73)
  have nenb73_ca : ca ≠ nb73 := Nat.ne_of_lt (Nat.lt_of_lt_of_le Ac.lt S73)
  have sznb73 : h0.size ≤ nb73 := Nat.le_trans (Keep.refl h0 [t]).1 S73
  have f74 := (Keep.refl h0 [t]).trans K73 all0
  have f75 := OLD.keep K73 all0
  have f76 := Et.keep K73
  have f77 := F_value.keep K73 nin0
  have f78 := F_coder.keep K73 nin0
  have f79 := Ac.keep K73 nin0
  have zs73 : n0 ≤ h73.size := Nat.le_trans hn0 K73.1
  rcases V73 with ⟨V73, hle⟩ | V73
  · skip
    show Go p e below s n0 _ _ _ (T73.setTop (mkF m 39 _ [(.ref nb73)]))
    refine g_astore X73 hx (pc' := 41) rfl (hD hby d2_39) rfl (l' := #[.val (.ref t), .val (.ref ca), .val (.int 0), .val (.int n'), .val .null, .val (.ref nb73)]) rfl ?_
    refine g_aloadN X73 hx (pc' := 42) rfl (hD hby d2_41) rfl rfl ?_
    refine g_aload X73 hx (pc' := 44) rfl (hD hby d2_42) rfl rfl ?_
    refine g_iloadN X73 hx (pc' := 45) rfl (hD hby d2_44) rfl ?_
    refine g_callS X73 hx hZ hown (wat hw 230 rfl) (wat hw 231 rfl) (wat hw 225 rfl) (wat hw 232 rfl) (by decide) (rm42_0 l Z a0 hw [] n0 (Ts) nb73 cs n' m' h73 zs73 V73 hn hM hm h129 h1) pd_12 rfl rfl (pc' := 48) rfl (hD hby d2_45) (argsL := [(.ref nb73), (.int n')]) (rest := [(.ref t)]) rfl (W := 1) (fun v80 T80 h80 X80 hQ80 => ?_)
    obtain ⟨rfl, he80⟩ := hQ80
    rw [he80] at X80
    show Go p e below s n0 _ _ _ (T80.setTop (mkF m 48 _ [(.int 0), (.ref t)]))
    refine g_putF X80 hx hZ hown (wat hw 21 rfl) Via.refl f78 f76 (Or.inr ⟨(wat hw 17 rfl), rfl, hnm⟩) (wat hw 1 rfl) (ty := .byte) (by decide) rfl rfl hgt (pc' := 51) rfl (hD hby d2_48) (fun T81 h81 X81 W81 => ?_)
    have f82 := (by have q := (Keep.of_wr W81).1; exact Nat.le_trans zs73 q : n0 ≤ h81.size)
    have f83 := f74.wr W81 (Or.inl (List.mem_of_getElem? (i := 0) rfl))
    have f84 := f75.wr W81 hgt
    have f85 := f76.wr W81
    have f86 := f77.other W81 (Or.inr (slot_ne (Or.inr (wat hw 16 rfl)) (Or.inr (wat hw 17 rfl)) (by decide) (t := (.array .byte)) (t' := .byte) (by decide) (by decide)))
    have f87 := f78.same W81
    have f88 := f79.other W81 nA70.symm
    have f89 := V73.other W81 nenb73_t.symm
    refine g_aloadN X81 hx (pc' := 52) rfl (hD hby d2_51) rfl rfl ?_
    refine g_aload X81 hx (pc' := 54) rfl (hD hby d2_52) rfl rfl ?_
    refine g_putF X81 hx hZ hown (wat hw 20 rfl) Via.refl f86 f85 (Or.inr ⟨(wat hw 16 rfl), rfl, hnm⟩) (wat hw 1 rfl) (ty := (.array .byte)) (by decide) rfl rfl hgt (pc' := 57) rfl (hD hby d2_54) (fun T90 h90 X90 W90 => ?_)
    have f91 := (by have q := (Keep.of_wr W90).1; exact Nat.le_trans f82 q : n0 ≤ h90.size)
    have f92 := f83.wr W90 (Or.inl (List.mem_of_getElem? (i := 0) rfl))
    have f93 := f84.wr W90 hgt
    have f94 := f85.wr W90
    have f95 := f86.same W90
    have f96 := f87.other W90 (Or.inr (slot_ne (Or.inr (wat hw 17 rfl)) (Or.inr (wat hw 16 rfl)) (by decide) (t := .byte) (t' := (.array .byte)) (by decide) (by decide)))
    have f97 := f88.other W90 nA70.symm
    have f98 := f89.other W90 nenb73_t.symm
    exact g_retV X90 hx hlk hret (hD hby d2_57) (by decide) (by decide) (Nat.le_refl _) (⟨rfl, f92, ⟨f94, nb73, f95, Or.inl ⟨f96, f98, hle⟩⟩⟩)
  · skip
    show Go p e below s n0 _ _ _ (T73.setTop (mkF m 39 _ [(.ref nb73)]))
    refine g_astore X73 hx (pc' := 41) rfl (hD hby d2_39) rfl (l' := #[.val (.ref t), .val (.ref ca), .val (.int 0), .val (.int n'), .val .null, .val (.ref nb73)]) rfl ?_
    refine g_aloadN X73 hx (pc' := 42) rfl (hD hby d2_41) rfl rfl ?_
    refine g_aload X73 hx (pc' := 44) rfl (hD hby d2_42) rfl rfl ?_
    refine g_iloadN X73 hx (pc' := 45) rfl (hD hby d2_44) rfl ?_
    refine g_callS X73 hx hZ hown (wat hw 230 rfl) (wat hw 231 rfl) (wat hw 225 rfl) (wat hw 232 rfl) (by decide) (rm42_1 l Z a0 hw [] n0 (Ts) nb73 cs n' m' h73 zs73 V73 hn hM hm h129 h1) pd_12 rfl rfl (pc' := 48) rfl (hD hby d2_45) (argsL := [(.ref nb73), (.int n')]) (rest := [(.ref t)]) rfl (W := 1) (fun v99 T99 h99 X99 hQ99 => ?_)
    obtain ⟨rfl, he99⟩ := hQ99
    rw [he99] at X99
    show Go p e below s n0 _ _ _ (T99.setTop (mkF m 48 _ [(.int 1), (.ref t)]))
    refine g_putF X99 hx hZ hown (wat hw 21 rfl) Via.refl f78 f76 (Or.inr ⟨(wat hw 17 rfl), rfl, hnm⟩) (wat hw 1 rfl) (ty := .byte) (by decide) rfl rfl hgt (pc' := 51) rfl (hD hby d2_48) (fun T100 h100 X100 W100 => ?_)
    have f101 := (by have q := (Keep.of_wr W100).1; exact Nat.le_trans zs73 q : n0 ≤ h100.size)
    have f102 := f74.wr W100 (Or.inl (List.mem_of_getElem? (i := 0) rfl))
    have f103 := f75.wr W100 hgt
    have f104 := f76.wr W100
    have f105 := f77.other W100 (Or.inr (slot_ne (Or.inr (wat hw 16 rfl)) (Or.inr (wat hw 17 rfl)) (by decide) (t := (.array .byte)) (t' := .byte) (by decide) (by decide)))
    have f106 := f78.same W100
    have f107 := f79.other W100 nA70.symm
    have f108 := V73.other W100 nenb73_t.symm
    refine g_aloadN X100 hx (pc' := 52) rfl (hD hby d2_51) rfl rfl ?_
    refine g_aload X100 hx (pc' := 54) rfl (hD hby d2_52) rfl rfl ?_
    refine g_putF X100 hx hZ hown (wat hw 20 rfl) Via.refl f105 f104 (Or.inr ⟨(wat hw 16 rfl), rfl, hnm⟩) (wat hw 1 rfl) (ty := (.array .byte)) (by decide) rfl rfl hgt (pc' := 57) rfl (hD hby d2_54) (fun T109 h109 X109 W109 => ?_)
    have f110 := (by have q := (Keep.of_wr W109).1; exact Nat.le_trans f101 q : n0 ≤ h109.size)
    have f111 := f102.wr W109 (Or.inl (List.mem_of_getElem? (i := 0) rfl))
    have f112 := f103.wr W109 hgt
    have f113 := f104.wr W109
    have f114 := f105.same W109
    have f115 := f106.other W109 (Or.inr (slot_ne (Or.inr (wat hw 17 rfl)) (Or.inr (wat hw 16 rfl)) (by decide) (t := .byte) (t' := (.array .byte)) (by decide) (by decide)))
    have f116 := f107.other W109 nA70.symm
    have f117 := f108.other W109 nenb73_t.symm
    exact g_retV X109 hx hlk hret (hD hby d2_57) (by decide) (by decide) (Nat.le_refl _) (⟨rfl, f111, ⟨f113, nb73, f114, Or.inr ⟨f115, f117, hcs⟩⟩⟩)
theorem rm1 (l : Launch) (Z : State) (a0 : Array Value) (hw : HW a0 Z) (ws : List Jvm.Cond) (n0 : Nat) (Ts : List String) (t ca : Addr) (cs : List Int32) (n' m' : Int32) (cz : Int32) (h0 : Heap) (hn0 : n0 ≤ h0.size) (U1 : St2 Z (.int 1)) (U2 : St3 Z (.int 0)) (U3 : St4 Z (.int 8)) (O2 : St0 Z (.int cz)) (hcz : ¬ cz = 0) (OLD : OldP Z n0 h0) (hn : n'.toInt = (cs.length : Int)) (hM : m'.toInt = ((2 * cs.length : Nat) : Int)) (hm : n' <<< ((1 : Int32) &&& 31) = m') (h129 : cs.length ≤ 129) (h1 : 1 ≤ cs.length) (hcs : ∀ c ∈ cs, 0 ≤ c.toInt ∧ c.toInt < 65536) (Ac : AV Z h0 ca .char (cs.map Value.int)) (Et : XSt Z h0 t) (hgt : n0 ≤ t) (F_value : SV Z h0 t .null) (F_coder : SC Z h0 t (.int 0)) :
    Con l Z n0 Ts (Ts) (⟨"java/lang/String", "<init>", "([C)V"⟩ : MethodName) jdk_42_method_3_code 2 none ws ({ frames := 5, cells := 2, slots := 387, locals := 136 } : Room) #[(.ref t), (.ref ca)] h0 (fun v h => v = none ∧ Keep h0 h [t] ∧ StrC Z h t cs) := by
  refine con_start (fr0 := fun m => mkF m 0 #[.val (.ref t), .val (.ref ca)] []) ?_
  intro p e s m below meth c T0 hx hZ hby hml hown hnm hret hlk hsh XA
  have X0 := XA n0
  have hlow : n0 ≤ s.heap.size := by rw [hsh]; exact hn0
  replace hown : s.vm.findClass "java/lang/String" = some m.cls := hown
  replace hml : c.maxLocals = 2 := hml
  have nA118 : t ≠ ca := own_neA Et (wat hw 1 rfl) Ac
  refine g_aloadN X0 hx (pc' := 1) rfl (hD hby d1_0) rfl rfl ?_
  refine g_aloadN X0 hx (pc' := 2) rfl (hD hby d1_1) rfl rfl ?_
  refine g_iconst X0 hx (pc' := 3) (z := (0 : Int32)) rfl (hD hby d1_2) rfl ?_
  refine g_aloadN X0 hx (pc' := 4) rfl (hD hby d1_3) rfl rfl ?_
  refine g_alen X0 hx hZ Ac (z := n') (by rw [List.length_map]; exact hn) (pc' := 5) rfl (hD hby d1_4) ?_
  refine g_aconst_null X0 hx (pc' := 6) rfl (hD hby d1_5) ?_
  refine g_callI X0 hx hZ hown rfl (wat hw 7 rfl) (wat hw 8 rfl) (wat hw 2 rfl) (wat hw 10 rfl) (by decide) (a := t) (rm2 l Z a0 hw [] n0 (Ts) t ca cs n' m' cz h0 hn0 U1 U2 U3 O2 hcz OLD hn hM hm h129 h1 hcs Ac Et hgt F_value F_coder) pd_13 rfl rfl (pc' := 9) rfl (hD hby d1_6) (argsL := [(.ref ca), (.int 0), (.int n'), .null]) (rest := []) rfl (W := 0) (fun v119 T119 h119 X119 hQ119 => ?_)
  obtain ⟨rfl, K119, SS119⟩ := hQ119
  have f120 := (Keep.refl h0 [t]).trans K119 (allS (Or.inl (List.mem_of_getElem? (i := 0) rfl)) all0)
  have f121 := OLD.keep K119 (allS hgt all0)
  have f122 := Et.keep K119
  have f123 := Ac.keep K119 (ninS nA118.symm nin0)
  have zs119 : n0 ≤ h119.size := Nat.le_trans hn0 K119.1
  show Go p e below s n0 _ _ _ (T119.setTop (mkF m 9 _ []))
  exact g_retV X119 hx hlk hret (hD hby d1_9) (by decide) (by decide) (Nat.le_refl _) (⟨rfl, f120, SS119⟩)
theorem rm2_e (l : Launch) (Z : State) (a0 : Array Value) (hw : HW a0 Z) (ws : List Jvm.Cond) (n0 : Nat) (Ts : List String) (t ca : Addr) (cz : Int32) (h0 : Heap) (hn0 : n0 ≤ h0.size) (hcw : Jvm.Lit.compactW.before a0 Z = true) (hkc : ∀ q ∈ consts_1, Jvm.Lit.constHeld Z q.1 q.2) (O2 : St0 Z (.int cz)) (hcz : ¬ cz = 0) (OLD : OldP Z n0 h0) (hT : "" ∉ Ts) (Et : XSt Z h0 t) (hgt : n0 ≤ t) (F_value : SV Z h0 t .null) (F_coder : SC Z h0 t (.int 0)) :
    Con l Z n0 Ts ("" :: Ts) (⟨"java/lang/String", "<init>", "([CIILjava/lang/Void;)V"⟩ : MethodName) jdk_42_method_149_code 6 none ws ({ frames := 1, cells := 2, slots := 4, locals := 16 } : Room) #[(.ref t), (.ref ca), (.int 0), (.int 0), .null] h0 (fun v h => v = none ∧ Keep h0 h [t] ∧ StrC Z h t []) := by
  refine con_start (fr0 := fun m => mkF m 0 #[.val (.ref t), .val (.ref ca), .val (.int 0), .val (.int 0), .val .null, .unset] []) ?_
  intro p e s m below meth c T0 hx hZ hby hml hown hnm hret hlk hsh XA
  have X0 := XA s.heap.size
  have hlow : n0 ≤ s.heap.size := by rw [hsh]; exact hn0
  replace hown : s.vm.findClass "java/lang/String" = some m.cls := hown
  replace hml : c.maxLocals = 6 := hml
  refine g_aloadN X0 hx (pc' := 1) rfl (hD hby d2_0) rfl rfl ?_
  refine g_initO X0 hx hZ hown (wat hw 11 rfl) (wat hw 12 rfl) (wat hw 13 rfl) (by rw [hml]; rfl) (pc' := 4) rfl (hD hby d2_1) (by decide) (W := 0) (Nat.le_of_eq rfl) (by decide) (fun T124 X124 => ?_)
  show Go p e below s n0 _ _ _ (T124.setTop (mkF m 4 _ []))
  refine g_iloadN X124 hx (pc' := 5) rfl (hD hby d2_4) rfl ?_
  refine g_ifN X124 hx (pcN := 8) (hD hby d2_5) rfl (show ¬ (¬ (0 : Int32) = 0) from by decide) ?_
  refine g_aloadN X124 hx (pc' := 9) rfl (hD hby d2_8) rfl rfl ?_
  refine g_ldcS X124 hx hZ hown (wat hw 14 rfl) (own_wS hw) (fun b cl q => by rw [hsh]; exact OLD.2.2 b cl q) hT (hkc ("java/lang/String", 7) (by simp [consts_1])) hcw (vs := []) ⟨by decide, rfl⟩ (by decide) (pc' := 11) rfl (hD hby d2_9) (n := 0) (by decide) (by decide) (by decide) (by decide) (fun T125 h125 a125 b125 XX125 E125 EX125 FC125 FV125 AB125 WH125 => ?_)
  have X125 := XX125.low hlow
  have f126 := Et.ext E125
  have f127 := F_value.ext E125
  have f128 := F_coder.ext E125
  have f129 := (Keep.refl h0 [t]).ext E125
  have Zs125 : n0 ≤ h125.size := Nat.le_trans hn0 E125.1
  have f130 := OLD.ext E125
  show Go p e below s n0 _ _ _ (T125.setTop (mkF m 11 _ [(.ref a125), (.ref t)]))
  have ne_ta : t ≠ a125 := own_fne f127 FV125
  have nA131 : t ≠ b125 := own_neA f126 (wat hw 1 rfl) AB125
  refine g_getF X125 hx hZ hown (wat hw 20 rfl) Via.refl FV125 (pc' := 14) rfl (hD hby d2_11) (fun T132 X132 => ?_)
  refine g_putF X132 hx hZ hown (wat hw 20 rfl) Via.refl f127 f126 (Or.inr ⟨(wat hw 16 rfl), rfl, hnm⟩) (wat hw 1 rfl) (ty := (.array .byte)) (by decide) rfl rfl hgt (pc' := 17) rfl (hD hby d2_14) (fun T133 h133 X133 W133 => ?_)
  have f134 := (by have q := (Keep.of_wr W133).1; exact Nat.le_trans Zs125 q : n0 ≤ h133.size)
  have f135 := f129.wr W133 (Or.inl (List.mem_of_getElem? (i := 0) rfl))
  have f136 := f130.wr W133 hgt
  have f137 := f126.wr W133
  have f138 := f127.same W133
  have f139 := f128.other W133 (Or.inr (slot_ne (Or.inr (wat hw 17 rfl)) (Or.inr (wat hw 16 rfl)) (by decide) (t := .byte) (t' := (.array .byte)) (by decide) (by decide)))
  have f140 := EX125.wr W133
  have f141 := FC125.other W133 (Or.inl ne_ta.symm)
  have f142 := FV125.other W133 (Or.inl ne_ta.symm)
  have f143 := AB125.other W133 nA131.symm
  refine g_aloadN X133 hx (pc' := 18) rfl (hD hby d2_17) rfl rfl ?_
  refine g_ldcA X133 hx hZ hown (wat hw 14 rfl) (a := a125) (List.mem_of_getElem? (i := 0) rfl) (pc' := 20) rfl (hD hby d2_18) ?_
  refine g_getF X133 hx hZ hown (wat hw 21 rfl) Via.refl f141 (pc' := 23) rfl (hD hby d2_20) (fun T145 X145 => ?_)
  refine g_putF X145 hx hZ hown (wat hw 21 rfl) Via.refl f139 f137 (Or.inr ⟨(wat hw 17 rfl), rfl, hnm⟩) (wat hw 1 rfl) (ty := .byte) (by decide) rfl rfl hgt (pc' := 26) rfl (hD hby d2_23) (fun T146 h146 X146 W146 => ?_)
  have f147 := (by have q := (Keep.of_wr W146).1; exact Nat.le_trans f134 q : n0 ≤ h146.size)
  have f148 := f135.wr W146 (Or.inl (List.mem_of_getElem? (i := 0) rfl))
  have f149 := f136.wr W146 hgt
  have f150 := f137.wr W146
  have f151 := f138.other W146 (Or.inr (slot_ne (Or.inr (wat hw 16 rfl)) (Or.inr (wat hw 17 rfl)) (by decide) (t := (.array .byte)) (t' := .byte) (by decide) (by decide)))
  have f152 := f139.same W146
  have f153 := f140.wr W146
  have f154 := f141.other W146 (Or.inl ne_ta.symm)
  have f155 := f142.other W146 (Or.inl ne_ta.symm)
  have f156 := f143.other W146 nA131.symm
  exact g_retV X146 hx hlk hret (hD hby d2_26) (by decide) (by decide) (Nat.le_refl _) (⟨rfl, f148, ⟨f150, b125, f151, Or.inl ⟨f152, f156, fun c hc => absurd hc List.not_mem_nil⟩⟩⟩)
theorem rm1_e (l : Launch) (Z : State) (a0 : Array Value) (hw : HW a0 Z) (ws : List Jvm.Cond) (n0 : Nat) (Ts : List String) (t ca : Addr) (cz : Int32) (h0 : Heap) (hn0 : n0 ≤ h0.size) (hcw : Jvm.Lit.compactW.before a0 Z = true) (hkc : ∀ q ∈ consts_1, Jvm.Lit.constHeld Z q.1 q.2) (O2 : St0 Z (.int cz)) (hcz : ¬ cz = 0) (OLD : OldP Z n0 h0) (hT : "" ∉ Ts) (Et : XSt Z h0 t) (hgt : n0 ≤ t) (F_value : SV Z h0 t .null) (F_coder : SC Z h0 t (.int 0)) (Ac : AV Z h0 ca .char []) :
    Con l Z n0 Ts ("" :: Ts) (⟨"java/lang/String", "<init>", "([C)V"⟩ : MethodName) jdk_42_method_3_code 2 none ws ({ frames := 2, cells := 2, slots := 4, locals := 48 } : Room) #[(.ref t), (.ref ca)] h0 (fun v h => v = none ∧ Keep h0 h [t] ∧ StrC Z h t []) := by
  refine con_start (fr0 := fun m => mkF m 0 #[.val (.ref t), .val (.ref ca)] []) ?_
  intro p e s m below meth c T0 hx hZ hby hml hown hnm hret hlk hsh XA
  have X0 := XA n0
  have hlow : n0 ≤ s.heap.size := by rw [hsh]; exact hn0
  replace hown : s.vm.findClass "java/lang/String" = some m.cls := hown
  replace hml : c.maxLocals = 2 := hml
  have nA157 : t ≠ ca := own_neA Et (wat hw 1 rfl) Ac
  refine g_aloadN X0 hx (pc' := 1) rfl (hD hby d1_0) rfl rfl ?_
  refine g_aloadN X0 hx (pc' := 2) rfl (hD hby d1_1) rfl rfl ?_
  refine g_iconst X0 hx (pc' := 3) (z := (0 : Int32)) rfl (hD hby d1_2) rfl ?_
  refine g_aloadN X0 hx (pc' := 4) rfl (hD hby d1_3) rfl rfl ?_
  refine g_alen X0 hx hZ Ac (z := (0 : Int32)) rfl (pc' := 5) rfl (hD hby d1_4) ?_
  refine g_aconst_null X0 hx (pc' := 6) rfl (hD hby d1_5) ?_
  refine g_callI X0 hx hZ hown rfl (wat hw 7 rfl) (wat hw 8 rfl) (wat hw 2 rfl) (wat hw 10 rfl) (by decide) (a := t) (rm2_e l Z a0 hw [] n0 (Ts) t ca cz h0 hn0 hcw hkc O2 hcz OLD hT Et hgt F_value F_coder) pd_13 rfl rfl (pc' := 9) rfl (hD hby d1_6) (argsL := [(.ref ca), (.int 0), (.int 0), .null]) (rest := []) rfl (W := 0) (fun v158 T158 h158 X158 hQ158 => ?_)
  obtain ⟨rfl, K158, SS158⟩ := hQ158
  have f159 := (Keep.refl h0 [t]).trans K158 (allS (Or.inl (List.mem_of_getElem? (i := 0) rfl)) all0)
  have f160 := OLD.keep K158 (allS hgt all0)
  have f161 := Et.keep K158
  have f162 := Ac.keep K158 (ninS nA157.symm nin0)
  have zs158 : n0 ≤ h158.size := Nat.le_trans hn0 K158.1
  show Go p e below s n0 _ _ _ (T158.setTop (mkF m 9 _ []))
  exact g_retV X158 hx hlk hret (hD hby d1_9) (by decide) (by decide) (Nat.le_refl _) (⟨rfl, f159, SS158⟩)
theorem rm58_1 (l : Launch) (Z : State) (a0 : Array Value) (hw : HW a0 Z) (ws : List Jvm.Cond) (n0 : Nat) (Ts : List String) (c' : Int32) (h0 : Heap) (hn0 : n0 ≤ h0.size) (hc : ¬ (255 : Int32) < c') :
    Con l Z n0 Ts (Ts) (⟨"java/lang/StringLatin1", "canEncode", "(C)Z"⟩ : MethodName) jdk_43_method_3_code 1 (some .boolean) ws ({ frames := 0, cells := 0, slots := 0, locals := 0 } : Room) #[(.int c')] h0 (fun v h => v = some (.int 1) ∧ h = h0) := by
  refine con_start (fr0 := fun m => mkF m 0 #[.val (.int c')] []) ?_
  intro p e s m below meth c T0 hx hZ hby hml hown hnm hret hlk hsh XA
  have X0 := XA n0
  have hlow : n0 ≤ s.heap.size := by rw [hsh]; exact hn0
  replace hown : s.vm.findClass "java/lang/StringLatin1" = some m.cls := hown
  replace hml : c.maxLocals = 1 := hml
  refine g_iloadN X0 hx (pc' := 1) rfl (hD hby d58_0) rfl ?_
  refine g_sipush X0 hx (pc' := 4) (z := (255 : Int32)) rfl (hD hby d58_1) rfl ?_
  refine g_icmpN X0 hx (pcN := 7) (hD hby d58_4) rfl (show ¬ ((255 : Int32) < c') from hc) ?_
  refine g_iconst X0 hx (pc' := 8) (z := (1 : Int32)) rfl (hD hby d58_7) rfl ?_
  refine g_goto X0 hx (pc' := 12) (hD hby d58_8) (by decide) (by decide) ?_
  exact g_retZ X0 hx hlk hret (by first | exact Or.inl rfl | exact Or.inr rfl) (hD hby d58_12) (by decide) (by decide) (Nat.le_refl _) (⟨rfl, rfl⟩)
theorem rm58_0 (l : Launch) (Z : State) (a0 : Array Value) (hw : HW a0 Z) (ws : List Jvm.Cond) (n0 : Nat) (Ts : List String) (c' : Int32) (h0 : Heap) (hn0 : n0 ≤ h0.size) (hc : (255 : Int32) < c') :
    Con l Z n0 Ts (Ts) (⟨"java/lang/StringLatin1", "canEncode", "(C)Z"⟩ : MethodName) jdk_43_method_3_code 1 (some .boolean) ws ({ frames := 0, cells := 0, slots := 0, locals := 0 } : Room) #[(.int c')] h0 (fun v h => v = some (.int 0) ∧ h = h0) := by
  refine con_start (fr0 := fun m => mkF m 0 #[.val (.int c')] []) ?_
  intro p e s m below meth c T0 hx hZ hby hml hown hnm hret hlk hsh XA
  have X0 := XA n0
  have hlow : n0 ≤ s.heap.size := by rw [hsh]; exact hn0
  replace hown : s.vm.findClass "java/lang/StringLatin1" = some m.cls := hown
  replace hml : c.maxLocals = 1 := hml
  refine g_iloadN X0 hx (pc' := 1) rfl (hD hby d58_0) rfl ?_
  refine g_sipush X0 hx (pc' := 4) (z := (255 : Int32)) rfl (hD hby d58_1) rfl ?_
  refine g_icmpY X0 hx (pcY := 11) (hD hby d58_4) (by decide) (by decide) (show (255 : Int32) < c' from hc) ?_
  refine g_iconst X0 hx (pc' := 12) (z := (0 : Int32)) rfl (hD hby d58_11) rfl ?_
  exact g_retZ X0 hx hlk hret (by first | exact Or.inl rfl | exact Or.inr rfl) (hD hby d58_12) (by decide) (by decide) (Nat.le_refl _) (⟨rfl, rfl⟩)
theorem rm59 (l : Launch) (Z : State) (a0 : Array Value) (hw : HW a0 Z) (ws : List Jvm.Cond) (n0 : Nat) (Ts : List String) (c' : Int32) (h0 : Heap) (hn0 : n0 ≤ h0.size)  :
    Con l Z n0 Ts (Ts) (⟨"java/lang/StringLatin1", "toBytes", "(C)[B"⟩ : MethodName) jdk_43_method_46_code 1 (some (.array .byte)) ws ({ frames := 0, cells := 1, slots := 1, locals := 0 } : Room) #[(.int c')] h0 (fun v h => ∃ nb, v = some (.ref nb) ∧ n0 ≤ nb ∧ h0.size ≤ nb ∧ Keep h0 h [] ∧ AV Z h nb .byte (L1 [c'])) := by
  refine con_start (fr0 := fun m => mkF m 0 #[.val (.int c')] []) ?_
  intro p e s m below meth c T0 hx hZ hby hml hown hnm hret hlk hsh XA
  have X0 := XA n0
  have hlow : n0 ≤ s.heap.size := by rw [hsh]; exact hn0
  replace hown : s.vm.findClass "java/lang/StringLatin1" = some m.cls := hown
  replace hml : c.maxLocals = 1 := hml
  refine g_iconst X0 hx (pc' := 1) (z := (1 : Int32)) rfl (hD hby d59_0) rfl ?_
  refine g_newA X0 hx hZ (aty := .byte) (wat hw 15 rfl) (N := 1) (by decide) (cap := 1) (Nat.le_refl _) (by decide) (pc' := 3) rfl (hD hby d59_1) (by decide) (by decide) (fun T163 h163 a163 ha163 X163 E163 N163 => ?_)
  have sz163 : h0.size ≤ a163 := by rw [ha163]; exact (Keep.refl h0 []).1
  have f164 := (Keep.refl h0 []).ext E163
  have G_a163 : n0 ≤ a163 := by rw [ha163]; exact hn0
  have Zs163 : n0 ≤ h163.size := Nat.le_trans hn0 E163.1
  have V163 : AV Z h163 a163 .byte [.int 0] := N163
  refine g_dup X163 hx (pc' := 4) rfl (hD hby d59_3) rfl ?_
  refine g_iconst X163 hx (pc' := 5) (z := (0 : Int32)) rfl (hD hby d59_4) rfl ?_
  refine g_iloadN X163 hx (pc' := 6) rfl (hD hby d59_5) rfl ?_
  refine g_i2b X163 hx (pc' := 7) rfl (hD hby d59_6) ?_
  refine g_bastore X163 hx hZ V163 (i := 0) (by decide) (show (0 : Nat) < 1 by decide) G_a163 (y := (c').toInt8.toInt32) (nar_i2b _) (pc' := 8) rfl (hD hby d59_7) (fun T165 h165 X165 W165 N165 => ?_)
  have f166 := (by have q := (Keep.of_wr W165).1; exact Nat.le_trans Zs163 q : n0 ≤ h165.size)
  have f167 := f164.wr W165 (Or.inr sz163)
  have V165 : AV Z h165 a163 .byte [.int (c').toInt8.toInt32] := N165
  exact g_ret X165 hx hlk hret rfl (Or.inr (Or.inr (Or.inr (Or.inr ⟨rfl, rfl, rfl⟩)))) (hD hby d59_8) (by decide) (by decide) (Nat.le_refl _) (⟨a163, rfl, G_a163, sz163, f167, V165⟩)
theorem rm61 (l : Launch) (Z : State) (a0 : Array Value) (hw : HW a0 Z) (ws : List Jvm.Cond) (n0 : Nat) (Ts : List String) (c' : Int32) (h0 : Heap) (hn0 : n0 ≤ h0.size) (U1 : St2 Z (.int 1)) (U2 : St3 Z (.int 0)) (U3 : St4 Z (.int 8)) (OLD : OldP Z n0 h0) :
    Con l Z n0 Ts (Ts) (⟨"java/lang/StringUTF16", "toBytes", "(C)[B"⟩ : MethodName) jdk_52_method_24_code 2 (some (.array .byte)) ws ({ frames := 1, cells := 1, slots := 2, locals := 16 } : Room) #[(.int c')] h0 (fun v h => ∃ nb, v = some (.ref nb) ∧ n0 ≤ nb ∧ h0.size ≤ nb ∧ Keep h0 h [] ∧ AV Z h nb .byte (U16 [c'])) := by
  refine con_start (fr0 := fun m => mkF m 0 #[.val (.int c'), .unset] []) ?_
  intro p e s m below meth c T0 hx hZ hby hml hown hnm hret hlk hsh XA
  have X0 := XA n0
  have hlow : n0 ≤ s.heap.size := by rw [hsh]; exact hn0
  replace hown : s.vm.findClass "java/lang/StringUTF16" = some m.cls := hown
  replace hml : c.maxLocals = 2 := hml
  refine g_iconst X0 hx (pc' := 1) (z := (2 : Int32)) rfl (hD hby d61_0) rfl ?_
  refine g_newA X0 hx hZ (aty := .byte) (wat hw 15 rfl) (N := 2) (by decide) (cap := 2) (Nat.le_refl _) (by decide) (pc' := 3) rfl (hD hby d61_1) (by decide) (by decide) (fun T168 h168 a168 ha168 X168 E168 N168 => ?_)
  have sz168 : h0.size ≤ a168 := by rw [ha168]; exact (Keep.refl h0 []).1
  have f169 := (Keep.refl h0 []).ext E168
  have G_a168 : n0 ≤ a168 := by rw [ha168]; exact hn0
  have Zs168 : n0 ≤ h168.size := Nat.le_trans hn0 E168.1
  have f170 := OLD.ext E168
  have V168 : AV Z h168 a168 .byte [.int 0, .int 0] := N168
  refine g_astoreN X168 hx (pc' := 4) rfl (hD hby d61_3) rfl (l' := #[.val (.int c'), .val (.ref a168)]) rfl ?_
  refine g_aloadN X168 hx (pc' := 5) rfl (hD hby d61_4) rfl rfl ?_
  refine g_iconst X168 hx (pc' := 6) (z := (0 : Int32)) rfl (hD hby d61_5) rfl ?_
  refine g_iloadN X168 hx (pc' := 7) rfl (hD hby d61_6) rfl ?_
  refine g_callS X168 hx hZ hown (wat hw 243 rfl) (wat hw 244 rfl) (wat hw 225 rfl) (wat hw 245 rfl) (by decide) (rm46 l Z a0 hw [] n0 (Ts) a168 [.int 0, .int 0] 0 c' 0 h168 Zs168 U1 U2 U3 f170 V168 G_a168 rfl (by decide) (by decide)) pd_8 rfl rfl (pc' := 10) rfl (hD hby d61_7) (argsL := [(.ref a168), (.int 0), (.int c')]) (rest := []) rfl (W := 0) (fun v171 T171 h171 X171 hQ171 => ?_)
  obtain ⟨rfl, K171, V171⟩ := hQ171
  have f172 := f169.trans K171 (allS (Or.inr sz168) all0)
  have f173 := f170.keep K171 (allS G_a168 all0)
  have zs171 : n0 ≤ h171.size := Nat.le_trans Zs168 K171.1
  show Go p e below s n0 _ _ _ (T171.setTop (mkF m 10 _ []))
  refine g_aloadN X171 hx (pc' := 11) rfl (hD hby d61_10) rfl rfl ?_
  exact g_ret X171 hx hlk hret rfl (Or.inr (Or.inr (Or.inr (Or.inr ⟨rfl, rfl, rfl⟩)))) (hD hby d61_11) (by decide) (by decide) (Nat.le_refl _) (⟨a168, rfl, G_a168, sz168, f172, V171⟩)
theorem rm60_0 (l : Launch) (Z : State) (a0 : Array Value) (hw : HW a0 Z) (ws : List Jvm.Cond) (n0 : Nat) (Ts : List String) (t nb : Addr) (h0 : Heap) (hn0 : n0 ≤ h0.size) (Et : XSt Z h0 t) (hgt : n0 ≤ t) (F_value : SV Z h0 t .null) (F_coder : SC Z h0 t (.int 0)) :
    Con l Z n0 Ts (Ts) (⟨"java/lang/String", "<init>", "([BB)V"⟩ : MethodName) jdk_42_method_151_code 3 none ws ({ frames := 1, cells := 0, slots := 0, locals := 16 } : Room) #[(.ref t), (.ref nb), (.int 0)] h0 (fun v h => v = none ∧ Keep h0 h [t] ∧ SV Z h t (.ref nb) ∧ SC Z h t (.int 0)) := by
  refine con_start (fr0 := fun m => mkF m 0 #[.val (.ref t), .val (.ref nb), .val (.int 0)] []) ?_
  intro p e s m below meth c T0 hx hZ hby hml hown hnm hret hlk hsh XA
  have X0 := XA n0
  have hlow : n0 ≤ s.heap.size := by rw [hsh]; exact hn0
  replace hown : s.vm.findClass "java/lang/String" = some m.cls := hown
  replace hml : c.maxLocals = 3 := hml
  refine g_aloadN X0 hx (pc' := 1) rfl (hD hby d60_0) rfl rfl ?_
  refine g_initO X0 hx hZ hown (wat hw 11 rfl) (wat hw 12 rfl) (wat hw 13 rfl) (by rw [hml]; rfl) (pc' := 4) rfl (hD hby d60_1) (by decide) (W := 0) (Nat.le_of_eq rfl) (by decide) (fun T174 X174 => ?_)
  show Go p e below s n0 _ _ _ (T174.setTop (mkF m 4 _ []))
  refine g_aloadN X174 hx (pc' := 5) rfl (hD hby d60_4) rfl rfl ?_
  refine g_aloadN X174 hx (pc' := 6) rfl (hD hby d60_5) rfl rfl ?_
  refine g_putF X174 hx hZ hown (wat hw 20 rfl) Via.refl F_value Et (Or.inr ⟨(wat hw 16 rfl), rfl, hnm⟩) (wat hw 1 rfl) (ty := (.array .byte)) (by decide) rfl rfl hgt (pc' := 9) rfl (hD hby d60_6) (fun T175 h175 X175 W175 => ?_)
  have f176 := (by have q := (Keep.of_wr W175).1; exact Nat.le_trans hn0 q : n0 ≤ h175.size)
  have f177 := (Keep.refl h0 [t]).wr W175 (Or.inl (List.mem_of_getElem? (i := 0) rfl))
  have f178 := Et.wr W175
  have f179 := F_value.same W175
  have f180 := F_coder.other W175 (Or.inr (slot_ne (Or.inr (wat hw 17 rfl)) (Or.inr (wat hw 16 rfl)) (by decide) (t := .byte) (t' := (.array .byte)) (by decide) (by decide)))
  refine g_aloadN X175 hx (pc' := 10) rfl (hD hby d60_9) rfl rfl ?_
  refine g_iloadN X175 hx (pc' := 11) rfl (hD hby d60_10) rfl ?_
  refine g_putF X175 hx hZ hown (wat hw 21 rfl) Via.refl f180 f178 (Or.inr ⟨(wat hw 17 rfl), rfl, hnm⟩) (wat hw 1 rfl) (ty := .byte) (by decide) rfl rfl hgt (pc' := 14) rfl (hD hby d60_11) (fun T181 h181 X181 W181 => ?_)
  have f182 := (by have q := (Keep.of_wr W181).1; exact Nat.le_trans f176 q : n0 ≤ h181.size)
  have f183 := f177.wr W181 (Or.inl (List.mem_of_getElem? (i := 0) rfl))
  have f184 := f178.wr W181
  have f185 := f179.other W181 (Or.inr (slot_ne (Or.inr (wat hw 16 rfl)) (Or.inr (wat hw 17 rfl)) (by decide) (t := (.array .byte)) (t' := .byte) (by decide) (by decide)))
  have f186 := f180.same W181
  exact g_retV X181 hx hlk hret (hD hby d60_14) (by decide) (by decide) (Nat.le_refl _) (⟨rfl, f183, f185, f186⟩)
theorem rm60_1 (l : Launch) (Z : State) (a0 : Array Value) (hw : HW a0 Z) (ws : List Jvm.Cond) (n0 : Nat) (Ts : List String) (t nb : Addr) (h0 : Heap) (hn0 : n0 ≤ h0.size) (Et : XSt Z h0 t) (hgt : n0 ≤ t) (F_value : SV Z h0 t .null) (F_coder : SC Z h0 t (.int 0)) :
    Con l Z n0 Ts (Ts) (⟨"java/lang/String", "<init>", "([BB)V"⟩ : MethodName) jdk_42_method_151_code 3 none ws ({ frames := 1, cells := 0, slots := 0, locals := 16 } : Room) #[(.ref t), (.ref nb), (.int 1)] h0 (fun v h => v = none ∧ Keep h0 h [t] ∧ SV Z h t (.ref nb) ∧ SC Z h t (.int 1)) := by
  refine con_start (fr0 := fun m => mkF m 0 #[.val (.ref t), .val (.ref nb), .val (.int 1)] []) ?_
  intro p e s m below meth c T0 hx hZ hby hml hown hnm hret hlk hsh XA
  have X0 := XA n0
  have hlow : n0 ≤ s.heap.size := by rw [hsh]; exact hn0
  replace hown : s.vm.findClass "java/lang/String" = some m.cls := hown
  replace hml : c.maxLocals = 3 := hml
  refine g_aloadN X0 hx (pc' := 1) rfl (hD hby d60_0) rfl rfl ?_
  refine g_initO X0 hx hZ hown (wat hw 11 rfl) (wat hw 12 rfl) (wat hw 13 rfl) (by rw [hml]; rfl) (pc' := 4) rfl (hD hby d60_1) (by decide) (W := 0) (Nat.le_of_eq rfl) (by decide) (fun T187 X187 => ?_)
  show Go p e below s n0 _ _ _ (T187.setTop (mkF m 4 _ []))
  refine g_aloadN X187 hx (pc' := 5) rfl (hD hby d60_4) rfl rfl ?_
  refine g_aloadN X187 hx (pc' := 6) rfl (hD hby d60_5) rfl rfl ?_
  refine g_putF X187 hx hZ hown (wat hw 20 rfl) Via.refl F_value Et (Or.inr ⟨(wat hw 16 rfl), rfl, hnm⟩) (wat hw 1 rfl) (ty := (.array .byte)) (by decide) rfl rfl hgt (pc' := 9) rfl (hD hby d60_6) (fun T188 h188 X188 W188 => ?_)
  have f189 := (by have q := (Keep.of_wr W188).1; exact Nat.le_trans hn0 q : n0 ≤ h188.size)
  have f190 := (Keep.refl h0 [t]).wr W188 (Or.inl (List.mem_of_getElem? (i := 0) rfl))
  have f191 := Et.wr W188
  have f192 := F_value.same W188
  have f193 := F_coder.other W188 (Or.inr (slot_ne (Or.inr (wat hw 17 rfl)) (Or.inr (wat hw 16 rfl)) (by decide) (t := .byte) (t' := (.array .byte)) (by decide) (by decide)))
  refine g_aloadN X188 hx (pc' := 10) rfl (hD hby d60_9) rfl rfl ?_
  refine g_iloadN X188 hx (pc' := 11) rfl (hD hby d60_10) rfl ?_
  refine g_putF X188 hx hZ hown (wat hw 21 rfl) Via.refl f193 f191 (Or.inr ⟨(wat hw 17 rfl), rfl, hnm⟩) (wat hw 1 rfl) (ty := .byte) (by decide) rfl rfl hgt (pc' := 14) rfl (hD hby d60_11) (fun T194 h194 X194 W194 => ?_)
  have f195 := (by have q := (Keep.of_wr W194).1; exact Nat.le_trans f189 q : n0 ≤ h194.size)
  have f196 := f190.wr W194 (Or.inl (List.mem_of_getElem? (i := 0) rfl))
  have f197 := f191.wr W194
  have f198 := f192.other W194 (Or.inr (slot_ne (Or.inr (wat hw 16 rfl)) (Or.inr (wat hw 17 rfl)) (by decide) (t := (.array .byte)) (t' := .byte) (by decide) (by decide)))
  have f199 := f193.same W194
  exact g_retV X194 hx hlk hret (hD hby d60_14) (by decide) (by decide) (Nat.le_refl _) (⟨rfl, f196, f198, f199⟩)
theorem own_sg {c' : Int32} {P : Int32 → Prop} (h : P c') : ∀ c ∈ [c'], P c := fun c hc => by rw [List.mem_singleton.mp hc]; exact h
theorem rm57 (l : Launch) (Z : State) (a0 : Array Value) (hw : HW a0 Z) (ws : List Jvm.Cond) (n0 : Nat) (Ts : List String) (c' : Int32) (cz : Int32) (h0 : Heap) (hn0 : n0 ≤ h0.size) (U1 : St2 Z (.int 1)) (U2 : St3 Z (.int 0)) (U3 : St4 Z (.int 8)) (O2 : St0 Z (.int cz)) (hcz : ¬ cz = 0) (OLD : OldP Z n0 h0) (hc0 : 0 ≤ c'.toInt ∧ c'.toInt < 65536) :
    Con l Z n0 Ts (Ts) (⟨"java/lang/String", "valueOf", "(C)Ljava/lang/String;"⟩ : MethodName) jdk_42_method_139_code 1 (some (.object "java/lang/String")) ws ({ frames := 2, cells := 2, slots := 6, locals := 48 } : Room) #[(.int c')] h0 (fun v h => ∃ t, v = some (.ref t) ∧ n0 ≤ t ∧ Keep h0 h [] ∧ StrC Z h t [c']) := by
  refine con_start (fr0 := fun m => mkF m 0 #[.val (.int c')] []) ?_
  intro p e s m below meth c T0 hx hZ hby hml hown hnm hret hlk hsh XA
  have X0 := XA n0
  have hlow : n0 ≤ s.heap.size := by rw [hsh]; exact hn0
  replace hown : s.vm.findClass "java/lang/String" = some m.cls := hown
  replace hml : c.maxLocals = 1 := hml
  have hcs : ∀ c ∈ [c'], 0 ≤ c.toInt ∧ c.toInt < 65536 := own_sg hc0
  by_cases hc : (255 : Int32) < c'
  · skip
    refine g_getS X0 hx hZ hown (wat hw 84 rfl) Via.refl (Sta.ext OLD.2 O2) (pc' := 3) rfl (hD hby d57_0) (fun T200 X200 => ?_)
    refine g_ifN X200 hx (pcN := 6) (hD hby d57_3) rfl (show ¬ (cz = 0) from hcz) ?_
    refine g_iloadN X200 hx (pc' := 7) rfl (hD hby d57_6) rfl ?_
    refine g_callS X200 hx hZ hown (wat hw 290 rfl) (wat hw 291 rfl) (wat hw 210 rfl) (wat hw 292 rfl) (by decide) (rm58_0 l Z a0 hw [] n0 (Ts) c' h0 hn0 hc) pd_14 rfl rfl (pc' := 10) rfl (hD hby d57_7) (argsL := [(.int c')]) (rest := []) rfl (W := 0) (fun v201 T201 h201 X201 hQ201 => ?_)
    obtain ⟨rfl, he201⟩ := hQ201
    rw [he201] at X201
    show Go p e below s n0 _ _ _ (T201.setTop (mkF m 10 _ [(.int 0)]))
    refine g_ifY X201 hx (pcY := 26) (hD hby d57_10) (by decide) (by decide) (show (0 : Int32) = 0 from by decide) ?_
    refine g_newO X201 hx hZ hown (wat hw 293 rfl) (wat hw 1 rfl) (wat hw 2 rfl) (pc' := 29) rfl (hD hby d57_26) (by decide) (by decide) (fun T202 h202 a202 ha202 X202 E202 A202 D202 => ?_)
    have sz202 : h0.size ≤ a202 := by rw [ha202]; exact (Keep.refl h0 []).1
    have f203 := (Keep.refl h0 []).ext E202
    have G_a202 : n0 ≤ a202 := by rw [ha202]; exact hn0
    have Zs202 : n0 ≤ h202.size := Nat.le_trans hn0 E202.1
    have f204 := OLD.ext E202
    have F202_value : SV Z h202 a202 .null := D202 (Or.inr (wat hw 16 rfl)) (ty := (.array .byte)) (by decide)
    have F202_coder : SC Z h202 a202 (.int 0) := D202 (Or.inr (wat hw 17 rfl)) (ty := .byte) (by decide)
    refine g_dup X202 hx (pc' := 30) rfl (hD hby d57_29) rfl ?_
    refine g_iloadN X202 hx (pc' := 31) rfl (hD hby d57_30) rfl ?_
    refine g_callS X202 hx hZ hown (wat hw 300 rfl) (wat hw 301 rfl) (wat hw 225 rfl) (wat hw 302 rfl) (by decide) (rm61 l Z a0 hw [] n0 (Ts) c' h202 Zs202 U1 U2 U3 f204) pd_15 rfl rfl (pc' := 34) rfl (hD hby d57_31) (argsL := [(.int c')]) (rest := [(.ref a202), (.ref a202)]) rfl (W := 2) (fun v205 T205 h205 X205 hQ205 => ?_)
    obtain ⟨nb205, rfl, Gnb205, S205, K205, V205⟩ := hQ205
    have nenb205_a202 : a202 ≠ nb205 := Nat.ne_of_lt (Nat.lt_of_lt_of_le A202.lt S205)
    have sznb205 : h0.size ≤ nb205 := Nat.le_trans f203.1 S205
    have f206 := f203.trans K205 all0
    have f207 := f204.keep K205 all0
    have f208 := A202.keep K205
    have f209 := F202_value.keep K205 nin0
    have f210 := F202_coder.keep K205 nin0
    have zs205 : n0 ≤ h205.size := Nat.le_trans Zs202 K205.1
    show Go p e below s n0 _ _ _ (T205.setTop (mkF m 34 _ [(.ref nb205), (.ref a202), (.ref a202)]))
    refine g_iconst X205 hx (pc' := 35) (z := (1 : Int32)) rfl (hD hby d57_34) rfl ?_
    refine g_callI X205 hx hZ hown rfl (wat hw 297 rfl) (wat hw 298 rfl) (wat hw 2 rfl) (wat hw 299 rfl) (by decide) (a := a202) (rm60_1 l Z a0 hw [] n0 (Ts) a202 nb205 h205 zs205 f208 G_a202 f209 f210) pd_16 rfl rfl (pc' := 38) rfl (hD hby d57_35) (argsL := [(.ref nb205), (.int 1)]) (rest := [(.ref a202)]) rfl (W := 1) (fun v211 T211 h211 X211 hQ211 => ?_)
    obtain ⟨rfl, K211, FV211, FC211⟩ := hQ211
    have f212 := f206.trans K211 (allS (Or.inr sz202) all0)
    have f213 := f207.keep K211 (allS G_a202 all0)
    have f214 := f208.keep K211
    have f215 := V205.keep K211 (ninS nenb205_a202.symm nin0)
    have zs211 : n0 ≤ h211.size := Nat.le_trans zs205 K211.1
    show Go p e below s n0 _ _ _ (T211.setTop (mkF m 38 _ [(.ref a202)]))
    exact g_ret X211 hx hlk hret rfl (Or.inr (Or.inr (Or.inr (Or.inr ⟨rfl, rfl, rfl⟩)))) (hD hby d57_38) (by decide) (by decide) (Nat.le_refl _) (⟨a202, rfl, G_a202, f212, ⟨f214, nb205, FV211, Or.inr ⟨FC211, f215, hcs⟩⟩⟩)
  · skip
    have hle : ∀ c ∈ [c'], 0 ≤ c.toInt ∧ c.toInt ≤ 255 := own_sg ⟨hc0.1, own_255' hc⟩
    refine g_getS X0 hx hZ hown (wat hw 84 rfl) Via.refl (Sta.ext OLD.2 O2) (pc' := 3) rfl (hD hby d57_0) (fun T216 X216 => ?_)
    refine g_ifN X216 hx (pcN := 6) (hD hby d57_3) rfl (show ¬ (cz = 0) from hcz) ?_
    refine g_iloadN X216 hx (pc' := 7) rfl (hD hby d57_6) rfl ?_
    refine g_callS X216 hx hZ hown (wat hw 290 rfl) (wat hw 291 rfl) (wat hw 210 rfl) (wat hw 292 rfl) (by decide) (rm58_1 l Z a0 hw [] n0 (Ts) c' h0 hn0 hc) pd_14 rfl rfl (pc' := 10) rfl (hD hby d57_7) (argsL := [(.int c')]) (rest := []) rfl (W := 0) (fun v217 T217 h217 X217 hQ217 => ?_)
    obtain ⟨rfl, he217⟩ := hQ217
    rw [he217] at X217
    show Go p e below s n0 _ _ _ (T217.setTop (mkF m 10 _ [(.int 1)]))
    refine g_ifN X217 hx (pcN := 13) (hD hby d57_10) rfl (show ¬ ((1 : Int32) = 0) from by decide) ?_
    refine g_newO X217 hx hZ hown (wat hw 293 rfl) (wat hw 1 rfl) (wat hw 2 rfl) (pc' := 16) rfl (hD hby d57_13) (by decide) (by decide) (fun T218 h218 a218 ha218 X218 E218 A218 D218 => ?_)
    have sz218 : h0.size ≤ a218 := by rw [ha218]; exact (Keep.refl h0 []).1
    have f219 := (Keep.refl h0 []).ext E218
    have G_a218 : n0 ≤ a218 := by rw [ha218]; exact hn0
    have Zs218 : n0 ≤ h218.size := Nat.le_trans hn0 E218.1
    have f220 := OLD.ext E218
    have F218_value : SV Z h218 a218 .null := D218 (Or.inr (wat hw 16 rfl)) (ty := (.array .byte)) (by decide)
    have F218_coder : SC Z h218 a218 (.int 0) := D218 (Or.inr (wat hw 17 rfl)) (ty := .byte) (by decide)
    refine g_dup X218 hx (pc' := 17) rfl (hD hby d57_16) rfl ?_
    refine g_iloadN X218 hx (pc' := 18) rfl (hD hby d57_17) rfl ?_
    refine g_callS X218 hx hZ hown (wat hw 294 rfl) (wat hw 295 rfl) (wat hw 210 rfl) (wat hw 296 rfl) (by decide) (rm59 l Z a0 hw [] n0 (Ts) c' h218 Zs218 ) pd_15 rfl rfl (pc' := 21) rfl (hD hby d57_18) (argsL := [(.int c')]) (rest := [(.ref a218), (.ref a218)]) rfl (W := 2) (fun v221 T221 h221 X221 hQ221 => ?_)
    obtain ⟨nb221, rfl, Gnb221, S221, K221, V221⟩ := hQ221
    have nenb221_a218 : a218 ≠ nb221 := Nat.ne_of_lt (Nat.lt_of_lt_of_le A218.lt S221)
    have sznb221 : h0.size ≤ nb221 := Nat.le_trans f219.1 S221
    have f222 := f219.trans K221 all0
    have f223 := f220.keep K221 all0
    have f224 := A218.keep K221
    have f225 := F218_value.keep K221 nin0
    have f226 := F218_coder.keep K221 nin0
    have zs221 : n0 ≤ h221.size := Nat.le_trans Zs218 K221.1
    show Go p e below s n0 _ _ _ (T221.setTop (mkF m 21 _ [(.ref nb221), (.ref a218), (.ref a218)]))
    refine g_iconst X221 hx (pc' := 22) (z := (0 : Int32)) rfl (hD hby d57_21) rfl ?_
    refine g_callI X221 hx hZ hown rfl (wat hw 297 rfl) (wat hw 298 rfl) (wat hw 2 rfl) (wat hw 299 rfl) (by decide) (a := a218) (rm60_0 l Z a0 hw [] n0 (Ts) a218 nb221 h221 zs221 f224 G_a218 f225 f226) pd_16 rfl rfl (pc' := 25) rfl (hD hby d57_22) (argsL := [(.ref nb221), (.int 0)]) (rest := [(.ref a218)]) rfl (W := 1) (fun v227 T227 h227 X227 hQ227 => ?_)
    obtain ⟨rfl, K227, FV227, FC227⟩ := hQ227
    have f228 := f222.trans K227 (allS (Or.inr sz218) all0)
    have f229 := f223.keep K227 (allS G_a218 all0)
    have f230 := f224.keep K227
    have f231 := V221.keep K227 (ninS nenb221_a218.symm nin0)
    have zs227 : n0 ≤ h227.size := Nat.le_trans zs221 K227.1
    show Go p e below s n0 _ _ _ (T227.setTop (mkF m 25 _ [(.ref a218)]))
    exact g_ret X227 hx hlk hret rfl (Or.inr (Or.inr (Or.inr (Or.inr ⟨rfl, rfl, rfl⟩)))) (hD hby d57_25) (by decide) (by decide) (Nat.le_refl _) (⟨a218, rfl, G_a218, f228, ⟨f230, nb221, FV227, Or.inl ⟨FC227, f231, hle⟩⟩⟩)
theorem rm6 (l : Launch) (Z : State) (a0 : Array Value) (hw : HW a0 Z) (ws : List Jvm.Cond) (n0 : Nat) (Ts : List String) (t : Addr) (cz : Int32) (h0 : Heap) (hn0 : n0 ≤ h0.size) (O2 : St0 Z (.int cz)) (hcz : ¬ cz = 0) (OLD : OldP Z n0 h0) (Et : XSb Z h0 t) (hgt : n0 ≤ t) (F_value : BV Z h0 t .null) (F_coder : BC Z h0 t (.int 0)) (F_count : BN Z h0 t (.int 0)) (F_maybeLatin1 : BM Z h0 t (.int 0)) :
    Con l Z n0 Ts (Ts) (⟨"java/lang/AbstractStringBuilder", "<init>", "(I)V"⟩ : MethodName) jdk_68_method_2_code 2 none ws ({ frames := 1, cells := 1, slots := 16, locals := 16 } : Room) #[(.ref t), (.int 16)] h0 (fun v h => v = none ∧ Keep h0 h [t] ∧ ∃ va, n0 ≤ va ∧ h0.size ≤ va ∧ AV Z h va .byte (List.replicate 16 (Value.int 0)) ∧ BV Z h t (.ref va) ∧ BC Z h t (.int 0) ∧ BN Z h t (.int 0) ∧ BM Z h t (.int 0)) := by
  refine con_start (fr0 := fun m => mkF m 0 #[.val (.ref t), .val (.int 16)] []) ?_
  intro p e s m below meth c T0 hx hZ hby hml hown hnm hret hlk hsh XA
  have X0 := XA n0
  have hlow : n0 ≤ s.heap.size := by rw [hsh]; exact hn0
  replace hown : s.vm.findClass "java/lang/AbstractStringBuilder" = some m.cls := hown
  replace hml : c.maxLocals = 2 := hml
  refine g_aloadN X0 hx (pc' := 1) rfl (hD hby d6_0) rfl rfl ?_
  refine g_initO X0 hx hZ hown (wat hw 38 rfl) (wat hw 12 rfl) (wat hw 13 rfl) (by rw [hml]; rfl) (pc' := 4) rfl (hD hby d6_1) (by decide) (W := 0) (Nat.le_of_eq rfl) (by decide) (fun T232 X232 => ?_)
  show Go p e below s n0 _ _ _ (T232.setTop (mkF m 4 _ []))
  refine g_getS X232 hx hZ hown (wat hw 39 rfl) Via.refl (Sta.ext OLD.2 O2) (pc' := 7) rfl (hD hby d6_4) (fun T233 X233 => ?_)
  refine g_ifN X233 hx (pcN := 10) (hD hby d6_7) rfl (show ¬ (cz = 0) from hcz) ?_
  refine g_aloadN X233 hx (pc' := 11) rfl (hD hby d6_10) rfl rfl ?_
  refine g_iloadN X233 hx (pc' := 12) rfl (hD hby d6_11) rfl ?_
  refine g_newA X233 hx hZ (aty := .byte) (wat hw 15 rfl) (n := (16 : Int32)) (N := 16) rfl (cap := 16) (Nat.le_refl _) (by decide) (pc' := 14) rfl (hD hby d6_12) (by decide) (by decide) (fun T234 h234 a234 ha234 X234 E234 N234 => ?_)
  have ne234_t : t ≠ a234 := by rw [ha234]; exact Nat.ne_of_lt Et.lt
  have f235 := Et.ext E234
  have f236 := F_value.ext E234
  have f237 := F_coder.ext E234
  have f238 := F_count.ext E234
  have f239 := F_maybeLatin1.ext E234
  have sz234 : h0.size ≤ a234 := by rw [ha234]; exact (Keep.refl h0 [t]).1
  have f240 := (Keep.refl h0 [t]).ext E234
  have G_a234 : n0 ≤ a234 := by rw [ha234]; exact hn0
  have Zs234 : n0 ≤ h234.size := Nat.le_trans hn0 E234.1
  have f241 := OLD.ext E234
  have V234 : AV Z h234 a234 .byte (List.replicate 16 (Value.int 0)) := N234
  refine g_putF X234 hx hZ hown (wat hw 40 rfl) Via.refl f236 f235 (Or.inl (wat hw 41 rfl)) (wat hw 27 rfl) (ty := (.array .byte)) (by decide) rfl rfl hgt (pc' := 17) rfl (hD hby d6_14) (fun T242 h242 X242 W242 => ?_)
  have f243 := (by have q := (Keep.of_wr W242).1; exact Nat.le_trans Zs234 q : n0 ≤ h242.size)
  have f244 := f240.wr W242 (Or.inl (List.mem_of_getElem? (i := 0) rfl))
  have f245 := f241.wr W242 hgt
  have f246 := f235.wr W242
  have f247 := f236.same W242
  have f248 := f237.other W242 (Or.inr (slot_ne (Or.inl (wat hw 43 rfl)) (Or.inl (wat hw 41 rfl)) (by decide) (t := .byte) (t' := (.array .byte)) (by decide) (by decide)))
  have f249 := f238.other W242 (Or.inr (slot_ne (Or.inl (wat hw 86 rfl)) (Or.inl (wat hw 41 rfl)) (by decide) (t := .int) (t' := (.array .byte)) (by decide) (by decide)))
  have f250 := f239.other W242 (Or.inr (slot_ne (Or.inl (wat hw 279 rfl)) (Or.inl (wat hw 41 rfl)) (by decide) (t := .boolean) (t' := (.array .byte)) (by decide) (by decide)))
  have f251 := V234.other W242 ne234_t.symm
  refine g_aloadN X242 hx (pc' := 18) rfl (hD hby d6_17) rfl rfl ?_
  refine g_iconst X242 hx (pc' := 19) (z := (0 : Int32)) rfl (hD hby d6_18) rfl ?_
  refine g_putF X242 hx hZ hown (wat hw 42 rfl) Via.refl f248 f246 (Or.inl (wat hw 43 rfl)) (wat hw 27 rfl) (ty := .byte) (by decide) rfl rfl hgt (pc' := 22) rfl (hD hby d6_19) (fun T252 h252 X252 W252 => ?_)
  have f253 := (by have q := (Keep.of_wr W252).1; exact Nat.le_trans f243 q : n0 ≤ h252.size)
  have f254 := f244.wr W252 (Or.inl (List.mem_of_getElem? (i := 0) rfl))
  have f255 := f245.wr W252 hgt
  have f256 := f246.wr W252
  have f257 := f247.other W252 (Or.inr (slot_ne (Or.inl (wat hw 41 rfl)) (Or.inl (wat hw 43 rfl)) (by decide) (t := (.array .byte)) (t' := .byte) (by decide) (by decide)))
  have f258 := f248.same W252
  have f259 := f249.other W252 (Or.inr (slot_ne (Or.inl (wat hw 86 rfl)) (Or.inl (wat hw 43 rfl)) (by decide) (t := .int) (t' := .byte) (by decide) (by decide)))
  have f260 := f250.other W252 (Or.inr (slot_ne (Or.inl (wat hw 279 rfl)) (Or.inl (wat hw 43 rfl)) (by decide) (t := .boolean) (t' := .byte) (by decide) (by decide)))
  have f261 := f251.other W252 ne234_t.symm
  refine g_goto X252 hx (pc' := 38) (hD hby d6_22) (by decide) (by decide) ?_
  exact g_retV X252 hx hlk hret (hD hby d6_38) (by decide) (by decide) (Nat.le_refl _) (⟨rfl, f254, a234, G_a234, sz234, f261, f257, f258, f259, f260⟩)
theorem rm5 (l : Launch) (Z : State) (a0 : Array Value) (hw : HW a0 Z) (ws : List Jvm.Cond) (n0 : Nat) (Ts : List String) (t : Addr) (cz : Int32) (h0 : Heap) (hn0 : n0 ≤ h0.size) (O2 : St0 Z (.int cz)) (hcz : ¬ cz = 0) (OLD : OldP Z n0 h0) (Et : XSb Z h0 t) (hgt : n0 ≤ t) (F_value : BV Z h0 t .null) (F_coder : BC Z h0 t (.int 0)) (F_count : BN Z h0 t (.int 0)) (F_maybeLatin1 : BM Z h0 t (.int 0)) :
    Con l Z n0 Ts (Ts) (⟨"java/lang/StringBuilder", "<init>", "()V"⟩ : MethodName) jdk_67_method_1_code 1 none ws ({ frames := 2, cells := 1, slots := 16, locals := 32 } : Room) #[(.ref t)] h0 (fun v h => v = none ∧ Keep h0 h [t] ∧ ∃ va, n0 ≤ va ∧ h0.size ≤ va ∧ AV Z h va .byte (List.replicate 16 (Value.int 0)) ∧ BV Z h t (.ref va) ∧ BC Z h t (.int 0) ∧ BN Z h t (.int 0) ∧ BM Z h t (.int 0)) := by
  refine con_start (fr0 := fun m => mkF m 0 #[.val (.ref t)] []) ?_
  intro p e s m below meth c T0 hx hZ hby hml hown hnm hret hlk hsh XA
  have X0 := XA n0
  have hlow : n0 ≤ s.heap.size := by rw [hsh]; exact hn0
  replace hown : s.vm.findClass "java/lang/StringBuilder" = some m.cls := hown
  replace hml : c.maxLocals = 1 := hml
  refine g_aloadN X0 hx (pc' := 1) rfl (hD hby d5_0) rfl rfl ?_
  refine g_bipush X0 hx (pc' := 3) (z := (16 : Int32)) rfl (hD hby d5_1) rfl ?_
  refine g_callI X0 hx hZ hown rfl (wat hw 32 rfl) (wat hw 33 rfl) (wat hw 36 rfl) (wat hw 37 rfl) (by decide) (a := t) (rm6 l Z a0 hw [] n0 (Ts) t cz h0 hn0 O2 hcz OLD Et hgt F_value F_coder F_count F_maybeLatin1) pd_17 rfl rfl (pc' := 6) rfl (hD hby d5_3) (argsL := [(.int 16)]) (rest := []) rfl (W := 0) (fun v262 T262 h262 X262 hQ262 => ?_)
  obtain ⟨rfl, K262, va262, Gva262, S262, V262, FV262, FC262, FN262, FM262⟩ := hQ262
  have neva262_t : t ≠ va262 := Nat.ne_of_lt (Nat.lt_of_lt_of_le Et.lt S262)
  have szva262 : h0.size ≤ va262 := Nat.le_trans (Keep.refl h0 [t]).1 S262
  have f263 := (Keep.refl h0 [t]).trans K262 (allS (Or.inl (List.mem_of_getElem? (i := 0) rfl)) all0)
  have f264 := OLD.keep K262 (allS hgt all0)
  have f265 := Et.keep K262
  have zs262 : n0 ≤ h262.size := Nat.le_trans hn0 K262.1
  show Go p e below s n0 _ _ _ (T262.setTop (mkF m 6 _ []))
  exact g_retV X262 hx hlk hret (hD hby d5_6) (by decide) (by decide) (Nat.le_refl _) (⟨rfl, f263, va262, Gva262, szva262, V262, FV262, FC262, FN262, FM262⟩)
theorem rm31 (l : Launch) (Z : State) (a0 : Array Value) (hw : HW a0 Z) (ws : List Jvm.Cond) (n0 : Nat) (Ts : List String) (g' p' mx : Int32) (h0 : Heap) (hn0 : n0 ≤ h0.size) (e7 : (if g' < p' then p' else g') = mx) :
    Con l Z n0 Ts (Ts) (⟨"java/lang/Math", "max", "(II)I"⟩ : MethodName) jdk_29_method_65_code 2 (some .int) ws ({ frames := 0, cells := 0, slots := 0, locals := 0 } : Room) #[(.int g'), (.int p')] h0 (fun v h => v = some (.int mx) ∧ h = h0) := by
  refine con_start (hpl := (Jvm.Free.JP.mathPlain rfl (by decide +kernel))) (fr0 := fun m => mkF m 0 #[.val (.int g'), .val (.int p')] []) ?_
  intro p e s m below meth c T0 hx hZ hby hml hown hnm hret hlk hsh XA
  have X0 := XA n0
  have hlow : n0 ≤ s.heap.size := by rw [hsh]; exact hn0
  replace hown : s.vm.findClass "java/lang/Math" = some m.cls := hown
  replace hml : c.maxLocals = 2 := hml
  refine g_iloadN X0 hx (pc' := 1) rfl (hD hby d31_0) rfl ?_
  refine g_iloadN X0 hx (pc' := 2) rfl (hD hby d31_1) rfl ?_
  refine g_icmp X0 hx (pcY := 9) (pcN := 5) (hD hby d31_2) (by decide) (by decide) rfl (fun hc2 => ?_) (fun hc2 => ?_)
  · replace hc2 : g' < p' := hc2
    refine g_iloadN X0 hx (pc' := 10) rfl (hD hby d31_9) rfl ?_
    exact g_retI X0 hx hlk hret (hD hby d31_10) (by decide) (by decide) (Nat.le_refl _) (⟨by rw [← e7, if_pos hc2], rfl⟩)
  · replace hc2 : ¬ g' < p' := hc2
    refine g_iloadN X0 hx (pc' := 6) rfl (hD hby d31_5) rfl ?_
    refine g_goto X0 hx (pc' := 10) (hD hby d31_6) (by decide) (by decide) ?_
    exact g_retI X0 hx hlk hret (hD hby d31_10) (by decide) (by decide) (Nat.le_refl _) (⟨by rw [← e7, if_neg hc2], rfl⟩)
theorem rm30 (l : Launch) (Z : State) (a0 : Array Value) (hw : HW a0 Z) (ws : List Jvm.Cond) (n0 : Nat) (Ts : List String) (cap' g' p' mx nl' : Int32) (h0 : Heap) (hn0 : n0 ≤ h0.size) (e7 : (if g' < p' then p' else g') = mx) (e8 : cap' + mx = nl') (e9 : (0 : Int32) < nl') (e10 : ¬ (2147483639 : Int32) < nl') :
    Con l Z n0 Ts (Ts) (⟨"jdk/internal/util/ArraysSupport", "newLength", "(III)I"⟩ : MethodName) jdk_48_method_27_code 4 (some .int) ws ({ frames := 1, cells := 0, slots := 0, locals := 16 } : Room) #[(.int cap'), (.int g'), (.int p')] h0 (fun v h => v = some (.int nl') ∧ h = h0) := by
  refine con_start (fr0 := fun m => mkF m 0 #[.val (.int cap'), .val (.int g'), .val (.int p'), .unset] []) ?_
  intro p e s m below meth c T0 hx hZ hby hml hown hnm hret hlk hsh XA
  have X0 := XA n0
  have hlow : n0 ≤ s.heap.size := by rw [hsh]; exact hn0
  replace hown : s.vm.findClass "jdk/internal/util/ArraysSupport" = some m.cls := hown
  replace hml : c.maxLocals = 4 := hml
  refine g_iloadN X0 hx (pc' := 1) rfl (hD hby d30_0) rfl ?_
  refine g_iloadN X0 hx (pc' := 2) rfl (hD hby d30_1) rfl ?_
  refine g_iloadN X0 hx (pc' := 3) rfl (hD hby d30_2) rfl ?_
  refine g_callS X0 hx hZ hown (wat hw 175 rfl) (wat hw 176 rfl) (wat hw 159 rfl) (wat hw 177 rfl) (by decide) (rm31 l Z a0 hw [] n0 (Ts) g' p' mx h0 hn0 e7) pd_18 rfl rfl (pc' := 6) rfl (hD hby d30_3) (argsL := [(.int g'), (.int p')]) (rest := [(.int cap')]) rfl (W := 1) (fun v266 T266 h266 X266 hQ266 => ?_)
  obtain ⟨rfl, he266⟩ := hQ266
  rw [he266] at X266
  show Go p e below s n0 _ _ _ (T266.setTop (mkF m 6 _ [(.int mx), (.int cap')]))
  refine g_iadd X266 hx (pc' := 7) rfl (hD hby d30_6) ?_
  refine g_normI (z := nl') e8 ?_
  refine g_istoreN X266 hx (pc' := 8) rfl (hD hby d30_7) (l' := #[.val (.int cap'), .val (.int g'), .val (.int p'), .val (.int nl')]) rfl ?_
  refine g_iconst X266 hx (pc' := 9) (z := (0 : Int32)) rfl (hD hby d30_8) rfl ?_
  refine g_iloadN X266 hx (pc' := 10) rfl (hD hby d30_9) rfl ?_
  refine g_icmpN X266 hx (pcN := 13) (hD hby d30_10) rfl (show ¬ (¬ (0 : Int32) < nl') from not_not_intro e9) ?_
  refine g_iloadN X266 hx (pc' := 14) rfl (hD hby d30_13) rfl ?_
  refine g_ldcI X266 hx hZ hown (wat hw 178 rfl) (pc' := 16) (v := (2147483639 : Int32)) rfl (hD hby d30_14) ?_
  refine g_icmpN X266 hx (pcN := 19) (hD hby d30_16) rfl (show ¬ ((2147483639 : Int32) < nl') from e10) ?_
  refine g_iloadN X266 hx (pc' := 20) rfl (hD hby d30_19) rfl ?_
  exact g_retI X266 hx hlk hret (hD hby d30_20) (by decide) (by decide) (Nat.le_refl _) (⟨rfl, rfl⟩)
theorem rm28_a (l : Launch) (Z : State) (a0 : Array Value) (hw : HW a0 Z) (ws : List Jvm.Cond) (n0 : Nat) (Ts : List String) (cap' nl' : Int32) (h0 : Heap) (hn0 : n0 ≤ h0.size) (e16 : ¬ nl' < cap') :
    Con l Z n0 Ts (Ts) (⟨"java/lang/Math", "min", "(II)I"⟩ : MethodName) jdk_29_method_69_code 2 (some .int) ws ({ frames := 0, cells := 0, slots := 0, locals := 0 } : Room) #[(.int cap'), (.int nl')] h0 (fun v h => v = some (.int cap') ∧ h = h0) := by
  refine con_start (hpl := (Jvm.Free.JP.mathPlain rfl (by decide +kernel))) (fr0 := fun m => mkF m 0 #[.val (.int cap'), .val (.int nl')] []) ?_
  intro p e s m below meth c T0 hx hZ hby hml hown hnm hret hlk hsh XA
  have X0 := XA n0
  have hlow : n0 ≤ s.heap.size := by rw [hsh]; exact hn0
  replace hown : s.vm.findClass "java/lang/Math" = some m.cls := hown
  replace hml : c.maxLocals = 2 := hml
  refine g_iloadN X0 hx (pc' := 1) rfl (hD hby d28_0) rfl ?_
  refine g_iloadN X0 hx (pc' := 2) rfl (hD hby d28_1) rfl ?_
  refine g_icmpN X0 hx (pcN := 5) (hD hby d28_2) rfl (show ¬ (nl' < cap') from e16) ?_
  refine g_iloadN X0 hx (pc' := 6) rfl (hD hby d28_5) rfl ?_
  refine g_goto X0 hx (pc' := 10) (hD hby d28_6) (by decide) (by decide) ?_
  exact g_retI X0 hx hlk hret (hD hby d28_10) (by decide) (by decide) (Nat.le_refl _) (⟨rfl, rfl⟩)
theorem rm28_b (l : Launch) (Z : State) (a0 : Array Value) (hw : HW a0 Z) (ws : List Jvm.Cond) (n0 : Nat) (Ts : List String) (cap' nl' : Int32) (h0 : Heap) (hn0 : n0 ≤ h0.size) (e16 : nl' < cap') :
    Con l Z n0 Ts (Ts) (⟨"java/lang/Math", "min", "(II)I"⟩ : MethodName) jdk_29_method_69_code 2 (some .int) ws ({ frames := 0, cells := 0, slots := 0, locals := 0 } : Room) #[(.int cap'), (.int nl')] h0 (fun v h => v = some (.int nl') ∧ h = h0) := by
  refine con_start (hpl := (Jvm.Free.JP.mathPlain rfl (by decide +kernel))) (fr0 := fun m => mkF m 0 #[.val (.int cap'), .val (.int nl')] []) ?_
  intro p e s m below meth c T0 hx hZ hby hml hown hnm hret hlk hsh XA
  have X0 := XA n0
  have hlow : n0 ≤ s.heap.size := by rw [hsh]; exact hn0
  replace hown : s.vm.findClass "java/lang/Math" = some m.cls := hown
  replace hml : c.maxLocals = 2 := hml
  refine g_iloadN X0 hx (pc' := 1) rfl (hD hby d28_0) rfl ?_
  refine g_iloadN X0 hx (pc' := 2) rfl (hD hby d28_1) rfl ?_
  refine g_icmpY X0 hx (pcY := 9) (hD hby d28_2) (by decide) (by decide) (show nl' < cap' from e16) ?_
  refine g_iloadN X0 hx (pc' := 10) rfl (hD hby d28_9) rfl ?_
  exact g_retI X0 hx hlk hret (hD hby d28_10) (by decide) (by decide) (Nat.le_refl _) (⟨rfl, rfl⟩)
theorem rm29_0 (l : Launch) (Z : State) (a0 : Array Value) (hw : HW a0 Z) (ws : List Jvm.Cond) (n0 : Nat) (Ts : List String) (b va : Addr) (zs : List Value) (n' : Int32) (cap' cc' m' d' a1 g' p' mx nl' nc' : Int32) (nl : Nat) (h0 : Heap) (hn0 : n0 ≤ h0.size) (Fbv : BV Z h0 b (.ref va)) (Fbc : BC Z h0 b (.int 0)) (Fbn : BN Z h0 b (.int n')) (Fbm : BM Z h0 b (.int 0)) (Av : AV Z h0 va .byte zs) (hcap : cap'.toInt = (zs.length : Int)) (e1 : cap' >>> ((0 : Int32) &&& 31) = cc') (e2 : m' - cc' = d') (e3 : (0 : Int32) < d') (e4 : m' <<< ((0 : Int32) &&& 31) = a1) (e5 : a1 - cap' = g') (e6 : cap' + (2 : Int32) = p') (e7 : (if g' < p' then p' else g') = mx) (e8 : cap' + mx = nl') (e9 : (0 : Int32) < nl') (e10 : ¬ (2147483639 : Int32) < nl') (e11 : ¬ nl' = (2147483647 : Int32)) (e12 : nl' >>> ((0 : Int32) &&& 31) = nc') (e13 : nc' <<< ((0 : Int32) &&& 31) = nl') (e14 : nl'.toInt = (nl : Int)) (e15 : ¬ nl' = cap') (e16 : ¬ nl' < cap') (e17 : zs.length ≤ nl) (e18 : nl ≤ 140) :
    Con l Z n0 Ts (Ts) (⟨"java/lang/AbstractStringBuilder", "newCapacity", "(I)I"⟩ : MethodName) jdk_68_method_10_code 6 (some .int) ws ({ frames := 2, cells := 0, slots := 0, locals := 40 } : Room) #[(.ref b), (.int m')] h0 (fun v h => v = some (.int nc') ∧ h = h0) := by
  refine con_start (fr0 := fun m => mkF m 0 #[.val (.ref b), .val (.int m'), .unset, .unset, .unset, .unset] []) ?_
  intro p e s m below meth c T0 hx hZ hby hml hown hnm hret hlk hsh XA
  have X0 := XA n0
  have hlow : n0 ≤ s.heap.size := by rw [hsh]; exact hn0
  replace hown : s.vm.findClass "java/lang/AbstractStringBuilder" = some m.cls := hown
  replace hml : c.maxLocals = 6 := hml
  refine g_aloadN X0 hx (pc' := 1) rfl (hD hby d29_0) rfl rfl ?_
  refine g_getF X0 hx hZ hown (wat hw 40 rfl) Via.refl Fbv (pc' := 4) rfl (hD hby d29_1) (fun T267 X267 => ?_)
  refine g_alen X267 hx hZ Av (z := cap') hcap (pc' := 5) rfl (hD hby d29_4) ?_
  refine g_istoreN X267 hx (pc' := 6) rfl (hD hby d29_5) (l' := #[.val (.ref b), .val (.int m'), .val (.int cap'), .unset, .unset, .unset]) rfl ?_
  refine g_iloadN X267 hx (pc' := 7) rfl (hD hby d29_6) rfl ?_
  refine g_aloadN X267 hx (pc' := 8) rfl (hD hby d29_7) rfl rfl ?_
  refine g_getF X267 hx hZ hown (wat hw 42 rfl) Via.refl Fbc (pc' := 11) rfl (hD hby d29_8) (fun T268 X268 => ?_)
  refine g_ishl X268 hx (pc' := 12) rfl (hD hby d29_11) ?_
  refine g_normI (z := a1) e4 ?_
  refine g_istoreN X268 hx (pc' := 13) rfl (hD hby d29_12) (l' := #[.val (.ref b), .val (.int m'), .val (.int cap'), .val (.int a1), .unset, .unset]) rfl ?_
  refine g_iloadN X268 hx (pc' := 14) rfl (hD hby d29_13) rfl ?_
  refine g_iloadN X268 hx (pc' := 15) rfl (hD hby d29_14) rfl ?_
  refine g_isub X268 hx (pc' := 16) rfl (hD hby d29_15) ?_
  refine g_normI (z := g') e5 ?_
  refine g_istore X268 hx (pc' := 18) rfl (hD hby d29_16) (l' := #[.val (.ref b), .val (.int m'), .val (.int cap'), .val (.int a1), .val (.int g'), .unset]) rfl ?_
  refine g_iloadN X268 hx (pc' := 19) rfl (hD hby d29_18) rfl ?_
  refine g_iload X268 hx (pc' := 21) rfl (hD hby d29_19) rfl ?_
  refine g_iloadN X268 hx (pc' := 22) rfl (hD hby d29_21) rfl ?_
  refine g_iconst X268 hx (pc' := 23) (z := (2 : Int32)) rfl (hD hby d29_22) rfl ?_
  refine g_aloadN X268 hx (pc' := 24) rfl (hD hby d29_23) rfl rfl ?_
  refine g_getF X268 hx hZ hown (wat hw 42 rfl) Via.refl Fbc (pc' := 27) rfl (hD hby d29_24) (fun T269 X269 => ?_)
  refine g_ishl X269 hx (pc' := 28) rfl (hD hby d29_27) ?_
  refine g_normI (z := (2 : Int32)) (by decide) ?_
  refine g_iadd X269 hx (pc' := 29) rfl (hD hby d29_28) ?_
  refine g_normI (z := p') e6 ?_
  refine g_callS X269 hx hZ hown (wat hw 171 rfl) (wat hw 172 rfl) (wat hw 173 rfl) (wat hw 174 rfl) (by decide) (rm30 l Z a0 hw [] n0 (Ts) cap' g' p' mx nl' h0 hn0 e7 e8 e9 e10) pd_19 rfl rfl (pc' := 32) rfl (hD hby d29_29) (argsL := [(.int cap'), (.int g'), (.int p')]) (rest := []) rfl (W := 0) (fun v270 T270 h270 X270 hQ270 => ?_)
  obtain ⟨rfl, he270⟩ := hQ270
  rw [he270] at X270
  show Go p e below s n0 _ _ _ (T270.setTop (mkF m 32 _ [(.int nl')]))
  refine g_istore X270 hx (pc' := 34) rfl (hD hby d29_32) (l' := #[.val (.ref b), .val (.int m'), .val (.int cap'), .val (.int a1), .val (.int g'), .val (.int nl')]) rfl ?_
  refine g_iload X270 hx (pc' := 36) rfl (hD hby d29_34) rfl ?_
  refine g_ldcI X270 hx hZ hown (wat hw 179 rfl) (pc' := 38) (v := (2147483647 : Int32)) rfl (hD hby d29_36) ?_
  refine g_icmpY X270 hx (pcY := 51) (hD hby d29_38) (by decide) (by decide) (show ¬ nl' = (2147483647 : Int32) from e11) ?_
  refine g_iload X270 hx (pc' := 53) rfl (hD hby d29_51) rfl ?_
  refine g_aloadN X270 hx (pc' := 54) rfl (hD hby d29_53) rfl rfl ?_
  refine g_getF X270 hx hZ hown (wat hw 42 rfl) Via.refl Fbc (pc' := 57) rfl (hD hby d29_54) (fun T271 X271 => ?_)
  refine g_ishr X271 hx (pc' := 58) rfl (hD hby d29_57) ?_
  refine g_normI (z := nc') e12 ?_
  exact g_retI X271 hx hlk hret (hD hby d29_58) (by decide) (by decide) (Nat.le_refl _) (⟨rfl, rfl⟩)
theorem rm29_1 (l : Launch) (Z : State) (a0 : Array Value) (hw : HW a0 Z) (ws : List Jvm.Cond) (n0 : Nat) (Ts : List String) (b va : Addr) (zs : List Value) (n' : Int32) (cap' cc' m' d' a1 g' p' mx nl' nc' : Int32) (nl : Nat) (h0 : Heap) (hn0 : n0 ≤ h0.size) (Fbv : BV Z h0 b (.ref va)) (Fbc : BC Z h0 b (.int 1)) (Fbn : BN Z h0 b (.int n')) (Fbm : BM Z h0 b (.int 0)) (Av : AV Z h0 va .byte zs) (hcap : cap'.toInt = (zs.length : Int)) (e1 : cap' >>> ((1 : Int32) &&& 31) = cc') (e2 : m' - cc' = d') (e3 : (0 : Int32) < d') (e4 : m' <<< ((1 : Int32) &&& 31) = a1) (e5 : a1 - cap' = g') (e6 : cap' + (4 : Int32) = p') (e7 : (if g' < p' then p' else g') = mx) (e8 : cap' + mx = nl') (e9 : (0 : Int32) < nl') (e10 : ¬ (2147483639 : Int32) < nl') (e11 : ¬ nl' = (2147483647 : Int32)) (e12 : nl' >>> ((1 : Int32) &&& 31) = nc') (e13 : nc' <<< ((1 : Int32) &&& 31) = nl') (e14 : nl'.toInt = (nl : Int)) (e15 : ¬ nl' = cap') (e16 : ¬ nl' < cap') (e17 : zs.length ≤ nl) (e18 : nl ≤ 140) :
    Con l Z n0 Ts (Ts) (⟨"java/lang/AbstractStringBuilder", "newCapacity", "(I)I"⟩ : MethodName) jdk_68_method_10_code 6 (some .int) ws ({ frames := 2, cells := 0, slots := 0, locals := 40 } : Room) #[(.ref b), (.int m')] h0 (fun v h => v = some (.int nc') ∧ h = h0) := by
  refine con_start (fr0 := fun m => mkF m 0 #[.val (.ref b), .val (.int m'), .unset, .unset, .unset, .unset] []) ?_
  intro p e s m below meth c T0 hx hZ hby hml hown hnm hret hlk hsh XA
  have X0 := XA n0
  have hlow : n0 ≤ s.heap.size := by rw [hsh]; exact hn0
  replace hown : s.vm.findClass "java/lang/AbstractStringBuilder" = some m.cls := hown
  replace hml : c.maxLocals = 6 := hml
  refine g_aloadN X0 hx (pc' := 1) rfl (hD hby d29_0) rfl rfl ?_
  refine g_getF X0 hx hZ hown (wat hw 40 rfl) Via.refl Fbv (pc' := 4) rfl (hD hby d29_1) (fun T272 X272 => ?_)
  refine g_alen X272 hx hZ Av (z := cap') hcap (pc' := 5) rfl (hD hby d29_4) ?_
  refine g_istoreN X272 hx (pc' := 6) rfl (hD hby d29_5) (l' := #[.val (.ref b), .val (.int m'), .val (.int cap'), .unset, .unset, .unset]) rfl ?_
  refine g_iloadN X272 hx (pc' := 7) rfl (hD hby d29_6) rfl ?_
  refine g_aloadN X272 hx (pc' := 8) rfl (hD hby d29_7) rfl rfl ?_
  refine g_getF X272 hx hZ hown (wat hw 42 rfl) Via.refl Fbc (pc' := 11) rfl (hD hby d29_8) (fun T273 X273 => ?_)
  refine g_ishl X273 hx (pc' := 12) rfl (hD hby d29_11) ?_
  refine g_normI (z := a1) e4 ?_
  refine g_istoreN X273 hx (pc' := 13) rfl (hD hby d29_12) (l' := #[.val (.ref b), .val (.int m'), .val (.int cap'), .val (.int a1), .unset, .unset]) rfl ?_
  refine g_iloadN X273 hx (pc' := 14) rfl (hD hby d29_13) rfl ?_
  refine g_iloadN X273 hx (pc' := 15) rfl (hD hby d29_14) rfl ?_
  refine g_isub X273 hx (pc' := 16) rfl (hD hby d29_15) ?_
  refine g_normI (z := g') e5 ?_
  refine g_istore X273 hx (pc' := 18) rfl (hD hby d29_16) (l' := #[.val (.ref b), .val (.int m'), .val (.int cap'), .val (.int a1), .val (.int g'), .unset]) rfl ?_
  refine g_iloadN X273 hx (pc' := 19) rfl (hD hby d29_18) rfl ?_
  refine g_iload X273 hx (pc' := 21) rfl (hD hby d29_19) rfl ?_
  refine g_iloadN X273 hx (pc' := 22) rfl (hD hby d29_21) rfl ?_
  refine g_iconst X273 hx (pc' := 23) (z := (2 : Int32)) rfl (hD hby d29_22) rfl ?_
  refine g_aloadN X273 hx (pc' := 24) rfl (hD hby d29_23) rfl rfl ?_
  refine g_getF X273 hx hZ hown (wat hw 42 rfl) Via.refl Fbc (pc' := 27) rfl (hD hby d29_24) (fun T274 X274 => ?_)
  refine g_ishl X274 hx (pc' := 28) rfl (hD hby d29_27) ?_
  refine g_normI (z := (4 : Int32)) (by decide) ?_
  refine g_iadd X274 hx (pc' := 29) rfl (hD hby d29_28) ?_
  refine g_normI (z := p') e6 ?_
  refine g_callS X274 hx hZ hown (wat hw 171 rfl) (wat hw 172 rfl) (wat hw 173 rfl) (wat hw 174 rfl) (by decide) (rm30 l Z a0 hw [] n0 (Ts) cap' g' p' mx nl' h0 hn0 e7 e8 e9 e10) pd_19 rfl rfl (pc' := 32) rfl (hD hby d29_29) (argsL := [(.int cap'), (.int g'), (.int p')]) (rest := []) rfl (W := 0) (fun v275 T275 h275 X275 hQ275 => ?_)
  obtain ⟨rfl, he275⟩ := hQ275
  rw [he275] at X275
  show Go p e below s n0 _ _ _ (T275.setTop (mkF m 32 _ [(.int nl')]))
  refine g_istore X275 hx (pc' := 34) rfl (hD hby d29_32) (l' := #[.val (.ref b), .val (.int m'), .val (.int cap'), .val (.int a1), .val (.int g'), .val (.int nl')]) rfl ?_
  refine g_iload X275 hx (pc' := 36) rfl (hD hby d29_34) rfl ?_
  refine g_ldcI X275 hx hZ hown (wat hw 179 rfl) (pc' := 38) (v := (2147483647 : Int32)) rfl (hD hby d29_36) ?_
  refine g_icmpY X275 hx (pcY := 51) (hD hby d29_38) (by decide) (by decide) (show ¬ nl' = (2147483647 : Int32) from e11) ?_
  refine g_iload X275 hx (pc' := 53) rfl (hD hby d29_51) rfl ?_
  refine g_aloadN X275 hx (pc' := 54) rfl (hD hby d29_53) rfl rfl ?_
  refine g_getF X275 hx hZ hown (wat hw 42 rfl) Via.refl Fbc (pc' := 57) rfl (hD hby d29_54) (fun T276 X276 => ?_)
  refine g_ishr X276 hx (pc' := 58) rfl (hD hby d29_57) ?_
  refine g_normI (z := nc') e12 ?_
  exact g_retI X276 hx hlk hret (hD hby d29_58) (by decide) (by decide) (Nat.le_refl _) (⟨rfl, rfl⟩)
theorem rm32 (l : Launch) (Z : State) (a0 : Array Value) (hw : HW a0 Z) (ws : List Jvm.Cond) (n0 : Nat) (Ts : List String) (va : Addr) (zs : List Value) (cap' nl' : Int32) (nl : Nat) (h0 : Heap) (hn0 : n0 ≤ h0.size) (Av : AV Z h0 va .byte zs) (hcap : cap'.toInt = (zs.length : Int)) (e14 : nl'.toInt = (nl : Int)) (e15 : ¬ nl' = cap') (e16 : ¬ nl' < cap') (e17 : zs.length ≤ nl) (e18 : nl ≤ 140) :
    Con l Z n0 Ts (Ts) (⟨"java/util/Arrays", "copyOf", "([BI)[B"⟩ : MethodName) jdk_65_method_121_code 3 (some (.array .byte)) ws ({ frames := 1, cells := 1, slots := 140, locals := 32 } : Room) #[(.ref va), (.int nl')] h0 (fun v h => ∃ nb, v = some (.ref nb) ∧ n0 ≤ nb ∧ h0.size ≤ nb ∧ Keep h0 h [] ∧ AV Z h nb .byte (zs ++ List.replicate (nl - zs.length) (Value.int 0)) ∧ Exa Z h nb "[B") := by
  refine con_start (fr0 := fun m => mkF m 0 #[.val (.ref va), .val (.int nl'), .unset] []) ?_
  intro p e s m below meth c T0 hx hZ hby hml hown hnm hret hlk hsh XA
  have X0 := XA n0
  have hlow : n0 ≤ s.heap.size := by rw [hsh]; exact hn0
  replace hown : s.vm.findClass "java/util/Arrays" = some m.cls := hown
  replace hml : c.maxLocals = 3 := hml
  refine g_iloadN X0 hx (pc' := 1) rfl (hD hby d32_0) rfl ?_
  refine g_aloadN X0 hx (pc' := 2) rfl (hD hby d32_1) rfl rfl ?_
  refine g_alen X0 hx hZ Av (z := cap') hcap (pc' := 3) rfl (hD hby d32_2) ?_
  refine g_icmpY X0 hx (pcY := 14) (hD hby d32_3) (by decide) (by decide) (show ¬ nl' = cap' from e15) ?_
  refine g_iloadN X0 hx (pc' := 15) rfl (hD hby d32_14) rfl ?_
  refine g_newAE X0 hx hZ (aty := .byte) (wat hw 15 rfl) (n := nl') (N := nl) e14 (cap := 140) e18 (by decide) (ad := "[B") (by decide) (pc' := 17) rfl (hD hby d32_15) (by decide) (by decide) (fun T277 h277 a277 ha277 X277 E277 N277 EX277 => ?_)
  have ne277_va : va ≠ a277 := by rw [ha277]; exact Nat.ne_of_lt Av.lt
  have f278 := Av.ext E277
  have sz277 : h0.size ≤ a277 := by rw [ha277]; exact (Keep.refl h0 []).1
  have f279 := (Keep.refl h0 []).ext E277
  have G_a277 : n0 ≤ a277 := by rw [ha277]; exact hn0
  have Zs277 : n0 ≤ h277.size := Nat.le_trans hn0 E277.1
  have V277 : AV Z h277 a277 .byte (List.replicate nl (.int 0)) := N277
  refine g_astoreN X277 hx (pc' := 18) rfl (hD hby d32_17) rfl (l' := #[.val (.ref va), .val (.int nl'), .val (.ref a277)]) rfl ?_
  refine g_aloadN X277 hx (pc' := 19) rfl (hD hby d32_18) rfl rfl ?_
  refine g_iconst X277 hx (pc' := 20) (z := (0 : Int32)) rfl (hD hby d32_19) rfl ?_
  refine g_aloadN X277 hx (pc' := 21) rfl (hD hby d32_20) rfl rfl ?_
  refine g_iconst X277 hx (pc' := 22) (z := (0 : Int32)) rfl (hD hby d32_21) rfl ?_
  refine g_aloadN X277 hx (pc' := 23) rfl (hD hby d32_22) rfl rfl ?_
  refine g_alen X277 hx hZ f278 (z := cap') hcap (pc' := 24) rfl (hD hby d32_23) ?_
  refine g_iloadN X277 hx (pc' := 25) rfl (hD hby d32_24) rfl ?_
  refine g_callS X277 hx hZ hown (wat hw 157 rfl) (wat hw 158 rfl) (wat hw 159 rfl) (wat hw 160 rfl) (by decide) (rm28_a l Z a0 hw [] n0 (Ts) cap' nl' h277 Zs277 e16) pd_18 rfl rfl (pc' := 28) rfl (hD hby d32_25) (argsL := [(.int cap'), (.int nl')]) (rest := [(.int 0), (.ref a277), (.int 0), (.ref va)]) rfl (W := 4) (fun v280 T280 h280 X280 hQ280 => ?_)
  obtain ⟨rfl, he280⟩ := hQ280
  rw [he280] at X280
  show Go p e below s n0 _ _ _ (T280.setTop (mkF m 28 _ [(.int cap'), (.int 0), (.ref a277), (.int 0), (.ref va)]))
  refine g_copyP X280 hx hZ hown (wat hw 161 rfl) (wat hw 111 rfl) (wat hw 109 rfl) (wat hw 110 rfl) f278 V277 rfl (i := 0) (j := 0) (n := zs.length) rfl rfl hcap (by omega) (by rw [List.length_replicate]; omega) G_a277 (by rw [hml]; rfl) (pc' := 31) rfl (hD hby d32_28) (by decide) (W := 0) (Nat.le_of_eq rfl) (by decide +kernel) (fun T281 h281 X281 K281 N281 => ?_)
  have f282 := f279.trans K281 (allS (Or.inr sz277) all0)
  have f283 := f278.keep K281 (ninS ne277_va nin0)
  have f284 := EX277.keep K281
  have zs281 : n0 ≤ h281.size := Nat.le_trans Zs277 K281.1
  have V281 : AV Z h281 a277 .byte (zs ++ List.replicate (nl - zs.length) (Value.int 0)) := (by simpa [newarray.typeOf, defaultValue] using N281)
  show Go p e below s n0 _ _ _ (T281.setTop (mkF m 31 _ []))
  refine g_aloadN X281 hx (pc' := 32) rfl (hD hby d32_31) rfl rfl ?_
  exact g_ret X281 hx hlk hret rfl (Or.inr (Or.inr (Or.inr (Or.inr ⟨rfl, rfl, rfl⟩)))) (hD hby d32_32) (by decide) (by decide) (Nat.le_refl _) (⟨a277, rfl, G_a277, sz277, f282, V281, f284⟩)
theorem rm14_g0 (l : Launch) (Z : State) (a0 : Array Value) (hw : HW a0 Z) (ws : List Jvm.Cond) (n0 : Nat) (Ts : List String) (b va : Addr) (zs : List Value) (n' : Int32) (cap' cc' m' d' a1 g' p' mx nl' nc' : Int32) (nl : Nat) (h0 : Heap) (hn0 : n0 ≤ h0.size) (Eb : XSb Z h0 b) (hgb : n0 ≤ b) (Fbv : BV Z h0 b (.ref va)) (Fbc : BC Z h0 b (.int 0)) (Fbn : BN Z h0 b (.int n')) (Fbm : BM Z h0 b (.int 0)) (Av : AV Z h0 va .byte zs) (hcap : cap'.toInt = (zs.length : Int)) (e1 : cap' >>> ((0 : Int32) &&& 31) = cc') (e2 : m' - cc' = d') (e3 : (0 : Int32) < d') (e4 : m' <<< ((0 : Int32) &&& 31) = a1) (e5 : a1 - cap' = g') (e6 : cap' + (2 : Int32) = p') (e7 : (if g' < p' then p' else g') = mx) (e8 : cap' + mx = nl') (e9 : (0 : Int32) < nl') (e10 : ¬ (2147483639 : Int32) < nl') (e11 : ¬ nl' = (2147483647 : Int32)) (e12 : nl' >>> ((0 : Int32) &&& 31) = nc') (e13 : nc' <<< ((0 : Int32) &&& 31) = nl') (e14 : nl'.toInt = (nl : Int)) (e15 : ¬ nl' = cap') (e16 : ¬ nl' < cap') (e17 : zs.length ≤ nl) (e18 : nl ≤ 140) :
    Con l Z n0 Ts (Ts) (⟨"java/lang/AbstractStringBuilder", "ensureCapacityInternal", "(I)V"⟩ : MethodName) jdk_68_method_9_code 3 none ws ({ frames := 3, cells := 1, slots := 140, locals := 72 } : Room) #[(.ref b), (.int m')] h0 (fun v h => v = none ∧ Keep h0 h [b] ∧ ∃ nb, n0 ≤ nb ∧ h0.size ≤ nb ∧ AV Z h nb .byte (zs ++ List.replicate (nl - zs.length) (Value.int 0)) ∧ Exa Z h nb "[B" ∧ BV Z h b (.ref nb) ∧ BC Z h b (.int 0) ∧ BN Z h b (.int n') ∧ BM Z h b (.int 0)) := by
  refine con_start (fr0 := fun m => mkF m 0 #[.val (.ref b), .val (.int m'), .unset] []) ?_
  intro p e s m below meth c T0 hx hZ hby hml hown hnm hret hlk hsh XA
  have X0 := XA n0
  have hlow : n0 ≤ s.heap.size := by rw [hsh]; exact hn0
  replace hown : s.vm.findClass "java/lang/AbstractStringBuilder" = some m.cls := hown
  replace hml : c.maxLocals = 3 := hml
  have nA285 : b ≠ va := own_neA Eb (wat hw 27 rfl) Av
  refine g_aloadN X0 hx (pc' := 1) rfl (hD hby d14_0) rfl rfl ?_
  refine g_getF X0 hx hZ hown (wat hw 40 rfl) Via.refl Fbv (pc' := 4) rfl (hD hby d14_1) (fun T286 X286 => ?_)
  refine g_alen X286 hx hZ Av (z := cap') hcap (pc' := 5) rfl (hD hby d14_4) ?_
  refine g_aloadN X286 hx (pc' := 6) rfl (hD hby d14_5) rfl rfl ?_
  refine g_getF X286 hx hZ hown (wat hw 42 rfl) Via.refl Fbc (pc' := 9) rfl (hD hby d14_6) (fun T287 X287 => ?_)
  refine g_ishr X287 hx (pc' := 10) rfl (hD hby d14_9) ?_
  refine g_normI (z := cc') e1 ?_
  refine g_istoreN X287 hx (pc' := 11) rfl (hD hby d14_10) (l' := #[.val (.ref b), .val (.int m'), .val (.int cc')]) rfl ?_
  refine g_iloadN X287 hx (pc' := 12) rfl (hD hby d14_11) rfl ?_
  refine g_iloadN X287 hx (pc' := 13) rfl (hD hby d14_12) rfl ?_
  refine g_isub X287 hx (pc' := 14) rfl (hD hby d14_13) ?_
  refine g_normI (z := d') e2 ?_
  refine g_ifN X287 hx (pcN := 17) (hD hby d14_14) rfl (show ¬ (¬ 0 < d') from not_not_intro e3) ?_
  refine g_aloadN X287 hx (pc' := 18) rfl (hD hby d14_17) rfl rfl ?_
  refine g_aloadN X287 hx (pc' := 19) rfl (hD hby d14_18) rfl rfl ?_
  refine g_getF X287 hx hZ hown (wat hw 40 rfl) Via.refl Fbv (pc' := 22) rfl (hD hby d14_19) (fun T288 X288 => ?_)
  refine g_aloadN X288 hx (pc' := 23) rfl (hD hby d14_22) rfl rfl ?_
  refine g_iloadN X288 hx (pc' := 24) rfl (hD hby d14_23) rfl ?_
  refine g_callPS X288 hx hZ hown (wat hw 166 rfl) (wat hw 167 rfl) (wat hw 169 rfl) (wat hw 168 rfl) (wat hw 36 rfl) (wat hw 170 rfl) (by decide) (a := b) Eb (rm29_0 l Z a0 hw [] n0 (Ts) b va zs n' cap' cc' m' d' a1 g' p' mx nl' nc' nl h0 hn0 Fbv Fbc Fbn Fbm Av hcap e1 e2 e3 e4 e5 e6 e7 e8 e9 e10 e11 e12 e13 e14 e15 e16 e17 e18) pd_7 rfl rfl (pc' := 27) rfl (hD hby d14_24) (argsL := [(.int m')]) (rest := [(.ref va), (.ref b)]) rfl (W := 2) (fun v289 T289 h289 X289 hQ289 => ?_)
  obtain ⟨rfl, he289⟩ := hQ289
  rw [he289] at X289
  show Go p e below s n0 _ _ _ (T289.setTop (mkF m 27 _ [(.int nc'), (.ref va), (.ref b)]))
  refine g_aloadN X289 hx (pc' := 28) rfl (hD hby d14_27) rfl rfl ?_
  refine g_getF X289 hx hZ hown (wat hw 42 rfl) Via.refl Fbc (pc' := 31) rfl (hD hby d14_28) (fun T290 X290 => ?_)
  refine g_ishl X290 hx (pc' := 32) rfl (hD hby d14_31) ?_
  refine g_normI (z := nl') e13 ?_
  refine g_callS X290 hx hZ hown (wat hw 180 rfl) (wat hw 181 rfl) (wat hw 149 rfl) (wat hw 182 rfl) (by decide) (rm32 l Z a0 hw [] n0 (Ts) va zs cap' nl' nl h0 hn0 Av hcap e14 e15 e16 e17 e18) pd_20 rfl rfl (pc' := 35) rfl (hD hby d14_32) (argsL := [(.ref va), (.int nl')]) (rest := [(.ref b)]) rfl (W := 1) (fun v291 T291 h291 X291 hQ291 => ?_)
  obtain ⟨nb291, rfl, Gnb291, S291, K291, V291, EX291⟩ := hQ291
  have nenb291_b : b ≠ nb291 := Nat.ne_of_lt (Nat.lt_of_lt_of_le Eb.lt S291)
  have nenb291_va : va ≠ nb291 := Nat.ne_of_lt (Nat.lt_of_lt_of_le Av.lt S291)
  have sznb291 : h0.size ≤ nb291 := Nat.le_trans (Keep.refl h0 [b]).1 S291
  have f292 := (Keep.refl h0 [b]).trans K291 all0
  have f293 := Eb.keep K291
  have f294 := Fbv.keep K291 nin0
  have f295 := Fbc.keep K291 nin0
  have f296 := Fbn.keep K291 nin0
  have f297 := Fbm.keep K291 nin0
  have f298 := Av.keep K291 nin0
  have zs291 : n0 ≤ h291.size := Nat.le_trans hn0 K291.1
  show Go p e below s n0 _ _ _ (T291.setTop (mkF m 35 _ [(.ref nb291), (.ref b)]))
  refine g_putF X291 hx hZ hown (wat hw 40 rfl) Via.refl f294 f293 (Or.inl (wat hw 41 rfl)) (wat hw 27 rfl) (ty := (.array .byte)) (by decide) rfl rfl hgb (pc' := 38) rfl (hD hby d14_35) (fun T299 h299 X299 W299 => ?_)
  have f300 := (by have q := (Keep.of_wr W299).1; exact Nat.le_trans zs291 q : n0 ≤ h299.size)
  have f301 := f292.wr W299 (Or.inl (List.mem_of_getElem? (i := 0) rfl))
  have f302 := f293.wr W299
  have f303 := f294.same W299
  have f304 := f295.other W299 (Or.inr (slot_ne (Or.inl (wat hw 43 rfl)) (Or.inl (wat hw 41 rfl)) (by decide) (t := .byte) (t' := (.array .byte)) (by decide) (by decide)))
  have f305 := f296.other W299 (Or.inr (slot_ne (Or.inl (wat hw 86 rfl)) (Or.inl (wat hw 41 rfl)) (by decide) (t := .int) (t' := (.array .byte)) (by decide) (by decide)))
  have f306 := f297.other W299 (Or.inr (slot_ne (Or.inl (wat hw 279 rfl)) (Or.inl (wat hw 41 rfl)) (by decide) (t := .boolean) (t' := (.array .byte)) (by decide) (by decide)))
  have f307 := f298.other W299 nA285.symm
  have f308 := V291.other W299 nenb291_b.symm
  have f309 := EX291.wr W299
  exact g_retV X299 hx hlk hret (hD hby d14_38) (by decide) (by decide) (Nat.le_refl _) (⟨rfl, f301, nb291, Gnb291, sznb291, f308, f309, f303, f304, f305, f306⟩)
theorem rm14_g1 (l : Launch) (Z : State) (a0 : Array Value) (hw : HW a0 Z) (ws : List Jvm.Cond) (n0 : Nat) (Ts : List String) (b va : Addr) (zs : List Value) (n' : Int32) (cap' cc' m' d' a1 g' p' mx nl' nc' : Int32) (nl : Nat) (h0 : Heap) (hn0 : n0 ≤ h0.size) (Eb : XSb Z h0 b) (hgb : n0 ≤ b) (Fbv : BV Z h0 b (.ref va)) (Fbc : BC Z h0 b (.int 1)) (Fbn : BN Z h0 b (.int n')) (Fbm : BM Z h0 b (.int 0)) (Av : AV Z h0 va .byte zs) (hcap : cap'.toInt = (zs.length : Int)) (e1 : cap' >>> ((1 : Int32) &&& 31) = cc') (e2 : m' - cc' = d') (e3 : (0 : Int32) < d') (e4 : m' <<< ((1 : Int32) &&& 31) = a1) (e5 : a1 - cap' = g') (e6 : cap' + (4 : Int32) = p') (e7 : (if g' < p' then p' else g') = mx) (e8 : cap' + mx = nl') (e9 : (0 : Int32) < nl') (e10 : ¬ (2147483639 : Int32) < nl') (e11 : ¬ nl' = (2147483647 : Int32)) (e12 : nl' >>> ((1 : Int32) &&& 31) = nc') (e13 : nc' <<< ((1 : Int32) &&& 31) = nl') (e14 : nl'.toInt = (nl : Int)) (e15 : ¬ nl' = cap') (e16 : ¬ nl' < cap') (e17 : zs.length ≤ nl) (e18 : nl ≤ 140) :
    Con l Z n0 Ts (Ts) (⟨"java/lang/AbstractStringBuilder", "ensureCapacityInternal", "(I)V"⟩ : MethodName) jdk_68_method_9_code 3 none ws ({ frames := 3, cells := 1, slots := 140, locals := 72 } : Room) #[(.ref b), (.int m')] h0 (fun v h => v = none ∧ Keep h0 h [b] ∧ ∃ nb, n0 ≤ nb ∧ h0.size ≤ nb ∧ AV Z h nb .byte (zs ++ List.replicate (nl - zs.length) (Value.int 0)) ∧ Exa Z h nb "[B" ∧ BV Z h b (.ref nb) ∧ BC Z h b (.int 1) ∧ BN Z h b (.int n') ∧ BM Z h b (.int 0)) := by
  refine con_start (fr0 := fun m => mkF m 0 #[.val (.ref b), .val (.int m'), .unset] []) ?_
  intro p e s m below meth c T0 hx hZ hby hml hown hnm hret hlk hsh XA
  have X0 := XA n0
  have hlow : n0 ≤ s.heap.size := by rw [hsh]; exact hn0
  replace hown : s.vm.findClass "java/lang/AbstractStringBuilder" = some m.cls := hown
  replace hml : c.maxLocals = 3 := hml
  have nA310 : b ≠ va := own_neA Eb (wat hw 27 rfl) Av
  refine g_aloadN X0 hx (pc' := 1) rfl (hD hby d14_0) rfl rfl ?_
  refine g_getF X0 hx hZ hown (wat hw 40 rfl) Via.refl Fbv (pc' := 4) rfl (hD hby d14_1) (fun T311 X311 => ?_)
  refine g_alen X311 hx hZ Av (z := cap') hcap (pc' := 5) rfl (hD hby d14_4) ?_
  refine g_aloadN X311 hx (pc' := 6) rfl (hD hby d14_5) rfl rfl ?_
  refine g_getF X311 hx hZ hown (wat hw 42 rfl) Via.refl Fbc (pc' := 9) rfl (hD hby d14_6) (fun T312 X312 => ?_)
  refine g_ishr X312 hx (pc' := 10) rfl (hD hby d14_9) ?_
  refine g_normI (z := cc') e1 ?_
  refine g_istoreN X312 hx (pc' := 11) rfl (hD hby d14_10) (l' := #[.val (.ref b), .val (.int m'), .val (.int cc')]) rfl ?_
  refine g_iloadN X312 hx (pc' := 12) rfl (hD hby d14_11) rfl ?_
  refine g_iloadN X312 hx (pc' := 13) rfl (hD hby d14_12) rfl ?_
  refine g_isub X312 hx (pc' := 14) rfl (hD hby d14_13) ?_
  refine g_normI (z := d') e2 ?_
  refine g_ifN X312 hx (pcN := 17) (hD hby d14_14) rfl (show ¬ (¬ 0 < d') from not_not_intro e3) ?_
  refine g_aloadN X312 hx (pc' := 18) rfl (hD hby d14_17) rfl rfl ?_
  refine g_aloadN X312 hx (pc' := 19) rfl (hD hby d14_18) rfl rfl ?_
  refine g_getF X312 hx hZ hown (wat hw 40 rfl) Via.refl Fbv (pc' := 22) rfl (hD hby d14_19) (fun T313 X313 => ?_)
  refine g_aloadN X313 hx (pc' := 23) rfl (hD hby d14_22) rfl rfl ?_
  refine g_iloadN X313 hx (pc' := 24) rfl (hD hby d14_23) rfl ?_
  refine g_callPS X313 hx hZ hown (wat hw 166 rfl) (wat hw 167 rfl) (wat hw 169 rfl) (wat hw 168 rfl) (wat hw 36 rfl) (wat hw 170 rfl) (by decide) (a := b) Eb (rm29_1 l Z a0 hw [] n0 (Ts) b va zs n' cap' cc' m' d' a1 g' p' mx nl' nc' nl h0 hn0 Fbv Fbc Fbn Fbm Av hcap e1 e2 e3 e4 e5 e6 e7 e8 e9 e10 e11 e12 e13 e14 e15 e16 e17 e18) pd_7 rfl rfl (pc' := 27) rfl (hD hby d14_24) (argsL := [(.int m')]) (rest := [(.ref va), (.ref b)]) rfl (W := 2) (fun v314 T314 h314 X314 hQ314 => ?_)
  obtain ⟨rfl, he314⟩ := hQ314
  rw [he314] at X314
  show Go p e below s n0 _ _ _ (T314.setTop (mkF m 27 _ [(.int nc'), (.ref va), (.ref b)]))
  refine g_aloadN X314 hx (pc' := 28) rfl (hD hby d14_27) rfl rfl ?_
  refine g_getF X314 hx hZ hown (wat hw 42 rfl) Via.refl Fbc (pc' := 31) rfl (hD hby d14_28) (fun T315 X315 => ?_)
  refine g_ishl X315 hx (pc' := 32) rfl (hD hby d14_31) ?_
  refine g_normI (z := nl') e13 ?_
  refine g_callS X315 hx hZ hown (wat hw 180 rfl) (wat hw 181 rfl) (wat hw 149 rfl) (wat hw 182 rfl) (by decide) (rm32 l Z a0 hw [] n0 (Ts) va zs cap' nl' nl h0 hn0 Av hcap e14 e15 e16 e17 e18) pd_20 rfl rfl (pc' := 35) rfl (hD hby d14_32) (argsL := [(.ref va), (.int nl')]) (rest := [(.ref b)]) rfl (W := 1) (fun v316 T316 h316 X316 hQ316 => ?_)
  obtain ⟨nb316, rfl, Gnb316, S316, K316, V316, EX316⟩ := hQ316
  have nenb316_b : b ≠ nb316 := Nat.ne_of_lt (Nat.lt_of_lt_of_le Eb.lt S316)
  have nenb316_va : va ≠ nb316 := Nat.ne_of_lt (Nat.lt_of_lt_of_le Av.lt S316)
  have sznb316 : h0.size ≤ nb316 := Nat.le_trans (Keep.refl h0 [b]).1 S316
  have f317 := (Keep.refl h0 [b]).trans K316 all0
  have f318 := Eb.keep K316
  have f319 := Fbv.keep K316 nin0
  have f320 := Fbc.keep K316 nin0
  have f321 := Fbn.keep K316 nin0
  have f322 := Fbm.keep K316 nin0
  have f323 := Av.keep K316 nin0
  have zs316 : n0 ≤ h316.size := Nat.le_trans hn0 K316.1
  show Go p e below s n0 _ _ _ (T316.setTop (mkF m 35 _ [(.ref nb316), (.ref b)]))
  refine g_putF X316 hx hZ hown (wat hw 40 rfl) Via.refl f319 f318 (Or.inl (wat hw 41 rfl)) (wat hw 27 rfl) (ty := (.array .byte)) (by decide) rfl rfl hgb (pc' := 38) rfl (hD hby d14_35) (fun T324 h324 X324 W324 => ?_)
  have f325 := (by have q := (Keep.of_wr W324).1; exact Nat.le_trans zs316 q : n0 ≤ h324.size)
  have f326 := f317.wr W324 (Or.inl (List.mem_of_getElem? (i := 0) rfl))
  have f327 := f318.wr W324
  have f328 := f319.same W324
  have f329 := f320.other W324 (Or.inr (slot_ne (Or.inl (wat hw 43 rfl)) (Or.inl (wat hw 41 rfl)) (by decide) (t := .byte) (t' := (.array .byte)) (by decide) (by decide)))
  have f330 := f321.other W324 (Or.inr (slot_ne (Or.inl (wat hw 86 rfl)) (Or.inl (wat hw 41 rfl)) (by decide) (t := .int) (t' := (.array .byte)) (by decide) (by decide)))
  have f331 := f322.other W324 (Or.inr (slot_ne (Or.inl (wat hw 279 rfl)) (Or.inl (wat hw 41 rfl)) (by decide) (t := .boolean) (t' := (.array .byte)) (by decide) (by decide)))
  have f332 := f323.other W324 nA310.symm
  have f333 := V316.other W324 nenb316_b.symm
  have f334 := EX316.wr W324
  exact g_retV X324 hx hlk hret (hD hby d14_38) (by decide) (by decide) (Nat.le_refl _) (⟨rfl, f326, nb316, Gnb316, sznb316, f333, f334, f328, f329, f330, f331⟩)
theorem rm14_n (l : Launch) (Z : State) (a0 : Array Value) (hw : HW a0 Z) (ws : List Jvm.Cond) (n0 : Nat) (Ts : List String) (b va : Addr) (zs : List Value) (n' cap' cc' m' d' : Int32) (h0 : Heap) (hn0 : n0 ≤ h0.size) (Fbv : BV Z h0 b (.ref va)) (Fbc : BC Z h0 b (.int 0)) (Fbn : BN Z h0 b (.int n')) (Fbm : BM Z h0 b (.int 0)) (Av : AV Z h0 va .byte zs) (hcap : cap'.toInt = (zs.length : Int)) (e1 : cap' >>> ((0 : Int32) &&& 31) = cc') (e2 : m' - cc' = d') (e3 : ¬ (0 : Int32) < d') :
    Con l Z n0 Ts (Ts) (⟨"java/lang/AbstractStringBuilder", "ensureCapacityInternal", "(I)V"⟩ : MethodName) jdk_68_method_9_code 3 none ws ({ frames := 0, cells := 0, slots := 0, locals := 0 } : Room) #[(.ref b), (.int m')] h0 (fun v h => v = none ∧ h = h0) := by
  refine con_start (fr0 := fun m => mkF m 0 #[.val (.ref b), .val (.int m'), .unset] []) ?_
  intro p e s m below meth c T0 hx hZ hby hml hown hnm hret hlk hsh XA
  have X0 := XA n0
  have hlow : n0 ≤ s.heap.size := by rw [hsh]; exact hn0
  replace hown : s.vm.findClass "java/lang/AbstractStringBuilder" = some m.cls := hown
  replace hml : c.maxLocals = 3 := hml
  refine g_aloadN X0 hx (pc' := 1) rfl (hD hby d14_0) rfl rfl ?_
  refine g_getF X0 hx hZ hown (wat hw 40 rfl) Via.refl Fbv (pc' := 4) rfl (hD hby d14_1) (fun T335 X335 => ?_)
  refine g_alen X335 hx hZ Av (z := cap') hcap (pc' := 5) rfl (hD hby d14_4) ?_
  refine g_aloadN X335 hx (pc' := 6) rfl (hD hby d14_5) rfl rfl ?_
  refine g_getF X335 hx hZ hown (wat hw 42 rfl) Via.refl Fbc (pc' := 9) rfl (hD hby d14_6) (fun T336 X336 => ?_)
  refine g_ishr X336 hx (pc' := 10) rfl (hD hby d14_9) ?_
  refine g_normI (z := cc') e1 ?_
  refine g_istoreN X336 hx (pc' := 11) rfl (hD hby d14_10) (l' := #[.val (.ref b), .val (.int m'), .val (.int cc')]) rfl ?_
  refine g_iloadN X336 hx (pc' := 12) rfl (hD hby d14_11) rfl ?_
  refine g_iloadN X336 hx (pc' := 13) rfl (hD hby d14_12) rfl ?_
  refine g_isub X336 hx (pc' := 14) rfl (hD hby d14_13) ?_
  refine g_normI (z := d') e2 ?_
  refine g_ifY X336 hx (pcY := 38) (hD hby d14_14) (by decide) (by decide) (show ¬ 0 < d' from e3) ?_
  exact g_retV X336 hx hlk hret (hD hby d14_38) (by decide) (by decide) (Nat.le_refl _) (⟨rfl, rfl⟩)
theorem rm54_r (l : Launch) (Z : State) (a0 : Array Value) (hw : HW a0 Z) (ws : List Jvm.Cond) (n0 : Nat) (Ts : List String) (o' n' l' : Int32) (fo' : Addr) (h0 : Heap) (hn0 : n0 ≤ h0.size) (c1 : ¬ ((l' ||| o') ||| n') < (0 : Int32)) (c2 : ¬ l' - o' < n') :
    Con l Z n0 Ts (Ts) (⟨"jdk/internal/util/Preconditions", "checkFromIndexSize", "(IIILjava/util/function/BiFunction;)I"⟩ : MethodName) jdk_41_method_13_code 4 (some .int) ws ({ frames := 0, cells := 0, slots := 0, locals := 0 } : Room) #[(.int o'), (.int n'), (.int l'), (.ref fo')] h0 (fun v h => v = some (.int o') ∧ h = h0) := by
  refine con_start (fr0 := fun m => mkF m 0 #[.val (.int o'), .val (.int n'), .val (.int l'), .val (.ref fo')] []) ?_
  intro p e s m below meth c T0 hx hZ hby hml hown hnm hret hlk hsh XA
  have X0 := XA n0
  have hlow : n0 ≤ s.heap.size := by rw [hsh]; exact hn0
  replace hown : s.vm.findClass "jdk/internal/util/Preconditions" = some m.cls := hown
  replace hml : c.maxLocals = 4 := hml
  refine g_iloadN X0 hx (pc' := 1) rfl (hD hby d54_0) rfl ?_
  refine g_iloadN X0 hx (pc' := 2) rfl (hD hby d54_1) rfl ?_
  refine g_ior X0 hx (pc' := 3) rfl (hD hby d54_2) ?_
  refine g_iloadN X0 hx (pc' := 4) rfl (hD hby d54_3) rfl ?_
  refine g_ior X0 hx (pc' := 5) rfl (hD hby d54_4) ?_
  refine g_ifN X0 hx (pcN := 8) (hD hby d54_5) rfl (show ¬ (((l' ||| o') ||| n') < 0) from c1) ?_
  refine g_iloadN X0 hx (pc' := 9) rfl (hD hby d54_8) rfl ?_
  refine g_iloadN X0 hx (pc' := 10) rfl (hD hby d54_9) rfl ?_
  refine g_iloadN X0 hx (pc' := 11) rfl (hD hby d54_10) rfl ?_
  refine g_isub X0 hx (pc' := 12) rfl (hD hby d54_11) ?_
  refine g_icmpY X0 hx (pcY := 23) (hD hby d54_12) (by decide) (by decide) (show ¬ (l' - o') < n' from c2) ?_
  refine g_iloadN X0 hx (pc' := 24) rfl (hD hby d54_23) rfl ?_
  exact g_retI X0 hx hlk hret (hD hby d54_24) (by decide) (by decide) (Nat.le_refl _) (⟨rfl, rfl⟩)
theorem rm54_0 (l : Launch) (Z : State) (a0 : Array Value) (hw : HW a0 Z) (ws : List Jvm.Cond) (n0 : Nat) (Ts : List String) (o' n' l' : Int32) (fo' : Addr) (h0 : Heap) (hn0 : n0 ≤ h0.size) (c1 : ¬ ((l' ||| o') ||| n') < (0 : Int32)) (c2 : ¬ l' - o' < n') :
    Con l Z n0 Ts (Ts) (⟨"jdk/internal/util/Preconditions", "checkFromIndexSize", "(IIILjava/util/function/BiFunction;)I"⟩ : MethodName) jdk_41_method_13_code 4 (some .int) ws ({ frames := 0, cells := 0, slots := 0, locals := 0 } : Room) #[(.int o'), (.int n'), (.int l'), .null] h0 (fun v h => v = some (.int o') ∧ h = h0) := by
  refine con_start (fr0 := fun m => mkF m 0 #[.val (.int o'), .val (.int n'), .val (.int l'), .val .null] []) ?_
  intro p e s m below meth c T0 hx hZ hby hml hown hnm hret hlk hsh XA
  have X0 := XA n0
  have hlow : n0 ≤ s.heap.size := by rw [hsh]; exact hn0
  replace hown : s.vm.findClass "jdk/internal/util/Preconditions" = some m.cls := hown
  replace hml : c.maxLocals = 4 := hml
  refine g_iloadN X0 hx (pc' := 1) rfl (hD hby d54_0) rfl ?_
  refine g_iloadN X0 hx (pc' := 2) rfl (hD hby d54_1) rfl ?_
  refine g_ior X0 hx (pc' := 3) rfl (hD hby d54_2) ?_
  refine g_iloadN X0 hx (pc' := 4) rfl (hD hby d54_3) rfl ?_
  refine g_ior X0 hx (pc' := 5) rfl (hD hby d54_4) ?_
  refine g_ifN X0 hx (pcN := 8) (hD hby d54_5) rfl (show ¬ (((l' ||| o') ||| n') < 0) from c1) ?_
  refine g_iloadN X0 hx (pc' := 9) rfl (hD hby d54_8) rfl ?_
  refine g_iloadN X0 hx (pc' := 10) rfl (hD hby d54_9) rfl ?_
  refine g_iloadN X0 hx (pc' := 11) rfl (hD hby d54_10) rfl ?_
  refine g_isub X0 hx (pc' := 12) rfl (hD hby d54_11) ?_
  refine g_icmpY X0 hx (pcY := 23) (hD hby d54_12) (by decide) (by decide) (show ¬ (l' - o') < n' from c2) ?_
  refine g_iloadN X0 hx (pc' := 24) rfl (hD hby d54_23) rfl ?_
  exact g_retI X0 hx hlk hret (hD hby d54_24) (by decide) (by decide) (Nat.le_refl _) (⟨rfl, rfl⟩)
theorem rm53 (l : Launch) (Z : State) (a0 : Array Value) (hw : HW a0 Z) (ws : List Jvm.Cond) (n0 : Nat) (Ts : List String) (o' n' l' : Int32) (fo : Value) (h0 : Heap) (hn0 : n0 ≤ h0.size) (O4 : St1 Z fo) (hfo : fo.isRef = true) (OLD : OldP Z n0 h0) (c1 : ¬ ((l' ||| o') ||| n') < (0 : Int32)) (c2 : ¬ l' - o' < n') :
    Con l Z n0 Ts (Ts) (⟨"java/lang/String", "checkBoundsOffCount", "(III)I"⟩ : MethodName) jdk_42_method_157_code 3 (some .int) ws ({ frames := 1, cells := 0, slots := 0, locals := 16 } : Room) #[(.int o'), (.int n'), (.int l')] h0 (fun v h => v = some (.int o') ∧ h = h0) := by
  refine con_start (fr0 := fun m => mkF m 0 #[.val (.int o'), .val (.int n'), .val (.int l')] []) ?_
  intro p e s m below meth c T0 hx hZ hby hml hown hnm hret hlk hsh XA
  have X0 := XA n0
  have hlow : n0 ≤ s.heap.size := by rw [hsh]; exact hn0
  replace hown : s.vm.findClass "java/lang/String" = some m.cls := hown
  replace hml : c.maxLocals = 3 := hml
  rcases ref_cases hfo with rfl | ⟨fo', rfl⟩
  · skip
    refine g_iloadN X0 hx (pc' := 1) rfl (hD hby d53_0) rfl ?_
    refine g_iloadN X0 hx (pc' := 2) rfl (hD hby d53_1) rfl ?_
    refine g_iloadN X0 hx (pc' := 3) rfl (hD hby d53_2) rfl ?_
    refine g_getS X0 hx hZ hown (wat hw 215 rfl) Via.refl (Sta.ext OLD.2 O4) (pc' := 6) rfl (hD hby d53_3) (fun T337 X337 => ?_)
    refine g_callS X337 hx hZ hown (wat hw 274 rfl) (wat hw 275 rfl) (wat hw 216 rfl) (wat hw 276 rfl) (by decide) (rm54_0 l Z a0 hw [] n0 (Ts) o' n' l' 0 h0 hn0 c1 c2) pd_21 rfl rfl (pc' := 9) rfl (hD hby d53_6) (argsL := [(.int o'), (.int n'), (.int l'), .null]) (rest := []) rfl (W := 0) (fun v338 T338 h338 X338 hQ338 => ?_)
    obtain ⟨rfl, he338⟩ := hQ338
    rw [he338] at X338
    show Go p e below s n0 _ _ _ (T338.setTop (mkF m 9 _ [(.int o')]))
    exact g_retI X338 hx hlk hret (hD hby d53_9) (by decide) (by decide) (Nat.le_refl _) (⟨rfl, rfl⟩)
  · skip
    refine g_iloadN X0 hx (pc' := 1) rfl (hD hby d53_0) rfl ?_
    refine g_iloadN X0 hx (pc' := 2) rfl (hD hby d53_1) rfl ?_
    refine g_iloadN X0 hx (pc' := 3) rfl (hD hby d53_2) rfl ?_
    refine g_getS X0 hx hZ hown (wat hw 215 rfl) Via.refl (Sta.ext OLD.2 O4) (pc' := 6) rfl (hD hby d53_3) (fun T339 X339 => ?_)
    refine g_callS X339 hx hZ hown (wat hw 274 rfl) (wat hw 275 rfl) (wat hw 216 rfl) (wat hw 276 rfl) (by decide) (rm54_r l Z a0 hw [] n0 (Ts) o' n' l' fo' h0 hn0 c1 c2) pd_21 rfl rfl (pc' := 9) rfl (hD hby d53_6) (argsL := [(.int o'), (.int n'), (.int l'), (.ref fo')]) (rest := []) rfl (W := 0) (fun v340 T340 h340 X340 hQ340 => ?_)
    obtain ⟨rfl, he340⟩ := hQ340
    rw [he340] at X340
    show Go p e below s n0 _ _ _ (T340.setTop (mkF m 9 _ [(.int o')]))
    exact g_retI X340 hx hlk hret (hD hby d53_9) (by decide) (by decide) (Nat.le_refl _) (⟨rfl, rfl⟩)
theorem rm51 (l : Launch) (Z : State) (a0 : Array Value) (hw : HW a0 Z) (ws : List Jvm.Cond) (n0 : Nat) (Ts : List String) (ub : Addr) (zs : List Value) (o' n' l' m' : Int32) (fo : Value) (h0 : Heap) (hn0 : n0 ≤ h0.size) (O4 : St1 Z fo) (hfo : fo.isRef = true) (OLD : OldP Z n0 h0) (Ab : AV Z h0 ub .byte zs) (hM : m'.toInt = (zs.length : Int)) (hs : m' >>> ((1 : Int32) &&& 31) = l') (c1 : ¬ ((l' ||| o') ||| n') < (0 : Int32)) (c2 : ¬ l' - o' < n') :
    Con l Z n0 Ts (Ts) (⟨"java/lang/StringUTF16", "checkBoundsOffCount", "(II[B)V"⟩ : MethodName) jdk_52_method_94_code 3 none ws ({ frames := 2, cells := 0, slots := 0, locals := 40 } : Room) #[(.int o'), (.int n'), (.ref ub)] h0 (fun v h => v = none ∧ h = h0) := by
  refine con_start (fr0 := fun m => mkF m 0 #[.val (.int o'), .val (.int n'), .val (.ref ub)] []) ?_
  intro p e s m below meth c T0 hx hZ hby hml hown hnm hret hlk hsh XA
  have X0 := XA n0
  have hlow : n0 ≤ s.heap.size := by rw [hsh]; exact hn0
  replace hown : s.vm.findClass "java/lang/StringUTF16" = some m.cls := hown
  replace hml : c.maxLocals = 3 := hml
  refine g_iloadN X0 hx (pc' := 1) rfl (hD hby d51_0) rfl ?_
  refine g_iloadN X0 hx (pc' := 2) rfl (hD hby d51_1) rfl ?_
  refine g_aloadN X0 hx (pc' := 3) rfl (hD hby d51_2) rfl rfl ?_
  refine g_callS X0 hx hZ hown (wat hw 268 rfl) (wat hw 269 rfl) (wat hw 225 rfl) (wat hw 270 rfl) (by decide) (rm52 l Z a0 hw [] n0 (Ts) ub zs l' m' h0 hn0 Ab hM hs) pd_2 rfl rfl (pc' := 6) rfl (hD hby d51_3) (argsL := [(.ref ub)]) (rest := [(.int n'), (.int o')]) rfl (W := 2) (fun v341 T341 h341 X341 hQ341 => ?_)
  obtain ⟨rfl, he341⟩ := hQ341
  rw [he341] at X341
  show Go p e below s n0 _ _ _ (T341.setTop (mkF m 6 _ [(.int l'), (.int n'), (.int o')]))
  refine g_callS X341 hx hZ hown (wat hw 271 rfl) (wat hw 272 rfl) (wat hw 2 rfl) (wat hw 273 rfl) (by decide) (rm53 l Z a0 hw [] n0 (Ts) o' n' l' fo h0 hn0 O4 hfo OLD c1 c2) pd_19 rfl rfl (pc' := 9) rfl (hD hby d51_6) (argsL := [(.int o'), (.int n'), (.int l')]) (rest := []) rfl (W := 0) (fun v342 T342 h342 X342 hQ342 => ?_)
  obtain ⟨rfl, he342⟩ := hQ342
  rw [he342] at X342
  show Go p e below s n0 _ _ _ (T342.setTop (mkF m 9 _ [(.int o')]))
  refine g_pop X342 hx (pc' := 10) rfl (hD hby d51_9) rfl ?_
  exact g_retV X342 hx hlk hret (hD hby d51_10) (by decide) (by decide) (Nat.le_refl _) (⟨rfl, rfl⟩)
/-- zs with the chars cs laid from place o on, two bytes each, i of them so far -/
def Wd (zs : List Value) (cs : List Int32) (o i : Nat) : List Value := zs.take (2 * o) ++ U16 (cs.take i) ++ zs.drop (2 * o + 2 * i)
theorem Wd_0 (zs : List Value) (cs : List Int32) (o : Nat) : Wd zs cs o 0 = zs := by simp [Wd, U16]
theorem Wd_len {zs : List Value} {cs : List Int32} {o i : Nat} (hi : i ≤ cs.length) (h : 2 * o + 2 * i ≤ zs.length) : (Wd zs cs o i).length = zs.length := by
  simp only [Wd, List.length_append, List.length_take, U16_len, List.length_drop]; omega
theorem Wd_step {zs : List Value} {cs : List Int32} {o i : Nat} (hi : i < cs.length) (h : 2 * o + 2 * i + 1 < zs.length) : ((Wd zs cs o i).set (2 * (o + i)) (.int ((cs.getD i 0) >>> ((0 : Int32) &&& 31)).toInt8.toInt32)).set (2 * (o + i) + 1) (.int ((cs.getD i 0) >>> ((8 : Int32) &&& 31)).toInt8.toInt32) = Wd zs cs o (i + 1) := by
  have e1 : (zs.take (2 * o) ++ U16 (cs.take i)).length = 2 * o + 2 * i := by simp only [List.length_append, List.length_take, U16_len]; omega
  obtain ⟨x, y, r, e2⟩ : ∃ x y r, zs.drop (2 * o + 2 * i) = x :: y :: r := by
    rcases q : zs.drop (2 * o + 2 * i) with _ | ⟨x, _ | ⟨y, r⟩⟩
    · have := congrArg List.length q; simp at this; omega
    · have := congrArg List.length q; simp at this; omega
    · exact ⟨x, y, r, rfl⟩
  have e3 : zs.drop (2 * o + 2 * (i + 1)) = r := by
    rw [show 2 * o + 2 * (i + 1) = (2 * o + 2 * i) + 2 by omega, ← List.drop_drop, e2]; rfl
  unfold Wd
  rw [e2, e3, List.set_append_right _ _ (by omega), e1, show 2 * (o + i) - (2 * o + 2 * i) = 0 by omega, List.set_cons_zero, List.set_append_right _ _ (by omega), e1, show 2 * (o + i) + 1 - (2 * o + 2 * i) = 1 by omega, List.set_cons_succ, List.set_cons_zero, ← List.take_append_getElem hi, U16_app]
  simp [U16, List.getD_eq_getElem?_getD, hi]
theorem own_b2 {c : Int32} (h : 0 ≤ c.toInt ∧ c.toInt ≤ 255) : (c.toInt8.toInt32 &&& (255 : Int32)) = c := ar_b h.1 h.2
theorem lp50 (l : Launch) (Z : State) (a0 : Array Value) (hw : HW a0 Z) (n0 : Nat) (Ts : List String) (sa ub : Addr) (ys zs : List Value) (cs : List Int32) (o' n' : Int32) (o : Nat) {h0 : Heap} {p : Program} {e : Env} {s : State} {m : MethodId} {below : List Frame} {meth : Method} {c : Code} (hx : p.tables.exec = Jvm.exec) (hZ : Z.Warmed39 s.vm) (hby : c.code = jdk_52_method_86_code) (hml : c.maxLocals = 6) (hown : s.vm.findClass "java/lang/StringUTF16" = some m.cls) (hret : meth.sig.returnType = none) (hlk : meth.locks = false) (U1 : St2 Z (.int 1)) (U2 : St3 Z (.int 0)) (U3 : St4 Z (.int 8)) (hg : ∀ i, i < cs.length → ys.getD i .null = .int (cs.getD i 0).toInt8.toInt32) (hyl : cs.length ≤ ys.length) (hcs : ∀ c ∈ cs, 0 ≤ c.toInt ∧ c.toInt ≤ 255) (hn : n'.toInt = (cs.length : Int)) (ho : o'.toInt = (o : Int)) (hb : 2 * o + 2 * cs.length ≤ zs.length) (hb2 : o + cs.length < 400) (hgu : n0 ≤ ub) (hne : sa ≠ ub) :
    ∀ (r i : Nat) (i' oi : Int32) (T0 : State) (h1 : Heap) (hir : i + r = cs.length) (hi : i'.toInt = (i : Int)) (hoi : oi.toInt = ((o + i : Nat) : Int)) (hz1 : n0 ≤ h1.size) (OLD1 : OldP Z n0 h1) (K1 : Keep h0 h1 [ub]) (As1 : AV Z h1 sa .byte ys) (Au1 : AV Z h1 ub .byte (Wd zs cs o i)) (X0 : Wk p l e ({ frames := 3, cells := 0, slots := 0, locals := 64 } : Room) s m #[(.ref sa), (.int 0), (.ref ub), (.int o'), (.int n')] below meth c n0 Z (Ts) [] T0 h1 0 0), Go p e below s n0 ((Z, (Ts), fun v h => v = none ∧ Keep h0 h [ub] ∧ AV Z h ub .byte (Wd zs cs o cs.length)) : GQ) ({ frames := 3, cells := 0, slots := 0, locals := 64 } : Room).cells ({ frames := 3, cells := 0, slots := 0, locals := 64 } : Room).slots (T0.setTop (mkF m 10 #[.val (.ref sa), .val (.int i'), .val (.ref ub), .val (.int oi), .val (.int n'), .val (.int i')] [])) := by
  intro r
  induction r with
  | zero =>
    intro i i' oi T0 h1 hir hi hoi hz1 OLD1 K1 As1 Au1 X0
    refine g_iload X0 hx (pc' := 12) rfl (hD hby d50_10) rfl ?_
    refine g_iload X0 hx (pc' := 14) rfl (hD hby d50_12) rfl ?_
    refine g_icmpY X0 hx (pcY := 41) (hD hby d50_14) (by decide) (by decide) (show ¬ i' < n' from own_ge hi hn (by omega)) ?_
    exact g_retV X0 hx hlk hret (hD hby d50_41) (by decide) (by decide) (Nat.le_refl _) (⟨rfl, K1, (show i = cs.length by omega) ▸ Au1⟩)
  | succ r ih =>
    intro i i' oi T0 h1 hir hi hoi hz1 OLD1 K1 As1 Au1 X0
    refine g_iload X0 hx (pc' := 12) rfl (hD hby d50_10) rfl ?_
    refine g_iload X0 hx (pc' := 14) rfl (hD hby d50_12) rfl ?_
    refine g_icmpN X0 hx (pcN := 17) (hD hby d50_14) rfl (show ¬ (¬ i' < n') from not_not_intro (own_ix hi (by omega) hn).2) ?_
    refine g_aloadN X0 hx (pc' := 18) rfl (hD hby d50_17) rfl rfl ?_
    refine g_iloadN X0 hx (pc' := 19) rfl (hD hby d50_18) rfl ?_
    refine g_iinc X0 hx (pc' := 22) (x := oi) rfl (hD hby d50_19) rfl (l' := #[.val (.ref sa), .val (.int i'), .val (.ref ub), .val (.int (oi + (1 : Int32))), .val (.int n'), .val (.int i')]) rfl ?_
    refine g_aloadN X0 hx (pc' := 23) rfl (hD hby d50_22) rfl rfl ?_
    refine g_iloadN X0 hx (pc' := 24) rfl (hD hby d50_23) rfl ?_
    refine g_iinc X0 hx (pc' := 27) (x := i') rfl (hD hby d50_24) rfl (l' := #[.val (.ref sa), .val (.int (i' + (1 : Int32))), .val (.ref ub), .val (.int (oi + (1 : Int32))), .val (.int n'), .val (.int i')]) rfl ?_
    refine g_baload X0 hx hZ As1 (i := i) hi (by omega) (x := (cs.getD i 0).toInt8.toInt32) (hg i (by omega)) (pc' := 28) rfl (hD hby d50_27) ?_
    refine g_sipush X0 hx (pc' := 31) (z := (255 : Int32)) rfl (hD hby d50_28) rfl ?_
    refine g_iand X0 hx (pc' := 32) rfl (hD hby d50_31) ?_
    refine g_normI (z := (cs.getD i 0)) (own_b2 (hcs _ (mem_getD (by omega)))) ?_
    refine g_callS X0 hx hZ hown (wat hw 243 rfl) (wat hw 244 rfl) (wat hw 225 rfl) (wat hw 245 rfl) (by decide) (rm46 l Z a0 hw [] n0 (Ts) ub (Wd zs cs o i) oi (cs.getD i 0) (o + i) h1 hz1 U1 U2 U3 OLD1 Au1 hgu hoi (by rw [Wd_len (by omega) (by omega)]; omega) (by omega)) pd_8 rfl rfl (pc' := 35) rfl (hD hby d50_32) (argsL := [(.ref ub), (.int oi), (.int (cs.getD i 0))]) (rest := []) rfl (W := 0) (fun v343 T343 h343 X343 hQ343 => ?_)
    obtain ⟨rfl, K343, V343⟩ := hQ343
    rw [Wd_step (by omega) (by omega)] at V343
    have f344 := OLD1.keep K343 (allS hgu all0)
    have f345 := K1.trans K343 (allS (Or.inl (List.mem_of_getElem? (i := 0) rfl)) all0)
    have f346 := As1.keep K343 (ninS hne nin0)
    have zs343 : n0 ≤ h343.size := Nat.le_trans hz1 K343.1
    show Go p e below s n0 _ _ _ (T343.setTop (mkF m 35 _ []))
    refine g_iinc X343 hx (pc' := 38) (x := i') rfl (hD hby d50_35) rfl (l' := #[.val (.ref sa), .val (.int (i' + (1 : Int32))), .val (.ref ub), .val (.int (oi + (1 : Int32))), .val (.int n'), .val (.int (i' + (1 : Int32)))]) rfl ?_
    refine g_goto X343 hx (pc' := 10) (hD hby d50_38) (by decide) (by decide) ?_
    exact ih (i + 1) _ _ _ _ (by omega) (ar_add1 hi (by omega)) (ar_add1 (i := o + i) hoi (by omega)) zs343 f344 f345 f346 V343 X343
theorem rm50 (l : Launch) (Z : State) (a0 : Array Value) (hw : HW a0 Z) (ws : List Jvm.Cond) (n0 : Nat) (Ts : List String) (sa ub : Addr) (ys zs : List Value) (cs : List Int32) (o' n' : Int32) (o : Nat) (l' m' : Int32) (fo : Value) (h0 : Heap) (hn0 : n0 ≤ h0.size) (O4 : St1 Z fo) (hfo : fo.isRef = true) (U1 : St2 Z (.int 1)) (U2 : St3 Z (.int 0)) (U3 : St4 Z (.int 8)) (OLD : OldP Z n0 h0) (hg : ∀ i, i < cs.length → ys.getD i .null = .int (cs.getD i 0).toInt8.toInt32) (hyl : cs.length ≤ ys.length) (hcs : ∀ c ∈ cs, 0 ≤ c.toInt ∧ c.toInt ≤ 255) (hn : n'.toInt = (cs.length : Int)) (ho : o'.toInt = (o : Int)) (hb : 2 * o + 2 * cs.length ≤ zs.length) (hb2 : o + cs.length < 400) (As : AV Z h0 sa .byte ys) (Au : AV Z h0 ub .byte zs) (hgu : n0 ≤ ub) (hne : sa ≠ ub) (hM : m'.toInt = (zs.length : Int)) (hs : m' >>> ((1 : Int32) &&& 31) = l') (c1 : ¬ ((l' ||| o') ||| n') < (0 : Int32)) (c2 : ¬ l' - o' < n') :
    Con l Z n0 Ts (Ts) (⟨"java/lang/StringUTF16", "inflate", "([BI[BII)V"⟩ : MethodName) jdk_52_method_86_code 6 none ws ({ frames := 3, cells := 0, slots := 0, locals := 64 } : Room) #[(.ref sa), (.int 0), (.ref ub), (.int o'), (.int n')] h0 (fun v h => v = none ∧ Keep h0 h [ub] ∧ AV Z h ub .byte (Wd zs cs o cs.length)) := by
  refine con_start (fr0 := fun m => mkF m 0 #[.val (.ref sa), .val (.int 0), .val (.ref ub), .val (.int o'), .val (.int n'), .unset] []) ?_
  intro p e s m below meth c T0 hx hZ hby hml hown hnm hret hlk hsh XA
  have X0 := XA n0
  have hlow : n0 ≤ s.heap.size := by rw [hsh]; exact hn0
  replace hown : s.vm.findClass "java/lang/StringUTF16" = some m.cls := hown
  replace hml : c.maxLocals = 6 := hml
  refine g_iloadN X0 hx (pc' := 1) rfl (hD hby d50_0) rfl ?_
  refine g_iload X0 hx (pc' := 3) rfl (hD hby d50_1) rfl ?_
  refine g_aloadN X0 hx (pc' := 4) rfl (hD hby d50_3) rfl rfl ?_
  refine g_callS X0 hx hZ hown (wat hw 265 rfl) (wat hw 266 rfl) (wat hw 225 rfl) (wat hw 267 rfl) (by decide) (rm51 l Z a0 hw [] n0 (Ts) ub zs o' n' l' m' fo h0 hn0 O4 hfo OLD Au hM hs c1 c2) pd_22 rfl rfl (pc' := 7) rfl (hD hby d50_4) (argsL := [(.int o'), (.int n'), (.ref ub)]) (rest := []) rfl (W := 0) (fun v347 T347 h347 X347 hQ347 => ?_)
  obtain ⟨rfl, he347⟩ := hQ347
  rw [he347] at X347
  show Go p e below s n0 _ _ _ (T347.setTop (mkF m 7 _ []))
  refine g_iconst X347 hx (pc' := 8) (z := (0 : Int32)) rfl (hD hby d50_7) rfl ?_
  refine g_istore X347 hx (pc' := 10) rfl (hD hby d50_8) (l' := #[.val (.ref sa), .val (.int 0), .val (.ref ub), .val (.int o'), .val (.int n'), .val (.int 0)]) rfl ?_
  exact lp50 l Z a0 hw n0 Ts sa ub ys zs cs o' n' o hx hZ hby hml hown hret hlk U1 U2 U3 hg hyl hcs hn ho hb hb2 hgu hne cs.length 0 0 o' _ _ (by omega) rfl (by rw [ho]; rfl) hn0 OLD (Keep.refl _ _) As ((Wd_0 zs cs o).symm ▸ Au) X347
theorem rm49 (l : Launch) (Z : State) (a0 : Array Value) (hw : HW a0 Z) (ws : List Jvm.Cond) (n0 : Nat) (Ts : List String) (sa ub : Addr) (ys zs : List Value) (cs : List Int32) (o' n' : Int32) (o : Nat) (l' m' : Int32) (fo : Value) (h0 : Heap) (hn0 : n0 ≤ h0.size) (O4 : St1 Z fo) (hfo : fo.isRef = true) (U1 : St2 Z (.int 1)) (U2 : St3 Z (.int 0)) (U3 : St4 Z (.int 8)) (OLD : OldP Z n0 h0) (hg : ∀ i, i < cs.length → ys.getD i .null = .int (cs.getD i 0).toInt8.toInt32) (hyl : cs.length ≤ ys.length) (hcs : ∀ c ∈ cs, 0 ≤ c.toInt ∧ c.toInt ≤ 255) (hn : n'.toInt = (cs.length : Int)) (ho : o'.toInt = (o : Int)) (hb : 2 * o + 2 * cs.length ≤ zs.length) (hb2 : o + cs.length < 400) (As : AV Z h0 sa .byte ys) (Au : AV Z h0 ub .byte zs) (hgu : n0 ≤ ub) (hne : sa ≠ ub) (hM : m'.toInt = (zs.length : Int)) (hs : m' >>> ((1 : Int32) &&& 31) = l') (c1 : ¬ ((l' ||| o') ||| n') < (0 : Int32)) (c2 : ¬ l' - o' < n') :
    Con l Z n0 Ts (Ts) (⟨"java/lang/StringLatin1", "inflate", "([BI[BII)V"⟩ : MethodName) jdk_43_method_50_code 5 none ws ({ frames := 4, cells := 0, slots := 0, locals := 88 } : Room) #[(.ref sa), (.int 0), (.ref ub), (.int o'), (.int n')] h0 (fun v h => v = none ∧ Keep h0 h [ub] ∧ AV Z h ub .byte (Wd zs cs o cs.length)) := by
  refine con_start (fr0 := fun m => mkF m 0 #[.val (.ref sa), .val (.int 0), .val (.ref ub), .val (.int o'), .val (.int n')] []) ?_
  intro p e s m below meth c T0 hx hZ hby hml hown hnm hret hlk hsh XA
  have X0 := XA n0
  have hlow : n0 ≤ s.heap.size := by rw [hsh]; exact hn0
  replace hown : s.vm.findClass "java/lang/StringLatin1" = some m.cls := hown
  replace hml : c.maxLocals = 5 := hml
  refine g_aloadN X0 hx (pc' := 1) rfl (hD hby d49_0) rfl rfl ?_
  refine g_iloadN X0 hx (pc' := 2) rfl (hD hby d49_1) rfl ?_
  refine g_aloadN X0 hx (pc' := 3) rfl (hD hby d49_2) rfl rfl ?_
  refine g_iloadN X0 hx (pc' := 4) rfl (hD hby d49_3) rfl ?_
  refine g_iload X0 hx (pc' := 6) rfl (hD hby d49_4) rfl ?_
  refine g_callS X0 hx hZ hown (wat hw 262 rfl) (wat hw 263 rfl) (wat hw 225 rfl) (wat hw 264 rfl) (by decide) (rm50 l Z a0 hw [] n0 (Ts) sa ub ys zs cs o' n' o l' m' fo h0 hn0 O4 hfo U1 U2 U3 OLD hg hyl hcs hn ho hb hb2 As Au hgu hne hM hs c1 c2) pd_23 rfl rfl (pc' := 9) rfl (hD hby d49_6) (argsL := [(.ref sa), (.int 0), (.ref ub), (.int o'), (.int n')]) (rest := []) rfl (W := 0) (fun v348 T348 h348 X348 hQ348 => ?_)
  obtain ⟨rfl, K348, V348⟩ := hQ348
  have f349 := (Keep.refl h0 [ub]).trans K348 (allS (Or.inl (List.mem_of_getElem? (i := 0) rfl)) all0)
  have f350 := OLD.keep K348 (allS hgu all0)
  have f351 := As.keep K348 (ninS hne nin0)
  have zs348 : n0 ≤ h348.size := Nat.le_trans hn0 K348.1
  show Go p e below s n0 _ _ _ (T348.setTop (mkF m 9 _ []))
  exact g_retV X348 hx hlk hret (hD hby d49_9) (by decide) (by decide) (Nat.le_refl _) (⟨rfl, f349, V348⟩)
theorem rm24_0 (l : Launch) (Z : State) (a0 : Array Value) (hw : HW a0 Z) (ws : List Jvm.Cond) (n0 : Nat) (Ts : List String) (b : Addr) (cz : Int32) (h0 : Heap) (hn0 : n0 ≤ h0.size) (O2 : St0 Z (.int cz)) (hcz : ¬ cz = 0) (OLD : OldP Z n0 h0) (Fbc : BC Z h0 b (.int 0)) :
    Con l Z n0 Ts (Ts) (⟨"java/lang/AbstractStringBuilder", "isLatin1", "()Z"⟩ : MethodName) jdk_68_method_68_code 1 (some .boolean) ws ({ frames := 0, cells := 0, slots := 0, locals := 0 } : Room) #[(.ref b)] h0 (fun v h => v = some (.int 1) ∧ h = h0) := by
  refine con_start (fr0 := fun m => mkF m 0 #[.val (.ref b)] []) ?_
  intro p e s m below meth c T0 hx hZ hby hml hown hnm hret hlk hsh XA
  have X0 := XA n0
  have hlow : n0 ≤ s.heap.size := by rw [hsh]; exact hn0
  replace hown : s.vm.findClass "java/lang/AbstractStringBuilder" = some m.cls := hown
  replace hml : c.maxLocals = 1 := hml
  refine g_getS X0 hx hZ hown (wat hw 39 rfl) Via.refl (Sta.ext OLD.2 O2) (pc' := 3) rfl (hD hby d24_0) (fun T352 X352 => ?_)
  refine g_ifN X352 hx (pcN := 6) (hD hby d24_3) rfl (show ¬ (cz = 0) from hcz) ?_
  refine g_aloadN X352 hx (pc' := 7) rfl (hD hby d24_6) rfl rfl ?_
  refine g_getF X352 hx hZ hown (wat hw 42 rfl) Via.refl Fbc (pc' := 10) rfl (hD hby d24_7) (fun T353 X353 => ?_)
  refine g_ifN X353 hx (pcN := 13) (hD hby d24_10) rfl (show ¬ (¬ (0 : Int32) = 0) from by decide) ?_
  refine g_iconst X353 hx (pc' := 14) (z := (1 : Int32)) rfl (hD hby d24_13) rfl ?_
  refine g_goto X353 hx (pc' := 18) (hD hby d24_14) (by decide) (by decide) ?_
  exact g_retZ X353 hx hlk hret (by first | exact Or.inl rfl | exact Or.inr rfl) (hD hby d24_18) (by decide) (by decide) (Nat.le_refl _) (⟨rfl, rfl⟩)
theorem rm24_1 (l : Launch) (Z : State) (a0 : Array Value) (hw : HW a0 Z) (ws : List Jvm.Cond) (n0 : Nat) (Ts : List String) (b : Addr) (cz : Int32) (h0 : Heap) (hn0 : n0 ≤ h0.size) (O2 : St0 Z (.int cz)) (hcz : ¬ cz = 0) (OLD : OldP Z n0 h0) (Fbc : BC Z h0 b (.int 1)) :
    Con l Z n0 Ts (Ts) (⟨"java/lang/AbstractStringBuilder", "isLatin1", "()Z"⟩ : MethodName) jdk_68_method_68_code 1 (some .boolean) ws ({ frames := 0, cells := 0, slots := 0, locals := 0 } : Room) #[(.ref b)] h0 (fun v h => v = some (.int 0) ∧ h = h0) := by
  refine con_start (fr0 := fun m => mkF m 0 #[.val (.ref b)] []) ?_
  intro p e s m below meth c T0 hx hZ hby hml hown hnm hret hlk hsh XA
  have X0 := XA n0
  have hlow : n0 ≤ s.heap.size := by rw [hsh]; exact hn0
  replace hown : s.vm.findClass "java/lang/AbstractStringBuilder" = some m.cls := hown
  replace hml : c.maxLocals = 1 := hml
  refine g_getS X0 hx hZ hown (wat hw 39 rfl) Via.refl (Sta.ext OLD.2 O2) (pc' := 3) rfl (hD hby d24_0) (fun T354 X354 => ?_)
  refine g_ifN X354 hx (pcN := 6) (hD hby d24_3) rfl (show ¬ (cz = 0) from hcz) ?_
  refine g_aloadN X354 hx (pc' := 7) rfl (hD hby d24_6) rfl rfl ?_
  refine g_getF X354 hx hZ hown (wat hw 42 rfl) Via.refl Fbc (pc' := 10) rfl (hD hby d24_7) (fun T355 X355 => ?_)
  refine g_ifY X355 hx (pcY := 17) (hD hby d24_10) (by decide) (by decide) (show ¬ (1 : Int32) = 0 from by decide) ?_
  refine g_iconst X355 hx (pc' := 18) (z := (0 : Int32)) rfl (hD hby d24_17) rfl ?_
  exact g_retZ X355 hx hlk hret (by first | exact Or.inl rfl | exact Or.inr rfl) (hD hby d24_18) (by decide) (by decide) (Nat.le_refl _) (⟨rfl, rfl⟩)
theorem rm48_1 (l : Launch) (Z : State) (a0 : Array Value) (hw : HW a0 Z) (ws : List Jvm.Cond) (n0 : Nat) (Ts : List String) (b : Addr) (cz : Int32) (h0 : Heap) (hn0 : n0 ≤ h0.size) (O2 : St0 Z (.int cz)) (hcz : ¬ cz = 0) (OLD : OldP Z n0 h0) (Eb : XSb Z h0 b) (Fbc : BC Z h0 b (.int 1)) :
    Con l Z n0 Ts (Ts) (⟨"java/lang/AbstractStringBuilder", "inflate", "()V"⟩ : MethodName) jdk_68_method_11_code 2 none ws ({ frames := 1, cells := 0, slots := 0, locals := 16 } : Room) #[(.ref b)] h0 (fun v h => v = none ∧ h = h0) := by
  refine con_start (fr0 := fun m => mkF m 0 #[.val (.ref b), .unset] []) ?_
  intro p e s m below meth c T0 hx hZ hby hml hown hnm hret hlk hsh XA
  have X0 := XA n0
  have hlow : n0 ≤ s.heap.size := by rw [hsh]; exact hn0
  replace hown : s.vm.findClass "java/lang/AbstractStringBuilder" = some m.cls := hown
  replace hml : c.maxLocals = 2 := hml
  refine g_aloadN X0 hx (pc' := 1) rfl (hD hby d48_0) rfl rfl ?_
  refine g_callV X0 hx hZ hown (wat hw 257 rfl) (wat hw 143 rfl) (wat hw 145 rfl) (wat hw 144 rfl) (wat hw 36 rfl) (wat hw 146 rfl) (by decide) (a := b) Eb (rm24_1 l Z a0 hw [] n0 (Ts) b cz h0 hn0 O2 hcz OLD Fbc) pd_6 rfl rfl (pc' := 4) rfl (hD hby d48_1) (argsL := []) (rest := []) rfl (W := 0) (fun v356 T356 h356 X356 hQ356 => ?_)
  obtain ⟨rfl, he356⟩ := hQ356
  rw [he356] at X356
  show Go p e below s n0 _ _ _ (T356.setTop (mkF m 4 _ [(.int 0)]))
  refine g_ifN X356 hx (pcN := 7) (hD hby d48_4) rfl (show ¬ (¬ (0 : Int32) = 0) from by decide) ?_
  exact g_retV X356 hx hlk hret (hD hby d48_7) (by decide) (by decide) (Nat.le_refl _) (⟨rfl, rfl⟩)
theorem own_pre {zs : List Value} {cs : List Int32} (h : zs.take cs.length = L1 cs) (hle : cs.length ≤ zs.length) : ∀ i, i < cs.length → zs.getD i .null = .int (cs.getD i 0).toInt8.toInt32 := fun i hi => by
  have q := L1_get hi
  rw [← h, List.getD_eq_getElem?_getD, List.getElem?_take, if_pos hi] at q
  rw [List.getD_eq_getElem?_getD]; exact q
theorem own_wd0 {n : Nat} {cs : List Int32} (h : cs.length ≤ n) : Wd (List.replicate (2 * n) (Value.int 0)) cs 0 cs.length = U16 cs ++ List.replicate (2 * n - 2 * cs.length) (.int 0) := by
  simp [Wd]
theorem rm48_0 (l : Launch) (Z : State) (a0 : Array Value) (hw : HW a0 Z) (ws : List Jvm.Cond) (n0 : Nat) (Ts : List String) (b va : Addr) (zs : List Value) (cs : List Int32) (n' cap' m' : Int32) (fo : Value) (cz : Int32) (h0 : Heap) (hn0 : n0 ≤ h0.size) (O4 : St1 Z fo) (hfo : fo.isRef = true) (U1 : St2 Z (.int 1)) (U2 : St3 Z (.int 0)) (U3 : St4 Z (.int 8)) (O2 : St0 Z (.int cz)) (hcz : ¬ cz = 0) (OLD : OldP Z n0 h0) (Eb : XSb Z h0 b) (hgb : n0 ≤ b) (Fbv : BV Z h0 b (.ref va)) (Fbc : BC Z h0 b (.int 0)) (Fbn : BN Z h0 b (.int n')) (Fbm : BM Z h0 b (.int 0)) (Av : AV Z h0 va .byte zs) (hcap : cap'.toInt = (zs.length : Int)) (hM : m'.toInt = ((2 * zs.length : Nat) : Int)) (hm : cap' <<< ((1 : Int32) &&& 31) = m') (hs : m' >>> ((1 : Int32) &&& 31) = cap') (hz : zs.length ≤ 129) (hpre : zs.take cs.length = L1 cs) (hn : n'.toInt = (cs.length : Int)) (hcs : ∀ c ∈ cs, 0 ≤ c.toInt ∧ c.toInt ≤ 255) (hle : cs.length ≤ zs.length) (c1 : ¬ ((cap' ||| (0 : Int32)) ||| n') < (0 : Int32)) (c2 : ¬ cap' - (0 : Int32) < n') :
    Con l Z n0 Ts (Ts) (⟨"java/lang/AbstractStringBuilder", "inflate", "()V"⟩ : MethodName) jdk_68_method_11_code 2 none ws ({ frames := 5, cells := 1, slots := 258, locals := 112 } : Room) #[(.ref b)] h0 (fun v h => v = none ∧ Keep h0 h [b] ∧ ∃ nb, n0 ≤ nb ∧ h0.size ≤ nb ∧ AV Z h nb .byte (U16 cs ++ List.replicate (2 * zs.length - 2 * cs.length) (Value.int 0)) ∧ BV Z h b (.ref nb) ∧ BC Z h b (.int 1) ∧ BN Z h b (.int n') ∧ BM Z h b (.int 0)) := by
  refine con_start (fr0 := fun m => mkF m 0 #[.val (.ref b), .unset] []) ?_
  intro p e s m below meth c T0 hx hZ hby hml hown hnm hret hlk hsh XA
  have X0 := XA n0
  have hlow : n0 ≤ s.heap.size := by rw [hsh]; exact hn0
  replace hown : s.vm.findClass "java/lang/AbstractStringBuilder" = some m.cls := hown
  replace hml : c.maxLocals = 2 := hml
  have nA357 : b ≠ va := own_neA Eb (wat hw 27 rfl) Av
  refine g_aloadN X0 hx (pc' := 1) rfl (hD hby d48_0) rfl rfl ?_
  refine g_callV X0 hx hZ hown (wat hw 257 rfl) (wat hw 143 rfl) (wat hw 145 rfl) (wat hw 144 rfl) (wat hw 36 rfl) (wat hw 146 rfl) (by decide) (a := b) Eb (rm24_0 l Z a0 hw [] n0 (Ts) b cz h0 hn0 O2 hcz OLD Fbc) pd_6 rfl rfl (pc' := 4) rfl (hD hby d48_1) (argsL := []) (rest := []) rfl (W := 0) (fun v358 T358 h358 X358 hQ358 => ?_)
  obtain ⟨rfl, he358⟩ := hQ358
  rw [he358] at X358
  show Go p e below s n0 _ _ _ (T358.setTop (mkF m 4 _ [(.int 1)]))
  refine g_ifY X358 hx (pcY := 8) (hD hby d48_4) (by decide) (by decide) (show ¬ (1 : Int32) = 0 from by decide) ?_
  refine g_aloadN X358 hx (pc' := 9) rfl (hD hby d48_8) rfl rfl ?_
  refine g_getF X358 hx hZ hown (wat hw 40 rfl) Via.refl Fbv (pc' := 12) rfl (hD hby d48_9) (fun T359 X359 => ?_)
  refine g_alen X359 hx hZ Av (z := cap') hcap (pc' := 13) rfl (hD hby d48_12) ?_
  refine g_callS X359 hx hZ hown (wat hw 258 rfl) (wat hw 237 rfl) (wat hw 225 rfl) (wat hw 238 rfl) (by decide) (rm44 l Z a0 hw [] n0 (Ts) (List.replicate zs.length 0) cap' m' h0 hn0 (by simpa using hcap) (by simpa using hM) hm (by simpa using hz)) pd_9 rfl rfl (pc' := 16) rfl (hD hby d48_13) (argsL := [(.int cap')]) (rest := []) rfl (W := 0) (fun v360 T360 h360 X360 hQ360 => ?_)
  obtain ⟨ub360, rfl, Gub360, S360, K360, V360⟩ := hQ360
  replace V360 : AV Z h360 ub360 .byte (List.replicate (2 * zs.length) (.int 0)) := by simpa [U16] using V360
  have neub360_b : b ≠ ub360 := Nat.ne_of_lt (Nat.lt_of_lt_of_le Eb.lt S360)
  have neub360_va : va ≠ ub360 := Nat.ne_of_lt (Nat.lt_of_lt_of_le Av.lt S360)
  have szub360 : h0.size ≤ ub360 := Nat.le_trans (Keep.refl h0 [b]).1 S360
  have f361 := (Keep.refl h0 [b]).trans K360 all0
  have f362 := OLD.keep K360 all0
  have f363 := Eb.keep K360
  have f364 := Fbv.keep K360 nin0
  have f365 := Fbc.keep K360 nin0
  have f366 := Fbn.keep K360 nin0
  have f367 := Fbm.keep K360 nin0
  have f368 := Av.keep K360 nin0
  have zs360 : n0 ≤ h360.size := Nat.le_trans hn0 K360.1
  show Go p e below s n0 _ _ _ (T360.setTop (mkF m 16 _ [(.ref ub360)]))
  refine g_astoreN X360 hx (pc' := 17) rfl (hD hby d48_16) rfl (l' := #[.val (.ref b), .val (.ref ub360)]) rfl ?_
  refine g_aloadN X360 hx (pc' := 18) rfl (hD hby d48_17) rfl rfl ?_
  refine g_getF X360 hx hZ hown (wat hw 40 rfl) Via.refl f364 (pc' := 21) rfl (hD hby d48_18) (fun T369 X369 => ?_)
  refine g_iconst X369 hx (pc' := 22) (z := (0 : Int32)) rfl (hD hby d48_21) rfl ?_
  refine g_aloadN X369 hx (pc' := 23) rfl (hD hby d48_22) rfl rfl ?_
  refine g_iconst X369 hx (pc' := 24) (z := (0 : Int32)) rfl (hD hby d48_23) rfl ?_
  refine g_aloadN X369 hx (pc' := 25) rfl (hD hby d48_24) rfl rfl ?_
  refine g_getF X369 hx hZ hown (wat hw 85 rfl) Via.refl f366 (pc' := 28) rfl (hD hby d48_25) (fun T370 X370 => ?_)
  refine g_callS X370 hx hZ hown (wat hw 259 rfl) (wat hw 260 rfl) (wat hw 210 rfl) (wat hw 261 rfl) (by decide) (rm49 l Z a0 hw [] n0 (Ts) va ub360 zs (List.replicate (2 * zs.length) (.int 0)) cs 0 n' 0 cap' m' fo h360 zs360 O4 hfo U1 U2 U3 f362 (own_pre hpre hle) hle hcs hn rfl (by rw [List.length_replicate]; omega) (by omega) f368 V360 Gub360 neub360_va (by rw [List.length_replicate]; exact hM) hs c1 c2) pd_23 rfl rfl (pc' := 31) rfl (hD hby d48_28) (argsL := [(.ref va), (.int 0), (.ref ub360), (.int 0), (.int n')]) (rest := []) rfl (W := 0) (fun v371 T371 h371 X371 hQ371 => ?_)
  obtain ⟨rfl, K371, V371⟩ := hQ371
  have f372 := f361.trans K371 (allS (Or.inr szub360) all0)
  have f373 := f362.keep K371 (allS Gub360 all0)
  have f374 := f363.keep K371
  have f375 := f364.keep K371 (ninS neub360_b nin0)
  have f376 := f365.keep K371 (ninS neub360_b nin0)
  have f377 := f366.keep K371 (ninS neub360_b nin0)
  have f378 := f367.keep K371 (ninS neub360_b nin0)
  have f379 := f368.keep K371 (ninS neub360_va nin0)
  have zs371 : n0 ≤ h371.size := Nat.le_trans zs360 K371.1
  show Go p e below s n0 _ _ _ (T371.setTop (mkF m 31 _ []))
  refine g_aloadN X371 hx (pc' := 32) rfl (hD hby d48_31) rfl rfl ?_
  refine g_aloadN X371 hx (pc' := 33) rfl (hD hby d48_32) rfl rfl ?_
  refine g_putF X371 hx hZ hown (wat hw 40 rfl) Via.refl f375 f374 (Or.inl (wat hw 41 rfl)) (wat hw 27 rfl) (ty := (.array .byte)) (by decide) rfl rfl hgb (pc' := 36) rfl (hD hby d48_33) (fun T380 h380 X380 W380 => ?_)
  have f381 := (by have q := (Keep.of_wr W380).1; exact Nat.le_trans zs371 q : n0 ≤ h380.size)
  have f382 := f372.wr W380 (Or.inl (List.mem_of_getElem? (i := 0) rfl))
  have f383 := f373.wr W380 hgb
  have f384 := f374.wr W380
  have f385 := f375.same W380
  have f386 := f376.other W380 (Or.inr (slot_ne (Or.inl (wat hw 43 rfl)) (Or.inl (wat hw 41 rfl)) (by decide) (t := .byte) (t' := (.array .byte)) (by decide) (by decide)))
  have f387 := f377.other W380 (Or.inr (slot_ne (Or.inl (wat hw 86 rfl)) (Or.inl (wat hw 41 rfl)) (by decide) (t := .int) (t' := (.array .byte)) (by decide) (by decide)))
  have f388 := f378.other W380 (Or.inr (slot_ne (Or.inl (wat hw 279 rfl)) (Or.inl (wat hw 41 rfl)) (by decide) (t := .boolean) (t' := (.array .byte)) (by decide) (by decide)))
  have f389 := f379.other W380 nA357.symm
  have f390 := V371.other W380 neub360_b.symm
  refine g_aloadN X380 hx (pc' := 37) rfl (hD hby d48_36) rfl rfl ?_
  refine g_iconst X380 hx (pc' := 38) (z := (1 : Int32)) rfl (hD hby d48_37) rfl ?_
  refine g_putF X380 hx hZ hown (wat hw 42 rfl) Via.refl f386 f384 (Or.inl (wat hw 43 rfl)) (wat hw 27 rfl) (ty := .byte) (by decide) rfl rfl hgb (pc' := 41) rfl (hD hby d48_38) (fun T391 h391 X391 W391 => ?_)
  have f392 := (by have q := (Keep.of_wr W391).1; exact Nat.le_trans f381 q : n0 ≤ h391.size)
  have f393 := f382.wr W391 (Or.inl (List.mem_of_getElem? (i := 0) rfl))
  have f394 := f383.wr W391 hgb
  have f395 := f384.wr W391
  have f396 := f385.other W391 (Or.inr (slot_ne (Or.inl (wat hw 41 rfl)) (Or.inl (wat hw 43 rfl)) (by decide) (t := (.array .byte)) (t' := .byte) (by decide) (by decide)))
  have f397 := f386.same W391
  have f398 := f387.other W391 (Or.inr (slot_ne (Or.inl (wat hw 86 rfl)) (Or.inl (wat hw 43 rfl)) (by decide) (t := .int) (t' := .byte) (by decide) (by decide)))
  have f399 := f388.other W391 (Or.inr (slot_ne (Or.inl (wat hw 279 rfl)) (Or.inl (wat hw 43 rfl)) (by decide) (t := .boolean) (t' := .byte) (by decide) (by decide)))
  have f400 := f389.other W391 nA357.symm
  have f401 := f390.other W391 neub360_b.symm
  exact g_retV X391 hx hlk hret (hD hby d48_41) (by decide) (by decide) (Nat.le_refl _) (⟨rfl, f393, ub360, Gub360, szub360, own_wd0 hle ▸ f401, f396, f397, f398, f399⟩)
theorem rm16_00 (l : Launch) (Z : State) (a0 : Array Value) (hw : HW a0 Z) (ws : List Jvm.Cond) (n0 : Nat) (Ts : List String) (b t : Addr) (cz : Int32) (h0 : Heap) (hn0 : n0 ≤ h0.size) (O2 : St0 Z (.int cz)) (hcz : ¬ cz = 0) (OLD : OldP Z n0 h0) (Eb : XSb Z h0 b) (Et : XSt Z h0 t) (Fbc : BC Z h0 b (.int 0)) (Fct : SC Z h0 t (.int 0)) :
    Con l Z n0 Ts (Ts) (⟨"java/lang/AbstractStringBuilder", "inflateIfNeededFor", "(Ljava/lang/String;)V"⟩ : MethodName) jdk_68_method_71_code 2 none ws ({ frames := 2, cells := 0, slots := 0, locals := 32 } : Room) #[(.ref b), (.ref t)] h0 (fun v h => v = none ∧ h = h0) := by
  refine con_start (fr0 := fun m => mkF m 0 #[.val (.ref b), .val (.ref t)] []) ?_
  intro p e s m below meth c T0 hx hZ hby hml hown hnm hret hlk hsh XA
  have X0 := XA n0
  have hlow : n0 ≤ s.heap.size := by rw [hsh]; exact hn0
  replace hown : s.vm.findClass "java/lang/AbstractStringBuilder" = some m.cls := hown
  replace hml : c.maxLocals = 2 := hml
  refine g_getS X0 hx hZ hown (wat hw 39 rfl) Via.refl (Sta.ext OLD.2 O2) (pc' := 3) rfl (hD hby d16_0) (fun T402 X402 => ?_)
  refine g_ifN X402 hx (pcN := 6) (hD hby d16_3) rfl (show ¬ (cz = 0) from hcz) ?_
  refine g_aloadN X402 hx (pc' := 7) rfl (hD hby d16_6) rfl rfl ?_
  refine g_getF X402 hx hZ hown (wat hw 42 rfl) Via.refl Fbc (pc' := 10) rfl (hD hby d16_7) (fun T403 X403 => ?_)
  refine g_aloadN X403 hx (pc' := 11) rfl (hD hby d16_10) rfl rfl ?_
  refine g_callV X403 hx hZ hown (wat hw 102 rfl) (wat hw 80 rfl) (wat hw 82 rfl) (wat hw 81 rfl) (wat hw 2 rfl) (wat hw 83 rfl) (by decide) (a := t) Et (rm13_0 l Z a0 hw [] n0 (Ts) t cz h0 hn0 O2 hcz OLD Fct) pd_0 rfl rfl (pc' := 14) rfl (hD hby d16_11) (argsL := []) (rest := [(.int 0)]) rfl (W := 1) (fun v404 T404 h404 X404 hQ404 => ?_)
  obtain ⟨rfl, he404⟩ := hQ404
  rw [he404] at X404
  show Go p e below s n0 _ _ _ (T404.setTop (mkF m 14 _ [(.int 0), (.int 0)]))
  refine g_icmpY X404 hx (pcY := 21) (hD hby d16_14) (by decide) (by decide) (show (0 : Int32) = (0 : Int32) from by decide) ?_
  exact g_retV X404 hx hlk hret (hD hby d16_21) (by decide) (by decide) (Nat.le_refl _) (⟨rfl, rfl⟩)
theorem rm16_10 (l : Launch) (Z : State) (a0 : Array Value) (hw : HW a0 Z) (ws : List Jvm.Cond) (n0 : Nat) (Ts : List String) (b t : Addr) (cz : Int32) (h0 : Heap) (hn0 : n0 ≤ h0.size) (O2 : St0 Z (.int cz)) (hcz : ¬ cz = 0) (OLD : OldP Z n0 h0) (Eb : XSb Z h0 b) (Et : XSt Z h0 t) (Fbc : BC Z h0 b (.int 1)) (Fct : SC Z h0 t (.int 0)) :
    Con l Z n0 Ts (Ts) (⟨"java/lang/AbstractStringBuilder", "inflateIfNeededFor", "(Ljava/lang/String;)V"⟩ : MethodName) jdk_68_method_71_code 2 none ws ({ frames := 2, cells := 0, slots := 0, locals := 32 } : Room) #[(.ref b), (.ref t)] h0 (fun v h => v = none ∧ h = h0) := by
  refine con_start (fr0 := fun m => mkF m 0 #[.val (.ref b), .val (.ref t)] []) ?_
  intro p e s m below meth c T0 hx hZ hby hml hown hnm hret hlk hsh XA
  have X0 := XA n0
  have hlow : n0 ≤ s.heap.size := by rw [hsh]; exact hn0
  replace hown : s.vm.findClass "java/lang/AbstractStringBuilder" = some m.cls := hown
  replace hml : c.maxLocals = 2 := hml
  refine g_getS X0 hx hZ hown (wat hw 39 rfl) Via.refl (Sta.ext OLD.2 O2) (pc' := 3) rfl (hD hby d16_0) (fun T405 X405 => ?_)
  refine g_ifN X405 hx (pcN := 6) (hD hby d16_3) rfl (show ¬ (cz = 0) from hcz) ?_
  refine g_aloadN X405 hx (pc' := 7) rfl (hD hby d16_6) rfl rfl ?_
  refine g_getF X405 hx hZ hown (wat hw 42 rfl) Via.refl Fbc (pc' := 10) rfl (hD hby d16_7) (fun T406 X406 => ?_)
  refine g_aloadN X406 hx (pc' := 11) rfl (hD hby d16_10) rfl rfl ?_
  refine g_callV X406 hx hZ hown (wat hw 102 rfl) (wat hw 80 rfl) (wat hw 82 rfl) (wat hw 81 rfl) (wat hw 2 rfl) (wat hw 83 rfl) (by decide) (a := t) Et (rm13_0 l Z a0 hw [] n0 (Ts) t cz h0 hn0 O2 hcz OLD Fct) pd_0 rfl rfl (pc' := 14) rfl (hD hby d16_11) (argsL := []) (rest := [(.int 1)]) rfl (W := 1) (fun v407 T407 h407 X407 hQ407 => ?_)
  obtain ⟨rfl, he407⟩ := hQ407
  rw [he407] at X407
  show Go p e below s n0 _ _ _ (T407.setTop (mkF m 14 _ [(.int 0), (.int 1)]))
  refine g_icmpN X407 hx (pcN := 17) (hD hby d16_14) rfl (show ¬ ((1 : Int32) = (0 : Int32)) from by decide) ?_
  refine g_aloadN X407 hx (pc' := 18) rfl (hD hby d16_17) rfl rfl ?_
  refine g_callPS X407 hx hZ hown (wat hw 252 rfl) (wat hw 253 rfl) (wat hw 255 rfl) (wat hw 254 rfl) (wat hw 36 rfl) (wat hw 256 rfl) (by decide) (a := b) Eb (rm48_1 l Z a0 hw [] n0 (Ts) b cz h0 hn0 O2 hcz OLD Eb Fbc) pd_24 rfl rfl (pc' := 21) rfl (hD hby d16_18) (argsL := []) (rest := []) rfl (W := 0) (fun v408 T408 h408 X408 hQ408 => ?_)
  obtain ⟨rfl, he408⟩ := hQ408
  rw [he408] at X408
  show Go p e below s n0 _ _ _ (T408.setTop (mkF m 21 _ []))
  exact g_retV X408 hx hlk hret (hD hby d16_21) (by decide) (by decide) (Nat.le_refl _) (⟨rfl, rfl⟩)
theorem rm16_01 (l : Launch) (Z : State) (a0 : Array Value) (hw : HW a0 Z) (ws : List Jvm.Cond) (n0 : Nat) (Ts : List String) (b va t : Addr) (zs : List Value) (cs : List Int32) (n' cap' m' : Int32) (fo : Value) (cz : Int32) (h0 : Heap) (hn0 : n0 ≤ h0.size) (O4 : St1 Z fo) (hfo : fo.isRef = true) (U1 : St2 Z (.int 1)) (U2 : St3 Z (.int 0)) (U3 : St4 Z (.int 8)) (O2 : St0 Z (.int cz)) (hcz : ¬ cz = 0) (OLD : OldP Z n0 h0) (Eb : XSb Z h0 b) (hgb : n0 ≤ b) (Fbv : BV Z h0 b (.ref va)) (Fbc : BC Z h0 b (.int 0)) (Fbn : BN Z h0 b (.int n')) (Fbm : BM Z h0 b (.int 0)) (Av : AV Z h0 va .byte zs) (hcap : cap'.toInt = (zs.length : Int)) (hM : m'.toInt = ((2 * zs.length : Nat) : Int)) (hm : cap' <<< ((1 : Int32) &&& 31) = m') (hs : m' >>> ((1 : Int32) &&& 31) = cap') (hz : zs.length ≤ 129) (hpre : zs.take cs.length = L1 cs) (hn : n'.toInt = (cs.length : Int)) (hcs : ∀ c ∈ cs, 0 ≤ c.toInt ∧ c.toInt ≤ 255) (hle : cs.length ≤ zs.length) (c1 : ¬ ((cap' ||| (0 : Int32)) ||| n') < (0 : Int32)) (c2 : ¬ cap' - (0 : Int32) < n') (Et : XSt Z h0 t) (Fct : SC Z h0 t (.int 1)) :
    Con l Z n0 Ts (Ts) (⟨"java/lang/AbstractStringBuilder", "inflateIfNeededFor", "(Ljava/lang/String;)V"⟩ : MethodName) jdk_68_method_71_code 2 none ws ({ frames := 6, cells := 1, slots := 258, locals := 136 } : Room) #[(.ref b), (.ref t)] h0 (fun v h => v = none ∧ Keep h0 h [b] ∧ ∃ nb, n0 ≤ nb ∧ h0.size ≤ nb ∧ AV Z h nb .byte (U16 cs ++ List.replicate (2 * zs.length - 2 * cs.length) (Value.int 0)) ∧ BV Z h b (.ref nb) ∧ BC Z h b (.int 1) ∧ BN Z h b (.int n') ∧ BM Z h b (.int 0)) := by
  refine con_start (fr0 := fun m => mkF m 0 #[.val (.ref b), .val (.ref t)] []) ?_
  intro p e s m below meth c T0 hx hZ hby hml hown hnm hret hlk hsh XA
  have X0 := XA n0
  have hlow : n0 ≤ s.heap.size := by rw [hsh]; exact hn0
  replace hown : s.vm.findClass "java/lang/AbstractStringBuilder" = some m.cls := hown
  replace hml : c.maxLocals = 2 := hml
  have nA409 : b ≠ va := own_neA Eb (wat hw 27 rfl) Av
  refine g_getS X0 hx hZ hown (wat hw 39 rfl) Via.refl (Sta.ext OLD.2 O2) (pc' := 3) rfl (hD hby d16_0) (fun T410 X410 => ?_)
  refine g_ifN X410 hx (pcN := 6) (hD hby d16_3) rfl (show ¬ (cz = 0) from hcz) ?_
  refine g_aloadN X410 hx (pc' := 7) rfl (hD hby d16_6) rfl rfl ?_
  refine g_getF X410 hx hZ hown (wat hw 42 rfl) Via.refl Fbc (pc' := 10) rfl (hD hby d16_7) (fun T411 X411 => ?_)
  refine g_aloadN X411 hx (pc' := 11) rfl (hD hby d16_10) rfl rfl ?_
  refine g_callV X411 hx hZ hown (wat hw 102 rfl) (wat hw 80 rfl) (wat hw 82 rfl) (wat hw 81 rfl) (wat hw 2 rfl) (wat hw 83 rfl) (by decide) (a := t) Et (rm13_1 l Z a0 hw [] n0 (Ts) t cz h0 hn0 O2 hcz OLD Fct) pd_0 rfl rfl (pc' := 14) rfl (hD hby d16_11) (argsL := []) (rest := [(.int 0)]) rfl (W := 1) (fun v412 T412 h412 X412 hQ412 => ?_)
  obtain ⟨rfl, he412⟩ := hQ412
  rw [he412] at X412
  show Go p e below s n0 _ _ _ (T412.setTop (mkF m 14 _ [(.int 1), (.int 0)]))
  refine g_icmpN X412 hx (pcN := 17) (hD hby d16_14) rfl (show ¬ ((0 : Int32) = (1 : Int32)) from by decide) ?_
  refine g_aloadN X412 hx (pc' := 18) rfl (hD hby d16_17) rfl rfl ?_
  refine g_callPS X412 hx hZ hown (wat hw 252 rfl) (wat hw 253 rfl) (wat hw 255 rfl) (wat hw 254 rfl) (wat hw 36 rfl) (wat hw 256 rfl) (by decide) (a := b) Eb (rm48_0 l Z a0 hw [] n0 (Ts) b va zs cs n' cap' m' fo cz h0 hn0 O4 hfo U1 U2 U3 O2 hcz OLD Eb hgb Fbv Fbc Fbn Fbm Av hcap hM hm hs hz hpre hn hcs hle c1 c2) pd_24 rfl rfl (pc' := 21) rfl (hD hby d16_18) (argsL := []) (rest := []) rfl (W := 0) (fun v413 T413 h413 X413 hQ413 => ?_)
  obtain ⟨rfl, K413, nb413, Gnb413, S413, V413, FV413, FC413, FN413, FM413⟩ := hQ413
  have nenb413_b : b ≠ nb413 := Nat.ne_of_lt (Nat.lt_of_lt_of_le Eb.lt S413)
  have nenb413_va : va ≠ nb413 := Nat.ne_of_lt (Nat.lt_of_lt_of_le Av.lt S413)
  have nenb413_t : t ≠ nb413 := Nat.ne_of_lt (Nat.lt_of_lt_of_le Et.lt S413)
  have sznb413 : h0.size ≤ nb413 := Nat.le_trans (Keep.refl h0 [b]).1 S413
  have f414 := (Keep.refl h0 [b]).trans K413 (allS (Or.inl (List.mem_of_getElem? (i := 0) rfl)) all0)
  have f415 := OLD.keep K413 (allS hgb all0)
  have f416 := Eb.keep K413
  have f417 := Av.keep K413 (ninS nA409.symm nin0)
  have f418 := Et.keep K413
  have zs413 : n0 ≤ h413.size := Nat.le_trans hn0 K413.1
  show Go p e below s n0 _ _ _ (T413.setTop (mkF m 21 _ []))
  exact g_retV X413 hx hlk hret (hD hby d16_21) (by decide) (by decide) (Nat.le_refl _) (⟨rfl, f414, nb413, Gnb413, sznb413, V413, FV413, FC413, FN413, FM413⟩)
theorem rm17_00 (l : Launch) (Z : State) (a0 : Array Value) (hw : HW a0 Z) (ws : List Jvm.Cond) (n0 : Nat) (Ts : List String) (t tb va : Addr) (zs : List Value) (ds : List Int32) (o' n' : Int32) (o : Nat) (cz : Int32) (h0 : Heap) (hn0 : n0 ≤ h0.size) (O2 : St0 Z (.int cz)) (hcz : ¬ cz = 0) (OLD : OldP Z n0 h0) (Et : XSt Z h0 t) (Fvt : SV Z h0 t (.ref tb)) (Fct : SC Z h0 t (.int 0)) (Abt : AV Z h0 tb .byte (L1 ds)) (hds : ∀ c ∈ ds, 0 ≤ c.toInt ∧ c.toInt ≤ 255) (Av : AV Z h0 va .byte zs) (hgv : n0 ≤ va) (hne : tb ≠ va) (ho : o'.toInt = (o : Int)) (hl : n'.toInt = (ds.length : Int)) (hb : o + ds.length ≤ zs.length) :
    Con l Z n0 Ts (Ts) (⟨"java/lang/String", "getBytes", "([BIB)V"⟩ : MethodName) jdk_42_method_147_code 4 none ws ({ frames := 1, cells := 0, slots := 0, locals := 32 } : Room) #[(.ref t), (.ref va), (.int o'), (.int 0)] h0 (fun v h => v = none ∧ Keep h0 h [va] ∧ AV Z h va .byte (zs.take o ++ L1 ds ++ zs.drop (o + ds.length))) := by
  refine con_start (fr0 := fun m => mkF m 0 #[.val (.ref t), .val (.ref va), .val (.int o'), .val (.int 0)] []) ?_
  intro p e s m below meth c T0 hx hZ hby hml hown hnm hret hlk hsh XA
  have X0 := XA n0
  have hlow : n0 ≤ s.heap.size := by rw [hsh]; exact hn0
  replace hown : s.vm.findClass "java/lang/String" = some m.cls := hown
  replace hml : c.maxLocals = 4 := hml
  have nA419 : t ≠ va := own_neA Et (wat hw 1 rfl) Av
  refine g_aloadN X0 hx (pc' := 1) rfl (hD hby d17_0) rfl rfl ?_
  refine g_callV X0 hx hZ hown (wat hw 79 rfl) (wat hw 80 rfl) (wat hw 82 rfl) (wat hw 81 rfl) (wat hw 2 rfl) (wat hw 83 rfl) (by decide) (a := t) Et (rm13_0 l Z a0 hw [] n0 (Ts) t cz h0 hn0 O2 hcz OLD Fct) pd_0 rfl rfl (pc' := 4) rfl (hD hby d17_1) (argsL := []) (rest := []) rfl (W := 0) (fun v420 T420 h420 X420 hQ420 => ?_)
  obtain ⟨rfl, he420⟩ := hQ420
  rw [he420] at X420
  show Go p e below s n0 _ _ _ (T420.setTop (mkF m 4 _ [(.int 0)]))
  refine g_iloadN X420 hx (pc' := 5) rfl (hD hby d17_4) rfl ?_
  refine g_icmpN X420 hx (pcN := 8) (hD hby d17_5) rfl (show ¬ (¬ (0 : Int32) = (0 : Int32)) from by decide) ?_
  refine g_aloadN X420 hx (pc' := 9) rfl (hD hby d17_8) rfl rfl ?_
  refine g_getF X420 hx hZ hown (wat hw 20 rfl) Via.refl Fvt (pc' := 12) rfl (hD hby d17_9) (fun T421 X421 => ?_)
  refine g_iconst X421 hx (pc' := 13) (z := (0 : Int32)) rfl (hD hby d17_12) rfl ?_
  refine g_aloadN X421 hx (pc' := 14) rfl (hD hby d17_13) rfl rfl ?_
  refine g_iloadN X421 hx (pc' := 15) rfl (hD hby d17_14) rfl ?_
  refine g_iloadN X421 hx (pc' := 16) rfl (hD hby d17_15) rfl ?_
  refine g_ishl X421 hx (pc' := 17) rfl (hD hby d17_16) ?_
  refine g_normI (z := o') (ar_shl0 _) ?_
  refine g_aloadN X421 hx (pc' := 18) rfl (hD hby d17_17) rfl rfl ?_
  refine g_getF X421 hx hZ hown (wat hw 20 rfl) Via.refl Fvt (pc' := 21) rfl (hD hby d17_18) (fun T422 X422 => ?_)
  refine g_alen X422 hx hZ Abt (z := n') (by rw [L1_len]; exact hl) (pc' := 22) rfl (hD hby d17_21) ?_
  refine g_copyP X422 hx hZ hown (wat hw 108 rfl) (wat hw 111 rfl) (wat hw 109 rfl) (wat hw 110 rfl) Abt Av rfl (i := 0) (j := o) (n := ds.length) rfl ho hl (by rw [L1_len]; omega) (by omega) hgv (by rw [hml]; rfl) (pc' := 25) rfl (hD hby d17_22) (by decide) (W := 0) (Nat.le_of_eq rfl) (by decide +kernel) (fun T423 h423 X423 K423 N423 => ?_)
  have f424 := (Keep.refl h0 [va]).trans K423 (allS (Or.inl (List.mem_of_getElem? (i := 0) rfl)) all0)
  have f425 := OLD.keep K423 (allS hgv all0)
  have f426 := Et.keep K423
  have f427 := Fvt.keep K423 (ninS nA419 nin0)
  have f428 := Fct.keep K423 (ninS nA419 nin0)
  have f429 := Abt.keep K423 (ninS hne nin0)
  have zs423 : n0 ≤ h423.size := Nat.le_trans hn0 K423.1
  have V423 : AV Z h423 va .byte (zs.take o ++ L1 ds ++ zs.drop (o + ds.length)) := (by have q := N423; rw [List.drop_zero, ← L1_len ds, List.take_length, L1_len] at q; exact q)
  show Go p e below s n0 _ _ _ (T423.setTop (mkF m 25 _ []))
  refine g_goto X423 hx (pc' := 43) (hD hby d17_25) (by decide) (by decide) ?_
  exact g_retV X423 hx hlk hret (hD hby d17_43) (by decide) (by decide) (Nat.le_refl _) (⟨rfl, f424, V423⟩)
theorem rm17_11 (l : Launch) (Z : State) (a0 : Array Value) (hw : HW a0 Z) (ws : List Jvm.Cond) (n0 : Nat) (Ts : List String) (t tb va : Addr) (zs : List Value) (ds : List Int32) (o' q' o2 : Int32) (o : Nat) (cz : Int32) (h0 : Heap) (hn0 : n0 ≤ h0.size) (O2 : St0 Z (.int cz)) (hcz : ¬ cz = 0) (OLD : OldP Z n0 h0) (Et : XSt Z h0 t) (Fvt : SV Z h0 t (.ref tb)) (Fct : SC Z h0 t (.int 1)) (Abt : AV Z h0 tb .byte (U16 ds)) (hds : ∀ c ∈ ds, 0 ≤ c.toInt ∧ c.toInt < 65536) (Av : AV Z h0 va .byte zs) (hgv : n0 ≤ va) (hne : tb ≠ va) (hq : q'.toInt = ((2 * ds.length : Nat) : Int)) (h2 : o' <<< ((1 : Int32) &&& 31) = o2) (h3 : o2.toInt = ((2 * o : Nat) : Int)) (hb : 2 * o + 2 * ds.length ≤ zs.length) :
    Con l Z n0 Ts (Ts) (⟨"java/lang/String", "getBytes", "([BIB)V"⟩ : MethodName) jdk_42_method_147_code 4 none ws ({ frames := 1, cells := 0, slots := 0, locals := 32 } : Room) #[(.ref t), (.ref va), (.int o'), (.int 1)] h0 (fun v h => v = none ∧ Keep h0 h [va] ∧ AV Z h va .byte (zs.take (2 * o) ++ U16 ds ++ zs.drop (2 * o + 2 * ds.length))) := by
  refine con_start (fr0 := fun m => mkF m 0 #[.val (.ref t), .val (.ref va), .val (.int o'), .val (.int 1)] []) ?_
  intro p e s m below meth c T0 hx hZ hby hml hown hnm hret hlk hsh XA
  have X0 := XA n0
  have hlow : n0 ≤ s.heap.size := by rw [hsh]; exact hn0
  replace hown : s.vm.findClass "java/lang/String" = some m.cls := hown
  replace hml : c.maxLocals = 4 := hml
  have nA430 : t ≠ va := own_neA Et (wat hw 1 rfl) Av
  refine g_aloadN X0 hx (pc' := 1) rfl (hD hby d17_0) rfl rfl ?_
  refine g_callV X0 hx hZ hown (wat hw 79 rfl) (wat hw 80 rfl) (wat hw 82 rfl) (wat hw 81 rfl) (wat hw 2 rfl) (wat hw 83 rfl) (by decide) (a := t) Et (rm13_1 l Z a0 hw [] n0 (Ts) t cz h0 hn0 O2 hcz OLD Fct) pd_0 rfl rfl (pc' := 4) rfl (hD hby d17_1) (argsL := []) (rest := []) rfl (W := 0) (fun v431 T431 h431 X431 hQ431 => ?_)
  obtain ⟨rfl, he431⟩ := hQ431
  rw [he431] at X431
  show Go p e below s n0 _ _ _ (T431.setTop (mkF m 4 _ [(.int 1)]))
  refine g_iloadN X431 hx (pc' := 5) rfl (hD hby d17_4) rfl ?_
  refine g_icmpN X431 hx (pcN := 8) (hD hby d17_5) rfl (show ¬ (¬ (1 : Int32) = (1 : Int32)) from by decide) ?_
  refine g_aloadN X431 hx (pc' := 9) rfl (hD hby d17_8) rfl rfl ?_
  refine g_getF X431 hx hZ hown (wat hw 20 rfl) Via.refl Fvt (pc' := 12) rfl (hD hby d17_9) (fun T432 X432 => ?_)
  refine g_iconst X432 hx (pc' := 13) (z := (0 : Int32)) rfl (hD hby d17_12) rfl ?_
  refine g_aloadN X432 hx (pc' := 14) rfl (hD hby d17_13) rfl rfl ?_
  refine g_iloadN X432 hx (pc' := 15) rfl (hD hby d17_14) rfl ?_
  refine g_iloadN X432 hx (pc' := 16) rfl (hD hby d17_15) rfl ?_
  refine g_ishl X432 hx (pc' := 17) rfl (hD hby d17_16) ?_
  refine g_normI (z := o2) h2 ?_
  refine g_aloadN X432 hx (pc' := 18) rfl (hD hby d17_17) rfl rfl ?_
  refine g_getF X432 hx hZ hown (wat hw 20 rfl) Via.refl Fvt (pc' := 21) rfl (hD hby d17_18) (fun T433 X433 => ?_)
  refine g_alen X433 hx hZ Abt (z := q') (by rw [U16_len]; exact hq) (pc' := 22) rfl (hD hby d17_21) ?_
  refine g_copyP X433 hx hZ hown (wat hw 108 rfl) (wat hw 111 rfl) (wat hw 109 rfl) (wat hw 110 rfl) Abt Av rfl (i := 0) (j := 2 * o) (n := 2 * ds.length) rfl h3 hq (by rw [U16_len]; omega) (by omega) hgv (by rw [hml]; rfl) (pc' := 25) rfl (hD hby d17_22) (by decide) (W := 0) (Nat.le_of_eq rfl) (by decide +kernel) (fun T434 h434 X434 K434 N434 => ?_)
  have f435 := (Keep.refl h0 [va]).trans K434 (allS (Or.inl (List.mem_of_getElem? (i := 0) rfl)) all0)
  have f436 := OLD.keep K434 (allS hgv all0)
  have f437 := Et.keep K434
  have f438 := Fvt.keep K434 (ninS nA430 nin0)
  have f439 := Fct.keep K434 (ninS nA430 nin0)
  have f440 := Abt.keep K434 (ninS hne nin0)
  have zs434 : n0 ≤ h434.size := Nat.le_trans hn0 K434.1
  have V434 : AV Z h434 va .byte (zs.take (2 * o) ++ U16 ds ++ zs.drop (2 * o + 2 * ds.length)) := (by have q := N434; rw [List.drop_zero, ← U16_len ds, List.take_length, U16_len] at q; exact q)
  show Go p e below s n0 _ _ _ (T434.setTop (mkF m 25 _ []))
  refine g_goto X434 hx (pc' := 43) (hD hby d17_25) (by decide) (by decide) ?_
  exact g_retV X434 hx hlk hret (hD hby d17_43) (by decide) (by decide) (Nat.le_refl _) (⟨rfl, f435, V434⟩)
theorem own_wd1 (zs : List Value) (ds : List Int32) (o : Nat) : Wd zs ds o ds.length = zs.take (2 * o) ++ U16 ds ++ zs.drop (2 * o + 2 * ds.length) := by simp [Wd]
theorem rm17_01 (l : Launch) (Z : State) (a0 : Array Value) (hw : HW a0 Z) (ws : List Jvm.Cond) (n0 : Nat) (Ts : List String) (t tb va : Addr) (zs : List Value) (ds : List Int32) (o' n' l' m' : Int32) (o : Nat) (fo : Value) (cz : Int32) (h0 : Heap) (hn0 : n0 ≤ h0.size) (O4 : St1 Z fo) (hfo : fo.isRef = true) (U1 : St2 Z (.int 1)) (U2 : St3 Z (.int 0)) (U3 : St4 Z (.int 8)) (O2 : St0 Z (.int cz)) (hcz : ¬ cz = 0) (OLD : OldP Z n0 h0) (Et : XSt Z h0 t) (Fvt : SV Z h0 t (.ref tb)) (Fct : SC Z h0 t (.int 0)) (Abt : AV Z h0 tb .byte (L1 ds)) (hds : ∀ c ∈ ds, 0 ≤ c.toInt ∧ c.toInt ≤ 255) (Av : AV Z h0 va .byte zs) (hgv : n0 ≤ va) (hne : tb ≠ va) (ho : o'.toInt = (o : Int)) (hl : n'.toInt = (ds.length : Int)) (hb : 2 * o + 2 * ds.length ≤ zs.length) (hb2 : o + ds.length < 400) (hM : m'.toInt = (zs.length : Int)) (hs : m' >>> ((1 : Int32) &&& 31) = l') (c1 : ¬ ((l' ||| o') ||| n') < (0 : Int32)) (c2 : ¬ l' - o' < n') :
    Con l Z n0 Ts (Ts) (⟨"java/lang/String", "getBytes", "([BIB)V"⟩ : MethodName) jdk_42_method_147_code 4 none ws ({ frames := 5, cells := 0, slots := 0, locals := 112 } : Room) #[(.ref t), (.ref va), (.int o'), (.int 1)] h0 (fun v h => v = none ∧ Keep h0 h [va] ∧ AV Z h va .byte (zs.take (2 * o) ++ U16 ds ++ zs.drop (2 * o + 2 * ds.length))) := by
  refine con_start (fr0 := fun m => mkF m 0 #[.val (.ref t), .val (.ref va), .val (.int o'), .val (.int 1)] []) ?_
  intro p e s m below meth c T0 hx hZ hby hml hown hnm hret hlk hsh XA
  have X0 := XA n0
  have hlow : n0 ≤ s.heap.size := by rw [hsh]; exact hn0
  replace hown : s.vm.findClass "java/lang/String" = some m.cls := hown
  replace hml : c.maxLocals = 4 := hml
  have nA441 : t ≠ va := own_neA Et (wat hw 1 rfl) Av
  refine g_aloadN X0 hx (pc' := 1) rfl (hD hby d17_0) rfl rfl ?_
  refine g_callV X0 hx hZ hown (wat hw 79 rfl) (wat hw 80 rfl) (wat hw 82 rfl) (wat hw 81 rfl) (wat hw 2 rfl) (wat hw 83 rfl) (by decide) (a := t) Et (rm13_0 l Z a0 hw [] n0 (Ts) t cz h0 hn0 O2 hcz OLD Fct) pd_0 rfl rfl (pc' := 4) rfl (hD hby d17_1) (argsL := []) (rest := []) rfl (W := 0) (fun v442 T442 h442 X442 hQ442 => ?_)
  obtain ⟨rfl, he442⟩ := hQ442
  rw [he442] at X442
  show Go p e below s n0 _ _ _ (T442.setTop (mkF m 4 _ [(.int 0)]))
  refine g_iloadN X442 hx (pc' := 5) rfl (hD hby d17_4) rfl ?_
  refine g_icmpY X442 hx (pcY := 28) (hD hby d17_5) (by decide) (by decide) (show ¬ (0 : Int32) = (1 : Int32) from by decide) ?_
  refine g_aloadN X442 hx (pc' := 29) rfl (hD hby d17_28) rfl rfl ?_
  refine g_getF X442 hx hZ hown (wat hw 20 rfl) Via.refl Fvt (pc' := 32) rfl (hD hby d17_29) (fun T443 X443 => ?_)
  refine g_iconst X443 hx (pc' := 33) (z := (0 : Int32)) rfl (hD hby d17_32) rfl ?_
  refine g_aloadN X443 hx (pc' := 34) rfl (hD hby d17_33) rfl rfl ?_
  refine g_iloadN X443 hx (pc' := 35) rfl (hD hby d17_34) rfl ?_
  refine g_aloadN X443 hx (pc' := 36) rfl (hD hby d17_35) rfl rfl ?_
  refine g_getF X443 hx hZ hown (wat hw 20 rfl) Via.refl Fvt (pc' := 39) rfl (hD hby d17_36) (fun T444 X444 => ?_)
  refine g_alen X444 hx hZ Abt (z := n') (by rw [L1_len]; exact hl) (pc' := 40) rfl (hD hby d17_39) ?_
  refine g_callS X444 hx hZ hown (wat hw 277 rfl) (wat hw 260 rfl) (wat hw 210 rfl) (wat hw 261 rfl) (by decide) (rm49 l Z a0 hw [] n0 (Ts) tb va (L1 ds) zs ds o' n' o l' m' fo h0 hn0 O4 hfo U1 U2 U3 OLD (fun i hi => L1_get hi) (by rw [L1_len]; omega) hds hl ho hb hb2 Abt Av hgv hne hM hs c1 c2) pd_23 rfl rfl (pc' := 43) rfl (hD hby d17_40) (argsL := [(.ref tb), (.int 0), (.ref va), (.int o'), (.int n')]) (rest := []) rfl (W := 0) (fun v445 T445 h445 X445 hQ445 => ?_)
  obtain ⟨rfl, K445, V445⟩ := hQ445
  have f446 := (Keep.refl h0 [va]).trans K445 (allS (Or.inl (List.mem_of_getElem? (i := 0) rfl)) all0)
  have f447 := OLD.keep K445 (allS hgv all0)
  have f448 := Et.keep K445
  have f449 := Fvt.keep K445 (ninS nA441 nin0)
  have f450 := Fct.keep K445 (ninS nA441 nin0)
  have f451 := Abt.keep K445 (ninS hne nin0)
  have zs445 : n0 ≤ h445.size := Nat.le_trans hn0 K445.1
  show Go p e below s n0 _ _ _ (T445.setTop (mkF m 43 _ []))
  exact g_retV X445 hx hlk hret (hD hby d17_43) (by decide) (by decide) (Nat.le_refl _) (⟨rfl, f446, own_wd1 zs ds o ▸ V445⟩)
theorem rm15_00 (l : Launch) (Z : State) (a0 : Array Value) (hw : HW a0 Z) (ws : List Jvm.Cond) (n0 : Nat) (Ts : List String) (b va t tb : Addr) (zs : List Value) (ds : List Int32) (n9 o' n' : Int32) (o : Nat) (cz : Int32) (h0 : Heap) (hn0 : n0 ≤ h0.size) (O2 : St0 Z (.int cz)) (hcz : ¬ cz = 0) (OLD : OldP Z n0 h0) (Eb : XSb Z h0 b) (hgb : n0 ≤ b) (Fbv : BV Z h0 b (.ref va)) (Fbc : BC Z h0 b (.int 0)) (Fbn : BN Z h0 b (.int n9)) (Fbm : BM Z h0 b (.int 0)) (Av : AV Z h0 va .byte zs) (hgv : n0 ≤ va) (hne : tb ≠ va)  (Et : XSt Z h0 t) (Fvt : SV Z h0 t (.ref tb)) (Fct : SC Z h0 t (.int 0)) (Abt : AV Z h0 tb .byte (L1 ds)) (hds : ∀ c ∈ ds, 0 ≤ c.toInt ∧ c.toInt ≤ 255) (ho : o'.toInt = (o : Int)) (hl : n'.toInt = (ds.length : Int)) (hb : o + ds.length ≤ zs.length) :
    Con l Z n0 Ts (Ts) (⟨"java/lang/AbstractStringBuilder", "putStringAt", "(ILjava/lang/String;)V"⟩ : MethodName) jdk_68_method_73_code 3 none ws ({ frames := 3, cells := 0, slots := 0, locals := 72 } : Room) #[(.ref b), (.int o'), (.ref t)] h0 (fun v h => v = none ∧ Keep h0 h [va] ∧ AV Z h va .byte (zs.take o ++ L1 ds ++ zs.drop (o + ds.length))) := by
  refine con_start (fr0 := fun m => mkF m 0 #[.val (.ref b), .val (.int o'), .val (.ref t)] []) ?_
  intro p e s m below meth c T0 hx hZ hby hml hown hnm hret hlk hsh XA
  have X0 := XA n0
  have hlow : n0 ≤ s.heap.size := by rw [hsh]; exact hn0
  replace hown : s.vm.findClass "java/lang/AbstractStringBuilder" = some m.cls := hown
  replace hml : c.maxLocals = 3 := hml
  have nA452 : b ≠ va := own_neA Eb (wat hw 27 rfl) Av
  have nA453 : t ≠ va := own_neA Et (wat hw 1 rfl) Av
  have n_b_t : b ≠ t := Exa.ne Eb Et (by decide)
  have nA454 : b ≠ tb := own_neA Eb (wat hw 27 rfl) Abt
  refine g_aloadN X0 hx (pc' := 1) rfl (hD hby d15_0) rfl rfl ?_
  refine g_aloadN X0 hx (pc' := 2) rfl (hD hby d15_1) rfl rfl ?_
  refine g_callPS X0 hx hZ hown (wat hw 97 rfl) (wat hw 98 rfl) (wat hw 100 rfl) (wat hw 99 rfl) (wat hw 36 rfl) (wat hw 101 rfl) (by decide) (a := b) Eb (rm16_00 l Z a0 hw [] n0 (Ts) b t cz h0 hn0 O2 hcz OLD Eb Et Fbc Fct) pd_25 rfl rfl (pc' := 5) rfl (hD hby d15_2) (argsL := [(.ref t)]) (rest := []) rfl (W := 0) (fun v455 T455 h455 X455 hQ455 => ?_)
  obtain ⟨rfl, he455⟩ := hQ455
  rw [he455] at X455
  show Go p e below s n0 _ _ _ (T455.setTop (mkF m 5 _ []))
  refine g_aloadN X455 hx (pc' := 6) rfl (hD hby d15_5) rfl rfl ?_
  refine g_aloadN X455 hx (pc' := 7) rfl (hD hby d15_6) rfl rfl ?_
  refine g_getF X455 hx hZ hown (wat hw 40 rfl) Via.refl Fbv (pc' := 10) rfl (hD hby d15_7) (fun T456 X456 => ?_)
  refine g_iloadN X456 hx (pc' := 11) rfl (hD hby d15_10) rfl ?_
  refine g_aloadN X456 hx (pc' := 12) rfl (hD hby d15_11) rfl rfl ?_
  refine g_getF X456 hx hZ hown (wat hw 42 rfl) Via.refl Fbc (pc' := 15) rfl (hD hby d15_12) (fun T457 X457 => ?_)
  refine g_callV X457 hx hZ hown (wat hw 103 rfl) (wat hw 104 rfl) (wat hw 106 rfl) (wat hw 105 rfl) (wat hw 2 rfl) (wat hw 107 rfl) (by decide) (a := t) Et (rm17_00 l Z a0 hw [] n0 (Ts) t tb va zs ds o' n' o cz h0 hn0 O2 hcz OLD Et Fvt Fct Abt hds Av hgv hne ho hl hb) pd_26 rfl rfl (pc' := 18) rfl (hD hby d15_15) (argsL := [(.ref va), (.int o'), (.int 0)]) (rest := []) rfl (W := 0) (fun v458 T458 h458 X458 hQ458 => ?_)
  obtain ⟨rfl, K458, V458⟩ := hQ458
  have f459 := (Keep.refl h0 [va]).trans K458 (allS (Or.inl (List.mem_of_getElem? (i := 0) rfl)) all0)
  have f460 := OLD.keep K458 (allS hgv all0)
  have f461 := Eb.keep K458
  have f462 := Fbv.keep K458 (ninS nA452 nin0)
  have f463 := Fbc.keep K458 (ninS nA452 nin0)
  have f464 := Fbn.keep K458 (ninS nA452 nin0)
  have f465 := Fbm.keep K458 (ninS nA452 nin0)
  have f466 := Et.keep K458
  have f467 := Fvt.keep K458 (ninS nA453 nin0)
  have f468 := Fct.keep K458 (ninS nA453 nin0)
  have f469 := Abt.keep K458 (ninS hne nin0)
  have zs458 : n0 ≤ h458.size := Nat.le_trans hn0 K458.1
  show Go p e below s n0 _ _ _ (T458.setTop (mkF m 18 _ []))
  exact g_retV X458 hx hlk hret (hD hby d15_18) (by decide) (by decide) (Nat.le_refl _) (⟨rfl, f459, V458⟩)
theorem rm15_10 (l : Launch) (Z : State) (a0 : Array Value) (hw : HW a0 Z) (ws : List Jvm.Cond) (n0 : Nat) (Ts : List String) (b va t tb : Addr) (zs : List Value) (ds : List Int32) (n9 o' n' l' m' : Int32) (o : Nat) (fo : Value) (cz : Int32) (h0 : Heap) (hn0 : n0 ≤ h0.size) (O4 : St1 Z fo) (hfo : fo.isRef = true) (U1 : St2 Z (.int 1)) (U2 : St3 Z (.int 0)) (U3 : St4 Z (.int 8)) (O2 : St0 Z (.int cz)) (hcz : ¬ cz = 0) (OLD : OldP Z n0 h0) (Eb : XSb Z h0 b) (hgb : n0 ≤ b) (Fbv : BV Z h0 b (.ref va)) (Fbc : BC Z h0 b (.int 1)) (Fbn : BN Z h0 b (.int n9)) (Fbm : BM Z h0 b (.int 0)) (Av : AV Z h0 va .byte zs) (hgv : n0 ≤ va) (hne : tb ≠ va)  (Et : XSt Z h0 t) (Fvt : SV Z h0 t (.ref tb)) (Fct : SC Z h0 t (.int 0)) (Abt : AV Z h0 tb .byte (L1 ds)) (hds : ∀ c ∈ ds, 0 ≤ c.toInt ∧ c.toInt ≤ 255) (ho : o'.toInt = (o : Int)) (hl : n'.toInt = (ds.length : Int)) (hb : 2 * o + 2 * ds.length ≤ zs.length) (hb2 : o + ds.length < 400) (hM : m'.toInt = (zs.length : Int)) (hs : m' >>> ((1 : Int32) &&& 31) = l') (c1 : ¬ ((l' ||| o') ||| n') < (0 : Int32)) (c2 : ¬ l' - o' < n') :
    Con l Z n0 Ts (Ts) (⟨"java/lang/AbstractStringBuilder", "putStringAt", "(ILjava/lang/String;)V"⟩ : MethodName) jdk_68_method_73_code 3 none ws ({ frames := 6, cells := 0, slots := 0, locals := 136 } : Room) #[(.ref b), (.int o'), (.ref t)] h0 (fun v h => v = none ∧ Keep h0 h [va] ∧ AV Z h va .byte (zs.take (2 * o) ++ U16 ds ++ zs.drop (2 * o + 2 * ds.length))) := by
  refine con_start (fr0 := fun m => mkF m 0 #[.val (.ref b), .val (.int o'), .val (.ref t)] []) ?_
  intro p e s m below meth c T0 hx hZ hby hml hown hnm hret hlk hsh XA
  have X0 := XA n0
  have hlow : n0 ≤ s.heap.size := by rw [hsh]; exact hn0
  replace hown : s.vm.findClass "java/lang/AbstractStringBuilder" = some m.cls := hown
  replace hml : c.maxLocals = 3 := hml
  have nA470 : b ≠ va := own_neA Eb (wat hw 27 rfl) Av
  have nA471 : t ≠ va := own_neA Et (wat hw 1 rfl) Av
  have n_b_t : b ≠ t := Exa.ne Eb Et (by decide)
  have nA472 : b ≠ tb := own_neA Eb (wat hw 27 rfl) Abt
  refine g_aloadN X0 hx (pc' := 1) rfl (hD hby d15_0) rfl rfl ?_
  refine g_aloadN X0 hx (pc' := 2) rfl (hD hby d15_1) rfl rfl ?_
  refine g_callPS X0 hx hZ hown (wat hw 97 rfl) (wat hw 98 rfl) (wat hw 100 rfl) (wat hw 99 rfl) (wat hw 36 rfl) (wat hw 101 rfl) (by decide) (a := b) Eb (rm16_10 l Z a0 hw [] n0 (Ts) b t cz h0 hn0 O2 hcz OLD Eb Et Fbc Fct) pd_25 rfl rfl (pc' := 5) rfl (hD hby d15_2) (argsL := [(.ref t)]) (rest := []) rfl (W := 0) (fun v473 T473 h473 X473 hQ473 => ?_)
  obtain ⟨rfl, he473⟩ := hQ473
  rw [he473] at X473
  show Go p e below s n0 _ _ _ (T473.setTop (mkF m 5 _ []))
  refine g_aloadN X473 hx (pc' := 6) rfl (hD hby d15_5) rfl rfl ?_
  refine g_aloadN X473 hx (pc' := 7) rfl (hD hby d15_6) rfl rfl ?_
  refine g_getF X473 hx hZ hown (wat hw 40 rfl) Via.refl Fbv (pc' := 10) rfl (hD hby d15_7) (fun T474 X474 => ?_)
  refine g_iloadN X474 hx (pc' := 11) rfl (hD hby d15_10) rfl ?_
  refine g_aloadN X474 hx (pc' := 12) rfl (hD hby d15_11) rfl rfl ?_
  refine g_getF X474 hx hZ hown (wat hw 42 rfl) Via.refl Fbc (pc' := 15) rfl (hD hby d15_12) (fun T475 X475 => ?_)
  refine g_callV X475 hx hZ hown (wat hw 103 rfl) (wat hw 104 rfl) (wat hw 106 rfl) (wat hw 105 rfl) (wat hw 2 rfl) (wat hw 107 rfl) (by decide) (a := t) Et (rm17_01 l Z a0 hw [] n0 (Ts) t tb va zs ds o' n' l' m' o fo cz h0 hn0 O4 hfo U1 U2 U3 O2 hcz OLD Et Fvt Fct Abt hds Av hgv hne ho hl hb hb2 hM hs c1 c2) pd_26 rfl rfl (pc' := 18) rfl (hD hby d15_15) (argsL := [(.ref va), (.int o'), (.int 1)]) (rest := []) rfl (W := 0) (fun v476 T476 h476 X476 hQ476 => ?_)
  obtain ⟨rfl, K476, V476⟩ := hQ476
  have f477 := (Keep.refl h0 [va]).trans K476 (allS (Or.inl (List.mem_of_getElem? (i := 0) rfl)) all0)
  have f478 := OLD.keep K476 (allS hgv all0)
  have f479 := Eb.keep K476
  have f480 := Fbv.keep K476 (ninS nA470 nin0)
  have f481 := Fbc.keep K476 (ninS nA470 nin0)
  have f482 := Fbn.keep K476 (ninS nA470 nin0)
  have f483 := Fbm.keep K476 (ninS nA470 nin0)
  have f484 := Et.keep K476
  have f485 := Fvt.keep K476 (ninS nA471 nin0)
  have f486 := Fct.keep K476 (ninS nA471 nin0)
  have f487 := Abt.keep K476 (ninS hne nin0)
  have zs476 : n0 ≤ h476.size := Nat.le_trans hn0 K476.1
  show Go p e below s n0 _ _ _ (T476.setTop (mkF m 18 _ []))
  exact g_retV X476 hx hlk hret (hD hby d15_18) (by decide) (by decide) (Nat.le_refl _) (⟨rfl, f477, V476⟩)
theorem rm15_01 (l : Launch) (Z : State) (a0 : Array Value) (hw : HW a0 Z) (ws : List Jvm.Cond) (n0 : Nat) (Ts : List String) (b va t tb : Addr) (zs : List Value) (cs ds : List Int32) (o' cap' m' q' o2 : Int32) (fo : Value) (cz : Int32) (h0 : Heap) (hn0 : n0 ≤ h0.size) (O4 : St1 Z fo) (hfo : fo.isRef = true) (U1 : St2 Z (.int 1)) (U2 : St3 Z (.int 0)) (U3 : St4 Z (.int 8)) (O2 : St0 Z (.int cz)) (hcz : ¬ cz = 0) (OLD : OldP Z n0 h0) (Eb : XSb Z h0 b) (hgb : n0 ≤ b) (Fbv : BV Z h0 b (.ref va)) (Fbc : BC Z h0 b (.int 0)) (Fbn : BN Z h0 b (.int o')) (Fbm : BM Z h0 b (.int 0)) (Av : AV Z h0 va .byte zs) (hcap : cap'.toInt = (zs.length : Int)) (hM : m'.toInt = ((2 * zs.length : Nat) : Int)) (hm : cap' <<< ((1 : Int32) &&& 31) = m') (hs : m' >>> ((1 : Int32) &&& 31) = cap') (hz : zs.length ≤ 129) (hpre : zs.take cs.length = L1 cs) (hn : o'.toInt = (cs.length : Int)) (hcs : ∀ c ∈ cs, 0 ≤ c.toInt ∧ c.toInt ≤ 255) (hle : cs.length ≤ zs.length) (c1 : ¬ ((cap' ||| (0 : Int32)) ||| o') < (0 : Int32)) (c2 : ¬ cap' - (0 : Int32) < o') (Et : XSt Z h0 t) (Fvt : SV Z h0 t (.ref tb)) (Fct : SC Z h0 t (.int 1)) (Abt : AV Z h0 tb .byte (U16 ds)) (hds : ∀ c ∈ ds, 0 ≤ c.toInt ∧ c.toInt < 65536) (hq : q'.toInt = ((2 * ds.length : Nat) : Int)) (h2 : o' <<< ((1 : Int32) &&& 31) = o2) (h3 : o2.toInt = ((2 * cs.length : Nat) : Int)) (hbb : cs.length + ds.length ≤ zs.length) :
    Con l Z n0 Ts (Ts) (⟨"java/lang/AbstractStringBuilder", "putStringAt", "(ILjava/lang/String;)V"⟩ : MethodName) jdk_68_method_73_code 3 none ws ({ frames := 7, cells := 1, slots := 258, locals := 160 } : Room) #[(.ref b), (.int o'), (.ref t)] h0 (fun v h => v = none ∧ Keep h0 h [b] ∧ ∃ nb, n0 ≤ nb ∧ h0.size ≤ nb ∧ AV Z h nb .byte ((U16 cs ++ List.replicate (2 * zs.length - 2 * cs.length) (Value.int 0)).take (2 * cs.length) ++ U16 ds ++ (U16 cs ++ List.replicate (2 * zs.length - 2 * cs.length) (Value.int 0)).drop (2 * cs.length + 2 * ds.length)) ∧ BV Z h b (.ref nb) ∧ BC Z h b (.int 1) ∧ BN Z h b (.int o') ∧ BM Z h b (.int 0)) := by
  refine con_start (fr0 := fun m => mkF m 0 #[.val (.ref b), .val (.int o'), .val (.ref t)] []) ?_
  intro p e s m below meth c T0 hx hZ hby hml hown hnm hret hlk hsh XA
  have X0 := XA n0
  have hlow : n0 ≤ s.heap.size := by rw [hsh]; exact hn0
  replace hown : s.vm.findClass "java/lang/AbstractStringBuilder" = some m.cls := hown
  replace hml : c.maxLocals = 3 := hml
  have nA488 : b ≠ va := own_neA Eb (wat hw 27 rfl) Av
  have nA489 : t ≠ va := own_neA Et (wat hw 1 rfl) Av
  have n_b_t : b ≠ t := Exa.ne Eb Et (by decide)
  have nA490 : b ≠ tb := own_neA Eb (wat hw 27 rfl) Abt
  refine g_aloadN X0 hx (pc' := 1) rfl (hD hby d15_0) rfl rfl ?_
  refine g_aloadN X0 hx (pc' := 2) rfl (hD hby d15_1) rfl rfl ?_
  refine g_callPS X0 hx hZ hown (wat hw 97 rfl) (wat hw 98 rfl) (wat hw 100 rfl) (wat hw 99 rfl) (wat hw 36 rfl) (wat hw 101 rfl) (by decide) (a := b) Eb (rm16_01 l Z a0 hw [] n0 (Ts) b va t zs cs o' cap' m' fo cz h0 hn0 O4 hfo U1 U2 U3 O2 hcz OLD Eb hgb Fbv Fbc Fbn Fbm Av hcap hM hm hs hz hpre hn hcs hle c1 c2 Et Fct) pd_25 rfl rfl (pc' := 5) rfl (hD hby d15_2) (argsL := [(.ref t)]) (rest := []) rfl (W := 0) (fun v491 T491 h491 X491 hQ491 => ?_)
  obtain ⟨rfl, K491, nb491, Gnb491, S491, V491, FV491, FC491, FN491, FM491⟩ := hQ491
  have nenb491_b : b ≠ nb491 := Nat.ne_of_lt (Nat.lt_of_lt_of_le Eb.lt S491)
  have nenb491_va : va ≠ nb491 := Nat.ne_of_lt (Nat.lt_of_lt_of_le Av.lt S491)
  have nenb491_t : t ≠ nb491 := Nat.ne_of_lt (Nat.lt_of_lt_of_le Et.lt S491)
  have nenb491_tb : tb ≠ nb491 := Nat.ne_of_lt (Nat.lt_of_lt_of_le Abt.lt S491)
  have sznb491 : h0.size ≤ nb491 := Nat.le_trans (Keep.refl h0 [b]).1 S491
  have f492 := (Keep.refl h0 [b]).trans K491 (allS (Or.inl (List.mem_of_getElem? (i := 0) rfl)) all0)
  have f493 := OLD.keep K491 (allS hgb all0)
  have f494 := Eb.keep K491
  have f495 := Av.keep K491 (ninS nA488.symm nin0)
  have f496 := Et.keep K491
  have f497 := Fvt.keep K491 (ninS n_b_t.symm nin0)
  have f498 := Fct.keep K491 (ninS n_b_t.symm nin0)
  have f499 := Abt.keep K491 (ninS nA490.symm nin0)
  have zs491 : n0 ≤ h491.size := Nat.le_trans hn0 K491.1
  show Go p e below s n0 _ _ _ (T491.setTop (mkF m 5 _ []))
  refine g_aloadN X491 hx (pc' := 6) rfl (hD hby d15_5) rfl rfl ?_
  refine g_aloadN X491 hx (pc' := 7) rfl (hD hby d15_6) rfl rfl ?_
  refine g_getF X491 hx hZ hown (wat hw 40 rfl) Via.refl FV491 (pc' := 10) rfl (hD hby d15_7) (fun T500 X500 => ?_)
  refine g_iloadN X500 hx (pc' := 11) rfl (hD hby d15_10) rfl ?_
  refine g_aloadN X500 hx (pc' := 12) rfl (hD hby d15_11) rfl rfl ?_
  refine g_getF X500 hx hZ hown (wat hw 42 rfl) Via.refl FC491 (pc' := 15) rfl (hD hby d15_12) (fun T501 X501 => ?_)
  refine g_callV X501 hx hZ hown (wat hw 103 rfl) (wat hw 104 rfl) (wat hw 106 rfl) (wat hw 105 rfl) (wat hw 2 rfl) (wat hw 107 rfl) (by decide) (a := t) f496 (rm17_11 l Z a0 hw [] n0 (Ts) t tb nb491 (U16 cs ++ List.replicate (2 * zs.length - 2 * cs.length) (Value.int 0)) ds o' q' o2 cs.length cz h491 zs491 O2 hcz f493 f496 f497 f498 f499 hds V491 Gnb491 nenb491_tb hq h2 h3 (by rw [List.length_append, U16_len, List.length_replicate]; omega)) pd_26 rfl rfl (pc' := 18) rfl (hD hby d15_15) (argsL := [(.ref nb491), (.int o'), (.int 1)]) (rest := []) rfl (W := 0) (fun v502 T502 h502 X502 hQ502 => ?_)
  obtain ⟨rfl, K502, V502⟩ := hQ502
  have f503 := f492.trans K502 (allS (Or.inr sznb491) all0)
  have f504 := f493.keep K502 (allS Gnb491 all0)
  have f505 := f494.keep K502
  have f506 := f495.keep K502 (ninS nenb491_va nin0)
  have f507 := f496.keep K502
  have f508 := f497.keep K502 (ninS nenb491_t nin0)
  have f509 := f498.keep K502 (ninS nenb491_t nin0)
  have f510 := f499.keep K502 (ninS nenb491_tb nin0)
  have f511 := FV491.keep K502 (ninS nenb491_b nin0)
  have f512 := FC491.keep K502 (ninS nenb491_b nin0)
  have f513 := FN491.keep K502 (ninS nenb491_b nin0)
  have f514 := FM491.keep K502 (ninS nenb491_b nin0)
  have zs502 : n0 ≤ h502.size := Nat.le_trans zs491 K502.1
  show Go p e below s n0 _ _ _ (T502.setTop (mkF m 18 _ []))
  exact g_retV X502 hx hlk hret (hD hby d15_18) (by decide) (by decide) (Nat.le_refl _) (⟨rfl, f503, nb491, Gnb491, sznb491, V502, f511, f512, f513, f514⟩)
theorem own_ap0 {zs : List Value} {cs ds : List Int32} (h : zs.take cs.length = L1 cs) (hb : cs.length + ds.length ≤ zs.length) : (zs.take cs.length ++ L1 ds ++ zs.drop (cs.length + ds.length)).length = zs.length ∧ (zs.take cs.length ++ L1 ds ++ zs.drop (cs.length + ds.length)).take (cs ++ ds).length = L1 (cs ++ ds) := by
  have e : L1 cs ++ L1 ds = L1 (cs ++ ds) := by simp [L1]
  refine ⟨by simp only [List.length_append, List.length_take, L1_len, List.length_drop]; omega, ?_⟩
  rw [h, e]; exact List.take_left' (by rw [L1_len])
theorem own_ap1 {zs : List Value} {cs ds : List Int32} (h : zs.take (2 * cs.length) = U16 cs) (hb : 2 * cs.length + 2 * ds.length ≤ zs.length) : (zs.take (2 * cs.length) ++ U16 ds ++ zs.drop (2 * cs.length + 2 * ds.length)).length = zs.length ∧ (zs.take (2 * cs.length) ++ U16 ds ++ zs.drop (2 * cs.length + 2 * ds.length)).take (2 * (cs ++ ds).length) = U16 (cs ++ ds) := by
  refine ⟨by simp only [List.length_append, List.length_take, U16_len, List.length_drop]; omega, ?_⟩
  rw [h, ← U16_app]; exact List.take_left' (by rw [U16_len])
theorem own_gr0 {zs : List Value} {cs : List Int32} {nl : Nat} (h : zs.take cs.length = L1 cs) (hle : cs.length ≤ zs.length) (e : zs.length ≤ nl) : (zs ++ List.replicate (nl - zs.length) (Value.int 0)).length = nl ∧ (zs ++ List.replicate (nl - zs.length) (Value.int 0)).take cs.length = L1 cs :=
  ⟨by rw [List.length_append, List.length_replicate]; omega, by rw [List.take_append_of_le_length hle]; exact h⟩
theorem own_gr1 {zs : List Value} {cs : List Int32} {nl : Nat} (h : zs.take (2 * cs.length) = U16 cs) (hle : 2 * cs.length ≤ zs.length) (e : zs.length ≤ nl) : (zs ++ List.replicate (nl - zs.length) (Value.int 0)).length = nl ∧ (zs ++ List.replicate (nl - zs.length) (Value.int 0)).take (2 * cs.length) = U16 cs :=
  ⟨by rw [List.length_append, List.length_replicate]; omega, by rw [List.take_append_of_le_length hle]; exact h⟩
theorem own_in1 {zs : List Value} {cs : List Int32} (hle : cs.length ≤ zs.length) : (U16 cs ++ List.replicate (2 * zs.length - 2 * cs.length) (Value.int 0)).length = 2 * zs.length ∧ (U16 cs ++ List.replicate (2 * zs.length - 2 * cs.length) (Value.int 0)).take (2 * cs.length) = U16 cs :=
  ⟨by rw [List.length_append, List.length_replicate, U16_len]; omega, List.take_left' (U16_len cs)⟩
theorem rm11_P (l : Launch) (Z : State) (a0 : Array Value) (hw : HW a0 Z) (ws : List Jvm.Cond) (n0 : Nat) (Ts : List String) (b va t tb : Addr) (zs : List Value) (cs ds : List Int32) (c' n' q' mm : Int32) (cap' cc' d' : Int32) (cz : Int32) (h0 : Heap) (hn0 : n0 ≤ h0.size) (O2 : St0 Z (.int cz)) (hcz : ¬ cz = 0) (OLD : OldP Z n0 h0) (Eb : XSb Z h0 b) (hgb : n0 ≤ b) (Fbv : BV Z h0 b (.ref va)) (Fbc : BC Z h0 b (.int 0)) (Fbn : BN Z h0 b (.int c')) (Fbm : BM Z h0 b (.int 0)) (Av : AV Z h0 va .byte zs) (hgv : n0 ≤ va) (hne : tb ≠ va) (Et : XSt Z h0 t) (Fvt : SV Z h0 t (.ref tb)) (Fct : SC Z h0 t (.int 0)) (Abt : AV Z h0 tb .byte (L1 ds)) (hds : ∀ c ∈ ds, 0 ≤ c.toInt ∧ c.toInt ≤ 255) (hpre : zs.take cs.length = L1 cs) (hle : cs.length ≤ zs.length) (hc : c'.toInt = (cs.length : Int)) (hn : n'.toInt = (ds.length : Int)) (hq : q'.toInt = ((2 * ds.length : Nat) : Int)) (hs9 : q' >>> ((1 : Int32) &&& 31) = n') (hmm : c' + n' = mm) (hcap : cap'.toInt = (zs.length : Int)) (e1 : cap' >>> ((0 : Int32) &&& 31) = cc') (e2 : mm - cc' = d') (e3 : ¬ (0 : Int32) < d') (hbb : cs.length + ds.length ≤ zs.length) :
    Con l Z n0 Ts (Ts) (⟨"java/lang/AbstractStringBuilder", "append", "(Ljava/lang/String;)Ljava/lang/AbstractStringBuilder;"⟩ : MethodName) jdk_68_method_22_code 3 (some (.object "java/lang/AbstractStringBuilder")) ws ({ frames := 4, cells := 0, slots := 0, locals := 96 } : Room) #[(.ref b), (.ref t)] h0 (fun v h => v = some (.ref b) ∧ Keep h0 h [b, va] ∧ ∃ va' zs', (va' = va ∨ h0.size ≤ va') ∧ n0 ≤ va' ∧ AV Z h va' .byte zs' ∧ zs'.length = zs.length ∧ zs'.take ((cs ++ ds).length) = L1 (cs ++ ds) ∧ BV Z h b (.ref va') ∧ BC Z h b (.int 0) ∧ BN Z h b (.int mm) ∧ BM Z h b (.int 0)) := by
  refine con_start (fr0 := fun m => mkF m 0 #[.val (.ref b), .val (.ref t), .unset] []) ?_
  intro p e s m below meth c T0 hx hZ hby hml hown hnm hret hlk hsh XA
  have X0 := XA n0
  have hlow : n0 ≤ s.heap.size := by rw [hsh]; exact hn0
  replace hown : s.vm.findClass "java/lang/AbstractStringBuilder" = some m.cls := hown
  replace hml : c.maxLocals = 3 := hml
  have nA515 : b ≠ va := own_neA Eb (wat hw 27 rfl) Av
  have nA516 : t ≠ va := own_neA Et (wat hw 1 rfl) Av
  have n_b_t : b ≠ t := Exa.ne Eb Et (by decide)
  have nA517 : b ≠ tb := own_neA Eb (wat hw 27 rfl) Abt
  refine g_aloadN X0 hx (pc' := 1) rfl (hD hby d11_0) rfl rfl ?_
  refine g_ifnonnullY X0 hx (pcY := 9) (hD hby d11_1) (by decide) (by decide) ?_
  refine g_aloadN X0 hx (pc' := 10) rfl (hD hby d11_9) rfl rfl ?_
  refine g_callV X0 hx hZ hown (wat hw 74 rfl) (wat hw 75 rfl) (wat hw 77 rfl) (wat hw 76 rfl) (wat hw 2 rfl) (wat hw 78 rfl) (by decide) (a := t) Et (rm12 l Z a0 hw [] n0 (Ts) t ds n' q' cz h0 hn0 O2 hcz OLD ⟨Et, tb, Fvt, Or.inl ⟨Fct, Abt, hds⟩⟩ hn hq hs9) pd_27 rfl rfl (pc' := 13) rfl (hD hby d11_10) (argsL := []) (rest := []) rfl (W := 0) (fun v518 T518 h518 X518 hQ518 => ?_)
  obtain ⟨rfl, he518⟩ := hQ518
  rw [he518] at X518
  show Go p e below s n0 _ _ _ (T518.setTop (mkF m 13 _ [(.int n')]))
  refine g_istoreN X518 hx (pc' := 14) rfl (hD hby d11_13) (l' := #[.val (.ref b), .val (.ref t), .val (.int n')]) rfl ?_
  refine g_aloadN X518 hx (pc' := 15) rfl (hD hby d11_14) rfl rfl ?_
  refine g_aloadN X518 hx (pc' := 16) rfl (hD hby d11_15) rfl rfl ?_
  refine g_getF X518 hx hZ hown (wat hw 85 rfl) Via.refl Fbn (pc' := 19) rfl (hD hby d11_16) (fun T519 X519 => ?_)
  refine g_iloadN X519 hx (pc' := 20) rfl (hD hby d11_19) rfl ?_
  refine g_iadd X519 hx (pc' := 21) rfl (hD hby d11_20) ?_
  refine g_normI (z := mm) hmm ?_
  refine g_callPS X519 hx hZ hown (wat hw 87 rfl) (wat hw 88 rfl) (wat hw 90 rfl) (wat hw 89 rfl) (wat hw 36 rfl) (wat hw 91 rfl) (by decide) (a := b) Eb (rm14_n l Z a0 hw [] n0 (Ts) b va zs c' cap' cc' mm d' h0 hn0 Fbv Fbc Fbn Fbm Av hcap e1 e2 e3) pd_17 rfl rfl (pc' := 24) rfl (hD hby d11_21) (argsL := [(.int mm)]) (rest := []) rfl (W := 0) (fun v520 T520 h520 X520 hQ520 => ?_)
  obtain ⟨rfl, he520⟩ := hQ520
  rw [he520] at X520
  show Go p e below s n0 _ _ _ (T520.setTop (mkF m 24 _ []))
  refine g_aloadN X520 hx (pc' := 25) rfl (hD hby d11_24) rfl rfl ?_
  refine g_aloadN X520 hx (pc' := 26) rfl (hD hby d11_25) rfl rfl ?_
  refine g_getF X520 hx hZ hown (wat hw 85 rfl) Via.refl Fbn (pc' := 29) rfl (hD hby d11_26) (fun T521 X521 => ?_)
  refine g_aloadN X521 hx (pc' := 30) rfl (hD hby d11_29) rfl rfl ?_
  refine g_callPS X521 hx hZ hown (wat hw 92 rfl) (wat hw 93 rfl) (wat hw 95 rfl) (wat hw 94 rfl) (wat hw 36 rfl) (wat hw 96 rfl) (by decide) (a := b) Eb (rm15_00 l Z a0 hw [] n0 (Ts) b va t tb zs ds c' c' n' cs.length cz h0 hn0 O2 hcz OLD Eb hgb Fbv Fbc Fbn Fbm Av hgv hne Et Fvt Fct Abt hds hc hn hbb) pd_28 rfl rfl (pc' := 33) rfl (hD hby d11_30) (argsL := [(.int c'), (.ref t)]) (rest := []) rfl (W := 0) (fun v522 T522 h522 X522 hQ522 => ?_)
  obtain ⟨rfl, K522, V522⟩ := hQ522
  have f523 := (Keep.refl h0 [b, va]).trans K522 (allS (Or.inl (List.mem_of_getElem? (i := 1) rfl)) all0)
  have f524 := OLD.keep K522 (allS hgv all0)
  have f525 := Eb.keep K522
  have f526 := Fbv.keep K522 (ninS nA515 nin0)
  have f527 := Fbc.keep K522 (ninS nA515 nin0)
  have f528 := Fbn.keep K522 (ninS nA515 nin0)
  have f529 := Fbm.keep K522 (ninS nA515 nin0)
  have f530 := Et.keep K522
  have f531 := Fvt.keep K522 (ninS nA516 nin0)
  have f532 := Fct.keep K522 (ninS nA516 nin0)
  have f533 := Abt.keep K522 (ninS hne nin0)
  have zs522 : n0 ≤ h522.size := Nat.le_trans hn0 K522.1
  show Go p e below s n0 _ _ _ (T522.setTop (mkF m 33 _ []))
  refine g_aloadN X522 hx (pc' := 34) rfl (hD hby d11_33) rfl rfl ?_
  refine g_dup X522 hx (pc' := 35) rfl (hD hby d11_34) rfl ?_
  refine g_getF X522 hx hZ hown (wat hw 85 rfl) Via.refl f528 (pc' := 38) rfl (hD hby d11_35) (fun T534 X534 => ?_)
  refine g_iloadN X534 hx (pc' := 39) rfl (hD hby d11_38) rfl ?_
  refine g_iadd X534 hx (pc' := 40) rfl (hD hby d11_39) ?_
  refine g_normI (z := mm) hmm ?_
  refine g_putF X534 hx hZ hown (wat hw 85 rfl) Via.refl f528 f525 (Or.inl (wat hw 86 rfl)) (wat hw 27 rfl) (ty := .int) (by decide) rfl rfl hgb (pc' := 43) rfl (hD hby d11_40) (fun T535 h535 X535 W535 => ?_)
  have f536 := (by have q := (Keep.of_wr W535).1; exact Nat.le_trans zs522 q : n0 ≤ h535.size)
  have f537 := f523.wr W535 (Or.inl (List.mem_of_getElem? (i := 0) rfl))
  have f538 := f524.wr W535 hgb
  have f539 := f525.wr W535
  have f540 := f526.other W535 (Or.inr (slot_ne (Or.inl (wat hw 41 rfl)) (Or.inl (wat hw 86 rfl)) (by decide) (t := (.array .byte)) (t' := .int) (by decide) (by decide)))
  have f541 := f527.other W535 (Or.inr (slot_ne (Or.inl (wat hw 43 rfl)) (Or.inl (wat hw 86 rfl)) (by decide) (t := .byte) (t' := .int) (by decide) (by decide)))
  have f542 := f528.same W535
  have f543 := f529.other W535 (Or.inr (slot_ne (Or.inl (wat hw 279 rfl)) (Or.inl (wat hw 86 rfl)) (by decide) (t := .boolean) (t' := .int) (by decide) (by decide)))
  have f544 := f530.wr W535
  have f545 := f531.other W535 (Or.inl n_b_t.symm)
  have f546 := f532.other W535 (Or.inl n_b_t.symm)
  have f547 := f533.other W535 nA517.symm
  have f548 := V522.other W535 nA515.symm
  refine g_aloadN X535 hx (pc' := 44) rfl (hD hby d11_43) rfl rfl ?_
  exact g_ret X535 hx hlk hret rfl (Or.inr (Or.inr (Or.inr (Or.inr ⟨rfl, rfl, rfl⟩)))) (hD hby d11_44) (by decide) (by decide) (Nat.le_refl _) (⟨rfl, f537, va, _, Or.inl rfl, hgv, f548, (own_ap0 (ds := ds) hpre hbb).1, (own_ap0 (ds := ds) hpre hbb).2, f540, f541, f542, f543⟩)
theorem rm10_P (l : Launch) (Z : State) (a0 : Array Value) (hw : HW a0 Z) (ws : List Jvm.Cond) (n0 : Nat) (Ts : List String) (b va t tb : Addr) (zs : List Value) (cs ds : List Int32) (c' n' q' mm : Int32) (cap' cc' d' : Int32) (cz : Int32) (h0 : Heap) (hn0 : n0 ≤ h0.size) (O2 : St0 Z (.int cz)) (hcz : ¬ cz = 0) (OLD : OldP Z n0 h0) (Eb : XSb Z h0 b) (hgb : n0 ≤ b) (Fbv : BV Z h0 b (.ref va)) (Fbc : BC Z h0 b (.int 0)) (Fbn : BN Z h0 b (.int c')) (Fbm : BM Z h0 b (.int 0)) (Av : AV Z h0 va .byte zs) (hgv : n0 ≤ va) (hne : tb ≠ va) (Et : XSt Z h0 t) (Fvt : SV Z h0 t (.ref tb)) (Fct : SC Z h0 t (.int 0)) (Abt : AV Z h0 tb .byte (L1 ds)) (hds : ∀ c ∈ ds, 0 ≤ c.toInt ∧ c.toInt ≤ 255) (hpre : zs.take cs.length = L1 cs) (hle : cs.length ≤ zs.length) (hc : c'.toInt = (cs.length : Int)) (hn : n'.toInt = (ds.length : Int)) (hq : q'.toInt = ((2 * ds.length : Nat) : Int)) (hs9 : q' >>> ((1 : Int32) &&& 31) = n') (hmm : c' + n' = mm) (hcap : cap'.toInt = (zs.length : Int)) (e1 : cap' >>> ((0 : Int32) &&& 31) = cc') (e2 : mm - cc' = d') (e3 : ¬ (0 : Int32) < d') (hbb : cs.length + ds.length ≤ zs.length) :
    Con l Z n0 Ts (Ts) (⟨"java/lang/StringBuilder", "append", "(Ljava/lang/String;)Ljava/lang/StringBuilder;"⟩ : MethodName) jdk_67_method_7_code 2 (some (.object "java/lang/StringBuilder")) ws ({ frames := 5, cells := 0, slots := 0, locals := 120 } : Room) #[(.ref b), (.ref t)] h0 (fun v h => v = some (.ref b) ∧ Keep h0 h [b, va] ∧ ∃ va' zs', (va' = va ∨ h0.size ≤ va') ∧ n0 ≤ va' ∧ AV Z h va' .byte zs' ∧ zs'.length = zs.length ∧ zs'.take ((cs ++ ds).length) = L1 (cs ++ ds) ∧ BV Z h b (.ref va') ∧ BC Z h b (.int 0) ∧ BN Z h b (.int mm) ∧ BM Z h b (.int 0)) := by
  refine con_start (fr0 := fun m => mkF m 0 #[.val (.ref b), .val (.ref t)] []) ?_
  intro p e s m below meth c T0 hx hZ hby hml hown hnm hret hlk hsh XA
  have X0 := XA n0
  have hlow : n0 ≤ s.heap.size := by rw [hsh]; exact hn0
  replace hown : s.vm.findClass "java/lang/StringBuilder" = some m.cls := hown
  replace hml : c.maxLocals = 2 := hml
  refine g_aloadN X0 hx (pc' := 1) rfl (hD hby d10_0) rfl rfl ?_
  refine g_aloadN X0 hx (pc' := 2) rfl (hD hby d10_1) rfl rfl ?_
  refine g_callSup X0 hx hZ hown (by decide) (wat hw 69 rfl) (wat hw 70 rfl) (y' := ({ cls := "java/lang/AbstractStringBuilder", name := "ensureCapacityInternal", desc := "(I)V" } : Jvm.MethodName)) rfl (wat hw 90 rfl) (wat hw 71 rfl) (wat hw 36 rfl) (wat hw 73 rfl) (by decide) (a := b) Eb (rm11_P l Z a0 hw [] n0 (Ts) b va t tb zs cs ds c' n' q' mm cap' cc' d' cz h0 hn0 O2 hcz OLD Eb hgb Fbv Fbc Fbn Fbm Av hgv hne Et Fvt Fct Abt hds hpre hle hc hn hq hs9 hmm hcap e1 e2 e3 hbb) pd_29 rfl rfl (pc' := 5) rfl (hD hby d10_2) (argsL := [(.ref t)]) (rest := []) rfl (W := 0) (fun v549 T549 h549 X549 hQ549 => ?_)
  have hq_549 := hQ549
  obtain ⟨rfl, K549, -⟩ := hQ549
  show Go p e below s n0 _ _ _ (T549.setTop (mkF m 5 _ [(.ref b)]))
  refine g_pop X549 hx (pc' := 6) rfl (hD hby d10_5) rfl ?_
  refine g_aloadN X549 hx (pc' := 7) rfl (hD hby d10_6) rfl rfl ?_
  exact g_ret X549 hx hlk hret rfl (Or.inr (Or.inr (Or.inr (Or.inr ⟨rfl, rfl, rfl⟩)))) (hD hby d10_7) (by decide) (by decide) (Nat.le_refl _) (hq_549)
theorem rm11_G (l : Launch) (Z : State) (a0 : Array Value) (hw : HW a0 Z) (ws : List Jvm.Cond) (n0 : Nat) (Ts : List String) (b va t tb : Addr) (zs : List Value) (cs ds : List Int32) (c' n' q' mm : Int32) (cap' cc' d' a1 g' p' mx nl' nc' : Int32) (nl : Nat) (cz : Int32) (h0 : Heap) (hn0 : n0 ≤ h0.size) (O2 : St0 Z (.int cz)) (hcz : ¬ cz = 0) (OLD : OldP Z n0 h0) (Eb : XSb Z h0 b) (hgb : n0 ≤ b) (Fbv : BV Z h0 b (.ref va)) (Fbc : BC Z h0 b (.int 0)) (Fbn : BN Z h0 b (.int c')) (Fbm : BM Z h0 b (.int 0)) (Av : AV Z h0 va .byte zs) (hgv : n0 ≤ va) (hne : tb ≠ va) (Et : XSt Z h0 t) (Fvt : SV Z h0 t (.ref tb)) (Fct : SC Z h0 t (.int 0)) (Abt : AV Z h0 tb .byte (L1 ds)) (hds : ∀ c ∈ ds, 0 ≤ c.toInt ∧ c.toInt ≤ 255) (hpre : zs.take cs.length = L1 cs) (hle : cs.length ≤ zs.length) (hc : c'.toInt = (cs.length : Int)) (hn : n'.toInt = (ds.length : Int)) (hq : q'.toInt = ((2 * ds.length : Nat) : Int)) (hs9 : q' >>> ((1 : Int32) &&& 31) = n') (hmm : c' + n' = mm) (hcap : cap'.toInt = (zs.length : Int)) (e1 : cap' >>> ((0 : Int32) &&& 31) = cc') (e2 : mm - cc' = d') (e3 : (0 : Int32) < d') (e4 : mm <<< ((0 : Int32) &&& 31) = a1) (e5 : a1 - cap' = g') (e6 : cap' + (2 : Int32) = p') (e7 : (if g' < p' then p' else g') = mx) (e8 : cap' + mx = nl') (e9 : (0 : Int32) < nl') (e10 : ¬ (2147483639 : Int32) < nl') (e11 : ¬ nl' = (2147483647 : Int32)) (e12 : nl' >>> ((0 : Int32) &&& 31) = nc') (e13 : nc' <<< ((0 : Int32) &&& 31) = nl') (e14 : nl'.toInt = (nl : Int)) (e15 : ¬ nl' = cap') (e16 : ¬ nl' < cap') (e17 : zs.length ≤ nl) (e18 : nl ≤ 140) (hbb : cs.length + ds.length ≤ nl) :
    Con l Z n0 Ts (Ts) (⟨"java/lang/AbstractStringBuilder", "append", "(Ljava/lang/String;)Ljava/lang/AbstractStringBuilder;"⟩ : MethodName) jdk_68_method_22_code 3 (some (.object "java/lang/AbstractStringBuilder")) ws ({ frames := 4, cells := 1, slots := 140, locals := 96 } : Room) #[(.ref b), (.ref t)] h0 (fun v h => v = some (.ref b) ∧ Keep h0 h [b, va] ∧ ∃ va' zs', (va' = va ∨ h0.size ≤ va') ∧ n0 ≤ va' ∧ AV Z h va' .byte zs' ∧ zs'.length = nl ∧ zs'.take ((cs ++ ds).length) = L1 (cs ++ ds) ∧ Exa Z h va' "[B" ∧ BV Z h b (.ref va') ∧ BC Z h b (.int 0) ∧ BN Z h b (.int mm) ∧ BM Z h b (.int 0)) := by
  refine con_start (fr0 := fun m => mkF m 0 #[.val (.ref b), .val (.ref t), .unset] []) ?_
  intro p e s m below meth c T0 hx hZ hby hml hown hnm hret hlk hsh XA
  have X0 := XA n0
  have hlow : n0 ≤ s.heap.size := by rw [hsh]; exact hn0
  replace hown : s.vm.findClass "java/lang/AbstractStringBuilder" = some m.cls := hown
  replace hml : c.maxLocals = 3 := hml
  have nA550 : b ≠ va := own_neA Eb (wat hw 27 rfl) Av
  have nA551 : t ≠ va := own_neA Et (wat hw 1 rfl) Av
  have n_b_t : b ≠ t := Exa.ne Eb Et (by decide)
  have nA552 : b ≠ tb := own_neA Eb (wat hw 27 rfl) Abt
  refine g_aloadN X0 hx (pc' := 1) rfl (hD hby d11_0) rfl rfl ?_
  refine g_ifnonnullY X0 hx (pcY := 9) (hD hby d11_1) (by decide) (by decide) ?_
  refine g_aloadN X0 hx (pc' := 10) rfl (hD hby d11_9) rfl rfl ?_
  refine g_callV X0 hx hZ hown (wat hw 74 rfl) (wat hw 75 rfl) (wat hw 77 rfl) (wat hw 76 rfl) (wat hw 2 rfl) (wat hw 78 rfl) (by decide) (a := t) Et (rm12 l Z a0 hw [] n0 (Ts) t ds n' q' cz h0 hn0 O2 hcz OLD ⟨Et, tb, Fvt, Or.inl ⟨Fct, Abt, hds⟩⟩ hn hq hs9) pd_27 rfl rfl (pc' := 13) rfl (hD hby d11_10) (argsL := []) (rest := []) rfl (W := 0) (fun v553 T553 h553 X553 hQ553 => ?_)
  obtain ⟨rfl, he553⟩ := hQ553
  rw [he553] at X553
  show Go p e below s n0 _ _ _ (T553.setTop (mkF m 13 _ [(.int n')]))
  refine g_istoreN X553 hx (pc' := 14) rfl (hD hby d11_13) (l' := #[.val (.ref b), .val (.ref t), .val (.int n')]) rfl ?_
  refine g_aloadN X553 hx (pc' := 15) rfl (hD hby d11_14) rfl rfl ?_
  refine g_aloadN X553 hx (pc' := 16) rfl (hD hby d11_15) rfl rfl ?_
  refine g_getF X553 hx hZ hown (wat hw 85 rfl) Via.refl Fbn (pc' := 19) rfl (hD hby d11_16) (fun T554 X554 => ?_)
  refine g_iloadN X554 hx (pc' := 20) rfl (hD hby d11_19) rfl ?_
  refine g_iadd X554 hx (pc' := 21) rfl (hD hby d11_20) ?_
  refine g_normI (z := mm) hmm ?_
  refine g_callPS X554 hx hZ hown (wat hw 87 rfl) (wat hw 88 rfl) (wat hw 90 rfl) (wat hw 89 rfl) (wat hw 36 rfl) (wat hw 91 rfl) (by decide) (a := b) Eb (rm14_g0 l Z a0 hw [] n0 (Ts) b va zs c' cap' cc' mm d' a1 g' p' mx nl' nc' nl h0 hn0 Eb hgb Fbv Fbc Fbn Fbm Av hcap e1 e2 e3 e4 e5 e6 e7 e8 e9 e10 e11 e12 e13 e14 e15 e16 e17 e18) pd_17 rfl rfl (pc' := 24) rfl (hD hby d11_21) (argsL := [(.int mm)]) (rest := []) rfl (W := 0) (fun v555 T555 h555 X555 hQ555 => ?_)
  obtain ⟨rfl, K555, gb555, Ggb555, S555, V555, EX555, FV555, FC555, FN555, FM555⟩ := hQ555
  have negb555_b : b ≠ gb555 := Nat.ne_of_lt (Nat.lt_of_lt_of_le Eb.lt S555)
  have negb555_va : va ≠ gb555 := Nat.ne_of_lt (Nat.lt_of_lt_of_le Av.lt S555)
  have negb555_t : t ≠ gb555 := Nat.ne_of_lt (Nat.lt_of_lt_of_le Et.lt S555)
  have negb555_tb : tb ≠ gb555 := Nat.ne_of_lt (Nat.lt_of_lt_of_le Abt.lt S555)
  have szgb555 : h0.size ≤ gb555 := Nat.le_trans (Keep.refl h0 [b, va]).1 S555
  have f556 := (Keep.refl h0 [b, va]).trans K555 (allS (Or.inl (List.mem_of_getElem? (i := 0) rfl)) all0)
  have f557 := OLD.keep K555 (allS hgb all0)
  have f558 := Eb.keep K555
  have f559 := Av.keep K555 (ninS nA550.symm nin0)
  have f560 := Et.keep K555
  have f561 := Fvt.keep K555 (ninS n_b_t.symm nin0)
  have f562 := Fct.keep K555 (ninS n_b_t.symm nin0)
  have f563 := Abt.keep K555 (ninS nA552.symm nin0)
  have zs555 : n0 ≤ h555.size := Nat.le_trans hn0 K555.1
  obtain ⟨hgl, hgp⟩ := own_gr0 (nl := nl) hpre hle e17
  show Go p e below s n0 _ _ _ (T555.setTop (mkF m 24 _ []))
  refine g_aloadN X555 hx (pc' := 25) rfl (hD hby d11_24) rfl rfl ?_
  refine g_aloadN X555 hx (pc' := 26) rfl (hD hby d11_25) rfl rfl ?_
  refine g_getF X555 hx hZ hown (wat hw 85 rfl) Via.refl FN555 (pc' := 29) rfl (hD hby d11_26) (fun T564 X564 => ?_)
  refine g_aloadN X564 hx (pc' := 30) rfl (hD hby d11_29) rfl rfl ?_
  refine g_callPS X564 hx hZ hown (wat hw 92 rfl) (wat hw 93 rfl) (wat hw 95 rfl) (wat hw 94 rfl) (wat hw 36 rfl) (wat hw 96 rfl) (by decide) (a := b) f558 (rm15_00 l Z a0 hw [] n0 (Ts) b gb555 t tb (zs ++ List.replicate (nl - zs.length) (Value.int 0)) ds c' c' n' cs.length cz h555 zs555 O2 hcz f557 f558 hgb FV555 FC555 FN555 FM555 V555 Ggb555 negb555_tb f560 f561 f562 f563 hds hc hn (by rw [hgl]; exact hbb)) pd_28 rfl rfl (pc' := 33) rfl (hD hby d11_30) (argsL := [(.int c'), (.ref t)]) (rest := []) rfl (W := 0) (fun v565 T565 h565 X565 hQ565 => ?_)
  obtain ⟨rfl, K565, V565⟩ := hQ565
  have f566 := f556.trans K565 (allS (Or.inr szgb555) all0)
  have f567 := f557.keep K565 (allS Ggb555 all0)
  have f568 := f558.keep K565
  have f569 := f559.keep K565 (ninS negb555_va nin0)
  have f570 := f560.keep K565
  have f571 := f561.keep K565 (ninS negb555_t nin0)
  have f572 := f562.keep K565 (ninS negb555_t nin0)
  have f573 := f563.keep K565 (ninS negb555_tb nin0)
  have f574 := EX555.keep K565
  have f575 := FV555.keep K565 (ninS negb555_b nin0)
  have f576 := FC555.keep K565 (ninS negb555_b nin0)
  have f577 := FN555.keep K565 (ninS negb555_b nin0)
  have f578 := FM555.keep K565 (ninS negb555_b nin0)
  have zs565 : n0 ≤ h565.size := Nat.le_trans zs555 K565.1
  show Go p e below s n0 _ _ _ (T565.setTop (mkF m 33 _ []))
  refine g_aloadN X565 hx (pc' := 34) rfl (hD hby d11_33) rfl rfl ?_
  refine g_dup X565 hx (pc' := 35) rfl (hD hby d11_34) rfl ?_
  refine g_getF X565 hx hZ hown (wat hw 85 rfl) Via.refl f577 (pc' := 38) rfl (hD hby d11_35) (fun T579 X579 => ?_)
  refine g_iloadN X579 hx (pc' := 39) rfl (hD hby d11_38) rfl ?_
  refine g_iadd X579 hx (pc' := 40) rfl (hD hby d11_39) ?_
  refine g_normI (z := mm) hmm ?_
  refine g_putF X579 hx hZ hown (wat hw 85 rfl) Via.refl f577 f568 (Or.inl (wat hw 86 rfl)) (wat hw 27 rfl) (ty := .int) (by decide) rfl rfl hgb (pc' := 43) rfl (hD hby d11_40) (fun T580 h580 X580 W580 => ?_)
  have f581 := (by have q := (Keep.of_wr W580).1; exact Nat.le_trans zs565 q : n0 ≤ h580.size)
  have f582 := f566.wr W580 (Or.inl (List.mem_of_getElem? (i := 0) rfl))
  have f583 := f567.wr W580 hgb
  have f584 := f568.wr W580
  have f585 := f569.other W580 nA550.symm
  have f586 := f570.wr W580
  have f587 := f571.other W580 (Or.inl n_b_t.symm)
  have f588 := f572.other W580 (Or.inl n_b_t.symm)
  have f589 := f573.other W580 nA552.symm
  have f590 := f574.wr W580
  have f591 := f575.other W580 (Or.inr (slot_ne (Or.inl (wat hw 41 rfl)) (Or.inl (wat hw 86 rfl)) (by decide) (t := (.array .byte)) (t' := .int) (by decide) (by decide)))
  have f592 := f576.other W580 (Or.inr (slot_ne (Or.inl (wat hw 43 rfl)) (Or.inl (wat hw 86 rfl)) (by decide) (t := .byte) (t' := .int) (by decide) (by decide)))
  have f593 := f577.same W580
  have f594 := f578.other W580 (Or.inr (slot_ne (Or.inl (wat hw 279 rfl)) (Or.inl (wat hw 86 rfl)) (by decide) (t := .boolean) (t' := .int) (by decide) (by decide)))
  have f595 := V565.other W580 negb555_b.symm
  refine g_aloadN X580 hx (pc' := 44) rfl (hD hby d11_43) rfl rfl ?_
  exact g_ret X580 hx hlk hret rfl (Or.inr (Or.inr (Or.inr (Or.inr ⟨rfl, rfl, rfl⟩)))) (hD hby d11_44) (by decide) (by decide) (Nat.le_refl _) (⟨rfl, f582, gb555, _, Or.inr (szgb555), Ggb555, f595, ((own_ap0 (ds := ds) hgp (by rw [hgl]; exact hbb)).1.trans hgl), (own_ap0 (ds := ds) hgp (by rw [hgl]; exact hbb)).2, f590, f591, f592, f593, f594⟩)
theorem rm10_G (l : Launch) (Z : State) (a0 : Array Value) (hw : HW a0 Z) (ws : List Jvm.Cond) (n0 : Nat) (Ts : List String) (b va t tb : Addr) (zs : List Value) (cs ds : List Int32) (c' n' q' mm : Int32) (cap' cc' d' a1 g' p' mx nl' nc' : Int32) (nl : Nat) (cz : Int32) (h0 : Heap) (hn0 : n0 ≤ h0.size) (O2 : St0 Z (.int cz)) (hcz : ¬ cz = 0) (OLD : OldP Z n0 h0) (Eb : XSb Z h0 b) (hgb : n0 ≤ b) (Fbv : BV Z h0 b (.ref va)) (Fbc : BC Z h0 b (.int 0)) (Fbn : BN Z h0 b (.int c')) (Fbm : BM Z h0 b (.int 0)) (Av : AV Z h0 va .byte zs) (hgv : n0 ≤ va) (hne : tb ≠ va) (Et : XSt Z h0 t) (Fvt : SV Z h0 t (.ref tb)) (Fct : SC Z h0 t (.int 0)) (Abt : AV Z h0 tb .byte (L1 ds)) (hds : ∀ c ∈ ds, 0 ≤ c.toInt ∧ c.toInt ≤ 255) (hpre : zs.take cs.length = L1 cs) (hle : cs.length ≤ zs.length) (hc : c'.toInt = (cs.length : Int)) (hn : n'.toInt = (ds.length : Int)) (hq : q'.toInt = ((2 * ds.length : Nat) : Int)) (hs9 : q' >>> ((1 : Int32) &&& 31) = n') (hmm : c' + n' = mm) (hcap : cap'.toInt = (zs.length : Int)) (e1 : cap' >>> ((0 : Int32) &&& 31) = cc') (e2 : mm - cc' = d') (e3 : (0 : Int32) < d') (e4 : mm <<< ((0 : Int32) &&& 31) = a1) (e5 : a1 - cap' = g') (e6 : cap' + (2 : Int32) = p') (e7 : (if g' < p' then p' else g') = mx) (e8 : cap' + mx = nl') (e9 : (0 : Int32) < nl') (e10 : ¬ (2147483639 : Int32) < nl') (e11 : ¬ nl' = (2147483647 : Int32)) (e12 : nl' >>> ((0 : Int32) &&& 31) = nc') (e13 : nc' <<< ((0 : Int32) &&& 31) = nl') (e14 : nl'.toInt = (nl : Int)) (e15 : ¬ nl' = cap') (e16 : ¬ nl' < cap') (e17 : zs.length ≤ nl) (e18 : nl ≤ 140) (hbb : cs.length + ds.length ≤ nl) :
    Con l Z n0 Ts (Ts) (⟨"java/lang/StringBuilder", "append", "(Ljava/lang/String;)Ljava/lang/StringBuilder;"⟩ : MethodName) jdk_67_method_7_code 2 (some (.object "java/lang/StringBuilder")) ws ({ frames := 5, cells := 1, slots := 140, locals := 120 } : Room) #[(.ref b), (.ref t)] h0 (fun v h => v = some (.ref b) ∧ Keep h0 h [b, va] ∧ ∃ va' zs', (va' = va ∨ h0.size ≤ va') ∧ n0 ≤ va' ∧ AV Z h va' .byte zs' ∧ zs'.length = nl ∧ zs'.take ((cs ++ ds).length) = L1 (cs ++ ds) ∧ Exa Z h va' "[B" ∧ BV Z h b (.ref va') ∧ BC Z h b (.int 0) ∧ BN Z h b (.int mm) ∧ BM Z h b (.int 0)) := by
  refine con_start (fr0 := fun m => mkF m 0 #[.val (.ref b), .val (.ref t)] []) ?_
  intro p e s m below meth c T0 hx hZ hby hml hown hnm hret hlk hsh XA
  have X0 := XA n0
  have hlow : n0 ≤ s.heap.size := by rw [hsh]; exact hn0
  replace hown : s.vm.findClass "java/lang/StringBuilder" = some m.cls := hown
  replace hml : c.maxLocals = 2 := hml
  refine g_aloadN X0 hx (pc' := 1) rfl (hD hby d10_0) rfl rfl ?_
  refine g_aloadN X0 hx (pc' := 2) rfl (hD hby d10_1) rfl rfl ?_
  refine g_callSup X0 hx hZ hown (by decide) (wat hw 69 rfl) (wat hw 70 rfl) (y' := ({ cls := "java/lang/AbstractStringBuilder", name := "ensureCapacityInternal", desc := "(I)V" } : Jvm.MethodName)) rfl (wat hw 90 rfl) (wat hw 71 rfl) (wat hw 36 rfl) (wat hw 73 rfl) (by decide) (a := b) Eb (rm11_G l Z a0 hw [] n0 (Ts) b va t tb zs cs ds c' n' q' mm cap' cc' d' a1 g' p' mx nl' nc' nl cz h0 hn0 O2 hcz OLD Eb hgb Fbv Fbc Fbn Fbm Av hgv hne Et Fvt Fct Abt hds hpre hle hc hn hq hs9 hmm hcap e1 e2 e3 e4 e5 e6 e7 e8 e9 e10 e11 e12 e13 e14 e15 e16 e17 e18 hbb) pd_29 rfl rfl (pc' := 5) rfl (hD hby d10_2) (argsL := [(.ref t)]) (rest := []) rfl (W := 0) (fun v596 T596 h596 X596 hQ596 => ?_)
  have hq_596 := hQ596
  obtain ⟨rfl, K596, -⟩ := hQ596
  show Go p e below s n0 _ _ _ (T596.setTop (mkF m 5 _ [(.ref b)]))
  refine g_pop X596 hx (pc' := 6) rfl (hD hby d10_5) rfl ?_
  refine g_aloadN X596 hx (pc' := 7) rfl (hD hby d10_6) rfl rfl ?_
  exact g_ret X596 hx hlk hret rfl (Or.inr (Or.inr (Or.inr (Or.inr ⟨rfl, rfl, rfl⟩)))) (hD hby d10_7) (by decide) (by decide) (Nat.le_refl _) (hq_596)
theorem rm11_I (l : Launch) (Z : State) (a0 : Array Value) (hw : HW a0 Z) (ws : List Jvm.Cond) (n0 : Nat) (Ts : List String) (b va t tb : Addr) (zs : List Value) (cs ds : List Int32) (c' n' q' mm : Int32) (cap' cc' d' : Int32) (m' o2 : Int32) (fo : Value) (cz : Int32) (h0 : Heap) (hn0 : n0 ≤ h0.size) (O4 : St1 Z fo) (hfo : fo.isRef = true) (U1 : St2 Z (.int 1)) (U2 : St3 Z (.int 0)) (U3 : St4 Z (.int 8)) (O2 : St0 Z (.int cz)) (hcz : ¬ cz = 0) (OLD : OldP Z n0 h0) (Eb : XSb Z h0 b) (hgb : n0 ≤ b) (Fbv : BV Z h0 b (.ref va)) (Fbc : BC Z h0 b (.int 0)) (Fbn : BN Z h0 b (.int c')) (Fbm : BM Z h0 b (.int 0)) (Av : AV Z h0 va .byte zs) (hgv : n0 ≤ va) (hne : tb ≠ va) (Et : XSt Z h0 t) (Fvt : SV Z h0 t (.ref tb)) (Fct : SC Z h0 t (.int 1)) (Abt : AV Z h0 tb .byte (U16 ds)) (hds : ∀ c ∈ ds, 0 ≤ c.toInt ∧ c.toInt < 65536) (hpre : zs.take cs.length = L1 cs) (hle : cs.length ≤ zs.length) (hc : c'.toInt = (cs.length : Int)) (hn : n'.toInt = (ds.length : Int)) (hq : q'.toInt = ((2 * ds.length : Nat) : Int)) (hs9 : q' >>> ((1 : Int32) &&& 31) = n') (hmm : c' + n' = mm) (hcap : cap'.toInt = (zs.length : Int)) (e1 : cap' >>> ((0 : Int32) &&& 31) = cc') (e2 : mm - cc' = d') (e3 : ¬ (0 : Int32) < d') (hbb : cs.length + ds.length ≤ zs.length) (hz : zs.length ≤ 129) (hM : m'.toInt = ((2 * zs.length : Nat) : Int)) (hm : cap' <<< ((1 : Int32) &&& 31) = m') (hs : m' >>> ((1 : Int32) &&& 31) = cap') (hcs : ∀ c ∈ cs, 0 ≤ c.toInt ∧ c.toInt ≤ 255) (c1 : ¬ ((cap' ||| (0 : Int32)) ||| c') < (0 : Int32)) (c2 : ¬ cap' - (0 : Int32) < c') (h2 : c' <<< ((1 : Int32) &&& 31) = o2) (h3 : o2.toInt = ((2 * cs.length : Nat) : Int)) :
    Con l Z n0 Ts (Ts) (⟨"java/lang/AbstractStringBuilder", "append", "(Ljava/lang/String;)Ljava/lang/AbstractStringBuilder;"⟩ : MethodName) jdk_68_method_22_code 3 (some (.object "java/lang/AbstractStringBuilder")) ws ({ frames := 8, cells := 1, slots := 258, locals := 184 } : Room) #[(.ref b), (.ref t)] h0 (fun v h => v = some (.ref b) ∧ Keep h0 h [b, va] ∧ ∃ va' zs', (va' = va ∨ h0.size ≤ va') ∧ n0 ≤ va' ∧ AV Z h va' .byte zs' ∧ zs'.length = 2 * zs.length ∧ zs'.take (2 * (cs ++ ds).length) = U16 (cs ++ ds) ∧ BV Z h b (.ref va') ∧ BC Z h b (.int 1) ∧ BN Z h b (.int mm) ∧ BM Z h b (.int 0)) := by
  refine con_start (fr0 := fun m => mkF m 0 #[.val (.ref b), .val (.ref t), .unset] []) ?_
  intro p e s m below meth c T0 hx hZ hby hml hown hnm hret hlk hsh XA
  have X0 := XA n0
  have hlow : n0 ≤ s.heap.size := by rw [hsh]; exact hn0
  replace hown : s.vm.findClass "java/lang/AbstractStringBuilder" = some m.cls := hown
  replace hml : c.maxLocals = 3 := hml
  have nA597 : b ≠ va := own_neA Eb (wat hw 27 rfl) Av
  have nA598 : t ≠ va := own_neA Et (wat hw 1 rfl) Av
  have n_b_t : b ≠ t := Exa.ne Eb Et (by decide)
  have nA599 : b ≠ tb := own_neA Eb (wat hw 27 rfl) Abt
  refine g_aloadN X0 hx (pc' := 1) rfl (hD hby d11_0) rfl rfl ?_
  refine g_ifnonnullY X0 hx (pcY := 9) (hD hby d11_1) (by decide) (by decide) ?_
  refine g_aloadN X0 hx (pc' := 10) rfl (hD hby d11_9) rfl rfl ?_
  refine g_callV X0 hx hZ hown (wat hw 74 rfl) (wat hw 75 rfl) (wat hw 77 rfl) (wat hw 76 rfl) (wat hw 2 rfl) (wat hw 78 rfl) (by decide) (a := t) Et (rm12 l Z a0 hw [] n0 (Ts) t ds n' q' cz h0 hn0 O2 hcz OLD ⟨Et, tb, Fvt, Or.inr ⟨Fct, Abt, hds⟩⟩ hn hq hs9) pd_27 rfl rfl (pc' := 13) rfl (hD hby d11_10) (argsL := []) (rest := []) rfl (W := 0) (fun v600 T600 h600 X600 hQ600 => ?_)
  obtain ⟨rfl, he600⟩ := hQ600
  rw [he600] at X600
  show Go p e below s n0 _ _ _ (T600.setTop (mkF m 13 _ [(.int n')]))
  refine g_istoreN X600 hx (pc' := 14) rfl (hD hby d11_13) (l' := #[.val (.ref b), .val (.ref t), .val (.int n')]) rfl ?_
  refine g_aloadN X600 hx (pc' := 15) rfl (hD hby d11_14) rfl rfl ?_
  refine g_aloadN X600 hx (pc' := 16) rfl (hD hby d11_15) rfl rfl ?_
  refine g_getF X600 hx hZ hown (wat hw 85 rfl) Via.refl Fbn (pc' := 19) rfl (hD hby d11_16) (fun T601 X601 => ?_)
  refine g_iloadN X601 hx (pc' := 20) rfl (hD hby d11_19) rfl ?_
  refine g_iadd X601 hx (pc' := 21) rfl (hD hby d11_20) ?_
  refine g_normI (z := mm) hmm ?_
  refine g_callPS X601 hx hZ hown (wat hw 87 rfl) (wat hw 88 rfl) (wat hw 90 rfl) (wat hw 89 rfl) (wat hw 36 rfl) (wat hw 91 rfl) (by decide) (a := b) Eb (rm14_n l Z a0 hw [] n0 (Ts) b va zs c' cap' cc' mm d' h0 hn0 Fbv Fbc Fbn Fbm Av hcap e1 e2 e3) pd_17 rfl rfl (pc' := 24) rfl (hD hby d11_21) (argsL := [(.int mm)]) (rest := []) rfl (W := 0) (fun v602 T602 h602 X602 hQ602 => ?_)
  obtain ⟨rfl, he602⟩ := hQ602
  rw [he602] at X602
  show Go p e below s n0 _ _ _ (T602.setTop (mkF m 24 _ []))
  refine g_aloadN X602 hx (pc' := 25) rfl (hD hby d11_24) rfl rfl ?_
  refine g_aloadN X602 hx (pc' := 26) rfl (hD hby d11_25) rfl rfl ?_
  refine g_getF X602 hx hZ hown (wat hw 85 rfl) Via.refl Fbn (pc' := 29) rfl (hD hby d11_26) (fun T603 X603 => ?_)
  refine g_aloadN X603 hx (pc' := 30) rfl (hD hby d11_29) rfl rfl ?_
  refine g_callPS X603 hx hZ hown (wat hw 92 rfl) (wat hw 93 rfl) (wat hw 95 rfl) (wat hw 94 rfl) (wat hw 36 rfl) (wat hw 96 rfl) (by decide) (a := b) Eb (rm15_01 l Z a0 hw [] n0 (Ts) b va t tb zs cs ds c' cap' m' q' o2 fo cz h0 hn0 O4 hfo U1 U2 U3 O2 hcz OLD Eb hgb Fbv Fbc Fbn Fbm Av hcap hM hm hs hz hpre hc hcs hle c1 c2 Et Fvt Fct Abt hds hq h2 h3 hbb) pd_28 rfl rfl (pc' := 33) rfl (hD hby d11_30) (argsL := [(.int c'), (.ref t)]) (rest := []) rfl (W := 0) (fun v604 T604 h604 X604 hQ604 => ?_)
  obtain ⟨rfl, K604, ib604, Gib604, S604, V604, FV604, FC604, FN604, FM604⟩ := hQ604
  have neib604_b : b ≠ ib604 := Nat.ne_of_lt (Nat.lt_of_lt_of_le Eb.lt S604)
  have neib604_va : va ≠ ib604 := Nat.ne_of_lt (Nat.lt_of_lt_of_le Av.lt S604)
  have neib604_t : t ≠ ib604 := Nat.ne_of_lt (Nat.lt_of_lt_of_le Et.lt S604)
  have neib604_tb : tb ≠ ib604 := Nat.ne_of_lt (Nat.lt_of_lt_of_le Abt.lt S604)
  have szib604 : h0.size ≤ ib604 := Nat.le_trans (Keep.refl h0 [b, va]).1 S604
  have f605 := (Keep.refl h0 [b, va]).trans K604 (allS (Or.inl (List.mem_of_getElem? (i := 0) rfl)) all0)
  have f606 := OLD.keep K604 (allS hgb all0)
  have f607 := Eb.keep K604
  have f608 := Av.keep K604 (ninS nA597.symm nin0)
  have f609 := Et.keep K604
  have f610 := Fvt.keep K604 (ninS n_b_t.symm nin0)
  have f611 := Fct.keep K604 (ninS n_b_t.symm nin0)
  have f612 := Abt.keep K604 (ninS nA599.symm nin0)
  have zs604 : n0 ≤ h604.size := Nat.le_trans hn0 K604.1
  show Go p e below s n0 _ _ _ (T604.setTop (mkF m 33 _ []))
  refine g_aloadN X604 hx (pc' := 34) rfl (hD hby d11_33) rfl rfl ?_
  refine g_dup X604 hx (pc' := 35) rfl (hD hby d11_34) rfl ?_
  refine g_getF X604 hx hZ hown (wat hw 85 rfl) Via.refl FN604 (pc' := 38) rfl (hD hby d11_35) (fun T613 X613 => ?_)
  refine g_iloadN X613 hx (pc' := 39) rfl (hD hby d11_38) rfl ?_
  refine g_iadd X613 hx (pc' := 40) rfl (hD hby d11_39) ?_
  refine g_normI (z := mm) hmm ?_
  refine g_putF X613 hx hZ hown (wat hw 85 rfl) Via.refl FN604 f607 (Or.inl (wat hw 86 rfl)) (wat hw 27 rfl) (ty := .int) (by decide) rfl rfl hgb (pc' := 43) rfl (hD hby d11_40) (fun T614 h614 X614 W614 => ?_)
  have f615 := (by have q := (Keep.of_wr W614).1; exact Nat.le_trans zs604 q : n0 ≤ h614.size)
  have f616 := f605.wr W614 (Or.inl (List.mem_of_getElem? (i := 0) rfl))
  have f617 := f606.wr W614 hgb
  have f618 := f607.wr W614
  have f619 := f608.other W614 nA597.symm
  have f620 := f609.wr W614
  have f621 := f610.other W614 (Or.inl n_b_t.symm)
  have f622 := f611.other W614 (Or.inl n_b_t.symm)
  have f623 := f612.other W614 nA599.symm
  have f624 := V604.other W614 neib604_b.symm
  have f625 := FV604.other W614 (Or.inr (slot_ne (Or.inl (wat hw 41 rfl)) (Or.inl (wat hw 86 rfl)) (by decide) (t := (.array .byte)) (t' := .int) (by decide) (by decide)))
  have f626 := FC604.other W614 (Or.inr (slot_ne (Or.inl (wat hw 43 rfl)) (Or.inl (wat hw 86 rfl)) (by decide) (t := .byte) (t' := .int) (by decide) (by decide)))
  have f627 := FN604.same W614
  have f628 := FM604.other W614 (Or.inr (slot_ne (Or.inl (wat hw 279 rfl)) (Or.inl (wat hw 86 rfl)) (by decide) (t := .boolean) (t' := .int) (by decide) (by decide)))
  refine g_aloadN X614 hx (pc' := 44) rfl (hD hby d11_43) rfl rfl ?_
  exact g_ret X614 hx hlk hret rfl (Or.inr (Or.inr (Or.inr (Or.inr ⟨rfl, rfl, rfl⟩)))) (hD hby d11_44) (by decide) (by decide) (Nat.le_refl _) (⟨rfl, f616, ib604, _, Or.inr (szib604), Gib604, f624, ((own_ap1 (ds := ds) (own_in1 hle).2 (by rw [(own_in1 hle).1]; omega)).1.trans (own_in1 hle).1), (own_ap1 (ds := ds) (own_in1 hle).2 (by rw [(own_in1 hle).1]; omega)).2, f625, f626, f627, f628⟩)
theorem rm10_I (l : Launch) (Z : State) (a0 : Array Value) (hw : HW a0 Z) (ws : List Jvm.Cond) (n0 : Nat) (Ts : List String) (b va t tb : Addr) (zs : List Value) (cs ds : List Int32) (c' n' q' mm : Int32) (cap' cc' d' : Int32) (m' o2 : Int32) (fo : Value) (cz : Int32) (h0 : Heap) (hn0 : n0 ≤ h0.size) (O4 : St1 Z fo) (hfo : fo.isRef = true) (U1 : St2 Z (.int 1)) (U2 : St3 Z (.int 0)) (U3 : St4 Z (.int 8)) (O2 : St0 Z (.int cz)) (hcz : ¬ cz = 0) (OLD : OldP Z n0 h0) (Eb : XSb Z h0 b) (hgb : n0 ≤ b) (Fbv : BV Z h0 b (.ref va)) (Fbc : BC Z h0 b (.int 0)) (Fbn : BN Z h0 b (.int c')) (Fbm : BM Z h0 b (.int 0)) (Av : AV Z h0 va .byte zs) (hgv : n0 ≤ va) (hne : tb ≠ va) (Et : XSt Z h0 t) (Fvt : SV Z h0 t (.ref tb)) (Fct : SC Z h0 t (.int 1)) (Abt : AV Z h0 tb .byte (U16 ds)) (hds : ∀ c ∈ ds, 0 ≤ c.toInt ∧ c.toInt < 65536) (hpre : zs.take cs.length = L1 cs) (hle : cs.length ≤ zs.length) (hc : c'.toInt = (cs.length : Int)) (hn : n'.toInt = (ds.length : Int)) (hq : q'.toInt = ((2 * ds.length : Nat) : Int)) (hs9 : q' >>> ((1 : Int32) &&& 31) = n') (hmm : c' + n' = mm) (hcap : cap'.toInt = (zs.length : Int)) (e1 : cap' >>> ((0 : Int32) &&& 31) = cc') (e2 : mm - cc' = d') (e3 : ¬ (0 : Int32) < d') (hbb : cs.length + ds.length ≤ zs.length) (hz : zs.length ≤ 129) (hM : m'.toInt = ((2 * zs.length : Nat) : Int)) (hm : cap' <<< ((1 : Int32) &&& 31) = m') (hs : m' >>> ((1 : Int32) &&& 31) = cap') (hcs : ∀ c ∈ cs, 0 ≤ c.toInt ∧ c.toInt ≤ 255) (c1 : ¬ ((cap' ||| (0 : Int32)) ||| c') < (0 : Int32)) (c2 : ¬ cap' - (0 : Int32) < c') (h2 : c' <<< ((1 : Int32) &&& 31) = o2) (h3 : o2.toInt = ((2 * cs.length : Nat) : Int)) :
    Con l Z n0 Ts (Ts) (⟨"java/lang/StringBuilder", "append", "(Ljava/lang/String;)Ljava/lang/StringBuilder;"⟩ : MethodName) jdk_67_method_7_code 2 (some (.object "java/lang/StringBuilder")) ws ({ frames := 9, cells := 1, slots := 258, locals := 208 } : Room) #[(.ref b), (.ref t)] h0 (fun v h => v = some (.ref b) ∧ Keep h0 h [b, va] ∧ ∃ va' zs', (va' = va ∨ h0.size ≤ va') ∧ n0 ≤ va' ∧ AV Z h va' .byte zs' ∧ zs'.length = 2 * zs.length ∧ zs'.take (2 * (cs ++ ds).length) = U16 (cs ++ ds) ∧ BV Z h b (.ref va') ∧ BC Z h b (.int 1) ∧ BN Z h b (.int mm) ∧ BM Z h b (.int 0)) := by
  refine con_start (fr0 := fun m => mkF m 0 #[.val (.ref b), .val (.ref t)] []) ?_
  intro p e s m below meth c T0 hx hZ hby hml hown hnm hret hlk hsh XA
  have X0 := XA n0
  have hlow : n0 ≤ s.heap.size := by rw [hsh]; exact hn0
  replace hown : s.vm.findClass "java/lang/StringBuilder" = some m.cls := hown
  replace hml : c.maxLocals = 2 := hml
  refine g_aloadN X0 hx (pc' := 1) rfl (hD hby d10_0) rfl rfl ?_
  refine g_aloadN X0 hx (pc' := 2) rfl (hD hby d10_1) rfl rfl ?_
  refine g_callSup X0 hx hZ hown (by decide) (wat hw 69 rfl) (wat hw 70 rfl) (y' := ({ cls := "java/lang/AbstractStringBuilder", name := "ensureCapacityInternal", desc := "(I)V" } : Jvm.MethodName)) rfl (wat hw 90 rfl) (wat hw 71 rfl) (wat hw 36 rfl) (wat hw 73 rfl) (by decide) (a := b) Eb (rm11_I l Z a0 hw [] n0 (Ts) b va t tb zs cs ds c' n' q' mm cap' cc' d' m' o2 fo cz h0 hn0 O4 hfo U1 U2 U3 O2 hcz OLD Eb hgb Fbv Fbc Fbn Fbm Av hgv hne Et Fvt Fct Abt hds hpre hle hc hn hq hs9 hmm hcap e1 e2 e3 hbb hz hM hm hs hcs c1 c2 h2 h3) pd_29 rfl rfl (pc' := 5) rfl (hD hby d10_2) (argsL := [(.ref t)]) (rest := []) rfl (W := 0) (fun v629 T629 h629 X629 hQ629 => ?_)
  have hq_629 := hQ629
  obtain ⟨rfl, K629, -⟩ := hQ629
  show Go p e below s n0 _ _ _ (T629.setTop (mkF m 5 _ [(.ref b)]))
  refine g_pop X629 hx (pc' := 6) rfl (hD hby d10_5) rfl ?_
  refine g_aloadN X629 hx (pc' := 7) rfl (hD hby d10_6) rfl rfl ?_
  exact g_ret X629 hx hlk hret rfl (Or.inr (Or.inr (Or.inr (Or.inr ⟨rfl, rfl, rfl⟩)))) (hD hby d10_7) (by decide) (by decide) (Nat.le_refl _) (hq_629)
theorem rm11_H (l : Launch) (Z : State) (a0 : Array Value) (hw : HW a0 Z) (ws : List Jvm.Cond) (n0 : Nat) (Ts : List String) (b va t tb : Addr) (zs : List Value) (cs ds : List Int32) (c' n' q' mm : Int32) (cap' cc' d' a1 g' p' mx nl' nc' : Int32) (nl : Nat) (m' o2 : Int32) (fo : Value) (cz : Int32) (h0 : Heap) (hn0 : n0 ≤ h0.size) (O4 : St1 Z fo) (hfo : fo.isRef = true) (U1 : St2 Z (.int 1)) (U2 : St3 Z (.int 0)) (U3 : St4 Z (.int 8)) (O2 : St0 Z (.int cz)) (hcz : ¬ cz = 0) (OLD : OldP Z n0 h0) (Eb : XSb Z h0 b) (hgb : n0 ≤ b) (Fbv : BV Z h0 b (.ref va)) (Fbc : BC Z h0 b (.int 0)) (Fbn : BN Z h0 b (.int c')) (Fbm : BM Z h0 b (.int 0)) (Av : AV Z h0 va .byte zs) (hgv : n0 ≤ va) (hne : tb ≠ va) (Et : XSt Z h0 t) (Fvt : SV Z h0 t (.ref tb)) (Fct : SC Z h0 t (.int 1)) (Abt : AV Z h0 tb .byte (U16 ds)) (hds : ∀ c ∈ ds, 0 ≤ c.toInt ∧ c.toInt < 65536) (hpre : zs.take cs.length = L1 cs) (hle : cs.length ≤ zs.length) (hc : c'.toInt = (cs.length : Int)) (hn : n'.toInt = (ds.length : Int)) (hq : q'.toInt = ((2 * ds.length : Nat) : Int)) (hs9 : q' >>> ((1 : Int32) &&& 31) = n') (hmm : c' + n' = mm) (hcap : cap'.toInt = (zs.length : Int)) (e1 : cap' >>> ((0 : Int32) &&& 31) = cc') (e2 : mm - cc' = d') (e3 : (0 : Int32) < d') (e4 : mm <<< ((0 : Int32) &&& 31) = a1) (e5 : a1 - cap' = g') (e6 : cap' + (2 : Int32) = p') (e7 : (if g' < p' then p' else g') = mx) (e8 : cap' + mx = nl') (e9 : (0 : Int32) < nl') (e10 : ¬ (2147483639 : Int32) < nl') (e11 : ¬ nl' = (2147483647 : Int32)) (e12 : nl' >>> ((0 : Int32) &&& 31) = nc') (e13 : nc' <<< ((0 : Int32) &&& 31) = nl') (e14 : nl'.toInt = (nl : Int)) (e15 : ¬ nl' = cap') (e16 : ¬ nl' < cap') (e17 : zs.length ≤ nl) (e18 : nl ≤ 140) (hbb : cs.length + ds.length ≤ nl) (hz : nl ≤ 129) (hM : m'.toInt = ((2 * nl : Nat) : Int)) (hm : nl' <<< ((1 : Int32) &&& 31) = m') (hs : m' >>> ((1 : Int32) &&& 31) = nl') (hcs : ∀ c ∈ cs, 0 ≤ c.toInt ∧ c.toInt ≤ 255) (c1 : ¬ ((nl' ||| (0 : Int32)) ||| c') < (0 : Int32)) (c2 : ¬ nl' - (0 : Int32) < c') (h2 : c' <<< ((1 : Int32) &&& 31) = o2) (h3 : o2.toInt = ((2 * cs.length : Nat) : Int)) :
    Con l Z n0 Ts (Ts) (⟨"java/lang/AbstractStringBuilder", "append", "(Ljava/lang/String;)Ljava/lang/AbstractStringBuilder;"⟩ : MethodName) jdk_68_method_22_code 3 (some (.object "java/lang/AbstractStringBuilder")) ws ({ frames := 8, cells := 2, slots := 398, locals := 184 } : Room) #[(.ref b), (.ref t)] h0 (fun v h => v = some (.ref b) ∧ Keep h0 h [b, va] ∧ ∃ va' zs', (va' = va ∨ h0.size ≤ va') ∧ n0 ≤ va' ∧ AV Z h va' .byte zs' ∧ zs'.length = 2 * nl ∧ zs'.take (2 * (cs ++ ds).length) = U16 (cs ++ ds) ∧ BV Z h b (.ref va') ∧ BC Z h b (.int 1) ∧ BN Z h b (.int mm) ∧ BM Z h b (.int 0)) := by
  refine con_start (fr0 := fun m => mkF m 0 #[.val (.ref b), .val (.ref t), .unset] []) ?_
  intro p e s m below meth c T0 hx hZ hby hml hown hnm hret hlk hsh XA
  have X0 := XA n0
  have hlow : n0 ≤ s.heap.size := by rw [hsh]; exact hn0
  replace hown : s.vm.findClass "java/lang/AbstractStringBuilder" = some m.cls := hown
  replace hml : c.maxLocals = 3 := hml
  have nA630 : b ≠ va := own_neA Eb (wat hw 27 rfl) Av
  have nA631 : t ≠ va := own_neA Et (wat hw 1 rfl) Av
  have n_b_t : b ≠ t := Exa.ne Eb Et (by decide)
  have nA632 : b ≠ tb := own_neA Eb (wat hw 27 rfl) Abt
  refine g_aloadN X0 hx (pc' := 1) rfl (hD hby d11_0) rfl rfl ?_
  refine g_ifnonnullY X0 hx (pcY := 9) (hD hby d11_1) (by decide) (by decide) ?_
  refine g_aloadN X0 hx (pc' := 10) rfl (hD hby d11_9) rfl rfl ?_
  refine g_callV X0 hx hZ hown (wat hw 74 rfl) (wat hw 75 rfl) (wat hw 77 rfl) (wat hw 76 rfl) (wat hw 2 rfl) (wat hw 78 rfl) (by decide) (a := t) Et (rm12 l Z a0 hw [] n0 (Ts) t ds n' q' cz h0 hn0 O2 hcz OLD ⟨Et, tb, Fvt, Or.inr ⟨Fct, Abt, hds⟩⟩ hn hq hs9) pd_27 rfl rfl (pc' := 13) rfl (hD hby d11_10) (argsL := []) (rest := []) rfl (W := 0) (fun v633 T633 h633 X633 hQ633 => ?_)
  obtain ⟨rfl, he633⟩ := hQ633
  rw [he633] at X633
  show Go p e below s n0 _ _ _ (T633.setTop (mkF m 13 _ [(.int n')]))
  refine g_istoreN X633 hx (pc' := 14) rfl (hD hby d11_13) (l' := #[.val (.ref b), .val (.ref t), .val (.int n')]) rfl ?_
  refine g_aloadN X633 hx (pc' := 15) rfl (hD hby d11_14) rfl rfl ?_
  refine g_aloadN X633 hx (pc' := 16) rfl (hD hby d11_15) rfl rfl ?_
  refine g_getF X633 hx hZ hown (wat hw 85 rfl) Via.refl Fbn (pc' := 19) rfl (hD hby d11_16) (fun T634 X634 => ?_)
  refine g_iloadN X634 hx (pc' := 20) rfl (hD hby d11_19) rfl ?_
  refine g_iadd X634 hx (pc' := 21) rfl (hD hby d11_20) ?_
  refine g_normI (z := mm) hmm ?_
  refine g_callPS X634 hx hZ hown (wat hw 87 rfl) (wat hw 88 rfl) (wat hw 90 rfl) (wat hw 89 rfl) (wat hw 36 rfl) (wat hw 91 rfl) (by decide) (a := b) Eb (rm14_g0 l Z a0 hw [] n0 (Ts) b va zs c' cap' cc' mm d' a1 g' p' mx nl' nc' nl h0 hn0 Eb hgb Fbv Fbc Fbn Fbm Av hcap e1 e2 e3 e4 e5 e6 e7 e8 e9 e10 e11 e12 e13 e14 e15 e16 e17 e18) pd_17 rfl rfl (pc' := 24) rfl (hD hby d11_21) (argsL := [(.int mm)]) (rest := []) rfl (W := 0) (fun v635 T635 h635 X635 hQ635 => ?_)
  obtain ⟨rfl, K635, gb635, Ggb635, S635, V635, EX635, FV635, FC635, FN635, FM635⟩ := hQ635
  have negb635_b : b ≠ gb635 := Nat.ne_of_lt (Nat.lt_of_lt_of_le Eb.lt S635)
  have negb635_va : va ≠ gb635 := Nat.ne_of_lt (Nat.lt_of_lt_of_le Av.lt S635)
  have negb635_t : t ≠ gb635 := Nat.ne_of_lt (Nat.lt_of_lt_of_le Et.lt S635)
  have negb635_tb : tb ≠ gb635 := Nat.ne_of_lt (Nat.lt_of_lt_of_le Abt.lt S635)
  have szgb635 : h0.size ≤ gb635 := Nat.le_trans (Keep.refl h0 [b, va]).1 S635
  have f636 := (Keep.refl h0 [b, va]).trans K635 (allS (Or.inl (List.mem_of_getElem? (i := 0) rfl)) all0)
  have f637 := OLD.keep K635 (allS hgb all0)
  have f638 := Eb.keep K635
  have f639 := Av.keep K635 (ninS nA630.symm nin0)
  have f640 := Et.keep K635
  have f641 := Fvt.keep K635 (ninS n_b_t.symm nin0)
  have f642 := Fct.keep K635 (ninS n_b_t.symm nin0)
  have f643 := Abt.keep K635 (ninS nA632.symm nin0)
  have zs635 : n0 ≤ h635.size := Nat.le_trans hn0 K635.1
  obtain ⟨hgl, hgp⟩ := own_gr0 (nl := nl) hpre hle e17
  show Go p e below s n0 _ _ _ (T635.setTop (mkF m 24 _ []))
  refine g_aloadN X635 hx (pc' := 25) rfl (hD hby d11_24) rfl rfl ?_
  refine g_aloadN X635 hx (pc' := 26) rfl (hD hby d11_25) rfl rfl ?_
  refine g_getF X635 hx hZ hown (wat hw 85 rfl) Via.refl FN635 (pc' := 29) rfl (hD hby d11_26) (fun T644 X644 => ?_)
  refine g_aloadN X644 hx (pc' := 30) rfl (hD hby d11_29) rfl rfl ?_
  refine g_callPS X644 hx hZ hown (wat hw 92 rfl) (wat hw 93 rfl) (wat hw 95 rfl) (wat hw 94 rfl) (wat hw 36 rfl) (wat hw 96 rfl) (by decide) (a := b) f638 (rm15_01 l Z a0 hw [] n0 (Ts) b gb635 t tb (zs ++ List.replicate (nl - zs.length) (Value.int 0)) cs ds c' nl' m' q' o2 fo cz h635 zs635 O4 hfo U1 U2 U3 O2 hcz f637 f638 hgb FV635 FC635 FN635 FM635 V635 (by rw [hgl]; exact e14) (by rw [hgl]; exact hM) hm hs (by rw [hgl]; exact hz) hgp hc hcs (by rw [hgl]; omega) c1 c2 f640 f641 f642 f643 hds hq h2 h3 (by rw [hgl]; exact hbb)) pd_28 rfl rfl (pc' := 33) rfl (hD hby d11_30) (argsL := [(.int c'), (.ref t)]) (rest := []) rfl (W := 0) (fun v645 T645 h645 X645 hQ645 => ?_)
  obtain ⟨rfl, K645, ib645, Gib645, S645, V645, FV645, FC645, FN645, FM645⟩ := hQ645
  have neib645_b : b ≠ ib645 := Nat.ne_of_lt (Nat.lt_of_lt_of_le f638.lt S645)
  have neib645_va : va ≠ ib645 := Nat.ne_of_lt (Nat.lt_of_lt_of_le f639.lt S645)
  have neib645_t : t ≠ ib645 := Nat.ne_of_lt (Nat.lt_of_lt_of_le f640.lt S645)
  have neib645_tb : tb ≠ ib645 := Nat.ne_of_lt (Nat.lt_of_lt_of_le f643.lt S645)
  have neib645_gb635 : gb635 ≠ ib645 := Nat.ne_of_lt (Nat.lt_of_lt_of_le V635.lt S645)
  have szib645 : h0.size ≤ ib645 := Nat.le_trans f636.1 S645
  have f646 := f636.trans K645 (allS (Or.inl (List.mem_of_getElem? (i := 0) rfl)) all0)
  have f647 := f637.keep K645 (allS hgb all0)
  have f648 := f638.keep K645
  have f649 := f639.keep K645 (ninS nA630.symm nin0)
  have f650 := f640.keep K645
  have f651 := f641.keep K645 (ninS n_b_t.symm nin0)
  have f652 := f642.keep K645 (ninS n_b_t.symm nin0)
  have f653 := f643.keep K645 (ninS nA632.symm nin0)
  have f654 := V635.keep K645 (ninS negb635_b.symm nin0)
  have f655 := EX635.keep K645
  have zs645 : n0 ≤ h645.size := Nat.le_trans zs635 K645.1
  show Go p e below s n0 _ _ _ (T645.setTop (mkF m 33 _ []))
  refine g_aloadN X645 hx (pc' := 34) rfl (hD hby d11_33) rfl rfl ?_
  refine g_dup X645 hx (pc' := 35) rfl (hD hby d11_34) rfl ?_
  refine g_getF X645 hx hZ hown (wat hw 85 rfl) Via.refl FN645 (pc' := 38) rfl (hD hby d11_35) (fun T656 X656 => ?_)
  refine g_iloadN X656 hx (pc' := 39) rfl (hD hby d11_38) rfl ?_
  refine g_iadd X656 hx (pc' := 40) rfl (hD hby d11_39) ?_
  refine g_normI (z := mm) hmm ?_
  refine g_putF X656 hx hZ hown (wat hw 85 rfl) Via.refl FN645 f648 (Or.inl (wat hw 86 rfl)) (wat hw 27 rfl) (ty := .int) (by decide) rfl rfl hgb (pc' := 43) rfl (hD hby d11_40) (fun T657 h657 X657 W657 => ?_)
  have f658 := (by have q := (Keep.of_wr W657).1; exact Nat.le_trans zs645 q : n0 ≤ h657.size)
  have f659 := f646.wr W657 (Or.inl (List.mem_of_getElem? (i := 0) rfl))
  have f660 := f647.wr W657 hgb
  have f661 := f648.wr W657
  have f662 := f649.other W657 nA630.symm
  have f663 := f650.wr W657
  have f664 := f651.other W657 (Or.inl n_b_t.symm)
  have f665 := f652.other W657 (Or.inl n_b_t.symm)
  have f666 := f653.other W657 nA632.symm
  have f667 := f654.other W657 negb635_b.symm
  have f668 := f655.wr W657
  have f669 := V645.other W657 neib645_b.symm
  have f670 := FV645.other W657 (Or.inr (slot_ne (Or.inl (wat hw 41 rfl)) (Or.inl (wat hw 86 rfl)) (by decide) (t := (.array .byte)) (t' := .int) (by decide) (by decide)))
  have f671 := FC645.other W657 (Or.inr (slot_ne (Or.inl (wat hw 43 rfl)) (Or.inl (wat hw 86 rfl)) (by decide) (t := .byte) (t' := .int) (by decide) (by decide)))
  have f672 := FN645.same W657
  have f673 := FM645.other W657 (Or.inr (slot_ne (Or.inl (wat hw 279 rfl)) (Or.inl (wat hw 86 rfl)) (by decide) (t := .boolean) (t' := .int) (by decide) (by decide)))
  refine g_aloadN X657 hx (pc' := 44) rfl (hD hby d11_43) rfl rfl ?_
  exact g_ret X657 hx hlk hret rfl (Or.inr (Or.inr (Or.inr (Or.inr ⟨rfl, rfl, rfl⟩)))) (hD hby d11_44) (by decide) (by decide) (Nat.le_refl _) (⟨rfl, f659, ib645, _, Or.inr (szib645), Gib645, f669, ((own_ap1 (ds := ds) (own_in1 (by rw [hgl]; omega)).2 (by rw [(own_in1 (by rw [hgl]; omega)).1, hgl]; omega)).1.trans (by rw [(own_in1 (by rw [hgl]; omega)).1, hgl])), (own_ap1 (ds := ds) (own_in1 (by rw [hgl]; omega)).2 (by rw [(own_in1 (by rw [hgl]; omega)).1, hgl]; omega)).2, f670, f671, f672, f673⟩)
theorem rm10_H (l : Launch) (Z : State) (a0 : Array Value) (hw : HW a0 Z) (ws : List Jvm.Cond) (n0 : Nat) (Ts : List String) (b va t tb : Addr) (zs : List Value) (cs ds : List Int32) (c' n' q' mm : Int32) (cap' cc' d' a1 g' p' mx nl' nc' : Int32) (nl : Nat) (m' o2 : Int32) (fo : Value) (cz : Int32) (h0 : Heap) (hn0 : n0 ≤ h0.size) (O4 : St1 Z fo) (hfo : fo.isRef = true) (U1 : St2 Z (.int 1)) (U2 : St3 Z (.int 0)) (U3 : St4 Z (.int 8)) (O2 : St0 Z (.int cz)) (hcz : ¬ cz = 0) (OLD : OldP Z n0 h0) (Eb : XSb Z h0 b) (hgb : n0 ≤ b) (Fbv : BV Z h0 b (.ref va)) (Fbc : BC Z h0 b (.int 0)) (Fbn : BN Z h0 b (.int c')) (Fbm : BM Z h0 b (.int 0)) (Av : AV Z h0 va .byte zs) (hgv : n0 ≤ va) (hne : tb ≠ va) (Et : XSt Z h0 t) (Fvt : SV Z h0 t (.ref tb)) (Fct : SC Z h0 t (.int 1)) (Abt : AV Z h0 tb .byte (U16 ds)) (hds : ∀ c ∈ ds, 0 ≤ c.toInt ∧ c.toInt < 65536) (hpre : zs.take cs.length = L1 cs) (hle : cs.length ≤ zs.length) (hc : c'.toInt = (cs.length : Int)) (hn : n'.toInt = (ds.length : Int)) (hq : q'.toInt = ((2 * ds.length : Nat) : Int)) (hs9 : q' >>> ((1 : Int32) &&& 31) = n') (hmm : c' + n' = mm) (hcap : cap'.toInt = (zs.length : Int)) (e1 : cap' >>> ((0 : Int32) &&& 31) = cc') (e2 : mm - cc' = d') (e3 : (0 : Int32) < d') (e4 : mm <<< ((0 : Int32) &&& 31) = a1) (e5 : a1 - cap' = g') (e6 : cap' + (2 : Int32) = p') (e7 : (if g' < p' then p' else g') = mx) (e8 : cap' + mx = nl') (e9 : (0 : Int32) < nl') (e10 : ¬ (2147483639 : Int32) < nl') (e11 : ¬ nl' = (2147483647 : Int32)) (e12 : nl' >>> ((0 : Int32) &&& 31) = nc') (e13 : nc' <<< ((0 : Int32) &&& 31) = nl') (e14 : nl'.toInt = (nl : Int)) (e15 : ¬ nl' = cap') (e16 : ¬ nl' < cap') (e17 : zs.length ≤ nl) (e18 : nl ≤ 140) (hbb : cs.length + ds.length ≤ nl) (hz : nl ≤ 129) (hM : m'.toInt = ((2 * nl : Nat) : Int)) (hm : nl' <<< ((1 : Int32) &&& 31) = m') (hs : m' >>> ((1 : Int32) &&& 31) = nl') (hcs : ∀ c ∈ cs, 0 ≤ c.toInt ∧ c.toInt ≤ 255) (c1 : ¬ ((nl' ||| (0 : Int32)) ||| c') < (0 : Int32)) (c2 : ¬ nl' - (0 : Int32) < c') (h2 : c' <<< ((1 : Int32) &&& 31) = o2) (h3 : o2.toInt = ((2 * cs.length : Nat) : Int)) :
    Con l Z n0 Ts (Ts) (⟨"java/lang/StringBuilder", "append", "(Ljava/lang/String;)Ljava/lang/StringBuilder;"⟩ : MethodName) jdk_67_method_7_code 2 (some (.object "java/lang/StringBuilder")) ws ({ frames := 9, cells := 2, slots := 398, locals := 208 } : Room) #[(.ref b), (.ref t)] h0 (fun v h => v = some (.ref b) ∧ Keep h0 h [b, va] ∧ ∃ va' zs', (va' = va ∨ h0.size ≤ va') ∧ n0 ≤ va' ∧ AV Z h va' .byte zs' ∧ zs'.length = 2 * nl ∧ zs'.take (2 * (cs ++ ds).length) = U16 (cs ++ ds) ∧ BV Z h b (.ref va') ∧ BC Z h b (.int 1) ∧ BN Z h b (.int mm) ∧ BM Z h b (.int 0)) := by
  refine con_start (fr0 := fun m => mkF m 0 #[.val (.ref b), .val (.ref t)] []) ?_
  intro p e s m below meth c T0 hx hZ hby hml hown hnm hret hlk hsh XA
  have X0 := XA n0
  have hlow : n0 ≤ s.heap.size := by rw [hsh]; exact hn0
  replace hown : s.vm.findClass "java/lang/StringBuilder" = some m.cls := hown
  replace hml : c.maxLocals = 2 := hml
  refine g_aloadN X0 hx (pc' := 1) rfl (hD hby d10_0) rfl rfl ?_
  refine g_aloadN X0 hx (pc' := 2) rfl (hD hby d10_1) rfl rfl ?_
  refine g_callSup X0 hx hZ hown (by decide) (wat hw 69 rfl) (wat hw 70 rfl) (y' := ({ cls := "java/lang/AbstractStringBuilder", name := "ensureCapacityInternal", desc := "(I)V" } : Jvm.MethodName)) rfl (wat hw 90 rfl) (wat hw 71 rfl) (wat hw 36 rfl) (wat hw 73 rfl) (by decide) (a := b) Eb (rm11_H l Z a0 hw [] n0 (Ts) b va t tb zs cs ds c' n' q' mm cap' cc' d' a1 g' p' mx nl' nc' nl m' o2 fo cz h0 hn0 O4 hfo U1 U2 U3 O2 hcz OLD Eb hgb Fbv Fbc Fbn Fbm Av hgv hne Et Fvt Fct Abt hds hpre hle hc hn hq hs9 hmm hcap e1 e2 e3 e4 e5 e6 e7 e8 e9 e10 e11 e12 e13 e14 e15 e16 e17 e18 hbb hz hM hm hs hcs c1 c2 h2 h3) pd_29 rfl rfl (pc' := 5) rfl (hD hby d10_2) (argsL := [(.ref t)]) (rest := []) rfl (W := 0) (fun v674 T674 h674 X674 hQ674 => ?_)
  have hq_674 := hQ674
  obtain ⟨rfl, K674, -⟩ := hQ674
  show Go p e below s n0 _ _ _ (T674.setTop (mkF m 5 _ [(.ref b)]))
  refine g_pop X674 hx (pc' := 6) rfl (hD hby d10_5) rfl ?_
  refine g_aloadN X674 hx (pc' := 7) rfl (hD hby d10_6) rfl rfl ?_
  exact g_ret X674 hx hlk hret rfl (Or.inr (Or.inr (Or.inr (Or.inr ⟨rfl, rfl, rfl⟩)))) (hD hby d10_7) (by decide) (by decide) (Nat.le_refl _) (hq_674)
theorem rm11_S (l : Launch) (Z : State) (a0 : Array Value) (hw : HW a0 Z) (ws : List Jvm.Cond) (n0 : Nat) (Ts : List String) (b va t tb : Addr) (zs : List Value) (cs ds : List Int32) (c' n' q' mm : Int32) (cap' cc' d' a1 g' p' mx nl' nc' : Int32) (nl : Nat) (l' : Int32) (fo : Value) (cz : Int32) (h0 : Heap) (hn0 : n0 ≤ h0.size) (O4 : St1 Z fo) (hfo : fo.isRef = true) (U1 : St2 Z (.int 1)) (U2 : St3 Z (.int 0)) (U3 : St4 Z (.int 8)) (O2 : St0 Z (.int cz)) (hcz : ¬ cz = 0) (OLD : OldP Z n0 h0) (Eb : XSb Z h0 b) (hgb : n0 ≤ b) (Fbv : BV Z h0 b (.ref va)) (Fbc : BC Z h0 b (.int 1)) (Fbn : BN Z h0 b (.int c')) (Fbm : BM Z h0 b (.int 0)) (Av : AV Z h0 va .byte zs) (hgv : n0 ≤ va) (hne : tb ≠ va) (Et : XSt Z h0 t) (Fvt : SV Z h0 t (.ref tb)) (Fct : SC Z h0 t (.int 0)) (Abt : AV Z h0 tb .byte (L1 ds)) (hds : ∀ c ∈ ds, 0 ≤ c.toInt ∧ c.toInt ≤ 255) (hpre : zs.take (2 * cs.length) = U16 cs) (hle : 2 * cs.length ≤ zs.length) (hc : c'.toInt = (cs.length : Int)) (hn : n'.toInt = (ds.length : Int)) (hq : q'.toInt = ((2 * ds.length : Nat) : Int)) (hs9 : q' >>> ((1 : Int32) &&& 31) = n') (hmm : c' + n' = mm) (hcap : cap'.toInt = (zs.length : Int)) (e1 : cap' >>> ((1 : Int32) &&& 31) = cc') (e2 : mm - cc' = d') (e3 : (0 : Int32) < d') (e4 : mm <<< ((1 : Int32) &&& 31) = a1) (e5 : a1 - cap' = g') (e6 : cap' + (4 : Int32) = p') (e7 : (if g' < p' then p' else g') = mx) (e8 : cap' + mx = nl') (e9 : (0 : Int32) < nl') (e10 : ¬ (2147483639 : Int32) < nl') (e11 : ¬ nl' = (2147483647 : Int32)) (e12 : nl' >>> ((1 : Int32) &&& 31) = nc') (e13 : nc' <<< ((1 : Int32) &&& 31) = nl') (e14 : nl'.toInt = (nl : Int)) (e15 : ¬ nl' = cap') (e16 : ¬ nl' < cap') (e17 : zs.length ≤ nl) (e18 : nl ≤ 140) (hbb : 2 * cs.length + 2 * ds.length ≤ nl) (hs : nl' >>> ((1 : Int32) &&& 31) = l') (c1 : ¬ ((l' ||| c') ||| n') < (0 : Int32)) (c2 : ¬ l' - c' < n') :
    Con l Z n0 Ts (Ts) (⟨"java/lang/AbstractStringBuilder", "append", "(Ljava/lang/String;)Ljava/lang/AbstractStringBuilder;"⟩ : MethodName) jdk_68_method_22_code 3 (some (.object "java/lang/AbstractStringBuilder")) ws ({ frames := 7, cells := 1, slots := 140, locals := 160 } : Room) #[(.ref b), (.ref t)] h0 (fun v h => v = some (.ref b) ∧ Keep h0 h [b, va] ∧ ∃ va' zs', (va' = va ∨ h0.size ≤ va') ∧ n0 ≤ va' ∧ AV Z h va' .byte zs' ∧ zs'.length = nl ∧ zs'.take (2 * (cs ++ ds).length) = U16 (cs ++ ds) ∧ Exa Z h va' "[B" ∧ BV Z h b (.ref va') ∧ BC Z h b (.int 1) ∧ BN Z h b (.int mm) ∧ BM Z h b (.int 0)) := by
  refine con_start (fr0 := fun m => mkF m 0 #[.val (.ref b), .val (.ref t), .unset] []) ?_
  intro p e s m below meth c T0 hx hZ hby hml hown hnm hret hlk hsh XA
  have X0 := XA n0
  have hlow : n0 ≤ s.heap.size := by rw [hsh]; exact hn0
  replace hown : s.vm.findClass "java/lang/AbstractStringBuilder" = some m.cls := hown
  replace hml : c.maxLocals = 3 := hml
  have nA675 : b ≠ va := own_neA Eb (wat hw 27 rfl) Av
  have nA676 : t ≠ va := own_neA Et (wat hw 1 rfl) Av
  have n_b_t : b ≠ t := Exa.ne Eb Et (by decide)
  have nA677 : b ≠ tb := own_neA Eb (wat hw 27 rfl) Abt
  refine g_aloadN X0 hx (pc' := 1) rfl (hD hby d11_0) rfl rfl ?_
  refine g_ifnonnullY X0 hx (pcY := 9) (hD hby d11_1) (by decide) (by decide) ?_
  refine g_aloadN X0 hx (pc' := 10) rfl (hD hby d11_9) rfl rfl ?_
  refine g_callV X0 hx hZ hown (wat hw 74 rfl) (wat hw 75 rfl) (wat hw 77 rfl) (wat hw 76 rfl) (wat hw 2 rfl) (wat hw 78 rfl) (by decide) (a := t) Et (rm12 l Z a0 hw [] n0 (Ts) t ds n' q' cz h0 hn0 O2 hcz OLD ⟨Et, tb, Fvt, Or.inl ⟨Fct, Abt, hds⟩⟩ hn hq hs9) pd_27 rfl rfl (pc' := 13) rfl (hD hby d11_10) (argsL := []) (rest := []) rfl (W := 0) (fun v678 T678 h678 X678 hQ678 => ?_)
  obtain ⟨rfl, he678⟩ := hQ678
  rw [he678] at X678
  show Go p e below s n0 _ _ _ (T678.setTop (mkF m 13 _ [(.int n')]))
  refine g_istoreN X678 hx (pc' := 14) rfl (hD hby d11_13) (l' := #[.val (.ref b), .val (.ref t), .val (.int n')]) rfl ?_
  refine g_aloadN X678 hx (pc' := 15) rfl (hD hby d11_14) rfl rfl ?_
  refine g_aloadN X678 hx (pc' := 16) rfl (hD hby d11_15) rfl rfl ?_
  refine g_getF X678 hx hZ hown (wat hw 85 rfl) Via.refl Fbn (pc' := 19) rfl (hD hby d11_16) (fun T679 X679 => ?_)
  refine g_iloadN X679 hx (pc' := 20) rfl (hD hby d11_19) rfl ?_
  refine g_iadd X679 hx (pc' := 21) rfl (hD hby d11_20) ?_
  refine g_normI (z := mm) hmm ?_
  refine g_callPS X679 hx hZ hown (wat hw 87 rfl) (wat hw 88 rfl) (wat hw 90 rfl) (wat hw 89 rfl) (wat hw 36 rfl) (wat hw 91 rfl) (by decide) (a := b) Eb (rm14_g1 l Z a0 hw [] n0 (Ts) b va zs c' cap' cc' mm d' a1 g' p' mx nl' nc' nl h0 hn0 Eb hgb Fbv Fbc Fbn Fbm Av hcap e1 e2 e3 e4 e5 e6 e7 e8 e9 e10 e11 e12 e13 e14 e15 e16 e17 e18) pd_17 rfl rfl (pc' := 24) rfl (hD hby d11_21) (argsL := [(.int mm)]) (rest := []) rfl (W := 0) (fun v680 T680 h680 X680 hQ680 => ?_)
  obtain ⟨rfl, K680, gb680, Ggb680, S680, V680, EX680, FV680, FC680, FN680, FM680⟩ := hQ680
  have negb680_b : b ≠ gb680 := Nat.ne_of_lt (Nat.lt_of_lt_of_le Eb.lt S680)
  have negb680_va : va ≠ gb680 := Nat.ne_of_lt (Nat.lt_of_lt_of_le Av.lt S680)
  have negb680_t : t ≠ gb680 := Nat.ne_of_lt (Nat.lt_of_lt_of_le Et.lt S680)
  have negb680_tb : tb ≠ gb680 := Nat.ne_of_lt (Nat.lt_of_lt_of_le Abt.lt S680)
  have szgb680 : h0.size ≤ gb680 := Nat.le_trans (Keep.refl h0 [b, va]).1 S680
  have f681 := (Keep.refl h0 [b, va]).trans K680 (allS (Or.inl (List.mem_of_getElem? (i := 0) rfl)) all0)
  have f682 := OLD.keep K680 (allS hgb all0)
  have f683 := Eb.keep K680
  have f684 := Av.keep K680 (ninS nA675.symm nin0)
  have f685 := Et.keep K680
  have f686 := Fvt.keep K680 (ninS n_b_t.symm nin0)
  have f687 := Fct.keep K680 (ninS n_b_t.symm nin0)
  have f688 := Abt.keep K680 (ninS nA677.symm nin0)
  have zs680 : n0 ≤ h680.size := Nat.le_trans hn0 K680.1
  obtain ⟨hgl, hgp⟩ := own_gr1 (nl := nl) hpre hle e17
  show Go p e below s n0 _ _ _ (T680.setTop (mkF m 24 _ []))
  refine g_aloadN X680 hx (pc' := 25) rfl (hD hby d11_24) rfl rfl ?_
  refine g_aloadN X680 hx (pc' := 26) rfl (hD hby d11_25) rfl rfl ?_
  refine g_getF X680 hx hZ hown (wat hw 85 rfl) Via.refl FN680 (pc' := 29) rfl (hD hby d11_26) (fun T689 X689 => ?_)
  refine g_aloadN X689 hx (pc' := 30) rfl (hD hby d11_29) rfl rfl ?_
  refine g_callPS X689 hx hZ hown (wat hw 92 rfl) (wat hw 93 rfl) (wat hw 95 rfl) (wat hw 94 rfl) (wat hw 36 rfl) (wat hw 96 rfl) (by decide) (a := b) f683 (rm15_10 l Z a0 hw [] n0 (Ts) b gb680 t tb (zs ++ List.replicate (nl - zs.length) (Value.int 0)) ds c' c' n' l' nl' cs.length fo cz h680 zs680 O4 hfo U1 U2 U3 O2 hcz f682 f683 hgb FV680 FC680 FN680 FM680 V680 Ggb680 negb680_tb f685 f686 f687 f688 hds hc hn (by rw [hgl]; exact hbb) (by omega) (by rw [hgl]; exact e14) hs c1 c2) pd_28 rfl rfl (pc' := 33) rfl (hD hby d11_30) (argsL := [(.int c'), (.ref t)]) (rest := []) rfl (W := 0) (fun v690 T690 h690 X690 hQ690 => ?_)
  obtain ⟨rfl, K690, V690⟩ := hQ690
  have f691 := f681.trans K690 (allS (Or.inr szgb680) all0)
  have f692 := f682.keep K690 (allS Ggb680 all0)
  have f693 := f683.keep K690
  have f694 := f684.keep K690 (ninS negb680_va nin0)
  have f695 := f685.keep K690
  have f696 := f686.keep K690 (ninS negb680_t nin0)
  have f697 := f687.keep K690 (ninS negb680_t nin0)
  have f698 := f688.keep K690 (ninS negb680_tb nin0)
  have f699 := EX680.keep K690
  have f700 := FV680.keep K690 (ninS negb680_b nin0)
  have f701 := FC680.keep K690 (ninS negb680_b nin0)
  have f702 := FN680.keep K690 (ninS negb680_b nin0)
  have f703 := FM680.keep K690 (ninS negb680_b nin0)
  have zs690 : n0 ≤ h690.size := Nat.le_trans zs680 K690.1
  show Go p e below s n0 _ _ _ (T690.setTop (mkF m 33 _ []))
  refine g_aloadN X690 hx (pc' := 34) rfl (hD hby d11_33) rfl rfl ?_
  refine g_dup X690 hx (pc' := 35) rfl (hD hby d11_34) rfl ?_
  refine g_getF X690 hx hZ hown (wat hw 85 rfl) Via.refl f702 (pc' := 38) rfl (hD hby d11_35) (fun T704 X704 => ?_)
  refine g_iloadN X704 hx (pc' := 39) rfl (hD hby d11_38) rfl ?_
  refine g_iadd X704 hx (pc' := 40) rfl (hD hby d11_39) ?_
  refine g_normI (z := mm) hmm ?_
  refine g_putF X704 hx hZ hown (wat hw 85 rfl) Via.refl f702 f693 (Or.inl (wat hw 86 rfl)) (wat hw 27 rfl) (ty := .int) (by decide) rfl rfl hgb (pc' := 43) rfl (hD hby d11_40) (fun T705 h705 X705 W705 => ?_)
  have f706 := (by have q := (Keep.of_wr W705).1; exact Nat.le_trans zs690 q : n0 ≤ h705.size)
  have f707 := f691.wr W705 (Or.inl (List.mem_of_getElem? (i := 0) rfl))
  have f708 := f692.wr W705 hgb
  have f709 := f693.wr W705
  have f710 := f694.other W705 nA675.symm
  have f711 := f695.wr W705
  have f712 := f696.other W705 (Or.inl n_b_t.symm)
  have f713 := f697.other W705 (Or.inl n_b_t.symm)
  have f714 := f698.other W705 nA677.symm
  have f715 := f699.wr W705
  have f716 := f700.other W705 (Or.inr (slot_ne (Or.inl (wat hw 41 rfl)) (Or.inl (wat hw 86 rfl)) (by decide) (t := (.array .byte)) (t' := .int) (by decide) (by decide)))
  have f717 := f701.other W705 (Or.inr (slot_ne (Or.inl (wat hw 43 rfl)) (Or.inl (wat hw 86 rfl)) (by decide) (t := .byte) (t' := .int) (by decide) (by decide)))
  have f718 := f702.same W705
  have f719 := f703.other W705 (Or.inr (slot_ne (Or.inl (wat hw 279 rfl)) (Or.inl (wat hw 86 rfl)) (by decide) (t := .boolean) (t' := .int) (by decide) (by decide)))
  have f720 := V690.other W705 negb680_b.symm
  refine g_aloadN X705 hx (pc' := 44) rfl (hD hby d11_43) rfl rfl ?_
  exact g_ret X705 hx hlk hret rfl (Or.inr (Or.inr (Or.inr (Or.inr ⟨rfl, rfl, rfl⟩)))) (hD hby d11_44) (by decide) (by decide) (Nat.le_refl _) (⟨rfl, f707, gb680, _, Or.inr (szgb680), Ggb680, f720, ((own_ap1 (ds := ds) hgp (by rw [hgl]; exact hbb)).1.trans hgl), (own_ap1 (ds := ds) hgp (by rw [hgl]; exact hbb)).2, f715, f716, f717, f718, f719⟩)
theorem rm10_S (l : Launch) (Z : State) (a0 : Array Value) (hw : HW a0 Z) (ws : List Jvm.Cond) (n0 : Nat) (Ts : List String) (b va t tb : Addr) (zs : List Value) (cs ds : List Int32) (c' n' q' mm : Int32) (cap' cc' d' a1 g' p' mx nl' nc' : Int32) (nl : Nat) (l' : Int32) (fo : Value) (cz : Int32) (h0 : Heap) (hn0 : n0 ≤ h0.size) (O4 : St1 Z fo) (hfo : fo.isRef = true) (U1 : St2 Z (.int 1)) (U2 : St3 Z (.int 0)) (U3 : St4 Z (.int 8)) (O2 : St0 Z (.int cz)) (hcz : ¬ cz = 0) (OLD : OldP Z n0 h0) (Eb : XSb Z h0 b) (hgb : n0 ≤ b) (Fbv : BV Z h0 b (.ref va)) (Fbc : BC Z h0 b (.int 1)) (Fbn : BN Z h0 b (.int c')) (Fbm : BM Z h0 b (.int 0)) (Av : AV Z h0 va .byte zs) (hgv : n0 ≤ va) (hne : tb ≠ va) (Et : XSt Z h0 t) (Fvt : SV Z h0 t (.ref tb)) (Fct : SC Z h0 t (.int 0)) (Abt : AV Z h0 tb .byte (L1 ds)) (hds : ∀ c ∈ ds, 0 ≤ c.toInt ∧ c.toInt ≤ 255) (hpre : zs.take (2 * cs.length) = U16 cs) (hle : 2 * cs.length ≤ zs.length) (hc : c'.toInt = (cs.length : Int)) (hn : n'.toInt = (ds.length : Int)) (hq : q'.toInt = ((2 * ds.length : Nat) : Int)) (hs9 : q' >>> ((1 : Int32) &&& 31) = n') (hmm : c' + n' = mm) (hcap : cap'.toInt = (zs.length : Int)) (e1 : cap' >>> ((1 : Int32) &&& 31) = cc') (e2 : mm - cc' = d') (e3 : (0 : Int32) < d') (e4 : mm <<< ((1 : Int32) &&& 31) = a1) (e5 : a1 - cap' = g') (e6 : cap' + (4 : Int32) = p') (e7 : (if g' < p' then p' else g') = mx) (e8 : cap' + mx = nl') (e9 : (0 : Int32) < nl') (e10 : ¬ (2147483639 : Int32) < nl') (e11 : ¬ nl' = (2147483647 : Int32)) (e12 : nl' >>> ((1 : Int32) &&& 31) = nc') (e13 : nc' <<< ((1 : Int32) &&& 31) = nl') (e14 : nl'.toInt = (nl : Int)) (e15 : ¬ nl' = cap') (e16 : ¬ nl' < cap') (e17 : zs.length ≤ nl) (e18 : nl ≤ 140) (hbb : 2 * cs.length + 2 * ds.length ≤ nl) (hs : nl' >>> ((1 : Int32) &&& 31) = l') (c1 : ¬ ((l' ||| c') ||| n') < (0 : Int32)) (c2 : ¬ l' - c' < n') :
    Con l Z n0 Ts (Ts) (⟨"java/lang/StringBuilder", "append", "(Ljava/lang/String;)Ljava/lang/StringBuilder;"⟩ : MethodName) jdk_67_method_7_code 2 (some (.object "java/lang/StringBuilder")) ws ({ frames := 8, cells := 1, slots := 140, locals := 184 } : Room) #[(.ref b), (.ref t)] h0 (fun v h => v = some (.ref b) ∧ Keep h0 h [b, va] ∧ ∃ va' zs', (va' = va ∨ h0.size ≤ va') ∧ n0 ≤ va' ∧ AV Z h va' .byte zs' ∧ zs'.length = nl ∧ zs'.take (2 * (cs ++ ds).length) = U16 (cs ++ ds) ∧ Exa Z h va' "[B" ∧ BV Z h b (.ref va') ∧ BC Z h b (.int 1) ∧ BN Z h b (.int mm) ∧ BM Z h b (.int 0)) := by
  refine con_start (fr0 := fun m => mkF m 0 #[.val (.ref b), .val (.ref t)] []) ?_
  intro p e s m below meth c T0 hx hZ hby hml hown hnm hret hlk hsh XA
  have X0 := XA n0
  have hlow : n0 ≤ s.heap.size := by rw [hsh]; exact hn0
  replace hown : s.vm.findClass "java/lang/StringBuilder" = some m.cls := hown
  replace hml : c.maxLocals = 2 := hml
  refine g_aloadN X0 hx (pc' := 1) rfl (hD hby d10_0) rfl rfl ?_
  refine g_aloadN X0 hx (pc' := 2) rfl (hD hby d10_1) rfl rfl ?_
  refine g_callSup X0 hx hZ hown (by decide) (wat hw 69 rfl) (wat hw 70 rfl) (y' := ({ cls := "java/lang/AbstractStringBuilder", name := "ensureCapacityInternal", desc := "(I)V" } : Jvm.MethodName)) rfl (wat hw 90 rfl) (wat hw 71 rfl) (wat hw 36 rfl) (wat hw 73 rfl) (by decide) (a := b) Eb (rm11_S l Z a0 hw [] n0 (Ts) b va t tb zs cs ds c' n' q' mm cap' cc' d' a1 g' p' mx nl' nc' nl l' fo cz h0 hn0 O4 hfo U1 U2 U3 O2 hcz OLD Eb hgb Fbv Fbc Fbn Fbm Av hgv hne Et Fvt Fct Abt hds hpre hle hc hn hq hs9 hmm hcap e1 e2 e3 e4 e5 e6 e7 e8 e9 e10 e11 e12 e13 e14 e15 e16 e17 e18 hbb hs c1 c2) pd_29 rfl rfl (pc' := 5) rfl (hD hby d10_2) (argsL := [(.ref t)]) (rest := []) rfl (W := 0) (fun v721 T721 h721 X721 hQ721 => ?_)
  have hq_721 := hQ721
  obtain ⟨rfl, K721, -⟩ := hQ721
  show Go p e below s n0 _ _ _ (T721.setTop (mkF m 5 _ [(.ref b)]))
  refine g_pop X721 hx (pc' := 6) rfl (hD hby d10_5) rfl ?_
  refine g_aloadN X721 hx (pc' := 7) rfl (hD hby d10_6) rfl rfl ?_
  exact g_ret X721 hx hlk hret rfl (Or.inr (Or.inr (Or.inr (Or.inr ⟨rfl, rfl, rfl⟩)))) (hD hby d10_7) (by decide) (by decide) (Nat.le_refl _) (hq_721)
theorem rm21 (l : Launch) (Z : State) (a0 : Array Value) (hw : HW a0 Z) (ws : List Jvm.Cond) (n0 : Nat) (Ts : List String) (b va : Addr) (h0 : Heap) (hn0 : n0 ≤ h0.size) (Fbv : BV Z h0 b (.ref va)) :
    Con l Z n0 Ts (Ts) (⟨"java/lang/AbstractStringBuilder", "getValue", "()[B"⟩ : MethodName) jdk_68_method_64_code 1 (some (.array .byte)) ws ({ frames := 0, cells := 0, slots := 0, locals := 0 } : Room) #[(.ref b)] h0 (fun v h => v = some (.ref va) ∧ h = h0) := by
  refine con_start (fr0 := fun m => mkF m 0 #[.val (.ref b)] []) ?_
  intro p e s m below meth c T0 hx hZ hby hml hown hnm hret hlk hsh XA
  have X0 := XA n0
  have hlow : n0 ≤ s.heap.size := by rw [hsh]; exact hn0
  replace hown : s.vm.findClass "java/lang/AbstractStringBuilder" = some m.cls := hown
  replace hml : c.maxLocals = 1 := hml
  refine g_aloadN X0 hx (pc' := 1) rfl (hD hby d21_0) rfl rfl ?_
  refine g_getF X0 hx hZ hown (wat hw 40 rfl) Via.refl Fbv (pc' := 4) rfl (hD hby d21_1) (fun T722 X722 => ?_)
  exact g_ret X722 hx hlk hret rfl (Or.inr (Or.inr (Or.inr (Or.inr ⟨rfl, rfl, rfl⟩)))) (hD hby d21_4) (by decide) (by decide) (Nat.le_refl _) (⟨rfl, rfl⟩)
theorem rm23 (l : Launch) (Z : State) (a0 : Array Value) (hw : HW a0 Z) (ws : List Jvm.Cond) (n0 : Nat) (Ts : List String) (b : Addr) (c' : Int32) (h0 : Heap) (hn0 : n0 ≤ h0.size) (Fbn : BN Z h0 b (.int c')) :
    Con l Z n0 Ts (Ts) (⟨"java/lang/AbstractStringBuilder", "length", "()I"⟩ : MethodName) jdk_68_method_6_code 1 (some .int) ws ({ frames := 0, cells := 0, slots := 0, locals := 0 } : Room) #[(.ref b)] h0 (fun v h => v = some (.int c') ∧ h = h0) := by
  refine con_start (fr0 := fun m => mkF m 0 #[.val (.ref b)] []) ?_
  intro p e s m below meth c T0 hx hZ hby hml hown hnm hret hlk hsh XA
  have X0 := XA n0
  have hlow : n0 ≤ s.heap.size := by rw [hsh]; exact hn0
  replace hown : s.vm.findClass "java/lang/AbstractStringBuilder" = some m.cls := hown
  replace hml : c.maxLocals = 1 := hml
  refine g_aloadN X0 hx (pc' := 1) rfl (hD hby d23_0) rfl rfl ?_
  refine g_getF X0 hx hZ hown (wat hw 85 rfl) Via.refl Fbn (pc' := 4) rfl (hD hby d23_1) (fun T723 X723 => ?_)
  exact g_retI X723 hx hlk hret (hD hby d23_4) (by decide) (by decide) (Nat.le_refl _) (⟨rfl, rfl⟩)
theorem rm22 (l : Launch) (Z : State) (a0 : Array Value) (hw : HW a0 Z) (ws : List Jvm.Cond) (n0 : Nat) (Ts : List String) (b : Addr) (c' : Int32) (h0 : Heap) (hn0 : n0 ≤ h0.size) (Eb : XSb Z h0 b) (Fbn : BN Z h0 b (.int c')) :
    Con l Z n0 Ts (Ts) (⟨"java/lang/StringBuilder", "length", "()I"⟩ : MethodName) jdk_67_method_93_code 1 (some .int) ws ({ frames := 1, cells := 0, slots := 0, locals := 16 } : Room) #[(.ref b)] h0 (fun v h => v = some (.int c') ∧ h = h0) := by
  refine con_start (fr0 := fun m => mkF m 0 #[.val (.ref b)] []) ?_
  intro p e s m below meth c T0 hx hZ hby hml hown hnm hret hlk hsh XA
  have X0 := XA n0
  have hlow : n0 ≤ s.heap.size := by rw [hsh]; exact hn0
  replace hown : s.vm.findClass "java/lang/StringBuilder" = some m.cls := hown
  replace hml : c.maxLocals = 1 := hml
  refine g_aloadN X0 hx (pc' := 1) rfl (hD hby d22_0) rfl rfl ?_
  refine g_callSup X0 hx hZ hown (by decide) (wat hw 140 rfl) (wat hw 136 rfl) (y' := ({ cls := "java/lang/AbstractStringBuilder", name := "ensureCapacityInternal", desc := "(I)V" } : Jvm.MethodName)) rfl (wat hw 90 rfl) (wat hw 71 rfl) (wat hw 36 rfl) (wat hw 141 rfl) (by decide) (a := b) Eb (rm23 l Z a0 hw [] n0 (Ts) b c' h0 hn0 Fbn) pd_27 rfl rfl (pc' := 4) rfl (hD hby d22_1) (argsL := []) (rest := []) rfl (W := 0) (fun v724 T724 h724 X724 hQ724 => ?_)
  obtain ⟨rfl, he724⟩ := hQ724
  rw [he724] at X724
  show Go p e below s n0 _ _ _ (T724.setTop (mkF m 4 _ [(.int c')]))
  exact g_retI X724 hx hlk hret (hD hby d22_4) (by decide) (by decide) (Nat.le_refl _) (⟨rfl, rfl⟩)
theorem rm27 (l : Launch) (Z : State) (a0 : Array Value) (hw : HW a0 Z) (ws : List Jvm.Cond) (n0 : Nat) (Ts : List String) (e' : Int32) (h0 : Heap) (hn0 : n0 ≤ h0.size) (hm0 : ¬ e' < (0 : Int32)) :
    Con l Z n0 Ts (Ts) (⟨"java/util/Arrays", "checkLength", "(II)V"⟩ : MethodName) jdk_65_method_131_code 2 none ws ({ frames := 0, cells := 0, slots := 0, locals := 0 } : Room) #[(.int 0), (.int e')] h0 (fun v h => v = none ∧ h = h0) := by
  refine con_start (fr0 := fun m => mkF m 0 #[.val (.int 0), .val (.int e')] []) ?_
  intro p e s m below meth c T0 hx hZ hby hml hown hnm hret hlk hsh XA
  have X0 := XA n0
  have hlow : n0 ≤ s.heap.size := by rw [hsh]; exact hn0
  replace hown : s.vm.findClass "java/util/Arrays" = some m.cls := hown
  replace hml : c.maxLocals = 2 := hml
  refine g_iloadN X0 hx (pc' := 1) rfl (hD hby d27_0) rfl ?_
  refine g_iloadN X0 hx (pc' := 2) rfl (hD hby d27_1) rfl ?_
  refine g_icmpY X0 hx (pcY := 37) (hD hby d27_2) (by decide) (by decide) (show ¬ e' < (0 : Int32) from hm0) ?_
  exact g_retV X0 hx hlk hret (hD hby d27_37) (by decide) (by decide) (Nat.le_refl _) (⟨rfl, rfl⟩)
theorem rm26 (l : Launch) (Z : State) (a0 : Array Value) (hw : HW a0 Z) (ws : List Jvm.Cond) (n0 : Nat) (Ts : List String) (va : Addr) (zs : List Value) (cap' e' : Int32) (e9 : Nat) (h0 : Heap) (hn0 : n0 ≤ h0.size) (Av : AV Z h0 va .byte zs) (hcap : cap'.toInt = (zs.length : Int)) (he : e'.toInt = (e9 : Int)) (hm0 : ¬ e' < (0 : Int32)) (e16 : e' < cap') (e15 : ¬ e' = cap') (e18 : e9 ≤ 140) (e17 : e9 ≤ zs.length) :
    Con l Z n0 Ts (Ts) (⟨"java/util/Arrays", "copyOfRangeByte", "([BII)[B"⟩ : MethodName) jdk_65_method_133_code 5 (some (.array .byte)) ws ({ frames := 1, cells := 1, slots := 140, locals := 32 } : Room) #[(.ref va), (.int 0), (.int e')] h0 (fun v h => ∃ nb, v = some (.ref nb) ∧ n0 ≤ nb ∧ h0.size ≤ nb ∧ Keep h0 h [] ∧ AV Z h nb .byte (zs.take e9)) := by
  refine con_start (fr0 := fun m => mkF m 0 #[.val (.ref va), .val (.int 0), .val (.int e'), .unset, .unset] []) ?_
  intro p e s m below meth c T0 hx hZ hby hml hown hnm hret hlk hsh XA
  have X0 := XA n0
  have hlow : n0 ≤ s.heap.size := by rw [hsh]; exact hn0
  replace hown : s.vm.findClass "java/util/Arrays" = some m.cls := hown
  replace hml : c.maxLocals = 5 := hml
  refine g_iloadN X0 hx (pc' := 1) rfl (hD hby d26_0) rfl ?_
  refine g_iloadN X0 hx (pc' := 2) rfl (hD hby d26_1) rfl ?_
  refine g_callS X0 hx hZ hown (wat hw 154 rfl) (wat hw 155 rfl) (wat hw 149 rfl) (wat hw 156 rfl) (by decide) (rm27 l Z a0 hw [] n0 (Ts) e' h0 hn0 hm0) pd_3 rfl rfl (pc' := 5) rfl (hD hby d26_2) (argsL := [(.int 0), (.int e')]) (rest := []) rfl (W := 0) (fun v725 T725 h725 X725 hQ725 => ?_)
  obtain ⟨rfl, he725⟩ := hQ725
  rw [he725] at X725
  show Go p e below s n0 _ _ _ (T725.setTop (mkF m 5 _ []))
  refine g_iloadN X725 hx (pc' := 6) rfl (hD hby d26_5) rfl ?_
  refine g_iloadN X725 hx (pc' := 7) rfl (hD hby d26_6) rfl ?_
  refine g_isub X725 hx (pc' := 8) rfl (hD hby d26_7) ?_
  refine g_normI (z := e') (ar_sub0 _) ?_
  refine g_istoreN X725 hx (pc' := 9) rfl (hD hby d26_8) (l' := #[.val (.ref va), .val (.int 0), .val (.int e'), .val (.int e'), .unset]) rfl ?_
  refine g_iloadN X725 hx (pc' := 10) rfl (hD hby d26_9) rfl ?_
  refine g_newA X725 hx hZ (aty := .byte) (wat hw 15 rfl) (n := e') (N := e9) he (cap := 140) e18 (by decide) (pc' := 12) rfl (hD hby d26_10) (by decide) (by decide) (fun T726 h726 a726 ha726 X726 E726 N726 => ?_)
  have ne726_va : va ≠ a726 := by rw [ha726]; exact Nat.ne_of_lt Av.lt
  have f727 := Av.ext E726
  have sz726 : h0.size ≤ a726 := by rw [ha726]; exact (Keep.refl h0 []).1
  have f728 := (Keep.refl h0 []).ext E726
  have G_a726 : n0 ≤ a726 := by rw [ha726]; exact hn0
  have Zs726 : n0 ≤ h726.size := Nat.le_trans hn0 E726.1
  have V726 : AV Z h726 a726 .byte (List.replicate e9 (.int 0)) := N726
  refine g_astore X726 hx (pc' := 14) rfl (hD hby d26_12) rfl (l' := #[.val (.ref va), .val (.int 0), .val (.int e'), .val (.int e'), .val (.ref a726)]) rfl ?_
  refine g_aloadN X726 hx (pc' := 15) rfl (hD hby d26_14) rfl rfl ?_
  refine g_iloadN X726 hx (pc' := 16) rfl (hD hby d26_15) rfl ?_
  refine g_aload X726 hx (pc' := 18) rfl (hD hby d26_16) rfl rfl ?_
  refine g_iconst X726 hx (pc' := 19) (z := (0 : Int32)) rfl (hD hby d26_18) rfl ?_
  refine g_aloadN X726 hx (pc' := 20) rfl (hD hby d26_19) rfl rfl ?_
  refine g_alen X726 hx hZ f727 (z := cap') hcap (pc' := 21) rfl (hD hby d26_20) ?_
  refine g_iloadN X726 hx (pc' := 22) rfl (hD hby d26_21) rfl ?_
  refine g_isub X726 hx (pc' := 23) rfl (hD hby d26_22) ?_
  refine g_normI (z := cap') (ar_sub0 _) ?_
  refine g_iloadN X726 hx (pc' := 24) rfl (hD hby d26_23) rfl ?_
  refine g_callS X726 hx hZ hown (wat hw 157 rfl) (wat hw 158 rfl) (wat hw 159 rfl) (wat hw 160 rfl) (by decide) (rm28_b l Z a0 hw [] n0 (Ts) cap' e' h726 Zs726 e16) pd_18 rfl rfl (pc' := 27) rfl (hD hby d26_24) (argsL := [(.int cap'), (.int e')]) (rest := [(.int 0), (.ref a726), (.int 0), (.ref va)]) rfl (W := 4) (fun v729 T729 h729 X729 hQ729 => ?_)
  obtain ⟨rfl, he729⟩ := hQ729
  rw [he729] at X729
  show Go p e below s n0 _ _ _ (T729.setTop (mkF m 27 _ [(.int e'), (.int 0), (.ref a726), (.int 0), (.ref va)]))
  refine g_copyP X729 hx hZ hown (wat hw 161 rfl) (wat hw 111 rfl) (wat hw 109 rfl) (wat hw 110 rfl) f727 V726 rfl (i := 0) (j := 0) (n := e9) rfl rfl he (by omega) (by rw [List.length_replicate]; omega) G_a726 (by rw [hml]; rfl) (pc' := 30) rfl (hD hby d26_27) (by decide) (W := 0) (Nat.le_of_eq rfl) (by decide +kernel) (fun T730 h730 X730 K730 N730 => ?_)
  have f731 := f728.trans K730 (allS (Or.inr sz726) all0)
  have f732 := f727.keep K730 (ninS ne726_va nin0)
  have zs730 : n0 ≤ h730.size := Nat.le_trans Zs726 K730.1
  have V730 : AV Z h730 a726 .byte (zs.take e9) := (by simpa [newarray.typeOf, defaultValue] using N730)
  show Go p e below s n0 _ _ _ (T730.setTop (mkF m 30 _ []))
  refine g_aload X730 hx (pc' := 32) rfl (hD hby d26_30) rfl rfl ?_
  exact g_ret X730 hx hlk hret rfl (Or.inr (Or.inr (Or.inr (Or.inr ⟨rfl, rfl, rfl⟩)))) (hD hby d26_32) (by decide) (by decide) (Nat.le_refl _) (⟨a726, rfl, G_a726, sz726, f731, V730⟩)
theorem rm25_r (l : Launch) (Z : State) (a0 : Array Value) (hw : HW a0 Z) (ws : List Jvm.Cond) (n0 : Nat) (Ts : List String) (va : Addr) (zs : List Value) (cap' e' : Int32) (e9 : Nat) (h0 : Heap) (hn0 : n0 ≤ h0.size) (Av : AV Z h0 va .byte zs) (hcap : cap'.toInt = (zs.length : Int)) (he : e'.toInt = (e9 : Int)) (hm0 : ¬ e' < (0 : Int32)) (e16 : e' < cap') (e15 : ¬ e' = cap') (e18 : e9 ≤ 140) (e17 : e9 ≤ zs.length) :
    Con l Z n0 Ts (Ts) (⟨"java/util/Arrays", "copyOfRange", "([BII)[B"⟩ : MethodName) jdk_65_method_132_code 3 (some (.array .byte)) ws ({ frames := 2, cells := 1, slots := 140, locals := 56 } : Room) #[(.ref va), (.int 0), (.int e')] h0 (fun v h => ∃ nb, v = some (.ref nb) ∧ n0 ≤ nb ∧ h0.size ≤ nb ∧ Keep h0 h [] ∧ AV Z h nb .byte (zs.take e9)) := by
  refine con_start (fr0 := fun m => mkF m 0 #[.val (.ref va), .val (.int 0), .val (.int e')] []) ?_
  intro p e s m below meth c T0 hx hZ hby hml hown hnm hret hlk hsh XA
  have X0 := XA n0
  have hlow : n0 ≤ s.heap.size := by rw [hsh]; exact hn0
  replace hown : s.vm.findClass "java/util/Arrays" = some m.cls := hown
  replace hml : c.maxLocals = 3 := hml
  refine g_iloadN X0 hx (pc' := 1) rfl (hD hby d25_0) rfl ?_
  refine g_ifN X0 hx (pcN := 4) (hD hby d25_1) rfl (show ¬ (¬ (0 : Int32) = 0) from by decide) ?_
  refine g_iloadN X0 hx (pc' := 5) rfl (hD hby d25_4) rfl ?_
  refine g_aloadN X0 hx (pc' := 6) rfl (hD hby d25_5) rfl rfl ?_
  refine g_alen X0 hx hZ Av (z := cap') hcap (pc' := 7) rfl (hD hby d25_6) ?_
  refine g_icmpN X0 hx (pcN := 10) (hD hby d25_7) rfl (show ¬ (e' = cap') from e15) ?_
  refine g_aloadN X0 hx (pc' := 11) rfl (hD hby d25_10) rfl rfl ?_
  refine g_iloadN X0 hx (pc' := 12) rfl (hD hby d25_11) rfl ?_
  refine g_iloadN X0 hx (pc' := 13) rfl (hD hby d25_12) rfl ?_
  refine g_callS X0 hx hZ hown (wat hw 151 rfl) (wat hw 152 rfl) (wat hw 149 rfl) (wat hw 153 rfl) (by decide) (rm26 l Z a0 hw [] n0 (Ts) va zs cap' e' e9 h0 hn0 Av hcap he hm0 e16 e15 e18 e17) pd_30 rfl rfl (pc' := 16) rfl (hD hby d25_13) (argsL := [(.ref va), (.int 0), (.int e')]) (rest := []) rfl (W := 0) (fun v733 T733 h733 X733 hQ733 => ?_)
  obtain ⟨nb733, rfl, Gnb733, S733, K733, V733⟩ := hQ733
  have nenb733_va : va ≠ nb733 := Nat.ne_of_lt (Nat.lt_of_lt_of_le Av.lt S733)
  have sznb733 : h0.size ≤ nb733 := Nat.le_trans (Keep.refl h0 []).1 S733
  have f734 := (Keep.refl h0 []).trans K733 all0
  have f735 := Av.keep K733 nin0
  have zs733 : n0 ≤ h733.size := Nat.le_trans hn0 K733.1
  show Go p e below s n0 _ _ _ (T733.setTop (mkF m 16 _ [(.ref nb733)]))
  exact g_ret X733 hx hlk hret rfl (Or.inr (Or.inr (Or.inr (Or.inr ⟨rfl, rfl, rfl⟩)))) (hD hby d25_16) (by decide) (by decide) (Nat.le_refl _) (⟨nb733, rfl, Gnb733, sznb733, f734, V733⟩)
theorem rm25_c (l : Launch) (Z : State) (a0 : Array Value) (hw : HW a0 Z) (ws : List Jvm.Cond) (n0 : Nat) (Ts : List String) (va : Addr) (zs : List Value) (cap' e' : Int32) (e9 : Nat) (h0 : Heap) (hn0 : n0 ≤ h0.size) (Av : AV Z h0 va .byte zs) (hcap : cap'.toInt = (zs.length : Int)) (he : e' = cap') (he9 : e9 = zs.length) (e18 : zs.length ≤ 140) (Ev : Exa Z h0 va "[B") :
    Con l Z n0 Ts (Ts) (⟨"java/util/Arrays", "copyOfRange", "([BII)[B"⟩ : MethodName) jdk_65_method_132_code 3 (some (.array .byte)) ws ({ frames := 1, cells := 1, slots := 140, locals := 32 } : Room) #[(.ref va), (.int 0), (.int e')] h0 (fun v h => ∃ nb, v = some (.ref nb) ∧ n0 ≤ nb ∧ h0.size ≤ nb ∧ Keep h0 h [] ∧ AV Z h nb .byte (zs.take e9)) := by
  refine con_start (fr0 := fun m => mkF m 0 #[.val (.ref va), .val (.int 0), .val (.int e')] []) ?_
  intro p e s m below meth c T0 hx hZ hby hml hown hnm hret hlk hsh XA
  have X0 := XA n0
  have hlow : n0 ≤ s.heap.size := by rw [hsh]; exact hn0
  replace hown : s.vm.findClass "java/util/Arrays" = some m.cls := hown
  replace hml : c.maxLocals = 3 := hml
  refine g_iloadN X0 hx (pc' := 1) rfl (hD hby d25_0) rfl ?_
  refine g_ifN X0 hx (pcN := 4) (hD hby d25_1) rfl (show ¬ (¬ (0 : Int32) = 0) from by decide) ?_
  refine g_iloadN X0 hx (pc' := 5) rfl (hD hby d25_4) rfl ?_
  refine g_aloadN X0 hx (pc' := 6) rfl (hD hby d25_5) rfl rfl ?_
  refine g_alen X0 hx hZ Av (z := cap') hcap (pc' := 7) rfl (hD hby d25_6) ?_
  refine g_icmpY X0 hx (pcY := 17) (hD hby d25_7) (by decide) (by decide) (show e' = cap' from he) ?_
  refine g_aloadN X0 hx (pc' := 18) rfl (hD hby d25_17) rfl rfl ?_
  refine g_clone X0 hx hZ hown (wat hw 184 rfl) (wat hw 185 rfl) (wat hw 189 rfl) (wat hw 187 rfl) (wat hw 188 rfl) (wat hw 190 rfl) Av Ev (by rw [hml]; rfl) (pc' := 21) rfl (hD hby d25_18) (by decide) (W := 0) (cap := 140) (Nat.le_of_eq rfl) (by decide) e18 (by decide) (by decide) (fun T736 h736 a736 ha736 X736 E736 V736 EX736 => ?_)
  have ne736_va : va ≠ a736 := by rw [ha736]; exact Nat.ne_of_lt Av.lt
  have f737 := Av.ext E736
  have f738 := Ev.ext E736
  have sz736 : h0.size ≤ a736 := by rw [ha736]; exact (Keep.refl h0 []).1
  have f739 := (Keep.refl h0 []).ext E736
  have G_a736 : n0 ≤ a736 := by rw [ha736]; exact hn0
  have Zs736 : n0 ≤ h736.size := Nat.le_trans hn0 E736.1
  refine g_cast X736 hx hZ hown (wat hw 191 rfl) (Ins.self EX736) (pc' := 24) rfl (hD hby d25_21) (fun T740 X740 => ?_)
  exact g_ret X740 hx hlk hret rfl (Or.inr (Or.inr (Or.inr (Or.inr ⟨rfl, rfl, rfl⟩)))) (hD hby d25_24) (by decide) (by decide) (Nat.le_refl _) (⟨a736, rfl, G_a736, sz736, f739, by rw [he9, List.take_length]; exact V736⟩)
theorem rm20_0r (l : Launch) (Z : State) (a0 : Array Value) (hw : HW a0 Z) (ws : List Jvm.Cond) (n0 : Nat) (Ts : List String) (t b va : Addr) (zs : List Value) (cap' e' : Int32) (e9 : Nat) (c' : Int32) (cz : Int32) (h0 : Heap) (hn0 : n0 ≤ h0.size) (O2 : St0 Z (.int cz)) (hcz : ¬ cz = 0) (OLD : OldP Z n0 h0) (Eb : XSb Z h0 b) (Fbv : BV Z h0 b (.ref va)) (Fbc : BC Z h0 b (.int 0)) (Fbn : BN Z h0 b (.int c')) (Fbm : BM Z h0 b (.int 0)) (Av : AV Z h0 va .byte zs) (hcap : cap'.toInt = (zs.length : Int)) (he : e'.toInt = (e9 : Int)) (hm0 : ¬ e' < (0 : Int32)) (e16 : e' < cap') (e15 : ¬ e' = cap') (e18 : e9 ≤ 140) (e17 : e9 ≤ zs.length) (h21 : c' = e') (Et : XSt Z h0 t) (hgt : n0 ≤ t) (F_value : SV Z h0 t .null) (F_coder : SC Z h0 t (.int 0)) :
    Con l Z n0 Ts (Ts) (⟨"java/lang/String", "<init>", "(Ljava/lang/AbstractStringBuilder;Ljava/lang/Void;)V"⟩ : MethodName) jdk_42_method_150_code 5 none ws ({ frames := 3, cells := 1, slots := 140, locals := 88 } : Room) #[(.ref t), (.ref b), .null] h0 (fun v h => v = none ∧ Keep h0 h [t] ∧ ∃ nb, n0 ≤ nb ∧ h0.size ≤ nb ∧ AV Z h nb .byte (zs.take e9) ∧ SV Z h t (.ref nb) ∧ SC Z h t (.int 0)) := by
  refine con_start (fr0 := fun m => mkF m 0 #[.val (.ref t), .val (.ref b), .val .null, .unset, .unset] []) ?_
  intro p e s m below meth c T0 hx hZ hby hml hown hnm hret hlk hsh XA
  have X0 := XA n0
  have hlow : n0 ≤ s.heap.size := by rw [hsh]; exact hn0
  replace hown : s.vm.findClass "java/lang/String" = some m.cls := hown
  replace hml : c.maxLocals = 5 := hml
  have nA741 : b ≠ va := own_neA Eb (wat hw 27 rfl) Av
  have n_t_b : t ≠ b := Exa.ne Et Eb (by decide)
  have nA742 : t ≠ va := own_neA Et (wat hw 1 rfl) Av
  refine g_aloadN X0 hx (pc' := 1) rfl (hD hby d20_0) rfl rfl ?_
  refine g_initO X0 hx hZ hown (wat hw 11 rfl) (wat hw 12 rfl) (wat hw 13 rfl) (by rw [hml]; rfl) (pc' := 4) rfl (hD hby d20_1) (by decide) (W := 0) (Nat.le_of_eq rfl) (by decide) (fun T743 X743 => ?_)
  show Go p e below s n0 _ _ _ (T743.setTop (mkF m 4 _ []))
  refine g_aloadN X743 hx (pc' := 5) rfl (hD hby d20_4) rfl rfl ?_
  refine g_callV X743 hx hZ hown (wat hw 129 rfl) (wat hw 130 rfl) (wat hw 132 rfl) (wat hw 131 rfl) (wat hw 36 rfl) (wat hw 133 rfl) (by decide) (a := b) Eb (rm21 l Z a0 hw [] n0 (Ts) b va h0 hn0 Fbv) pd_31 rfl rfl (pc' := 8) rfl (hD hby d20_5) (argsL := []) (rest := []) rfl (W := 0) (fun v744 T744 h744 X744 hQ744 => ?_)
  obtain ⟨rfl, he744⟩ := hQ744
  rw [he744] at X744
  show Go p e below s n0 _ _ _ (T744.setTop (mkF m 8 _ [(.ref va)]))
  refine g_astoreN X744 hx (pc' := 9) rfl (hD hby d20_8) rfl (l' := #[.val (.ref t), .val (.ref b), .val .null, .val (.ref va), .unset]) rfl ?_
  refine g_aloadN X744 hx (pc' := 10) rfl (hD hby d20_9) rfl rfl ?_
  refine g_callVN X744 hx hZ hown (wat hw 134 rfl) (wat hw 135 rfl) (y' := ({ cls := "java/lang/AbstractStringBuilder", name := "ensureCapacityInternal", desc := "(I)V" } : Jvm.MethodName)) rfl (wat hw 90 rfl) (wat hw 137 rfl) (wat hw 138 rfl) (wat hw 28 rfl) (wat hw 139 rfl) (by decide) (a := b) Eb (rm22 l Z a0 hw [] n0 (Ts) b c' h0 hn0 Eb Fbn) pd_27 rfl rfl (pc' := 13) rfl (hD hby d20_10) (argsL := []) (rest := []) rfl (W := 0) (fun v745 T745 h745 X745 hQ745 => ?_)
  obtain ⟨rfl, he745⟩ := hQ745
  rw [he745] at X745
  show Go p e below s n0 _ _ _ (T745.setTop (mkF m 13 _ [(.int c')]))
  refine g_istore X745 hx (pc' := 15) rfl (hD hby d20_13) (l' := #[.val (.ref t), .val (.ref b), .val .null, .val (.ref va), .val (.int c')]) rfl ?_
  refine g_aloadN X745 hx (pc' := 16) rfl (hD hby d20_15) rfl rfl ?_
  refine g_callV X745 hx hZ hown (wat hw 142 rfl) (wat hw 143 rfl) (wat hw 145 rfl) (wat hw 144 rfl) (wat hw 36 rfl) (wat hw 146 rfl) (by decide) (a := b) Eb (rm24_0 l Z a0 hw [] n0 (Ts) b cz h0 hn0 O2 hcz OLD Fbc) pd_6 rfl rfl (pc' := 19) rfl (hD hby d20_16) (argsL := []) (rest := []) rfl (W := 0) (fun v746 T746 h746 X746 hQ746 => ?_)
  obtain ⟨rfl, he746⟩ := hQ746
  rw [he746] at X746
  show Go p e below s n0 _ _ _ (T746.setTop (mkF m 19 _ [(.int 1)]))
  refine g_ifN X746 hx (pcN := 22) (hD hby d20_19) rfl (show ¬ ((1 : Int32) = 0) from by decide) ?_
  refine g_aloadN X746 hx (pc' := 23) rfl (hD hby d20_22) rfl rfl ?_
  refine g_iconst X746 hx (pc' := 24) (z := (0 : Int32)) rfl (hD hby d20_23) rfl ?_
  refine g_putF X746 hx hZ hown (wat hw 21 rfl) Via.refl F_coder Et (Or.inr ⟨(wat hw 17 rfl), rfl, hnm⟩) (wat hw 1 rfl) (ty := .byte) (by decide) rfl rfl hgt (pc' := 27) rfl (hD hby d20_24) (fun T747 h747 X747 W747 => ?_)
  have f748 := (by have q := (Keep.of_wr W747).1; exact Nat.le_trans hn0 q : n0 ≤ h747.size)
  have f749 := (Keep.refl h0 [t]).wr W747 (Or.inl (List.mem_of_getElem? (i := 0) rfl))
  have f750 := Et.wr W747
  have f751 := F_value.other W747 (Or.inr (slot_ne (Or.inr (wat hw 16 rfl)) (Or.inr (wat hw 17 rfl)) (by decide) (t := (.array .byte)) (t' := .byte) (by decide) (by decide)))
  have f752 := F_coder.same W747
  have f753 := OLD.wr W747 hgt
  have f754 := Eb.wr W747
  have f755 := Fbv.other W747 (Or.inl n_t_b.symm)
  have f756 := Fbc.other W747 (Or.inl n_t_b.symm)
  have f757 := Fbn.other W747 (Or.inl n_t_b.symm)
  have f758 := Fbm.other W747 (Or.inl n_t_b.symm)
  have f759 := Av.other W747 nA742.symm
  refine g_aloadN X747 hx (pc' := 28) rfl (hD hby d20_27) rfl rfl ?_
  refine g_aloadN X747 hx (pc' := 29) rfl (hD hby d20_28) rfl rfl ?_
  refine g_iconst X747 hx (pc' := 30) (z := (0 : Int32)) rfl (hD hby d20_29) rfl ?_
  refine g_iload X747 hx (pc' := 32) rfl (hD hby d20_30) rfl ?_
  refine g_normI (z := e') h21 ?_
  refine g_callS X747 hx hZ hown (wat hw 147 rfl) (wat hw 148 rfl) (wat hw 149 rfl) (wat hw 150 rfl) (by decide) (rm25_r l Z a0 hw [] n0 (Ts) va zs cap' e' e9 h747 f748 f759 hcap he hm0 e16 e15 e18 e17) pd_30 rfl rfl (pc' := 35) rfl (hD hby d20_32) (argsL := [(.ref va), (.int 0), (.int e')]) (rest := [(.ref t)]) rfl (W := 1) (fun v760 T760 h760 X760 hQ760 => ?_)
  obtain ⟨nb760, rfl, Gnb760, S760, K760, V760⟩ := hQ760
  have nenb760_t : t ≠ nb760 := Nat.ne_of_lt (Nat.lt_of_lt_of_le f750.lt S760)
  have nenb760_b : b ≠ nb760 := Nat.ne_of_lt (Nat.lt_of_lt_of_le f754.lt S760)
  have nenb760_va : va ≠ nb760 := Nat.ne_of_lt (Nat.lt_of_lt_of_le f759.lt S760)
  have sznb760 : h0.size ≤ nb760 := Nat.le_trans f749.1 S760
  have f761 := f749.trans K760 all0
  have f762 := f750.keep K760
  have f763 := f751.keep K760 nin0
  have f764 := f752.keep K760 nin0
  have f765 := f753.keep K760 all0
  have f766 := f754.keep K760
  have f767 := f755.keep K760 nin0
  have f768 := f756.keep K760 nin0
  have f769 := f757.keep K760 nin0
  have f770 := f758.keep K760 nin0
  have f771 := f759.keep K760 nin0
  have zs760 : n0 ≤ h760.size := Nat.le_trans f748 K760.1
  show Go p e below s n0 _ _ _ (T760.setTop (mkF m 35 _ [(.ref nb760), (.ref t)]))
  refine g_putF X760 hx hZ hown (wat hw 20 rfl) Via.refl f763 f762 (Or.inr ⟨(wat hw 16 rfl), rfl, hnm⟩) (wat hw 1 rfl) (ty := (.array .byte)) (by decide) rfl rfl hgt (pc' := 38) rfl (hD hby d20_35) (fun T772 h772 X772 W772 => ?_)
  have f773 := (by have q := (Keep.of_wr W772).1; exact Nat.le_trans zs760 q : n0 ≤ h772.size)
  have f774 := f761.wr W772 (Or.inl (List.mem_of_getElem? (i := 0) rfl))
  have f775 := f762.wr W772
  have f776 := f763.same W772
  have f777 := f764.other W772 (Or.inr (slot_ne (Or.inr (wat hw 17 rfl)) (Or.inr (wat hw 16 rfl)) (by decide) (t := .byte) (t' := (.array .byte)) (by decide) (by decide)))
  have f778 := f765.wr W772 hgt
  have f779 := f766.wr W772
  have f780 := f767.other W772 (Or.inl n_t_b.symm)
  have f781 := f768.other W772 (Or.inl n_t_b.symm)
  have f782 := f769.other W772 (Or.inl n_t_b.symm)
  have f783 := f770.other W772 (Or.inl n_t_b.symm)
  have f784 := f771.other W772 nA742.symm
  have f785 := V760.other W772 nenb760_t.symm
  refine g_goto X772 hx (pc' := 97) (hD hby d20_38) (by decide) (by decide) ?_
  exact g_retV X772 hx hlk hret (hD hby d20_97) (by decide) (by decide) (Nat.le_refl _) (⟨rfl, f774, nb760, Gnb760, sznb760, f785, f776, f777⟩)
theorem rm19_0r (l : Launch) (Z : State) (a0 : Array Value) (hw : HW a0 Z) (ws : List Jvm.Cond) (n0 : Nat) (Ts : List String) (t b va : Addr) (zs : List Value) (cap' e' : Int32) (e9 : Nat) (c' : Int32) (cz : Int32) (h0 : Heap) (hn0 : n0 ≤ h0.size) (O2 : St0 Z (.int cz)) (hcz : ¬ cz = 0) (OLD : OldP Z n0 h0) (Eb : XSb Z h0 b) (Fbv : BV Z h0 b (.ref va)) (Fbc : BC Z h0 b (.int 0)) (Fbn : BN Z h0 b (.int c')) (Fbm : BM Z h0 b (.int 0)) (Av : AV Z h0 va .byte zs) (hcap : cap'.toInt = (zs.length : Int)) (he : e'.toInt = (e9 : Int)) (hm0 : ¬ e' < (0 : Int32)) (e16 : e' < cap') (e15 : ¬ e' = cap') (e18 : e9 ≤ 140) (e17 : e9 ≤ zs.length) (h21 : c' = e') (Et : XSt Z h0 t) (hgt : n0 ≤ t) (F_value : SV Z h0 t .null) (F_coder : SC Z h0 t (.int 0)) :
    Con l Z n0 Ts (Ts) (⟨"java/lang/String", "<init>", "(Ljava/lang/StringBuilder;)V"⟩ : MethodName) jdk_42_method_53_code 2 none ws ({ frames := 4, cells := 1, slots := 140, locals := 112 } : Room) #[(.ref t), (.ref b)] h0 (fun v h => v = none ∧ Keep h0 h [t] ∧ ∃ nb, n0 ≤ nb ∧ h0.size ≤ nb ∧ AV Z h nb .byte (zs.take e9) ∧ SV Z h t (.ref nb) ∧ SC Z h t (.int 0)) := by
  refine con_start (fr0 := fun m => mkF m 0 #[.val (.ref t), .val (.ref b)] []) ?_
  intro p e s m below meth c T0 hx hZ hby hml hown hnm hret hlk hsh XA
  have X0 := XA n0
  have hlow : n0 ≤ s.heap.size := by rw [hsh]; exact hn0
  replace hown : s.vm.findClass "java/lang/String" = some m.cls := hown
  replace hml : c.maxLocals = 2 := hml
  have nA786 : b ≠ va := own_neA Eb (wat hw 27 rfl) Av
  have n_t_b : t ≠ b := Exa.ne Et Eb (by decide)
  have nA787 : t ≠ va := own_neA Et (wat hw 1 rfl) Av
  refine g_aloadN X0 hx (pc' := 1) rfl (hD hby d19_0) rfl rfl ?_
  refine g_aloadN X0 hx (pc' := 2) rfl (hD hby d19_1) rfl rfl ?_
  refine g_aconst_null X0 hx (pc' := 3) rfl (hD hby d19_2) ?_
  refine g_callI X0 hx hZ hown rfl (wat hw 126 rfl) (wat hw 127 rfl) (wat hw 2 rfl) (wat hw 128 rfl) (by decide) (a := t) (rm20_0r l Z a0 hw [] n0 (Ts) t b va zs cap' e' e9 c' cz h0 hn0 O2 hcz OLD Eb Fbv Fbc Fbn Fbm Av hcap he hm0 e16 e15 e18 e17 h21 Et hgt F_value F_coder) pd_32 rfl rfl (pc' := 6) rfl (hD hby d19_3) (argsL := [(.ref b), .null]) (rest := []) rfl (W := 0) (fun v788 T788 h788 X788 hQ788 => ?_)
  obtain ⟨rfl, K788, nb788, Gnb788, S788, V788, FV788, FC788⟩ := hQ788
  have nenb788_t : t ≠ nb788 := Nat.ne_of_lt (Nat.lt_of_lt_of_le Et.lt S788)
  have nenb788_b : b ≠ nb788 := Nat.ne_of_lt (Nat.lt_of_lt_of_le Eb.lt S788)
  have nenb788_va : va ≠ nb788 := Nat.ne_of_lt (Nat.lt_of_lt_of_le Av.lt S788)
  have sznb788 : h0.size ≤ nb788 := Nat.le_trans (Keep.refl h0 [t]).1 S788
  have f789 := (Keep.refl h0 [t]).trans K788 (allS (Or.inl (List.mem_of_getElem? (i := 0) rfl)) all0)
  have f790 := Et.keep K788
  have f791 := OLD.keep K788 (allS hgt all0)
  have f792 := Eb.keep K788
  have f793 := Fbv.keep K788 (ninS n_t_b.symm nin0)
  have f794 := Fbc.keep K788 (ninS n_t_b.symm nin0)
  have f795 := Fbn.keep K788 (ninS n_t_b.symm nin0)
  have f796 := Fbm.keep K788 (ninS n_t_b.symm nin0)
  have f797 := Av.keep K788 (ninS nA787.symm nin0)
  have zs788 : n0 ≤ h788.size := Nat.le_trans hn0 K788.1
  show Go p e below s n0 _ _ _ (T788.setTop (mkF m 6 _ []))
  exact g_retV X788 hx hlk hret (hD hby d19_6) (by decide) (by decide) (Nat.le_refl _) (⟨rfl, f789, nb788, Gnb788, sznb788, V788, FV788, FC788⟩)
theorem rm18_0r (l : Launch) (Z : State) (a0 : Array Value) (hw : HW a0 Z) (ws : List Jvm.Cond) (n0 : Nat) (Ts : List String) (b va : Addr) (zs : List Value) (cap' e' : Int32) (e9 : Nat) (c' : Int32) (cz : Int32) (h0 : Heap) (hn0 : n0 ≤ h0.size) (O2 : St0 Z (.int cz)) (hcz : ¬ cz = 0) (OLD : OldP Z n0 h0) (Eb : XSb Z h0 b) (Fbv : BV Z h0 b (.ref va)) (Fbc : BC Z h0 b (.int 0)) (Fbn : BN Z h0 b (.int c')) (Fbm : BM Z h0 b (.int 0)) (Av : AV Z h0 va .byte zs) (hcap : cap'.toInt = (zs.length : Int)) (he : e'.toInt = (e9 : Int)) (hm0 : ¬ e' < (0 : Int32)) (e16 : e' < cap') (e15 : ¬ e' = cap') (e18 : e9 ≤ 140) (e17 : e9 ≤ zs.length) (h21 : c' = e') :
    Con l Z n0 Ts (Ts) (⟨"java/lang/StringBuilder", "toString", "()Ljava/lang/String;"⟩ : MethodName) jdk_67_method_42_code 1 (some (.object "java/lang/String")) ws ({ frames := 5, cells := 2, slots := 144, locals := 136 } : Room) #[(.ref b)] h0 (fun v h => ∃ t tb, v = some (.ref t) ∧ n0 ≤ t ∧ h0.size ≤ t ∧ n0 ≤ tb ∧ h0.size ≤ tb ∧ Keep h0 h [] ∧ XSt Z h t ∧ SV Z h t (.ref tb) ∧ SC Z h t (.int 0) ∧ AV Z h tb .byte (zs.take e9)) := by
  refine con_start (fr0 := fun m => mkF m 0 #[.val (.ref b)] []) ?_
  intro p e s m below meth c T0 hx hZ hby hml hown hnm hret hlk hsh XA
  have X0 := XA n0
  have hlow : n0 ≤ s.heap.size := by rw [hsh]; exact hn0
  replace hown : s.vm.findClass "java/lang/StringBuilder" = some m.cls := hown
  replace hml : c.maxLocals = 1 := hml
  have nA798 : b ≠ va := own_neA Eb (wat hw 27 rfl) Av
  refine g_newO X0 hx hZ hown (wat hw 122 rfl) (wat hw 1 rfl) (wat hw 2 rfl) (pc' := 3) rfl (hD hby d18_0) (by decide) (by decide) (fun T799 h799 a799 ha799 X799 E799 A799 D799 => ?_)
  have ne799_b : b ≠ a799 := by rw [ha799]; exact Nat.ne_of_lt Eb.lt
  have ne799_va : va ≠ a799 := by rw [ha799]; exact Nat.ne_of_lt Av.lt
  have f800 := Eb.ext E799
  have f801 := Fbv.ext E799
  have f802 := Fbc.ext E799
  have f803 := Fbn.ext E799
  have f804 := Fbm.ext E799
  have f805 := Av.ext E799
  have sz799 : h0.size ≤ a799 := by rw [ha799]; exact (Keep.refl h0 []).1
  have f806 := (Keep.refl h0 []).ext E799
  have G_a799 : n0 ≤ a799 := by rw [ha799]; exact hn0
  have Zs799 : n0 ≤ h799.size := Nat.le_trans hn0 E799.1
  have f807 := OLD.ext E799
  have F799_value : SV Z h799 a799 .null := D799 (Or.inr (wat hw 16 rfl)) (ty := (.array .byte)) (by decide)
  have F799_coder : SC Z h799 a799 (.int 0) := D799 (Or.inr (wat hw 17 rfl)) (ty := .byte) (by decide)
  refine g_dup X799 hx (pc' := 4) rfl (hD hby d18_3) rfl ?_
  refine g_aloadN X799 hx (pc' := 5) rfl (hD hby d18_4) rfl rfl ?_
  refine g_callI X799 hx hZ hown rfl (wat hw 123 rfl) (wat hw 124 rfl) (wat hw 2 rfl) (wat hw 125 rfl) (by decide) (a := a799) (rm19_0r l Z a0 hw [] n0 (Ts) a799 b va zs cap' e' e9 c' cz h799 Zs799 O2 hcz f807 f800 f801 f802 f803 f804 f805 hcap he hm0 e16 e15 e18 e17 h21 A799 G_a799 F799_value F799_coder) pd_33 rfl rfl (pc' := 8) rfl (hD hby d18_5) (argsL := [(.ref b)]) (rest := [(.ref a799)]) rfl (W := 1) (fun v808 T808 h808 X808 hQ808 => ?_)
  obtain ⟨rfl, K808, nb808, Gnb808, S808, V808, FV808, FC808⟩ := hQ808
  have nenb808_b : b ≠ nb808 := Nat.ne_of_lt (Nat.lt_of_lt_of_le f800.lt S808)
  have nenb808_va : va ≠ nb808 := Nat.ne_of_lt (Nat.lt_of_lt_of_le f805.lt S808)
  have nenb808_a799 : a799 ≠ nb808 := Nat.ne_of_lt (Nat.lt_of_lt_of_le A799.lt S808)
  have sznb808 : h0.size ≤ nb808 := Nat.le_trans f806.1 S808
  have f809 := f806.trans K808 (allS (Or.inr sz799) all0)
  have f810 := f807.keep K808 (allS G_a799 all0)
  have f811 := f800.keep K808
  have f812 := f801.keep K808 (ninS ne799_b nin0)
  have f813 := f802.keep K808 (ninS ne799_b nin0)
  have f814 := f803.keep K808 (ninS ne799_b nin0)
  have f815 := f804.keep K808 (ninS ne799_b nin0)
  have f816 := f805.keep K808 (ninS ne799_va nin0)
  have f817 := A799.keep K808
  have zs808 : n0 ≤ h808.size := Nat.le_trans Zs799 K808.1
  show Go p e below s n0 _ _ _ (T808.setTop (mkF m 8 _ [(.ref a799)]))
  exact g_ret X808 hx hlk hret rfl (Or.inr (Or.inr (Or.inr (Or.inr ⟨rfl, rfl, rfl⟩)))) (hD hby d18_8) (by decide) (by decide) (Nat.le_refl _) (⟨a799, nb808, rfl, G_a799, sz799, Gnb808, sznb808, f809, f817, FV808, FC808, V808⟩)
theorem rm20_0c (l : Launch) (Z : State) (a0 : Array Value) (hw : HW a0 Z) (ws : List Jvm.Cond) (n0 : Nat) (Ts : List String) (t b va : Addr) (zs : List Value) (cap' e' : Int32) (e9 : Nat) (c' : Int32) (cz : Int32) (h0 : Heap) (hn0 : n0 ≤ h0.size) (O2 : St0 Z (.int cz)) (hcz : ¬ cz = 0) (OLD : OldP Z n0 h0) (Eb : XSb Z h0 b) (Fbv : BV Z h0 b (.ref va)) (Fbc : BC Z h0 b (.int 0)) (Fbn : BN Z h0 b (.int c')) (Fbm : BM Z h0 b (.int 0)) (Av : AV Z h0 va .byte zs) (hcap : cap'.toInt = (zs.length : Int)) (he : e' = cap') (he9 : e9 = zs.length) (e18 : zs.length ≤ 140) (Ev : Exa Z h0 va "[B") (h21 : c' = e') (Et : XSt Z h0 t) (hgt : n0 ≤ t) (F_value : SV Z h0 t .null) (F_coder : SC Z h0 t (.int 0)) :
    Con l Z n0 Ts (Ts) (⟨"java/lang/String", "<init>", "(Ljava/lang/AbstractStringBuilder;Ljava/lang/Void;)V"⟩ : MethodName) jdk_42_method_150_code 5 none ws ({ frames := 3, cells := 1, slots := 140, locals := 88 } : Room) #[(.ref t), (.ref b), .null] h0 (fun v h => v = none ∧ Keep h0 h [t] ∧ ∃ nb, n0 ≤ nb ∧ h0.size ≤ nb ∧ AV Z h nb .byte (zs.take e9) ∧ SV Z h t (.ref nb) ∧ SC Z h t (.int 0)) := by
  refine con_start (fr0 := fun m => mkF m 0 #[.val (.ref t), .val (.ref b), .val .null, .unset, .unset] []) ?_
  intro p e s m below meth c T0 hx hZ hby hml hown hnm hret hlk hsh XA
  have X0 := XA n0
  have hlow : n0 ≤ s.heap.size := by rw [hsh]; exact hn0
  replace hown : s.vm.findClass "java/lang/String" = some m.cls := hown
  replace hml : c.maxLocals = 5 := hml
  have nA818 : b ≠ va := own_neA Eb (wat hw 27 rfl) Av
  have n_t_b : t ≠ b := Exa.ne Et Eb (by decide)
  have nA819 : t ≠ va := own_neA Et (wat hw 1 rfl) Av
  refine g_aloadN X0 hx (pc' := 1) rfl (hD hby d20_0) rfl rfl ?_
  refine g_initO X0 hx hZ hown (wat hw 11 rfl) (wat hw 12 rfl) (wat hw 13 rfl) (by rw [hml]; rfl) (pc' := 4) rfl (hD hby d20_1) (by decide) (W := 0) (Nat.le_of_eq rfl) (by decide) (fun T820 X820 => ?_)
  show Go p e below s n0 _ _ _ (T820.setTop (mkF m 4 _ []))
  refine g_aloadN X820 hx (pc' := 5) rfl (hD hby d20_4) rfl rfl ?_
  refine g_callV X820 hx hZ hown (wat hw 129 rfl) (wat hw 130 rfl) (wat hw 132 rfl) (wat hw 131 rfl) (wat hw 36 rfl) (wat hw 133 rfl) (by decide) (a := b) Eb (rm21 l Z a0 hw [] n0 (Ts) b va h0 hn0 Fbv) pd_31 rfl rfl (pc' := 8) rfl (hD hby d20_5) (argsL := []) (rest := []) rfl (W := 0) (fun v821 T821 h821 X821 hQ821 => ?_)
  obtain ⟨rfl, he821⟩ := hQ821
  rw [he821] at X821
  show Go p e below s n0 _ _ _ (T821.setTop (mkF m 8 _ [(.ref va)]))
  refine g_astoreN X821 hx (pc' := 9) rfl (hD hby d20_8) rfl (l' := #[.val (.ref t), .val (.ref b), .val .null, .val (.ref va), .unset]) rfl ?_
  refine g_aloadN X821 hx (pc' := 10) rfl (hD hby d20_9) rfl rfl ?_
  refine g_callVN X821 hx hZ hown (wat hw 134 rfl) (wat hw 135 rfl) (y' := ({ cls := "java/lang/AbstractStringBuilder", name := "ensureCapacityInternal", desc := "(I)V" } : Jvm.MethodName)) rfl (wat hw 90 rfl) (wat hw 137 rfl) (wat hw 138 rfl) (wat hw 28 rfl) (wat hw 139 rfl) (by decide) (a := b) Eb (rm22 l Z a0 hw [] n0 (Ts) b c' h0 hn0 Eb Fbn) pd_27 rfl rfl (pc' := 13) rfl (hD hby d20_10) (argsL := []) (rest := []) rfl (W := 0) (fun v822 T822 h822 X822 hQ822 => ?_)
  obtain ⟨rfl, he822⟩ := hQ822
  rw [he822] at X822
  show Go p e below s n0 _ _ _ (T822.setTop (mkF m 13 _ [(.int c')]))
  refine g_istore X822 hx (pc' := 15) rfl (hD hby d20_13) (l' := #[.val (.ref t), .val (.ref b), .val .null, .val (.ref va), .val (.int c')]) rfl ?_
  refine g_aloadN X822 hx (pc' := 16) rfl (hD hby d20_15) rfl rfl ?_
  refine g_callV X822 hx hZ hown (wat hw 142 rfl) (wat hw 143 rfl) (wat hw 145 rfl) (wat hw 144 rfl) (wat hw 36 rfl) (wat hw 146 rfl) (by decide) (a := b) Eb (rm24_0 l Z a0 hw [] n0 (Ts) b cz h0 hn0 O2 hcz OLD Fbc) pd_6 rfl rfl (pc' := 19) rfl (hD hby d20_16) (argsL := []) (rest := []) rfl (W := 0) (fun v823 T823 h823 X823 hQ823 => ?_)
  obtain ⟨rfl, he823⟩ := hQ823
  rw [he823] at X823
  show Go p e below s n0 _ _ _ (T823.setTop (mkF m 19 _ [(.int 1)]))
  refine g_ifN X823 hx (pcN := 22) (hD hby d20_19) rfl (show ¬ ((1 : Int32) = 0) from by decide) ?_
  refine g_aloadN X823 hx (pc' := 23) rfl (hD hby d20_22) rfl rfl ?_
  refine g_iconst X823 hx (pc' := 24) (z := (0 : Int32)) rfl (hD hby d20_23) rfl ?_
  refine g_putF X823 hx hZ hown (wat hw 21 rfl) Via.refl F_coder Et (Or.inr ⟨(wat hw 17 rfl), rfl, hnm⟩) (wat hw 1 rfl) (ty := .byte) (by decide) rfl rfl hgt (pc' := 27) rfl (hD hby d20_24) (fun T824 h824 X824 W824 => ?_)
  have f825 := (by have q := (Keep.of_wr W824).1; exact Nat.le_trans hn0 q : n0 ≤ h824.size)
  have f826 := (Keep.refl h0 [t]).wr W824 (Or.inl (List.mem_of_getElem? (i := 0) rfl))
  have f827 := Et.wr W824
  have f828 := F_value.other W824 (Or.inr (slot_ne (Or.inr (wat hw 16 rfl)) (Or.inr (wat hw 17 rfl)) (by decide) (t := (.array .byte)) (t' := .byte) (by decide) (by decide)))
  have f829 := F_coder.same W824
  have f830 := OLD.wr W824 hgt
  have f831 := Eb.wr W824
  have f832 := Fbv.other W824 (Or.inl n_t_b.symm)
  have f833 := Fbc.other W824 (Or.inl n_t_b.symm)
  have f834 := Fbn.other W824 (Or.inl n_t_b.symm)
  have f835 := Fbm.other W824 (Or.inl n_t_b.symm)
  have f836 := Av.other W824 nA819.symm
  have f837 := Ev.wr W824
  refine g_aloadN X824 hx (pc' := 28) rfl (hD hby d20_27) rfl rfl ?_
  refine g_aloadN X824 hx (pc' := 29) rfl (hD hby d20_28) rfl rfl ?_
  refine g_iconst X824 hx (pc' := 30) (z := (0 : Int32)) rfl (hD hby d20_29) rfl ?_
  refine g_iload X824 hx (pc' := 32) rfl (hD hby d20_30) rfl ?_
  refine g_normI (z := e') h21 ?_
  refine g_callS X824 hx hZ hown (wat hw 147 rfl) (wat hw 148 rfl) (wat hw 149 rfl) (wat hw 150 rfl) (by decide) (rm25_c l Z a0 hw [] n0 (Ts) va zs cap' e' e9 h824 f825 f836 hcap he he9 e18 f837) pd_30 rfl rfl (pc' := 35) rfl (hD hby d20_32) (argsL := [(.ref va), (.int 0), (.int e')]) (rest := [(.ref t)]) rfl (W := 1) (fun v838 T838 h838 X838 hQ838 => ?_)
  obtain ⟨nb838, rfl, Gnb838, S838, K838, V838⟩ := hQ838
  have nenb838_t : t ≠ nb838 := Nat.ne_of_lt (Nat.lt_of_lt_of_le f827.lt S838)
  have nenb838_b : b ≠ nb838 := Nat.ne_of_lt (Nat.lt_of_lt_of_le f831.lt S838)
  have nenb838_va : va ≠ nb838 := Nat.ne_of_lt (Nat.lt_of_lt_of_le f836.lt S838)
  have sznb838 : h0.size ≤ nb838 := Nat.le_trans f826.1 S838
  have f839 := f826.trans K838 all0
  have f840 := f827.keep K838
  have f841 := f828.keep K838 nin0
  have f842 := f829.keep K838 nin0
  have f843 := f830.keep K838 all0
  have f844 := f831.keep K838
  have f845 := f832.keep K838 nin0
  have f846 := f833.keep K838 nin0
  have f847 := f834.keep K838 nin0
  have f848 := f835.keep K838 nin0
  have f849 := f836.keep K838 nin0
  have f850 := f837.keep K838
  have zs838 : n0 ≤ h838.size := Nat.le_trans f825 K838.1
  show Go p e below s n0 _ _ _ (T838.setTop (mkF m 35 _ [(.ref nb838), (.ref t)]))
  refine g_putF X838 hx hZ hown (wat hw 20 rfl) Via.refl f841 f840 (Or.inr ⟨(wat hw 16 rfl), rfl, hnm⟩) (wat hw 1 rfl) (ty := (.array .byte)) (by decide) rfl rfl hgt (pc' := 38) rfl (hD hby d20_35) (fun T851 h851 X851 W851 => ?_)
  have f852 := (by have q := (Keep.of_wr W851).1; exact Nat.le_trans zs838 q : n0 ≤ h851.size)
  have f853 := f839.wr W851 (Or.inl (List.mem_of_getElem? (i := 0) rfl))
  have f854 := f840.wr W851
  have f855 := f841.same W851
  have f856 := f842.other W851 (Or.inr (slot_ne (Or.inr (wat hw 17 rfl)) (Or.inr (wat hw 16 rfl)) (by decide) (t := .byte) (t' := (.array .byte)) (by decide) (by decide)))
  have f857 := f843.wr W851 hgt
  have f858 := f844.wr W851
  have f859 := f845.other W851 (Or.inl n_t_b.symm)
  have f860 := f846.other W851 (Or.inl n_t_b.symm)
  have f861 := f847.other W851 (Or.inl n_t_b.symm)
  have f862 := f848.other W851 (Or.inl n_t_b.symm)
  have f863 := f849.other W851 nA819.symm
  have f864 := f850.wr W851
  have f865 := V838.other W851 nenb838_t.symm
  refine g_goto X851 hx (pc' := 97) (hD hby d20_38) (by decide) (by decide) ?_
  exact g_retV X851 hx hlk hret (hD hby d20_97) (by decide) (by decide) (Nat.le_refl _) (⟨rfl, f853, nb838, Gnb838, sznb838, f865, f855, f856⟩)
theorem rm19_0c (l : Launch) (Z : State) (a0 : Array Value) (hw : HW a0 Z) (ws : List Jvm.Cond) (n0 : Nat) (Ts : List String) (t b va : Addr) (zs : List Value) (cap' e' : Int32) (e9 : Nat) (c' : Int32) (cz : Int32) (h0 : Heap) (hn0 : n0 ≤ h0.size) (O2 : St0 Z (.int cz)) (hcz : ¬ cz = 0) (OLD : OldP Z n0 h0) (Eb : XSb Z h0 b) (Fbv : BV Z h0 b (.ref va)) (Fbc : BC Z h0 b (.int 0)) (Fbn : BN Z h0 b (.int c')) (Fbm : BM Z h0 b (.int 0)) (Av : AV Z h0 va .byte zs) (hcap : cap'.toInt = (zs.length : Int)) (he : e' = cap') (he9 : e9 = zs.length) (e18 : zs.length ≤ 140) (Ev : Exa Z h0 va "[B") (h21 : c' = e') (Et : XSt Z h0 t) (hgt : n0 ≤ t) (F_value : SV Z h0 t .null) (F_coder : SC Z h0 t (.int 0)) :
    Con l Z n0 Ts (Ts) (⟨"java/lang/String", "<init>", "(Ljava/lang/StringBuilder;)V"⟩ : MethodName) jdk_42_method_53_code 2 none ws ({ frames := 4, cells := 1, slots := 140, locals := 112 } : Room) #[(.ref t), (.ref b)] h0 (fun v h => v = none ∧ Keep h0 h [t] ∧ ∃ nb, n0 ≤ nb ∧ h0.size ≤ nb ∧ AV Z h nb .byte (zs.take e9) ∧ SV Z h t (.ref nb) ∧ SC Z h t (.int 0)) := by
  refine con_start (fr0 := fun m => mkF m 0 #[.val (.ref t), .val (.ref b)] []) ?_
  intro p e s m below meth c T0 hx hZ hby hml hown hnm hret hlk hsh XA
  have X0 := XA n0
  have hlow : n0 ≤ s.heap.size := by rw [hsh]; exact hn0
  replace hown : s.vm.findClass "java/lang/String" = some m.cls := hown
  replace hml : c.maxLocals = 2 := hml
  have nA866 : b ≠ va := own_neA Eb (wat hw 27 rfl) Av
  have n_t_b : t ≠ b := Exa.ne Et Eb (by decide)
  have nA867 : t ≠ va := own_neA Et (wat hw 1 rfl) Av
  refine g_aloadN X0 hx (pc' := 1) rfl (hD hby d19_0) rfl rfl ?_
  refine g_aloadN X0 hx (pc' := 2) rfl (hD hby d19_1) rfl rfl ?_
  refine g_aconst_null X0 hx (pc' := 3) rfl (hD hby d19_2) ?_
  refine g_callI X0 hx hZ hown rfl (wat hw 126 rfl) (wat hw 127 rfl) (wat hw 2 rfl) (wat hw 128 rfl) (by decide) (a := t) (rm20_0c l Z a0 hw [] n0 (Ts) t b va zs cap' e' e9 c' cz h0 hn0 O2 hcz OLD Eb Fbv Fbc Fbn Fbm Av hcap he he9 e18 Ev h21 Et hgt F_value F_coder) pd_32 rfl rfl (pc' := 6) rfl (hD hby d19_3) (argsL := [(.ref b), .null]) (rest := []) rfl (W := 0) (fun v868 T868 h868 X868 hQ868 => ?_)
  obtain ⟨rfl, K868, nb868, Gnb868, S868, V868, FV868, FC868⟩ := hQ868
  have nenb868_t : t ≠ nb868 := Nat.ne_of_lt (Nat.lt_of_lt_of_le Et.lt S868)
  have nenb868_b : b ≠ nb868 := Nat.ne_of_lt (Nat.lt_of_lt_of_le Eb.lt S868)
  have nenb868_va : va ≠ nb868 := Nat.ne_of_lt (Nat.lt_of_lt_of_le Av.lt S868)
  have sznb868 : h0.size ≤ nb868 := Nat.le_trans (Keep.refl h0 [t]).1 S868
  have f869 := (Keep.refl h0 [t]).trans K868 (allS (Or.inl (List.mem_of_getElem? (i := 0) rfl)) all0)
  have f870 := Et.keep K868
  have f871 := OLD.keep K868 (allS hgt all0)
  have f872 := Eb.keep K868
  have f873 := Fbv.keep K868 (ninS n_t_b.symm nin0)
  have f874 := Fbc.keep K868 (ninS n_t_b.symm nin0)
  have f875 := Fbn.keep K868 (ninS n_t_b.symm nin0)
  have f876 := Fbm.keep K868 (ninS n_t_b.symm nin0)
  have f877 := Av.keep K868 (ninS nA867.symm nin0)
  have f878 := Ev.keep K868
  have zs868 : n0 ≤ h868.size := Nat.le_trans hn0 K868.1
  show Go p e below s n0 _ _ _ (T868.setTop (mkF m 6 _ []))
  exact g_retV X868 hx hlk hret (hD hby d19_6) (by decide) (by decide) (Nat.le_refl _) (⟨rfl, f869, nb868, Gnb868, sznb868, V868, FV868, FC868⟩)
theorem rm18_0c (l : Launch) (Z : State) (a0 : Array Value) (hw : HW a0 Z) (ws : List Jvm.Cond) (n0 : Nat) (Ts : List String) (b va : Addr) (zs : List Value) (cap' e' : Int32) (e9 : Nat) (c' : Int32) (cz : Int32) (h0 : Heap) (hn0 : n0 ≤ h0.size) (O2 : St0 Z (.int cz)) (hcz : ¬ cz = 0) (OLD : OldP Z n0 h0) (Eb : XSb Z h0 b) (Fbv : BV Z h0 b (.ref va)) (Fbc : BC Z h0 b (.int 0)) (Fbn : BN Z h0 b (.int c')) (Fbm : BM Z h0 b (.int 0)) (Av : AV Z h0 va .byte zs) (hcap : cap'.toInt = (zs.length : Int)) (he : e' = cap') (he9 : e9 = zs.length) (e18 : zs.length ≤ 140) (Ev : Exa Z h0 va "[B") (h21 : c' = e') :
    Con l Z n0 Ts (Ts) (⟨"java/lang/StringBuilder", "toString", "()Ljava/lang/String;"⟩ : MethodName) jdk_67_method_42_code 1 (some (.object "java/lang/String")) ws ({ frames := 5, cells := 2, slots := 144, locals := 136 } : Room) #[(.ref b)] h0 (fun v h => ∃ t tb, v = some (.ref t) ∧ n0 ≤ t ∧ h0.size ≤ t ∧ n0 ≤ tb ∧ h0.size ≤ tb ∧ Keep h0 h [] ∧ XSt Z h t ∧ SV Z h t (.ref tb) ∧ SC Z h t (.int 0) ∧ AV Z h tb .byte (zs.take e9)) := by
  refine con_start (fr0 := fun m => mkF m 0 #[.val (.ref b)] []) ?_
  intro p e s m below meth c T0 hx hZ hby hml hown hnm hret hlk hsh XA
  have X0 := XA n0
  have hlow : n0 ≤ s.heap.size := by rw [hsh]; exact hn0
  replace hown : s.vm.findClass "java/lang/StringBuilder" = some m.cls := hown
  replace hml : c.maxLocals = 1 := hml
  have nA879 : b ≠ va := own_neA Eb (wat hw 27 rfl) Av
  refine g_newO X0 hx hZ hown (wat hw 122 rfl) (wat hw 1 rfl) (wat hw 2 rfl) (pc' := 3) rfl (hD hby d18_0) (by decide) (by decide) (fun T880 h880 a880 ha880 X880 E880 A880 D880 => ?_)
  have ne880_b : b ≠ a880 := by rw [ha880]; exact Nat.ne_of_lt Eb.lt
  have ne880_va : va ≠ a880 := by rw [ha880]; exact Nat.ne_of_lt Av.lt
  have f881 := Eb.ext E880
  have f882 := Fbv.ext E880
  have f883 := Fbc.ext E880
  have f884 := Fbn.ext E880
  have f885 := Fbm.ext E880
  have f886 := Av.ext E880
  have f887 := Ev.ext E880
  have sz880 : h0.size ≤ a880 := by rw [ha880]; exact (Keep.refl h0 []).1
  have f888 := (Keep.refl h0 []).ext E880
  have G_a880 : n0 ≤ a880 := by rw [ha880]; exact hn0
  have Zs880 : n0 ≤ h880.size := Nat.le_trans hn0 E880.1
  have f889 := OLD.ext E880
  have F880_value : SV Z h880 a880 .null := D880 (Or.inr (wat hw 16 rfl)) (ty := (.array .byte)) (by decide)
  have F880_coder : SC Z h880 a880 (.int 0) := D880 (Or.inr (wat hw 17 rfl)) (ty := .byte) (by decide)
  refine g_dup X880 hx (pc' := 4) rfl (hD hby d18_3) rfl ?_
  refine g_aloadN X880 hx (pc' := 5) rfl (hD hby d18_4) rfl rfl ?_
  refine g_callI X880 hx hZ hown rfl (wat hw 123 rfl) (wat hw 124 rfl) (wat hw 2 rfl) (wat hw 125 rfl) (by decide) (a := a880) (rm19_0c l Z a0 hw [] n0 (Ts) a880 b va zs cap' e' e9 c' cz h880 Zs880 O2 hcz f889 f881 f882 f883 f884 f885 f886 hcap he he9 e18 f887 h21 A880 G_a880 F880_value F880_coder) pd_33 rfl rfl (pc' := 8) rfl (hD hby d18_5) (argsL := [(.ref b)]) (rest := [(.ref a880)]) rfl (W := 1) (fun v890 T890 h890 X890 hQ890 => ?_)
  obtain ⟨rfl, K890, nb890, Gnb890, S890, V890, FV890, FC890⟩ := hQ890
  have nenb890_b : b ≠ nb890 := Nat.ne_of_lt (Nat.lt_of_lt_of_le f881.lt S890)
  have nenb890_va : va ≠ nb890 := Nat.ne_of_lt (Nat.lt_of_lt_of_le f886.lt S890)
  have nenb890_a880 : a880 ≠ nb890 := Nat.ne_of_lt (Nat.lt_of_lt_of_le A880.lt S890)
  have sznb890 : h0.size ≤ nb890 := Nat.le_trans f888.1 S890
  have f891 := f888.trans K890 (allS (Or.inr sz880) all0)
  have f892 := f889.keep K890 (allS G_a880 all0)
  have f893 := f881.keep K890
  have f894 := f882.keep K890 (ninS ne880_b nin0)
  have f895 := f883.keep K890 (ninS ne880_b nin0)
  have f896 := f884.keep K890 (ninS ne880_b nin0)
  have f897 := f885.keep K890 (ninS ne880_b nin0)
  have f898 := f886.keep K890 (ninS ne880_va nin0)
  have f899 := f887.keep K890
  have f900 := A880.keep K890
  have zs890 : n0 ≤ h890.size := Nat.le_trans Zs880 K890.1
  show Go p e below s n0 _ _ _ (T890.setTop (mkF m 8 _ [(.ref a880)]))
  exact g_ret X890 hx hlk hret rfl (Or.inr (Or.inr (Or.inr (Or.inr ⟨rfl, rfl, rfl⟩)))) (hD hby d18_8) (by decide) (by decide) (Nat.le_refl _) (⟨a880, nb890, rfl, G_a880, sz880, Gnb890, sznb890, f891, f900, FV890, FC890, V890⟩)
theorem rm20_1r (l : Launch) (Z : State) (a0 : Array Value) (hw : HW a0 Z) (ws : List Jvm.Cond) (n0 : Nat) (Ts : List String) (t b va : Addr) (zs : List Value) (cap' e' : Int32) (e9 : Nat) (c' : Int32) (cz : Int32) (h0 : Heap) (hn0 : n0 ≤ h0.size) (O2 : St0 Z (.int cz)) (hcz : ¬ cz = 0) (OLD : OldP Z n0 h0) (Eb : XSb Z h0 b) (Fbv : BV Z h0 b (.ref va)) (Fbc : BC Z h0 b (.int 1)) (Fbn : BN Z h0 b (.int c')) (Fbm : BM Z h0 b (.int 0)) (Av : AV Z h0 va .byte zs) (hcap : cap'.toInt = (zs.length : Int)) (he : e'.toInt = (e9 : Int)) (hm0 : ¬ e' < (0 : Int32)) (e16 : e' < cap') (e15 : ¬ e' = cap') (e18 : e9 ≤ 140) (e17 : e9 ≤ zs.length) (h21 : c' <<< ((1 : Int32) &&& 31) = e') (Et : XSt Z h0 t) (hgt : n0 ≤ t) (F_value : SV Z h0 t .null) (F_coder : SC Z h0 t (.int 0)) :
    Con l Z n0 Ts (Ts) (⟨"java/lang/String", "<init>", "(Ljava/lang/AbstractStringBuilder;Ljava/lang/Void;)V"⟩ : MethodName) jdk_42_method_150_code 5 none ws ({ frames := 3, cells := 1, slots := 140, locals := 88 } : Room) #[(.ref t), (.ref b), .null] h0 (fun v h => v = none ∧ Keep h0 h [t] ∧ ∃ nb, n0 ≤ nb ∧ h0.size ≤ nb ∧ AV Z h nb .byte (zs.take e9) ∧ SV Z h t (.ref nb) ∧ SC Z h t (.int 1)) := by
  refine con_start (fr0 := fun m => mkF m 0 #[.val (.ref t), .val (.ref b), .val .null, .unset, .unset] []) ?_
  intro p e s m below meth c T0 hx hZ hby hml hown hnm hret hlk hsh XA
  have X0 := XA n0
  have hlow : n0 ≤ s.heap.size := by rw [hsh]; exact hn0
  replace hown : s.vm.findClass "java/lang/String" = some m.cls := hown
  replace hml : c.maxLocals = 5 := hml
  have nA901 : b ≠ va := own_neA Eb (wat hw 27 rfl) Av
  have n_t_b : t ≠ b := Exa.ne Et Eb (by decide)
  have nA902 : t ≠ va := own_neA Et (wat hw 1 rfl) Av
  refine g_aloadN X0 hx (pc' := 1) rfl (hD hby d20_0) rfl rfl ?_
  refine g_initO X0 hx hZ hown (wat hw 11 rfl) (wat hw 12 rfl) (wat hw 13 rfl) (by rw [hml]; rfl) (pc' := 4) rfl (hD hby d20_1) (by decide) (W := 0) (Nat.le_of_eq rfl) (by decide) (fun T903 X903 => ?_)
  show Go p e below s n0 _ _ _ (T903.setTop (mkF m 4 _ []))
  refine g_aloadN X903 hx (pc' := 5) rfl (hD hby d20_4) rfl rfl ?_
  refine g_callV X903 hx hZ hown (wat hw 129 rfl) (wat hw 130 rfl) (wat hw 132 rfl) (wat hw 131 rfl) (wat hw 36 rfl) (wat hw 133 rfl) (by decide) (a := b) Eb (rm21 l Z a0 hw [] n0 (Ts) b va h0 hn0 Fbv) pd_31 rfl rfl (pc' := 8) rfl (hD hby d20_5) (argsL := []) (rest := []) rfl (W := 0) (fun v904 T904 h904 X904 hQ904 => ?_)
  obtain ⟨rfl, he904⟩ := hQ904
  rw [he904] at X904
  show Go p e below s n0 _ _ _ (T904.setTop (mkF m 8 _ [(.ref va)]))
  refine g_astoreN X904 hx (pc' := 9) rfl (hD hby d20_8) rfl (l' := #[.val (.ref t), .val (.ref b), .val .null, .val (.ref va), .unset]) rfl ?_
  refine g_aloadN X904 hx (pc' := 10) rfl (hD hby d20_9) rfl rfl ?_
  refine g_callVN X904 hx hZ hown (wat hw 134 rfl) (wat hw 135 rfl) (y' := ({ cls := "java/lang/AbstractStringBuilder", name := "ensureCapacityInternal", desc := "(I)V" } : Jvm.MethodName)) rfl (wat hw 90 rfl) (wat hw 137 rfl) (wat hw 138 rfl) (wat hw 28 rfl) (wat hw 139 rfl) (by decide) (a := b) Eb (rm22 l Z a0 hw [] n0 (Ts) b c' h0 hn0 Eb Fbn) pd_27 rfl rfl (pc' := 13) rfl (hD hby d20_10) (argsL := []) (rest := []) rfl (W := 0) (fun v905 T905 h905 X905 hQ905 => ?_)
  obtain ⟨rfl, he905⟩ := hQ905
  rw [he905] at X905
  show Go p e below s n0 _ _ _ (T905.setTop (mkF m 13 _ [(.int c')]))
  refine g_istore X905 hx (pc' := 15) rfl (hD hby d20_13) (l' := #[.val (.ref t), .val (.ref b), .val .null, .val (.ref va), .val (.int c')]) rfl ?_
  refine g_aloadN X905 hx (pc' := 16) rfl (hD hby d20_15) rfl rfl ?_
  refine g_callV X905 hx hZ hown (wat hw 142 rfl) (wat hw 143 rfl) (wat hw 145 rfl) (wat hw 144 rfl) (wat hw 36 rfl) (wat hw 146 rfl) (by decide) (a := b) Eb (rm24_1 l Z a0 hw [] n0 (Ts) b cz h0 hn0 O2 hcz OLD Fbc) pd_6 rfl rfl (pc' := 19) rfl (hD hby d20_16) (argsL := []) (rest := []) rfl (W := 0) (fun v906 T906 h906 X906 hQ906 => ?_)
  obtain ⟨rfl, he906⟩ := hQ906
  rw [he906] at X906
  show Go p e below s n0 _ _ _ (T906.setTop (mkF m 19 _ [(.int 0)]))
  refine g_ifY X906 hx (pcY := 41) (hD hby d20_19) (by decide) (by decide) (show (0 : Int32) = 0 from by decide) ?_
  refine g_getS X906 hx hZ hown (wat hw 84 rfl) Via.refl (Sta.ext OLD.2 O2) (pc' := 44) rfl (hD hby d20_41) (fun T907 X907 => ?_)
  refine g_ifN X907 hx (pcN := 47) (hD hby d20_44) rfl (show ¬ (cz = 0) from hcz) ?_
  refine g_aloadN X907 hx (pc' := 48) rfl (hD hby d20_47) rfl rfl ?_
  refine g_getF X907 hx hZ hown (wat hw 278 rfl) Via.refl Fbm (pc' := 51) rfl (hD hby d20_48) (fun T908 X908 => ?_)
  refine g_ifY X908 hx (pcY := 79) (hD hby d20_51) (by decide) (by decide) (show (0 : Int32) = 0 from by decide) ?_
  refine g_aloadN X908 hx (pc' := 80) rfl (hD hby d20_79) rfl rfl ?_
  refine g_iconst X908 hx (pc' := 81) (z := (1 : Int32)) rfl (hD hby d20_80) rfl ?_
  refine g_putF X908 hx hZ hown (wat hw 21 rfl) Via.refl F_coder Et (Or.inr ⟨(wat hw 17 rfl), rfl, hnm⟩) (wat hw 1 rfl) (ty := .byte) (by decide) rfl rfl hgt (pc' := 84) rfl (hD hby d20_81) (fun T909 h909 X909 W909 => ?_)
  have f910 := (by have q := (Keep.of_wr W909).1; exact Nat.le_trans hn0 q : n0 ≤ h909.size)
  have f911 := (Keep.refl h0 [t]).wr W909 (Or.inl (List.mem_of_getElem? (i := 0) rfl))
  have f912 := Et.wr W909
  have f913 := F_value.other W909 (Or.inr (slot_ne (Or.inr (wat hw 16 rfl)) (Or.inr (wat hw 17 rfl)) (by decide) (t := (.array .byte)) (t' := .byte) (by decide) (by decide)))
  have f914 := F_coder.same W909
  have f915 := OLD.wr W909 hgt
  have f916 := Eb.wr W909
  have f917 := Fbv.other W909 (Or.inl n_t_b.symm)
  have f918 := Fbc.other W909 (Or.inl n_t_b.symm)
  have f919 := Fbn.other W909 (Or.inl n_t_b.symm)
  have f920 := Fbm.other W909 (Or.inl n_t_b.symm)
  have f921 := Av.other W909 nA902.symm
  refine g_aloadN X909 hx (pc' := 85) rfl (hD hby d20_84) rfl rfl ?_
  refine g_aloadN X909 hx (pc' := 86) rfl (hD hby d20_85) rfl rfl ?_
  refine g_iconst X909 hx (pc' := 87) (z := (0 : Int32)) rfl (hD hby d20_86) rfl ?_
  refine g_iload X909 hx (pc' := 89) rfl (hD hby d20_87) rfl ?_
  refine g_iconst X909 hx (pc' := 90) (z := (1 : Int32)) rfl (hD hby d20_89) rfl ?_
  refine g_ishl X909 hx (pc' := 91) rfl (hD hby d20_90) ?_
  refine g_normI (z := e') h21 ?_
  refine g_callS X909 hx hZ hown (wat hw 147 rfl) (wat hw 148 rfl) (wat hw 149 rfl) (wat hw 150 rfl) (by decide) (rm25_r l Z a0 hw [] n0 (Ts) va zs cap' e' e9 h909 f910 f921 hcap he hm0 e16 e15 e18 e17) pd_30 rfl rfl (pc' := 94) rfl (hD hby d20_91) (argsL := [(.ref va), (.int 0), (.int e')]) (rest := [(.ref t)]) rfl (W := 1) (fun v922 T922 h922 X922 hQ922 => ?_)
  obtain ⟨nb922, rfl, Gnb922, S922, K922, V922⟩ := hQ922
  have nenb922_t : t ≠ nb922 := Nat.ne_of_lt (Nat.lt_of_lt_of_le f912.lt S922)
  have nenb922_b : b ≠ nb922 := Nat.ne_of_lt (Nat.lt_of_lt_of_le f916.lt S922)
  have nenb922_va : va ≠ nb922 := Nat.ne_of_lt (Nat.lt_of_lt_of_le f921.lt S922)
  have sznb922 : h0.size ≤ nb922 := Nat.le_trans f911.1 S922
  have f923 := f911.trans K922 all0
  have f924 := f912.keep K922
  have f925 := f913.keep K922 nin0
  have f926 := f914.keep K922 nin0
  have f927 := f915.keep K922 all0
  have f928 := f916.keep K922
  have f929 := f917.keep K922 nin0
  have f930 := f918.keep K922 nin0
  have f931 := f919.keep K922 nin0
  have f932 := f920.keep K922 nin0
  have f933 := f921.keep K922 nin0
  have zs922 : n0 ≤ h922.size := Nat.le_trans f910 K922.1
  show Go p e below s n0 _ _ _ (T922.setTop (mkF m 94 _ [(.ref nb922), (.ref t)]))
  refine g_putF X922 hx hZ hown (wat hw 20 rfl) Via.refl f925 f924 (Or.inr ⟨(wat hw 16 rfl), rfl, hnm⟩) (wat hw 1 rfl) (ty := (.array .byte)) (by decide) rfl rfl hgt (pc' := 97) rfl (hD hby d20_94) (fun T934 h934 X934 W934 => ?_)
  have f935 := (by have q := (Keep.of_wr W934).1; exact Nat.le_trans zs922 q : n0 ≤ h934.size)
  have f936 := f923.wr W934 (Or.inl (List.mem_of_getElem? (i := 0) rfl))
  have f937 := f924.wr W934
  have f938 := f925.same W934
  have f939 := f926.other W934 (Or.inr (slot_ne (Or.inr (wat hw 17 rfl)) (Or.inr (wat hw 16 rfl)) (by decide) (t := .byte) (t' := (.array .byte)) (by decide) (by decide)))
  have f940 := f927.wr W934 hgt
  have f941 := f928.wr W934
  have f942 := f929.other W934 (Or.inl n_t_b.symm)
  have f943 := f930.other W934 (Or.inl n_t_b.symm)
  have f944 := f931.other W934 (Or.inl n_t_b.symm)
  have f945 := f932.other W934 (Or.inl n_t_b.symm)
  have f946 := f933.other W934 nA902.symm
  have f947 := V922.other W934 nenb922_t.symm
  exact g_retV X934 hx hlk hret (hD hby d20_97) (by decide) (by decide) (Nat.le_refl _) (⟨rfl, f936, nb922, Gnb922, sznb922, f947, f938, f939⟩)
theorem rm19_1r (l : Launch) (Z : State) (a0 : Array Value) (hw : HW a0 Z) (ws : List Jvm.Cond) (n0 : Nat) (Ts : List String) (t b va : Addr) (zs : List Value) (cap' e' : Int32) (e9 : Nat) (c' : Int32) (cz : Int32) (h0 : Heap) (hn0 : n0 ≤ h0.size) (O2 : St0 Z (.int cz)) (hcz : ¬ cz = 0) (OLD : OldP Z n0 h0) (Eb : XSb Z h0 b) (Fbv : BV Z h0 b (.ref va)) (Fbc : BC Z h0 b (.int 1)) (Fbn : BN Z h0 b (.int c')) (Fbm : BM Z h0 b (.int 0)) (Av : AV Z h0 va .byte zs) (hcap : cap'.toInt = (zs.length : Int)) (he : e'.toInt = (e9 : Int)) (hm0 : ¬ e' < (0 : Int32)) (e16 : e' < cap') (e15 : ¬ e' = cap') (e18 : e9 ≤ 140) (e17 : e9 ≤ zs.length) (h21 : c' <<< ((1 : Int32) &&& 31) = e') (Et : XSt Z h0 t) (hgt : n0 ≤ t) (F_value : SV Z h0 t .null) (F_coder : SC Z h0 t (.int 0)) :
    Con l Z n0 Ts (Ts) (⟨"java/lang/String", "<init>", "(Ljava/lang/StringBuilder;)V"⟩ : MethodName) jdk_42_method_53_code 2 none ws ({ frames := 4, cells := 1, slots := 140, locals := 112 } : Room) #[(.ref t), (.ref b)] h0 (fun v h => v = none ∧ Keep h0 h [t] ∧ ∃ nb, n0 ≤ nb ∧ h0.size ≤ nb ∧ AV Z h nb .byte (zs.take e9) ∧ SV Z h t (.ref nb) ∧ SC Z h t (.int 1)) := by
  refine con_start (fr0 := fun m => mkF m 0 #[.val (.ref t), .val (.ref b)] []) ?_
  intro p e s m below meth c T0 hx hZ hby hml hown hnm hret hlk hsh XA
  have X0 := XA n0
  have hlow : n0 ≤ s.heap.size := by rw [hsh]; exact hn0
  replace hown : s.vm.findClass "java/lang/String" = some m.cls := hown
  replace hml : c.maxLocals = 2 := hml
  have nA948 : b ≠ va := own_neA Eb (wat hw 27 rfl) Av
  have n_t_b : t ≠ b := Exa.ne Et Eb (by decide)
  have nA949 : t ≠ va := own_neA Et (wat hw 1 rfl) Av
  refine g_aloadN X0 hx (pc' := 1) rfl (hD hby d19_0) rfl rfl ?_
  refine g_aloadN X0 hx (pc' := 2) rfl (hD hby d19_1) rfl rfl ?_
  refine g_aconst_null X0 hx (pc' := 3) rfl (hD hby d19_2) ?_
  refine g_callI X0 hx hZ hown rfl (wat hw 126 rfl) (wat hw 127 rfl) (wat hw 2 rfl) (wat hw 128 rfl) (by decide) (a := t) (rm20_1r l Z a0 hw [] n0 (Ts) t b va zs cap' e' e9 c' cz h0 hn0 O2 hcz OLD Eb Fbv Fbc Fbn Fbm Av hcap he hm0 e16 e15 e18 e17 h21 Et hgt F_value F_coder) pd_32 rfl rfl (pc' := 6) rfl (hD hby d19_3) (argsL := [(.ref b), .null]) (rest := []) rfl (W := 0) (fun v950 T950 h950 X950 hQ950 => ?_)
  obtain ⟨rfl, K950, nb950, Gnb950, S950, V950, FV950, FC950⟩ := hQ950
  have nenb950_t : t ≠ nb950 := Nat.ne_of_lt (Nat.lt_of_lt_of_le Et.lt S950)
  have nenb950_b : b ≠ nb950 := Nat.ne_of_lt (Nat.lt_of_lt_of_le Eb.lt S950)
  have nenb950_va : va ≠ nb950 := Nat.ne_of_lt (Nat.lt_of_lt_of_le Av.lt S950)
  have sznb950 : h0.size ≤ nb950 := Nat.le_trans (Keep.refl h0 [t]).1 S950
  have f951 := (Keep.refl h0 [t]).trans K950 (allS (Or.inl (List.mem_of_getElem? (i := 0) rfl)) all0)
  have f952 := Et.keep K950
  have f953 := OLD.keep K950 (allS hgt all0)
  have f954 := Eb.keep K950
  have f955 := Fbv.keep K950 (ninS n_t_b.symm nin0)
  have f956 := Fbc.keep K950 (ninS n_t_b.symm nin0)
  have f957 := Fbn.keep K950 (ninS n_t_b.symm nin0)
  have f958 := Fbm.keep K950 (ninS n_t_b.symm nin0)
  have f959 := Av.keep K950 (ninS nA949.symm nin0)
  have zs950 : n0 ≤ h950.size := Nat.le_trans hn0 K950.1
  show Go p e below s n0 _ _ _ (T950.setTop (mkF m 6 _ []))
  exact g_retV X950 hx hlk hret (hD hby d19_6) (by decide) (by decide) (Nat.le_refl _) (⟨rfl, f951, nb950, Gnb950, sznb950, V950, FV950, FC950⟩)
theorem rm18_1r (l : Launch) (Z : State) (a0 : Array Value) (hw : HW a0 Z) (ws : List Jvm.Cond) (n0 : Nat) (Ts : List String) (b va : Addr) (zs : List Value) (cap' e' : Int32) (e9 : Nat) (c' : Int32) (cz : Int32) (h0 : Heap) (hn0 : n0 ≤ h0.size) (O2 : St0 Z (.int cz)) (hcz : ¬ cz = 0) (OLD : OldP Z n0 h0) (Eb : XSb Z h0 b) (Fbv : BV Z h0 b (.ref va)) (Fbc : BC Z h0 b (.int 1)) (Fbn : BN Z h0 b (.int c')) (Fbm : BM Z h0 b (.int 0)) (Av : AV Z h0 va .byte zs) (hcap : cap'.toInt = (zs.length : Int)) (he : e'.toInt = (e9 : Int)) (hm0 : ¬ e' < (0 : Int32)) (e16 : e' < cap') (e15 : ¬ e' = cap') (e18 : e9 ≤ 140) (e17 : e9 ≤ zs.length) (h21 : c' <<< ((1 : Int32) &&& 31) = e') :
    Con l Z n0 Ts (Ts) (⟨"java/lang/StringBuilder", "toString", "()Ljava/lang/String;"⟩ : MethodName) jdk_67_method_42_code 1 (some (.object "java/lang/String")) ws ({ frames := 5, cells := 2, slots := 144, locals := 136 } : Room) #[(.ref b)] h0 (fun v h => ∃ t tb, v = some (.ref t) ∧ n0 ≤ t ∧ h0.size ≤ t ∧ n0 ≤ tb ∧ h0.size ≤ tb ∧ Keep h0 h [] ∧ XSt Z h t ∧ SV Z h t (.ref tb) ∧ SC Z h t (.int 1) ∧ AV Z h tb .byte (zs.take e9)) := by
  refine con_start (fr0 := fun m => mkF m 0 #[.val (.ref b)] []) ?_
  intro p e s m below meth c T0 hx hZ hby hml hown hnm hret hlk hsh XA
  have X0 := XA n0
  have hlow : n0 ≤ s.heap.size := by rw [hsh]; exact hn0
  replace hown : s.vm.findClass "java/lang/StringBuilder" = some m.cls := hown
  replace hml : c.maxLocals = 1 := hml
  have nA960 : b ≠ va := own_neA Eb (wat hw 27 rfl) Av
  refine g_newO X0 hx hZ hown (wat hw 122 rfl) (wat hw 1 rfl) (wat hw 2 rfl) (pc' := 3) rfl (hD hby d18_0) (by decide) (by decide) (fun T961 h961 a961 ha961 X961 E961 A961 D961 => ?_)
  have ne961_b : b ≠ a961 := by rw [ha961]; exact Nat.ne_of_lt Eb.lt
  have ne961_va : va ≠ a961 := by rw [ha961]; exact Nat.ne_of_lt Av.lt
  have f962 := Eb.ext E961
  have f963 := Fbv.ext E961
  have f964 := Fbc.ext E961
  have f965 := Fbn.ext E961
  have f966 := Fbm.ext E961
  have f967 := Av.ext E961
  have sz961 : h0.size ≤ a961 := by rw [ha961]; exact (Keep.refl h0 []).1
  have f968 := (Keep.refl h0 []).ext E961
  have G_a961 : n0 ≤ a961 := by rw [ha961]; exact hn0
  have Zs961 : n0 ≤ h961.size := Nat.le_trans hn0 E961.1
  have f969 := OLD.ext E961
  have F961_value : SV Z h961 a961 .null := D961 (Or.inr (wat hw 16 rfl)) (ty := (.array .byte)) (by decide)
  have F961_coder : SC Z h961 a961 (.int 0) := D961 (Or.inr (wat hw 17 rfl)) (ty := .byte) (by decide)
  refine g_dup X961 hx (pc' := 4) rfl (hD hby d18_3) rfl ?_
  refine g_aloadN X961 hx (pc' := 5) rfl (hD hby d18_4) rfl rfl ?_
  refine g_callI X961 hx hZ hown rfl (wat hw 123 rfl) (wat hw 124 rfl) (wat hw 2 rfl) (wat hw 125 rfl) (by decide) (a := a961) (rm19_1r l Z a0 hw [] n0 (Ts) a961 b va zs cap' e' e9 c' cz h961 Zs961 O2 hcz f969 f962 f963 f964 f965 f966 f967 hcap he hm0 e16 e15 e18 e17 h21 A961 G_a961 F961_value F961_coder) pd_33 rfl rfl (pc' := 8) rfl (hD hby d18_5) (argsL := [(.ref b)]) (rest := [(.ref a961)]) rfl (W := 1) (fun v970 T970 h970 X970 hQ970 => ?_)
  obtain ⟨rfl, K970, nb970, Gnb970, S970, V970, FV970, FC970⟩ := hQ970
  have nenb970_b : b ≠ nb970 := Nat.ne_of_lt (Nat.lt_of_lt_of_le f962.lt S970)
  have nenb970_va : va ≠ nb970 := Nat.ne_of_lt (Nat.lt_of_lt_of_le f967.lt S970)
  have nenb970_a961 : a961 ≠ nb970 := Nat.ne_of_lt (Nat.lt_of_lt_of_le A961.lt S970)
  have sznb970 : h0.size ≤ nb970 := Nat.le_trans f968.1 S970
  have f971 := f968.trans K970 (allS (Or.inr sz961) all0)
  have f972 := f969.keep K970 (allS G_a961 all0)
  have f973 := f962.keep K970
  have f974 := f963.keep K970 (ninS ne961_b nin0)
  have f975 := f964.keep K970 (ninS ne961_b nin0)
  have f976 := f965.keep K970 (ninS ne961_b nin0)
  have f977 := f966.keep K970 (ninS ne961_b nin0)
  have f978 := f967.keep K970 (ninS ne961_va nin0)
  have f979 := A961.keep K970
  have zs970 : n0 ≤ h970.size := Nat.le_trans Zs961 K970.1
  show Go p e below s n0 _ _ _ (T970.setTop (mkF m 8 _ [(.ref a961)]))
  exact g_ret X970 hx hlk hret rfl (Or.inr (Or.inr (Or.inr (Or.inr ⟨rfl, rfl, rfl⟩)))) (hD hby d18_8) (by decide) (by decide) (Nat.le_refl _) (⟨a961, nb970, rfl, G_a961, sz961, Gnb970, sznb970, f971, f979, FV970, FC970, V970⟩)
theorem rm20_1c (l : Launch) (Z : State) (a0 : Array Value) (hw : HW a0 Z) (ws : List Jvm.Cond) (n0 : Nat) (Ts : List String) (t b va : Addr) (zs : List Value) (cap' e' : Int32) (e9 : Nat) (c' : Int32) (cz : Int32) (h0 : Heap) (hn0 : n0 ≤ h0.size) (O2 : St0 Z (.int cz)) (hcz : ¬ cz = 0) (OLD : OldP Z n0 h0) (Eb : XSb Z h0 b) (Fbv : BV Z h0 b (.ref va)) (Fbc : BC Z h0 b (.int 1)) (Fbn : BN Z h0 b (.int c')) (Fbm : BM Z h0 b (.int 0)) (Av : AV Z h0 va .byte zs) (hcap : cap'.toInt = (zs.length : Int)) (he : e' = cap') (he9 : e9 = zs.length) (e18 : zs.length ≤ 140) (Ev : Exa Z h0 va "[B") (h21 : c' <<< ((1 : Int32) &&& 31) = e') (Et : XSt Z h0 t) (hgt : n0 ≤ t) (F_value : SV Z h0 t .null) (F_coder : SC Z h0 t (.int 0)) :
    Con l Z n0 Ts (Ts) (⟨"java/lang/String", "<init>", "(Ljava/lang/AbstractStringBuilder;Ljava/lang/Void;)V"⟩ : MethodName) jdk_42_method_150_code 5 none ws ({ frames := 3, cells := 1, slots := 140, locals := 88 } : Room) #[(.ref t), (.ref b), .null] h0 (fun v h => v = none ∧ Keep h0 h [t] ∧ ∃ nb, n0 ≤ nb ∧ h0.size ≤ nb ∧ AV Z h nb .byte (zs.take e9) ∧ SV Z h t (.ref nb) ∧ SC Z h t (.int 1)) := by
  refine con_start (fr0 := fun m => mkF m 0 #[.val (.ref t), .val (.ref b), .val .null, .unset, .unset] []) ?_
  intro p e s m below meth c T0 hx hZ hby hml hown hnm hret hlk hsh XA
  have X0 := XA n0
  have hlow : n0 ≤ s.heap.size := by rw [hsh]; exact hn0
  replace hown : s.vm.findClass "java/lang/String" = some m.cls := hown
  replace hml : c.maxLocals = 5 := hml
  have nA980 : b ≠ va := own_neA Eb (wat hw 27 rfl) Av
  have n_t_b : t ≠ b := Exa.ne Et Eb (by decide)
  have nA981 : t ≠ va := own_neA Et (wat hw 1 rfl) Av
  refine g_aloadN X0 hx (pc' := 1) rfl (hD hby d20_0) rfl rfl ?_
  refine g_initO X0 hx hZ hown (wat hw 11 rfl) (wat hw 12 rfl) (wat hw 13 rfl) (by rw [hml]; rfl) (pc' := 4) rfl (hD hby d20_1) (by decide) (W := 0) (Nat.le_of_eq rfl) (by decide) (fun T982 X982 => ?_)
  show Go p e below s n0 _ _ _ (T982.setTop (mkF m 4 _ []))
  refine g_aloadN X982 hx (pc' := 5) rfl (hD hby d20_4) rfl rfl ?_
  refine g_callV X982 hx hZ hown (wat hw 129 rfl) (wat hw 130 rfl) (wat hw 132 rfl) (wat hw 131 rfl) (wat hw 36 rfl) (wat hw 133 rfl) (by decide) (a := b) Eb (rm21 l Z a0 hw [] n0 (Ts) b va h0 hn0 Fbv) pd_31 rfl rfl (pc' := 8) rfl (hD hby d20_5) (argsL := []) (rest := []) rfl (W := 0) (fun v983 T983 h983 X983 hQ983 => ?_)
  obtain ⟨rfl, he983⟩ := hQ983
  rw [he983] at X983
  show Go p e below s n0 _ _ _ (T983.setTop (mkF m 8 _ [(.ref va)]))
  refine g_astoreN X983 hx (pc' := 9) rfl (hD hby d20_8) rfl (l' := #[.val (.ref t), .val (.ref b), .val .null, .val (.ref va), .unset]) rfl ?_
  refine g_aloadN X983 hx (pc' := 10) rfl (hD hby d20_9) rfl rfl ?_
  refine g_callVN X983 hx hZ hown (wat hw 134 rfl) (wat hw 135 rfl) (y' := ({ cls := "java/lang/AbstractStringBuilder", name := "ensureCapacityInternal", desc := "(I)V" } : Jvm.MethodName)) rfl (wat hw 90 rfl) (wat hw 137 rfl) (wat hw 138 rfl) (wat hw 28 rfl) (wat hw 139 rfl) (by decide) (a := b) Eb (rm22 l Z a0 hw [] n0 (Ts) b c' h0 hn0 Eb Fbn) pd_27 rfl rfl (pc' := 13) rfl (hD hby d20_10) (argsL := []) (rest := []) rfl (W := 0) (fun v984 T984 h984 X984 hQ984 => ?_)
  obtain ⟨rfl, he984⟩ := hQ984
  rw [he984] at X984
  show Go p e below s n0 _ _ _ (T984.setTop (mkF m 13 _ [(.int c')]))
  refine g_istore X984 hx (pc' := 15) rfl (hD hby d20_13) (l' := #[.val (.ref t), .val (.ref b), .val .null, .val (.ref va), .val (.int c')]) rfl ?_
  refine g_aloadN X984 hx (pc' := 16) rfl (hD hby d20_15) rfl rfl ?_
  refine g_callV X984 hx hZ hown (wat hw 142 rfl) (wat hw 143 rfl) (wat hw 145 rfl) (wat hw 144 rfl) (wat hw 36 rfl) (wat hw 146 rfl) (by decide) (a := b) Eb (rm24_1 l Z a0 hw [] n0 (Ts) b cz h0 hn0 O2 hcz OLD Fbc) pd_6 rfl rfl (pc' := 19) rfl (hD hby d20_16) (argsL := []) (rest := []) rfl (W := 0) (fun v985 T985 h985 X985 hQ985 => ?_)
  obtain ⟨rfl, he985⟩ := hQ985
  rw [he985] at X985
  show Go p e below s n0 _ _ _ (T985.setTop (mkF m 19 _ [(.int 0)]))
  refine g_ifY X985 hx (pcY := 41) (hD hby d20_19) (by decide) (by decide) (show (0 : Int32) = 0 from by decide) ?_
  refine g_getS X985 hx hZ hown (wat hw 84 rfl) Via.refl (Sta.ext OLD.2 O2) (pc' := 44) rfl (hD hby d20_41) (fun T986 X986 => ?_)
  refine g_ifN X986 hx (pcN := 47) (hD hby d20_44) rfl (show ¬ (cz = 0) from hcz) ?_
  refine g_aloadN X986 hx (pc' := 48) rfl (hD hby d20_47) rfl rfl ?_
  refine g_getF X986 hx hZ hown (wat hw 278 rfl) Via.refl Fbm (pc' := 51) rfl (hD hby d20_48) (fun T987 X987 => ?_)
  refine g_ifY X987 hx (pcY := 79) (hD hby d20_51) (by decide) (by decide) (show (0 : Int32) = 0 from by decide) ?_
  refine g_aloadN X987 hx (pc' := 80) rfl (hD hby d20_79) rfl rfl ?_
  refine g_iconst X987 hx (pc' := 81) (z := (1 : Int32)) rfl (hD hby d20_80) rfl ?_
  refine g_putF X987 hx hZ hown (wat hw 21 rfl) Via.refl F_coder Et (Or.inr ⟨(wat hw 17 rfl), rfl, hnm⟩) (wat hw 1 rfl) (ty := .byte) (by decide) rfl rfl hgt (pc' := 84) rfl (hD hby d20_81) (fun T988 h988 X988 W988 => ?_)
  have f989 := (by have q := (Keep.of_wr W988).1; exact Nat.le_trans hn0 q : n0 ≤ h988.size)
  have f990 := (Keep.refl h0 [t]).wr W988 (Or.inl (List.mem_of_getElem? (i := 0) rfl))
  have f991 := Et.wr W988
  have f992 := F_value.other W988 (Or.inr (slot_ne (Or.inr (wat hw 16 rfl)) (Or.inr (wat hw 17 rfl)) (by decide) (t := (.array .byte)) (t' := .byte) (by decide) (by decide)))
  have f993 := F_coder.same W988
  have f994 := OLD.wr W988 hgt
  have f995 := Eb.wr W988
  have f996 := Fbv.other W988 (Or.inl n_t_b.symm)
  have f997 := Fbc.other W988 (Or.inl n_t_b.symm)
  have f998 := Fbn.other W988 (Or.inl n_t_b.symm)
  have f999 := Fbm.other W988 (Or.inl n_t_b.symm)
  have f1000 := Av.other W988 nA981.symm
  have f1001 := Ev.wr W988
  refine g_aloadN X988 hx (pc' := 85) rfl (hD hby d20_84) rfl rfl ?_
  refine g_aloadN X988 hx (pc' := 86) rfl (hD hby d20_85) rfl rfl ?_
  refine g_iconst X988 hx (pc' := 87) (z := (0 : Int32)) rfl (hD hby d20_86) rfl ?_
  refine g_iload X988 hx (pc' := 89) rfl (hD hby d20_87) rfl ?_
  refine g_iconst X988 hx (pc' := 90) (z := (1 : Int32)) rfl (hD hby d20_89) rfl ?_
  refine g_ishl X988 hx (pc' := 91) rfl (hD hby d20_90) ?_
  refine g_normI (z := e') h21 ?_
  refine g_callS X988 hx hZ hown (wat hw 147 rfl) (wat hw 148 rfl) (wat hw 149 rfl) (wat hw 150 rfl) (by decide) (rm25_c l Z a0 hw [] n0 (Ts) va zs cap' e' e9 h988 f989 f1000 hcap he he9 e18 f1001) pd_30 rfl rfl (pc' := 94) rfl (hD hby d20_91) (argsL := [(.ref va), (.int 0), (.int e')]) (rest := [(.ref t)]) rfl (W := 1) (fun v1002 T1002 h1002 X1002 hQ1002 => ?_)
  obtain ⟨nb1002, rfl, Gnb1002, S1002, K1002, V1002⟩ := hQ1002
  have nenb1002_t : t ≠ nb1002 := Nat.ne_of_lt (Nat.lt_of_lt_of_le f991.lt S1002)
  have nenb1002_b : b ≠ nb1002 := Nat.ne_of_lt (Nat.lt_of_lt_of_le f995.lt S1002)
  have nenb1002_va : va ≠ nb1002 := Nat.ne_of_lt (Nat.lt_of_lt_of_le f1000.lt S1002)
  have sznb1002 : h0.size ≤ nb1002 := Nat.le_trans f990.1 S1002
  have f1003 := f990.trans K1002 all0
  have f1004 := f991.keep K1002
  have f1005 := f992.keep K1002 nin0
  have f1006 := f993.keep K1002 nin0
  have f1007 := f994.keep K1002 all0
  have f1008 := f995.keep K1002
  have f1009 := f996.keep K1002 nin0
  have f1010 := f997.keep K1002 nin0
  have f1011 := f998.keep K1002 nin0
  have f1012 := f999.keep K1002 nin0
  have f1013 := f1000.keep K1002 nin0
  have f1014 := f1001.keep K1002
  have zs1002 : n0 ≤ h1002.size := Nat.le_trans f989 K1002.1
  show Go p e below s n0 _ _ _ (T1002.setTop (mkF m 94 _ [(.ref nb1002), (.ref t)]))
  refine g_putF X1002 hx hZ hown (wat hw 20 rfl) Via.refl f1005 f1004 (Or.inr ⟨(wat hw 16 rfl), rfl, hnm⟩) (wat hw 1 rfl) (ty := (.array .byte)) (by decide) rfl rfl hgt (pc' := 97) rfl (hD hby d20_94) (fun T1015 h1015 X1015 W1015 => ?_)
  have f1016 := (by have q := (Keep.of_wr W1015).1; exact Nat.le_trans zs1002 q : n0 ≤ h1015.size)
  have f1017 := f1003.wr W1015 (Or.inl (List.mem_of_getElem? (i := 0) rfl))
  have f1018 := f1004.wr W1015
  have f1019 := f1005.same W1015
  have f1020 := f1006.other W1015 (Or.inr (slot_ne (Or.inr (wat hw 17 rfl)) (Or.inr (wat hw 16 rfl)) (by decide) (t := .byte) (t' := (.array .byte)) (by decide) (by decide)))
  have f1021 := f1007.wr W1015 hgt
  have f1022 := f1008.wr W1015
  have f1023 := f1009.other W1015 (Or.inl n_t_b.symm)
  have f1024 := f1010.other W1015 (Or.inl n_t_b.symm)
  have f1025 := f1011.other W1015 (Or.inl n_t_b.symm)
  have f1026 := f1012.other W1015 (Or.inl n_t_b.symm)
  have f1027 := f1013.other W1015 nA981.symm
  have f1028 := f1014.wr W1015
  have f1029 := V1002.other W1015 nenb1002_t.symm
  exact g_retV X1015 hx hlk hret (hD hby d20_97) (by decide) (by decide) (Nat.le_refl _) (⟨rfl, f1017, nb1002, Gnb1002, sznb1002, f1029, f1019, f1020⟩)
theorem rm19_1c (l : Launch) (Z : State) (a0 : Array Value) (hw : HW a0 Z) (ws : List Jvm.Cond) (n0 : Nat) (Ts : List String) (t b va : Addr) (zs : List Value) (cap' e' : Int32) (e9 : Nat) (c' : Int32) (cz : Int32) (h0 : Heap) (hn0 : n0 ≤ h0.size) (O2 : St0 Z (.int cz)) (hcz : ¬ cz = 0) (OLD : OldP Z n0 h0) (Eb : XSb Z h0 b) (Fbv : BV Z h0 b (.ref va)) (Fbc : BC Z h0 b (.int 1)) (Fbn : BN Z h0 b (.int c')) (Fbm : BM Z h0 b (.int 0)) (Av : AV Z h0 va .byte zs) (hcap : cap'.toInt = (zs.length : Int)) (he : e' = cap') (he9 : e9 = zs.length) (e18 : zs.length ≤ 140) (Ev : Exa Z h0 va "[B") (h21 : c' <<< ((1 : Int32) &&& 31) = e') (Et : XSt Z h0 t) (hgt : n0 ≤ t) (F_value : SV Z h0 t .null) (F_coder : SC Z h0 t (.int 0)) :
    Con l Z n0 Ts (Ts) (⟨"java/lang/String", "<init>", "(Ljava/lang/StringBuilder;)V"⟩ : MethodName) jdk_42_method_53_code 2 none ws ({ frames := 4, cells := 1, slots := 140, locals := 112 } : Room) #[(.ref t), (.ref b)] h0 (fun v h => v = none ∧ Keep h0 h [t] ∧ ∃ nb, n0 ≤ nb ∧ h0.size ≤ nb ∧ AV Z h nb .byte (zs.take e9) ∧ SV Z h t (.ref nb) ∧ SC Z h t (.int 1)) := by
  refine con_start (fr0 := fun m => mkF m 0 #[.val (.ref t), .val (.ref b)] []) ?_
  intro p e s m below meth c T0 hx hZ hby hml hown hnm hret hlk hsh XA
  have X0 := XA n0
  have hlow : n0 ≤ s.heap.size := by rw [hsh]; exact hn0
  replace hown : s.vm.findClass "java/lang/String" = some m.cls := hown
  replace hml : c.maxLocals = 2 := hml
  have nA1030 : b ≠ va := own_neA Eb (wat hw 27 rfl) Av
  have n_t_b : t ≠ b := Exa.ne Et Eb (by decide)
  have nA1031 : t ≠ va := own_neA Et (wat hw 1 rfl) Av
  refine g_aloadN X0 hx (pc' := 1) rfl (hD hby d19_0) rfl rfl ?_
  refine g_aloadN X0 hx (pc' := 2) rfl (hD hby d19_1) rfl rfl ?_
  refine g_aconst_null X0 hx (pc' := 3) rfl (hD hby d19_2) ?_
  refine g_callI X0 hx hZ hown rfl (wat hw 126 rfl) (wat hw 127 rfl) (wat hw 2 rfl) (wat hw 128 rfl) (by decide) (a := t) (rm20_1c l Z a0 hw [] n0 (Ts) t b va zs cap' e' e9 c' cz h0 hn0 O2 hcz OLD Eb Fbv Fbc Fbn Fbm Av hcap he he9 e18 Ev h21 Et hgt F_value F_coder) pd_32 rfl rfl (pc' := 6) rfl (hD hby d19_3) (argsL := [(.ref b), .null]) (rest := []) rfl (W := 0) (fun v1032 T1032 h1032 X1032 hQ1032 => ?_)
  obtain ⟨rfl, K1032, nb1032, Gnb1032, S1032, V1032, FV1032, FC1032⟩ := hQ1032
  have nenb1032_t : t ≠ nb1032 := Nat.ne_of_lt (Nat.lt_of_lt_of_le Et.lt S1032)
  have nenb1032_b : b ≠ nb1032 := Nat.ne_of_lt (Nat.lt_of_lt_of_le Eb.lt S1032)
  have nenb1032_va : va ≠ nb1032 := Nat.ne_of_lt (Nat.lt_of_lt_of_le Av.lt S1032)
  have sznb1032 : h0.size ≤ nb1032 := Nat.le_trans (Keep.refl h0 [t]).1 S1032
  have f1033 := (Keep.refl h0 [t]).trans K1032 (allS (Or.inl (List.mem_of_getElem? (i := 0) rfl)) all0)
  have f1034 := Et.keep K1032
  have f1035 := OLD.keep K1032 (allS hgt all0)
  have f1036 := Eb.keep K1032
  have f1037 := Fbv.keep K1032 (ninS n_t_b.symm nin0)
  have f1038 := Fbc.keep K1032 (ninS n_t_b.symm nin0)
  have f1039 := Fbn.keep K1032 (ninS n_t_b.symm nin0)
  have f1040 := Fbm.keep K1032 (ninS n_t_b.symm nin0)
  have f1041 := Av.keep K1032 (ninS nA1031.symm nin0)
  have f1042 := Ev.keep K1032
  have zs1032 : n0 ≤ h1032.size := Nat.le_trans hn0 K1032.1
  show Go p e below s n0 _ _ _ (T1032.setTop (mkF m 6 _ []))
  exact g_retV X1032 hx hlk hret (hD hby d19_6) (by decide) (by decide) (Nat.le_refl _) (⟨rfl, f1033, nb1032, Gnb1032, sznb1032, V1032, FV1032, FC1032⟩)
theorem rm18_1c (l : Launch) (Z : State) (a0 : Array Value) (hw : HW a0 Z) (ws : List Jvm.Cond) (n0 : Nat) (Ts : List String) (b va : Addr) (zs : List Value) (cap' e' : Int32) (e9 : Nat) (c' : Int32) (cz : Int32) (h0 : Heap) (hn0 : n0 ≤ h0.size) (O2 : St0 Z (.int cz)) (hcz : ¬ cz = 0) (OLD : OldP Z n0 h0) (Eb : XSb Z h0 b) (Fbv : BV Z h0 b (.ref va)) (Fbc : BC Z h0 b (.int 1)) (Fbn : BN Z h0 b (.int c')) (Fbm : BM Z h0 b (.int 0)) (Av : AV Z h0 va .byte zs) (hcap : cap'.toInt = (zs.length : Int)) (he : e' = cap') (he9 : e9 = zs.length) (e18 : zs.length ≤ 140) (Ev : Exa Z h0 va "[B") (h21 : c' <<< ((1 : Int32) &&& 31) = e') :
    Con l Z n0 Ts (Ts) (⟨"java/lang/StringBuilder", "toString", "()Ljava/lang/String;"⟩ : MethodName) jdk_67_method_42_code 1 (some (.object "java/lang/String")) ws ({ frames := 5, cells := 2, slots := 144, locals := 136 } : Room) #[(.ref b)] h0 (fun v h => ∃ t tb, v = some (.ref t) ∧ n0 ≤ t ∧ h0.size ≤ t ∧ n0 ≤ tb ∧ h0.size ≤ tb ∧ Keep h0 h [] ∧ XSt Z h t ∧ SV Z h t (.ref tb) ∧ SC Z h t (.int 1) ∧ AV Z h tb .byte (zs.take e9)) := by
  refine con_start (fr0 := fun m => mkF m 0 #[.val (.ref b)] []) ?_
  intro p e s m below meth c T0 hx hZ hby hml hown hnm hret hlk hsh XA
  have X0 := XA n0
  have hlow : n0 ≤ s.heap.size := by rw [hsh]; exact hn0
  replace hown : s.vm.findClass "java/lang/StringBuilder" = some m.cls := hown
  replace hml : c.maxLocals = 1 := hml
  have nA1043 : b ≠ va := own_neA Eb (wat hw 27 rfl) Av
  refine g_newO X0 hx hZ hown (wat hw 122 rfl) (wat hw 1 rfl) (wat hw 2 rfl) (pc' := 3) rfl (hD hby d18_0) (by decide) (by decide) (fun T1044 h1044 a1044 ha1044 X1044 E1044 A1044 D1044 => ?_)
  have ne1044_b : b ≠ a1044 := by rw [ha1044]; exact Nat.ne_of_lt Eb.lt
  have ne1044_va : va ≠ a1044 := by rw [ha1044]; exact Nat.ne_of_lt Av.lt
  have f1045 := Eb.ext E1044
  have f1046 := Fbv.ext E1044
  have f1047 := Fbc.ext E1044
  have f1048 := Fbn.ext E1044
  have f1049 := Fbm.ext E1044
  have f1050 := Av.ext E1044
  have f1051 := Ev.ext E1044
  have sz1044 : h0.size ≤ a1044 := by rw [ha1044]; exact (Keep.refl h0 []).1
  have f1052 := (Keep.refl h0 []).ext E1044
  have G_a1044 : n0 ≤ a1044 := by rw [ha1044]; exact hn0
  have Zs1044 : n0 ≤ h1044.size := Nat.le_trans hn0 E1044.1
  have f1053 := OLD.ext E1044
  have F1044_value : SV Z h1044 a1044 .null := D1044 (Or.inr (wat hw 16 rfl)) (ty := (.array .byte)) (by decide)
  have F1044_coder : SC Z h1044 a1044 (.int 0) := D1044 (Or.inr (wat hw 17 rfl)) (ty := .byte) (by decide)
  refine g_dup X1044 hx (pc' := 4) rfl (hD hby d18_3) rfl ?_
  refine g_aloadN X1044 hx (pc' := 5) rfl (hD hby d18_4) rfl rfl ?_
  refine g_callI X1044 hx hZ hown rfl (wat hw 123 rfl) (wat hw 124 rfl) (wat hw 2 rfl) (wat hw 125 rfl) (by decide) (a := a1044) (rm19_1c l Z a0 hw [] n0 (Ts) a1044 b va zs cap' e' e9 c' cz h1044 Zs1044 O2 hcz f1053 f1045 f1046 f1047 f1048 f1049 f1050 hcap he he9 e18 f1051 h21 A1044 G_a1044 F1044_value F1044_coder) pd_33 rfl rfl (pc' := 8) rfl (hD hby d18_5) (argsL := [(.ref b)]) (rest := [(.ref a1044)]) rfl (W := 1) (fun v1054 T1054 h1054 X1054 hQ1054 => ?_)
  obtain ⟨rfl, K1054, nb1054, Gnb1054, S1054, V1054, FV1054, FC1054⟩ := hQ1054
  have nenb1054_b : b ≠ nb1054 := Nat.ne_of_lt (Nat.lt_of_lt_of_le f1045.lt S1054)
  have nenb1054_va : va ≠ nb1054 := Nat.ne_of_lt (Nat.lt_of_lt_of_le f1050.lt S1054)
  have nenb1054_a1044 : a1044 ≠ nb1054 := Nat.ne_of_lt (Nat.lt_of_lt_of_le A1044.lt S1054)
  have sznb1054 : h0.size ≤ nb1054 := Nat.le_trans f1052.1 S1054
  have f1055 := f1052.trans K1054 (allS (Or.inr sz1044) all0)
  have f1056 := f1053.keep K1054 (allS G_a1044 all0)
  have f1057 := f1045.keep K1054
  have f1058 := f1046.keep K1054 (ninS ne1044_b nin0)
  have f1059 := f1047.keep K1054 (ninS ne1044_b nin0)
  have f1060 := f1048.keep K1054 (ninS ne1044_b nin0)
  have f1061 := f1049.keep K1054 (ninS ne1044_b nin0)
  have f1062 := f1050.keep K1054 (ninS ne1044_va nin0)
  have f1063 := f1051.keep K1054
  have f1064 := A1044.keep K1054
  have zs1054 : n0 ≤ h1054.size := Nat.le_trans Zs1044 K1054.1
  show Go p e below s n0 _ _ _ (T1054.setTop (mkF m 8 _ [(.ref a1044)]))
  exact g_ret X1054 hx hlk hret rfl (Or.inr (Or.inr (Or.inr (Or.inr ⟨rfl, rfl, rfl⟩)))) (hD hby d18_8) (by decide) (by decide) (Nat.le_refl _) (⟨a1044, nb1054, rfl, G_a1044, sz1044, Gnb1054, sznb1054, f1055, f1064, FV1054, FC1054, V1054⟩)
theorem own_neor {a va va' : Addr} {h : Heap} (h1 : a ≠ va) (h2 : a < h.size) (h3 : va' = va ∨ h.size ≤ va') : a ≠ va' := by
  rcases h3 with rfl | q
  · exact h1
  · exact Nat.ne_of_lt (Nat.lt_of_lt_of_le h2 q)
def Atm (Z : State) (h : Heap) (at9 : Addr) : Prop := ∃ sc scb ke keb, Exa Z h at9 "com/example/tenorbook/tenorbook/terms/AgreementTerm" ∧ Fld Z h at9 "com/example/tenorbook/tenorbook/terms/AgreementTerm" "section" "Ljava/lang/String;" (.ref sc) ∧ Fld Z h at9 "com/example/tenorbook/tenorbook/terms/AgreementTerm" "key" "Ljava/lang/String;" (.ref ke) ∧ XSt Z h sc ∧ SV Z h sc (.ref scb) ∧ SC Z h sc (.int 0) ∧ AV Z h scb .byte (L1 ([102, 97, 99, 105, 108, 105, 116, 121] : List Int32)) ∧ XSt Z h ke ∧ SV Z h ke (.ref keb) ∧ SC Z h ke (.int 0) ∧ AV Z h keb .byte (L1 ([105, 100] : List Int32))
theorem Atm.ext {Z : State} {h h' : Heap} {a : Addr} (F : Atm Z h a) (E : Ext h h') : Atm Z h' a := by
  obtain ⟨sc, scb, ke, keb, a1, a2, a3, a4, a5, a6, a7, a8, a9, b1, b2⟩ := F
  exact ⟨sc, scb, ke, keb, a1.ext E, a2.ext E, a3.ext E, a4.ext E, a5.ext E, a6.ext E, a7.ext E, a8.ext E, a9.ext E, b1.ext E, b2.ext E⟩
theorem rm9 (l : Launch) (Z : State) (a0 : Array Value) (hw : HW a0 Z) (ws : List Jvm.Cond) (n0 : Nat) (Ts : List String) (at9 : Addr) (cz : Int32) (h0 : Heap) (hn0 : n0 ≤ h0.size) (hcw : Jvm.Lit.compactW.before a0 Z = true) (hkc : ∀ q ∈ consts_1, Jvm.Lit.constHeld Z q.1 q.2) (O2 : St0 Z (.int cz)) (hcz : ¬ cz = 0) (OLD : OldP Z n0 h0) (hT1 : "[" ∉ Ts) (hT2 : "] " ∉ Ts) (AM : Atm Z h0 at9) :
    Con l Z n0 Ts ("] " :: "[" :: Ts) (⟨"com/example/tenorbook/tenorbook/terms/AgreementTerm", "toString", "()Ljava/lang/String;"⟩ : MethodName) prog_51_method_6_code 1 (some (.object "java/lang/String")) ws ({ frames := 6, cells := 8, slots := 184, locals := 168 } : Room) #[(.ref at9)] h0 (fun v h => ∃ t tb, v = some (.ref t) ∧ n0 ≤ t ∧ h0.size ≤ t ∧ n0 ≤ tb ∧ h0.size ≤ tb ∧ Keep h0 h [] ∧ XSt Z h t ∧ SV Z h t (.ref tb) ∧ SC Z h t (.int 0) ∧ AV Z h tb .byte (L1 ([91, 102, 97, 99, 105, 108, 105, 116, 121, 93, 32, 105, 100] : List Int32))) := by
  refine con_start (fr0 := fun m => mkF m 0 #[.val (.ref at9)] []) ?_
  intro p e s m below meth c T0 hx hZ hby hml hown hnm hret hlk hsh XA
  have X0 := XA s.heap.size
  have hlow : n0 ≤ s.heap.size := by rw [hsh]; exact hn0
  replace hown : s.vm.findClass "com/example/tenorbook/tenorbook/terms/AgreementTerm" = some m.cls := hown
  replace hml : c.maxLocals = 1 := hml
  have OLD1 := OLD.up hlow
  obtain ⟨sc, scb, ke, keb, Ea, Fs, Fk, Esc, Vsc, Csc, Asc, Eke, Vke, Cke, Ake⟩ := AM
  refine g_newO X0 hx hZ hown (wat hw 61 rfl) (wat hw 27 rfl) (wat hw 28 rfl) (pc' := 3) rfl (hD hby d9_0) (by decide) (by decide) (fun T1065 h1065 a1065 ha1065 X1065 E1065 A1065 D1065 => ?_)
  have ne1065_at9 : at9 ≠ a1065 := by rw [ha1065]; exact Nat.ne_of_lt Ea.lt
  have ne1065_sc : sc ≠ a1065 := by rw [ha1065]; exact Nat.ne_of_lt Esc.lt
  have ne1065_scb : scb ≠ a1065 := by rw [ha1065]; exact Nat.ne_of_lt Asc.lt
  have ne1065_ke : ke ≠ a1065 := by rw [ha1065]; exact Nat.ne_of_lt Eke.lt
  have ne1065_keb : keb ≠ a1065 := by rw [ha1065]; exact Nat.ne_of_lt Ake.lt
  have f1066 := Ea.ext E1065
  have f1067 := Fs.ext E1065
  have f1068 := Fk.ext E1065
  have f1069 := Esc.ext E1065
  have f1070 := Vsc.ext E1065
  have f1071 := Csc.ext E1065
  have f1072 := Asc.ext E1065
  have f1073 := Eke.ext E1065
  have f1074 := Vke.ext E1065
  have f1075 := Cke.ext E1065
  have f1076 := Ake.ext E1065
  have sz1065 : h0.size ≤ a1065 := by rw [ha1065]; exact (Keep.refl h0 []).1
  have f1077 := (Keep.refl h0 []).ext E1065
  have G_a1065 : s.heap.size ≤ a1065 := by rw [ha1065]; exact (Nat.le_of_eq (congrArg Array.size hsh))
  have Zs1065 : s.heap.size ≤ h1065.size := Nat.le_trans (Nat.le_of_eq (congrArg Array.size hsh)) E1065.1
  have f1078 := OLD1.ext E1065
  have F1065_value : BV Z h1065 a1065 .null := D1065 (Or.inl (wat hw 41 rfl)) (ty := (.array .byte)) (by decide)
  have F1065_coder : BC Z h1065 a1065 (.int 0) := D1065 (Or.inl (wat hw 43 rfl)) (ty := .byte) (by decide)
  have F1065_count : BN Z h1065 a1065 (.int 0) := D1065 (Or.inl (wat hw 86 rfl)) (ty := .int) (by decide)
  have F1065_maybeLatin1 : BM Z h1065 a1065 (.int 0) := D1065 (Or.inl (wat hw 279 rfl)) (ty := .boolean) (by decide)
  refine g_dup X1065 hx (pc' := 4) rfl (hD hby d9_3) rfl ?_
  refine g_callI X1065 hx hZ hown rfl (wat hw 62 rfl) (wat hw 30 rfl) (wat hw 28 rfl) (wat hw 31 rfl) (by decide) (a := a1065) (rm5 l Z a0 hw [] s.heap.size (Ts) a1065 cz h1065 Zs1065 O2 hcz f1078 A1065 G_a1065 F1065_value F1065_coder F1065_count F1065_maybeLatin1) pd_24 rfl rfl (pc' := 7) rfl (hD hby d9_4) (argsL := []) (rest := [(.ref a1065)]) rfl (W := 1) (fun v1079 T1079 h1079 X1079 hQ1079 => ?_)
  obtain ⟨rfl, K1079, va1079, Gva1079, S1079, V1079, FV1079, FC1079, FN1079, FM1079⟩ := hQ1079
  have neva1079_at9 : at9 ≠ va1079 := Nat.ne_of_lt (Nat.lt_of_lt_of_le f1066.lt S1079)
  have neva1079_sc : sc ≠ va1079 := Nat.ne_of_lt (Nat.lt_of_lt_of_le f1069.lt S1079)
  have neva1079_scb : scb ≠ va1079 := Nat.ne_of_lt (Nat.lt_of_lt_of_le f1072.lt S1079)
  have neva1079_ke : ke ≠ va1079 := Nat.ne_of_lt (Nat.lt_of_lt_of_le f1073.lt S1079)
  have neva1079_keb : keb ≠ va1079 := Nat.ne_of_lt (Nat.lt_of_lt_of_le f1076.lt S1079)
  have neva1079_a1065 : a1065 ≠ va1079 := Nat.ne_of_lt (Nat.lt_of_lt_of_le A1065.lt S1079)
  have szva1079 : h0.size ≤ va1079 := Nat.le_trans f1077.1 S1079
  have f1080 := f1077.trans K1079 (allS (Or.inr sz1065) all0)
  have f1081 := f1078.keep K1079 (allS G_a1065 all0)
  have f1082 := f1066.keep K1079
  have f1083 := f1067.keep K1079 (ninS ne1065_at9 nin0)
  have f1084 := f1068.keep K1079 (ninS ne1065_at9 nin0)
  have f1085 := f1069.keep K1079
  have f1086 := f1070.keep K1079 (ninS ne1065_sc nin0)
  have f1087 := f1071.keep K1079 (ninS ne1065_sc nin0)
  have f1088 := f1072.keep K1079 (ninS ne1065_scb nin0)
  have f1089 := f1073.keep K1079
  have f1090 := f1074.keep K1079 (ninS ne1065_ke nin0)
  have f1091 := f1075.keep K1079 (ninS ne1065_ke nin0)
  have f1092 := f1076.keep K1079 (ninS ne1065_keb nin0)
  have f1093 := A1065.keep K1079
  have zs1079 : s.heap.size ≤ h1079.size := Nat.le_trans Zs1065 K1079.1
  show Go p e below s n0 _ _ _ (T1079.setTop (mkF m 7 _ [(.ref a1065)]))
  have hLz1094 : (List.replicate 16 (Value.int 0) : List Value).length = 16 := rfl
  have hPz1094 : (List.replicate 16 (Value.int 0) : List Value).take ([] : List Int32).length = L1 [] := rfl
  refine g_ldcS X1079 hx hZ hown (wat hw 63 rfl) (own_wS hw) (fun b cl q => by rw [hsh]; exact OLD.2.2 b cl q) hT1 (hkc ("com/example/tenorbook/tenorbook/terms/AgreementTerm", 71) (by simp [consts_1])) hcw (vs := [.int 91]) ⟨by decide, rfl⟩ (by decide) (pc' := 9) rfl (hD hby d9_7) (n := 4) (by decide) (by decide) (by decide) (by decide) (fun T1095 h1095 a1095 b1095 XX1095 E1095 EX1095 FC1095 FV1095 AB1095 WH1095 => ?_)
  have X1095 := XX1095
  have nea1095_a1065 : a1065 ≠ a1095 := by rcases WH1095 with q | q; exact (Nat.ne_of_lt (Nat.lt_of_lt_of_le q.1 G_a1065)).symm; exact Nat.ne_of_lt (Nat.lt_of_lt_of_le f1093.lt q.1)
  have neb1095_a1065 : a1065 ≠ b1095 := by rcases WH1095 with q | q; exact (Nat.ne_of_lt (Nat.lt_of_lt_of_le q.2 G_a1065)).symm; exact Nat.ne_of_lt (Nat.lt_of_lt_of_le f1093.lt q.2)
  have nea1095_va1079 : va1079 ≠ a1095 := by rcases WH1095 with q | q; exact (Nat.ne_of_lt (Nat.lt_of_lt_of_le q.1 Gva1079)).symm; exact Nat.ne_of_lt (Nat.lt_of_lt_of_le V1079.lt q.1)
  have neb1095_va1079 : va1079 ≠ b1095 := by rcases WH1095 with q | q; exact (Nat.ne_of_lt (Nat.lt_of_lt_of_le q.2 Gva1079)).symm; exact Nat.ne_of_lt (Nat.lt_of_lt_of_le V1079.lt q.2)
  have f1096 := f1082.ext E1095
  have f1097 := f1083.ext E1095
  have f1098 := f1084.ext E1095
  have f1099 := f1085.ext E1095
  have f1100 := f1086.ext E1095
  have f1101 := f1087.ext E1095
  have f1102 := f1088.ext E1095
  have f1103 := f1089.ext E1095
  have f1104 := f1090.ext E1095
  have f1105 := f1091.ext E1095
  have f1106 := f1092.ext E1095
  have f1107 := f1093.ext E1095
  have f1108 := V1079.ext E1095
  have f1109 := FV1079.ext E1095
  have f1110 := FC1079.ext E1095
  have f1111 := FN1079.ext E1095
  have f1112 := FM1079.ext E1095
  have f1113 := f1080.ext E1095
  have Zs1095 : s.heap.size ≤ h1095.size := Nat.le_trans zs1079 E1095.1
  have f1114 := f1081.ext E1095
  show Go p e below s n0 _ _ _ (T1095.setTop (mkF m 9 _ [(.ref a1095), (.ref a1065)]))
  have L1115 : AV Z h1095 b1095 .byte (L1 ([91] : List Int32)) := by rw [show L1 ([91] : List Int32) = [.int 91] from by decide +kernel]; exact AB1095
  refine g_callV X1095 hx hZ hown (wat hw 64 rfl) (wat hw 65 rfl) (wat hw 67 rfl) (wat hw 66 rfl) (wat hw 28 rfl) (wat hw 68 rfl) (by decide) (a := a1065) f1107 (rm10_P l Z a0 hw [] s.heap.size ("[" :: Ts) a1065 va1079 a1095 b1095 (List.replicate 16 (Value.int 0)) ([] : List Int32) ([91] : List Int32) (0 : Int32) (1 : Int32) (2 : Int32) (1 : Int32) (16 : Int32) (16 : Int32) (-15 : Int32) cz h1095 Zs1095 O2 hcz f1114 f1107 G_a1065 f1109 f1110 f1111 f1112 f1108 Gva1079 neb1095_va1079.symm EX1095 FV1095 FC1095 L1115 (by decide) hPz1094 (by rw [hLz1094]; exact (show (0 : Nat) ≤ 16 by decide)) rfl rfl rfl (by decide) (by decide) (by rw [hLz1094]; rfl) (by decide) (by decide) (by decide) (by rw [hLz1094]; exact (show (1 : Nat) ≤ 16 by decide))) pd_34 rfl rfl (pc' := 12) rfl (hD hby d9_9) (argsL := [(.ref a1095)]) (rest := []) rfl (W := 0) (fun v1116 T1116 h1116 X1116 hQ1116 => ?_)
  obtain ⟨rfl, K1116, vb1116, zz1116, or1116, Gvb1116, V1116, hl1116, hp1116, FV1116, FC1116, FN1116, FM1116⟩ := hQ1116
  have nevb1116_at9 : at9 ≠ vb1116 := own_neor neva1079_at9 f1096.lt or1116
  have nevb1116_sc : sc ≠ vb1116 := own_neor neva1079_sc f1099.lt or1116
  have nevb1116_scb : scb ≠ vb1116 := own_neor neva1079_scb f1102.lt or1116
  have nevb1116_ke : ke ≠ vb1116 := own_neor neva1079_ke f1103.lt or1116
  have nevb1116_keb : keb ≠ vb1116 := own_neor neva1079_keb f1106.lt or1116
  have nevb1116_a1065 : a1065 ≠ vb1116 := own_neor neva1079_a1065 f1107.lt or1116
  have skvb1116 : h0.size ≤ vb1116 := by rcases or1116 with q | q; rw [q]; exact szva1079; exact Nat.le_trans f1113.1 q
  have f1117 := f1113.trans K1116 (allS (Or.inr sz1065) (allS (Or.inr szva1079) all0))
  have f1118 := f1114.keep K1116 (allS G_a1065 (allS Gva1079 all0))
  have f1119 := f1096.keep K1116
  have f1120 := f1097.keep K1116 (ninS ne1065_at9 (ninS neva1079_at9 nin0))
  have f1121 := f1098.keep K1116 (ninS ne1065_at9 (ninS neva1079_at9 nin0))
  have f1122 := f1099.keep K1116
  have f1123 := f1100.keep K1116 (ninS ne1065_sc (ninS neva1079_sc nin0))
  have f1124 := f1101.keep K1116 (ninS ne1065_sc (ninS neva1079_sc nin0))
  have f1125 := f1102.keep K1116 (ninS ne1065_scb (ninS neva1079_scb nin0))
  have f1126 := f1103.keep K1116
  have f1127 := f1104.keep K1116 (ninS ne1065_ke (ninS neva1079_ke nin0))
  have f1128 := f1105.keep K1116 (ninS ne1065_ke (ninS neva1079_ke nin0))
  have f1129 := f1106.keep K1116 (ninS ne1065_keb (ninS neva1079_keb nin0))
  have f1130 := f1107.keep K1116
  have zs1116 : s.heap.size ≤ h1116.size := Nat.le_trans Zs1095 K1116.1
  have hL1116 : zz1116.length = 16 := hl1116.trans hLz1094
  have hP1116 : zz1116.take (([91] : List Int32).length) = L1 ([91] : List Int32) := hp1116
  show Go p e below s n0 _ _ _ (T1116.setTop (mkF m 12 _ [(.ref a1065)]))
  refine g_aloadN X1116 hx (pc' := 13) rfl (hD hby d9_12) rfl rfl ?_
  refine g_getF X1116 hx hZ hown (wat hw 112 rfl) Via.refl f1120 (pc' := 16) rfl (hD hby d9_13) (fun T1131 X1131 => ?_)
  refine g_callV X1131 hx hZ hown (wat hw 64 rfl) (wat hw 65 rfl) (wat hw 67 rfl) (wat hw 66 rfl) (wat hw 28 rfl) (wat hw 68 rfl) (by decide) (a := a1065) f1130 (rm10_P l Z a0 hw [] s.heap.size ("[" :: Ts) a1065 vb1116 sc scb zz1116 ([91] : List Int32) ([102, 97, 99, 105, 108, 105, 116, 121] : List Int32) (1 : Int32) (8 : Int32) (16 : Int32) (9 : Int32) (16 : Int32) (16 : Int32) (-7 : Int32) cz h1116 zs1116 O2 hcz f1118 f1130 G_a1065 FV1116 FC1116 FN1116 FM1116 V1116 Gvb1116 nevb1116_scb f1122 f1123 f1124 f1125 (by decide) hP1116 (by rw [hL1116]; exact (show (1 : Nat) ≤ 16 by decide)) rfl rfl rfl (by decide) (by decide) (by rw [hL1116]; rfl) (by decide) (by decide) (by decide) (by rw [hL1116]; exact (show (9 : Nat) ≤ 16 by decide))) pd_34 rfl rfl (pc' := 19) rfl (hD hby d9_16) (argsL := [(.ref sc)]) (rest := []) rfl (W := 0) (fun v1132 T1132 h1132 X1132 hQ1132 => ?_)
  obtain ⟨rfl, K1132, vb1132, zz1132, or1132, Gvb1132, V1132, hl1132, hp1132, FV1132, FC1132, FN1132, FM1132⟩ := hQ1132
  have nevb1132_at9 : at9 ≠ vb1132 := own_neor nevb1116_at9 f1119.lt or1132
  have nevb1132_ke : ke ≠ vb1132 := own_neor nevb1116_ke f1126.lt or1132
  have nevb1132_keb : keb ≠ vb1132 := own_neor nevb1116_keb f1129.lt or1132
  have nevb1132_a1065 : a1065 ≠ vb1132 := own_neor nevb1116_a1065 f1130.lt or1132
  have skvb1132 : h0.size ≤ vb1132 := by rcases or1132 with q | q; rw [q]; exact skvb1116; exact Nat.le_trans f1117.1 q
  have f1133 := f1117.trans K1132 (allS (Or.inr sz1065) (allS (Or.inr skvb1116) all0))
  have f1134 := f1118.keep K1132 (allS G_a1065 (allS Gvb1116 all0))
  have f1135 := f1119.keep K1132
  have f1136 := f1120.keep K1132 (ninS ne1065_at9 (ninS nevb1116_at9 nin0))
  have f1137 := f1121.keep K1132 (ninS ne1065_at9 (ninS nevb1116_at9 nin0))
  have f1138 := f1126.keep K1132
  have f1139 := f1127.keep K1132 (ninS ne1065_ke (ninS nevb1116_ke nin0))
  have f1140 := f1128.keep K1132 (ninS ne1065_ke (ninS nevb1116_ke nin0))
  have f1141 := f1129.keep K1132 (ninS ne1065_keb (ninS nevb1116_keb nin0))
  have f1142 := f1130.keep K1132
  have zs1132 : s.heap.size ≤ h1132.size := Nat.le_trans zs1116 K1132.1
  have hL1132 : zz1132.length = 16 := hl1132.trans hL1116
  have hP1132 : zz1132.take (([91, 102, 97, 99, 105, 108, 105, 116, 121] : List Int32).length) = L1 ([91, 102, 97, 99, 105, 108, 105, 116, 121] : List Int32) := hp1132
  show Go p e below s n0 _ _ _ (T1132.setTop (mkF m 19 _ [(.ref a1065)]))
  refine g_ldcS X1132 hx hZ hown (wat hw 114 rfl) (own_wS hw) (fun b cl q => by rw [hsh]; exact OLD.2.2 b cl q) (own_nm1 (by decide) hT2) (hkc ("com/example/tenorbook/tenorbook/terms/AgreementTerm", 77) (by simp [consts_1])) hcw (vs := [.int 93, .int 32]) ⟨by decide, rfl⟩ (by decide) (pc' := 21) rfl (hD hby d9_19) (n := 8) (by decide) (by decide) (by decide) (by decide) (fun T1143 h1143 a1143 b1143 XX1143 E1143 EX1143 FC1143 FV1143 AB1143 WH1143 => ?_)
  have X1143 := XX1143
  have nea1143_a1065 : a1065 ≠ a1143 := by rcases WH1143 with q | q; exact (Nat.ne_of_lt (Nat.lt_of_lt_of_le q.1 G_a1065)).symm; exact Nat.ne_of_lt (Nat.lt_of_lt_of_le f1142.lt q.1)
  have neb1143_a1065 : a1065 ≠ b1143 := by rcases WH1143 with q | q; exact (Nat.ne_of_lt (Nat.lt_of_lt_of_le q.2 G_a1065)).symm; exact Nat.ne_of_lt (Nat.lt_of_lt_of_le f1142.lt q.2)
  have nea1143_vb1132 : vb1132 ≠ a1143 := by rcases WH1143 with q | q; exact (Nat.ne_of_lt (Nat.lt_of_lt_of_le q.1 Gvb1132)).symm; exact Nat.ne_of_lt (Nat.lt_of_lt_of_le V1132.lt q.1)
  have neb1143_vb1132 : vb1132 ≠ b1143 := by rcases WH1143 with q | q; exact (Nat.ne_of_lt (Nat.lt_of_lt_of_le q.2 Gvb1132)).symm; exact Nat.ne_of_lt (Nat.lt_of_lt_of_le V1132.lt q.2)
  have f1144 := f1135.ext E1143
  have f1145 := f1136.ext E1143
  have f1146 := f1137.ext E1143
  have f1147 := f1138.ext E1143
  have f1148 := f1139.ext E1143
  have f1149 := f1140.ext E1143
  have f1150 := f1141.ext E1143
  have f1151 := f1142.ext E1143
  have f1152 := V1132.ext E1143
  have f1153 := FV1132.ext E1143
  have f1154 := FC1132.ext E1143
  have f1155 := FN1132.ext E1143
  have f1156 := FM1132.ext E1143
  have f1157 := f1133.ext E1143
  have Zs1143 : s.heap.size ≤ h1143.size := Nat.le_trans zs1132 E1143.1
  have f1158 := f1134.ext E1143
  show Go p e below s n0 _ _ _ (T1143.setTop (mkF m 21 _ [(.ref a1143), (.ref a1065)]))
  have L1159 : AV Z h1143 b1143 .byte (L1 ([93, 32] : List Int32)) := by rw [show L1 ([93, 32] : List Int32) = [.int 93, .int 32] from by decide +kernel]; exact AB1143
  refine g_callV X1143 hx hZ hown (wat hw 64 rfl) (wat hw 65 rfl) (wat hw 67 rfl) (wat hw 66 rfl) (wat hw 28 rfl) (wat hw 68 rfl) (by decide) (a := a1065) f1151 (rm10_P l Z a0 hw [] s.heap.size ("] " :: "[" :: Ts) a1065 vb1132 a1143 b1143 zz1132 ([91, 102, 97, 99, 105, 108, 105, 116, 121] : List Int32) ([93, 32] : List Int32) (9 : Int32) (2 : Int32) (4 : Int32) (11 : Int32) (16 : Int32) (16 : Int32) (-5 : Int32) cz h1143 Zs1143 O2 hcz f1158 f1151 G_a1065 f1153 f1154 f1155 f1156 f1152 Gvb1132 neb1143_vb1132.symm EX1143 FV1143 FC1143 L1159 (by decide) hP1132 (by rw [hL1132]; exact (show (9 : Nat) ≤ 16 by decide)) rfl rfl rfl (by decide) (by decide) (by rw [hL1132]; rfl) (by decide) (by decide) (by decide) (by rw [hL1132]; exact (show (11 : Nat) ≤ 16 by decide))) pd_34 rfl rfl (pc' := 24) rfl (hD hby d9_21) (argsL := [(.ref a1143)]) (rest := []) rfl (W := 0) (fun v1160 T1160 h1160 X1160 hQ1160 => ?_)
  obtain ⟨rfl, K1160, vb1160, zz1160, or1160, Gvb1160, V1160, hl1160, hp1160, FV1160, FC1160, FN1160, FM1160⟩ := hQ1160
  have nevb1160_at9 : at9 ≠ vb1160 := own_neor nevb1132_at9 f1144.lt or1160
  have nevb1160_ke : ke ≠ vb1160 := own_neor nevb1132_ke f1147.lt or1160
  have nevb1160_keb : keb ≠ vb1160 := own_neor nevb1132_keb f1150.lt or1160
  have nevb1160_a1065 : a1065 ≠ vb1160 := own_neor nevb1132_a1065 f1151.lt or1160
  have skvb1160 : h0.size ≤ vb1160 := by rcases or1160 with q | q; rw [q]; exact skvb1132; exact Nat.le_trans f1157.1 q
  have f1161 := f1157.trans K1160 (allS (Or.inr sz1065) (allS (Or.inr skvb1132) all0))
  have f1162 := f1158.keep K1160 (allS G_a1065 (allS Gvb1132 all0))
  have f1163 := f1144.keep K1160
  have f1164 := f1145.keep K1160 (ninS ne1065_at9 (ninS nevb1132_at9 nin0))
  have f1165 := f1146.keep K1160 (ninS ne1065_at9 (ninS nevb1132_at9 nin0))
  have f1166 := f1147.keep K1160
  have f1167 := f1148.keep K1160 (ninS ne1065_ke (ninS nevb1132_ke nin0))
  have f1168 := f1149.keep K1160 (ninS ne1065_ke (ninS nevb1132_ke nin0))
  have f1169 := f1150.keep K1160 (ninS ne1065_keb (ninS nevb1132_keb nin0))
  have f1170 := f1151.keep K1160
  have zs1160 : s.heap.size ≤ h1160.size := Nat.le_trans Zs1143 K1160.1
  have hL1160 : zz1160.length = 16 := hl1160.trans hL1132
  have hP1160 : zz1160.take (([91, 102, 97, 99, 105, 108, 105, 116, 121, 93, 32] : List Int32).length) = L1 ([91, 102, 97, 99, 105, 108, 105, 116, 121, 93, 32] : List Int32) := hp1160
  show Go p e below s n0 _ _ _ (T1160.setTop (mkF m 24 _ [(.ref a1065)]))
  refine g_aloadN X1160 hx (pc' := 25) rfl (hD hby d9_24) rfl rfl ?_
  refine g_getF X1160 hx hZ hown (wat hw 115 rfl) Via.refl f1165 (pc' := 28) rfl (hD hby d9_25) (fun T1171 X1171 => ?_)
  refine g_callV X1171 hx hZ hown (wat hw 64 rfl) (wat hw 65 rfl) (wat hw 67 rfl) (wat hw 66 rfl) (wat hw 28 rfl) (wat hw 68 rfl) (by decide) (a := a1065) f1170 (rm10_P l Z a0 hw [] s.heap.size ("] " :: "[" :: Ts) a1065 vb1160 ke keb zz1160 ([91, 102, 97, 99, 105, 108, 105, 116, 121, 93, 32] : List Int32) ([105, 100] : List Int32) (11 : Int32) (2 : Int32) (4 : Int32) (13 : Int32) (16 : Int32) (16 : Int32) (-3 : Int32) cz h1160 zs1160 O2 hcz f1162 f1170 G_a1065 FV1160 FC1160 FN1160 FM1160 V1160 Gvb1160 nevb1160_keb f1166 f1167 f1168 f1169 (by decide) hP1160 (by rw [hL1160]; exact (show (11 : Nat) ≤ 16 by decide)) rfl rfl rfl (by decide) (by decide) (by rw [hL1160]; rfl) (by decide) (by decide) (by decide) (by rw [hL1160]; exact (show (13 : Nat) ≤ 16 by decide))) pd_34 rfl rfl (pc' := 31) rfl (hD hby d9_28) (argsL := [(.ref ke)]) (rest := []) rfl (W := 0) (fun v1172 T1172 h1172 X1172 hQ1172 => ?_)
  obtain ⟨rfl, K1172, vb1172, zz1172, or1172, Gvb1172, V1172, hl1172, hp1172, FV1172, FC1172, FN1172, FM1172⟩ := hQ1172
  have nevb1172_at9 : at9 ≠ vb1172 := own_neor nevb1160_at9 f1163.lt or1172
  have nevb1172_a1065 : a1065 ≠ vb1172 := own_neor nevb1160_a1065 f1170.lt or1172
  have skvb1172 : h0.size ≤ vb1172 := by rcases or1172 with q | q; rw [q]; exact skvb1160; exact Nat.le_trans f1161.1 q
  have f1173 := f1161.trans K1172 (allS (Or.inr sz1065) (allS (Or.inr skvb1160) all0))
  have f1174 := f1162.keep K1172 (allS G_a1065 (allS Gvb1160 all0))
  have f1175 := f1163.keep K1172
  have f1176 := f1164.keep K1172 (ninS ne1065_at9 (ninS nevb1160_at9 nin0))
  have f1177 := f1165.keep K1172 (ninS ne1065_at9 (ninS nevb1160_at9 nin0))
  have f1178 := f1170.keep K1172
  have zs1172 : s.heap.size ≤ h1172.size := Nat.le_trans zs1160 K1172.1
  have hL1172 : zz1172.length = 16 := hl1172.trans hL1160
  have hP1172 : zz1172.take (([91, 102, 97, 99, 105, 108, 105, 116, 121, 93, 32, 105, 100] : List Int32).length) = L1 ([91, 102, 97, 99, 105, 108, 105, 116, 121, 93, 32, 105, 100] : List Int32) := hp1172
  show Go p e below s n0 _ _ _ (T1172.setTop (mkF m 31 _ [(.ref a1065)]))
  refine g_callV X1172 hx hZ hown (wat hw 117 rfl) (wat hw 118 rfl) (wat hw 120 rfl) (wat hw 119 rfl) (wat hw 28 rfl) (wat hw 121 rfl) (by decide) (a := a1065) f1178 (rm18_0r l Z a0 hw [] s.heap.size ("] " :: "[" :: Ts) a1065 vb1172 zz1172 (16 : Int32) (13 : Int32) 13 (13 : Int32) cz h1172 zs1172 O2 hcz f1174 f1178 FV1172 FC1172 FN1172 FM1172 V1172 (by rw [hL1172]; rfl) rfl (by decide) (by decide) (by decide) (by decide) (by rw [hL1172]; decide) (by decide)) pd_35 rfl rfl (pc' := 34) rfl (hD hby d9_31) (argsL := []) (rest := []) rfl (W := 0) (fun v1179 T1179 h1179 X1179 hQ1179 => ?_)
  obtain ⟨t1179, tb1179, rfl, Gt1179, S1179, Gtb1179, SB1179, K1179, E1179, FV1179, FC1179, VV1179⟩ := hQ1179
  have net1179_at9 : at9 ≠ t1179 := Nat.ne_of_lt (Nat.lt_of_lt_of_le f1175.lt S1179)
  have net1179_a1065 : a1065 ≠ t1179 := Nat.ne_of_lt (Nat.lt_of_lt_of_le f1178.lt S1179)
  have net1179_vb1172 : vb1172 ≠ t1179 := Nat.ne_of_lt (Nat.lt_of_lt_of_le V1172.lt S1179)
  have szt1179 : h0.size ≤ t1179 := Nat.le_trans f1173.1 S1179
  have netb1179_at9 : at9 ≠ tb1179 := Nat.ne_of_lt (Nat.lt_of_lt_of_le f1175.lt SB1179)
  have netb1179_a1065 : a1065 ≠ tb1179 := Nat.ne_of_lt (Nat.lt_of_lt_of_le f1178.lt SB1179)
  have netb1179_vb1172 : vb1172 ≠ tb1179 := Nat.ne_of_lt (Nat.lt_of_lt_of_le V1172.lt SB1179)
  have sztb1179 : h0.size ≤ tb1179 := Nat.le_trans f1173.1 SB1179
  have f1180 := f1173.trans K1179 all0
  have f1181 := f1174.keep K1179 all0
  have f1182 := f1175.keep K1179
  have f1183 := f1176.keep K1179 nin0
  have f1184 := f1177.keep K1179 nin0
  have f1185 := f1178.keep K1179
  have f1186 := V1172.keep K1179 nin0
  have f1187 := FV1172.keep K1179 nin0
  have f1188 := FC1172.keep K1179 nin0
  have f1189 := FN1172.keep K1179 nin0
  have f1190 := FM1172.keep K1179 nin0
  have zs1179 : s.heap.size ≤ h1179.size := Nat.le_trans zs1172 K1179.1
  have V1179 : AV Z h1179 tb1179 .byte (L1 ([91, 102, 97, 99, 105, 108, 105, 116, 121, 93, 32, 105, 100] : List Int32)) := by rw [← hP1172]; exact VV1179
  show Go p e below s n0 _ _ _ (T1179.setTop (mkF m 34 _ [(.ref t1179)]))
  exact g_ret X1179 hx hlk hret rfl (Or.inr (Or.inr (Or.inr (Or.inr ⟨rfl, rfl, rfl⟩)))) (hD hby d9_34) (by decide) (by decide) hlow (⟨t1179, tb1179, rfl, Nat.le_trans hlow Gt1179, szt1179, Nat.le_trans hlow Gtb1179, sztb1179, f1180, E1179, FV1179, FC1179, V1179⟩)
theorem own_atm {Z : State} {h : Heap} {a : Addr} (F : Atm Z h a) : Exa Z h a "com/example/tenorbook/tenorbook/terms/AgreementTerm" := by obtain ⟨_, _, _, _, q, -⟩ := F; exact q
theorem rm8 (l : Launch) (Z : State) (a0 : Array Value) (hw : HW a0 Z) (ws : List Jvm.Cond) (n0 : Nat) (Ts : List String) (at9 : Addr) (cz : Int32) (h0 : Heap) (hn0 : n0 ≤ h0.size) (hcw : Jvm.Lit.compactW.before a0 Z = true) (hkc : ∀ q ∈ consts_1, Jvm.Lit.constHeld Z q.1 q.2) (O2 : St0 Z (.int cz)) (hcz : ¬ cz = 0) (OLD : OldP Z n0 h0) (hT1 : "[" ∉ Ts) (hT2 : "] " ∉ Ts) (AM : Atm Z h0 at9) :
    Con l Z n0 Ts ("] " :: "[" :: Ts) (⟨"java/lang/String", "valueOf", "(Ljava/lang/Object;)Ljava/lang/String;"⟩ : MethodName) jdk_42_method_133_code 1 (some (.object "java/lang/String")) ws ({ frames := 7, cells := 8, slots := 184, locals := 184 } : Room) #[(.ref at9)] h0 (fun v h => ∃ t tb, v = some (.ref t) ∧ n0 ≤ t ∧ h0.size ≤ t ∧ n0 ≤ tb ∧ h0.size ≤ tb ∧ Keep h0 h [] ∧ XSt Z h t ∧ SV Z h t (.ref tb) ∧ SC Z h t (.int 0) ∧ AV Z h tb .byte (L1 ([91, 102, 97, 99, 105, 108, 105, 116, 121, 93, 32, 105, 100] : List Int32))) := by
  refine con_start (fr0 := fun m => mkF m 0 #[.val (.ref at9)] []) ?_
  intro p e s m below meth c T0 hx hZ hby hml hown hnm hret hlk hsh XA
  have X0 := XA n0
  have hlow : n0 ≤ s.heap.size := by rw [hsh]; exact hn0
  replace hown : s.vm.findClass "java/lang/String" = some m.cls := hown
  replace hml : c.maxLocals = 1 := hml
  refine g_aloadN X0 hx (pc' := 1) rfl (hD hby d8_0) rfl rfl ?_
  refine g_ifnonnullY X0 hx (pcY := 10) (hD hby d8_1) (by decide) (by decide) ?_
  refine g_aloadN X0 hx (pc' := 11) rfl (hD hby d8_10) rfl rfl ?_
  refine g_callVN X0 hx hZ hown (wat hw 55 rfl) (wat hw 56 rfl) (y' := ({ cls := "java/lang/Object", name := "clone", desc := "()Ljava/lang/Object;" } : Jvm.MethodName)) rfl (wat hw 188 rfl) (wat hw 58 rfl) (wat hw 59 rfl) (wat hw 45 rfl) (wat hw 60 rfl) (by decide) (a := at9) (own_atm AM) (rm9 l Z a0 hw [] n0 (Ts) at9 cz h0 hn0 hcw hkc O2 hcz OLD hT1 hT2 AM) pd_35 rfl rfl (pc' := 14) rfl (hD hby d8_11) (argsL := []) (rest := []) rfl (W := 0) (fun v1191 T1191 h1191 X1191 hQ1191 => ?_)
  have hq1191 := hQ1191
  obtain ⟨t1191, tb1191, rfl, Gt1191, S1191, Gtb1191, SB1191, K1191, E1191, FV1191, FC1191, V1191⟩ := hQ1191
  have net1191_at9 : at9 ≠ t1191 := Nat.ne_of_lt (Nat.lt_of_lt_of_le (own_atm AM).lt S1191)
  have szt1191 : h0.size ≤ t1191 := Nat.le_trans (Keep.refl h0 []).1 S1191
  have netb1191_at9 : at9 ≠ tb1191 := Nat.ne_of_lt (Nat.lt_of_lt_of_le (own_atm AM).lt SB1191)
  have sztb1191 : h0.size ≤ tb1191 := Nat.le_trans (Keep.refl h0 []).1 SB1191
  have f1192 := (Keep.refl h0 []).trans K1191 all0
  have f1193 := OLD.keep K1191 all0
  have f1194 := (own_atm AM).keep K1191
  have zs1191 : n0 ≤ h1191.size := Nat.le_trans hn0 K1191.1
  show Go p e below s n0 _ _ _ (T1191.setTop (mkF m 14 _ [(.ref t1191)]))
  exact g_ret X1191 hx hlk hret rfl (Or.inr (Or.inr (Or.inr (Or.inr ⟨rfl, rfl, rfl⟩)))) (hD hby d8_14) (by decide) (by decide) (Nat.le_refl _) (⟨t1191, tb1191, rfl, Gt1191, szt1191, Gtb1191, sztb1191, f1192, E1191, FV1191, FC1191, V1191⟩)
theorem rm7 (l : Launch) (Z : State) (a0 : Array Value) (hw : HW a0 Z) (ws : List Jvm.Cond) (n0 : Nat) (Ts : List String) (b va at9 : Addr) (cz : Int32) (h0 : Heap) (hn0 : n0 ≤ h0.size) (hcw : Jvm.Lit.compactW.before a0 Z = true) (hkc : ∀ q ∈ consts_1, Jvm.Lit.constHeld Z q.1 q.2) (O2 : St0 Z (.int cz)) (hcz : ¬ cz = 0) (OLD : OldP Z n0 h0) (hT1 : "[" ∉ Ts) (hT2 : "] " ∉ Ts) (Eb : XSb Z h0 b) (hgb : n0 ≤ b) (Fbv : BV Z h0 b (.ref va)) (Fbc : BC Z h0 b (.int 0)) (Fbn : BN Z h0 b (.int 0)) (Fbm : BM Z h0 b (.int 0)) (Av : AV Z h0 va .byte (List.replicate 16 (Value.int 0))) (hgv : n0 ≤ va) (AM : Atm Z h0 at9) :
    Con l Z n0 Ts ("] " :: "[" :: Ts) (⟨"java/lang/StringBuilder", "append", "(Ljava/lang/Object;)Ljava/lang/StringBuilder;"⟩ : MethodName) jdk_67_method_6_code 2 (some (.object "java/lang/StringBuilder")) ws ({ frames := 8, cells := 8, slots := 184, locals := 208 } : Room) #[(.ref b), (.ref at9)] h0 (fun v h => v = some (.ref b) ∧ Keep h0 h [b, va] ∧ ∃ va' zs', (va' = va ∨ h0.size ≤ va') ∧ n0 ≤ va' ∧ AV Z h va' .byte zs' ∧ zs'.length = 16 ∧ zs'.take ([91, 102, 97, 99, 105, 108, 105, 116, 121, 93, 32, 105, 100] : List Int32).length = L1 ([91, 102, 97, 99, 105, 108, 105, 116, 121, 93, 32, 105, 100] : List Int32) ∧ BV Z h b (.ref va') ∧ BC Z h b (.int 0) ∧ BN Z h b (.int 13) ∧ BM Z h b (.int 0)) := by
  refine con_start (fr0 := fun m => mkF m 0 #[.val (.ref b), .val (.ref at9)] []) ?_
  intro p e s m below meth c T0 hx hZ hby hml hown hnm hret hlk hsh XA
  have X0 := XA n0
  have hlow : n0 ≤ s.heap.size := by rw [hsh]; exact hn0
  replace hown : s.vm.findClass "java/lang/StringBuilder" = some m.cls := hown
  replace hml : c.maxLocals = 2 := hml
  have nA1195 : b ≠ va := own_neA Eb (wat hw 27 rfl) Av
  have hL0 : (List.replicate 16 (Value.int 0) : List Value).length = 16 := rfl
  have hP0 : (List.replicate 16 (Value.int 0) : List Value).take ([] : List Int32).length = L1 [] := rfl
  refine g_aloadN X0 hx (pc' := 1) rfl (hD hby d7_0) rfl rfl ?_
  refine g_aloadN X0 hx (pc' := 2) rfl (hD hby d7_1) rfl rfl ?_
  refine g_callS X0 hx hZ hown (wat hw 52 rfl) (wat hw 53 rfl) (wat hw 2 rfl) (wat hw 54 rfl) (by decide) (rm8 l Z a0 hw [] n0 (Ts) at9 cz h0 hn0 hcw hkc O2 hcz OLD hT1 hT2 AM) pd_36 rfl rfl (pc' := 5) rfl (hD hby d7_2) (argsL := [(.ref at9)]) (rest := [(.ref b)]) rfl (W := 1) (fun v1196 T1196 h1196 X1196 hQ1196 => ?_)
  have hq1196 := hQ1196
  obtain ⟨t1196, tb1196, rfl, Gt1196, S1196, Gtb1196, SB1196, K1196, E1196, FV1196, FC1196, V1196⟩ := hQ1196
  have net1196_b : b ≠ t1196 := Nat.ne_of_lt (Nat.lt_of_lt_of_le Eb.lt S1196)
  have net1196_va : va ≠ t1196 := Nat.ne_of_lt (Nat.lt_of_lt_of_le Av.lt S1196)
  have net1196_at9 : at9 ≠ t1196 := Nat.ne_of_lt (Nat.lt_of_lt_of_le (own_atm AM).lt S1196)
  have szt1196 : h0.size ≤ t1196 := Nat.le_trans (Keep.refl h0 [b, va]).1 S1196
  have netb1196_b : b ≠ tb1196 := Nat.ne_of_lt (Nat.lt_of_lt_of_le Eb.lt SB1196)
  have netb1196_va : va ≠ tb1196 := Nat.ne_of_lt (Nat.lt_of_lt_of_le Av.lt SB1196)
  have netb1196_at9 : at9 ≠ tb1196 := Nat.ne_of_lt (Nat.lt_of_lt_of_le (own_atm AM).lt SB1196)
  have sztb1196 : h0.size ≤ tb1196 := Nat.le_trans (Keep.refl h0 [b, va]).1 SB1196
  have f1197 := (Keep.refl h0 [b, va]).trans K1196 all0
  have f1198 := OLD.keep K1196 all0
  have f1199 := Eb.keep K1196
  have f1200 := Fbv.keep K1196 nin0
  have f1201 := Fbc.keep K1196 nin0
  have f1202 := Fbn.keep K1196 nin0
  have f1203 := Fbm.keep K1196 nin0
  have f1204 := Av.keep K1196 nin0
  have f1205 := (own_atm AM).keep K1196
  have zs1196 : n0 ≤ h1196.size := Nat.le_trans hn0 K1196.1
  show Go p e below s n0 _ _ _ (T1196.setTop (mkF m 5 _ [(.ref t1196), (.ref b)]))
  have K7 := f1197
  refine g_callV X1196 hx hZ hown (wat hw 162 rfl) (wat hw 65 rfl) (wat hw 67 rfl) (wat hw 66 rfl) (wat hw 28 rfl) (wat hw 68 rfl) (by decide) (a := b) f1199 (rm10_P l Z a0 hw [] n0 ("] " :: "[" :: Ts) b va t1196 tb1196 (List.replicate 16 (Value.int 0)) ([] : List Int32) ([91, 102, 97, 99, 105, 108, 105, 116, 121, 93, 32, 105, 100] : List Int32) (0 : Int32) (13 : Int32) (26 : Int32) (13 : Int32) (16 : Int32) (16 : Int32) (-3 : Int32) cz h1196 zs1196 O2 hcz f1198 f1199 hgb f1200 f1201 f1202 f1203 f1204 hgv netb1196_va.symm E1196 FV1196 FC1196 V1196 (by decide) hP0 (by rw [hL0]; exact (show (0 : Nat) ≤ 16 by decide)) rfl rfl rfl (by decide) (by decide) (by rw [hL0]; rfl) (by decide) (by decide) (by decide) (by rw [hL0]; exact (show (13 : Nat) ≤ 16 by decide))) pd_34 rfl rfl (pc' := 8) rfl (hD hby d7_5) (argsL := [(.ref t1196)]) (rest := []) rfl (W := 0) (fun v1206 T1206 h1206 X1206 hQ1206 => ?_)
  obtain ⟨rfl, K1206, vb1206, zz1206, or1206, Gvb1206, V1206, hl1206, hp1206, FV1206, FC1206, FN1206, FM1206⟩ := hQ1206
  have nevb1206_b : b ≠ vb1206 := own_neor nA1195 f1199.lt or1206
  have skvb1206 : vb1206 ∈ [b, va] ∨ h0.size ≤ vb1206 := by rcases or1206 with q | q; rw [q]; exact Or.inl (List.mem_of_getElem? (i := 1) rfl); exact Or.inr (Nat.le_trans f1197.1 q)
  have f1207 := f1197.trans K1206 (allS (Or.inl (List.mem_of_getElem? (i := 0) rfl)) (allS (Or.inl (List.mem_of_getElem? (i := 1) rfl)) all0))
  have f1208 := f1198.keep K1206 (allS hgb (allS hgv all0))
  have f1209 := f1199.keep K1206
  have f1210 := f1205.keep K1206
  have zs1206 : n0 ≤ h1206.size := Nat.le_trans zs1196 K1206.1
  have hL1206 : zz1206.length = 16 := hl1206.trans hL0
  have hP1206 : zz1206.take (([91, 102, 97, 99, 105, 108, 105, 116, 121, 93, 32, 105, 100] : List Int32).length) = L1 ([91, 102, 97, 99, 105, 108, 105, 116, 121, 93, 32, 105, 100] : List Int32) := hp1206
  show Go p e below s n0 _ _ _ (T1206.setTop (mkF m 8 _ [(.ref b)]))
  have or7 : vb1206 = va ∨ h0.size ≤ vb1206 := or1206.imp id (fun q => Nat.le_trans K7.1 q)
  exact g_ret X1206 hx hlk hret rfl (Or.inr (Or.inr (Or.inr (Or.inr ⟨rfl, rfl, rfl⟩)))) (hD hby d7_8) (by decide) (by decide) (Nat.le_refl _) (⟨rfl, f1207, vb1206, zz1206, or7, Gvb1206, V1206, hL1206, hP1206, FV1206, FC1206, FN1206, FM1206⟩)
theorem own_fa {P : Int32 → Prop} {a b c : List Int32} (ha : ∀ x ∈ a, P x) (hb : ∀ x ∈ b, P x) (hc : ∀ x ∈ c, P x) : ∀ x ∈ a ++ b ++ c, P x := fun x hx => by
  rcases List.mem_append.mp hx with q | q
  · rcases List.mem_append.mp q with q | q
    · exact ha x q
    · exact hb x q
  · exact hc x q
theorem own_cl {cs : List Int32} (h : cs.length ≤ 3) : cs = [] ∨ (∃ x0, cs = [x0]) ∨ (∃ x0 x1, cs = [x0, x1]) ∨ ∃ x0 x1 x2, cs = [x0, x1, x2] := by
  match cs, h with
  | [], _ => exact Or.inl rfl
  | [a], _ => exact Or.inr (Or.inl ⟨a, rfl⟩)
  | [a, b], _ => exact Or.inr (Or.inr (Or.inl ⟨a, b, rfl⟩))
  | [a, b, c], _ => exact Or.inr (Or.inr (Or.inr ⟨a, b, c, rfl⟩))
  | a :: b :: c :: d :: r, h => simp at h
theorem rm4 (l : Launch) (Z : State) (a0 : Array Value) (hw : HW a0 Z) (ws : List Jvm.Cond) (n0 : Nat) (Ts : List String) (ti at9 : Addr) (cs : List Int32) (fo : Value) (cz : Int32) (h0 : Heap) (hn0 : n0 ≤ h0.size) (hcw : Jvm.Lit.compactW.before a0 Z = true) (hkc : ∀ q ∈ consts_1, Jvm.Lit.constHeld Z q.1 q.2) (O4 : St1 Z fo) (hfo : fo.isRef = true) (U1 : St2 Z (.int 1)) (U2 : St3 Z (.int 0)) (U3 : St4 Z (.int 8)) (O2 : St0 Z (.int cz)) (hcz : ¬ cz = 0) (OLD : OldP Z n0 h0) (hT1 : "[" ∉ Ts) (hT2 : "] " ∉ Ts) (hT3 : " \"" ∉ Ts) (hT4 : "\" names two facilities" ∉ Ts) (SF : St5 Z (.ref at9)) (AM : Atm Z Z.heap at9) (S0 : StrC Z h0 ti cs) (hlen : cs.length ≤ 3) :
    Con l Z n0 Ts ("\" names two facilities" :: " \"" :: "] " :: "[" :: Ts) (⟨"com/example/tenorbook/tenorbook/terms/Agreement", "namesTwoFacilities", "(Ljava/lang/String;)Ljava/lang/String;"⟩ : MethodName) prog_49_method_2_code 1 (some (.object "java/lang/String")) ws ({ frames := 10, cells := 19, slots := 990, locals := 256 } : Room) #[(.ref ti)] h0 (fun v h => ∃ t, v = some (.ref t) ∧ n0 ≤ t ∧ Keep h0 h [] ∧ StrC Z h t (([91, 102, 97, 99, 105, 108, 105, 116, 121, 93, 32, 105, 100, 32, 34] : List Int32) ++ cs ++ ([34, 32, 110, 97, 109, 101, 115, 32, 116, 119, 111, 32, 102, 97, 99, 105, 108, 105, 116, 105, 101, 115] : List Int32))) := by
  refine con_start (fr0 := fun m => mkF m 0 #[.val (.ref ti)] []) ?_
  intro p e s m below meth c T0 hx hZ hby hml hown hnm hret hlk hsh XA
  have X0 := XA s.heap.size
  have hlow : n0 ≤ s.heap.size := by rw [hsh]; exact hn0
  replace hown : s.vm.findClass "com/example/tenorbook/tenorbook/terms/Agreement" = some m.cls := hown
  replace hml : c.maxLocals = 1 := hml
  have OLD1 := OLD.up hlow
  obtain ⟨Eti, tib, Vti, S1⟩ := S0
  refine g_newO X0 hx hZ hown (wat hw 26 rfl) (wat hw 27 rfl) (wat hw 28 rfl) (pc' := 3) rfl (hD hby d4_0) (by decide) (by decide) (fun T1211 h1211 a1211 ha1211 X1211 E1211 A1211 D1211 => ?_)
  have sz1211 : h0.size ≤ a1211 := by rw [ha1211]; exact (Keep.refl h0 []).1
  have f1212 := (Keep.refl h0 []).ext E1211
  have G_a1211 : s.heap.size ≤ a1211 := by rw [ha1211]; exact (Nat.le_of_eq (congrArg Array.size hsh))
  have Zs1211 : s.heap.size ≤ h1211.size := Nat.le_trans (Nat.le_of_eq (congrArg Array.size hsh)) E1211.1
  have f1213 := OLD1.ext E1211
  have F1211_value : BV Z h1211 a1211 .null := D1211 (Or.inl (wat hw 41 rfl)) (ty := (.array .byte)) (by decide)
  have F1211_coder : BC Z h1211 a1211 (.int 0) := D1211 (Or.inl (wat hw 43 rfl)) (ty := .byte) (by decide)
  have F1211_count : BN Z h1211 a1211 (.int 0) := D1211 (Or.inl (wat hw 86 rfl)) (ty := .int) (by decide)
  have F1211_maybeLatin1 : BM Z h1211 a1211 (.int 0) := D1211 (Or.inl (wat hw 279 rfl)) (ty := .boolean) (by decide)
  refine g_dup X1211 hx (pc' := 4) rfl (hD hby d4_3) rfl ?_
  refine g_callI X1211 hx hZ hown rfl (wat hw 29 rfl) (wat hw 30 rfl) (wat hw 28 rfl) (wat hw 31 rfl) (by decide) (a := a1211) (rm5 l Z a0 hw [] s.heap.size (Ts) a1211 cz h1211 Zs1211 O2 hcz f1213 A1211 G_a1211 F1211_value F1211_coder F1211_count F1211_maybeLatin1) pd_24 rfl rfl (pc' := 7) rfl (hD hby d4_4) (argsL := []) (rest := [(.ref a1211)]) rfl (W := 1) (fun v1214 T1214 h1214 X1214 hQ1214 => ?_)
  obtain ⟨rfl, K1214, va1214, Gva1214, S1214, V1214, FV1214, FC1214, FN1214, FM1214⟩ := hQ1214
  have neva1214_a1211 : a1211 ≠ va1214 := Nat.ne_of_lt (Nat.lt_of_lt_of_le A1211.lt S1214)
  have szva1214 : h0.size ≤ va1214 := Nat.le_trans f1212.1 S1214
  have f1215 := f1212.trans K1214 (allS (Or.inr sz1211) all0)
  have f1216 := f1213.keep K1214 (allS G_a1211 all0)
  have f1217 := A1211.keep K1214
  have zs1214 : s.heap.size ≤ h1214.size := Nat.le_trans Zs1211 K1214.1
  show Go p e below s n0 _ _ _ (T1214.setTop (mkF m 7 _ [(.ref a1211)]))
  have hLz1218 : (List.replicate 16 (Value.int 0) : List Value).length = 16 := rfl
  have hPz1218 : (List.replicate 16 (Value.int 0) : List Value).take ([] : List Int32).length = L1 [] := rfl
  refine g_getS X1214 hx hZ hown (wat hw 44 rfl) Via.refl (Sta.ext f1216.2 SF) (pc' := 10) rfl (hD hby d4_7) (fun T1219 X1219 => ?_)
  refine g_callV X1219 hx hZ hown (wat hw 47 rfl) (wat hw 48 rfl) (wat hw 50 rfl) (wat hw 49 rfl) (wat hw 28 rfl) (wat hw 51 rfl) (by decide) (a := a1211) f1217 (rm7 l Z a0 hw [] s.heap.size (Ts) a1211 va1214 at9 cz h1214 zs1214 hcw hkc O2 hcz f1216 hT1 hT2 f1217 G_a1211 FV1214 FC1214 FN1214 FM1214 V1214 Gva1214 (AM.ext f1216.2)) pd_37 rfl rfl (pc' := 13) rfl (hD hby d4_10) (argsL := [(.ref at9)]) (rest := []) rfl (W := 0) (fun v1220 T1220 h1220 X1220 hQ1220 => ?_)
  obtain ⟨rfl, K1220, vb1220, zz1220, or1220, Gvb1220, V1220, hL1220, hP1220, FV1220, FC1220, FN1220, FM1220⟩ := hQ1220
  have nevb1220_a1211 : a1211 ≠ vb1220 := own_neor neva1214_a1211 f1217.lt or1220
  have skvb1220 : h0.size ≤ vb1220 := by rcases or1220 with q | q; rw [q]; exact szva1214; exact Nat.le_trans f1215.1 q
  have f1221 := f1215.trans K1220 (allS (Or.inr sz1211) (allS (Or.inr szva1214) all0))
  have f1222 := f1216.keep K1220 (allS G_a1211 (allS Gva1214 all0))
  have f1223 := f1217.keep K1220
  have zs1220 : s.heap.size ≤ h1220.size := Nat.le_trans zs1214 K1220.1
  show Go p e below s n0 _ _ _ (T1220.setTop (mkF m 13 _ [(.ref a1211)]))
  refine g_ldcS X1220 hx hZ hown (wat hw 163 rfl) (own_wS hw) (fun b cl q => by rw [hsh]; exact OLD.2.2 b cl q) (own_nm2 (by decide) (by decide) hT3) (hkc ("com/example/tenorbook/tenorbook/terms/Agreement", 173) (by simp [consts_1])) hcw (vs := [.int 32, .int 34]) ⟨by decide, rfl⟩ (by decide) (pc' := 15) rfl (hD hby d4_13) (n := 8) (by decide) (by decide) (by decide) (by decide) (fun T1224 h1224 a1224 b1224 XX1224 E1224 EX1224 FC1224 FV1224 AB1224 WH1224 => ?_)
  have X1224 := XX1224
  have nea1224_a1211 : a1211 ≠ a1224 := by rcases WH1224 with q | q; exact (Nat.ne_of_lt (Nat.lt_of_lt_of_le q.1 G_a1211)).symm; exact Nat.ne_of_lt (Nat.lt_of_lt_of_le f1223.lt q.1)
  have neb1224_a1211 : a1211 ≠ b1224 := by rcases WH1224 with q | q; exact (Nat.ne_of_lt (Nat.lt_of_lt_of_le q.2 G_a1211)).symm; exact Nat.ne_of_lt (Nat.lt_of_lt_of_le f1223.lt q.2)
  have nea1224_vb1220 : vb1220 ≠ a1224 := by rcases WH1224 with q | q; exact (Nat.ne_of_lt (Nat.lt_of_lt_of_le q.1 Gvb1220)).symm; exact Nat.ne_of_lt (Nat.lt_of_lt_of_le V1220.lt q.1)
  have neb1224_vb1220 : vb1220 ≠ b1224 := by rcases WH1224 with q | q; exact (Nat.ne_of_lt (Nat.lt_of_lt_of_le q.2 Gvb1220)).symm; exact Nat.ne_of_lt (Nat.lt_of_lt_of_le V1220.lt q.2)
  have f1225 := f1223.ext E1224
  have f1226 := V1220.ext E1224
  have f1227 := FV1220.ext E1224
  have f1228 := FC1220.ext E1224
  have f1229 := FN1220.ext E1224
  have f1230 := FM1220.ext E1224
  have f1231 := f1221.ext E1224
  have Zs1224 : s.heap.size ≤ h1224.size := Nat.le_trans zs1220 E1224.1
  have f1232 := f1222.ext E1224
  show Go p e below s n0 _ _ _ (T1224.setTop (mkF m 15 _ [(.ref a1224), (.ref a1211)]))
  have L1233 : AV Z h1224 b1224 .byte (L1 ([32, 34] : List Int32)) := by rw [show L1 ([32, 34] : List Int32) = [.int 32, .int 34] from by decide +kernel]; exact AB1224
  refine g_callV X1224 hx hZ hown (wat hw 164 rfl) (wat hw 65 rfl) (wat hw 67 rfl) (wat hw 66 rfl) (wat hw 28 rfl) (wat hw 68 rfl) (by decide) (a := a1211) f1225 (rm10_P l Z a0 hw [] s.heap.size (" \"" :: "] " :: "[" :: Ts) a1211 vb1220 a1224 b1224 zz1220 ([91, 102, 97, 99, 105, 108, 105, 116, 121, 93, 32, 105, 100] : List Int32) ([32, 34] : List Int32) (13 : Int32) (2 : Int32) (4 : Int32) (15 : Int32) (16 : Int32) (16 : Int32) (-1 : Int32) cz h1224 Zs1224 O2 hcz f1232 f1225 G_a1211 f1227 f1228 f1229 f1230 f1226 Gvb1220 neb1224_vb1220.symm EX1224 FV1224 FC1224 L1233 (by decide) hP1220 (by rw [hL1220]; exact (show (13 : Nat) ≤ 16 by decide)) rfl rfl rfl (by decide) (by decide) (by rw [hL1220]; rfl) (by decide) (by decide) (by decide) (by rw [hL1220]; exact (show (15 : Nat) ≤ 16 by decide))) pd_34 rfl rfl (pc' := 18) rfl (hD hby d4_15) (argsL := [(.ref a1224)]) (rest := []) rfl (W := 0) (fun v1234 T1234 h1234 X1234 hQ1234 => ?_)
  obtain ⟨rfl, K1234, vb1234, zz1234, or1234, Gvb1234, V1234, hl1234, hp1234, FV1234, FC1234, FN1234, FM1234⟩ := hQ1234
  have nevb1234_a1211 : a1211 ≠ vb1234 := own_neor nevb1220_a1211 f1225.lt or1234
  have skvb1234 : h0.size ≤ vb1234 := by rcases or1234 with q | q; rw [q]; exact skvb1220; exact Nat.le_trans f1231.1 q
  have f1235 := f1231.trans K1234 (allS (Or.inr sz1211) (allS (Or.inr skvb1220) all0))
  have f1236 := f1232.keep K1234 (allS G_a1211 (allS Gvb1220 all0))
  have f1237 := f1225.keep K1234
  have zs1234 : s.heap.size ≤ h1234.size := Nat.le_trans Zs1224 K1234.1
  have hL1234 : zz1234.length = 16 := hl1234.trans hL1220
  have hP1234 : zz1234.take (([91, 102, 97, 99, 105, 108, 105, 116, 121, 93, 32, 105, 100, 32, 34] : List Int32).length) = L1 ([91, 102, 97, 99, 105, 108, 105, 116, 121, 93, 32, 105, 100, 32, 34] : List Int32) := hp1234
  show Go p e below s n0 _ _ _ (T1234.setTop (mkF m 18 _ [(.ref a1211)]))
  have hcl : cs = [] ∨ (∃ x0, cs = [x0]) ∨ (∃ x0 x1, cs = [x0, x1]) ∨ ∃ x0 x1 x2, cs = [x0, x1, x2] := own_cl hlen
  rcases S1 with ⟨Cti, Ati, hds⟩ | ⟨Cti, Ati, hds⟩
  · skip
    have E4 := Eti.keep f1235
    have V4 := Vti.keep f1235 nin0
    have C4 := Cti.keep f1235 nin0
    have A4 := Ati.keep f1235 nin0
    have n4 : tib ≠ vb1234 := Nat.ne_of_lt (Nat.lt_of_lt_of_le Ati.lt skvb1234)
    rcases hcl with rfl | ⟨x0, rfl⟩ | ⟨x0, x1, rfl⟩ | ⟨x0, x1, x2, rfl⟩
    · skip
      refine g_aloadN X1234 hx (pc' := 19) rfl (hD hby d4_18) rfl rfl ?_
      have nA1238 : a1211 ≠ tib := own_neA f1237 (wat hw 27 rfl) A4
      refine g_callV X1234 hx hZ hown (wat hw 164 rfl) (wat hw 65 rfl) (wat hw 67 rfl) (wat hw 66 rfl) (wat hw 28 rfl) (wat hw 68 rfl) (by decide) (a := a1211) f1237 (rm10_P l Z a0 hw [] s.heap.size (" \"" :: "] " :: "[" :: Ts) a1211 vb1234 ti tib zz1234 ([91, 102, 97, 99, 105, 108, 105, 116, 121, 93, 32, 105, 100, 32, 34] : List Int32) ([] : List Int32) (15 : Int32) (0 : Int32) (0 : Int32) (15 : Int32) (16 : Int32) (16 : Int32) (-1 : Int32) cz h1234 zs1234 O2 hcz f1236 f1237 G_a1211 FV1234 FC1234 FN1234 FM1234 V1234 Gvb1234 n4 E4 V4 C4 A4 hds hP1234 (by rw [hL1234]; exact (show (15 : Nat) ≤ 16 by decide)) rfl rfl rfl (by decide) (by decide) (by rw [hL1234]; rfl) (by decide) (by decide) (by decide) (by rw [hL1234]; exact (show (15 : Nat) ≤ 16 by decide))) pd_34 rfl rfl (pc' := 22) rfl (hD hby d4_19) (argsL := [(.ref ti)]) (rest := []) rfl (W := 0) (fun v1239 T1239 h1239 X1239 hQ1239 => ?_)
      obtain ⟨rfl, K1239, vb1239, zz1239, or1239, Gvb1239, V1239, hl1239, hp1239, FV1239, FC1239, FN1239, FM1239⟩ := hQ1239
      have nevb1239_a1211 : a1211 ≠ vb1239 := own_neor nevb1234_a1211 f1237.lt or1239
      have skvb1239 : h0.size ≤ vb1239 := by rcases or1239 with q | q; rw [q]; exact skvb1234; exact Nat.le_trans f1235.1 q
      have f1240 := f1235.trans K1239 (allS (Or.inr sz1211) (allS (Or.inr skvb1234) all0))
      have f1241 := f1236.keep K1239 (allS G_a1211 (allS Gvb1234 all0))
      have f1242 := f1237.keep K1239
      have zs1239 : s.heap.size ≤ h1239.size := Nat.le_trans zs1234 K1239.1
      have hL1239 : zz1239.length = 16 := hl1239.trans hL1234
      have hP1239 : zz1239.take (([91, 102, 97, 99, 105, 108, 105, 116, 121, 93, 32, 105, 100, 32, 34] : List Int32).length) = L1 ([91, 102, 97, 99, 105, 108, 105, 116, 121, 93, 32, 105, 100, 32, 34] : List Int32) := hp1239
      show Go p e below s n0 _ _ _ (T1239.setTop (mkF m 22 _ [(.ref a1211)]))
      refine g_ldcS X1239 hx hZ hown (wat hw 165 rfl) (own_wS hw) (fun b cl q => by rw [hsh]; exact OLD.2.2 b cl q) (own_nm3 (by decide) (by decide) (by decide) hT4) (hkc ("com/example/tenorbook/tenorbook/terms/Agreement", 175) (by simp [consts_1])) hcw (vs := [.int 34, .int 32, .int 110, .int 97, .int 109, .int 101, .int 115, .int 32, .int 116, .int 119, .int 111, .int 32, .int 102, .int 97, .int 99, .int 105, .int 108, .int 105, .int 116, .int 105, .int 101, .int 115]) ⟨by decide, rfl⟩ (by decide) (pc' := 24) rfl (hD hby d4_22) (n := 88) (by decide) (by decide) (by decide) (by decide) (fun T1243 h1243 a1243 b1243 XX1243 E1243 EX1243 FC1243 FV1243 AB1243 WH1243 => ?_)
      have X1243 := XX1243
      have nea1243_a1211 : a1211 ≠ a1243 := by rcases WH1243 with q | q; exact (Nat.ne_of_lt (Nat.lt_of_lt_of_le q.1 G_a1211)).symm; exact Nat.ne_of_lt (Nat.lt_of_lt_of_le f1242.lt q.1)
      have neb1243_a1211 : a1211 ≠ b1243 := by rcases WH1243 with q | q; exact (Nat.ne_of_lt (Nat.lt_of_lt_of_le q.2 G_a1211)).symm; exact Nat.ne_of_lt (Nat.lt_of_lt_of_le f1242.lt q.2)
      have nea1243_vb1239 : vb1239 ≠ a1243 := by rcases WH1243 with q | q; exact (Nat.ne_of_lt (Nat.lt_of_lt_of_le q.1 Gvb1239)).symm; exact Nat.ne_of_lt (Nat.lt_of_lt_of_le V1239.lt q.1)
      have neb1243_vb1239 : vb1239 ≠ b1243 := by rcases WH1243 with q | q; exact (Nat.ne_of_lt (Nat.lt_of_lt_of_le q.2 Gvb1239)).symm; exact Nat.ne_of_lt (Nat.lt_of_lt_of_le V1239.lt q.2)
      have f1244 := f1242.ext E1243
      have f1245 := V1239.ext E1243
      have f1246 := FV1239.ext E1243
      have f1247 := FC1239.ext E1243
      have f1248 := FN1239.ext E1243
      have f1249 := FM1239.ext E1243
      have f1250 := f1240.ext E1243
      have Zs1243 : s.heap.size ≤ h1243.size := Nat.le_trans zs1239 E1243.1
      have f1251 := f1241.ext E1243
      show Go p e below s n0 _ _ _ (T1243.setTop (mkF m 24 _ [(.ref a1243), (.ref a1211)]))
      have L1252 : AV Z h1243 b1243 .byte (L1 ([34, 32, 110, 97, 109, 101, 115, 32, 116, 119, 111, 32, 102, 97, 99, 105, 108, 105, 116, 105, 101, 115] : List Int32)) := by rw [show L1 ([34, 32, 110, 97, 109, 101, 115, 32, 116, 119, 111, 32, 102, 97, 99, 105, 108, 105, 116, 105, 101, 115] : List Int32) = [.int 34, .int 32, .int 110, .int 97, .int 109, .int 101, .int 115, .int 32, .int 116, .int 119, .int 111, .int 32, .int 102, .int 97, .int 99, .int 105, .int 108, .int 105, .int 116, .int 105, .int 101, .int 115] from by decide +kernel]; exact AB1243
      refine g_callV X1243 hx hZ hown (wat hw 164 rfl) (wat hw 65 rfl) (wat hw 67 rfl) (wat hw 66 rfl) (wat hw 28 rfl) (wat hw 68 rfl) (by decide) (a := a1211) f1244 (rm10_G l Z a0 hw [] s.heap.size ("\" names two facilities" :: " \"" :: "] " :: "[" :: Ts) a1211 vb1239 a1243 b1243 zz1239 ([91, 102, 97, 99, 105, 108, 105, 116, 121, 93, 32, 105, 100, 32, 34] : List Int32) ([34, 32, 110, 97, 109, 101, 115, 32, 116, 119, 111, 32, 102, 97, 99, 105, 108, 105, 116, 105, 101, 115] : List Int32) (15 : Int32) (22 : Int32) (44 : Int32) (37 : Int32) (16 : Int32) (16 : Int32) (21 : Int32) (37 : Int32) (21 : Int32) (18 : Int32) (21 : Int32) (37 : Int32) (37 : Int32) 37 cz h1243 Zs1243 O2 hcz f1251 f1244 G_a1211 f1246 f1247 f1248 f1249 f1245 Gvb1239 neb1243_vb1239.symm EX1243 FV1243 FC1243 L1252 (by decide) hP1239 (by rw [hL1239]; exact (show (15 : Nat) ≤ 16 by decide)) rfl rfl rfl (by decide) (by decide) (by rw [hL1239]; rfl) (by decide) (by decide) (by decide) (by decide) (by decide) (by decide) (by decide) (by decide) (by decide) (by decide) (by decide) (by decide) (by decide) rfl (by decide) (by decide) (by rw [hL1239]; decide) (by decide) (show (37 : Nat) ≤ 37 by decide)) pd_34 rfl rfl (pc' := 27) rfl (hD hby d4_24) (argsL := [(.ref a1243)]) (rest := []) rfl (W := 0) (fun v1253 T1253 h1253 X1253 hQ1253 => ?_)
      obtain ⟨rfl, K1253, vb1253, zz1253, or1253, Gvb1253, V1253, hl1253, hp1253, EX1253, FV1253, FC1253, FN1253, FM1253⟩ := hQ1253
      have nevb1253_a1211 : a1211 ≠ vb1253 := own_neor nevb1239_a1211 f1244.lt or1253
      have skvb1253 : h0.size ≤ vb1253 := by rcases or1253 with q | q; rw [q]; exact skvb1239; exact Nat.le_trans f1250.1 q
      have f1254 := f1250.trans K1253 (allS (Or.inr sz1211) (allS (Or.inr skvb1239) all0))
      have f1255 := f1251.keep K1253 (allS G_a1211 (allS Gvb1239 all0))
      have f1256 := f1244.keep K1253
      have zs1253 : s.heap.size ≤ h1253.size := Nat.le_trans Zs1243 K1253.1
      have hL1253 : zz1253.length = 37 := hl1253
      have hP1253 : zz1253.take (([91, 102, 97, 99, 105, 108, 105, 116, 121, 93, 32, 105, 100, 32, 34, 34, 32, 110, 97, 109, 101, 115, 32, 116, 119, 111, 32, 102, 97, 99, 105, 108, 105, 116, 105, 101, 115] : List Int32).length) = L1 ([91, 102, 97, 99, 105, 108, 105, 116, 121, 93, 32, 105, 100, 32, 34, 34, 32, 110, 97, 109, 101, 115, 32, 116, 119, 111, 32, 102, 97, 99, 105, 108, 105, 116, 105, 101, 115] : List Int32) := hp1253
      show Go p e below s n0 _ _ _ (T1253.setTop (mkF m 27 _ [(.ref a1211)]))
      refine g_callV X1253 hx hZ hown (wat hw 183 rfl) (wat hw 118 rfl) (wat hw 120 rfl) (wat hw 119 rfl) (wat hw 28 rfl) (wat hw 121 rfl) (by decide) (a := a1211) f1256 (rm18_0c l Z a0 hw [] s.heap.size ("\" names two facilities" :: " \"" :: "] " :: "[" :: Ts) a1211 vb1253 zz1253 (37 : Int32) (37 : Int32) 37 (37 : Int32) cz h1253 zs1253 O2 hcz f1255 f1256 FV1253 FC1253 FN1253 FM1253 V1253 (by rw [hL1253]; rfl) rfl hL1253.symm (by rw [hL1253]; decide) EX1253 (by decide)) pd_35 rfl rfl (pc' := 30) rfl (hD hby d4_27) (argsL := []) (rest := []) rfl (W := 0) (fun v1257 T1257 h1257 X1257 hQ1257 => ?_)
      obtain ⟨t1257, tb1257, rfl, Gt1257, S1257, Gtb1257, SB1257, K1257, E1257, FV1257, FC1257, VV1257⟩ := hQ1257
      have net1257_a1211 : a1211 ≠ t1257 := Nat.ne_of_lt (Nat.lt_of_lt_of_le f1256.lt S1257)
      have net1257_vb1253 : vb1253 ≠ t1257 := Nat.ne_of_lt (Nat.lt_of_lt_of_le V1253.lt S1257)
      have szt1257 : h0.size ≤ t1257 := Nat.le_trans f1254.1 S1257
      have netb1257_a1211 : a1211 ≠ tb1257 := Nat.ne_of_lt (Nat.lt_of_lt_of_le f1256.lt SB1257)
      have netb1257_vb1253 : vb1253 ≠ tb1257 := Nat.ne_of_lt (Nat.lt_of_lt_of_le V1253.lt SB1257)
      have sztb1257 : h0.size ≤ tb1257 := Nat.le_trans f1254.1 SB1257
      have f1258 := f1254.trans K1257 all0
      have f1259 := f1255.keep K1257 all0
      have f1260 := f1256.keep K1257
      have f1261 := V1253.keep K1257 nin0
      have f1262 := EX1253.keep K1257
      have f1263 := FV1253.keep K1257 nin0
      have f1264 := FC1253.keep K1257 nin0
      have f1265 := FN1253.keep K1257 nin0
      have f1266 := FM1253.keep K1257 nin0
      have zs1257 : s.heap.size ≤ h1257.size := Nat.le_trans zs1253 K1257.1
      have V1257 : AV Z h1257 tb1257 .byte (L1 ([91, 102, 97, 99, 105, 108, 105, 116, 121, 93, 32, 105, 100, 32, 34, 34, 32, 110, 97, 109, 101, 115, 32, 116, 119, 111, 32, 102, 97, 99, 105, 108, 105, 116, 105, 101, 115] : List Int32)) := by rw [← hP1253]; exact VV1257
      show Go p e below s n0 _ _ _ (T1257.setTop (mkF m 30 _ [(.ref t1257)]))
      exact g_ret X1257 hx hlk hret rfl (Or.inr (Or.inr (Or.inr (Or.inr ⟨rfl, rfl, rfl⟩)))) (hD hby d4_30) (by decide) (by decide) hlow (⟨t1257, rfl, Nat.le_trans hlow Gt1257, f1258, E1257, tb1257, FV1257, Or.inl ⟨FC1257, V1257, own_fa (a := ([91, 102, 97, 99, 105, 108, 105, 116, 121, 93, 32, 105, 100, 32, 34] : List Int32)) (b := ([] : List Int32)) (c := ([34, 32, 110, 97, 109, 101, 115, 32, 116, 119, 111, 32, 102, 97, 99, 105, 108, 105, 116, 105, 101, 115] : List Int32)) (by decide) hds (by decide)⟩⟩)
    · skip
      refine g_aloadN X1234 hx (pc' := 19) rfl (hD hby d4_18) rfl rfl ?_
      have nA1267 : a1211 ≠ tib := own_neA f1237 (wat hw 27 rfl) A4
      refine g_callV X1234 hx hZ hown (wat hw 164 rfl) (wat hw 65 rfl) (wat hw 67 rfl) (wat hw 66 rfl) (wat hw 28 rfl) (wat hw 68 rfl) (by decide) (a := a1211) f1237 (rm10_P l Z a0 hw [] s.heap.size (" \"" :: "] " :: "[" :: Ts) a1211 vb1234 ti tib zz1234 ([91, 102, 97, 99, 105, 108, 105, 116, 121, 93, 32, 105, 100, 32, 34] : List Int32) ([x0] : List Int32) (15 : Int32) (1 : Int32) (2 : Int32) (16 : Int32) (16 : Int32) (16 : Int32) (0 : Int32) cz h1234 zs1234 O2 hcz f1236 f1237 G_a1211 FV1234 FC1234 FN1234 FM1234 V1234 Gvb1234 n4 E4 V4 C4 A4 hds hP1234 (by rw [hL1234]; exact (show (15 : Nat) ≤ 16 by decide)) rfl rfl rfl (by decide) (by decide) (by rw [hL1234]; rfl) (by decide) (by decide) (by decide) (by rw [hL1234]; exact (show (16 : Nat) ≤ 16 by decide))) pd_34 rfl rfl (pc' := 22) rfl (hD hby d4_19) (argsL := [(.ref ti)]) (rest := []) rfl (W := 0) (fun v1268 T1268 h1268 X1268 hQ1268 => ?_)
      obtain ⟨rfl, K1268, vb1268, zz1268, or1268, Gvb1268, V1268, hl1268, hp1268, FV1268, FC1268, FN1268, FM1268⟩ := hQ1268
      have nevb1268_a1211 : a1211 ≠ vb1268 := own_neor nevb1234_a1211 f1237.lt or1268
      have skvb1268 : h0.size ≤ vb1268 := by rcases or1268 with q | q; rw [q]; exact skvb1234; exact Nat.le_trans f1235.1 q
      have f1269 := f1235.trans K1268 (allS (Or.inr sz1211) (allS (Or.inr skvb1234) all0))
      have f1270 := f1236.keep K1268 (allS G_a1211 (allS Gvb1234 all0))
      have f1271 := f1237.keep K1268
      have zs1268 : s.heap.size ≤ h1268.size := Nat.le_trans zs1234 K1268.1
      have hL1268 : zz1268.length = 16 := hl1268.trans hL1234
      have hP1268 : zz1268.take (([91, 102, 97, 99, 105, 108, 105, 116, 121, 93, 32, 105, 100, 32, 34, x0] : List Int32).length) = L1 ([91, 102, 97, 99, 105, 108, 105, 116, 121, 93, 32, 105, 100, 32, 34, x0] : List Int32) := hp1268
      show Go p e below s n0 _ _ _ (T1268.setTop (mkF m 22 _ [(.ref a1211)]))
      refine g_ldcS X1268 hx hZ hown (wat hw 165 rfl) (own_wS hw) (fun b cl q => by rw [hsh]; exact OLD.2.2 b cl q) (own_nm3 (by decide) (by decide) (by decide) hT4) (hkc ("com/example/tenorbook/tenorbook/terms/Agreement", 175) (by simp [consts_1])) hcw (vs := [.int 34, .int 32, .int 110, .int 97, .int 109, .int 101, .int 115, .int 32, .int 116, .int 119, .int 111, .int 32, .int 102, .int 97, .int 99, .int 105, .int 108, .int 105, .int 116, .int 105, .int 101, .int 115]) ⟨by decide, rfl⟩ (by decide) (pc' := 24) rfl (hD hby d4_22) (n := 88) (by decide) (by decide) (by decide) (by decide) (fun T1272 h1272 a1272 b1272 XX1272 E1272 EX1272 FC1272 FV1272 AB1272 WH1272 => ?_)
      have X1272 := XX1272
      have nea1272_a1211 : a1211 ≠ a1272 := by rcases WH1272 with q | q; exact (Nat.ne_of_lt (Nat.lt_of_lt_of_le q.1 G_a1211)).symm; exact Nat.ne_of_lt (Nat.lt_of_lt_of_le f1271.lt q.1)
      have neb1272_a1211 : a1211 ≠ b1272 := by rcases WH1272 with q | q; exact (Nat.ne_of_lt (Nat.lt_of_lt_of_le q.2 G_a1211)).symm; exact Nat.ne_of_lt (Nat.lt_of_lt_of_le f1271.lt q.2)
      have nea1272_vb1268 : vb1268 ≠ a1272 := by rcases WH1272 with q | q; exact (Nat.ne_of_lt (Nat.lt_of_lt_of_le q.1 Gvb1268)).symm; exact Nat.ne_of_lt (Nat.lt_of_lt_of_le V1268.lt q.1)
      have neb1272_vb1268 : vb1268 ≠ b1272 := by rcases WH1272 with q | q; exact (Nat.ne_of_lt (Nat.lt_of_lt_of_le q.2 Gvb1268)).symm; exact Nat.ne_of_lt (Nat.lt_of_lt_of_le V1268.lt q.2)
      have f1273 := f1271.ext E1272
      have f1274 := V1268.ext E1272
      have f1275 := FV1268.ext E1272
      have f1276 := FC1268.ext E1272
      have f1277 := FN1268.ext E1272
      have f1278 := FM1268.ext E1272
      have f1279 := f1269.ext E1272
      have Zs1272 : s.heap.size ≤ h1272.size := Nat.le_trans zs1268 E1272.1
      have f1280 := f1270.ext E1272
      show Go p e below s n0 _ _ _ (T1272.setTop (mkF m 24 _ [(.ref a1272), (.ref a1211)]))
      have L1281 : AV Z h1272 b1272 .byte (L1 ([34, 32, 110, 97, 109, 101, 115, 32, 116, 119, 111, 32, 102, 97, 99, 105, 108, 105, 116, 105, 101, 115] : List Int32)) := by rw [show L1 ([34, 32, 110, 97, 109, 101, 115, 32, 116, 119, 111, 32, 102, 97, 99, 105, 108, 105, 116, 105, 101, 115] : List Int32) = [.int 34, .int 32, .int 110, .int 97, .int 109, .int 101, .int 115, .int 32, .int 116, .int 119, .int 111, .int 32, .int 102, .int 97, .int 99, .int 105, .int 108, .int 105, .int 116, .int 105, .int 101, .int 115] from by decide +kernel]; exact AB1272
      refine g_callV X1272 hx hZ hown (wat hw 164 rfl) (wat hw 65 rfl) (wat hw 67 rfl) (wat hw 66 rfl) (wat hw 28 rfl) (wat hw 68 rfl) (by decide) (a := a1211) f1273 (rm10_G l Z a0 hw [] s.heap.size ("\" names two facilities" :: " \"" :: "] " :: "[" :: Ts) a1211 vb1268 a1272 b1272 zz1268 ([91, 102, 97, 99, 105, 108, 105, 116, 121, 93, 32, 105, 100, 32, 34, x0] : List Int32) ([34, 32, 110, 97, 109, 101, 115, 32, 116, 119, 111, 32, 102, 97, 99, 105, 108, 105, 116, 105, 101, 115] : List Int32) (16 : Int32) (22 : Int32) (44 : Int32) (38 : Int32) (16 : Int32) (16 : Int32) (22 : Int32) (38 : Int32) (22 : Int32) (18 : Int32) (22 : Int32) (38 : Int32) (38 : Int32) 38 cz h1272 Zs1272 O2 hcz f1280 f1273 G_a1211 f1275 f1276 f1277 f1278 f1274 Gvb1268 neb1272_vb1268.symm EX1272 FV1272 FC1272 L1281 (by decide) hP1268 (by rw [hL1268]; exact (show (16 : Nat) ≤ 16 by decide)) rfl rfl rfl (by decide) (by decide) (by rw [hL1268]; rfl) (by decide) (by decide) (by decide) (by decide) (by decide) (by decide) (by decide) (by decide) (by decide) (by decide) (by decide) (by decide) (by decide) rfl (by decide) (by decide) (by rw [hL1268]; decide) (by decide) (show (38 : Nat) ≤ 38 by decide)) pd_34 rfl rfl (pc' := 27) rfl (hD hby d4_24) (argsL := [(.ref a1272)]) (rest := []) rfl (W := 0) (fun v1282 T1282 h1282 X1282 hQ1282 => ?_)
      obtain ⟨rfl, K1282, vb1282, zz1282, or1282, Gvb1282, V1282, hl1282, hp1282, EX1282, FV1282, FC1282, FN1282, FM1282⟩ := hQ1282
      have nevb1282_a1211 : a1211 ≠ vb1282 := own_neor nevb1268_a1211 f1273.lt or1282
      have skvb1282 : h0.size ≤ vb1282 := by rcases or1282 with q | q; rw [q]; exact skvb1268; exact Nat.le_trans f1279.1 q
      have f1283 := f1279.trans K1282 (allS (Or.inr sz1211) (allS (Or.inr skvb1268) all0))
      have f1284 := f1280.keep K1282 (allS G_a1211 (allS Gvb1268 all0))
      have f1285 := f1273.keep K1282
      have zs1282 : s.heap.size ≤ h1282.size := Nat.le_trans Zs1272 K1282.1
      have hL1282 : zz1282.length = 38 := hl1282
      have hP1282 : zz1282.take (([91, 102, 97, 99, 105, 108, 105, 116, 121, 93, 32, 105, 100, 32, 34, x0, 34, 32, 110, 97, 109, 101, 115, 32, 116, 119, 111, 32, 102, 97, 99, 105, 108, 105, 116, 105, 101, 115] : List Int32).length) = L1 ([91, 102, 97, 99, 105, 108, 105, 116, 121, 93, 32, 105, 100, 32, 34, x0, 34, 32, 110, 97, 109, 101, 115, 32, 116, 119, 111, 32, 102, 97, 99, 105, 108, 105, 116, 105, 101, 115] : List Int32) := hp1282
      show Go p e below s n0 _ _ _ (T1282.setTop (mkF m 27 _ [(.ref a1211)]))
      refine g_callV X1282 hx hZ hown (wat hw 183 rfl) (wat hw 118 rfl) (wat hw 120 rfl) (wat hw 119 rfl) (wat hw 28 rfl) (wat hw 121 rfl) (by decide) (a := a1211) f1285 (rm18_0c l Z a0 hw [] s.heap.size ("\" names two facilities" :: " \"" :: "] " :: "[" :: Ts) a1211 vb1282 zz1282 (38 : Int32) (38 : Int32) 38 (38 : Int32) cz h1282 zs1282 O2 hcz f1284 f1285 FV1282 FC1282 FN1282 FM1282 V1282 (by rw [hL1282]; rfl) rfl hL1282.symm (by rw [hL1282]; decide) EX1282 (by decide)) pd_35 rfl rfl (pc' := 30) rfl (hD hby d4_27) (argsL := []) (rest := []) rfl (W := 0) (fun v1286 T1286 h1286 X1286 hQ1286 => ?_)
      obtain ⟨t1286, tb1286, rfl, Gt1286, S1286, Gtb1286, SB1286, K1286, E1286, FV1286, FC1286, VV1286⟩ := hQ1286
      have net1286_a1211 : a1211 ≠ t1286 := Nat.ne_of_lt (Nat.lt_of_lt_of_le f1285.lt S1286)
      have net1286_vb1282 : vb1282 ≠ t1286 := Nat.ne_of_lt (Nat.lt_of_lt_of_le V1282.lt S1286)
      have szt1286 : h0.size ≤ t1286 := Nat.le_trans f1283.1 S1286
      have netb1286_a1211 : a1211 ≠ tb1286 := Nat.ne_of_lt (Nat.lt_of_lt_of_le f1285.lt SB1286)
      have netb1286_vb1282 : vb1282 ≠ tb1286 := Nat.ne_of_lt (Nat.lt_of_lt_of_le V1282.lt SB1286)
      have sztb1286 : h0.size ≤ tb1286 := Nat.le_trans f1283.1 SB1286
      have f1287 := f1283.trans K1286 all0
      have f1288 := f1284.keep K1286 all0
      have f1289 := f1285.keep K1286
      have f1290 := V1282.keep K1286 nin0
      have f1291 := EX1282.keep K1286
      have f1292 := FV1282.keep K1286 nin0
      have f1293 := FC1282.keep K1286 nin0
      have f1294 := FN1282.keep K1286 nin0
      have f1295 := FM1282.keep K1286 nin0
      have zs1286 : s.heap.size ≤ h1286.size := Nat.le_trans zs1282 K1286.1
      have V1286 : AV Z h1286 tb1286 .byte (L1 ([91, 102, 97, 99, 105, 108, 105, 116, 121, 93, 32, 105, 100, 32, 34, x0, 34, 32, 110, 97, 109, 101, 115, 32, 116, 119, 111, 32, 102, 97, 99, 105, 108, 105, 116, 105, 101, 115] : List Int32)) := by rw [← hP1282]; exact VV1286
      show Go p e below s n0 _ _ _ (T1286.setTop (mkF m 30 _ [(.ref t1286)]))
      exact g_ret X1286 hx hlk hret rfl (Or.inr (Or.inr (Or.inr (Or.inr ⟨rfl, rfl, rfl⟩)))) (hD hby d4_30) (by decide) (by decide) hlow (⟨t1286, rfl, Nat.le_trans hlow Gt1286, f1287, E1286, tb1286, FV1286, Or.inl ⟨FC1286, V1286, own_fa (a := ([91, 102, 97, 99, 105, 108, 105, 116, 121, 93, 32, 105, 100, 32, 34] : List Int32)) (b := ([x0] : List Int32)) (c := ([34, 32, 110, 97, 109, 101, 115, 32, 116, 119, 111, 32, 102, 97, 99, 105, 108, 105, 116, 105, 101, 115] : List Int32)) (by decide) hds (by decide)⟩⟩)
    · skip
      refine g_aloadN X1234 hx (pc' := 19) rfl (hD hby d4_18) rfl rfl ?_
      have nA1296 : a1211 ≠ tib := own_neA f1237 (wat hw 27 rfl) A4
      refine g_callV X1234 hx hZ hown (wat hw 164 rfl) (wat hw 65 rfl) (wat hw 67 rfl) (wat hw 66 rfl) (wat hw 28 rfl) (wat hw 68 rfl) (by decide) (a := a1211) f1237 (rm10_G l Z a0 hw [] s.heap.size (" \"" :: "] " :: "[" :: Ts) a1211 vb1234 ti tib zz1234 ([91, 102, 97, 99, 105, 108, 105, 116, 121, 93, 32, 105, 100, 32, 34] : List Int32) ([x0, x1] : List Int32) (15 : Int32) (2 : Int32) (4 : Int32) (17 : Int32) (16 : Int32) (16 : Int32) (1 : Int32) (17 : Int32) (1 : Int32) (18 : Int32) (18 : Int32) (34 : Int32) (34 : Int32) 34 cz h1234 zs1234 O2 hcz f1236 f1237 G_a1211 FV1234 FC1234 FN1234 FM1234 V1234 Gvb1234 n4 E4 V4 C4 A4 hds hP1234 (by rw [hL1234]; exact (show (15 : Nat) ≤ 16 by decide)) rfl rfl rfl (by decide) (by decide) (by rw [hL1234]; rfl) (by decide) (by decide) (by decide) (by decide) (by decide) (by decide) (by decide) (by decide) (by decide) (by decide) (by decide) (by decide) (by decide) rfl (by decide) (by decide) (by rw [hL1234]; decide) (by decide) (show (17 : Nat) ≤ 34 by decide)) pd_34 rfl rfl (pc' := 22) rfl (hD hby d4_19) (argsL := [(.ref ti)]) (rest := []) rfl (W := 0) (fun v1297 T1297 h1297 X1297 hQ1297 => ?_)
      obtain ⟨rfl, K1297, vb1297, zz1297, or1297, Gvb1297, V1297, hl1297, hp1297, EX1297, FV1297, FC1297, FN1297, FM1297⟩ := hQ1297
      have nevb1297_a1211 : a1211 ≠ vb1297 := own_neor nevb1234_a1211 f1237.lt or1297
      have skvb1297 : h0.size ≤ vb1297 := by rcases or1297 with q | q; rw [q]; exact skvb1234; exact Nat.le_trans f1235.1 q
      have f1298 := f1235.trans K1297 (allS (Or.inr sz1211) (allS (Or.inr skvb1234) all0))
      have f1299 := f1236.keep K1297 (allS G_a1211 (allS Gvb1234 all0))
      have f1300 := f1237.keep K1297
      have zs1297 : s.heap.size ≤ h1297.size := Nat.le_trans zs1234 K1297.1
      have hL1297 : zz1297.length = 34 := hl1297
      have hP1297 : zz1297.take (([91, 102, 97, 99, 105, 108, 105, 116, 121, 93, 32, 105, 100, 32, 34, x0, x1] : List Int32).length) = L1 ([91, 102, 97, 99, 105, 108, 105, 116, 121, 93, 32, 105, 100, 32, 34, x0, x1] : List Int32) := hp1297
      show Go p e below s n0 _ _ _ (T1297.setTop (mkF m 22 _ [(.ref a1211)]))
      refine g_ldcS X1297 hx hZ hown (wat hw 165 rfl) (own_wS hw) (fun b cl q => by rw [hsh]; exact OLD.2.2 b cl q) (own_nm3 (by decide) (by decide) (by decide) hT4) (hkc ("com/example/tenorbook/tenorbook/terms/Agreement", 175) (by simp [consts_1])) hcw (vs := [.int 34, .int 32, .int 110, .int 97, .int 109, .int 101, .int 115, .int 32, .int 116, .int 119, .int 111, .int 32, .int 102, .int 97, .int 99, .int 105, .int 108, .int 105, .int 116, .int 105, .int 101, .int 115]) ⟨by decide, rfl⟩ (by decide) (pc' := 24) rfl (hD hby d4_22) (n := 88) (by decide) (by decide) (by decide) (by decide) (fun T1301 h1301 a1301 b1301 XX1301 E1301 EX1301 FC1301 FV1301 AB1301 WH1301 => ?_)
      have X1301 := XX1301
      have nea1301_a1211 : a1211 ≠ a1301 := by rcases WH1301 with q | q; exact (Nat.ne_of_lt (Nat.lt_of_lt_of_le q.1 G_a1211)).symm; exact Nat.ne_of_lt (Nat.lt_of_lt_of_le f1300.lt q.1)
      have neb1301_a1211 : a1211 ≠ b1301 := by rcases WH1301 with q | q; exact (Nat.ne_of_lt (Nat.lt_of_lt_of_le q.2 G_a1211)).symm; exact Nat.ne_of_lt (Nat.lt_of_lt_of_le f1300.lt q.2)
      have nea1301_vb1297 : vb1297 ≠ a1301 := by rcases WH1301 with q | q; exact (Nat.ne_of_lt (Nat.lt_of_lt_of_le q.1 Gvb1297)).symm; exact Nat.ne_of_lt (Nat.lt_of_lt_of_le V1297.lt q.1)
      have neb1301_vb1297 : vb1297 ≠ b1301 := by rcases WH1301 with q | q; exact (Nat.ne_of_lt (Nat.lt_of_lt_of_le q.2 Gvb1297)).symm; exact Nat.ne_of_lt (Nat.lt_of_lt_of_le V1297.lt q.2)
      have f1302 := f1300.ext E1301
      have f1303 := V1297.ext E1301
      have f1304 := EX1297.ext E1301
      have f1305 := FV1297.ext E1301
      have f1306 := FC1297.ext E1301
      have f1307 := FN1297.ext E1301
      have f1308 := FM1297.ext E1301
      have f1309 := f1298.ext E1301
      have Zs1301 : s.heap.size ≤ h1301.size := Nat.le_trans zs1297 E1301.1
      have f1310 := f1299.ext E1301
      show Go p e below s n0 _ _ _ (T1301.setTop (mkF m 24 _ [(.ref a1301), (.ref a1211)]))
      have L1311 : AV Z h1301 b1301 .byte (L1 ([34, 32, 110, 97, 109, 101, 115, 32, 116, 119, 111, 32, 102, 97, 99, 105, 108, 105, 116, 105, 101, 115] : List Int32)) := by rw [show L1 ([34, 32, 110, 97, 109, 101, 115, 32, 116, 119, 111, 32, 102, 97, 99, 105, 108, 105, 116, 105, 101, 115] : List Int32) = [.int 34, .int 32, .int 110, .int 97, .int 109, .int 101, .int 115, .int 32, .int 116, .int 119, .int 111, .int 32, .int 102, .int 97, .int 99, .int 105, .int 108, .int 105, .int 116, .int 105, .int 101, .int 115] from by decide +kernel]; exact AB1301
      refine g_callV X1301 hx hZ hown (wat hw 164 rfl) (wat hw 65 rfl) (wat hw 67 rfl) (wat hw 66 rfl) (wat hw 28 rfl) (wat hw 68 rfl) (by decide) (a := a1211) f1302 (rm10_G l Z a0 hw [] s.heap.size ("\" names two facilities" :: " \"" :: "] " :: "[" :: Ts) a1211 vb1297 a1301 b1301 zz1297 ([91, 102, 97, 99, 105, 108, 105, 116, 121, 93, 32, 105, 100, 32, 34, x0, x1] : List Int32) ([34, 32, 110, 97, 109, 101, 115, 32, 116, 119, 111, 32, 102, 97, 99, 105, 108, 105, 116, 105, 101, 115] : List Int32) (17 : Int32) (22 : Int32) (44 : Int32) (39 : Int32) (34 : Int32) (34 : Int32) (5 : Int32) (39 : Int32) (5 : Int32) (36 : Int32) (36 : Int32) (70 : Int32) (70 : Int32) 70 cz h1301 Zs1301 O2 hcz f1310 f1302 G_a1211 f1305 f1306 f1307 f1308 f1303 Gvb1297 neb1301_vb1297.symm EX1301 FV1301 FC1301 L1311 (by decide) hP1297 (by rw [hL1297]; exact (show (17 : Nat) ≤ 34 by decide)) rfl rfl rfl (by decide) (by decide) (by rw [hL1297]; rfl) (by decide) (by decide) (by decide) (by decide) (by decide) (by decide) (by decide) (by decide) (by decide) (by decide) (by decide) (by decide) (by decide) rfl (by decide) (by decide) (by rw [hL1297]; decide) (by decide) (show (39 : Nat) ≤ 70 by decide)) pd_34 rfl rfl (pc' := 27) rfl (hD hby d4_24) (argsL := [(.ref a1301)]) (rest := []) rfl (W := 0) (fun v1312 T1312 h1312 X1312 hQ1312 => ?_)
      obtain ⟨rfl, K1312, vb1312, zz1312, or1312, Gvb1312, V1312, hl1312, hp1312, EX1312, FV1312, FC1312, FN1312, FM1312⟩ := hQ1312
      have nevb1312_a1211 : a1211 ≠ vb1312 := own_neor nevb1297_a1211 f1302.lt or1312
      have skvb1312 : h0.size ≤ vb1312 := by rcases or1312 with q | q; rw [q]; exact skvb1297; exact Nat.le_trans f1309.1 q
      have f1313 := f1309.trans K1312 (allS (Or.inr sz1211) (allS (Or.inr skvb1297) all0))
      have f1314 := f1310.keep K1312 (allS G_a1211 (allS Gvb1297 all0))
      have f1315 := f1302.keep K1312
      have f1316 := f1304.keep K1312
      have zs1312 : s.heap.size ≤ h1312.size := Nat.le_trans Zs1301 K1312.1
      have hL1312 : zz1312.length = 70 := hl1312
      have hP1312 : zz1312.take (([91, 102, 97, 99, 105, 108, 105, 116, 121, 93, 32, 105, 100, 32, 34, x0, x1, 34, 32, 110, 97, 109, 101, 115, 32, 116, 119, 111, 32, 102, 97, 99, 105, 108, 105, 116, 105, 101, 115] : List Int32).length) = L1 ([91, 102, 97, 99, 105, 108, 105, 116, 121, 93, 32, 105, 100, 32, 34, x0, x1, 34, 32, 110, 97, 109, 101, 115, 32, 116, 119, 111, 32, 102, 97, 99, 105, 108, 105, 116, 105, 101, 115] : List Int32) := hp1312
      show Go p e below s n0 _ _ _ (T1312.setTop (mkF m 27 _ [(.ref a1211)]))
      refine g_callV X1312 hx hZ hown (wat hw 183 rfl) (wat hw 118 rfl) (wat hw 120 rfl) (wat hw 119 rfl) (wat hw 28 rfl) (wat hw 121 rfl) (by decide) (a := a1211) f1315 (rm18_0r l Z a0 hw [] s.heap.size ("\" names two facilities" :: " \"" :: "] " :: "[" :: Ts) a1211 vb1312 zz1312 (70 : Int32) (39 : Int32) 39 (39 : Int32) cz h1312 zs1312 O2 hcz f1314 f1315 FV1312 FC1312 FN1312 FM1312 V1312 (by rw [hL1312]; rfl) rfl (by decide) (by decide) (by decide) (by decide) (by rw [hL1312]; decide) (by decide)) pd_35 rfl rfl (pc' := 30) rfl (hD hby d4_27) (argsL := []) (rest := []) rfl (W := 0) (fun v1317 T1317 h1317 X1317 hQ1317 => ?_)
      obtain ⟨t1317, tb1317, rfl, Gt1317, S1317, Gtb1317, SB1317, K1317, E1317, FV1317, FC1317, VV1317⟩ := hQ1317
      have net1317_a1211 : a1211 ≠ t1317 := Nat.ne_of_lt (Nat.lt_of_lt_of_le f1315.lt S1317)
      have net1317_vb1312 : vb1312 ≠ t1317 := Nat.ne_of_lt (Nat.lt_of_lt_of_le V1312.lt S1317)
      have szt1317 : h0.size ≤ t1317 := Nat.le_trans f1313.1 S1317
      have netb1317_a1211 : a1211 ≠ tb1317 := Nat.ne_of_lt (Nat.lt_of_lt_of_le f1315.lt SB1317)
      have netb1317_vb1312 : vb1312 ≠ tb1317 := Nat.ne_of_lt (Nat.lt_of_lt_of_le V1312.lt SB1317)
      have sztb1317 : h0.size ≤ tb1317 := Nat.le_trans f1313.1 SB1317
      have f1318 := f1313.trans K1317 all0
      have f1319 := f1314.keep K1317 all0
      have f1320 := f1315.keep K1317
      have f1321 := V1312.keep K1317 nin0
      have f1322 := EX1312.keep K1317
      have f1323 := FV1312.keep K1317 nin0
      have f1324 := FC1312.keep K1317 nin0
      have f1325 := FN1312.keep K1317 nin0
      have f1326 := FM1312.keep K1317 nin0
      have zs1317 : s.heap.size ≤ h1317.size := Nat.le_trans zs1312 K1317.1
      have V1317 : AV Z h1317 tb1317 .byte (L1 ([91, 102, 97, 99, 105, 108, 105, 116, 121, 93, 32, 105, 100, 32, 34, x0, x1, 34, 32, 110, 97, 109, 101, 115, 32, 116, 119, 111, 32, 102, 97, 99, 105, 108, 105, 116, 105, 101, 115] : List Int32)) := by rw [← hP1312]; exact VV1317
      show Go p e below s n0 _ _ _ (T1317.setTop (mkF m 30 _ [(.ref t1317)]))
      exact g_ret X1317 hx hlk hret rfl (Or.inr (Or.inr (Or.inr (Or.inr ⟨rfl, rfl, rfl⟩)))) (hD hby d4_30) (by decide) (by decide) hlow (⟨t1317, rfl, Nat.le_trans hlow Gt1317, f1318, E1317, tb1317, FV1317, Or.inl ⟨FC1317, V1317, own_fa (a := ([91, 102, 97, 99, 105, 108, 105, 116, 121, 93, 32, 105, 100, 32, 34] : List Int32)) (b := ([x0, x1] : List Int32)) (c := ([34, 32, 110, 97, 109, 101, 115, 32, 116, 119, 111, 32, 102, 97, 99, 105, 108, 105, 116, 105, 101, 115] : List Int32)) (by decide) hds (by decide)⟩⟩)
    · skip
      refine g_aloadN X1234 hx (pc' := 19) rfl (hD hby d4_18) rfl rfl ?_
      have nA1327 : a1211 ≠ tib := own_neA f1237 (wat hw 27 rfl) A4
      refine g_callV X1234 hx hZ hown (wat hw 164 rfl) (wat hw 65 rfl) (wat hw 67 rfl) (wat hw 66 rfl) (wat hw 28 rfl) (wat hw 68 rfl) (by decide) (a := a1211) f1237 (rm10_G l Z a0 hw [] s.heap.size (" \"" :: "] " :: "[" :: Ts) a1211 vb1234 ti tib zz1234 ([91, 102, 97, 99, 105, 108, 105, 116, 121, 93, 32, 105, 100, 32, 34] : List Int32) ([x0, x1, x2] : List Int32) (15 : Int32) (3 : Int32) (6 : Int32) (18 : Int32) (16 : Int32) (16 : Int32) (2 : Int32) (18 : Int32) (2 : Int32) (18 : Int32) (18 : Int32) (34 : Int32) (34 : Int32) 34 cz h1234 zs1234 O2 hcz f1236 f1237 G_a1211 FV1234 FC1234 FN1234 FM1234 V1234 Gvb1234 n4 E4 V4 C4 A4 hds hP1234 (by rw [hL1234]; exact (show (15 : Nat) ≤ 16 by decide)) rfl rfl rfl (by decide) (by decide) (by rw [hL1234]; rfl) (by decide) (by decide) (by decide) (by decide) (by decide) (by decide) (by decide) (by decide) (by decide) (by decide) (by decide) (by decide) (by decide) rfl (by decide) (by decide) (by rw [hL1234]; decide) (by decide) (show (18 : Nat) ≤ 34 by decide)) pd_34 rfl rfl (pc' := 22) rfl (hD hby d4_19) (argsL := [(.ref ti)]) (rest := []) rfl (W := 0) (fun v1328 T1328 h1328 X1328 hQ1328 => ?_)
      obtain ⟨rfl, K1328, vb1328, zz1328, or1328, Gvb1328, V1328, hl1328, hp1328, EX1328, FV1328, FC1328, FN1328, FM1328⟩ := hQ1328
      have nevb1328_a1211 : a1211 ≠ vb1328 := own_neor nevb1234_a1211 f1237.lt or1328
      have skvb1328 : h0.size ≤ vb1328 := by rcases or1328 with q | q; rw [q]; exact skvb1234; exact Nat.le_trans f1235.1 q
      have f1329 := f1235.trans K1328 (allS (Or.inr sz1211) (allS (Or.inr skvb1234) all0))
      have f1330 := f1236.keep K1328 (allS G_a1211 (allS Gvb1234 all0))
      have f1331 := f1237.keep K1328
      have zs1328 : s.heap.size ≤ h1328.size := Nat.le_trans zs1234 K1328.1
      have hL1328 : zz1328.length = 34 := hl1328
      have hP1328 : zz1328.take (([91, 102, 97, 99, 105, 108, 105, 116, 121, 93, 32, 105, 100, 32, 34, x0, x1, x2] : List Int32).length) = L1 ([91, 102, 97, 99, 105, 108, 105, 116, 121, 93, 32, 105, 100, 32, 34, x0, x1, x2] : List Int32) := hp1328
      show Go p e below s n0 _ _ _ (T1328.setTop (mkF m 22 _ [(.ref a1211)]))
      refine g_ldcS X1328 hx hZ hown (wat hw 165 rfl) (own_wS hw) (fun b cl q => by rw [hsh]; exact OLD.2.2 b cl q) (own_nm3 (by decide) (by decide) (by decide) hT4) (hkc ("com/example/tenorbook/tenorbook/terms/Agreement", 175) (by simp [consts_1])) hcw (vs := [.int 34, .int 32, .int 110, .int 97, .int 109, .int 101, .int 115, .int 32, .int 116, .int 119, .int 111, .int 32, .int 102, .int 97, .int 99, .int 105, .int 108, .int 105, .int 116, .int 105, .int 101, .int 115]) ⟨by decide, rfl⟩ (by decide) (pc' := 24) rfl (hD hby d4_22) (n := 88) (by decide) (by decide) (by decide) (by decide) (fun T1332 h1332 a1332 b1332 XX1332 E1332 EX1332 FC1332 FV1332 AB1332 WH1332 => ?_)
      have X1332 := XX1332
      have nea1332_a1211 : a1211 ≠ a1332 := by rcases WH1332 with q | q; exact (Nat.ne_of_lt (Nat.lt_of_lt_of_le q.1 G_a1211)).symm; exact Nat.ne_of_lt (Nat.lt_of_lt_of_le f1331.lt q.1)
      have neb1332_a1211 : a1211 ≠ b1332 := by rcases WH1332 with q | q; exact (Nat.ne_of_lt (Nat.lt_of_lt_of_le q.2 G_a1211)).symm; exact Nat.ne_of_lt (Nat.lt_of_lt_of_le f1331.lt q.2)
      have nea1332_vb1328 : vb1328 ≠ a1332 := by rcases WH1332 with q | q; exact (Nat.ne_of_lt (Nat.lt_of_lt_of_le q.1 Gvb1328)).symm; exact Nat.ne_of_lt (Nat.lt_of_lt_of_le V1328.lt q.1)
      have neb1332_vb1328 : vb1328 ≠ b1332 := by rcases WH1332 with q | q; exact (Nat.ne_of_lt (Nat.lt_of_lt_of_le q.2 Gvb1328)).symm; exact Nat.ne_of_lt (Nat.lt_of_lt_of_le V1328.lt q.2)
      have f1333 := f1331.ext E1332
      have f1334 := V1328.ext E1332
      have f1335 := EX1328.ext E1332
      have f1336 := FV1328.ext E1332
      have f1337 := FC1328.ext E1332
      have f1338 := FN1328.ext E1332
      have f1339 := FM1328.ext E1332
      have f1340 := f1329.ext E1332
      have Zs1332 : s.heap.size ≤ h1332.size := Nat.le_trans zs1328 E1332.1
      have f1341 := f1330.ext E1332
      show Go p e below s n0 _ _ _ (T1332.setTop (mkF m 24 _ [(.ref a1332), (.ref a1211)]))
      have L1342 : AV Z h1332 b1332 .byte (L1 ([34, 32, 110, 97, 109, 101, 115, 32, 116, 119, 111, 32, 102, 97, 99, 105, 108, 105, 116, 105, 101, 115] : List Int32)) := by rw [show L1 ([34, 32, 110, 97, 109, 101, 115, 32, 116, 119, 111, 32, 102, 97, 99, 105, 108, 105, 116, 105, 101, 115] : List Int32) = [.int 34, .int 32, .int 110, .int 97, .int 109, .int 101, .int 115, .int 32, .int 116, .int 119, .int 111, .int 32, .int 102, .int 97, .int 99, .int 105, .int 108, .int 105, .int 116, .int 105, .int 101, .int 115] from by decide +kernel]; exact AB1332
      refine g_callV X1332 hx hZ hown (wat hw 164 rfl) (wat hw 65 rfl) (wat hw 67 rfl) (wat hw 66 rfl) (wat hw 28 rfl) (wat hw 68 rfl) (by decide) (a := a1211) f1333 (rm10_G l Z a0 hw [] s.heap.size ("\" names two facilities" :: " \"" :: "] " :: "[" :: Ts) a1211 vb1328 a1332 b1332 zz1328 ([91, 102, 97, 99, 105, 108, 105, 116, 121, 93, 32, 105, 100, 32, 34, x0, x1, x2] : List Int32) ([34, 32, 110, 97, 109, 101, 115, 32, 116, 119, 111, 32, 102, 97, 99, 105, 108, 105, 116, 105, 101, 115] : List Int32) (18 : Int32) (22 : Int32) (44 : Int32) (40 : Int32) (34 : Int32) (34 : Int32) (6 : Int32) (40 : Int32) (6 : Int32) (36 : Int32) (36 : Int32) (70 : Int32) (70 : Int32) 70 cz h1332 Zs1332 O2 hcz f1341 f1333 G_a1211 f1336 f1337 f1338 f1339 f1334 Gvb1328 neb1332_vb1328.symm EX1332 FV1332 FC1332 L1342 (by decide) hP1328 (by rw [hL1328]; exact (show (18 : Nat) ≤ 34 by decide)) rfl rfl rfl (by decide) (by decide) (by rw [hL1328]; rfl) (by decide) (by decide) (by decide) (by decide) (by decide) (by decide) (by decide) (by decide) (by decide) (by decide) (by decide) (by decide) (by decide) rfl (by decide) (by decide) (by rw [hL1328]; decide) (by decide) (show (40 : Nat) ≤ 70 by decide)) pd_34 rfl rfl (pc' := 27) rfl (hD hby d4_24) (argsL := [(.ref a1332)]) (rest := []) rfl (W := 0) (fun v1343 T1343 h1343 X1343 hQ1343 => ?_)
      obtain ⟨rfl, K1343, vb1343, zz1343, or1343, Gvb1343, V1343, hl1343, hp1343, EX1343, FV1343, FC1343, FN1343, FM1343⟩ := hQ1343
      have nevb1343_a1211 : a1211 ≠ vb1343 := own_neor nevb1328_a1211 f1333.lt or1343
      have skvb1343 : h0.size ≤ vb1343 := by rcases or1343 with q | q; rw [q]; exact skvb1328; exact Nat.le_trans f1340.1 q
      have f1344 := f1340.trans K1343 (allS (Or.inr sz1211) (allS (Or.inr skvb1328) all0))
      have f1345 := f1341.keep K1343 (allS G_a1211 (allS Gvb1328 all0))
      have f1346 := f1333.keep K1343
      have f1347 := f1335.keep K1343
      have zs1343 : s.heap.size ≤ h1343.size := Nat.le_trans Zs1332 K1343.1
      have hL1343 : zz1343.length = 70 := hl1343
      have hP1343 : zz1343.take (([91, 102, 97, 99, 105, 108, 105, 116, 121, 93, 32, 105, 100, 32, 34, x0, x1, x2, 34, 32, 110, 97, 109, 101, 115, 32, 116, 119, 111, 32, 102, 97, 99, 105, 108, 105, 116, 105, 101, 115] : List Int32).length) = L1 ([91, 102, 97, 99, 105, 108, 105, 116, 121, 93, 32, 105, 100, 32, 34, x0, x1, x2, 34, 32, 110, 97, 109, 101, 115, 32, 116, 119, 111, 32, 102, 97, 99, 105, 108, 105, 116, 105, 101, 115] : List Int32) := hp1343
      show Go p e below s n0 _ _ _ (T1343.setTop (mkF m 27 _ [(.ref a1211)]))
      refine g_callV X1343 hx hZ hown (wat hw 183 rfl) (wat hw 118 rfl) (wat hw 120 rfl) (wat hw 119 rfl) (wat hw 28 rfl) (wat hw 121 rfl) (by decide) (a := a1211) f1346 (rm18_0r l Z a0 hw [] s.heap.size ("\" names two facilities" :: " \"" :: "] " :: "[" :: Ts) a1211 vb1343 zz1343 (70 : Int32) (40 : Int32) 40 (40 : Int32) cz h1343 zs1343 O2 hcz f1345 f1346 FV1343 FC1343 FN1343 FM1343 V1343 (by rw [hL1343]; rfl) rfl (by decide) (by decide) (by decide) (by decide) (by rw [hL1343]; decide) (by decide)) pd_35 rfl rfl (pc' := 30) rfl (hD hby d4_27) (argsL := []) (rest := []) rfl (W := 0) (fun v1348 T1348 h1348 X1348 hQ1348 => ?_)
      obtain ⟨t1348, tb1348, rfl, Gt1348, S1348, Gtb1348, SB1348, K1348, E1348, FV1348, FC1348, VV1348⟩ := hQ1348
      have net1348_a1211 : a1211 ≠ t1348 := Nat.ne_of_lt (Nat.lt_of_lt_of_le f1346.lt S1348)
      have net1348_vb1343 : vb1343 ≠ t1348 := Nat.ne_of_lt (Nat.lt_of_lt_of_le V1343.lt S1348)
      have szt1348 : h0.size ≤ t1348 := Nat.le_trans f1344.1 S1348
      have netb1348_a1211 : a1211 ≠ tb1348 := Nat.ne_of_lt (Nat.lt_of_lt_of_le f1346.lt SB1348)
      have netb1348_vb1343 : vb1343 ≠ tb1348 := Nat.ne_of_lt (Nat.lt_of_lt_of_le V1343.lt SB1348)
      have sztb1348 : h0.size ≤ tb1348 := Nat.le_trans f1344.1 SB1348
      have f1349 := f1344.trans K1348 all0
      have f1350 := f1345.keep K1348 all0
      have f1351 := f1346.keep K1348
      have f1352 := V1343.keep K1348 nin0
      have f1353 := EX1343.keep K1348
      have f1354 := FV1343.keep K1348 nin0
      have f1355 := FC1343.keep K1348 nin0
      have f1356 := FN1343.keep K1348 nin0
      have f1357 := FM1343.keep K1348 nin0
      have zs1348 : s.heap.size ≤ h1348.size := Nat.le_trans zs1343 K1348.1
      have V1348 : AV Z h1348 tb1348 .byte (L1 ([91, 102, 97, 99, 105, 108, 105, 116, 121, 93, 32, 105, 100, 32, 34, x0, x1, x2, 34, 32, 110, 97, 109, 101, 115, 32, 116, 119, 111, 32, 102, 97, 99, 105, 108, 105, 116, 105, 101, 115] : List Int32)) := by rw [← hP1343]; exact VV1348
      show Go p e below s n0 _ _ _ (T1348.setTop (mkF m 30 _ [(.ref t1348)]))
      exact g_ret X1348 hx hlk hret rfl (Or.inr (Or.inr (Or.inr (Or.inr ⟨rfl, rfl, rfl⟩)))) (hD hby d4_30) (by decide) (by decide) hlow (⟨t1348, rfl, Nat.le_trans hlow Gt1348, f1349, E1348, tb1348, FV1348, Or.inl ⟨FC1348, V1348, own_fa (a := ([91, 102, 97, 99, 105, 108, 105, 116, 121, 93, 32, 105, 100, 32, 34] : List Int32)) (b := ([x0, x1, x2] : List Int32)) (c := ([34, 32, 110, 97, 109, 101, 115, 32, 116, 119, 111, 32, 102, 97, 99, 105, 108, 105, 116, 105, 101, 115] : List Int32)) (by decide) hds (by decide)⟩⟩)
  · skip
    have E4 := Eti.keep f1235
    have V4 := Vti.keep f1235 nin0
    have C4 := Cti.keep f1235 nin0
    have A4 := Ati.keep f1235 nin0
    have n4 : tib ≠ vb1234 := Nat.ne_of_lt (Nat.lt_of_lt_of_le Ati.lt skvb1234)
    rcases hcl with rfl | ⟨x0, rfl⟩ | ⟨x0, x1, rfl⟩ | ⟨x0, x1, x2, rfl⟩
    · skip
      refine g_aloadN X1234 hx (pc' := 19) rfl (hD hby d4_18) rfl rfl ?_
      have nA1358 : a1211 ≠ tib := own_neA f1237 (wat hw 27 rfl) A4
      refine g_callV X1234 hx hZ hown (wat hw 164 rfl) (wat hw 65 rfl) (wat hw 67 rfl) (wat hw 66 rfl) (wat hw 28 rfl) (wat hw 68 rfl) (by decide) (a := a1211) f1237 (rm10_I l Z a0 hw [] s.heap.size (" \"" :: "] " :: "[" :: Ts) a1211 vb1234 ti tib zz1234 ([91, 102, 97, 99, 105, 108, 105, 116, 121, 93, 32, 105, 100, 32, 34] : List Int32) ([] : List Int32) (15 : Int32) (0 : Int32) (0 : Int32) (15 : Int32) (16 : Int32) (16 : Int32) (-1 : Int32) (32 : Int32) (30 : Int32) fo cz h1234 zs1234 O4 hfo U1 U2 U3 O2 hcz f1236 f1237 G_a1211 FV1234 FC1234 FN1234 FM1234 V1234 Gvb1234 n4 E4 V4 C4 A4 hds hP1234 (by rw [hL1234]; exact (show (15 : Nat) ≤ 16 by decide)) rfl rfl rfl (by decide) (by decide) (by rw [hL1234]; rfl) (by decide) (by decide) (by decide) (by rw [hL1234]; exact (show (15 : Nat) ≤ 16 by decide)) (by rw [hL1234]; decide) (by rw [hL1234]; rfl) (by decide) (by decide) (by decide) (by decide) (by decide) (by decide) rfl) pd_34 rfl rfl (pc' := 22) rfl (hD hby d4_19) (argsL := [(.ref ti)]) (rest := []) rfl (W := 0) (fun v1359 T1359 h1359 X1359 hQ1359 => ?_)
      obtain ⟨rfl, K1359, vb1359, zz1359, or1359, Gvb1359, V1359, hl1359, hp1359, FV1359, FC1359, FN1359, FM1359⟩ := hQ1359
      have nevb1359_a1211 : a1211 ≠ vb1359 := own_neor nevb1234_a1211 f1237.lt or1359
      have skvb1359 : h0.size ≤ vb1359 := by rcases or1359 with q | q; rw [q]; exact skvb1234; exact Nat.le_trans f1235.1 q
      have f1360 := f1235.trans K1359 (allS (Or.inr sz1211) (allS (Or.inr skvb1234) all0))
      have f1361 := f1236.keep K1359 (allS G_a1211 (allS Gvb1234 all0))
      have f1362 := f1237.keep K1359
      have zs1359 : s.heap.size ≤ h1359.size := Nat.le_trans zs1234 K1359.1
      have hL1359 : zz1359.length = 32 := hl1359.trans (by rw [hL1234])
      have hP1359 : zz1359.take (2 * ([91, 102, 97, 99, 105, 108, 105, 116, 121, 93, 32, 105, 100, 32, 34] : List Int32).length) = U16 ([91, 102, 97, 99, 105, 108, 105, 116, 121, 93, 32, 105, 100, 32, 34] : List Int32) := hp1359
      show Go p e below s n0 _ _ _ (T1359.setTop (mkF m 22 _ [(.ref a1211)]))
      refine g_ldcS X1359 hx hZ hown (wat hw 165 rfl) (own_wS hw) (fun b cl q => by rw [hsh]; exact OLD.2.2 b cl q) (own_nm3 (by decide) (by decide) (by decide) hT4) (hkc ("com/example/tenorbook/tenorbook/terms/Agreement", 175) (by simp [consts_1])) hcw (vs := [.int 34, .int 32, .int 110, .int 97, .int 109, .int 101, .int 115, .int 32, .int 116, .int 119, .int 111, .int 32, .int 102, .int 97, .int 99, .int 105, .int 108, .int 105, .int 116, .int 105, .int 101, .int 115]) ⟨by decide, rfl⟩ (by decide) (pc' := 24) rfl (hD hby d4_22) (n := 88) (by decide) (by decide) (by decide) (by decide) (fun T1363 h1363 a1363 b1363 XX1363 E1363 EX1363 FC1363 FV1363 AB1363 WH1363 => ?_)
      have X1363 := XX1363
      have nea1363_a1211 : a1211 ≠ a1363 := by rcases WH1363 with q | q; exact (Nat.ne_of_lt (Nat.lt_of_lt_of_le q.1 G_a1211)).symm; exact Nat.ne_of_lt (Nat.lt_of_lt_of_le f1362.lt q.1)
      have neb1363_a1211 : a1211 ≠ b1363 := by rcases WH1363 with q | q; exact (Nat.ne_of_lt (Nat.lt_of_lt_of_le q.2 G_a1211)).symm; exact Nat.ne_of_lt (Nat.lt_of_lt_of_le f1362.lt q.2)
      have nea1363_vb1359 : vb1359 ≠ a1363 := by rcases WH1363 with q | q; exact (Nat.ne_of_lt (Nat.lt_of_lt_of_le q.1 Gvb1359)).symm; exact Nat.ne_of_lt (Nat.lt_of_lt_of_le V1359.lt q.1)
      have neb1363_vb1359 : vb1359 ≠ b1363 := by rcases WH1363 with q | q; exact (Nat.ne_of_lt (Nat.lt_of_lt_of_le q.2 Gvb1359)).symm; exact Nat.ne_of_lt (Nat.lt_of_lt_of_le V1359.lt q.2)
      have f1364 := f1362.ext E1363
      have f1365 := V1359.ext E1363
      have f1366 := FV1359.ext E1363
      have f1367 := FC1359.ext E1363
      have f1368 := FN1359.ext E1363
      have f1369 := FM1359.ext E1363
      have f1370 := f1360.ext E1363
      have Zs1363 : s.heap.size ≤ h1363.size := Nat.le_trans zs1359 E1363.1
      have f1371 := f1361.ext E1363
      show Go p e below s n0 _ _ _ (T1363.setTop (mkF m 24 _ [(.ref a1363), (.ref a1211)]))
      have L1372 : AV Z h1363 b1363 .byte (L1 ([34, 32, 110, 97, 109, 101, 115, 32, 116, 119, 111, 32, 102, 97, 99, 105, 108, 105, 116, 105, 101, 115] : List Int32)) := by rw [show L1 ([34, 32, 110, 97, 109, 101, 115, 32, 116, 119, 111, 32, 102, 97, 99, 105, 108, 105, 116, 105, 101, 115] : List Int32) = [.int 34, .int 32, .int 110, .int 97, .int 109, .int 101, .int 115, .int 32, .int 116, .int 119, .int 111, .int 32, .int 102, .int 97, .int 99, .int 105, .int 108, .int 105, .int 116, .int 105, .int 101, .int 115] from by decide +kernel]; exact AB1363
      refine g_callV X1363 hx hZ hown (wat hw 164 rfl) (wat hw 65 rfl) (wat hw 67 rfl) (wat hw 66 rfl) (wat hw 28 rfl) (wat hw 68 rfl) (by decide) (a := a1211) f1364 (rm10_S l Z a0 hw [] s.heap.size ("\" names two facilities" :: " \"" :: "] " :: "[" :: Ts) a1211 vb1359 a1363 b1363 zz1359 ([91, 102, 97, 99, 105, 108, 105, 116, 121, 93, 32, 105, 100, 32, 34] : List Int32) ([34, 32, 110, 97, 109, 101, 115, 32, 116, 119, 111, 32, 102, 97, 99, 105, 108, 105, 116, 105, 101, 115] : List Int32) (15 : Int32) (22 : Int32) (44 : Int32) (37 : Int32) (32 : Int32) (16 : Int32) (21 : Int32) (74 : Int32) (42 : Int32) (36 : Int32) (42 : Int32) (74 : Int32) (37 : Int32) 74 (37 : Int32) fo cz h1363 Zs1363 O4 hfo U1 U2 U3 O2 hcz f1371 f1364 G_a1211 f1366 f1367 f1368 f1369 f1365 Gvb1359 neb1363_vb1359.symm EX1363 FV1363 FC1363 L1372 (by decide) hP1359 (by rw [hL1359]; exact (show (30 : Nat) ≤ 32 by decide)) rfl rfl rfl (by decide) (by decide) (by rw [hL1359]; rfl) (by decide) (by decide) (by decide) (by decide) (by decide) (by decide) (by decide) (by decide) (by decide) (by decide) (by decide) (by decide) (by decide) rfl (by decide) (by decide) (by rw [hL1359]; decide) (by decide) (show (74 : Nat) ≤ 74 by decide) (by decide) (by decide) (by decide)) pd_34 rfl rfl (pc' := 27) rfl (hD hby d4_24) (argsL := [(.ref a1363)]) (rest := []) rfl (W := 0) (fun v1373 T1373 h1373 X1373 hQ1373 => ?_)
      obtain ⟨rfl, K1373, vb1373, zz1373, or1373, Gvb1373, V1373, hl1373, hp1373, EX1373, FV1373, FC1373, FN1373, FM1373⟩ := hQ1373
      have nevb1373_a1211 : a1211 ≠ vb1373 := own_neor nevb1359_a1211 f1364.lt or1373
      have skvb1373 : h0.size ≤ vb1373 := by rcases or1373 with q | q; rw [q]; exact skvb1359; exact Nat.le_trans f1370.1 q
      have f1374 := f1370.trans K1373 (allS (Or.inr sz1211) (allS (Or.inr skvb1359) all0))
      have f1375 := f1371.keep K1373 (allS G_a1211 (allS Gvb1359 all0))
      have f1376 := f1364.keep K1373
      have zs1373 : s.heap.size ≤ h1373.size := Nat.le_trans Zs1363 K1373.1
      have hL1373 : zz1373.length = 74 := hl1373
      have hP1373 : zz1373.take (2 * ([91, 102, 97, 99, 105, 108, 105, 116, 121, 93, 32, 105, 100, 32, 34, 34, 32, 110, 97, 109, 101, 115, 32, 116, 119, 111, 32, 102, 97, 99, 105, 108, 105, 116, 105, 101, 115] : List Int32).length) = U16 ([91, 102, 97, 99, 105, 108, 105, 116, 121, 93, 32, 105, 100, 32, 34, 34, 32, 110, 97, 109, 101, 115, 32, 116, 119, 111, 32, 102, 97, 99, 105, 108, 105, 116, 105, 101, 115] : List Int32) := hp1373
      show Go p e below s n0 _ _ _ (T1373.setTop (mkF m 27 _ [(.ref a1211)]))
      refine g_callV X1373 hx hZ hown (wat hw 183 rfl) (wat hw 118 rfl) (wat hw 120 rfl) (wat hw 119 rfl) (wat hw 28 rfl) (wat hw 121 rfl) (by decide) (a := a1211) f1376 (rm18_1c l Z a0 hw [] s.heap.size ("\" names two facilities" :: " \"" :: "] " :: "[" :: Ts) a1211 vb1373 zz1373 (74 : Int32) (74 : Int32) 74 (37 : Int32) cz h1373 zs1373 O2 hcz f1375 f1376 FV1373 FC1373 FN1373 FM1373 V1373 (by rw [hL1373]; rfl) rfl hL1373.symm (by rw [hL1373]; decide) EX1373 (by decide)) pd_35 rfl rfl (pc' := 30) rfl (hD hby d4_27) (argsL := []) (rest := []) rfl (W := 0) (fun v1377 T1377 h1377 X1377 hQ1377 => ?_)
      obtain ⟨t1377, tb1377, rfl, Gt1377, S1377, Gtb1377, SB1377, K1377, E1377, FV1377, FC1377, VV1377⟩ := hQ1377
      have net1377_a1211 : a1211 ≠ t1377 := Nat.ne_of_lt (Nat.lt_of_lt_of_le f1376.lt S1377)
      have net1377_vb1373 : vb1373 ≠ t1377 := Nat.ne_of_lt (Nat.lt_of_lt_of_le V1373.lt S1377)
      have szt1377 : h0.size ≤ t1377 := Nat.le_trans f1374.1 S1377
      have netb1377_a1211 : a1211 ≠ tb1377 := Nat.ne_of_lt (Nat.lt_of_lt_of_le f1376.lt SB1377)
      have netb1377_vb1373 : vb1373 ≠ tb1377 := Nat.ne_of_lt (Nat.lt_of_lt_of_le V1373.lt SB1377)
      have sztb1377 : h0.size ≤ tb1377 := Nat.le_trans f1374.1 SB1377
      have f1378 := f1374.trans K1377 all0
      have f1379 := f1375.keep K1377 all0
      have f1380 := f1376.keep K1377
      have f1381 := V1373.keep K1377 nin0
      have f1382 := EX1373.keep K1377
      have f1383 := FV1373.keep K1377 nin0
      have f1384 := FC1373.keep K1377 nin0
      have f1385 := FN1373.keep K1377 nin0
      have f1386 := FM1373.keep K1377 nin0
      have zs1377 : s.heap.size ≤ h1377.size := Nat.le_trans zs1373 K1377.1
      have V1377 : AV Z h1377 tb1377 .byte (U16 ([91, 102, 97, 99, 105, 108, 105, 116, 121, 93, 32, 105, 100, 32, 34, 34, 32, 110, 97, 109, 101, 115, 32, 116, 119, 111, 32, 102, 97, 99, 105, 108, 105, 116, 105, 101, 115] : List Int32)) := by rw [← hP1373]; exact VV1377
      show Go p e below s n0 _ _ _ (T1377.setTop (mkF m 30 _ [(.ref t1377)]))
      exact g_ret X1377 hx hlk hret rfl (Or.inr (Or.inr (Or.inr (Or.inr ⟨rfl, rfl, rfl⟩)))) (hD hby d4_30) (by decide) (by decide) hlow (⟨t1377, rfl, Nat.le_trans hlow Gt1377, f1378, E1377, tb1377, FV1377, Or.inr ⟨FC1377, V1377, own_fa (a := ([91, 102, 97, 99, 105, 108, 105, 116, 121, 93, 32, 105, 100, 32, 34] : List Int32)) (b := ([] : List Int32)) (c := ([34, 32, 110, 97, 109, 101, 115, 32, 116, 119, 111, 32, 102, 97, 99, 105, 108, 105, 116, 105, 101, 115] : List Int32)) (by decide) hds (by decide)⟩⟩)
    · skip
      refine g_aloadN X1234 hx (pc' := 19) rfl (hD hby d4_18) rfl rfl ?_
      have nA1387 : a1211 ≠ tib := own_neA f1237 (wat hw 27 rfl) A4
      refine g_callV X1234 hx hZ hown (wat hw 164 rfl) (wat hw 65 rfl) (wat hw 67 rfl) (wat hw 66 rfl) (wat hw 28 rfl) (wat hw 68 rfl) (by decide) (a := a1211) f1237 (rm10_I l Z a0 hw [] s.heap.size (" \"" :: "] " :: "[" :: Ts) a1211 vb1234 ti tib zz1234 ([91, 102, 97, 99, 105, 108, 105, 116, 121, 93, 32, 105, 100, 32, 34] : List Int32) ([x0] : List Int32) (15 : Int32) (1 : Int32) (2 : Int32) (16 : Int32) (16 : Int32) (16 : Int32) (0 : Int32) (32 : Int32) (30 : Int32) fo cz h1234 zs1234 O4 hfo U1 U2 U3 O2 hcz f1236 f1237 G_a1211 FV1234 FC1234 FN1234 FM1234 V1234 Gvb1234 n4 E4 V4 C4 A4 hds hP1234 (by rw [hL1234]; exact (show (15 : Nat) ≤ 16 by decide)) rfl rfl rfl (by decide) (by decide) (by rw [hL1234]; rfl) (by decide) (by decide) (by decide) (by rw [hL1234]; exact (show (16 : Nat) ≤ 16 by decide)) (by rw [hL1234]; decide) (by rw [hL1234]; rfl) (by decide) (by decide) (by decide) (by decide) (by decide) (by decide) rfl) pd_34 rfl rfl (pc' := 22) rfl (hD hby d4_19) (argsL := [(.ref ti)]) (rest := []) rfl (W := 0) (fun v1388 T1388 h1388 X1388 hQ1388 => ?_)
      obtain ⟨rfl, K1388, vb1388, zz1388, or1388, Gvb1388, V1388, hl1388, hp1388, FV1388, FC1388, FN1388, FM1388⟩ := hQ1388
      have nevb1388_a1211 : a1211 ≠ vb1388 := own_neor nevb1234_a1211 f1237.lt or1388
      have skvb1388 : h0.size ≤ vb1388 := by rcases or1388 with q | q; rw [q]; exact skvb1234; exact Nat.le_trans f1235.1 q
      have f1389 := f1235.trans K1388 (allS (Or.inr sz1211) (allS (Or.inr skvb1234) all0))
      have f1390 := f1236.keep K1388 (allS G_a1211 (allS Gvb1234 all0))
      have f1391 := f1237.keep K1388
      have zs1388 : s.heap.size ≤ h1388.size := Nat.le_trans zs1234 K1388.1
      have hL1388 : zz1388.length = 32 := hl1388.trans (by rw [hL1234])
      have hP1388 : zz1388.take (2 * ([91, 102, 97, 99, 105, 108, 105, 116, 121, 93, 32, 105, 100, 32, 34, x0] : List Int32).length) = U16 ([91, 102, 97, 99, 105, 108, 105, 116, 121, 93, 32, 105, 100, 32, 34, x0] : List Int32) := hp1388
      show Go p e below s n0 _ _ _ (T1388.setTop (mkF m 22 _ [(.ref a1211)]))
      refine g_ldcS X1388 hx hZ hown (wat hw 165 rfl) (own_wS hw) (fun b cl q => by rw [hsh]; exact OLD.2.2 b cl q) (own_nm3 (by decide) (by decide) (by decide) hT4) (hkc ("com/example/tenorbook/tenorbook/terms/Agreement", 175) (by simp [consts_1])) hcw (vs := [.int 34, .int 32, .int 110, .int 97, .int 109, .int 101, .int 115, .int 32, .int 116, .int 119, .int 111, .int 32, .int 102, .int 97, .int 99, .int 105, .int 108, .int 105, .int 116, .int 105, .int 101, .int 115]) ⟨by decide, rfl⟩ (by decide) (pc' := 24) rfl (hD hby d4_22) (n := 88) (by decide) (by decide) (by decide) (by decide) (fun T1392 h1392 a1392 b1392 XX1392 E1392 EX1392 FC1392 FV1392 AB1392 WH1392 => ?_)
      have X1392 := XX1392
      have nea1392_a1211 : a1211 ≠ a1392 := by rcases WH1392 with q | q; exact (Nat.ne_of_lt (Nat.lt_of_lt_of_le q.1 G_a1211)).symm; exact Nat.ne_of_lt (Nat.lt_of_lt_of_le f1391.lt q.1)
      have neb1392_a1211 : a1211 ≠ b1392 := by rcases WH1392 with q | q; exact (Nat.ne_of_lt (Nat.lt_of_lt_of_le q.2 G_a1211)).symm; exact Nat.ne_of_lt (Nat.lt_of_lt_of_le f1391.lt q.2)
      have nea1392_vb1388 : vb1388 ≠ a1392 := by rcases WH1392 with q | q; exact (Nat.ne_of_lt (Nat.lt_of_lt_of_le q.1 Gvb1388)).symm; exact Nat.ne_of_lt (Nat.lt_of_lt_of_le V1388.lt q.1)
      have neb1392_vb1388 : vb1388 ≠ b1392 := by rcases WH1392 with q | q; exact (Nat.ne_of_lt (Nat.lt_of_lt_of_le q.2 Gvb1388)).symm; exact Nat.ne_of_lt (Nat.lt_of_lt_of_le V1388.lt q.2)
      have f1393 := f1391.ext E1392
      have f1394 := V1388.ext E1392
      have f1395 := FV1388.ext E1392
      have f1396 := FC1388.ext E1392
      have f1397 := FN1388.ext E1392
      have f1398 := FM1388.ext E1392
      have f1399 := f1389.ext E1392
      have Zs1392 : s.heap.size ≤ h1392.size := Nat.le_trans zs1388 E1392.1
      have f1400 := f1390.ext E1392
      show Go p e below s n0 _ _ _ (T1392.setTop (mkF m 24 _ [(.ref a1392), (.ref a1211)]))
      have L1401 : AV Z h1392 b1392 .byte (L1 ([34, 32, 110, 97, 109, 101, 115, 32, 116, 119, 111, 32, 102, 97, 99, 105, 108, 105, 116, 105, 101, 115] : List Int32)) := by rw [show L1 ([34, 32, 110, 97, 109, 101, 115, 32, 116, 119, 111, 32, 102, 97, 99, 105, 108, 105, 116, 105, 101, 115] : List Int32) = [.int 34, .int 32, .int 110, .int 97, .int 109, .int 101, .int 115, .int 32, .int 116, .int 119, .int 111, .int 32, .int 102, .int 97, .int 99, .int 105, .int 108, .int 105, .int 116, .int 105, .int 101, .int 115] from by decide +kernel]; exact AB1392
      refine g_callV X1392 hx hZ hown (wat hw 164 rfl) (wat hw 65 rfl) (wat hw 67 rfl) (wat hw 66 rfl) (wat hw 28 rfl) (wat hw 68 rfl) (by decide) (a := a1211) f1393 (rm10_S l Z a0 hw [] s.heap.size ("\" names two facilities" :: " \"" :: "] " :: "[" :: Ts) a1211 vb1388 a1392 b1392 zz1388 ([91, 102, 97, 99, 105, 108, 105, 116, 121, 93, 32, 105, 100, 32, 34, x0] : List Int32) ([34, 32, 110, 97, 109, 101, 115, 32, 116, 119, 111, 32, 102, 97, 99, 105, 108, 105, 116, 105, 101, 115] : List Int32) (16 : Int32) (22 : Int32) (44 : Int32) (38 : Int32) (32 : Int32) (16 : Int32) (22 : Int32) (76 : Int32) (44 : Int32) (36 : Int32) (44 : Int32) (76 : Int32) (38 : Int32) 76 (38 : Int32) fo cz h1392 Zs1392 O4 hfo U1 U2 U3 O2 hcz f1400 f1393 G_a1211 f1395 f1396 f1397 f1398 f1394 Gvb1388 neb1392_vb1388.symm EX1392 FV1392 FC1392 L1401 (by decide) hP1388 (by rw [hL1388]; exact (show (32 : Nat) ≤ 32 by decide)) rfl rfl rfl (by decide) (by decide) (by rw [hL1388]; rfl) (by decide) (by decide) (by decide) (by decide) (by decide) (by decide) (by decide) (by decide) (by decide) (by decide) (by decide) (by decide) (by decide) rfl (by decide) (by decide) (by rw [hL1388]; decide) (by decide) (show (76 : Nat) ≤ 76 by decide) (by decide) (by decide) (by decide)) pd_34 rfl rfl (pc' := 27) rfl (hD hby d4_24) (argsL := [(.ref a1392)]) (rest := []) rfl (W := 0) (fun v1402 T1402 h1402 X1402 hQ1402 => ?_)
      obtain ⟨rfl, K1402, vb1402, zz1402, or1402, Gvb1402, V1402, hl1402, hp1402, EX1402, FV1402, FC1402, FN1402, FM1402⟩ := hQ1402
      have nevb1402_a1211 : a1211 ≠ vb1402 := own_neor nevb1388_a1211 f1393.lt or1402
      have skvb1402 : h0.size ≤ vb1402 := by rcases or1402 with q | q; rw [q]; exact skvb1388; exact Nat.le_trans f1399.1 q
      have f1403 := f1399.trans K1402 (allS (Or.inr sz1211) (allS (Or.inr skvb1388) all0))
      have f1404 := f1400.keep K1402 (allS G_a1211 (allS Gvb1388 all0))
      have f1405 := f1393.keep K1402
      have zs1402 : s.heap.size ≤ h1402.size := Nat.le_trans Zs1392 K1402.1
      have hL1402 : zz1402.length = 76 := hl1402
      have hP1402 : zz1402.take (2 * ([91, 102, 97, 99, 105, 108, 105, 116, 121, 93, 32, 105, 100, 32, 34, x0, 34, 32, 110, 97, 109, 101, 115, 32, 116, 119, 111, 32, 102, 97, 99, 105, 108, 105, 116, 105, 101, 115] : List Int32).length) = U16 ([91, 102, 97, 99, 105, 108, 105, 116, 121, 93, 32, 105, 100, 32, 34, x0, 34, 32, 110, 97, 109, 101, 115, 32, 116, 119, 111, 32, 102, 97, 99, 105, 108, 105, 116, 105, 101, 115] : List Int32) := hp1402
      show Go p e below s n0 _ _ _ (T1402.setTop (mkF m 27 _ [(.ref a1211)]))
      refine g_callV X1402 hx hZ hown (wat hw 183 rfl) (wat hw 118 rfl) (wat hw 120 rfl) (wat hw 119 rfl) (wat hw 28 rfl) (wat hw 121 rfl) (by decide) (a := a1211) f1405 (rm18_1c l Z a0 hw [] s.heap.size ("\" names two facilities" :: " \"" :: "] " :: "[" :: Ts) a1211 vb1402 zz1402 (76 : Int32) (76 : Int32) 76 (38 : Int32) cz h1402 zs1402 O2 hcz f1404 f1405 FV1402 FC1402 FN1402 FM1402 V1402 (by rw [hL1402]; rfl) rfl hL1402.symm (by rw [hL1402]; decide) EX1402 (by decide)) pd_35 rfl rfl (pc' := 30) rfl (hD hby d4_27) (argsL := []) (rest := []) rfl (W := 0) (fun v1406 T1406 h1406 X1406 hQ1406 => ?_)
      obtain ⟨t1406, tb1406, rfl, Gt1406, S1406, Gtb1406, SB1406, K1406, E1406, FV1406, FC1406, VV1406⟩ := hQ1406
      have net1406_a1211 : a1211 ≠ t1406 := Nat.ne_of_lt (Nat.lt_of_lt_of_le f1405.lt S1406)
      have net1406_vb1402 : vb1402 ≠ t1406 := Nat.ne_of_lt (Nat.lt_of_lt_of_le V1402.lt S1406)
      have szt1406 : h0.size ≤ t1406 := Nat.le_trans f1403.1 S1406
      have netb1406_a1211 : a1211 ≠ tb1406 := Nat.ne_of_lt (Nat.lt_of_lt_of_le f1405.lt SB1406)
      have netb1406_vb1402 : vb1402 ≠ tb1406 := Nat.ne_of_lt (Nat.lt_of_lt_of_le V1402.lt SB1406)
      have sztb1406 : h0.size ≤ tb1406 := Nat.le_trans f1403.1 SB1406
      have f1407 := f1403.trans K1406 all0
      have f1408 := f1404.keep K1406 all0
      have f1409 := f1405.keep K1406
      have f1410 := V1402.keep K1406 nin0
      have f1411 := EX1402.keep K1406
      have f1412 := FV1402.keep K1406 nin0
      have f1413 := FC1402.keep K1406 nin0
      have f1414 := FN1402.keep K1406 nin0
      have f1415 := FM1402.keep K1406 nin0
      have zs1406 : s.heap.size ≤ h1406.size := Nat.le_trans zs1402 K1406.1
      have V1406 : AV Z h1406 tb1406 .byte (U16 ([91, 102, 97, 99, 105, 108, 105, 116, 121, 93, 32, 105, 100, 32, 34, x0, 34, 32, 110, 97, 109, 101, 115, 32, 116, 119, 111, 32, 102, 97, 99, 105, 108, 105, 116, 105, 101, 115] : List Int32)) := by rw [← hP1402]; exact VV1406
      show Go p e below s n0 _ _ _ (T1406.setTop (mkF m 30 _ [(.ref t1406)]))
      exact g_ret X1406 hx hlk hret rfl (Or.inr (Or.inr (Or.inr (Or.inr ⟨rfl, rfl, rfl⟩)))) (hD hby d4_30) (by decide) (by decide) hlow (⟨t1406, rfl, Nat.le_trans hlow Gt1406, f1407, E1406, tb1406, FV1406, Or.inr ⟨FC1406, V1406, own_fa (a := ([91, 102, 97, 99, 105, 108, 105, 116, 121, 93, 32, 105, 100, 32, 34] : List Int32)) (b := ([x0] : List Int32)) (c := ([34, 32, 110, 97, 109, 101, 115, 32, 116, 119, 111, 32, 102, 97, 99, 105, 108, 105, 116, 105, 101, 115] : List Int32)) (by decide) hds (by decide)⟩⟩)
    · skip
      refine g_aloadN X1234 hx (pc' := 19) rfl (hD hby d4_18) rfl rfl ?_
      have nA1416 : a1211 ≠ tib := own_neA f1237 (wat hw 27 rfl) A4
      refine g_callV X1234 hx hZ hown (wat hw 164 rfl) (wat hw 65 rfl) (wat hw 67 rfl) (wat hw 66 rfl) (wat hw 28 rfl) (wat hw 68 rfl) (by decide) (a := a1211) f1237 (rm10_H l Z a0 hw [] s.heap.size (" \"" :: "] " :: "[" :: Ts) a1211 vb1234 ti tib zz1234 ([91, 102, 97, 99, 105, 108, 105, 116, 121, 93, 32, 105, 100, 32, 34] : List Int32) ([x0, x1] : List Int32) (15 : Int32) (2 : Int32) (4 : Int32) (17 : Int32) (16 : Int32) (16 : Int32) (1 : Int32) (17 : Int32) (1 : Int32) (18 : Int32) (18 : Int32) (34 : Int32) (34 : Int32) 34 (68 : Int32) (30 : Int32) fo cz h1234 zs1234 O4 hfo U1 U2 U3 O2 hcz f1236 f1237 G_a1211 FV1234 FC1234 FN1234 FM1234 V1234 Gvb1234 n4 E4 V4 C4 A4 hds hP1234 (by rw [hL1234]; exact (show (15 : Nat) ≤ 16 by decide)) rfl rfl rfl (by decide) (by decide) (by rw [hL1234]; rfl) (by decide) (by decide) (by decide) (by decide) (by decide) (by decide) (by decide) (by decide) (by decide) (by decide) (by decide) (by decide) (by decide) rfl (by decide) (by decide) (by rw [hL1234]; decide) (by decide) (show (17 : Nat) ≤ 34 by decide) (by decide) rfl (by decide) (by decide) (by decide) (by decide) (by decide) (by decide) rfl) pd_34 rfl rfl (pc' := 22) rfl (hD hby d4_19) (argsL := [(.ref ti)]) (rest := []) rfl (W := 0) (fun v1417 T1417 h1417 X1417 hQ1417 => ?_)
      obtain ⟨rfl, K1417, vb1417, zz1417, or1417, Gvb1417, V1417, hl1417, hp1417, FV1417, FC1417, FN1417, FM1417⟩ := hQ1417
      have nevb1417_a1211 : a1211 ≠ vb1417 := own_neor nevb1234_a1211 f1237.lt or1417
      have skvb1417 : h0.size ≤ vb1417 := by rcases or1417 with q | q; rw [q]; exact skvb1234; exact Nat.le_trans f1235.1 q
      have f1418 := f1235.trans K1417 (allS (Or.inr sz1211) (allS (Or.inr skvb1234) all0))
      have f1419 := f1236.keep K1417 (allS G_a1211 (allS Gvb1234 all0))
      have f1420 := f1237.keep K1417
      have zs1417 : s.heap.size ≤ h1417.size := Nat.le_trans zs1234 K1417.1
      have hL1417 : zz1417.length = 68 := hl1417
      have hP1417 : zz1417.take (2 * ([91, 102, 97, 99, 105, 108, 105, 116, 121, 93, 32, 105, 100, 32, 34, x0, x1] : List Int32).length) = U16 ([91, 102, 97, 99, 105, 108, 105, 116, 121, 93, 32, 105, 100, 32, 34, x0, x1] : List Int32) := hp1417
      show Go p e below s n0 _ _ _ (T1417.setTop (mkF m 22 _ [(.ref a1211)]))
      refine g_ldcS X1417 hx hZ hown (wat hw 165 rfl) (own_wS hw) (fun b cl q => by rw [hsh]; exact OLD.2.2 b cl q) (own_nm3 (by decide) (by decide) (by decide) hT4) (hkc ("com/example/tenorbook/tenorbook/terms/Agreement", 175) (by simp [consts_1])) hcw (vs := [.int 34, .int 32, .int 110, .int 97, .int 109, .int 101, .int 115, .int 32, .int 116, .int 119, .int 111, .int 32, .int 102, .int 97, .int 99, .int 105, .int 108, .int 105, .int 116, .int 105, .int 101, .int 115]) ⟨by decide, rfl⟩ (by decide) (pc' := 24) rfl (hD hby d4_22) (n := 88) (by decide) (by decide) (by decide) (by decide) (fun T1421 h1421 a1421 b1421 XX1421 E1421 EX1421 FC1421 FV1421 AB1421 WH1421 => ?_)
      have X1421 := XX1421
      have nea1421_a1211 : a1211 ≠ a1421 := by rcases WH1421 with q | q; exact (Nat.ne_of_lt (Nat.lt_of_lt_of_le q.1 G_a1211)).symm; exact Nat.ne_of_lt (Nat.lt_of_lt_of_le f1420.lt q.1)
      have neb1421_a1211 : a1211 ≠ b1421 := by rcases WH1421 with q | q; exact (Nat.ne_of_lt (Nat.lt_of_lt_of_le q.2 G_a1211)).symm; exact Nat.ne_of_lt (Nat.lt_of_lt_of_le f1420.lt q.2)
      have nea1421_vb1417 : vb1417 ≠ a1421 := by rcases WH1421 with q | q; exact (Nat.ne_of_lt (Nat.lt_of_lt_of_le q.1 Gvb1417)).symm; exact Nat.ne_of_lt (Nat.lt_of_lt_of_le V1417.lt q.1)
      have neb1421_vb1417 : vb1417 ≠ b1421 := by rcases WH1421 with q | q; exact (Nat.ne_of_lt (Nat.lt_of_lt_of_le q.2 Gvb1417)).symm; exact Nat.ne_of_lt (Nat.lt_of_lt_of_le V1417.lt q.2)
      have f1422 := f1420.ext E1421
      have f1423 := V1417.ext E1421
      have f1424 := FV1417.ext E1421
      have f1425 := FC1417.ext E1421
      have f1426 := FN1417.ext E1421
      have f1427 := FM1417.ext E1421
      have f1428 := f1418.ext E1421
      have Zs1421 : s.heap.size ≤ h1421.size := Nat.le_trans zs1417 E1421.1
      have f1429 := f1419.ext E1421
      show Go p e below s n0 _ _ _ (T1421.setTop (mkF m 24 _ [(.ref a1421), (.ref a1211)]))
      have L1430 : AV Z h1421 b1421 .byte (L1 ([34, 32, 110, 97, 109, 101, 115, 32, 116, 119, 111, 32, 102, 97, 99, 105, 108, 105, 116, 105, 101, 115] : List Int32)) := by rw [show L1 ([34, 32, 110, 97, 109, 101, 115, 32, 116, 119, 111, 32, 102, 97, 99, 105, 108, 105, 116, 105, 101, 115] : List Int32) = [.int 34, .int 32, .int 110, .int 97, .int 109, .int 101, .int 115, .int 32, .int 116, .int 119, .int 111, .int 32, .int 102, .int 97, .int 99, .int 105, .int 108, .int 105, .int 116, .int 105, .int 101, .int 115] from by decide +kernel]; exact AB1421
      refine g_callV X1421 hx hZ hown (wat hw 164 rfl) (wat hw 65 rfl) (wat hw 67 rfl) (wat hw 66 rfl) (wat hw 28 rfl) (wat hw 68 rfl) (by decide) (a := a1211) f1422 (rm10_S l Z a0 hw [] s.heap.size ("\" names two facilities" :: " \"" :: "] " :: "[" :: Ts) a1211 vb1417 a1421 b1421 zz1417 ([91, 102, 97, 99, 105, 108, 105, 116, 121, 93, 32, 105, 100, 32, 34, x0, x1] : List Int32) ([34, 32, 110, 97, 109, 101, 115, 32, 116, 119, 111, 32, 102, 97, 99, 105, 108, 105, 116, 105, 101, 115] : List Int32) (17 : Int32) (22 : Int32) (44 : Int32) (39 : Int32) (68 : Int32) (34 : Int32) (5 : Int32) (78 : Int32) (10 : Int32) (72 : Int32) (72 : Int32) (140 : Int32) (70 : Int32) 140 (70 : Int32) fo cz h1421 Zs1421 O4 hfo U1 U2 U3 O2 hcz f1429 f1422 G_a1211 f1424 f1425 f1426 f1427 f1423 Gvb1417 neb1421_vb1417.symm EX1421 FV1421 FC1421 L1430 (by decide) hP1417 (by rw [hL1417]; exact (show (34 : Nat) ≤ 68 by decide)) rfl rfl rfl (by decide) (by decide) (by rw [hL1417]; rfl) (by decide) (by decide) (by decide) (by decide) (by decide) (by decide) (by decide) (by decide) (by decide) (by decide) (by decide) (by decide) (by decide) rfl (by decide) (by decide) (by rw [hL1417]; decide) (by decide) (show (78 : Nat) ≤ 140 by decide) (by decide) (by decide) (by decide)) pd_34 rfl rfl (pc' := 27) rfl (hD hby d4_24) (argsL := [(.ref a1421)]) (rest := []) rfl (W := 0) (fun v1431 T1431 h1431 X1431 hQ1431 => ?_)
      obtain ⟨rfl, K1431, vb1431, zz1431, or1431, Gvb1431, V1431, hl1431, hp1431, EX1431, FV1431, FC1431, FN1431, FM1431⟩ := hQ1431
      have nevb1431_a1211 : a1211 ≠ vb1431 := own_neor nevb1417_a1211 f1422.lt or1431
      have skvb1431 : h0.size ≤ vb1431 := by rcases or1431 with q | q; rw [q]; exact skvb1417; exact Nat.le_trans f1428.1 q
      have f1432 := f1428.trans K1431 (allS (Or.inr sz1211) (allS (Or.inr skvb1417) all0))
      have f1433 := f1429.keep K1431 (allS G_a1211 (allS Gvb1417 all0))
      have f1434 := f1422.keep K1431
      have zs1431 : s.heap.size ≤ h1431.size := Nat.le_trans Zs1421 K1431.1
      have hL1431 : zz1431.length = 140 := hl1431
      have hP1431 : zz1431.take (2 * ([91, 102, 97, 99, 105, 108, 105, 116, 121, 93, 32, 105, 100, 32, 34, x0, x1, 34, 32, 110, 97, 109, 101, 115, 32, 116, 119, 111, 32, 102, 97, 99, 105, 108, 105, 116, 105, 101, 115] : List Int32).length) = U16 ([91, 102, 97, 99, 105, 108, 105, 116, 121, 93, 32, 105, 100, 32, 34, x0, x1, 34, 32, 110, 97, 109, 101, 115, 32, 116, 119, 111, 32, 102, 97, 99, 105, 108, 105, 116, 105, 101, 115] : List Int32) := hp1431
      show Go p e below s n0 _ _ _ (T1431.setTop (mkF m 27 _ [(.ref a1211)]))
      refine g_callV X1431 hx hZ hown (wat hw 183 rfl) (wat hw 118 rfl) (wat hw 120 rfl) (wat hw 119 rfl) (wat hw 28 rfl) (wat hw 121 rfl) (by decide) (a := a1211) f1434 (rm18_1r l Z a0 hw [] s.heap.size ("\" names two facilities" :: " \"" :: "] " :: "[" :: Ts) a1211 vb1431 zz1431 (140 : Int32) (78 : Int32) 78 (39 : Int32) cz h1431 zs1431 O2 hcz f1433 f1434 FV1431 FC1431 FN1431 FM1431 V1431 (by rw [hL1431]; rfl) rfl (by decide) (by decide) (by decide) (by decide) (by rw [hL1431]; decide) (by decide)) pd_35 rfl rfl (pc' := 30) rfl (hD hby d4_27) (argsL := []) (rest := []) rfl (W := 0) (fun v1435 T1435 h1435 X1435 hQ1435 => ?_)
      obtain ⟨t1435, tb1435, rfl, Gt1435, S1435, Gtb1435, SB1435, K1435, E1435, FV1435, FC1435, VV1435⟩ := hQ1435
      have net1435_a1211 : a1211 ≠ t1435 := Nat.ne_of_lt (Nat.lt_of_lt_of_le f1434.lt S1435)
      have net1435_vb1431 : vb1431 ≠ t1435 := Nat.ne_of_lt (Nat.lt_of_lt_of_le V1431.lt S1435)
      have szt1435 : h0.size ≤ t1435 := Nat.le_trans f1432.1 S1435
      have netb1435_a1211 : a1211 ≠ tb1435 := Nat.ne_of_lt (Nat.lt_of_lt_of_le f1434.lt SB1435)
      have netb1435_vb1431 : vb1431 ≠ tb1435 := Nat.ne_of_lt (Nat.lt_of_lt_of_le V1431.lt SB1435)
      have sztb1435 : h0.size ≤ tb1435 := Nat.le_trans f1432.1 SB1435
      have f1436 := f1432.trans K1435 all0
      have f1437 := f1433.keep K1435 all0
      have f1438 := f1434.keep K1435
      have f1439 := V1431.keep K1435 nin0
      have f1440 := EX1431.keep K1435
      have f1441 := FV1431.keep K1435 nin0
      have f1442 := FC1431.keep K1435 nin0
      have f1443 := FN1431.keep K1435 nin0
      have f1444 := FM1431.keep K1435 nin0
      have zs1435 : s.heap.size ≤ h1435.size := Nat.le_trans zs1431 K1435.1
      have V1435 : AV Z h1435 tb1435 .byte (U16 ([91, 102, 97, 99, 105, 108, 105, 116, 121, 93, 32, 105, 100, 32, 34, x0, x1, 34, 32, 110, 97, 109, 101, 115, 32, 116, 119, 111, 32, 102, 97, 99, 105, 108, 105, 116, 105, 101, 115] : List Int32)) := by rw [← hP1431]; exact VV1435
      show Go p e below s n0 _ _ _ (T1435.setTop (mkF m 30 _ [(.ref t1435)]))
      exact g_ret X1435 hx hlk hret rfl (Or.inr (Or.inr (Or.inr (Or.inr ⟨rfl, rfl, rfl⟩)))) (hD hby d4_30) (by decide) (by decide) hlow (⟨t1435, rfl, Nat.le_trans hlow Gt1435, f1436, E1435, tb1435, FV1435, Or.inr ⟨FC1435, V1435, own_fa (a := ([91, 102, 97, 99, 105, 108, 105, 116, 121, 93, 32, 105, 100, 32, 34] : List Int32)) (b := ([x0, x1] : List Int32)) (c := ([34, 32, 110, 97, 109, 101, 115, 32, 116, 119, 111, 32, 102, 97, 99, 105, 108, 105, 116, 105, 101, 115] : List Int32)) (by decide) hds (by decide)⟩⟩)
    · skip
      refine g_aloadN X1234 hx (pc' := 19) rfl (hD hby d4_18) rfl rfl ?_
      have nA1445 : a1211 ≠ tib := own_neA f1237 (wat hw 27 rfl) A4
      refine g_callV X1234 hx hZ hown (wat hw 164 rfl) (wat hw 65 rfl) (wat hw 67 rfl) (wat hw 66 rfl) (wat hw 28 rfl) (wat hw 68 rfl) (by decide) (a := a1211) f1237 (rm10_H l Z a0 hw [] s.heap.size (" \"" :: "] " :: "[" :: Ts) a1211 vb1234 ti tib zz1234 ([91, 102, 97, 99, 105, 108, 105, 116, 121, 93, 32, 105, 100, 32, 34] : List Int32) ([x0, x1, x2] : List Int32) (15 : Int32) (3 : Int32) (6 : Int32) (18 : Int32) (16 : Int32) (16 : Int32) (2 : Int32) (18 : Int32) (2 : Int32) (18 : Int32) (18 : Int32) (34 : Int32) (34 : Int32) 34 (68 : Int32) (30 : Int32) fo cz h1234 zs1234 O4 hfo U1 U2 U3 O2 hcz f1236 f1237 G_a1211 FV1234 FC1234 FN1234 FM1234 V1234 Gvb1234 n4 E4 V4 C4 A4 hds hP1234 (by rw [hL1234]; exact (show (15 : Nat) ≤ 16 by decide)) rfl rfl rfl (by decide) (by decide) (by rw [hL1234]; rfl) (by decide) (by decide) (by decide) (by decide) (by decide) (by decide) (by decide) (by decide) (by decide) (by decide) (by decide) (by decide) (by decide) rfl (by decide) (by decide) (by rw [hL1234]; decide) (by decide) (show (18 : Nat) ≤ 34 by decide) (by decide) rfl (by decide) (by decide) (by decide) (by decide) (by decide) (by decide) rfl) pd_34 rfl rfl (pc' := 22) rfl (hD hby d4_19) (argsL := [(.ref ti)]) (rest := []) rfl (W := 0) (fun v1446 T1446 h1446 X1446 hQ1446 => ?_)
      obtain ⟨rfl, K1446, vb1446, zz1446, or1446, Gvb1446, V1446, hl1446, hp1446, FV1446, FC1446, FN1446, FM1446⟩ := hQ1446
      have nevb1446_a1211 : a1211 ≠ vb1446 := own_neor nevb1234_a1211 f1237.lt or1446
      have skvb1446 : h0.size ≤ vb1446 := by rcases or1446 with q | q; rw [q]; exact skvb1234; exact Nat.le_trans f1235.1 q
      have f1447 := f1235.trans K1446 (allS (Or.inr sz1211) (allS (Or.inr skvb1234) all0))
      have f1448 := f1236.keep K1446 (allS G_a1211 (allS Gvb1234 all0))
      have f1449 := f1237.keep K1446
      have zs1446 : s.heap.size ≤ h1446.size := Nat.le_trans zs1234 K1446.1
      have hL1446 : zz1446.length = 68 := hl1446
      have hP1446 : zz1446.take (2 * ([91, 102, 97, 99, 105, 108, 105, 116, 121, 93, 32, 105, 100, 32, 34, x0, x1, x2] : List Int32).length) = U16 ([91, 102, 97, 99, 105, 108, 105, 116, 121, 93, 32, 105, 100, 32, 34, x0, x1, x2] : List Int32) := hp1446
      show Go p e below s n0 _ _ _ (T1446.setTop (mkF m 22 _ [(.ref a1211)]))
      refine g_ldcS X1446 hx hZ hown (wat hw 165 rfl) (own_wS hw) (fun b cl q => by rw [hsh]; exact OLD.2.2 b cl q) (own_nm3 (by decide) (by decide) (by decide) hT4) (hkc ("com/example/tenorbook/tenorbook/terms/Agreement", 175) (by simp [consts_1])) hcw (vs := [.int 34, .int 32, .int 110, .int 97, .int 109, .int 101, .int 115, .int 32, .int 116, .int 119, .int 111, .int 32, .int 102, .int 97, .int 99, .int 105, .int 108, .int 105, .int 116, .int 105, .int 101, .int 115]) ⟨by decide, rfl⟩ (by decide) (pc' := 24) rfl (hD hby d4_22) (n := 88) (by decide) (by decide) (by decide) (by decide) (fun T1450 h1450 a1450 b1450 XX1450 E1450 EX1450 FC1450 FV1450 AB1450 WH1450 => ?_)
      have X1450 := XX1450
      have nea1450_a1211 : a1211 ≠ a1450 := by rcases WH1450 with q | q; exact (Nat.ne_of_lt (Nat.lt_of_lt_of_le q.1 G_a1211)).symm; exact Nat.ne_of_lt (Nat.lt_of_lt_of_le f1449.lt q.1)
      have neb1450_a1211 : a1211 ≠ b1450 := by rcases WH1450 with q | q; exact (Nat.ne_of_lt (Nat.lt_of_lt_of_le q.2 G_a1211)).symm; exact Nat.ne_of_lt (Nat.lt_of_lt_of_le f1449.lt q.2)
      have nea1450_vb1446 : vb1446 ≠ a1450 := by rcases WH1450 with q | q; exact (Nat.ne_of_lt (Nat.lt_of_lt_of_le q.1 Gvb1446)).symm; exact Nat.ne_of_lt (Nat.lt_of_lt_of_le V1446.lt q.1)
      have neb1450_vb1446 : vb1446 ≠ b1450 := by rcases WH1450 with q | q; exact (Nat.ne_of_lt (Nat.lt_of_lt_of_le q.2 Gvb1446)).symm; exact Nat.ne_of_lt (Nat.lt_of_lt_of_le V1446.lt q.2)
      have f1451 := f1449.ext E1450
      have f1452 := V1446.ext E1450
      have f1453 := FV1446.ext E1450
      have f1454 := FC1446.ext E1450
      have f1455 := FN1446.ext E1450
      have f1456 := FM1446.ext E1450
      have f1457 := f1447.ext E1450
      have Zs1450 : s.heap.size ≤ h1450.size := Nat.le_trans zs1446 E1450.1
      have f1458 := f1448.ext E1450
      show Go p e below s n0 _ _ _ (T1450.setTop (mkF m 24 _ [(.ref a1450), (.ref a1211)]))
      have L1459 : AV Z h1450 b1450 .byte (L1 ([34, 32, 110, 97, 109, 101, 115, 32, 116, 119, 111, 32, 102, 97, 99, 105, 108, 105, 116, 105, 101, 115] : List Int32)) := by rw [show L1 ([34, 32, 110, 97, 109, 101, 115, 32, 116, 119, 111, 32, 102, 97, 99, 105, 108, 105, 116, 105, 101, 115] : List Int32) = [.int 34, .int 32, .int 110, .int 97, .int 109, .int 101, .int 115, .int 32, .int 116, .int 119, .int 111, .int 32, .int 102, .int 97, .int 99, .int 105, .int 108, .int 105, .int 116, .int 105, .int 101, .int 115] from by decide +kernel]; exact AB1450
      refine g_callV X1450 hx hZ hown (wat hw 164 rfl) (wat hw 65 rfl) (wat hw 67 rfl) (wat hw 66 rfl) (wat hw 28 rfl) (wat hw 68 rfl) (by decide) (a := a1211) f1451 (rm10_S l Z a0 hw [] s.heap.size ("\" names two facilities" :: " \"" :: "] " :: "[" :: Ts) a1211 vb1446 a1450 b1450 zz1446 ([91, 102, 97, 99, 105, 108, 105, 116, 121, 93, 32, 105, 100, 32, 34, x0, x1, x2] : List Int32) ([34, 32, 110, 97, 109, 101, 115, 32, 116, 119, 111, 32, 102, 97, 99, 105, 108, 105, 116, 105, 101, 115] : List Int32) (18 : Int32) (22 : Int32) (44 : Int32) (40 : Int32) (68 : Int32) (34 : Int32) (6 : Int32) (80 : Int32) (12 : Int32) (72 : Int32) (72 : Int32) (140 : Int32) (70 : Int32) 140 (70 : Int32) fo cz h1450 Zs1450 O4 hfo U1 U2 U3 O2 hcz f1458 f1451 G_a1211 f1453 f1454 f1455 f1456 f1452 Gvb1446 neb1450_vb1446.symm EX1450 FV1450 FC1450 L1459 (by decide) hP1446 (by rw [hL1446]; exact (show (36 : Nat) ≤ 68 by decide)) rfl rfl rfl (by decide) (by decide) (by rw [hL1446]; rfl) (by decide) (by decide) (by decide) (by decide) (by decide) (by decide) (by decide) (by decide) (by decide) (by decide) (by decide) (by decide) (by decide) rfl (by decide) (by decide) (by rw [hL1446]; decide) (by decide) (show (80 : Nat) ≤ 140 by decide) (by decide) (by decide) (by decide)) pd_34 rfl rfl (pc' := 27) rfl (hD hby d4_24) (argsL := [(.ref a1450)]) (rest := []) rfl (W := 0) (fun v1460 T1460 h1460 X1460 hQ1460 => ?_)
      obtain ⟨rfl, K1460, vb1460, zz1460, or1460, Gvb1460, V1460, hl1460, hp1460, EX1460, FV1460, FC1460, FN1460, FM1460⟩ := hQ1460
      have nevb1460_a1211 : a1211 ≠ vb1460 := own_neor nevb1446_a1211 f1451.lt or1460
      have skvb1460 : h0.size ≤ vb1460 := by rcases or1460 with q | q; rw [q]; exact skvb1446; exact Nat.le_trans f1457.1 q
      have f1461 := f1457.trans K1460 (allS (Or.inr sz1211) (allS (Or.inr skvb1446) all0))
      have f1462 := f1458.keep K1460 (allS G_a1211 (allS Gvb1446 all0))
      have f1463 := f1451.keep K1460
      have zs1460 : s.heap.size ≤ h1460.size := Nat.le_trans Zs1450 K1460.1
      have hL1460 : zz1460.length = 140 := hl1460
      have hP1460 : zz1460.take (2 * ([91, 102, 97, 99, 105, 108, 105, 116, 121, 93, 32, 105, 100, 32, 34, x0, x1, x2, 34, 32, 110, 97, 109, 101, 115, 32, 116, 119, 111, 32, 102, 97, 99, 105, 108, 105, 116, 105, 101, 115] : List Int32).length) = U16 ([91, 102, 97, 99, 105, 108, 105, 116, 121, 93, 32, 105, 100, 32, 34, x0, x1, x2, 34, 32, 110, 97, 109, 101, 115, 32, 116, 119, 111, 32, 102, 97, 99, 105, 108, 105, 116, 105, 101, 115] : List Int32) := hp1460
      show Go p e below s n0 _ _ _ (T1460.setTop (mkF m 27 _ [(.ref a1211)]))
      refine g_callV X1460 hx hZ hown (wat hw 183 rfl) (wat hw 118 rfl) (wat hw 120 rfl) (wat hw 119 rfl) (wat hw 28 rfl) (wat hw 121 rfl) (by decide) (a := a1211) f1463 (rm18_1r l Z a0 hw [] s.heap.size ("\" names two facilities" :: " \"" :: "] " :: "[" :: Ts) a1211 vb1460 zz1460 (140 : Int32) (80 : Int32) 80 (40 : Int32) cz h1460 zs1460 O2 hcz f1462 f1463 FV1460 FC1460 FN1460 FM1460 V1460 (by rw [hL1460]; rfl) rfl (by decide) (by decide) (by decide) (by decide) (by rw [hL1460]; decide) (by decide)) pd_35 rfl rfl (pc' := 30) rfl (hD hby d4_27) (argsL := []) (rest := []) rfl (W := 0) (fun v1464 T1464 h1464 X1464 hQ1464 => ?_)
      obtain ⟨t1464, tb1464, rfl, Gt1464, S1464, Gtb1464, SB1464, K1464, E1464, FV1464, FC1464, VV1464⟩ := hQ1464
      have net1464_a1211 : a1211 ≠ t1464 := Nat.ne_of_lt (Nat.lt_of_lt_of_le f1463.lt S1464)
      have net1464_vb1460 : vb1460 ≠ t1464 := Nat.ne_of_lt (Nat.lt_of_lt_of_le V1460.lt S1464)
      have szt1464 : h0.size ≤ t1464 := Nat.le_trans f1461.1 S1464
      have netb1464_a1211 : a1211 ≠ tb1464 := Nat.ne_of_lt (Nat.lt_of_lt_of_le f1463.lt SB1464)
      have netb1464_vb1460 : vb1460 ≠ tb1464 := Nat.ne_of_lt (Nat.lt_of_lt_of_le V1460.lt SB1464)
      have sztb1464 : h0.size ≤ tb1464 := Nat.le_trans f1461.1 SB1464
      have f1465 := f1461.trans K1464 all0
      have f1466 := f1462.keep K1464 all0
      have f1467 := f1463.keep K1464
      have f1468 := V1460.keep K1464 nin0
      have f1469 := EX1460.keep K1464
      have f1470 := FV1460.keep K1464 nin0
      have f1471 := FC1460.keep K1464 nin0
      have f1472 := FN1460.keep K1464 nin0
      have f1473 := FM1460.keep K1464 nin0
      have zs1464 : s.heap.size ≤ h1464.size := Nat.le_trans zs1460 K1464.1
      have V1464 : AV Z h1464 tb1464 .byte (U16 ([91, 102, 97, 99, 105, 108, 105, 116, 121, 93, 32, 105, 100, 32, 34, x0, x1, x2, 34, 32, 110, 97, 109, 101, 115, 32, 116, 119, 111, 32, 102, 97, 99, 105, 108, 105, 116, 105, 101, 115] : List Int32)) := by rw [← hP1460]; exact VV1464
      show Go p e below s n0 _ _ _ (T1464.setTop (mkF m 30 _ [(.ref t1464)]))
      exact g_ret X1464 hx hlk hret rfl (Or.inr (Or.inr (Or.inr (Or.inr ⟨rfl, rfl, rfl⟩)))) (hD hby d4_30) (by decide) (by decide) hlow (⟨t1464, rfl, Nat.le_trans hlow Gt1464, f1465, E1464, tb1464, FV1464, Or.inr ⟨FC1464, V1464, own_fa (a := ([91, 102, 97, 99, 105, 108, 105, 116, 121, 93, 32, 105, 100, 32, 34] : List Int32)) (b := ([x0, x1, x2] : List Int32)) (c := ([34, 32, 110, 97, 109, 101, 115, 32, 116, 119, 111, 32, 102, 97, 99, 105, 108, 105, 116, 105, 101, 115] : List Int32)) (by decide) hds (by decide)⟩⟩)
theorem rm33 (l : Launch) (Z : State) (a0 : Array Value) (hw : HW a0 Z) (ws : List Jvm.Cond) (n0 : Nat) (Ts : List String) (t : Addr) (tl : List Int32) (n' m' : Int32) (fo : Value) (cz : Int32) (h0 : Heap) (hn0 : n0 ≤ h0.size) (O4 : St1 Z fo) (hfo : fo.isRef = true) (U1 : St2 Z (.int 1)) (U2 : St3 Z (.int 0)) (U3 : St4 Z (.int 8)) (O2 : St0 Z (.int cz)) (hcz : ¬ cz = 0) (OLD : OldP Z n0 h0) (S0 : StrC Z h0 t (([91, 102, 97, 99, 105, 108, 105, 116, 121, 93, 32, 105, 100, 32, 34] : List Int32) ++ tl)) (hn : n'.toInt = ((([91, 102, 97, 99, 105, 108, 105, 116, 121, 93, 32, 105, 100, 32, 34] : List Int32) ++ tl).length : Int)) (hM : m'.toInt = ((2 * (([91, 102, 97, 99, 105, 108, 105, 116, 121, 93, 32, 105, 100, 32, 34] : List Int32) ++ tl).length : Nat) : Int)) (hs : m' >>> ((1 : Int32) &&& 31) = n') (hb : (([91, 102, 97, 99, 105, 108, 105, 116, 121, 93, 32, 105, 100, 32, 34] : List Int32) ++ tl).length < 500) :
    Con l Z n0 Ts (Ts) (⟨"com/example/tenorbook/tenorbook/terms/AgreementNamesTwoFacilitiesPinLaw", "prefix", "(Ljava/lang/String;)Z"⟩ : MethodName) method_3_code 1 (some .boolean) ws ({ frames := 5, cells := 0, slots := 0, locals := 112 } : Room) #[(.ref t)] h0 (fun v h => v = some (.int 1) ∧ h = h0) := by
  refine con_start (fr0 := fun m => mkF m 0 #[.val (.ref t)] []) ?_
  intro p e s m below meth c T0 hx hZ hby hml hown hnm hret hlk hsh XA
  have X0 := XA n0
  have hlow : n0 ≤ s.heap.size := by rw [hsh]; exact hn0
  replace hown : s.vm.findClass "com/example/tenorbook/tenorbook/terms/AgreementNamesTwoFacilitiesPinLaw" = some m.cls := hown
  replace hml : c.maxLocals = 1 := hml
  refine g_aloadN X0 hx (pc' := 1) rfl (hD hby d33_0) rfl rfl ?_
  refine g_iconst X0 hx (pc' := 2) (z := (0 : Int32)) rfl (hD hby d33_1) rfl ?_
  refine g_callV X0 hx hZ hown (wat hw 198 rfl) (wat hw 199 rfl) (wat hw 201 rfl) (wat hw 200 rfl) (wat hw 2 rfl) (wat hw 202 rfl) (by decide) (a := t) S0.1 (rm34 l Z a0 hw [] n0 (Ts) t (([91, 102, 97, 99, 105, 108, 105, 116, 121, 93, 32, 105, 100, 32, 34] : List Int32) ++ tl) (0 : Int32) n' m' (0) fo cz h0 hn0 O4 hfo U1 U2 U3 O2 hcz OLD S0 rfl (by simp) hb hn hM hs) pd_38 rfl rfl (pc' := 5) rfl (hD hby d33_2) (argsL := [(.int 0)]) (rest := []) rfl (W := 0) (fun v1474 T1474 h1474 X1474 hQ1474 => ?_)
  obtain ⟨rfl, he1474⟩ := hQ1474
  rw [he1474] at X1474
  show Go p e below s n0 _ _ _ (T1474.setTop (mkF m 5 _ [(.int ((([91, 102, 97, 99, 105, 108, 105, 116, 121, 93, 32, 105, 100, 32, 34] : List Int32) ++ tl).getD (0) 0))]))
  refine g_normI (z := (91 : Int32)) rfl ?_
  refine g_bipush X1474 hx (pc' := 7) (z := (91 : Int32)) rfl (hD hby d33_5) rfl ?_
  refine g_icmpN X1474 hx (pcN := 10) (hD hby d33_7) rfl (show ¬ (¬ (91 : Int32) = (91 : Int32)) from by decide) ?_
  refine g_aloadN X1474 hx (pc' := 11) rfl (hD hby d33_10) rfl rfl ?_
  refine g_iconst X1474 hx (pc' := 12) (z := (1 : Int32)) rfl (hD hby d33_11) rfl ?_
  refine g_callV X1474 hx hZ hown (wat hw 198 rfl) (wat hw 199 rfl) (wat hw 201 rfl) (wat hw 200 rfl) (wat hw 2 rfl) (wat hw 202 rfl) (by decide) (a := t) S0.1 (rm34 l Z a0 hw [] n0 (Ts) t (([91, 102, 97, 99, 105, 108, 105, 116, 121, 93, 32, 105, 100, 32, 34] : List Int32) ++ tl) (1 : Int32) n' m' (1) fo cz h0 hn0 O4 hfo U1 U2 U3 O2 hcz OLD S0 rfl (by simp) hb hn hM hs) pd_38 rfl rfl (pc' := 15) rfl (hD hby d33_12) (argsL := [(.int 1)]) (rest := []) rfl (W := 0) (fun v1475 T1475 h1475 X1475 hQ1475 => ?_)
  obtain ⟨rfl, he1475⟩ := hQ1475
  rw [he1475] at X1475
  show Go p e below s n0 _ _ _ (T1475.setTop (mkF m 15 _ [(.int ((([91, 102, 97, 99, 105, 108, 105, 116, 121, 93, 32, 105, 100, 32, 34] : List Int32) ++ tl).getD (1) 0))]))
  refine g_normI (z := (102 : Int32)) rfl ?_
  refine g_bipush X1475 hx (pc' := 17) (z := (102 : Int32)) rfl (hD hby d33_15) rfl ?_
  refine g_icmpN X1475 hx (pcN := 20) (hD hby d33_17) rfl (show ¬ (¬ (102 : Int32) = (102 : Int32)) from by decide) ?_
  refine g_aloadN X1475 hx (pc' := 21) rfl (hD hby d33_20) rfl rfl ?_
  refine g_iconst X1475 hx (pc' := 22) (z := (2 : Int32)) rfl (hD hby d33_21) rfl ?_
  refine g_callV X1475 hx hZ hown (wat hw 198 rfl) (wat hw 199 rfl) (wat hw 201 rfl) (wat hw 200 rfl) (wat hw 2 rfl) (wat hw 202 rfl) (by decide) (a := t) S0.1 (rm34 l Z a0 hw [] n0 (Ts) t (([91, 102, 97, 99, 105, 108, 105, 116, 121, 93, 32, 105, 100, 32, 34] : List Int32) ++ tl) (2 : Int32) n' m' (2) fo cz h0 hn0 O4 hfo U1 U2 U3 O2 hcz OLD S0 rfl (by simp) hb hn hM hs) pd_38 rfl rfl (pc' := 25) rfl (hD hby d33_22) (argsL := [(.int 2)]) (rest := []) rfl (W := 0) (fun v1476 T1476 h1476 X1476 hQ1476 => ?_)
  obtain ⟨rfl, he1476⟩ := hQ1476
  rw [he1476] at X1476
  show Go p e below s n0 _ _ _ (T1476.setTop (mkF m 25 _ [(.int ((([91, 102, 97, 99, 105, 108, 105, 116, 121, 93, 32, 105, 100, 32, 34] : List Int32) ++ tl).getD (2) 0))]))
  refine g_normI (z := (97 : Int32)) rfl ?_
  refine g_bipush X1476 hx (pc' := 27) (z := (97 : Int32)) rfl (hD hby d33_25) rfl ?_
  refine g_icmpN X1476 hx (pcN := 30) (hD hby d33_27) rfl (show ¬ (¬ (97 : Int32) = (97 : Int32)) from by decide) ?_
  refine g_aloadN X1476 hx (pc' := 31) rfl (hD hby d33_30) rfl rfl ?_
  refine g_iconst X1476 hx (pc' := 32) (z := (3 : Int32)) rfl (hD hby d33_31) rfl ?_
  refine g_callV X1476 hx hZ hown (wat hw 198 rfl) (wat hw 199 rfl) (wat hw 201 rfl) (wat hw 200 rfl) (wat hw 2 rfl) (wat hw 202 rfl) (by decide) (a := t) S0.1 (rm34 l Z a0 hw [] n0 (Ts) t (([91, 102, 97, 99, 105, 108, 105, 116, 121, 93, 32, 105, 100, 32, 34] : List Int32) ++ tl) (3 : Int32) n' m' (3) fo cz h0 hn0 O4 hfo U1 U2 U3 O2 hcz OLD S0 rfl (by simp) hb hn hM hs) pd_38 rfl rfl (pc' := 35) rfl (hD hby d33_32) (argsL := [(.int 3)]) (rest := []) rfl (W := 0) (fun v1477 T1477 h1477 X1477 hQ1477 => ?_)
  obtain ⟨rfl, he1477⟩ := hQ1477
  rw [he1477] at X1477
  show Go p e below s n0 _ _ _ (T1477.setTop (mkF m 35 _ [(.int ((([91, 102, 97, 99, 105, 108, 105, 116, 121, 93, 32, 105, 100, 32, 34] : List Int32) ++ tl).getD (3) 0))]))
  refine g_normI (z := (99 : Int32)) rfl ?_
  refine g_bipush X1477 hx (pc' := 37) (z := (99 : Int32)) rfl (hD hby d33_35) rfl ?_
  refine g_icmpN X1477 hx (pcN := 40) (hD hby d33_37) rfl (show ¬ (¬ (99 : Int32) = (99 : Int32)) from by decide) ?_
  refine g_aloadN X1477 hx (pc' := 41) rfl (hD hby d33_40) rfl rfl ?_
  refine g_iconst X1477 hx (pc' := 42) (z := (4 : Int32)) rfl (hD hby d33_41) rfl ?_
  refine g_callV X1477 hx hZ hown (wat hw 198 rfl) (wat hw 199 rfl) (wat hw 201 rfl) (wat hw 200 rfl) (wat hw 2 rfl) (wat hw 202 rfl) (by decide) (a := t) S0.1 (rm34 l Z a0 hw [] n0 (Ts) t (([91, 102, 97, 99, 105, 108, 105, 116, 121, 93, 32, 105, 100, 32, 34] : List Int32) ++ tl) (4 : Int32) n' m' (4) fo cz h0 hn0 O4 hfo U1 U2 U3 O2 hcz OLD S0 rfl (by simp) hb hn hM hs) pd_38 rfl rfl (pc' := 45) rfl (hD hby d33_42) (argsL := [(.int 4)]) (rest := []) rfl (W := 0) (fun v1478 T1478 h1478 X1478 hQ1478 => ?_)
  obtain ⟨rfl, he1478⟩ := hQ1478
  rw [he1478] at X1478
  show Go p e below s n0 _ _ _ (T1478.setTop (mkF m 45 _ [(.int ((([91, 102, 97, 99, 105, 108, 105, 116, 121, 93, 32, 105, 100, 32, 34] : List Int32) ++ tl).getD (4) 0))]))
  refine g_normI (z := (105 : Int32)) rfl ?_
  refine g_bipush X1478 hx (pc' := 47) (z := (105 : Int32)) rfl (hD hby d33_45) rfl ?_
  refine g_icmpN X1478 hx (pcN := 50) (hD hby d33_47) rfl (show ¬ (¬ (105 : Int32) = (105 : Int32)) from by decide) ?_
  refine g_aloadN X1478 hx (pc' := 51) rfl (hD hby d33_50) rfl rfl ?_
  refine g_iconst X1478 hx (pc' := 52) (z := (5 : Int32)) rfl (hD hby d33_51) rfl ?_
  refine g_callV X1478 hx hZ hown (wat hw 198 rfl) (wat hw 199 rfl) (wat hw 201 rfl) (wat hw 200 rfl) (wat hw 2 rfl) (wat hw 202 rfl) (by decide) (a := t) S0.1 (rm34 l Z a0 hw [] n0 (Ts) t (([91, 102, 97, 99, 105, 108, 105, 116, 121, 93, 32, 105, 100, 32, 34] : List Int32) ++ tl) (5 : Int32) n' m' (5) fo cz h0 hn0 O4 hfo U1 U2 U3 O2 hcz OLD S0 rfl (by simp) hb hn hM hs) pd_38 rfl rfl (pc' := 55) rfl (hD hby d33_52) (argsL := [(.int 5)]) (rest := []) rfl (W := 0) (fun v1479 T1479 h1479 X1479 hQ1479 => ?_)
  obtain ⟨rfl, he1479⟩ := hQ1479
  rw [he1479] at X1479
  show Go p e below s n0 _ _ _ (T1479.setTop (mkF m 55 _ [(.int ((([91, 102, 97, 99, 105, 108, 105, 116, 121, 93, 32, 105, 100, 32, 34] : List Int32) ++ tl).getD (5) 0))]))
  refine g_normI (z := (108 : Int32)) rfl ?_
  refine g_bipush X1479 hx (pc' := 57) (z := (108 : Int32)) rfl (hD hby d33_55) rfl ?_
  refine g_icmpN X1479 hx (pcN := 60) (hD hby d33_57) rfl (show ¬ (¬ (108 : Int32) = (108 : Int32)) from by decide) ?_
  refine g_aloadN X1479 hx (pc' := 61) rfl (hD hby d33_60) rfl rfl ?_
  refine g_bipush X1479 hx (pc' := 63) (z := (6 : Int32)) rfl (hD hby d33_61) rfl ?_
  refine g_callV X1479 hx hZ hown (wat hw 198 rfl) (wat hw 199 rfl) (wat hw 201 rfl) (wat hw 200 rfl) (wat hw 2 rfl) (wat hw 202 rfl) (by decide) (a := t) S0.1 (rm34 l Z a0 hw [] n0 (Ts) t (([91, 102, 97, 99, 105, 108, 105, 116, 121, 93, 32, 105, 100, 32, 34] : List Int32) ++ tl) (6 : Int32) n' m' (6) fo cz h0 hn0 O4 hfo U1 U2 U3 O2 hcz OLD S0 rfl (by simp) hb hn hM hs) pd_38 rfl rfl (pc' := 66) rfl (hD hby d33_63) (argsL := [(.int 6)]) (rest := []) rfl (W := 0) (fun v1480 T1480 h1480 X1480 hQ1480 => ?_)
  obtain ⟨rfl, he1480⟩ := hQ1480
  rw [he1480] at X1480
  show Go p e below s n0 _ _ _ (T1480.setTop (mkF m 66 _ [(.int ((([91, 102, 97, 99, 105, 108, 105, 116, 121, 93, 32, 105, 100, 32, 34] : List Int32) ++ tl).getD (6) 0))]))
  refine g_normI (z := (105 : Int32)) rfl ?_
  refine g_bipush X1480 hx (pc' := 68) (z := (105 : Int32)) rfl (hD hby d33_66) rfl ?_
  refine g_icmpN X1480 hx (pcN := 71) (hD hby d33_68) rfl (show ¬ (¬ (105 : Int32) = (105 : Int32)) from by decide) ?_
  refine g_aloadN X1480 hx (pc' := 72) rfl (hD hby d33_71) rfl rfl ?_
  refine g_bipush X1480 hx (pc' := 74) (z := (7 : Int32)) rfl (hD hby d33_72) rfl ?_
  refine g_callV X1480 hx hZ hown (wat hw 198 rfl) (wat hw 199 rfl) (wat hw 201 rfl) (wat hw 200 rfl) (wat hw 2 rfl) (wat hw 202 rfl) (by decide) (a := t) S0.1 (rm34 l Z a0 hw [] n0 (Ts) t (([91, 102, 97, 99, 105, 108, 105, 116, 121, 93, 32, 105, 100, 32, 34] : List Int32) ++ tl) (7 : Int32) n' m' (7) fo cz h0 hn0 O4 hfo U1 U2 U3 O2 hcz OLD S0 rfl (by simp) hb hn hM hs) pd_38 rfl rfl (pc' := 77) rfl (hD hby d33_74) (argsL := [(.int 7)]) (rest := []) rfl (W := 0) (fun v1481 T1481 h1481 X1481 hQ1481 => ?_)
  obtain ⟨rfl, he1481⟩ := hQ1481
  rw [he1481] at X1481
  show Go p e below s n0 _ _ _ (T1481.setTop (mkF m 77 _ [(.int ((([91, 102, 97, 99, 105, 108, 105, 116, 121, 93, 32, 105, 100, 32, 34] : List Int32) ++ tl).getD (7) 0))]))
  refine g_normI (z := (116 : Int32)) rfl ?_
  refine g_bipush X1481 hx (pc' := 79) (z := (116 : Int32)) rfl (hD hby d33_77) rfl ?_
  refine g_icmpN X1481 hx (pcN := 82) (hD hby d33_79) rfl (show ¬ (¬ (116 : Int32) = (116 : Int32)) from by decide) ?_
  refine g_aloadN X1481 hx (pc' := 83) rfl (hD hby d33_82) rfl rfl ?_
  refine g_bipush X1481 hx (pc' := 85) (z := (8 : Int32)) rfl (hD hby d33_83) rfl ?_
  refine g_callV X1481 hx hZ hown (wat hw 198 rfl) (wat hw 199 rfl) (wat hw 201 rfl) (wat hw 200 rfl) (wat hw 2 rfl) (wat hw 202 rfl) (by decide) (a := t) S0.1 (rm34 l Z a0 hw [] n0 (Ts) t (([91, 102, 97, 99, 105, 108, 105, 116, 121, 93, 32, 105, 100, 32, 34] : List Int32) ++ tl) (8 : Int32) n' m' (8) fo cz h0 hn0 O4 hfo U1 U2 U3 O2 hcz OLD S0 rfl (by simp) hb hn hM hs) pd_38 rfl rfl (pc' := 88) rfl (hD hby d33_85) (argsL := [(.int 8)]) (rest := []) rfl (W := 0) (fun v1482 T1482 h1482 X1482 hQ1482 => ?_)
  obtain ⟨rfl, he1482⟩ := hQ1482
  rw [he1482] at X1482
  show Go p e below s n0 _ _ _ (T1482.setTop (mkF m 88 _ [(.int ((([91, 102, 97, 99, 105, 108, 105, 116, 121, 93, 32, 105, 100, 32, 34] : List Int32) ++ tl).getD (8) 0))]))
  refine g_normI (z := (121 : Int32)) rfl ?_
  refine g_bipush X1482 hx (pc' := 90) (z := (121 : Int32)) rfl (hD hby d33_88) rfl ?_
  refine g_icmpN X1482 hx (pcN := 93) (hD hby d33_90) rfl (show ¬ (¬ (121 : Int32) = (121 : Int32)) from by decide) ?_
  refine g_aloadN X1482 hx (pc' := 94) rfl (hD hby d33_93) rfl rfl ?_
  refine g_bipush X1482 hx (pc' := 96) (z := (9 : Int32)) rfl (hD hby d33_94) rfl ?_
  refine g_callV X1482 hx hZ hown (wat hw 198 rfl) (wat hw 199 rfl) (wat hw 201 rfl) (wat hw 200 rfl) (wat hw 2 rfl) (wat hw 202 rfl) (by decide) (a := t) S0.1 (rm34 l Z a0 hw [] n0 (Ts) t (([91, 102, 97, 99, 105, 108, 105, 116, 121, 93, 32, 105, 100, 32, 34] : List Int32) ++ tl) (9 : Int32) n' m' (9) fo cz h0 hn0 O4 hfo U1 U2 U3 O2 hcz OLD S0 rfl (by simp) hb hn hM hs) pd_38 rfl rfl (pc' := 99) rfl (hD hby d33_96) (argsL := [(.int 9)]) (rest := []) rfl (W := 0) (fun v1483 T1483 h1483 X1483 hQ1483 => ?_)
  obtain ⟨rfl, he1483⟩ := hQ1483
  rw [he1483] at X1483
  show Go p e below s n0 _ _ _ (T1483.setTop (mkF m 99 _ [(.int ((([91, 102, 97, 99, 105, 108, 105, 116, 121, 93, 32, 105, 100, 32, 34] : List Int32) ++ tl).getD (9) 0))]))
  refine g_normI (z := (93 : Int32)) rfl ?_
  refine g_bipush X1483 hx (pc' := 101) (z := (93 : Int32)) rfl (hD hby d33_99) rfl ?_
  refine g_icmpN X1483 hx (pcN := 104) (hD hby d33_101) rfl (show ¬ (¬ (93 : Int32) = (93 : Int32)) from by decide) ?_
  refine g_aloadN X1483 hx (pc' := 105) rfl (hD hby d33_104) rfl rfl ?_
  refine g_bipush X1483 hx (pc' := 107) (z := (10 : Int32)) rfl (hD hby d33_105) rfl ?_
  refine g_callV X1483 hx hZ hown (wat hw 198 rfl) (wat hw 199 rfl) (wat hw 201 rfl) (wat hw 200 rfl) (wat hw 2 rfl) (wat hw 202 rfl) (by decide) (a := t) S0.1 (rm34 l Z a0 hw [] n0 (Ts) t (([91, 102, 97, 99, 105, 108, 105, 116, 121, 93, 32, 105, 100, 32, 34] : List Int32) ++ tl) (10 : Int32) n' m' (10) fo cz h0 hn0 O4 hfo U1 U2 U3 O2 hcz OLD S0 rfl (by simp) hb hn hM hs) pd_38 rfl rfl (pc' := 110) rfl (hD hby d33_107) (argsL := [(.int 10)]) (rest := []) rfl (W := 0) (fun v1484 T1484 h1484 X1484 hQ1484 => ?_)
  obtain ⟨rfl, he1484⟩ := hQ1484
  rw [he1484] at X1484
  show Go p e below s n0 _ _ _ (T1484.setTop (mkF m 110 _ [(.int ((([91, 102, 97, 99, 105, 108, 105, 116, 121, 93, 32, 105, 100, 32, 34] : List Int32) ++ tl).getD (10) 0))]))
  refine g_normI (z := (32 : Int32)) rfl ?_
  refine g_bipush X1484 hx (pc' := 112) (z := (32 : Int32)) rfl (hD hby d33_110) rfl ?_
  refine g_icmpN X1484 hx (pcN := 115) (hD hby d33_112) rfl (show ¬ (¬ (32 : Int32) = (32 : Int32)) from by decide) ?_
  refine g_aloadN X1484 hx (pc' := 116) rfl (hD hby d33_115) rfl rfl ?_
  refine g_bipush X1484 hx (pc' := 118) (z := (11 : Int32)) rfl (hD hby d33_116) rfl ?_
  refine g_callV X1484 hx hZ hown (wat hw 198 rfl) (wat hw 199 rfl) (wat hw 201 rfl) (wat hw 200 rfl) (wat hw 2 rfl) (wat hw 202 rfl) (by decide) (a := t) S0.1 (rm34 l Z a0 hw [] n0 (Ts) t (([91, 102, 97, 99, 105, 108, 105, 116, 121, 93, 32, 105, 100, 32, 34] : List Int32) ++ tl) (11 : Int32) n' m' (11) fo cz h0 hn0 O4 hfo U1 U2 U3 O2 hcz OLD S0 rfl (by simp) hb hn hM hs) pd_38 rfl rfl (pc' := 121) rfl (hD hby d33_118) (argsL := [(.int 11)]) (rest := []) rfl (W := 0) (fun v1485 T1485 h1485 X1485 hQ1485 => ?_)
  obtain ⟨rfl, he1485⟩ := hQ1485
  rw [he1485] at X1485
  show Go p e below s n0 _ _ _ (T1485.setTop (mkF m 121 _ [(.int ((([91, 102, 97, 99, 105, 108, 105, 116, 121, 93, 32, 105, 100, 32, 34] : List Int32) ++ tl).getD (11) 0))]))
  refine g_normI (z := (105 : Int32)) rfl ?_
  refine g_bipush X1485 hx (pc' := 123) (z := (105 : Int32)) rfl (hD hby d33_121) rfl ?_
  refine g_icmpN X1485 hx (pcN := 126) (hD hby d33_123) rfl (show ¬ (¬ (105 : Int32) = (105 : Int32)) from by decide) ?_
  refine g_aloadN X1485 hx (pc' := 127) rfl (hD hby d33_126) rfl rfl ?_
  refine g_bipush X1485 hx (pc' := 129) (z := (12 : Int32)) rfl (hD hby d33_127) rfl ?_
  refine g_callV X1485 hx hZ hown (wat hw 198 rfl) (wat hw 199 rfl) (wat hw 201 rfl) (wat hw 200 rfl) (wat hw 2 rfl) (wat hw 202 rfl) (by decide) (a := t) S0.1 (rm34 l Z a0 hw [] n0 (Ts) t (([91, 102, 97, 99, 105, 108, 105, 116, 121, 93, 32, 105, 100, 32, 34] : List Int32) ++ tl) (12 : Int32) n' m' (12) fo cz h0 hn0 O4 hfo U1 U2 U3 O2 hcz OLD S0 rfl (by simp) hb hn hM hs) pd_38 rfl rfl (pc' := 132) rfl (hD hby d33_129) (argsL := [(.int 12)]) (rest := []) rfl (W := 0) (fun v1486 T1486 h1486 X1486 hQ1486 => ?_)
  obtain ⟨rfl, he1486⟩ := hQ1486
  rw [he1486] at X1486
  show Go p e below s n0 _ _ _ (T1486.setTop (mkF m 132 _ [(.int ((([91, 102, 97, 99, 105, 108, 105, 116, 121, 93, 32, 105, 100, 32, 34] : List Int32) ++ tl).getD (12) 0))]))
  refine g_normI (z := (100 : Int32)) rfl ?_
  refine g_bipush X1486 hx (pc' := 134) (z := (100 : Int32)) rfl (hD hby d33_132) rfl ?_
  refine g_icmpN X1486 hx (pcN := 137) (hD hby d33_134) rfl (show ¬ (¬ (100 : Int32) = (100 : Int32)) from by decide) ?_
  refine g_aloadN X1486 hx (pc' := 138) rfl (hD hby d33_137) rfl rfl ?_
  refine g_bipush X1486 hx (pc' := 140) (z := (13 : Int32)) rfl (hD hby d33_138) rfl ?_
  refine g_callV X1486 hx hZ hown (wat hw 198 rfl) (wat hw 199 rfl) (wat hw 201 rfl) (wat hw 200 rfl) (wat hw 2 rfl) (wat hw 202 rfl) (by decide) (a := t) S0.1 (rm34 l Z a0 hw [] n0 (Ts) t (([91, 102, 97, 99, 105, 108, 105, 116, 121, 93, 32, 105, 100, 32, 34] : List Int32) ++ tl) (13 : Int32) n' m' (13) fo cz h0 hn0 O4 hfo U1 U2 U3 O2 hcz OLD S0 rfl (by simp) hb hn hM hs) pd_38 rfl rfl (pc' := 143) rfl (hD hby d33_140) (argsL := [(.int 13)]) (rest := []) rfl (W := 0) (fun v1487 T1487 h1487 X1487 hQ1487 => ?_)
  obtain ⟨rfl, he1487⟩ := hQ1487
  rw [he1487] at X1487
  show Go p e below s n0 _ _ _ (T1487.setTop (mkF m 143 _ [(.int ((([91, 102, 97, 99, 105, 108, 105, 116, 121, 93, 32, 105, 100, 32, 34] : List Int32) ++ tl).getD (13) 0))]))
  refine g_normI (z := (32 : Int32)) rfl ?_
  refine g_bipush X1487 hx (pc' := 145) (z := (32 : Int32)) rfl (hD hby d33_143) rfl ?_
  refine g_icmpN X1487 hx (pcN := 148) (hD hby d33_145) rfl (show ¬ (¬ (32 : Int32) = (32 : Int32)) from by decide) ?_
  refine g_aloadN X1487 hx (pc' := 149) rfl (hD hby d33_148) rfl rfl ?_
  refine g_bipush X1487 hx (pc' := 151) (z := (14 : Int32)) rfl (hD hby d33_149) rfl ?_
  refine g_callV X1487 hx hZ hown (wat hw 198 rfl) (wat hw 199 rfl) (wat hw 201 rfl) (wat hw 200 rfl) (wat hw 2 rfl) (wat hw 202 rfl) (by decide) (a := t) S0.1 (rm34 l Z a0 hw [] n0 (Ts) t (([91, 102, 97, 99, 105, 108, 105, 116, 121, 93, 32, 105, 100, 32, 34] : List Int32) ++ tl) (14 : Int32) n' m' (14) fo cz h0 hn0 O4 hfo U1 U2 U3 O2 hcz OLD S0 rfl (by simp) hb hn hM hs) pd_38 rfl rfl (pc' := 154) rfl (hD hby d33_151) (argsL := [(.int 14)]) (rest := []) rfl (W := 0) (fun v1488 T1488 h1488 X1488 hQ1488 => ?_)
  obtain ⟨rfl, he1488⟩ := hQ1488
  rw [he1488] at X1488
  show Go p e below s n0 _ _ _ (T1488.setTop (mkF m 154 _ [(.int ((([91, 102, 97, 99, 105, 108, 105, 116, 121, 93, 32, 105, 100, 32, 34] : List Int32) ++ tl).getD (14) 0))]))
  refine g_normI (z := (34 : Int32)) rfl ?_
  refine g_bipush X1488 hx (pc' := 156) (z := (34 : Int32)) rfl (hD hby d33_154) rfl ?_
  refine g_icmpN X1488 hx (pcN := 159) (hD hby d33_156) rfl (show ¬ (¬ (34 : Int32) = (34 : Int32)) from by decide) ?_
  refine g_iconst X1488 hx (pc' := 160) (z := (1 : Int32)) rfl (hD hby d33_159) rfl ?_
  refine g_goto X1488 hx (pc' := 164) (hD hby d33_160) (by decide) (by decide) ?_
  exact g_retZ X1488 hx hlk hret (by first | exact Or.inl rfl | exact Or.inr rfl) (hD hby d33_164) (by decide) (by decide) (Nat.le_refl _) (⟨rfl, rfl⟩)
theorem own_gr {pr sf : List Int32} {i : Nat} {x : Int32} (h : sf.getD i 0 = x) : (pr ++ sf).getD (pr.length + i) 0 = x := by
  rw [← h, List.getD_eq_getElem?_getD, List.getElem?_append_right (by omega), Nat.add_sub_cancel_left, List.getD_eq_getElem?_getD]
theorem own_oi {o' k : Int32} {n i : Nat} (ho : o'.toInt = (n : Int)) (hk : k.toInt = (i : Int)) (hb : n + i < 1000) : (o' + k).toInt = ((n + i : Nat) : Int) := by
  rw [ar_add (by omega) (by omega), ho, hk]; omega
theorem rm39 (l : Launch) (Z : State) (a0 : Array Value) (hw : HW a0 Z) (ws : List Jvm.Cond) (n0 : Nat) (Ts : List String) (t : Addr) (pr : List Int32) (o' n' m' : Int32) (fo : Value) (cz : Int32) (h0 : Heap) (hn0 : n0 ≤ h0.size) (O4 : St1 Z fo) (hfo : fo.isRef = true) (U1 : St2 Z (.int 1)) (U2 : St3 Z (.int 0)) (U3 : St4 Z (.int 8)) (O2 : St0 Z (.int cz)) (hcz : ¬ cz = 0) (OLD : OldP Z n0 h0) (S0 : StrC Z h0 t (pr ++ ([34, 32, 110, 97, 109, 101, 115, 32, 116, 119, 111, 32, 102, 97, 99, 105, 108, 105, 116, 105, 101, 115] : List Int32))) (ho : o'.toInt = (pr.length : Int)) (hpl : pr.length < 100) (hn : n'.toInt = ((pr ++ ([34, 32, 110, 97, 109, 101, 115, 32, 116, 119, 111, 32, 102, 97, 99, 105, 108, 105, 116, 105, 101, 115] : List Int32)).length : Int)) (hM : m'.toInt = ((2 * (pr ++ ([34, 32, 110, 97, 109, 101, 115, 32, 116, 119, 111, 32, 102, 97, 99, 105, 108, 105, 116, 105, 101, 115] : List Int32)).length : Nat) : Int)) (hs : m' >>> ((1 : Int32) &&& 31) = n') (hb : (pr ++ ([34, 32, 110, 97, 109, 101, 115, 32, 116, 119, 111, 32, 102, 97, 99, 105, 108, 105, 116, 105, 101, 115] : List Int32)).length < 500) :
    Con l Z n0 Ts (Ts) (⟨"com/example/tenorbook/tenorbook/terms/AgreementNamesTwoFacilitiesPinLaw", "suffix", "(Ljava/lang/String;I)Z"⟩ : MethodName) method_4_code 2 (some .boolean) ws ({ frames := 5, cells := 0, slots := 0, locals := 112 } : Room) #[(.ref t), (.int o')] h0 (fun v h => v = some (.int 1) ∧ h = h0) := by
  refine con_start (fr0 := fun m => mkF m 0 #[.val (.ref t), .val (.int o')] []) ?_
  intro p e s m below meth c T0 hx hZ hby hml hown hnm hret hlk hsh XA
  have X0 := XA n0
  have hlow : n0 ≤ s.heap.size := by rw [hsh]; exact hn0
  replace hown : s.vm.findClass "com/example/tenorbook/tenorbook/terms/AgreementNamesTwoFacilitiesPinLaw" = some m.cls := hown
  replace hml : c.maxLocals = 2 := hml
  refine g_aloadN X0 hx (pc' := 1) rfl (hD hby d39_0) rfl rfl ?_
  refine g_iloadN X0 hx (pc' := 2) rfl (hD hby d39_1) rfl ?_
  refine g_callV X0 hx hZ hown (wat hw 198 rfl) (wat hw 199 rfl) (wat hw 201 rfl) (wat hw 200 rfl) (wat hw 2 rfl) (wat hw 202 rfl) (by decide) (a := t) S0.1 (rm34 l Z a0 hw [] n0 (Ts) t (pr ++ ([34, 32, 110, 97, 109, 101, 115, 32, 116, 119, 111, 32, 102, 97, 99, 105, 108, 105, 116, 105, 101, 115] : List Int32)) o' n' m' (pr.length + 0) fo cz h0 hn0 O4 hfo U1 U2 U3 O2 hcz OLD S0 ho (by simp) hb hn hM hs) pd_38 rfl rfl (pc' := 5) rfl (hD hby d39_2) (argsL := [(.int o')]) (rest := []) rfl (W := 0) (fun v1489 T1489 h1489 X1489 hQ1489 => ?_)
  obtain ⟨rfl, he1489⟩ := hQ1489
  rw [he1489] at X1489
  show Go p e below s n0 _ _ _ (T1489.setTop (mkF m 5 _ [(.int ((pr ++ ([34, 32, 110, 97, 109, 101, 115, 32, 116, 119, 111, 32, 102, 97, 99, 105, 108, 105, 116, 105, 101, 115] : List Int32)).getD (pr.length + 0) 0))]))
  refine g_normI (z := (34 : Int32)) (own_gr rfl) ?_
  refine g_bipush X1489 hx (pc' := 7) (z := (34 : Int32)) rfl (hD hby d39_5) rfl ?_
  refine g_icmpN X1489 hx (pcN := 10) (hD hby d39_7) rfl (show ¬ (¬ (34 : Int32) = (34 : Int32)) from by decide) ?_
  refine g_aloadN X1489 hx (pc' := 11) rfl (hD hby d39_10) rfl rfl ?_
  refine g_iloadN X1489 hx (pc' := 12) rfl (hD hby d39_11) rfl ?_
  refine g_iconst X1489 hx (pc' := 13) (z := (1 : Int32)) rfl (hD hby d39_12) rfl ?_
  refine g_iadd X1489 hx (pc' := 14) rfl (hD hby d39_13) ?_
  refine g_callV X1489 hx hZ hown (wat hw 198 rfl) (wat hw 199 rfl) (wat hw 201 rfl) (wat hw 200 rfl) (wat hw 2 rfl) (wat hw 202 rfl) (by decide) (a := t) S0.1 (rm34 l Z a0 hw [] n0 (Ts) t (pr ++ ([34, 32, 110, 97, 109, 101, 115, 32, 116, 119, 111, 32, 102, 97, 99, 105, 108, 105, 116, 105, 101, 115] : List Int32)) (o' + (1 : Int32)) n' m' (pr.length + 1) fo cz h0 hn0 O4 hfo U1 U2 U3 O2 hcz OLD S0 (own_oi ho rfl (by omega)) (by simp) hb hn hM hs) pd_38 rfl rfl (pc' := 17) rfl (hD hby d39_14) (argsL := [(.int (o' + (1 : Int32)))]) (rest := []) rfl (W := 0) (fun v1490 T1490 h1490 X1490 hQ1490 => ?_)
  obtain ⟨rfl, he1490⟩ := hQ1490
  rw [he1490] at X1490
  show Go p e below s n0 _ _ _ (T1490.setTop (mkF m 17 _ [(.int ((pr ++ ([34, 32, 110, 97, 109, 101, 115, 32, 116, 119, 111, 32, 102, 97, 99, 105, 108, 105, 116, 105, 101, 115] : List Int32)).getD (pr.length + 1) 0))]))
  refine g_normI (z := (32 : Int32)) (own_gr rfl) ?_
  refine g_bipush X1490 hx (pc' := 19) (z := (32 : Int32)) rfl (hD hby d39_17) rfl ?_
  refine g_icmpN X1490 hx (pcN := 22) (hD hby d39_19) rfl (show ¬ (¬ (32 : Int32) = (32 : Int32)) from by decide) ?_
  refine g_aloadN X1490 hx (pc' := 23) rfl (hD hby d39_22) rfl rfl ?_
  refine g_iloadN X1490 hx (pc' := 24) rfl (hD hby d39_23) rfl ?_
  refine g_iconst X1490 hx (pc' := 25) (z := (2 : Int32)) rfl (hD hby d39_24) rfl ?_
  refine g_iadd X1490 hx (pc' := 26) rfl (hD hby d39_25) ?_
  refine g_callV X1490 hx hZ hown (wat hw 198 rfl) (wat hw 199 rfl) (wat hw 201 rfl) (wat hw 200 rfl) (wat hw 2 rfl) (wat hw 202 rfl) (by decide) (a := t) S0.1 (rm34 l Z a0 hw [] n0 (Ts) t (pr ++ ([34, 32, 110, 97, 109, 101, 115, 32, 116, 119, 111, 32, 102, 97, 99, 105, 108, 105, 116, 105, 101, 115] : List Int32)) (o' + (2 : Int32)) n' m' (pr.length + 2) fo cz h0 hn0 O4 hfo U1 U2 U3 O2 hcz OLD S0 (own_oi ho rfl (by omega)) (by simp) hb hn hM hs) pd_38 rfl rfl (pc' := 29) rfl (hD hby d39_26) (argsL := [(.int (o' + (2 : Int32)))]) (rest := []) rfl (W := 0) (fun v1491 T1491 h1491 X1491 hQ1491 => ?_)
  obtain ⟨rfl, he1491⟩ := hQ1491
  rw [he1491] at X1491
  show Go p e below s n0 _ _ _ (T1491.setTop (mkF m 29 _ [(.int ((pr ++ ([34, 32, 110, 97, 109, 101, 115, 32, 116, 119, 111, 32, 102, 97, 99, 105, 108, 105, 116, 105, 101, 115] : List Int32)).getD (pr.length + 2) 0))]))
  refine g_normI (z := (110 : Int32)) (own_gr rfl) ?_
  refine g_bipush X1491 hx (pc' := 31) (z := (110 : Int32)) rfl (hD hby d39_29) rfl ?_
  refine g_icmpN X1491 hx (pcN := 34) (hD hby d39_31) rfl (show ¬ (¬ (110 : Int32) = (110 : Int32)) from by decide) ?_
  refine g_aloadN X1491 hx (pc' := 35) rfl (hD hby d39_34) rfl rfl ?_
  refine g_iloadN X1491 hx (pc' := 36) rfl (hD hby d39_35) rfl ?_
  refine g_iconst X1491 hx (pc' := 37) (z := (3 : Int32)) rfl (hD hby d39_36) rfl ?_
  refine g_iadd X1491 hx (pc' := 38) rfl (hD hby d39_37) ?_
  refine g_callV X1491 hx hZ hown (wat hw 198 rfl) (wat hw 199 rfl) (wat hw 201 rfl) (wat hw 200 rfl) (wat hw 2 rfl) (wat hw 202 rfl) (by decide) (a := t) S0.1 (rm34 l Z a0 hw [] n0 (Ts) t (pr ++ ([34, 32, 110, 97, 109, 101, 115, 32, 116, 119, 111, 32, 102, 97, 99, 105, 108, 105, 116, 105, 101, 115] : List Int32)) (o' + (3 : Int32)) n' m' (pr.length + 3) fo cz h0 hn0 O4 hfo U1 U2 U3 O2 hcz OLD S0 (own_oi ho rfl (by omega)) (by simp) hb hn hM hs) pd_38 rfl rfl (pc' := 41) rfl (hD hby d39_38) (argsL := [(.int (o' + (3 : Int32)))]) (rest := []) rfl (W := 0) (fun v1492 T1492 h1492 X1492 hQ1492 => ?_)
  obtain ⟨rfl, he1492⟩ := hQ1492
  rw [he1492] at X1492
  show Go p e below s n0 _ _ _ (T1492.setTop (mkF m 41 _ [(.int ((pr ++ ([34, 32, 110, 97, 109, 101, 115, 32, 116, 119, 111, 32, 102, 97, 99, 105, 108, 105, 116, 105, 101, 115] : List Int32)).getD (pr.length + 3) 0))]))
  refine g_normI (z := (97 : Int32)) (own_gr rfl) ?_
  refine g_bipush X1492 hx (pc' := 43) (z := (97 : Int32)) rfl (hD hby d39_41) rfl ?_
  refine g_icmpN X1492 hx (pcN := 46) (hD hby d39_43) rfl (show ¬ (¬ (97 : Int32) = (97 : Int32)) from by decide) ?_
  refine g_aloadN X1492 hx (pc' := 47) rfl (hD hby d39_46) rfl rfl ?_
  refine g_iloadN X1492 hx (pc' := 48) rfl (hD hby d39_47) rfl ?_
  refine g_iconst X1492 hx (pc' := 49) (z := (4 : Int32)) rfl (hD hby d39_48) rfl ?_
  refine g_iadd X1492 hx (pc' := 50) rfl (hD hby d39_49) ?_
  refine g_callV X1492 hx hZ hown (wat hw 198 rfl) (wat hw 199 rfl) (wat hw 201 rfl) (wat hw 200 rfl) (wat hw 2 rfl) (wat hw 202 rfl) (by decide) (a := t) S0.1 (rm34 l Z a0 hw [] n0 (Ts) t (pr ++ ([34, 32, 110, 97, 109, 101, 115, 32, 116, 119, 111, 32, 102, 97, 99, 105, 108, 105, 116, 105, 101, 115] : List Int32)) (o' + (4 : Int32)) n' m' (pr.length + 4) fo cz h0 hn0 O4 hfo U1 U2 U3 O2 hcz OLD S0 (own_oi ho rfl (by omega)) (by simp) hb hn hM hs) pd_38 rfl rfl (pc' := 53) rfl (hD hby d39_50) (argsL := [(.int (o' + (4 : Int32)))]) (rest := []) rfl (W := 0) (fun v1493 T1493 h1493 X1493 hQ1493 => ?_)
  obtain ⟨rfl, he1493⟩ := hQ1493
  rw [he1493] at X1493
  show Go p e below s n0 _ _ _ (T1493.setTop (mkF m 53 _ [(.int ((pr ++ ([34, 32, 110, 97, 109, 101, 115, 32, 116, 119, 111, 32, 102, 97, 99, 105, 108, 105, 116, 105, 101, 115] : List Int32)).getD (pr.length + 4) 0))]))
  refine g_normI (z := (109 : Int32)) (own_gr rfl) ?_
  refine g_bipush X1493 hx (pc' := 55) (z := (109 : Int32)) rfl (hD hby d39_53) rfl ?_
  refine g_icmpN X1493 hx (pcN := 58) (hD hby d39_55) rfl (show ¬ (¬ (109 : Int32) = (109 : Int32)) from by decide) ?_
  refine g_aloadN X1493 hx (pc' := 59) rfl (hD hby d39_58) rfl rfl ?_
  refine g_iloadN X1493 hx (pc' := 60) rfl (hD hby d39_59) rfl ?_
  refine g_iconst X1493 hx (pc' := 61) (z := (5 : Int32)) rfl (hD hby d39_60) rfl ?_
  refine g_iadd X1493 hx (pc' := 62) rfl (hD hby d39_61) ?_
  refine g_callV X1493 hx hZ hown (wat hw 198 rfl) (wat hw 199 rfl) (wat hw 201 rfl) (wat hw 200 rfl) (wat hw 2 rfl) (wat hw 202 rfl) (by decide) (a := t) S0.1 (rm34 l Z a0 hw [] n0 (Ts) t (pr ++ ([34, 32, 110, 97, 109, 101, 115, 32, 116, 119, 111, 32, 102, 97, 99, 105, 108, 105, 116, 105, 101, 115] : List Int32)) (o' + (5 : Int32)) n' m' (pr.length + 5) fo cz h0 hn0 O4 hfo U1 U2 U3 O2 hcz OLD S0 (own_oi ho rfl (by omega)) (by simp) hb hn hM hs) pd_38 rfl rfl (pc' := 65) rfl (hD hby d39_62) (argsL := [(.int (o' + (5 : Int32)))]) (rest := []) rfl (W := 0) (fun v1494 T1494 h1494 X1494 hQ1494 => ?_)
  obtain ⟨rfl, he1494⟩ := hQ1494
  rw [he1494] at X1494
  show Go p e below s n0 _ _ _ (T1494.setTop (mkF m 65 _ [(.int ((pr ++ ([34, 32, 110, 97, 109, 101, 115, 32, 116, 119, 111, 32, 102, 97, 99, 105, 108, 105, 116, 105, 101, 115] : List Int32)).getD (pr.length + 5) 0))]))
  refine g_normI (z := (101 : Int32)) (own_gr rfl) ?_
  refine g_bipush X1494 hx (pc' := 67) (z := (101 : Int32)) rfl (hD hby d39_65) rfl ?_
  refine g_icmpN X1494 hx (pcN := 70) (hD hby d39_67) rfl (show ¬ (¬ (101 : Int32) = (101 : Int32)) from by decide) ?_
  refine g_aloadN X1494 hx (pc' := 71) rfl (hD hby d39_70) rfl rfl ?_
  refine g_iloadN X1494 hx (pc' := 72) rfl (hD hby d39_71) rfl ?_
  refine g_bipush X1494 hx (pc' := 74) (z := (6 : Int32)) rfl (hD hby d39_72) rfl ?_
  refine g_iadd X1494 hx (pc' := 75) rfl (hD hby d39_74) ?_
  refine g_callV X1494 hx hZ hown (wat hw 198 rfl) (wat hw 199 rfl) (wat hw 201 rfl) (wat hw 200 rfl) (wat hw 2 rfl) (wat hw 202 rfl) (by decide) (a := t) S0.1 (rm34 l Z a0 hw [] n0 (Ts) t (pr ++ ([34, 32, 110, 97, 109, 101, 115, 32, 116, 119, 111, 32, 102, 97, 99, 105, 108, 105, 116, 105, 101, 115] : List Int32)) (o' + (6 : Int32)) n' m' (pr.length + 6) fo cz h0 hn0 O4 hfo U1 U2 U3 O2 hcz OLD S0 (own_oi ho rfl (by omega)) (by simp) hb hn hM hs) pd_38 rfl rfl (pc' := 78) rfl (hD hby d39_75) (argsL := [(.int (o' + (6 : Int32)))]) (rest := []) rfl (W := 0) (fun v1495 T1495 h1495 X1495 hQ1495 => ?_)
  obtain ⟨rfl, he1495⟩ := hQ1495
  rw [he1495] at X1495
  show Go p e below s n0 _ _ _ (T1495.setTop (mkF m 78 _ [(.int ((pr ++ ([34, 32, 110, 97, 109, 101, 115, 32, 116, 119, 111, 32, 102, 97, 99, 105, 108, 105, 116, 105, 101, 115] : List Int32)).getD (pr.length + 6) 0))]))
  refine g_normI (z := (115 : Int32)) (own_gr rfl) ?_
  refine g_bipush X1495 hx (pc' := 80) (z := (115 : Int32)) rfl (hD hby d39_78) rfl ?_
  refine g_icmpN X1495 hx (pcN := 83) (hD hby d39_80) rfl (show ¬ (¬ (115 : Int32) = (115 : Int32)) from by decide) ?_
  refine g_aloadN X1495 hx (pc' := 84) rfl (hD hby d39_83) rfl rfl ?_
  refine g_iloadN X1495 hx (pc' := 85) rfl (hD hby d39_84) rfl ?_
  refine g_bipush X1495 hx (pc' := 87) (z := (7 : Int32)) rfl (hD hby d39_85) rfl ?_
  refine g_iadd X1495 hx (pc' := 88) rfl (hD hby d39_87) ?_
  refine g_callV X1495 hx hZ hown (wat hw 198 rfl) (wat hw 199 rfl) (wat hw 201 rfl) (wat hw 200 rfl) (wat hw 2 rfl) (wat hw 202 rfl) (by decide) (a := t) S0.1 (rm34 l Z a0 hw [] n0 (Ts) t (pr ++ ([34, 32, 110, 97, 109, 101, 115, 32, 116, 119, 111, 32, 102, 97, 99, 105, 108, 105, 116, 105, 101, 115] : List Int32)) (o' + (7 : Int32)) n' m' (pr.length + 7) fo cz h0 hn0 O4 hfo U1 U2 U3 O2 hcz OLD S0 (own_oi ho rfl (by omega)) (by simp) hb hn hM hs) pd_38 rfl rfl (pc' := 91) rfl (hD hby d39_88) (argsL := [(.int (o' + (7 : Int32)))]) (rest := []) rfl (W := 0) (fun v1496 T1496 h1496 X1496 hQ1496 => ?_)
  obtain ⟨rfl, he1496⟩ := hQ1496
  rw [he1496] at X1496
  show Go p e below s n0 _ _ _ (T1496.setTop (mkF m 91 _ [(.int ((pr ++ ([34, 32, 110, 97, 109, 101, 115, 32, 116, 119, 111, 32, 102, 97, 99, 105, 108, 105, 116, 105, 101, 115] : List Int32)).getD (pr.length + 7) 0))]))
  refine g_normI (z := (32 : Int32)) (own_gr rfl) ?_
  refine g_bipush X1496 hx (pc' := 93) (z := (32 : Int32)) rfl (hD hby d39_91) rfl ?_
  refine g_icmpN X1496 hx (pcN := 96) (hD hby d39_93) rfl (show ¬ (¬ (32 : Int32) = (32 : Int32)) from by decide) ?_
  refine g_aloadN X1496 hx (pc' := 97) rfl (hD hby d39_96) rfl rfl ?_
  refine g_iloadN X1496 hx (pc' := 98) rfl (hD hby d39_97) rfl ?_
  refine g_bipush X1496 hx (pc' := 100) (z := (8 : Int32)) rfl (hD hby d39_98) rfl ?_
  refine g_iadd X1496 hx (pc' := 101) rfl (hD hby d39_100) ?_
  refine g_callV X1496 hx hZ hown (wat hw 198 rfl) (wat hw 199 rfl) (wat hw 201 rfl) (wat hw 200 rfl) (wat hw 2 rfl) (wat hw 202 rfl) (by decide) (a := t) S0.1 (rm34 l Z a0 hw [] n0 (Ts) t (pr ++ ([34, 32, 110, 97, 109, 101, 115, 32, 116, 119, 111, 32, 102, 97, 99, 105, 108, 105, 116, 105, 101, 115] : List Int32)) (o' + (8 : Int32)) n' m' (pr.length + 8) fo cz h0 hn0 O4 hfo U1 U2 U3 O2 hcz OLD S0 (own_oi ho rfl (by omega)) (by simp) hb hn hM hs) pd_38 rfl rfl (pc' := 104) rfl (hD hby d39_101) (argsL := [(.int (o' + (8 : Int32)))]) (rest := []) rfl (W := 0) (fun v1497 T1497 h1497 X1497 hQ1497 => ?_)
  obtain ⟨rfl, he1497⟩ := hQ1497
  rw [he1497] at X1497
  show Go p e below s n0 _ _ _ (T1497.setTop (mkF m 104 _ [(.int ((pr ++ ([34, 32, 110, 97, 109, 101, 115, 32, 116, 119, 111, 32, 102, 97, 99, 105, 108, 105, 116, 105, 101, 115] : List Int32)).getD (pr.length + 8) 0))]))
  refine g_normI (z := (116 : Int32)) (own_gr rfl) ?_
  refine g_bipush X1497 hx (pc' := 106) (z := (116 : Int32)) rfl (hD hby d39_104) rfl ?_
  refine g_icmpN X1497 hx (pcN := 109) (hD hby d39_106) rfl (show ¬ (¬ (116 : Int32) = (116 : Int32)) from by decide) ?_
  refine g_aloadN X1497 hx (pc' := 110) rfl (hD hby d39_109) rfl rfl ?_
  refine g_iloadN X1497 hx (pc' := 111) rfl (hD hby d39_110) rfl ?_
  refine g_bipush X1497 hx (pc' := 113) (z := (9 : Int32)) rfl (hD hby d39_111) rfl ?_
  refine g_iadd X1497 hx (pc' := 114) rfl (hD hby d39_113) ?_
  refine g_callV X1497 hx hZ hown (wat hw 198 rfl) (wat hw 199 rfl) (wat hw 201 rfl) (wat hw 200 rfl) (wat hw 2 rfl) (wat hw 202 rfl) (by decide) (a := t) S0.1 (rm34 l Z a0 hw [] n0 (Ts) t (pr ++ ([34, 32, 110, 97, 109, 101, 115, 32, 116, 119, 111, 32, 102, 97, 99, 105, 108, 105, 116, 105, 101, 115] : List Int32)) (o' + (9 : Int32)) n' m' (pr.length + 9) fo cz h0 hn0 O4 hfo U1 U2 U3 O2 hcz OLD S0 (own_oi ho rfl (by omega)) (by simp) hb hn hM hs) pd_38 rfl rfl (pc' := 117) rfl (hD hby d39_114) (argsL := [(.int (o' + (9 : Int32)))]) (rest := []) rfl (W := 0) (fun v1498 T1498 h1498 X1498 hQ1498 => ?_)
  obtain ⟨rfl, he1498⟩ := hQ1498
  rw [he1498] at X1498
  show Go p e below s n0 _ _ _ (T1498.setTop (mkF m 117 _ [(.int ((pr ++ ([34, 32, 110, 97, 109, 101, 115, 32, 116, 119, 111, 32, 102, 97, 99, 105, 108, 105, 116, 105, 101, 115] : List Int32)).getD (pr.length + 9) 0))]))
  refine g_normI (z := (119 : Int32)) (own_gr rfl) ?_
  refine g_bipush X1498 hx (pc' := 119) (z := (119 : Int32)) rfl (hD hby d39_117) rfl ?_
  refine g_icmpN X1498 hx (pcN := 122) (hD hby d39_119) rfl (show ¬ (¬ (119 : Int32) = (119 : Int32)) from by decide) ?_
  refine g_aloadN X1498 hx (pc' := 123) rfl (hD hby d39_122) rfl rfl ?_
  refine g_iloadN X1498 hx (pc' := 124) rfl (hD hby d39_123) rfl ?_
  refine g_bipush X1498 hx (pc' := 126) (z := (10 : Int32)) rfl (hD hby d39_124) rfl ?_
  refine g_iadd X1498 hx (pc' := 127) rfl (hD hby d39_126) ?_
  refine g_callV X1498 hx hZ hown (wat hw 198 rfl) (wat hw 199 rfl) (wat hw 201 rfl) (wat hw 200 rfl) (wat hw 2 rfl) (wat hw 202 rfl) (by decide) (a := t) S0.1 (rm34 l Z a0 hw [] n0 (Ts) t (pr ++ ([34, 32, 110, 97, 109, 101, 115, 32, 116, 119, 111, 32, 102, 97, 99, 105, 108, 105, 116, 105, 101, 115] : List Int32)) (o' + (10 : Int32)) n' m' (pr.length + 10) fo cz h0 hn0 O4 hfo U1 U2 U3 O2 hcz OLD S0 (own_oi ho rfl (by omega)) (by simp) hb hn hM hs) pd_38 rfl rfl (pc' := 130) rfl (hD hby d39_127) (argsL := [(.int (o' + (10 : Int32)))]) (rest := []) rfl (W := 0) (fun v1499 T1499 h1499 X1499 hQ1499 => ?_)
  obtain ⟨rfl, he1499⟩ := hQ1499
  rw [he1499] at X1499
  show Go p e below s n0 _ _ _ (T1499.setTop (mkF m 130 _ [(.int ((pr ++ ([34, 32, 110, 97, 109, 101, 115, 32, 116, 119, 111, 32, 102, 97, 99, 105, 108, 105, 116, 105, 101, 115] : List Int32)).getD (pr.length + 10) 0))]))
  refine g_normI (z := (111 : Int32)) (own_gr rfl) ?_
  refine g_bipush X1499 hx (pc' := 132) (z := (111 : Int32)) rfl (hD hby d39_130) rfl ?_
  refine g_icmpN X1499 hx (pcN := 135) (hD hby d39_132) rfl (show ¬ (¬ (111 : Int32) = (111 : Int32)) from by decide) ?_
  refine g_aloadN X1499 hx (pc' := 136) rfl (hD hby d39_135) rfl rfl ?_
  refine g_iloadN X1499 hx (pc' := 137) rfl (hD hby d39_136) rfl ?_
  refine g_bipush X1499 hx (pc' := 139) (z := (11 : Int32)) rfl (hD hby d39_137) rfl ?_
  refine g_iadd X1499 hx (pc' := 140) rfl (hD hby d39_139) ?_
  refine g_callV X1499 hx hZ hown (wat hw 198 rfl) (wat hw 199 rfl) (wat hw 201 rfl) (wat hw 200 rfl) (wat hw 2 rfl) (wat hw 202 rfl) (by decide) (a := t) S0.1 (rm34 l Z a0 hw [] n0 (Ts) t (pr ++ ([34, 32, 110, 97, 109, 101, 115, 32, 116, 119, 111, 32, 102, 97, 99, 105, 108, 105, 116, 105, 101, 115] : List Int32)) (o' + (11 : Int32)) n' m' (pr.length + 11) fo cz h0 hn0 O4 hfo U1 U2 U3 O2 hcz OLD S0 (own_oi ho rfl (by omega)) (by simp) hb hn hM hs) pd_38 rfl rfl (pc' := 143) rfl (hD hby d39_140) (argsL := [(.int (o' + (11 : Int32)))]) (rest := []) rfl (W := 0) (fun v1500 T1500 h1500 X1500 hQ1500 => ?_)
  obtain ⟨rfl, he1500⟩ := hQ1500
  rw [he1500] at X1500
  show Go p e below s n0 _ _ _ (T1500.setTop (mkF m 143 _ [(.int ((pr ++ ([34, 32, 110, 97, 109, 101, 115, 32, 116, 119, 111, 32, 102, 97, 99, 105, 108, 105, 116, 105, 101, 115] : List Int32)).getD (pr.length + 11) 0))]))
  refine g_normI (z := (32 : Int32)) (own_gr rfl) ?_
  refine g_bipush X1500 hx (pc' := 145) (z := (32 : Int32)) rfl (hD hby d39_143) rfl ?_
  refine g_icmpN X1500 hx (pcN := 148) (hD hby d39_145) rfl (show ¬ (¬ (32 : Int32) = (32 : Int32)) from by decide) ?_
  refine g_aloadN X1500 hx (pc' := 149) rfl (hD hby d39_148) rfl rfl ?_
  refine g_iloadN X1500 hx (pc' := 150) rfl (hD hby d39_149) rfl ?_
  refine g_bipush X1500 hx (pc' := 152) (z := (12 : Int32)) rfl (hD hby d39_150) rfl ?_
  refine g_iadd X1500 hx (pc' := 153) rfl (hD hby d39_152) ?_
  refine g_callV X1500 hx hZ hown (wat hw 198 rfl) (wat hw 199 rfl) (wat hw 201 rfl) (wat hw 200 rfl) (wat hw 2 rfl) (wat hw 202 rfl) (by decide) (a := t) S0.1 (rm34 l Z a0 hw [] n0 (Ts) t (pr ++ ([34, 32, 110, 97, 109, 101, 115, 32, 116, 119, 111, 32, 102, 97, 99, 105, 108, 105, 116, 105, 101, 115] : List Int32)) (o' + (12 : Int32)) n' m' (pr.length + 12) fo cz h0 hn0 O4 hfo U1 U2 U3 O2 hcz OLD S0 (own_oi ho rfl (by omega)) (by simp) hb hn hM hs) pd_38 rfl rfl (pc' := 156) rfl (hD hby d39_153) (argsL := [(.int (o' + (12 : Int32)))]) (rest := []) rfl (W := 0) (fun v1501 T1501 h1501 X1501 hQ1501 => ?_)
  obtain ⟨rfl, he1501⟩ := hQ1501
  rw [he1501] at X1501
  show Go p e below s n0 _ _ _ (T1501.setTop (mkF m 156 _ [(.int ((pr ++ ([34, 32, 110, 97, 109, 101, 115, 32, 116, 119, 111, 32, 102, 97, 99, 105, 108, 105, 116, 105, 101, 115] : List Int32)).getD (pr.length + 12) 0))]))
  refine g_normI (z := (102 : Int32)) (own_gr rfl) ?_
  refine g_bipush X1501 hx (pc' := 158) (z := (102 : Int32)) rfl (hD hby d39_156) rfl ?_
  refine g_icmpN X1501 hx (pcN := 161) (hD hby d39_158) rfl (show ¬ (¬ (102 : Int32) = (102 : Int32)) from by decide) ?_
  refine g_aloadN X1501 hx (pc' := 162) rfl (hD hby d39_161) rfl rfl ?_
  refine g_iloadN X1501 hx (pc' := 163) rfl (hD hby d39_162) rfl ?_
  refine g_bipush X1501 hx (pc' := 165) (z := (13 : Int32)) rfl (hD hby d39_163) rfl ?_
  refine g_iadd X1501 hx (pc' := 166) rfl (hD hby d39_165) ?_
  refine g_callV X1501 hx hZ hown (wat hw 198 rfl) (wat hw 199 rfl) (wat hw 201 rfl) (wat hw 200 rfl) (wat hw 2 rfl) (wat hw 202 rfl) (by decide) (a := t) S0.1 (rm34 l Z a0 hw [] n0 (Ts) t (pr ++ ([34, 32, 110, 97, 109, 101, 115, 32, 116, 119, 111, 32, 102, 97, 99, 105, 108, 105, 116, 105, 101, 115] : List Int32)) (o' + (13 : Int32)) n' m' (pr.length + 13) fo cz h0 hn0 O4 hfo U1 U2 U3 O2 hcz OLD S0 (own_oi ho rfl (by omega)) (by simp) hb hn hM hs) pd_38 rfl rfl (pc' := 169) rfl (hD hby d39_166) (argsL := [(.int (o' + (13 : Int32)))]) (rest := []) rfl (W := 0) (fun v1502 T1502 h1502 X1502 hQ1502 => ?_)
  obtain ⟨rfl, he1502⟩ := hQ1502
  rw [he1502] at X1502
  show Go p e below s n0 _ _ _ (T1502.setTop (mkF m 169 _ [(.int ((pr ++ ([34, 32, 110, 97, 109, 101, 115, 32, 116, 119, 111, 32, 102, 97, 99, 105, 108, 105, 116, 105, 101, 115] : List Int32)).getD (pr.length + 13) 0))]))
  refine g_normI (z := (97 : Int32)) (own_gr rfl) ?_
  refine g_bipush X1502 hx (pc' := 171) (z := (97 : Int32)) rfl (hD hby d39_169) rfl ?_
  refine g_icmpN X1502 hx (pcN := 174) (hD hby d39_171) rfl (show ¬ (¬ (97 : Int32) = (97 : Int32)) from by decide) ?_
  refine g_aloadN X1502 hx (pc' := 175) rfl (hD hby d39_174) rfl rfl ?_
  refine g_iloadN X1502 hx (pc' := 176) rfl (hD hby d39_175) rfl ?_
  refine g_bipush X1502 hx (pc' := 178) (z := (14 : Int32)) rfl (hD hby d39_176) rfl ?_
  refine g_iadd X1502 hx (pc' := 179) rfl (hD hby d39_178) ?_
  refine g_callV X1502 hx hZ hown (wat hw 198 rfl) (wat hw 199 rfl) (wat hw 201 rfl) (wat hw 200 rfl) (wat hw 2 rfl) (wat hw 202 rfl) (by decide) (a := t) S0.1 (rm34 l Z a0 hw [] n0 (Ts) t (pr ++ ([34, 32, 110, 97, 109, 101, 115, 32, 116, 119, 111, 32, 102, 97, 99, 105, 108, 105, 116, 105, 101, 115] : List Int32)) (o' + (14 : Int32)) n' m' (pr.length + 14) fo cz h0 hn0 O4 hfo U1 U2 U3 O2 hcz OLD S0 (own_oi ho rfl (by omega)) (by simp) hb hn hM hs) pd_38 rfl rfl (pc' := 182) rfl (hD hby d39_179) (argsL := [(.int (o' + (14 : Int32)))]) (rest := []) rfl (W := 0) (fun v1503 T1503 h1503 X1503 hQ1503 => ?_)
  obtain ⟨rfl, he1503⟩ := hQ1503
  rw [he1503] at X1503
  show Go p e below s n0 _ _ _ (T1503.setTop (mkF m 182 _ [(.int ((pr ++ ([34, 32, 110, 97, 109, 101, 115, 32, 116, 119, 111, 32, 102, 97, 99, 105, 108, 105, 116, 105, 101, 115] : List Int32)).getD (pr.length + 14) 0))]))
  refine g_normI (z := (99 : Int32)) (own_gr rfl) ?_
  refine g_bipush X1503 hx (pc' := 184) (z := (99 : Int32)) rfl (hD hby d39_182) rfl ?_
  refine g_icmpN X1503 hx (pcN := 187) (hD hby d39_184) rfl (show ¬ (¬ (99 : Int32) = (99 : Int32)) from by decide) ?_
  refine g_aloadN X1503 hx (pc' := 188) rfl (hD hby d39_187) rfl rfl ?_
  refine g_iloadN X1503 hx (pc' := 189) rfl (hD hby d39_188) rfl ?_
  refine g_bipush X1503 hx (pc' := 191) (z := (15 : Int32)) rfl (hD hby d39_189) rfl ?_
  refine g_iadd X1503 hx (pc' := 192) rfl (hD hby d39_191) ?_
  refine g_callV X1503 hx hZ hown (wat hw 198 rfl) (wat hw 199 rfl) (wat hw 201 rfl) (wat hw 200 rfl) (wat hw 2 rfl) (wat hw 202 rfl) (by decide) (a := t) S0.1 (rm34 l Z a0 hw [] n0 (Ts) t (pr ++ ([34, 32, 110, 97, 109, 101, 115, 32, 116, 119, 111, 32, 102, 97, 99, 105, 108, 105, 116, 105, 101, 115] : List Int32)) (o' + (15 : Int32)) n' m' (pr.length + 15) fo cz h0 hn0 O4 hfo U1 U2 U3 O2 hcz OLD S0 (own_oi ho rfl (by omega)) (by simp) hb hn hM hs) pd_38 rfl rfl (pc' := 195) rfl (hD hby d39_192) (argsL := [(.int (o' + (15 : Int32)))]) (rest := []) rfl (W := 0) (fun v1504 T1504 h1504 X1504 hQ1504 => ?_)
  obtain ⟨rfl, he1504⟩ := hQ1504
  rw [he1504] at X1504
  show Go p e below s n0 _ _ _ (T1504.setTop (mkF m 195 _ [(.int ((pr ++ ([34, 32, 110, 97, 109, 101, 115, 32, 116, 119, 111, 32, 102, 97, 99, 105, 108, 105, 116, 105, 101, 115] : List Int32)).getD (pr.length + 15) 0))]))
  refine g_normI (z := (105 : Int32)) (own_gr rfl) ?_
  refine g_bipush X1504 hx (pc' := 197) (z := (105 : Int32)) rfl (hD hby d39_195) rfl ?_
  refine g_icmpN X1504 hx (pcN := 200) (hD hby d39_197) rfl (show ¬ (¬ (105 : Int32) = (105 : Int32)) from by decide) ?_
  refine g_aloadN X1504 hx (pc' := 201) rfl (hD hby d39_200) rfl rfl ?_
  refine g_iloadN X1504 hx (pc' := 202) rfl (hD hby d39_201) rfl ?_
  refine g_bipush X1504 hx (pc' := 204) (z := (16 : Int32)) rfl (hD hby d39_202) rfl ?_
  refine g_iadd X1504 hx (pc' := 205) rfl (hD hby d39_204) ?_
  refine g_callV X1504 hx hZ hown (wat hw 198 rfl) (wat hw 199 rfl) (wat hw 201 rfl) (wat hw 200 rfl) (wat hw 2 rfl) (wat hw 202 rfl) (by decide) (a := t) S0.1 (rm34 l Z a0 hw [] n0 (Ts) t (pr ++ ([34, 32, 110, 97, 109, 101, 115, 32, 116, 119, 111, 32, 102, 97, 99, 105, 108, 105, 116, 105, 101, 115] : List Int32)) (o' + (16 : Int32)) n' m' (pr.length + 16) fo cz h0 hn0 O4 hfo U1 U2 U3 O2 hcz OLD S0 (own_oi ho rfl (by omega)) (by simp) hb hn hM hs) pd_38 rfl rfl (pc' := 208) rfl (hD hby d39_205) (argsL := [(.int (o' + (16 : Int32)))]) (rest := []) rfl (W := 0) (fun v1505 T1505 h1505 X1505 hQ1505 => ?_)
  obtain ⟨rfl, he1505⟩ := hQ1505
  rw [he1505] at X1505
  show Go p e below s n0 _ _ _ (T1505.setTop (mkF m 208 _ [(.int ((pr ++ ([34, 32, 110, 97, 109, 101, 115, 32, 116, 119, 111, 32, 102, 97, 99, 105, 108, 105, 116, 105, 101, 115] : List Int32)).getD (pr.length + 16) 0))]))
  refine g_normI (z := (108 : Int32)) (own_gr rfl) ?_
  refine g_bipush X1505 hx (pc' := 210) (z := (108 : Int32)) rfl (hD hby d39_208) rfl ?_
  refine g_icmpN X1505 hx (pcN := 213) (hD hby d39_210) rfl (show ¬ (¬ (108 : Int32) = (108 : Int32)) from by decide) ?_
  refine g_aloadN X1505 hx (pc' := 214) rfl (hD hby d39_213) rfl rfl ?_
  refine g_iloadN X1505 hx (pc' := 215) rfl (hD hby d39_214) rfl ?_
  refine g_bipush X1505 hx (pc' := 217) (z := (17 : Int32)) rfl (hD hby d39_215) rfl ?_
  refine g_iadd X1505 hx (pc' := 218) rfl (hD hby d39_217) ?_
  refine g_callV X1505 hx hZ hown (wat hw 198 rfl) (wat hw 199 rfl) (wat hw 201 rfl) (wat hw 200 rfl) (wat hw 2 rfl) (wat hw 202 rfl) (by decide) (a := t) S0.1 (rm34 l Z a0 hw [] n0 (Ts) t (pr ++ ([34, 32, 110, 97, 109, 101, 115, 32, 116, 119, 111, 32, 102, 97, 99, 105, 108, 105, 116, 105, 101, 115] : List Int32)) (o' + (17 : Int32)) n' m' (pr.length + 17) fo cz h0 hn0 O4 hfo U1 U2 U3 O2 hcz OLD S0 (own_oi ho rfl (by omega)) (by simp) hb hn hM hs) pd_38 rfl rfl (pc' := 221) rfl (hD hby d39_218) (argsL := [(.int (o' + (17 : Int32)))]) (rest := []) rfl (W := 0) (fun v1506 T1506 h1506 X1506 hQ1506 => ?_)
  obtain ⟨rfl, he1506⟩ := hQ1506
  rw [he1506] at X1506
  show Go p e below s n0 _ _ _ (T1506.setTop (mkF m 221 _ [(.int ((pr ++ ([34, 32, 110, 97, 109, 101, 115, 32, 116, 119, 111, 32, 102, 97, 99, 105, 108, 105, 116, 105, 101, 115] : List Int32)).getD (pr.length + 17) 0))]))
  refine g_normI (z := (105 : Int32)) (own_gr rfl) ?_
  refine g_bipush X1506 hx (pc' := 223) (z := (105 : Int32)) rfl (hD hby d39_221) rfl ?_
  refine g_icmpN X1506 hx (pcN := 226) (hD hby d39_223) rfl (show ¬ (¬ (105 : Int32) = (105 : Int32)) from by decide) ?_
  refine g_aloadN X1506 hx (pc' := 227) rfl (hD hby d39_226) rfl rfl ?_
  refine g_iloadN X1506 hx (pc' := 228) rfl (hD hby d39_227) rfl ?_
  refine g_bipush X1506 hx (pc' := 230) (z := (18 : Int32)) rfl (hD hby d39_228) rfl ?_
  refine g_iadd X1506 hx (pc' := 231) rfl (hD hby d39_230) ?_
  refine g_callV X1506 hx hZ hown (wat hw 198 rfl) (wat hw 199 rfl) (wat hw 201 rfl) (wat hw 200 rfl) (wat hw 2 rfl) (wat hw 202 rfl) (by decide) (a := t) S0.1 (rm34 l Z a0 hw [] n0 (Ts) t (pr ++ ([34, 32, 110, 97, 109, 101, 115, 32, 116, 119, 111, 32, 102, 97, 99, 105, 108, 105, 116, 105, 101, 115] : List Int32)) (o' + (18 : Int32)) n' m' (pr.length + 18) fo cz h0 hn0 O4 hfo U1 U2 U3 O2 hcz OLD S0 (own_oi ho rfl (by omega)) (by simp) hb hn hM hs) pd_38 rfl rfl (pc' := 234) rfl (hD hby d39_231) (argsL := [(.int (o' + (18 : Int32)))]) (rest := []) rfl (W := 0) (fun v1507 T1507 h1507 X1507 hQ1507 => ?_)
  obtain ⟨rfl, he1507⟩ := hQ1507
  rw [he1507] at X1507
  show Go p e below s n0 _ _ _ (T1507.setTop (mkF m 234 _ [(.int ((pr ++ ([34, 32, 110, 97, 109, 101, 115, 32, 116, 119, 111, 32, 102, 97, 99, 105, 108, 105, 116, 105, 101, 115] : List Int32)).getD (pr.length + 18) 0))]))
  refine g_normI (z := (116 : Int32)) (own_gr rfl) ?_
  refine g_bipush X1507 hx (pc' := 236) (z := (116 : Int32)) rfl (hD hby d39_234) rfl ?_
  refine g_icmpN X1507 hx (pcN := 239) (hD hby d39_236) rfl (show ¬ (¬ (116 : Int32) = (116 : Int32)) from by decide) ?_
  refine g_aloadN X1507 hx (pc' := 240) rfl (hD hby d39_239) rfl rfl ?_
  refine g_iloadN X1507 hx (pc' := 241) rfl (hD hby d39_240) rfl ?_
  refine g_bipush X1507 hx (pc' := 243) (z := (19 : Int32)) rfl (hD hby d39_241) rfl ?_
  refine g_iadd X1507 hx (pc' := 244) rfl (hD hby d39_243) ?_
  refine g_callV X1507 hx hZ hown (wat hw 198 rfl) (wat hw 199 rfl) (wat hw 201 rfl) (wat hw 200 rfl) (wat hw 2 rfl) (wat hw 202 rfl) (by decide) (a := t) S0.1 (rm34 l Z a0 hw [] n0 (Ts) t (pr ++ ([34, 32, 110, 97, 109, 101, 115, 32, 116, 119, 111, 32, 102, 97, 99, 105, 108, 105, 116, 105, 101, 115] : List Int32)) (o' + (19 : Int32)) n' m' (pr.length + 19) fo cz h0 hn0 O4 hfo U1 U2 U3 O2 hcz OLD S0 (own_oi ho rfl (by omega)) (by simp) hb hn hM hs) pd_38 rfl rfl (pc' := 247) rfl (hD hby d39_244) (argsL := [(.int (o' + (19 : Int32)))]) (rest := []) rfl (W := 0) (fun v1508 T1508 h1508 X1508 hQ1508 => ?_)
  obtain ⟨rfl, he1508⟩ := hQ1508
  rw [he1508] at X1508
  show Go p e below s n0 _ _ _ (T1508.setTop (mkF m 247 _ [(.int ((pr ++ ([34, 32, 110, 97, 109, 101, 115, 32, 116, 119, 111, 32, 102, 97, 99, 105, 108, 105, 116, 105, 101, 115] : List Int32)).getD (pr.length + 19) 0))]))
  refine g_normI (z := (105 : Int32)) (own_gr rfl) ?_
  refine g_bipush X1508 hx (pc' := 249) (z := (105 : Int32)) rfl (hD hby d39_247) rfl ?_
  refine g_icmpN X1508 hx (pcN := 252) (hD hby d39_249) rfl (show ¬ (¬ (105 : Int32) = (105 : Int32)) from by decide) ?_
  refine g_aloadN X1508 hx (pc' := 253) rfl (hD hby d39_252) rfl rfl ?_
  refine g_iloadN X1508 hx (pc' := 254) rfl (hD hby d39_253) rfl ?_
  refine g_bipush X1508 hx (pc' := 256) (z := (20 : Int32)) rfl (hD hby d39_254) rfl ?_
  refine g_iadd X1508 hx (pc' := 257) rfl (hD hby d39_256) ?_
  refine g_callV X1508 hx hZ hown (wat hw 198 rfl) (wat hw 199 rfl) (wat hw 201 rfl) (wat hw 200 rfl) (wat hw 2 rfl) (wat hw 202 rfl) (by decide) (a := t) S0.1 (rm34 l Z a0 hw [] n0 (Ts) t (pr ++ ([34, 32, 110, 97, 109, 101, 115, 32, 116, 119, 111, 32, 102, 97, 99, 105, 108, 105, 116, 105, 101, 115] : List Int32)) (o' + (20 : Int32)) n' m' (pr.length + 20) fo cz h0 hn0 O4 hfo U1 U2 U3 O2 hcz OLD S0 (own_oi ho rfl (by omega)) (by simp) hb hn hM hs) pd_38 rfl rfl (pc' := 260) rfl (hD hby d39_257) (argsL := [(.int (o' + (20 : Int32)))]) (rest := []) rfl (W := 0) (fun v1509 T1509 h1509 X1509 hQ1509 => ?_)
  obtain ⟨rfl, he1509⟩ := hQ1509
  rw [he1509] at X1509
  show Go p e below s n0 _ _ _ (T1509.setTop (mkF m 260 _ [(.int ((pr ++ ([34, 32, 110, 97, 109, 101, 115, 32, 116, 119, 111, 32, 102, 97, 99, 105, 108, 105, 116, 105, 101, 115] : List Int32)).getD (pr.length + 20) 0))]))
  refine g_normI (z := (101 : Int32)) (own_gr rfl) ?_
  refine g_bipush X1509 hx (pc' := 262) (z := (101 : Int32)) rfl (hD hby d39_260) rfl ?_
  refine g_icmpN X1509 hx (pcN := 265) (hD hby d39_262) rfl (show ¬ (¬ (101 : Int32) = (101 : Int32)) from by decide) ?_
  refine g_aloadN X1509 hx (pc' := 266) rfl (hD hby d39_265) rfl rfl ?_
  refine g_iloadN X1509 hx (pc' := 267) rfl (hD hby d39_266) rfl ?_
  refine g_bipush X1509 hx (pc' := 269) (z := (21 : Int32)) rfl (hD hby d39_267) rfl ?_
  refine g_iadd X1509 hx (pc' := 270) rfl (hD hby d39_269) ?_
  refine g_callV X1509 hx hZ hown (wat hw 198 rfl) (wat hw 199 rfl) (wat hw 201 rfl) (wat hw 200 rfl) (wat hw 2 rfl) (wat hw 202 rfl) (by decide) (a := t) S0.1 (rm34 l Z a0 hw [] n0 (Ts) t (pr ++ ([34, 32, 110, 97, 109, 101, 115, 32, 116, 119, 111, 32, 102, 97, 99, 105, 108, 105, 116, 105, 101, 115] : List Int32)) (o' + (21 : Int32)) n' m' (pr.length + 21) fo cz h0 hn0 O4 hfo U1 U2 U3 O2 hcz OLD S0 (own_oi ho rfl (by omega)) (by simp) hb hn hM hs) pd_38 rfl rfl (pc' := 273) rfl (hD hby d39_270) (argsL := [(.int (o' + (21 : Int32)))]) (rest := []) rfl (W := 0) (fun v1510 T1510 h1510 X1510 hQ1510 => ?_)
  obtain ⟨rfl, he1510⟩ := hQ1510
  rw [he1510] at X1510
  show Go p e below s n0 _ _ _ (T1510.setTop (mkF m 273 _ [(.int ((pr ++ ([34, 32, 110, 97, 109, 101, 115, 32, 116, 119, 111, 32, 102, 97, 99, 105, 108, 105, 116, 105, 101, 115] : List Int32)).getD (pr.length + 21) 0))]))
  refine g_normI (z := (115 : Int32)) (own_gr rfl) ?_
  refine g_bipush X1510 hx (pc' := 275) (z := (115 : Int32)) rfl (hD hby d39_273) rfl ?_
  refine g_icmpN X1510 hx (pcN := 278) (hD hby d39_275) rfl (show ¬ (¬ (115 : Int32) = (115 : Int32)) from by decide) ?_
  refine g_iconst X1510 hx (pc' := 279) (z := (1 : Int32)) rfl (hD hby d39_278) rfl ?_
  refine g_goto X1510 hx (pc' := 283) (hD hby d39_279) (by decide) (by decide) ?_
  exact g_retZ X1510 hx hlk hret (by first | exact Or.inl rfl | exact Or.inr rfl) (hD hby d39_283) (by decide) (by decide) (Nat.le_refl _) (⟨rfl, rfl⟩)
theorem own_ch2 {P : Int32 → Prop} {a b : Int32} (h1 : P a) (h2 : P b) : ∀ c ∈ ([a, b] : List Int32), P c := fun c hc => by
  rcases List.mem_cons.mp hc with rfl | hc
  · exact h1
  · rw [List.mem_singleton.mp hc]; exact h2
theorem own_ch3 {P : Int32 → Prop} {a b d : Int32} (h1 : P a) (h2 : P b) (h3 : P d) : ∀ c ∈ ([a, b, d] : List Int32), P c := fun c hc => by
  rcases List.mem_cons.mp hc with rfl | hc
  · exact h1
  · exact own_ch2 h2 h3 c hc
theorem ar_and3 (x : Int32) : (x &&& (3 : Int32)) = 0 ∨ (x &&& (3 : Int32)) = 1 ∨ (x &&& (3 : Int32)) = 2 ∨ (x &&& (3 : Int32)) = 3 := by
  have h1 : (x.toUInt32 &&& 3).toNat ≤ 3 := by rw [UInt32.toNat_and]; exact Nat.and_le_right
  have e : (x &&& (3 : Int32)) = (x.toUInt32 &&& 3).toInt32 := rfl
  have q : (x &&& (3 : Int32)).toInt = ((x.toUInt32 &&& 3).toNat : Int) := by rw [e, ar_u (by omega)]
  obtain ⟨k, hk⟩ := chr_nat (c := x &&& (3 : Int32)) (by omega) (n := 4) (by omega)
  rw [hk]
  have all : ∀ k : Fin 4, Int32.ofNat k.val = 0 ∨ Int32.ofNat k.val = 1 ∨ Int32.ofNat k.val = 2 ∨ Int32.ofNat k.val = 3 := by decide +kernel
  exact all k
theorem rm0 (l : Launch) (Z : State) (a0 : Array Value) (hw : HW a0 Z) (ws : List Jvm.Cond) (n0 : Nat) (Ts : List String) (le aa bb cc cz : Int32) (at9 : Addr) (fo : Value) (h0 : Heap) (hn0 : n0 ≤ h0.size) (hcw : Jvm.Lit.compactW.before a0 Z = true) (hkc : ∀ q ∈ consts_1, Jvm.Lit.constHeld Z q.1 q.2) (O4 : St1 Z fo) (hfo : fo.isRef = true) (U1 : St2 Z (.int 1)) (U2 : St3 Z (.int 0)) (U3 : St4 Z (.int 8)) (O2 : St0 Z (.int cz)) (hcz : ¬ cz = 0) (OLD : OldP Z n0 h0) (hT0 : "" ∉ Ts) (hT1 : "[" ∉ Ts) (hT2 : "] " ∉ Ts) (hT3 : " \"" ∉ Ts) (hT4 : "\" names two facilities" ∉ Ts) (SF : St5 Z (.ref at9)) (AM : Atm Z Z.heap at9) :
    Con l Z n0 Ts ("\" names two facilities" :: " \"" :: "] " :: "[" :: "" :: Ts) x code maxLocals ret ws room_1 #[(.int le), (.int aa), (.int bb), (.int cc)] h0 (fun v h => v = some (.int 1)) := by
  refine con_start (hfr := fun m => by first | (simp [entryFrame, mkF, argsToLocals, Value.category, maxLocals]; done) | rfl) (fr0 := fun m => mkF m 0 #[.val (.int le), .val (.int aa), .val (.int bb), .val (.int cc), .unset, .unset, .unset, .unset, .unset, .unset, .unset] []) ?_
  intro p e s m below meth c T0 hx hZ hby hml hown hnm hret hlk hsh XA
  have X0 := XA n0
  have hlow : n0 ≤ s.heap.size := by rw [hsh]; exact hn0
  replace hown : s.vm.findClass "com/example/tenorbook/tenorbook/terms/AgreementNamesTwoFacilitiesPinLaw" = some m.cls := hown
  replace hml : c.maxLocals = 11 := hml
  refine g_iloadN X0 hx (pc' := 1) rfl (hD hby at_0) rfl ?_
  refine g_iconst X0 hx (pc' := 2) (z := (3 : Int32)) rfl (hD hby at_1) rfl ?_
  refine g_iand X0 hx (pc' := 3) rfl (hD hby at_2) ?_
  rcases ar_and3 le with kn | kn | kn | kn
  · skip
    refine g_normI (z := (0 : Int32)) kn ?_
    refine g_istore X0 hx (pc' := 5) rfl (hD hby at_3) (l' := #[.val (.int le), .val (.int aa), .val (.int bb), .val (.int cc), .val (.int 0), .unset, .unset, .unset, .unset, .unset, .unset]) rfl ?_
    refine g_iloadN X0 hx (pc' := 6) rfl (hD hby at_5) rfl ?_
    refine g_i2c X0 hx (pc' := 7) rfl (hD hby at_6) ?_
    refine g_absI (fun c0 h_c0 => ?_)
    refine g_istore X0 hx (pc' := 9) rfl (hD hby at_7) (l' := #[.val (.int le), .val (.int aa), .val (.int bb), .val (.int cc), .val (.int 0), .val (.int c0), .unset, .unset, .unset, .unset, .unset]) rfl ?_
    have b_c0 : 0 ≤ c0.toInt ∧ c0.toInt < 65536 := by rw [h_c0]; exact ar_c _
    refine g_iloadN X0 hx (pc' := 10) rfl (hD hby at_9) rfl ?_
    refine g_i2c X0 hx (pc' := 11) rfl (hD hby at_10) ?_
    refine g_absI (fun c1 h_c1 => ?_)
    refine g_istore X0 hx (pc' := 13) rfl (hD hby at_11) (l' := #[.val (.int le), .val (.int aa), .val (.int bb), .val (.int cc), .val (.int 0), .val (.int c0), .val (.int c1), .unset, .unset, .unset, .unset]) rfl ?_
    have b_c1 : 0 ≤ c1.toInt ∧ c1.toInt < 65536 := by rw [h_c1]; exact ar_c _
    refine g_iloadN X0 hx (pc' := 14) rfl (hD hby at_13) rfl ?_
    refine g_i2c X0 hx (pc' := 15) rfl (hD hby at_14) ?_
    refine g_absI (fun c2 h_c2 => ?_)
    refine g_istore X0 hx (pc' := 17) rfl (hD hby at_15) (l' := #[.val (.int le), .val (.int aa), .val (.int bb), .val (.int cc), .val (.int 0), .val (.int c0), .val (.int c1), .val (.int c2), .unset, .unset, .unset]) rfl ?_
    have b_c2 : 0 ≤ c2.toInt ∧ c2.toInt < 65536 := by rw [h_c2]; exact ar_c _
    refine g_iload X0 hx (pc' := 19) rfl (hD hby at_17) rfl ?_
    refine g_ifN X0 hx (pcN := 22) (hD hby at_19) rfl (show ¬ (¬ (0 : Int32) = 0) from by decide) ?_
    refine g_newO X0 hx hZ hown (wat hw 0 rfl) (wat hw 1 rfl) (wat hw 2 rfl) (pc' := 25) rfl (hD hby at_22) (by decide) (by decide) (fun T1511 h1511 a1511 ha1511 X1511 E1511 A1511 D1511 => ?_)
    have G_a1511 : n0 ≤ a1511 := by rw [ha1511]; exact hn0
    have Zs1511 : n0 ≤ h1511.size := Nat.le_trans hn0 E1511.1
    have f1512 := OLD.ext E1511
    have F1511_value : SV Z h1511 a1511 .null := D1511 (Or.inr (wat hw 16 rfl)) (ty := (.array .byte)) (by decide)
    have F1511_coder : SC Z h1511 a1511 (.int 0) := D1511 (Or.inr (wat hw 17 rfl)) (ty := .byte) (by decide)
    refine g_dup X1511 hx (pc' := 26) rfl (hD hby at_25) rfl ?_
    refine g_iconst X1511 hx (pc' := 27) (z := (0 : Int32)) rfl (hD hby at_26) rfl ?_
    refine g_newA X1511 hx hZ (aty := .char) (wat hw 3 rfl) (N := 0) (by decide) (cap := 0) (Nat.le_refl _) (by decide) (pc' := 29) rfl (hD hby at_27) (by decide) (by decide) (fun T1513 h1513 a1513 ha1513 X1513 E1513 N1513 => ?_)
    have ne1513_a1511 : a1511 ≠ a1513 := by rw [ha1513]; exact Nat.ne_of_lt A1511.lt
    have f1514 := A1511.ext E1513
    have f1515 := F1511_value.ext E1513
    have f1516 := F1511_coder.ext E1513
    have G_a1513 : n0 ≤ a1513 := by rw [ha1513]; exact Zs1511
    have Zs1513 : n0 ≤ h1513.size := Nat.le_trans Zs1511 E1513.1
    have f1517 := f1512.ext E1513
    have V1513 : AV Z h1513 a1513 .char [] := N1513
    refine g_callI X1513 hx hZ hown rfl (wat hw 4 rfl) (wat hw 5 rfl) (wat hw 2 rfl) (wat hw 6 rfl) (by decide) (a := a1511) (rm1_e l Z a0 hw [] n0 (Ts) a1511 a1513 cz h1513 Zs1513 hcw hkc O2 hcz f1517 hT0 f1514 G_a1511 f1515 f1516 V1513) pd_39 rfl rfl (pc' := 32) rfl (hD hby at_29) (argsL := [(.ref a1513)]) (rest := [(.ref a1511)]) rfl (W := 1) (fun v1518 T1518 h1518 X1518 hQ1518 => ?_)
    obtain ⟨rfl, K1518, SS1518⟩ := hQ1518
    have f1519 := f1517.keep K1518 (allS G_a1511 all0)
    have zs1518 : n0 ≤ h1518.size := Nat.le_trans Zs1513 K1518.1
    show Go p e below s n0 _ _ _ (T1518.setTop (mkF m 32 _ [(.ref a1511)]))
    refine g_astore X1518 hx (pc' := 34) rfl (hD hby at_32) rfl (l' := #[.val (.int le), .val (.int aa), .val (.int bb), .val (.int cc), .val (.int 0), .val (.int c0), .val (.int c1), .val (.int c2), .val (.ref a1511), .unset, .unset]) rfl ?_
    refine g_goto X1518 hx (pc' := 111) (hD hby at_34) (by decide) (by decide) ?_
    refine g_aload X1518 hx (pc' := 113) rfl (hD hby at_111) rfl rfl ?_
    refine g_callS X1518 hx hZ hown (wat hw 22 rfl) (wat hw 23 rfl) (wat hw 24 rfl) (wat hw 25 rfl) (by decide) (rm4 l Z a0 hw [] n0 ("" :: Ts) a1511 at9 ([] : List Int32) fo cz h1518 zs1518 hcw hkc O4 hfo U1 U2 U3 O2 hcz f1519 (own_nm1 (by decide) hT1) (own_nm1 (by decide) hT2) (own_nm1 (by decide) hT3) (own_nm1 (by decide) hT4) SF AM SS1518 (by decide)) pd_40 rfl rfl (pc' := 116) rfl (hD hby at_113) (argsL := [(.ref a1511)]) (rest := []) rfl (W := 0) (fun v1520 T1520 h1520 X1520 hQ1520 => ?_)
    obtain ⟨t1520, rfl, G1520, K1520, SR1520⟩ := hQ1520
    have f1521 := f1519.keep K1520 all0
    have zs1520 : n0 ≤ h1520.size := Nat.le_trans zs1518 K1520.1
    show Go p e below s n0 _ _ _ (T1520.setTop (mkF m 116 _ [(.ref t1520)]))
    refine g_astore X1520 hx (pc' := 118) rfl (hD hby at_116) rfl (l' := #[.val (.int le), .val (.int aa), .val (.int bb), .val (.int cc), .val (.int 0), .val (.int c0), .val (.int c1), .val (.int c2), .val (.ref a1511), .val (.ref t1520), .unset]) rfl ?_
    refine g_aload X1520 hx (pc' := 120) rfl (hD hby at_118) rfl rfl ?_
    refine g_ifnullN X1520 hx (pcN := 123) (hD hby at_120) rfl ?_
    refine g_aload X1520 hx (pc' := 125) rfl (hD hby at_123) rfl rfl ?_
    refine g_callV X1520 hx hZ hown (wat hw 193 rfl) (wat hw 75 rfl) (wat hw 77 rfl) (wat hw 76 rfl) (wat hw 2 rfl) (wat hw 78 rfl) (by decide) (a := t1520) SR1520.1 (rm12 l Z a0 hw [] n0 ("\" names two facilities" :: " \"" :: "] " :: "[" :: "" :: Ts) t1520 (([91, 102, 97, 99, 105, 108, 105, 116, 121, 93, 32, 105, 100, 32, 34] : List Int32) ++ ([] : List Int32) ++ ([34, 32, 110, 97, 109, 101, 115, 32, 116, 119, 111, 32, 102, 97, 99, 105, 108, 105, 116, 105, 101, 115] : List Int32)) (37 : Int32) (74 : Int32) cz h1520 zs1520 O2 hcz f1521 SR1520 rfl rfl (by decide)) pd_27 rfl rfl (pc' := 128) rfl (hD hby at_125) (argsL := []) (rest := []) rfl (W := 0) (fun v1522 T1522 h1522 X1522 hQ1522 => ?_)
    obtain ⟨rfl, he1522⟩ := hQ1522
    rw [he1522] at X1522
    show Go p e below s n0 _ _ _ (T1522.setTop (mkF m 128 _ [(.int 37)]))
    refine g_bipush X1522 hx (pc' := 130) (z := (37 : Int32)) rfl (hD hby at_128) rfl ?_
    refine g_iload X1522 hx (pc' := 132) rfl (hD hby at_130) rfl ?_
    refine g_iadd X1522 hx (pc' := 133) rfl (hD hby at_132) ?_
    refine g_normI (z := (37 : Int32)) (by decide) ?_
    refine g_icmpY X1522 hx (pcY := 138) (hD hby at_133) (by decide) (by decide) (show (37 : Int32) = (37 : Int32) from by decide) ?_
    refine g_iload X1522 hx (pc' := 140) rfl (hD hby at_138) rfl ?_
    refine g_iconst X1522 hx (pc' := 141) (z := (1 : Int32)) rfl (hD hby at_140) rfl ?_
    refine g_icmpY X1522 hx (pcY := 156) (hD hby at_141) (by decide) (by decide) (show (0 : Int32) < (1 : Int32) from by decide) ?_
    refine g_iload X1522 hx (pc' := 158) rfl (hD hby at_156) rfl ?_
    refine g_iconst X1522 hx (pc' := 159) (z := (2 : Int32)) rfl (hD hby at_158) rfl ?_
    refine g_icmpY X1522 hx (pcY := 174) (hD hby at_159) (by decide) (by decide) (show (0 : Int32) < (2 : Int32) from by decide) ?_
    refine g_iload X1522 hx (pc' := 176) rfl (hD hby at_174) rfl ?_
    refine g_iconst X1522 hx (pc' := 177) (z := (3 : Int32)) rfl (hD hby at_176) rfl ?_
    refine g_icmpY X1522 hx (pcY := 192) (hD hby at_177) (by decide) (by decide) (show (0 : Int32) < (3 : Int32) from by decide) ?_
    refine g_iconst X1522 hx (pc' := 193) (z := (1 : Int32)) rfl (hD hby at_192) rfl ?_
    refine g_goto X1522 hx (pc' := 197) (hD hby at_193) (by decide) (by decide) ?_
    refine g_istore X1522 hx (pc' := 199) rfl (hD hby at_197) (l' := #[.val (.int le), .val (.int aa), .val (.int bb), .val (.int cc), .val (.int 0), .val (.int c0), .val (.int c1), .val (.int c2), .val (.ref a1511), .val (.ref t1520), .val (.int 1)]) rfl ?_
    refine g_aload X1522 hx (pc' := 201) rfl (hD hby at_199) rfl rfl ?_
    refine g_callS X1522 hx hZ hown (wat hw 194 rfl) (wat hw 195 rfl) (wat hw 196 rfl) (wat hw 197 rfl) (by decide) (rm33 l Z a0 hw [] n0 ("\" names two facilities" :: " \"" :: "] " :: "[" :: "" :: Ts) t1520 (([] : List Int32) ++ ([34, 32, 110, 97, 109, 101, 115, 32, 116, 119, 111, 32, 102, 97, 99, 105, 108, 105, 116, 105, 101, 115] : List Int32)) (37 : Int32) (74 : Int32) fo cz h1520 zs1520 O4 hfo U1 U2 U3 O2 hcz f1521 SR1520 rfl rfl (by decide) (by simp)) pd_41 rfl rfl (pc' := 204) rfl (hD hby at_201) (argsL := [(.ref t1520)]) (rest := []) rfl (W := 0) (fun v1523 T1523 h1523 X1523 hQ1523 => ?_)
    obtain ⟨rfl, he1523⟩ := hQ1523
    rw [he1523] at X1523
    show Go p e below s n0 _ _ _ (T1523.setTop (mkF m 204 _ [(.int 1)]))
    refine g_ifN X1523 hx (pcN := 207) (hD hby at_204) rfl (show ¬ ((1 : Int32) = 0) from by decide) ?_
    refine g_iload X1523 hx (pc' := 209) rfl (hD hby at_207) rfl ?_
    refine g_ifN X1523 hx (pcN := 212) (hD hby at_209) rfl (show ¬ ((1 : Int32) = 0) from by decide) ?_
    refine g_aload X1523 hx (pc' := 214) rfl (hD hby at_212) rfl rfl ?_
    refine g_bipush X1523 hx (pc' := 216) (z := (15 : Int32)) rfl (hD hby at_214) rfl ?_
    refine g_iload X1523 hx (pc' := 218) rfl (hD hby at_216) rfl ?_
    refine g_iadd X1523 hx (pc' := 219) rfl (hD hby at_218) ?_
    refine g_normI (z := (15 : Int32)) (by decide) ?_
    refine g_callS X1523 hx hZ hown (wat hw 220 rfl) (wat hw 221 rfl) (wat hw 196 rfl) (wat hw 222 rfl) (by decide) (rm39 l Z a0 hw [] n0 ("\" names two facilities" :: " \"" :: "] " :: "[" :: "" :: Ts) t1520 (([91, 102, 97, 99, 105, 108, 105, 116, 121, 93, 32, 105, 100, 32, 34] : List Int32) ++ ([] : List Int32)) (15 : Int32) (37 : Int32) (74 : Int32) fo cz h1520 zs1520 O4 hfo U1 U2 U3 O2 hcz f1521 SR1520 rfl (by simp) rfl rfl (by decide) (by simp)) pd_42 rfl rfl (pc' := 222) rfl (hD hby at_219) (argsL := [(.ref t1520), (.int 15)]) (rest := []) rfl (W := 0) (fun v1524 T1524 h1524 X1524 hQ1524 => ?_)
    obtain ⟨rfl, he1524⟩ := hQ1524
    rw [he1524] at X1524
    show Go p e below s n0 _ _ _ (T1524.setTop (mkF m 222 _ [(.int 1)]))
    refine g_ifN X1524 hx (pcN := 225) (hD hby at_222) rfl (show ¬ ((1 : Int32) = 0) from by decide) ?_
    refine g_iconst X1524 hx (pc' := 226) (z := (1 : Int32)) rfl (hD hby at_225) rfl ?_
    refine g_goto X1524 hx (pc' := 230) (hD hby at_226) (by decide) (by decide) ?_
    exact g_retZ X1524 hx hlk hret (by first | exact Or.inl rfl | exact Or.inr rfl) (hD hby at_230) (by decide) (by decide) (Nat.le_refl _) (rfl)
  · skip
    refine g_normI (z := (1 : Int32)) kn ?_
    refine g_istore X0 hx (pc' := 5) rfl (hD hby at_3) (l' := #[.val (.int le), .val (.int aa), .val (.int bb), .val (.int cc), .val (.int 1), .unset, .unset, .unset, .unset, .unset, .unset]) rfl ?_
    refine g_iloadN X0 hx (pc' := 6) rfl (hD hby at_5) rfl ?_
    refine g_i2c X0 hx (pc' := 7) rfl (hD hby at_6) ?_
    refine g_absI (fun c0 h_c0 => ?_)
    refine g_istore X0 hx (pc' := 9) rfl (hD hby at_7) (l' := #[.val (.int le), .val (.int aa), .val (.int bb), .val (.int cc), .val (.int 1), .val (.int c0), .unset, .unset, .unset, .unset, .unset]) rfl ?_
    have b_c0 : 0 ≤ c0.toInt ∧ c0.toInt < 65536 := by rw [h_c0]; exact ar_c _
    refine g_iloadN X0 hx (pc' := 10) rfl (hD hby at_9) rfl ?_
    refine g_i2c X0 hx (pc' := 11) rfl (hD hby at_10) ?_
    refine g_absI (fun c1 h_c1 => ?_)
    refine g_istore X0 hx (pc' := 13) rfl (hD hby at_11) (l' := #[.val (.int le), .val (.int aa), .val (.int bb), .val (.int cc), .val (.int 1), .val (.int c0), .val (.int c1), .unset, .unset, .unset, .unset]) rfl ?_
    have b_c1 : 0 ≤ c1.toInt ∧ c1.toInt < 65536 := by rw [h_c1]; exact ar_c _
    refine g_iloadN X0 hx (pc' := 14) rfl (hD hby at_13) rfl ?_
    refine g_i2c X0 hx (pc' := 15) rfl (hD hby at_14) ?_
    refine g_absI (fun c2 h_c2 => ?_)
    refine g_istore X0 hx (pc' := 17) rfl (hD hby at_15) (l' := #[.val (.int le), .val (.int aa), .val (.int bb), .val (.int cc), .val (.int 1), .val (.int c0), .val (.int c1), .val (.int c2), .unset, .unset, .unset]) rfl ?_
    have b_c2 : 0 ≤ c2.toInt ∧ c2.toInt < 65536 := by rw [h_c2]; exact ar_c _
    refine g_iload X0 hx (pc' := 19) rfl (hD hby at_17) rfl ?_
    refine g_ifY X0 hx (pcY := 37) (hD hby at_19) (by decide) (by decide) (show ¬ (1 : Int32) = 0 from by decide) ?_
    refine g_iload X0 hx (pc' := 39) rfl (hD hby at_37) rfl ?_
    refine g_iconst X0 hx (pc' := 40) (z := (1 : Int32)) rfl (hD hby at_39) rfl ?_
    refine g_icmpN X0 hx (pcN := 43) (hD hby at_40) rfl (show ¬ (¬ (1 : Int32) = (1 : Int32)) from by decide) ?_
    refine g_iload X0 hx (pc' := 45) rfl (hD hby at_43) rfl ?_
    refine g_callS X0 hx hZ hown (wat hw 287 rfl) (wat hw 288 rfl) (wat hw 2 rfl) (wat hw 289 rfl) (by decide) (rm57 l Z a0 hw [] n0 (Ts) c0 cz h0 hn0 U1 U2 U3 O2 hcz OLD b_c0) pd_43 rfl rfl (pc' := 48) rfl (hD hby at_45) (argsL := [(.int c0)]) (rest := []) rfl (W := 0) (fun v1525 T1525 h1525 X1525 hQ1525 => ?_)
    obtain ⟨t1525, rfl, G1525, K1525, SS1525⟩ := hQ1525
    have f1526 := OLD.keep K1525 all0
    have zs1525 : n0 ≤ h1525.size := Nat.le_trans hn0 K1525.1
    show Go p e below s n0 _ _ _ (T1525.setTop (mkF m 48 _ [(.ref t1525)]))
    refine g_astore X1525 hx (pc' := 50) rfl (hD hby at_48) rfl (l' := #[.val (.int le), .val (.int aa), .val (.int bb), .val (.int cc), .val (.int 1), .val (.int c0), .val (.int c1), .val (.int c2), .val (.ref t1525), .unset, .unset]) rfl ?_
    refine g_goto X1525 hx (pc' := 111) (hD hby at_50) (by decide) (by decide) ?_
    refine g_aload X1525 hx (pc' := 113) rfl (hD hby at_111) rfl rfl ?_
    refine g_callS X1525 hx hZ hown (wat hw 22 rfl) (wat hw 23 rfl) (wat hw 24 rfl) (wat hw 25 rfl) (by decide) (rm4 l Z a0 hw [] n0 (Ts) t1525 at9 ([c0] : List Int32) fo cz h1525 zs1525 hcw hkc O4 hfo U1 U2 U3 O2 hcz f1526 hT1 hT2 hT3 hT4 SF AM SS1525 (show (1 : Nat) ≤ 3 by decide)) pd_40 rfl rfl (pc' := 116) rfl (hD hby at_113) (argsL := [(.ref t1525)]) (rest := []) rfl (W := 0) (fun v1527 T1527 h1527 X1527 hQ1527 => ?_)
    obtain ⟨t1527, rfl, G1527, K1527, SR1527⟩ := hQ1527
    have f1528 := f1526.keep K1527 all0
    have zs1527 : n0 ≤ h1527.size := Nat.le_trans zs1525 K1527.1
    show Go p e below s n0 _ _ _ (T1527.setTop (mkF m 116 _ [(.ref t1527)]))
    refine g_astore X1527 hx (pc' := 118) rfl (hD hby at_116) rfl (l' := #[.val (.int le), .val (.int aa), .val (.int bb), .val (.int cc), .val (.int 1), .val (.int c0), .val (.int c1), .val (.int c2), .val (.ref t1525), .val (.ref t1527), .unset]) rfl ?_
    refine g_aload X1527 hx (pc' := 120) rfl (hD hby at_118) rfl rfl ?_
    refine g_ifnullN X1527 hx (pcN := 123) (hD hby at_120) rfl ?_
    refine g_aload X1527 hx (pc' := 125) rfl (hD hby at_123) rfl rfl ?_
    refine g_callV X1527 hx hZ hown (wat hw 193 rfl) (wat hw 75 rfl) (wat hw 77 rfl) (wat hw 76 rfl) (wat hw 2 rfl) (wat hw 78 rfl) (by decide) (a := t1527) SR1527.1 (rm12 l Z a0 hw [] n0 ("\" names two facilities" :: " \"" :: "] " :: "[" :: Ts) t1527 (([91, 102, 97, 99, 105, 108, 105, 116, 121, 93, 32, 105, 100, 32, 34] : List Int32) ++ ([c0] : List Int32) ++ ([34, 32, 110, 97, 109, 101, 115, 32, 116, 119, 111, 32, 102, 97, 99, 105, 108, 105, 116, 105, 101, 115] : List Int32)) (38 : Int32) (76 : Int32) cz h1527 zs1527 O2 hcz f1528 SR1527 rfl rfl (by decide)) pd_27 rfl rfl (pc' := 128) rfl (hD hby at_125) (argsL := []) (rest := []) rfl (W := 0) (fun v1529 T1529 h1529 X1529 hQ1529 => ?_)
    obtain ⟨rfl, he1529⟩ := hQ1529
    rw [he1529] at X1529
    show Go p e below s n0 _ _ _ (T1529.setTop (mkF m 128 _ [(.int 38)]))
    refine g_bipush X1529 hx (pc' := 130) (z := (37 : Int32)) rfl (hD hby at_128) rfl ?_
    refine g_iload X1529 hx (pc' := 132) rfl (hD hby at_130) rfl ?_
    refine g_iadd X1529 hx (pc' := 133) rfl (hD hby at_132) ?_
    refine g_normI (z := (38 : Int32)) (by decide) ?_
    refine g_icmpY X1529 hx (pcY := 138) (hD hby at_133) (by decide) (by decide) (show (38 : Int32) = (38 : Int32) from by decide) ?_
    refine g_iload X1529 hx (pc' := 140) rfl (hD hby at_138) rfl ?_
    refine g_iconst X1529 hx (pc' := 141) (z := (1 : Int32)) rfl (hD hby at_140) rfl ?_
    refine g_icmpN X1529 hx (pcN := 144) (hD hby at_141) rfl (show ¬ ((1 : Int32) < (1 : Int32)) from by decide) ?_
    refine g_aload X1529 hx (pc' := 146) rfl (hD hby at_144) rfl rfl ?_
    refine g_bipush X1529 hx (pc' := 148) (z := (15 : Int32)) rfl (hD hby at_146) rfl ?_
    refine g_callV X1529 hx hZ hown (wat hw 198 rfl) (wat hw 199 rfl) (wat hw 201 rfl) (wat hw 200 rfl) (wat hw 2 rfl) (wat hw 202 rfl) (by decide) (a := t1527) SR1527.1 (rm34 l Z a0 hw [] n0 ("\" names two facilities" :: " \"" :: "] " :: "[" :: Ts) t1527 (([91, 102, 97, 99, 105, 108, 105, 116, 121, 93, 32, 105, 100, 32, 34] : List Int32) ++ ([c0] : List Int32) ++ ([34, 32, 110, 97, 109, 101, 115, 32, 116, 119, 111, 32, 102, 97, 99, 105, 108, 105, 116, 105, 101, 115] : List Int32)) (15 : Int32) (38 : Int32) (76 : Int32) 15 fo cz h1527 zs1527 O4 hfo U1 U2 U3 O2 hcz f1528 SR1527 rfl (by simp) (by simp) rfl rfl (by decide)) pd_38 rfl rfl (pc' := 151) rfl (hD hby at_148) (argsL := [(.int 15)]) (rest := []) rfl (W := 0) (fun v1530 T1530 h1530 X1530 hQ1530 => ?_)
    obtain ⟨rfl, he1530⟩ := hQ1530
    rw [he1530] at X1530
    show Go p e below s n0 _ _ _ (T1530.setTop (mkF m 151 _ [(.int ((([91, 102, 97, 99, 105, 108, 105, 116, 121, 93, 32, 105, 100, 32, 34] : List Int32) ++ ([c0] : List Int32) ++ ([34, 32, 110, 97, 109, 101, 115, 32, 116, 119, 111, 32, 102, 97, 99, 105, 108, 105, 116, 105, 101, 115] : List Int32)).getD 15 0))]))
    refine g_normI (z := c0) rfl ?_
    refine g_iload X1530 hx (pc' := 153) rfl (hD hby at_151) rfl ?_
    refine g_icmpN X1530 hx (pcN := 156) (hD hby at_153) rfl (show ¬ (¬ c0 = c0) from not_not_intro rfl) ?_
    refine g_iload X1530 hx (pc' := 158) rfl (hD hby at_156) rfl ?_
    refine g_iconst X1530 hx (pc' := 159) (z := (2 : Int32)) rfl (hD hby at_158) rfl ?_
    refine g_icmpY X1530 hx (pcY := 174) (hD hby at_159) (by decide) (by decide) (show (1 : Int32) < (2 : Int32) from by decide) ?_
    refine g_iload X1530 hx (pc' := 176) rfl (hD hby at_174) rfl ?_
    refine g_iconst X1530 hx (pc' := 177) (z := (3 : Int32)) rfl (hD hby at_176) rfl ?_
    refine g_icmpY X1530 hx (pcY := 192) (hD hby at_177) (by decide) (by decide) (show (1 : Int32) < (3 : Int32) from by decide) ?_
    refine g_iconst X1530 hx (pc' := 193) (z := (1 : Int32)) rfl (hD hby at_192) rfl ?_
    refine g_goto X1530 hx (pc' := 197) (hD hby at_193) (by decide) (by decide) ?_
    refine g_istore X1530 hx (pc' := 199) rfl (hD hby at_197) (l' := #[.val (.int le), .val (.int aa), .val (.int bb), .val (.int cc), .val (.int 1), .val (.int c0), .val (.int c1), .val (.int c2), .val (.ref t1525), .val (.ref t1527), .val (.int 1)]) rfl ?_
    refine g_aload X1530 hx (pc' := 201) rfl (hD hby at_199) rfl rfl ?_
    refine g_callS X1530 hx hZ hown (wat hw 194 rfl) (wat hw 195 rfl) (wat hw 196 rfl) (wat hw 197 rfl) (by decide) (rm33 l Z a0 hw [] n0 ("\" names two facilities" :: " \"" :: "] " :: "[" :: Ts) t1527 (([c0] : List Int32) ++ ([34, 32, 110, 97, 109, 101, 115, 32, 116, 119, 111, 32, 102, 97, 99, 105, 108, 105, 116, 105, 101, 115] : List Int32)) (38 : Int32) (76 : Int32) fo cz h1527 zs1527 O4 hfo U1 U2 U3 O2 hcz f1528 SR1527 rfl rfl (by decide) (by simp)) pd_41 rfl rfl (pc' := 204) rfl (hD hby at_201) (argsL := [(.ref t1527)]) (rest := []) rfl (W := 0) (fun v1531 T1531 h1531 X1531 hQ1531 => ?_)
    obtain ⟨rfl, he1531⟩ := hQ1531
    rw [he1531] at X1531
    show Go p e below s n0 _ _ _ (T1531.setTop (mkF m 204 _ [(.int 1)]))
    refine g_ifN X1531 hx (pcN := 207) (hD hby at_204) rfl (show ¬ ((1 : Int32) = 0) from by decide) ?_
    refine g_iload X1531 hx (pc' := 209) rfl (hD hby at_207) rfl ?_
    refine g_ifN X1531 hx (pcN := 212) (hD hby at_209) rfl (show ¬ ((1 : Int32) = 0) from by decide) ?_
    refine g_aload X1531 hx (pc' := 214) rfl (hD hby at_212) rfl rfl ?_
    refine g_bipush X1531 hx (pc' := 216) (z := (15 : Int32)) rfl (hD hby at_214) rfl ?_
    refine g_iload X1531 hx (pc' := 218) rfl (hD hby at_216) rfl ?_
    refine g_iadd X1531 hx (pc' := 219) rfl (hD hby at_218) ?_
    refine g_normI (z := (16 : Int32)) (by decide) ?_
    refine g_callS X1531 hx hZ hown (wat hw 220 rfl) (wat hw 221 rfl) (wat hw 196 rfl) (wat hw 222 rfl) (by decide) (rm39 l Z a0 hw [] n0 ("\" names two facilities" :: " \"" :: "] " :: "[" :: Ts) t1527 (([91, 102, 97, 99, 105, 108, 105, 116, 121, 93, 32, 105, 100, 32, 34] : List Int32) ++ ([c0] : List Int32)) (16 : Int32) (38 : Int32) (76 : Int32) fo cz h1527 zs1527 O4 hfo U1 U2 U3 O2 hcz f1528 SR1527 rfl (by simp) rfl rfl (by decide) (by simp)) pd_42 rfl rfl (pc' := 222) rfl (hD hby at_219) (argsL := [(.ref t1527), (.int 16)]) (rest := []) rfl (W := 0) (fun v1532 T1532 h1532 X1532 hQ1532 => ?_)
    obtain ⟨rfl, he1532⟩ := hQ1532
    rw [he1532] at X1532
    show Go p e below s n0 _ _ _ (T1532.setTop (mkF m 222 _ [(.int 1)]))
    refine g_ifN X1532 hx (pcN := 225) (hD hby at_222) rfl (show ¬ ((1 : Int32) = 0) from by decide) ?_
    refine g_iconst X1532 hx (pc' := 226) (z := (1 : Int32)) rfl (hD hby at_225) rfl ?_
    refine g_goto X1532 hx (pc' := 230) (hD hby at_226) (by decide) (by decide) ?_
    replace X1532 := X1532.more (Ts' := "\" names two facilities" :: " \"" :: "] " :: "[" :: "" :: Ts) (by simp +contextual)
    exact g_retZ X1532 hx hlk hret (by first | exact Or.inl rfl | exact Or.inr rfl) (hD hby at_230) (by decide) (by decide) (Nat.le_refl _) (rfl)
  · skip
    refine g_normI (z := (2 : Int32)) kn ?_
    refine g_istore X0 hx (pc' := 5) rfl (hD hby at_3) (l' := #[.val (.int le), .val (.int aa), .val (.int bb), .val (.int cc), .val (.int 2), .unset, .unset, .unset, .unset, .unset, .unset]) rfl ?_
    refine g_iloadN X0 hx (pc' := 6) rfl (hD hby at_5) rfl ?_
    refine g_i2c X0 hx (pc' := 7) rfl (hD hby at_6) ?_
    refine g_absI (fun c0 h_c0 => ?_)
    refine g_istore X0 hx (pc' := 9) rfl (hD hby at_7) (l' := #[.val (.int le), .val (.int aa), .val (.int bb), .val (.int cc), .val (.int 2), .val (.int c0), .unset, .unset, .unset, .unset, .unset]) rfl ?_
    have b_c0 : 0 ≤ c0.toInt ∧ c0.toInt < 65536 := by rw [h_c0]; exact ar_c _
    refine g_iloadN X0 hx (pc' := 10) rfl (hD hby at_9) rfl ?_
    refine g_i2c X0 hx (pc' := 11) rfl (hD hby at_10) ?_
    refine g_absI (fun c1 h_c1 => ?_)
    refine g_istore X0 hx (pc' := 13) rfl (hD hby at_11) (l' := #[.val (.int le), .val (.int aa), .val (.int bb), .val (.int cc), .val (.int 2), .val (.int c0), .val (.int c1), .unset, .unset, .unset, .unset]) rfl ?_
    have b_c1 : 0 ≤ c1.toInt ∧ c1.toInt < 65536 := by rw [h_c1]; exact ar_c _
    refine g_iloadN X0 hx (pc' := 14) rfl (hD hby at_13) rfl ?_
    refine g_i2c X0 hx (pc' := 15) rfl (hD hby at_14) ?_
    refine g_absI (fun c2 h_c2 => ?_)
    refine g_istore X0 hx (pc' := 17) rfl (hD hby at_15) (l' := #[.val (.int le), .val (.int aa), .val (.int bb), .val (.int cc), .val (.int 2), .val (.int c0), .val (.int c1), .val (.int c2), .unset, .unset, .unset]) rfl ?_
    have b_c2 : 0 ≤ c2.toInt ∧ c2.toInt < 65536 := by rw [h_c2]; exact ar_c _
    refine g_iload X0 hx (pc' := 19) rfl (hD hby at_17) rfl ?_
    refine g_ifY X0 hx (pcY := 37) (hD hby at_19) (by decide) (by decide) (show ¬ (2 : Int32) = 0 from by decide) ?_
    refine g_iload X0 hx (pc' := 39) rfl (hD hby at_37) rfl ?_
    refine g_iconst X0 hx (pc' := 40) (z := (1 : Int32)) rfl (hD hby at_39) rfl ?_
    refine g_icmpY X0 hx (pcY := 53) (hD hby at_40) (by decide) (by decide) (show ¬ (2 : Int32) = (1 : Int32) from by decide) ?_
    refine g_iload X0 hx (pc' := 55) rfl (hD hby at_53) rfl ?_
    refine g_iconst X0 hx (pc' := 56) (z := (2 : Int32)) rfl (hD hby at_55) rfl ?_
    refine g_icmpN X0 hx (pcN := 59) (hD hby at_56) rfl (show ¬ (¬ (2 : Int32) = (2 : Int32)) from by decide) ?_
    refine g_newO X0 hx hZ hown (wat hw 0 rfl) (wat hw 1 rfl) (wat hw 2 rfl) (pc' := 62) rfl (hD hby at_59) (by decide) (by decide) (fun T1533 h1533 a1533 ha1533 X1533 E1533 A1533 D1533 => ?_)
    have G_a1533 : n0 ≤ a1533 := by rw [ha1533]; exact hn0
    have Zs1533 : n0 ≤ h1533.size := Nat.le_trans hn0 E1533.1
    have f1534 := OLD.ext E1533
    have F1533_value : SV Z h1533 a1533 .null := D1533 (Or.inr (wat hw 16 rfl)) (ty := (.array .byte)) (by decide)
    have F1533_coder : SC Z h1533 a1533 (.int 0) := D1533 (Or.inr (wat hw 17 rfl)) (ty := .byte) (by decide)
    refine g_dup X1533 hx (pc' := 63) rfl (hD hby at_62) rfl ?_
    refine g_iconst X1533 hx (pc' := 64) (z := (2 : Int32)) rfl (hD hby at_63) rfl ?_
    refine g_newA X1533 hx hZ (aty := .char) (wat hw 3 rfl) (N := 2) (by decide) (cap := 2) (Nat.le_refl _) (by decide) (pc' := 66) rfl (hD hby at_64) (by decide) (by decide) (fun T1535 h1535 a1535 ha1535 X1535 E1535 N1535 => ?_)
    have ne1535_a1533 : a1533 ≠ a1535 := by rw [ha1535]; exact Nat.ne_of_lt A1533.lt
    have f1536 := A1533.ext E1535
    have f1537 := F1533_value.ext E1535
    have f1538 := F1533_coder.ext E1535
    have G_a1535 : n0 ≤ a1535 := by rw [ha1535]; exact Zs1533
    have Zs1535 : n0 ≤ h1535.size := Nat.le_trans Zs1533 E1535.1
    have f1539 := f1534.ext E1535
    have V1535 : AV Z h1535 a1535 .char [.int 0, .int 0] := N1535
    refine g_dup X1535 hx (pc' := 67) rfl (hD hby at_66) rfl ?_
    refine g_iconst X1535 hx (pc' := 68) (z := (0 : Int32)) rfl (hD hby at_67) rfl ?_
    refine g_iload X1535 hx (pc' := 70) rfl (hD hby at_68) rfl ?_
    refine g_castore X1535 hx hZ V1535 (i := 0) (by decide) (show (0 : Nat) < 2 by decide) G_a1535 (y := c0) (nar_chr b_c0) (pc' := 71) rfl (hD hby at_70) (fun T1540 h1540 X1540 W1540 N1540 => ?_)
    have f1541 := (by have q := (Keep.of_wr W1540).1; exact Nat.le_trans Zs1535 q : n0 ≤ h1540.size)
    have f1542 := f1539.wr W1540 G_a1535
    have f1543 := f1536.wr W1540
    have f1544 := f1537.other W1540 (Or.inl ne1535_a1533)
    have f1545 := f1538.other W1540 (Or.inl ne1535_a1533)
    have V1540 : AV Z h1540 a1535 .char [.int c0, .int 0] := N1540
    refine g_dup X1540 hx (pc' := 72) rfl (hD hby at_71) rfl ?_
    refine g_iconst X1540 hx (pc' := 73) (z := (1 : Int32)) rfl (hD hby at_72) rfl ?_
    refine g_iload X1540 hx (pc' := 75) rfl (hD hby at_73) rfl ?_
    refine g_castore X1540 hx hZ V1540 (i := 1) (by decide) (show (1 : Nat) < 2 by decide) G_a1535 (y := c1) (nar_chr b_c1) (pc' := 76) rfl (hD hby at_75) (fun T1546 h1546 X1546 W1546 N1546 => ?_)
    have f1547 := (by have q := (Keep.of_wr W1546).1; exact Nat.le_trans f1541 q : n0 ≤ h1546.size)
    have f1548 := f1542.wr W1546 G_a1535
    have f1549 := f1543.wr W1546
    have f1550 := f1544.other W1546 (Or.inl ne1535_a1533)
    have f1551 := f1545.other W1546 (Or.inl ne1535_a1533)
    have V1546 : AV Z h1546 a1535 .char [.int c0, .int c1] := N1546
    refine g_callI X1546 hx hZ hown rfl (wat hw 4 rfl) (wat hw 5 rfl) (wat hw 2 rfl) (wat hw 6 rfl) (by decide) (a := a1533) (rm1 l Z a0 hw [] n0 (Ts) a1533 a1535 ([c0, c1] : List Int32) (2 : Int32) (4 : Int32) cz h1546 f1547 U1 U2 U3 O2 hcz f1548 rfl rfl (by decide) (show (2 : Nat) ≤ 129 by decide) (show 1 ≤ (2 : Nat) by decide) (own_ch2 b_c0 b_c1) V1546 f1549 G_a1533 f1550 f1551) pd_39 rfl rfl (pc' := 79) rfl (hD hby at_76) (argsL := [(.ref a1535)]) (rest := [(.ref a1533)]) rfl (W := 1) (fun v1552 T1552 h1552 X1552 hQ1552 => ?_)
    obtain ⟨rfl, K1552, SS1552⟩ := hQ1552
    have f1553 := f1548.keep K1552 (allS G_a1533 all0)
    have zs1552 : n0 ≤ h1552.size := Nat.le_trans f1547 K1552.1
    show Go p e below s n0 _ _ _ (T1552.setTop (mkF m 79 _ [(.ref a1533)]))
    refine g_astore X1552 hx (pc' := 81) rfl (hD hby at_79) rfl (l' := #[.val (.int le), .val (.int aa), .val (.int bb), .val (.int cc), .val (.int 2), .val (.int c0), .val (.int c1), .val (.int c2), .val (.ref a1533), .unset, .unset]) rfl ?_
    refine g_goto X1552 hx (pc' := 111) (hD hby at_81) (by decide) (by decide) ?_
    refine g_aload X1552 hx (pc' := 113) rfl (hD hby at_111) rfl rfl ?_
    refine g_callS X1552 hx hZ hown (wat hw 22 rfl) (wat hw 23 rfl) (wat hw 24 rfl) (wat hw 25 rfl) (by decide) (rm4 l Z a0 hw [] n0 (Ts) a1533 at9 ([c0, c1] : List Int32) fo cz h1552 zs1552 hcw hkc O4 hfo U1 U2 U3 O2 hcz f1553 hT1 hT2 hT3 hT4 SF AM SS1552 (show (2 : Nat) ≤ 3 by decide)) pd_40 rfl rfl (pc' := 116) rfl (hD hby at_113) (argsL := [(.ref a1533)]) (rest := []) rfl (W := 0) (fun v1554 T1554 h1554 X1554 hQ1554 => ?_)
    obtain ⟨t1554, rfl, G1554, K1554, SR1554⟩ := hQ1554
    have f1555 := f1553.keep K1554 all0
    have zs1554 : n0 ≤ h1554.size := Nat.le_trans zs1552 K1554.1
    show Go p e below s n0 _ _ _ (T1554.setTop (mkF m 116 _ [(.ref t1554)]))
    refine g_astore X1554 hx (pc' := 118) rfl (hD hby at_116) rfl (l' := #[.val (.int le), .val (.int aa), .val (.int bb), .val (.int cc), .val (.int 2), .val (.int c0), .val (.int c1), .val (.int c2), .val (.ref a1533), .val (.ref t1554), .unset]) rfl ?_
    refine g_aload X1554 hx (pc' := 120) rfl (hD hby at_118) rfl rfl ?_
    refine g_ifnullN X1554 hx (pcN := 123) (hD hby at_120) rfl ?_
    refine g_aload X1554 hx (pc' := 125) rfl (hD hby at_123) rfl rfl ?_
    refine g_callV X1554 hx hZ hown (wat hw 193 rfl) (wat hw 75 rfl) (wat hw 77 rfl) (wat hw 76 rfl) (wat hw 2 rfl) (wat hw 78 rfl) (by decide) (a := t1554) SR1554.1 (rm12 l Z a0 hw [] n0 ("\" names two facilities" :: " \"" :: "] " :: "[" :: Ts) t1554 (([91, 102, 97, 99, 105, 108, 105, 116, 121, 93, 32, 105, 100, 32, 34] : List Int32) ++ ([c0, c1] : List Int32) ++ ([34, 32, 110, 97, 109, 101, 115, 32, 116, 119, 111, 32, 102, 97, 99, 105, 108, 105, 116, 105, 101, 115] : List Int32)) (39 : Int32) (78 : Int32) cz h1554 zs1554 O2 hcz f1555 SR1554 rfl rfl (by decide)) pd_27 rfl rfl (pc' := 128) rfl (hD hby at_125) (argsL := []) (rest := []) rfl (W := 0) (fun v1556 T1556 h1556 X1556 hQ1556 => ?_)
    obtain ⟨rfl, he1556⟩ := hQ1556
    rw [he1556] at X1556
    show Go p e below s n0 _ _ _ (T1556.setTop (mkF m 128 _ [(.int 39)]))
    refine g_bipush X1556 hx (pc' := 130) (z := (37 : Int32)) rfl (hD hby at_128) rfl ?_
    refine g_iload X1556 hx (pc' := 132) rfl (hD hby at_130) rfl ?_
    refine g_iadd X1556 hx (pc' := 133) rfl (hD hby at_132) ?_
    refine g_normI (z := (39 : Int32)) (by decide) ?_
    refine g_icmpY X1556 hx (pcY := 138) (hD hby at_133) (by decide) (by decide) (show (39 : Int32) = (39 : Int32) from by decide) ?_
    refine g_iload X1556 hx (pc' := 140) rfl (hD hby at_138) rfl ?_
    refine g_iconst X1556 hx (pc' := 141) (z := (1 : Int32)) rfl (hD hby at_140) rfl ?_
    refine g_icmpN X1556 hx (pcN := 144) (hD hby at_141) rfl (show ¬ ((2 : Int32) < (1 : Int32)) from by decide) ?_
    refine g_aload X1556 hx (pc' := 146) rfl (hD hby at_144) rfl rfl ?_
    refine g_bipush X1556 hx (pc' := 148) (z := (15 : Int32)) rfl (hD hby at_146) rfl ?_
    refine g_callV X1556 hx hZ hown (wat hw 198 rfl) (wat hw 199 rfl) (wat hw 201 rfl) (wat hw 200 rfl) (wat hw 2 rfl) (wat hw 202 rfl) (by decide) (a := t1554) SR1554.1 (rm34 l Z a0 hw [] n0 ("\" names two facilities" :: " \"" :: "] " :: "[" :: Ts) t1554 (([91, 102, 97, 99, 105, 108, 105, 116, 121, 93, 32, 105, 100, 32, 34] : List Int32) ++ ([c0, c1] : List Int32) ++ ([34, 32, 110, 97, 109, 101, 115, 32, 116, 119, 111, 32, 102, 97, 99, 105, 108, 105, 116, 105, 101, 115] : List Int32)) (15 : Int32) (39 : Int32) (78 : Int32) 15 fo cz h1554 zs1554 O4 hfo U1 U2 U3 O2 hcz f1555 SR1554 rfl (by simp) (by simp) rfl rfl (by decide)) pd_38 rfl rfl (pc' := 151) rfl (hD hby at_148) (argsL := [(.int 15)]) (rest := []) rfl (W := 0) (fun v1557 T1557 h1557 X1557 hQ1557 => ?_)
    obtain ⟨rfl, he1557⟩ := hQ1557
    rw [he1557] at X1557
    show Go p e below s n0 _ _ _ (T1557.setTop (mkF m 151 _ [(.int ((([91, 102, 97, 99, 105, 108, 105, 116, 121, 93, 32, 105, 100, 32, 34] : List Int32) ++ ([c0, c1] : List Int32) ++ ([34, 32, 110, 97, 109, 101, 115, 32, 116, 119, 111, 32, 102, 97, 99, 105, 108, 105, 116, 105, 101, 115] : List Int32)).getD 15 0))]))
    refine g_normI (z := c0) rfl ?_
    refine g_iload X1557 hx (pc' := 153) rfl (hD hby at_151) rfl ?_
    refine g_icmpN X1557 hx (pcN := 156) (hD hby at_153) rfl (show ¬ (¬ c0 = c0) from not_not_intro rfl) ?_
    refine g_iload X1557 hx (pc' := 158) rfl (hD hby at_156) rfl ?_
    refine g_iconst X1557 hx (pc' := 159) (z := (2 : Int32)) rfl (hD hby at_158) rfl ?_
    refine g_icmpN X1557 hx (pcN := 162) (hD hby at_159) rfl (show ¬ ((2 : Int32) < (2 : Int32)) from by decide) ?_
    refine g_aload X1557 hx (pc' := 164) rfl (hD hby at_162) rfl rfl ?_
    refine g_bipush X1557 hx (pc' := 166) (z := (16 : Int32)) rfl (hD hby at_164) rfl ?_
    refine g_callV X1557 hx hZ hown (wat hw 198 rfl) (wat hw 199 rfl) (wat hw 201 rfl) (wat hw 200 rfl) (wat hw 2 rfl) (wat hw 202 rfl) (by decide) (a := t1554) SR1554.1 (rm34 l Z a0 hw [] n0 ("\" names two facilities" :: " \"" :: "] " :: "[" :: Ts) t1554 (([91, 102, 97, 99, 105, 108, 105, 116, 121, 93, 32, 105, 100, 32, 34] : List Int32) ++ ([c0, c1] : List Int32) ++ ([34, 32, 110, 97, 109, 101, 115, 32, 116, 119, 111, 32, 102, 97, 99, 105, 108, 105, 116, 105, 101, 115] : List Int32)) (16 : Int32) (39 : Int32) (78 : Int32) 16 fo cz h1554 zs1554 O4 hfo U1 U2 U3 O2 hcz f1555 SR1554 rfl (by simp) (by simp) rfl rfl (by decide)) pd_38 rfl rfl (pc' := 169) rfl (hD hby at_166) (argsL := [(.int 16)]) (rest := []) rfl (W := 0) (fun v1558 T1558 h1558 X1558 hQ1558 => ?_)
    obtain ⟨rfl, he1558⟩ := hQ1558
    rw [he1558] at X1558
    show Go p e below s n0 _ _ _ (T1558.setTop (mkF m 169 _ [(.int ((([91, 102, 97, 99, 105, 108, 105, 116, 121, 93, 32, 105, 100, 32, 34] : List Int32) ++ ([c0, c1] : List Int32) ++ ([34, 32, 110, 97, 109, 101, 115, 32, 116, 119, 111, 32, 102, 97, 99, 105, 108, 105, 116, 105, 101, 115] : List Int32)).getD 16 0))]))
    refine g_normI (z := c1) rfl ?_
    refine g_iload X1558 hx (pc' := 171) rfl (hD hby at_169) rfl ?_
    refine g_icmpN X1558 hx (pcN := 174) (hD hby at_171) rfl (show ¬ (¬ c1 = c1) from not_not_intro rfl) ?_
    refine g_iload X1558 hx (pc' := 176) rfl (hD hby at_174) rfl ?_
    refine g_iconst X1558 hx (pc' := 177) (z := (3 : Int32)) rfl (hD hby at_176) rfl ?_
    refine g_icmpY X1558 hx (pcY := 192) (hD hby at_177) (by decide) (by decide) (show (2 : Int32) < (3 : Int32) from by decide) ?_
    refine g_iconst X1558 hx (pc' := 193) (z := (1 : Int32)) rfl (hD hby at_192) rfl ?_
    refine g_goto X1558 hx (pc' := 197) (hD hby at_193) (by decide) (by decide) ?_
    refine g_istore X1558 hx (pc' := 199) rfl (hD hby at_197) (l' := #[.val (.int le), .val (.int aa), .val (.int bb), .val (.int cc), .val (.int 2), .val (.int c0), .val (.int c1), .val (.int c2), .val (.ref a1533), .val (.ref t1554), .val (.int 1)]) rfl ?_
    refine g_aload X1558 hx (pc' := 201) rfl (hD hby at_199) rfl rfl ?_
    refine g_callS X1558 hx hZ hown (wat hw 194 rfl) (wat hw 195 rfl) (wat hw 196 rfl) (wat hw 197 rfl) (by decide) (rm33 l Z a0 hw [] n0 ("\" names two facilities" :: " \"" :: "] " :: "[" :: Ts) t1554 (([c0, c1] : List Int32) ++ ([34, 32, 110, 97, 109, 101, 115, 32, 116, 119, 111, 32, 102, 97, 99, 105, 108, 105, 116, 105, 101, 115] : List Int32)) (39 : Int32) (78 : Int32) fo cz h1554 zs1554 O4 hfo U1 U2 U3 O2 hcz f1555 SR1554 rfl rfl (by decide) (by simp)) pd_41 rfl rfl (pc' := 204) rfl (hD hby at_201) (argsL := [(.ref t1554)]) (rest := []) rfl (W := 0) (fun v1559 T1559 h1559 X1559 hQ1559 => ?_)
    obtain ⟨rfl, he1559⟩ := hQ1559
    rw [he1559] at X1559
    show Go p e below s n0 _ _ _ (T1559.setTop (mkF m 204 _ [(.int 1)]))
    refine g_ifN X1559 hx (pcN := 207) (hD hby at_204) rfl (show ¬ ((1 : Int32) = 0) from by decide) ?_
    refine g_iload X1559 hx (pc' := 209) rfl (hD hby at_207) rfl ?_
    refine g_ifN X1559 hx (pcN := 212) (hD hby at_209) rfl (show ¬ ((1 : Int32) = 0) from by decide) ?_
    refine g_aload X1559 hx (pc' := 214) rfl (hD hby at_212) rfl rfl ?_
    refine g_bipush X1559 hx (pc' := 216) (z := (15 : Int32)) rfl (hD hby at_214) rfl ?_
    refine g_iload X1559 hx (pc' := 218) rfl (hD hby at_216) rfl ?_
    refine g_iadd X1559 hx (pc' := 219) rfl (hD hby at_218) ?_
    refine g_normI (z := (17 : Int32)) (by decide) ?_
    refine g_callS X1559 hx hZ hown (wat hw 220 rfl) (wat hw 221 rfl) (wat hw 196 rfl) (wat hw 222 rfl) (by decide) (rm39 l Z a0 hw [] n0 ("\" names two facilities" :: " \"" :: "] " :: "[" :: Ts) t1554 (([91, 102, 97, 99, 105, 108, 105, 116, 121, 93, 32, 105, 100, 32, 34] : List Int32) ++ ([c0, c1] : List Int32)) (17 : Int32) (39 : Int32) (78 : Int32) fo cz h1554 zs1554 O4 hfo U1 U2 U3 O2 hcz f1555 SR1554 rfl (by simp) rfl rfl (by decide) (by simp)) pd_42 rfl rfl (pc' := 222) rfl (hD hby at_219) (argsL := [(.ref t1554), (.int 17)]) (rest := []) rfl (W := 0) (fun v1560 T1560 h1560 X1560 hQ1560 => ?_)
    obtain ⟨rfl, he1560⟩ := hQ1560
    rw [he1560] at X1560
    show Go p e below s n0 _ _ _ (T1560.setTop (mkF m 222 _ [(.int 1)]))
    refine g_ifN X1560 hx (pcN := 225) (hD hby at_222) rfl (show ¬ ((1 : Int32) = 0) from by decide) ?_
    refine g_iconst X1560 hx (pc' := 226) (z := (1 : Int32)) rfl (hD hby at_225) rfl ?_
    refine g_goto X1560 hx (pc' := 230) (hD hby at_226) (by decide) (by decide) ?_
    replace X1560 := X1560.more (Ts' := "\" names two facilities" :: " \"" :: "] " :: "[" :: "" :: Ts) (by simp +contextual)
    exact g_retZ X1560 hx hlk hret (by first | exact Or.inl rfl | exact Or.inr rfl) (hD hby at_230) (by decide) (by decide) (Nat.le_refl _) (rfl)
  · skip
    refine g_normI (z := (3 : Int32)) kn ?_
    refine g_istore X0 hx (pc' := 5) rfl (hD hby at_3) (l' := #[.val (.int le), .val (.int aa), .val (.int bb), .val (.int cc), .val (.int 3), .unset, .unset, .unset, .unset, .unset, .unset]) rfl ?_
    refine g_iloadN X0 hx (pc' := 6) rfl (hD hby at_5) rfl ?_
    refine g_i2c X0 hx (pc' := 7) rfl (hD hby at_6) ?_
    refine g_absI (fun c0 h_c0 => ?_)
    refine g_istore X0 hx (pc' := 9) rfl (hD hby at_7) (l' := #[.val (.int le), .val (.int aa), .val (.int bb), .val (.int cc), .val (.int 3), .val (.int c0), .unset, .unset, .unset, .unset, .unset]) rfl ?_
    have b_c0 : 0 ≤ c0.toInt ∧ c0.toInt < 65536 := by rw [h_c0]; exact ar_c _
    refine g_iloadN X0 hx (pc' := 10) rfl (hD hby at_9) rfl ?_
    refine g_i2c X0 hx (pc' := 11) rfl (hD hby at_10) ?_
    refine g_absI (fun c1 h_c1 => ?_)
    refine g_istore X0 hx (pc' := 13) rfl (hD hby at_11) (l' := #[.val (.int le), .val (.int aa), .val (.int bb), .val (.int cc), .val (.int 3), .val (.int c0), .val (.int c1), .unset, .unset, .unset, .unset]) rfl ?_
    have b_c1 : 0 ≤ c1.toInt ∧ c1.toInt < 65536 := by rw [h_c1]; exact ar_c _
    refine g_iloadN X0 hx (pc' := 14) rfl (hD hby at_13) rfl ?_
    refine g_i2c X0 hx (pc' := 15) rfl (hD hby at_14) ?_
    refine g_absI (fun c2 h_c2 => ?_)
    refine g_istore X0 hx (pc' := 17) rfl (hD hby at_15) (l' := #[.val (.int le), .val (.int aa), .val (.int bb), .val (.int cc), .val (.int 3), .val (.int c0), .val (.int c1), .val (.int c2), .unset, .unset, .unset]) rfl ?_
    have b_c2 : 0 ≤ c2.toInt ∧ c2.toInt < 65536 := by rw [h_c2]; exact ar_c _
    refine g_iload X0 hx (pc' := 19) rfl (hD hby at_17) rfl ?_
    refine g_ifY X0 hx (pcY := 37) (hD hby at_19) (by decide) (by decide) (show ¬ (3 : Int32) = 0 from by decide) ?_
    refine g_iload X0 hx (pc' := 39) rfl (hD hby at_37) rfl ?_
    refine g_iconst X0 hx (pc' := 40) (z := (1 : Int32)) rfl (hD hby at_39) rfl ?_
    refine g_icmpY X0 hx (pcY := 53) (hD hby at_40) (by decide) (by decide) (show ¬ (3 : Int32) = (1 : Int32) from by decide) ?_
    refine g_iload X0 hx (pc' := 55) rfl (hD hby at_53) rfl ?_
    refine g_iconst X0 hx (pc' := 56) (z := (2 : Int32)) rfl (hD hby at_55) rfl ?_
    refine g_icmpY X0 hx (pcY := 84) (hD hby at_56) (by decide) (by decide) (show ¬ (3 : Int32) = (2 : Int32) from by decide) ?_
    refine g_newO X0 hx hZ hown (wat hw 0 rfl) (wat hw 1 rfl) (wat hw 2 rfl) (pc' := 87) rfl (hD hby at_84) (by decide) (by decide) (fun T1561 h1561 a1561 ha1561 X1561 E1561 A1561 D1561 => ?_)
    have G_a1561 : n0 ≤ a1561 := by rw [ha1561]; exact hn0
    have Zs1561 : n0 ≤ h1561.size := Nat.le_trans hn0 E1561.1
    have f1562 := OLD.ext E1561
    have F1561_value : SV Z h1561 a1561 .null := D1561 (Or.inr (wat hw 16 rfl)) (ty := (.array .byte)) (by decide)
    have F1561_coder : SC Z h1561 a1561 (.int 0) := D1561 (Or.inr (wat hw 17 rfl)) (ty := .byte) (by decide)
    refine g_dup X1561 hx (pc' := 88) rfl (hD hby at_87) rfl ?_
    refine g_iconst X1561 hx (pc' := 89) (z := (3 : Int32)) rfl (hD hby at_88) rfl ?_
    refine g_newA X1561 hx hZ (aty := .char) (wat hw 3 rfl) (N := 3) (by decide) (cap := 3) (Nat.le_refl _) (by decide) (pc' := 91) rfl (hD hby at_89) (by decide) (by decide) (fun T1563 h1563 a1563 ha1563 X1563 E1563 N1563 => ?_)
    have ne1563_a1561 : a1561 ≠ a1563 := by rw [ha1563]; exact Nat.ne_of_lt A1561.lt
    have f1564 := A1561.ext E1563
    have f1565 := F1561_value.ext E1563
    have f1566 := F1561_coder.ext E1563
    have G_a1563 : n0 ≤ a1563 := by rw [ha1563]; exact Zs1561
    have Zs1563 : n0 ≤ h1563.size := Nat.le_trans Zs1561 E1563.1
    have f1567 := f1562.ext E1563
    have V1563 : AV Z h1563 a1563 .char [.int 0, .int 0, .int 0] := N1563
    refine g_dup X1563 hx (pc' := 92) rfl (hD hby at_91) rfl ?_
    refine g_iconst X1563 hx (pc' := 93) (z := (0 : Int32)) rfl (hD hby at_92) rfl ?_
    refine g_iload X1563 hx (pc' := 95) rfl (hD hby at_93) rfl ?_
    refine g_castore X1563 hx hZ V1563 (i := 0) (by decide) (show (0 : Nat) < 3 by decide) G_a1563 (y := c0) (nar_chr b_c0) (pc' := 96) rfl (hD hby at_95) (fun T1568 h1568 X1568 W1568 N1568 => ?_)
    have f1569 := (by have q := (Keep.of_wr W1568).1; exact Nat.le_trans Zs1563 q : n0 ≤ h1568.size)
    have f1570 := f1567.wr W1568 G_a1563
    have f1571 := f1564.wr W1568
    have f1572 := f1565.other W1568 (Or.inl ne1563_a1561)
    have f1573 := f1566.other W1568 (Or.inl ne1563_a1561)
    have V1568 : AV Z h1568 a1563 .char [.int c0, .int 0, .int 0] := N1568
    refine g_dup X1568 hx (pc' := 97) rfl (hD hby at_96) rfl ?_
    refine g_iconst X1568 hx (pc' := 98) (z := (1 : Int32)) rfl (hD hby at_97) rfl ?_
    refine g_iload X1568 hx (pc' := 100) rfl (hD hby at_98) rfl ?_
    refine g_castore X1568 hx hZ V1568 (i := 1) (by decide) (show (1 : Nat) < 3 by decide) G_a1563 (y := c1) (nar_chr b_c1) (pc' := 101) rfl (hD hby at_100) (fun T1574 h1574 X1574 W1574 N1574 => ?_)
    have f1575 := (by have q := (Keep.of_wr W1574).1; exact Nat.le_trans f1569 q : n0 ≤ h1574.size)
    have f1576 := f1570.wr W1574 G_a1563
    have f1577 := f1571.wr W1574
    have f1578 := f1572.other W1574 (Or.inl ne1563_a1561)
    have f1579 := f1573.other W1574 (Or.inl ne1563_a1561)
    have V1574 : AV Z h1574 a1563 .char [.int c0, .int c1, .int 0] := N1574
    refine g_dup X1574 hx (pc' := 102) rfl (hD hby at_101) rfl ?_
    refine g_iconst X1574 hx (pc' := 103) (z := (2 : Int32)) rfl (hD hby at_102) rfl ?_
    refine g_iload X1574 hx (pc' := 105) rfl (hD hby at_103) rfl ?_
    refine g_castore X1574 hx hZ V1574 (i := 2) (by decide) (show (2 : Nat) < 3 by decide) G_a1563 (y := c2) (nar_chr b_c2) (pc' := 106) rfl (hD hby at_105) (fun T1580 h1580 X1580 W1580 N1580 => ?_)
    have f1581 := (by have q := (Keep.of_wr W1580).1; exact Nat.le_trans f1575 q : n0 ≤ h1580.size)
    have f1582 := f1576.wr W1580 G_a1563
    have f1583 := f1577.wr W1580
    have f1584 := f1578.other W1580 (Or.inl ne1563_a1561)
    have f1585 := f1579.other W1580 (Or.inl ne1563_a1561)
    have V1580 : AV Z h1580 a1563 .char [.int c0, .int c1, .int c2] := N1580
    refine g_callI X1580 hx hZ hown rfl (wat hw 4 rfl) (wat hw 5 rfl) (wat hw 2 rfl) (wat hw 6 rfl) (by decide) (a := a1561) (rm1 l Z a0 hw [] n0 (Ts) a1561 a1563 ([c0, c1, c2] : List Int32) (3 : Int32) (6 : Int32) cz h1580 f1581 U1 U2 U3 O2 hcz f1582 rfl rfl (by decide) (show (3 : Nat) ≤ 129 by decide) (show 1 ≤ (3 : Nat) by decide) (own_ch3 b_c0 b_c1 b_c2) V1580 f1583 G_a1561 f1584 f1585) pd_39 rfl rfl (pc' := 109) rfl (hD hby at_106) (argsL := [(.ref a1563)]) (rest := [(.ref a1561)]) rfl (W := 1) (fun v1586 T1586 h1586 X1586 hQ1586 => ?_)
    obtain ⟨rfl, K1586, SS1586⟩ := hQ1586
    have f1587 := f1582.keep K1586 (allS G_a1561 all0)
    have zs1586 : n0 ≤ h1586.size := Nat.le_trans f1581 K1586.1
    show Go p e below s n0 _ _ _ (T1586.setTop (mkF m 109 _ [(.ref a1561)]))
    refine g_astore X1586 hx (pc' := 111) rfl (hD hby at_109) rfl (l' := #[.val (.int le), .val (.int aa), .val (.int bb), .val (.int cc), .val (.int 3), .val (.int c0), .val (.int c1), .val (.int c2), .val (.ref a1561), .unset, .unset]) rfl ?_
    refine g_aload X1586 hx (pc' := 113) rfl (hD hby at_111) rfl rfl ?_
    refine g_callS X1586 hx hZ hown (wat hw 22 rfl) (wat hw 23 rfl) (wat hw 24 rfl) (wat hw 25 rfl) (by decide) (rm4 l Z a0 hw [] n0 (Ts) a1561 at9 ([c0, c1, c2] : List Int32) fo cz h1586 zs1586 hcw hkc O4 hfo U1 U2 U3 O2 hcz f1587 hT1 hT2 hT3 hT4 SF AM SS1586 (show (3 : Nat) ≤ 3 by decide)) pd_40 rfl rfl (pc' := 116) rfl (hD hby at_113) (argsL := [(.ref a1561)]) (rest := []) rfl (W := 0) (fun v1588 T1588 h1588 X1588 hQ1588 => ?_)
    obtain ⟨t1588, rfl, G1588, K1588, SR1588⟩ := hQ1588
    have f1589 := f1587.keep K1588 all0
    have zs1588 : n0 ≤ h1588.size := Nat.le_trans zs1586 K1588.1
    show Go p e below s n0 _ _ _ (T1588.setTop (mkF m 116 _ [(.ref t1588)]))
    refine g_astore X1588 hx (pc' := 118) rfl (hD hby at_116) rfl (l' := #[.val (.int le), .val (.int aa), .val (.int bb), .val (.int cc), .val (.int 3), .val (.int c0), .val (.int c1), .val (.int c2), .val (.ref a1561), .val (.ref t1588), .unset]) rfl ?_
    refine g_aload X1588 hx (pc' := 120) rfl (hD hby at_118) rfl rfl ?_
    refine g_ifnullN X1588 hx (pcN := 123) (hD hby at_120) rfl ?_
    refine g_aload X1588 hx (pc' := 125) rfl (hD hby at_123) rfl rfl ?_
    refine g_callV X1588 hx hZ hown (wat hw 193 rfl) (wat hw 75 rfl) (wat hw 77 rfl) (wat hw 76 rfl) (wat hw 2 rfl) (wat hw 78 rfl) (by decide) (a := t1588) SR1588.1 (rm12 l Z a0 hw [] n0 ("\" names two facilities" :: " \"" :: "] " :: "[" :: Ts) t1588 (([91, 102, 97, 99, 105, 108, 105, 116, 121, 93, 32, 105, 100, 32, 34] : List Int32) ++ ([c0, c1, c2] : List Int32) ++ ([34, 32, 110, 97, 109, 101, 115, 32, 116, 119, 111, 32, 102, 97, 99, 105, 108, 105, 116, 105, 101, 115] : List Int32)) (40 : Int32) (80 : Int32) cz h1588 zs1588 O2 hcz f1589 SR1588 rfl rfl (by decide)) pd_27 rfl rfl (pc' := 128) rfl (hD hby at_125) (argsL := []) (rest := []) rfl (W := 0) (fun v1590 T1590 h1590 X1590 hQ1590 => ?_)
    obtain ⟨rfl, he1590⟩ := hQ1590
    rw [he1590] at X1590
    show Go p e below s n0 _ _ _ (T1590.setTop (mkF m 128 _ [(.int 40)]))
    refine g_bipush X1590 hx (pc' := 130) (z := (37 : Int32)) rfl (hD hby at_128) rfl ?_
    refine g_iload X1590 hx (pc' := 132) rfl (hD hby at_130) rfl ?_
    refine g_iadd X1590 hx (pc' := 133) rfl (hD hby at_132) ?_
    refine g_normI (z := (40 : Int32)) (by decide) ?_
    refine g_icmpY X1590 hx (pcY := 138) (hD hby at_133) (by decide) (by decide) (show (40 : Int32) = (40 : Int32) from by decide) ?_
    refine g_iload X1590 hx (pc' := 140) rfl (hD hby at_138) rfl ?_
    refine g_iconst X1590 hx (pc' := 141) (z := (1 : Int32)) rfl (hD hby at_140) rfl ?_
    refine g_icmpN X1590 hx (pcN := 144) (hD hby at_141) rfl (show ¬ ((3 : Int32) < (1 : Int32)) from by decide) ?_
    refine g_aload X1590 hx (pc' := 146) rfl (hD hby at_144) rfl rfl ?_
    refine g_bipush X1590 hx (pc' := 148) (z := (15 : Int32)) rfl (hD hby at_146) rfl ?_
    refine g_callV X1590 hx hZ hown (wat hw 198 rfl) (wat hw 199 rfl) (wat hw 201 rfl) (wat hw 200 rfl) (wat hw 2 rfl) (wat hw 202 rfl) (by decide) (a := t1588) SR1588.1 (rm34 l Z a0 hw [] n0 ("\" names two facilities" :: " \"" :: "] " :: "[" :: Ts) t1588 (([91, 102, 97, 99, 105, 108, 105, 116, 121, 93, 32, 105, 100, 32, 34] : List Int32) ++ ([c0, c1, c2] : List Int32) ++ ([34, 32, 110, 97, 109, 101, 115, 32, 116, 119, 111, 32, 102, 97, 99, 105, 108, 105, 116, 105, 101, 115] : List Int32)) (15 : Int32) (40 : Int32) (80 : Int32) 15 fo cz h1588 zs1588 O4 hfo U1 U2 U3 O2 hcz f1589 SR1588 rfl (by simp) (by simp) rfl rfl (by decide)) pd_38 rfl rfl (pc' := 151) rfl (hD hby at_148) (argsL := [(.int 15)]) (rest := []) rfl (W := 0) (fun v1591 T1591 h1591 X1591 hQ1591 => ?_)
    obtain ⟨rfl, he1591⟩ := hQ1591
    rw [he1591] at X1591
    show Go p e below s n0 _ _ _ (T1591.setTop (mkF m 151 _ [(.int ((([91, 102, 97, 99, 105, 108, 105, 116, 121, 93, 32, 105, 100, 32, 34] : List Int32) ++ ([c0, c1, c2] : List Int32) ++ ([34, 32, 110, 97, 109, 101, 115, 32, 116, 119, 111, 32, 102, 97, 99, 105, 108, 105, 116, 105, 101, 115] : List Int32)).getD 15 0))]))
    refine g_normI (z := c0) rfl ?_
    refine g_iload X1591 hx (pc' := 153) rfl (hD hby at_151) rfl ?_
    refine g_icmpN X1591 hx (pcN := 156) (hD hby at_153) rfl (show ¬ (¬ c0 = c0) from not_not_intro rfl) ?_
    refine g_iload X1591 hx (pc' := 158) rfl (hD hby at_156) rfl ?_
    refine g_iconst X1591 hx (pc' := 159) (z := (2 : Int32)) rfl (hD hby at_158) rfl ?_
    refine g_icmpN X1591 hx (pcN := 162) (hD hby at_159) rfl (show ¬ ((3 : Int32) < (2 : Int32)) from by decide) ?_
    refine g_aload X1591 hx (pc' := 164) rfl (hD hby at_162) rfl rfl ?_
    refine g_bipush X1591 hx (pc' := 166) (z := (16 : Int32)) rfl (hD hby at_164) rfl ?_
    refine g_callV X1591 hx hZ hown (wat hw 198 rfl) (wat hw 199 rfl) (wat hw 201 rfl) (wat hw 200 rfl) (wat hw 2 rfl) (wat hw 202 rfl) (by decide) (a := t1588) SR1588.1 (rm34 l Z a0 hw [] n0 ("\" names two facilities" :: " \"" :: "] " :: "[" :: Ts) t1588 (([91, 102, 97, 99, 105, 108, 105, 116, 121, 93, 32, 105, 100, 32, 34] : List Int32) ++ ([c0, c1, c2] : List Int32) ++ ([34, 32, 110, 97, 109, 101, 115, 32, 116, 119, 111, 32, 102, 97, 99, 105, 108, 105, 116, 105, 101, 115] : List Int32)) (16 : Int32) (40 : Int32) (80 : Int32) 16 fo cz h1588 zs1588 O4 hfo U1 U2 U3 O2 hcz f1589 SR1588 rfl (by simp) (by simp) rfl rfl (by decide)) pd_38 rfl rfl (pc' := 169) rfl (hD hby at_166) (argsL := [(.int 16)]) (rest := []) rfl (W := 0) (fun v1592 T1592 h1592 X1592 hQ1592 => ?_)
    obtain ⟨rfl, he1592⟩ := hQ1592
    rw [he1592] at X1592
    show Go p e below s n0 _ _ _ (T1592.setTop (mkF m 169 _ [(.int ((([91, 102, 97, 99, 105, 108, 105, 116, 121, 93, 32, 105, 100, 32, 34] : List Int32) ++ ([c0, c1, c2] : List Int32) ++ ([34, 32, 110, 97, 109, 101, 115, 32, 116, 119, 111, 32, 102, 97, 99, 105, 108, 105, 116, 105, 101, 115] : List Int32)).getD 16 0))]))
    refine g_normI (z := c1) rfl ?_
    refine g_iload X1592 hx (pc' := 171) rfl (hD hby at_169) rfl ?_
    refine g_icmpN X1592 hx (pcN := 174) (hD hby at_171) rfl (show ¬ (¬ c1 = c1) from not_not_intro rfl) ?_
    refine g_iload X1592 hx (pc' := 176) rfl (hD hby at_174) rfl ?_
    refine g_iconst X1592 hx (pc' := 177) (z := (3 : Int32)) rfl (hD hby at_176) rfl ?_
    refine g_icmpN X1592 hx (pcN := 180) (hD hby at_177) rfl (show ¬ ((3 : Int32) < (3 : Int32)) from by decide) ?_
    refine g_aload X1592 hx (pc' := 182) rfl (hD hby at_180) rfl rfl ?_
    refine g_bipush X1592 hx (pc' := 184) (z := (17 : Int32)) rfl (hD hby at_182) rfl ?_
    refine g_callV X1592 hx hZ hown (wat hw 198 rfl) (wat hw 199 rfl) (wat hw 201 rfl) (wat hw 200 rfl) (wat hw 2 rfl) (wat hw 202 rfl) (by decide) (a := t1588) SR1588.1 (rm34 l Z a0 hw [] n0 ("\" names two facilities" :: " \"" :: "] " :: "[" :: Ts) t1588 (([91, 102, 97, 99, 105, 108, 105, 116, 121, 93, 32, 105, 100, 32, 34] : List Int32) ++ ([c0, c1, c2] : List Int32) ++ ([34, 32, 110, 97, 109, 101, 115, 32, 116, 119, 111, 32, 102, 97, 99, 105, 108, 105, 116, 105, 101, 115] : List Int32)) (17 : Int32) (40 : Int32) (80 : Int32) 17 fo cz h1588 zs1588 O4 hfo U1 U2 U3 O2 hcz f1589 SR1588 rfl (by simp) (by simp) rfl rfl (by decide)) pd_38 rfl rfl (pc' := 187) rfl (hD hby at_184) (argsL := [(.int 17)]) (rest := []) rfl (W := 0) (fun v1593 T1593 h1593 X1593 hQ1593 => ?_)
    obtain ⟨rfl, he1593⟩ := hQ1593
    rw [he1593] at X1593
    show Go p e below s n0 _ _ _ (T1593.setTop (mkF m 187 _ [(.int ((([91, 102, 97, 99, 105, 108, 105, 116, 121, 93, 32, 105, 100, 32, 34] : List Int32) ++ ([c0, c1, c2] : List Int32) ++ ([34, 32, 110, 97, 109, 101, 115, 32, 116, 119, 111, 32, 102, 97, 99, 105, 108, 105, 116, 105, 101, 115] : List Int32)).getD 17 0))]))
    refine g_normI (z := c2) rfl ?_
    refine g_iload X1593 hx (pc' := 189) rfl (hD hby at_187) rfl ?_
    refine g_icmpN X1593 hx (pcN := 192) (hD hby at_189) rfl (show ¬ (¬ c2 = c2) from not_not_intro rfl) ?_
    refine g_iconst X1593 hx (pc' := 193) (z := (1 : Int32)) rfl (hD hby at_192) rfl ?_
    refine g_goto X1593 hx (pc' := 197) (hD hby at_193) (by decide) (by decide) ?_
    refine g_istore X1593 hx (pc' := 199) rfl (hD hby at_197) (l' := #[.val (.int le), .val (.int aa), .val (.int bb), .val (.int cc), .val (.int 3), .val (.int c0), .val (.int c1), .val (.int c2), .val (.ref a1561), .val (.ref t1588), .val (.int 1)]) rfl ?_
    refine g_aload X1593 hx (pc' := 201) rfl (hD hby at_199) rfl rfl ?_
    refine g_callS X1593 hx hZ hown (wat hw 194 rfl) (wat hw 195 rfl) (wat hw 196 rfl) (wat hw 197 rfl) (by decide) (rm33 l Z a0 hw [] n0 ("\" names two facilities" :: " \"" :: "] " :: "[" :: Ts) t1588 (([c0, c1, c2] : List Int32) ++ ([34, 32, 110, 97, 109, 101, 115, 32, 116, 119, 111, 32, 102, 97, 99, 105, 108, 105, 116, 105, 101, 115] : List Int32)) (40 : Int32) (80 : Int32) fo cz h1588 zs1588 O4 hfo U1 U2 U3 O2 hcz f1589 SR1588 rfl rfl (by decide) (by simp)) pd_41 rfl rfl (pc' := 204) rfl (hD hby at_201) (argsL := [(.ref t1588)]) (rest := []) rfl (W := 0) (fun v1594 T1594 h1594 X1594 hQ1594 => ?_)
    obtain ⟨rfl, he1594⟩ := hQ1594
    rw [he1594] at X1594
    show Go p e below s n0 _ _ _ (T1594.setTop (mkF m 204 _ [(.int 1)]))
    refine g_ifN X1594 hx (pcN := 207) (hD hby at_204) rfl (show ¬ ((1 : Int32) = 0) from by decide) ?_
    refine g_iload X1594 hx (pc' := 209) rfl (hD hby at_207) rfl ?_
    refine g_ifN X1594 hx (pcN := 212) (hD hby at_209) rfl (show ¬ ((1 : Int32) = 0) from by decide) ?_
    refine g_aload X1594 hx (pc' := 214) rfl (hD hby at_212) rfl rfl ?_
    refine g_bipush X1594 hx (pc' := 216) (z := (15 : Int32)) rfl (hD hby at_214) rfl ?_
    refine g_iload X1594 hx (pc' := 218) rfl (hD hby at_216) rfl ?_
    refine g_iadd X1594 hx (pc' := 219) rfl (hD hby at_218) ?_
    refine g_normI (z := (18 : Int32)) (by decide) ?_
    refine g_callS X1594 hx hZ hown (wat hw 220 rfl) (wat hw 221 rfl) (wat hw 196 rfl) (wat hw 222 rfl) (by decide) (rm39 l Z a0 hw [] n0 ("\" names two facilities" :: " \"" :: "] " :: "[" :: Ts) t1588 (([91, 102, 97, 99, 105, 108, 105, 116, 121, 93, 32, 105, 100, 32, 34] : List Int32) ++ ([c0, c1, c2] : List Int32)) (18 : Int32) (40 : Int32) (80 : Int32) fo cz h1588 zs1588 O4 hfo U1 U2 U3 O2 hcz f1589 SR1588 rfl (by simp) rfl rfl (by decide) (by simp)) pd_42 rfl rfl (pc' := 222) rfl (hD hby at_219) (argsL := [(.ref t1588), (.int 18)]) (rest := []) rfl (W := 0) (fun v1595 T1595 h1595 X1595 hQ1595 => ?_)
    obtain ⟨rfl, he1595⟩ := hQ1595
    rw [he1595] at X1595
    show Go p e below s n0 _ _ _ (T1595.setTop (mkF m 222 _ [(.int 1)]))
    refine g_ifN X1595 hx (pcN := 225) (hD hby at_222) rfl (show ¬ ((1 : Int32) = 0) from by decide) ?_
    refine g_iconst X1595 hx (pc' := 226) (z := (1 : Int32)) rfl (hD hby at_225) rfl ?_
    refine g_goto X1595 hx (pc' := 230) (hD hby at_226) (by decide) (by decide) ?_
    replace X1595 := X1595.more (Ts' := "\" names two facilities" :: " \"" :: "] " :: "[" :: "" :: Ts) (by simp +contextual)
    exact g_retZ X1595 hx hlk hret (by first | exact Or.inl rfl | exact Or.inr rfl) (hD hby at_230) (by decide) (by decide) (Nat.le_refl _) (rfl)
theorem own_nz {s : State} {args : Array Value} {T : Term} {x : Int32} (e : T.eval args s none [] s = some (.int x)) (h : (Cond.not (Cond.eq T (Term.int 0))).value args s none s [] = some true) : ¬ x = 0 := by
  have q := not_v h
  simp only [Cond.value, e, Term.eval] at q
  intro hx; subst hx; simp at q
theorem own_ev {s : State} {args : Array Value} {T : Term} {k : Int32} (h : (Cond.eq T (Term.int k)).value args s none s [] = some true) : T.eval args s none [] s = some (.int k) := Cond.eq_int (Cond.before_iff.mpr h) rfl
theorem own_av {s : State} {args : Array Value} {t : Term} {k : Int32} {xs : List Int32} (hk : k.toInt = (xs.length : Int)) (h1 : (Cond.arrayOf t .byte).value args s none s [] = some true) (h2 : (Cond.eq (Term.length t) (Term.int k)).value args s none s [] = some true)
    (h3 : ∀ i, i < xs.length → (Term.elem t (Term.int (Int32.ofNat i))).eval args s none [] s = some (.int (xs.getD i 0))) (hf : ∀ x ∈ xs, Jvm.fits .byte (.int x) = true) (hb : xs.length < 1000) : ∃ a, t.eval args s none [] s = some (.ref a) ∧ AV s s.heap a .byte (xs.map Value.int) := by
  obtain ⟨a, e⟩ := arr_v h1
  obtain ⟨c, A⟩ := Arr.start e h1
  have hA : s.arrayAt? a = some c := Arr.fin (Vm.Alike.refl _) A
  have hl := own_ev h2
  have hz : c.slots.size = xs.length := by
    by_cases h31 : c.slots.size < 2 ^ 31
    · have q := len_f e hA h31
      have q2 : c.slots.size.toInt32 = k := by simpa using Option.some.inj (q.symm.trans hl)
      have q3 := congrArg Int32.toInt q2
      rw [len_toInt h31] at q3
      omega
    · simp [Term.eval, e, hA, h31] at hl
  refine ⟨a, e, c, A, by rw [hz, List.length_map], by rw [List.length_map]; omega, fun i hi => ?_, fun i hi => ?_⟩
  · rw [List.length_map] at hi
    have q := elem_in (h3 i hi) e rfl A.1
    rw [(own_idx (ar_of (by omega))).1] at q
    rw [q.2, C_get hi]
  · rw [List.length_map] at hi
    rw [C_get hi]; exact hf _ (mem_getD hi)
set_option maxRecDepth 65536 in
set_option maxHeartbeats 40000000 in
theorem comes_1 {Post : Tables → Env → Array Value → State → Outcome → State → Prop} (hpost : ∀ tb e args s v u, (limb_1_1.after args s (.returned v) u = true ∧ limb_1_2.after args s (.returned v) u = true ∧ True) → Jvm.D.FramedW s (.returned v) u (Jvm.fieldLocs frame_1_writes args s ++ Jvm.arrayLocs frame_1_arrays args s ++ Jvm.staticLocs frame_1_statics s) 48 6016 → Post tb e args s (.returned v) u) :
    ArmFor flags0 classFile x code maxLocals ret World_1 tables_1 room_1 Calls_1 rest_1 Pre_1 Post := by
  intro l hfl _ _ p e ha hc hk s m args below hf hA hF happ hP
  obtain ⟨hcalls, hrest, hpre⟩ := hP
  obtain ⟨-, -, -, hnamed, -, -, -, hat⟩ := (Spec.applies_iff hf).mp happ
  obtain ⟨hg, hn⟩ := and_e (Cond.before_iff.mp (show (Jvm.Cond.and given_1 narrow_1).before args s = true from hpre))
  obtain ⟨hcount, hg0⟩ := and_e hg
  obtain ⟨ha0, hg1⟩ := and_e hg0
  obtain ⟨ha1, hg2⟩ := and_e hg1
  obtain ⟨ha2, hg3⟩ := and_e hg2
  have ha3 := hg3
  obtain ⟨w0, w1, w2, w3, rfl⟩ : ∃ w0 w1 w2 w3 : Value, args = #[w0, w1, w2, w3] := by
    have hs : args.size = 4 := by simpa [Cond.value, given_1] using hcount
    obtain ⟨L⟩ := args
    match L, hs with
    | [w0, w1, w2, w3], _ => exact ⟨w0, w1, w2, w3, rfl⟩
  have hw := fun d (hd : d ∈ tables_1) => atoms_spec (ws := Jvm.Cond.code x code maxLocals ret :: tables_1) hat d (List.mem_cons_of_mem _ hd)
  obtain ⟨i0, ei0⟩ := is_v ha0
  obtain rfl : w0 = (.int i0) := Option.some.inj ei0
  obtain ⟨i1, ei1⟩ := is_v ha1
  obtain rfl : w1 = (.int i1) := Option.some.inj ei1
  obtain ⟨i2, ei2⟩ := is_v ha2
  obtain rfl : w2 = (.int i2) := Option.some.inj ei2
  obtain ⟨i3, ei3⟩ := is_v ha3
  obtain rfl : w3 = (.int i3) := Option.some.inj ei3
  obtain ⟨hk1, -⟩ := hcalls
  obtain ⟨hr1, hr⟩ := and_e (Cond.before_iff.mp (show rest_1_c.before _ s = true from hrest))
  obtain ⟨hr2, hr⟩ := and_e hr
  obtain ⟨hr3, hr⟩ := and_e hr
  obtain ⟨hr4, hr⟩ := and_e hr
  obtain ⟨hr5, hr⟩ := and_e hr
  obtain ⟨hr6, hr⟩ := and_e hr
  obtain ⟨hr7, hr⟩ := and_e hr
  obtain ⟨hr8, hr⟩ := and_e hr
  obtain ⟨hr9, hr⟩ := and_e hr
  obtain ⟨hr10, hr⟩ := and_e hr
  obtain ⟨hr11, hr⟩ := and_e hr
  obtain ⟨hr12, hr⟩ := and_e hr
  obtain ⟨hr13, hr⟩ := and_e hr
  obtain ⟨hr14, hr⟩ := and_e hr
  obtain ⟨hr15, hr⟩ := and_e hr
  obtain ⟨hr16, hr⟩ := and_e hr
  obtain ⟨hr17, hr⟩ := and_e hr
  obtain ⟨hr18, hr⟩ := and_e hr
  obtain ⟨hr19, hr⟩ := and_e hr
  obtain ⟨hn1, hn⟩ := and_e hn
  obtain ⟨hn2, hn⟩ := and_e hn
  obtain ⟨hn3, hn⟩ := and_e hn
  obtain ⟨hn4, hn⟩ := and_e hn
  obtain ⟨hn5, hn⟩ := and_e hn
  obtain ⟨hn6, hn⟩ := and_e hn
  obtain ⟨hn7, hn⟩ := and_e hn
  obtain ⟨hn8, hn⟩ := and_e hn
  obtain ⟨hn9, hn⟩ := and_e hn
  obtain ⟨hn10, hn⟩ := and_e hn
  obtain ⟨hn11, hn⟩ := and_e hn
  obtain ⟨hn12, hn⟩ := and_e hn
  obtain ⟨hn13, hn⟩ := and_e hn
  obtain ⟨hn14, hn⟩ := and_e hn
  obtain ⟨hn15, hn⟩ := and_e hn
  obtain ⟨hn16, hn⟩ := and_e hn
  obtain ⟨hn17, hn⟩ := and_e hn
  obtain ⟨hn18, hn⟩ := and_e hn
  obtain ⟨hn19, hn⟩ := and_e hn
  obtain ⟨hn20, hn⟩ := and_e hn
  obtain ⟨cz, ecz⟩ := is_v hr2
  have O2 := Sta.start ecz (Or.inl (Cond.before_iff.mpr hr1))
  obtain ⟨fo, efo, hfo⟩ := isR_v hr9
  have O4 := Sta.start efo (Or.inl (Cond.before_iff.mpr hr8))
  have U1 := Sta.start (own_ev hr13) (Or.inl (Cond.before_iff.mpr hr12))
  have U2 := Sta.start (own_ev hr16) (Or.inl (Cond.before_iff.mpr hr15))
  have U3 := Sta.start (own_ev hr19) (Or.inl (Cond.before_iff.mpr hr18))
  obtain ⟨at9, eat⟩ := exa_v hn1
  obtain ⟨sc, esc⟩ := exa_v hn2
  obtain ⟨ke, eke⟩ := exa_v hn7
  obtain ⟨scb, e1, Asc⟩ := own_av (xs := ([102, 97, 99, 105, 108, 105, 116, 121] : List Int32)) rfl hn3 hn5 (fun i hi => match i, hi with | 0, _ => own_ev hn14 | 1, _ => own_ev hn15 | 2, _ => own_ev hn16 | 3, _ => own_ev hn17 | 4, _ => own_ev hn18 | 5, _ => own_ev hn19 | 6, _ => own_ev hn20 | 7, _ => own_ev hn) (by decide) (by decide)
  obtain ⟨keb, e2, Ake⟩ := own_av (xs := ([105, 100] : List Int32)) rfl hn8 hn10 (fun i hi => match i, hi with | 0, _ => own_ev hn12 | 1, _ => own_ev hn13) (by decide) (by decide)
  have AM : Atm s s.heap at9 := ⟨sc, scb, ke, keb, Exa.start eat hn1, Fld.start (by rw [← fld_at eat]; exact esc), Fld.start (by rw [← fld_at eat]; exact eke), Exa.start esc hn2, Fld.start (by rw [← fld_at esc]; exact e1), Fld.start (by rw [← fld_at esc]; exact own_ev hn6), by rw [show L1 ([102, 97, 99, 105, 108, 105, 116, 121] : List Int32) = (([102, 97, 99, 105, 108, 105, 116, 121] : List Int32)).map Value.int from by decide +kernel]; exact Asc, Exa.start eke hn7, Fld.start (by rw [← fld_at eke]; exact e2), Fld.start (by rw [← fld_at eke]; exact own_ev hn11), by rw [show L1 ([105, 100] : List Int32) = (([105, 100] : List Int32)).map Value.int from by decide +kernel]; exact Ake⟩
  have SF := Sta.start eat (Or.inr ⟨(wat hw 45 rfl), (wat hw 46 rfl)⟩)
  obtain ⟨n, o, h1, h2, h3, _, L, rfl, ⟨N, rfl, -⟩, hq⟩ := rm0 l s _ hw tables_1 s.heap.size [] i0 i1 i2 i3 cz at9 fo s.heap (Nat.le_refl _) (Cond.before_iff.mpr hr3) hk1 O4 hfo U1 U2 U3 O2 (own_nz ecz hr3) (OldP.start s) (by decide) (by decide) (by decide) (by decide) (by decide) SF AM p e ha hc hk s m _ below hf ((Spec.applies_iff_loose hf).mp happ).1 ⟨rfl, State.Warmed39.refl s, rfl, IB.start⟩ trivial
  refine ⟨n, _, h1, h2, h3, hpost _ _ _ _ _ _ ⟨Cond.after_iff.mpr rfl, Cond.after_iff.mpr (eq_i res_at (Term.int_eval (1)) rfl), trivial⟩ ⟨hq.1, hq.2.1, hq.2.2.1, (hq.2.2.2.sift fun y hy => Or.inr (N y hy)).mono (by decide) (by decide)⟩⟩
theorem main_1_1 : Claimed_1_1 := comes_1 fun _ _ _ _ _ _ h hF => ⟨h.1, hF⟩
theorem main_1_2 : Claimed_1_2 := comes_1 fun _ _ _ _ _ _ h hF => ⟨h.2.1, hF⟩
end Jvm.Pilot.@@N@@
-- WITNESS
namespace Jvm.Pilot.@@N@@
open Jvm Jvm.ClassFile Sem Op Lib Jvm.Free Jvm.Stand Jvm.Pilot.@@N@@.Jvm.D
/-! MADE BY PROGRAM (witnessworld.py) out of the Statement's table words and the real class files: 30 classes; the members and pool entries that the words name. The judged class is class 1, her method 1. -/
namespace start1
open Jvm.ClassFile
def u (s : String) : CpInfo := .utf8 (stringToUtf16 s)
/-- a pool by its gaps: so many unusable entries, then the entry; so many at the end -/
def gap : Nat → List CpInfo → List CpInfo
  | 0, r => r
  | n + 1, r => .unusable :: gap n r
def poolList (es : List (Nat × CpInfo)) (last : Nat) : List CpInfo := es.foldr (fun e r => gap e.1 (e.2 :: r)) (gap last [])
def pool (es : List (Nat × CpInfo)) (last : Nat) : Array CpInfo := ⟨poolList es last⟩
def fileOf (pool : Array CpInfo) (this : Nat) (attrs : Array Attribute := #[]) (ms : Array MethodInfo := #[]) (fl : Nat := 33) (sup : Nat := 0) (ifs : Array Nat := #[]) (fds : Array FieldInfo := #[]) : ClassFile where
  minorVersion := 0
  majorVersion := 65
  constantPool := pool
  accessFlags := fl
  thisClass := this
  superClass := sup
  interfaces := ifs
  fields := fds
  methods := ms
  attributes := attrs
def plain (name : String) (sup : Option ClassId) : Class where
  name := name
  kind := .ordinary
  loader := none
  accessFlags := 33
  super := sup
  interfaces := #[]
  cf := none
  fields := #[]
  methods := #[]
  instanceTypes := #[]
  staticTypes := #[]
  resolved := #[]
  callSites := []
  init := .initialized
  statics := none
  mirror := none

def pool0 : Array CpInfo := pool [(5, u "<init>"), (0, u "()V"), (1, .class_ 10), (1, u "java/lang/Object"), (7, u "()Ljava/lang/String;"), (18, u "toString"), (58, u "clone"), (0, u "()Ljava/lang/Object;")] 26

def k0c0 : Code := { maxStack := 0, maxLocals := 1, code := object_method_1_code, exceptionTable := #[], attributes := #[] }
def k0m0 : Method := { name := "<init>", desc := "()V", sig := { parameters := [], returnType := none }, accessFlags := 1, code := some k0c0 }
def k0m1 : Method := { name := "clone", desc := "()Ljava/lang/Object;", sig := { parameters := [], returnType := some (.object "java/lang/Object") }, accessFlags := 260, code := none }
def k0c2 : Code := { maxStack := 2, maxLocals := 1, code := ⟨#[0xbb, 0x00, 0x01, 0x59, 0xb7, 0x00, 0x03, 0x2a, 0xb6, 0x00, 0x07, 0xb6, 0x00, 0x0d, 0xb6, 0x00, 0x13, 0x12, 0x17, 0xb6, 0x00, 0x13, 0x2a, 0xb6, 0x00, 0x19, 0xb8, 0x00, 0x1d, 0xb6, 0x00, 0x13, 0xb6, 0x00, 0x23, 0xb0]⟩, exceptionTable := #[], attributes := #[] }
def k0m2 : Method := { name := "toString", desc := "()Ljava/lang/String;", sig := { parameters := [], returnType := some (.object "java/lang/String") }, accessFlags := 1, code := some k0c2 }
/-- java/lang/Object -/
def k0 : Class := { plain "java/lang/Object" none with
  accessFlags := 33
  interfaces := #[]
  cf := some (fileOf pool0 8 #[] #[{ accessFlags := 1, nameIndex := 5, descriptorIndex := 6, attributes := #[] }, { accessFlags := 260, nameIndex := 96, descriptorIndex := 97, attributes := #[] }, { accessFlags := 1, nameIndex := 37, descriptorIndex := 18, attributes := #[] }] 33 0 #[] #[])
  fields := #[]
  methods := #[k0m0, k0m1, k0m2]
  instanceTypes := #[]
  staticTypes := #[]
  resolved := Array.replicate 124 none
  statics := none }

def pool1 : Array CpInfo := pool [(2, .class_ 4), (1, u "java/lang/Object"), (0, u "<init>"), (0, u "()V"), (0, .class_ 8), (0, u "java/lang/String"), (0, .methodref 7 10), (0, .nameAndType 5 11), (0, u "([C)V"), (0, .methodref 7 13), (0, .nameAndType 14 15), (0, u "valueOf"), (0, u "(C)Ljava/lang/String;"), (0, .methodref 17 18), (0, .class_ 19), (0, .nameAndType 20 21), (0, u "com/example/tenorbook/tenorbook/terms/Agreement"), (0, u "namesTwoFacilities"), (0, u "(Ljava/lang/String;)Ljava/lang/String;"), (0, .methodref 7 23), (0, .nameAndType 24 25), (0, u "length"), (0, u "()I"), (0, .methodref 7 27), (0, .nameAndType 28 29), (0, u "charAt"), (0, u "(I)C"), (0, .methodref 31 32), (0, .class_ 33), (0, .nameAndType 34 35), (0, u "com/example/tenorbook/tenorbook/terms/AgreementNamesTwoFacilitiesPinLaw"), (0, u "prefix"), (0, u "(Ljava/lang/String;)Z"), (0, .methodref 31 37), (0, .nameAndType 38 39), (0, u "suffix"), (0, u "(Ljava/lang/String;I)Z"), (2, u "law"), (0, u "(IIII)Z")] 3

def k1m0 : Method := { name := "<init>", desc := "()V", sig := { parameters := [], returnType := none }, accessFlags := 2, code := none }
def k1c1 : Code := { maxStack := 6, maxLocals := 11, code := code, exceptionTable := #[], attributes := #[] }
def k1m1 : Method := { name := "law", desc := "(IIII)Z", sig := { parameters := [.int, .int, .int, .int], returnType := some .boolean }, accessFlags := 9, code := some k1c1 }
def k1c2 : Code := { maxStack := 2, maxLocals := 1, code := method_3_code, exceptionTable := #[], attributes := #[] }
def k1m2 : Method := { name := "prefix", desc := "(Ljava/lang/String;)Z", sig := { parameters := [(.object "java/lang/String")], returnType := some .boolean }, accessFlags := 10, code := some k1c2 }
def k1c3 : Code := { maxStack := 3, maxLocals := 2, code := method_4_code, exceptionTable := #[], attributes := #[] }
def k1m3 : Method := { name := "suffix", desc := "(Ljava/lang/String;I)Z", sig := { parameters := [(.object "java/lang/String"), .int], returnType := some .boolean }, accessFlags := 10, code := some k1c3 }
/-- com/example/tenorbook/tenorbook/terms/AgreementNamesTwoFacilitiesPinLaw -/
def k1 : Class := { plain "com/example/tenorbook/tenorbook/terms/AgreementNamesTwoFacilitiesPinLaw" (some 0) with
  accessFlags := 49
  interfaces := #[]
  cf := some (fileOf pool1 31 #[] #[{ accessFlags := 2, nameIndex := 5, descriptorIndex := 6, attributes := #[] }, { accessFlags := 9, nameIndex := 42, descriptorIndex := 43, attributes := #[] }, { accessFlags := 10, nameIndex := 34, descriptorIndex := 35, attributes := #[] }, { accessFlags := 10, nameIndex := 38, descriptorIndex := 39, attributes := #[] }] 49 2 #[] #[])
  fields := #[]
  methods := #[k1m0, k1m1, k1m2, k1m3]
  instanceTypes := #[]
  staticTypes := #[]
  resolved := Array.replicate 47 none
  statics := none }

def pool2 : Array CpInfo := pool [(1, .class_ 2), (0, u "java/io/Serializable"), (0, .class_ 4), (0, u "java/lang/Object")] 2

/-- java/io/Serializable -/
def k2 : Class := { plain "java/io/Serializable" (some 0) with
  accessFlags := 1537
  interfaces := #[]
  cf := some (fileOf pool2 1 #[] #[] 1537 3 #[] #[])
  fields := #[]
  methods := #[]
  instanceTypes := #[]
  staticTypes := #[]
  resolved := Array.replicate 7 none
  statics := none }

def pool3 : Array CpInfo := pool [(1, .class_ 2), (0, u "java/lang/Comparable"), (0, .class_ 4), (0, u "java/lang/Object")] 7

/-- java/lang/Comparable -/
def k3 : Class := { plain "java/lang/Comparable" (some 0) with
  accessFlags := 1537
  interfaces := #[]
  cf := some (fileOf pool3 1 #[] #[] 1537 3 #[] #[])
  fields := #[]
  methods := #[]
  instanceTypes := #[]
  staticTypes := #[]
  resolved := Array.replicate 12 none
  statics := none }

def pool4 : Array CpInfo := pool [(2, .class_ 4), (1, u "java/lang/CharSequence"), (42, .class_ 48), (0, u "java/lang/CharSequence$1CodePointIterator"), (10, .class_ 60), (0, u "java/lang/CharSequence$1CharIterator"), (5, .class_ 67), (0, u "java/lang/Object")] 63

/-- java/lang/CharSequence -/
def k4 : Class := { plain "java/lang/CharSequence" (some 0) with
  accessFlags := 1537
  interfaces := #[]
  cf := some (fileOf pool4 2 #[.nestMembers #[47, 59]] #[] 1537 66 #[] #[])
  fields := #[]
  methods := #[]
  instanceTypes := #[]
  staticTypes := #[]
  resolved := Array.replicate 131 none
  statics := none }

def pool5 : Array CpInfo := pool [(1, .class_ 2), (0, u "java/lang/constant/Constable"), (0, .class_ 4), (0, u "java/lang/Object")] 6

/-- java/lang/constant/Constable -/
def k5 : Class := { plain "java/lang/constant/Constable" (some 0) with
  accessFlags := 1537
  interfaces := #[]
  cf := some (fileOf pool5 1 #[] #[] 1537 3 #[] #[])
  fields := #[]
  methods := #[]
  instanceTypes := #[]
  staticTypes := #[]
  resolved := Array.replicate 11 none
  statics := none }

def pool6 : Array CpInfo := pool [(1, .class_ 2), (0, u "java/lang/constant/ConstantDesc"), (0, .class_ 4), (0, u "java/lang/Object")] 32

/-- java/lang/constant/ConstantDesc -/
def k6 : Class := { plain "java/lang/constant/ConstantDesc" (some 0) with
  accessFlags := 1537
  interfaces := #[]
  cf := some (fileOf pool6 1 #[] #[] 1537 3 #[] #[])
  fields := #[]
  methods := #[]
  instanceTypes := #[]
  staticTypes := #[]
  resolved := Array.replicate 37 none
  statics := none }

def pool7 : Array CpInfo := pool [(1, .methodref 2 3), (0, .class_ 4), (0, .nameAndType 5 6), (0, u "java/lang/Object"), (0, u "<init>"), (0, u "()V"), (0, .string 8), (0, u ""), (0, .fieldref 10 11), (0, .class_ 12), (0, .nameAndType 13 14), (0, u "java/lang/String"), (0, u "value"), (0, u "[B"), (0, .fieldref 10 16), (0, .nameAndType 17 18), (0, u "coder"), (0, u "B"), (2, u "hash"), (0, u "I"), (2, u "hashIsZero"), (0, u "Z"), (0, .methodref 10 28), (0, .nameAndType 5 29), (0, u "([CIILjava/lang/Void;)V"), (6, u "checkBoundsOffCount"), (0, u "(III)I"), (0, .fieldref 10 39), (0, .nameAndType 40 26), (0, u "COMPACT_STRINGS"), (1, .class_ 44), (1, u "java/lang/StringUTF16"), (0, u "compress"), (1, .methodref 42 48), (0, .nameAndType 49 50), (0, u "coderFromArrayLen"), (0, u "([BI)B"), (2, u "toBytes"), (0, .methodref 55 56), (0, .class_ 57), (0, .nameAndType 58 59), (0, u "java/util/Arrays"), (0, u "copyOfRange"), (0, u "([BII)[B"), (46, .methodref 107 108), (0, .class_ 109), (0, .nameAndType 110 111), (0, u "java/lang/StringLatin1"), (0, u "inflate"), (0, u "([BI[BII)V"), (30, u "()Z"), (34, .methodref 42 178), (0, .nameAndType 45 179), (0, u "([CII)[B"), (13, .class_ 195), (1, u "java/lang/System"), (13, .methodref 10 210), (0, .nameAndType 5 211), (0, u "([BB)V"), (0, .methodref 193 213), (0, .nameAndType 214 215), (0, u "arraycopy"), (0, u "(Ljava/lang/Object;ILjava/lang/Object;II)V"), (118, u "()I"), (0, .methodref 10 336), (0, .nameAndType 17 337), (0, u "()B"), (2, u "()[B"), (22, u "([BI)C"), (5, u "(C)Z"), (21, u "(II)V"), (35, u "(I)C"), (34, .nameAndType 463 464), (0, u "toString"), (0, u "()Ljava/lang/String;"), (24, .methodref 10 490), (0, .nameAndType 5 491), (0, u "(Ljava/lang/AbstractStringBuilder;Ljava/lang/Void;)V"), (0, .methodref 10 493), (0, .nameAndType 494 142), (0, u "isLatin1"), (0, .methodref 107 496), (0, .nameAndType 497 363), (0, u "charAt"), (0, .methodref 42 496), (2, u "checkIndex"), (4, .nameAndType 507 334), (0, u "length"), (24, u "getBytes"), (16, .methodref 550 506), (0, .class_ 551), (0, u "java/lang/AbstractStringBuilder"), (0, .methodref 550 553), (0, .nameAndType 554 340), (0, u "getValue"), (20, .class_ 576), (0, u "java/lang/CharSequence"), (22, u "CASE_INSENSITIVE_ORDER"), (0, u "Ljava/util/Comparator;"), (181, u "valueOf"), (0, u "(C)Ljava/lang/String;"), (24, u "(Ljava/lang/Object;)Ljava/lang/String;"), (12, u "([BIB)V"), (185, .methodref 2 462), (2, u "([C)V"), (4, .methodref 107 1016), (0, .nameAndType 1017 369), (0, u "canEncode"), (0, .methodref 107 1019), (0, .nameAndType 53 1020), (0, u "(C)[B"), (0, .methodref 42 1019), (25, .methodref 550 493), (0, .fieldref 550 1049), (0, .nameAndType 1050 26), (0, u "maybeLatin1"), (2, .fieldref 1054 1055), (0, .class_ 1056), (0, .nameAndType 1057 1058), (0, u "jdk/internal/util/Preconditions"), (0, u "SIOOBE_FORMATTER"), (0, u "Ljava/util/function/BiFunction;"), (0, .methodref 1054 1060), (0, .nameAndType 501 1061), (0, u "(IILjava/util/function/BiFunction;)I"), (2, u "(IIILjava/util/function/BiFunction;)I"), (0, .methodref 1054 1066), (0, .nameAndType 1067 1064), (0, u "checkFromIndexSize"), (33, u "serialPersistentFields"), (0, u "[Ljava/io/ObjectStreamField;"), (0, .class_ 1104), (0, u "java/lang/String$CaseInsensitiveComparator"), (1, .class_ 1107), (0, u "java/io/Serializable"), (0, .class_ 1109), (0, u "java/lang/Comparable"), (0, .class_ 1111), (0, u "java/lang/constant/Constable"), (0, .class_ 1113), (0, u "java/lang/constant/ConstantDesc"), (2, u "serialVersionUID"), (0, u "J"), (3, u "REPL"), (0, u "C"), (2, u "LATIN1"), (1, u "UTF16"), (105, u "(Ljava/lang/StringBuilder;)V")] 217

def k7m0 : Method := { name := "<init>", desc := "()V", sig := { parameters := [], returnType := none }, accessFlags := 1, code := none }
def k7c1 : Code := { maxStack := 5, maxLocals := 2, code := jdk_42_method_3_code, exceptionTable := #[], attributes := #[] }
def k7m1 : Method := { name := "<init>", desc := "([C)V", sig := { parameters := [(.array .char)], returnType := none }, accessFlags := 1, code := some k7c1 }
def k7c2 : Code := { maxStack := 3, maxLocals := 2, code := jdk_42_method_53_code, exceptionTable := #[], attributes := #[] }
def k7m2 : Method := { name := "<init>", desc := "(Ljava/lang/StringBuilder;)V", sig := { parameters := [(.object "java/lang/StringBuilder")], returnType := none }, accessFlags := 1, code := some k7c2 }
def k7c3 : Code := { maxStack := 2, maxLocals := 1, code := jdk_42_method_54_code, exceptionTable := #[], attributes := #[] }
def k7m3 : Method := { name := "length", desc := "()I", sig := { parameters := [], returnType := some .int }, accessFlags := 1, code := some k7c3 }
def k7c4 : Code := { maxStack := 2, maxLocals := 2, code := jdk_42_method_56_code, exceptionTable := #[], attributes := #[] }
def k7m4 : Method := { name := "charAt", desc := "(I)C", sig := { parameters := [.int], returnType := some .char }, accessFlags := 1, code := some k7c4 }
def k7c5 : Code := { maxStack := 1, maxLocals := 1, code := jdk_42_method_133_code, exceptionTable := #[], attributes := #[] }
def k7m5 : Method := { name := "valueOf", desc := "(Ljava/lang/Object;)Ljava/lang/String;", sig := { parameters := [(.object "java/lang/Object")], returnType := some (.object "java/lang/String") }, accessFlags := 9, code := some k7c5 }
def k7c6 : Code := { maxStack := 4, maxLocals := 1, code := jdk_42_method_139_code, exceptionTable := #[], attributes := #[] }
def k7m6 : Method := { name := "valueOf", desc := "(C)Ljava/lang/String;", sig := { parameters := [.char], returnType := some (.object "java/lang/String") }, accessFlags := 9, code := some k7c6 }
def k7c7 : Code := { maxStack := 5, maxLocals := 4, code := jdk_42_method_147_code, exceptionTable := #[], attributes := #[] }
def k7m7 : Method := { name := "getBytes", desc := "([BIB)V", sig := { parameters := [(.array .byte), .int, .byte], returnType := none }, accessFlags := 0, code := some k7c7 }
def k7c8 : Code := { maxStack := 4, maxLocals := 6, code := jdk_42_method_149_code, exceptionTable := #[], attributes := #[] }
def k7m8 : Method := { name := "<init>", desc := "([CIILjava/lang/Void;)V", sig := { parameters := [(.array .char), .int, .int, (.object "java/lang/Void")], returnType := none }, accessFlags := 2, code := some k7c8 }
def k7c9 : Code := { maxStack := 5, maxLocals := 5, code := jdk_42_method_150_code, exceptionTable := #[], attributes := #[] }
def k7m9 : Method := { name := "<init>", desc := "(Ljava/lang/AbstractStringBuilder;Ljava/lang/Void;)V", sig := { parameters := [(.object "java/lang/AbstractStringBuilder"), (.object "java/lang/Void")], returnType := none }, accessFlags := 0, code := some k7c9 }
def k7c10 : Code := { maxStack := 2, maxLocals := 3, code := jdk_42_method_151_code, exceptionTable := #[], attributes := #[] }
def k7m10 : Method := { name := "<init>", desc := "([BB)V", sig := { parameters := [(.array .byte), .byte], returnType := none }, accessFlags := 0, code := some k7c10 }
def k7c11 : Code := { maxStack := 1, maxLocals := 1, code := jdk_42_method_152_code, exceptionTable := #[], attributes := #[] }
def k7m11 : Method := { name := "coder", desc := "()B", sig := { parameters := [], returnType := some .byte }, accessFlags := 0, code := some k7c11 }
def k7c12 : Code := { maxStack := 1, maxLocals := 1, code := jdk_42_method_154_code, exceptionTable := #[], attributes := #[] }
def k7m12 : Method := { name := "isLatin1", desc := "()Z", sig := { parameters := [], returnType := some .boolean }, accessFlags := 0, code := some k7c12 }
def k7c13 : Code := { maxStack := 3, maxLocals := 2, code := jdk_42_method_155_code, exceptionTable := #[], attributes := #[] }
def k7m13 : Method := { name := "checkIndex", desc := "(II)V", sig := { parameters := [.int, .int], returnType := none }, accessFlags := 8, code := some k7c13 }
def k7c14 : Code := { maxStack := 4, maxLocals := 3, code := jdk_42_method_157_code, exceptionTable := #[], attributes := #[] }
def k7m14 : Method := { name := "checkBoundsOffCount", desc := "(III)I", sig := { parameters := [.int, .int, .int], returnType := some .int }, accessFlags := 8, code := some k7c14 }
/-- java/lang/String -/
def k7 : Class := { plain "java/lang/String" (some 0) with
  accessFlags := 49
  interfaces := #[2, 3, 4, 5, 6]
  cf := some (fileOf pool7 10 #[.nestMembers #[1103]] #[{ accessFlags := 1, nameIndex := 5, descriptorIndex := 6, attributes := #[] }, { accessFlags := 1, nameIndex := 5, descriptorIndex := 1010, attributes := #[] }, { accessFlags := 1, nameIndex := 5, descriptorIndex := 1233, attributes := #[] }, { accessFlags := 1, nameIndex := 507, descriptorIndex := 334, attributes := #[] }, { accessFlags := 1, nameIndex := 497, descriptorIndex := 427, attributes := #[] }, { accessFlags := 9, nameIndex := 782, descriptorIndex := 808, attributes := #[] }, { accessFlags := 9, nameIndex := 782, descriptorIndex := 783, attributes := #[] }, { accessFlags := 0, nameIndex := 532, descriptorIndex := 821, attributes := #[] }, { accessFlags := 2, nameIndex := 5, descriptorIndex := 29, attributes := #[] }, { accessFlags := 0, nameIndex := 5, descriptorIndex := 491, attributes := #[] }, { accessFlags := 0, nameIndex := 5, descriptorIndex := 211, attributes := #[] }, { accessFlags := 0, nameIndex := 17, descriptorIndex := 337, attributes := #[] }, { accessFlags := 0, nameIndex := 494, descriptorIndex := 142, attributes := #[] }, { accessFlags := 8, nameIndex := 501, descriptorIndex := 391, attributes := #[] }, { accessFlags := 8, nameIndex := 36, descriptorIndex := 37, attributes := #[] }] 49 2 #[1106, 1108, 575, 1110, 1112] #[{ accessFlags := 18, nameIndex := 13, descriptorIndex := 14, attributes := #[] }, { accessFlags := 18, nameIndex := 17, descriptorIndex := 18, attributes := #[] }, { accessFlags := 2, nameIndex := 21, descriptorIndex := 22, attributes := #[] }, { accessFlags := 2, nameIndex := 25, descriptorIndex := 26, attributes := #[] }, { accessFlags := 26, nameIndex := 1116, descriptorIndex := 1117, attributes := #[] }, { accessFlags := 24, nameIndex := 40, descriptorIndex := 26, attributes := #[] }, { accessFlags := 26, nameIndex := 1101, descriptorIndex := 1102, attributes := #[] }, { accessFlags := 26, nameIndex := 1121, descriptorIndex := 1122, attributes := #[] }, { accessFlags := 25, nameIndex := 599, descriptorIndex := 600, attributes := #[] }, { accessFlags := 24, nameIndex := 1125, descriptorIndex := 18, attributes := #[] }, { accessFlags := 24, nameIndex := 1127, descriptorIndex := 18, attributes := #[] }])
  fields := #[{ name := "value", type := (.array .byte), accessFlags := 18, slot := 0, constantValue := 0 }, { name := "coder", type := .byte, accessFlags := 18, slot := 1, constantValue := 0 }, { name := "hash", type := .int, accessFlags := 2, slot := 2, constantValue := 0 }, { name := "hashIsZero", type := .boolean, accessFlags := 2, slot := 3, constantValue := 0 }, { name := "serialVersionUID", type := .long, accessFlags := 26, slot := 0, constantValue := 0 }, { name := "COMPACT_STRINGS", type := .boolean, accessFlags := 24, slot := 1, constantValue := 0 }, { name := "serialPersistentFields", type := (.array (.object "java/io/ObjectStreamField")), accessFlags := 26, slot := 2, constantValue := 0 }, { name := "REPL", type := .char, accessFlags := 26, slot := 3, constantValue := 0 }, { name := "CASE_INSENSITIVE_ORDER", type := (.object "java/util/Comparator"), accessFlags := 25, slot := 4, constantValue := 0 }, { name := "LATIN1", type := .byte, accessFlags := 24, slot := 5, constantValue := 0 }, { name := "UTF16", type := .byte, accessFlags := 24, slot := 6, constantValue := 0 }]
  methods := #[k7m0, k7m1, k7m2, k7m3, k7m4, k7m5, k7m6, k7m7, k7m8, k7m9, k7m10, k7m11, k7m12, k7m13, k7m14]
  instanceTypes := #[(.array .byte), .byte, .int, .boolean]
  staticTypes := #[.long, .boolean, (.array (.object "java/io/ObjectStreamField")), .char, (.object "java/util/Comparator"), .byte, .byte]
  resolved := Array.replicate 1451 none
  statics := some 0 }

def pool8 : Array CpInfo := pool [(2, .class_ 4), (1, u "java/lang/Object"), (0, u "<init>"), (0, u "()V"), (0, .class_ 8), (0, u "java/lang/Record")] 13

def k8m0 : Method := { name := "<init>", desc := "()V", sig := { parameters := [], returnType := none }, accessFlags := 4, code := none }
/-- java/lang/Record -/
def k8 : Class := { plain "java/lang/Record" (some 0) with
  accessFlags := 1057
  interfaces := #[]
  cf := some (fileOf pool8 7 #[] #[{ accessFlags := 4, nameIndex := 5, descriptorIndex := 6, attributes := #[] }] 1057 2 #[] #[])
  fields := #[]
  methods := #[k8m0]
  instanceTypes := #[]
  staticTypes := #[]
  resolved := Array.replicate 22 none
  statics := none }

def pool9 : Array CpInfo := pool [(2, .class_ 4), (0, .nameAndType 5 6), (0, u "java/lang/Record"), (0, u "<init>"), (0, u "()V"), (1, u "id"), (7, u "closingDate"), (1, u "coverage"), (1, u "occupancyMinimumPercent"), (1, u "capitalSpendingPerBed"), (9, .class_ 34), (1, u "com/example/tenorbook/tenorbook/terms/AgreementTerm"), (1, u "Lcom/example/tenorbook/tenorbook/terms/AgreementTerm;"), (0, .class_ 38), (0, u "java/lang/StringBuilder"), (0, .methodref 37 3), (0, .methodref 37 41), (0, .nameAndType 42 43), (0, u "append"), (0, u "(Ljava/lang/Object;)Ljava/lang/StringBuilder;"), (2, .methodref 37 47), (0, .nameAndType 42 48), (0, u "(Ljava/lang/String;)Ljava/lang/StringBuilder;"), (0, .methodref 37 50), (0, .nameAndType 51 52), (0, u "toString"), (0, u "()Ljava/lang/String;"), (22, .fieldref 32 76), (0, .nameAndType 77 36), (0, u "FACILITY_ID"), (27, .class_ 107), (1, u "com/example/tenorbook/tenorbook/terms/Agreement"), (0, u "namesTwoFacilities"), (0, u "(Ljava/lang/String;)Ljava/lang/String;"), (8, u "HUNDRED"), (0, u "Ljava/math/BigDecimal;"), (34, u "Ljava/lang/String;"), (2, u "Ljava/time/LocalDate;"), (2, u "fiscalYearEndMonth"), (0, u "I"), (2, u "facilities"), (0, u "Ljava/util/List;"), (2, u "Lcom/example/tenorbook/tenorbook/terms/CoverageTerms;"), (4, .string 174), (0, u " \""), (0, .string 176), (0, u "\" names two facilities")] 95

def k9c0 : Code := { maxStack := 2, maxLocals := 1, code := prog_49_method_2_code, exceptionTable := #[], attributes := #[] }
def k9m0 : Method := { name := "namesTwoFacilities", desc := "(Ljava/lang/String;)Ljava/lang/String;", sig := { parameters := [(.object "java/lang/String")], returnType := some (.object "java/lang/String") }, accessFlags := 8, code := some k9c0 }
/-- com/example/tenorbook/tenorbook/terms/Agreement -/
def k9 : Class := { plain "com/example/tenorbook/tenorbook/terms/Agreement" (some 8) with
  accessFlags := 49
  interfaces := #[]
  cf := some (fileOf pool9 105 #[] #[{ accessFlags := 8, nameIndex := 108, descriptorIndex := 109, attributes := #[] }] 49 2 #[] #[{ accessFlags := 18, nameIndex := 8, descriptorIndex := 154, attributes := #[] }, { accessFlags := 18, nameIndex := 16, descriptorIndex := 157, attributes := #[] }, { accessFlags := 18, nameIndex := 160, descriptorIndex := 161, attributes := #[] }, { accessFlags := 18, nameIndex := 164, descriptorIndex := 165, attributes := #[] }, { accessFlags := 18, nameIndex := 18, descriptorIndex := 168, attributes := #[] }, { accessFlags := 18, nameIndex := 20, descriptorIndex := 119, attributes := #[] }, { accessFlags := 18, nameIndex := 22, descriptorIndex := 119, attributes := #[] }, { accessFlags := 26, nameIndex := 118, descriptorIndex := 119, attributes := #[] }])
  fields := #[{ name := "id", type := (.object "java/lang/String"), accessFlags := 18, slot := 0, constantValue := 0 }, { name := "closingDate", type := (.object "java/time/LocalDate"), accessFlags := 18, slot := 1, constantValue := 0 }, { name := "fiscalYearEndMonth", type := .int, accessFlags := 18, slot := 2, constantValue := 0 }, { name := "facilities", type := (.object "java/util/List"), accessFlags := 18, slot := 3, constantValue := 0 }, { name := "coverage", type := (.object "com/example/tenorbook/tenorbook/terms/CoverageTerms"), accessFlags := 18, slot := 4, constantValue := 0 }, { name := "occupancyMinimumPercent", type := (.object "java/math/BigDecimal"), accessFlags := 18, slot := 5, constantValue := 0 }, { name := "capitalSpendingPerBed", type := (.object "java/math/BigDecimal"), accessFlags := 18, slot := 6, constantValue := 0 }, { name := "HUNDRED", type := (.object "java/math/BigDecimal"), accessFlags := 26, slot := 0, constantValue := 0 }]
  methods := #[k9m0]
  instanceTypes := #[(.object "java/lang/String"), (.object "java/time/LocalDate"), .int, (.object "java/util/List"), (.object "com/example/tenorbook/tenorbook/terms/CoverageTerms"), (.object "java/math/BigDecimal"), (.object "java/math/BigDecimal")]
  staticTypes := #[(.object "java/math/BigDecimal")]
  resolved := Array.replicate 272 none
  statics := none }

def pool10 : Array CpInfo := pool [(1, .class_ 2), (0, u "java/lang/Appendable"), (0, .class_ 4), (0, u "java/lang/Object")] 9

/-- java/lang/Appendable -/
def k10 : Class := { plain "java/lang/Appendable" (some 0) with
  accessFlags := 1537
  interfaces := #[]
  cf := some (fileOf pool10 1 #[] #[] 1537 3 #[] #[])
  fields := #[]
  methods := #[]
  instanceTypes := #[]
  staticTypes := #[]
  resolved := Array.replicate 14 none
  statics := none }

def pool11 : Array CpInfo := pool [(1, .class_ 2), (0, u "java/lang/String"), (0, .methodref 4 5), (0, .class_ 6), (0, .nameAndType 7 8), (0, u "java/lang/Object"), (0, u "<init>"), (0, u "()V"), (1, .class_ 12), (1, u "java/lang/AbstractStringBuilder"), (0, u "EMPTYVALUE"), (0, u "[B"), (0, .fieldref 10 16), (0, .nameAndType 17 14), (0, u "value"), (0, .fieldref 1 19), (0, .nameAndType 20 21), (0, u "COMPACT_STRINGS"), (0, u "Z"), (0, .fieldref 10 23), (0, .nameAndType 24 25), (0, u "coder"), (0, u "B"), (0, .methodref 27 28), (0, .class_ 29), (0, .nameAndType 30 31), (0, u "java/lang/StringUTF16"), (0, u "newBytesFor"), (0, u "(I)[B"), (0, .methodref 1 33), (0, .nameAndType 34 35), (0, u "length"), (0, u "()I"), (3, .integer 2147483647), (0, .methodref 1 41), (0, .nameAndType 24 42), (0, u "()B"), (2, u "append"), (0, u "(Ljava/lang/String;)Ljava/lang/AbstractStringBuilder;"), (1, .class_ 49), (0, u "java/lang/CharSequence"), (19, u "(Ljava/lang/String;)V"), (5, u "maybeLatin1"), (3, .fieldref 10 80), (0, .nameAndType 81 82), (0, u "count"), (0, u "I"), (0, .methodref 10 84), (0, .nameAndType 85 86), (0, u "isLatin1"), (0, u "()Z"), (1, .class_ 90), (1, u "java/lang/StringLatin1"), (9, .methodref 10 101), (0, .nameAndType 102 103), (0, u "ensureCapacityInternal"), (0, u "(I)V"), (0, .methodref 10 105), (0, .nameAndType 106 107), (0, u "newCapacity"), (0, u "(I)I"), (0, .methodref 109 110), (0, .class_ 111), (0, .nameAndType 112 113), (0, u "java/util/Arrays"), (0, u "copyOf"), (0, u "([BI)[B"), (0, .methodref 115 116), (0, .class_ 117), (0, .nameAndType 118 119), (0, u "jdk/internal/util/ArraysSupport"), (0, u "newLength"), (0, u "(III)I"), (5, .methodref 88 126), (0, .nameAndType 127 128), (0, u "inflate"), (0, u "([BI[BII)V"), (66, .methodref 10 196), (0, .nameAndType 127 8), (11, .methodref 10 209), (0, .nameAndType 210 211), (0, u "putStringAt"), (0, u "(ILjava/lang/String;)V"), (5, u "inflateIfNeededFor"), (2, .nameAndType 221 222), (0, u "getBytes"), (0, u "([BIB)V"), (174, .methodref 10 398), (0, .nameAndType 217 69), (0, .methodref 1 220), (3, u "()[B"), (40, .class_ 445), (0, u "java/lang/Appendable"), (106, u "getValue")] 56

def k11m0 : Method := { name := "<init>", desc := "()V", sig := { parameters := [], returnType := none }, accessFlags := 0, code := none }
def k11c1 : Code := { maxStack := 2, maxLocals := 2, code := jdk_68_method_2_code, exceptionTable := #[], attributes := #[] }
def k11m1 : Method := { name := "<init>", desc := "(I)V", sig := { parameters := [.int], returnType := none }, accessFlags := 0, code := some k11c1 }
def k11c2 : Code := { maxStack := 1, maxLocals := 1, code := jdk_68_method_6_code, exceptionTable := #[], attributes := #[] }
def k11m2 : Method := { name := "length", desc := "()I", sig := { parameters := [], returnType := some .int }, accessFlags := 1, code := some k11c2 }
def k11c3 : Code := { maxStack := 4, maxLocals := 3, code := jdk_68_method_9_code, exceptionTable := #[], attributes := #[] }
def k11m3 : Method := { name := "ensureCapacityInternal", desc := "(I)V", sig := { parameters := [.int], returnType := none }, accessFlags := 2, code := some k11c3 }
def k11c4 : Code := { maxStack := 5, maxLocals := 6, code := jdk_68_method_10_code, exceptionTable := #[], attributes := #[] }
def k11m4 : Method := { name := "newCapacity", desc := "(I)I", sig := { parameters := [.int], returnType := some .int }, accessFlags := 2, code := some k11c4 }
def k11c5 : Code := { maxStack := 5, maxLocals := 2, code := jdk_68_method_11_code, exceptionTable := #[], attributes := #[] }
def k11m5 : Method := { name := "inflate", desc := "()V", sig := { parameters := [], returnType := none }, accessFlags := 2, code := some k11c5 }
def k11c6 : Code := { maxStack := 3, maxLocals := 3, code := jdk_68_method_22_code, exceptionTable := #[], attributes := #[] }
def k11m6 : Method := { name := "append", desc := "(Ljava/lang/String;)Ljava/lang/AbstractStringBuilder;", sig := { parameters := [(.object "java/lang/String")], returnType := some (.object "java/lang/AbstractStringBuilder") }, accessFlags := 1, code := some k11c6 }
def k11c7 : Code := { maxStack := 1, maxLocals := 1, code := jdk_68_method_64_code, exceptionTable := #[], attributes := #[] }
def k11m7 : Method := { name := "getValue", desc := "()[B", sig := { parameters := [], returnType := some (.array .byte) }, accessFlags := 16, code := some k11c7 }
def k11c8 : Code := { maxStack := 1, maxLocals := 1, code := jdk_68_method_68_code, exceptionTable := #[], attributes := #[] }
def k11m8 : Method := { name := "isLatin1", desc := "()Z", sig := { parameters := [], returnType := some .boolean }, accessFlags := 16, code := some k11c8 }
def k11c9 : Code := { maxStack := 2, maxLocals := 2, code := jdk_68_method_71_code, exceptionTable := #[], attributes := #[] }
def k11m9 : Method := { name := "inflateIfNeededFor", desc := "(Ljava/lang/String;)V", sig := { parameters := [(.object "java/lang/String")], returnType := none }, accessFlags := 2, code := some k11c9 }
def k11c10 : Code := { maxStack := 4, maxLocals := 3, code := jdk_68_method_73_code, exceptionTable := #[], attributes := #[] }
def k11m10 : Method := { name := "putStringAt", desc := "(ILjava/lang/String;)V", sig := { parameters := [.int, (.object "java/lang/String")], returnType := none }, accessFlags := 2, code := some k11c10 }
/-- java/lang/AbstractStringBuilder -/
def k11 : Class := { plain "java/lang/AbstractStringBuilder" (some 0) with
  accessFlags := 1056
  interfaces := #[10, 4]
  cf := some (fileOf pool11 10 #[] #[{ accessFlags := 0, nameIndex := 7, descriptorIndex := 8, attributes := #[] }, { accessFlags := 0, nameIndex := 7, descriptorIndex := 103, attributes := #[] }, { accessFlags := 1, nameIndex := 34, descriptorIndex := 35, attributes := #[] }, { accessFlags := 2, nameIndex := 102, descriptorIndex := 103, attributes := #[] }, { accessFlags := 2, nameIndex := 106, descriptorIndex := 107, attributes := #[] }, { accessFlags := 2, nameIndex := 127, descriptorIndex := 8, attributes := #[] }, { accessFlags := 1, nameIndex := 45, descriptorIndex := 46, attributes := #[] }, { accessFlags := 16, nameIndex := 552, descriptorIndex := 403, attributes := #[] }, { accessFlags := 16, nameIndex := 85, descriptorIndex := 86, attributes := #[] }, { accessFlags := 2, nameIndex := 217, descriptorIndex := 69, attributes := #[] }, { accessFlags := 2, nameIndex := 210, descriptorIndex := 211, attributes := #[] }] 1056 4 #[444, 48] #[{ accessFlags := 0, nameIndex := 17, descriptorIndex := 14, attributes := #[] }, { accessFlags := 0, nameIndex := 24, descriptorIndex := 25, attributes := #[] }, { accessFlags := 0, nameIndex := 75, descriptorIndex := 21, attributes := #[] }, { accessFlags := 0, nameIndex := 81, descriptorIndex := 82, attributes := #[] }, { accessFlags := 26, nameIndex := 13, descriptorIndex := 14, attributes := #[] }])
  fields := #[{ name := "value", type := (.array .byte), accessFlags := 0, slot := 0, constantValue := 0 }, { name := "coder", type := .byte, accessFlags := 0, slot := 1, constantValue := 0 }, { name := "maybeLatin1", type := .boolean, accessFlags := 0, slot := 2, constantValue := 0 }, { name := "count", type := .int, accessFlags := 0, slot := 3, constantValue := 0 }, { name := "EMPTYVALUE", type := (.array .byte), accessFlags := 26, slot := 0, constantValue := 0 }]
  methods := #[k11m0, k11m1, k11m2, k11m3, k11m4, k11m5, k11m6, k11m7, k11m8, k11m9, k11m10]
  instanceTypes := #[(.array .byte), .byte, .boolean, .int]
  staticTypes := #[(.array .byte)]
  resolved := Array.replicate 609 none
  statics := none }

def pool12 : Array CpInfo := pool [(1, .methodref 2 3), (0, .class_ 4), (0, .nameAndType 5 6), (0, u "java/lang/AbstractStringBuilder"), (0, u "<init>"), (0, u "(I)V"), (10, .methodref 18 19), (0, .class_ 20), (0, .nameAndType 21 22), (0, u "java/lang/String"), (0, u "valueOf"), (0, u "(Ljava/lang/Object;)Ljava/lang/String;"), (0, .methodref 24 25), (0, .class_ 26), (0, .nameAndType 27 28), (0, u "java/lang/StringBuilder"), (0, u "append"), (0, u "(Ljava/lang/String;)Ljava/lang/StringBuilder;"), (0, .methodref 2 30), (0, .nameAndType 27 31), (0, u "(Ljava/lang/String;)Ljava/lang/AbstractStringBuilder;"), (105, .methodref 18 138), (0, .nameAndType 5 139), (0, u "(Ljava/lang/StringBuilder;)V"), (5, u "()V"), (10, u "()I"), (150, u "(Ljava/lang/Object;)Ljava/lang/StringBuilder;"), (35, .methodref 2 344), (0, .nameAndType 345 156), (0, u "length"), (3, .class_ 350), (0, u "java/lang/Appendable"), (0, .class_ 352), (0, u "java/io/Serializable"), (0, .class_ 354), (0, u "java/lang/Comparable"), (0, .class_ 356), (0, u "java/lang/CharSequence"), (0, u "serialVersionUID"), (0, u "J"), (40, u "toString"), (0, u "()Ljava/lang/String;")] 21

def k12c0 : Code := { maxStack := 2, maxLocals := 1, code := jdk_67_method_1_code, exceptionTable := #[], attributes := #[] }
def k12m0 : Method := { name := "<init>", desc := "()V", sig := { parameters := [], returnType := none }, accessFlags := 1, code := some k12c0 }
def k12c1 : Code := { maxStack := 2, maxLocals := 2, code := jdk_67_method_6_code, exceptionTable := #[], attributes := #[] }
def k12m1 : Method := { name := "append", desc := "(Ljava/lang/Object;)Ljava/lang/StringBuilder;", sig := { parameters := [(.object "java/lang/Object")], returnType := some (.object "java/lang/StringBuilder") }, accessFlags := 1, code := some k12c1 }
def k12c2 : Code := { maxStack := 2, maxLocals := 2, code := jdk_67_method_7_code, exceptionTable := #[], attributes := #[] }
def k12m2 : Method := { name := "append", desc := "(Ljava/lang/String;)Ljava/lang/StringBuilder;", sig := { parameters := [(.object "java/lang/String")], returnType := some (.object "java/lang/StringBuilder") }, accessFlags := 1, code := some k12c2 }
def k12c3 : Code := { maxStack := 3, maxLocals := 1, code := jdk_67_method_42_code, exceptionTable := #[], attributes := #[] }
def k12m3 : Method := { name := "toString", desc := "()Ljava/lang/String;", sig := { parameters := [], returnType := some (.object "java/lang/String") }, accessFlags := 1, code := some k12c3 }
def k12c4 : Code := { maxStack := 1, maxLocals := 1, code := jdk_67_method_93_code, exceptionTable := #[], attributes := #[] }
def k12m4 : Method := { name := "length", desc := "()I", sig := { parameters := [], returnType := some .int }, accessFlags := 4161, code := some k12c4 }
/-- java/lang/StringBuilder -/
def k12 : Class := { plain "java/lang/StringBuilder" (some 11) with
  accessFlags := 49
  interfaces := #[10, 2, 3, 4]
  cf := some (fileOf pool12 24 #[] #[{ accessFlags := 1, nameIndex := 5, descriptorIndex := 145, attributes := #[] }, { accessFlags := 1, nameIndex := 27, descriptorIndex := 307, attributes := #[] }, { accessFlags := 1, nameIndex := 27, descriptorIndex := 28, attributes := #[] }, { accessFlags := 1, nameIndex := 399, descriptorIndex := 400, attributes := #[] }, { accessFlags := 4161, nameIndex := 345, descriptorIndex := 156, attributes := #[] }] 49 2 #[349, 351, 353, 355] #[{ accessFlags := 24, nameIndex := 357, descriptorIndex := 358, attributes := #[] }])
  fields := #[{ name := "serialVersionUID", type := .long, accessFlags := 24, slot := 0, constantValue := 0 }]
  methods := #[k12m0, k12m1, k12m2, k12m3, k12m4]
  instanceTypes := #[(.array .byte), .byte, .boolean, .int]
  staticTypes := #[.long]
  resolved := Array.replicate 422 none
  statics := none }

def pool13 : Array CpInfo := pool [(2, .class_ 4), (1, u "java/lang/Enum"), (0, u "name"), (0, u "Ljava/lang/String;"), (2, u "ordinal"), (0, u "I"), (1, .class_ 14), (1, u "java/lang/Object"), (4, u "hash"), (86, .class_ 108), (1, u "java/lang/Enum$EnumDesc"), (2, .class_ 112), (0, u "java/lang/constant/Constable"), (0, .class_ 114), (0, u "java/lang/Comparable"), (0, .class_ 116), (0, u "java/io/Serializable")] 87

/-- java/lang/Enum -/
def k13 : Class := { plain "java/lang/Enum" (some 0) with
  accessFlags := 1057
  interfaces := #[5, 3, 2]
  cf := some (fileOf pool13 2 #[.nestMembers #[106]] #[] 1057 12 #[111, 113, 115] #[{ accessFlags := 18, nameIndex := 5, descriptorIndex := 6, attributes := #[] }, { accessFlags := 18, nameIndex := 9, descriptorIndex := 10, attributes := #[] }, { accessFlags := 2, nameIndex := 19, descriptorIndex := 10, attributes := #[] }])
  fields := #[{ name := "name", type := (.object "java/lang/String"), accessFlags := 18, slot := 0, constantValue := 0 }, { name := "ordinal", type := .int, accessFlags := 18, slot := 1, constantValue := 0 }, { name := "hash", type := .int, accessFlags := 2, slot := 2, constantValue := 0 }]
  methods := #[]
  instanceTypes := #[(.object "java/lang/String"), .int, .int]
  staticTypes := #[]
  resolved := Array.replicate 204 none
  statics := none }

def pool14 : Array CpInfo := pool [(1, .class_ 2), (0, u "com/example/tenorbook/tenorbook/terms/TermKey"), (0, .class_ 4), (0, u "java/lang/Object")] 5

/-- com/example/tenorbook/tenorbook/terms/TermKey -/
def k14 : Class := { plain "com/example/tenorbook/tenorbook/terms/TermKey" (some 0) with
  accessFlags := 1537
  interfaces := #[]
  cf := some (fileOf pool14 1 #[] #[] 1537 3 #[] #[])
  fields := #[]
  methods := #[]
  instanceTypes := #[]
  staticTypes := #[]
  resolved := Array.replicate 10 none
  statics := none }

def pool15 : Array CpInfo := pool [(1, .class_ 2), (0, u "com/example/tenorbook/tenorbook/terms/AgreementTerm"), (2, u "AGREEMENT_ID"), (0, u "Lcom/example/tenorbook/tenorbook/terms/AgreementTerm;"), (2, u "CLOSING_DATE"), (2, u "FISCAL_YEAR_END_MONTH"), (2, u "FACILITY_ID"), (2, u "FACILITY_BEDS"), (2, u "ASSUMED_MANAGEMENT_FEE_PERCENT"), (2, u "FACILITY_MINIMUM_ACTUAL_FEES"), (2, u "FACILITY_MINIMUM_ASSUMED_FEES"), (2, u "COMBINED_MINIMUM_ASSUMED_FEES"), (2, u "FORBEAR_WHEN_COMBINED_AT_LEAST"), (2, u "OCCUPANCY_MINIMUM_PERCENT"), (2, u "CAPITAL_SPENDING_PER_BED_PER_YEAR"), (2, u "$VALUES"), (0, u "[Lcom/example/tenorbook/tenorbook/terms/AgreementTerm;"), (6, .class_ 52), (1, u "java/lang/Enum"), (4, u "<init>"), (1, .fieldref 1 60), (0, .nameAndType 61 62), (0, u "section"), (0, u "Ljava/lang/String;"), (0, .fieldref 1 64), (0, .nameAndType 65 62), (0, u "key"), (0, .class_ 67), (0, u "java/lang/StringBuilder"), (0, .methodref 66 69), (0, .nameAndType 57 70), (0, u "()V"), (0, .string 72), (0, u "["), (0, .methodref 66 74), (0, .nameAndType 75 76), (0, u "append"), (0, u "(Ljava/lang/String;)Ljava/lang/StringBuilder;"), (0, .string 78), (0, u "] "), (0, .methodref 66 80), (0, .nameAndType 81 82), (0, u "toString"), (0, u "()Ljava/lang/String;"), (51, .class_ 135), (0, u "com/example/tenorbook/tenorbook/terms/TermKey"), (0, u "FACILITY_SECTION")] 12

def k15c0 : Code := { maxStack := 2, maxLocals := 1, code := prog_51_method_6_code, exceptionTable := #[], attributes := #[] }
def k15m0 : Method := { name := "toString", desc := "()Ljava/lang/String;", sig := { parameters := [], returnType := some (.object "java/lang/String") }, accessFlags := 1, code := some k15c0 }
/-- com/example/tenorbook/tenorbook/terms/AgreementTerm -/
def k15 : Class := { plain "com/example/tenorbook/tenorbook/terms/AgreementTerm" (some 13) with
  accessFlags := 16433
  interfaces := #[14]
  cf := some (fileOf pool15 1 #[] #[{ accessFlags := 1, nameIndex := 81, descriptorIndex := 82, attributes := #[] }] 16433 50 #[134] #[{ accessFlags := 16409, nameIndex := 5, descriptorIndex := 6, attributes := #[] }, { accessFlags := 16409, nameIndex := 9, descriptorIndex := 6, attributes := #[] }, { accessFlags := 16409, nameIndex := 12, descriptorIndex := 6, attributes := #[] }, { accessFlags := 16409, nameIndex := 15, descriptorIndex := 6, attributes := #[] }, { accessFlags := 16409, nameIndex := 18, descriptorIndex := 6, attributes := #[] }, { accessFlags := 16409, nameIndex := 21, descriptorIndex := 6, attributes := #[] }, { accessFlags := 16409, nameIndex := 24, descriptorIndex := 6, attributes := #[] }, { accessFlags := 16409, nameIndex := 27, descriptorIndex := 6, attributes := #[] }, { accessFlags := 16409, nameIndex := 30, descriptorIndex := 6, attributes := #[] }, { accessFlags := 16409, nameIndex := 33, descriptorIndex := 6, attributes := #[] }, { accessFlags := 16409, nameIndex := 36, descriptorIndex := 6, attributes := #[] }, { accessFlags := 16409, nameIndex := 39, descriptorIndex := 6, attributes := #[] }, { accessFlags := 24, nameIndex := 136, descriptorIndex := 62, attributes := #[] }, { accessFlags := 18, nameIndex := 61, descriptorIndex := 62, attributes := #[] }, { accessFlags := 18, nameIndex := 65, descriptorIndex := 62, attributes := #[] }, { accessFlags := 4122, nameIndex := 42, descriptorIndex := 43, attributes := #[] }])
  fields := #[{ name := "AGREEMENT_ID", type := (.object "com/example/tenorbook/tenorbook/terms/AgreementTerm"), accessFlags := 16409, slot := 0, constantValue := 0 }, { name := "CLOSING_DATE", type := (.object "com/example/tenorbook/tenorbook/terms/AgreementTerm"), accessFlags := 16409, slot := 1, constantValue := 0 }, { name := "FISCAL_YEAR_END_MONTH", type := (.object "com/example/tenorbook/tenorbook/terms/AgreementTerm"), accessFlags := 16409, slot := 2, constantValue := 0 }, { name := "FACILITY_ID", type := (.object "com/example/tenorbook/tenorbook/terms/AgreementTerm"), accessFlags := 16409, slot := 3, constantValue := 0 }, { name := "FACILITY_BEDS", type := (.object "com/example/tenorbook/tenorbook/terms/AgreementTerm"), accessFlags := 16409, slot := 4, constantValue := 0 }, { name := "ASSUMED_MANAGEMENT_FEE_PERCENT", type := (.object "com/example/tenorbook/tenorbook/terms/AgreementTerm"), accessFlags := 16409, slot := 5, constantValue := 0 }, { name := "FACILITY_MINIMUM_ACTUAL_FEES", type := (.object "com/example/tenorbook/tenorbook/terms/AgreementTerm"), accessFlags := 16409, slot := 6, constantValue := 0 }, { name := "FACILITY_MINIMUM_ASSUMED_FEES", type := (.object "com/example/tenorbook/tenorbook/terms/AgreementTerm"), accessFlags := 16409, slot := 7, constantValue := 0 }, { name := "COMBINED_MINIMUM_ASSUMED_FEES", type := (.object "com/example/tenorbook/tenorbook/terms/AgreementTerm"), accessFlags := 16409, slot := 8, constantValue := 0 }, { name := "FORBEAR_WHEN_COMBINED_AT_LEAST", type := (.object "com/example/tenorbook/tenorbook/terms/AgreementTerm"), accessFlags := 16409, slot := 9, constantValue := 0 }, { name := "OCCUPANCY_MINIMUM_PERCENT", type := (.object "com/example/tenorbook/tenorbook/terms/AgreementTerm"), accessFlags := 16409, slot := 10, constantValue := 0 }, { name := "CAPITAL_SPENDING_PER_BED_PER_YEAR", type := (.object "com/example/tenorbook/tenorbook/terms/AgreementTerm"), accessFlags := 16409, slot := 11, constantValue := 0 }, { name := "FACILITY_SECTION", type := (.object "java/lang/String"), accessFlags := 24, slot := 12, constantValue := 0 }, { name := "section", type := (.object "java/lang/String"), accessFlags := 18, slot := 3, constantValue := 0 }, { name := "key", type := (.object "java/lang/String"), accessFlags := 18, slot := 4, constantValue := 0 }, { name := "$VALUES", type := (.array (.object "com/example/tenorbook/tenorbook/terms/AgreementTerm")), accessFlags := 4122, slot := 13, constantValue := 0 }]
  methods := #[k15m0]
  instanceTypes := #[(.object "java/lang/String"), .int, .int, (.object "java/lang/String"), (.object "java/lang/String")]
  staticTypes := #[(.object "com/example/tenorbook/tenorbook/terms/AgreementTerm"), (.object "com/example/tenorbook/tenorbook/terms/AgreementTerm"), (.object "com/example/tenorbook/tenorbook/terms/AgreementTerm"), (.object "com/example/tenorbook/tenorbook/terms/AgreementTerm"), (.object "com/example/tenorbook/tenorbook/terms/AgreementTerm"), (.object "com/example/tenorbook/tenorbook/terms/AgreementTerm"), (.object "com/example/tenorbook/tenorbook/terms/AgreementTerm"), (.object "com/example/tenorbook/tenorbook/terms/AgreementTerm"), (.object "com/example/tenorbook/tenorbook/terms/AgreementTerm"), (.object "com/example/tenorbook/tenorbook/terms/AgreementTerm"), (.object "com/example/tenorbook/tenorbook/terms/AgreementTerm"), (.object "com/example/tenorbook/tenorbook/terms/AgreementTerm"), (.object "java/lang/String"), (.array (.object "com/example/tenorbook/tenorbook/terms/AgreementTerm"))]
  resolved := Array.replicate 149 none
  statics := some 1 }

def pool16 : Array CpInfo := pool [(2, .class_ 4), (1, u "java/lang/Object"), (0, u "<init>"), (0, u "()V"), (1, .class_ 10), (1, u "java/lang/System"), (0, u "allowSecurityManager"), (0, u "I"), (16, u "cons"), (0, u "Ljava/io/Console;"), (77, .class_ 110), (1, u "java/lang/System$CallersHolder"), (43, u "initialErrStream"), (0, u "Ljava/io/PrintStream;"), (19, u "security"), (0, u "Ljava/lang/SecurityManager;"), (31, .class_ 209), (0, u "java/lang/System$1"), (7, u "props"), (0, u "Ljava/util/Properties;"), (2, u "lineSeparator"), (0, u "Ljava/lang/String;"), (96, .class_ 321), (1, u "java/lang/System$LoggerFinder"), (5, .class_ 328), (0, u "java/lang/System$Logger"), (67, u "err"), (2, u "out"), (91, u "notSupportedJnuEncoding"), (15, u "in"), (17, u "initialIn"), (0, u "Ljava/io/InputStream;"), (35, u "bootLayer"), (0, u "Ljava/lang/ModuleLayer;"), (99, .class_ 664), (0, u "java/lang/System$2"), (9, u "NEVER"), (2, u "MAYBE"), (49, u "arraycopy"), (0, u "(Ljava/lang/Object;ILjava/lang/Object;II)V"), (72, .class_ 802), (0, u "java/lang/System$Logger$Level")] 31

def k16m0 : Method := { name := "<init>", desc := "()V", sig := { parameters := [], returnType := none }, accessFlags := 2, code := none }
def k16m1 : Method := { name := "arraycopy", desc := "(Ljava/lang/Object;ILjava/lang/Object;II)V", sig := { parameters := [(.object "java/lang/Object"), .int, (.object "java/lang/Object"), .int, .int], returnType := none }, accessFlags := 265, code := none }
/-- java/lang/System -/
def k16 : Class := { plain "java/lang/System" (some 0) with
  accessFlags := 49
  interfaces := #[]
  cf := some (fileOf pool16 8 #[.nestMembers #[319, 327, 801, 108, 663, 208]] #[{ accessFlags := 2, nameIndex := 5, descriptorIndex := 6, attributes := #[] }, { accessFlags := 265, nameIndex := 727, descriptorIndex := 728, attributes := #[] }] 49 2 #[] #[{ accessFlags := 25, nameIndex := 507, descriptorIndex := 526, attributes := #[] }, { accessFlags := 25, nameIndex := 399, descriptorIndex := 155, attributes := #[] }, { accessFlags := 25, nameIndex := 396, descriptorIndex := 155, attributes := #[] }, { accessFlags := 10, nameIndex := 525, descriptorIndex := 526, attributes := #[] }, { accessFlags := 26, nameIndex := 674, descriptorIndex := 12, attributes := #[] }, { accessFlags := 26, nameIndex := 677, descriptorIndex := 12, attributes := #[] }, { accessFlags := 10, nameIndex := 11, descriptorIndex := 12, attributes := #[] }, { accessFlags := 74, nameIndex := 175, descriptorIndex := 176, attributes := #[] }, { accessFlags := 10, nameIndex := 491, descriptorIndex := 222, attributes := #[] }, { accessFlags := 74, nameIndex := 29, descriptorIndex := 30, attributes := #[] }, { accessFlags := 74, nameIndex := 154, descriptorIndex := 155, attributes := #[] }, { accessFlags := 10, nameIndex := 217, descriptorIndex := 218, attributes := #[] }, { accessFlags := 10, nameIndex := 221, descriptorIndex := 222, attributes := #[] }, { accessFlags := 8, nameIndex := 562, descriptorIndex := 563, attributes := #[] }])
  fields := #[{ name := "in", type := (.object "java/io/InputStream"), accessFlags := 25, slot := 0, constantValue := 0 }, { name := "out", type := (.object "java/io/PrintStream"), accessFlags := 25, slot := 1, constantValue := 0 }, { name := "err", type := (.object "java/io/PrintStream"), accessFlags := 25, slot := 2, constantValue := 0 }, { name := "initialIn", type := (.object "java/io/InputStream"), accessFlags := 10, slot := 3, constantValue := 0 }, { name := "NEVER", type := .int, accessFlags := 26, slot := 4, constantValue := 0 }, { name := "MAYBE", type := .int, accessFlags := 26, slot := 5, constantValue := 0 }, { name := "allowSecurityManager", type := .int, accessFlags := 10, slot := 6, constantValue := 0 }, { name := "security", type := (.object "java/lang/SecurityManager"), accessFlags := 74, slot := 7, constantValue := 0 }, { name := "notSupportedJnuEncoding", type := (.object "java/lang/String"), accessFlags := 10, slot := 8, constantValue := 0 }, { name := "cons", type := (.object "java/io/Console"), accessFlags := 74, slot := 9, constantValue := 0 }, { name := "initialErrStream", type := (.object "java/io/PrintStream"), accessFlags := 74, slot := 10, constantValue := 0 }, { name := "props", type := (.object "java/util/Properties"), accessFlags := 10, slot := 11, constantValue := 0 }, { name := "lineSeparator", type := (.object "java/lang/String"), accessFlags := 10, slot := 12, constantValue := 0 }, { name := "bootLayer", type := (.object "java/lang/ModuleLayer"), accessFlags := 8, slot := 13, constantValue := 0 }]
  methods := #[k16m0, k16m1]
  instanceTypes := #[]
  staticTypes := #[(.object "java/io/InputStream"), (.object "java/io/PrintStream"), (.object "java/io/PrintStream"), (.object "java/io/InputStream"), .int, .int, .int, (.object "java/lang/SecurityManager"), (.object "java/lang/String"), (.object "java/io/Console"), (.object "java/io/PrintStream"), (.object "java/util/Properties"), (.object "java/lang/String"), (.object "java/lang/ModuleLayer")]
  resolved := Array.replicate 834 none
  statics := none }

def pool17 : Array CpInfo := pool [(2, .class_ 4), (1, u "java/lang/Object"), (0, u "<init>"), (0, u "()V"), (7, .class_ 16), (1, u "java/util/Arrays"), (57, .class_ 76), (1, u "java/util/Arrays$NaturalOrder"), (32, u "()Ljava/lang/Object;"), (3, .class_ 115), (1, u "java/util/Arrays$LegacyMergeSort"), (1, u "Z"), (10, .nameAndType 129 109), (0, u "clone"), (9, u "copyOfRange"), (10, .methodref 151 152), (0, .class_ 153), (0, .nameAndType 154 155), (0, u "java/lang/System"), (0, u "arraycopy"), (0, u "(Ljava/lang/Object;ILjava/lang/Object;II)V"), (146, u "copyOf"), (1, .methodref 305 306), (0, .class_ 307), (0, .nameAndType 308 309), (0, u "java/lang/Math"), (0, u "min"), (0, u "(II)I"), (0, .methodref 311 128), (0, .class_ 312), (0, u "[B"), (26, .methodref 14 340), (0, .nameAndType 341 342), (0, u "copyOfRangeByte"), (0, u "([BII)[B"), (0, .methodref 14 344), (0, .nameAndType 345 346), (0, u "checkLength"), (0, u "(II)V"), (28, .class_ 376), (0, u "java/util/Arrays$ArrayList"), (68, u "$assertionsDisabled"), (269, u "MIN_ARRAY_SORT_GRAN"), (0, u "I"), (2, u "INSERTIONSORT_THRESHOLD"), (149, u "([BI)[B"), (105, .class_ 976), (0, u "java/util/Arrays$ArrayItr")] 52

def k17m0 : Method := { name := "<init>", desc := "()V", sig := { parameters := [], returnType := none }, accessFlags := 2, code := none }
def k17c1 : Code := { maxStack := 6, maxLocals := 3, code := jdk_65_method_121_code, exceptionTable := #[], attributes := #[] }
def k17m1 : Method := { name := "copyOf", desc := "([BI)[B", sig := { parameters := [(.array .byte), .int], returnType := some (.array .byte) }, accessFlags := 9, code := some k17c1 }
def k17c2 : Code := { maxStack := 4, maxLocals := 2, code := jdk_65_method_131_code, exceptionTable := #[], attributes := #[] }
def k17m2 : Method := { name := "checkLength", desc := "(II)V", sig := { parameters := [.int, .int], returnType := none }, accessFlags := 10, code := some k17c2 }
def k17c3 : Code := { maxStack := 3, maxLocals := 3, code := jdk_65_method_132_code, exceptionTable := #[], attributes := #[] }
def k17m3 : Method := { name := "copyOfRange", desc := "([BII)[B", sig := { parameters := [(.array .byte), .int, .int], returnType := some (.array .byte) }, accessFlags := 9, code := some k17c3 }
def k17c4 : Code := { maxStack := 6, maxLocals := 5, code := jdk_65_method_133_code, exceptionTable := #[], attributes := #[] }
def k17m4 : Method := { name := "copyOfRangeByte", desc := "([BII)[B", sig := { parameters := [(.array .byte), .int, .int], returnType := some (.array .byte) }, accessFlags := 10, code := some k17c4 }
/-- java/util/Arrays -/
def k17 : Class := { plain "java/util/Arrays" (some 0) with
  accessFlags := 49
  interfaces := #[]
  cf := some (fileOf pool17 14 #[.nestMembers #[975, 375, 113, 74]] #[{ accessFlags := 2, nameIndex := 5, descriptorIndex := 6, attributes := #[] }, { accessFlags := 9, nameIndex := 302, descriptorIndex := 869, attributes := #[] }, { accessFlags := 10, nameIndex := 345, descriptorIndex := 346, attributes := #[] }, { accessFlags := 9, nameIndex := 139, descriptorIndex := 342, attributes := #[] }, { accessFlags := 10, nameIndex := 341, descriptorIndex := 342, attributes := #[] }] 49 2 #[] #[{ accessFlags := 26, nameIndex := 715, descriptorIndex := 716, attributes := #[] }, { accessFlags := 26, nameIndex := 719, descriptorIndex := 716, attributes := #[] }, { accessFlags := 4120, nameIndex := 445, descriptorIndex := 117, attributes := #[] }])
  fields := #[{ name := "MIN_ARRAY_SORT_GRAN", type := .int, accessFlags := 26, slot := 0, constantValue := 0 }, { name := "INSERTIONSORT_THRESHOLD", type := .int, accessFlags := 26, slot := 1, constantValue := 0 }, { name := "$assertionsDisabled", type := .boolean, accessFlags := 4120, slot := 2, constantValue := 0 }]
  methods := #[k17m0, k17m1, k17m2, k17m3, k17m4]
  instanceTypes := #[]
  staticTypes := #[.int, .int, .boolean]
  resolved := Array.replicate 1029 none
  statics := none }

def pool18 : Array CpInfo := pool [(1, .class_ 2), (0, u "java/lang/Math"), (1, .class_ 6), (1, u "java/lang/Object"), (0, u "<init>"), (0, u "()V"), (89, .class_ 100), (1, u "java/lang/Math$RandomNumberGeneratorHolder"), (71, u "negativeZeroFloatBits"), (0, u "J"), (2, u "negativeZeroDoubleBits"), (21, u "max"), (2, u "min"), (43, u "$assertionsDisabled"), (0, u "Z"), (88, u "(II)I"), (2, u "twoToTheDoubleScaleDown"), (0, u "D"), (4, u "twoToTheDoubleScaleUp"), (9, u "E"), (3, u "PI"), (2, u "TAU"), (2, u "DEGREES_TO_RADIANS"), (0, u "RADIANS_TO_DEGREES")] 94

def k18m0 : Method := { name := "<init>", desc := "()V", sig := { parameters := [], returnType := none }, accessFlags := 2, code := none }
def k18c1 : Code := { maxStack := 2, maxLocals := 2, code := jdk_29_method_65_code, exceptionTable := #[], attributes := #[] }
def k18m1 : Method := { name := "max", desc := "(II)I", sig := { parameters := [.int, .int], returnType := some .int }, accessFlags := 9, code := some k18c1 }
def k18c2 : Code := { maxStack := 2, maxLocals := 2, code := jdk_29_method_69_code, exceptionTable := #[], attributes := #[] }
def k18m2 : Method := { name := "min", desc := "(II)I", sig := { parameters := [.int, .int], returnType := some .int }, accessFlags := 9, code := some k18c2 }
/-- java/lang/Math -/
def k18 : Class := { plain "java/lang/Math" (some 0) with
  accessFlags := 49
  interfaces := #[]
  cf := some (fileOf pool18 1 #[.nestMembers #[98]] #[{ accessFlags := 2, nameIndex := 7, descriptorIndex := 8, attributes := #[] }, { accessFlags := 9, nameIndex := 198, descriptorIndex := 335, attributes := #[] }, { accessFlags := 9, nameIndex := 201, descriptorIndex := 335, attributes := #[] }] 49 4 #[] #[{ accessFlags := 25, nameIndex := 354, descriptorIndex := 339, attributes := #[] }, { accessFlags := 25, nameIndex := 358, descriptorIndex := 339, attributes := #[] }, { accessFlags := 25, nameIndex := 361, descriptorIndex := 339, attributes := #[] }, { accessFlags := 26, nameIndex := 364, descriptorIndex := 339, attributes := #[] }, { accessFlags := 26, nameIndex := 365, descriptorIndex := 339, attributes := #[] }, { accessFlags := 26, nameIndex := 172, descriptorIndex := 173, attributes := #[] }, { accessFlags := 26, nameIndex := 176, descriptorIndex := 173, attributes := #[] }, { accessFlags := 8, nameIndex := 344, descriptorIndex := 339, attributes := #[] }, { accessFlags := 8, nameIndex := 338, descriptorIndex := 339, attributes := #[] }, { accessFlags := 4120, nameIndex := 245, descriptorIndex := 246, attributes := #[] }])
  fields := #[{ name := "E", type := .double, accessFlags := 25, slot := 0, constantValue := 0 }, { name := "PI", type := .double, accessFlags := 25, slot := 1, constantValue := 0 }, { name := "TAU", type := .double, accessFlags := 25, slot := 2, constantValue := 0 }, { name := "DEGREES_TO_RADIANS", type := .double, accessFlags := 26, slot := 3, constantValue := 0 }, { name := "RADIANS_TO_DEGREES", type := .double, accessFlags := 26, slot := 4, constantValue := 0 }, { name := "negativeZeroFloatBits", type := .long, accessFlags := 26, slot := 5, constantValue := 0 }, { name := "negativeZeroDoubleBits", type := .long, accessFlags := 26, slot := 6, constantValue := 0 }, { name := "twoToTheDoubleScaleUp", type := .double, accessFlags := 8, slot := 7, constantValue := 0 }, { name := "twoToTheDoubleScaleDown", type := .double, accessFlags := 8, slot := 8, constantValue := 0 }, { name := "$assertionsDisabled", type := .boolean, accessFlags := 4120, slot := 9, constantValue := 0 }]
  methods := #[k18m0, k18m1, k18m2]
  instanceTypes := #[]
  staticTypes := #[.double, .double, .double, .double, .double, .long, .long, .double, .double, .boolean]
  resolved := Array.replicate 460 none
  statics := none }

def pool19 : Array CpInfo := pool [(9, u "<init>"), (6, .class_ 18), (1, u "java/lang/Object"), (0, u "()V"), (1, .class_ 23), (1, u "jdk/internal/util/ArraysSupport"), (0, u "LOG2_ARRAY_LONG_INDEX_SCALE"), (0, u "I"), (2, u "U"), (0, u "Ljdk/internal/misc/Unsafe;"), (8, u "BIG_ENDIAN"), (0, u "Z"), (8, u "LOG2_BYTE_BIT_SIZE"), (4, u "LOG2_ARRAY_INT_INDEX_SCALE"), (54, u "JLA"), (0, u "Ljdk/internal/access/JavaLangAccess;"), (11, u "LOG2_ARRAY_BOOLEAN_INDEX_SCALE"), (9, u "LOG2_ARRAY_BYTE_INDEX_SCALE"), (5, u "LOG2_ARRAY_CHAR_INDEX_SCALE"), (5, u "LOG2_ARRAY_SHORT_INDEX_SCALE"), (18, u "LOG2_ARRAY_FLOAT_INDEX_SCALE"), (24, u "LOG2_ARRAY_DOUBLE_INDEX_SCALE"), (6, .methodref 195 196), (0, .class_ 197), (0, .nameAndType 198 199), (0, u "java/lang/Math"), (0, u "max"), (0, u "(II)I"), (0, .integer 2147483639), (76, u "T_BOOLEAN"), (2, u "T_CHAR"), (1, u "T_FLOAT"), (1, u "T_DOUBLE"), (1, u "T_BYTE"), (1, u "T_SHORT"), (1, u "T_INT"), (1, u "T_LONG"), (1, u "SOFT_MAX_ARRAY_LENGTH"), (56, u "newLength"), (0, u "(III)I")] 25

def k19m0 : Method := { name := "<init>", desc := "()V", sig := { parameters := [], returnType := none }, accessFlags := 2, code := none }
def k19c1 : Code := { maxStack := 3, maxLocals := 4, code := jdk_48_method_27_code, exceptionTable := #[], attributes := #[] }
def k19m1 : Method := { name := "newLength", desc := "(III)I", sig := { parameters := [.int, .int, .int], returnType := some .int }, accessFlags := 9, code := some k19c1 }
/-- jdk/internal/util/ArraysSupport -/
def k19 : Class := { plain "jdk/internal/util/ArraysSupport" (some 0) with
  accessFlags := 33
  interfaces := #[]
  cf := some (fileOf pool19 21 #[] #[{ accessFlags := 2, nameIndex := 9, descriptorIndex := 19, attributes := #[] }, { accessFlags := 9, nameIndex := 351, descriptorIndex := 352, attributes := #[] }] 33 16 #[] #[{ accessFlags := 24, nameIndex := 28, descriptorIndex := 29, attributes := #[] }, { accessFlags := 26, nameIndex := 38, descriptorIndex := 39, attributes := #[] }, { accessFlags := 25, nameIndex := 121, descriptorIndex := 25, attributes := #[] }, { accessFlags := 25, nameIndex := 131, descriptorIndex := 25, attributes := #[] }, { accessFlags := 25, nameIndex := 137, descriptorIndex := 25, attributes := #[] }, { accessFlags := 25, nameIndex := 143, descriptorIndex := 25, attributes := #[] }, { accessFlags := 25, nameIndex := 53, descriptorIndex := 25, attributes := #[] }, { accessFlags := 25, nameIndex := 24, descriptorIndex := 25, attributes := #[] }, { accessFlags := 25, nameIndex := 162, descriptorIndex := 25, attributes := #[] }, { accessFlags := 25, nameIndex := 187, descriptorIndex := 25, attributes := #[] }, { accessFlags := 26, nameIndex := 48, descriptorIndex := 25, attributes := #[] }, { accessFlags := 25, nameIndex := 277, descriptorIndex := 25, attributes := #[] }, { accessFlags := 25, nameIndex := 280, descriptorIndex := 25, attributes := #[] }, { accessFlags := 25, nameIndex := 282, descriptorIndex := 25, attributes := #[] }, { accessFlags := 25, nameIndex := 284, descriptorIndex := 25, attributes := #[] }, { accessFlags := 25, nameIndex := 286, descriptorIndex := 25, attributes := #[] }, { accessFlags := 25, nameIndex := 288, descriptorIndex := 25, attributes := #[] }, { accessFlags := 25, nameIndex := 290, descriptorIndex := 25, attributes := #[] }, { accessFlags := 25, nameIndex := 292, descriptorIndex := 25, attributes := #[] }, { accessFlags := 26, nameIndex := 108, descriptorIndex := 109, attributes := #[] }, { accessFlags := 25, nameIndex := 294, descriptorIndex := 25, attributes := #[] }])
  fields := #[{ name := "U", type := (.object "jdk/internal/misc/Unsafe"), accessFlags := 24, slot := 0, constantValue := 0 }, { name := "BIG_ENDIAN", type := .boolean, accessFlags := 26, slot := 1, constantValue := 0 }, { name := "LOG2_ARRAY_BOOLEAN_INDEX_SCALE", type := .int, accessFlags := 25, slot := 2, constantValue := 0 }, { name := "LOG2_ARRAY_BYTE_INDEX_SCALE", type := .int, accessFlags := 25, slot := 3, constantValue := 0 }, { name := "LOG2_ARRAY_CHAR_INDEX_SCALE", type := .int, accessFlags := 25, slot := 4, constantValue := 0 }, { name := "LOG2_ARRAY_SHORT_INDEX_SCALE", type := .int, accessFlags := 25, slot := 5, constantValue := 0 }, { name := "LOG2_ARRAY_INT_INDEX_SCALE", type := .int, accessFlags := 25, slot := 6, constantValue := 0 }, { name := "LOG2_ARRAY_LONG_INDEX_SCALE", type := .int, accessFlags := 25, slot := 7, constantValue := 0 }, { name := "LOG2_ARRAY_FLOAT_INDEX_SCALE", type := .int, accessFlags := 25, slot := 8, constantValue := 0 }, { name := "LOG2_ARRAY_DOUBLE_INDEX_SCALE", type := .int, accessFlags := 25, slot := 9, constantValue := 0 }, { name := "LOG2_BYTE_BIT_SIZE", type := .int, accessFlags := 26, slot := 10, constantValue := 0 }, { name := "T_BOOLEAN", type := .int, accessFlags := 25, slot := 11, constantValue := 0 }, { name := "T_CHAR", type := .int, accessFlags := 25, slot := 12, constantValue := 0 }, { name := "T_FLOAT", type := .int, accessFlags := 25, slot := 13, constantValue := 0 }, { name := "T_DOUBLE", type := .int, accessFlags := 25, slot := 14, constantValue := 0 }, { name := "T_BYTE", type := .int, accessFlags := 25, slot := 15, constantValue := 0 }, { name := "T_SHORT", type := .int, accessFlags := 25, slot := 16, constantValue := 0 }, { name := "T_INT", type := .int, accessFlags := 25, slot := 17, constantValue := 0 }, { name := "T_LONG", type := .int, accessFlags := 25, slot := 18, constantValue := 0 }, { name := "JLA", type := (.object "jdk/internal/access/JavaLangAccess"), accessFlags := 26, slot := 19, constantValue := 0 }, { name := "SOFT_MAX_ARRAY_LENGTH", type := .int, accessFlags := 25, slot := 20, constantValue := 0 }]
  methods := #[k19m0, k19m1]
  instanceTypes := #[]
  staticTypes := #[(.object "jdk/internal/misc/Unsafe"), .boolean, .int, .int, .int, .int, .int, .int, .int, .int, .int, .int, .int, .int, .int, .int, .int, .int, .int, (.object "jdk/internal/access/JavaLangAccess"), .int]
  resolved := Array.replicate 378 none
  statics := none }

def pool20 : Array CpInfo := pool [(1, .class_ 2), (0, u "java/lang/Cloneable"), (0, .class_ 4), (0, u "java/lang/Object")] 2

/-- java/lang/Cloneable -/
def k20 : Class := { plain "java/lang/Cloneable" (some 0) with
  accessFlags := 1537
  interfaces := #[]
  cf := some (fileOf pool20 1 #[] #[] 1537 3 #[] #[])
  fields := #[]
  methods := #[]
  instanceTypes := #[]
  staticTypes := #[]
  resolved := Array.replicate 7 none
  statics := none }

def pool21 : Array CpInfo := pool [(1, .class_ 2), (0, u "java/lang/String"), (1, .class_ 6), (1, u "java/lang/Object"), (0, u "<init>"), (0, u "()V"), (0, .methodref 1 10), (0, .nameAndType 11 12), (0, u "checkIndex"), (0, u "(II)V"), (1, .class_ 16), (1, u "java/lang/StringLatin1"), (0, u "inflate"), (2, .class_ 22), (1, u "java/lang/StringUTF16"), (3, .nameAndType 17 27), (0, u "([BI[BII)V"), (25, u "([BI)C"), (36, u "canEncode"), (14, u "(C)Z"), (15, u "$assertionsDisabled"), (0, u "Z"), (98, .class_ 223), (1, u "java/lang/StringLatin1$LinesSpliterator"), (16, .methodref 20 26), (11, u "charAt"), (127, u "toBytes"), (1, u "(C)[B"), (7, .class_ 391), (0, u "java/lang/StringLatin1$CharsSpliterator")] 3

def k21m0 : Method := { name := "<init>", desc := "()V", sig := { parameters := [], returnType := none }, accessFlags := 0, code := none }
def k21c1 : Code := { maxStack := 2, maxLocals := 2, code := jdk_43_method_2_code, exceptionTable := #[], attributes := #[] }
def k21m1 : Method := { name := "charAt", desc := "([BI)C", sig := { parameters := [(.array .byte), .int], returnType := some .char }, accessFlags := 9, code := some k21c1 }
def k21c2 : Code := { maxStack := 2, maxLocals := 1, code := jdk_43_method_3_code, exceptionTable := #[], attributes := #[] }
def k21m2 : Method := { name := "canEncode", desc := "(C)Z", sig := { parameters := [.char], returnType := some .boolean }, accessFlags := 9, code := some k21c2 }
def k21c3 : Code := { maxStack := 4, maxLocals := 1, code := jdk_43_method_46_code, exceptionTable := #[], attributes := #[] }
def k21m3 : Method := { name := "toBytes", desc := "(C)[B", sig := { parameters := [.char], returnType := some (.array .byte) }, accessFlags := 9, code := some k21c3 }
def k21c4 : Code := { maxStack := 5, maxLocals := 5, code := jdk_43_method_50_code, exceptionTable := #[], attributes := #[] }
def k21m4 : Method := { name := "inflate", desc := "([BI[BII)V", sig := { parameters := [(.array .byte), .int, (.array .byte), .int, .int], returnType := none }, accessFlags := 9, code := some k21c4 }
/-- java/lang/StringLatin1 -/
def k21 : Class := { plain "java/lang/StringLatin1" (some 0) with
  accessFlags := 48
  interfaces := #[]
  cf := some (fileOf pool21 14 #[.nestMembers #[390, 221]] #[{ accessFlags := 0, nameIndex := 7, descriptorIndex := 8, attributes := #[] }, { accessFlags := 9, nameIndex := 252, descriptorIndex := 53, attributes := #[] }, { accessFlags := 9, nameIndex := 90, descriptorIndex := 105, attributes := #[] }, { accessFlags := 9, nameIndex := 380, descriptorIndex := 382, attributes := #[] }, { accessFlags := 9, nameIndex := 17, descriptorIndex := 27, attributes := #[] }] 48 4 #[] #[{ accessFlags := 4120, nameIndex := 121, descriptorIndex := 122, attributes := #[] }])
  fields := #[{ name := "$assertionsDisabled", type := .boolean, accessFlags := 4120, slot := 0, constantValue := 0 }]
  methods := #[k21m0, k21m1, k21m2, k21m3, k21m4]
  instanceTypes := #[]
  staticTypes := #[.boolean]
  resolved := Array.replicate 395 none
  statics := none }

def pool22 : Array CpInfo := pool [(2, .class_ 4), (1, u "java/lang/Object"), (0, u "<init>"), (0, u "()V"), (17, .class_ 26), (1, u "jdk/internal/util/Preconditions"), (6, u "checkIndex"), (15, u "checkFromIndexSize"), (5, .class_ 56), (0, u "jdk/internal/util/Preconditions$4"), (57, .class_ 115), (0, u "jdk/internal/util/Preconditions$1"), (7, u "SIOOBE_FORMATTER"), (0, u "Ljava/util/function/BiFunction;"), (0, .class_ 126), (0, u "jdk/internal/util/Preconditions$2"), (3, u "AIOOBE_FORMATTER"), (0, .class_ 132), (0, u "jdk/internal/util/Preconditions$3"), (3, u "IOOBE_FORMATTER"), (41, u "(IILjava/util/function/BiFunction;)I"), (4, u "(IIILjava/util/function/BiFunction;)I")] 10

def k22m0 : Method := { name := "<init>", desc := "()V", sig := { parameters := [], returnType := none }, accessFlags := 1, code := none }
def k22c1 : Code := { maxStack := 3, maxLocals := 3, code := jdk_41_method_11_code, exceptionTable := #[], attributes := #[] }
def k22m1 : Method := { name := "checkIndex", desc := "(IILjava/util/function/BiFunction;)I", sig := { parameters := [.int, .int, (.object "java/util/function/BiFunction")], returnType := some .int }, accessFlags := 9, code := some k22c1 }
def k22c2 : Code := { maxStack := 4, maxLocals := 4, code := jdk_41_method_13_code, exceptionTable := #[], attributes := #[] }
def k22m2 : Method := { name := "checkFromIndexSize", desc := "(IIILjava/util/function/BiFunction;)I", sig := { parameters := [.int, .int, .int, (.object "java/util/function/BiFunction")], returnType := some .int }, accessFlags := 9, code := some k22c2 }
/-- jdk/internal/util/Preconditions -/
def k22 : Class := { plain "jdk/internal/util/Preconditions" (some 0) with
  accessFlags := 33
  interfaces := #[]
  cf := some (fileOf pool22 24 #[.nestMembers #[55, 131, 125, 114]] #[{ accessFlags := 1, nameIndex := 5, descriptorIndex := 6, attributes := #[] }, { accessFlags := 9, nameIndex := 33, descriptorIndex := 178, attributes := #[] }, { accessFlags := 9, nameIndex := 49, descriptorIndex := 183, attributes := #[] }] 33 2 #[] #[{ accessFlags := 25, nameIndex := 123, descriptorIndex := 124, attributes := #[] }, { accessFlags := 25, nameIndex := 130, descriptorIndex := 124, attributes := #[] }, { accessFlags := 25, nameIndex := 136, descriptorIndex := 124, attributes := #[] }])
  fields := #[{ name := "SIOOBE_FORMATTER", type := (.object "java/util/function/BiFunction"), accessFlags := 25, slot := 0, constantValue := 0 }, { name := "AIOOBE_FORMATTER", type := (.object "java/util/function/BiFunction"), accessFlags := 25, slot := 1, constantValue := 0 }, { name := "IOOBE_FORMATTER", type := (.object "java/util/function/BiFunction"), accessFlags := 25, slot := 2, constantValue := 0 }]
  methods := #[k22m0, k22m1, k22m2]
  instanceTypes := #[]
  staticTypes := #[(.object "java/util/function/BiFunction"), (.object "java/util/function/BiFunction"), (.object "java/util/function/BiFunction")]
  resolved := Array.replicate 194 none
  statics := some 2 }

def pool23 : Array CpInfo := pool [(3, .class_ 4), (0, u "java/lang/String"), (1, .class_ 8), (1, u "java/lang/Object"), (0, u "<init>"), (0, u "()V"), (0, .methodref 12 13), (0, .class_ 14), (0, .nameAndType 15 16), (0, u "java/lang/StringUTF16"), (0, u "newBytesLength"), (0, u "(I)I"), (3, .integer 1073741823), (23, .fieldref 12 45), (0, .nameAndType 46 47), (0, u "$assertionsDisabled"), (0, u "Z"), (0, .methodref 12 49), (0, .nameAndType 50 51), (0, u "length"), (0, u "([B)I"), (7, .fieldref 12 60), (0, .nameAndType 61 62), (0, u "HI_BYTE_SHIFT"), (0, u "I"), (0, .fieldref 12 64), (0, .nameAndType 65 62), (0, u "LO_BYTE_SHIFT"), (1, .methodref 12 68), (0, .nameAndType 69 70), (0, u "checkIndex"), (0, u "(I[B)V"), (0, .methodref 12 72), (0, .nameAndType 73 74), (0, u "getChar"), (0, u "([BI)C"), (24, u "(II[B)V"), (7, .methodref 12 108), (0, .nameAndType 109 110), (0, u "newBytesFor"), (0, u "(I)[B"), (0, .methodref 12 112), (0, .nameAndType 113 114), (0, u "putChar"), (0, u "([BII)V"), (0, .methodref 12 116), (0, .nameAndType 117 118), (0, u "compress"), (0, u "([CI[BII)I"), (0, .methodref 12 120), (0, .nameAndType 121 122), (0, u "toBytes"), (0, u "([CII)[B"), (17, u "inflate"), (0, u "([BI[BII)V"), (31, .methodref 12 174), (0, .nameAndType 175 99), (0, u "checkBoundsOffCount"), (85, u "coderFromArrayLen"), (0, u "([BI)B"), (18, u "(III)I"), (87, .class_ 371), (1, u "java/lang/StringUTF16$LinesSpliterator"), (20, u "charAt"), (21, .methodref 3 415), (0, .nameAndType 69 416), (0, u "(II)V"), (2, .methodref 3 420), (0, .nameAndType 175 281), (9, u "MAX_LENGTH"), (44, u "(C)[B"), (151, .class_ 628), (0, u "java/lang/StringUTF16$CodePointsSpliterator"), (0, .class_ 630), (0, u "java/lang/StringUTF16$CharsSpliterator")] 4

def k23m0 : Method := { name := "<init>", desc := "()V", sig := { parameters := [], returnType := none }, accessFlags := 0, code := none }
def k23c1 : Code := { maxStack := 1, maxLocals := 1, code := jdk_52_method_2_code, exceptionTable := #[], attributes := #[] }
def k23m1 : Method := { name := "newBytesFor", desc := "(I)[B", sig := { parameters := [.int], returnType := some (.array .byte) }, accessFlags := 9, code := some k23c1 }
def k23c2 : Code := { maxStack := 4, maxLocals := 1, code := jdk_52_method_3_code, exceptionTable := #[], attributes := #[] }
def k23m2 : Method := { name := "newBytesLength", desc := "(I)I", sig := { parameters := [.int], returnType := some .int }, accessFlags := 9, code := some k23c2 }
def k23c3 : Code := { maxStack := 4, maxLocals := 3, code := jdk_52_method_4_code, exceptionTable := #[], attributes := #[] }
def k23m3 : Method := { name := "putChar", desc := "([BII)V", sig := { parameters := [(.array .byte), .int, .int], returnType := none }, accessFlags := 8, code := some k23c3 }
def k23c4 : Code := { maxStack := 3, maxLocals := 2, code := jdk_52_method_5_code, exceptionTable := #[], attributes := #[] }
def k23m4 : Method := { name := "getChar", desc := "([BI)C", sig := { parameters := [(.array .byte), .int], returnType := some .char }, accessFlags := 8, code := some k23c4 }
def k23c5 : Code := { maxStack := 2, maxLocals := 1, code := jdk_52_method_6_code, exceptionTable := #[], attributes := #[] }
def k23m5 : Method := { name := "length", desc := "([B)I", sig := { parameters := [(.array .byte)], returnType := some .int }, accessFlags := 9, code := some k23c5 }
def k23c6 : Code := { maxStack := 4, maxLocals := 5, code := jdk_52_method_14_code, exceptionTable := #[], attributes := #[] }
def k23m6 : Method := { name := "toBytes", desc := "([CII)[B", sig := { parameters := [(.array .char), .int, .int], returnType := some (.array .byte) }, accessFlags := 9, code := some k23c6 }
def k23c7 : Code := { maxStack := 2, maxLocals := 2, code := jdk_52_method_15_code, exceptionTable := #[], attributes := #[] }
def k23m7 : Method := { name := "coderFromArrayLen", desc := "([BI)B", sig := { parameters := [(.array .byte), .int], returnType := some .byte }, accessFlags := 8, code := some k23c7 }
def k23c8 : Code := { maxStack := 5, maxLocals := 6, code := jdk_52_method_16_code, exceptionTable := #[], attributes := #[] }
def k23m8 : Method := { name := "compress", desc := "([CII)[B", sig := { parameters := [(.array .char), .int, .int], returnType := some (.array .byte) }, accessFlags := 9, code := some k23c8 }
def k23c9 : Code := { maxStack := 3, maxLocals := 7, code := jdk_52_method_21_code, exceptionTable := #[], attributes := #[] }
def k23m9 : Method := { name := "compress", desc := "([CI[BII)I", sig := { parameters := [(.array .char), .int, (.array .byte), .int, .int], returnType := some .int }, accessFlags := 9, code := some k23c9 }
def k23c10 : Code := { maxStack := 3, maxLocals := 2, code := jdk_52_method_24_code, exceptionTable := #[], attributes := #[] }
def k23m10 : Method := { name := "toBytes", desc := "(C)[B", sig := { parameters := [.char], returnType := some (.array .byte) }, accessFlags := 9, code := some k23c10 }
def k23c11 : Code := { maxStack := 2, maxLocals := 2, code := jdk_52_method_83_code, exceptionTable := #[], attributes := #[] }
def k23m11 : Method := { name := "charAt", desc := "([BI)C", sig := { parameters := [(.array .byte), .int], returnType := some .char }, accessFlags := 9, code := some k23c11 }
def k23c12 : Code := { maxStack := 4, maxLocals := 6, code := jdk_52_method_86_code, exceptionTable := #[], attributes := #[] }
def k23m12 : Method := { name := "inflate", desc := "([BI[BII)V", sig := { parameters := [(.array .byte), .int, (.array .byte), .int, .int], returnType := none }, accessFlags := 9, code := some k23c12 }
def k23c13 : Code := { maxStack := 2, maxLocals := 2, code := jdk_52_method_91_code, exceptionTable := #[], attributes := #[] }
def k23m13 : Method := { name := "checkIndex", desc := "(I[B)V", sig := { parameters := [.int, (.array .byte)], returnType := none }, accessFlags := 9, code := some k23c13 }
def k23c14 : Code := { maxStack := 3, maxLocals := 3, code := jdk_52_method_94_code, exceptionTable := #[], attributes := #[] }
def k23m14 : Method := { name := "checkBoundsOffCount", desc := "(II[B)V", sig := { parameters := [.int, .int, (.array .byte)], returnType := none }, accessFlags := 9, code := some k23c14 }
/-- java/lang/StringUTF16 -/
def k23 : Class := { plain "java/lang/StringUTF16" (some 0) with
  accessFlags := 48
  interfaces := #[]
  cf := some (fileOf pool23 12 #[.nestMembers #[627, 629, 369]] #[{ accessFlags := 0, nameIndex := 9, descriptorIndex := 10, attributes := #[] }, { accessFlags := 9, nameIndex := 109, descriptorIndex := 110, attributes := #[] }, { accessFlags := 9, nameIndex := 15, descriptorIndex := 16, attributes := #[] }, { accessFlags := 8, nameIndex := 113, descriptorIndex := 114, attributes := #[] }, { accessFlags := 8, nameIndex := 73, descriptorIndex := 74, attributes := #[] }, { accessFlags := 9, nameIndex := 50, descriptorIndex := 51, attributes := #[] }, { accessFlags := 9, nameIndex := 121, descriptorIndex := 122, attributes := #[] }, { accessFlags := 8, nameIndex := 261, descriptorIndex := 262, attributes := #[] }, { accessFlags := 9, nameIndex := 117, descriptorIndex := 122, attributes := #[] }, { accessFlags := 9, nameIndex := 117, descriptorIndex := 118, attributes := #[] }, { accessFlags := 9, nameIndex := 121, descriptorIndex := 475, attributes := #[] }, { accessFlags := 9, nameIndex := 392, descriptorIndex := 74, attributes := #[] }, { accessFlags := 9, nameIndex := 140, descriptorIndex := 141, attributes := #[] }, { accessFlags := 9, nameIndex := 69, descriptorIndex := 70, attributes := #[] }, { accessFlags := 9, nameIndex := 175, descriptorIndex := 99, attributes := #[] }] 48 6 #[] #[{ accessFlags := 26, nameIndex := 61, descriptorIndex := 62, attributes := #[] }, { accessFlags := 26, nameIndex := 65, descriptorIndex := 62, attributes := #[] }, { accessFlags := 24, nameIndex := 430, descriptorIndex := 62, attributes := #[] }, { accessFlags := 4120, nameIndex := 46, descriptorIndex := 47, attributes := #[] }])
  fields := #[{ name := "HI_BYTE_SHIFT", type := .int, accessFlags := 26, slot := 0, constantValue := 0 }, { name := "LO_BYTE_SHIFT", type := .int, accessFlags := 26, slot := 1, constantValue := 0 }, { name := "MAX_LENGTH", type := .int, accessFlags := 24, slot := 2, constantValue := 0 }, { name := "$assertionsDisabled", type := .boolean, accessFlags := 4120, slot := 3, constantValue := 0 }]
  methods := #[k23m0, k23m1, k23m2, k23m3, k23m4, k23m5, k23m6, k23m7, k23m8, k23m9, k23m10, k23m11, k23m12, k23m13, k23m14]
  instanceTypes := #[]
  staticTypes := #[.int, .int, .int, .boolean]
  resolved := Array.replicate 635 none
  statics := some 3 }

/-- the primitive byte -/
def k24 : Class := { plain "byte" none with kind := .primitive 'B', accessFlags := 0x411 }
/-- [B -/
def k25 : Class := { plain "[B" (some 0) with kind := .array 24 .byte, interfaces := #[20, 2], accessFlags := 1041 }

/-- the primitive char -/
def k26 : Class := { plain "char" none with kind := .primitive 'C', accessFlags := 0x411 }
/-- [C -/
def k27 : Class := { plain "[C" (some 0) with kind := .array 26 .char, interfaces := #[20, 2], accessFlags := 1041 }

/-- the primitive int -/
def k28 : Class := { plain "int" none with kind := .primitive 'I', accessFlags := 0x411 }
/-- [I -/
def k29 : Class := { plain "[I" (some 0) with kind := .array 28 .int, interfaces := #[20, 2], accessFlags := 1041 }

def heap : Heap := #[{ cls := 7, slots := #[.long 0, .int 1, .null, .int 0, .null, .int 0, .int 0], vm := .statics 7 },
  { cls := 15, slots := #[.null, .null, .null, .ref 4, .null, .null, .null, .null, .null, .null, .null, .null, .null, .null], vm := .statics 15 },
  { cls := 22, slots := #[.null, .null, .null], vm := .statics 22 },
  { cls := 23, slots := #[.int 0, .int 8, .int 0, .int 1], vm := .statics 23 },
  { cls := 15, slots := #[.null, .int 3, .int 0, .ref 5, .ref 7], vm := .none },
  { cls := 7, slots := #[.ref 6, .int 0, .int 0, .int 0], vm := .none },
  { cls := 25, slots := #[.int 102, .int 97, .int 99, .int 105, .int 108, .int 105, .int 116, .int 121], vm := .none },
  { cls := 7, slots := #[.ref 8, .int 0, .int 0, .int 0], vm := .none },
  { cls := 25, slots := #[.int 105, .int 100], vm := .none }]
def classes : Array Class := #[k0, k1, k2, k3, k4, k5, k6, k7, k8, k9, k10, k11, k12, k13, k14, k15, k16, k17, k18, k19, k20, k21, k22, k23, k24, k25, k26, k27, k28, k29]
def interned : List (Array UInt16 × Addr) := []
def slotsUsed : Nat := 51
def theMethod : MethodId := ⟨1, 1⟩
def args0 : Array Value := #[.int 5, .int 65, .int 66, .int 67]
def aboutOver (below : List Frame) : State where
  vm := { classes := classes, interned := interned.toArray }
  heap := heap
  slotsUsed := slotsUsed
  threads := #[{ frames := .invoking theMethod args0 :: below }]
def below0 : List Frame := [.native { method := ⟨0, 0⟩, args := #[] }]
def about1 : State := aboutOver below0
def p0 : Program := .bare "" "" ""
def e0 : Env := launch0.env 0 0 0
theorem w_frames : about1.frames = Frame.invoking theMethod args0 :: below0 := rfl
set_option maxRecDepth 65536 in
theorem w_args : argsFit about1.vm theMethod args0 = true := by decide +kernel
set_option maxRecDepth 65536 in
theorem w_heap : heapFits about1 = true := by decide +kernel
set_option maxRecDepth 65536 in
theorem w_runnable : about1.curStatus? = some .runnable := by decide +kernel
set_option maxRecDepth 65536 in
theorem w_alone : about1.alone = true := by decide +kernel
set_option maxRecDepth 65536 in
theorem w_named : about1.methodNamed? x = some theMethod := by decide +kernel
set_option maxRecDepth 65536 in
theorem w_hears : about1.hears theMethod below0 = true := by decide +kernel
set_option maxRecDepth 65536 in
theorem w_ripe : about1.ripe theMethod args0 below0 = true := by decide +kernel
theorem w_running : about1.status = .running := rfl
set_option maxRecDepth 65536 in
theorem w_room : about1.hasRoom e0.platform room_1 = true :=
  launch0.hasRoom_least _ room_1 (by decide +kernel) (by decide +kernel) (by decide +kernel) (by decide +kernel) (by decide +kernel) (by decide +kernel)
theorem allAtoms_all (ts : List Jvm.Cond) (a : Array Jvm.Value) (st : Jvm.State) : (allAtoms ts).before a st = ts.all (fun c => c.before a st) := by
  induction ts with
  | nil => rfl
  | cons c t ih =>
    show (Jvm.Cond.and c (allAtoms t)).before a st = _
    rw [Jvm.Cond.before_and, ih, List.all_cons]
def words1 : List Jvm.Cond := Jvm.Cond.code x code maxLocals ret :: tables_1
/-- a 'code' word, met by the world's own term for the bytes: nothing is compared byte by byte -/
theorem code_word {y : MethodName} {bytes : ByteArray} {mx : Nat} {rt : Option FieldType} {a : Array Value} {s : State} {m : MethodId} {meth : Method} {c : Code} (h1 : s.methodNamed? y = some m) (h2 : s.vm.method? m = some meth) (h3 : meth.code = some c) (h4 : c.code = bytes)
    (h5 : (c.maxLocals == mx && c.exceptionTable.isEmpty && decide (c.maxStack ≤ mostOperands) && decide (meth.sig.returnType = rt) && !meth.locks && decide (parseMethodDescriptor y.desc = some meth.sig)) = true) : (Jvm.Cond.code y bytes mx rt).before a s = true := by
  simp only [Bool.and_eq_true, beq_iff_eq, Bool.not_eq_true', decide_eq_true_eq] at h5
  obtain ⟨⟨⟨⟨⟨g1, g2⟩, g3⟩, g4⟩, g5⟩, g6⟩ := h5
  simp [Cond.before, Cond.holds, Cond.value, h1, h2, h3, h4, g1, g2, g3, g4, g5, g6]
def isCode : Jvm.Cond → Bool
  | .code _ _ _ _ => true
  | _ => false
theorem all_split {L : List Jvm.Cond} {P : Jvm.Cond → Bool} (h1 : L.all (fun c => isCode c || P c) = true) (h2 : ∀ c ∈ L.filter isCode, P c = true) : L.all P = true := by
  refine List.all_eq_true.mpr fun c hc => ?_
  have h := List.all_eq_true.mp h1 c hc
  rcases Bool.eq_false_or_eq_true (isCode c) with hi | hi
  · exact h2 c (List.mem_filter.mpr ⟨hc, hi⟩)
  · simpa [hi] using h
set_option maxRecDepth 65536 in
theorem w_c0 : (Jvm.Cond.code x code maxLocals ret).before args0 about1 = true := code_word (m := ⟨1, 1⟩) (meth := k1m1) (c := k1c1) (by decide +kernel) rfl rfl rfl (by decide +kernel)
set_option maxRecDepth 65536 in
theorem w_c1 : (Jvm.Cond.code ({ cls := "java/lang/String", name := "<init>", desc := "([C)V" } : Jvm.MethodName) jdk_42_method_3_code (2 : Nat) (Option.none : Option Jvm.ClassFile.FieldType)).before args0 about1 = true := code_word (m := ⟨7, 1⟩) (meth := k7m1) (c := k7c1) (by decide +kernel) rfl rfl rfl (by decide +kernel)
set_option maxRecDepth 65536 in
theorem w_c2 : (Jvm.Cond.code ({ cls := "java/lang/String", name := "<init>", desc := "([CIILjava/lang/Void;)V" } : Jvm.MethodName) jdk_42_method_149_code (6 : Nat) (Option.none : Option Jvm.ClassFile.FieldType)).before args0 about1 = true := code_word (m := ⟨7, 8⟩) (meth := k7m8) (c := k7c8) (by decide +kernel) rfl rfl rfl (by decide +kernel)
set_option maxRecDepth 65536 in
theorem w_c3 : (Jvm.Cond.code ({ cls := "java/lang/Object", name := "<init>", desc := "()V" } : Jvm.MethodName) object_method_1_code (1 : Nat) (Option.none : Option Jvm.ClassFile.FieldType)).before args0 about1 = true := code_word (m := ⟨0, 0⟩) (meth := k0m0) (c := k0c0) (by decide +kernel) rfl rfl rfl (by decide +kernel)
set_option maxRecDepth 65536 in
theorem w_c4 : (Jvm.Cond.code ({ cls := "com/example/tenorbook/tenorbook/terms/Agreement", name := "namesTwoFacilities", desc := "(Ljava/lang/String;)Ljava/lang/String;" } : Jvm.MethodName) prog_49_method_2_code (1 : Nat) (Option.some (Jvm.ClassFile.FieldType.object "java/lang/String"))).before args0 about1 = true := code_word (m := ⟨9, 0⟩) (meth := k9m0) (c := k9c0) (by decide +kernel) rfl rfl rfl (by decide +kernel)
set_option maxRecDepth 65536 in
theorem w_c5 : (Jvm.Cond.code ({ cls := "java/lang/StringBuilder", name := "<init>", desc := "()V" } : Jvm.MethodName) jdk_67_method_1_code (1 : Nat) (Option.none : Option Jvm.ClassFile.FieldType)).before args0 about1 = true := code_word (m := ⟨12, 0⟩) (meth := k12m0) (c := k12c0) (by decide +kernel) rfl rfl rfl (by decide +kernel)
set_option maxRecDepth 65536 in
theorem w_c6 : (Jvm.Cond.code ({ cls := "java/lang/AbstractStringBuilder", name := "<init>", desc := "(I)V" } : Jvm.MethodName) jdk_68_method_2_code (2 : Nat) (Option.none : Option Jvm.ClassFile.FieldType)).before args0 about1 = true := code_word (m := ⟨11, 1⟩) (meth := k11m1) (c := k11c1) (by decide +kernel) rfl rfl rfl (by decide +kernel)
set_option maxRecDepth 65536 in
theorem w_c7 : (Jvm.Cond.code ({ cls := "java/lang/StringBuilder", name := "append", desc := "(Ljava/lang/Object;)Ljava/lang/StringBuilder;" } : Jvm.MethodName) jdk_67_method_6_code (2 : Nat) (Option.some (Jvm.ClassFile.FieldType.object "java/lang/StringBuilder"))).before args0 about1 = true := code_word (m := ⟨12, 1⟩) (meth := k12m1) (c := k12c1) (by decide +kernel) rfl rfl rfl (by decide +kernel)
set_option maxRecDepth 65536 in
theorem w_c8 : (Jvm.Cond.code ({ cls := "java/lang/String", name := "valueOf", desc := "(Ljava/lang/Object;)Ljava/lang/String;" } : Jvm.MethodName) jdk_42_method_133_code (1 : Nat) (Option.some (Jvm.ClassFile.FieldType.object "java/lang/String"))).before args0 about1 = true := code_word (m := ⟨7, 5⟩) (meth := k7m5) (c := k7c5) (by decide +kernel) rfl rfl rfl (by decide +kernel)
set_option maxRecDepth 65536 in
theorem w_c9 : (Jvm.Cond.code ({ cls := "com/example/tenorbook/tenorbook/terms/AgreementTerm", name := "toString", desc := "()Ljava/lang/String;" } : Jvm.MethodName) prog_51_method_6_code (1 : Nat) (Option.some (Jvm.ClassFile.FieldType.object "java/lang/String"))).before args0 about1 = true := code_word (m := ⟨15, 0⟩) (meth := k15m0) (c := k15c0) (by decide +kernel) rfl rfl rfl (by decide +kernel)
set_option maxRecDepth 65536 in
theorem w_c10 : (Jvm.Cond.code ({ cls := "java/lang/StringBuilder", name := "append", desc := "(Ljava/lang/String;)Ljava/lang/StringBuilder;" } : Jvm.MethodName) jdk_67_method_7_code (2 : Nat) (Option.some (Jvm.ClassFile.FieldType.object "java/lang/StringBuilder"))).before args0 about1 = true := code_word (m := ⟨12, 2⟩) (meth := k12m2) (c := k12c2) (by decide +kernel) rfl rfl rfl (by decide +kernel)
set_option maxRecDepth 65536 in
theorem w_c11 : (Jvm.Cond.code ({ cls := "java/lang/AbstractStringBuilder", name := "append", desc := "(Ljava/lang/String;)Ljava/lang/AbstractStringBuilder;" } : Jvm.MethodName) jdk_68_method_22_code (3 : Nat) (Option.some (Jvm.ClassFile.FieldType.object "java/lang/AbstractStringBuilder"))).before args0 about1 = true := code_word (m := ⟨11, 6⟩) (meth := k11m6) (c := k11c6) (by decide +kernel) rfl rfl rfl (by decide +kernel)
set_option maxRecDepth 65536 in
theorem w_c12 : (Jvm.Cond.code ({ cls := "java/lang/String", name := "length", desc := "()I" } : Jvm.MethodName) jdk_42_method_54_code (1 : Nat) (Option.some Jvm.ClassFile.FieldType.int)).before args0 about1 = true := code_word (m := ⟨7, 3⟩) (meth := k7m3) (c := k7c3) (by decide +kernel) rfl rfl rfl (by decide +kernel)
set_option maxRecDepth 65536 in
theorem w_c13 : (Jvm.Cond.code ({ cls := "java/lang/String", name := "coder", desc := "()B" } : Jvm.MethodName) jdk_42_method_152_code (1 : Nat) (Option.some Jvm.ClassFile.FieldType.byte)).before args0 about1 = true := code_word (m := ⟨7, 11⟩) (meth := k7m11) (c := k7c11) (by decide +kernel) rfl rfl rfl (by decide +kernel)
set_option maxRecDepth 65536 in
theorem w_c14 : (Jvm.Cond.code ({ cls := "java/lang/AbstractStringBuilder", name := "ensureCapacityInternal", desc := "(I)V" } : Jvm.MethodName) jdk_68_method_9_code (3 : Nat) (Option.none : Option Jvm.ClassFile.FieldType)).before args0 about1 = true := code_word (m := ⟨11, 3⟩) (meth := k11m3) (c := k11c3) (by decide +kernel) rfl rfl rfl (by decide +kernel)
set_option maxRecDepth 65536 in
theorem w_c15 : (Jvm.Cond.code ({ cls := "java/lang/AbstractStringBuilder", name := "putStringAt", desc := "(ILjava/lang/String;)V" } : Jvm.MethodName) jdk_68_method_73_code (3 : Nat) (Option.none : Option Jvm.ClassFile.FieldType)).before args0 about1 = true := code_word (m := ⟨11, 10⟩) (meth := k11m10) (c := k11c10) (by decide +kernel) rfl rfl rfl (by decide +kernel)
set_option maxRecDepth 65536 in
theorem w_c16 : (Jvm.Cond.code ({ cls := "java/lang/AbstractStringBuilder", name := "inflateIfNeededFor", desc := "(Ljava/lang/String;)V" } : Jvm.MethodName) jdk_68_method_71_code (2 : Nat) (Option.none : Option Jvm.ClassFile.FieldType)).before args0 about1 = true := code_word (m := ⟨11, 9⟩) (meth := k11m9) (c := k11c9) (by decide +kernel) rfl rfl rfl (by decide +kernel)
set_option maxRecDepth 65536 in
theorem w_c17 : (Jvm.Cond.code ({ cls := "java/lang/String", name := "getBytes", desc := "([BIB)V" } : Jvm.MethodName) jdk_42_method_147_code (4 : Nat) (Option.none : Option Jvm.ClassFile.FieldType)).before args0 about1 = true := code_word (m := ⟨7, 7⟩) (meth := k7m7) (c := k7c7) (by decide +kernel) rfl rfl rfl (by decide +kernel)
set_option maxRecDepth 65536 in
theorem w_c18 : (Jvm.Cond.code ({ cls := "java/lang/StringBuilder", name := "toString", desc := "()Ljava/lang/String;" } : Jvm.MethodName) jdk_67_method_42_code (1 : Nat) (Option.some (Jvm.ClassFile.FieldType.object "java/lang/String"))).before args0 about1 = true := code_word (m := ⟨12, 3⟩) (meth := k12m3) (c := k12c3) (by decide +kernel) rfl rfl rfl (by decide +kernel)
set_option maxRecDepth 65536 in
theorem w_c19 : (Jvm.Cond.code ({ cls := "java/lang/String", name := "<init>", desc := "(Ljava/lang/StringBuilder;)V" } : Jvm.MethodName) jdk_42_method_53_code (2 : Nat) (Option.none : Option Jvm.ClassFile.FieldType)).before args0 about1 = true := code_word (m := ⟨7, 2⟩) (meth := k7m2) (c := k7c2) (by decide +kernel) rfl rfl rfl (by decide +kernel)
set_option maxRecDepth 65536 in
theorem w_c20 : (Jvm.Cond.code ({ cls := "java/lang/String", name := "<init>", desc := "(Ljava/lang/AbstractStringBuilder;Ljava/lang/Void;)V" } : Jvm.MethodName) jdk_42_method_150_code (5 : Nat) (Option.none : Option Jvm.ClassFile.FieldType)).before args0 about1 = true := code_word (m := ⟨7, 9⟩) (meth := k7m9) (c := k7c9) (by decide +kernel) rfl rfl rfl (by decide +kernel)
set_option maxRecDepth 65536 in
theorem w_c21 : (Jvm.Cond.code ({ cls := "java/lang/AbstractStringBuilder", name := "getValue", desc := "()[B" } : Jvm.MethodName) jdk_68_method_64_code (1 : Nat) (Option.some (Jvm.ClassFile.FieldType.array Jvm.ClassFile.FieldType.byte))).before args0 about1 = true := code_word (m := ⟨11, 7⟩) (meth := k11m7) (c := k11c7) (by decide +kernel) rfl rfl rfl (by decide +kernel)
set_option maxRecDepth 65536 in
theorem w_c22 : (Jvm.Cond.code ({ cls := "java/lang/StringBuilder", name := "length", desc := "()I" } : Jvm.MethodName) jdk_67_method_93_code (1 : Nat) (Option.some Jvm.ClassFile.FieldType.int)).before args0 about1 = true := code_word (m := ⟨12, 4⟩) (meth := k12m4) (c := k12c4) (by decide +kernel) rfl rfl rfl (by decide +kernel)
set_option maxRecDepth 65536 in
theorem w_c23 : (Jvm.Cond.code ({ cls := "java/lang/AbstractStringBuilder", name := "length", desc := "()I" } : Jvm.MethodName) jdk_68_method_6_code (1 : Nat) (Option.some Jvm.ClassFile.FieldType.int)).before args0 about1 = true := code_word (m := ⟨11, 2⟩) (meth := k11m2) (c := k11c2) (by decide +kernel) rfl rfl rfl (by decide +kernel)
set_option maxRecDepth 65536 in
theorem w_c24 : (Jvm.Cond.code ({ cls := "java/lang/AbstractStringBuilder", name := "isLatin1", desc := "()Z" } : Jvm.MethodName) jdk_68_method_68_code (1 : Nat) (Option.some Jvm.ClassFile.FieldType.boolean)).before args0 about1 = true := code_word (m := ⟨11, 8⟩) (meth := k11m8) (c := k11c8) (by decide +kernel) rfl rfl rfl (by decide +kernel)
set_option maxRecDepth 65536 in
theorem w_c25 : (Jvm.Cond.code ({ cls := "java/util/Arrays", name := "copyOfRange", desc := "([BII)[B" } : Jvm.MethodName) jdk_65_method_132_code (3 : Nat) (Option.some (Jvm.ClassFile.FieldType.array Jvm.ClassFile.FieldType.byte))).before args0 about1 = true := code_word (m := ⟨17, 3⟩) (meth := k17m3) (c := k17c3) (by decide +kernel) rfl rfl rfl (by decide +kernel)
set_option maxRecDepth 65536 in
theorem w_c26 : (Jvm.Cond.code ({ cls := "java/util/Arrays", name := "copyOfRangeByte", desc := "([BII)[B" } : Jvm.MethodName) jdk_65_method_133_code (5 : Nat) (Option.some (Jvm.ClassFile.FieldType.array Jvm.ClassFile.FieldType.byte))).before args0 about1 = true := code_word (m := ⟨17, 4⟩) (meth := k17m4) (c := k17c4) (by decide +kernel) rfl rfl rfl (by decide +kernel)
set_option maxRecDepth 65536 in
theorem w_c27 : (Jvm.Cond.code ({ cls := "java/util/Arrays", name := "checkLength", desc := "(II)V" } : Jvm.MethodName) jdk_65_method_131_code (2 : Nat) (Option.none : Option Jvm.ClassFile.FieldType)).before args0 about1 = true := code_word (m := ⟨17, 2⟩) (meth := k17m2) (c := k17c2) (by decide +kernel) rfl rfl rfl (by decide +kernel)
set_option maxRecDepth 65536 in
theorem w_c28 : (Jvm.Cond.code ({ cls := "java/lang/Math", name := "min", desc := "(II)I" } : Jvm.MethodName) jdk_29_method_69_code (2 : Nat) (Option.some Jvm.ClassFile.FieldType.int)).before args0 about1 = true := code_word (m := ⟨18, 2⟩) (meth := k18m2) (c := k18c2) (by decide +kernel) rfl rfl rfl (by decide +kernel)
set_option maxRecDepth 65536 in
theorem w_c29 : (Jvm.Cond.code ({ cls := "java/lang/AbstractStringBuilder", name := "newCapacity", desc := "(I)I" } : Jvm.MethodName) jdk_68_method_10_code (6 : Nat) (Option.some Jvm.ClassFile.FieldType.int)).before args0 about1 = true := code_word (m := ⟨11, 4⟩) (meth := k11m4) (c := k11c4) (by decide +kernel) rfl rfl rfl (by decide +kernel)
set_option maxRecDepth 65536 in
theorem w_c30 : (Jvm.Cond.code ({ cls := "jdk/internal/util/ArraysSupport", name := "newLength", desc := "(III)I" } : Jvm.MethodName) jdk_48_method_27_code (4 : Nat) (Option.some Jvm.ClassFile.FieldType.int)).before args0 about1 = true := code_word (m := ⟨19, 1⟩) (meth := k19m1) (c := k19c1) (by decide +kernel) rfl rfl rfl (by decide +kernel)
set_option maxRecDepth 65536 in
theorem w_c31 : (Jvm.Cond.code ({ cls := "java/lang/Math", name := "max", desc := "(II)I" } : Jvm.MethodName) jdk_29_method_65_code (2 : Nat) (Option.some Jvm.ClassFile.FieldType.int)).before args0 about1 = true := code_word (m := ⟨18, 1⟩) (meth := k18m1) (c := k18c1) (by decide +kernel) rfl rfl rfl (by decide +kernel)
set_option maxRecDepth 65536 in
theorem w_c32 : (Jvm.Cond.code ({ cls := "java/util/Arrays", name := "copyOf", desc := "([BI)[B" } : Jvm.MethodName) jdk_65_method_121_code (3 : Nat) (Option.some (Jvm.ClassFile.FieldType.array Jvm.ClassFile.FieldType.byte))).before args0 about1 = true := code_word (m := ⟨17, 1⟩) (meth := k17m1) (c := k17c1) (by decide +kernel) rfl rfl rfl (by decide +kernel)
set_option maxRecDepth 65536 in
theorem w_c33 : (Jvm.Cond.code ({ cls := "com/example/tenorbook/tenorbook/terms/AgreementNamesTwoFacilitiesPinLaw", name := "prefix", desc := "(Ljava/lang/String;)Z" } : Jvm.MethodName) method_3_code (1 : Nat) (Option.some Jvm.ClassFile.FieldType.boolean)).before args0 about1 = true := code_word (m := ⟨1, 2⟩) (meth := k1m2) (c := k1c2) (by decide +kernel) rfl rfl rfl (by decide +kernel)
set_option maxRecDepth 65536 in
theorem w_c34 : (Jvm.Cond.code ({ cls := "java/lang/String", name := "charAt", desc := "(I)C" } : Jvm.MethodName) jdk_42_method_56_code (2 : Nat) (Option.some Jvm.ClassFile.FieldType.char)).before args0 about1 = true := code_word (m := ⟨7, 4⟩) (meth := k7m4) (c := k7c4) (by decide +kernel) rfl rfl rfl (by decide +kernel)
set_option maxRecDepth 65536 in
theorem w_c35 : (Jvm.Cond.code ({ cls := "java/lang/String", name := "isLatin1", desc := "()Z" } : Jvm.MethodName) jdk_42_method_154_code (1 : Nat) (Option.some Jvm.ClassFile.FieldType.boolean)).before args0 about1 = true := code_word (m := ⟨7, 12⟩) (meth := k7m12) (c := k7c12) (by decide +kernel) rfl rfl rfl (by decide +kernel)
set_option maxRecDepth 65536 in
theorem w_c36 : (Jvm.Cond.code ({ cls := "java/lang/StringLatin1", name := "charAt", desc := "([BI)C" } : Jvm.MethodName) jdk_43_method_2_code (2 : Nat) (Option.some Jvm.ClassFile.FieldType.char)).before args0 about1 = true := code_word (m := ⟨21, 1⟩) (meth := k21m1) (c := k21c1) (by decide +kernel) rfl rfl rfl (by decide +kernel)
set_option maxRecDepth 65536 in
theorem w_c37 : (Jvm.Cond.code ({ cls := "java/lang/String", name := "checkIndex", desc := "(II)V" } : Jvm.MethodName) jdk_42_method_155_code (2 : Nat) (Option.none : Option Jvm.ClassFile.FieldType)).before args0 about1 = true := code_word (m := ⟨7, 13⟩) (meth := k7m13) (c := k7c13) (by decide +kernel) rfl rfl rfl (by decide +kernel)
set_option maxRecDepth 65536 in
theorem w_c38 : (Jvm.Cond.code ({ cls := "jdk/internal/util/Preconditions", name := "checkIndex", desc := "(IILjava/util/function/BiFunction;)I" } : Jvm.MethodName) jdk_41_method_11_code (3 : Nat) (Option.some Jvm.ClassFile.FieldType.int)).before args0 about1 = true := code_word (m := ⟨22, 1⟩) (meth := k22m1) (c := k22c1) (by decide +kernel) rfl rfl rfl (by decide +kernel)
set_option maxRecDepth 65536 in
theorem w_c39 : (Jvm.Cond.code ({ cls := "com/example/tenorbook/tenorbook/terms/AgreementNamesTwoFacilitiesPinLaw", name := "suffix", desc := "(Ljava/lang/String;I)Z" } : Jvm.MethodName) method_4_code (2 : Nat) (Option.some Jvm.ClassFile.FieldType.boolean)).before args0 about1 = true := code_word (m := ⟨1, 3⟩) (meth := k1m3) (c := k1c3) (by decide +kernel) rfl rfl rfl (by decide +kernel)
set_option maxRecDepth 65536 in
theorem w_c40 : (Jvm.Cond.code ({ cls := "java/lang/StringUTF16", name := "compress", desc := "([CII)[B" } : Jvm.MethodName) jdk_52_method_16_code (6 : Nat) (Option.some (Jvm.ClassFile.FieldType.array Jvm.ClassFile.FieldType.byte))).before args0 about1 = true := code_word (m := ⟨23, 8⟩) (meth := k23m8) (c := k23c8) (by decide +kernel) rfl rfl rfl (by decide +kernel)
set_option maxRecDepth 65536 in
theorem w_c41 : (Jvm.Cond.code ({ cls := "java/lang/StringUTF16", name := "compress", desc := "([CI[BII)I" } : Jvm.MethodName) jdk_52_method_21_code (7 : Nat) (Option.some Jvm.ClassFile.FieldType.int)).before args0 about1 = true := code_word (m := ⟨23, 9⟩) (meth := k23m9) (c := k23c9) (by decide +kernel) rfl rfl rfl (by decide +kernel)
set_option maxRecDepth 65536 in
theorem w_c42 : (Jvm.Cond.code ({ cls := "java/lang/StringUTF16", name := "coderFromArrayLen", desc := "([BI)B" } : Jvm.MethodName) jdk_52_method_15_code (2 : Nat) (Option.some Jvm.ClassFile.FieldType.byte)).before args0 about1 = true := code_word (m := ⟨23, 7⟩) (meth := k23m7) (c := k23c7) (by decide +kernel) rfl rfl rfl (by decide +kernel)
set_option maxRecDepth 65536 in
theorem w_c43 : (Jvm.Cond.code ({ cls := "java/lang/StringUTF16", name := "toBytes", desc := "([CII)[B" } : Jvm.MethodName) jdk_52_method_14_code (5 : Nat) (Option.some (Jvm.ClassFile.FieldType.array Jvm.ClassFile.FieldType.byte))).before args0 about1 = true := code_word (m := ⟨23, 6⟩) (meth := k23m6) (c := k23c6) (by decide +kernel) rfl rfl rfl (by decide +kernel)
set_option maxRecDepth 65536 in
theorem w_c44 : (Jvm.Cond.code ({ cls := "java/lang/StringUTF16", name := "newBytesFor", desc := "(I)[B" } : Jvm.MethodName) jdk_52_method_2_code (1 : Nat) (Option.some (Jvm.ClassFile.FieldType.array Jvm.ClassFile.FieldType.byte))).before args0 about1 = true := code_word (m := ⟨23, 1⟩) (meth := k23m1) (c := k23c1) (by decide +kernel) rfl rfl rfl (by decide +kernel)
set_option maxRecDepth 65536 in
theorem w_c45 : (Jvm.Cond.code ({ cls := "java/lang/StringUTF16", name := "newBytesLength", desc := "(I)I" } : Jvm.MethodName) jdk_52_method_3_code (1 : Nat) (Option.some Jvm.ClassFile.FieldType.int)).before args0 about1 = true := code_word (m := ⟨23, 2⟩) (meth := k23m2) (c := k23c2) (by decide +kernel) rfl rfl rfl (by decide +kernel)
set_option maxRecDepth 65536 in
theorem w_c46 : (Jvm.Cond.code ({ cls := "java/lang/StringUTF16", name := "putChar", desc := "([BII)V" } : Jvm.MethodName) jdk_52_method_4_code (3 : Nat) (Option.none : Option Jvm.ClassFile.FieldType)).before args0 about1 = true := code_word (m := ⟨23, 3⟩) (meth := k23m3) (c := k23c3) (by decide +kernel) rfl rfl rfl (by decide +kernel)
set_option maxRecDepth 65536 in
theorem w_c47 : (Jvm.Cond.code ({ cls := "java/lang/StringUTF16", name := "getChar", desc := "([BI)C" } : Jvm.MethodName) jdk_52_method_5_code (2 : Nat) (Option.some Jvm.ClassFile.FieldType.char)).before args0 about1 = true := code_word (m := ⟨23, 4⟩) (meth := k23m4) (c := k23c4) (by decide +kernel) rfl rfl rfl (by decide +kernel)
set_option maxRecDepth 65536 in
theorem w_c48 : (Jvm.Cond.code ({ cls := "java/lang/AbstractStringBuilder", name := "inflate", desc := "()V" } : Jvm.MethodName) jdk_68_method_11_code (2 : Nat) (Option.none : Option Jvm.ClassFile.FieldType)).before args0 about1 = true := code_word (m := ⟨11, 5⟩) (meth := k11m5) (c := k11c5) (by decide +kernel) rfl rfl rfl (by decide +kernel)
set_option maxRecDepth 65536 in
theorem w_c49 : (Jvm.Cond.code ({ cls := "java/lang/StringLatin1", name := "inflate", desc := "([BI[BII)V" } : Jvm.MethodName) jdk_43_method_50_code (5 : Nat) (Option.none : Option Jvm.ClassFile.FieldType)).before args0 about1 = true := code_word (m := ⟨21, 4⟩) (meth := k21m4) (c := k21c4) (by decide +kernel) rfl rfl rfl (by decide +kernel)
set_option maxRecDepth 65536 in
theorem w_c50 : (Jvm.Cond.code ({ cls := "java/lang/StringUTF16", name := "inflate", desc := "([BI[BII)V" } : Jvm.MethodName) jdk_52_method_86_code (6 : Nat) (Option.none : Option Jvm.ClassFile.FieldType)).before args0 about1 = true := code_word (m := ⟨23, 12⟩) (meth := k23m12) (c := k23c12) (by decide +kernel) rfl rfl rfl (by decide +kernel)
set_option maxRecDepth 65536 in
theorem w_c51 : (Jvm.Cond.code ({ cls := "java/lang/StringUTF16", name := "checkBoundsOffCount", desc := "(II[B)V" } : Jvm.MethodName) jdk_52_method_94_code (3 : Nat) (Option.none : Option Jvm.ClassFile.FieldType)).before args0 about1 = true := code_word (m := ⟨23, 14⟩) (meth := k23m14) (c := k23c14) (by decide +kernel) rfl rfl rfl (by decide +kernel)
set_option maxRecDepth 65536 in
theorem w_c52 : (Jvm.Cond.code ({ cls := "java/lang/StringUTF16", name := "length", desc := "([B)I" } : Jvm.MethodName) jdk_52_method_6_code (1 : Nat) (Option.some Jvm.ClassFile.FieldType.int)).before args0 about1 = true := code_word (m := ⟨23, 5⟩) (meth := k23m5) (c := k23c5) (by decide +kernel) rfl rfl rfl (by decide +kernel)
set_option maxRecDepth 65536 in
theorem w_c53 : (Jvm.Cond.code ({ cls := "java/lang/String", name := "checkBoundsOffCount", desc := "(III)I" } : Jvm.MethodName) jdk_42_method_157_code (3 : Nat) (Option.some Jvm.ClassFile.FieldType.int)).before args0 about1 = true := code_word (m := ⟨7, 14⟩) (meth := k7m14) (c := k7c14) (by decide +kernel) rfl rfl rfl (by decide +kernel)
set_option maxRecDepth 65536 in
theorem w_c54 : (Jvm.Cond.code ({ cls := "jdk/internal/util/Preconditions", name := "checkFromIndexSize", desc := "(IIILjava/util/function/BiFunction;)I" } : Jvm.MethodName) jdk_41_method_13_code (4 : Nat) (Option.some Jvm.ClassFile.FieldType.int)).before args0 about1 = true := code_word (m := ⟨22, 2⟩) (meth := k22m2) (c := k22c2) (by decide +kernel) rfl rfl rfl (by decide +kernel)
set_option maxRecDepth 65536 in
theorem w_c55 : (Jvm.Cond.code ({ cls := "java/lang/StringUTF16", name := "charAt", desc := "([BI)C" } : Jvm.MethodName) jdk_52_method_83_code (2 : Nat) (Option.some Jvm.ClassFile.FieldType.char)).before args0 about1 = true := code_word (m := ⟨23, 11⟩) (meth := k23m11) (c := k23c11) (by decide +kernel) rfl rfl rfl (by decide +kernel)
set_option maxRecDepth 65536 in
theorem w_c56 : (Jvm.Cond.code ({ cls := "java/lang/StringUTF16", name := "checkIndex", desc := "(I[B)V" } : Jvm.MethodName) jdk_52_method_91_code (2 : Nat) (Option.none : Option Jvm.ClassFile.FieldType)).before args0 about1 = true := code_word (m := ⟨23, 13⟩) (meth := k23m13) (c := k23c13) (by decide +kernel) rfl rfl rfl (by decide +kernel)
set_option maxRecDepth 65536 in
theorem w_c57 : (Jvm.Cond.code ({ cls := "java/lang/String", name := "valueOf", desc := "(C)Ljava/lang/String;" } : Jvm.MethodName) jdk_42_method_139_code (1 : Nat) (Option.some (Jvm.ClassFile.FieldType.object "java/lang/String"))).before args0 about1 = true := code_word (m := ⟨7, 6⟩) (meth := k7m6) (c := k7c6) (by decide +kernel) rfl rfl rfl (by decide +kernel)
set_option maxRecDepth 65536 in
theorem w_c58 : (Jvm.Cond.code ({ cls := "java/lang/StringLatin1", name := "canEncode", desc := "(C)Z" } : Jvm.MethodName) jdk_43_method_3_code (1 : Nat) (Option.some Jvm.ClassFile.FieldType.boolean)).before args0 about1 = true := code_word (m := ⟨21, 2⟩) (meth := k21m2) (c := k21c2) (by decide +kernel) rfl rfl rfl (by decide +kernel)
set_option maxRecDepth 65536 in
theorem w_c59 : (Jvm.Cond.code ({ cls := "java/lang/StringLatin1", name := "toBytes", desc := "(C)[B" } : Jvm.MethodName) jdk_43_method_46_code (1 : Nat) (Option.some (Jvm.ClassFile.FieldType.array Jvm.ClassFile.FieldType.byte))).before args0 about1 = true := code_word (m := ⟨21, 3⟩) (meth := k21m3) (c := k21c3) (by decide +kernel) rfl rfl rfl (by decide +kernel)
set_option maxRecDepth 65536 in
theorem w_c60 : (Jvm.Cond.code ({ cls := "java/lang/String", name := "<init>", desc := "([BB)V" } : Jvm.MethodName) jdk_42_method_151_code (3 : Nat) (Option.none : Option Jvm.ClassFile.FieldType)).before args0 about1 = true := code_word (m := ⟨7, 10⟩) (meth := k7m10) (c := k7c10) (by decide +kernel) rfl rfl rfl (by decide +kernel)
set_option maxRecDepth 65536 in
theorem w_c61 : (Jvm.Cond.code ({ cls := "java/lang/StringUTF16", name := "toBytes", desc := "(C)[B" } : Jvm.MethodName) jdk_52_method_24_code (2 : Nat) (Option.some (Jvm.ClassFile.FieldType.array Jvm.ClassFile.FieldType.byte))).before args0 about1 = true := code_word (m := ⟨23, 10⟩) (meth := k23m10) (c := k23c10) (by decide +kernel) rfl rfl rfl (by decide +kernel)
def codes1 : List Jvm.Cond := [Jvm.Cond.code x code maxLocals ret, Jvm.Cond.code ({ cls := "java/lang/String", name := "<init>", desc := "([C)V" } : Jvm.MethodName) jdk_42_method_3_code (2 : Nat) (Option.none : Option Jvm.ClassFile.FieldType), Jvm.Cond.code ({ cls := "java/lang/String", name := "<init>", desc := "([CIILjava/lang/Void;)V" } : Jvm.MethodName) jdk_42_method_149_code (6 : Nat) (Option.none : Option Jvm.ClassFile.FieldType), Jvm.Cond.code ({ cls := "java/lang/Object", name := "<init>", desc := "()V" } : Jvm.MethodName) object_method_1_code (1 : Nat) (Option.none : Option Jvm.ClassFile.FieldType), Jvm.Cond.code ({ cls := "com/example/tenorbook/tenorbook/terms/Agreement", name := "namesTwoFacilities", desc := "(Ljava/lang/String;)Ljava/lang/String;" } : Jvm.MethodName) prog_49_method_2_code (1 : Nat) (Option.some (Jvm.ClassFile.FieldType.object "java/lang/String")), Jvm.Cond.code ({ cls := "java/lang/StringBuilder", name := "<init>", desc := "()V" } : Jvm.MethodName) jdk_67_method_1_code (1 : Nat) (Option.none : Option Jvm.ClassFile.FieldType), Jvm.Cond.code ({ cls := "java/lang/AbstractStringBuilder", name := "<init>", desc := "(I)V" } : Jvm.MethodName) jdk_68_method_2_code (2 : Nat) (Option.none : Option Jvm.ClassFile.FieldType), Jvm.Cond.code ({ cls := "java/lang/StringBuilder", name := "append", desc := "(Ljava/lang/Object;)Ljava/lang/StringBuilder;" } : Jvm.MethodName) jdk_67_method_6_code (2 : Nat) (Option.some (Jvm.ClassFile.FieldType.object "java/lang/StringBuilder")), Jvm.Cond.code ({ cls := "java/lang/String", name := "valueOf", desc := "(Ljava/lang/Object;)Ljava/lang/String;" } : Jvm.MethodName) jdk_42_method_133_code (1 : Nat) (Option.some (Jvm.ClassFile.FieldType.object "java/lang/String")), Jvm.Cond.code ({ cls := "com/example/tenorbook/tenorbook/terms/AgreementTerm", name := "toString", desc := "()Ljava/lang/String;" } : Jvm.MethodName) prog_51_method_6_code (1 : Nat) (Option.some (Jvm.ClassFile.FieldType.object "java/lang/String")), Jvm.Cond.code ({ cls := "java/lang/StringBuilder", name := "append", desc := "(Ljava/lang/String;)Ljava/lang/StringBuilder;" } : Jvm.MethodName) jdk_67_method_7_code (2 : Nat) (Option.some (Jvm.ClassFile.FieldType.object "java/lang/StringBuilder")), Jvm.Cond.code ({ cls := "java/lang/AbstractStringBuilder", name := "append", desc := "(Ljava/lang/String;)Ljava/lang/AbstractStringBuilder;" } : Jvm.MethodName) jdk_68_method_22_code (3 : Nat) (Option.some (Jvm.ClassFile.FieldType.object "java/lang/AbstractStringBuilder")), Jvm.Cond.code ({ cls := "java/lang/String", name := "length", desc := "()I" } : Jvm.MethodName) jdk_42_method_54_code (1 : Nat) (Option.some Jvm.ClassFile.FieldType.int), Jvm.Cond.code ({ cls := "java/lang/String", name := "coder", desc := "()B" } : Jvm.MethodName) jdk_42_method_152_code (1 : Nat) (Option.some Jvm.ClassFile.FieldType.byte), Jvm.Cond.code ({ cls := "java/lang/AbstractStringBuilder", name := "ensureCapacityInternal", desc := "(I)V" } : Jvm.MethodName) jdk_68_method_9_code (3 : Nat) (Option.none : Option Jvm.ClassFile.FieldType), Jvm.Cond.code ({ cls := "java/lang/AbstractStringBuilder", name := "putStringAt", desc := "(ILjava/lang/String;)V" } : Jvm.MethodName) jdk_68_method_73_code (3 : Nat) (Option.none : Option Jvm.ClassFile.FieldType), Jvm.Cond.code ({ cls := "java/lang/AbstractStringBuilder", name := "inflateIfNeededFor", desc := "(Ljava/lang/String;)V" } : Jvm.MethodName) jdk_68_method_71_code (2 : Nat) (Option.none : Option Jvm.ClassFile.FieldType), Jvm.Cond.code ({ cls := "java/lang/String", name := "getBytes", desc := "([BIB)V" } : Jvm.MethodName) jdk_42_method_147_code (4 : Nat) (Option.none : Option Jvm.ClassFile.FieldType), Jvm.Cond.code ({ cls := "java/lang/StringBuilder", name := "toString", desc := "()Ljava/lang/String;" } : Jvm.MethodName) jdk_67_method_42_code (1 : Nat) (Option.some (Jvm.ClassFile.FieldType.object "java/lang/String")), Jvm.Cond.code ({ cls := "java/lang/String", name := "<init>", desc := "(Ljava/lang/StringBuilder;)V" } : Jvm.MethodName) jdk_42_method_53_code (2 : Nat) (Option.none : Option Jvm.ClassFile.FieldType), Jvm.Cond.code ({ cls := "java/lang/String", name := "<init>", desc := "(Ljava/lang/AbstractStringBuilder;Ljava/lang/Void;)V" } : Jvm.MethodName) jdk_42_method_150_code (5 : Nat) (Option.none : Option Jvm.ClassFile.FieldType), Jvm.Cond.code ({ cls := "java/lang/AbstractStringBuilder", name := "getValue", desc := "()[B" } : Jvm.MethodName) jdk_68_method_64_code (1 : Nat) (Option.some (Jvm.ClassFile.FieldType.array Jvm.ClassFile.FieldType.byte)), Jvm.Cond.code ({ cls := "java/lang/StringBuilder", name := "length", desc := "()I" } : Jvm.MethodName) jdk_67_method_93_code (1 : Nat) (Option.some Jvm.ClassFile.FieldType.int), Jvm.Cond.code ({ cls := "java/lang/AbstractStringBuilder", name := "length", desc := "()I" } : Jvm.MethodName) jdk_68_method_6_code (1 : Nat) (Option.some Jvm.ClassFile.FieldType.int), Jvm.Cond.code ({ cls := "java/lang/AbstractStringBuilder", name := "isLatin1", desc := "()Z" } : Jvm.MethodName) jdk_68_method_68_code (1 : Nat) (Option.some Jvm.ClassFile.FieldType.boolean), Jvm.Cond.code ({ cls := "java/util/Arrays", name := "copyOfRange", desc := "([BII)[B" } : Jvm.MethodName) jdk_65_method_132_code (3 : Nat) (Option.some (Jvm.ClassFile.FieldType.array Jvm.ClassFile.FieldType.byte)), Jvm.Cond.code ({ cls := "java/util/Arrays", name := "copyOfRangeByte", desc := "([BII)[B" } : Jvm.MethodName) jdk_65_method_133_code (5 : Nat) (Option.some (Jvm.ClassFile.FieldType.array Jvm.ClassFile.FieldType.byte)), Jvm.Cond.code ({ cls := "java/util/Arrays", name := "checkLength", desc := "(II)V" } : Jvm.MethodName) jdk_65_method_131_code (2 : Nat) (Option.none : Option Jvm.ClassFile.FieldType), Jvm.Cond.code ({ cls := "java/lang/Math", name := "min", desc := "(II)I" } : Jvm.MethodName) jdk_29_method_69_code (2 : Nat) (Option.some Jvm.ClassFile.FieldType.int), Jvm.Cond.code ({ cls := "java/lang/AbstractStringBuilder", name := "newCapacity", desc := "(I)I" } : Jvm.MethodName) jdk_68_method_10_code (6 : Nat) (Option.some Jvm.ClassFile.FieldType.int), Jvm.Cond.code ({ cls := "jdk/internal/util/ArraysSupport", name := "newLength", desc := "(III)I" } : Jvm.MethodName) jdk_48_method_27_code (4 : Nat) (Option.some Jvm.ClassFile.FieldType.int), Jvm.Cond.code ({ cls := "java/lang/Math", name := "max", desc := "(II)I" } : Jvm.MethodName) jdk_29_method_65_code (2 : Nat) (Option.some Jvm.ClassFile.FieldType.int), Jvm.Cond.code ({ cls := "java/util/Arrays", name := "copyOf", desc := "([BI)[B" } : Jvm.MethodName) jdk_65_method_121_code (3 : Nat) (Option.some (Jvm.ClassFile.FieldType.array Jvm.ClassFile.FieldType.byte)), Jvm.Cond.code ({ cls := "com/example/tenorbook/tenorbook/terms/AgreementNamesTwoFacilitiesPinLaw", name := "prefix", desc := "(Ljava/lang/String;)Z" } : Jvm.MethodName) method_3_code (1 : Nat) (Option.some Jvm.ClassFile.FieldType.boolean), Jvm.Cond.code ({ cls := "java/lang/String", name := "charAt", desc := "(I)C" } : Jvm.MethodName) jdk_42_method_56_code (2 : Nat) (Option.some Jvm.ClassFile.FieldType.char), Jvm.Cond.code ({ cls := "java/lang/String", name := "isLatin1", desc := "()Z" } : Jvm.MethodName) jdk_42_method_154_code (1 : Nat) (Option.some Jvm.ClassFile.FieldType.boolean), Jvm.Cond.code ({ cls := "java/lang/StringLatin1", name := "charAt", desc := "([BI)C" } : Jvm.MethodName) jdk_43_method_2_code (2 : Nat) (Option.some Jvm.ClassFile.FieldType.char), Jvm.Cond.code ({ cls := "java/lang/String", name := "checkIndex", desc := "(II)V" } : Jvm.MethodName) jdk_42_method_155_code (2 : Nat) (Option.none : Option Jvm.ClassFile.FieldType), Jvm.Cond.code ({ cls := "jdk/internal/util/Preconditions", name := "checkIndex", desc := "(IILjava/util/function/BiFunction;)I" } : Jvm.MethodName) jdk_41_method_11_code (3 : Nat) (Option.some Jvm.ClassFile.FieldType.int), Jvm.Cond.code ({ cls := "com/example/tenorbook/tenorbook/terms/AgreementNamesTwoFacilitiesPinLaw", name := "suffix", desc := "(Ljava/lang/String;I)Z" } : Jvm.MethodName) method_4_code (2 : Nat) (Option.some Jvm.ClassFile.FieldType.boolean), Jvm.Cond.code ({ cls := "java/lang/StringUTF16", name := "compress", desc := "([CII)[B" } : Jvm.MethodName) jdk_52_method_16_code (6 : Nat) (Option.some (Jvm.ClassFile.FieldType.array Jvm.ClassFile.FieldType.byte)), Jvm.Cond.code ({ cls := "java/lang/StringUTF16", name := "compress", desc := "([CI[BII)I" } : Jvm.MethodName) jdk_52_method_21_code (7 : Nat) (Option.some Jvm.ClassFile.FieldType.int), Jvm.Cond.code ({ cls := "java/lang/StringUTF16", name := "coderFromArrayLen", desc := "([BI)B" } : Jvm.MethodName) jdk_52_method_15_code (2 : Nat) (Option.some Jvm.ClassFile.FieldType.byte), Jvm.Cond.code ({ cls := "java/lang/StringUTF16", name := "toBytes", desc := "([CII)[B" } : Jvm.MethodName) jdk_52_method_14_code (5 : Nat) (Option.some (Jvm.ClassFile.FieldType.array Jvm.ClassFile.FieldType.byte)), Jvm.Cond.code ({ cls := "java/lang/StringUTF16", name := "newBytesFor", desc := "(I)[B" } : Jvm.MethodName) jdk_52_method_2_code (1 : Nat) (Option.some (Jvm.ClassFile.FieldType.array Jvm.ClassFile.FieldType.byte)), Jvm.Cond.code ({ cls := "java/lang/StringUTF16", name := "newBytesLength", desc := "(I)I" } : Jvm.MethodName) jdk_52_method_3_code (1 : Nat) (Option.some Jvm.ClassFile.FieldType.int), Jvm.Cond.code ({ cls := "java/lang/StringUTF16", name := "putChar", desc := "([BII)V" } : Jvm.MethodName) jdk_52_method_4_code (3 : Nat) (Option.none : Option Jvm.ClassFile.FieldType), Jvm.Cond.code ({ cls := "java/lang/StringUTF16", name := "getChar", desc := "([BI)C" } : Jvm.MethodName) jdk_52_method_5_code (2 : Nat) (Option.some Jvm.ClassFile.FieldType.char), Jvm.Cond.code ({ cls := "java/lang/AbstractStringBuilder", name := "inflate", desc := "()V" } : Jvm.MethodName) jdk_68_method_11_code (2 : Nat) (Option.none : Option Jvm.ClassFile.FieldType), Jvm.Cond.code ({ cls := "java/lang/StringLatin1", name := "inflate", desc := "([BI[BII)V" } : Jvm.MethodName) jdk_43_method_50_code (5 : Nat) (Option.none : Option Jvm.ClassFile.FieldType), Jvm.Cond.code ({ cls := "java/lang/StringUTF16", name := "inflate", desc := "([BI[BII)V" } : Jvm.MethodName) jdk_52_method_86_code (6 : Nat) (Option.none : Option Jvm.ClassFile.FieldType), Jvm.Cond.code ({ cls := "java/lang/StringUTF16", name := "checkBoundsOffCount", desc := "(II[B)V" } : Jvm.MethodName) jdk_52_method_94_code (3 : Nat) (Option.none : Option Jvm.ClassFile.FieldType), Jvm.Cond.code ({ cls := "java/lang/StringUTF16", name := "length", desc := "([B)I" } : Jvm.MethodName) jdk_52_method_6_code (1 : Nat) (Option.some Jvm.ClassFile.FieldType.int), Jvm.Cond.code ({ cls := "java/lang/String", name := "checkBoundsOffCount", desc := "(III)I" } : Jvm.MethodName) jdk_42_method_157_code (3 : Nat) (Option.some Jvm.ClassFile.FieldType.int), Jvm.Cond.code ({ cls := "jdk/internal/util/Preconditions", name := "checkFromIndexSize", desc := "(IIILjava/util/function/BiFunction;)I" } : Jvm.MethodName) jdk_41_method_13_code (4 : Nat) (Option.some Jvm.ClassFile.FieldType.int), Jvm.Cond.code ({ cls := "java/lang/StringUTF16", name := "charAt", desc := "([BI)C" } : Jvm.MethodName) jdk_52_method_83_code (2 : Nat) (Option.some Jvm.ClassFile.FieldType.char), Jvm.Cond.code ({ cls := "java/lang/StringUTF16", name := "checkIndex", desc := "(I[B)V" } : Jvm.MethodName) jdk_52_method_91_code (2 : Nat) (Option.none : Option Jvm.ClassFile.FieldType), Jvm.Cond.code ({ cls := "java/lang/String", name := "valueOf", desc := "(C)Ljava/lang/String;" } : Jvm.MethodName) jdk_42_method_139_code (1 : Nat) (Option.some (Jvm.ClassFile.FieldType.object "java/lang/String")), Jvm.Cond.code ({ cls := "java/lang/StringLatin1", name := "canEncode", desc := "(C)Z" } : Jvm.MethodName) jdk_43_method_3_code (1 : Nat) (Option.some Jvm.ClassFile.FieldType.boolean), Jvm.Cond.code ({ cls := "java/lang/StringLatin1", name := "toBytes", desc := "(C)[B" } : Jvm.MethodName) jdk_43_method_46_code (1 : Nat) (Option.some (Jvm.ClassFile.FieldType.array Jvm.ClassFile.FieldType.byte)), Jvm.Cond.code ({ cls := "java/lang/String", name := "<init>", desc := "([BB)V" } : Jvm.MethodName) jdk_42_method_151_code (3 : Nat) (Option.none : Option Jvm.ClassFile.FieldType), Jvm.Cond.code ({ cls := "java/lang/StringUTF16", name := "toBytes", desc := "(C)[B" } : Jvm.MethodName) jdk_52_method_24_code (2 : Nat) (Option.some (Jvm.ClassFile.FieldType.array Jvm.ClassFile.FieldType.byte))]
set_option maxRecDepth 65536 in
theorem codes_eq : words1.filter isCode = codes1 := rfl
theorem w_codes : ∀ c ∈ words1.filter isCode, c.before args0 about1 = true := by
  rw [codes_eq]
  intro c hc
  simp only [codes1, List.mem_cons, List.not_mem_nil, or_false] at hc
  rcases hc with rfl | rfl | rfl | rfl | rfl | rfl | rfl | rfl | rfl | rfl | rfl | rfl | rfl | rfl | rfl | rfl | rfl | rfl | rfl | rfl | rfl | rfl | rfl | rfl | rfl | rfl | rfl | rfl | rfl | rfl | rfl | rfl | rfl | rfl | rfl | rfl | rfl | rfl | rfl | rfl | rfl | rfl | rfl | rfl | rfl | rfl | rfl | rfl | rfl | rfl | rfl | rfl | rfl | rfl | rfl | rfl | rfl | rfl | rfl | rfl | rfl | rfl
  · exact w_c0
  · exact w_c1
  · exact w_c2
  · exact w_c3
  · exact w_c4
  · exact w_c5
  · exact w_c6
  · exact w_c7
  · exact w_c8
  · exact w_c9
  · exact w_c10
  · exact w_c11
  · exact w_c12
  · exact w_c13
  · exact w_c14
  · exact w_c15
  · exact w_c16
  · exact w_c17
  · exact w_c18
  · exact w_c19
  · exact w_c20
  · exact w_c21
  · exact w_c22
  · exact w_c23
  · exact w_c24
  · exact w_c25
  · exact w_c26
  · exact w_c27
  · exact w_c28
  · exact w_c29
  · exact w_c30
  · exact w_c31
  · exact w_c32
  · exact w_c33
  · exact w_c34
  · exact w_c35
  · exact w_c36
  · exact w_c37
  · exact w_c38
  · exact w_c39
  · exact w_c40
  · exact w_c41
  · exact w_c42
  · exact w_c43
  · exact w_c44
  · exact w_c45
  · exact w_c46
  · exact w_c47
  · exact w_c48
  · exact w_c49
  · exact w_c50
  · exact w_c51
  · exact w_c52
  · exact w_c53
  · exact w_c54
  · exact w_c55
  · exact w_c56
  · exact w_c57
  · exact w_c58
  · exact w_c59
  · exact w_c60
  · exact w_c61
set_option maxRecDepth 65536 in
theorem w_t1 : (words1.take 24).all (fun c => isCode c || c.before args0 about1) = true := by decide +kernel
set_option maxRecDepth 65536 in
theorem w_t2 : ((words1.drop 24).take 24).all (fun c => isCode c || c.before args0 about1) = true := by decide +kernel
set_option maxRecDepth 65536 in
theorem w_t3 : (((words1.drop 24).drop 24).take 24).all (fun c => isCode c || c.before args0 about1) = true := by decide +kernel
set_option maxRecDepth 65536 in
theorem w_t4 : ((((words1.drop 24).drop 24).drop 24).take 24).all (fun c => isCode c || c.before args0 about1) = true := by decide +kernel
set_option maxRecDepth 65536 in
theorem w_t5 : (((((words1.drop 24).drop 24).drop 24).drop 24).take 24).all (fun c => isCode c || c.before args0 about1) = true := by decide +kernel
set_option maxRecDepth 65536 in
theorem w_t6 : ((((((words1.drop 24).drop 24).drop 24).drop 24).drop 24).take 24).all (fun c => isCode c || c.before args0 about1) = true := by decide +kernel
set_option maxRecDepth 65536 in
theorem w_t7 : (((((((words1.drop 24).drop 24).drop 24).drop 24).drop 24).drop 24).take 24).all (fun c => isCode c || c.before args0 about1) = true := by decide +kernel
set_option maxRecDepth 65536 in
theorem w_t8 : ((((((((words1.drop 24).drop 24).drop 24).drop 24).drop 24).drop 24).drop 24).take 24).all (fun c => isCode c || c.before args0 about1) = true := by decide +kernel
set_option maxRecDepth 65536 in
theorem w_t9 : (((((((((words1.drop 24).drop 24).drop 24).drop 24).drop 24).drop 24).drop 24).drop 24).take 24).all (fun c => isCode c || c.before args0 about1) = true := by decide +kernel
set_option maxRecDepth 65536 in
theorem w_t10 : ((((((((((words1.drop 24).drop 24).drop 24).drop 24).drop 24).drop 24).drop 24).drop 24).drop 24).take 24).all (fun c => isCode c || c.before args0 about1) = true := by decide +kernel
set_option maxRecDepth 65536 in
theorem w_t11 : (((((((((((words1.drop 24).drop 24).drop 24).drop 24).drop 24).drop 24).drop 24).drop 24).drop 24).drop 24).take 24).all (fun c => isCode c || c.before args0 about1) = true := by decide +kernel
set_option maxRecDepth 65536 in
theorem w_t12 : ((((((((((((words1.drop 24).drop 24).drop 24).drop 24).drop 24).drop 24).drop 24).drop 24).drop 24).drop 24).drop 24).take 24).all (fun c => isCode c || c.before args0 about1) = true := by decide +kernel
set_option maxRecDepth 65536 in
theorem w_t13 : ((((((((((((words1.drop 24).drop 24).drop 24).drop 24).drop 24).drop 24).drop 24).drop 24).drop 24).drop 24).drop 24).drop 24).all (fun c => isCode c || c.before args0 about1) = true := by decide +kernel
theorem w_tables : (allAtoms (Jvm.Cond.code x code maxLocals ret :: tables_1)).before args0 about1 = true := by
  rw [allAtoms_all]
  show words1.all (fun c => c.before args0 about1) = true
  refine all_split ?_ w_codes
  rw [← List.take_append_drop 24 words1, List.all_append, w_t1, ← List.take_append_drop 24 (words1.drop 24), List.all_append, w_t2, ← List.take_append_drop 24 ((words1.drop 24).drop 24), List.all_append, w_t3, ← List.take_append_drop 24 (((words1.drop 24).drop 24).drop 24), List.all_append, w_t4, ← List.take_append_drop 24 ((((words1.drop 24).drop 24).drop 24).drop 24), List.all_append, w_t5, ← List.take_append_drop 24 (((((words1.drop 24).drop 24).drop 24).drop 24).drop 24), List.all_append, w_t6, ← List.take_append_drop 24 ((((((words1.drop 24).drop 24).drop 24).drop 24).drop 24).drop 24), List.all_append, w_t7, ← List.take_append_drop 24 (((((((words1.drop 24).drop 24).drop 24).drop 24).drop 24).drop 24).drop 24), List.all_append, w_t8, ← List.take_append_drop 24 ((((((((words1.drop 24).drop 24).drop 24).drop 24).drop 24).drop 24).drop 24).drop 24), List.all_append, w_t9, ← List.take_append_drop 24 (((((((((words1.drop 24).drop 24).drop 24).drop 24).drop 24).drop 24).drop 24).drop 24).drop 24), List.all_append, w_t10, ← List.take_append_drop 24 ((((((((((words1.drop 24).drop 24).drop 24).drop 24).drop 24).drop 24).drop 24).drop 24).drop 24).drop 24), List.all_append, w_t11, ← List.take_append_drop 24 (((((((((((words1.drop 24).drop 24).drop 24).drop 24).drop 24).drop 24).drop 24).drop 24).drop 24).drop 24).drop 24), List.all_append, w_t12, w_t13]
  rfl
set_option maxRecDepth 65536 in
theorem w_rest : rest_1_c.before args0 about1 = true := by decide +kernel
set_option maxRecDepth 65536 in
theorem w_case : (Jvm.Cond.and given_1 narrow_1).before args0 about1 = true := by decide +kernel
set_option maxRecDepth 65536 in
theorem w_consts : constsHeld consts_1 about1 := Jvm.Lit.constsHeldB_iff.mp (by decide +kernel)
theorem w_applies : (headSpec (Jvm.Cond.code x code maxLocals ret :: tables_1) room_1).applies x e0.platform about1 = true :=
  (Spec.applies_iff w_frames).mpr ⟨w_running, w_runnable, w_alone, w_named, w_hears, w_ripe, w_room, w_tables⟩
theorem atStart : AtStart classFile x code maxLocals ret World_1 tables_1 room_1 Calls_1 rest_1 Pre_1 launch0 p0 e0 about1 theMethod args0 below0 :=
  ⟨lists_1, trivial, launch0.admits_env _ _ _, launch0.least_env, fairChoices_fair.cas, fairChoices_fair.clock, w_frames, w_args, w_heap, w_applies, ⟨w_consts, trivial⟩, w_rest, w_case⟩
end start1
theorem witness_1 : WitnessClaimed_1 := ⟨start1.p0, start1.e0, start1.about1, start1.theMethod, start1.args0, start1.below0, start1.atStart⟩
end Jvm.Pilot.@@N@@
