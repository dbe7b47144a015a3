import JvmDerived
import JvmDerived.Pilot.@@N@@Statement
import JvmDerived.Pilot.@@N@@Code
set_option linter.unusedVariables false
set_option linter.unusedSimpArgs false
namespace Jvm.Pilot.@@N@@
open Jvm Jvm.ClassFile Sem Op Lib Jvm.Free Jvm.Stand Jvm.LawKit Jvm.RoadKit Bundle Jvm.Pilot.@@N@@.Jvm.D
open Jvm.FP Jvm.Free.Fl
section OwnLayer
variable {p : Program} {l : Launch} {e : Env} {R : Room} {s : State} {m : MethodId} {args : Array Value} {below : List Frame} {meth : Method} {c : Code} {T T' : State} {cells slots cells' slots' : Nat} {Z : State} {a0 : Array Value} {EL : List (String × Nat)} {n0 : Nat} {W0 : List Addr} {own : String} {h h' : Heap} {Ow Ow' : List Addr} {Pq : Outcome → State → Prop} {pc pc' : Nat} {L L' : Array Slot} {S S' : List Value}
/-- the run goes on from here to an end that Pq allows -/
def OG (p : Program) (e : Env) (below : List Frame) (m : MethodId) (Pq : Outcome → State → Prop) (T : State) (pc : Nat) (L : Array Slot) (S : List Value) : Prop :=
  ∃ t o, Steps p.tables e below (T.setTop (mkF m pc L S)) t ∧ t.status = .running ∧ Ended t below o ∧ Pq o t
theorem OG.st (st : ∀ t, Steps p.tables e below (T'.setTop (mkF m pc' L' S')) t → Steps p.tables e below (T.setTop (mkF m pc L S)) t) (k : OG p e below m Pq T' pc' L' S') : OG p e below m Pq T pc L S := by
  obtain ⟨t, o, h1, r⟩ := k
  exact ⟨t, o, st t h1, r⟩
/-- an address that this walk may write -/
def OOwn (Z : State) (EL : List (String × Nat)) (n0 : Nat) (W0 : List Addr) (hs : Nat) (vm : Vm) (h : Heap) (x : Addr) : Prop := n0 ≤ x ∧ x < h.size ∧ Safe Z EL vm h x ∧ (x ∈ W0 ∨ hs ≤ x)
/-- the tables since the invocation's start: warmed; with no constant of EL nothing is interned -/
def OSn (EL : List (String × Nat)) (s : State) (vm : Vm) (n : Nat) : Prop := s.Since vm n ∧ (EL = [] → s.WarmedH vm)
theorem OSn.of {vm : Vm} (q : s.WarmedH vm) (n : Nat) : OSn EL s vm n := ⟨q.since n, fun _ => q⟩
theorem OSn.trans {vm₁ vm₂ : Vm} {n₁ n₂ : Nat} (h₁ : OSn EL s vm₁ n₁) (h₂ : OSn EL (s.setVm vm₁) vm₂ n₂) (hn : n₁ ≤ n₂) : OSn EL s vm₂ n₂ := ⟨h₁.1.trans h₂.1 hn, fun e => State.WarmedH.trans (t := s.setVm vm₁) (h₁.2 e) (h₂.2 e)⟩
/-- where the walk stands -/
def OPn (p : Program) (l : Launch) (e : Env) (R : Room) (s : State) (m : MethodId) (args : Array Value) (below : List Frame) (meth : Method) (c : Code) (Z : State) (a0 : Array Value) (EL : List (String × Nat)) (n0 : Nat) (W0 : List Addr) (own : String) (T : State) (h : Heap) (Ow : List Addr) (cells slots : Nat) : Prop :=
  ∃ locs : List Loc, Stand p l e R (s.setVm T.vm) m args below meth c T locs cells slots ∧ p.tables.exec = Jvm.exec ∧ meth.locks = false ∧ OSn EL s T.vm h.size ∧ Z.Warmed39 T.vm ∧ T.vm.findClass own = some m.cls ∧ T.heap = h ∧ Fr n0 locs ∧ EW Z a0 EL ∧ CHr Z EL s.vm s.heap T.vm h ∧ Old Z n0 h ∧ Keep s.heap h W0 ∧ ∀ x ∈ Ow, OOwn Z EL n0 W0 s.heap.size T.vm h x
theorem OPn.here (P : OPn p l e R s m args below meth c Z a0 EL n0 W0 own T h Ow cells slots) : At T m c below := by obtain ⟨_, X, -⟩ := P; exact X.here
theorem OPn.ex (P : OPn p l e R s m args below meth c Z a0 EL n0 W0 own T h Ow cells slots) : p.tables.exec = Jvm.exec := by obtain ⟨_, _, hx, -⟩ := P; exact hx
theorem OPn.old (P : OPn p l e R s m args below meth c Z a0 EL n0 W0 own T h Ow cells slots) : Old Z n0 h := by obtain ⟨_, _, _, _, _, _, _, _, _, _, _, O, -⟩ := P; exact O
theorem OPn.keep0 (P : OPn p l e R s m args below meth c Z a0 EL n0 W0 own T h Ow cells slots) : Keep s.heap h W0 := by obtain ⟨_, _, _, _, _, _, _, _, _, _, _, _, K, -⟩ := P; exact K
theorem OPn.warm (P : OPn p l e R s m args below meth c Z a0 EL n0 W0 own T h Ow cells slots) : Z.Warmed39 T.vm := by obtain ⟨_, _, _, _, _, hZ, -⟩ := P; exact hZ
theorem OPn.n0le (P : OPn p l e R s m args below meth c Z a0 EL n0 W0 own T h Ow cells slots) : n0 ≤ h.size := by have O := P.old; rw [← O.1]; exact O.2.1
theorem OPn.mono (P : OPn p l e R s m args below meth c Z a0 EL n0 W0 own T h Ow cells slots) (hc : cells ≤ cells') (hs : slots ≤ slots') : OPn p l e R s m args below meth c Z a0 EL n0 W0 own T h Ow cells' slots' := by
  obtain ⟨locs, X, r⟩ := P
  exact ⟨locs, X.mono hc hs, r⟩
theorem OPn.less (P : OPn p l e R s m args below meth c Z a0 EL n0 W0 own T h Ow cells slots) (q : ∀ x ∈ Ow', x ∈ Ow) : OPn p l e R s m args below meth c Z a0 EL n0 W0 own T h Ow' cells slots := by
  obtain ⟨locs, X, h1, h2, h3, h4, h5, h6, h7, h8, h9, h10, h11, W⟩ := P
  exact ⟨locs, X, h1, h2, h3, h4, h5, h6, h7, h8, h9, h10, h11, fun x hx => W x (q x hx)⟩
theorem OPn.more (P : OPn p l e R s m args below meth c Z a0 EL n0 W0 own T h Ow cells slots) {x : Addr} (q : n0 ≤ x ∧ x < h.size ∧ Safe Z EL T.vm h x) (r : s.heap.size ≤ x) : OPn p l e R s m args below meth c Z a0 EL n0 W0 own T h (x :: Ow) cells slots := by
  obtain ⟨locs, X, h1, h2, h3, h4, h5, h6, h7, h8, h9, h10, h11, W⟩ := P
  exact ⟨locs, X, h1, h2, h3, h4, h5, h6, h7, h8, h9, h10, h11, fun y hy => (List.mem_cons.mp hy).elim (fun u => u ▸ ⟨q.1, q.2.1, q.2.2, Or.inr r⟩) (W y)⟩
theorem OPn.fin {locs' : List Loc} (hx : p.tables.exec = Jvm.exec) (hlk : meth.locks = false) (hS : OSn EL s T.vm h.size) (hZ : Z.Warmed39 T.vm) (hown : T.vm.findClass own = some m.cls) (hEL : EW Z a0 EL) (X' : Stand p l e R (s.setVm T.vm) m args below meth c T' locs' cells' slots') (eT' : T'.heap = h') (hle : h.size ≤ h'.size) (N' : Fr n0 locs') (C' : CHr Z EL s.vm s.heap T.vm h') (O' : Old Z n0 h') (K' : Keep s.heap h' W0) (W' : ∀ x ∈ Ow', OOwn Z EL n0 W0 s.heap.size T.vm h' x) :
    OPn p l e R s m args below meth c Z a0 EL n0 W0 own T' h' Ow' cells' slots' := by
  have A : CHr Z EL T.vm h' T'.vm h' := CHv.at X' hZ hEL C'.1
  refine ⟨locs', X'.retabled X'.warmed.wide, hx, hlk, hS.trans (OSn.of X'.warmed _) hle, State.Warmed39.trans (t := s.setVm T.vm) hZ X'.warmed.wide, ?_, eT', N', hEL, C'.trans A, O', K', fun x hx => ?_⟩
  · exact (X'.warmed.alike.findClass own _).trans hown
  · obtain ⟨q1, q2, q3, q4⟩ := W' x hx
    exact ⟨q1, q2, A.safe q2 q3, q4⟩
/-- a step that moves the tables alone -/
theorem OPn.tab (P : OPn p l e R s m args below meth c Z a0 EL n0 W0 own T h Ow cells slots) (f : ∀ locs, Stand p l e R (s.setVm T.vm) m args below meth c T locs cells slots → Z.Warmed39 (s.setVm T.vm).vm → (s.setVm T.vm).vm.findClass own = some m.cls → T.heap = h → p.tables.exec = Jvm.exec → ∃ T', Stand p l e R (s.setVm T.vm) m args below meth c T' locs cells slots ∧ T'.heap = h ∧ ∀ target, Steps p.tables e below (T'.setTop (mkF m pc' L' S')) target → Steps p.tables e below (T.setTop (mkF m pc L S)) target)
    (k : ∀ T', OPn p l e R s m args below meth c Z a0 EL n0 W0 own T' h Ow cells slots → OG p e below m Pq T' pc' L' S') : OG p e below m Pq T pc L S := by
  obtain ⟨locs, X, hx, hlk, hS, hZ, hown, eT, N, hEL, C, O, K, W⟩ := P
  obtain ⟨T', X', e', st⟩ := f locs X hZ hown eT hx
  exact OG.st st (k T' (OPn.fin hx hlk hS hZ hown hEL X' e' (Nat.le_refl _) N C O K W))
/-- a step that makes one cell -/
theorem OPn.grow (P : OPn p l e R s m args below meth c Z a0 EL n0 W0 own T h Ow cells slots) {G : Heap → Addr → Prop} (f : ∀ locs, Stand p l e R (s.setVm T.vm) m args below meth c T locs cells slots → Z.Warmed39 (s.setVm T.vm).vm → (s.setVm T.vm).vm.findClass own = some m.cls → T.heap = h → p.tables.exec = Jvm.exec → ∃ T' h', Stand p l e R (s.setVm T.vm) m args below meth c T' locs cells' slots' ∧ T'.heap = h' ∧ Ext h h' ∧ h.size < h'.size ∧ G h' h.size ∧ ∀ target, Steps p.tables e below (T'.setTop (mkF m pc' L' (.ref h.size :: S'))) target → Steps p.tables e below (T.setTop (mkF m pc L S)) target)
    (k : ∀ T' h' b, OPn p l e R s m args below meth c Z a0 EL n0 W0 own T' h' (b :: Ow) cells' slots' → Keep h h' [] → h.size ≤ b → G h' b → OG p e below m Pq T' pc' L' (.ref b :: S')) : OG p e below m Pq T pc L S := by
  have hn := P.n0le
  obtain ⟨locs, X, hx, hlk, hS, hZ, hown, eT, N, hEL, C, O, K, W⟩ := P
  obtain ⟨T', h', X', e', E, hlt, g, st⟩ := f locs X hZ hown eT hx
  refine OG.st st (k T' h' h.size (OPn.fin hx hlk hS hZ hown hEL X' e' E.1 N (C.trans (CHr.ext E C.1)) (O.ext E) (K.ext E) fun x hx => ?_) ((Keep.refl h []).ext E) (Nat.le_refl _) g)
  rcases List.mem_cons.mp hx with rfl | hx
  · exact ⟨hn, hlt, Safe.ext E C.1 (Safe.new (Nat.le_refl _)), Or.inr K.1⟩
  · obtain ⟨q1, q2, q3, q4⟩ := W x hx
    exact ⟨q1, Nat.lt_of_lt_of_le q2 E.1, Safe.ext E C.1 q3, q4⟩
/-- a step that writes one place of an own cell -/
theorem OPn.wr (P : OPn p l e R s m args below meth c Z a0 EL n0 W0 own T h Ow cells slots) {a : Addr} {sl : Nat} {v : Value} (ha : a ∈ Ow) (f : ∀ locs, Stand p l e R (s.setVm T.vm) m args below meth c T locs cells slots → Z.Warmed39 (s.setVm T.vm).vm → (s.setVm T.vm).vm.findClass own = some m.cls → T.heap = h → p.tables.exec = Jvm.exec → ∃ T' h', Stand p l e R (s.setVm T.vm) m args below meth c T' (locs ++ [⟨a, sl⟩]) cells slots ∧ T'.heap = h' ∧ Wr h h' a sl v ∧ ∀ target, Steps p.tables e below (T'.setTop (mkF m pc' L' S')) target → Steps p.tables e below (T.setTop (mkF m pc L S)) target)
    (k : ∀ T' h', OPn p l e R s m args below meth c Z a0 EL n0 W0 own T' h' Ow cells slots → Wr h h' a sl v → OG p e below m Pq T' pc' L' S') : OG p e below m Pq T pc L S := by
  obtain ⟨locs, X, hx, hlk, hS, hZ, hown, eT, N, hEL, C, O, K, W⟩ := P
  obtain ⟨T', h', X', e', Wq, st⟩ := f locs X hZ hown eT hx
  obtain ⟨q1, q2, q3, q4⟩ := W a ha
  refine OG.st st (k T' h' (OPn.fin hx hlk hS hZ hown hEL X' e' (Nat.le_of_eq Wq.size.symm) (Fr.snoc X' N q1) (C.trans (CHr.wr Wq q3 C.1)) (O.wr Wq q1) (K.wr Wq q4) fun x hx => ?_) Wq)
  obtain ⟨r1, r2, r3, r4⟩ := W x hx
  exact ⟨r1, by rw [Wq.size]; exact r2, Safe.wr Wq q3 C.1 r3, r4⟩
/-! the end of a walk -/
def OFq (Z : State) (EL : List (String × Nat)) (n0 : Nat) (s : State) (W0 : List Addr) (R : Room) (Q : Option Value → Vm → Heap → Prop) (o : Outcome) (t : State) : Prop :=
  ∃ v L, o = .returned v ∧ (Q v t.vm t.heap ∧ Keep s.heap t.heap W0 ∧ Fr n0 L) ∧ CHr Z EL s.vm s.heap t.vm t.heap ∧ (EL = [] → s.WarmedH t.vm) ∧ ReturnedEndW s o t L R.cells R.slots
theorem OPn.ret {Q : Option Value → Vm → Heap → Prop} (P : OPn p l e R s m args below meth c Z a0 EL n0 W0 own T h Ow cells slots) {v : Option Value} (hv : meth.sig.returnType = none → v = none) (hc : cells ≤ R.cells) (hs : slots ≤ R.slots) (q : Q v T.vm h)
    (st : ∀ locs, Stand p l e R (s.setVm T.vm) m args below meth c T locs cells slots → p.tables.exec = Jvm.exec → ∀ fs, (∀ (f : JFrame) (acts : List Action), f.method = m → f.locked = none → f.entered = [] → (doReturn e (T.setTop f) acts v).1 = T.setFrames fs) → Steps p.tables e below (T.setTop (mkF m pc L S)) (T.setFrames fs)) : OG p e below m (OFq Z EL n0 s W0 R Q) T pc L S := by
  obtain ⟨locs, X, hx, hlk, hS, hZ, hown, eT, N, hEL, C, O, K, W⟩ := P
  subst eT
  obtain ⟨fs, h1, h2, h3, h4, h5, h6, h7⟩ := X.leaveW hS.1 (Nat.le_refl _) hv hlk
  exact ⟨_, _, st locs X hx fs h1, h2, h3, v, locs, rfl, ⟨q, K, N⟩, C, hS.2, h4, h5, h6, h7.mono hc hs⟩
theorem o_ret0 {Q : Option Value → Vm → Heap → Prop} (P : OPn p l e R s m args below meth c Z a0 EL n0 W0 own T h Ow cells slots) (hret : meth.sig.returnType = none) (hd : decode c.code pc = .ok (.return_, 1)) (hc : cells ≤ R.cells) (hs : slots ≤ R.slots) (q : Q none T.vm h) : OG p e below m (OFq Z EL n0 s W0 R Q) T pc L [] :=
  P.ret (fun _ => rfl) hc hs q fun locs X hx fs hr => X.returnOut hx hret hd hr
theorem o_retI {Q : Option Value → Vm → Heap → Prop} (P : OPn p l e R s m args below meth c Z a0 EL n0 W0 own T h Ow cells slots) {t : FieldType} {z : Int32} (hret : meth.sig.returnType = some t) (ht : t = .int ∨ t = .boolean ∨ t = .byte ∨ t = .char ∨ t = .short) (hn : narrow t (.int z) = .int z) (hd : decode c.code pc = .ok (.ireturn, 1)) (hc : cells ≤ R.cells) (hs : slots ≤ R.slots) (q : Q (some (.int z)) T.vm h) : OG p e below m (OFq Z EL n0 s W0 R Q) T pc L (.int z :: S) :=
  P.ret (fun h => by rw [hret] at h; cases h) hc hs q fun locs X hx fs hr => retOut X hx hret hn (Or.inl ⟨rfl, ht, z, rfl⟩) hd hr
theorem o_retL {Q : Option Value → Vm → Heap → Prop} (P : OPn p l e R s m args below meth c Z a0 EL n0 W0 own T h Ow cells slots) {z : Int64} (hret : meth.sig.returnType = some .long) (hd : decode c.code pc = .ok (.lreturn, 1)) (hc : cells ≤ R.cells) (hs : slots ≤ R.slots) (q : Q (some (.long z)) T.vm h) : OG p e below m (OFq Z EL n0 s W0 R Q) T pc L (.long z :: S) :=
  P.ret (fun h => by rw [hret] at h; cases h) hc hs q fun locs X hx fs hr => retOut X hx hret rfl (Or.inr (Or.inl ⟨rfl, rfl, z, rfl⟩)) hd hr
theorem o_retD {Q : Option Value → Vm → Heap → Prop} (P : OPn p l e R s m args below meth c Z a0 EL n0 W0 own T h Ow cells slots) {z : UInt64} (hret : meth.sig.returnType = some .double) (hd : decode c.code pc = .ok (.dreturn, 1)) (hc : cells ≤ R.cells) (hs : slots ≤ R.slots) (q : Q (some (.double z)) T.vm h) : OG p e below m (OFq Z EL n0 s W0 R Q) T pc L (.double z :: S) :=
  P.ret (fun h => by rw [hret] at h; cases h) hc hs q fun locs X hx fs hr => retOut X hx hret rfl (Or.inr (Or.inr (Or.inl ⟨rfl, rfl, z, rfl⟩))) hd hr
theorem o_retA {Q : Option Value → Vm → Heap → Prop} (P : OPn p l e R s m args below meth c Z a0 EL n0 W0 own T h Ow cells slots) {t : FieldType} {w : Value} (hret : meth.sig.returnType = some t) (ht : t.isReference = true) (hw : w.isRef = true) (hn : narrow t w = w) (hd : decode c.code pc = .ok (.areturn, 1)) (hc : cells ≤ R.cells) (hs : slots ≤ R.slots) (q : Q (some w) T.vm h) : OG p e below m (OFq Z EL n0 s W0 R Q) T pc L (w :: S) :=
  P.ret (fun h => by rw [hret] at h; cases h) hc hs q fun locs X hx fs hr => retOut X hx hret hn (Or.inr (Or.inr (Or.inr (Or.inr ⟨rfl, ht, hw⟩)))) hd hr
/-! a contract -/
def OCt (l : Launch) (Z : State) (a0 : Array Value) (EL : List (String × Nat)) (n0 : Nat) (y : MethodName) (bytes : ByteArray) (maxL : Nat) (ret : Option FieldType) (rm : Room) (ws : List Jvm.Cond) (as' : Array Value) (h : Heap) (Sf : List Addr) (Q : Option Value → Vm → Heap → Prop) : Prop :=
  Old Z n0 h → EW Z a0 EL → (∀ x ∈ Sf, n0 ≤ x ∧ x < h.size) →
  MetFree l y (head1 (Jvm.Cond.code y bytes maxL ret :: ws) rm) (fun a U => a = as' ∧ Z.Warmed39 U.vm ∧ U.heap = h ∧ CHv Z EL U.vm h ∧ ∀ x ∈ Sf, Safe Z EL U.vm h x) (fun _ _ _ _ _ => True) (fun _ U o U' => OFq Z EL n0 U Sf rm Q o U')
theorem OCt.body {y : MethodName} {bytes : ByteArray} {maxL : Nat} {ret : Option FieldType} {rm : Room} {ws : List Jvm.Cond} {as' : Array Value} {Sf : List Addr} {Q : Option Value → Vm → Heap → Prop} {L0 : Array Slot} (hpl : plainFor y = true) (hef : ∀ m, entryFrame m as' maxL = mkF m 0 L0 [])
    (k : ∀ p e s m below meth c T, c.code = bytes → c.maxLocals = maxL → meth.sig.returnType = ret → meth.name = y.name → s.heap = h → OPn p l e rm s m as' below meth c Z a0 EL n0 Sf y.cls T h Sf 0 0 → OG p e below m (OFq Z EL n0 s Sf rm Q) T 0 L0 []) : OCt l Z a0 EL n0 y bytes maxL ret rm ws as' h Sf Q := by
  intro hO hEL hSf
  refine MetFree.of_bodySF hpl hisR ?_
  intro p e s m args below meth c s₁ Bd hml0 hP _
  obtain ⟨rfl, hZ, rfl, hC, hS⟩ := hP
  have X0 : Stand p l e rm s m args below meth c s₁ [] 0 0 := Stand.of_body Bd
  have ev : s₁.vm = s.vm := by rw [Bd.state]; rfl
  have eh : s₁.heap = s.heap := by rw [Bd.state]; rfl
  rw [hef m]
  refine k p e s m below meth c s₁ Bd.bytes hml0 Bd.returns (name_of_methodNamed Bd.named Bd.method).1 rfl ⟨[], X0.retabled X0.warmed.wide, Bd.exec, Bd.notSynchronized, OSn.of X0.warmed _, by rw [ev]; exact hZ, by rw [ev]; exact findClass_of_methodNamed Bd.named, eh, Fr.nil n0, hEL, by rw [ev]; exact CHr.refl hC, hO, Keep.refl _ _, fun x hx => ⟨(hSf x hx).1, (hSf x hx).2, by rw [ev]; exact hS x hx, Or.inl hx⟩⟩
/-! a call by a contract -/
theorem OCt.back {y : MethodName} {bytes : ByteArray} {maxL : Nat} {ret : Option FieldType} {rm : Room} {as' : Array Value} {Sf : List Addr} {Q : Option Value → Vm → Heap → Prop} {len W : Nat} (hO : Old Z n0 h) (hEL : EW Z a0 EL) (hSf : ∀ x ∈ Sf, n0 ≤ x ∧ x < h.size ∧ Safe Z EL T.vm h x) (hM : OCt l Z a0 EL n0 y bytes maxL ret rm [] as' h Sf Q)
    (hZ : Z.Warmed39 T.vm) (wc : (Jvm.Cond.code y bytes maxL ret).before a0 Z = true) (wz : (Jvm.Cond.initialized y.cls).before a0 Z = true) (hf : rm.frames + 1 ≤ R.frames) (hl : W + (maxL + 11) + rm.locals ≤ R.locals) (H : CHv Z EL T.vm h) :
    BackS l R p e below (s.setVm T.vm) args y len W (fun A a => a = as' ∧ A.U.heap = h ∧ A.cells + rm.cells ≤ R.cells ∧ A.slots + rm.slots ≤ R.slots)
      (fun A _ v B => ∃ L, Q v B.U.vm B.U.heap ∧ Keep h B.U.heap Sf ∧ Fr n0 L ∧ B.locs = A.locs ++ L ∧ B.cells = A.cells + rm.cells ∧ B.slots = A.slots + rm.slots ∧ CHr Z EL T.vm h B.U.vm B.U.heap ∧ (EL = [] → (s.setVm T.vm).WarmedH B.U.vm)) :=
  BackS.of_freeW (bytes := bytes) (maxL := maxL) (ret := ret) (E := fun _ first o t L k n => k = rm.cells ∧ n = rm.slots ∧ (∃ v, o = .returned v ∧ Q v t.vm t.heap ∧ Keep first.heap t.heap Sf ∧ Fr n0 L) ∧ CHr Z EL first.vm first.heap t.vm t.heap ∧ (EL = [] → first.WarmedH t.vm)) (hM hO hEL fun x hx => ⟨(hSf x hx).1, (hSf x hx).2.1⟩) hf hl
    (fun m meth c A a Y hp => have hU : Z.Warmed39 A.U.vm := wtrans (s := s.setVm T.vm) hZ Y.warmed
      ⟨by show (Jvm.Cond.and _ .tt).before a A.U = true; rw [Cond.before_and, mv hU wc]; rfl, mv hU wc, mv hU wz, hp.2.2.1, hp.2.2.2⟩)
    (fun m meth c A a g mk Y hp => ⟨hp.1, wtrans (s := s.setVm T.vm) hZ Y.warmed, hp.2.1, (CHv.at Y hZ hEL H).1, fun x hx => (CHv.at Y hZ hEL H).safe (hSf x hx).2.1 (hSf x hx).2.2⟩) (fun _ _ _ _ _ _ _ _ _ => trivial)
    (fun _ _ _ _ ⟨v, L, h1, ⟨h2, h3, h4⟩, h5, h5', h6⟩ => ⟨L, _, _, h6, rfl, rfl, ⟨v, h1, h2, h3, h4⟩, h5, h5'⟩)
    (fun m meth c A a g mk v t L k n Y hp _ _ ⟨e1, e2, ⟨v', e3, e4, e5, e6⟩, e7, e8⟩ => by
      cases e3; subst e1 e2
      have eh : (A.U.calling g mk a).heap = h := hp.2.1
      rw [eh] at e5 e7
      exact ⟨L, e4, e5, e6, rfl, rfl, rfl, (CHv.at Y hZ hEL H).trans e7, fun q => State.WarmedH.trans (t := A.U) Y.warmed (e8 q)⟩)
/-- behind a call: what every kind of call has in common -/
theorem OPn.behind {y : MethodName} {rm : Room} {Sf : List Addr} {Q : Option Value → Vm → Heap → Prop} {locs : List Loc} {v : Option Value} {B : Pt}
    (hx : p.tables.exec = Jvm.exec) (hlk : meth.locks = false) (hS : OSn EL s T.vm h.size) (hZ : Z.Warmed39 T.vm) (hown : T.vm.findClass own = some m.cls) (eT : T.heap = h) (N : Fr n0 locs) (hEL : EW Z a0 EL) (C : CHr Z EL s.vm s.heap T.vm h) (O : Old Z n0 h) (K : Keep s.heap h W0) (W : ∀ x ∈ Ow, OOwn Z EL n0 W0 s.heap.size T.vm h x) (hsf : ∀ x ∈ Sf, x ∈ Ow)
    (X' : Stand p l e R ((s.setVm T.vm).setVm B.U.vm) m args below meth c B.U B.locs B.cells B.slots) (hS' : (s.setVm T.vm).Since B.U.vm B.U.heap.size) (hle : T.heap.size ≤ B.U.heap.size)
    (hq : ∃ L, Q v B.U.vm B.U.heap ∧ Keep h B.U.heap Sf ∧ Fr n0 L ∧ B.locs = locs ++ L ∧ B.cells = cells + rm.cells ∧ B.slots = slots + rm.slots ∧ CHr Z EL T.vm h B.U.vm B.U.heap ∧ (EL = [] → (s.setVm T.vm).WarmedH B.U.vm)) :
    OPn p l e R s m args below meth c Z a0 EL n0 W0 own B.U B.U.heap Ow (cells + rm.cells) (slots + rm.slots) ∧ Keep h B.U.heap Sf ∧ Q v B.U.vm B.U.heap := by
  subst eT
  obtain ⟨Lc, q, Kq, Nq, e1, e2, e3, Cq, hH⟩ := hq
  rw [e1, e2, e3] at X'
  have hal := hS'.1.alike
  refine ⟨⟨locs ++ Lc, X', hx, hlk, hS.trans ⟨hS', hH⟩ hle, State.Warmed39.trans (t := s.setVm T.vm) hZ hS'.1, (hal.findClass own _).trans hown, rfl, N.app Nq, hEL, C.trans Cq, O.keep Kq fun x hx => (W x (hsf x hx)).1, K.trans Kq fun x hx => (W x (hsf x hx)).2.2.2, fun x hx => ?_⟩, Kq, q⟩
  obtain ⟨r1, r2, r3, r4⟩ := W x hx
  exact ⟨r1, Nat.lt_of_lt_of_le r2 hle, Cq.safe r2 r3, r4⟩
theorem o_iload (P : OPn p l e R s m args below meth c Z a0 EL n0 W0 own T h Ow cells slots) {k0 : Nat} {v : Int32} (hd : decode c.code pc = .ok (.iload k0, 2)) (hl : L[k0]? = some (.val (.int v))) (hp : pc + 2 = pc') (k : OG p e below m Pq T pc' L (.int v :: S)) : OG p e below m Pq T pc L S := by
  subst hp; exact OG.st (fun t q => XS.iload P.here P.ex rfl hd hl q) k
theorem o_iloadN (P : OPn p l e R s m args below meth c Z a0 EL n0 W0 own T h Ow cells slots) {k0 : Fin 4} {v : Int32} (hd : decode c.code pc = .ok (.iload_n k0, 1)) (hl : L[k0.val]? = some (.val (.int v))) (hp : pc + 1 = pc') (k : OG p e below m Pq T pc' L (.int v :: S)) : OG p e below m Pq T pc L S := by
  subst hp; exact OG.st (fun t q => XS.iloadN P.here P.ex rfl hd hl q) k
theorem o_istore (P : OPn p l e R s m args below meth c Z a0 EL n0 W0 own T h Ow cells slots) {k0 : Nat} {v : Int32} (hd : decode c.code pc = .ok (.istore k0, 2)) (hl : storeLocals L k0 (.int v) = some L') (hp : pc + 2 = pc') (k : OG p e below m Pq T pc' L' S) : OG p e below m Pq T pc L (.int v :: S) := by
  subst hp; exact OG.st (fun t q => XS.istore P.here P.ex rfl hd rfl hl q) k
theorem o_istoreN (P : OPn p l e R s m args below meth c Z a0 EL n0 W0 own T h Ow cells slots) {k0 : Fin 4} {v : Int32} (hd : decode c.code pc = .ok (.istore_n k0, 1)) (hl : storeLocals L k0.val (.int v) = some L') (hp : pc + 1 = pc') (k : OG p e below m Pq T pc' L' S) : OG p e below m Pq T pc L (.int v :: S) := by
  subst hp; exact OG.st (fun t q => XS.istoreN P.here P.ex rfl hd rfl hl q) k
theorem o_lload (P : OPn p l e R s m args below meth c Z a0 EL n0 W0 own T h Ow cells slots) {k0 : Nat} {v : Int64} (hd : decode c.code pc = .ok (.lload k0, 2)) (hl : L[k0]? = some (.val (.long v))) (hp : pc + 2 = pc') (k : OG p e below m Pq T pc' L (.long v :: S)) : OG p e below m Pq T pc L S := by
  subst hp; exact OG.st (fun t q => XS.lload P.here P.ex rfl hd hl q) k
theorem o_lloadN (P : OPn p l e R s m args below meth c Z a0 EL n0 W0 own T h Ow cells slots) {k0 : Fin 4} {v : Int64} (hd : decode c.code pc = .ok (.lload_n k0, 1)) (hl : L[k0.val]? = some (.val (.long v))) (hp : pc + 1 = pc') (k : OG p e below m Pq T pc' L (.long v :: S)) : OG p e below m Pq T pc L S := by
  subst hp; exact OG.st (fun t q => XS.lloadN P.here P.ex rfl hd hl q) k
theorem o_lstore (P : OPn p l e R s m args below meth c Z a0 EL n0 W0 own T h Ow cells slots) {k0 : Nat} {v : Int64} (hd : decode c.code pc = .ok (.lstore k0, 2)) (hl : storeLocals L k0 (.long v) = some L') (hp : pc + 2 = pc') (k : OG p e below m Pq T pc' L' S) : OG p e below m Pq T pc L (.long v :: S) := by
  subst hp; exact OG.st (fun t q => XS.lstore P.here P.ex rfl hd rfl hl q) k
theorem o_lstoreN (P : OPn p l e R s m args below meth c Z a0 EL n0 W0 own T h Ow cells slots) {k0 : Fin 4} {v : Int64} (hd : decode c.code pc = .ok (.lstore_n k0, 1)) (hl : storeLocals L k0.val (.long v) = some L') (hp : pc + 1 = pc') (k : OG p e below m Pq T pc' L' S) : OG p e below m Pq T pc L (.long v :: S) := by
  subst hp; exact OG.st (fun t q => XS.lstoreN P.here P.ex rfl hd rfl hl q) k
theorem o_dload (P : OPn p l e R s m args below meth c Z a0 EL n0 W0 own T h Ow cells slots) {k0 : Nat} {v : UInt64} (hd : decode c.code pc = .ok (.dload k0, 2)) (hl : L[k0]? = some (.val (.double v))) (hp : pc + 2 = pc') (k : OG p e below m Pq T pc' L (.double v :: S)) : OG p e below m Pq T pc L S := by
  subst hp; exact OG.st (fun t q => XS.dload P.here P.ex rfl hd hl q) k
theorem o_dloadN (P : OPn p l e R s m args below meth c Z a0 EL n0 W0 own T h Ow cells slots) {k0 : Fin 4} {v : UInt64} (hd : decode c.code pc = .ok (.dload_n k0, 1)) (hl : L[k0.val]? = some (.val (.double v))) (hp : pc + 1 = pc') (k : OG p e below m Pq T pc' L (.double v :: S)) : OG p e below m Pq T pc L S := by
  subst hp; exact OG.st (fun t q => XS.dloadN P.here P.ex rfl hd hl q) k
theorem o_dstore (P : OPn p l e R s m args below meth c Z a0 EL n0 W0 own T h Ow cells slots) {k0 : Nat} {v : UInt64} (hd : decode c.code pc = .ok (.dstore k0, 2)) (hl : storeLocals L k0 (.double v) = some L') (hp : pc + 2 = pc') (k : OG p e below m Pq T pc' L' S) : OG p e below m Pq T pc L (.double v :: S) := by
  subst hp; exact OG.st (fun t q => XS.dstore P.here P.ex rfl hd rfl hl q) k
theorem o_dstoreN (P : OPn p l e R s m args below meth c Z a0 EL n0 W0 own T h Ow cells slots) {k0 : Fin 4} {v : UInt64} (hd : decode c.code pc = .ok (.dstore_n k0, 1)) (hl : storeLocals L k0.val (.double v) = some L') (hp : pc + 1 = pc') (k : OG p e below m Pq T pc' L' S) : OG p e below m Pq T pc L (.double v :: S) := by
  subst hp; exact OG.st (fun t q => XS.dstoreN P.here P.ex rfl hd rfl hl q) k
theorem o_aload (P : OPn p l e R s m args below meth c Z a0 EL n0 W0 own T h Ow cells slots) {k0 : Nat} {v : Value} (hd : decode c.code pc = .ok (.aload k0, 2)) (hl : L[k0]? = some (.val v)) (hv : v.isRef = true) (hp : pc + 2 = pc') (k : OG p e below m Pq T pc' L (v :: S)) : OG p e below m Pq T pc L S := by
  subst hp; exact OG.st (fun t q => XS.aload P.here P.ex rfl hd hl hv q) k
theorem o_aloadN (P : OPn p l e R s m args below meth c Z a0 EL n0 W0 own T h Ow cells slots) {k0 : Fin 4} {v : Value} (hd : decode c.code pc = .ok (.aload_n k0, 1)) (hl : L[k0.val]? = some (.val v)) (hv : v.isRef = true) (hp : pc + 1 = pc') (k : OG p e below m Pq T pc' L (v :: S)) : OG p e below m Pq T pc L S := by
  subst hp; exact OG.st (fun t q => XS.aloadN P.here P.ex rfl hd hl hv q) k
theorem o_astore (P : OPn p l e R s m args below meth c Z a0 EL n0 W0 own T h Ow cells slots) {k0 : Nat} {v : Value} (hd : decode c.code pc = .ok (.astore k0, 2)) (hv : v.isRef = true) (hl : storeLocals L k0 v = some L') (hp : pc + 2 = pc') (k : OG p e below m Pq T pc' L' S) : OG p e below m Pq T pc L (v :: S) := by
  subst hp; exact OG.st (fun t q => XS.astore P.here P.ex rfl hd rfl hv hl q) k
theorem o_astoreN (P : OPn p l e R s m args below meth c Z a0 EL n0 W0 own T h Ow cells slots) {k0 : Fin 4} {v : Value} (hd : decode c.code pc = .ok (.astore_n k0, 1)) (hv : v.isRef = true) (hl : storeLocals L k0.val v = some L') (hp : pc + 1 = pc') (k : OG p e below m Pq T pc' L' S) : OG p e below m Pq T pc L (v :: S) := by
  subst hp; exact OG.st (fun t q => XS.astoreN P.here P.ex rfl hd rfl hv hl q) k
theorem o_iconst (P : OPn p l e R s m args below meth c Z a0 EL n0 W0 own T h Ow cells slots) {i : Int} (v : Int32) (hd : decode c.code pc = .ok (.iconst i, 1)) (hv : Int32.ofInt i = v) (hp : pc + 1 = pc') (k : OG p e below m Pq T pc' L (.int v :: S)) : OG p e below m Pq T pc L S := by
  subst hp; exact OG.st (fun t q => XS.iconst P.here P.ex rfl hd (hv ▸ q)) k
theorem o_bipush (P : OPn p l e R s m args below meth c Z a0 EL n0 W0 own T h Ow cells slots) {i : Int} (v : Int32) (hd : decode c.code pc = .ok (.bipush i, 2)) (hv : (Int8.ofInt i).toInt32 = v) (hp : pc + 2 = pc') (k : OG p e below m Pq T pc' L (.int v :: S)) : OG p e below m Pq T pc L S := by
  subst hp; exact OG.st (fun t q => XS.bipush P.here P.ex rfl hd (hv ▸ q)) k
theorem o_sipush (P : OPn p l e R s m args below meth c Z a0 EL n0 W0 own T h Ow cells slots) {i : Int} (v : Int32) (hd : decode c.code pc = .ok (.sipush i, 3)) (hv : (Int16.ofInt i).toInt32 = v) (hp : pc + 3 = pc') (k : OG p e below m Pq T pc' L (.int v :: S)) : OG p e below m Pq T pc L S := by
  subst hp; exact OG.st (fun t q => XS.sipush P.here P.ex rfl hd (hv ▸ q)) k
theorem o_lconst (P : OPn p l e R s m args below meth c Z a0 EL n0 W0 own T h Ow cells slots) {i : Fin 2} (v : Int64) (hd : decode c.code pc = .ok (.lconst i, 1)) (hv : Int64.ofNat i = v) (hp : pc + 1 = pc') (k : OG p e below m Pq T pc' L (.long v :: S)) : OG p e below m Pq T pc L S := by
  subst hp; exact OG.st (fun t q => XS.lconst P.here P.ex rfl hd (hv ▸ q)) k
theorem o_dconst0 (P : OPn p l e R s m args below meth c Z a0 EL n0 W0 own T h Ow cells slots) {v : UInt64} (hd : decode c.code pc = .ok (.dconst 0, 1)) (hv : FP.dconst0 = v) (hp : pc + 1 = pc') (k : OG p e below m Pq T pc' L (.double v :: S)) : OG p e below m Pq T pc L S := by
  subst hp; exact OG.st (fun t q => XS.dconst0 P.here P.ex rfl hd hv q) k
theorem o_dconst1 (P : OPn p l e R s m args below meth c Z a0 EL n0 W0 own T h Ow cells slots) {v : UInt64} (hd : decode c.code pc = .ok (.dconst 1, 1)) (hv : FP.dconst1 = v) (hp : pc + 1 = pc') (k : OG p e below m Pq T pc' L (.double v :: S)) : OG p e below m Pq T pc L S := by
  subst hp; exact OG.st (fun t q => XS.dconst1 P.here P.ex rfl hd hv q) k
theorem o_aconstNull (P : OPn p l e R s m args below meth c Z a0 EL n0 W0 own T h Ow cells slots)  (hd : decode c.code pc = .ok (.aconst_null, 1)) (hp : pc + 1 = pc') (k : OG p e below m Pq T pc' L (.null :: S)) : OG p e below m Pq T pc L S := by
  subst hp; exact OG.st (fun t q => XS.aconstNull P.here P.ex rfl hd q) k
theorem o_iadd (P : OPn p l e R s m args below meth c Z a0 EL n0 W0 own T h Ow cells slots) {x y : Int32} (hd : decode c.code pc = .ok (.iadd, 1)) (hp : pc + 1 = pc') (k : OG p e below m Pq T pc' L (.int (x + y) :: S)) : OG p e below m Pq T pc L (.int y :: .int x :: S) := by
  subst hp; exact OG.st (fun t q => XS.iadd P.here P.ex rfl hd rfl q) k
theorem o_ladd (P : OPn p l e R s m args below meth c Z a0 EL n0 W0 own T h Ow cells slots) {x y : Int64} (hd : decode c.code pc = .ok (.ladd, 1)) (hp : pc + 1 = pc') (k : OG p e below m Pq T pc' L (.long (x + y) :: S)) : OG p e below m Pq T pc L (.long y :: .long x :: S) := by
  subst hp; exact OG.st (fun t q => XS.ladd P.here P.ex rfl hd rfl q) k
theorem o_isub (P : OPn p l e R s m args below meth c Z a0 EL n0 W0 own T h Ow cells slots) {x y : Int32} (hd : decode c.code pc = .ok (.isub, 1)) (hp : pc + 1 = pc') (k : OG p e below m Pq T pc' L (.int (x - y) :: S)) : OG p e below m Pq T pc L (.int y :: .int x :: S) := by
  subst hp; exact OG.st (fun t q => XS.isub P.here P.ex rfl hd rfl q) k
theorem o_lsub (P : OPn p l e R s m args below meth c Z a0 EL n0 W0 own T h Ow cells slots) {x y : Int64} (hd : decode c.code pc = .ok (.lsub, 1)) (hp : pc + 1 = pc') (k : OG p e below m Pq T pc' L (.long (x - y) :: S)) : OG p e below m Pq T pc L (.long y :: .long x :: S) := by
  subst hp; exact OG.st (fun t q => XS.lsub P.here P.ex rfl hd rfl q) k
theorem o_imul (P : OPn p l e R s m args below meth c Z a0 EL n0 W0 own T h Ow cells slots) {x y : Int32} (hd : decode c.code pc = .ok (.imul, 1)) (hp : pc + 1 = pc') (k : OG p e below m Pq T pc' L (.int (x * y) :: S)) : OG p e below m Pq T pc L (.int y :: .int x :: S) := by
  subst hp; exact OG.st (fun t q => XS.imul P.here P.ex rfl hd rfl q) k
theorem o_lmul (P : OPn p l e R s m args below meth c Z a0 EL n0 W0 own T h Ow cells slots) {x y : Int64} (hd : decode c.code pc = .ok (.lmul, 1)) (hp : pc + 1 = pc') (k : OG p e below m Pq T pc' L (.long (x * y) :: S)) : OG p e below m Pq T pc L (.long y :: .long x :: S) := by
  subst hp; exact OG.st (fun t q => XS.lmul P.here P.ex rfl hd rfl q) k
theorem o_iand (P : OPn p l e R s m args below meth c Z a0 EL n0 W0 own T h Ow cells slots) {x y : Int32} (hd : decode c.code pc = .ok (.iand, 1)) (hp : pc + 1 = pc') (k : OG p e below m Pq T pc' L (.int (x &&& y) :: S)) : OG p e below m Pq T pc L (.int y :: .int x :: S) := by
  subst hp; exact OG.st (fun t q => XS.iand P.here P.ex rfl hd rfl q) k
theorem o_land (P : OPn p l e R s m args below meth c Z a0 EL n0 W0 own T h Ow cells slots) {x y : Int64} (hd : decode c.code pc = .ok (.land, 1)) (hp : pc + 1 = pc') (k : OG p e below m Pq T pc' L (.long (x &&& y) :: S)) : OG p e below m Pq T pc L (.long y :: .long x :: S) := by
  subst hp; exact OG.st (fun t q => XS.land P.here P.ex rfl hd rfl q) k
theorem o_ior (P : OPn p l e R s m args below meth c Z a0 EL n0 W0 own T h Ow cells slots) {x y : Int32} (hd : decode c.code pc = .ok (.ior, 1)) (hp : pc + 1 = pc') (k : OG p e below m Pq T pc' L (.int (x ||| y) :: S)) : OG p e below m Pq T pc L (.int y :: .int x :: S) := by
  subst hp; exact OG.st (fun t q => XS.ior P.here P.ex rfl hd rfl q) k
theorem o_lor (P : OPn p l e R s m args below meth c Z a0 EL n0 W0 own T h Ow cells slots) {x y : Int64} (hd : decode c.code pc = .ok (.lor, 1)) (hp : pc + 1 = pc') (k : OG p e below m Pq T pc' L (.long (x ||| y) :: S)) : OG p e below m Pq T pc L (.long y :: .long x :: S) := by
  subst hp; exact OG.st (fun t q => XS.lor P.here P.ex rfl hd rfl q) k
theorem o_ixor (P : OPn p l e R s m args below meth c Z a0 EL n0 W0 own T h Ow cells slots) {x y : Int32} (hd : decode c.code pc = .ok (.ixor, 1)) (hp : pc + 1 = pc') (k : OG p e below m Pq T pc' L (.int (x ^^^ y) :: S)) : OG p e below m Pq T pc L (.int y :: .int x :: S) := by
  subst hp; exact OG.st (fun t q => XS.ixor P.here P.ex rfl hd rfl q) k
theorem o_lxor (P : OPn p l e R s m args below meth c Z a0 EL n0 W0 own T h Ow cells slots) {x y : Int64} (hd : decode c.code pc = .ok (.lxor, 1)) (hp : pc + 1 = pc') (k : OG p e below m Pq T pc' L (.long (x ^^^ y) :: S)) : OG p e below m Pq T pc L (.long y :: .long x :: S) := by
  subst hp; exact OG.st (fun t q => XS.lxor P.here P.ex rfl hd rfl q) k
theorem o_idiv (P : OPn p l e R s m args below meth c Z a0 EL n0 W0 own T h Ow cells slots) {x y : Int32} (hd : decode c.code pc = .ok (.idiv, 1)) (hy : y ≠ 0) (hp : pc + 1 = pc') (k : OG p e below m Pq T pc' L (.int (x / y) :: S)) : OG p e below m Pq T pc L (.int y :: .int x :: S) := by
  subst hp; exact OG.st (fun t q => XS.idiv P.here P.ex rfl hd rfl hy q) k
theorem o_ldiv (P : OPn p l e R s m args below meth c Z a0 EL n0 W0 own T h Ow cells slots) {x y : Int64} (hd : decode c.code pc = .ok (.ldiv, 1)) (hy : y ≠ 0) (hp : pc + 1 = pc') (k : OG p e below m Pq T pc' L (.long (x / y) :: S)) : OG p e below m Pq T pc L (.long y :: .long x :: S) := by
  subst hp; exact OG.st (fun t q => XS.ldiv P.here P.ex rfl hd rfl hy q) k
theorem o_irem (P : OPn p l e R s m args below meth c Z a0 EL n0 W0 own T h Ow cells slots) {x y : Int32} (hd : decode c.code pc = .ok (.irem, 1)) (hy : y ≠ 0) (hp : pc + 1 = pc') (k : OG p e below m Pq T pc' L (.int (x % y) :: S)) : OG p e below m Pq T pc L (.int y :: .int x :: S) := by
  subst hp; exact OG.st (fun t q => XS.irem P.here P.ex rfl hd rfl hy (by rw [irem_eq_mod]; exact q)) k
theorem o_lrem (P : OPn p l e R s m args below meth c Z a0 EL n0 W0 own T h Ow cells slots) {x y : Int64} (hd : decode c.code pc = .ok (.lrem, 1)) (hy : y ≠ 0) (hp : pc + 1 = pc') (k : OG p e below m Pq T pc' L (.long (x % y) :: S)) : OG p e below m Pq T pc L (.long y :: .long x :: S) := by
  subst hp; exact OG.st (fun t q => XS.lrem P.here P.ex rfl hd rfl hy (by rw [lrem_mod]; exact q)) k
theorem o_ineg (P : OPn p l e R s m args below meth c Z a0 EL n0 W0 own T h Ow cells slots) {x : Int32} (hd : decode c.code pc = .ok (.ineg, 1)) (hp : pc + 1 = pc') (k : OG p e below m Pq T pc' L (.int (-x) :: S)) : OG p e below m Pq T pc L (.int x :: S) := by
  subst hp; exact OG.st (fun t q => XS.ineg P.here P.ex rfl hd rfl q) k
theorem o_lneg (P : OPn p l e R s m args below meth c Z a0 EL n0 W0 own T h Ow cells slots) {x : Int64} (hd : decode c.code pc = .ok (.lneg, 1)) (hp : pc + 1 = pc') (k : OG p e below m Pq T pc' L (.long (-x) :: S)) : OG p e below m Pq T pc L (.long x :: S) := by
  subst hp; exact OG.st (fun t q => XS.lneg P.here P.ex rfl hd rfl q) k
theorem o_ishl (P : OPn p l e R s m args below meth c Z a0 EL n0 W0 own T h Ow cells slots) {x y : Int32} (hd : decode c.code pc = .ok (.ishl, 1)) (hp : pc + 1 = pc') (k : OG p e below m Pq T pc' L (.int (x <<< (y &&& 31)) :: S)) : OG p e below m Pq T pc L (.int y :: .int x :: S) := by
  subst hp; exact OG.st (fun t q => XS.ishl P.here P.ex rfl hd rfl q) k
theorem o_ishr (P : OPn p l e R s m args below meth c Z a0 EL n0 W0 own T h Ow cells slots) {x y : Int32} (hd : decode c.code pc = .ok (.ishr, 1)) (hp : pc + 1 = pc') (k : OG p e below m Pq T pc' L (.int (x >>> (y &&& 31)) :: S)) : OG p e below m Pq T pc L (.int y :: .int x :: S) := by
  subst hp; exact OG.st (fun t q => XS.ishr P.here P.ex rfl hd rfl q) k
theorem o_iushr (P : OPn p l e R s m args below meth c Z a0 EL n0 W0 own T h Ow cells slots) {x y : Int32} (hd : decode c.code pc = .ok (.iushr, 1)) (hp : pc + 1 = pc') (k : OG p e below m Pq T pc' L (.int ((x.toUInt32 >>> (y &&& 31).toUInt32).toInt32) :: S)) : OG p e below m Pq T pc L (.int y :: .int x :: S) := by
  subst hp; exact OG.st (fun t q => XS.iushr P.here P.ex rfl hd rfl q) k
theorem o_lshl (P : OPn p l e R s m args below meth c Z a0 EL n0 W0 own T h Ow cells slots) {x : Int64} {y : Int32} (hd : decode c.code pc = .ok (.lshl, 1)) (hp : pc + 1 = pc') (k : OG p e below m Pq T pc' L (.long (x <<< (y &&& 0x3f).toInt64) :: S)) : OG p e below m Pq T pc L (.int y :: .long x :: S) := by
  subst hp; exact OG.st (fun t q => XS.lshl P.here P.ex rfl hd rfl q) k
theorem o_lshr (P : OPn p l e R s m args below meth c Z a0 EL n0 W0 own T h Ow cells slots) {x : Int64} {y : Int32} (hd : decode c.code pc = .ok (.lshr, 1)) (hp : pc + 1 = pc') (k : OG p e below m Pq T pc' L (.long (x >>> (y &&& 0x3f).toInt64) :: S)) : OG p e below m Pq T pc L (.int y :: .long x :: S) := by
  subst hp; exact OG.st (fun t q => XS.lshr P.here P.ex rfl hd rfl q) k
theorem o_lushr (P : OPn p l e R s m args below meth c Z a0 EL n0 W0 own T h Ow cells slots) {x : Int64} {y : Int32} (hd : decode c.code pc = .ok (.lushr, 1)) (hp : pc + 1 = pc') (k : OG p e below m Pq T pc' L (.long ((x.toUInt64 >>> (y &&& 0x3f).toInt64.toUInt64).toInt64) :: S)) : OG p e below m Pq T pc L (.int y :: .long x :: S) := by
  subst hp; exact OG.st (fun t q => XS.lushr P.here P.ex rfl hd rfl q) k
theorem o_i2l (P : OPn p l e R s m args below meth c Z a0 EL n0 W0 own T h Ow cells slots) {x : Int32} (hd : decode c.code pc = .ok (.i2l, 1)) (hp : pc + 1 = pc') (k : OG p e below m Pq T pc' L (.long (x.toInt64) :: S)) : OG p e below m Pq T pc L (.int x :: S) := by
  subst hp; exact OG.st (fun t q => XS.i2l P.here P.ex rfl hd rfl q) k
theorem o_l2i (P : OPn p l e R s m args below meth c Z a0 EL n0 W0 own T h Ow cells slots) {x : Int64} (hd : decode c.code pc = .ok (.l2i, 1)) (hp : pc + 1 = pc') (k : OG p e below m Pq T pc' L (.int (x.toInt32) :: S)) : OG p e below m Pq T pc L (.long x :: S) := by
  subst hp; exact OG.st (fun t q => XS.l2i P.here P.ex rfl hd rfl q) k
theorem o_i2b (P : OPn p l e R s m args below meth c Z a0 EL n0 W0 own T h Ow cells slots) {x : Int32} (hd : decode c.code pc = .ok (.i2b, 1)) (hp : pc + 1 = pc') (k : OG p e below m Pq T pc' L (.int (x.toInt8.toInt32) :: S)) : OG p e below m Pq T pc L (.int x :: S) := by
  subst hp; exact OG.st (fun t q => XS.i2b P.here P.ex rfl hd rfl q) k
theorem o_i2s (P : OPn p l e R s m args below meth c Z a0 EL n0 W0 own T h Ow cells slots) {x : Int32} (hd : decode c.code pc = .ok (.i2s, 1)) (hp : pc + 1 = pc') (k : OG p e below m Pq T pc' L (.int (x.toInt16.toInt32) :: S)) : OG p e below m Pq T pc L (.int x :: S) := by
  subst hp; exact OG.st (fun t q => XS.i2s P.here P.ex rfl hd rfl q) k
theorem o_i2c (P : OPn p l e R s m args below meth c Z a0 EL n0 W0 own T h Ow cells slots) {x : Int32} (hd : decode c.code pc = .ok (.i2c, 1)) (hp : pc + 1 = pc') (k : OG p e below m Pq T pc' L (.int (x.toUInt32.toUInt16.toUInt32.toInt32) :: S)) : OG p e below m Pq T pc L (.int x :: S) := by
  subst hp; exact OG.st (fun t q => XS.i2c P.here P.ex rfl hd rfl q) k
theorem o_lcmp (P : OPn p l e R s m args below meth c Z a0 EL n0 W0 own T h Ow cells slots) {x y : Int64} (hd : decode c.code pc = .ok (.lcmp, 1)) (hp : pc + 1 = pc') (k : OG p e below m Pq T pc' L (.int (lcmpW x y) :: S)) : OG p e below m Pq T pc L (.long y :: .long x :: S) := by
  subst hp; exact OG.st (fun t q => XS.lcmp P.here P.ex rfl hd rfl q) k
theorem o_i2d (P : OPn p l e R s m args below meth c Z a0 EL n0 W0 own T h Ow cells slots) {x : Int32} {v : UInt64} (hd : decode c.code pc = .ok (.i2d, 1)) (hv : FP.i2d x = v) (hp : pc + 1 = pc') (k : OG p e below m Pq T pc' L (.double v :: S)) : OG p e below m Pq T pc L (.int x :: S) := by
  subst hp; exact OG.st (fun t q => XS.i2dS P.here P.ex rfl hd rfl hv q) k
theorem o_dadd (P : OPn p l e R s m args below meth c Z a0 EL n0 W0 own T h Ow cells slots) {x y v : UInt64} (hd : decode c.code pc = .ok (.dadd, 1)) (hn : Jvm.Free.Fl.NoNaN64 (FP.dadd x y)) (hv : FP.dadd x y = v) (hp : pc + 1 = pc') (k : OG p e below m Pq T pc' L (.double v :: S)) : OG p e below m Pq T pc L (.double y :: .double x :: S) := by
  subst hp; exact OG.st (fun t q => XS.daddS P.here P.ex rfl hd rfl hn hv q) k
theorem o_dmul (P : OPn p l e R s m args below meth c Z a0 EL n0 W0 own T h Ow cells slots) {x y v : UInt64} (hd : decode c.code pc = .ok (.dmul, 1)) (hn : Jvm.Free.Fl.NoNaN64 (FP.dmul x y)) (hv : FP.dmul x y = v) (hp : pc + 1 = pc') (k : OG p e below m Pq T pc' L (.double v :: S)) : OG p e below m Pq T pc L (.double y :: .double x :: S) := by
  subst hp; exact OG.st (fun t q => XS.dmulS P.here P.ex rfl hd rfl hn hv q) k
theorem o_ddiv (P : OPn p l e R s m args below meth c Z a0 EL n0 W0 own T h Ow cells slots) {x y v : UInt64} (hd : decode c.code pc = .ok (.ddiv, 1)) (hn : Jvm.Free.Fl.NoNaN64 (FP.ddiv x y)) (hv : FP.ddiv x y = v) (hp : pc + 1 = pc') (k : OG p e below m Pq T pc' L (.double v :: S)) : OG p e below m Pq T pc L (.double y :: .double x :: S) := by
  subst hp; exact OG.st (fun t q => XS.ddivS P.here P.ex rfl hd rfl hn hv q) k
theorem o_dcmp (P : OPn p l e R s m args below meth c Z a0 EL n0 W0 own T h Ow cells slots) {o : CmpOp} {x y : UInt64} {v : Int32} (hd : decode c.code pc = .ok (.dcmp o, 1)) (hv : cmpValue (FP.dcmp x y) o = v) (hp : pc + 1 = pc') (k : OG p e below m Pq T pc' L (.int v :: S)) : OG p e below m Pq T pc L (.double y :: .double x :: S) := by
  subst hp; exact OG.st (fun t q => XS.dcmpS P.here P.ex rfl hd rfl hv q) k
theorem o_dup (P : OPn p l e R s m args below meth c Z a0 EL n0 W0 own T h Ow cells slots) {x : Value} (hd : decode c.code pc = .ok (.dup, 1)) (hc : x.category = 1) (hp : pc + 1 = pc') (k : OG p e below m Pq T pc' L (x :: x :: S)) : OG p e below m Pq T pc L (x :: S) := by
  subst hp; exact OG.st (fun t q => XS.dup P.here P.ex rfl hd rfl hc q) k
theorem o_pop (P : OPn p l e R s m args below meth c Z a0 EL n0 W0 own T h Ow cells slots) {x : Value} (hd : decode c.code pc = .ok (.pop, 1)) (hc : x.category = 1) (hp : pc + 1 = pc') (k : OG p e below m Pq T pc' L S) : OG p e below m Pq T pc L (x :: S) := by
  subst hp; exact OG.st (fun t q => XS.pop P.here P.ex rfl hd rfl hc q) k
theorem o_swap (P : OPn p l e R s m args below meth c Z a0 EL n0 W0 own T h Ow cells slots) {x y : Value} (hd : decode c.code pc = .ok (.swap, 1)) (hc : x.category = 1) (hc2 : y.category = 1) (hp : pc + 1 = pc') (k : OG p e below m Pq T pc' L (y :: x :: S)) : OG p e below m Pq T pc L (x :: y :: S) := by
  subst hp; exact OG.st (fun t q => XS.swap P.here P.ex rfl hd rfl hc hc2 q) k
theorem o_dupX1 (P : OPn p l e R s m args below meth c Z a0 EL n0 W0 own T h Ow cells slots) {x y : Value} (hd : decode c.code pc = .ok (.dup_x1, 1)) (hc : x.category = 1) (hc2 : y.category = 1) (hp : pc + 1 = pc') (k : OG p e below m Pq T pc' L (x :: y :: x :: S)) : OG p e below m Pq T pc L (x :: y :: S) := by
  subst hp; exact OG.st (fun t q => XS.dupX1 P.here P.ex rfl hd rfl hc hc2 q) k
theorem o_dup2 (P : OPn p l e R s m args below meth c Z a0 EL n0 W0 own T h Ow cells slots) {x y : Value} (hd : decode c.code pc = .ok (.dup2, 1)) (hc : x.category = 1) (hc2 : y.category = 1) (hp : pc + 1 = pc') (k : OG p e below m Pq T pc' L (x :: y :: x :: y :: S)) : OG p e below m Pq T pc L (x :: y :: S) := by
  subst hp; exact OG.st (fun t q => Jvm.Free.XT.dup2 P.here P.ex rfl hd rfl hc hc2 q) k
theorem o_dup2L (P : OPn p l e R s m args below meth c Z a0 EL n0 W0 own T h Ow cells slots) {x : Int64} (hd : decode c.code pc = .ok (.dup2, 1)) (hp : pc + 1 = pc') (k : OG p e below m Pq T pc' L (.long x :: .long x :: S)) : OG p e below m Pq T pc L (.long x :: S) := by
  subst hp; exact OG.st (fun t q => Jvm.Free.XT.dup2L P.here P.ex rfl hd rfl q) k
theorem o_iinc (P : OPn p l e R s m args below meth c Z a0 EL n0 W0 own T h Ow cells slots) {k0 : Nat} {i : Int} {x : Int32} (v : Int32) (hd : decode c.code pc = .ok (.iinc k0 i, 3)) (hv : Int32.ofInt i = v) (hl : L[k0]? = some (.val (.int x))) (hl' : storeLocals L k0 (.int (x + v)) = some L') (hp : pc + 3 = pc') (k : OG p e below m Pq T pc' L' S) : OG p e below m Pq T pc L S := by
  subst hp; exact OG.st (fun t q => XS.iinc P.here P.ex rfl hd hl (hv ▸ hl') q) k
theorem o_goto (P : OPn p l e R s m args below meth c Z a0 EL n0 W0 own T h Ow cells slots) {o : Int} (hd : decode c.code pc = .ok (.goto o, 3)) (ho : 0 ≤ (pc : Int) + o) (hp : ((pc : Int) + o).toNat = pc') (k : OG p e below m Pq T pc' L S) : OG p e below m Pq T pc L S :=
  OG.st (fun t q => XS.goto P.here P.ex rfl rfl hd ho hp q) k
theorem o_icmp_lt (P : OPn p l e R s m args below meth c Z a0 EL n0 W0 own T h Ow cells slots) {o : Int} {x y : Int32} {pcf : Nat} (hd : decode c.code pc = .ok (.if_icmp .lt o, 3)) (ho : 0 ≤ (pc : Int) + o) (hp : ((pc : Int) + o).toNat = pc') (hq : pc + 3 = pcf) (k1 : x < y → OG p e below m Pq T pc' L S) (k2 : ¬ x < y → OG p e below m Pq T pcf L S) : OG p e below m Pq T pc L (.int y :: .int x :: S) := by
  by_cases q : x < y
  · exact OG.st (fun t r => XS.icmpYes P.here P.ex rfl rfl hd rfl (tlt q).1 ho hp r) (k1 q)
  · subst hq; exact OG.st (fun t r => XS.icmpNo P.here P.ex rfl hd rfl (flt q).1 r) (k2 q)
theorem o_if_lt (P : OPn p l e R s m args below meth c Z a0 EL n0 W0 own T h Ow cells slots) {o : Int} {x : Int32} {pcf : Nat} (hd : decode c.code pc = .ok (.ifCond .lt o, 3)) (ho : 0 ≤ (pc : Int) + o) (hp : ((pc : Int) + o).toNat = pc') (hq : pc + 3 = pcf) (k1 : x < (0 : Int32) → OG p e below m Pq T pc' L S) (k2 : ¬ x < (0 : Int32) → OG p e below m Pq T pcf L S) : OG p e below m Pq T pc L (.int x :: S) := by
  by_cases q : x < (0 : Int32)
  · exact OG.st (fun t r => XS.ifYes P.here P.ex rfl rfl hd rfl ((if0 _ _).trans (tlt q).1) ho hp r) (k1 q)
  · subst hq; exact OG.st (fun t r => XS.ifNo P.here P.ex rfl hd rfl ((if0 _ _).trans (flt q).1) r) (k2 q)
theorem o_icmp_ge (P : OPn p l e R s m args below meth c Z a0 EL n0 W0 own T h Ow cells slots) {o : Int} {x y : Int32} {pcf : Nat} (hd : decode c.code pc = .ok (.if_icmp .ge o, 3)) (ho : 0 ≤ (pc : Int) + o) (hp : ((pc : Int) + o).toNat = pc') (hq : pc + 3 = pcf) (k1 : ¬ x < y → OG p e below m Pq T pc' L S) (k2 : x < y → OG p e below m Pq T pcf L S) : OG p e below m Pq T pc L (.int y :: .int x :: S) := by
  by_cases q : x < y
  · subst hq; exact OG.st (fun t r => XS.icmpNo P.here P.ex rfl hd rfl (tlt q).2.1 r) (k2 q)
  · exact OG.st (fun t r => XS.icmpYes P.here P.ex rfl rfl hd rfl (flt q).2.1 ho hp r) (k1 q)
theorem o_if_ge (P : OPn p l e R s m args below meth c Z a0 EL n0 W0 own T h Ow cells slots) {o : Int} {x : Int32} {pcf : Nat} (hd : decode c.code pc = .ok (.ifCond .ge o, 3)) (ho : 0 ≤ (pc : Int) + o) (hp : ((pc : Int) + o).toNat = pc') (hq : pc + 3 = pcf) (k1 : ¬ x < (0 : Int32) → OG p e below m Pq T pc' L S) (k2 : x < (0 : Int32) → OG p e below m Pq T pcf L S) : OG p e below m Pq T pc L (.int x :: S) := by
  by_cases q : x < (0 : Int32)
  · subst hq; exact OG.st (fun t r => XS.ifNo P.here P.ex rfl hd rfl ((if0 _ _).trans (tlt q).2.1) r) (k2 q)
  · exact OG.st (fun t r => XS.ifYes P.here P.ex rfl rfl hd rfl ((if0 _ _).trans (flt q).2.1) ho hp r) (k1 q)
theorem o_icmp_gt (P : OPn p l e R s m args below meth c Z a0 EL n0 W0 own T h Ow cells slots) {o : Int} {x y : Int32} {pcf : Nat} (hd : decode c.code pc = .ok (.if_icmp .gt o, 3)) (ho : 0 ≤ (pc : Int) + o) (hp : ((pc : Int) + o).toNat = pc') (hq : pc + 3 = pcf) (k1 : y < x → OG p e below m Pq T pc' L S) (k2 : ¬ y < x → OG p e below m Pq T pcf L S) : OG p e below m Pq T pc L (.int y :: .int x :: S) := by
  by_cases q : y < x
  · exact OG.st (fun t r => XS.icmpYes P.here P.ex rfl rfl hd rfl (tlt q).2.2.1 ho hp r) (k1 q)
  · subst hq; exact OG.st (fun t r => XS.icmpNo P.here P.ex rfl hd rfl (flt q).2.2.1 r) (k2 q)
theorem o_if_gt (P : OPn p l e R s m args below meth c Z a0 EL n0 W0 own T h Ow cells slots) {o : Int} {x : Int32} {pcf : Nat} (hd : decode c.code pc = .ok (.ifCond .gt o, 3)) (ho : 0 ≤ (pc : Int) + o) (hp : ((pc : Int) + o).toNat = pc') (hq : pc + 3 = pcf) (k1 : (0 : Int32) < x → OG p e below m Pq T pc' L S) (k2 : ¬ (0 : Int32) < x → OG p e below m Pq T pcf L S) : OG p e below m Pq T pc L (.int x :: S) := by
  by_cases q : (0 : Int32) < x
  · exact OG.st (fun t r => XS.ifYes P.here P.ex rfl rfl hd rfl ((if0 _ _).trans (tlt q).2.2.1) ho hp r) (k1 q)
  · subst hq; exact OG.st (fun t r => XS.ifNo P.here P.ex rfl hd rfl ((if0 _ _).trans (flt q).2.2.1) r) (k2 q)
theorem o_icmp_le (P : OPn p l e R s m args below meth c Z a0 EL n0 W0 own T h Ow cells slots) {o : Int} {x y : Int32} {pcf : Nat} (hd : decode c.code pc = .ok (.if_icmp .le o, 3)) (ho : 0 ≤ (pc : Int) + o) (hp : ((pc : Int) + o).toNat = pc') (hq : pc + 3 = pcf) (k1 : ¬ y < x → OG p e below m Pq T pc' L S) (k2 : y < x → OG p e below m Pq T pcf L S) : OG p e below m Pq T pc L (.int y :: .int x :: S) := by
  by_cases q : y < x
  · subst hq; exact OG.st (fun t r => XS.icmpNo P.here P.ex rfl hd rfl (tlt q).2.2.2 r) (k2 q)
  · exact OG.st (fun t r => XS.icmpYes P.here P.ex rfl rfl hd rfl (flt q).2.2.2 ho hp r) (k1 q)
theorem o_if_le (P : OPn p l e R s m args below meth c Z a0 EL n0 W0 own T h Ow cells slots) {o : Int} {x : Int32} {pcf : Nat} (hd : decode c.code pc = .ok (.ifCond .le o, 3)) (ho : 0 ≤ (pc : Int) + o) (hp : ((pc : Int) + o).toNat = pc') (hq : pc + 3 = pcf) (k1 : ¬ (0 : Int32) < x → OG p e below m Pq T pc' L S) (k2 : (0 : Int32) < x → OG p e below m Pq T pcf L S) : OG p e below m Pq T pc L (.int x :: S) := by
  by_cases q : (0 : Int32) < x
  · subst hq; exact OG.st (fun t r => XS.ifNo P.here P.ex rfl hd rfl ((if0 _ _).trans (tlt q).2.2.2) r) (k2 q)
  · exact OG.st (fun t r => XS.ifYes P.here P.ex rfl rfl hd rfl ((if0 _ _).trans (flt q).2.2.2) ho hp r) (k1 q)
theorem o_icmp_eq (P : OPn p l e R s m args below meth c Z a0 EL n0 W0 own T h Ow cells slots) {o : Int} {x y : Int32} {pcf : Nat} (hd : decode c.code pc = .ok (.if_icmp .eq o, 3)) (ho : 0 ≤ (pc : Int) + o) (hp : ((pc : Int) + o).toNat = pc') (hq : pc + 3 = pcf) (k1 : x = y → OG p e below m Pq T pc' L S) (k2 : ¬ x = y → OG p e below m Pq T pcf L S) : OG p e below m Pq T pc L (.int y :: .int x :: S) := by
  by_cases q : x = y
  · exact OG.st (fun t r => XS.icmpYes P.here P.ex rfl rfl hd rfl (teq q).1 ho hp r) (k1 q)
  · subst hq; exact OG.st (fun t r => XS.icmpNo P.here P.ex rfl hd rfl (feq q).1 r) (k2 q)
theorem o_if_eq (P : OPn p l e R s m args below meth c Z a0 EL n0 W0 own T h Ow cells slots) {o : Int} {x : Int32} {pcf : Nat} (hd : decode c.code pc = .ok (.ifCond .eq o, 3)) (ho : 0 ≤ (pc : Int) + o) (hp : ((pc : Int) + o).toNat = pc') (hq : pc + 3 = pcf) (k1 : x = (0 : Int32) → OG p e below m Pq T pc' L S) (k2 : ¬ x = (0 : Int32) → OG p e below m Pq T pcf L S) : OG p e below m Pq T pc L (.int x :: S) := by
  by_cases q : x = (0 : Int32)
  · exact OG.st (fun t r => XS.ifYes P.here P.ex rfl rfl hd rfl ((if0 _ _).trans (teq q).1) ho hp r) (k1 q)
  · subst hq; exact OG.st (fun t r => XS.ifNo P.here P.ex rfl hd rfl ((if0 _ _).trans (feq q).1) r) (k2 q)
theorem o_icmp_ne (P : OPn p l e R s m args below meth c Z a0 EL n0 W0 own T h Ow cells slots) {o : Int} {x y : Int32} {pcf : Nat} (hd : decode c.code pc = .ok (.if_icmp .ne o, 3)) (ho : 0 ≤ (pc : Int) + o) (hp : ((pc : Int) + o).toNat = pc') (hq : pc + 3 = pcf) (k1 : ¬ x = y → OG p e below m Pq T pc' L S) (k2 : x = y → OG p e below m Pq T pcf L S) : OG p e below m Pq T pc L (.int y :: .int x :: S) := by
  by_cases q : x = y
  · subst hq; exact OG.st (fun t r => XS.icmpNo P.here P.ex rfl hd rfl (teq q).2 r) (k2 q)
  · exact OG.st (fun t r => XS.icmpYes P.here P.ex rfl rfl hd rfl (feq q).2 ho hp r) (k1 q)
theorem o_if_ne (P : OPn p l e R s m args below meth c Z a0 EL n0 W0 own T h Ow cells slots) {o : Int} {x : Int32} {pcf : Nat} (hd : decode c.code pc = .ok (.ifCond .ne o, 3)) (ho : 0 ≤ (pc : Int) + o) (hp : ((pc : Int) + o).toNat = pc') (hq : pc + 3 = pcf) (k1 : ¬ x = (0 : Int32) → OG p e below m Pq T pc' L S) (k2 : x = (0 : Int32) → OG p e below m Pq T pcf L S) : OG p e below m Pq T pc L (.int x :: S) := by
  by_cases q : x = (0 : Int32)
  · subst hq; exact OG.st (fun t r => XS.ifNo P.here P.ex rfl hd rfl ((if0 _ _).trans (teq q).2) r) (k2 q)
  · exact OG.st (fun t r => XS.ifYes P.here P.ex rfl rfl hd rfl ((if0 _ _).trans (feq q).2) ho hp r) (k1 q)
theorem o_ifnullY (P : OPn p l e R s m args below meth c Z a0 EL n0 W0 own T h Ow cells slots) {o : Int} (hd : decode c.code pc = .ok (.ifnull o, 3)) (ho : 0 ≤ (pc : Int) + o) (hp : ((pc : Int) + o).toNat = pc') (k : OG p e below m Pq T pc' L S) : OG p e below m Pq T pc L (.null :: S) :=
  OG.st (fun t q => XS.ifnullYes P.here P.ex rfl rfl hd rfl ho hp q) k
theorem o_ifnullN (P : OPn p l e R s m args below meth c Z a0 EL n0 W0 own T h Ow cells slots) {o : Int} {b : Addr} (hd : decode c.code pc = .ok (.ifnull o, 3)) (hp : pc + 3 = pc') (k : OG p e below m Pq T pc' L S) : OG p e below m Pq T pc L (.ref b :: S) := by
  subst hp; exact OG.st (fun t q => XS.ifnullNo P.here P.ex rfl hd rfl q) k
theorem o_ifnonnullY (P : OPn p l e R s m args below meth c Z a0 EL n0 W0 own T h Ow cells slots) {o : Int} {b : Addr} (hd : decode c.code pc = .ok (.ifnonnull o, 3)) (ho : 0 ≤ (pc : Int) + o) (hp : ((pc : Int) + o).toNat = pc') (k : OG p e below m Pq T pc' L S) : OG p e below m Pq T pc L (.ref b :: S) :=
  OG.st (fun t q => XS.ifnonnullYes P.here P.ex rfl rfl hd rfl ho hp q) k
theorem o_ifnonnullN (P : OPn p l e R s m args below meth c Z a0 EL n0 W0 own T h Ow cells slots) {o : Int} (hd : decode c.code pc = .ok (.ifnonnull o, 3)) (hp : pc + 3 = pc') (k : OG p e below m Pq T pc' L S) : OG p e below m Pq T pc L (.null :: S) := by
  subst hp; exact OG.st (fun t q => XS.ifnonnullNo P.here P.ex rfl hd rfl q) k
theorem o_acmp (P : OPn p l e R s m args below meth c Z a0 EL n0 W0 own T h Ow cells slots) {cd : ACond} {o : Int} {x y : Value} (same : Bool) (hd : decode c.code pc = .ok (.if_acmp cd o, 3)) (h1 : x.isRef = true) (h2 : y.isRef = true) (hq : decide (x = y) = same) (ho : 0 ≤ (pc : Int) + o) (hp : pc' = if acV cd same = true then ((pc : Int) + o).toNat else pc + 3) (k : OG p e below m Pq T pc' L S) : OG p e below m Pq T pc L (y :: x :: S) := by
  obtain ⟨locs, X, hx, -⟩ := P
  exact OG.st (fun t q => Jvm.RoadKit.acmp X hx rfl h1 h2 rfl hd rfl hq ho hp q) k
/-! objects: class and fields, one fact -/
def OObj (Z : State) (h : Heap) (a : Addr) (C : String) (fs : List (String × String × String × Value)) : Prop :=
  Exa Z h a C ∧ (∀ f ∈ fs, Fld Z h a f.1 f.2.1 f.2.2.1 f.2.2.2) ∧ ∀ (i j : Nat) (f g : String × String × String × Value), i ≠ j → fs[i]? = some f → fs[j]? = some g → Jvm.RoadKit.slotOf Z f.1 f.2.1 f.2.2.1 ≠ Jvm.RoadKit.slotOf Z g.1 g.2.1 g.2.2.1
section OObjs
variable {a b : Addr} {C O nm d : String} {fs : List (String × String × String × Value)} {u v w : Value} {ws : List Addr} {sl : Nat}
theorem OObj.exa (F : OObj Z h a C fs) : Exa Z h a C := F.1
theorem OObj.lt (F : OObj Z h a C fs) : a < h.size := F.1.lt
theorem OObj.keep (F : OObj Z h a C fs) (K : Keep h h' ws) (q : a ∉ ws) : OObj Z h' a C fs := ⟨F.1.keep K, fun f hf => (F.2.1 f hf).keep K q, F.2.2⟩
theorem OObj.oth (F : OObj Z h a C fs) (W : Wr h h' b sl v) (q : a ≠ b) : OObj Z h' a C fs := ⟨F.1.wr W, fun f hf => (F.2.1 f hf).other W (Or.inl q), F.2.2⟩
theorem OObj.fld (F : OObj Z h a C fs) (i : Nat) (hi : fs[i]? = some (O, nm, d, v)) : Fld Z h a O nm d v := F.2.1 _ (List.mem_of_getElem? hi)
theorem OObj.put (F : OObj Z h a C fs) (i : Nat) (hi : fs[i]? = some (O, nm, d, u)) (W : Wr h h' a (Jvm.RoadKit.slotOf Z O nm d) v) : OObj Z h' a C (fs.set i (O, nm, d, v)) := by
  have key : ∀ (j : Nat) (f : String × String × String × Value), (fs.set i (O, nm, d, v))[j]? = some f → (j = i ∧ f = (O, nm, d, v)) ∨ (j ≠ i ∧ fs[j]? = some f) := by
    intro j f hj
    by_cases e : j = i
    · subst e
      have hlt : j < fs.length := (List.getElem?_eq_some_iff.mp hi).1
      rw [List.getElem?_set_self hlt] at hj
      exact Or.inl ⟨rfl, (Option.some.inj hj).symm⟩
    · rw [List.getElem?_set_ne (fun q => e q.symm)] at hj
      exact Or.inr ⟨e, hj⟩
  refine ⟨F.1.wr W, fun f hf => ?_, fun j k f g hjk hj hk => ?_⟩
  · obtain ⟨j, hj⟩ := List.getElem?_of_mem hf
    rcases key j f hj with ⟨rfl, rfl⟩ | ⟨hne, hj'⟩
    · exact (F.fld j hi).same W
    · exact (F.2.1 f (List.mem_of_getElem? hj')).other W (Or.inr (F.2.2 j i f (O, nm, d, u) hne hj' hi))
  · rcases key j f hj with ⟨rfl, rfl⟩ | ⟨hne, hj'⟩ <;> rcases key k g hk with ⟨rfl, rfl⟩ | ⟨hne', hk'⟩
    · exact absurd rfl hjk
    · exact F.2.2 j k (O, nm, d, u) g hjk hi hk'
    · exact F.2.2 j k f (O, nm, d, u) hjk hj' hi
    · exact F.2.2 j k f g hjk hj' hk'
theorem OObj.new (E : Exa Z h a C) (D : ∀ {O nm d : String} {ty : FieldType}, Laid Z a0 C O nm d → parseFieldDescriptor d = some ty → Fld Z h a O nm d (defaultValue ty)) (hL : ∀ f ∈ fs, Laid Z a0 C f.1 f.2.1 f.2.2.1 ∧ ∃ ty, parseFieldDescriptor f.2.2.1 = some ty ∧ defaultValue ty = f.2.2.2) (nd : (fs.map fun f => f.2.1).Nodup) : OObj Z h a C fs := by
  refine ⟨E, fun f hf => ?_, fun i j f g hij hi hj => ?_⟩
  · obtain ⟨L, ty, h1, h2⟩ := hL f hf
    rw [← h2]; exact D L h1
  · obtain ⟨L1, t1, p1, -⟩ := hL f (List.mem_of_getElem? hi)
    obtain ⟨L2, t2, p2, -⟩ := hL g (List.mem_of_getElem? hj)
    refine slot_ne L1 L2 (fun e => hij ?_) p1 p2
    have hi' : (fs.map fun f => f.2.1)[i]? = some f.2.1 := by rw [List.getElem?_map, hi]; rfl
    have hj' : (fs.map fun f => f.2.1)[j]? = some f.2.1 := by rw [List.getElem?_map, hj, e]; rfl
    obtain ⟨li, ei⟩ := List.getElem?_eq_some_iff.mp hi'
    obtain ⟨lj, ej⟩ := List.getElem?_eq_some_iff.mp hj'
    have np := List.pairwise_iff_getElem.mp nd
    rcases Nat.lt_trichotomy i j with q | q | q
    · exact absurd (ei.trans ej.symm) (np i j li lj q)
    · exact q
    · exact absurd (ej.trans ei.symm) (np j i lj li q)
end OObjs
/-- every field of the list is laid, with its first value -/
def OLd (Z : State) (a0 : Array Value) (C : String) (fs : List (String × String × String × Value)) : Prop := ∀ f ∈ fs, Laid Z a0 C f.1 f.2.1 f.2.2.1 ∧ ∃ ty, parseFieldDescriptor f.2.2.1 = some ty ∧ defaultValue ty = f.2.2.2
theorem OLd.nil {C : String} : OLd Z a0 C [] := fun _ q => nomatch q
theorem OLd.cons {C O nm d : String} {v : Value} {ty : FieldType} {fs : List (String × String × String × Value)} (L : Laid Z a0 C O nm d) (h1 : parseFieldDescriptor d = some ty) (h2 : defaultValue ty = v) (r : OLd Z a0 C fs) : OLd Z a0 C ((O, nm, d, v) :: fs) := fun f hf => by
  rcases List.mem_cons.mp hf with rfl | hf
  · exact ⟨L, ty, h1, h2⟩
  · exact r f hf
/-! arrays: the whole content, one fact -/
def OArr (Z : State) (h : Heap) (a : Addr) (ty : FieldType) (vs : List Value) : Prop :=
  ∃ c : Cell, Arr Z h a c ty ∧ c.slots = vs.toArray ∧ vs.length < 2147483648 ∧ ∀ v ∈ vs, fits ty v = true
section OArrs
variable {a b : Addr} {ty : FieldType} {vs : List Value} {u v w : Value} {ws : List Addr} {sl : Nat} {j z : Int32} {k : ClassId} {dv : Value}
theorem OArr.eq {vs' : List Value} (F : OArr Z h a ty vs) (e : vs = vs') : OArr Z h a ty vs' := e ▸ F
theorem OArr.lt (F : OArr Z h a ty vs) : a < h.size := by obtain ⟨c, A, -⟩ := F; exact A.lt
theorem OArr.len (F : OArr Z h a ty vs) : vs.length < 2147483648 := by obtain ⟨c, -, -, q, -⟩ := F; exact q
theorem OArr.keep (F : OArr Z h a ty vs) (K : Keep h h' ws) (q : a ∉ ws) : OArr Z h' a ty vs := by obtain ⟨c, A, r⟩ := F; exact ⟨c, ⟨K.2.1 a c A.1 q, A.2⟩, r⟩
theorem OArr.oth (F : OArr Z h a ty vs) (W : Wr h h' b sl v) (q : a ≠ b) : OArr Z h' a ty vs := by obtain ⟨c, A, r⟩ := F; exact ⟨c, A.other W q, r⟩
theorem OArr.set (F : OArr Z h a ty vs) (W : Wr h h' a sl v) (hv : fits ty v = true) : OArr Z h' a ty (vs.set sl v) := by
  obtain ⟨c, A, e, n, q⟩ := F
  refine ⟨c.setSlot sl v, A.same W, by simp [Cell.setSlot, e], by rw [List.length_set]; exact n, fun x hx => ?_⟩
  rcases List.mem_or_eq_of_mem_set hx with hx | rfl
  · exact q x hx
  · exact hv
theorem OArr.ofArv (F : Arv Z h a k ty z vs dv) (hl : vs.length = z.toNatClampNeg) : OArr Z h a ty vs := by
  obtain ⟨c, A, -, S, q, H, G⟩ := F
  refine ⟨c, A, ?_, by rw [hl]; exact (back32 q).2, fun v hv => ?_⟩
  · apply Array.ext_getElem?
    intro i
    by_cases hi : i < c.slots.size
    · rw [H i hi]
      have hi' : i < vs.length := by rw [hl, ← S]; exact hi
      simp [hi']
    · rw [Array.getElem?_eq_none (by omega)]
      have hi' : ¬ i < vs.length := by rw [hl, ← S]; exact hi
      simp; omega
  · obtain ⟨i, hi⟩ := List.getElem?_of_mem hv
    obtain ⟨hi1, hi2⟩ := List.getElem?_eq_some_iff.mp hi
    have := G i (by rw [S, ← hl]; exact hi1)
    simpa [hi1, hi2] using this
theorem OArr.toArv (F : OArr Z h a ty vs) (hz : ¬ z < 0) (hl : z.toNatClampNeg = vs.length) : ∃ k, Arv Z h a k ty z vs dv := by
  obtain ⟨c, A, e, n, q⟩ := F
  refine ⟨c.cls, c, A, rfl, by rw [e, hl]; simp, hz, fun i hi => ?_, fun i hi => ?_⟩
  · rw [e] at hi ⊢
    have hi' : i < vs.length := by simpa using hi
    simp [hi']
  · rw [e] at hi
    have hi' : i < vs.length := by simpa using hi
    have := q vs[i] (List.getElem_mem hi')
    simpa [hi'] using this
theorem OArr.size (F : OArr Z h a ty vs) {c : Cell} (hc : h[a]? = some c) : c.slots = vs.toArray := by
  obtain ⟨c', A, e, -⟩ := F
  cases hc.symm.trans A.1
  exact e
/-- inside -/
theorem o_in (hj : ¬ j < 0) (hl : j.toNatClampNeg < vs.length) : ¬ (j < 0 ∨ vs.toArray.size ≤ j.toNatClampNeg) := fun q => q.elim hj fun r => by simp at r; omega
end OArrs
/-! fields -/
theorem o_getF (P : OPn p l e R s m args below meth c Z a0 EL n0 W0 own T h Ow cells slots) {R0 O n d : String} {index : Nat} {a : Addr} {v : Value} (w : (Jvm.Cond.fieldLink own index R0 n d).before a0 Z = true) (via : Via Z R0 O n d) (F : Fld Z h a O n d v) (hd : decode c.code pc = .ok (.getfield index, 3)) (hp : pc + 3 = pc')
    (k : ∀ T', OPn p l e R s m args below meth c Z a0 EL n0 W0 own T' h Ow cells slots → OG p e below m Pq T' pc' L (v :: S)) : OG p e below m Pq T pc L (.ref a :: S) := by
  subst hp
  exact P.tab (fun locs X hZ hown eT hx => getF (host := "") X hx hZ hown (Or.inl w) via eT F (g := mkF m pc L (.ref a :: S)) rfl rfl hd) k
theorem o_getFN (P : OPn p l e R s m args below meth c Z a0 EL n0 W0 own T h Ow cells slots) {R0 O n d host : String} {index : Nat} {a : Addr} {v : Value} (w : (Jvm.Cond.fieldLinkNest own index R0 n d host).before a0 Z = true) (via : Via Z R0 O n d) (F : Fld Z h a O n d v) (hd : decode c.code pc = .ok (.getfield index, 3)) (hp : pc + 3 = pc')
    (k : ∀ T', OPn p l e R s m args below meth c Z a0 EL n0 W0 own T' h Ow cells slots → OG p e below m Pq T' pc' L (v :: S)) : OG p e below m Pq T pc L (.ref a :: S) := by
  subst hp
  exact P.tab (fun locs X hZ hown eT hx => getF (host := host) X hx hZ hown (Or.inr w) via eT F (g := mkF m pc L (.ref a :: S)) rfl rfl hd) k
theorem o_getS (P : OPn p l e R s m args below meth c Z a0 EL n0 W0 own T h Ow cells slots) {R0 O n d : String} {index : Nat} {v : Value} (w : (Jvm.Cond.fieldLink own index R0 n d).before a0 Z = true) (via : Via Z R0 O n d) (F : Sta Z Z.heap O n d v) (hd : decode c.code pc = .ok (.getstatic index, 3)) (hp : pc + 3 = pc')
    (k : ∀ T', OPn p l e R s m args below meth c Z a0 EL n0 W0 own T' h Ow cells slots → OG p e below m Pq T' pc' L (v :: S)) : OG p e below m Pq T pc L S := by
  subst hp
  have O := P.old
  exact P.tab (fun locs X hZ hown eT hx => getS2 (host := "") X hx hZ hown (Or.inl w) via eT (F.ext O.2) (g := mkF m pc L S) rfl hd) k
theorem o_getSN (P : OPn p l e R s m args below meth c Z a0 EL n0 W0 own T h Ow cells slots) {R0 O n d host : String} {index : Nat} {v : Value} (w : (Jvm.Cond.fieldLinkNest own index R0 n d host).before a0 Z = true) (via : Via Z R0 O n d) (F : Sta Z Z.heap O n d v) (hd : decode c.code pc = .ok (.getstatic index, 3)) (hp : pc + 3 = pc')
    (k : ∀ T', OPn p l e R s m args below meth c Z a0 EL n0 W0 own T' h Ow cells slots → OG p e below m Pq T' pc' L (v :: S)) : OG p e below m Pq T pc L S := by
  subst hp
  have O := P.old
  exact P.tab (fun locs X hZ hown eT hx => getS2 (host := host) X hx hZ hown (Or.inr w) via eT (F.ext O.2) (g := mkF m pc L S) rfl hd) k
theorem o_putF (P : OPn p l e R s m args below meth c Z a0 EL n0 W0 own T h Ow cells slots) {R0 O n d C : String} {index kk : Nat} {a : Addr} {v v' old : Value} {ty : FieldType} (w : (Jvm.Cond.fieldLink own index R0 n d).before a0 Z = true) (via : Via Z R0 O n d) (F : Fld Z h a O n d old) (E : Exa Z h a C) (Lw : (Jvm.Cond.lays C O n d).before a0 Z = true ∨ ((Jvm.Cond.laysFinal C O n d).before a0 Z = true ∧ own = O ∧ meth.name = "<init>")) (wi : (Jvm.Cond.instantiable C kk).before a0 Z = true) (hty : parseFieldDescriptor d = some ty) (hn : narrow ty v = v') (hf : fits ty v' = true) (ha : a ∈ Ow) (hd : decode c.code pc = .ok (.putfield index, 3)) (hp : pc + 3 = pc')
    (k : ∀ T' h', OPn p l e R s m args below meth c Z a0 EL n0 W0 own T' h' Ow cells slots → Wr h h' a (Jvm.RoadKit.slotOf Z O n d) v' → OG p e below m Pq T' pc' L S) : OG p e below m Pq T pc L (v :: .ref a :: S) := by
  subst hp
  exact P.wr ha (fun locs X hZ hown eT hx => putFN X hx hZ hown w via eT F E Lw wi hty hn hf (g := mkF m pc L (v :: .ref a :: S)) rfl rfl hd) k
/-! new objects and arrays -/
theorem o_new (P : OPn p l e R s m args below meth c Z a0 EL n0 W0 own T h Ow cells slots) {C : String} {index n : Nat} (fs : List (String × String × String × Value)) (w : (Jvm.Cond.classLink own index C).before a0 Z = true) (wi : (Jvm.Cond.instantiable C n).before a0 Z = true) (wz : (Jvm.Cond.initialized C).before a0 Z = true) (hL : OLd Z a0 C fs) (nd : (fs.map fun f => f.2.1).Nodup) (hd : decode c.code pc = .ok (.new index, 3)) (hp : pc + 3 = pc') (hc : cells + 1 ≤ R.cells) (hl : slots + n ≤ R.slots)
    (k : ∀ T' h' b, OPn p l e R s m args below meth c Z a0 EL n0 W0 own T' h' (b :: Ow) (cells + 1) (slots + n) → Keep h h' [] → h.size ≤ b → OObj Z h' b C fs → OG p e below m Pq T' pc' L (.ref b :: S)) : OG p e below m Pq T pc L S := by
  subst hp
  refine P.grow (G := fun h' b => OObj Z h' b C fs) (fun locs X hZ hown eT hx => ?_) k
  obtain ⟨T', h', X', e', E', A', D', -, st⟩ := newO X hx hZ hown w wi wz eT (g := mkF m pc L S) rfl hd hc hl
  exact ⟨T', h', X', e', E', A'.lt, OObj.new A' D' hL nd, st⟩
theorem o_newarr (P : OPn p l e R s m args below meth c Z a0 EL n0 W0 own T h Ow cells slots) {aty : ArrayType} {n : Int32} {cap : Nat} (w : (Jvm.Cond.arrayClass (newarray.typeOf aty)).before a0 Z = true) (hd : decode c.code pc = .ok (.newarray aty, 2)) (hn : ¬ n < 0) (hcap : n.toNatClampNeg ≤ cap) (hb : cap * 8 ≤ 536870912) (hp : pc + 2 = pc') (hc : cells + 1 ≤ R.cells) (hl : slots + cap ≤ R.slots)
    (k : ∀ T' h' b, OPn p l e R s m args below meth c Z a0 EL n0 W0 own T' h' (b :: Ow) (cells + 1) (slots + cap) → Keep h h' [] → h.size ≤ b → OArr Z h' b (newarray.typeOf aty) (List.replicate n.toNatClampNeg (defaultValue (newarray.typeOf aty))) → OG p e below m Pq T' pc' L (.ref b :: S)) : OG p e below m Pq T pc L (.int n :: S) := by
  subst hp
  refine P.grow (G := fun h' b => OArr Z h' b (newarray.typeOf aty) (List.replicate n.toNatClampNeg (defaultValue (newarray.typeOf aty)))) (fun locs X hZ hown eT hx => ?_) k
  obtain ⟨T', h', cA, X', e', E', A', st⟩ := newP X hx hZ w eT (g := mkF m pc L (.int n :: S)) rfl hd rfl hn hcap hb hc hl
  refine ⟨T', h', X', e', E', A'.lt, ⟨_, A', by simp [newA], by simpa using (back32 hn).2, fun v hv => ?_⟩, st⟩
  rw [List.eq_of_mem_replicate hv]; cases (newarray.typeOf aty) <;> rfl
theorem o_anewarr (P : OPn p l e R s m args below meth c Z a0 EL n0 W0 own T h Ow cells slots) {C : String} {index : Nat} {n : Int32} {cap : Nat} (w1 : (Jvm.Cond.classLink own index C).before a0 Z = true) (w2 : (Jvm.Cond.arrayOver (.object C)).before a0 Z = true) (hd : decode c.code pc = .ok (.anewarray index, 3)) (hn : ¬ n < 0) (hcap : n.toNatClampNeg ≤ cap) (hb : cap * 8 ≤ 536870912) (hp : pc + 3 = pc') (hc : cells + 1 ≤ R.cells) (hl : slots + cap ≤ R.slots)
    (k : ∀ T' h' b, OPn p l e R s m args below meth c Z a0 EL n0 W0 own T' h' (b :: Ow) (cells + 1) (slots + cap) → Keep h h' [] → h.size ≤ b → OArr Z h' b (.object C) (List.replicate n.toNatClampNeg .null) → (∃ cell : Cell, h'[b]? = some cell ∧ Ovr Z cell.cls C) → OG p e below m Pq T' pc' L (.ref b :: S)) : OG p e below m Pq T pc L (.int n :: S) := by
  subst hp
  refine P.grow (G := fun h' b => OArr Z h' b (.object C) (List.replicate n.toNatClampNeg .null) ∧ ∃ cell : Cell, h'[b]? = some cell ∧ Ovr Z cell.cls C) (fun locs X hZ hown eT hx => ?_) fun T' h' b P' K hb' q => k T' h' b P' K hb' q.1 q.2
  obtain ⟨T', h', cA, X', e', E', A', O', st⟩ := newR X hx hZ hown w1 w2 eT (g := mkF m pc L (.int n :: S)) rfl hd rfl hn hcap hb hc hl
  refine ⟨T', h', X', e', E', A'.lt, ⟨⟨_, A', by simp [newA, defaultValue], by simpa using (back32 hn).2, fun v hv => ?_⟩, _, A'.1, O'⟩, st⟩
  rw [List.eq_of_mem_replicate hv]; rfl
/-! components -/
theorem o_arrlen (P : OPn p l e R s m args below meth c Z a0 EL n0 W0 own T h Ow cells slots) {a : Addr} {ty : FieldType} {vs : List Value} {n : Int32} (A : OArr Z h a ty vs) (hd : decode c.code pc = .ok (.arraylength, 1)) (hn : vs.length.toInt32 = n) (hp : pc + 1 = pc') (k : OG p e below m Pq T pc' L (.int n :: S)) : OG p e below m Pq T pc L (.ref a :: S) := by
  subst hp hn
  obtain ⟨locs, X, hx, hlk, hS, hZ, hown, eT, r⟩ := P
  obtain ⟨cl, Ar, e1, -⟩ := A
  have st := X.arraylength hx (by rw [eT]; exact Ar.1) (State.isArrayOf_alike hZ.alike Ar.2.1) (g := mkF m pc L (.ref a :: S)) rfl rfl hd
  rw [e1] at st
  exact OG.st (fun t q => st t (by simpa using q)) k
theorem o_iaload (P : OPn p l e R s m args below meth c Z a0 EL n0 W0 own T h Ow cells slots) {a : Addr} {vs : List Value} {j : Int32} {v : Value} (A : OArr Z h a .int vs) (hj : ¬ j < 0) (hv : vs[j.toNatClampNeg]? = some v) (hd : decode c.code pc = .ok (.iaload, 1)) (hp : pc + 1 = pc') (k : OG p e below m Pq T pc' L (v :: S)) : OG p e below m Pq T pc L (.int j :: .ref a :: S) := by
  subst hp
  obtain ⟨locs, X, hx, hlk, hS, hZ, hown, eT, r⟩ := P
  obtain ⟨cl, Ar, e1, -⟩ := A
  have hlt : j.toNatClampNeg < vs.length := (List.getElem?_eq_some_iff.mp hv).1
  exact OG.st (fun t q => X.iaload hx (by rw [eT]; exact Ar.1) (State.isArrayOf_alike hZ.alike Ar.2.1) Ar.2.2 (by rw [e1]; exact o_in hj hlt) (by rw [e1]; simpa using hv) (g := mkF m pc L (.int j :: .ref a :: S)) rfl rfl hd t q) k
theorem o_laload (P : OPn p l e R s m args below meth c Z a0 EL n0 W0 own T h Ow cells slots) {a : Addr} {vs : List Value} {j : Int32} {v : Value} (A : OArr Z h a .long vs) (hj : ¬ j < 0) (hv : vs[j.toNatClampNeg]? = some v) (hd : decode c.code pc = .ok (.laload, 1)) (hp : pc + 1 = pc') (k : OG p e below m Pq T pc' L (v :: S)) : OG p e below m Pq T pc L (.int j :: .ref a :: S) := by
  subst hp
  obtain ⟨locs, X, hx, hlk, hS, hZ, hown, eT, r⟩ := P
  obtain ⟨cl, Ar, e1, -⟩ := A
  have hlt : j.toNatClampNeg < vs.length := (List.getElem?_eq_some_iff.mp hv).1
  exact OG.st (fun t q => X.laload hx (by rw [eT]; exact Ar.1) (State.isArrayOf_alike hZ.alike Ar.2.1) Ar.2.2 (by rw [e1]; exact o_in hj hlt) (by rw [e1]; simpa using hv) (g := mkF m pc L (.int j :: .ref a :: S)) rfl rfl hd t q) k
theorem o_caload (P : OPn p l e R s m args below meth c Z a0 EL n0 W0 own T h Ow cells slots) {a : Addr} {vs : List Value} {j : Int32} {v : Value} (A : OArr Z h a .char vs) (hj : ¬ j < 0) (hv : vs[j.toNatClampNeg]? = some v) (hd : decode c.code pc = .ok (.caload, 1)) (hp : pc + 1 = pc') (k : OG p e below m Pq T pc' L (v :: S)) : OG p e below m Pq T pc L (.int j :: .ref a :: S) := by
  subst hp
  obtain ⟨locs, X, hx, hlk, hS, hZ, hown, eT, r⟩ := P
  obtain ⟨cl, Ar, e1, -⟩ := A
  have hlt : j.toNatClampNeg < vs.length := (List.getElem?_eq_some_iff.mp hv).1
  exact OG.st (fun t q => X.caload hx (by rw [eT]; exact Ar.1) (State.isArrayOf_alike hZ.alike Ar.2.1) Ar.2.2 (by rw [e1]; exact o_in hj hlt) (by rw [e1]; simpa using hv) (g := mkF m pc L (.int j :: .ref a :: S)) rfl rfl hd t q) k
theorem o_baload (P : OPn p l e R s m args below meth c Z a0 EL n0 W0 own T h Ow cells slots) {a : Addr} {vs : List Value} {j : Int32} {v : Value} (A : OArr Z h a .byte vs) (hj : ¬ j < 0) (hv : vs[j.toNatClampNeg]? = some v) (hd : decode c.code pc = .ok (.baload, 1)) (hp : pc + 1 = pc') (k : OG p e below m Pq T pc' L (v :: S)) : OG p e below m Pq T pc L (.int j :: .ref a :: S) := by
  subst hp
  obtain ⟨locs, X, hx, hlk, hS, hZ, hown, eT, r⟩ := P
  obtain ⟨cl, Ar, e1, -⟩ := A
  have hlt : j.toNatClampNeg < vs.length := (List.getElem?_eq_some_iff.mp hv).1
  exact OG.st (fun t q => X.baloadBytes hx (by rw [eT]; exact Ar.1) (State.isArrayOf_alike hZ.alike Ar.2.1) Ar.2.2 (by rw [e1]; exact o_in hj hlt) (by rw [e1]; simpa using hv) (g := mkF m pc L (.int j :: .ref a :: S)) rfl rfl hd t q) k
theorem o_zaload (P : OPn p l e R s m args below meth c Z a0 EL n0 W0 own T h Ow cells slots) {a : Addr} {vs : List Value} {j : Int32} {v : Value} (A : OArr Z h a .boolean vs) (hj : ¬ j < 0) (hv : vs[j.toNatClampNeg]? = some v) (hd : decode c.code pc = .ok (.baload, 1)) (hp : pc + 1 = pc') (k : OG p e below m Pq T pc' L (v :: S)) : OG p e below m Pq T pc L (.int j :: .ref a :: S) := by
  subst hp
  obtain ⟨locs, X, hx, hlk, hS, hZ, hown, eT, r⟩ := P
  obtain ⟨cl, Ar, e1, -⟩ := A
  have hlt : j.toNatClampNeg < vs.length := (List.getElem?_eq_some_iff.mp hv).1
  exact OG.st (fun t q => X.baloadBooleans hx (by rw [eT]; exact Ar.1) (State.isArrayOf_alike hZ.alike Ar.2.1) Ar.2.2 (by rw [e1]; exact o_in hj hlt) (by rw [e1]; simpa using hv) (g := mkF m pc L (.int j :: .ref a :: S)) rfl rfl hd t q) k
theorem o_daload (P : OPn p l e R s m args below meth c Z a0 EL n0 W0 own T h Ow cells slots) {a : Addr} {vs : List Value} {j : Int32} {v : Value} (A : OArr Z h a .double vs) (hj : ¬ j < 0) (hv : vs[j.toNatClampNeg]? = some v) (hd : decode c.code pc = .ok (.daload, 1)) (hp : pc + 1 = pc') (k : OG p e below m Pq T pc' L (v :: S)) : OG p e below m Pq T pc L (.int j :: .ref a :: S) := by
  subst hp
  obtain ⟨locs, X, hx, hlk, hS, hZ, hown, eT, r⟩ := P
  obtain ⟨cl, Ar, e1, -⟩ := A
  have hlt : j.toNatClampNeg < vs.length := (List.getElem?_eq_some_iff.mp hv).1
  exact OG.st (fun t q => X.daload hx (by rw [eT]; exact Ar.1) (State.isArrayOf_alike hZ.alike Ar.2.1) Ar.2.2 (by rw [e1]; exact o_in hj hlt) (by rw [e1]; simpa using hv) (g := mkF m pc L (.int j :: .ref a :: S)) rfl rfl hd t q) k
theorem o_saload (P : OPn p l e R s m args below meth c Z a0 EL n0 W0 own T h Ow cells slots) {a : Addr} {vs : List Value} {j : Int32} {v : Value} (A : OArr Z h a .short vs) (hj : ¬ j < 0) (hv : vs[j.toNatClampNeg]? = some v) (hd : decode c.code pc = .ok (.saload, 1)) (hp : pc + 1 = pc') (k : OG p e below m Pq T pc' L (v :: S)) : OG p e below m Pq T pc L (.int j :: .ref a :: S) := by
  subst hp
  obtain ⟨locs, X, hx, hlk, hS, hZ, hown, eT, r⟩ := P
  obtain ⟨cl, Ar, e1, -⟩ := A
  have hlt : j.toNatClampNeg < vs.length := (List.getElem?_eq_some_iff.mp hv).1
  exact OG.st (fun t q => X.saload hx (by rw [eT]; exact Ar.1) (State.isArrayOf_alike hZ.alike Ar.2.1) Ar.2.2 (by rw [e1]; exact o_in hj hlt) (by rw [e1]; simpa using hv) (g := mkF m pc L (.int j :: .ref a :: S)) rfl rfl hd t q) k
theorem o_aaload (P : OPn p l e R s m args below meth c Z a0 EL n0 W0 own T h Ow cells slots) {a : Addr} {ty : FieldType} {vs : List Value} {j : Int32} {v : Value} (A : OArr Z h a ty vs) (hty : ty.isReference = true) (hj : ¬ j < 0) (hv : vs[j.toNatClampNeg]? = some v) (hd : decode c.code pc = .ok (.aaload, 1)) (hp : pc + 1 = pc') (k : OG p e below m Pq T pc' L (v :: S)) : OG p e below m Pq T pc L (.int j :: .ref a :: S) := by
  subst hp
  obtain ⟨locs, X, hx, hlk, hS, hZ, hown, eT, r⟩ := P
  obtain ⟨cl, Ar, e1, -⟩ := A
  have hlt : j.toNatClampNeg < vs.length := (List.getElem?_eq_some_iff.mp hv).1
  exact OG.st (fun t q => X.aaload hx (by rw [eT]; exact Ar.1) (State.isArrayOf_alike hZ.alike Ar.2.1) hty Ar.2.2 (by rw [e1]; exact o_in hj hlt) (by rw [e1]; simpa using hv) (g := mkF m pc L (.int j :: .ref a :: S)) rfl rfl hd t q) k
theorem o_iastore (P : OPn p l e R s m args below meth c Z a0 EL n0 W0 own T h Ow cells slots) {a : Addr} {vs : List Value} {j : Int32} {x : Int32} {v : Value} (A : OArr Z h a .int vs) (ha : a ∈ Ow) (hj : ¬ j < 0) (hlt : j.toNatClampNeg < vs.length) (hv : Value.int x = v) (hd : decode c.code pc = .ok (.iastore, 1)) (hp : pc + 1 = pc')
    (k : ∀ T' h', OPn p l e R s m args below meth c Z a0 EL n0 W0 own T' h' Ow cells slots → Wr h h' a j.toNatClampNeg v → OArr Z h' a .int (vs.set j.toNatClampNeg v) → OG p e below m Pq T' pc' L S) : OG p e below m Pq T pc L (.int x :: .int j :: .ref a :: S) := by
  subst hp hv
  obtain ⟨cl, Ar, e1, e2⟩ := id A
  exact P.wr ha (fun locs X hZ hown eT hx => stI X hx hZ eT Ar (by rw [e1]; exact o_in hj hlt) (g := mkF m pc L (.int x :: .int j :: .ref a :: S)) rfl rfl hd) fun T' h' P' W' => k T' h' P' W' (A.set W' rfl)
theorem o_lastore (P : OPn p l e R s m args below meth c Z a0 EL n0 W0 own T h Ow cells slots) {a : Addr} {vs : List Value} {j : Int32} {x : Int64} {v : Value} (A : OArr Z h a .long vs) (ha : a ∈ Ow) (hj : ¬ j < 0) (hlt : j.toNatClampNeg < vs.length) (hv : Value.long x = v) (hd : decode c.code pc = .ok (.lastore, 1)) (hp : pc + 1 = pc')
    (k : ∀ T' h', OPn p l e R s m args below meth c Z a0 EL n0 W0 own T' h' Ow cells slots → Wr h h' a j.toNatClampNeg v → OArr Z h' a .long (vs.set j.toNatClampNeg v) → OG p e below m Pq T' pc' L S) : OG p e below m Pq T pc L (.long x :: .int j :: .ref a :: S) := by
  subst hp hv
  obtain ⟨cl, Ar, e1, e2⟩ := id A
  exact P.wr ha (fun locs X hZ hown eT hx => stJ X hx hZ eT Ar (by rw [e1]; exact o_in hj hlt) (g := mkF m pc L (.long x :: .int j :: .ref a :: S)) rfl rfl hd) fun T' h' P' W' => k T' h' P' W' (A.set W' rfl)
theorem o_castore (P : OPn p l e R s m args below meth c Z a0 EL n0 W0 own T h Ow cells slots) {a : Addr} {vs : List Value} {j : Int32} {x : Int32} {v : Value} (A : OArr Z h a .char vs) (ha : a ∈ Ow) (hj : ¬ j < 0) (hlt : j.toNatClampNeg < vs.length) (hv : Value.int (nar .char x) = v) (hd : decode c.code pc = .ok (.castore, 1)) (hp : pc + 1 = pc')
    (k : ∀ T' h', OPn p l e R s m args below meth c Z a0 EL n0 W0 own T' h' Ow cells slots → Wr h h' a j.toNatClampNeg v → OArr Z h' a .char (vs.set j.toNatClampNeg v) → OG p e below m Pq T' pc' L S) : OG p e below m Pq T pc L (.int x :: .int j :: .ref a :: S) := by
  subst hp hv
  obtain ⟨cl, Ar, e1, e2⟩ := id A
  exact P.wr ha (fun locs X hZ hown eT hx => stC X hx hZ eT Ar (by rw [e1]; exact o_in hj hlt) (g := mkF m pc L (.int x :: .int j :: .ref a :: S)) rfl rfl hd) fun T' h' P' W' => k T' h' P' W' (A.set W' (fits_nar_char _))
theorem o_bastore (P : OPn p l e R s m args below meth c Z a0 EL n0 W0 own T h Ow cells slots) {a : Addr} {vs : List Value} {j : Int32} {x : Int32} {v : Value} (A : OArr Z h a .byte vs) (ha : a ∈ Ow) (hj : ¬ j < 0) (hlt : j.toNatClampNeg < vs.length) (hv : Value.int (nar .byte x) = v) (hd : decode c.code pc = .ok (.bastore, 1)) (hp : pc + 1 = pc')
    (k : ∀ T' h', OPn p l e R s m args below meth c Z a0 EL n0 W0 own T' h' Ow cells slots → Wr h h' a j.toNatClampNeg v → OArr Z h' a .byte (vs.set j.toNatClampNeg v) → OG p e below m Pq T' pc' L S) : OG p e below m Pq T pc L (.int x :: .int j :: .ref a :: S) := by
  subst hp hv
  obtain ⟨cl, Ar, e1, e2⟩ := id A
  exact P.wr ha (fun locs X hZ hown eT hx => stB X hx hZ eT Ar (by rw [e1]; exact o_in hj hlt) (g := mkF m pc L (.int x :: .int j :: .ref a :: S)) rfl rfl hd) fun T' h' P' W' => k T' h' P' W' (A.set W' (fits_nar_byte _))
theorem o_zastore (P : OPn p l e R s m args below meth c Z a0 EL n0 W0 own T h Ow cells slots) {a : Addr} {vs : List Value} {j : Int32} {x : Int32} {v : Value} (A : OArr Z h a .boolean vs) (ha : a ∈ Ow) (hj : ¬ j < 0) (hlt : j.toNatClampNeg < vs.length) (hv : Value.int (nar .boolean x) = v) (hd : decode c.code pc = .ok (.bastore, 1)) (hp : pc + 1 = pc')
    (k : ∀ T' h', OPn p l e R s m args below meth c Z a0 EL n0 W0 own T' h' Ow cells slots → Wr h h' a j.toNatClampNeg v → OArr Z h' a .boolean (vs.set j.toNatClampNeg v) → OG p e below m Pq T' pc' L S) : OG p e below m Pq T pc L (.int x :: .int j :: .ref a :: S) := by
  subst hp hv
  obtain ⟨cl, Ar, e1, e2⟩ := id A
  exact P.wr ha (fun locs X hZ hown eT hx => stZ X hx hZ eT Ar (by rw [e1]; exact o_in hj hlt) (g := mkF m pc L (.int x :: .int j :: .ref a :: S)) rfl rfl hd) fun T' h' P' W' => k T' h' P' W' (A.set W' (fits_nar_bool _))
theorem o_dastore (P : OPn p l e R s m args below meth c Z a0 EL n0 W0 own T h Ow cells slots) {a : Addr} {vs : List Value} {j : Int32} {x : UInt64} {v : Value} (A : OArr Z h a .double vs) (ha : a ∈ Ow) (hj : ¬ j < 0) (hlt : j.toNatClampNeg < vs.length) (hv : Value.double x = v) (hd : decode c.code pc = .ok (.dastore, 1)) (hp : pc + 1 = pc')
    (k : ∀ T' h', OPn p l e R s m args below meth c Z a0 EL n0 W0 own T' h' Ow cells slots → Wr h h' a j.toNatClampNeg v → OArr Z h' a .double (vs.set j.toNatClampNeg v) → OG p e below m Pq T' pc' L S) : OG p e below m Pq T pc L (.double x :: .int j :: .ref a :: S) := by
  subst hp hv
  obtain ⟨cl, Ar, e1, e2⟩ := id A
  exact P.wr ha (fun locs X hZ hown eT hx => stD X hx hZ eT Ar (by rw [e1]; exact o_in hj hlt) (g := mkF m pc L (.double x :: .int j :: .ref a :: S)) rfl rfl hd) fun T' h' P' W' => k T' h' P' W' (A.set W' rfl)
theorem o_aastore (P : OPn p l e R s m args below meth c Z a0 EL n0 W0 own T h Ow cells slots) {a : Addr} {ty : FieldType} {vs : List Value} {j : Int32} {v : Value} (A : OArr Z h a ty vs) (ha : a ∈ Ow) (hty : ty.isReference = true) (F : Sto Z h a v) (hfit : fits ty v = true) (hj : ¬ j < 0) (hlt : j.toNatClampNeg < vs.length) (hd : decode c.code pc = .ok (.aastore, 1)) (hp : pc + 1 = pc')
    (k : ∀ T' h', OPn p l e R s m args below meth c Z a0 EL n0 W0 own T' h' Ow cells slots → Wr h h' a j.toNatClampNeg v → OArr Z h' a ty (vs.set j.toNatClampNeg v) → OG p e below m Pq T' pc' L S) : OG p e below m Pq T pc L (v :: .int j :: .ref a :: S) := by
  subst hp
  obtain ⟨cl, Ar, e1, e2⟩ := id A
  exact P.wr ha (fun locs X hZ hown eT hx => stR X hx hZ eT Ar (by rw [e1]; exact o_in hj hlt) hty F (g := mkF m pc L (v :: .int j :: .ref a :: S)) rfl rfl hd) fun T' h' P' W' => k T' h' P' W' (A.set W' hfit)
theorem o_cast (P : OPn p l e R s m args below meth c Z a0 EL n0 W0 own T h Ow cells slots) {K : String} {index : Nat} {a : Addr} (w : (Jvm.Cond.classLink own index K).before a0 Z = true) (F : Ins Z h a K true) (hd : decode c.code pc = .ok (.checkcast index, 3)) (hp : pc + 3 = pc') (k : ∀ T', OPn p l e R s m args below meth c Z a0 EL n0 W0 own T' h Ow cells slots → OG p e below m Pq T' pc' L (.ref a :: S)) : OG p e below m Pq T pc L (.ref a :: S) := by
  subst hp
  exact P.tab (fun locs X hZ hown eT hx => castY X hx hZ hown w eT F (g := mkF m pc L (.ref a :: S)) rfl rfl hd) k
theorem o_instY (P : OPn p l e R s m args below meth c Z a0 EL n0 W0 own T h Ow cells slots) {K : String} {index : Nat} {a : Addr} (w : (Jvm.Cond.classLink own index K).before a0 Z = true) (F : Ins Z h a K true) (hd : decode c.code pc = .ok (.instanceof index, 3)) (hp : pc + 3 = pc') (k : ∀ T', OPn p l e R s m args below meth c Z a0 EL n0 W0 own T' h Ow cells slots → OG p e below m Pq T' pc' L (.int 1 :: S)) : OG p e below m Pq T pc L (.ref a :: S) := by
  subst hp
  exact P.tab (fun locs X hZ hown eT hx => instY X hx hZ hown w eT F (g := mkF m pc L (.ref a :: S)) rfl rfl hd) k
theorem o_instN (P : OPn p l e R s m args below meth c Z a0 EL n0 W0 own T h Ow cells slots) {K C : String} {index : Nat} {a : Addr} (w : (Jvm.Cond.classLink own index K).before a0 Z = true) (E : Exa Z h a C) (F : ∃ c t, Z.vm.findClass C = some c ∧ Z.vm.findClass K = some t ∧ Z.vm.assignable c t = false) (hd : decode c.code pc = .ok (.instanceof index, 3)) (hp : pc + 3 = pc') (k : ∀ T', OPn p l e R s m args below meth c Z a0 EL n0 W0 own T' h Ow cells slots → OG p e below m Pq T' pc' L (.int 0 :: S)) : OG p e below m Pq T pc L (.ref a :: S) := by
  subst hp
  exact P.tab (fun locs X hZ hown eT hx => instNo X hx hZ hown w eT E F (g := mkF m pc L (.ref a :: S)) rfl rfl hd) k
theorem o_castNull (P : OPn p l e R s m args below meth c Z a0 EL n0 W0 own T h Ow cells slots) {index : Nat} (hd : decode c.code pc = .ok (.checkcast index, 3)) (hp : pc + 3 = pc') (k : OG p e below m Pq T pc' L (.null :: S)) : OG p e below m Pq T pc L (.null :: S) := by
  subst hp
  obtain ⟨locs, X, hx, -⟩ := P
  exact OG.st (fun t q => X.checkcastNull hx (g := mkF m pc L (.null :: S)) rfl rfl hd t q) k
theorem o_instNull (P : OPn p l e R s m args below meth c Z a0 EL n0 W0 own T h Ow cells slots) {index : Nat} (hd : decode c.code pc = .ok (.instanceof index, 3)) (hp : pc + 3 = pc') (k : OG p e below m Pq T pc' L (.int 0 :: S)) : OG p e below m Pq T pc L (.null :: S) := by
  subst hp
  obtain ⟨locs, X, hx, -⟩ := P
  exact OG.st (fun t q => X.instanceofNull hx (g := mkF m pc L (.null :: S)) rfl rfl hd t q) k
theorem o_ldcI (P : OPn p l e R s m args below meth c Z a0 EL n0 W0 own T h Ow cells slots) {index : Nat} {v : Int32} (w : (Jvm.Cond.constant own index v).before a0 Z = true) (hd : decode c.code pc = .ok (.ldc index, 2)) (hp : pc + 2 = pc') (k : OG p e below m Pq T pc' L (.int v :: S)) : OG p e below m Pq T pc L S := by
  subst hp
  obtain ⟨locs, X, hx, hlk, hS, hZ, hown, eT, r⟩ := P
  exact OG.st (fun t q => X.ldcInt hx hown (mvT (s := s.setVm T.vm) hZ w) (g := mkF m pc L S) rfl hd t q) k
theorem o_ldc2L (P : OPn p l e R s m args below meth c Z a0 EL n0 W0 own T h Ow cells slots) {index : Nat} {v : Int64} (w : (Jvm.Cond.constantLong own index v).before a0 Z = true) (hd : decode c.code pc = .ok (.ldc2_w index, 3)) (hp : pc + 3 = pc') (k : OG p e below m Pq T pc' L (.long v :: S)) : OG p e below m Pq T pc L S := by
  subst hp
  obtain ⟨locs, X, hx, hlk, hS, hZ, hown, eT, r⟩ := P
  exact OG.st (fun t q => X.ldc2Long hx hown (mvT (s := s.setVm T.vm) hZ w) (g := mkF m pc L S) rfl hd t q) k
/-- what is known of a String of known bytes (Latin-1) -/
def OStr (Z : State) (h : Heap) (a b : Addr) (vs : List Value) : Prop := OObj Z h a "java/lang/String" [("java/lang/String", "value", "[B", .ref b), ("java/lang/String", "coder", "B", .int 0)] ∧ OArr Z h b .byte vs
theorem OStr.keep {a b : Addr} {vs : List Value} {ws : List Addr} (F : OStr Z h a b vs) (K : Keep h h' ws) (q : a ∉ ws) (r : b ∉ ws) : OStr Z h' a b vs := ⟨F.1.keep K q, F.2.keep K r⟩
theorem o_ldcS (P : OPn p l e R s m args below meth c Z a0 EL n0 W0 own T h Ow cells slots) {index : Nat} {text : String} {vs : List Value} {n : Nat} (w : (Jvm.Cond.stringLink own index text).before a0 Z = true) (wS : ∀ a ∈ Bundle.stringAtoms, a.before a0 Z = true) (hmem : (own, index) ∈ EL)
    (lv : Laid Z a0 "java/lang/String" "java/lang/String" "value" "[B") (lc : Laid Z a0 "java/lang/String" "java/lang/String" "coder" "B")
    (ht : (∀ c ∈ text.toList, c.toNat < 256) ∧ text.toList.map (fun c => Value.int (Jvm.Lit.byteI c.toNat.toUInt16)) = vs) (z : Int32) (hz : ¬ z < 0) (hl : z.toNatClampNeg = vs.length) (hd : decode c.code pc = .ok (.ldc index, 2)) (hp : pc + 2 = pc') (hn : 4 * text.toList.length ≤ n) (hbig : n ≤ 536870912) (hc : cells + 2 ≤ R.cells) (hs : slots + (n + 4) ≤ R.slots)
    (k : ∀ T' h' a b, OPn p l e R s m args below meth c Z a0 EL n0 W0 own T' h' Ow (cells + 2) (slots + (n + 4)) → Keep h h' [] → OStr Z h' a b vs → (∀ x ∈ Ow, x ≠ a ∧ x ≠ b) → OG p e below m Pq T' pc' L (.ref a :: S)) : OG p e below m Pq T pc L S := by
  subst hp
  obtain ⟨locs, X, hx, hlk, hS, hZ, hown, eT, N, hEL, C, O, K, W⟩ := P
  obtain ⟨a, T', h', k1, b, kk, X', e', E', hS', hk', hZ', hown', E1, F1, F2, A1, -, -, C', -, hne, st⟩ := ldcCH X hx hZ hown w wS eT hS.1 (Nat.le_refl _) hEL hmem C.1 ht hz hl (g := mkF m pc L S) rfl hd hn hbig hc hs
  have W' : ∀ x ∈ Ow, OOwn Z EL n0 W0 s.heap.size T'.vm h' x := fun x hx => by
    obtain ⟨q1, q2, q3, q4⟩ := W x hx
    exact ⟨q1, Nat.lt_of_lt_of_le q2 E'.1, C'.safe q2 q3, q4⟩
  have hS2 : OSn EL s T'.vm h'.size := ⟨⟨hS'.1, hS'.2.mono hk'⟩, fun e => by rw [e] at hmem; cases hmem⟩
  refine OG.st st (k T' h' a b ⟨locs, X', hx, hlk, hS2, hZ', hown', e', N, hEL, C.trans C', O.ext E', K.ext E', W'⟩ ((Keep.refl h []).ext E') ⟨⟨E1, fun f hf => ?_, fun i j f g hij hi hj => ?_⟩, OArr.ofArv A1 (by rw [hl])⟩ fun x hx => hne x (W' x hx).2.2.1)
  · rcases List.mem_cons.mp hf with rfl | hf
    · exact F2
    · rcases List.mem_cons.mp hf with rfl | hf
      · exact F1
      · cases hf
  · have s1 := slot_ne lv lc (t := .array .byte) (t' := .byte) (by decide) (by decide) (by decide)
    match i, j, hi, hj with
    | 0, 0, _, _ => exact absurd rfl hij
    | 1, 1, _, _ => exact absurd rfl hij
    | 0, 1, hi, hj => cases hi; cases hj; exact s1
    | 1, 0, hi, hj => cases hi; cases hj; exact s1.symm
theorem o_mvMN {Z s : State} {a0 args : Array Value} {own host : String} {y : MethodName} {index : Nat} (hZ : Z.Warmed39 s.vm) (w : (Jvm.Cond.methodLinkNest own index y host).before a0 Z = true) : (Jvm.Cond.methodLinkNest own index y host).before args s = true := (Cond.methodLinkNest_wide hZ w :)
theorem o_mvF {Z s : State} {a0 args : Array Value} {x : MethodName} (hZ : Z.Warmed39 s.vm) (w2 : (Jvm.Cond.declares x).before a0 Z = true) (w : (Jvm.Cond.interfaceMethod x.cls x.cls x.name x.desc).before a0 Z = true) (hy : x.cls ≠ "java/lang/invoke/MethodHandle" ∧ x.cls ≠ "java/lang/invoke/VarHandle") : (Jvm.Cond.interfaceMethod x.cls x.cls x.name x.desc).before args s = true := by
  obtain ⟨r0, r, hn, -⟩ := Cond.declares_spec w2
  have q := Cond.interfaceMethod_setVm (args := a0) (s := Z) (vm' := s.vm) hZ.alike (ref := x.cls) (name := x.name) (desc := x.desc) hn hy
  exact (q.trans w :)
theorem o_callS (P : OPn p l e R s m args below meth c Z a0 EL n0 W0 own T h Ow cells slots) {y : MethodName} {bytes : ByteArray} {maxL : Nat} {ret : Option FieldType} {rm : Room} {as' : Array Value} {Sf : List Addr} {Q : Option Value → Vm → Heap → Prop} {index W : Nat} (w1 : (Jvm.Cond.methodLink own index y).before a0 Z = true) (w2 : (Jvm.Cond.static y).before a0 Z = true) (w3 : (Jvm.Cond.initialized y.cls).before a0 Z = true) (w4 : (Jvm.Cond.code y bytes maxL ret).before a0 Z = true) (hy : y.cls ≠ "java/lang/invoke/MethodHandle" ∧ y.cls ≠ "java/lang/invoke/VarHandle") (hM : OCt l Z a0 EL n0 y bytes maxL ret rm [] as' h Sf Q) (hsf : ∀ x ∈ Sf, x ∈ Ow) (hml : L.size = c.maxLocals) (hf : rm.frames + 1 ≤ R.frames) (hl : W + (maxL + 11) + rm.locals ≤ R.locals) {argsL rest : List Value} (hlen : ∀ sig, parseMethodDescriptor y.desc = some sig → argsL.length = sig.parameters.length) (hst : S = argsL.reverse ++ rest) (has : argsL.toArray = as') (hW : (rest.map fun v => v.category).sum ≤ W) (hd : decode c.code pc = .ok (.invokestatic index, 3)) (hp : pc + 3 = pc') (hc : cells + rm.cells ≤ R.cells) (hs : slots + rm.slots ≤ R.slots)
    (k : ∀ T' h' v, OPn p l e R s m args below meth c Z a0 EL n0 W0 own T' h' Ow (cells + rm.cells) (slots + rm.slots) → Keep h h' Sf → Q v T'.vm h' → OG p e below m Pq T' pc' L (v.toList ++ rest)) : OG p e below m Pq T pc L S := by
  subst hp
  obtain ⟨locs, X, hx, hlk, hS, hZ, hown, eT, N, hEL, C, O, K, W'⟩ := P
  have hb := OCt.back (p := p) (e := e) (below := below) (s := s) (args := args) (T := T) (len := 3) (W := W) (R := R) O hEL (fun x hx => ⟨(W' x (hsf x hx)).1, (W' x (hsf x hx)).2.1, (W' x (hsf x hx)).2.2.1⟩) hM hZ w4 w3 hf hl C.1
  obtain ⟨v, vm₁, B, hW1, X', hSi, hle, hq, st⟩ := callSS X hx (y := y) hown (mvT (s := s.setVm T.vm) hZ w1) (mvT (s := s.setVm T.vm) hZ w2) (mvT (s := s.setVm T.vm) hZ w3) (mvT (s := s.setVm T.vm) hZ w4) hy hb (g := mkF m pc L S) rfl hml (argsL := argsL) (rest := rest) hlen hst (by show 2 * 0 + _ ≤ _; omega) hd (fun _ _ => ⟨has, eT, hc, hs⟩)
  obtain ⟨P', K', q⟩ := OPn.behind (y := y) hx hlk hS hZ hown eT N hEL C O K W' hsf X' hSi hle hq
  exact OG.st (fun t r => st.trans r) (k _ _ v P' K' q)
theorem o_callI (P : OPn p l e R s m args below meth c Z a0 EL n0 W0 own T h Ow cells slots) {y : MethodName} {bytes : ByteArray} {maxL : Nat} {rm : Room} {as' : Array Value} {Sf : List Addr} {Q : Option Value → Vm → Heap → Prop} {index W : Nat} {a : Addr} (hy1 : y.name = "<init>") (w1 : (Jvm.Cond.methodLink own index y).before a0 Z = true) (w2 : (Jvm.Cond.instanceMethod y).before a0 Z = true) (w3 : (Jvm.Cond.initialized y.cls).before a0 Z = true) (w4 : (Jvm.Cond.code y bytes maxL none).before a0 Z = true) (hy : y.cls ≠ "java/lang/invoke/MethodHandle" ∧ y.cls ≠ "java/lang/invoke/VarHandle") (hM : OCt l Z a0 EL n0 y bytes maxL none rm [] as' h Sf Q) (hsf : ∀ x ∈ Sf, x ∈ Ow) (hml : L.size = c.maxLocals) (hf : rm.frames + 1 ≤ R.frames) (hl : W + (maxL + 11) + rm.locals ≤ R.locals) {argsL rest : List Value} (hlen : ∀ sig, parseMethodDescriptor y.desc = some sig → argsL.length = sig.parameters.length) (hst : S = argsL.reverse ++ .ref a :: rest) (has : (.ref a :: argsL).toArray = as') (hW : (rest.map fun v => v.category).sum ≤ W) (hd : decode c.code pc = .ok (.invokespecial index, 3)) (hp : pc + 3 = pc') (hc : cells + rm.cells ≤ R.cells) (hs : slots + rm.slots ≤ R.slots)
    (k : ∀ T' h' v, OPn p l e R s m args below meth c Z a0 EL n0 W0 own T' h' Ow (cells + rm.cells) (slots + rm.slots) → Keep h h' Sf → Q v T'.vm h' → OG p e below m Pq T' pc' L (v.toList ++ rest)) : OG p e below m Pq T pc L S := by
  subst hp
  obtain ⟨locs, X, hx, hlk, hS, hZ, hown, eT, N, hEL, C, O, K, W'⟩ := P
  have hb := OCt.back (p := p) (e := e) (below := below) (s := s) (args := args) (T := T) (len := 3) (W := W) (R := R) O hEL (fun x hx => ⟨(W' x (hsf x hx)).1, (W' x (hsf x hx)).2.1, (W' x (hsf x hx)).2.2.1⟩) hM hZ w4 w3 hf hl C.1
  obtain ⟨v, vm₁, B, hW1, X', hSi, hle, hq, st⟩ := X.specialBackS hx (y := y) hy1 hown (mvT (s := s.setVm T.vm) hZ w1) (mvT (s := s.setVm T.vm) hZ w2) (mvT (s := s.setVm T.vm) hZ w4) hy hb (g := mkF m pc L S) rfl hml (Steps.refl _) (a := a) (argsL := argsL) (rest := rest) hlen hst (by show 2 * 0 + _ ≤ _; omega) hd (fun _ _ => ⟨has, eT, hc, hs⟩)
  obtain ⟨P', K', q⟩ := OPn.behind (y := y) hx hlk hS hZ hown eT N hEL C O K W' hsf X' hSi hle hq
  exact OG.st (fun t r => st.trans r) (k _ _ v P' K' q)
theorem o_callIN (P : OPn p l e R s m args below meth c Z a0 EL n0 W0 own T h Ow cells slots) {y : MethodName} {bytes : ByteArray} {maxL : Nat} {rm : Room} {as' : Array Value} {Sf : List Addr} {Q : Option Value → Vm → Heap → Prop} {index W : Nat} {a : Addr} {host : String} (hy1 : y.name = "<init>") (w1 : (Jvm.Cond.methodLinkNest own index y host).before a0 Z = true) (w2 : (Jvm.Cond.instanceMethod y).before a0 Z = true) (w3 : (Jvm.Cond.initialized y.cls).before a0 Z = true) (w4 : (Jvm.Cond.code y bytes maxL none).before a0 Z = true) (hy : y.cls ≠ "java/lang/invoke/MethodHandle" ∧ y.cls ≠ "java/lang/invoke/VarHandle") (hM : OCt l Z a0 EL n0 y bytes maxL none rm [] as' h Sf Q) (hsf : ∀ x ∈ Sf, x ∈ Ow) (hml : L.size = c.maxLocals) (hf : rm.frames + 1 ≤ R.frames) (hl : W + (maxL + 11) + rm.locals ≤ R.locals) {argsL rest : List Value} (hlen : ∀ sig, parseMethodDescriptor y.desc = some sig → argsL.length = sig.parameters.length) (hst : S = argsL.reverse ++ .ref a :: rest) (has : (.ref a :: argsL).toArray = as') (hW : (rest.map fun v => v.category).sum ≤ W) (hd : decode c.code pc = .ok (.invokespecial index, 3)) (hp : pc + 3 = pc') (hc : cells + rm.cells ≤ R.cells) (hs : slots + rm.slots ≤ R.slots)
    (k : ∀ T' h' v, OPn p l e R s m args below meth c Z a0 EL n0 W0 own T' h' Ow (cells + rm.cells) (slots + rm.slots) → Keep h h' Sf → Q v T'.vm h' → OG p e below m Pq T' pc' L (v.toList ++ rest)) : OG p e below m Pq T pc L S := by
  subst hp
  obtain ⟨locs, X, hx, hlk, hS, hZ, hown, eT, N, hEL, C, O, K, W'⟩ := P
  have hb := OCt.back (p := p) (e := e) (below := below) (s := s) (args := args) (T := T) (len := 3) (W := W) (R := R) O hEL (fun x hx => ⟨(W' x (hsf x hx)).1, (W' x (hsf x hx)).2.1, (W' x (hsf x hx)).2.2.1⟩) hM hZ w4 w3 hf hl C.1
  obtain ⟨v, vm₁, B, hW1, X', hSi, hle, hq, st⟩ := X.specialBackNestS hx (y := y) hy1 hown (o_mvMN (s := s.setVm T.vm) hZ w1) (mvT (s := s.setVm T.vm) hZ w2) (mvT (s := s.setVm T.vm) hZ w4) hy hb (g := mkF m pc L S) rfl hml (Steps.refl _) (a := a) (argsL := argsL) (rest := rest) hlen hst (by show 2 * 0 + _ ≤ _; omega) hd (fun _ _ => ⟨has, eT, hc, hs⟩)
  obtain ⟨P', K', q⟩ := OPn.behind (y := y) hx hlk hS hZ hown eT N hEL C O K W' hsf X' hSi hle hq
  exact OG.st (fun t r => st.trans r) (k _ _ v P' K' q)
theorem o_callV (P : OPn p l e R s m args below meth c Z a0 EL n0 W0 own T h Ow cells slots) {y : MethodName} {bytes : ByteArray} {maxL : Nat} {ret : Option FieldType} {rm : Room} {as' : Array Value} {Sf : List Addr} {Q : Option Value → Vm → Heap → Prop} {index W : Nat} {x : MethodName} {a : Addr} {Cr : String} (w1 : (Jvm.Cond.methodLink own index x).before a0 Z = true) (w2 : (Jvm.Cond.declares x).before a0 Z = true) (nf : ∀ U : State, Z.Warmed39 U.vm → NotFace U x) (w5 : (Jvm.Cond.selects Cr x y).before a0 Z = true) (w6 : (Jvm.Cond.instanceMethod y).before a0 Z = true) (w3 : (Jvm.Cond.initialized y.cls).before a0 Z = true) (w4 : (Jvm.Cond.code y bytes maxL ret).before a0 Z = true) (hy : x.cls ≠ "java/lang/invoke/MethodHandle" ∧ x.cls ≠ "java/lang/invoke/VarHandle") (Er : Exa Z h a Cr) (hM : OCt l Z a0 EL n0 y bytes maxL ret rm [] as' h Sf Q) (hsf : ∀ x ∈ Sf, x ∈ Ow) (hml : L.size = c.maxLocals) (hf : rm.frames + 1 ≤ R.frames) (hl : W + (maxL + 11) + rm.locals ≤ R.locals) {argsL rest : List Value} (hlen : ∀ sig, parseMethodDescriptor x.desc = some sig → argsL.length = sig.parameters.length) (hst : S = argsL.reverse ++ .ref a :: rest) (has : (.ref a :: argsL).toArray = as') (hW : (rest.map fun v => v.category).sum ≤ W) (hd : decode c.code pc = .ok (.invokevirtual index, 3)) (hp : pc + 3 = pc') (hc : cells + rm.cells ≤ R.cells) (hs : slots + rm.slots ≤ R.slots)
    (k : ∀ T' h' v, OPn p l e R s m args below meth c Z a0 EL n0 W0 own T' h' Ow (cells + rm.cells) (slots + rm.slots) → Keep h h' Sf → Q v T'.vm h' → OG p e below m Pq T' pc' L (v.toList ++ rest)) : OG p e below m Pq T pc L S := by
  subst hp
  obtain ⟨locs, X, hx, hlk, hS, hZ, hown, eT, N, hEL, C, O, K, W'⟩ := P
  have hb := OCt.back (p := p) (e := e) (below := below) (s := s) (args := args) (T := T) (len := 3) (W := W) (R := R) O hEL (fun x hx => ⟨(W' x (hsf x hx)).1, (W' x (hsf x hx)).2.1, (W' x (hsf x hx)).2.2.1⟩) hM hZ w4 w3 hf hl C.1
  obtain ⟨cB, kB, q1, q2, q3⟩ := isOf (s := s.setVm T.vm) hZ eT Er
  obtain ⟨v, vm₁, B, hW1, X', hSi, hle, hq, st⟩ := X.virtualBackS hx (y := x) (z := y) hown (mvT (s := s.setVm T.vm) hZ w1) (mvT (s := s.setVm T.vm) hZ w2) (nf (s.setVm T.vm) hZ) (mvT (s := s.setVm T.vm) hZ w5) (mvT (s := s.setVm T.vm) hZ w6) hy hb q1 q3 (g := mkF m pc L S) rfl hml (Steps.refl _) (argsL := argsL) (rest := rest) hlen hst (by show 2 * 0 + _ ≤ _; omega) hd (fun _ _ => ⟨has, eT, hc, hs⟩)
  obtain ⟨P', K', q⟩ := OPn.behind (y := y) hx hlk hS hZ hown eT N hEL C O K W' hsf X' hSi hle hq
  exact OG.st (fun t r => st.trans r) (k _ _ v P' K' q)
theorem o_callF (P : OPn p l e R s m args below meth c Z a0 EL n0 W0 own T h Ow cells slots) {y : MethodName} {bytes : ByteArray} {maxL : Nat} {ret : Option FieldType} {rm : Room} {as' : Array Value} {Sf : List Addr} {Q : Option Value → Vm → Heap → Prop} {index W : Nat} {x : MethodName} {a : Addr} {Cr : String} {count : Nat} (w1 : (Jvm.Cond.methodLink own index x).before a0 Z = true) (w2 : (Jvm.Cond.declares x).before a0 Z = true) (w7 : (Jvm.Cond.interfaceMethod x.cls x.cls x.name x.desc).before a0 Z = true) (w5 : (Jvm.Cond.selects Cr x y).before a0 Z = true) (w6 : (Jvm.Cond.instanceMethod y).before a0 Z = true) (w8 : (Jvm.Cond.publicMethod y).before a0 Z = true) (w9 : (Jvm.Cond.unhidden Cr x.name x.desc).before a0 Z = true) (w10 : (Jvm.Cond.castable Cr x.cls).before a0 Z = true) (w3 : (Jvm.Cond.initialized y.cls).before a0 Z = true) (w4 : (Jvm.Cond.code y bytes maxL ret).before a0 Z = true) (hy : x.cls ≠ "java/lang/invoke/MethodHandle" ∧ x.cls ≠ "java/lang/invoke/VarHandle") (Er : Exa Z h a Cr) (hM : OCt l Z a0 EL n0 y bytes maxL ret rm [] as' h Sf Q) (hsf : ∀ x ∈ Sf, x ∈ Ow) (hml : L.size = c.maxLocals) (hf : rm.frames + 1 ≤ R.frames) (hl : W + (maxL + 11) + rm.locals ≤ R.locals) {argsL rest : List Value} (hlen : ∀ sig, parseMethodDescriptor x.desc = some sig → argsL.length = sig.parameters.length) (hst : S = argsL.reverse ++ .ref a :: rest) (has : (.ref a :: argsL).toArray = as') (hW : (rest.map fun v => v.category).sum ≤ W) (hd : decode c.code pc = .ok (.invokeinterface index count, 5)) (hp : pc + 5 = pc') (hc : cells + rm.cells ≤ R.cells) (hs : slots + rm.slots ≤ R.slots)
    (k : ∀ T' h' v, OPn p l e R s m args below meth c Z a0 EL n0 W0 own T' h' Ow (cells + rm.cells) (slots + rm.slots) → Keep h h' Sf → Q v T'.vm h' → OG p e below m Pq T' pc' L (v.toList ++ rest)) : OG p e below m Pq T pc L S := by
  subst hp
  obtain ⟨locs, X, hx, hlk, hS, hZ, hown, eT, N, hEL, C, O, K, W'⟩ := P
  have hb := OCt.back (p := p) (e := e) (below := below) (s := s) (args := args) (T := T) (len := 5) (W := W) (R := R) O hEL (fun x hx => ⟨(W' x (hsf x hx)).1, (W' x (hsf x hx)).2.1, (W' x (hsf x hx)).2.2.1⟩) hM hZ w4 w3 hf hl C.1
  obtain ⟨cB, kB, q1, q2, q3⟩ := isOf (s := s.setVm T.vm) hZ eT Er
  obtain ⟨v, vm₁, B, hW1, X', hSi, hle, hq, st⟩ := X.interfaceBackS hx (xi := x) (y := y) hown (mvT (s := s.setVm T.vm) hZ w1) (mvT (s := s.setVm T.vm) hZ w2) (o_mvF (s := s.setVm T.vm) hZ w2 w7 hy) (mvT (s := s.setVm T.vm) hZ w5) (mvT (s := s.setVm T.vm) hZ w6) (mvT (s := s.setVm T.vm) hZ w8) (mvT (s := s.setVm T.vm) hZ w9) (mvT (s := s.setVm T.vm) hZ w10) hy hb q1 q2 q3 (g := mkF m pc L S) rfl hml (Steps.refl _) (argsL := argsL) (rest := rest) hlen hst (by show 2 * 0 + _ ≤ _; omega) hd (fun _ _ => ⟨has, eT, hc, hs⟩)
  obtain ⟨P', K', q⟩ := OPn.behind (y := y) hx hlk hS hZ hown eT N hEL C O K W' hsf X' hSi hle hq
  exact OG.st (fun t r => st.trans r) (k _ _ v P' K' q)
theorem o_initO (P : OPn p l e R s m args below meth c Z a0 EL n0 W0 own T h Ow cells slots) {index W : Nat} {a : Addr} (w1 : (Jvm.Cond.methodLink own index Lib.objectInit).before a0 Z = true) (w2 : (Jvm.Cond.instanceMethod Lib.objectInit).before a0 Z = true) (w3 : (Jvm.Cond.code Lib.objectInit ⟨#[0xb1]⟩ 1 none).before a0 Z = true) (hml : L.size = c.maxLocals) (hf : 1 ≤ R.frames) (hW : (S.map fun v => v.category).sum ≤ W) (hl : W + 12 ≤ R.locals) (hd : decode c.code pc = .ok (.invokespecial index, 3)) (hp : pc + 3 = pc') (k : ∀ T', OPn p l e R s m args below meth c Z a0 EL n0 W0 own T' h Ow cells slots → OG p e below m Pq T' pc' L S) : OG p e below m Pq T pc L (.ref a :: S) := by
  subst hp
  exact P.tab (fun locs X hZ hown eT hx => initO X hx hZ hown w1 w2 w3 eT (g := mkF m pc L (.ref a :: S)) rfl hml rfl hd hf (by show 2 * 0 + _ ≤ _; omega) hl) k
theorem o_nfSel {x y : MethodName} {Cr : String} (hxy : x.cls = y.cls) (w : (Jvm.Cond.selects Cr x x).before a0 Z = true) : ∀ U : State, Z.Warmed39 U.vm → NotFace U x := fun U hU => notFace_of_selects (args := #[]) (mvT (s := U) hU w)
theorem o_nfSup {x : MethodName} {K : String} (w : (Jvm.Cond.superclass x.cls K).before a0 Z = true) : ∀ U : State, Z.Warmed39 U.vm → NotFace U x := fun U hU => nf_super (args := #[]) (mvT (s := U) hU w)
theorem o_nfTop {x : MethodName} (w : (Jvm.Cond.noSuperclass x.cls).before a0 Z = true) : ∀ U : State, Z.Warmed39 U.vm → NotFace U x := fun U hU => nf_top (args := #[]) (mvT (s := U) hU w)
theorem o_sf0 : ∀ x ∈ ([] : List Addr), x ∈ Ow := fun _ q => nomatch q
theorem o_sfS {x : Addr} {Sf : List Addr} (h1 : x ∈ Ow) (h2 : ∀ y ∈ Sf, y ∈ Ow) : ∀ y ∈ x :: Sf, y ∈ Ow := fun y q => (List.mem_cons.mp q).elim (fun e => e ▸ h1) (h2 y)
end OwnLayer
/-! numbers as indices; bytes of chars -/
theorem oi_nat {i : Nat} (h : i < 2147483648) : i.toInt32.toNatClampNeg = i := Int32.toNatClampNeg_ofNat_of_lt h
theorem oi_int {i : Nat} (h : i < 2147483648) : i.toInt32.toInt = i := Int32.toInt_ofNat_of_lt h
theorem oi_nn {i : Nat} (h : i < 2147483648) : ¬ i.toInt32 < 0 := by
  rw [Int32.lt_iff_toInt_lt, oi_int h]; have : (0 : Int32).toInt = 0 := rfl; omega
theorem oi_succ (i : Nat) : i.toInt32 + (1 : Int32) = (i + 1).toInt32 := (Int32.ofNat_add i 1).symm
theorem oi_lt {i j : Nat} (hi : i < 2147483648) (hj : j < 2147483648) : i.toInt32 < j.toInt32 ↔ i < j := by
  rw [Int32.lt_iff_toInt_lt, oi_int hi, oi_int hj]; omega
theorem oi_eq {i j : Nat} (hi : i < 2147483648) (hj : j < 2147483648) : i.toInt32 = j.toInt32 ↔ i = j := by
  constructor
  · intro h
    have := congrArg Int32.toInt h
    rw [oi_int hi, oi_int hj] at this; omega
  · rintro rfl; rfl
abbrev och (cs : List Int32) : List Value := cs.map fun c => .int c
abbrev obyte (c : Int32) : Int32 := c.toInt8.toInt32
/-- Latin-1 chars -/
def OLat (cs : List Int32) : Prop := ∀ c ∈ cs, ¬ c < 0 ∧ ¬ (255 : Int32) < c
theorem OLat.nil : OLat [] := fun _ q => nomatch q
theorem OLat.cons {c : Int32} {cs : List Int32} (h : ¬ c < 0 ∧ ¬ (255 : Int32) < c) (r : OLat cs) : OLat (c :: cs) := fun x hx => (List.mem_cons.mp hx).elim (fun e => e ▸ h) (r x)
theorem obyte_inj {c d : Int32} (hc : ¬ c < 0 ∧ ¬ (255 : Int32) < c) (hd : ¬ d < 0 ∧ ¬ (255 : Int32) < d) (h : obyte c = obyte d) : c = d := by
  have e := congrArg Int32.toInt h
  have q1 := c_i2b c; have q2 := c_i2b d
  obtain ⟨c1, c2⟩ := hc; obtain ⟨d1, d2⟩ := hd
  rw [Int32.lt_iff_toInt_lt] at c1 c2 d1 d2
  have z0 : (0 : Int32).toInt = 0 := rfl
  have z1 : (255 : Int32).toInt = 255 := rfl
  rw [z0] at c1 d1; rw [z1] at c2 d2
  apply Int32.toInt_inj.mp
  show c.toInt = d.toInt
  have e' : c.toInt8.toInt32.toInt = d.toInt8.toInt32.toInt := e
  omega
theorem obytes_inj : ∀ {cs ds : List Int32}, OLat cs → OLat ds → cs.map obyte = ds.map obyte → cs = ds
  | [], [], _, _, _ => rfl
  | [], _ :: _, _, _, h => by cases h
  | _ :: _, [], _, _, h => by cases h
  | c :: cs, d :: ds, hc, hd, h => by
    simp only [List.map_cons, List.cons.injEq] at h
    rw [obyte_inj (hc c (by simp)) (hd d (by simp)) h.1, obytes_inj (fun x hx => hc x (by simp [hx])) (fun x hx => hd x (by simp [hx])) h.2]
theorem och_get {cs : List Int32} {i : Nat} {c : Int32} (h : cs[i]? = some c) : (och cs)[i]? = some (.int c) := by simp [h]
theorem och_inj {us ws : List Int32} (h : och us = och ws) : us = ws := by
  have : us.map (fun c => Value.int c) = ws.map fun c => Value.int c := h
  exact (List.map_inj_right (fun a b e => Value.int.inj e)).mp this
theorem o_nar_char {c : Int32} (h : ¬ c < 0 ∧ ¬ (65535 : Int32) < c) : nar .char c = c := by
  obtain ⟨q1, q2, q3⟩ := c_i2c c
  obtain ⟨c1, c2⟩ := h
  rw [Int32.lt_iff_toInt_lt] at c1 c2
  have z0 : (0 : Int32).toInt = 0 := rfl
  have z1 : (65535 : Int32).toInt = 65535 := rfl
  rw [z0] at c1; rw [z1] at c2
  apply Int32.toInt_inj.mp
  show c.toUInt32.toUInt16.toUInt32.toInt32.toInt = c.toInt
  omega
/-- a mask of eight bits, as a char -/
theorem o_mask8 (y : Int32) : ¬ (y &&& (255 : Int32)).toUInt32.toUInt16.toUInt32.toInt32 < 0 ∧ ¬ (255 : Int32) < (y &&& (255 : Int32)).toUInt32.toUInt16.toUInt32.toInt32 := by
  obtain ⟨q1, q2, q3⟩ := c_i2c (y &&& (255 : Int32))
  have q4 := c_and y 255 (by decide)
  have z0 : (0 : Int32).toInt = 0 := rfl
  have z1 : (255 : Int32).toInt = 255 := rfl
  rw [z1] at q4
  rw [Int32.lt_iff_toInt_lt, Int32.lt_iff_toInt_lt, z0, z1]
  omega
theorem o_c16 {c : Int32} (h : ¬ c < 0 ∧ ¬ (255 : Int32) < c) : ¬ c < 0 ∧ ¬ (65535 : Int32) < c := by
  obtain ⟨h1, h2⟩ := h
  refine ⟨h1, fun q => h2 ?_⟩
  rw [Int32.lt_iff_toInt_lt] at q ⊢
  have z1 : (65535 : Int32).toInt = 65535 := rfl
  have z2 : (255 : Int32).toInt = 255 := rfl
  omega
theorem OObj.uniq {Z : State} {h : Heap} {a : Addr} {C O nm d : String} {fs gs : List (String × String × String × Value)} {v w : Value} (F : OObj Z h a C fs) (G : OObj Z h a C gs) (i j : Nat) (hi : fs[i]? = some (O, nm, d, v)) (hj : gs[j]? = some (O, nm, d, w)) : v = w := Classical.byContradiction fun q => (F.fld i hi).ne (G.fld j hj) q rfl
theorem OArr.uniq {Z : State} {h : Heap} {a : Addr} {ty : FieldType} {vs ws : List Value} (F : OArr Z h a ty vs) (G : OArr Z h a ty ws) : vs = ws := by
  obtain ⟨c, A, e, -⟩ := F
  have q := G.size A.1
  rw [e] at q
  simpa using q
theorem OStr.uniq {Z : State} {h : Heap} {a b b' : Addr} {us ws : List Int32} (F : OStr Z h a b (och us)) (G : OStr Z h a b' (och ws)) : us = ws := by
  have e := Value.ref.inj (F.1.uniq G.1 0 0 rfl rfl)
  subst e
  exact och_inj (F.2.uniq G.2)
theorem OObj.neArr {Z : State} {h : Heap} {a b : Addr} {C : String} {a0 : Array Value} {fs : List (String × String × String × Value)} {ty : FieldType} {vs : List Value} {k : Nat} (F : OObj Z h a C fs) (wi : (Jvm.Cond.instantiable C k).before a0 Z = true) (G : OArr Z h b ty vs) : a ≠ b := by
  obtain ⟨c, A, -⟩ := G
  exact ne_arr F.1 wi A
theorem OObj.neObj {Z : State} {h : Heap} {a b : Addr} {C C' : String} {fs gs : List (String × String × String × Value)} (F : OObj Z h a C fs) (G : OObj Z h b C' gs) (hn : C ≠ C') : a ≠ b := ne_exa F.1 G.1 hn
/-- a String reference that may be null -/
def OSv (Z : State) (h : Heap) (v : Value) (o : Option (List Int32)) : Prop := (v = .null ∧ o = none) ∨ ∃ (a b : Addr) (us : List Int32), v = .ref a ∧ o = some us ∧ OStr Z h a b (och us)
theorem OSv.isRef {Z : State} {h : Heap} {v : Value} {o : Option (List Int32)} (F : OSv Z h v o) : v.isRef = true := by
  rcases F with ⟨rfl, -⟩ | ⟨a, b, us, rfl, -⟩ <;> rfl
theorem OSv.cat {Z : State} {h : Heap} {v : Value} {o : Option (List Int32)} (F : OSv Z h v o) : v.category = 1 := by
  rcases F with ⟨rfl, -⟩ | ⟨a, b, us, rfl, -⟩ <;> rfl
theorem OSv.keep0 {Z : State} {h h' : Heap} {v : Value} {o : Option (List Int32)} (F : OSv Z h v o) (K : Keep h h' []) : OSv Z h' v o := by
  rcases F with F | ⟨a, b, us, e1, e2, F⟩
  · exact Or.inl F
  · exact Or.inr ⟨a, b, us, e1, e2, F.keep K nin0 nin0⟩
theorem OSv.keep1 {Z : State} {h h' : Heap} {v : Value} {o : Option (List Int32)} {c : Addr} {C : String} {a0 : Array Value} {fs : List (String × String × String × Value)} {k : Nat} (F : OSv Z h v o) (G : OObj Z h c C fs) (wi : (Jvm.Cond.instantiable C k).before a0 Z = true) (hC : C ≠ "java/lang/String") (K : Keep h h' [c]) : OSv Z h' v o := by
  rcases F with F | ⟨a, b, us, e1, e2, F⟩
  · exact Or.inl F
  · exact Or.inr ⟨a, b, us, e1, e2, F.keep K (ninS (Ne.symm (G.neObj F.1 hC)) nin0) (ninS (Ne.symm (G.neArr wi F.2)) nin0)⟩
theorem o_fitsRef {v : Value} {C : String} (h : v.isRef = true) : fits (.object C) v = true := by cases v <;> first | rfl | cases h
theorem o_store {l : Array Slot} {i : Nat} {v : Value} {o : Slot} {l' : Array Slot} (hold : l[i]? = some o) (ho : One o) (hv : v.category = 1) (e : l.setIfInBounds i (.val v) = l') : storeLocals l i v = some l' := e ▸ XS.store1 hold ho hv
/-- C is no K: C's superclass is the root; K is a class of objects -/
theorem o_ns1 {Z : State} {a0 : Array Value} {O C K : String} {n : Nat} (w0 : (Jvm.Cond.noSuperclass O).before a0 Z = true) (w : (Jvm.Cond.superclass C O).before a0 Z = true) (wi : (Jvm.Cond.instantiable K n).before a0 Z = true) (h1 : O ≠ K) (h2 : C ≠ K) : ∃ c t, Z.vm.findClass C = some c ∧ Z.vm.findClass K = some t ∧ Z.vm.assignable c t = false := by
  obtain ⟨c0, k0, a1, a2, a3, -, -⟩ := Cond.noSuperclass_spec w0
  obtain ⟨t, kt, g1, g2, g3, g4, -, -⟩ := Cond.instantiable_spec wi
  obtain ⟨c, b0⟩ := found_sup w
  obtain ⟨p, k, kp, b1, b2, b3, b4, b5, -, b7⟩ := Cond.superclass_spec b0 w
  cases b1.symm.trans a1
  have ne0 := ids_ne a1 g1 h1
  have ne1 := ids_ne b0 g1 h2
  have gI : kt.isInterface = false := by
    cases q : kt.isInterface
    · rfl
    · rw [q] at g4; cases g4
  have sub0 : ∀ fuel, Z.vm.isSubclassAux fuel c0 t = false := fun fuel => by
    cases fuel with
    | zero => rfl
    | succ f => simp [Vm.isSubclassAux, ne0, a2, a3]
  have sub : ∀ fuel, Z.vm.isSubclassAux fuel c t = false := fun fuel => by
    cases fuel with
    | zero => rfl
    | succ f => simp [Vm.isSubclassAux, ne1, b2, b4, sub0]
  refine ⟨c, t, b0, g1, ?_⟩
  show Z.vm.assignableAux (255 + 1) c t = false
  simp [Vm.assignableAux, ne1, b2, g2, b5, g3, gI, Vm.isSubclass, sub]
theorem o_nar_byte (c : Int32) : nar .byte (obyte c) = obyte c := by simp [nar, obyte]
theorem OObj.one {Z : State} {h : Heap} {a : Addr} {C O nm d : String} {v : Value} (E : Exa Z h a C) (F : Fld Z h a O nm d v) : OObj Z h a C [(O, nm, d, v)] := by
  refine ⟨E, fun f hf => ?_, fun i j f g hij hi hj => ?_⟩
  · rw [List.mem_singleton.mp hf]; exact F
  · have h1 := (List.getElem?_eq_some_iff.mp hi).1
    have h2 := (List.getElem?_eq_some_iff.mp hj).1
    simp at h1 h2; omega
theorem OObj.zero {Z : State} {h : Heap} {a : Addr} {C : String} (E : Exa Z h a C) : OObj Z h a C [] := ⟨E, fun f hf => (nomatch hf), fun i j f g hij hi hj => by simp at hi⟩
theorem OObj.ext {Z : State} {h h' : Heap} {a : Addr} {C : String} {fs : List (String × String × String × Value)} (F : OObj Z h a C fs) (E : Ext h h') : OObj Z h' a C fs := ⟨F.1.ext E, fun f hf => (F.2.1 f hf).ext E, F.2.2⟩
/-! from the case's words to facts at the start -/
section OStart
variable {Z : State} {args : Array Value} {t F : Term} {a : Addr} {cl : Cell} {ty : FieldType} {n : Int32} {vs : List Value}
theorem o_len (et : t.eval args Z none [] Z = some (.ref a)) (A : Arr Z Z.heap a cl ty) (h : (Jvm.Cond.eq (.length t) (.int n)).value args Z none Z [] = some true) : cl.slots.size < 2 ^ 31 ∧ cl.slots.size.toInt32 = n := by
  have e := eqv_i (Term.int_eval n) h
  have ha := A.fin (Vm.Alike.refl _)
  by_cases q : cl.slots.size < 2 ^ 31
  · rw [len_f et ha q] at e
    exact ⟨q, Value.int.inj (Option.some.inj e)⟩
  · simp [Term.eval, et, ha] at e
    omega
theorem o_fnull {C nm d : String} (et : t.eval args Z none [] Z = some (.ref a)) (h : (Jvm.Cond.eq (.field t C nm d) .null).value args Z none Z [] = some true) : Fld Z Z.heap a C nm d .null := Fld.start ((fld_at et).symm.trans (null_v h))
theorem o_eqr {X : Term} {y : Addr} (hF : F.eval args Z none [] Z = some (.ref y)) (h : (Jvm.Cond.eq X F).value args Z none Z [] = some true) : X.eval args Z none [] Z = some (.ref y) := by
  obtain ⟨x, y', e1, e2, k1, k2⟩ := cmp_v (Or.inl h)
  cases hF.symm.trans e2
  simp only [Cond.value, e1, hF] at h
  cases x <;> simp_all
theorem o_fexa {C nm d : String} {b : Addr} (et : t.eval args Z none [] Z = some (.ref a)) (eb : (Term.field t C nm d).eval args Z none [] Z = some (.ref b)) : Fld Z Z.heap a C nm d (.ref b) := Fld.start ((fld_at et).symm.trans eb)
theorem o_fint {C nm d : String} (et : t.eval args Z none [] Z = some (.ref a)) (h : (Jvm.Cond.eq (.field t C nm d) (.int n)).value args Z none Z [] = some true) : Fld Z Z.heap a C nm d (.int n) := Fld.start ((fld_at et).symm.trans (eqv_i (Term.int_eval n) h))
theorem o_flong {C nm d : String} {x : Int64} (et : t.eval args Z none [] Z = some (.ref a)) (h : (Jvm.Cond.eq (.field t C nm d) (.long x)).value args Z none Z [] = some true) : Fld Z Z.heap a C nm d (.long x) := Fld.start ((fld_at et).symm.trans (eqv_l (long_at x) h))
theorem o_slot {j : Int32} {v : Value} (et : t.eval args Z none [] Z = some (.ref a)) (A : Arr Z Z.heap a cl ty) (hj : ¬ j < 0) (e : (Term.elem t (.int j)).eval args Z none [] Z = some v) : cl.slots[j.toNatClampNeg]? = some v := (elem_f et (Term.int_eval j) (A.fin (Vm.Alike.refl _)) hj).symm.trans e
theorem OArr.start (hf : Fit Z) (A : Arr Z Z.heap a cl ty) (hl : cl.slots.size < 2 ^ 31 ∧ cl.slots.size.toInt32 = n) (hz : ¬ n < 0) (hn : n.toNatClampNeg = vs.length) (H : HasL cl 0 vs) : OArr Z Z.heap a ty vs := OArr.ofArv (dv := .null) (Arv.start hf A hl.1 hl.2 hz hn H) hn.symm
theorem OArr.ext {h h' : Heap} (F : OArr Z h a ty vs) (E : Ext h h') : OArr Z h' a ty vs := by obtain ⟨c, A, r⟩ := F; exact ⟨c, A.ext E, r⟩
theorem OObj.two {h : Heap} {C O nm d O' nm' d' : String} {a0 : Array Value} {v w : Value} {ty ty' : FieldType} (E : Exa Z h a C) (F : Fld Z h a O nm d v) (G : Fld Z h a O' nm' d' w) (L : Laid Z a0 C O nm d) (L' : Laid Z a0 C O' nm' d') (hn : nm ≠ nm') (ht : parseFieldDescriptor d = some ty) (ht' : parseFieldDescriptor d' = some ty') : OObj Z h a C [(O, nm, d, v), (O', nm', d', w)] := by
  have s1 := slot_ne L L' hn ht ht'
  refine ⟨E, fun f hf => ?_, fun i j f g hij hi hj => ?_⟩
  · rcases List.mem_cons.mp hf with rfl | hf
    · exact F
    · rw [List.mem_singleton.mp hf]; exact G
  · match i, j, hi, hj with
    | 0, 0, _, _ => exact absurd rfl hij
    | 1, 1, _, _ => exact absurd rfl hij
    | 0, 1, hi, hj => cases hi; cases hj; exact s1
    | 1, 0, hi, hj => cases hi; cases hj; exact s1.symm
end OStart
section OClone
variable {p : Program} {l : Launch} {e : Env} {R : Room} {s : State} {m : MethodId} {args : Array Value} {below : List Frame} {meth : Method} {c : Code} {T T' : State} {cells slots : Nat} {Z : State} {a0 : Array Value} {EL : List (String × Nat)} {n0 : Nat} {W0 : List Addr} {own : String} {h h' : Heap} {Ow : List Addr} {Pq : Outcome → State → Prop} {pc pc' : Nat} {L : Array Slot} {S : List Value}
theorem o_clone (P : OPn p l e R s m args below meth c Z a0 EL n0 W0 own T h Ow cells slots) {ad : String} {index cap W : Nat} {a : Addr} {ty : FieldType} {vs : List Value} (w1 : (Jvm.Cond.methodLink own index ⟨ad, "clone", "()Ljava/lang/Object;"⟩).before a0 Z = true) (w2 : (Jvm.Cond.sameMethod ad "java/lang/Object" "clone" "()Ljava/lang/Object;").before a0 Z = true) (w3 : (Jvm.Cond.native ⟨"java/lang/Object", "clone", "()Ljava/lang/Object;"⟩).before a0 Z = true) (w4 : (Jvm.Cond.instanceMethod ⟨"java/lang/Object", "clone", "()Ljava/lang/Object;"⟩).before a0 Z = true) (w5 : (Jvm.Cond.selects ad ⟨ad, "clone", "()Ljava/lang/Object;"⟩ ⟨"java/lang/Object", "clone", "()Ljava/lang/Object;"⟩).before a0 Z = true) (w6 : (Jvm.Cond.castable ad "java/lang/Cloneable").before a0 Z = true)
    (A : OArr Z h a ty vs) (E : Exa Z h a ad) (hml : L.size = c.maxLocals) (hd : decode c.code pc = .ok (.invokevirtual index, 3)) (hp : pc + 3 = pc') (hf : 1 ≤ R.frames) (hW : (S.map fun v => v.category).sum ≤ W) (hl : W + 14 ≤ R.locals) (hcap : vs.length ≤ cap) (hc : cells + 1 ≤ R.cells) (hs : slots + cap ≤ R.slots)
    (k : ∀ T' h' b, OPn p l e R s m args below meth c Z a0 EL n0 W0 own T' h' (b :: Ow) (cells + 1) (slots + cap) → Keep h h' [] → h.size ≤ b → OArr Z h' b ty vs → Exa Z h' b ad → OG p e below m Pq T' pc' L (.ref b :: S)) : OG p e below m Pq T pc L (.ref a :: S) := by
  subst hp
  obtain ⟨cl, Ar, e1, e2, e3⟩ := A
  have FC : FitC Z cl := fitC_of Ar fun i hi v hv => e3 v (by rw [e1] at hv; exact List.mem_of_getElem? (by simpa using hv))
  refine P.grow (G := fun h' b => OArr Z h' b ty vs ∧ Exa Z h' b ad) (fun locs X hZ hown eT hx => ?_) fun T' h' b P' K hb q => k T' h' b P' K hb q.1 q.2
  obtain ⟨T', h', X', e', E', A', B', st⟩ := cloneA X hx hZ hown w1 w2 w3 w4 w5 w6 eT Ar E FC (g := mkF m pc L (.ref a :: S)) rfl hml rfl hd hf (by show 2 * 0 + _ ≤ _; omega) hl (by rw [e1]; simpa using hcap) hc hs
  exact ⟨T', h', X', e', E', A'.lt, ⟨⟨_, A', e1, e2, e3⟩, B'⟩, st⟩
end OClone
theorem ow {Z : State} {a0 : Array Value} {d : Jvm.Cond} (hw : ∀ d ∈ tables_1, d.before a0 Z = true) (k : Nat) (h : tables_1[k]? = some d) : d.before a0 Z = true := hw d (List.mem_of_getElem? h)
theorem o_safe0 {Z : State} {vm : Vm} {h : Heap} {x : Addr} : Safe Z [] vm h x := fun ⟨p, hp, _⟩ => nomatch hp
abbrev own_sc (N : Nat) (F : Nat → Int64) : List Value := (List.range N).map fun i => .double (FP.l2d (F i))
abbrev own_mt (N : Nat) (M : Nat → Int32) : List Value := (List.range N).map fun i => .int (M i)
theorem own_get {N i : Nat} {f : Nat → Value} {v : Value} (hi : i < N) (e : f i = v) : ((List.range N).map f)[i]? = some v := by simp [hi, e]
theorem own_len {N i : Nat} {f : Nat → Value} (hi : i < N) : i < ((List.range N).map f).length := by simpa using hi
theorem own_set {N i : Nat} {f g : Nat → Value} {v : Value} (hi : g i = v) (h : ∀ j, j ≠ i → g j = f j) : ((List.range N).map f).set i v = (List.range N).map g := by
  apply List.ext_getElem?
  intro j
  by_cases e : j = i
  · subst e
    by_cases q : j < N
    · rw [List.getElem?_set_self (by simpa using q)]; simp [q, hi]
    · rw [List.getElem?_eq_none (by simpa using Nat.le_of_not_lt q), List.getElem?_eq_none (by simpa using Nat.le_of_not_lt q)]
  · rw [List.getElem?_set_ne (fun q => e q.symm)]
    by_cases q : j < N
    · simp [q, h j e]
    · rw [List.getElem?_eq_none (by simpa using Nat.le_of_not_lt q), List.getElem?_eq_none (by simpa using Nat.le_of_not_lt q)]
theorem own_rep {N : Nat} {v : Value} : List.replicate N v = (List.range N).map fun _ => v := by
  apply List.ext_getElem?
  intro j
  by_cases q : j < N
  · simp [q]
  · rw [List.getElem?_eq_none (by simpa using Nat.le_of_not_lt q), List.getElem?_eq_none (by simpa using Nat.le_of_not_lt q)]
theorem pn_C : plainName "com/example/busca/busca/rank/Accumulator" = true := by first | (simp [plainName, overriddenIn]; done) | decide +kernel
theorem pn_L : plainName "com/example/busca/busca/rank/AccumulatorAddPinLaw" = true := by first | (simp [plainName, overriddenIn]; done) | decide +kernel
theorem d1_0 : decode prog_59_method_1_code 0 = .ok (.aload_n 0, 1) := by decide +kernel
theorem d1_1 : decode prog_59_method_1_code 1 = .ok (.invokespecial 1, 3) := by decide +kernel
theorem d1_4 : decode prog_59_method_1_code 4 = .ok (.aload_n 0, 1) := by decide +kernel
theorem d1_5 : decode prog_59_method_1_code 5 = .ok (.bipush 16, 2) := by decide +kernel
theorem d1_7 : decode prog_59_method_1_code 7 = .ok (.newarray .int, 2) := by decide +kernel
theorem d1_9 : decode prog_59_method_1_code 9 = .ok (.putfield 7, 3) := by decide +kernel
theorem d1_12 : decode prog_59_method_1_code 12 = .ok (.aload_n 0, 1) := by decide +kernel
theorem d1_13 : decode prog_59_method_1_code 13 = .ok (.iload_n 1, 1) := by decide +kernel
theorem d1_14 : decode prog_59_method_1_code 14 = .ok (.newarray .double, 2) := by decide +kernel
theorem d1_16 : decode prog_59_method_1_code 16 = .ok (.putfield 13, 3) := by decide +kernel
theorem d1_19 : decode prog_59_method_1_code 19 = .ok (.aload_n 0, 1) := by decide +kernel
theorem d1_20 : decode prog_59_method_1_code 20 = .ok (.iload_n 1, 1) := by decide +kernel
theorem d1_21 : decode prog_59_method_1_code 21 = .ok (.newarray .boolean, 2) := by decide +kernel
theorem d1_23 : decode prog_59_method_1_code 23 = .ok (.putfield 17, 3) := by decide +kernel
theorem d1_26 : decode prog_59_method_1_code 26 = .ok (.return_, 1) := by decide +kernel
theorem ef_1 (a : Addr) (n : Int32) (m : MethodId) : entryFrame m #[(.ref a), (.int n)] 2 = mkF m 0 #[.val (.ref a), .val (.int n)] [] := by first | (simp [entryFrame, mkF, argsToLocals, Value.category]; done) | rfl
set_option maxRecDepth 65536 in
set_option maxHeartbeats 40000000 in
theorem ct_init (l : Launch) (Z : State) (a0 : Array Value) (hw : ∀ d ∈ tables_1, d.before a0 Z = true) (EL : List (String × Nat)) (n0 : Nat) (a : Addr) (n : Int32) (h0 : Heap) (F_a : OObj Z h0 a "com/example/busca/busca/rank/Accumulator" [("com/example/busca/busca/rank/Accumulator", "results", "[I", .null), ("com/example/busca/busca/rank/Accumulator", "scores", "[D", .null), ("com/example/busca/busca/rank/Accumulator", "matched", "[Z", .null), ("com/example/busca/busca/rank/Accumulator", "size", "I", (.int (0 : Int32)))]) (hn0 : ¬ n < 0) (hn4 : n.toNatClampNeg ≤ 4) :
    OCt l Z a0 EL n0 (⟨"com/example/busca/busca/rank/Accumulator", "<init>", "(I)V"⟩ : MethodName) prog_59_method_1_code 2 none ({ frames := 1, cells := 3, slots := 24, locals := 12 } : Room) [] #[.ref a, .int n] h0 [a] (fun w vm h => w = none ∧ ∃ r sc mt : Addr, h0.size ≤ r ∧ h0.size ≤ sc ∧ h0.size ≤ mt ∧ r ≠ sc ∧ r ≠ mt ∧ sc ≠ mt ∧ OObj Z h a "com/example/busca/busca/rank/Accumulator" [("com/example/busca/busca/rank/Accumulator", "results", "[I", (.ref r)), ("com/example/busca/busca/rank/Accumulator", "scores", "[D", (.ref sc)), ("com/example/busca/busca/rank/Accumulator", "matched", "[Z", (.ref mt)), ("com/example/busca/busca/rank/Accumulator", "size", "I", (.int (0 : Int32)))] ∧ OArr Z h r .int (List.replicate 16 (.int 0)) ∧ OArr Z h sc .double (own_sc n.toNatClampNeg fun _ => 0) ∧ OArr Z h mt .boolean (own_mt n.toNatClampNeg fun _ => 0)) := by
  refine OCt.body (plainFor_of_name pn_C) (ef_1 a n) ?_
  intro p e s m below meth c T hby hml hret hnm hsh P
  refine o_aloadN P (hb hby d1_0) rfl rfl (pc' := 1) rfl ?_
  refine o_initO P (W := 0) (ow hw 6 rfl) (ow hw 7 rfl) (ow hw 8 rfl) (by rw [hml]; rfl) (by decide) (Nat.le_of_eq rfl) (by decide) (hb hby d1_1) (pc' := 4) rfl ?_
  clear P; intro T P
  refine o_aloadN P (hb hby d1_4) rfl rfl (pc' := 5) rfl ?_
  refine o_bipush P (16 : Int32) (hb hby d1_5) rfl (pc' := 7) rfl ?_
  have hz_b1 := P.keep0.1
  refine o_newarr P (cap := 16) (ow hw 9 rfl) (hb hby d1_7) (by decide) (by decide) (by decide) (pc' := 9) rfl (by decide) (by decide) ?_
  clear P; intro T h1 b1 P K1 hb_b1 A_b1
  have sz_b1 := Nat.le_trans hz_b1 hb_b1
  clear hz_b1
  have ne_a_b1 : a ≠ b1 := Nat.ne_of_lt (Nat.lt_of_lt_of_le F_a.lt hb_b1)
  replace F_a := F_a.keep K1 nin0
  clear K1
  replace A_b1 : OArr Z h1 b1 .int [(.int 0), (.int 0), (.int 0), (.int 0), (.int 0), (.int 0), (.int 0), (.int 0), (.int 0), (.int 0), (.int 0), (.int 0), (.int 0), (.int 0), (.int 0), (.int 0)] := A_b1
  refine o_putF P (v' := (.ref b1)) (ty := (.array .int)) (ow hw 10 rfl) Via.refl (F_a.fld 0 rfl) F_a.exa (Or.inl (ow hw 11 rfl)) (ow hw 1 rfl) (by decide) rfl rfl (List.Mem.tail _ (List.Mem.head _)) (hb hby d1_9) (pc' := 12) rfl ?_
  clear P; intro T h2 P W2
  replace A_b1 := A_b1.oth W2 (Ne.symm ne_a_b1)
  replace F_a : OObj Z h2 a "com/example/busca/busca/rank/Accumulator" [("com/example/busca/busca/rank/Accumulator", "results", "[I", (.ref b1)), ("com/example/busca/busca/rank/Accumulator", "scores", "[D", .null), ("com/example/busca/busca/rank/Accumulator", "matched", "[Z", .null), ("com/example/busca/busca/rank/Accumulator", "size", "I", (.int (0 : Int32)))] := F_a.put 0 rfl W2
  clear W2
  refine o_aloadN P (hb hby d1_12) rfl rfl (pc' := 13) rfl ?_
  refine o_iloadN P (hb hby d1_13) rfl (pc' := 14) rfl ?_
  have hz_sc := P.keep0.1
  refine o_newarr P (cap := 4) (ow hw 12 rfl) (hb hby d1_14) hn0 hn4 (by decide) (pc' := 16) rfl (by decide) (by decide) ?_
  clear P; intro T h3 sc P K3 hb_sc A_sc
  have sz_sc := Nat.le_trans hz_sc hb_sc
  clear hz_sc
  have ne_a_sc : a ≠ sc := Nat.ne_of_lt (Nat.lt_of_lt_of_le F_a.lt hb_sc)
  have ne_b1_sc : b1 ≠ sc := Nat.ne_of_lt (Nat.lt_of_lt_of_le A_b1.lt hb_sc)
  replace F_a := F_a.keep K3 nin0
  replace A_b1 := A_b1.keep K3 nin0
  clear K3
  replace A_sc : OArr Z h3 sc .double (own_sc n.toNatClampNeg fun _ => 0) := by
    have q : List.replicate n.toNatClampNeg (defaultValue (newarray.typeOf .double)) = own_sc n.toNatClampNeg fun _ => 0 := by rw [own_rep]; simp only [own_sc, l2d_zero]; rfl
    rw [← q]; exact A_sc
  refine o_putF P (v' := (.ref sc)) (ty := (.array .double)) (ow hw 13 rfl) Via.refl (F_a.fld 1 rfl) F_a.exa (Or.inr ⟨(ow hw 14 rfl), rfl, hnm⟩) (ow hw 1 rfl) (by decide) rfl rfl (List.Mem.tail _ (List.Mem.tail _ (List.Mem.head _))) (hb hby d1_16) (pc' := 19) rfl ?_
  clear P; intro T h4 P W4
  replace A_b1 := A_b1.oth W4 (Ne.symm ne_a_b1)
  replace A_sc := A_sc.oth W4 (Ne.symm ne_a_sc)
  replace F_a : OObj Z h4 a "com/example/busca/busca/rank/Accumulator" [("com/example/busca/busca/rank/Accumulator", "results", "[I", (.ref b1)), ("com/example/busca/busca/rank/Accumulator", "scores", "[D", (.ref sc)), ("com/example/busca/busca/rank/Accumulator", "matched", "[Z", .null), ("com/example/busca/busca/rank/Accumulator", "size", "I", (.int (0 : Int32)))] := F_a.put 1 rfl W4
  clear W4
  refine o_aloadN P (hb hby d1_19) rfl rfl (pc' := 20) rfl ?_
  refine o_iloadN P (hb hby d1_20) rfl (pc' := 21) rfl ?_
  have hz_mt := P.keep0.1
  refine o_newarr P (cap := 4) (ow hw 15 rfl) (hb hby d1_21) hn0 hn4 (by decide) (pc' := 23) rfl (by decide) (by decide) ?_
  clear P; intro T h5 mt P K5 hb_mt A_mt
  have sz_mt := Nat.le_trans hz_mt hb_mt
  clear hz_mt
  have ne_a_mt : a ≠ mt := Nat.ne_of_lt (Nat.lt_of_lt_of_le F_a.lt hb_mt)
  have ne_b1_mt : b1 ≠ mt := Nat.ne_of_lt (Nat.lt_of_lt_of_le A_b1.lt hb_mt)
  have ne_sc_mt : sc ≠ mt := Nat.ne_of_lt (Nat.lt_of_lt_of_le A_sc.lt hb_mt)
  replace F_a := F_a.keep K5 nin0
  replace A_b1 := A_b1.keep K5 nin0
  replace A_sc := A_sc.keep K5 nin0
  clear K5
  replace A_mt : OArr Z h5 mt .boolean (own_mt n.toNatClampNeg fun _ => 0) := by
    have q : List.replicate n.toNatClampNeg (defaultValue (newarray.typeOf .boolean)) = own_mt n.toNatClampNeg fun _ => 0 := own_rep
    rw [← q]; exact A_mt
  refine o_putF P (v' := (.ref mt)) (ty := (.array .boolean)) (ow hw 16 rfl) Via.refl (F_a.fld 2 rfl) F_a.exa (Or.inr ⟨(ow hw 17 rfl), rfl, hnm⟩) (ow hw 1 rfl) (by decide) rfl rfl (List.Mem.tail _ (List.Mem.tail _ (List.Mem.tail _ (List.Mem.head _)))) (hb hby d1_23) (pc' := 26) rfl ?_
  clear P; intro T h6 P W6
  replace A_b1 := A_b1.oth W6 (Ne.symm ne_a_b1)
  replace A_sc := A_sc.oth W6 (Ne.symm ne_a_sc)
  replace A_mt := A_mt.oth W6 (Ne.symm ne_a_mt)
  replace F_a : OObj Z h6 a "com/example/busca/busca/rank/Accumulator" [("com/example/busca/busca/rank/Accumulator", "results", "[I", (.ref b1)), ("com/example/busca/busca/rank/Accumulator", "scores", "[D", (.ref sc)), ("com/example/busca/busca/rank/Accumulator", "matched", "[Z", (.ref mt)), ("com/example/busca/busca/rank/Accumulator", "size", "I", (.int (0 : Int32)))] := F_a.put 2 rfl W6
  clear W6
  exact o_ret0 P hret (hb hby d1_26) (by decide) (by decide) ⟨rfl, b1, sc, mt, hsh ▸ sz_b1, hsh ▸ sz_sc, hsh ▸ sz_mt, ne_b1_sc, ne_b1_mt, ne_sc_mt, F_a, A_b1, A_sc, A_mt⟩
theorem d2_0 : decode prog_59_method_2_code 0 = .ok (.aload_n 0, 1) := by decide +kernel
theorem d2_1 : decode prog_59_method_2_code 1 = .ok (.getfield 17, 3) := by decide +kernel
theorem d2_4 : decode prog_59_method_2_code 4 = .ok (.iload_n 1, 1) := by decide +kernel
theorem d2_5 : decode prog_59_method_2_code 5 = .ok (.baload, 1) := by decide +kernel
theorem d2_6 : decode prog_59_method_2_code 6 = .ok (.ifCond .ne 56, 3) := by decide +kernel
theorem d2_9 : decode prog_59_method_2_code 9 = .ok (.aload_n 0, 1) := by decide +kernel
theorem d2_10 : decode prog_59_method_2_code 10 = .ok (.getfield 17, 3) := by decide +kernel
theorem d2_13 : decode prog_59_method_2_code 13 = .ok (.iload_n 1, 1) := by decide +kernel
theorem d2_14 : decode prog_59_method_2_code 14 = .ok (.iconst 1, 1) := by decide +kernel
theorem d2_15 : decode prog_59_method_2_code 15 = .ok (.bastore, 1) := by decide +kernel
theorem d2_16 : decode prog_59_method_2_code 16 = .ok (.aload_n 0, 1) := by decide +kernel
theorem d2_17 : decode prog_59_method_2_code 17 = .ok (.getfield 21, 3) := by decide +kernel
theorem d2_20 : decode prog_59_method_2_code 20 = .ok (.aload_n 0, 1) := by decide +kernel
theorem d2_21 : decode prog_59_method_2_code 21 = .ok (.getfield 7, 3) := by decide +kernel
theorem d2_24 : decode prog_59_method_2_code 24 = .ok (.arraylength, 1) := by decide +kernel
theorem d2_25 : decode prog_59_method_2_code 25 = .ok (.if_icmp .ne 20, 3) := by decide +kernel
theorem d2_28 : decode prog_59_method_2_code 28 = .ok (.aload_n 0, 1) := by decide +kernel
theorem d2_29 : decode prog_59_method_2_code 29 = .ok (.aload_n 0, 1) := by decide +kernel
theorem d2_30 : decode prog_59_method_2_code 30 = .ok (.getfield 7, 3) := by decide +kernel
theorem d2_33 : decode prog_59_method_2_code 33 = .ok (.aload_n 0, 1) := by decide +kernel
theorem d2_34 : decode prog_59_method_2_code 34 = .ok (.getfield 21, 3) := by decide +kernel
theorem d2_37 : decode prog_59_method_2_code 37 = .ok (.iconst 2, 1) := by decide +kernel
theorem d2_38 : decode prog_59_method_2_code 38 = .ok (.imul, 1) := by decide +kernel
theorem d2_39 : decode prog_59_method_2_code 39 = .ok (.invokestatic 25, 3) := by decide +kernel
theorem d2_42 : decode prog_59_method_2_code 42 = .ok (.putfield 7, 3) := by decide +kernel
theorem d2_45 : decode prog_59_method_2_code 45 = .ok (.aload_n 0, 1) := by decide +kernel
theorem d2_46 : decode prog_59_method_2_code 46 = .ok (.getfield 7, 3) := by decide +kernel
theorem d2_49 : decode prog_59_method_2_code 49 = .ok (.aload_n 0, 1) := by decide +kernel
theorem d2_50 : decode prog_59_method_2_code 50 = .ok (.dup, 1) := by decide +kernel
theorem d2_51 : decode prog_59_method_2_code 51 = .ok (.getfield 21, 3) := by decide +kernel
theorem d2_54 : decode prog_59_method_2_code 54 = .ok (.dup_x1, 1) := by decide +kernel
theorem d2_55 : decode prog_59_method_2_code 55 = .ok (.iconst 1, 1) := by decide +kernel
theorem d2_56 : decode prog_59_method_2_code 56 = .ok (.iadd, 1) := by decide +kernel
theorem d2_57 : decode prog_59_method_2_code 57 = .ok (.putfield 21, 3) := by decide +kernel
theorem d2_60 : decode prog_59_method_2_code 60 = .ok (.iload_n 1, 1) := by decide +kernel
theorem d2_61 : decode prog_59_method_2_code 61 = .ok (.iastore, 1) := by decide +kernel
theorem d2_62 : decode prog_59_method_2_code 62 = .ok (.aload_n 0, 1) := by decide +kernel
theorem d2_63 : decode prog_59_method_2_code 63 = .ok (.getfield 13, 3) := by decide +kernel
theorem d2_66 : decode prog_59_method_2_code 66 = .ok (.iload_n 1, 1) := by decide +kernel
theorem d2_67 : decode prog_59_method_2_code 67 = .ok (.dup2, 1) := by decide +kernel
theorem d2_68 : decode prog_59_method_2_code 68 = .ok (.daload, 1) := by decide +kernel
theorem d2_69 : decode prog_59_method_2_code 69 = .ok (.dload_n 2, 1) := by decide +kernel
theorem d2_70 : decode prog_59_method_2_code 70 = .ok (.dadd, 1) := by decide +kernel
theorem d2_71 : decode prog_59_method_2_code 71 = .ok (.dastore, 1) := by decide +kernel
theorem d2_72 : decode prog_59_method_2_code 72 = .ok (.return_, 1) := by decide +kernel
theorem ef_2 (a : Addr) (d : Int32) (x : UInt64) (m : MethodId) : entryFrame m #[(.ref a), (.int d), (.double x)] 4 = mkF m 0 #[.val (.ref a), .val (.int d), .val (.double x), .second] [] := by first | (simp [entryFrame, mkF, argsToLocals, Value.category]; done) | rfl
set_option maxRecDepth 65536 in
set_option maxHeartbeats 40000000 in
theorem ct_addN (l : Launch) (Z : State) (a0 : Array Value) (hw : ∀ d ∈ tables_1, d.before a0 Z = true) (EL : List (String × Nat)) (n0 : Nat) (a r sc mt : Addr) (N : Nat) (F : Nat → Int64) (M : Nat → Int32) (rs : List Value) (k d : Int32) (v : Int64) (h0 : Heap) (F_a : OObj Z h0 a "com/example/busca/busca/rank/Accumulator" [("com/example/busca/busca/rank/Accumulator", "results", "[I", (.ref r)), ("com/example/busca/busca/rank/Accumulator", "scores", "[D", (.ref sc)), ("com/example/busca/busca/rank/Accumulator", "matched", "[Z", (.ref mt)), ("com/example/busca/busca/rank/Accumulator", "size", "I", (.int k))]) (A_r : OArr Z h0 r .int rs) (A_sc : OArr Z h0 sc .double (own_sc N F)) (A_mt : OArr Z h0 mt .boolean (own_mt N M)) (ne_a_r : a ≠ r) (ne_a_sc : a ≠ sc) (ne_a_mt : a ≠ mt) (ne_r_sc : r ≠ sc) (ne_r_mt : r ≠ mt) (ne_sc_mt : sc ≠ mt) (hd0 : ¬ d < 0) (hd1 : d.toNatClampNeg < N) (hM : M d.toNatClampNeg = 0) (b1 : B53 (F d.toNatClampNeg)) (b2 : B53 v) (hrl : rs.length = 16) (hk0 : ¬ k < 0) (hkn : k.toNatClampNeg < 16) (hk16 : ¬ k = (16 : Int32)) :
    OCt l Z a0 EL n0 (⟨"com/example/busca/busca/rank/Accumulator", "add", "(ID)V"⟩ : MethodName) prog_59_method_2_code 4 none ({ frames := 0, cells := 0, slots := 0, locals := 0 } : Room) [] #[.ref a, .int d, .double (FP.l2d v)] h0 [a, r, sc, mt] (fun w vm h => w = none ∧ OObj Z h a "com/example/busca/busca/rank/Accumulator" [("com/example/busca/busca/rank/Accumulator", "results", "[I", (.ref r)), ("com/example/busca/busca/rank/Accumulator", "scores", "[D", (.ref sc)), ("com/example/busca/busca/rank/Accumulator", "matched", "[Z", (.ref mt)), ("com/example/busca/busca/rank/Accumulator", "size", "I", (.int (k + (1 : Int32))))] ∧ OArr Z h r .int (rs.set k.toNatClampNeg (.int d)) ∧ OArr Z h sc .double (own_sc N (fun i => if i = d.toNatClampNeg then F i + v else F i)) ∧ OArr Z h mt .boolean (own_mt N (fun i => if i = d.toNatClampNeg then 1 else M i))) := by
  refine OCt.body (plainFor_of_name pn_C) (ef_2 a d (FP.l2d v)) ?_
  intro p e s m below meth c T hby hml hret hnm hsh P
  refine o_aloadN P (hb hby d2_0) rfl rfl (pc' := 1) rfl ?_
  refine o_getF P (ow hw 16 rfl) Via.refl (F_a.fld 2 rfl) (hb hby d2_1) (pc' := 4) rfl ?_
  clear P; intro T P
  refine o_iloadN P (hb hby d2_4) rfl (pc' := 5) rfl ?_
  refine o_zaload P (v := (.int (0 : Int32))) A_mt hd0 (own_get hd1 (by rw [hM])) (hb hby d2_5) (pc' := 6) rfl ?_
  refine o_if_ne P (hb hby d2_6) (by decide) (pc' := 62) (by decide) (pcf := 9) rfl (fun q => absurd (by decide) q) (fun _ => ?_)
  refine o_aloadN P (hb hby d2_9) rfl rfl (pc' := 10) rfl ?_
  refine o_getF P (ow hw 16 rfl) Via.refl (F_a.fld 2 rfl) (hb hby d2_10) (pc' := 13) rfl ?_
  clear P; intro T P
  refine o_iloadN P (hb hby d2_13) rfl (pc' := 14) rfl ?_
  refine o_iconst P (1 : Int32) (hb hby d2_14) rfl (pc' := 15) rfl ?_
  refine o_zastore P (v := (.int (1 : Int32))) A_mt (List.Mem.tail _ (List.Mem.tail _ (List.Mem.tail _ (List.Mem.head _)))) hd0 (own_len hd1) rfl (hb hby d2_15) (pc' := 16) rfl ?_
  clear P; clear A_mt; intro T h1 P W1 A_mt
  replace F_a := F_a.oth W1 ne_a_mt
  replace A_r := A_r.oth W1 ne_r_mt
  replace A_sc := A_sc.oth W1 ne_sc_mt
  clear W1
  replace A_mt : OArr Z h1 mt .boolean (own_mt N (fun i => if i = d.toNatClampNeg then 1 else M i)) := A_mt.eq (own_set (by simp) (fun j hj => by simp [hj]))
  refine o_aloadN P (hb hby d2_16) rfl rfl (pc' := 17) rfl ?_
  refine o_getF P (ow hw 23 rfl) Via.refl (F_a.fld 3 rfl) (hb hby d2_17) (pc' := 20) rfl ?_
  clear P; intro T P
  refine o_aloadN P (hb hby d2_20) rfl rfl (pc' := 21) rfl ?_
  refine o_getF P (ow hw 10 rfl) Via.refl (F_a.fld 0 rfl) (hb hby d2_21) (pc' := 24) rfl ?_
  clear P; intro T P
  refine o_arrlen P A_r (hb hby d2_24) (n := (16 : Int32)) (by rw [hrl]; rfl) (pc' := 25) rfl ?_
  refine o_icmp_ne P (hb hby d2_25) (by decide) (pc' := 45) (by decide) (pcf := 28) rfl (fun _ => ?_) (fun q => absurd q hk16)
  refine o_aloadN P (hb hby d2_45) rfl rfl (pc' := 46) rfl ?_
  refine o_getF P (ow hw 10 rfl) Via.refl (F_a.fld 0 rfl) (hb hby d2_46) (pc' := 49) rfl ?_
  clear P; intro T P
  refine o_aloadN P (hb hby d2_49) rfl rfl (pc' := 50) rfl ?_
  refine o_dup P (hb hby d2_50) rfl (pc' := 51) rfl ?_
  refine o_getF P (ow hw 23 rfl) Via.refl (F_a.fld 3 rfl) (hb hby d2_51) (pc' := 54) rfl ?_
  clear P; intro T P
  refine o_dupX1 P (hb hby d2_54) rfl rfl (pc' := 55) rfl ?_
  refine o_iconst P (1 : Int32) (hb hby d2_55) rfl (pc' := 56) rfl ?_
  refine o_iadd P (hb hby d2_56) (pc' := 57) rfl ?_
  refine o_putF P (v' := (.int (k + (1 : Int32)))) (ty := .int) (ow hw 23 rfl) Via.refl (F_a.fld 3 rfl) F_a.exa (Or.inl (ow hw 24 rfl)) (ow hw 1 rfl) (by decide) rfl rfl (List.Mem.head _) (hb hby d2_57) (pc' := 60) rfl ?_
  clear P; intro T h2 P W2
  replace A_r := A_r.oth W2 (Ne.symm ne_a_r)
  replace A_sc := A_sc.oth W2 (Ne.symm ne_a_sc)
  replace A_mt := A_mt.oth W2 (Ne.symm ne_a_mt)
  replace F_a : OObj Z h2 a "com/example/busca/busca/rank/Accumulator" [("com/example/busca/busca/rank/Accumulator", "results", "[I", (.ref r)), ("com/example/busca/busca/rank/Accumulator", "scores", "[D", (.ref sc)), ("com/example/busca/busca/rank/Accumulator", "matched", "[Z", (.ref mt)), ("com/example/busca/busca/rank/Accumulator", "size", "I", (.int (k + (1 : Int32))))] := F_a.put 3 rfl W2
  clear W2
  refine o_iloadN P (hb hby d2_60) rfl (pc' := 61) rfl ?_
  refine o_iastore P (v := (.int d)) A_r (List.Mem.tail _ (List.Mem.head _)) hk0 (by rw [hrl]; exact hkn) rfl (hb hby d2_61) (pc' := 62) rfl ?_
  clear P; clear A_r; intro T h3 P W3 A_r
  replace F_a := F_a.oth W3 ne_a_r
  replace A_sc := A_sc.oth W3 (Ne.symm ne_r_sc)
  replace A_mt := A_mt.oth W3 (Ne.symm ne_r_mt)
  clear W3
  replace A_r : OArr Z h3 r .int (rs.set k.toNatClampNeg (.int d)) := A_r
  refine o_aloadN P (hb hby d2_62) rfl rfl (pc' := 63) rfl ?_
  refine o_getF P (ow hw 13 rfl) Via.refl (F_a.fld 1 rfl) (hb hby d2_63) (pc' := 66) rfl ?_
  clear P; intro T P
  refine o_iloadN P (hb hby d2_66) rfl (pc' := 67) rfl ?_
  refine o_dup2 P (hb hby d2_67) rfl rfl (pc' := 68) rfl ?_
  refine o_daload P (v := (.double (FP.l2d (F d.toNatClampNeg)))) A_sc hd0 (own_get hd1 rfl) (hb hby d2_68) (pc' := 69) rfl ?_
  refine o_dloadN P (hb hby d2_69) rfl (pc' := 70) rfl ?_
  refine o_dadd P (hb hby d2_70) (nn_w (dadd_w b1 b2)) (dadd_w b1 b2) (pc' := 71) rfl ?_
  refine o_dastore P (v := (.double (FP.l2d (F d.toNatClampNeg + v)))) A_sc (List.Mem.tail _ (List.Mem.tail _ (List.Mem.head _))) hd0 (own_len hd1) rfl (hb hby d2_71) (pc' := 72) rfl ?_
  clear P; clear A_sc; intro T h4 P W4 A_sc
  replace F_a := F_a.oth W4 ne_a_sc
  replace A_r := A_r.oth W4 ne_r_sc
  replace A_mt := A_mt.oth W4 (Ne.symm ne_sc_mt)
  clear W4
  replace A_sc : OArr Z h4 sc .double (own_sc N (fun i => if i = d.toNatClampNeg then F i + v else F i)) := A_sc.eq (own_set (by simp) (fun j hj => by simp [hj]))
  exact o_ret0 P hret (hb hby d2_72) (by decide) (by decide) ⟨rfl, F_a, A_r, A_sc, A_mt⟩
set_option maxRecDepth 65536 in
set_option maxHeartbeats 40000000 in
theorem ct_addO (l : Launch) (Z : State) (a0 : Array Value) (hw : ∀ d ∈ tables_1, d.before a0 Z = true) (EL : List (String × Nat)) (n0 : Nat) (a r sc mt : Addr) (N : Nat) (F : Nat → Int64) (M : Nat → Int32) (rs : List Value) (k d : Int32) (v : Int64) (h0 : Heap) (F_a : OObj Z h0 a "com/example/busca/busca/rank/Accumulator" [("com/example/busca/busca/rank/Accumulator", "results", "[I", (.ref r)), ("com/example/busca/busca/rank/Accumulator", "scores", "[D", (.ref sc)), ("com/example/busca/busca/rank/Accumulator", "matched", "[Z", (.ref mt)), ("com/example/busca/busca/rank/Accumulator", "size", "I", (.int k))]) (A_r : OArr Z h0 r .int rs) (A_sc : OArr Z h0 sc .double (own_sc N F)) (A_mt : OArr Z h0 mt .boolean (own_mt N M)) (ne_a_r : a ≠ r) (ne_a_sc : a ≠ sc) (ne_a_mt : a ≠ mt) (ne_r_sc : r ≠ sc) (ne_r_mt : r ≠ mt) (ne_sc_mt : sc ≠ mt) (hd0 : ¬ d < 0) (hd1 : d.toNatClampNeg < N) (hM : M d.toNatClampNeg = 1) (b1 : B53 (F d.toNatClampNeg)) (b2 : B53 v) :
    OCt l Z a0 EL n0 (⟨"com/example/busca/busca/rank/Accumulator", "add", "(ID)V"⟩ : MethodName) prog_59_method_2_code 4 none ({ frames := 0, cells := 0, slots := 0, locals := 0 } : Room) [] #[.ref a, .int d, .double (FP.l2d v)] h0 [a, r, sc, mt] (fun w vm h => w = none ∧ OObj Z h a "com/example/busca/busca/rank/Accumulator" [("com/example/busca/busca/rank/Accumulator", "results", "[I", (.ref r)), ("com/example/busca/busca/rank/Accumulator", "scores", "[D", (.ref sc)), ("com/example/busca/busca/rank/Accumulator", "matched", "[Z", (.ref mt)), ("com/example/busca/busca/rank/Accumulator", "size", "I", (.int k))] ∧ OArr Z h r .int rs ∧ OArr Z h sc .double (own_sc N (fun i => if i = d.toNatClampNeg then F i + v else F i)) ∧ OArr Z h mt .boolean (own_mt N M)) := by
  refine OCt.body (plainFor_of_name pn_C) (ef_2 a d (FP.l2d v)) ?_
  intro p e s m below meth c T hby hml hret hnm hsh P
  refine o_aloadN P (hb hby d2_0) rfl rfl (pc' := 1) rfl ?_
  refine o_getF P (ow hw 16 rfl) Via.refl (F_a.fld 2 rfl) (hb hby d2_1) (pc' := 4) rfl ?_
  clear P; intro T P
  refine o_iloadN P (hb hby d2_4) rfl (pc' := 5) rfl ?_
  refine o_zaload P (v := (.int (1 : Int32))) A_mt hd0 (own_get hd1 (by rw [hM])) (hb hby d2_5) (pc' := 6) rfl ?_
  refine o_if_ne P (hb hby d2_6) (by decide) (pc' := 62) (by decide) (pcf := 9) rfl (fun _ => ?_) (fun q => absurd q (by decide))
  refine o_aloadN P (hb hby d2_62) rfl rfl (pc' := 63) rfl ?_
  refine o_getF P (ow hw 13 rfl) Via.refl (F_a.fld 1 rfl) (hb hby d2_63) (pc' := 66) rfl ?_
  clear P; intro T P
  refine o_iloadN P (hb hby d2_66) rfl (pc' := 67) rfl ?_
  refine o_dup2 P (hb hby d2_67) rfl rfl (pc' := 68) rfl ?_
  refine o_daload P (v := (.double (FP.l2d (F d.toNatClampNeg)))) A_sc hd0 (own_get hd1 rfl) (hb hby d2_68) (pc' := 69) rfl ?_
  refine o_dloadN P (hb hby d2_69) rfl (pc' := 70) rfl ?_
  refine o_dadd P (hb hby d2_70) (nn_w (dadd_w b1 b2)) (dadd_w b1 b2) (pc' := 71) rfl ?_
  refine o_dastore P (v := (.double (FP.l2d (F d.toNatClampNeg + v)))) A_sc (List.Mem.tail _ (List.Mem.tail _ (List.Mem.head _))) hd0 (own_len hd1) rfl (hb hby d2_71) (pc' := 72) rfl ?_
  clear P; clear A_sc; intro T h1 P W1 A_sc
  replace F_a := F_a.oth W1 ne_a_sc
  replace A_r := A_r.oth W1 ne_r_sc
  replace A_mt := A_mt.oth W1 (Ne.symm ne_sc_mt)
  clear W1
  replace A_sc : OArr Z h1 sc .double (own_sc N (fun i => if i = d.toNatClampNeg then F i + v else F i)) := A_sc.eq (own_set (by simp) (fun j hj => by simp [hj]))
  exact o_ret0 P hret (hb hby d2_72) (by decide) (by decide) ⟨rfl, F_a, A_r, A_sc, A_mt⟩
theorem d3_0 : decode prog_59_method_3_code 0 = .ok (.aload_n 0, 1) := by decide +kernel
theorem d3_1 : decode prog_59_method_3_code 1 = .ok (.getfield 21, 3) := by decide +kernel
theorem d3_4 : decode prog_59_method_3_code 4 = .ok (.ireturn, 1) := by decide +kernel
theorem ef_3 (a : Addr) (m : MethodId) : entryFrame m #[(.ref a)] 1 = mkF m 0 #[.val (.ref a)] [] := by first | (simp [entryFrame, mkF, argsToLocals, Value.category]; done) | rfl
set_option maxRecDepth 65536 in
set_option maxHeartbeats 40000000 in
theorem ct_count (l : Launch) (Z : State) (a0 : Array Value) (hw : ∀ d ∈ tables_1, d.before a0 Z = true) (EL : List (String × Nat)) (n0 : Nat) (a r sc mt : Addr) (k : Int32) (h0 : Heap) (F_a : OObj Z h0 a "com/example/busca/busca/rank/Accumulator" [("com/example/busca/busca/rank/Accumulator", "results", "[I", (.ref r)), ("com/example/busca/busca/rank/Accumulator", "scores", "[D", (.ref sc)), ("com/example/busca/busca/rank/Accumulator", "matched", "[Z", (.ref mt)), ("com/example/busca/busca/rank/Accumulator", "size", "I", (.int k))]) :
    OCt l Z a0 EL n0 (⟨"com/example/busca/busca/rank/Accumulator", "resultCount", "()I"⟩ : MethodName) prog_59_method_3_code 1 (some .int) ({ frames := 0, cells := 0, slots := 0, locals := 0 } : Room) [] #[.ref a] h0 [] (fun w vm h => w = some (.int k) ∧ h = h0) := by
  refine OCt.body (plainFor_of_name pn_C) (ef_3 a) ?_
  intro p e s m below meth c T hby hml hret hnm hsh P
  refine o_aloadN P (hb hby d3_0) rfl rfl (pc' := 1) rfl ?_
  refine o_getF P (ow hw 23 rfl) Via.refl (F_a.fld 3 rfl) (hb hby d3_1) (pc' := 4) rfl ?_
  clear P; intro T P
  exact o_retI P hret (by simp) rfl (hb hby d3_4) (by decide) (by decide) ⟨rfl, rfl⟩
theorem d4_0 : decode prog_59_method_4_code 0 = .ok (.aload_n 0, 1) := by decide +kernel
theorem d4_1 : decode prog_59_method_4_code 1 = .ok (.getfield 7, 3) := by decide +kernel
theorem d4_4 : decode prog_59_method_4_code 4 = .ok (.iload_n 1, 1) := by decide +kernel
theorem d4_5 : decode prog_59_method_4_code 5 = .ok (.iaload, 1) := by decide +kernel
theorem d4_6 : decode prog_59_method_4_code 6 = .ok (.ireturn, 1) := by decide +kernel
theorem ef_4 (a : Addr) (j : Int32) (m : MethodId) : entryFrame m #[(.ref a), (.int j)] 2 = mkF m 0 #[.val (.ref a), .val (.int j)] [] := by first | (simp [entryFrame, mkF, argsToLocals, Value.category]; done) | rfl
set_option maxRecDepth 65536 in
set_option maxHeartbeats 40000000 in
theorem ct_result (l : Launch) (Z : State) (a0 : Array Value) (hw : ∀ d ∈ tables_1, d.before a0 Z = true) (EL : List (String × Nat)) (n0 : Nat) (a r sc mt : Addr) (k j y : Int32) (rs : List Value) (h0 : Heap) (F_a : OObj Z h0 a "com/example/busca/busca/rank/Accumulator" [("com/example/busca/busca/rank/Accumulator", "results", "[I", (.ref r)), ("com/example/busca/busca/rank/Accumulator", "scores", "[D", (.ref sc)), ("com/example/busca/busca/rank/Accumulator", "matched", "[Z", (.ref mt)), ("com/example/busca/busca/rank/Accumulator", "size", "I", (.int k))]) (A_r : OArr Z h0 r .int rs) (hj : ¬ j < 0) (hv : rs[j.toNatClampNeg]? = some (.int y)) :
    OCt l Z a0 EL n0 (⟨"com/example/busca/busca/rank/Accumulator", "result", "(I)I"⟩ : MethodName) prog_59_method_4_code 2 (some .int) ({ frames := 0, cells := 0, slots := 0, locals := 0 } : Room) [] #[.ref a, .int j] h0 [] (fun w vm h => w = some (.int y) ∧ h = h0) := by
  refine OCt.body (plainFor_of_name pn_C) (ef_4 a j) ?_
  intro p e s m below meth c T hby hml hret hnm hsh P
  refine o_aloadN P (hb hby d4_0) rfl rfl (pc' := 1) rfl ?_
  refine o_getF P (ow hw 10 rfl) Via.refl (F_a.fld 0 rfl) (hb hby d4_1) (pc' := 4) rfl ?_
  clear P; intro T P
  refine o_iloadN P (hb hby d4_4) rfl (pc' := 5) rfl ?_
  refine o_iaload P (v := (.int y)) A_r hj hv (hb hby d4_5) (pc' := 6) rfl ?_
  exact o_retI P hret (by simp) rfl (hb hby d4_6) (by decide) (by decide) ⟨rfl, rfl⟩
theorem d5_0 : decode prog_59_method_5_code 0 = .ok (.aload_n 0, 1) := by decide +kernel
theorem d5_1 : decode prog_59_method_5_code 1 = .ok (.getfield 13, 3) := by decide +kernel
theorem d5_4 : decode prog_59_method_5_code 4 = .ok (.iload_n 1, 1) := by decide +kernel
theorem d5_5 : decode prog_59_method_5_code 5 = .ok (.daload, 1) := by decide +kernel
theorem d5_6 : decode prog_59_method_5_code 6 = .ok (.dreturn, 1) := by decide +kernel
theorem ef_5 (a : Addr) (j : Int32) (m : MethodId) : entryFrame m #[(.ref a), (.int j)] 2 = mkF m 0 #[.val (.ref a), .val (.int j)] [] := by first | (simp [entryFrame, mkF, argsToLocals, Value.category]; done) | rfl
set_option maxRecDepth 65536 in
set_option maxHeartbeats 40000000 in
theorem ct_score (l : Launch) (Z : State) (a0 : Array Value) (hw : ∀ d ∈ tables_1, d.before a0 Z = true) (EL : List (String × Nat)) (n0 : Nat) (a r sc mt : Addr) (k j : Int32) (y : UInt64) (ss : List Value) (h0 : Heap) (F_a : OObj Z h0 a "com/example/busca/busca/rank/Accumulator" [("com/example/busca/busca/rank/Accumulator", "results", "[I", (.ref r)), ("com/example/busca/busca/rank/Accumulator", "scores", "[D", (.ref sc)), ("com/example/busca/busca/rank/Accumulator", "matched", "[Z", (.ref mt)), ("com/example/busca/busca/rank/Accumulator", "size", "I", (.int k))]) (A_sc : OArr Z h0 sc .double ss) (hj : ¬ j < 0) (hv : ss[j.toNatClampNeg]? = some (.double y)) :
    OCt l Z a0 EL n0 (⟨"com/example/busca/busca/rank/Accumulator", "score", "(I)D"⟩ : MethodName) prog_59_method_5_code 2 (some .double) ({ frames := 0, cells := 0, slots := 0, locals := 0 } : Room) [] #[.ref a, .int j] h0 [] (fun w vm h => w = some (.double y) ∧ h = h0) := by
  refine OCt.body (plainFor_of_name pn_C) (ef_5 a j) ?_
  intro p e s m below meth c T hby hml hret hnm hsh P
  refine o_aloadN P (hb hby d5_0) rfl rfl (pc' := 1) rfl ?_
  refine o_getF P (ow hw 13 rfl) Via.refl (F_a.fld 1 rfl) (hb hby d5_1) (pc' := 4) rfl ?_
  clear P; intro T P
  refine o_iloadN P (hb hby d5_4) rfl (pc' := 5) rfl ?_
  refine o_daload P (v := (.double y)) A_sc hj hv (hb hby d5_5) (pc' := 6) rfl ?_
  exact o_retD P hret (hb hby d5_6) (by decide) (by decide) ⟨rfl, rfl⟩
theorem d6_0 : decode method_2_code 0 = .ok (.iload_n 0, 1) := by decide +kernel
theorem d6_1 : decode method_2_code 1 = .ok (.iload_n 1, 1) := by decide +kernel
theorem d6_2 : decode method_2_code 2 = .ok (.if_icmp .ne 6, 3) := by decide +kernel
theorem d6_5 : decode method_2_code 5 = .ok (.iload_n 2, 1) := by decide +kernel
theorem d6_6 : decode method_2_code 6 = .ok (.i2d, 1) := by decide +kernel
theorem d6_7 : decode method_2_code 7 = .ok (.dreturn, 1) := by decide +kernel
theorem d6_8 : decode method_2_code 8 = .ok (.dconst 0, 1) := by decide +kernel
theorem d6_9 : decode method_2_code 9 = .ok (.dreturn, 1) := by decide +kernel
theorem ef_6 (d : Int32) (q : Int32) (v : Int32) (m : MethodId) : entryFrame m #[(.int d), (.int q), (.int v)] 3 = mkF m 0 #[.val (.int d), .val (.int q), .val (.int v)] [] := by first | (simp [entryFrame, mkF, argsToLocals, Value.category]; done) | rfl
set_option maxRecDepth 65536 in
set_option maxHeartbeats 40000000 in
theorem ct_part (l : Launch) (Z : State) (a0 : Array Value) (hw : ∀ d ∈ tables_1, d.before a0 Z = true) (EL : List (String × Nat)) (n0 : Nat) (d q v : Int32) (h0 : Heap) :
    OCt l Z a0 EL n0 (⟨"com/example/busca/busca/rank/AccumulatorAddPinLaw", "part", "(III)D"⟩ : MethodName) method_2_code 3 (some .double) ({ frames := 0, cells := 0, slots := 0, locals := 0 } : Room) [] #[.int d, .int q, .int v] h0 [] (fun w vm h => w = some (.double (FP.l2d (if d = q then v.toInt64 else 0))) ∧ h = h0) := by
  refine OCt.body (plainFor_of_name pn_L) (ef_6 d q v) ?_
  intro p e s m below meth c T hby hml hret hnm hsh P
  refine o_iloadN P (hb hby d6_0) rfl (pc' := 1) rfl ?_
  refine o_iloadN P (hb hby d6_1) rfl (pc' := 2) rfl ?_
  refine o_icmp_ne P (hb hby d6_2) (by decide) (pc' := 8) (by decide) (pcf := 5) rfl (fun hq => ?_) (fun hq => ?_)
  · refine o_dconst0 P (hb hby d6_8) (v := FP.l2d 0) (by rw [l2d_zero]; rfl) (pc' := 9) rfl ?_
    exact o_retD P hret (hb hby d6_9) (by decide) (by decide) ⟨by rw [if_neg hq], rfl⟩
  · refine o_iloadN P (hb hby d6_5) rfl (pc' := 6) rfl ?_
    refine o_i2d P (hb hby d6_6) (v := FP.l2d v.toInt64) (i2d_w v) (pc' := 7) rfl ?_
    exact o_retD P hret (hb hby d6_7) (by decide) (by decide) ⟨by rw [if_pos hq], rfl⟩
theorem pd_0 : parseMethodDescriptor "(I)V" = some ⟨[.int], none⟩ := by decide +kernel
theorem pd_1 : parseMethodDescriptor "(ID)V" = some ⟨[.int, .double], none⟩ := by decide +kernel
theorem pd_2 : parseMethodDescriptor "()I" = some ⟨[], some .int⟩ := by decide +kernel
theorem pd_3 : parseMethodDescriptor "(I)I" = some ⟨[.int], some .int⟩ := by decide +kernel
theorem pd_4 : parseMethodDescriptor "(III)D" = some ⟨[.int, .int, .int], some .double⟩ := by decide +kernel
theorem pd_5 : parseMethodDescriptor "(I)D" = some ⟨[.int], some .double⟩ := by decide +kernel
theorem ef_0 (i0 : Int32) (i1 : Int32) (i2 : Int32) (i3 : Int32) (m : MethodId) : entryFrame m #[(.int i0), (.int i1), (.int i2), (.int i3)] maxLocals = mkF m 0 #[.val (.int i0), .val (.int i1), .val (.int i2), .val (.int i3), .unset, .unset, .unset, .unset, .unset, .unset, .unset, .unset, .unset, .unset, .unset, .unset] [] := by first | (simp [entryFrame, mkF, argsToLocals, Value.category, maxLocals]; done) | rfl
theorem own_b32 (v : Int32) : -2147483648 ≤ v.toInt64.toInt ∧ v.toInt64.toInt < 2147483648 := by rw [Int32.toInt_toInt64]; exact rng32 v
theorem own_b53 {a : Int64} {K : Int} (h1 : -K ≤ a.toInt) (h2 : a.toInt ≤ K) (hK : K < 9007199254740992) : B53 a := ⟨by omega, by omega⟩
/-- a whole number of at most k ints' size -/
def OB (k : Int) (a : Int64) : Prop := -(k * 2147483648) ≤ a.toInt ∧ a.toInt ≤ k * 2147483648
theorem OB.b53 {k : Int} {a : Int64} (h : OB k a) (hk : k ≤ 1024) : B53 a := ⟨by have := h.1; omega, by have := h.2; omega⟩
theorem OB.zero : OB 0 0 := ⟨by decide, by decide⟩
theorem OB.int (v : Int32) : OB 1 v.toInt64 := ⟨by have := own_b32 v; omega, by have := own_b32 v; omega⟩
theorem OB.mono {k j : Int} {a : Int64} (h : OB k a) (hk : k ≤ j) : OB j a := ⟨by have := h.1; omega, by have := h.2; omega⟩
theorem OB.add {k j : Int} {a b : Int64} (h : OB k a) (h' : OB j b) (hk : k + j ≤ 1024) (h0 : 0 ≤ k) (h1 : 0 ≤ j) : OB (k + j) (a + b) := by
  have e : (a + b).toInt = a.toInt + b.toInt := Jvm.RoadKit.add64 (h.b53 (by omega)) (h'.b53 (by omega))
  exact ⟨by rw [e]; have := h.1; have := h'.1; omega, by rw [e]; have := h.2; have := h'.2; omega⟩
theorem OB.ite {P : Prop} [Decidable P] (v : Int32) : OB 1 (if P then v.toInt64 else 0) := by
  split
  · exact OB.int v
  · exact OB.zero.mono (by decide)
theorem own_nat {d n : Int32} (h0 : ¬ d < 0) (h : d < n) : d.toNatClampNeg < n.toNatClampNeg := by
  rw [Int32.lt_iff_toInt_lt] at h0 h
  have : (0 : Int32).toInt = 0 := rfl
  simp only [Int32.toNatClampNeg]; omega
theorem own_nateq {d q : Int32} (h0 : ¬ d < 0) (h1 : ¬ q < 0) : d.toNatClampNeg = q.toNatClampNeg ↔ d = q := by
  rw [Int32.lt_iff_toInt_lt] at h0 h1
  have : (0 : Int32).toInt = 0 := rfl
  constructor
  · intro h
    apply Int32.toInt_inj.mp
    simp only [Int32.toNatClampNeg] at h; omega
  · rintro rfl; rfl
set_option maxRecDepth 65536 in
set_option maxHeartbeats 40000000 in
theorem law49 {p : Program} {e : Env} {s : State} {m : MethodId} {args : Array Value} {below : List Frame} {meth : Method} {c : Code} {T : State} {n0 : Nat} {h0 : Heap} (l : Launch) (Z : State) (a0 : Array Value) (hw : ∀ d ∈ tables_1, d.before a0 Z = true) (hby : c.code = code) (hml : c.maxLocals = maxLocals) (hret : meth.sig.returnType = ret) (i0 i1 i2 i3 n d1 d2 d3 q : Int32) (hn0 : ¬ n < 0) (hn4 : n.toNatClampNeg ≤ 4) (hd10 : ¬ d1 < 0) (hd1n : d1.toNatClampNeg < n.toNatClampNeg) (hd20 : ¬ d2 < 0) (hd2n : d2.toNatClampNeg < n.toNatClampNeg) (hd30 : ¬ d3 < 0) (hd3n : d3.toNatClampNeg < n.toNatClampNeg) (hq0 : ¬ q < 0) (hqn : q.toNatClampNeg < n.toNatClampNeg) (P : OPn p l e room_1 s m args below meth c Z a0 [] n0 [] "com/example/busca/busca/rank/AccumulatorAddPinLaw" T h0 [] 0 0) :
    OG p e below m (OFq Z [] n0 s [] room_1 (fun w vm h => w = some (.int 1))) T 49 #[.val (.int i0), .val (.int i1), .val (.int i2), .val (.int i3), .val (.int n), .val (.int d1), .val (.int d2), .val (.int d3), .val (.int q), .unset, .unset, .unset, .unset, .unset, .unset, .unset] [] := by
  have hn0h : n0 ≤ h0.size := P.n0le
  have hs0 : s.heap.size ≤ h0.size := P.keep0.1
  have hx1 : (q.toNatClampNeg = d1.toNatClampNeg) = (d1 = q) := propext ((own_nateq hq0 hd10).trans ⟨fun e => e.symm, fun e => e.symm⟩)
  have hx2 : (q.toNatClampNeg = d2.toNatClampNeg) = (d2 = q) := propext ((own_nateq hq0 hd20).trans ⟨fun e => e.symm, fun e => e.symm⟩)
  have hx3 : (q.toNatClampNeg = d3.toNatClampNeg) = (d3 = q) := propext ((own_nateq hq0 hd30).trans ⟨fun e => e.symm, fun e => e.symm⟩)
  have x21 : (d2.toNatClampNeg = d1.toNatClampNeg) = (d2 = d1) := propext (own_nateq hd20 hd10)
  have x31 : (d3.toNatClampNeg = d1.toNatClampNeg) = (d3 = d1) := propext (own_nateq hd30 hd10)
  have x32 : (d3.toNatClampNeg = d2.toNatClampNeg) = (d3 = d2) := propext (own_nateq hd30 hd20)
  have t0 : OB 0 0 := OB.zero
  have t1 : OB 1 (0 + (if d1 = q then i1.toInt64 else 0)) := (t0.add (OB.ite i1) (by decide) (by decide) (by decide)).mono (by decide)
  have t2 : OB 2 (0 + (if d1 = q then i1.toInt64 else 0) + (if d2 = q then i2.toInt64 else 0)) := (t1.add (OB.ite i2) (by decide) (by decide) (by decide)).mono (by decide)
  have bF1 : B53 (if d2.toNatClampNeg = d1.toNatClampNeg then 0 + i1.toInt64 else 0) := by
    split
    · exact ((OB.zero.add (OB.int i1) (by decide) (by decide) (by decide)).mono (by decide) : OB 1 _).b53 (by decide)
    · exact OB.zero.b53 (by decide)
  have bF2 : B53 (if d3.toNatClampNeg = d2.toNatClampNeg then (if d3.toNatClampNeg = d1.toNatClampNeg then 0 + i1.toInt64 else 0) + i2.toInt64 else (if d3.toNatClampNeg = d1.toNatClampNeg then 0 + i1.toInt64 else 0)) := by
    have z1 : OB 1 (if d3.toNatClampNeg = d1.toNatClampNeg then 0 + i1.toInt64 else 0) := by
      split
      · exact (OB.zero.add (OB.int i1) (by decide) (by decide) (by decide)).mono (by decide)
      · exact OB.zero.mono (by decide)
    split
    · exact ((z1.add (OB.int i2) (by decide) (by decide) (by decide)).mono (by decide) : OB 2 _).b53 (by decide)
    · exact z1.b53 (by decide)
  by_cases h21 : d2 = d1
  · by_cases h31 : d3 = d1
    · have h32 : d3 = d2 := h31.trans h21.symm
      have hz_a := P.keep0.1
      refine o_new P [("com/example/busca/busca/rank/Accumulator", "results", "[I", .null), ("com/example/busca/busca/rank/Accumulator", "scores", "[D", .null), ("com/example/busca/busca/rank/Accumulator", "matched", "[Z", .null), ("com/example/busca/busca/rank/Accumulator", "size", "I", (.int (0 : Int32)))] (ow hw 0 rfl) (ow hw 1 rfl) (ow hw 2 rfl) (OLd.cons (Or.inl (ow hw 11 rfl)) (ty := (.array .int)) (by decide) rfl (OLd.cons (Or.inr (ow hw 14 rfl)) (ty := (.array .double)) (by decide) rfl (OLd.cons (Or.inr (ow hw 17 rfl)) (ty := (.array .boolean)) (by decide) rfl (OLd.cons (Or.inl (ow hw 24 rfl)) (ty := .int) (by decide) rfl OLd.nil)))) (by decide +kernel) (hb hby at_49) (pc' := 52) rfl (by decide) (by decide) ?_
      clear P; intro T h1 a P K1 hb_a F_a
      have sz_a := Nat.le_trans hz_a hb_a
      clear hz_a
      have K0 := K1
      refine o_dup P (hb hby at_52) rfl (pc' := 53) rfl ?_
      refine o_iload P (hb hby at_53) rfl (pc' := 55) rfl ?_
      refine o_callI P (W := 1) (a := a) rfl (ow hw 3 rfl) (ow hw 4 rfl) (ow hw 2 rfl) (ow hw 5 rfl) (by decide) (ct_init l Z a0 hw [] n0 a n h1 F_a hn0 hn4) (o_sfS (List.Mem.head _) o_sf0) (by rw [hml]; rfl) (by decide) (by decide) (argsL := [(.int n)]) (rest := [(.ref a)]) (lenOf pd_0 rfl) rfl rfl (Nat.le_of_eq rfl) (hb hby at_55) (pc' := 58) rfl (by decide) (by decide) ?_
      clear P; intro T h2 v2 P K2 q2
      obtain ⟨rfl, r, sc, mt, g1, g2, g3, ne_r_sc, ne_r_mt, ne_sc_mt, F_a', A_r, A_sc, A_mt⟩ := q2
      have ne_a_r : a ≠ r := Nat.ne_of_lt (Nat.lt_of_lt_of_le F_a.lt g1)
      have ne_a_sc : a ≠ sc := Nat.ne_of_lt (Nat.lt_of_lt_of_le F_a.lt g2)
      have ne_a_mt : a ≠ mt := Nat.ne_of_lt (Nat.lt_of_lt_of_le F_a.lt g3)
      clear F_a; have F_a := F_a'; clear F_a'
      have P := P.more (x := r) ⟨Nat.le_trans (Nat.le_trans hn0h K0.1) g1, A_r.lt, o_safe0⟩ (Nat.le_trans (Nat.le_trans hs0 K0.1) g1)
      have P := P.more (x := sc) ⟨Nat.le_trans (Nat.le_trans hn0h K0.1) g2, A_sc.lt, o_safe0⟩ (Nat.le_trans (Nat.le_trans hs0 K0.1) g2)
      have P := P.more (x := mt) ⟨Nat.le_trans (Nat.le_trans hn0h K0.1) g3, A_mt.lt, o_safe0⟩ (Nat.le_trans (Nat.le_trans hs0 K0.1) g3)
      show OG p e below m _ T 58 #[.val (.int i0), .val (.int i1), .val (.int i2), .val (.int i3), .val (.int n), .val (.int d1), .val (.int d2), .val (.int d3), .val (.int q), .unset, .unset, .unset, .unset, .unset, .unset, .unset] [(.ref a)]
      refine o_astore P (hb hby at_58) rfl (L' := #[.val (.int i0), .val (.int i1), .val (.int i2), .val (.int i3), .val (.int n), .val (.int d1), .val (.int d2), .val (.int d3), .val (.int q), .val (.ref a), .unset, .unset, .unset, .unset, .unset, .unset]) rfl (pc' := 60) rfl ?_
      refine o_aload P (hb hby at_60) rfl rfl (pc' := 62) rfl ?_
      refine o_iload P (hb hby at_62) rfl (pc' := 64) rfl ?_
      refine o_iloadN P (hb hby at_64) rfl (pc' := 65) rfl ?_
      refine o_i2d P (hb hby at_65) (v := FP.l2d i1.toInt64) (i2d_w i1) (pc' := 66) rfl ?_
      refine o_callV P (W := 0) (x := (⟨"com/example/busca/busca/rank/Accumulator", "add", "(ID)V"⟩ : MethodName)) (y := (⟨"com/example/busca/busca/rank/Accumulator", "add", "(ID)V"⟩ : MethodName)) (a := a) (ow hw 18 rfl) (ow hw 19 rfl) (o_nfSel (y := (⟨"com/example/busca/busca/rank/Accumulator", "add", "(ID)V"⟩ : MethodName)) rfl (ow hw 21 rfl)) (ow hw 21 rfl) (ow hw 20 rfl) (ow hw 2 rfl) (ow hw 22 rfl) (by decide) F_a.exa (ct_addN l Z a0 hw [] n0 a r sc mt n.toNatClampNeg (fun _ => 0) (fun _ => 0) (List.replicate 16 (.int 0)) (0 : Int32) d1 i1.toInt64 h2 F_a A_r A_sc A_mt ne_a_r ne_a_sc ne_a_mt ne_r_sc ne_r_mt ne_sc_mt hd10 hd1n (by simp []) (OB.zero.b53 (by decide)) ((OB.int i1).b53 (by decide)) (by simp) (by decide) (by decide) (by decide)) (o_sfS (List.Mem.tail _ (List.Mem.tail _ (List.Mem.tail _ (List.Mem.head _)))) (o_sfS (List.Mem.tail _ (List.Mem.tail _ (List.Mem.head _))) (o_sfS (List.Mem.tail _ (List.Mem.head _)) (o_sfS (List.Mem.head _) o_sf0)))) (by rw [hml]; rfl) (by decide) (by decide) (argsL := [(.int d1), (.double (FP.l2d i1.toInt64))]) (rest := []) (lenOf pd_1 rfl) rfl rfl (Nat.le_of_eq rfl) (hb hby at_66) (pc' := 69) rfl (by decide) (by decide) ?_
      clear P; intro T h3 v3 P K3 q3
      clear F_a A_r A_sc A_mt; obtain ⟨rfl, F_a, A_r, A_sc, A_mt⟩ := q3; clear K3
      replace F_a : OObj Z h3 a "com/example/busca/busca/rank/Accumulator" [("com/example/busca/busca/rank/Accumulator", "results", "[I", (.ref r)), ("com/example/busca/busca/rank/Accumulator", "scores", "[D", (.ref sc)), ("com/example/busca/busca/rank/Accumulator", "matched", "[Z", (.ref mt)), ("com/example/busca/busca/rank/Accumulator", "size", "I", (.int (1 : Int32)))] := F_a
      show OG p e below m _ T 69 #[.val (.int i0), .val (.int i1), .val (.int i2), .val (.int i3), .val (.int n), .val (.int d1), .val (.int d2), .val (.int d3), .val (.int q), .val (.ref a), .unset, .unset, .unset, .unset, .unset, .unset] []
      refine o_aload P (hb hby at_69) rfl rfl (pc' := 71) rfl ?_
      refine o_iload P (hb hby at_71) rfl (pc' := 73) rfl ?_
      refine o_iloadN P (hb hby at_73) rfl (pc' := 74) rfl ?_
      refine o_i2d P (hb hby at_74) (v := FP.l2d i2.toInt64) (i2d_w i2) (pc' := 75) rfl ?_
      refine o_callV P (W := 0) (x := (⟨"com/example/busca/busca/rank/Accumulator", "add", "(ID)V"⟩ : MethodName)) (y := (⟨"com/example/busca/busca/rank/Accumulator", "add", "(ID)V"⟩ : MethodName)) (a := a) (ow hw 18 rfl) (ow hw 19 rfl) (o_nfSel (y := (⟨"com/example/busca/busca/rank/Accumulator", "add", "(ID)V"⟩ : MethodName)) rfl (ow hw 21 rfl)) (ow hw 21 rfl) (ow hw 20 rfl) (ow hw 2 rfl) (ow hw 22 rfl) (by decide) F_a.exa (ct_addO l Z a0 hw [] n0 a r sc mt n.toNatClampNeg (fun i => if i = d1.toNatClampNeg then (fun _ => 0) i + i1.toInt64 else (fun _ => 0) i) (fun i => if i = d1.toNatClampNeg then 1 else (fun _ => 0) i) ((List.replicate 16 (.int 0)).set ((0 : Int32) : Int32).toNatClampNeg (.int d1)) (1 : Int32) d2 i2.toInt64 h3 F_a A_r A_sc A_mt ne_a_r ne_a_sc ne_a_mt ne_r_sc ne_r_mt ne_sc_mt hd20 hd2n (by simp [x21, h21]) bF1 ((OB.int i2).b53 (by decide))) (o_sfS (List.Mem.tail _ (List.Mem.tail _ (List.Mem.tail _ (List.Mem.head _)))) (o_sfS (List.Mem.tail _ (List.Mem.tail _ (List.Mem.head _))) (o_sfS (List.Mem.tail _ (List.Mem.head _)) (o_sfS (List.Mem.head _) o_sf0)))) (by rw [hml]; rfl) (by decide) (by decide) (argsL := [(.int d2), (.double (FP.l2d i2.toInt64))]) (rest := []) (lenOf pd_1 rfl) rfl rfl (Nat.le_of_eq rfl) (hb hby at_75) (pc' := 78) rfl (by decide) (by decide) ?_
      clear P; intro T h4 v4 P K4 q4
      clear F_a A_r A_sc A_mt; obtain ⟨rfl, F_a, A_r, A_sc, A_mt⟩ := q4; clear K4
      replace F_a : OObj Z h4 a "com/example/busca/busca/rank/Accumulator" [("com/example/busca/busca/rank/Accumulator", "results", "[I", (.ref r)), ("com/example/busca/busca/rank/Accumulator", "scores", "[D", (.ref sc)), ("com/example/busca/busca/rank/Accumulator", "matched", "[Z", (.ref mt)), ("com/example/busca/busca/rank/Accumulator", "size", "I", (.int (1 : Int32)))] := F_a
      show OG p e below m _ T 78 #[.val (.int i0), .val (.int i1), .val (.int i2), .val (.int i3), .val (.int n), .val (.int d1), .val (.int d2), .val (.int d3), .val (.int q), .val (.ref a), .unset, .unset, .unset, .unset, .unset, .unset] []
      refine o_aload P (hb hby at_78) rfl rfl (pc' := 80) rfl ?_
      refine o_iload P (hb hby at_80) rfl (pc' := 82) rfl ?_
      refine o_iloadN P (hb hby at_82) rfl (pc' := 83) rfl ?_
      refine o_i2d P (hb hby at_83) (v := FP.l2d i3.toInt64) (i2d_w i3) (pc' := 84) rfl ?_
      refine o_callV P (W := 0) (x := (⟨"com/example/busca/busca/rank/Accumulator", "add", "(ID)V"⟩ : MethodName)) (y := (⟨"com/example/busca/busca/rank/Accumulator", "add", "(ID)V"⟩ : MethodName)) (a := a) (ow hw 18 rfl) (ow hw 19 rfl) (o_nfSel (y := (⟨"com/example/busca/busca/rank/Accumulator", "add", "(ID)V"⟩ : MethodName)) rfl (ow hw 21 rfl)) (ow hw 21 rfl) (ow hw 20 rfl) (ow hw 2 rfl) (ow hw 22 rfl) (by decide) F_a.exa (ct_addO l Z a0 hw [] n0 a r sc mt n.toNatClampNeg (fun i => if i = d2.toNatClampNeg then (fun i => if i = d1.toNatClampNeg then (fun _ => 0) i + i1.toInt64 else (fun _ => 0) i) i + i2.toInt64 else (fun i => if i = d1.toNatClampNeg then (fun _ => 0) i + i1.toInt64 else (fun _ => 0) i) i) (fun i => if i = d1.toNatClampNeg then 1 else (fun _ => 0) i) ((List.replicate 16 (.int 0)).set ((0 : Int32) : Int32).toNatClampNeg (.int d1)) (1 : Int32) d3 i3.toInt64 h4 F_a A_r A_sc A_mt ne_a_r ne_a_sc ne_a_mt ne_r_sc ne_r_mt ne_sc_mt hd30 hd3n (by simp [x31, x32, h31, h32, h21]) bF2 ((OB.int i3).b53 (by decide))) (o_sfS (List.Mem.tail _ (List.Mem.tail _ (List.Mem.tail _ (List.Mem.head _)))) (o_sfS (List.Mem.tail _ (List.Mem.tail _ (List.Mem.head _))) (o_sfS (List.Mem.tail _ (List.Mem.head _)) (o_sfS (List.Mem.head _) o_sf0)))) (by rw [hml]; rfl) (by decide) (by decide) (argsL := [(.int d3), (.double (FP.l2d i3.toInt64))]) (rest := []) (lenOf pd_1 rfl) rfl rfl (Nat.le_of_eq rfl) (hb hby at_84) (pc' := 87) rfl (by decide) (by decide) ?_
      clear P; intro T h5 v5 P K5 q5
      clear F_a A_r A_sc A_mt; obtain ⟨rfl, F_a, A_r, A_sc, A_mt⟩ := q5; clear K5
      replace F_a : OObj Z h5 a "com/example/busca/busca/rank/Accumulator" [("com/example/busca/busca/rank/Accumulator", "results", "[I", (.ref r)), ("com/example/busca/busca/rank/Accumulator", "scores", "[D", (.ref sc)), ("com/example/busca/busca/rank/Accumulator", "matched", "[Z", (.ref mt)), ("com/example/busca/busca/rank/Accumulator", "size", "I", (.int (1 : Int32)))] := F_a
      show OG p e below m _ T 87 #[.val (.int i0), .val (.int i1), .val (.int i2), .val (.int i3), .val (.int n), .val (.int d1), .val (.int d2), .val (.int d3), .val (.int q), .val (.ref a), .unset, .unset, .unset, .unset, .unset, .unset] []
      refine o_iconst P (1 : Int32) (hb hby at_87) rfl (pc' := 88) rfl ?_
      refine o_istore P (hb hby at_88) (L' := #[.val (.int i0), .val (.int i1), .val (.int i2), .val (.int i3), .val (.int n), .val (.int d1), .val (.int d2), .val (.int d3), .val (.int q), .val (.ref a), .val (.int (1 : Int32)), .unset, .unset, .unset, .unset, .unset]) rfl (pc' := 90) rfl ?_
      refine o_iconst P (-1 : Int32) (hb hby at_90) rfl (pc' := 91) rfl ?_
      refine o_istore P (hb hby at_91) (L' := #[.val (.int i0), .val (.int i1), .val (.int i2), .val (.int i3), .val (.int n), .val (.int d1), .val (.int d2), .val (.int d3), .val (.int q), .val (.ref a), .val (.int (1 : Int32)), .val (.int (-1 : Int32)), .unset, .unset, .unset, .unset]) rfl (pc' := 93) rfl ?_
      refine o_iconst P (-1 : Int32) (hb hby at_93) rfl (pc' := 94) rfl ?_
      refine o_istore P (hb hby at_94) (L' := #[.val (.int i0), .val (.int i1), .val (.int i2), .val (.int i3), .val (.int n), .val (.int d1), .val (.int d2), .val (.int d3), .val (.int q), .val (.ref a), .val (.int (1 : Int32)), .val (.int (-1 : Int32)), .val (.int (-1 : Int32)), .unset, .unset, .unset]) rfl (pc' := 96) rfl ?_
      refine o_iload P (hb hby at_96) rfl (pc' := 98) rfl ?_
      refine o_iload P (hb hby at_98) rfl (pc' := 100) rfl ?_
      refine o_icmp_eq P (hb hby at_100) (by decide) (pc' := 110) (by decide) (pcf := 103) rfl (fun _ => ?_) (fun q => absurd h21 q)
      refine o_iload P (hb hby at_110) rfl (pc' := 112) rfl ?_
      refine o_iload P (hb hby at_112) rfl (pc' := 114) rfl ?_
      refine o_icmp_eq P (hb hby at_114) (by decide) (pc' := 147) (by decide) (pcf := 117) rfl (fun _ => ?_) (fun q => absurd h31 q)
      refine o_aload P (hb hby at_147) rfl rfl (pc' := 149) rfl ?_
      refine o_callV P (W := 0) (x := (⟨"com/example/busca/busca/rank/Accumulator", "resultCount", "()I"⟩ : MethodName)) (y := (⟨"com/example/busca/busca/rank/Accumulator", "resultCount", "()I"⟩ : MethodName)) (a := a) (ow hw 25 rfl) (ow hw 26 rfl) (o_nfSel (y := (⟨"com/example/busca/busca/rank/Accumulator", "resultCount", "()I"⟩ : MethodName)) rfl (ow hw 28 rfl)) (ow hw 28 rfl) (ow hw 27 rfl) (ow hw 2 rfl) (ow hw 29 rfl) (by decide) F_a.exa (ct_count l Z a0 hw [] n0 a r sc mt (1 : Int32) h5 F_a) o_sf0 (by rw [hml]; rfl) (by decide) (by decide) (argsL := []) (rest := []) (lenOf pd_2 rfl) rfl rfl (Nat.le_of_eq rfl) (hb hby at_149) (pc' := 152) rfl (by decide) (by decide) ?_
      clear P; intro T h6 v6 P K6 q6
      obtain ⟨rfl, rfl⟩ := q6; clear K6
      show OG p e below m _ T 152 #[.val (.int i0), .val (.int i1), .val (.int i2), .val (.int i3), .val (.int n), .val (.int d1), .val (.int d2), .val (.int d3), .val (.int q), .val (.ref a), .val (.int (1 : Int32)), .val (.int (-1 : Int32)), .val (.int (-1 : Int32)), .unset, .unset, .unset] [(.int (1 : Int32))]
      refine o_iload P (hb hby at_152) rfl (pc' := 154) rfl ?_
      refine o_icmp_ne P (hb hby at_154) (by decide) (pc' := 161) (by decide) (pcf := 157) rfl (fun q => absurd (by decide) q) (fun _ => ?_)
      refine o_iconst P (1 : Int32) (hb hby at_157) rfl (pc' := 158) rfl ?_
      refine o_goto P (hb hby at_158) (by decide) (pc' := 162) (by decide) ?_
      refine o_istore P (hb hby at_162) (L' := #[.val (.int i0), .val (.int i1), .val (.int i2), .val (.int i3), .val (.int n), .val (.int d1), .val (.int d2), .val (.int d3), .val (.int q), .val (.ref a), .val (.int (1 : Int32)), .val (.int (-1 : Int32)), .val (.int (-1 : Int32)), .val (.int (1 : Int32)), .unset, .unset]) rfl (pc' := 164) rfl ?_
      refine o_iload P (hb hby at_164) rfl (pc' := 166) rfl ?_
      refine o_if_eq P (hb hby at_166) (by decide) (pc' := 184) (by decide) (pcf := 169) rfl (fun q => absurd q (by decide)) (fun _ => ?_)
      refine o_aload P (hb hby at_169) rfl rfl (pc' := 171) rfl ?_
      refine o_iconst P (0 : Int32) (hb hby at_171) rfl (pc' := 172) rfl ?_
      refine o_callV P (W := 0) (x := (⟨"com/example/busca/busca/rank/Accumulator", "result", "(I)I"⟩ : MethodName)) (y := (⟨"com/example/busca/busca/rank/Accumulator", "result", "(I)I"⟩ : MethodName)) (a := a) (ow hw 30 rfl) (ow hw 31 rfl) (o_nfSel (y := (⟨"com/example/busca/busca/rank/Accumulator", "result", "(I)I"⟩ : MethodName)) rfl (ow hw 33 rfl)) (ow hw 33 rfl) (ow hw 32 rfl) (ow hw 2 rfl) (ow hw 34 rfl) (by decide) F_a.exa (ct_result l Z a0 hw [] n0 a r sc mt (1 : Int32) (0 : Int32) d1 ((List.replicate 16 (.int 0)).set ((0 : Int32) : Int32).toNatClampNeg (.int d1)) h6 F_a A_r (by decide) rfl) o_sf0 (by rw [hml]; rfl) (by decide) (by decide) (argsL := [(.int (0 : Int32))]) (rest := []) (lenOf pd_3 rfl) rfl rfl (Nat.le_of_eq rfl) (hb hby at_172) (pc' := 175) rfl (by decide) (by decide) ?_
      clear P; intro T h7 v7 P K7 q7
      obtain ⟨rfl, rfl⟩ := q7; clear K7
      show OG p e below m _ T 175 #[.val (.int i0), .val (.int i1), .val (.int i2), .val (.int i3), .val (.int n), .val (.int d1), .val (.int d2), .val (.int d3), .val (.int q), .val (.ref a), .val (.int (1 : Int32)), .val (.int (-1 : Int32)), .val (.int (-1 : Int32)), .val (.int (1 : Int32)), .unset, .unset] [(.int d1)]
      refine o_iload P (hb hby at_175) rfl (pc' := 177) rfl ?_
      refine o_icmp_ne P (hb hby at_177) (by decide) (pc' := 184) (by decide) (pcf := 180) rfl (fun q => absurd rfl q) (fun _ => ?_)
      refine o_iconst P (1 : Int32) (hb hby at_180) rfl (pc' := 181) rfl ?_
      refine o_goto P (hb hby at_181) (by decide) (pc' := 185) (by decide) ?_
      refine o_istore P (hb hby at_185) (L' := #[.val (.int i0), .val (.int i1), .val (.int i2), .val (.int i3), .val (.int n), .val (.int d1), .val (.int d2), .val (.int d3), .val (.int q), .val (.ref a), .val (.int (1 : Int32)), .val (.int (-1 : Int32)), .val (.int (-1 : Int32)), .val (.int (1 : Int32)), .unset, .unset]) rfl (pc' := 187) rfl ?_
      refine o_iload P (hb hby at_187) rfl (pc' := 189) rfl ?_
      refine o_iconst P (2 : Int32) (hb hby at_189) rfl (pc' := 190) rfl ?_
      refine o_icmp_lt P (hb hby at_190) (by decide) (pc' := 216) (by decide) (pcf := 193) rfl (fun _ => ?_) (fun q => absurd (by decide) q)
      refine o_iload P (hb hby at_216) rfl (pc' := 218) rfl ?_
      refine o_iconst P (3 : Int32) (hb hby at_218) rfl (pc' := 219) rfl ?_
      refine o_icmp_lt P (hb hby at_219) (by decide) (pc' := 245) (by decide) (pcf := 222) rfl (fun _ => ?_) (fun q => absurd (by decide) q)
      refine o_dconst0 P (hb hby at_245) (v := FP.l2d 0) (by rw [l2d_zero]; rfl) (pc' := 246) rfl ?_
      refine o_dstore P (hb hby at_246) (L' := #[.val (.int i0), .val (.int i1), .val (.int i2), .val (.int i3), .val (.int n), .val (.int d1), .val (.int d2), .val (.int d3), .val (.int q), .val (.ref a), .val (.int (1 : Int32)), .val (.int (-1 : Int32)), .val (.int (-1 : Int32)), .val (.int (1 : Int32)), .val (.double (FP.l2d 0)), .second]) rfl (pc' := 248) rfl ?_
      refine o_dload P (hb hby at_248) rfl (pc' := 250) rfl ?_
      refine o_iload P (hb hby at_250) rfl (pc' := 252) rfl ?_
      refine o_iload P (hb hby at_252) rfl (pc' := 254) rfl ?_
      refine o_iloadN P (hb hby at_254) rfl (pc' := 255) rfl ?_
      refine o_callS P (W := 2) (ow hw 35 rfl) (ow hw 36 rfl) (ow hw 37 rfl) (ow hw 38 rfl) (by decide) (ct_part l Z a0 hw [] n0 d1 q i1 h7) o_sf0 (by rw [hml]; rfl) (by decide) (by decide) (argsL := [(.int d1), (.int q), (.int i1)]) (rest := [(.double (FP.l2d 0))]) (lenOf pd_4 rfl) rfl rfl (Nat.le_of_eq rfl) (hb hby at_255) (pc' := 258) rfl (by decide) (by decide) ?_
      clear P; intro T h8 v8 P K8 q8
      obtain ⟨rfl, rfl⟩ := q8; clear K8
      show OG p e below m _ T 258 #[.val (.int i0), .val (.int i1), .val (.int i2), .val (.int i3), .val (.int n), .val (.int d1), .val (.int d2), .val (.int d3), .val (.int q), .val (.ref a), .val (.int (1 : Int32)), .val (.int (-1 : Int32)), .val (.int (-1 : Int32)), .val (.int (1 : Int32)), .val (.double (FP.l2d 0)), .second] [(.double (FP.l2d (if d1 = q then i1.toInt64 else 0))), (.double (FP.l2d 0))]
      refine o_dadd P (hb hby at_258) (nn_w (dadd_w (t0.b53 (by decide)) ((OB.ite i1).b53 (by decide)))) (dadd_w (t0.b53 (by decide)) ((OB.ite i1).b53 (by decide))) (pc' := 259) rfl ?_
      refine o_dstore P (hb hby at_259) (L' := #[.val (.int i0), .val (.int i1), .val (.int i2), .val (.int i3), .val (.int n), .val (.int d1), .val (.int d2), .val (.int d3), .val (.int q), .val (.ref a), .val (.int (1 : Int32)), .val (.int (-1 : Int32)), .val (.int (-1 : Int32)), .val (.int (1 : Int32)), .val (.double (FP.l2d (0 + (if d1 = q then i1.toInt64 else 0)))), .second]) rfl (pc' := 261) rfl ?_
      refine o_dload P (hb hby at_261) rfl (pc' := 263) rfl ?_
      refine o_iload P (hb hby at_263) rfl (pc' := 265) rfl ?_
      refine o_iload P (hb hby at_265) rfl (pc' := 267) rfl ?_
      refine o_iloadN P (hb hby at_267) rfl (pc' := 268) rfl ?_
      refine o_callS P (W := 2) (ow hw 35 rfl) (ow hw 36 rfl) (ow hw 37 rfl) (ow hw 38 rfl) (by decide) (ct_part l Z a0 hw [] n0 d2 q i2 h8) o_sf0 (by rw [hml]; rfl) (by decide) (by decide) (argsL := [(.int d2), (.int q), (.int i2)]) (rest := [(.double (FP.l2d (0 + (if d1 = q then i1.toInt64 else 0))))]) (lenOf pd_4 rfl) rfl rfl (Nat.le_of_eq rfl) (hb hby at_268) (pc' := 271) rfl (by decide) (by decide) ?_
      clear P; intro T h9 v9 P K9 q9
      obtain ⟨rfl, rfl⟩ := q9; clear K9
      show OG p e below m _ T 271 #[.val (.int i0), .val (.int i1), .val (.int i2), .val (.int i3), .val (.int n), .val (.int d1), .val (.int d2), .val (.int d3), .val (.int q), .val (.ref a), .val (.int (1 : Int32)), .val (.int (-1 : Int32)), .val (.int (-1 : Int32)), .val (.int (1 : Int32)), .val (.double (FP.l2d (0 + (if d1 = q then i1.toInt64 else 0)))), .second] [(.double (FP.l2d (if d2 = q then i2.toInt64 else 0))), (.double (FP.l2d (0 + (if d1 = q then i1.toInt64 else 0))))]
      refine o_dadd P (hb hby at_271) (nn_w (dadd_w (t1.b53 (by decide)) ((OB.ite i2).b53 (by decide)))) (dadd_w (t1.b53 (by decide)) ((OB.ite i2).b53 (by decide))) (pc' := 272) rfl ?_
      refine o_dstore P (hb hby at_272) (L' := #[.val (.int i0), .val (.int i1), .val (.int i2), .val (.int i3), .val (.int n), .val (.int d1), .val (.int d2), .val (.int d3), .val (.int q), .val (.ref a), .val (.int (1 : Int32)), .val (.int (-1 : Int32)), .val (.int (-1 : Int32)), .val (.int (1 : Int32)), .val (.double (FP.l2d ((0 + (if d1 = q then i1.toInt64 else 0)) + (if d2 = q then i2.toInt64 else 0)))), .second]) rfl (pc' := 274) rfl ?_
      refine o_dload P (hb hby at_274) rfl (pc' := 276) rfl ?_
      refine o_iload P (hb hby at_276) rfl (pc' := 278) rfl ?_
      refine o_iload P (hb hby at_278) rfl (pc' := 280) rfl ?_
      refine o_iloadN P (hb hby at_280) rfl (pc' := 281) rfl ?_
      refine o_callS P (W := 2) (ow hw 35 rfl) (ow hw 36 rfl) (ow hw 37 rfl) (ow hw 38 rfl) (by decide) (ct_part l Z a0 hw [] n0 d3 q i3 h9) o_sf0 (by rw [hml]; rfl) (by decide) (by decide) (argsL := [(.int d3), (.int q), (.int i3)]) (rest := [(.double (FP.l2d ((0 + (if d1 = q then i1.toInt64 else 0)) + (if d2 = q then i2.toInt64 else 0))))]) (lenOf pd_4 rfl) rfl rfl (Nat.le_of_eq rfl) (hb hby at_281) (pc' := 284) rfl (by decide) (by decide) ?_
      clear P; intro T h10 v10 P K10 q10
      obtain ⟨rfl, rfl⟩ := q10; clear K10
      show OG p e below m _ T 284 #[.val (.int i0), .val (.int i1), .val (.int i2), .val (.int i3), .val (.int n), .val (.int d1), .val (.int d2), .val (.int d3), .val (.int q), .val (.ref a), .val (.int (1 : Int32)), .val (.int (-1 : Int32)), .val (.int (-1 : Int32)), .val (.int (1 : Int32)), .val (.double (FP.l2d ((0 + (if d1 = q then i1.toInt64 else 0)) + (if d2 = q then i2.toInt64 else 0)))), .second] [(.double (FP.l2d (if d3 = q then i3.toInt64 else 0))), (.double (FP.l2d ((0 + (if d1 = q then i1.toInt64 else 0)) + (if d2 = q then i2.toInt64 else 0))))]
      refine o_dadd P (hb hby at_284) (nn_w (dadd_w (t2.b53 (by decide)) ((OB.ite i3).b53 (by decide)))) (dadd_w (t2.b53 (by decide)) ((OB.ite i3).b53 (by decide))) (pc' := 285) rfl ?_
      refine o_dstore P (hb hby at_285) (L' := #[.val (.int i0), .val (.int i1), .val (.int i2), .val (.int i3), .val (.int n), .val (.int d1), .val (.int d2), .val (.int d3), .val (.int q), .val (.ref a), .val (.int (1 : Int32)), .val (.int (-1 : Int32)), .val (.int (-1 : Int32)), .val (.int (1 : Int32)), .val (.double (FP.l2d (((0 + (if d1 = q then i1.toInt64 else 0)) + (if d2 = q then i2.toInt64 else 0)) + (if d3 = q then i3.toInt64 else 0)))), .second]) rfl (pc' := 287) rfl ?_
      refine o_iload P (hb hby at_287) rfl (pc' := 289) rfl ?_
      refine o_if_eq P (hb hby at_289) (by decide) (pc' := 309) (by decide) (pcf := 292) rfl (fun q => absurd q (by decide)) (fun _ => ?_)
      refine o_aload P (hb hby at_292) rfl rfl (pc' := 294) rfl ?_
      refine o_iload P (hb hby at_294) rfl (pc' := 296) rfl ?_
      refine o_callV P (W := 0) (x := (⟨"com/example/busca/busca/rank/Accumulator", "score", "(I)D"⟩ : MethodName)) (y := (⟨"com/example/busca/busca/rank/Accumulator", "score", "(I)D"⟩ : MethodName)) (a := a) (ow hw 39 rfl) (ow hw 40 rfl) (o_nfSel (y := (⟨"com/example/busca/busca/rank/Accumulator", "score", "(I)D"⟩ : MethodName)) rfl (ow hw 42 rfl)) (ow hw 42 rfl) (ow hw 41 rfl) (ow hw 2 rfl) (ow hw 43 rfl) (by decide) F_a.exa (ct_score l Z a0 hw [] n0 a r sc mt (1 : Int32) q (FP.l2d ((fun i => if i = d3.toNatClampNeg then (fun i => if i = d2.toNatClampNeg then (fun i => if i = d1.toNatClampNeg then (fun _ => 0) i + i1.toInt64 else (fun _ => 0) i) i + i2.toInt64 else (fun i => if i = d1.toNatClampNeg then (fun _ => 0) i + i1.toInt64 else (fun _ => 0) i) i) i + i3.toInt64 else (fun i => if i = d2.toNatClampNeg then (fun i => if i = d1.toNatClampNeg then (fun _ => 0) i + i1.toInt64 else (fun _ => 0) i) i + i2.toInt64 else (fun i => if i = d1.toNatClampNeg then (fun _ => 0) i + i1.toInt64 else (fun _ => 0) i) i) i) q.toNatClampNeg)) _ h10 F_a A_sc hq0 (own_get hqn rfl)) o_sf0 (by rw [hml]; rfl) (by decide) (by decide) (argsL := [(.int q)]) (rest := []) (lenOf pd_5 rfl) rfl rfl (Nat.le_of_eq rfl) (hb hby at_296) (pc' := 299) rfl (by decide) (by decide) ?_
      clear P; intro T h11 v11 P K11 q11
      obtain ⟨rfl, rfl⟩ := q11; clear K11
      show OG p e below m _ T 299 #[.val (.int i0), .val (.int i1), .val (.int i2), .val (.int i3), .val (.int n), .val (.int d1), .val (.int d2), .val (.int d3), .val (.int q), .val (.ref a), .val (.int (1 : Int32)), .val (.int (-1 : Int32)), .val (.int (-1 : Int32)), .val (.int (1 : Int32)), .val (.double (FP.l2d (((0 + (if d1 = q then i1.toInt64 else 0)) + (if d2 = q then i2.toInt64 else 0)) + (if d3 = q then i3.toInt64 else 0)))), .second] [(.double (FP.l2d ((fun i => if i = d3.toNatClampNeg then (fun i => if i = d2.toNatClampNeg then (fun i => if i = d1.toNatClampNeg then (fun _ => 0) i + i1.toInt64 else (fun _ => 0) i) i + i2.toInt64 else (fun i => if i = d1.toNatClampNeg then (fun _ => 0) i + i1.toInt64 else (fun _ => 0) i) i) i + i3.toInt64 else (fun i => if i = d2.toNatClampNeg then (fun i => if i = d1.toNatClampNeg then (fun _ => 0) i + i1.toInt64 else (fun _ => 0) i) i + i2.toInt64 else (fun i => if i = d1.toNatClampNeg then (fun _ => 0) i + i1.toInt64 else (fun _ => 0) i) i) i) q.toNatClampNeg)))]
      refine o_dload P (hb hby at_299) rfl (pc' := 301) rfl ?_
      refine o_dcmp P (hb hby at_301) (v := (0 : Int32)) (dcmpV_eq (congrArg FP.l2d (show (fun i => if i = d3.toNatClampNeg then (fun i => if i = d2.toNatClampNeg then (fun i => if i = d1.toNatClampNeg then (fun _ => 0) i + i1.toInt64 else (fun _ => 0) i) i + i2.toInt64 else (fun i => if i = d1.toNatClampNeg then (fun _ => 0) i + i1.toInt64 else (fun _ => 0) i) i) i + i3.toInt64 else (fun i => if i = d2.toNatClampNeg then (fun i => if i = d1.toNatClampNeg then (fun _ => 0) i + i1.toInt64 else (fun _ => 0) i) i + i2.toInt64 else (fun i => if i = d1.toNatClampNeg then (fun _ => 0) i + i1.toInt64 else (fun _ => 0) i) i) i) q.toNatClampNeg = (((0 + (if d1 = q then i1.toInt64 else 0)) + (if d2 = q then i2.toInt64 else 0)) + (if d3 = q then i3.toInt64 else 0)) from by simp only [show ((q.toNatClampNeg = d1.toNatClampNeg) = (d1 = q)) from hx1, show ((q.toNatClampNeg = d2.toNatClampNeg) = (d2 = q)) from hx2, show ((q.toNatClampNeg = d3.toNatClampNeg) = (d3 = q)) from hx3]; split <;> split <;> split <;> simp)) (l2d_fin _).noNaN .l) (pc' := 302) rfl ?_
      refine o_if_ne P (hb hby at_302) (by decide) (pc' := 309) (by decide) (pcf := 305) rfl (fun q => absurd (by decide) q) (fun _ => ?_)
      refine o_iconst P (1 : Int32) (hb hby at_305) rfl (pc' := 306) rfl ?_
      refine o_goto P (hb hby at_306) (by decide) (pc' := 310) (by decide) ?_
      refine o_istore P (hb hby at_310) (L' := #[.val (.int i0), .val (.int i1), .val (.int i2), .val (.int i3), .val (.int n), .val (.int d1), .val (.int d2), .val (.int d3), .val (.int q), .val (.ref a), .val (.int (1 : Int32)), .val (.int (-1 : Int32)), .val (.int (-1 : Int32)), .val (.int (1 : Int32)), .val (.double (FP.l2d (((0 + (if d1 = q then i1.toInt64 else 0)) + (if d2 = q then i2.toInt64 else 0)) + (if d3 = q then i3.toInt64 else 0)))), .second]) rfl (pc' := 312) rfl ?_
      refine o_iload P (hb hby at_312) rfl (pc' := 314) rfl ?_
      exact o_retI P hret (by simp) rfl (hb hby at_314) (by decide) (by decide) rfl
    · have h32 : ¬ d3 = d2 := fun q => h31 (q.trans h21)
      have hz_a := P.keep0.1
      refine o_new P [("com/example/busca/busca/rank/Accumulator", "results", "[I", .null), ("com/example/busca/busca/rank/Accumulator", "scores", "[D", .null), ("com/example/busca/busca/rank/Accumulator", "matched", "[Z", .null), ("com/example/busca/busca/rank/Accumulator", "size", "I", (.int (0 : Int32)))] (ow hw 0 rfl) (ow hw 1 rfl) (ow hw 2 rfl) (OLd.cons (Or.inl (ow hw 11 rfl)) (ty := (.array .int)) (by decide) rfl (OLd.cons (Or.inr (ow hw 14 rfl)) (ty := (.array .double)) (by decide) rfl (OLd.cons (Or.inr (ow hw 17 rfl)) (ty := (.array .boolean)) (by decide) rfl (OLd.cons (Or.inl (ow hw 24 rfl)) (ty := .int) (by decide) rfl OLd.nil)))) (by decide +kernel) (hb hby at_49) (pc' := 52) rfl (by decide) (by decide) ?_
      clear P; intro T h1 a P K1 hb_a F_a
      have sz_a := Nat.le_trans hz_a hb_a
      clear hz_a
      have K0 := K1
      refine o_dup P (hb hby at_52) rfl (pc' := 53) rfl ?_
      refine o_iload P (hb hby at_53) rfl (pc' := 55) rfl ?_
      refine o_callI P (W := 1) (a := a) rfl (ow hw 3 rfl) (ow hw 4 rfl) (ow hw 2 rfl) (ow hw 5 rfl) (by decide) (ct_init l Z a0 hw [] n0 a n h1 F_a hn0 hn4) (o_sfS (List.Mem.head _) o_sf0) (by rw [hml]; rfl) (by decide) (by decide) (argsL := [(.int n)]) (rest := [(.ref a)]) (lenOf pd_0 rfl) rfl rfl (Nat.le_of_eq rfl) (hb hby at_55) (pc' := 58) rfl (by decide) (by decide) ?_
      clear P; intro T h2 v2 P K2 q2
      obtain ⟨rfl, r, sc, mt, g1, g2, g3, ne_r_sc, ne_r_mt, ne_sc_mt, F_a', A_r, A_sc, A_mt⟩ := q2
      have ne_a_r : a ≠ r := Nat.ne_of_lt (Nat.lt_of_lt_of_le F_a.lt g1)
      have ne_a_sc : a ≠ sc := Nat.ne_of_lt (Nat.lt_of_lt_of_le F_a.lt g2)
      have ne_a_mt : a ≠ mt := Nat.ne_of_lt (Nat.lt_of_lt_of_le F_a.lt g3)
      clear F_a; have F_a := F_a'; clear F_a'
      have P := P.more (x := r) ⟨Nat.le_trans (Nat.le_trans hn0h K0.1) g1, A_r.lt, o_safe0⟩ (Nat.le_trans (Nat.le_trans hs0 K0.1) g1)
      have P := P.more (x := sc) ⟨Nat.le_trans (Nat.le_trans hn0h K0.1) g2, A_sc.lt, o_safe0⟩ (Nat.le_trans (Nat.le_trans hs0 K0.1) g2)
      have P := P.more (x := mt) ⟨Nat.le_trans (Nat.le_trans hn0h K0.1) g3, A_mt.lt, o_safe0⟩ (Nat.le_trans (Nat.le_trans hs0 K0.1) g3)
      show OG p e below m _ T 58 #[.val (.int i0), .val (.int i1), .val (.int i2), .val (.int i3), .val (.int n), .val (.int d1), .val (.int d2), .val (.int d3), .val (.int q), .unset, .unset, .unset, .unset, .unset, .unset, .unset] [(.ref a)]
      refine o_astore P (hb hby at_58) rfl (L' := #[.val (.int i0), .val (.int i1), .val (.int i2), .val (.int i3), .val (.int n), .val (.int d1), .val (.int d2), .val (.int d3), .val (.int q), .val (.ref a), .unset, .unset, .unset, .unset, .unset, .unset]) rfl (pc' := 60) rfl ?_
      refine o_aload P (hb hby at_60) rfl rfl (pc' := 62) rfl ?_
      refine o_iload P (hb hby at_62) rfl (pc' := 64) rfl ?_
      refine o_iloadN P (hb hby at_64) rfl (pc' := 65) rfl ?_
      refine o_i2d P (hb hby at_65) (v := FP.l2d i1.toInt64) (i2d_w i1) (pc' := 66) rfl ?_
      refine o_callV P (W := 0) (x := (⟨"com/example/busca/busca/rank/Accumulator", "add", "(ID)V"⟩ : MethodName)) (y := (⟨"com/example/busca/busca/rank/Accumulator", "add", "(ID)V"⟩ : MethodName)) (a := a) (ow hw 18 rfl) (ow hw 19 rfl) (o_nfSel (y := (⟨"com/example/busca/busca/rank/Accumulator", "add", "(ID)V"⟩ : MethodName)) rfl (ow hw 21 rfl)) (ow hw 21 rfl) (ow hw 20 rfl) (ow hw 2 rfl) (ow hw 22 rfl) (by decide) F_a.exa (ct_addN l Z a0 hw [] n0 a r sc mt n.toNatClampNeg (fun _ => 0) (fun _ => 0) (List.replicate 16 (.int 0)) (0 : Int32) d1 i1.toInt64 h2 F_a A_r A_sc A_mt ne_a_r ne_a_sc ne_a_mt ne_r_sc ne_r_mt ne_sc_mt hd10 hd1n (by simp []) (OB.zero.b53 (by decide)) ((OB.int i1).b53 (by decide)) (by simp) (by decide) (by decide) (by decide)) (o_sfS (List.Mem.tail _ (List.Mem.tail _ (List.Mem.tail _ (List.Mem.head _)))) (o_sfS (List.Mem.tail _ (List.Mem.tail _ (List.Mem.head _))) (o_sfS (List.Mem.tail _ (List.Mem.head _)) (o_sfS (List.Mem.head _) o_sf0)))) (by rw [hml]; rfl) (by decide) (by decide) (argsL := [(.int d1), (.double (FP.l2d i1.toInt64))]) (rest := []) (lenOf pd_1 rfl) rfl rfl (Nat.le_of_eq rfl) (hb hby at_66) (pc' := 69) rfl (by decide) (by decide) ?_
      clear P; intro T h3 v3 P K3 q3
      clear F_a A_r A_sc A_mt; obtain ⟨rfl, F_a, A_r, A_sc, A_mt⟩ := q3; clear K3
      replace F_a : OObj Z h3 a "com/example/busca/busca/rank/Accumulator" [("com/example/busca/busca/rank/Accumulator", "results", "[I", (.ref r)), ("com/example/busca/busca/rank/Accumulator", "scores", "[D", (.ref sc)), ("com/example/busca/busca/rank/Accumulator", "matched", "[Z", (.ref mt)), ("com/example/busca/busca/rank/Accumulator", "size", "I", (.int (1 : Int32)))] := F_a
      show OG p e below m _ T 69 #[.val (.int i0), .val (.int i1), .val (.int i2), .val (.int i3), .val (.int n), .val (.int d1), .val (.int d2), .val (.int d3), .val (.int q), .val (.ref a), .unset, .unset, .unset, .unset, .unset, .unset] []
      refine o_aload P (hb hby at_69) rfl rfl (pc' := 71) rfl ?_
      refine o_iload P (hb hby at_71) rfl (pc' := 73) rfl ?_
      refine o_iloadN P (hb hby at_73) rfl (pc' := 74) rfl ?_
      refine o_i2d P (hb hby at_74) (v := FP.l2d i2.toInt64) (i2d_w i2) (pc' := 75) rfl ?_
      refine o_callV P (W := 0) (x := (⟨"com/example/busca/busca/rank/Accumulator", "add", "(ID)V"⟩ : MethodName)) (y := (⟨"com/example/busca/busca/rank/Accumulator", "add", "(ID)V"⟩ : MethodName)) (a := a) (ow hw 18 rfl) (ow hw 19 rfl) (o_nfSel (y := (⟨"com/example/busca/busca/rank/Accumulator", "add", "(ID)V"⟩ : MethodName)) rfl (ow hw 21 rfl)) (ow hw 21 rfl) (ow hw 20 rfl) (ow hw 2 rfl) (ow hw 22 rfl) (by decide) F_a.exa (ct_addO l Z a0 hw [] n0 a r sc mt n.toNatClampNeg (fun i => if i = d1.toNatClampNeg then (fun _ => 0) i + i1.toInt64 else (fun _ => 0) i) (fun i => if i = d1.toNatClampNeg then 1 else (fun _ => 0) i) ((List.replicate 16 (.int 0)).set ((0 : Int32) : Int32).toNatClampNeg (.int d1)) (1 : Int32) d2 i2.toInt64 h3 F_a A_r A_sc A_mt ne_a_r ne_a_sc ne_a_mt ne_r_sc ne_r_mt ne_sc_mt hd20 hd2n (by simp [x21, h21]) bF1 ((OB.int i2).b53 (by decide))) (o_sfS (List.Mem.tail _ (List.Mem.tail _ (List.Mem.tail _ (List.Mem.head _)))) (o_sfS (List.Mem.tail _ (List.Mem.tail _ (List.Mem.head _))) (o_sfS (List.Mem.tail _ (List.Mem.head _)) (o_sfS (List.Mem.head _) o_sf0)))) (by rw [hml]; rfl) (by decide) (by decide) (argsL := [(.int d2), (.double (FP.l2d i2.toInt64))]) (rest := []) (lenOf pd_1 rfl) rfl rfl (Nat.le_of_eq rfl) (hb hby at_75) (pc' := 78) rfl (by decide) (by decide) ?_
      clear P; intro T h4 v4 P K4 q4
      clear F_a A_r A_sc A_mt; obtain ⟨rfl, F_a, A_r, A_sc, A_mt⟩ := q4; clear K4
      replace F_a : OObj Z h4 a "com/example/busca/busca/rank/Accumulator" [("com/example/busca/busca/rank/Accumulator", "results", "[I", (.ref r)), ("com/example/busca/busca/rank/Accumulator", "scores", "[D", (.ref sc)), ("com/example/busca/busca/rank/Accumulator", "matched", "[Z", (.ref mt)), ("com/example/busca/busca/rank/Accumulator", "size", "I", (.int (1 : Int32)))] := F_a
      show OG p e below m _ T 78 #[.val (.int i0), .val (.int i1), .val (.int i2), .val (.int i3), .val (.int n), .val (.int d1), .val (.int d2), .val (.int d3), .val (.int q), .val (.ref a), .unset, .unset, .unset, .unset, .unset, .unset] []
      refine o_aload P (hb hby at_78) rfl rfl (pc' := 80) rfl ?_
      refine o_iload P (hb hby at_80) rfl (pc' := 82) rfl ?_
      refine o_iloadN P (hb hby at_82) rfl (pc' := 83) rfl ?_
      refine o_i2d P (hb hby at_83) (v := FP.l2d i3.toInt64) (i2d_w i3) (pc' := 84) rfl ?_
      refine o_callV P (W := 0) (x := (⟨"com/example/busca/busca/rank/Accumulator", "add", "(ID)V"⟩ : MethodName)) (y := (⟨"com/example/busca/busca/rank/Accumulator", "add", "(ID)V"⟩ : MethodName)) (a := a) (ow hw 18 rfl) (ow hw 19 rfl) (o_nfSel (y := (⟨"com/example/busca/busca/rank/Accumulator", "add", "(ID)V"⟩ : MethodName)) rfl (ow hw 21 rfl)) (ow hw 21 rfl) (ow hw 20 rfl) (ow hw 2 rfl) (ow hw 22 rfl) (by decide) F_a.exa (ct_addN l Z a0 hw [] n0 a r sc mt n.toNatClampNeg (fun i => if i = d2.toNatClampNeg then (fun i => if i = d1.toNatClampNeg then (fun _ => 0) i + i1.toInt64 else (fun _ => 0) i) i + i2.toInt64 else (fun i => if i = d1.toNatClampNeg then (fun _ => 0) i + i1.toInt64 else (fun _ => 0) i) i) (fun i => if i = d1.toNatClampNeg then 1 else (fun _ => 0) i) ((List.replicate 16 (.int 0)).set ((0 : Int32) : Int32).toNatClampNeg (.int d1)) (1 : Int32) d3 i3.toInt64 h4 F_a A_r A_sc A_mt ne_a_r ne_a_sc ne_a_mt ne_r_sc ne_r_mt ne_sc_mt hd30 hd3n (by simp [x31, x32, h31, h32, h21]) bF2 ((OB.int i3).b53 (by decide)) (by simp) (by decide) (by decide) (by decide)) (o_sfS (List.Mem.tail _ (List.Mem.tail _ (List.Mem.tail _ (List.Mem.head _)))) (o_sfS (List.Mem.tail _ (List.Mem.tail _ (List.Mem.head _))) (o_sfS (List.Mem.tail _ (List.Mem.head _)) (o_sfS (List.Mem.head _) o_sf0)))) (by rw [hml]; rfl) (by decide) (by decide) (argsL := [(.int d3), (.double (FP.l2d i3.toInt64))]) (rest := []) (lenOf pd_1 rfl) rfl rfl (Nat.le_of_eq rfl) (hb hby at_84) (pc' := 87) rfl (by decide) (by decide) ?_
      clear P; intro T h5 v5 P K5 q5
      clear F_a A_r A_sc A_mt; obtain ⟨rfl, F_a, A_r, A_sc, A_mt⟩ := q5; clear K5
      replace F_a : OObj Z h5 a "com/example/busca/busca/rank/Accumulator" [("com/example/busca/busca/rank/Accumulator", "results", "[I", (.ref r)), ("com/example/busca/busca/rank/Accumulator", "scores", "[D", (.ref sc)), ("com/example/busca/busca/rank/Accumulator", "matched", "[Z", (.ref mt)), ("com/example/busca/busca/rank/Accumulator", "size", "I", (.int (2 : Int32)))] := F_a
      show OG p e below m _ T 87 #[.val (.int i0), .val (.int i1), .val (.int i2), .val (.int i3), .val (.int n), .val (.int d1), .val (.int d2), .val (.int d3), .val (.int q), .val (.ref a), .unset, .unset, .unset, .unset, .unset, .unset] []
      refine o_iconst P (1 : Int32) (hb hby at_87) rfl (pc' := 88) rfl ?_
      refine o_istore P (hb hby at_88) (L' := #[.val (.int i0), .val (.int i1), .val (.int i2), .val (.int i3), .val (.int n), .val (.int d1), .val (.int d2), .val (.int d3), .val (.int q), .val (.ref a), .val (.int (1 : Int32)), .unset, .unset, .unset, .unset, .unset]) rfl (pc' := 90) rfl ?_
      refine o_iconst P (-1 : Int32) (hb hby at_90) rfl (pc' := 91) rfl ?_
      refine o_istore P (hb hby at_91) (L' := #[.val (.int i0), .val (.int i1), .val (.int i2), .val (.int i3), .val (.int n), .val (.int d1), .val (.int d2), .val (.int d3), .val (.int q), .val (.ref a), .val (.int (1 : Int32)), .val (.int (-1 : Int32)), .unset, .unset, .unset, .unset]) rfl (pc' := 93) rfl ?_
      refine o_iconst P (-1 : Int32) (hb hby at_93) rfl (pc' := 94) rfl ?_
      refine o_istore P (hb hby at_94) (L' := #[.val (.int i0), .val (.int i1), .val (.int i2), .val (.int i3), .val (.int n), .val (.int d1), .val (.int d2), .val (.int d3), .val (.int q), .val (.ref a), .val (.int (1 : Int32)), .val (.int (-1 : Int32)), .val (.int (-1 : Int32)), .unset, .unset, .unset]) rfl (pc' := 96) rfl ?_
      refine o_iload P (hb hby at_96) rfl (pc' := 98) rfl ?_
      refine o_iload P (hb hby at_98) rfl (pc' := 100) rfl ?_
      refine o_icmp_eq P (hb hby at_100) (by decide) (pc' := 110) (by decide) (pcf := 103) rfl (fun _ => ?_) (fun q => absurd h21 q)
      refine o_iload P (hb hby at_110) rfl (pc' := 112) rfl ?_
      refine o_iload P (hb hby at_112) rfl (pc' := 114) rfl ?_
      refine o_icmp_eq P (hb hby at_114) (by decide) (pc' := 147) (by decide) (pcf := 117) rfl (fun q => absurd q h31) (fun _ => ?_)
      refine o_iload P (hb hby at_117) rfl (pc' := 119) rfl ?_
      refine o_iload P (hb hby at_119) rfl (pc' := 121) rfl ?_
      refine o_icmp_eq P (hb hby at_121) (by decide) (pc' := 147) (by decide) (pcf := 124) rfl (fun q => absurd q h32) (fun _ => ?_)
      refine o_iload P (hb hby at_124) rfl (pc' := 126) rfl ?_
      refine o_iconst P (1 : Int32) (hb hby at_126) rfl (pc' := 127) rfl ?_
      refine o_icmp_ne P (hb hby at_127) (by decide) (pc' := 137) (by decide) (pcf := 130) rfl (fun q => absurd (by decide) q) (fun _ => ?_)
      refine o_iload P (hb hby at_130) rfl (pc' := 132) rfl ?_
      refine o_istore P (hb hby at_132) (L' := #[.val (.int i0), .val (.int i1), .val (.int i2), .val (.int i3), .val (.int n), .val (.int d1), .val (.int d2), .val (.int d3), .val (.int q), .val (.ref a), .val (.int (1 : Int32)), .val (.int d3), .val (.int (-1 : Int32)), .unset, .unset, .unset]) rfl (pc' := 134) rfl ?_
      refine o_goto P (hb hby at_134) (by decide) (pc' := 141) (by decide) ?_
      refine o_iload P (hb hby at_141) rfl (pc' := 143) rfl ?_
      refine o_iconst P (1 : Int32) (hb hby at_143) rfl (pc' := 144) rfl ?_
      refine o_iadd P (hb hby at_144) (pc' := 145) rfl ?_
      show OG p e below m _ T 145 #[.val (.int i0), .val (.int i1), .val (.int i2), .val (.int i3), .val (.int n), .val (.int d1), .val (.int d2), .val (.int d3), .val (.int q), .val (.ref a), .val (.int (1 : Int32)), .val (.int d3), .val (.int (-1 : Int32)), .unset, .unset, .unset] [(.int (2 : Int32))]
      refine o_istore P (hb hby at_145) (L' := #[.val (.int i0), .val (.int i1), .val (.int i2), .val (.int i3), .val (.int n), .val (.int d1), .val (.int d2), .val (.int d3), .val (.int q), .val (.ref a), .val (.int (2 : Int32)), .val (.int d3), .val (.int (-1 : Int32)), .unset, .unset, .unset]) rfl (pc' := 147) rfl ?_
      refine o_aload P (hb hby at_147) rfl rfl (pc' := 149) rfl ?_
      refine o_callV P (W := 0) (x := (⟨"com/example/busca/busca/rank/Accumulator", "resultCount", "()I"⟩ : MethodName)) (y := (⟨"com/example/busca/busca/rank/Accumulator", "resultCount", "()I"⟩ : MethodName)) (a := a) (ow hw 25 rfl) (ow hw 26 rfl) (o_nfSel (y := (⟨"com/example/busca/busca/rank/Accumulator", "resultCount", "()I"⟩ : MethodName)) rfl (ow hw 28 rfl)) (ow hw 28 rfl) (ow hw 27 rfl) (ow hw 2 rfl) (ow hw 29 rfl) (by decide) F_a.exa (ct_count l Z a0 hw [] n0 a r sc mt (2 : Int32) h5 F_a) o_sf0 (by rw [hml]; rfl) (by decide) (by decide) (argsL := []) (rest := []) (lenOf pd_2 rfl) rfl rfl (Nat.le_of_eq rfl) (hb hby at_149) (pc' := 152) rfl (by decide) (by decide) ?_
      clear P; intro T h6 v6 P K6 q6
      obtain ⟨rfl, rfl⟩ := q6; clear K6
      show OG p e below m _ T 152 #[.val (.int i0), .val (.int i1), .val (.int i2), .val (.int i3), .val (.int n), .val (.int d1), .val (.int d2), .val (.int d3), .val (.int q), .val (.ref a), .val (.int (2 : Int32)), .val (.int d3), .val (.int (-1 : Int32)), .unset, .unset, .unset] [(.int (2 : Int32))]
      refine o_iload P (hb hby at_152) rfl (pc' := 154) rfl ?_
      refine o_icmp_ne P (hb hby at_154) (by decide) (pc' := 161) (by decide) (pcf := 157) rfl (fun q => absurd (by decide) q) (fun _ => ?_)
      refine o_iconst P (1 : Int32) (hb hby at_157) rfl (pc' := 158) rfl ?_
      refine o_goto P (hb hby at_158) (by decide) (pc' := 162) (by decide) ?_
      refine o_istore P (hb hby at_162) (L' := #[.val (.int i0), .val (.int i1), .val (.int i2), .val (.int i3), .val (.int n), .val (.int d1), .val (.int d2), .val (.int d3), .val (.int q), .val (.ref a), .val (.int (2 : Int32)), .val (.int d3), .val (.int (-1 : Int32)), .val (.int (1 : Int32)), .unset, .unset]) rfl (pc' := 164) rfl ?_
      refine o_iload P (hb hby at_164) rfl (pc' := 166) rfl ?_
      refine o_if_eq P (hb hby at_166) (by decide) (pc' := 184) (by decide) (pcf := 169) rfl (fun q => absurd q (by decide)) (fun _ => ?_)
      refine o_aload P (hb hby at_169) rfl rfl (pc' := 171) rfl ?_
      refine o_iconst P (0 : Int32) (hb hby at_171) rfl (pc' := 172) rfl ?_
      refine o_callV P (W := 0) (x := (⟨"com/example/busca/busca/rank/Accumulator", "result", "(I)I"⟩ : MethodName)) (y := (⟨"com/example/busca/busca/rank/Accumulator", "result", "(I)I"⟩ : MethodName)) (a := a) (ow hw 30 rfl) (ow hw 31 rfl) (o_nfSel (y := (⟨"com/example/busca/busca/rank/Accumulator", "result", "(I)I"⟩ : MethodName)) rfl (ow hw 33 rfl)) (ow hw 33 rfl) (ow hw 32 rfl) (ow hw 2 rfl) (ow hw 34 rfl) (by decide) F_a.exa (ct_result l Z a0 hw [] n0 a r sc mt (2 : Int32) (0 : Int32) d1 (((List.replicate 16 (.int 0)).set ((0 : Int32) : Int32).toNatClampNeg (.int d1)).set ((1 : Int32) : Int32).toNatClampNeg (.int d3)) h6 F_a A_r (by decide) rfl) o_sf0 (by rw [hml]; rfl) (by decide) (by decide) (argsL := [(.int (0 : Int32))]) (rest := []) (lenOf pd_3 rfl) rfl rfl (Nat.le_of_eq rfl) (hb hby at_172) (pc' := 175) rfl (by decide) (by decide) ?_
      clear P; intro T h7 v7 P K7 q7
      obtain ⟨rfl, rfl⟩ := q7; clear K7
      show OG p e below m _ T 175 #[.val (.int i0), .val (.int i1), .val (.int i2), .val (.int i3), .val (.int n), .val (.int d1), .val (.int d2), .val (.int d3), .val (.int q), .val (.ref a), .val (.int (2 : Int32)), .val (.int d3), .val (.int (-1 : Int32)), .val (.int (1 : Int32)), .unset, .unset] [(.int d1)]
      refine o_iload P (hb hby at_175) rfl (pc' := 177) rfl ?_
      refine o_icmp_ne P (hb hby at_177) (by decide) (pc' := 184) (by decide) (pcf := 180) rfl (fun q => absurd rfl q) (fun _ => ?_)
      refine o_iconst P (1 : Int32) (hb hby at_180) rfl (pc' := 181) rfl ?_
      refine o_goto P (hb hby at_181) (by decide) (pc' := 185) (by decide) ?_
      refine o_istore P (hb hby at_185) (L' := #[.val (.int i0), .val (.int i1), .val (.int i2), .val (.int i3), .val (.int n), .val (.int d1), .val (.int d2), .val (.int d3), .val (.int q), .val (.ref a), .val (.int (2 : Int32)), .val (.int d3), .val (.int (-1 : Int32)), .val (.int (1 : Int32)), .unset, .unset]) rfl (pc' := 187) rfl ?_
      refine o_iload P (hb hby at_187) rfl (pc' := 189) rfl ?_
      refine o_iconst P (2 : Int32) (hb hby at_189) rfl (pc' := 190) rfl ?_
      refine o_icmp_lt P (hb hby at_190) (by decide) (pc' := 216) (by decide) (pcf := 193) rfl (fun q => absurd q (by decide)) (fun _ => ?_)
      refine o_iload P (hb hby at_193) rfl (pc' := 195) rfl ?_
      refine o_if_eq P (hb hby at_195) (by decide) (pc' := 213) (by decide) (pcf := 198) rfl (fun q => absurd q (by decide)) (fun _ => ?_)
      refine o_aload P (hb hby at_198) rfl rfl (pc' := 200) rfl ?_
      refine o_iconst P (1 : Int32) (hb hby at_200) rfl (pc' := 201) rfl ?_
      refine o_callV P (W := 0) (x := (⟨"com/example/busca/busca/rank/Accumulator", "result", "(I)I"⟩ : MethodName)) (y := (⟨"com/example/busca/busca/rank/Accumulator", "result", "(I)I"⟩ : MethodName)) (a := a) (ow hw 30 rfl) (ow hw 31 rfl) (o_nfSel (y := (⟨"com/example/busca/busca/rank/Accumulator", "result", "(I)I"⟩ : MethodName)) rfl (ow hw 33 rfl)) (ow hw 33 rfl) (ow hw 32 rfl) (ow hw 2 rfl) (ow hw 34 rfl) (by decide) F_a.exa (ct_result l Z a0 hw [] n0 a r sc mt (2 : Int32) (1 : Int32) d3 (((List.replicate 16 (.int 0)).set ((0 : Int32) : Int32).toNatClampNeg (.int d1)).set ((1 : Int32) : Int32).toNatClampNeg (.int d3)) h7 F_a A_r (by decide) rfl) o_sf0 (by rw [hml]; rfl) (by decide) (by decide) (argsL := [(.int (1 : Int32))]) (rest := []) (lenOf pd_3 rfl) rfl rfl (Nat.le_of_eq rfl) (hb hby at_201) (pc' := 204) rfl (by decide) (by decide) ?_
      clear P; intro T h8 v8 P K8 q8
      obtain ⟨rfl, rfl⟩ := q8; clear K8
      show OG p e below m _ T 204 #[.val (.int i0), .val (.int i1), .val (.int i2), .val (.int i3), .val (.int n), .val (.int d1), .val (.int d2), .val (.int d3), .val (.int q), .val (.ref a), .val (.int (2 : Int32)), .val (.int d3), .val (.int (-1 : Int32)), .val (.int (1 : Int32)), .unset, .unset] [(.int d3)]
      refine o_iload P (hb hby at_204) rfl (pc' := 206) rfl ?_
      refine o_icmp_ne P (hb hby at_206) (by decide) (pc' := 213) (by decide) (pcf := 209) rfl (fun q => absurd rfl q) (fun _ => ?_)
      refine o_iconst P (1 : Int32) (hb hby at_209) rfl (pc' := 210) rfl ?_
      refine o_goto P (hb hby at_210) (by decide) (pc' := 214) (by decide) ?_
      refine o_istore P (hb hby at_214) (L' := #[.val (.int i0), .val (.int i1), .val (.int i2), .val (.int i3), .val (.int n), .val (.int d1), .val (.int d2), .val (.int d3), .val (.int q), .val (.ref a), .val (.int (2 : Int32)), .val (.int d3), .val (.int (-1 : Int32)), .val (.int (1 : Int32)), .unset, .unset]) rfl (pc' := 216) rfl ?_
      refine o_iload P (hb hby at_216) rfl (pc' := 218) rfl ?_
      refine o_iconst P (3 : Int32) (hb hby at_218) rfl (pc' := 219) rfl ?_
      refine o_icmp_lt P (hb hby at_219) (by decide) (pc' := 245) (by decide) (pcf := 222) rfl (fun _ => ?_) (fun q => absurd (by decide) q)
      refine o_dconst0 P (hb hby at_245) (v := FP.l2d 0) (by rw [l2d_zero]; rfl) (pc' := 246) rfl ?_
      refine o_dstore P (hb hby at_246) (L' := #[.val (.int i0), .val (.int i1), .val (.int i2), .val (.int i3), .val (.int n), .val (.int d1), .val (.int d2), .val (.int d3), .val (.int q), .val (.ref a), .val (.int (2 : Int32)), .val (.int d3), .val (.int (-1 : Int32)), .val (.int (1 : Int32)), .val (.double (FP.l2d 0)), .second]) rfl (pc' := 248) rfl ?_
      refine o_dload P (hb hby at_248) rfl (pc' := 250) rfl ?_
      refine o_iload P (hb hby at_250) rfl (pc' := 252) rfl ?_
      refine o_iload P (hb hby at_252) rfl (pc' := 254) rfl ?_
      refine o_iloadN P (hb hby at_254) rfl (pc' := 255) rfl ?_
      refine o_callS P (W := 2) (ow hw 35 rfl) (ow hw 36 rfl) (ow hw 37 rfl) (ow hw 38 rfl) (by decide) (ct_part l Z a0 hw [] n0 d1 q i1 h8) o_sf0 (by rw [hml]; rfl) (by decide) (by decide) (argsL := [(.int d1), (.int q), (.int i1)]) (rest := [(.double (FP.l2d 0))]) (lenOf pd_4 rfl) rfl rfl (Nat.le_of_eq rfl) (hb hby at_255) (pc' := 258) rfl (by decide) (by decide) ?_
      clear P; intro T h9 v9 P K9 q9
      obtain ⟨rfl, rfl⟩ := q9; clear K9
      show OG p e below m _ T 258 #[.val (.int i0), .val (.int i1), .val (.int i2), .val (.int i3), .val (.int n), .val (.int d1), .val (.int d2), .val (.int d3), .val (.int q), .val (.ref a), .val (.int (2 : Int32)), .val (.int d3), .val (.int (-1 : Int32)), .val (.int (1 : Int32)), .val (.double (FP.l2d 0)), .second] [(.double (FP.l2d (if d1 = q then i1.toInt64 else 0))), (.double (FP.l2d 0))]
      refine o_dadd P (hb hby at_258) (nn_w (dadd_w (t0.b53 (by decide)) ((OB.ite i1).b53 (by decide)))) (dadd_w (t0.b53 (by decide)) ((OB.ite i1).b53 (by decide))) (pc' := 259) rfl ?_
      refine o_dstore P (hb hby at_259) (L' := #[.val (.int i0), .val (.int i1), .val (.int i2), .val (.int i3), .val (.int n), .val (.int d1), .val (.int d2), .val (.int d3), .val (.int q), .val (.ref a), .val (.int (2 : Int32)), .val (.int d3), .val (.int (-1 : Int32)), .val (.int (1 : Int32)), .val (.double (FP.l2d (0 + (if d1 = q then i1.toInt64 else 0)))), .second]) rfl (pc' := 261) rfl ?_
      refine o_dload P (hb hby at_261) rfl (pc' := 263) rfl ?_
      refine o_iload P (hb hby at_263) rfl (pc' := 265) rfl ?_
      refine o_iload P (hb hby at_265) rfl (pc' := 267) rfl ?_
      refine o_iloadN P (hb hby at_267) rfl (pc' := 268) rfl ?_
      refine o_callS P (W := 2) (ow hw 35 rfl) (ow hw 36 rfl) (ow hw 37 rfl) (ow hw 38 rfl) (by decide) (ct_part l Z a0 hw [] n0 d2 q i2 h9) o_sf0 (by rw [hml]; rfl) (by decide) (by decide) (argsL := [(.int d2), (.int q), (.int i2)]) (rest := [(.double (FP.l2d (0 + (if d1 = q then i1.toInt64 else 0))))]) (lenOf pd_4 rfl) rfl rfl (Nat.le_of_eq rfl) (hb hby at_268) (pc' := 271) rfl (by decide) (by decide) ?_
      clear P; intro T h10 v10 P K10 q10
      obtain ⟨rfl, rfl⟩ := q10; clear K10
      show OG p e below m _ T 271 #[.val (.int i0), .val (.int i1), .val (.int i2), .val (.int i3), .val (.int n), .val (.int d1), .val (.int d2), .val (.int d3), .val (.int q), .val (.ref a), .val (.int (2 : Int32)), .val (.int d3), .val (.int (-1 : Int32)), .val (.int (1 : Int32)), .val (.double (FP.l2d (0 + (if d1 = q then i1.toInt64 else 0)))), .second] [(.double (FP.l2d (if d2 = q then i2.toInt64 else 0))), (.double (FP.l2d (0 + (if d1 = q then i1.toInt64 else 0))))]
      refine o_dadd P (hb hby at_271) (nn_w (dadd_w (t1.b53 (by decide)) ((OB.ite i2).b53 (by decide)))) (dadd_w (t1.b53 (by decide)) ((OB.ite i2).b53 (by decide))) (pc' := 272) rfl ?_
      refine o_dstore P (hb hby at_272) (L' := #[.val (.int i0), .val (.int i1), .val (.int i2), .val (.int i3), .val (.int n), .val (.int d1), .val (.int d2), .val (.int d3), .val (.int q), .val (.ref a), .val (.int (2 : Int32)), .val (.int d3), .val (.int (-1 : Int32)), .val (.int (1 : Int32)), .val (.double (FP.l2d ((0 + (if d1 = q then i1.toInt64 else 0)) + (if d2 = q then i2.toInt64 else 0)))), .second]) rfl (pc' := 274) rfl ?_
      refine o_dload P (hb hby at_274) rfl (pc' := 276) rfl ?_
      refine o_iload P (hb hby at_276) rfl (pc' := 278) rfl ?_
      refine o_iload P (hb hby at_278) rfl (pc' := 280) rfl ?_
      refine o_iloadN P (hb hby at_280) rfl (pc' := 281) rfl ?_
      refine o_callS P (W := 2) (ow hw 35 rfl) (ow hw 36 rfl) (ow hw 37 rfl) (ow hw 38 rfl) (by decide) (ct_part l Z a0 hw [] n0 d3 q i3 h10) o_sf0 (by rw [hml]; rfl) (by decide) (by decide) (argsL := [(.int d3), (.int q), (.int i3)]) (rest := [(.double (FP.l2d ((0 + (if d1 = q then i1.toInt64 else 0)) + (if d2 = q then i2.toInt64 else 0))))]) (lenOf pd_4 rfl) rfl rfl (Nat.le_of_eq rfl) (hb hby at_281) (pc' := 284) rfl (by decide) (by decide) ?_
      clear P; intro T h11 v11 P K11 q11
      obtain ⟨rfl, rfl⟩ := q11; clear K11
      show OG p e below m _ T 284 #[.val (.int i0), .val (.int i1), .val (.int i2), .val (.int i3), .val (.int n), .val (.int d1), .val (.int d2), .val (.int d3), .val (.int q), .val (.ref a), .val (.int (2 : Int32)), .val (.int d3), .val (.int (-1 : Int32)), .val (.int (1 : Int32)), .val (.double (FP.l2d ((0 + (if d1 = q then i1.toInt64 else 0)) + (if d2 = q then i2.toInt64 else 0)))), .second] [(.double (FP.l2d (if d3 = q then i3.toInt64 else 0))), (.double (FP.l2d ((0 + (if d1 = q then i1.toInt64 else 0)) + (if d2 = q then i2.toInt64 else 0))))]
      refine o_dadd P (hb hby at_284) (nn_w (dadd_w (t2.b53 (by decide)) ((OB.ite i3).b53 (by decide)))) (dadd_w (t2.b53 (by decide)) ((OB.ite i3).b53 (by decide))) (pc' := 285) rfl ?_
      refine o_dstore P (hb hby at_285) (L' := #[.val (.int i0), .val (.int i1), .val (.int i2), .val (.int i3), .val (.int n), .val (.int d1), .val (.int d2), .val (.int d3), .val (.int q), .val (.ref a), .val (.int (2 : Int32)), .val (.int d3), .val (.int (-1 : Int32)), .val (.int (1 : Int32)), .val (.double (FP.l2d (((0 + (if d1 = q then i1.toInt64 else 0)) + (if d2 = q then i2.toInt64 else 0)) + (if d3 = q then i3.toInt64 else 0)))), .second]) rfl (pc' := 287) rfl ?_
      refine o_iload P (hb hby at_287) rfl (pc' := 289) rfl ?_
      refine o_if_eq P (hb hby at_289) (by decide) (pc' := 309) (by decide) (pcf := 292) rfl (fun q => absurd q (by decide)) (fun _ => ?_)
      refine o_aload P (hb hby at_292) rfl rfl (pc' := 294) rfl ?_
      refine o_iload P (hb hby at_294) rfl (pc' := 296) rfl ?_
      refine o_callV P (W := 0) (x := (⟨"com/example/busca/busca/rank/Accumulator", "score", "(I)D"⟩ : MethodName)) (y := (⟨"com/example/busca/busca/rank/Accumulator", "score", "(I)D"⟩ : MethodName)) (a := a) (ow hw 39 rfl) (ow hw 40 rfl) (o_nfSel (y := (⟨"com/example/busca/busca/rank/Accumulator", "score", "(I)D"⟩ : MethodName)) rfl (ow hw 42 rfl)) (ow hw 42 rfl) (ow hw 41 rfl) (ow hw 2 rfl) (ow hw 43 rfl) (by decide) F_a.exa (ct_score l Z a0 hw [] n0 a r sc mt (2 : Int32) q (FP.l2d ((fun i => if i = d3.toNatClampNeg then (fun i => if i = d2.toNatClampNeg then (fun i => if i = d1.toNatClampNeg then (fun _ => 0) i + i1.toInt64 else (fun _ => 0) i) i + i2.toInt64 else (fun i => if i = d1.toNatClampNeg then (fun _ => 0) i + i1.toInt64 else (fun _ => 0) i) i) i + i3.toInt64 else (fun i => if i = d2.toNatClampNeg then (fun i => if i = d1.toNatClampNeg then (fun _ => 0) i + i1.toInt64 else (fun _ => 0) i) i + i2.toInt64 else (fun i => if i = d1.toNatClampNeg then (fun _ => 0) i + i1.toInt64 else (fun _ => 0) i) i) i) q.toNatClampNeg)) _ h11 F_a A_sc hq0 (own_get hqn rfl)) o_sf0 (by rw [hml]; rfl) (by decide) (by decide) (argsL := [(.int q)]) (rest := []) (lenOf pd_5 rfl) rfl rfl (Nat.le_of_eq rfl) (hb hby at_296) (pc' := 299) rfl (by decide) (by decide) ?_
      clear P; intro T h12 v12 P K12 q12
      obtain ⟨rfl, rfl⟩ := q12; clear K12
      show OG p e below m _ T 299 #[.val (.int i0), .val (.int i1), .val (.int i2), .val (.int i3), .val (.int n), .val (.int d1), .val (.int d2), .val (.int d3), .val (.int q), .val (.ref a), .val (.int (2 : Int32)), .val (.int d3), .val (.int (-1 : Int32)), .val (.int (1 : Int32)), .val (.double (FP.l2d (((0 + (if d1 = q then i1.toInt64 else 0)) + (if d2 = q then i2.toInt64 else 0)) + (if d3 = q then i3.toInt64 else 0)))), .second] [(.double (FP.l2d ((fun i => if i = d3.toNatClampNeg then (fun i => if i = d2.toNatClampNeg then (fun i => if i = d1.toNatClampNeg then (fun _ => 0) i + i1.toInt64 else (fun _ => 0) i) i + i2.toInt64 else (fun i => if i = d1.toNatClampNeg then (fun _ => 0) i + i1.toInt64 else (fun _ => 0) i) i) i + i3.toInt64 else (fun i => if i = d2.toNatClampNeg then (fun i => if i = d1.toNatClampNeg then (fun _ => 0) i + i1.toInt64 else (fun _ => 0) i) i + i2.toInt64 else (fun i => if i = d1.toNatClampNeg then (fun _ => 0) i + i1.toInt64 else (fun _ => 0) i) i) i) q.toNatClampNeg)))]
      refine o_dload P (hb hby at_299) rfl (pc' := 301) rfl ?_
      refine o_dcmp P (hb hby at_301) (v := (0 : Int32)) (dcmpV_eq (congrArg FP.l2d (show (fun i => if i = d3.toNatClampNeg then (fun i => if i = d2.toNatClampNeg then (fun i => if i = d1.toNatClampNeg then (fun _ => 0) i + i1.toInt64 else (fun _ => 0) i) i + i2.toInt64 else (fun i => if i = d1.toNatClampNeg then (fun _ => 0) i + i1.toInt64 else (fun _ => 0) i) i) i + i3.toInt64 else (fun i => if i = d2.toNatClampNeg then (fun i => if i = d1.toNatClampNeg then (fun _ => 0) i + i1.toInt64 else (fun _ => 0) i) i + i2.toInt64 else (fun i => if i = d1.toNatClampNeg then (fun _ => 0) i + i1.toInt64 else (fun _ => 0) i) i) i) q.toNatClampNeg = (((0 + (if d1 = q then i1.toInt64 else 0)) + (if d2 = q then i2.toInt64 else 0)) + (if d3 = q then i3.toInt64 else 0)) from by simp only [show ((q.toNatClampNeg = d1.toNatClampNeg) = (d1 = q)) from hx1, show ((q.toNatClampNeg = d2.toNatClampNeg) = (d2 = q)) from hx2, show ((q.toNatClampNeg = d3.toNatClampNeg) = (d3 = q)) from hx3]; split <;> split <;> split <;> simp)) (l2d_fin _).noNaN .l) (pc' := 302) rfl ?_
      refine o_if_ne P (hb hby at_302) (by decide) (pc' := 309) (by decide) (pcf := 305) rfl (fun q => absurd (by decide) q) (fun _ => ?_)
      refine o_iconst P (1 : Int32) (hb hby at_305) rfl (pc' := 306) rfl ?_
      refine o_goto P (hb hby at_306) (by decide) (pc' := 310) (by decide) ?_
      refine o_istore P (hb hby at_310) (L' := #[.val (.int i0), .val (.int i1), .val (.int i2), .val (.int i3), .val (.int n), .val (.int d1), .val (.int d2), .val (.int d3), .val (.int q), .val (.ref a), .val (.int (2 : Int32)), .val (.int d3), .val (.int (-1 : Int32)), .val (.int (1 : Int32)), .val (.double (FP.l2d (((0 + (if d1 = q then i1.toInt64 else 0)) + (if d2 = q then i2.toInt64 else 0)) + (if d3 = q then i3.toInt64 else 0)))), .second]) rfl (pc' := 312) rfl ?_
      refine o_iload P (hb hby at_312) rfl (pc' := 314) rfl ?_
      exact o_retI P hret (by simp) rfl (hb hby at_314) (by decide) (by decide) rfl
  · by_cases h31 : d3 = d1
    · have h32 : ¬ d3 = d2 := fun q => h21 (q.symm.trans h31)
      have hz_a := P.keep0.1
      refine o_new P [("com/example/busca/busca/rank/Accumulator", "results", "[I", .null), ("com/example/busca/busca/rank/Accumulator", "scores", "[D", .null), ("com/example/busca/busca/rank/Accumulator", "matched", "[Z", .null), ("com/example/busca/busca/rank/Accumulator", "size", "I", (.int (0 : Int32)))] (ow hw 0 rfl) (ow hw 1 rfl) (ow hw 2 rfl) (OLd.cons (Or.inl (ow hw 11 rfl)) (ty := (.array .int)) (by decide) rfl (OLd.cons (Or.inr (ow hw 14 rfl)) (ty := (.array .double)) (by decide) rfl (OLd.cons (Or.inr (ow hw 17 rfl)) (ty := (.array .boolean)) (by decide) rfl (OLd.cons (Or.inl (ow hw 24 rfl)) (ty := .int) (by decide) rfl OLd.nil)))) (by decide +kernel) (hb hby at_49) (pc' := 52) rfl (by decide) (by decide) ?_
      clear P; intro T h1 a P K1 hb_a F_a
      have sz_a := Nat.le_trans hz_a hb_a
      clear hz_a
      have K0 := K1
      refine o_dup P (hb hby at_52) rfl (pc' := 53) rfl ?_
      refine o_iload P (hb hby at_53) rfl (pc' := 55) rfl ?_
      refine o_callI P (W := 1) (a := a) rfl (ow hw 3 rfl) (ow hw 4 rfl) (ow hw 2 rfl) (ow hw 5 rfl) (by decide) (ct_init l Z a0 hw [] n0 a n h1 F_a hn0 hn4) (o_sfS (List.Mem.head _) o_sf0) (by rw [hml]; rfl) (by decide) (by decide) (argsL := [(.int n)]) (rest := [(.ref a)]) (lenOf pd_0 rfl) rfl rfl (Nat.le_of_eq rfl) (hb hby at_55) (pc' := 58) rfl (by decide) (by decide) ?_
      clear P; intro T h2 v2 P K2 q2
      obtain ⟨rfl, r, sc, mt, g1, g2, g3, ne_r_sc, ne_r_mt, ne_sc_mt, F_a', A_r, A_sc, A_mt⟩ := q2
      have ne_a_r : a ≠ r := Nat.ne_of_lt (Nat.lt_of_lt_of_le F_a.lt g1)
      have ne_a_sc : a ≠ sc := Nat.ne_of_lt (Nat.lt_of_lt_of_le F_a.lt g2)
      have ne_a_mt : a ≠ mt := Nat.ne_of_lt (Nat.lt_of_lt_of_le F_a.lt g3)
      clear F_a; have F_a := F_a'; clear F_a'
      have P := P.more (x := r) ⟨Nat.le_trans (Nat.le_trans hn0h K0.1) g1, A_r.lt, o_safe0⟩ (Nat.le_trans (Nat.le_trans hs0 K0.1) g1)
      have P := P.more (x := sc) ⟨Nat.le_trans (Nat.le_trans hn0h K0.1) g2, A_sc.lt, o_safe0⟩ (Nat.le_trans (Nat.le_trans hs0 K0.1) g2)
      have P := P.more (x := mt) ⟨Nat.le_trans (Nat.le_trans hn0h K0.1) g3, A_mt.lt, o_safe0⟩ (Nat.le_trans (Nat.le_trans hs0 K0.1) g3)
      show OG p e below m _ T 58 #[.val (.int i0), .val (.int i1), .val (.int i2), .val (.int i3), .val (.int n), .val (.int d1), .val (.int d2), .val (.int d3), .val (.int q), .unset, .unset, .unset, .unset, .unset, .unset, .unset] [(.ref a)]
      refine o_astore P (hb hby at_58) rfl (L' := #[.val (.int i0), .val (.int i1), .val (.int i2), .val (.int i3), .val (.int n), .val (.int d1), .val (.int d2), .val (.int d3), .val (.int q), .val (.ref a), .unset, .unset, .unset, .unset, .unset, .unset]) rfl (pc' := 60) rfl ?_
      refine o_aload P (hb hby at_60) rfl rfl (pc' := 62) rfl ?_
      refine o_iload P (hb hby at_62) rfl (pc' := 64) rfl ?_
      refine o_iloadN P (hb hby at_64) rfl (pc' := 65) rfl ?_
      refine o_i2d P (hb hby at_65) (v := FP.l2d i1.toInt64) (i2d_w i1) (pc' := 66) rfl ?_
      refine o_callV P (W := 0) (x := (⟨"com/example/busca/busca/rank/Accumulator", "add", "(ID)V"⟩ : MethodName)) (y := (⟨"com/example/busca/busca/rank/Accumulator", "add", "(ID)V"⟩ : MethodName)) (a := a) (ow hw 18 rfl) (ow hw 19 rfl) (o_nfSel (y := (⟨"com/example/busca/busca/rank/Accumulator", "add", "(ID)V"⟩ : MethodName)) rfl (ow hw 21 rfl)) (ow hw 21 rfl) (ow hw 20 rfl) (ow hw 2 rfl) (ow hw 22 rfl) (by decide) F_a.exa (ct_addN l Z a0 hw [] n0 a r sc mt n.toNatClampNeg (fun _ => 0) (fun _ => 0) (List.replicate 16 (.int 0)) (0 : Int32) d1 i1.toInt64 h2 F_a A_r A_sc A_mt ne_a_r ne_a_sc ne_a_mt ne_r_sc ne_r_mt ne_sc_mt hd10 hd1n (by simp []) (OB.zero.b53 (by decide)) ((OB.int i1).b53 (by decide)) (by simp) (by decide) (by decide) (by decide)) (o_sfS (List.Mem.tail _ (List.Mem.tail _ (List.Mem.tail _ (List.Mem.head _)))) (o_sfS (List.Mem.tail _ (List.Mem.tail _ (List.Mem.head _))) (o_sfS (List.Mem.tail _ (List.Mem.head _)) (o_sfS (List.Mem.head _) o_sf0)))) (by rw [hml]; rfl) (by decide) (by decide) (argsL := [(.int d1), (.double (FP.l2d i1.toInt64))]) (rest := []) (lenOf pd_1 rfl) rfl rfl (Nat.le_of_eq rfl) (hb hby at_66) (pc' := 69) rfl (by decide) (by decide) ?_
      clear P; intro T h3 v3 P K3 q3
      clear F_a A_r A_sc A_mt; obtain ⟨rfl, F_a, A_r, A_sc, A_mt⟩ := q3; clear K3
      replace F_a : OObj Z h3 a "com/example/busca/busca/rank/Accumulator" [("com/example/busca/busca/rank/Accumulator", "results", "[I", (.ref r)), ("com/example/busca/busca/rank/Accumulator", "scores", "[D", (.ref sc)), ("com/example/busca/busca/rank/Accumulator", "matched", "[Z", (.ref mt)), ("com/example/busca/busca/rank/Accumulator", "size", "I", (.int (1 : Int32)))] := F_a
      show OG p e below m _ T 69 #[.val (.int i0), .val (.int i1), .val (.int i2), .val (.int i3), .val (.int n), .val (.int d1), .val (.int d2), .val (.int d3), .val (.int q), .val (.ref a), .unset, .unset, .unset, .unset, .unset, .unset] []
      refine o_aload P (hb hby at_69) rfl rfl (pc' := 71) rfl ?_
      refine o_iload P (hb hby at_71) rfl (pc' := 73) rfl ?_
      refine o_iloadN P (hb hby at_73) rfl (pc' := 74) rfl ?_
      refine o_i2d P (hb hby at_74) (v := FP.l2d i2.toInt64) (i2d_w i2) (pc' := 75) rfl ?_
      refine o_callV P (W := 0) (x := (⟨"com/example/busca/busca/rank/Accumulator", "add", "(ID)V"⟩ : MethodName)) (y := (⟨"com/example/busca/busca/rank/Accumulator", "add", "(ID)V"⟩ : MethodName)) (a := a) (ow hw 18 rfl) (ow hw 19 rfl) (o_nfSel (y := (⟨"com/example/busca/busca/rank/Accumulator", "add", "(ID)V"⟩ : MethodName)) rfl (ow hw 21 rfl)) (ow hw 21 rfl) (ow hw 20 rfl) (ow hw 2 rfl) (ow hw 22 rfl) (by decide) F_a.exa (ct_addN l Z a0 hw [] n0 a r sc mt n.toNatClampNeg (fun i => if i = d1.toNatClampNeg then (fun _ => 0) i + i1.toInt64 else (fun _ => 0) i) (fun i => if i = d1.toNatClampNeg then 1 else (fun _ => 0) i) ((List.replicate 16 (.int 0)).set ((0 : Int32) : Int32).toNatClampNeg (.int d1)) (1 : Int32) d2 i2.toInt64 h3 F_a A_r A_sc A_mt ne_a_r ne_a_sc ne_a_mt ne_r_sc ne_r_mt ne_sc_mt hd20 hd2n (by simp [x21, h21]) bF1 ((OB.int i2).b53 (by decide)) (by simp) (by decide) (by decide) (by decide)) (o_sfS (List.Mem.tail _ (List.Mem.tail _ (List.Mem.tail _ (List.Mem.head _)))) (o_sfS (List.Mem.tail _ (List.Mem.tail _ (List.Mem.head _))) (o_sfS (List.Mem.tail _ (List.Mem.head _)) (o_sfS (List.Mem.head _) o_sf0)))) (by rw [hml]; rfl) (by decide) (by decide) (argsL := [(.int d2), (.double (FP.l2d i2.toInt64))]) (rest := []) (lenOf pd_1 rfl) rfl rfl (Nat.le_of_eq rfl) (hb hby at_75) (pc' := 78) rfl (by decide) (by decide) ?_
      clear P; intro T h4 v4 P K4 q4
      clear F_a A_r A_sc A_mt; obtain ⟨rfl, F_a, A_r, A_sc, A_mt⟩ := q4; clear K4
      replace F_a : OObj Z h4 a "com/example/busca/busca/rank/Accumulator" [("com/example/busca/busca/rank/Accumulator", "results", "[I", (.ref r)), ("com/example/busca/busca/rank/Accumulator", "scores", "[D", (.ref sc)), ("com/example/busca/busca/rank/Accumulator", "matched", "[Z", (.ref mt)), ("com/example/busca/busca/rank/Accumulator", "size", "I", (.int (2 : Int32)))] := F_a
      show OG p e below m _ T 78 #[.val (.int i0), .val (.int i1), .val (.int i2), .val (.int i3), .val (.int n), .val (.int d1), .val (.int d2), .val (.int d3), .val (.int q), .val (.ref a), .unset, .unset, .unset, .unset, .unset, .unset] []
      refine o_aload P (hb hby at_78) rfl rfl (pc' := 80) rfl ?_
      refine o_iload P (hb hby at_80) rfl (pc' := 82) rfl ?_
      refine o_iloadN P (hb hby at_82) rfl (pc' := 83) rfl ?_
      refine o_i2d P (hb hby at_83) (v := FP.l2d i3.toInt64) (i2d_w i3) (pc' := 84) rfl ?_
      refine o_callV P (W := 0) (x := (⟨"com/example/busca/busca/rank/Accumulator", "add", "(ID)V"⟩ : MethodName)) (y := (⟨"com/example/busca/busca/rank/Accumulator", "add", "(ID)V"⟩ : MethodName)) (a := a) (ow hw 18 rfl) (ow hw 19 rfl) (o_nfSel (y := (⟨"com/example/busca/busca/rank/Accumulator", "add", "(ID)V"⟩ : MethodName)) rfl (ow hw 21 rfl)) (ow hw 21 rfl) (ow hw 20 rfl) (ow hw 2 rfl) (ow hw 22 rfl) (by decide) F_a.exa (ct_addO l Z a0 hw [] n0 a r sc mt n.toNatClampNeg (fun i => if i = d2.toNatClampNeg then (fun i => if i = d1.toNatClampNeg then (fun _ => 0) i + i1.toInt64 else (fun _ => 0) i) i + i2.toInt64 else (fun i => if i = d1.toNatClampNeg then (fun _ => 0) i + i1.toInt64 else (fun _ => 0) i) i) (fun i => if i = d2.toNatClampNeg then 1 else (fun i => if i = d1.toNatClampNeg then 1 else (fun _ => 0) i) i) (((List.replicate 16 (.int 0)).set ((0 : Int32) : Int32).toNatClampNeg (.int d1)).set ((1 : Int32) : Int32).toNatClampNeg (.int d2)) (2 : Int32) d3 i3.toInt64 h4 F_a A_r A_sc A_mt ne_a_r ne_a_sc ne_a_mt ne_r_sc ne_r_mt ne_sc_mt hd30 hd3n (by simp [x31, x32, h31, h32, h21]) bF2 ((OB.int i3).b53 (by decide))) (o_sfS (List.Mem.tail _ (List.Mem.tail _ (List.Mem.tail _ (List.Mem.head _)))) (o_sfS (List.Mem.tail _ (List.Mem.tail _ (List.Mem.head _))) (o_sfS (List.Mem.tail _ (List.Mem.head _)) (o_sfS (List.Mem.head _) o_sf0)))) (by rw [hml]; rfl) (by decide) (by decide) (argsL := [(.int d3), (.double (FP.l2d i3.toInt64))]) (rest := []) (lenOf pd_1 rfl) rfl rfl (Nat.le_of_eq rfl) (hb hby at_84) (pc' := 87) rfl (by decide) (by decide) ?_
      clear P; intro T h5 v5 P K5 q5
      clear F_a A_r A_sc A_mt; obtain ⟨rfl, F_a, A_r, A_sc, A_mt⟩ := q5; clear K5
      replace F_a : OObj Z h5 a "com/example/busca/busca/rank/Accumulator" [("com/example/busca/busca/rank/Accumulator", "results", "[I", (.ref r)), ("com/example/busca/busca/rank/Accumulator", "scores", "[D", (.ref sc)), ("com/example/busca/busca/rank/Accumulator", "matched", "[Z", (.ref mt)), ("com/example/busca/busca/rank/Accumulator", "size", "I", (.int (2 : Int32)))] := F_a
      show OG p e below m _ T 87 #[.val (.int i0), .val (.int i1), .val (.int i2), .val (.int i3), .val (.int n), .val (.int d1), .val (.int d2), .val (.int d3), .val (.int q), .val (.ref a), .unset, .unset, .unset, .unset, .unset, .unset] []
      refine o_iconst P (1 : Int32) (hb hby at_87) rfl (pc' := 88) rfl ?_
      refine o_istore P (hb hby at_88) (L' := #[.val (.int i0), .val (.int i1), .val (.int i2), .val (.int i3), .val (.int n), .val (.int d1), .val (.int d2), .val (.int d3), .val (.int q), .val (.ref a), .val (.int (1 : Int32)), .unset, .unset, .unset, .unset, .unset]) rfl (pc' := 90) rfl ?_
      refine o_iconst P (-1 : Int32) (hb hby at_90) rfl (pc' := 91) rfl ?_
      refine o_istore P (hb hby at_91) (L' := #[.val (.int i0), .val (.int i1), .val (.int i2), .val (.int i3), .val (.int n), .val (.int d1), .val (.int d2), .val (.int d3), .val (.int q), .val (.ref a), .val (.int (1 : Int32)), .val (.int (-1 : Int32)), .unset, .unset, .unset, .unset]) rfl (pc' := 93) rfl ?_
      refine o_iconst P (-1 : Int32) (hb hby at_93) rfl (pc' := 94) rfl ?_
      refine o_istore P (hb hby at_94) (L' := #[.val (.int i0), .val (.int i1), .val (.int i2), .val (.int i3), .val (.int n), .val (.int d1), .val (.int d2), .val (.int d3), .val (.int q), .val (.ref a), .val (.int (1 : Int32)), .val (.int (-1 : Int32)), .val (.int (-1 : Int32)), .unset, .unset, .unset]) rfl (pc' := 96) rfl ?_
      refine o_iload P (hb hby at_96) rfl (pc' := 98) rfl ?_
      refine o_iload P (hb hby at_98) rfl (pc' := 100) rfl ?_
      refine o_icmp_eq P (hb hby at_100) (by decide) (pc' := 110) (by decide) (pcf := 103) rfl (fun q => absurd q h21) (fun _ => ?_)
      refine o_iload P (hb hby at_103) rfl (pc' := 105) rfl ?_
      refine o_istore P (hb hby at_105) (L' := #[.val (.int i0), .val (.int i1), .val (.int i2), .val (.int i3), .val (.int n), .val (.int d1), .val (.int d2), .val (.int d3), .val (.int q), .val (.ref a), .val (.int (1 : Int32)), .val (.int d2), .val (.int (-1 : Int32)), .unset, .unset, .unset]) rfl (pc' := 107) rfl ?_
      refine o_iconst P (2 : Int32) (hb hby at_107) rfl (pc' := 108) rfl ?_
      refine o_istore P (hb hby at_108) (L' := #[.val (.int i0), .val (.int i1), .val (.int i2), .val (.int i3), .val (.int n), .val (.int d1), .val (.int d2), .val (.int d3), .val (.int q), .val (.ref a), .val (.int (2 : Int32)), .val (.int d2), .val (.int (-1 : Int32)), .unset, .unset, .unset]) rfl (pc' := 110) rfl ?_
      refine o_iload P (hb hby at_110) rfl (pc' := 112) rfl ?_
      refine o_iload P (hb hby at_112) rfl (pc' := 114) rfl ?_
      refine o_icmp_eq P (hb hby at_114) (by decide) (pc' := 147) (by decide) (pcf := 117) rfl (fun _ => ?_) (fun q => absurd h31 q)
      refine o_aload P (hb hby at_147) rfl rfl (pc' := 149) rfl ?_
      refine o_callV P (W := 0) (x := (⟨"com/example/busca/busca/rank/Accumulator", "resultCount", "()I"⟩ : MethodName)) (y := (⟨"com/example/busca/busca/rank/Accumulator", "resultCount", "()I"⟩ : MethodName)) (a := a) (ow hw 25 rfl) (ow hw 26 rfl) (o_nfSel (y := (⟨"com/example/busca/busca/rank/Accumulator", "resultCount", "()I"⟩ : MethodName)) rfl (ow hw 28 rfl)) (ow hw 28 rfl) (ow hw 27 rfl) (ow hw 2 rfl) (ow hw 29 rfl) (by decide) F_a.exa (ct_count l Z a0 hw [] n0 a r sc mt (2 : Int32) h5 F_a) o_sf0 (by rw [hml]; rfl) (by decide) (by decide) (argsL := []) (rest := []) (lenOf pd_2 rfl) rfl rfl (Nat.le_of_eq rfl) (hb hby at_149) (pc' := 152) rfl (by decide) (by decide) ?_
      clear P; intro T h6 v6 P K6 q6
      obtain ⟨rfl, rfl⟩ := q6; clear K6
      show OG p e below m _ T 152 #[.val (.int i0), .val (.int i1), .val (.int i2), .val (.int i3), .val (.int n), .val (.int d1), .val (.int d2), .val (.int d3), .val (.int q), .val (.ref a), .val (.int (2 : Int32)), .val (.int d2), .val (.int (-1 : Int32)), .unset, .unset, .unset] [(.int (2 : Int32))]
      refine o_iload P (hb hby at_152) rfl (pc' := 154) rfl ?_
      refine o_icmp_ne P (hb hby at_154) (by decide) (pc' := 161) (by decide) (pcf := 157) rfl (fun q => absurd (by decide) q) (fun _ => ?_)
      refine o_iconst P (1 : Int32) (hb hby at_157) rfl (pc' := 158) rfl ?_
      refine o_goto P (hb hby at_158) (by decide) (pc' := 162) (by decide) ?_
      refine o_istore P (hb hby at_162) (L' := #[.val (.int i0), .val (.int i1), .val (.int i2), .val (.int i3), .val (.int n), .val (.int d1), .val (.int d2), .val (.int d3), .val (.int q), .val (.ref a), .val (.int (2 : Int32)), .val (.int d2), .val (.int (-1 : Int32)), .val (.int (1 : Int32)), .unset, .unset]) rfl (pc' := 164) rfl ?_
      refine o_iload P (hb hby at_164) rfl (pc' := 166) rfl ?_
      refine o_if_eq P (hb hby at_166) (by decide) (pc' := 184) (by decide) (pcf := 169) rfl (fun q => absurd q (by decide)) (fun _ => ?_)
      refine o_aload P (hb hby at_169) rfl rfl (pc' := 171) rfl ?_
      refine o_iconst P (0 : Int32) (hb hby at_171) rfl (pc' := 172) rfl ?_
      refine o_callV P (W := 0) (x := (⟨"com/example/busca/busca/rank/Accumulator", "result", "(I)I"⟩ : MethodName)) (y := (⟨"com/example/busca/busca/rank/Accumulator", "result", "(I)I"⟩ : MethodName)) (a := a) (ow hw 30 rfl) (ow hw 31 rfl) (o_nfSel (y := (⟨"com/example/busca/busca/rank/Accumulator", "result", "(I)I"⟩ : MethodName)) rfl (ow hw 33 rfl)) (ow hw 33 rfl) (ow hw 32 rfl) (ow hw 2 rfl) (ow hw 34 rfl) (by decide) F_a.exa (ct_result l Z a0 hw [] n0 a r sc mt (2 : Int32) (0 : Int32) d1 (((List.replicate 16 (.int 0)).set ((0 : Int32) : Int32).toNatClampNeg (.int d1)).set ((1 : Int32) : Int32).toNatClampNeg (.int d2)) h6 F_a A_r (by decide) rfl) o_sf0 (by rw [hml]; rfl) (by decide) (by decide) (argsL := [(.int (0 : Int32))]) (rest := []) (lenOf pd_3 rfl) rfl rfl (Nat.le_of_eq rfl) (hb hby at_172) (pc' := 175) rfl (by decide) (by decide) ?_
      clear P; intro T h7 v7 P K7 q7
      obtain ⟨rfl, rfl⟩ := q7; clear K7
      show OG p e below m _ T 175 #[.val (.int i0), .val (.int i1), .val (.int i2), .val (.int i3), .val (.int n), .val (.int d1), .val (.int d2), .val (.int d3), .val (.int q), .val (.ref a), .val (.int (2 : Int32)), .val (.int d2), .val (.int (-1 : Int32)), .val (.int (1 : Int32)), .unset, .unset] [(.int d1)]
      refine o_iload P (hb hby at_175) rfl (pc' := 177) rfl ?_
      refine o_icmp_ne P (hb hby at_177) (by decide) (pc' := 184) (by decide) (pcf := 180) rfl (fun q => absurd rfl q) (fun _ => ?_)
      refine o_iconst P (1 : Int32) (hb hby at_180) rfl (pc' := 181) rfl ?_
      refine o_goto P (hb hby at_181) (by decide) (pc' := 185) (by decide) ?_
      refine o_istore P (hb hby at_185) (L' := #[.val (.int i0), .val (.int i1), .val (.int i2), .val (.int i3), .val (.int n), .val (.int d1), .val (.int d2), .val (.int d3), .val (.int q), .val (.ref a), .val (.int (2 : Int32)), .val (.int d2), .val (.int (-1 : Int32)), .val (.int (1 : Int32)), .unset, .unset]) rfl (pc' := 187) rfl ?_
      refine o_iload P (hb hby at_187) rfl (pc' := 189) rfl ?_
      refine o_iconst P (2 : Int32) (hb hby at_189) rfl (pc' := 190) rfl ?_
      refine o_icmp_lt P (hb hby at_190) (by decide) (pc' := 216) (by decide) (pcf := 193) rfl (fun q => absurd q (by decide)) (fun _ => ?_)
      refine o_iload P (hb hby at_193) rfl (pc' := 195) rfl ?_
      refine o_if_eq P (hb hby at_195) (by decide) (pc' := 213) (by decide) (pcf := 198) rfl (fun q => absurd q (by decide)) (fun _ => ?_)
      refine o_aload P (hb hby at_198) rfl rfl (pc' := 200) rfl ?_
      refine o_iconst P (1 : Int32) (hb hby at_200) rfl (pc' := 201) rfl ?_
      refine o_callV P (W := 0) (x := (⟨"com/example/busca/busca/rank/Accumulator", "result", "(I)I"⟩ : MethodName)) (y := (⟨"com/example/busca/busca/rank/Accumulator", "result", "(I)I"⟩ : MethodName)) (a := a) (ow hw 30 rfl) (ow hw 31 rfl) (o_nfSel (y := (⟨"com/example/busca/busca/rank/Accumulator", "result", "(I)I"⟩ : MethodName)) rfl (ow hw 33 rfl)) (ow hw 33 rfl) (ow hw 32 rfl) (ow hw 2 rfl) (ow hw 34 rfl) (by decide) F_a.exa (ct_result l Z a0 hw [] n0 a r sc mt (2 : Int32) (1 : Int32) d2 (((List.replicate 16 (.int 0)).set ((0 : Int32) : Int32).toNatClampNeg (.int d1)).set ((1 : Int32) : Int32).toNatClampNeg (.int d2)) h7 F_a A_r (by decide) rfl) o_sf0 (by rw [hml]; rfl) (by decide) (by decide) (argsL := [(.int (1 : Int32))]) (rest := []) (lenOf pd_3 rfl) rfl rfl (Nat.le_of_eq rfl) (hb hby at_201) (pc' := 204) rfl (by decide) (by decide) ?_
      clear P; intro T h8 v8 P K8 q8
      obtain ⟨rfl, rfl⟩ := q8; clear K8
      show OG p e below m _ T 204 #[.val (.int i0), .val (.int i1), .val (.int i2), .val (.int i3), .val (.int n), .val (.int d1), .val (.int d2), .val (.int d3), .val (.int q), .val (.ref a), .val (.int (2 : Int32)), .val (.int d2), .val (.int (-1 : Int32)), .val (.int (1 : Int32)), .unset, .unset] [(.int d2)]
      refine o_iload P (hb hby at_204) rfl (pc' := 206) rfl ?_
      refine o_icmp_ne P (hb hby at_206) (by decide) (pc' := 213) (by decide) (pcf := 209) rfl (fun q => absurd rfl q) (fun _ => ?_)
      refine o_iconst P (1 : Int32) (hb hby at_209) rfl (pc' := 210) rfl ?_
      refine o_goto P (hb hby at_210) (by decide) (pc' := 214) (by decide) ?_
      refine o_istore P (hb hby at_214) (L' := #[.val (.int i0), .val (.int i1), .val (.int i2), .val (.int i3), .val (.int n), .val (.int d1), .val (.int d2), .val (.int d3), .val (.int q), .val (.ref a), .val (.int (2 : Int32)), .val (.int d2), .val (.int (-1 : Int32)), .val (.int (1 : Int32)), .unset, .unset]) rfl (pc' := 216) rfl ?_
      refine o_iload P (hb hby at_216) rfl (pc' := 218) rfl ?_
      refine o_iconst P (3 : Int32) (hb hby at_218) rfl (pc' := 219) rfl ?_
      refine o_icmp_lt P (hb hby at_219) (by decide) (pc' := 245) (by decide) (pcf := 222) rfl (fun _ => ?_) (fun q => absurd (by decide) q)
      refine o_dconst0 P (hb hby at_245) (v := FP.l2d 0) (by rw [l2d_zero]; rfl) (pc' := 246) rfl ?_
      refine o_dstore P (hb hby at_246) (L' := #[.val (.int i0), .val (.int i1), .val (.int i2), .val (.int i3), .val (.int n), .val (.int d1), .val (.int d2), .val (.int d3), .val (.int q), .val (.ref a), .val (.int (2 : Int32)), .val (.int d2), .val (.int (-1 : Int32)), .val (.int (1 : Int32)), .val (.double (FP.l2d 0)), .second]) rfl (pc' := 248) rfl ?_
      refine o_dload P (hb hby at_248) rfl (pc' := 250) rfl ?_
      refine o_iload P (hb hby at_250) rfl (pc' := 252) rfl ?_
      refine o_iload P (hb hby at_252) rfl (pc' := 254) rfl ?_
      refine o_iloadN P (hb hby at_254) rfl (pc' := 255) rfl ?_
      refine o_callS P (W := 2) (ow hw 35 rfl) (ow hw 36 rfl) (ow hw 37 rfl) (ow hw 38 rfl) (by decide) (ct_part l Z a0 hw [] n0 d1 q i1 h8) o_sf0 (by rw [hml]; rfl) (by decide) (by decide) (argsL := [(.int d1), (.int q), (.int i1)]) (rest := [(.double (FP.l2d 0))]) (lenOf pd_4 rfl) rfl rfl (Nat.le_of_eq rfl) (hb hby at_255) (pc' := 258) rfl (by decide) (by decide) ?_
      clear P; intro T h9 v9 P K9 q9
      obtain ⟨rfl, rfl⟩ := q9; clear K9
      show OG p e below m _ T 258 #[.val (.int i0), .val (.int i1), .val (.int i2), .val (.int i3), .val (.int n), .val (.int d1), .val (.int d2), .val (.int d3), .val (.int q), .val (.ref a), .val (.int (2 : Int32)), .val (.int d2), .val (.int (-1 : Int32)), .val (.int (1 : Int32)), .val (.double (FP.l2d 0)), .second] [(.double (FP.l2d (if d1 = q then i1.toInt64 else 0))), (.double (FP.l2d 0))]
      refine o_dadd P (hb hby at_258) (nn_w (dadd_w (t0.b53 (by decide)) ((OB.ite i1).b53 (by decide)))) (dadd_w (t0.b53 (by decide)) ((OB.ite i1).b53 (by decide))) (pc' := 259) rfl ?_
      refine o_dstore P (hb hby at_259) (L' := #[.val (.int i0), .val (.int i1), .val (.int i2), .val (.int i3), .val (.int n), .val (.int d1), .val (.int d2), .val (.int d3), .val (.int q), .val (.ref a), .val (.int (2 : Int32)), .val (.int d2), .val (.int (-1 : Int32)), .val (.int (1 : Int32)), .val (.double (FP.l2d (0 + (if d1 = q then i1.toInt64 else 0)))), .second]) rfl (pc' := 261) rfl ?_
      refine o_dload P (hb hby at_261) rfl (pc' := 263) rfl ?_
      refine o_iload P (hb hby at_263) rfl (pc' := 265) rfl ?_
      refine o_iload P (hb hby at_265) rfl (pc' := 267) rfl ?_
      refine o_iloadN P (hb hby at_267) rfl (pc' := 268) rfl ?_
      refine o_callS P (W := 2) (ow hw 35 rfl) (ow hw 36 rfl) (ow hw 37 rfl) (ow hw 38 rfl) (by decide) (ct_part l Z a0 hw [] n0 d2 q i2 h9) o_sf0 (by rw [hml]; rfl) (by decide) (by decide) (argsL := [(.int d2), (.int q), (.int i2)]) (rest := [(.double (FP.l2d (0 + (if d1 = q then i1.toInt64 else 0))))]) (lenOf pd_4 rfl) rfl rfl (Nat.le_of_eq rfl) (hb hby at_268) (pc' := 271) rfl (by decide) (by decide) ?_
      clear P; intro T h10 v10 P K10 q10
      obtain ⟨rfl, rfl⟩ := q10; clear K10
      show OG p e below m _ T 271 #[.val (.int i0), .val (.int i1), .val (.int i2), .val (.int i3), .val (.int n), .val (.int d1), .val (.int d2), .val (.int d3), .val (.int q), .val (.ref a), .val (.int (2 : Int32)), .val (.int d2), .val (.int (-1 : Int32)), .val (.int (1 : Int32)), .val (.double (FP.l2d (0 + (if d1 = q then i1.toInt64 else 0)))), .second] [(.double (FP.l2d (if d2 = q then i2.toInt64 else 0))), (.double (FP.l2d (0 + (if d1 = q then i1.toInt64 else 0))))]
      refine o_dadd P (hb hby at_271) (nn_w (dadd_w (t1.b53 (by decide)) ((OB.ite i2).b53 (by decide)))) (dadd_w (t1.b53 (by decide)) ((OB.ite i2).b53 (by decide))) (pc' := 272) rfl ?_
      refine o_dstore P (hb hby at_272) (L' := #[.val (.int i0), .val (.int i1), .val (.int i2), .val (.int i3), .val (.int n), .val (.int d1), .val (.int d2), .val (.int d3), .val (.int q), .val (.ref a), .val (.int (2 : Int32)), .val (.int d2), .val (.int (-1 : Int32)), .val (.int (1 : Int32)), .val (.double (FP.l2d ((0 + (if d1 = q then i1.toInt64 else 0)) + (if d2 = q then i2.toInt64 else 0)))), .second]) rfl (pc' := 274) rfl ?_
      refine o_dload P (hb hby at_274) rfl (pc' := 276) rfl ?_
      refine o_iload P (hb hby at_276) rfl (pc' := 278) rfl ?_
      refine o_iload P (hb hby at_278) rfl (pc' := 280) rfl ?_
      refine o_iloadN P (hb hby at_280) rfl (pc' := 281) rfl ?_
      refine o_callS P (W := 2) (ow hw 35 rfl) (ow hw 36 rfl) (ow hw 37 rfl) (ow hw 38 rfl) (by decide) (ct_part l Z a0 hw [] n0 d3 q i3 h10) o_sf0 (by rw [hml]; rfl) (by decide) (by decide) (argsL := [(.int d3), (.int q), (.int i3)]) (rest := [(.double (FP.l2d ((0 + (if d1 = q then i1.toInt64 else 0)) + (if d2 = q then i2.toInt64 else 0))))]) (lenOf pd_4 rfl) rfl rfl (Nat.le_of_eq rfl) (hb hby at_281) (pc' := 284) rfl (by decide) (by decide) ?_
      clear P; intro T h11 v11 P K11 q11
      obtain ⟨rfl, rfl⟩ := q11; clear K11
      show OG p e below m _ T 284 #[.val (.int i0), .val (.int i1), .val (.int i2), .val (.int i3), .val (.int n), .val (.int d1), .val (.int d2), .val (.int d3), .val (.int q), .val (.ref a), .val (.int (2 : Int32)), .val (.int d2), .val (.int (-1 : Int32)), .val (.int (1 : Int32)), .val (.double (FP.l2d ((0 + (if d1 = q then i1.toInt64 else 0)) + (if d2 = q then i2.toInt64 else 0)))), .second] [(.double (FP.l2d (if d3 = q then i3.toInt64 else 0))), (.double (FP.l2d ((0 + (if d1 = q then i1.toInt64 else 0)) + (if d2 = q then i2.toInt64 else 0))))]
      refine o_dadd P (hb hby at_284) (nn_w (dadd_w (t2.b53 (by decide)) ((OB.ite i3).b53 (by decide)))) (dadd_w (t2.b53 (by decide)) ((OB.ite i3).b53 (by decide))) (pc' := 285) rfl ?_
      refine o_dstore P (hb hby at_285) (L' := #[.val (.int i0), .val (.int i1), .val (.int i2), .val (.int i3), .val (.int n), .val (.int d1), .val (.int d2), .val (.int d3), .val (.int q), .val (.ref a), .val (.int (2 : Int32)), .val (.int d2), .val (.int (-1 : Int32)), .val (.int (1 : Int32)), .val (.double (FP.l2d (((0 + (if d1 = q then i1.toInt64 else 0)) + (if d2 = q then i2.toInt64 else 0)) + (if d3 = q then i3.toInt64 else 0)))), .second]) rfl (pc' := 287) rfl ?_
      refine o_iload P (hb hby at_287) rfl (pc' := 289) rfl ?_
      refine o_if_eq P (hb hby at_289) (by decide) (pc' := 309) (by decide) (pcf := 292) rfl (fun q => absurd q (by decide)) (fun _ => ?_)
      refine o_aload P (hb hby at_292) rfl rfl (pc' := 294) rfl ?_
      refine o_iload P (hb hby at_294) rfl (pc' := 296) rfl ?_
      refine o_callV P (W := 0) (x := (⟨"com/example/busca/busca/rank/Accumulator", "score", "(I)D"⟩ : MethodName)) (y := (⟨"com/example/busca/busca/rank/Accumulator", "score", "(I)D"⟩ : MethodName)) (a := a) (ow hw 39 rfl) (ow hw 40 rfl) (o_nfSel (y := (⟨"com/example/busca/busca/rank/Accumulator", "score", "(I)D"⟩ : MethodName)) rfl (ow hw 42 rfl)) (ow hw 42 rfl) (ow hw 41 rfl) (ow hw 2 rfl) (ow hw 43 rfl) (by decide) F_a.exa (ct_score l Z a0 hw [] n0 a r sc mt (2 : Int32) q (FP.l2d ((fun i => if i = d3.toNatClampNeg then (fun i => if i = d2.toNatClampNeg then (fun i => if i = d1.toNatClampNeg then (fun _ => 0) i + i1.toInt64 else (fun _ => 0) i) i + i2.toInt64 else (fun i => if i = d1.toNatClampNeg then (fun _ => 0) i + i1.toInt64 else (fun _ => 0) i) i) i + i3.toInt64 else (fun i => if i = d2.toNatClampNeg then (fun i => if i = d1.toNatClampNeg then (fun _ => 0) i + i1.toInt64 else (fun _ => 0) i) i + i2.toInt64 else (fun i => if i = d1.toNatClampNeg then (fun _ => 0) i + i1.toInt64 else (fun _ => 0) i) i) i) q.toNatClampNeg)) _ h11 F_a A_sc hq0 (own_get hqn rfl)) o_sf0 (by rw [hml]; rfl) (by decide) (by decide) (argsL := [(.int q)]) (rest := []) (lenOf pd_5 rfl) rfl rfl (Nat.le_of_eq rfl) (hb hby at_296) (pc' := 299) rfl (by decide) (by decide) ?_
      clear P; intro T h12 v12 P K12 q12
      obtain ⟨rfl, rfl⟩ := q12; clear K12
      show OG p e below m _ T 299 #[.val (.int i0), .val (.int i1), .val (.int i2), .val (.int i3), .val (.int n), .val (.int d1), .val (.int d2), .val (.int d3), .val (.int q), .val (.ref a), .val (.int (2 : Int32)), .val (.int d2), .val (.int (-1 : Int32)), .val (.int (1 : Int32)), .val (.double (FP.l2d (((0 + (if d1 = q then i1.toInt64 else 0)) + (if d2 = q then i2.toInt64 else 0)) + (if d3 = q then i3.toInt64 else 0)))), .second] [(.double (FP.l2d ((fun i => if i = d3.toNatClampNeg then (fun i => if i = d2.toNatClampNeg then (fun i => if i = d1.toNatClampNeg then (fun _ => 0) i + i1.toInt64 else (fun _ => 0) i) i + i2.toInt64 else (fun i => if i = d1.toNatClampNeg then (fun _ => 0) i + i1.toInt64 else (fun _ => 0) i) i) i + i3.toInt64 else (fun i => if i = d2.toNatClampNeg then (fun i => if i = d1.toNatClampNeg then (fun _ => 0) i + i1.toInt64 else (fun _ => 0) i) i + i2.toInt64 else (fun i => if i = d1.toNatClampNeg then (fun _ => 0) i + i1.toInt64 else (fun _ => 0) i) i) i) q.toNatClampNeg)))]
      refine o_dload P (hb hby at_299) rfl (pc' := 301) rfl ?_
      refine o_dcmp P (hb hby at_301) (v := (0 : Int32)) (dcmpV_eq (congrArg FP.l2d (show (fun i => if i = d3.toNatClampNeg then (fun i => if i = d2.toNatClampNeg then (fun i => if i = d1.toNatClampNeg then (fun _ => 0) i + i1.toInt64 else (fun _ => 0) i) i + i2.toInt64 else (fun i => if i = d1.toNatClampNeg then (fun _ => 0) i + i1.toInt64 else (fun _ => 0) i) i) i + i3.toInt64 else (fun i => if i = d2.toNatClampNeg then (fun i => if i = d1.toNatClampNeg then (fun _ => 0) i + i1.toInt64 else (fun _ => 0) i) i + i2.toInt64 else (fun i => if i = d1.toNatClampNeg then (fun _ => 0) i + i1.toInt64 else (fun _ => 0) i) i) i) q.toNatClampNeg = (((0 + (if d1 = q then i1.toInt64 else 0)) + (if d2 = q then i2.toInt64 else 0)) + (if d3 = q then i3.toInt64 else 0)) from by simp only [show ((q.toNatClampNeg = d1.toNatClampNeg) = (d1 = q)) from hx1, show ((q.toNatClampNeg = d2.toNatClampNeg) = (d2 = q)) from hx2, show ((q.toNatClampNeg = d3.toNatClampNeg) = (d3 = q)) from hx3]; split <;> split <;> split <;> simp)) (l2d_fin _).noNaN .l) (pc' := 302) rfl ?_
      refine o_if_ne P (hb hby at_302) (by decide) (pc' := 309) (by decide) (pcf := 305) rfl (fun q => absurd (by decide) q) (fun _ => ?_)
      refine o_iconst P (1 : Int32) (hb hby at_305) rfl (pc' := 306) rfl ?_
      refine o_goto P (hb hby at_306) (by decide) (pc' := 310) (by decide) ?_
      refine o_istore P (hb hby at_310) (L' := #[.val (.int i0), .val (.int i1), .val (.int i2), .val (.int i3), .val (.int n), .val (.int d1), .val (.int d2), .val (.int d3), .val (.int q), .val (.ref a), .val (.int (2 : Int32)), .val (.int d2), .val (.int (-1 : Int32)), .val (.int (1 : Int32)), .val (.double (FP.l2d (((0 + (if d1 = q then i1.toInt64 else 0)) + (if d2 = q then i2.toInt64 else 0)) + (if d3 = q then i3.toInt64 else 0)))), .second]) rfl (pc' := 312) rfl ?_
      refine o_iload P (hb hby at_312) rfl (pc' := 314) rfl ?_
      exact o_retI P hret (by simp) rfl (hb hby at_314) (by decide) (by decide) rfl
    · by_cases h32 : d3 = d2
      · skip
        have hz_a := P.keep0.1
        refine o_new P [("com/example/busca/busca/rank/Accumulator", "results", "[I", .null), ("com/example/busca/busca/rank/Accumulator", "scores", "[D", .null), ("com/example/busca/busca/rank/Accumulator", "matched", "[Z", .null), ("com/example/busca/busca/rank/Accumulator", "size", "I", (.int (0 : Int32)))] (ow hw 0 rfl) (ow hw 1 rfl) (ow hw 2 rfl) (OLd.cons (Or.inl (ow hw 11 rfl)) (ty := (.array .int)) (by decide) rfl (OLd.cons (Or.inr (ow hw 14 rfl)) (ty := (.array .double)) (by decide) rfl (OLd.cons (Or.inr (ow hw 17 rfl)) (ty := (.array .boolean)) (by decide) rfl (OLd.cons (Or.inl (ow hw 24 rfl)) (ty := .int) (by decide) rfl OLd.nil)))) (by decide +kernel) (hb hby at_49) (pc' := 52) rfl (by decide) (by decide) ?_
        clear P; intro T h1 a P K1 hb_a F_a
        have sz_a := Nat.le_trans hz_a hb_a
        clear hz_a
        have K0 := K1
        refine o_dup P (hb hby at_52) rfl (pc' := 53) rfl ?_
        refine o_iload P (hb hby at_53) rfl (pc' := 55) rfl ?_
        refine o_callI P (W := 1) (a := a) rfl (ow hw 3 rfl) (ow hw 4 rfl) (ow hw 2 rfl) (ow hw 5 rfl) (by decide) (ct_init l Z a0 hw [] n0 a n h1 F_a hn0 hn4) (o_sfS (List.Mem.head _) o_sf0) (by rw [hml]; rfl) (by decide) (by decide) (argsL := [(.int n)]) (rest := [(.ref a)]) (lenOf pd_0 rfl) rfl rfl (Nat.le_of_eq rfl) (hb hby at_55) (pc' := 58) rfl (by decide) (by decide) ?_
        clear P; intro T h2 v2 P K2 q2
        obtain ⟨rfl, r, sc, mt, g1, g2, g3, ne_r_sc, ne_r_mt, ne_sc_mt, F_a', A_r, A_sc, A_mt⟩ := q2
        have ne_a_r : a ≠ r := Nat.ne_of_lt (Nat.lt_of_lt_of_le F_a.lt g1)
        have ne_a_sc : a ≠ sc := Nat.ne_of_lt (Nat.lt_of_lt_of_le F_a.lt g2)
        have ne_a_mt : a ≠ mt := Nat.ne_of_lt (Nat.lt_of_lt_of_le F_a.lt g3)
        clear F_a; have F_a := F_a'; clear F_a'
        have P := P.more (x := r) ⟨Nat.le_trans (Nat.le_trans hn0h K0.1) g1, A_r.lt, o_safe0⟩ (Nat.le_trans (Nat.le_trans hs0 K0.1) g1)
        have P := P.more (x := sc) ⟨Nat.le_trans (Nat.le_trans hn0h K0.1) g2, A_sc.lt, o_safe0⟩ (Nat.le_trans (Nat.le_trans hs0 K0.1) g2)
        have P := P.more (x := mt) ⟨Nat.le_trans (Nat.le_trans hn0h K0.1) g3, A_mt.lt, o_safe0⟩ (Nat.le_trans (Nat.le_trans hs0 K0.1) g3)
        show OG p e below m _ T 58 #[.val (.int i0), .val (.int i1), .val (.int i2), .val (.int i3), .val (.int n), .val (.int d1), .val (.int d2), .val (.int d3), .val (.int q), .unset, .unset, .unset, .unset, .unset, .unset, .unset] [(.ref a)]
        refine o_astore P (hb hby at_58) rfl (L' := #[.val (.int i0), .val (.int i1), .val (.int i2), .val (.int i3), .val (.int n), .val (.int d1), .val (.int d2), .val (.int d3), .val (.int q), .val (.ref a), .unset, .unset, .unset, .unset, .unset, .unset]) rfl (pc' := 60) rfl ?_
        refine o_aload P (hb hby at_60) rfl rfl (pc' := 62) rfl ?_
        refine o_iload P (hb hby at_62) rfl (pc' := 64) rfl ?_
        refine o_iloadN P (hb hby at_64) rfl (pc' := 65) rfl ?_
        refine o_i2d P (hb hby at_65) (v := FP.l2d i1.toInt64) (i2d_w i1) (pc' := 66) rfl ?_
        refine o_callV P (W := 0) (x := (⟨"com/example/busca/busca/rank/Accumulator", "add", "(ID)V"⟩ : MethodName)) (y := (⟨"com/example/busca/busca/rank/Accumulator", "add", "(ID)V"⟩ : MethodName)) (a := a) (ow hw 18 rfl) (ow hw 19 rfl) (o_nfSel (y := (⟨"com/example/busca/busca/rank/Accumulator", "add", "(ID)V"⟩ : MethodName)) rfl (ow hw 21 rfl)) (ow hw 21 rfl) (ow hw 20 rfl) (ow hw 2 rfl) (ow hw 22 rfl) (by decide) F_a.exa (ct_addN l Z a0 hw [] n0 a r sc mt n.toNatClampNeg (fun _ => 0) (fun _ => 0) (List.replicate 16 (.int 0)) (0 : Int32) d1 i1.toInt64 h2 F_a A_r A_sc A_mt ne_a_r ne_a_sc ne_a_mt ne_r_sc ne_r_mt ne_sc_mt hd10 hd1n (by simp []) (OB.zero.b53 (by decide)) ((OB.int i1).b53 (by decide)) (by simp) (by decide) (by decide) (by decide)) (o_sfS (List.Mem.tail _ (List.Mem.tail _ (List.Mem.tail _ (List.Mem.head _)))) (o_sfS (List.Mem.tail _ (List.Mem.tail _ (List.Mem.head _))) (o_sfS (List.Mem.tail _ (List.Mem.head _)) (o_sfS (List.Mem.head _) o_sf0)))) (by rw [hml]; rfl) (by decide) (by decide) (argsL := [(.int d1), (.double (FP.l2d i1.toInt64))]) (rest := []) (lenOf pd_1 rfl) rfl rfl (Nat.le_of_eq rfl) (hb hby at_66) (pc' := 69) rfl (by decide) (by decide) ?_
        clear P; intro T h3 v3 P K3 q3
        clear F_a A_r A_sc A_mt; obtain ⟨rfl, F_a, A_r, A_sc, A_mt⟩ := q3; clear K3
        replace F_a : OObj Z h3 a "com/example/busca/busca/rank/Accumulator" [("com/example/busca/busca/rank/Accumulator", "results", "[I", (.ref r)), ("com/example/busca/busca/rank/Accumulator", "scores", "[D", (.ref sc)), ("com/example/busca/busca/rank/Accumulator", "matched", "[Z", (.ref mt)), ("com/example/busca/busca/rank/Accumulator", "size", "I", (.int (1 : Int32)))] := F_a
        show OG p e below m _ T 69 #[.val (.int i0), .val (.int i1), .val (.int i2), .val (.int i3), .val (.int n), .val (.int d1), .val (.int d2), .val (.int d3), .val (.int q), .val (.ref a), .unset, .unset, .unset, .unset, .unset, .unset] []
        refine o_aload P (hb hby at_69) rfl rfl (pc' := 71) rfl ?_
        refine o_iload P (hb hby at_71) rfl (pc' := 73) rfl ?_
        refine o_iloadN P (hb hby at_73) rfl (pc' := 74) rfl ?_
        refine o_i2d P (hb hby at_74) (v := FP.l2d i2.toInt64) (i2d_w i2) (pc' := 75) rfl ?_
        refine o_callV P (W := 0) (x := (⟨"com/example/busca/busca/rank/Accumulator", "add", "(ID)V"⟩ : MethodName)) (y := (⟨"com/example/busca/busca/rank/Accumulator", "add", "(ID)V"⟩ : MethodName)) (a := a) (ow hw 18 rfl) (ow hw 19 rfl) (o_nfSel (y := (⟨"com/example/busca/busca/rank/Accumulator", "add", "(ID)V"⟩ : MethodName)) rfl (ow hw 21 rfl)) (ow hw 21 rfl) (ow hw 20 rfl) (ow hw 2 rfl) (ow hw 22 rfl) (by decide) F_a.exa (ct_addN l Z a0 hw [] n0 a r sc mt n.toNatClampNeg (fun i => if i = d1.toNatClampNeg then (fun _ => 0) i + i1.toInt64 else (fun _ => 0) i) (fun i => if i = d1.toNatClampNeg then 1 else (fun _ => 0) i) ((List.replicate 16 (.int 0)).set ((0 : Int32) : Int32).toNatClampNeg (.int d1)) (1 : Int32) d2 i2.toInt64 h3 F_a A_r A_sc A_mt ne_a_r ne_a_sc ne_a_mt ne_r_sc ne_r_mt ne_sc_mt hd20 hd2n (by simp [x21, h21]) bF1 ((OB.int i2).b53 (by decide)) (by simp) (by decide) (by decide) (by decide)) (o_sfS (List.Mem.tail _ (List.Mem.tail _ (List.Mem.tail _ (List.Mem.head _)))) (o_sfS (List.Mem.tail _ (List.Mem.tail _ (List.Mem.head _))) (o_sfS (List.Mem.tail _ (List.Mem.head _)) (o_sfS (List.Mem.head _) o_sf0)))) (by rw [hml]; rfl) (by decide) (by decide) (argsL := [(.int d2), (.double (FP.l2d i2.toInt64))]) (rest := []) (lenOf pd_1 rfl) rfl rfl (Nat.le_of_eq rfl) (hb hby at_75) (pc' := 78) rfl (by decide) (by decide) ?_
        clear P; intro T h4 v4 P K4 q4
        clear F_a A_r A_sc A_mt; obtain ⟨rfl, F_a, A_r, A_sc, A_mt⟩ := q4; clear K4
        replace F_a : OObj Z h4 a "com/example/busca/busca/rank/Accumulator" [("com/example/busca/busca/rank/Accumulator", "results", "[I", (.ref r)), ("com/example/busca/busca/rank/Accumulator", "scores", "[D", (.ref sc)), ("com/example/busca/busca/rank/Accumulator", "matched", "[Z", (.ref mt)), ("com/example/busca/busca/rank/Accumulator", "size", "I", (.int (2 : Int32)))] := F_a
        show OG p e below m _ T 78 #[.val (.int i0), .val (.int i1), .val (.int i2), .val (.int i3), .val (.int n), .val (.int d1), .val (.int d2), .val (.int d3), .val (.int q), .val (.ref a), .unset, .unset, .unset, .unset, .unset, .unset] []
        refine o_aload P (hb hby at_78) rfl rfl (pc' := 80) rfl ?_
        refine o_iload P (hb hby at_80) rfl (pc' := 82) rfl ?_
        refine o_iloadN P (hb hby at_82) rfl (pc' := 83) rfl ?_
        refine o_i2d P (hb hby at_83) (v := FP.l2d i3.toInt64) (i2d_w i3) (pc' := 84) rfl ?_
        refine o_callV P (W := 0) (x := (⟨"com/example/busca/busca/rank/Accumulator", "add", "(ID)V"⟩ : MethodName)) (y := (⟨"com/example/busca/busca/rank/Accumulator", "add", "(ID)V"⟩ : MethodName)) (a := a) (ow hw 18 rfl) (ow hw 19 rfl) (o_nfSel (y := (⟨"com/example/busca/busca/rank/Accumulator", "add", "(ID)V"⟩ : MethodName)) rfl (ow hw 21 rfl)) (ow hw 21 rfl) (ow hw 20 rfl) (ow hw 2 rfl) (ow hw 22 rfl) (by decide) F_a.exa (ct_addO l Z a0 hw [] n0 a r sc mt n.toNatClampNeg (fun i => if i = d2.toNatClampNeg then (fun i => if i = d1.toNatClampNeg then (fun _ => 0) i + i1.toInt64 else (fun _ => 0) i) i + i2.toInt64 else (fun i => if i = d1.toNatClampNeg then (fun _ => 0) i + i1.toInt64 else (fun _ => 0) i) i) (fun i => if i = d2.toNatClampNeg then 1 else (fun i => if i = d1.toNatClampNeg then 1 else (fun _ => 0) i) i) (((List.replicate 16 (.int 0)).set ((0 : Int32) : Int32).toNatClampNeg (.int d1)).set ((1 : Int32) : Int32).toNatClampNeg (.int d2)) (2 : Int32) d3 i3.toInt64 h4 F_a A_r A_sc A_mt ne_a_r ne_a_sc ne_a_mt ne_r_sc ne_r_mt ne_sc_mt hd30 hd3n (by simp [x31, x32, h31, h32, h21]) bF2 ((OB.int i3).b53 (by decide))) (o_sfS (List.Mem.tail _ (List.Mem.tail _ (List.Mem.tail _ (List.Mem.head _)))) (o_sfS (List.Mem.tail _ (List.Mem.tail _ (List.Mem.head _))) (o_sfS (List.Mem.tail _ (List.Mem.head _)) (o_sfS (List.Mem.head _) o_sf0)))) (by rw [hml]; rfl) (by decide) (by decide) (argsL := [(.int d3), (.double (FP.l2d i3.toInt64))]) (rest := []) (lenOf pd_1 rfl) rfl rfl (Nat.le_of_eq rfl) (hb hby at_84) (pc' := 87) rfl (by decide) (by decide) ?_
        clear P; intro T h5 v5 P K5 q5
        clear F_a A_r A_sc A_mt; obtain ⟨rfl, F_a, A_r, A_sc, A_mt⟩ := q5; clear K5
        replace F_a : OObj Z h5 a "com/example/busca/busca/rank/Accumulator" [("com/example/busca/busca/rank/Accumulator", "results", "[I", (.ref r)), ("com/example/busca/busca/rank/Accumulator", "scores", "[D", (.ref sc)), ("com/example/busca/busca/rank/Accumulator", "matched", "[Z", (.ref mt)), ("com/example/busca/busca/rank/Accumulator", "size", "I", (.int (2 : Int32)))] := F_a
        show OG p e below m _ T 87 #[.val (.int i0), .val (.int i1), .val (.int i2), .val (.int i3), .val (.int n), .val (.int d1), .val (.int d2), .val (.int d3), .val (.int q), .val (.ref a), .unset, .unset, .unset, .unset, .unset, .unset] []
        refine o_iconst P (1 : Int32) (hb hby at_87) rfl (pc' := 88) rfl ?_
        refine o_istore P (hb hby at_88) (L' := #[.val (.int i0), .val (.int i1), .val (.int i2), .val (.int i3), .val (.int n), .val (.int d1), .val (.int d2), .val (.int d3), .val (.int q), .val (.ref a), .val (.int (1 : Int32)), .unset, .unset, .unset, .unset, .unset]) rfl (pc' := 90) rfl ?_
        refine o_iconst P (-1 : Int32) (hb hby at_90) rfl (pc' := 91) rfl ?_
        refine o_istore P (hb hby at_91) (L' := #[.val (.int i0), .val (.int i1), .val (.int i2), .val (.int i3), .val (.int n), .val (.int d1), .val (.int d2), .val (.int d3), .val (.int q), .val (.ref a), .val (.int (1 : Int32)), .val (.int (-1 : Int32)), .unset, .unset, .unset, .unset]) rfl (pc' := 93) rfl ?_
        refine o_iconst P (-1 : Int32) (hb hby at_93) rfl (pc' := 94) rfl ?_
        refine o_istore P (hb hby at_94) (L' := #[.val (.int i0), .val (.int i1), .val (.int i2), .val (.int i3), .val (.int n), .val (.int d1), .val (.int d2), .val (.int d3), .val (.int q), .val (.ref a), .val (.int (1 : Int32)), .val (.int (-1 : Int32)), .val (.int (-1 : Int32)), .unset, .unset, .unset]) rfl (pc' := 96) rfl ?_
        refine o_iload P (hb hby at_96) rfl (pc' := 98) rfl ?_
        refine o_iload P (hb hby at_98) rfl (pc' := 100) rfl ?_
        refine o_icmp_eq P (hb hby at_100) (by decide) (pc' := 110) (by decide) (pcf := 103) rfl (fun q => absurd q h21) (fun _ => ?_)
        refine o_iload P (hb hby at_103) rfl (pc' := 105) rfl ?_
        refine o_istore P (hb hby at_105) (L' := #[.val (.int i0), .val (.int i1), .val (.int i2), .val (.int i3), .val (.int n), .val (.int d1), .val (.int d2), .val (.int d3), .val (.int q), .val (.ref a), .val (.int (1 : Int32)), .val (.int d2), .val (.int (-1 : Int32)), .unset, .unset, .unset]) rfl (pc' := 107) rfl ?_
        refine o_iconst P (2 : Int32) (hb hby at_107) rfl (pc' := 108) rfl ?_
        refine o_istore P (hb hby at_108) (L' := #[.val (.int i0), .val (.int i1), .val (.int i2), .val (.int i3), .val (.int n), .val (.int d1), .val (.int d2), .val (.int d3), .val (.int q), .val (.ref a), .val (.int (2 : Int32)), .val (.int d2), .val (.int (-1 : Int32)), .unset, .unset, .unset]) rfl (pc' := 110) rfl ?_
        refine o_iload P (hb hby at_110) rfl (pc' := 112) rfl ?_
        refine o_iload P (hb hby at_112) rfl (pc' := 114) rfl ?_
        refine o_icmp_eq P (hb hby at_114) (by decide) (pc' := 147) (by decide) (pcf := 117) rfl (fun q => absurd q h31) (fun _ => ?_)
        refine o_iload P (hb hby at_117) rfl (pc' := 119) rfl ?_
        refine o_iload P (hb hby at_119) rfl (pc' := 121) rfl ?_
        refine o_icmp_eq P (hb hby at_121) (by decide) (pc' := 147) (by decide) (pcf := 124) rfl (fun _ => ?_) (fun q => absurd h32 q)
        refine o_aload P (hb hby at_147) rfl rfl (pc' := 149) rfl ?_
        refine o_callV P (W := 0) (x := (⟨"com/example/busca/busca/rank/Accumulator", "resultCount", "()I"⟩ : MethodName)) (y := (⟨"com/example/busca/busca/rank/Accumulator", "resultCount", "()I"⟩ : MethodName)) (a := a) (ow hw 25 rfl) (ow hw 26 rfl) (o_nfSel (y := (⟨"com/example/busca/busca/rank/Accumulator", "resultCount", "()I"⟩ : MethodName)) rfl (ow hw 28 rfl)) (ow hw 28 rfl) (ow hw 27 rfl) (ow hw 2 rfl) (ow hw 29 rfl) (by decide) F_a.exa (ct_count l Z a0 hw [] n0 a r sc mt (2 : Int32) h5 F_a) o_sf0 (by rw [hml]; rfl) (by decide) (by decide) (argsL := []) (rest := []) (lenOf pd_2 rfl) rfl rfl (Nat.le_of_eq rfl) (hb hby at_149) (pc' := 152) rfl (by decide) (by decide) ?_
        clear P; intro T h6 v6 P K6 q6
        obtain ⟨rfl, rfl⟩ := q6; clear K6
        show OG p e below m _ T 152 #[.val (.int i0), .val (.int i1), .val (.int i2), .val (.int i3), .val (.int n), .val (.int d1), .val (.int d2), .val (.int d3), .val (.int q), .val (.ref a), .val (.int (2 : Int32)), .val (.int d2), .val (.int (-1 : Int32)), .unset, .unset, .unset] [(.int (2 : Int32))]
        refine o_iload P (hb hby at_152) rfl (pc' := 154) rfl ?_
        refine o_icmp_ne P (hb hby at_154) (by decide) (pc' := 161) (by decide) (pcf := 157) rfl (fun q => absurd (by decide) q) (fun _ => ?_)
        refine o_iconst P (1 : Int32) (hb hby at_157) rfl (pc' := 158) rfl ?_
        refine o_goto P (hb hby at_158) (by decide) (pc' := 162) (by decide) ?_
        refine o_istore P (hb hby at_162) (L' := #[.val (.int i0), .val (.int i1), .val (.int i2), .val (.int i3), .val (.int n), .val (.int d1), .val (.int d2), .val (.int d3), .val (.int q), .val (.ref a), .val (.int (2 : Int32)), .val (.int d2), .val (.int (-1 : Int32)), .val (.int (1 : Int32)), .unset, .unset]) rfl (pc' := 164) rfl ?_
        refine o_iload P (hb hby at_164) rfl (pc' := 166) rfl ?_
        refine o_if_eq P (hb hby at_166) (by decide) (pc' := 184) (by decide) (pcf := 169) rfl (fun q => absurd q (by decide)) (fun _ => ?_)
        refine o_aload P (hb hby at_169) rfl rfl (pc' := 171) rfl ?_
        refine o_iconst P (0 : Int32) (hb hby at_171) rfl (pc' := 172) rfl ?_
        refine o_callV P (W := 0) (x := (⟨"com/example/busca/busca/rank/Accumulator", "result", "(I)I"⟩ : MethodName)) (y := (⟨"com/example/busca/busca/rank/Accumulator", "result", "(I)I"⟩ : MethodName)) (a := a) (ow hw 30 rfl) (ow hw 31 rfl) (o_nfSel (y := (⟨"com/example/busca/busca/rank/Accumulator", "result", "(I)I"⟩ : MethodName)) rfl (ow hw 33 rfl)) (ow hw 33 rfl) (ow hw 32 rfl) (ow hw 2 rfl) (ow hw 34 rfl) (by decide) F_a.exa (ct_result l Z a0 hw [] n0 a r sc mt (2 : Int32) (0 : Int32) d1 (((List.replicate 16 (.int 0)).set ((0 : Int32) : Int32).toNatClampNeg (.int d1)).set ((1 : Int32) : Int32).toNatClampNeg (.int d2)) h6 F_a A_r (by decide) rfl) o_sf0 (by rw [hml]; rfl) (by decide) (by decide) (argsL := [(.int (0 : Int32))]) (rest := []) (lenOf pd_3 rfl) rfl rfl (Nat.le_of_eq rfl) (hb hby at_172) (pc' := 175) rfl (by decide) (by decide) ?_
        clear P; intro T h7 v7 P K7 q7
        obtain ⟨rfl, rfl⟩ := q7; clear K7
        show OG p e below m _ T 175 #[.val (.int i0), .val (.int i1), .val (.int i2), .val (.int i3), .val (.int n), .val (.int d1), .val (.int d2), .val (.int d3), .val (.int q), .val (.ref a), .val (.int (2 : Int32)), .val (.int d2), .val (.int (-1 : Int32)), .val (.int (1 : Int32)), .unset, .unset] [(.int d1)]
        refine o_iload P (hb hby at_175) rfl (pc' := 177) rfl ?_
        refine o_icmp_ne P (hb hby at_177) (by decide) (pc' := 184) (by decide) (pcf := 180) rfl (fun q => absurd rfl q) (fun _ => ?_)
        refine o_iconst P (1 : Int32) (hb hby at_180) rfl (pc' := 181) rfl ?_
        refine o_goto P (hb hby at_181) (by decide) (pc' := 185) (by decide) ?_
        refine o_istore P (hb hby at_185) (L' := #[.val (.int i0), .val (.int i1), .val (.int i2), .val (.int i3), .val (.int n), .val (.int d1), .val (.int d2), .val (.int d3), .val (.int q), .val (.ref a), .val (.int (2 : Int32)), .val (.int d2), .val (.int (-1 : Int32)), .val (.int (1 : Int32)), .unset, .unset]) rfl (pc' := 187) rfl ?_
        refine o_iload P (hb hby at_187) rfl (pc' := 189) rfl ?_
        refine o_iconst P (2 : Int32) (hb hby at_189) rfl (pc' := 190) rfl ?_
        refine o_icmp_lt P (hb hby at_190) (by decide) (pc' := 216) (by decide) (pcf := 193) rfl (fun q => absurd q (by decide)) (fun _ => ?_)
        refine o_iload P (hb hby at_193) rfl (pc' := 195) rfl ?_
        refine o_if_eq P (hb hby at_195) (by decide) (pc' := 213) (by decide) (pcf := 198) rfl (fun q => absurd q (by decide)) (fun _ => ?_)
        refine o_aload P (hb hby at_198) rfl rfl (pc' := 200) rfl ?_
        refine o_iconst P (1 : Int32) (hb hby at_200) rfl (pc' := 201) rfl ?_
        refine o_callV P (W := 0) (x := (⟨"com/example/busca/busca/rank/Accumulator", "result", "(I)I"⟩ : MethodName)) (y := (⟨"com/example/busca/busca/rank/Accumulator", "result", "(I)I"⟩ : MethodName)) (a := a) (ow hw 30 rfl) (ow hw 31 rfl) (o_nfSel (y := (⟨"com/example/busca/busca/rank/Accumulator", "result", "(I)I"⟩ : MethodName)) rfl (ow hw 33 rfl)) (ow hw 33 rfl) (ow hw 32 rfl) (ow hw 2 rfl) (ow hw 34 rfl) (by decide) F_a.exa (ct_result l Z a0 hw [] n0 a r sc mt (2 : Int32) (1 : Int32) d2 (((List.replicate 16 (.int 0)).set ((0 : Int32) : Int32).toNatClampNeg (.int d1)).set ((1 : Int32) : Int32).toNatClampNeg (.int d2)) h7 F_a A_r (by decide) rfl) o_sf0 (by rw [hml]; rfl) (by decide) (by decide) (argsL := [(.int (1 : Int32))]) (rest := []) (lenOf pd_3 rfl) rfl rfl (Nat.le_of_eq rfl) (hb hby at_201) (pc' := 204) rfl (by decide) (by decide) ?_
        clear P; intro T h8 v8 P K8 q8
        obtain ⟨rfl, rfl⟩ := q8; clear K8
        show OG p e below m _ T 204 #[.val (.int i0), .val (.int i1), .val (.int i2), .val (.int i3), .val (.int n), .val (.int d1), .val (.int d2), .val (.int d3), .val (.int q), .val (.ref a), .val (.int (2 : Int32)), .val (.int d2), .val (.int (-1 : Int32)), .val (.int (1 : Int32)), .unset, .unset] [(.int d2)]
        refine o_iload P (hb hby at_204) rfl (pc' := 206) rfl ?_
        refine o_icmp_ne P (hb hby at_206) (by decide) (pc' := 213) (by decide) (pcf := 209) rfl (fun q => absurd rfl q) (fun _ => ?_)
        refine o_iconst P (1 : Int32) (hb hby at_209) rfl (pc' := 210) rfl ?_
        refine o_goto P (hb hby at_210) (by decide) (pc' := 214) (by decide) ?_
        refine o_istore P (hb hby at_214) (L' := #[.val (.int i0), .val (.int i1), .val (.int i2), .val (.int i3), .val (.int n), .val (.int d1), .val (.int d2), .val (.int d3), .val (.int q), .val (.ref a), .val (.int (2 : Int32)), .val (.int d2), .val (.int (-1 : Int32)), .val (.int (1 : Int32)), .unset, .unset]) rfl (pc' := 216) rfl ?_
        refine o_iload P (hb hby at_216) rfl (pc' := 218) rfl ?_
        refine o_iconst P (3 : Int32) (hb hby at_218) rfl (pc' := 219) rfl ?_
        refine o_icmp_lt P (hb hby at_219) (by decide) (pc' := 245) (by decide) (pcf := 222) rfl (fun _ => ?_) (fun q => absurd (by decide) q)
        refine o_dconst0 P (hb hby at_245) (v := FP.l2d 0) (by rw [l2d_zero]; rfl) (pc' := 246) rfl ?_
        refine o_dstore P (hb hby at_246) (L' := #[.val (.int i0), .val (.int i1), .val (.int i2), .val (.int i3), .val (.int n), .val (.int d1), .val (.int d2), .val (.int d3), .val (.int q), .val (.ref a), .val (.int (2 : Int32)), .val (.int d2), .val (.int (-1 : Int32)), .val (.int (1 : Int32)), .val (.double (FP.l2d 0)), .second]) rfl (pc' := 248) rfl ?_
        refine o_dload P (hb hby at_248) rfl (pc' := 250) rfl ?_
        refine o_iload P (hb hby at_250) rfl (pc' := 252) rfl ?_
        refine o_iload P (hb hby at_252) rfl (pc' := 254) rfl ?_
        refine o_iloadN P (hb hby at_254) rfl (pc' := 255) rfl ?_
        refine o_callS P (W := 2) (ow hw 35 rfl) (ow hw 36 rfl) (ow hw 37 rfl) (ow hw 38 rfl) (by decide) (ct_part l Z a0 hw [] n0 d1 q i1 h8) o_sf0 (by rw [hml]; rfl) (by decide) (by decide) (argsL := [(.int d1), (.int q), (.int i1)]) (rest := [(.double (FP.l2d 0))]) (lenOf pd_4 rfl) rfl rfl (Nat.le_of_eq rfl) (hb hby at_255) (pc' := 258) rfl (by decide) (by decide) ?_
        clear P; intro T h9 v9 P K9 q9
        obtain ⟨rfl, rfl⟩ := q9; clear K9
        show OG p e below m _ T 258 #[.val (.int i0), .val (.int i1), .val (.int i2), .val (.int i3), .val (.int n), .val (.int d1), .val (.int d2), .val (.int d3), .val (.int q), .val (.ref a), .val (.int (2 : Int32)), .val (.int d2), .val (.int (-1 : Int32)), .val (.int (1 : Int32)), .val (.double (FP.l2d 0)), .second] [(.double (FP.l2d (if d1 = q then i1.toInt64 else 0))), (.double (FP.l2d 0))]
        refine o_dadd P (hb hby at_258) (nn_w (dadd_w (t0.b53 (by decide)) ((OB.ite i1).b53 (by decide)))) (dadd_w (t0.b53 (by decide)) ((OB.ite i1).b53 (by decide))) (pc' := 259) rfl ?_
        refine o_dstore P (hb hby at_259) (L' := #[.val (.int i0), .val (.int i1), .val (.int i2), .val (.int i3), .val (.int n), .val (.int d1), .val (.int d2), .val (.int d3), .val (.int q), .val (.ref a), .val (.int (2 : Int32)), .val (.int d2), .val (.int (-1 : Int32)), .val (.int (1 : Int32)), .val (.double (FP.l2d (0 + (if d1 = q then i1.toInt64 else 0)))), .second]) rfl (pc' := 261) rfl ?_
        refine o_dload P (hb hby at_261) rfl (pc' := 263) rfl ?_
        refine o_iload P (hb hby at_263) rfl (pc' := 265) rfl ?_
        refine o_iload P (hb hby at_265) rfl (pc' := 267) rfl ?_
        refine o_iloadN P (hb hby at_267) rfl (pc' := 268) rfl ?_
        refine o_callS P (W := 2) (ow hw 35 rfl) (ow hw 36 rfl) (ow hw 37 rfl) (ow hw 38 rfl) (by decide) (ct_part l Z a0 hw [] n0 d2 q i2 h9) o_sf0 (by rw [hml]; rfl) (by decide) (by decide) (argsL := [(.int d2), (.int q), (.int i2)]) (rest := [(.double (FP.l2d (0 + (if d1 = q then i1.toInt64 else 0))))]) (lenOf pd_4 rfl) rfl rfl (Nat.le_of_eq rfl) (hb hby at_268) (pc' := 271) rfl (by decide) (by decide) ?_
        clear P; intro T h10 v10 P K10 q10
        obtain ⟨rfl, rfl⟩ := q10; clear K10
        show OG p e below m _ T 271 #[.val (.int i0), .val (.int i1), .val (.int i2), .val (.int i3), .val (.int n), .val (.int d1), .val (.int d2), .val (.int d3), .val (.int q), .val (.ref a), .val (.int (2 : Int32)), .val (.int d2), .val (.int (-1 : Int32)), .val (.int (1 : Int32)), .val (.double (FP.l2d (0 + (if d1 = q then i1.toInt64 else 0)))), .second] [(.double (FP.l2d (if d2 = q then i2.toInt64 else 0))), (.double (FP.l2d (0 + (if d1 = q then i1.toInt64 else 0))))]
        refine o_dadd P (hb hby at_271) (nn_w (dadd_w (t1.b53 (by decide)) ((OB.ite i2).b53 (by decide)))) (dadd_w (t1.b53 (by decide)) ((OB.ite i2).b53 (by decide))) (pc' := 272) rfl ?_
        refine o_dstore P (hb hby at_272) (L' := #[.val (.int i0), .val (.int i1), .val (.int i2), .val (.int i3), .val (.int n), .val (.int d1), .val (.int d2), .val (.int d3), .val (.int q), .val (.ref a), .val (.int (2 : Int32)), .val (.int d2), .val (.int (-1 : Int32)), .val (.int (1 : Int32)), .val (.double (FP.l2d ((0 + (if d1 = q then i1.toInt64 else 0)) + (if d2 = q then i2.toInt64 else 0)))), .second]) rfl (pc' := 274) rfl ?_
        refine o_dload P (hb hby at_274) rfl (pc' := 276) rfl ?_
        refine o_iload P (hb hby at_276) rfl (pc' := 278) rfl ?_
        refine o_iload P (hb hby at_278) rfl (pc' := 280) rfl ?_
        refine o_iloadN P (hb hby at_280) rfl (pc' := 281) rfl ?_
        refine o_callS P (W := 2) (ow hw 35 rfl) (ow hw 36 rfl) (ow hw 37 rfl) (ow hw 38 rfl) (by decide) (ct_part l Z a0 hw [] n0 d3 q i3 h10) o_sf0 (by rw [hml]; rfl) (by decide) (by decide) (argsL := [(.int d3), (.int q), (.int i3)]) (rest := [(.double (FP.l2d ((0 + (if d1 = q then i1.toInt64 else 0)) + (if d2 = q then i2.toInt64 else 0))))]) (lenOf pd_4 rfl) rfl rfl (Nat.le_of_eq rfl) (hb hby at_281) (pc' := 284) rfl (by decide) (by decide) ?_
        clear P; intro T h11 v11 P K11 q11
        obtain ⟨rfl, rfl⟩ := q11; clear K11
        show OG p e below m _ T 284 #[.val (.int i0), .val (.int i1), .val (.int i2), .val (.int i3), .val (.int n), .val (.int d1), .val (.int d2), .val (.int d3), .val (.int q), .val (.ref a), .val (.int (2 : Int32)), .val (.int d2), .val (.int (-1 : Int32)), .val (.int (1 : Int32)), .val (.double (FP.l2d ((0 + (if d1 = q then i1.toInt64 else 0)) + (if d2 = q then i2.toInt64 else 0)))), .second] [(.double (FP.l2d (if d3 = q then i3.toInt64 else 0))), (.double (FP.l2d ((0 + (if d1 = q then i1.toInt64 else 0)) + (if d2 = q then i2.toInt64 else 0))))]
        refine o_dadd P (hb hby at_284) (nn_w (dadd_w (t2.b53 (by decide)) ((OB.ite i3).b53 (by decide)))) (dadd_w (t2.b53 (by decide)) ((OB.ite i3).b53 (by decide))) (pc' := 285) rfl ?_
        refine o_dstore P (hb hby at_285) (L' := #[.val (.int i0), .val (.int i1), .val (.int i2), .val (.int i3), .val (.int n), .val (.int d1), .val (.int d2), .val (.int d3), .val (.int q), .val (.ref a), .val (.int (2 : Int32)), .val (.int d2), .val (.int (-1 : Int32)), .val (.int (1 : Int32)), .val (.double (FP.l2d (((0 + (if d1 = q then i1.toInt64 else 0)) + (if d2 = q then i2.toInt64 else 0)) + (if d3 = q then i3.toInt64 else 0)))), .second]) rfl (pc' := 287) rfl ?_
        refine o_iload P (hb hby at_287) rfl (pc' := 289) rfl ?_
        refine o_if_eq P (hb hby at_289) (by decide) (pc' := 309) (by decide) (pcf := 292) rfl (fun q => absurd q (by decide)) (fun _ => ?_)
        refine o_aload P (hb hby at_292) rfl rfl (pc' := 294) rfl ?_
        refine o_iload P (hb hby at_294) rfl (pc' := 296) rfl ?_
        refine o_callV P (W := 0) (x := (⟨"com/example/busca/busca/rank/Accumulator", "score", "(I)D"⟩ : MethodName)) (y := (⟨"com/example/busca/busca/rank/Accumulator", "score", "(I)D"⟩ : MethodName)) (a := a) (ow hw 39 rfl) (ow hw 40 rfl) (o_nfSel (y := (⟨"com/example/busca/busca/rank/Accumulator", "score", "(I)D"⟩ : MethodName)) rfl (ow hw 42 rfl)) (ow hw 42 rfl) (ow hw 41 rfl) (ow hw 2 rfl) (ow hw 43 rfl) (by decide) F_a.exa (ct_score l Z a0 hw [] n0 a r sc mt (2 : Int32) q (FP.l2d ((fun i => if i = d3.toNatClampNeg then (fun i => if i = d2.toNatClampNeg then (fun i => if i = d1.toNatClampNeg then (fun _ => 0) i + i1.toInt64 else (fun _ => 0) i) i + i2.toInt64 else (fun i => if i = d1.toNatClampNeg then (fun _ => 0) i + i1.toInt64 else (fun _ => 0) i) i) i + i3.toInt64 else (fun i => if i = d2.toNatClampNeg then (fun i => if i = d1.toNatClampNeg then (fun _ => 0) i + i1.toInt64 else (fun _ => 0) i) i + i2.toInt64 else (fun i => if i = d1.toNatClampNeg then (fun _ => 0) i + i1.toInt64 else (fun _ => 0) i) i) i) q.toNatClampNeg)) _ h11 F_a A_sc hq0 (own_get hqn rfl)) o_sf0 (by rw [hml]; rfl) (by decide) (by decide) (argsL := [(.int q)]) (rest := []) (lenOf pd_5 rfl) rfl rfl (Nat.le_of_eq rfl) (hb hby at_296) (pc' := 299) rfl (by decide) (by decide) ?_
        clear P; intro T h12 v12 P K12 q12
        obtain ⟨rfl, rfl⟩ := q12; clear K12
        show OG p e below m _ T 299 #[.val (.int i0), .val (.int i1), .val (.int i2), .val (.int i3), .val (.int n), .val (.int d1), .val (.int d2), .val (.int d3), .val (.int q), .val (.ref a), .val (.int (2 : Int32)), .val (.int d2), .val (.int (-1 : Int32)), .val (.int (1 : Int32)), .val (.double (FP.l2d (((0 + (if d1 = q then i1.toInt64 else 0)) + (if d2 = q then i2.toInt64 else 0)) + (if d3 = q then i3.toInt64 else 0)))), .second] [(.double (FP.l2d ((fun i => if i = d3.toNatClampNeg then (fun i => if i = d2.toNatClampNeg then (fun i => if i = d1.toNatClampNeg then (fun _ => 0) i + i1.toInt64 else (fun _ => 0) i) i + i2.toInt64 else (fun i => if i = d1.toNatClampNeg then (fun _ => 0) i + i1.toInt64 else (fun _ => 0) i) i) i + i3.toInt64 else (fun i => if i = d2.toNatClampNeg then (fun i => if i = d1.toNatClampNeg then (fun _ => 0) i + i1.toInt64 else (fun _ => 0) i) i + i2.toInt64 else (fun i => if i = d1.toNatClampNeg then (fun _ => 0) i + i1.toInt64 else (fun _ => 0) i) i) i) q.toNatClampNeg)))]
        refine o_dload P (hb hby at_299) rfl (pc' := 301) rfl ?_
        refine o_dcmp P (hb hby at_301) (v := (0 : Int32)) (dcmpV_eq (congrArg FP.l2d (show (fun i => if i = d3.toNatClampNeg then (fun i => if i = d2.toNatClampNeg then (fun i => if i = d1.toNatClampNeg then (fun _ => 0) i + i1.toInt64 else (fun _ => 0) i) i + i2.toInt64 else (fun i => if i = d1.toNatClampNeg then (fun _ => 0) i + i1.toInt64 else (fun _ => 0) i) i) i + i3.toInt64 else (fun i => if i = d2.toNatClampNeg then (fun i => if i = d1.toNatClampNeg then (fun _ => 0) i + i1.toInt64 else (fun _ => 0) i) i + i2.toInt64 else (fun i => if i = d1.toNatClampNeg then (fun _ => 0) i + i1.toInt64 else (fun _ => 0) i) i) i) q.toNatClampNeg = (((0 + (if d1 = q then i1.toInt64 else 0)) + (if d2 = q then i2.toInt64 else 0)) + (if d3 = q then i3.toInt64 else 0)) from by simp only [show ((q.toNatClampNeg = d1.toNatClampNeg) = (d1 = q)) from hx1, show ((q.toNatClampNeg = d2.toNatClampNeg) = (d2 = q)) from hx2, show ((q.toNatClampNeg = d3.toNatClampNeg) = (d3 = q)) from hx3]; split <;> split <;> split <;> simp)) (l2d_fin _).noNaN .l) (pc' := 302) rfl ?_
        refine o_if_ne P (hb hby at_302) (by decide) (pc' := 309) (by decide) (pcf := 305) rfl (fun q => absurd (by decide) q) (fun _ => ?_)
        refine o_iconst P (1 : Int32) (hb hby at_305) rfl (pc' := 306) rfl ?_
        refine o_goto P (hb hby at_306) (by decide) (pc' := 310) (by decide) ?_
        refine o_istore P (hb hby at_310) (L' := #[.val (.int i0), .val (.int i1), .val (.int i2), .val (.int i3), .val (.int n), .val (.int d1), .val (.int d2), .val (.int d3), .val (.int q), .val (.ref a), .val (.int (2 : Int32)), .val (.int d2), .val (.int (-1 : Int32)), .val (.int (1 : Int32)), .val (.double (FP.l2d (((0 + (if d1 = q then i1.toInt64 else 0)) + (if d2 = q then i2.toInt64 else 0)) + (if d3 = q then i3.toInt64 else 0)))), .second]) rfl (pc' := 312) rfl ?_
        refine o_iload P (hb hby at_312) rfl (pc' := 314) rfl ?_
        exact o_retI P hret (by simp) rfl (hb hby at_314) (by decide) (by decide) rfl
      · skip
        have hz_a := P.keep0.1
        refine o_new P [("com/example/busca/busca/rank/Accumulator", "results", "[I", .null), ("com/example/busca/busca/rank/Accumulator", "scores", "[D", .null), ("com/example/busca/busca/rank/Accumulator", "matched", "[Z", .null), ("com/example/busca/busca/rank/Accumulator", "size", "I", (.int (0 : Int32)))] (ow hw 0 rfl) (ow hw 1 rfl) (ow hw 2 rfl) (OLd.cons (Or.inl (ow hw 11 rfl)) (ty := (.array .int)) (by decide) rfl (OLd.cons (Or.inr (ow hw 14 rfl)) (ty := (.array .double)) (by decide) rfl (OLd.cons (Or.inr (ow hw 17 rfl)) (ty := (.array .boolean)) (by decide) rfl (OLd.cons (Or.inl (ow hw 24 rfl)) (ty := .int) (by decide) rfl OLd.nil)))) (by decide +kernel) (hb hby at_49) (pc' := 52) rfl (by decide) (by decide) ?_
        clear P; intro T h1 a P K1 hb_a F_a
        have sz_a := Nat.le_trans hz_a hb_a
        clear hz_a
        have K0 := K1
        refine o_dup P (hb hby at_52) rfl (pc' := 53) rfl ?_
        refine o_iload P (hb hby at_53) rfl (pc' := 55) rfl ?_
        refine o_callI P (W := 1) (a := a) rfl (ow hw 3 rfl) (ow hw 4 rfl) (ow hw 2 rfl) (ow hw 5 rfl) (by decide) (ct_init l Z a0 hw [] n0 a n h1 F_a hn0 hn4) (o_sfS (List.Mem.head _) o_sf0) (by rw [hml]; rfl) (by decide) (by decide) (argsL := [(.int n)]) (rest := [(.ref a)]) (lenOf pd_0 rfl) rfl rfl (Nat.le_of_eq rfl) (hb hby at_55) (pc' := 58) rfl (by decide) (by decide) ?_
        clear P; intro T h2 v2 P K2 q2
        obtain ⟨rfl, r, sc, mt, g1, g2, g3, ne_r_sc, ne_r_mt, ne_sc_mt, F_a', A_r, A_sc, A_mt⟩ := q2
        have ne_a_r : a ≠ r := Nat.ne_of_lt (Nat.lt_of_lt_of_le F_a.lt g1)
        have ne_a_sc : a ≠ sc := Nat.ne_of_lt (Nat.lt_of_lt_of_le F_a.lt g2)
        have ne_a_mt : a ≠ mt := Nat.ne_of_lt (Nat.lt_of_lt_of_le F_a.lt g3)
        clear F_a; have F_a := F_a'; clear F_a'
        have P := P.more (x := r) ⟨Nat.le_trans (Nat.le_trans hn0h K0.1) g1, A_r.lt, o_safe0⟩ (Nat.le_trans (Nat.le_trans hs0 K0.1) g1)
        have P := P.more (x := sc) ⟨Nat.le_trans (Nat.le_trans hn0h K0.1) g2, A_sc.lt, o_safe0⟩ (Nat.le_trans (Nat.le_trans hs0 K0.1) g2)
        have P := P.more (x := mt) ⟨Nat.le_trans (Nat.le_trans hn0h K0.1) g3, A_mt.lt, o_safe0⟩ (Nat.le_trans (Nat.le_trans hs0 K0.1) g3)
        show OG p e below m _ T 58 #[.val (.int i0), .val (.int i1), .val (.int i2), .val (.int i3), .val (.int n), .val (.int d1), .val (.int d2), .val (.int d3), .val (.int q), .unset, .unset, .unset, .unset, .unset, .unset, .unset] [(.ref a)]
        refine o_astore P (hb hby at_58) rfl (L' := #[.val (.int i0), .val (.int i1), .val (.int i2), .val (.int i3), .val (.int n), .val (.int d1), .val (.int d2), .val (.int d3), .val (.int q), .val (.ref a), .unset, .unset, .unset, .unset, .unset, .unset]) rfl (pc' := 60) rfl ?_
        refine o_aload P (hb hby at_60) rfl rfl (pc' := 62) rfl ?_
        refine o_iload P (hb hby at_62) rfl (pc' := 64) rfl ?_
        refine o_iloadN P (hb hby at_64) rfl (pc' := 65) rfl ?_
        refine o_i2d P (hb hby at_65) (v := FP.l2d i1.toInt64) (i2d_w i1) (pc' := 66) rfl ?_
        refine o_callV P (W := 0) (x := (⟨"com/example/busca/busca/rank/Accumulator", "add", "(ID)V"⟩ : MethodName)) (y := (⟨"com/example/busca/busca/rank/Accumulator", "add", "(ID)V"⟩ : MethodName)) (a := a) (ow hw 18 rfl) (ow hw 19 rfl) (o_nfSel (y := (⟨"com/example/busca/busca/rank/Accumulator", "add", "(ID)V"⟩ : MethodName)) rfl (ow hw 21 rfl)) (ow hw 21 rfl) (ow hw 20 rfl) (ow hw 2 rfl) (ow hw 22 rfl) (by decide) F_a.exa (ct_addN l Z a0 hw [] n0 a r sc mt n.toNatClampNeg (fun _ => 0) (fun _ => 0) (List.replicate 16 (.int 0)) (0 : Int32) d1 i1.toInt64 h2 F_a A_r A_sc A_mt ne_a_r ne_a_sc ne_a_mt ne_r_sc ne_r_mt ne_sc_mt hd10 hd1n (by simp []) (OB.zero.b53 (by decide)) ((OB.int i1).b53 (by decide)) (by simp) (by decide) (by decide) (by decide)) (o_sfS (List.Mem.tail _ (List.Mem.tail _ (List.Mem.tail _ (List.Mem.head _)))) (o_sfS (List.Mem.tail _ (List.Mem.tail _ (List.Mem.head _))) (o_sfS (List.Mem.tail _ (List.Mem.head _)) (o_sfS (List.Mem.head _) o_sf0)))) (by rw [hml]; rfl) (by decide) (by decide) (argsL := [(.int d1), (.double (FP.l2d i1.toInt64))]) (rest := []) (lenOf pd_1 rfl) rfl rfl (Nat.le_of_eq rfl) (hb hby at_66) (pc' := 69) rfl (by decide) (by decide) ?_
        clear P; intro T h3 v3 P K3 q3
        clear F_a A_r A_sc A_mt; obtain ⟨rfl, F_a, A_r, A_sc, A_mt⟩ := q3; clear K3
        replace F_a : OObj Z h3 a "com/example/busca/busca/rank/Accumulator" [("com/example/busca/busca/rank/Accumulator", "results", "[I", (.ref r)), ("com/example/busca/busca/rank/Accumulator", "scores", "[D", (.ref sc)), ("com/example/busca/busca/rank/Accumulator", "matched", "[Z", (.ref mt)), ("com/example/busca/busca/rank/Accumulator", "size", "I", (.int (1 : Int32)))] := F_a
        show OG p e below m _ T 69 #[.val (.int i0), .val (.int i1), .val (.int i2), .val (.int i3), .val (.int n), .val (.int d1), .val (.int d2), .val (.int d3), .val (.int q), .val (.ref a), .unset, .unset, .unset, .unset, .unset, .unset] []
        refine o_aload P (hb hby at_69) rfl rfl (pc' := 71) rfl ?_
        refine o_iload P (hb hby at_71) rfl (pc' := 73) rfl ?_
        refine o_iloadN P (hb hby at_73) rfl (pc' := 74) rfl ?_
        refine o_i2d P (hb hby at_74) (v := FP.l2d i2.toInt64) (i2d_w i2) (pc' := 75) rfl ?_
        refine o_callV P (W := 0) (x := (⟨"com/example/busca/busca/rank/Accumulator", "add", "(ID)V"⟩ : MethodName)) (y := (⟨"com/example/busca/busca/rank/Accumulator", "add", "(ID)V"⟩ : MethodName)) (a := a) (ow hw 18 rfl) (ow hw 19 rfl) (o_nfSel (y := (⟨"com/example/busca/busca/rank/Accumulator", "add", "(ID)V"⟩ : MethodName)) rfl (ow hw 21 rfl)) (ow hw 21 rfl) (ow hw 20 rfl) (ow hw 2 rfl) (ow hw 22 rfl) (by decide) F_a.exa (ct_addN l Z a0 hw [] n0 a r sc mt n.toNatClampNeg (fun i => if i = d1.toNatClampNeg then (fun _ => 0) i + i1.toInt64 else (fun _ => 0) i) (fun i => if i = d1.toNatClampNeg then 1 else (fun _ => 0) i) ((List.replicate 16 (.int 0)).set ((0 : Int32) : Int32).toNatClampNeg (.int d1)) (1 : Int32) d2 i2.toInt64 h3 F_a A_r A_sc A_mt ne_a_r ne_a_sc ne_a_mt ne_r_sc ne_r_mt ne_sc_mt hd20 hd2n (by simp [x21, h21]) bF1 ((OB.int i2).b53 (by decide)) (by simp) (by decide) (by decide) (by decide)) (o_sfS (List.Mem.tail _ (List.Mem.tail _ (List.Mem.tail _ (List.Mem.head _)))) (o_sfS (List.Mem.tail _ (List.Mem.tail _ (List.Mem.head _))) (o_sfS (List.Mem.tail _ (List.Mem.head _)) (o_sfS (List.Mem.head _) o_sf0)))) (by rw [hml]; rfl) (by decide) (by decide) (argsL := [(.int d2), (.double (FP.l2d i2.toInt64))]) (rest := []) (lenOf pd_1 rfl) rfl rfl (Nat.le_of_eq rfl) (hb hby at_75) (pc' := 78) rfl (by decide) (by decide) ?_
        clear P; intro T h4 v4 P K4 q4
        clear F_a A_r A_sc A_mt; obtain ⟨rfl, F_a, A_r, A_sc, A_mt⟩ := q4; clear K4
        replace F_a : OObj Z h4 a "com/example/busca/busca/rank/Accumulator" [("com/example/busca/busca/rank/Accumulator", "results", "[I", (.ref r)), ("com/example/busca/busca/rank/Accumulator", "scores", "[D", (.ref sc)), ("com/example/busca/busca/rank/Accumulator", "matched", "[Z", (.ref mt)), ("com/example/busca/busca/rank/Accumulator", "size", "I", (.int (2 : Int32)))] := F_a
        show OG p e below m _ T 78 #[.val (.int i0), .val (.int i1), .val (.int i2), .val (.int i3), .val (.int n), .val (.int d1), .val (.int d2), .val (.int d3), .val (.int q), .val (.ref a), .unset, .unset, .unset, .unset, .unset, .unset] []
        refine o_aload P (hb hby at_78) rfl rfl (pc' := 80) rfl ?_
        refine o_iload P (hb hby at_80) rfl (pc' := 82) rfl ?_
        refine o_iloadN P (hb hby at_82) rfl (pc' := 83) rfl ?_
        refine o_i2d P (hb hby at_83) (v := FP.l2d i3.toInt64) (i2d_w i3) (pc' := 84) rfl ?_
        refine o_callV P (W := 0) (x := (⟨"com/example/busca/busca/rank/Accumulator", "add", "(ID)V"⟩ : MethodName)) (y := (⟨"com/example/busca/busca/rank/Accumulator", "add", "(ID)V"⟩ : MethodName)) (a := a) (ow hw 18 rfl) (ow hw 19 rfl) (o_nfSel (y := (⟨"com/example/busca/busca/rank/Accumulator", "add", "(ID)V"⟩ : MethodName)) rfl (ow hw 21 rfl)) (ow hw 21 rfl) (ow hw 20 rfl) (ow hw 2 rfl) (ow hw 22 rfl) (by decide) F_a.exa (ct_addN l Z a0 hw [] n0 a r sc mt n.toNatClampNeg (fun i => if i = d2.toNatClampNeg then (fun i => if i = d1.toNatClampNeg then (fun _ => 0) i + i1.toInt64 else (fun _ => 0) i) i + i2.toInt64 else (fun i => if i = d1.toNatClampNeg then (fun _ => 0) i + i1.toInt64 else (fun _ => 0) i) i) (fun i => if i = d2.toNatClampNeg then 1 else (fun i => if i = d1.toNatClampNeg then 1 else (fun _ => 0) i) i) (((List.replicate 16 (.int 0)).set ((0 : Int32) : Int32).toNatClampNeg (.int d1)).set ((1 : Int32) : Int32).toNatClampNeg (.int d2)) (2 : Int32) d3 i3.toInt64 h4 F_a A_r A_sc A_mt ne_a_r ne_a_sc ne_a_mt ne_r_sc ne_r_mt ne_sc_mt hd30 hd3n (by simp [x31, x32, h31, h32, h21]) bF2 ((OB.int i3).b53 (by decide)) (by simp) (by decide) (by decide) (by decide)) (o_sfS (List.Mem.tail _ (List.Mem.tail _ (List.Mem.tail _ (List.Mem.head _)))) (o_sfS (List.Mem.tail _ (List.Mem.tail _ (List.Mem.head _))) (o_sfS (List.Mem.tail _ (List.Mem.head _)) (o_sfS (List.Mem.head _) o_sf0)))) (by rw [hml]; rfl) (by decide) (by decide) (argsL := [(.int d3), (.double (FP.l2d i3.toInt64))]) (rest := []) (lenOf pd_1 rfl) rfl rfl (Nat.le_of_eq rfl) (hb hby at_84) (pc' := 87) rfl (by decide) (by decide) ?_
        clear P; intro T h5 v5 P K5 q5
        clear F_a A_r A_sc A_mt; obtain ⟨rfl, F_a, A_r, A_sc, A_mt⟩ := q5; clear K5
        replace F_a : OObj Z h5 a "com/example/busca/busca/rank/Accumulator" [("com/example/busca/busca/rank/Accumulator", "results", "[I", (.ref r)), ("com/example/busca/busca/rank/Accumulator", "scores", "[D", (.ref sc)), ("com/example/busca/busca/rank/Accumulator", "matched", "[Z", (.ref mt)), ("com/example/busca/busca/rank/Accumulator", "size", "I", (.int (3 : Int32)))] := F_a
        show OG p e below m _ T 87 #[.val (.int i0), .val (.int i1), .val (.int i2), .val (.int i3), .val (.int n), .val (.int d1), .val (.int d2), .val (.int d3), .val (.int q), .val (.ref a), .unset, .unset, .unset, .unset, .unset, .unset] []
        refine o_iconst P (1 : Int32) (hb hby at_87) rfl (pc' := 88) rfl ?_
        refine o_istore P (hb hby at_88) (L' := #[.val (.int i0), .val (.int i1), .val (.int i2), .val (.int i3), .val (.int n), .val (.int d1), .val (.int d2), .val (.int d3), .val (.int q), .val (.ref a), .val (.int (1 : Int32)), .unset, .unset, .unset, .unset, .unset]) rfl (pc' := 90) rfl ?_
        refine o_iconst P (-1 : Int32) (hb hby at_90) rfl (pc' := 91) rfl ?_
        refine o_istore P (hb hby at_91) (L' := #[.val (.int i0), .val (.int i1), .val (.int i2), .val (.int i3), .val (.int n), .val (.int d1), .val (.int d2), .val (.int d3), .val (.int q), .val (.ref a), .val (.int (1 : Int32)), .val (.int (-1 : Int32)), .unset, .unset, .unset, .unset]) rfl (pc' := 93) rfl ?_
        refine o_iconst P (-1 : Int32) (hb hby at_93) rfl (pc' := 94) rfl ?_
        refine o_istore P (hb hby at_94) (L' := #[.val (.int i0), .val (.int i1), .val (.int i2), .val (.int i3), .val (.int n), .val (.int d1), .val (.int d2), .val (.int d3), .val (.int q), .val (.ref a), .val (.int (1 : Int32)), .val (.int (-1 : Int32)), .val (.int (-1 : Int32)), .unset, .unset, .unset]) rfl (pc' := 96) rfl ?_
        refine o_iload P (hb hby at_96) rfl (pc' := 98) rfl ?_
        refine o_iload P (hb hby at_98) rfl (pc' := 100) rfl ?_
        refine o_icmp_eq P (hb hby at_100) (by decide) (pc' := 110) (by decide) (pcf := 103) rfl (fun q => absurd q h21) (fun _ => ?_)
        refine o_iload P (hb hby at_103) rfl (pc' := 105) rfl ?_
        refine o_istore P (hb hby at_105) (L' := #[.val (.int i0), .val (.int i1), .val (.int i2), .val (.int i3), .val (.int n), .val (.int d1), .val (.int d2), .val (.int d3), .val (.int q), .val (.ref a), .val (.int (1 : Int32)), .val (.int d2), .val (.int (-1 : Int32)), .unset, .unset, .unset]) rfl (pc' := 107) rfl ?_
        refine o_iconst P (2 : Int32) (hb hby at_107) rfl (pc' := 108) rfl ?_
        refine o_istore P (hb hby at_108) (L' := #[.val (.int i0), .val (.int i1), .val (.int i2), .val (.int i3), .val (.int n), .val (.int d1), .val (.int d2), .val (.int d3), .val (.int q), .val (.ref a), .val (.int (2 : Int32)), .val (.int d2), .val (.int (-1 : Int32)), .unset, .unset, .unset]) rfl (pc' := 110) rfl ?_
        refine o_iload P (hb hby at_110) rfl (pc' := 112) rfl ?_
        refine o_iload P (hb hby at_112) rfl (pc' := 114) rfl ?_
        refine o_icmp_eq P (hb hby at_114) (by decide) (pc' := 147) (by decide) (pcf := 117) rfl (fun q => absurd q h31) (fun _ => ?_)
        refine o_iload P (hb hby at_117) rfl (pc' := 119) rfl ?_
        refine o_iload P (hb hby at_119) rfl (pc' := 121) rfl ?_
        refine o_icmp_eq P (hb hby at_121) (by decide) (pc' := 147) (by decide) (pcf := 124) rfl (fun q => absurd q h32) (fun _ => ?_)
        refine o_iload P (hb hby at_124) rfl (pc' := 126) rfl ?_
        refine o_iconst P (1 : Int32) (hb hby at_126) rfl (pc' := 127) rfl ?_
        refine o_icmp_ne P (hb hby at_127) (by decide) (pc' := 137) (by decide) (pcf := 130) rfl (fun _ => ?_) (fun q => absurd q (by decide))
        refine o_iload P (hb hby at_137) rfl (pc' := 139) rfl ?_
        refine o_istore P (hb hby at_139) (L' := #[.val (.int i0), .val (.int i1), .val (.int i2), .val (.int i3), .val (.int n), .val (.int d1), .val (.int d2), .val (.int d3), .val (.int q), .val (.ref a), .val (.int (2 : Int32)), .val (.int d2), .val (.int d3), .unset, .unset, .unset]) rfl (pc' := 141) rfl ?_
        refine o_iload P (hb hby at_141) rfl (pc' := 143) rfl ?_
        refine o_iconst P (1 : Int32) (hb hby at_143) rfl (pc' := 144) rfl ?_
        refine o_iadd P (hb hby at_144) (pc' := 145) rfl ?_
        show OG p e below m _ T 145 #[.val (.int i0), .val (.int i1), .val (.int i2), .val (.int i3), .val (.int n), .val (.int d1), .val (.int d2), .val (.int d3), .val (.int q), .val (.ref a), .val (.int (2 : Int32)), .val (.int d2), .val (.int d3), .unset, .unset, .unset] [(.int (3 : Int32))]
        refine o_istore P (hb hby at_145) (L' := #[.val (.int i0), .val (.int i1), .val (.int i2), .val (.int i3), .val (.int n), .val (.int d1), .val (.int d2), .val (.int d3), .val (.int q), .val (.ref a), .val (.int (3 : Int32)), .val (.int d2), .val (.int d3), .unset, .unset, .unset]) rfl (pc' := 147) rfl ?_
        refine o_aload P (hb hby at_147) rfl rfl (pc' := 149) rfl ?_
        refine o_callV P (W := 0) (x := (⟨"com/example/busca/busca/rank/Accumulator", "resultCount", "()I"⟩ : MethodName)) (y := (⟨"com/example/busca/busca/rank/Accumulator", "resultCount", "()I"⟩ : MethodName)) (a := a) (ow hw 25 rfl) (ow hw 26 rfl) (o_nfSel (y := (⟨"com/example/busca/busca/rank/Accumulator", "resultCount", "()I"⟩ : MethodName)) rfl (ow hw 28 rfl)) (ow hw 28 rfl) (ow hw 27 rfl) (ow hw 2 rfl) (ow hw 29 rfl) (by decide) F_a.exa (ct_count l Z a0 hw [] n0 a r sc mt (3 : Int32) h5 F_a) o_sf0 (by rw [hml]; rfl) (by decide) (by decide) (argsL := []) (rest := []) (lenOf pd_2 rfl) rfl rfl (Nat.le_of_eq rfl) (hb hby at_149) (pc' := 152) rfl (by decide) (by decide) ?_
        clear P; intro T h6 v6 P K6 q6
        obtain ⟨rfl, rfl⟩ := q6; clear K6
        show OG p e below m _ T 152 #[.val (.int i0), .val (.int i1), .val (.int i2), .val (.int i3), .val (.int n), .val (.int d1), .val (.int d2), .val (.int d3), .val (.int q), .val (.ref a), .val (.int (3 : Int32)), .val (.int d2), .val (.int d3), .unset, .unset, .unset] [(.int (3 : Int32))]
        refine o_iload P (hb hby at_152) rfl (pc' := 154) rfl ?_
        refine o_icmp_ne P (hb hby at_154) (by decide) (pc' := 161) (by decide) (pcf := 157) rfl (fun q => absurd (by decide) q) (fun _ => ?_)
        refine o_iconst P (1 : Int32) (hb hby at_157) rfl (pc' := 158) rfl ?_
        refine o_goto P (hb hby at_158) (by decide) (pc' := 162) (by decide) ?_
        refine o_istore P (hb hby at_162) (L' := #[.val (.int i0), .val (.int i1), .val (.int i2), .val (.int i3), .val (.int n), .val (.int d1), .val (.int d2), .val (.int d3), .val (.int q), .val (.ref a), .val (.int (3 : Int32)), .val (.int d2), .val (.int d3), .val (.int (1 : Int32)), .unset, .unset]) rfl (pc' := 164) rfl ?_
        refine o_iload P (hb hby at_164) rfl (pc' := 166) rfl ?_
        refine o_if_eq P (hb hby at_166) (by decide) (pc' := 184) (by decide) (pcf := 169) rfl (fun q => absurd q (by decide)) (fun _ => ?_)
        refine o_aload P (hb hby at_169) rfl rfl (pc' := 171) rfl ?_
        refine o_iconst P (0 : Int32) (hb hby at_171) rfl (pc' := 172) rfl ?_
        refine o_callV P (W := 0) (x := (⟨"com/example/busca/busca/rank/Accumulator", "result", "(I)I"⟩ : MethodName)) (y := (⟨"com/example/busca/busca/rank/Accumulator", "result", "(I)I"⟩ : MethodName)) (a := a) (ow hw 30 rfl) (ow hw 31 rfl) (o_nfSel (y := (⟨"com/example/busca/busca/rank/Accumulator", "result", "(I)I"⟩ : MethodName)) rfl (ow hw 33 rfl)) (ow hw 33 rfl) (ow hw 32 rfl) (ow hw 2 rfl) (ow hw 34 rfl) (by decide) F_a.exa (ct_result l Z a0 hw [] n0 a r sc mt (3 : Int32) (0 : Int32) d1 ((((List.replicate 16 (.int 0)).set ((0 : Int32) : Int32).toNatClampNeg (.int d1)).set ((1 : Int32) : Int32).toNatClampNeg (.int d2)).set ((2 : Int32) : Int32).toNatClampNeg (.int d3)) h6 F_a A_r (by decide) rfl) o_sf0 (by rw [hml]; rfl) (by decide) (by decide) (argsL := [(.int (0 : Int32))]) (rest := []) (lenOf pd_3 rfl) rfl rfl (Nat.le_of_eq rfl) (hb hby at_172) (pc' := 175) rfl (by decide) (by decide) ?_
        clear P; intro T h7 v7 P K7 q7
        obtain ⟨rfl, rfl⟩ := q7; clear K7
        show OG p e below m _ T 175 #[.val (.int i0), .val (.int i1), .val (.int i2), .val (.int i3), .val (.int n), .val (.int d1), .val (.int d2), .val (.int d3), .val (.int q), .val (.ref a), .val (.int (3 : Int32)), .val (.int d2), .val (.int d3), .val (.int (1 : Int32)), .unset, .unset] [(.int d1)]
        refine o_iload P (hb hby at_175) rfl (pc' := 177) rfl ?_
        refine o_icmp_ne P (hb hby at_177) (by decide) (pc' := 184) (by decide) (pcf := 180) rfl (fun q => absurd rfl q) (fun _ => ?_)
        refine o_iconst P (1 : Int32) (hb hby at_180) rfl (pc' := 181) rfl ?_
        refine o_goto P (hb hby at_181) (by decide) (pc' := 185) (by decide) ?_
        refine o_istore P (hb hby at_185) (L' := #[.val (.int i0), .val (.int i1), .val (.int i2), .val (.int i3), .val (.int n), .val (.int d1), .val (.int d2), .val (.int d3), .val (.int q), .val (.ref a), .val (.int (3 : Int32)), .val (.int d2), .val (.int d3), .val (.int (1 : Int32)), .unset, .unset]) rfl (pc' := 187) rfl ?_
        refine o_iload P (hb hby at_187) rfl (pc' := 189) rfl ?_
        refine o_iconst P (2 : Int32) (hb hby at_189) rfl (pc' := 190) rfl ?_
        refine o_icmp_lt P (hb hby at_190) (by decide) (pc' := 216) (by decide) (pcf := 193) rfl (fun q => absurd q (by decide)) (fun _ => ?_)
        refine o_iload P (hb hby at_193) rfl (pc' := 195) rfl ?_
        refine o_if_eq P (hb hby at_195) (by decide) (pc' := 213) (by decide) (pcf := 198) rfl (fun q => absurd q (by decide)) (fun _ => ?_)
        refine o_aload P (hb hby at_198) rfl rfl (pc' := 200) rfl ?_
        refine o_iconst P (1 : Int32) (hb hby at_200) rfl (pc' := 201) rfl ?_
        refine o_callV P (W := 0) (x := (⟨"com/example/busca/busca/rank/Accumulator", "result", "(I)I"⟩ : MethodName)) (y := (⟨"com/example/busca/busca/rank/Accumulator", "result", "(I)I"⟩ : MethodName)) (a := a) (ow hw 30 rfl) (ow hw 31 rfl) (o_nfSel (y := (⟨"com/example/busca/busca/rank/Accumulator", "result", "(I)I"⟩ : MethodName)) rfl (ow hw 33 rfl)) (ow hw 33 rfl) (ow hw 32 rfl) (ow hw 2 rfl) (ow hw 34 rfl) (by decide) F_a.exa (ct_result l Z a0 hw [] n0 a r sc mt (3 : Int32) (1 : Int32) d2 ((((List.replicate 16 (.int 0)).set ((0 : Int32) : Int32).toNatClampNeg (.int d1)).set ((1 : Int32) : Int32).toNatClampNeg (.int d2)).set ((2 : Int32) : Int32).toNatClampNeg (.int d3)) h7 F_a A_r (by decide) rfl) o_sf0 (by rw [hml]; rfl) (by decide) (by decide) (argsL := [(.int (1 : Int32))]) (rest := []) (lenOf pd_3 rfl) rfl rfl (Nat.le_of_eq rfl) (hb hby at_201) (pc' := 204) rfl (by decide) (by decide) ?_
        clear P; intro T h8 v8 P K8 q8
        obtain ⟨rfl, rfl⟩ := q8; clear K8
        show OG p e below m _ T 204 #[.val (.int i0), .val (.int i1), .val (.int i2), .val (.int i3), .val (.int n), .val (.int d1), .val (.int d2), .val (.int d3), .val (.int q), .val (.ref a), .val (.int (3 : Int32)), .val (.int d2), .val (.int d3), .val (.int (1 : Int32)), .unset, .unset] [(.int d2)]
        refine o_iload P (hb hby at_204) rfl (pc' := 206) rfl ?_
        refine o_icmp_ne P (hb hby at_206) (by decide) (pc' := 213) (by decide) (pcf := 209) rfl (fun q => absurd rfl q) (fun _ => ?_)
        refine o_iconst P (1 : Int32) (hb hby at_209) rfl (pc' := 210) rfl ?_
        refine o_goto P (hb hby at_210) (by decide) (pc' := 214) (by decide) ?_
        refine o_istore P (hb hby at_214) (L' := #[.val (.int i0), .val (.int i1), .val (.int i2), .val (.int i3), .val (.int n), .val (.int d1), .val (.int d2), .val (.int d3), .val (.int q), .val (.ref a), .val (.int (3 : Int32)), .val (.int d2), .val (.int d3), .val (.int (1 : Int32)), .unset, .unset]) rfl (pc' := 216) rfl ?_
        refine o_iload P (hb hby at_216) rfl (pc' := 218) rfl ?_
        refine o_iconst P (3 : Int32) (hb hby at_218) rfl (pc' := 219) rfl ?_
        refine o_icmp_lt P (hb hby at_219) (by decide) (pc' := 245) (by decide) (pcf := 222) rfl (fun q => absurd q (by decide)) (fun _ => ?_)
        refine o_iload P (hb hby at_222) rfl (pc' := 224) rfl ?_
        refine o_if_eq P (hb hby at_224) (by decide) (pc' := 242) (by decide) (pcf := 227) rfl (fun q => absurd q (by decide)) (fun _ => ?_)
        refine o_aload P (hb hby at_227) rfl rfl (pc' := 229) rfl ?_
        refine o_iconst P (2 : Int32) (hb hby at_229) rfl (pc' := 230) rfl ?_
        refine o_callV P (W := 0) (x := (⟨"com/example/busca/busca/rank/Accumulator", "result", "(I)I"⟩ : MethodName)) (y := (⟨"com/example/busca/busca/rank/Accumulator", "result", "(I)I"⟩ : MethodName)) (a := a) (ow hw 30 rfl) (ow hw 31 rfl) (o_nfSel (y := (⟨"com/example/busca/busca/rank/Accumulator", "result", "(I)I"⟩ : MethodName)) rfl (ow hw 33 rfl)) (ow hw 33 rfl) (ow hw 32 rfl) (ow hw 2 rfl) (ow hw 34 rfl) (by decide) F_a.exa (ct_result l Z a0 hw [] n0 a r sc mt (3 : Int32) (2 : Int32) d3 ((((List.replicate 16 (.int 0)).set ((0 : Int32) : Int32).toNatClampNeg (.int d1)).set ((1 : Int32) : Int32).toNatClampNeg (.int d2)).set ((2 : Int32) : Int32).toNatClampNeg (.int d3)) h8 F_a A_r (by decide) rfl) o_sf0 (by rw [hml]; rfl) (by decide) (by decide) (argsL := [(.int (2 : Int32))]) (rest := []) (lenOf pd_3 rfl) rfl rfl (Nat.le_of_eq rfl) (hb hby at_230) (pc' := 233) rfl (by decide) (by decide) ?_
        clear P; intro T h9 v9 P K9 q9
        obtain ⟨rfl, rfl⟩ := q9; clear K9
        show OG p e below m _ T 233 #[.val (.int i0), .val (.int i1), .val (.int i2), .val (.int i3), .val (.int n), .val (.int d1), .val (.int d2), .val (.int d3), .val (.int q), .val (.ref a), .val (.int (3 : Int32)), .val (.int d2), .val (.int d3), .val (.int (1 : Int32)), .unset, .unset] [(.int d3)]
        refine o_iload P (hb hby at_233) rfl (pc' := 235) rfl ?_
        refine o_icmp_ne P (hb hby at_235) (by decide) (pc' := 242) (by decide) (pcf := 238) rfl (fun q => absurd rfl q) (fun _ => ?_)
        refine o_iconst P (1 : Int32) (hb hby at_238) rfl (pc' := 239) rfl ?_
        refine o_goto P (hb hby at_239) (by decide) (pc' := 243) (by decide) ?_
        refine o_istore P (hb hby at_243) (L' := #[.val (.int i0), .val (.int i1), .val (.int i2), .val (.int i3), .val (.int n), .val (.int d1), .val (.int d2), .val (.int d3), .val (.int q), .val (.ref a), .val (.int (3 : Int32)), .val (.int d2), .val (.int d3), .val (.int (1 : Int32)), .unset, .unset]) rfl (pc' := 245) rfl ?_
        refine o_dconst0 P (hb hby at_245) (v := FP.l2d 0) (by rw [l2d_zero]; rfl) (pc' := 246) rfl ?_
        refine o_dstore P (hb hby at_246) (L' := #[.val (.int i0), .val (.int i1), .val (.int i2), .val (.int i3), .val (.int n), .val (.int d1), .val (.int d2), .val (.int d3), .val (.int q), .val (.ref a), .val (.int (3 : Int32)), .val (.int d2), .val (.int d3), .val (.int (1 : Int32)), .val (.double (FP.l2d 0)), .second]) rfl (pc' := 248) rfl ?_
        refine o_dload P (hb hby at_248) rfl (pc' := 250) rfl ?_
        refine o_iload P (hb hby at_250) rfl (pc' := 252) rfl ?_
        refine o_iload P (hb hby at_252) rfl (pc' := 254) rfl ?_
        refine o_iloadN P (hb hby at_254) rfl (pc' := 255) rfl ?_
        refine o_callS P (W := 2) (ow hw 35 rfl) (ow hw 36 rfl) (ow hw 37 rfl) (ow hw 38 rfl) (by decide) (ct_part l Z a0 hw [] n0 d1 q i1 h9) o_sf0 (by rw [hml]; rfl) (by decide) (by decide) (argsL := [(.int d1), (.int q), (.int i1)]) (rest := [(.double (FP.l2d 0))]) (lenOf pd_4 rfl) rfl rfl (Nat.le_of_eq rfl) (hb hby at_255) (pc' := 258) rfl (by decide) (by decide) ?_
        clear P; intro T h10 v10 P K10 q10
        obtain ⟨rfl, rfl⟩ := q10; clear K10
        show OG p e below m _ T 258 #[.val (.int i0), .val (.int i1), .val (.int i2), .val (.int i3), .val (.int n), .val (.int d1), .val (.int d2), .val (.int d3), .val (.int q), .val (.ref a), .val (.int (3 : Int32)), .val (.int d2), .val (.int d3), .val (.int (1 : Int32)), .val (.double (FP.l2d 0)), .second] [(.double (FP.l2d (if d1 = q then i1.toInt64 else 0))), (.double (FP.l2d 0))]
        refine o_dadd P (hb hby at_258) (nn_w (dadd_w (t0.b53 (by decide)) ((OB.ite i1).b53 (by decide)))) (dadd_w (t0.b53 (by decide)) ((OB.ite i1).b53 (by decide))) (pc' := 259) rfl ?_
        refine o_dstore P (hb hby at_259) (L' := #[.val (.int i0), .val (.int i1), .val (.int i2), .val (.int i3), .val (.int n), .val (.int d1), .val (.int d2), .val (.int d3), .val (.int q), .val (.ref a), .val (.int (3 : Int32)), .val (.int d2), .val (.int d3), .val (.int (1 : Int32)), .val (.double (FP.l2d (0 + (if d1 = q then i1.toInt64 else 0)))), .second]) rfl (pc' := 261) rfl ?_
        refine o_dload P (hb hby at_261) rfl (pc' := 263) rfl ?_
        refine o_iload P (hb hby at_263) rfl (pc' := 265) rfl ?_
        refine o_iload P (hb hby at_265) rfl (pc' := 267) rfl ?_
        refine o_iloadN P (hb hby at_267) rfl (pc' := 268) rfl ?_
        refine o_callS P (W := 2) (ow hw 35 rfl) (ow hw 36 rfl) (ow hw 37 rfl) (ow hw 38 rfl) (by decide) (ct_part l Z a0 hw [] n0 d2 q i2 h10) o_sf0 (by rw [hml]; rfl) (by decide) (by decide) (argsL := [(.int d2), (.int q), (.int i2)]) (rest := [(.double (FP.l2d (0 + (if d1 = q then i1.toInt64 else 0))))]) (lenOf pd_4 rfl) rfl rfl (Nat.le_of_eq rfl) (hb hby at_268) (pc' := 271) rfl (by decide) (by decide) ?_
        clear P; intro T h11 v11 P K11 q11
        obtain ⟨rfl, rfl⟩ := q11; clear K11
        show OG p e below m _ T 271 #[.val (.int i0), .val (.int i1), .val (.int i2), .val (.int i3), .val (.int n), .val (.int d1), .val (.int d2), .val (.int d3), .val (.int q), .val (.ref a), .val (.int (3 : Int32)), .val (.int d2), .val (.int d3), .val (.int (1 : Int32)), .val (.double (FP.l2d (0 + (if d1 = q then i1.toInt64 else 0)))), .second] [(.double (FP.l2d (if d2 = q then i2.toInt64 else 0))), (.double (FP.l2d (0 + (if d1 = q then i1.toInt64 else 0))))]
        refine o_dadd P (hb hby at_271) (nn_w (dadd_w (t1.b53 (by decide)) ((OB.ite i2).b53 (by decide)))) (dadd_w (t1.b53 (by decide)) ((OB.ite i2).b53 (by decide))) (pc' := 272) rfl ?_
        refine o_dstore P (hb hby at_272) (L' := #[.val (.int i0), .val (.int i1), .val (.int i2), .val (.int i3), .val (.int n), .val (.int d1), .val (.int d2), .val (.int d3), .val (.int q), .val (.ref a), .val (.int (3 : Int32)), .val (.int d2), .val (.int d3), .val (.int (1 : Int32)), .val (.double (FP.l2d ((0 + (if d1 = q then i1.toInt64 else 0)) + (if d2 = q then i2.toInt64 else 0)))), .second]) rfl (pc' := 274) rfl ?_
        refine o_dload P (hb hby at_274) rfl (pc' := 276) rfl ?_
        refine o_iload P (hb hby at_276) rfl (pc' := 278) rfl ?_
        refine o_iload P (hb hby at_278) rfl (pc' := 280) rfl ?_
        refine o_iloadN P (hb hby at_280) rfl (pc' := 281) rfl ?_
        refine o_callS P (W := 2) (ow hw 35 rfl) (ow hw 36 rfl) (ow hw 37 rfl) (ow hw 38 rfl) (by decide) (ct_part l Z a0 hw [] n0 d3 q i3 h11) o_sf0 (by rw [hml]; rfl) (by decide) (by decide) (argsL := [(.int d3), (.int q), (.int i3)]) (rest := [(.double (FP.l2d ((0 + (if d1 = q then i1.toInt64 else 0)) + (if d2 = q then i2.toInt64 else 0))))]) (lenOf pd_4 rfl) rfl rfl (Nat.le_of_eq rfl) (hb hby at_281) (pc' := 284) rfl (by decide) (by decide) ?_
        clear P; intro T h12 v12 P K12 q12
        obtain ⟨rfl, rfl⟩ := q12; clear K12
        show OG p e below m _ T 284 #[.val (.int i0), .val (.int i1), .val (.int i2), .val (.int i3), .val (.int n), .val (.int d1), .val (.int d2), .val (.int d3), .val (.int q), .val (.ref a), .val (.int (3 : Int32)), .val (.int d2), .val (.int d3), .val (.int (1 : Int32)), .val (.double (FP.l2d ((0 + (if d1 = q then i1.toInt64 else 0)) + (if d2 = q then i2.toInt64 else 0)))), .second] [(.double (FP.l2d (if d3 = q then i3.toInt64 else 0))), (.double (FP.l2d ((0 + (if d1 = q then i1.toInt64 else 0)) + (if d2 = q then i2.toInt64 else 0))))]
        refine o_dadd P (hb hby at_284) (nn_w (dadd_w (t2.b53 (by decide)) ((OB.ite i3).b53 (by decide)))) (dadd_w (t2.b53 (by decide)) ((OB.ite i3).b53 (by decide))) (pc' := 285) rfl ?_
        refine o_dstore P (hb hby at_285) (L' := #[.val (.int i0), .val (.int i1), .val (.int i2), .val (.int i3), .val (.int n), .val (.int d1), .val (.int d2), .val (.int d3), .val (.int q), .val (.ref a), .val (.int (3 : Int32)), .val (.int d2), .val (.int d3), .val (.int (1 : Int32)), .val (.double (FP.l2d (((0 + (if d1 = q then i1.toInt64 else 0)) + (if d2 = q then i2.toInt64 else 0)) + (if d3 = q then i3.toInt64 else 0)))), .second]) rfl (pc' := 287) rfl ?_
        refine o_iload P (hb hby at_287) rfl (pc' := 289) rfl ?_
        refine o_if_eq P (hb hby at_289) (by decide) (pc' := 309) (by decide) (pcf := 292) rfl (fun q => absurd q (by decide)) (fun _ => ?_)
        refine o_aload P (hb hby at_292) rfl rfl (pc' := 294) rfl ?_
        refine o_iload P (hb hby at_294) rfl (pc' := 296) rfl ?_
        refine o_callV P (W := 0) (x := (⟨"com/example/busca/busca/rank/Accumulator", "score", "(I)D"⟩ : MethodName)) (y := (⟨"com/example/busca/busca/rank/Accumulator", "score", "(I)D"⟩ : MethodName)) (a := a) (ow hw 39 rfl) (ow hw 40 rfl) (o_nfSel (y := (⟨"com/example/busca/busca/rank/Accumulator", "score", "(I)D"⟩ : MethodName)) rfl (ow hw 42 rfl)) (ow hw 42 rfl) (ow hw 41 rfl) (ow hw 2 rfl) (ow hw 43 rfl) (by decide) F_a.exa (ct_score l Z a0 hw [] n0 a r sc mt (3 : Int32) q (FP.l2d ((fun i => if i = d3.toNatClampNeg then (fun i => if i = d2.toNatClampNeg then (fun i => if i = d1.toNatClampNeg then (fun _ => 0) i + i1.toInt64 else (fun _ => 0) i) i + i2.toInt64 else (fun i => if i = d1.toNatClampNeg then (fun _ => 0) i + i1.toInt64 else (fun _ => 0) i) i) i + i3.toInt64 else (fun i => if i = d2.toNatClampNeg then (fun i => if i = d1.toNatClampNeg then (fun _ => 0) i + i1.toInt64 else (fun _ => 0) i) i + i2.toInt64 else (fun i => if i = d1.toNatClampNeg then (fun _ => 0) i + i1.toInt64 else (fun _ => 0) i) i) i) q.toNatClampNeg)) _ h12 F_a A_sc hq0 (own_get hqn rfl)) o_sf0 (by rw [hml]; rfl) (by decide) (by decide) (argsL := [(.int q)]) (rest := []) (lenOf pd_5 rfl) rfl rfl (Nat.le_of_eq rfl) (hb hby at_296) (pc' := 299) rfl (by decide) (by decide) ?_
        clear P; intro T h13 v13 P K13 q13
        obtain ⟨rfl, rfl⟩ := q13; clear K13
        show OG p e below m _ T 299 #[.val (.int i0), .val (.int i1), .val (.int i2), .val (.int i3), .val (.int n), .val (.int d1), .val (.int d2), .val (.int d3), .val (.int q), .val (.ref a), .val (.int (3 : Int32)), .val (.int d2), .val (.int d3), .val (.int (1 : Int32)), .val (.double (FP.l2d (((0 + (if d1 = q then i1.toInt64 else 0)) + (if d2 = q then i2.toInt64 else 0)) + (if d3 = q then i3.toInt64 else 0)))), .second] [(.double (FP.l2d ((fun i => if i = d3.toNatClampNeg then (fun i => if i = d2.toNatClampNeg then (fun i => if i = d1.toNatClampNeg then (fun _ => 0) i + i1.toInt64 else (fun _ => 0) i) i + i2.toInt64 else (fun i => if i = d1.toNatClampNeg then (fun _ => 0) i + i1.toInt64 else (fun _ => 0) i) i) i + i3.toInt64 else (fun i => if i = d2.toNatClampNeg then (fun i => if i = d1.toNatClampNeg then (fun _ => 0) i + i1.toInt64 else (fun _ => 0) i) i + i2.toInt64 else (fun i => if i = d1.toNatClampNeg then (fun _ => 0) i + i1.toInt64 else (fun _ => 0) i) i) i) q.toNatClampNeg)))]
        refine o_dload P (hb hby at_299) rfl (pc' := 301) rfl ?_
        refine o_dcmp P (hb hby at_301) (v := (0 : Int32)) (dcmpV_eq (congrArg FP.l2d (show (fun i => if i = d3.toNatClampNeg then (fun i => if i = d2.toNatClampNeg then (fun i => if i = d1.toNatClampNeg then (fun _ => 0) i + i1.toInt64 else (fun _ => 0) i) i + i2.toInt64 else (fun i => if i = d1.toNatClampNeg then (fun _ => 0) i + i1.toInt64 else (fun _ => 0) i) i) i + i3.toInt64 else (fun i => if i = d2.toNatClampNeg then (fun i => if i = d1.toNatClampNeg then (fun _ => 0) i + i1.toInt64 else (fun _ => 0) i) i + i2.toInt64 else (fun i => if i = d1.toNatClampNeg then (fun _ => 0) i + i1.toInt64 else (fun _ => 0) i) i) i) q.toNatClampNeg = (((0 + (if d1 = q then i1.toInt64 else 0)) + (if d2 = q then i2.toInt64 else 0)) + (if d3 = q then i3.toInt64 else 0)) from by simp only [show ((q.toNatClampNeg = d1.toNatClampNeg) = (d1 = q)) from hx1, show ((q.toNatClampNeg = d2.toNatClampNeg) = (d2 = q)) from hx2, show ((q.toNatClampNeg = d3.toNatClampNeg) = (d3 = q)) from hx3]; split <;> split <;> split <;> simp)) (l2d_fin _).noNaN .l) (pc' := 302) rfl ?_
        refine o_if_ne P (hb hby at_302) (by decide) (pc' := 309) (by decide) (pcf := 305) rfl (fun q => absurd (by decide) q) (fun _ => ?_)
        refine o_iconst P (1 : Int32) (hb hby at_305) rfl (pc' := 306) rfl ?_
        refine o_goto P (hb hby at_306) (by decide) (pc' := 310) (by decide) ?_
        refine o_istore P (hb hby at_310) (L' := #[.val (.int i0), .val (.int i1), .val (.int i2), .val (.int i3), .val (.int n), .val (.int d1), .val (.int d2), .val (.int d3), .val (.int q), .val (.ref a), .val (.int (3 : Int32)), .val (.int d2), .val (.int d3), .val (.int (1 : Int32)), .val (.double (FP.l2d (((0 + (if d1 = q then i1.toInt64 else 0)) + (if d2 = q then i2.toInt64 else 0)) + (if d3 = q then i3.toInt64 else 0)))), .second]) rfl (pc' := 312) rfl ?_
        refine o_iload P (hb hby at_312) rfl (pc' := 314) rfl ?_
        exact o_retI P hret (by simp) rfl (hb hby at_314) (by decide) (by decide) rfl
def ONn (n : Int32) : Prop := ¬ n < 0 ∧ 0 < n.toInt ∧ n.toNatClampNeg ≤ 4
theorem own_n (y : Int32) (h : 0 ≤ y.toInt ∧ y.toInt ≤ 3) : ONn ((1 : Int32) + y) := by
  have e := c_iadd 1 y
  have r := rng32 ((1 : Int32) + y)
  have : (1 : Int32).toInt = 1 := rfl
  have : (0 : Int32).toInt = 0 := rfl
  refine ⟨fun q => ?_, by omega, ?_⟩
  · rw [Int32.lt_iff_toInt_lt] at q; omega
  · simp only [Int32.toNatClampNeg]; omega
theorem own_rem {n : Int32} (hn : ONn n) (x : Int32) (hx : 0 ≤ x.toInt ∧ x.toInt ≤ (3 : Int32).toInt) : (¬ x % n < 0) ∧ (x % n).toNatClampNeg < n.toNatClampNeg := by
  have q := (c_iremV x n).1 hx.1 hn.2.1
  have : (0 : Int32).toInt = 0 := rfl
  refine ⟨fun r => ?_, ?_⟩
  · rw [Int32.lt_iff_toInt_lt] at r; omega
  · simp only [Int32.toNatClampNeg]; omega
set_option maxRecDepth 65536 in
set_option maxHeartbeats 40000000 in
theorem rm0 (l : Launch) (Z : State) (a0 : Array Value) (hw : ∀ d ∈ tables_1, d.before a0 Z = true) (n0 : Nat) (i0 i1 i2 i3 : Int32) (h0 : Heap) :
    OCt l Z a0 [] n0 x code maxLocals ret room_1 tables_1 #[.int i0, .int i1, .int i2, .int i3] h0 [] (fun w vm h => w = some (.int 1)) := by
  refine OCt.body (plainFor_of_name pn_L) (ef_0 i0 i1 i2 i3) ?_
  intro p e s m below meth c T hby hml hret hnm hsh P
  have hn : ONn ((1 : Int32) + (((i0.toUInt32 >>> ((8 : Int32) &&& 31).toUInt32).toInt32) &&& (3 : Int32))) := own_n _ (c_and _ 3 (by decide))
  have hnz : ((1 : Int32) + (((i0.toUInt32 >>> ((8 : Int32) &&& 31).toUInt32).toInt32) &&& (3 : Int32))) ≠ 0 := fun q => by have h1 := hn.2.1; rw [q] at h1; exact absurd h1 (by decide)
  refine o_iconst P (1 : Int32) (hb hby at_0) rfl (pc' := 1) rfl ?_
  refine o_iloadN P (hb hby at_1) rfl (pc' := 2) rfl ?_
  refine o_bipush P (8 : Int32) (hb hby at_2) rfl (pc' := 4) rfl ?_
  refine o_iushr P (hb hby at_4) (pc' := 5) rfl ?_
  refine o_iconst P (3 : Int32) (hb hby at_5) rfl (pc' := 6) rfl ?_
  refine o_iand P (hb hby at_6) (pc' := 7) rfl ?_
  refine o_iadd P (hb hby at_7) (pc' := 8) rfl ?_
  refine o_istore P (hb hby at_8) (L' := #[.val (.int i0), .val (.int i1), .val (.int i2), .val (.int i3), .val (.int ((1 : Int32) + (((i0.toUInt32 >>> ((8 : Int32) &&& 31).toUInt32).toInt32) &&& (3 : Int32)))), .unset, .unset, .unset, .unset, .unset, .unset, .unset, .unset, .unset, .unset, .unset]) rfl (pc' := 10) rfl ?_
  refine o_iloadN P (hb hby at_10) rfl (pc' := 11) rfl ?_
  refine o_iconst P (3 : Int32) (hb hby at_11) rfl (pc' := 12) rfl ?_
  refine o_iand P (hb hby at_12) (pc' := 13) rfl ?_
  refine o_iload P (hb hby at_13) rfl (pc' := 15) rfl ?_
  refine o_irem P (hb hby at_15) hnz (pc' := 16) rfl ?_
  refine o_istore P (hb hby at_16) (L' := #[.val (.int i0), .val (.int i1), .val (.int i2), .val (.int i3), .val (.int ((1 : Int32) + (((i0.toUInt32 >>> ((8 : Int32) &&& 31).toUInt32).toInt32) &&& (3 : Int32)))), .val (.int ((i0 &&& (3 : Int32)) % ((1 : Int32) + (((i0.toUInt32 >>> ((8 : Int32) &&& 31).toUInt32).toInt32) &&& (3 : Int32))))), .unset, .unset, .unset, .unset, .unset, .unset, .unset, .unset, .unset, .unset]) rfl (pc' := 18) rfl ?_
  refine o_iloadN P (hb hby at_18) rfl (pc' := 19) rfl ?_
  refine o_iconst P (2 : Int32) (hb hby at_19) rfl (pc' := 20) rfl ?_
  refine o_iushr P (hb hby at_20) (pc' := 21) rfl ?_
  refine o_iconst P (3 : Int32) (hb hby at_21) rfl (pc' := 22) rfl ?_
  refine o_iand P (hb hby at_22) (pc' := 23) rfl ?_
  refine o_iload P (hb hby at_23) rfl (pc' := 25) rfl ?_
  refine o_irem P (hb hby at_25) hnz (pc' := 26) rfl ?_
  refine o_istore P (hb hby at_26) (L' := #[.val (.int i0), .val (.int i1), .val (.int i2), .val (.int i3), .val (.int ((1 : Int32) + (((i0.toUInt32 >>> ((8 : Int32) &&& 31).toUInt32).toInt32) &&& (3 : Int32)))), .val (.int ((i0 &&& (3 : Int32)) % ((1 : Int32) + (((i0.toUInt32 >>> ((8 : Int32) &&& 31).toUInt32).toInt32) &&& (3 : Int32))))), .val (.int ((((i0.toUInt32 >>> ((2 : Int32) &&& 31).toUInt32).toInt32) &&& (3 : Int32)) % ((1 : Int32) + (((i0.toUInt32 >>> ((8 : Int32) &&& 31).toUInt32).toInt32) &&& (3 : Int32))))), .unset, .unset, .unset, .unset, .unset, .unset, .unset, .unset, .unset]) rfl (pc' := 28) rfl ?_
  refine o_iloadN P (hb hby at_28) rfl (pc' := 29) rfl ?_
  refine o_iconst P (4 : Int32) (hb hby at_29) rfl (pc' := 30) rfl ?_
  refine o_iushr P (hb hby at_30) (pc' := 31) rfl ?_
  refine o_iconst P (3 : Int32) (hb hby at_31) rfl (pc' := 32) rfl ?_
  refine o_iand P (hb hby at_32) (pc' := 33) rfl ?_
  refine o_iload P (hb hby at_33) rfl (pc' := 35) rfl ?_
  refine o_irem P (hb hby at_35) hnz (pc' := 36) rfl ?_
  refine o_istore P (hb hby at_36) (L' := #[.val (.int i0), .val (.int i1), .val (.int i2), .val (.int i3), .val (.int ((1 : Int32) + (((i0.toUInt32 >>> ((8 : Int32) &&& 31).toUInt32).toInt32) &&& (3 : Int32)))), .val (.int ((i0 &&& (3 : Int32)) % ((1 : Int32) + (((i0.toUInt32 >>> ((8 : Int32) &&& 31).toUInt32).toInt32) &&& (3 : Int32))))), .val (.int ((((i0.toUInt32 >>> ((2 : Int32) &&& 31).toUInt32).toInt32) &&& (3 : Int32)) % ((1 : Int32) + (((i0.toUInt32 >>> ((8 : Int32) &&& 31).toUInt32).toInt32) &&& (3 : Int32))))), .val (.int ((((i0.toUInt32 >>> ((4 : Int32) &&& 31).toUInt32).toInt32) &&& (3 : Int32)) % ((1 : Int32) + (((i0.toUInt32 >>> ((8 : Int32) &&& 31).toUInt32).toInt32) &&& (3 : Int32))))), .unset, .unset, .unset, .unset, .unset, .unset, .unset, .unset]) rfl (pc' := 38) rfl ?_
  refine o_iloadN P (hb hby at_38) rfl (pc' := 39) rfl ?_
  refine o_bipush P (6 : Int32) (hb hby at_39) rfl (pc' := 41) rfl ?_
  refine o_iushr P (hb hby at_41) (pc' := 42) rfl ?_
  refine o_iconst P (3 : Int32) (hb hby at_42) rfl (pc' := 43) rfl ?_
  refine o_iand P (hb hby at_43) (pc' := 44) rfl ?_
  refine o_iload P (hb hby at_44) rfl (pc' := 46) rfl ?_
  refine o_irem P (hb hby at_46) hnz (pc' := 47) rfl ?_
  refine o_istore P (hb hby at_47) (L' := #[.val (.int i0), .val (.int i1), .val (.int i2), .val (.int i3), .val (.int ((1 : Int32) + (((i0.toUInt32 >>> ((8 : Int32) &&& 31).toUInt32).toInt32) &&& (3 : Int32)))), .val (.int ((i0 &&& (3 : Int32)) % ((1 : Int32) + (((i0.toUInt32 >>> ((8 : Int32) &&& 31).toUInt32).toInt32) &&& (3 : Int32))))), .val (.int ((((i0.toUInt32 >>> ((2 : Int32) &&& 31).toUInt32).toInt32) &&& (3 : Int32)) % ((1 : Int32) + (((i0.toUInt32 >>> ((8 : Int32) &&& 31).toUInt32).toInt32) &&& (3 : Int32))))), .val (.int ((((i0.toUInt32 >>> ((4 : Int32) &&& 31).toUInt32).toInt32) &&& (3 : Int32)) % ((1 : Int32) + (((i0.toUInt32 >>> ((8 : Int32) &&& 31).toUInt32).toInt32) &&& (3 : Int32))))), .val (.int ((((i0.toUInt32 >>> ((6 : Int32) &&& 31).toUInt32).toInt32) &&& (3 : Int32)) % ((1 : Int32) + (((i0.toUInt32 >>> ((8 : Int32) &&& 31).toUInt32).toInt32) &&& (3 : Int32))))), .unset, .unset, .unset, .unset, .unset, .unset, .unset]) rfl (pc' := 49) rfl ?_
  exact law49 l Z a0 hw hby hml hret i0 i1 i2 i3 _ _ _ _ _ (hn).1 (hn).2.2 (own_rem hn _ (c_and _ 3 (by decide))).1 (own_rem hn _ (c_and _ 3 (by decide))).2 (own_rem hn _ (c_and _ 3 (by decide))).1 (own_rem hn _ (c_and _ 3 (by decide))).2 (own_rem hn _ (c_and _ 3 (by decide))).1 (own_rem hn _ (c_and _ 3 (by decide))).2 (own_rem hn _ (c_and _ 3 (by decide))).1 (own_rem hn _ (c_and _ 3 (by decide))).2 P
set_option maxRecDepth 65536 in
set_option maxHeartbeats 40000000 in
theorem comes_1 {Post : Tables → Env → Array Value → State → Outcome → State → Prop} (hpost : ∀ tb e args s v u, (limb_1_1.after args s (.returned v) u = true ∧ limb_1_2.after args s (.returned v) u = true ∧ True) → FrameEnd s (.returned v) u (Jvm.fieldLocs frame_1_writes args s ++ Jvm.arrayLocs frame_1_arrays args s ++ Jvm.staticLocs frame_1_statics s) 16 128 → Post tb e args s (.returned v) u) :
    ArmFor flags0 classFile x code maxLocals ret World_1 tables_1 room_1 Calls_1 rest_1 Pre_1 Post := by
  intro l hfl _ _ p e ha hc hk s m args below hf hA hF happ hP
  obtain ⟨hcalls, hrest, hpre⟩ := hP
  obtain ⟨-, -, -, hnamed, -, -, -, hat⟩ := (Spec.applies_iff hf).mp happ
  obtain ⟨hg, hn⟩ := and_e (Cond.before_iff.mp (show (Jvm.Cond.and given_1 narrow_1).before args s = true from hpre))
  obtain ⟨g0, hg⟩ := and_e hg
  obtain ⟨gv0, hg⟩ := and_e hg
  obtain ⟨gv1, hg⟩ := and_e hg
  obtain ⟨gv2, hg⟩ := and_e hg
  have gv3 := hg
  obtain ⟨w0, w1, w2, w3, rfl⟩ : ∃ w0 w1 w2 w3 : Value, args = #[w0, w1, w2, w3] := by
    have hs : args.size = 4 := by simpa [Cond.value, given_1] using g0
    obtain ⟨L⟩ := args
    match L, hs with
    | [w0, w1, w2, w3], _ => exact ⟨w0, w1, w2, w3, rfl⟩
  have hw := fun d (hd : d ∈ tables_1) => atoms_spec (ws := Jvm.Cond.code x code maxLocals ret :: tables_1) hat d (List.mem_cons_of_mem _ hd)
  have hfit : Fit s := fun {y c} hc i hi => by
    obtain ⟨ha, rfl⟩ := Array.getElem?_eq_some_iff.mp hc
    have q := List.all_eq_true.mp ((Array.all_eq_true_iff_forall_mem.mp hF) _ (Array.getElem_mem ha)) i (List.mem_range.mpr hi)
    simpa [Array.getElem?_eq_getElem hi] using q
  obtain ⟨i0, ei0⟩ := is_v gv0
  obtain rfl : w0 = (.int i0) := Option.some.inj ei0
  obtain ⟨i1, ei1⟩ := is_v gv1
  obtain rfl : w1 = (.int i1) := Option.some.inj ei1
  obtain ⟨i2, ei2⟩ := is_v gv2
  obtain rfl : w2 = (.int i2) := Option.some.inj ei2
  obtain ⟨i3, ei3⟩ := is_v gv3
  obtain rfl : w3 = (.int i3) := Option.some.inj ei3
  have hCH : CHv s [] s.vm s.heap := fun _ q => nomatch q
  obtain ⟨n, o, h1, h2, h3, v, L, rfl, ⟨rfl, K, N⟩, hC, hH, hq⟩ := rm0 l s _ hw s.heap.size i0 i1 i2 i3 s.heap (Old.start s) EW.nil (fun _ q => nomatch q) p e ha hc hk s m _ below hf ((Spec.applies_iff_loose hf).mp happ).1 ⟨rfl, State.Warmed39.refl s, rfl, hCH, fun _ q => nomatch q⟩ trivial
  refine ⟨n, _, h1, h2, h3, hpost _ _ _ _ _ _ ⟨Cond.after_iff.mpr rfl, Cond.after_iff.mpr (eq_i res_at (Term.int_eval (1)) rfl), trivial⟩ ⟨hq.1, hH rfl, (hq.2.2.2.sift fun y hy => Or.inr (N y hy)).mono (by decide) (by decide)⟩⟩
theorem main_1_1 : Claimed_1_1 := comes_1 fun _ _ _ _ _ _ h hF => ⟨h.1, hF⟩
theorem main_1_2 : Claimed_1_2 := comes_1 fun _ _ _ _ _ _ h hF => ⟨h.2.1, hF⟩
end Jvm.Pilot.@@N@@
namespace Jvm.Pilot.@@N@@
open Jvm Jvm.ClassFile Sem Op Lib Jvm.Free Jvm.Stand Jvm.Pilot.@@N@@.Jvm.D
/-! MADE BY PROGRAM (witnessworld.py) out of the Statement's table words and the real class files: 11 classes; the members and pool entries that the words name. The judged class is class 1, her method 2. -/
namespace start1
open Jvm.ClassFile
def u (s : String) : CpInfo := .utf8 (stringToUtf16 s)
/-- a pool by its gaps: so many unusable entries, then the entry; so many at the end -/
def gap : Nat → List CpInfo → List CpInfo
  | 0, r => r
  | n + 1, r => .unusable :: gap n r
def poolList (es : List (Nat × CpInfo)) (last : Nat) : List CpInfo := es.foldr (fun e r => gap e.1 (e.2 :: r)) (gap last [])
def pool (es : List (Nat × CpInfo)) (last : Nat) : Array CpInfo := ⟨poolList es last⟩
def fileOf (pool : Array CpInfo) (this : Nat) (attrs : Array Attribute := #[]) (ms : Array MethodInfo := #[]) (fl : Nat := 33) (sup : Nat := 0) (ifs : Array Nat := #[]) (fds : Array FieldInfo := #[]) : ClassFile where
  minorVersion := 0
  majorVersion := 65
  constantPool := pool
  accessFlags := fl
  thisClass := this
  superClass := sup
  interfaces := ifs
  fields := fds
  methods := ms
  attributes := attrs
def plain (name : String) (sup : Option ClassId) : Class where
  name := name
  kind := .ordinary
  loader := none
  accessFlags := 33
  super := sup
  interfaces := #[]
  cf := none
  fields := #[]
  methods := #[]
  instanceTypes := #[]
  staticTypes := #[]
  resolved := #[]
  callSites := []
  init := .initialized
  statics := none
  mirror := none

def pool0 : Array CpInfo := pool [(5, u "<init>"), (0, u "()V"), (1, .class_ 10), (1, u "java/lang/Object")] 113

def k0c0 : Code := { maxStack := 0, maxLocals := 1, code := object_method_1_code, exceptionTable := #[], attributes := #[] }
def k0m0 : Method := { name := "<init>", desc := "()V", sig := { parameters := [], returnType := none }, accessFlags := 1, code := some k0c0 }
/-- java/lang/Object -/
def k0 : Class := { plain "java/lang/Object" none with
  accessFlags := 33
  interfaces := #[]
  cf := some (fileOf pool0 8 #[] #[{ accessFlags := 1, nameIndex := 5, descriptorIndex := 6, attributes := #[] }] 33 0 #[] #[])
  fields := #[]
  methods := #[k0m0]
  instanceTypes := #[]
  staticTypes := #[]
  resolved := Array.replicate 124 none
  statics := none }

def pool1 : Array CpInfo := pool [(2, .class_ 4), (1, u "java/lang/Object"), (0, u "<init>"), (0, u "()V"), (0, .class_ 8), (0, u "com/example/busca/busca/rank/Accumulator"), (0, .methodref 7 10), (0, .nameAndType 5 11), (0, u "(I)V"), (0, .methodref 7 13), (0, .nameAndType 14 15), (0, u "add"), (0, u "(ID)V"), (0, .methodref 7 17), (0, .nameAndType 18 19), (0, u "resultCount"), (0, u "()I"), (0, .methodref 7 21), (0, .nameAndType 22 23), (0, u "result"), (0, u "(I)I"), (0, .methodref 25 26), (0, .class_ 27), (0, .nameAndType 28 29), (0, u "com/example/busca/busca/rank/AccumulatorAddPinLaw"), (0, u "part"), (0, u "(III)D"), (0, .methodref 7 31), (0, .nameAndType 32 33), (0, u "score"), (0, u "(I)D"), (3, u "law"), (0, u "(IIII)Z")] 2

def k1m0 : Method := { name := "<init>", desc := "()V", sig := { parameters := [], returnType := none }, accessFlags := 1, code := none }
def k1c1 : Code := { maxStack := 2, maxLocals := 3, code := method_2_code, exceptionTable := #[], attributes := #[] }
def k1m1 : Method := { name := "part", desc := "(III)D", sig := { parameters := [.int, .int, .int], returnType := some .double }, accessFlags := 10, code := some k1c1 }
def k1c2 : Code := { maxStack := 5, maxLocals := 16, code := code, exceptionTable := #[], attributes := #[] }
def k1m2 : Method := { name := "law", desc := "(IIII)Z", sig := { parameters := [.int, .int, .int, .int], returnType := some .boolean }, accessFlags := 9, code := some k1c2 }
/-- com/example/busca/busca/rank/AccumulatorAddPinLaw -/
def k1 : Class := { plain "com/example/busca/busca/rank/AccumulatorAddPinLaw" (some 0) with
  accessFlags := 49
  interfaces := #[]
  cf := some (fileOf pool1 25 #[] #[{ accessFlags := 1, nameIndex := 5, descriptorIndex := 6, attributes := #[] }, { accessFlags := 10, nameIndex := 28, descriptorIndex := 29, attributes := #[] }, { accessFlags := 9, nameIndex := 37, descriptorIndex := 38, attributes := #[] }] 49 2 #[] #[])
  fields := #[]
  methods := #[k1m0, k1m1, k1m2]
  instanceTypes := #[]
  staticTypes := #[]
  resolved := Array.replicate 41 none
  statics := none }

def pool2 : Array CpInfo := pool [(1, .methodref 2 3), (0, .class_ 4), (0, .nameAndType 5 6), (0, u "java/lang/Object"), (0, u "<init>"), (0, u "()V"), (0, .fieldref 8 9), (0, .class_ 10), (0, .nameAndType 11 12), (0, u "com/example/busca/busca/rank/Accumulator"), (0, u "results"), (0, u "[I"), (0, .fieldref 8 14), (0, .nameAndType 15 16), (0, u "scores"), (0, u "[D"), (0, .fieldref 8 18), (0, .nameAndType 19 20), (0, u "matched"), (0, u "[Z"), (0, .fieldref 8 22), (0, .nameAndType 23 24), (0, u "size"), (0, u "I"), (6, u "(I)V"), (2, u "add"), (0, u "(ID)V"), (1, u "resultCount"), (0, u "()I"), (0, u "result"), (0, u "(I)I"), (0, u "score"), (0, u "(I)D")] 2

def k2c0 : Code := { maxStack := 2, maxLocals := 2, code := prog_59_method_1_code, exceptionTable := #[], attributes := #[] }
def k2m0 : Method := { name := "<init>", desc := "(I)V", sig := { parameters := [.int], returnType := none }, accessFlags := 0, code := some k2c0 }
def k2c1 : Code := { maxStack := 6, maxLocals := 4, code := prog_59_method_2_code, exceptionTable := #[], attributes := #[] }
def k2m1 : Method := { name := "add", desc := "(ID)V", sig := { parameters := [.int, .double], returnType := none }, accessFlags := 1, code := some k2c1 }
def k2c2 : Code := { maxStack := 1, maxLocals := 1, code := prog_59_method_3_code, exceptionTable := #[], attributes := #[] }
def k2m2 : Method := { name := "resultCount", desc := "()I", sig := { parameters := [], returnType := some .int }, accessFlags := 0, code := some k2c2 }
def k2c3 : Code := { maxStack := 2, maxLocals := 2, code := prog_59_method_4_code, exceptionTable := #[], attributes := #[] }
def k2m3 : Method := { name := "result", desc := "(I)I", sig := { parameters := [.int], returnType := some .int }, accessFlags := 0, code := some k2c3 }
def k2c4 : Code := { maxStack := 2, maxLocals := 2, code := prog_59_method_5_code, exceptionTable := #[], attributes := #[] }
def k2m4 : Method := { name := "score", desc := "(I)D", sig := { parameters := [.int], returnType := some .double }, accessFlags := 0, code := some k2c4 }
/-- com/example/busca/busca/rank/Accumulator -/
def k2 : Class := { plain "com/example/busca/busca/rank/Accumulator" (some 0) with
  accessFlags := 49
  interfaces := #[]
  cf := some (fileOf pool2 8 #[] #[{ accessFlags := 0, nameIndex := 5, descriptorIndex := 31, attributes := #[] }, { accessFlags := 1, nameIndex := 34, descriptorIndex := 35, attributes := #[] }, { accessFlags := 0, nameIndex := 37, descriptorIndex := 38, attributes := #[] }, { accessFlags := 0, nameIndex := 39, descriptorIndex := 40, attributes := #[] }, { accessFlags := 0, nameIndex := 41, descriptorIndex := 42, attributes := #[] }] 49 2 #[] #[{ accessFlags := 18, nameIndex := 15, descriptorIndex := 16, attributes := #[] }, { accessFlags := 18, nameIndex := 19, descriptorIndex := 20, attributes := #[] }, { accessFlags := 2, nameIndex := 11, descriptorIndex := 12, attributes := #[] }, { accessFlags := 2, nameIndex := 23, descriptorIndex := 24, attributes := #[] }])
  fields := #[{ name := "scores", type := (.array .double), accessFlags := 18, slot := 0, constantValue := 0 }, { name := "matched", type := (.array .boolean), accessFlags := 18, slot := 1, constantValue := 0 }, { name := "results", type := (.array .int), accessFlags := 2, slot := 2, constantValue := 0 }, { name := "size", type := .int, accessFlags := 2, slot := 3, constantValue := 0 }]
  methods := #[k2m0, k2m1, k2m2, k2m3, k2m4]
  instanceTypes := #[(.array .double), (.array .boolean), (.array .int), .int]
  staticTypes := #[]
  resolved := Array.replicate 45 none
  statics := none }

def pool3 : Array CpInfo := pool [(1, u "java/lang/Cloneable"), (0, .class_ 1), (0, u "java/lang/Object"), (0, .class_ 3)] 3

/-- java/lang/Cloneable -/
def k3 : Class := { plain "java/lang/Cloneable" (some 0) with
  accessFlags := 1537
  interfaces := #[]
  cf := some (fileOf pool3 2 #[] #[] 1537 4 #[] #[])
  fields := #[]
  methods := #[]
  instanceTypes := #[]
  staticTypes := #[]
  resolved := Array.replicate 8 none
  statics := none }

def pool4 : Array CpInfo := pool [(1, u "java/io/Serializable"), (0, .class_ 1), (0, u "java/lang/Object"), (0, .class_ 3)] 3

/-- java/io/Serializable -/
def k4 : Class := { plain "java/io/Serializable" (some 0) with
  accessFlags := 1537
  interfaces := #[]
  cf := some (fileOf pool4 2 #[] #[] 1537 4 #[] #[])
  fields := #[]
  methods := #[]
  instanceTypes := #[]
  staticTypes := #[]
  resolved := Array.replicate 8 none
  statics := none }

/-- the primitive boolean -/
def k5 : Class := { plain "boolean" none with kind := .primitive 'Z', accessFlags := 0x411 }
/-- [Z -/
def k6 : Class := { plain "[Z" (some 0) with kind := .array 5 .boolean, interfaces := #[3, 4], accessFlags := 1041 }

/-- the primitive byte -/
def k7 : Class := { plain "byte" none with kind := .primitive 'B', accessFlags := 0x411 }
/-- [B -/
def k8 : Class := { plain "[B" (some 0) with kind := .array 7 .byte, interfaces := #[3, 4], accessFlags := 1041 }

/-- the primitive int -/
def k9 : Class := { plain "int" none with kind := .primitive 'I', accessFlags := 0x411 }
/-- [I -/
def k10 : Class := { plain "[I" (some 0) with kind := .array 9 .int, interfaces := #[3, 4], accessFlags := 1041 }

/-- the primitive double -/
def k11 : Class := { plain "double" none with kind := .primitive 'D', accessFlags := 0x411 }
/-- [D -/
def k12 : Class := { plain "[D" (some 0) with kind := .array 11 .double, interfaces := #[3, 4], accessFlags := 1041 }

def heap : Heap := #[]
def classes : Array Class := #[k0, k1, k2, k3, k4, k5, k6, k7, k8, k9, k10, k11, k12]
def interned : List (Array UInt16 × Addr) := []
def slotsUsed : Nat := 0
def theMethod : MethodId := ⟨1, 2⟩
def args0 : Array Value := #[.int 5, .int 5, .int 5, .int 5]
def aboutOver (below : List Frame) : State where
  vm := { classes := classes, interned := interned.toArray }
  heap := heap
  slotsUsed := slotsUsed
  threads := #[{ frames := .invoking theMethod args0 :: below }]
def below0 : List Frame := [.native { method := ⟨0, 0⟩, args := #[] }]
def about1 : State := aboutOver below0
def p0 : Program := .bare "" "" ""
def e0 : Env := launch0.env 0 0 0
theorem w_frames : about1.frames = Frame.invoking theMethod args0 :: below0 := rfl
set_option maxRecDepth 65536 in
theorem w_args : argsFit about1.vm theMethod args0 = true := by decide +kernel
set_option maxRecDepth 65536 in
theorem w_heap : heapFits about1 = true := by decide +kernel
set_option maxRecDepth 65536 in
theorem w_runnable : about1.curStatus? = some .runnable := by decide +kernel
set_option maxRecDepth 65536 in
theorem w_alone : about1.alone = true := by decide +kernel
set_option maxRecDepth 65536 in
theorem w_named : about1.methodNamed? x = some theMethod := by decide +kernel
set_option maxRecDepth 65536 in
theorem w_hears : about1.hears theMethod below0 = true := by decide +kernel
set_option maxRecDepth 65536 in
theorem w_ripe : about1.ripe theMethod args0 below0 = true := by decide +kernel
theorem w_running : about1.status = .running := rfl
set_option maxRecDepth 65536 in
theorem w_room : about1.hasRoom e0.platform room_1 = true :=
  launch0.hasRoom_least _ room_1 (by decide +kernel) (by decide +kernel) (by decide +kernel) (by decide +kernel) (by decide +kernel) (by decide +kernel)
theorem allAtoms_all (ts : List Jvm.Cond) (a : Array Jvm.Value) (st : Jvm.State) : (allAtoms ts).before a st = ts.all (fun c => c.before a st) := by
  induction ts with
  | nil => rfl
  | cons c t ih =>
    show (Jvm.Cond.and c (allAtoms t)).before a st = _
    rw [Jvm.Cond.before_and, ih, List.all_cons]
def words1 : List Jvm.Cond := Jvm.Cond.code x code maxLocals ret :: tables_1
/-- a 'code' word, met by the world's own term for the bytes: nothing is compared byte by byte -/
theorem code_word {y : MethodName} {bytes : ByteArray} {mx : Nat} {rt : Option FieldType} {a : Array Value} {s : State} {m : MethodId} {meth : Method} {c : Code} (h1 : s.methodNamed? y = some m) (h2 : s.vm.method? m = some meth) (h3 : meth.code = some c) (h4 : c.code = bytes)
    (h5 : (c.maxLocals == mx && c.exceptionTable.isEmpty && decide (c.maxStack ≤ mostOperands) && decide (meth.sig.returnType = rt) && !meth.locks && decide (parseMethodDescriptor y.desc = some meth.sig)) = true) : (Jvm.Cond.code y bytes mx rt).before a s = true := by
  simp only [Bool.and_eq_true, beq_iff_eq, Bool.not_eq_true', decide_eq_true_eq] at h5
  obtain ⟨⟨⟨⟨⟨g1, g2⟩, g3⟩, g4⟩, g5⟩, g6⟩ := h5
  simp [Cond.before, Cond.holds, Cond.value, h1, h2, h3, h4, g1, g2, g3, g4, g5, g6]
def isCode : Jvm.Cond → Bool
  | .code _ _ _ _ => true
  | _ => false
theorem all_split {L : List Jvm.Cond} {P : Jvm.Cond → Bool} (h1 : L.all (fun c => isCode c || P c) = true) (h2 : ∀ c ∈ L.filter isCode, P c = true) : L.all P = true := by
  refine List.all_eq_true.mpr fun c hc => ?_
  have h := List.all_eq_true.mp h1 c hc
  rcases Bool.eq_false_or_eq_true (isCode c) with hi | hi
  · exact h2 c (List.mem_filter.mpr ⟨hc, hi⟩)
  · simpa [hi] using h
set_option maxRecDepth 65536 in
theorem w_c0 : (Jvm.Cond.code x code maxLocals ret).before args0 about1 = true := code_word (m := ⟨1, 2⟩) (meth := k1m2) (c := k1c2) (by decide +kernel) rfl rfl rfl (by decide +kernel)
set_option maxRecDepth 65536 in
theorem w_c1 : (Jvm.Cond.code ({ cls := "com/example/busca/busca/rank/Accumulator", name := "<init>", desc := "(I)V" } : Jvm.MethodName) prog_59_method_1_code (2 : Nat) (Option.none : Option Jvm.ClassFile.FieldType)).before args0 about1 = true := code_word (m := ⟨2, 0⟩) (meth := k2m0) (c := k2c0) (by decide +kernel) rfl rfl rfl (by decide +kernel)
set_option maxRecDepth 65536 in
theorem w_c2 : (Jvm.Cond.code ({ cls := "java/lang/Object", name := "<init>", desc := "()V" } : Jvm.MethodName) object_method_1_code (1 : Nat) (Option.none : Option Jvm.ClassFile.FieldType)).before args0 about1 = true := code_word (m := ⟨0, 0⟩) (meth := k0m0) (c := k0c0) (by decide +kernel) rfl rfl rfl (by decide +kernel)
set_option maxRecDepth 65536 in
theorem w_c3 : (Jvm.Cond.code ({ cls := "com/example/busca/busca/rank/Accumulator", name := "add", desc := "(ID)V" } : Jvm.MethodName) prog_59_method_2_code (4 : Nat) (Option.none : Option Jvm.ClassFile.FieldType)).before args0 about1 = true := code_word (m := ⟨2, 1⟩) (meth := k2m1) (c := k2c1) (by decide +kernel) rfl rfl rfl (by decide +kernel)
set_option maxRecDepth 65536 in
theorem w_c4 : (Jvm.Cond.code ({ cls := "com/example/busca/busca/rank/Accumulator", name := "resultCount", desc := "()I" } : Jvm.MethodName) prog_59_method_3_code (1 : Nat) (Option.some Jvm.ClassFile.FieldType.int)).before args0 about1 = true := code_word (m := ⟨2, 2⟩) (meth := k2m2) (c := k2c2) (by decide +kernel) rfl rfl rfl (by decide +kernel)
set_option maxRecDepth 65536 in
theorem w_c5 : (Jvm.Cond.code ({ cls := "com/example/busca/busca/rank/Accumulator", name := "result", desc := "(I)I" } : Jvm.MethodName) prog_59_method_4_code (2 : Nat) (Option.some Jvm.ClassFile.FieldType.int)).before args0 about1 = true := code_word (m := ⟨2, 3⟩) (meth := k2m3) (c := k2c3) (by decide +kernel) rfl rfl rfl (by decide +kernel)
set_option maxRecDepth 65536 in
theorem w_c6 : (Jvm.Cond.code ({ cls := "com/example/busca/busca/rank/AccumulatorAddPinLaw", name := "part", desc := "(III)D" } : Jvm.MethodName) method_2_code (3 : Nat) (Option.some Jvm.ClassFile.FieldType.double)).before args0 about1 = true := code_word (m := ⟨1, 1⟩) (meth := k1m1) (c := k1c1) (by decide +kernel) rfl rfl rfl (by decide +kernel)
set_option maxRecDepth 65536 in
theorem w_c7 : (Jvm.Cond.code ({ cls := "com/example/busca/busca/rank/Accumulator", name := "score", desc := "(I)D" } : Jvm.MethodName) prog_59_method_5_code (2 : Nat) (Option.some Jvm.ClassFile.FieldType.double)).before args0 about1 = true := code_word (m := ⟨2, 4⟩) (meth := k2m4) (c := k2c4) (by decide +kernel) rfl rfl rfl (by decide +kernel)
def codes1 : List Jvm.Cond := [Jvm.Cond.code x code maxLocals ret, Jvm.Cond.code ({ cls := "com/example/busca/busca/rank/Accumulator", name := "<init>", desc := "(I)V" } : Jvm.MethodName) prog_59_method_1_code (2 : Nat) (Option.none : Option Jvm.ClassFile.FieldType), Jvm.Cond.code ({ cls := "java/lang/Object", name := "<init>", desc := "()V" } : Jvm.MethodName) object_method_1_code (1 : Nat) (Option.none : Option Jvm.ClassFile.FieldType), Jvm.Cond.code ({ cls := "com/example/busca/busca/rank/Accumulator", name := "add", desc := "(ID)V" } : Jvm.MethodName) prog_59_method_2_code (4 : Nat) (Option.none : Option Jvm.ClassFile.FieldType), Jvm.Cond.code ({ cls := "com/example/busca/busca/rank/Accumulator", name := "resultCount", desc := "()I" } : Jvm.MethodName) prog_59_method_3_code (1 : Nat) (Option.some Jvm.ClassFile.FieldType.int), Jvm.Cond.code ({ cls := "com/example/busca/busca/rank/Accumulator", name := "result", desc := "(I)I" } : Jvm.MethodName) prog_59_method_4_code (2 : Nat) (Option.some Jvm.ClassFile.FieldType.int), Jvm.Cond.code ({ cls := "com/example/busca/busca/rank/AccumulatorAddPinLaw", name := "part", desc := "(III)D" } : Jvm.MethodName) method_2_code (3 : Nat) (Option.some Jvm.ClassFile.FieldType.double), Jvm.Cond.code ({ cls := "com/example/busca/busca/rank/Accumulator", name := "score", desc := "(I)D" } : Jvm.MethodName) prog_59_method_5_code (2 : Nat) (Option.some Jvm.ClassFile.FieldType.double)]
set_option maxRecDepth 65536 in
theorem codes_eq : words1.filter isCode = codes1 := rfl
theorem w_codes : ∀ c ∈ words1.filter isCode, c.before args0 about1 = true := by
  rw [codes_eq]
  intro c hc
  simp only [codes1, List.mem_cons, List.not_mem_nil, or_false] at hc
  rcases hc with rfl | rfl | rfl | rfl | rfl | rfl | rfl | rfl
  · exact w_c0
  · exact w_c1
  · exact w_c2
  · exact w_c3
  · exact w_c4
  · exact w_c5
  · exact w_c6
  · exact w_c7
set_option maxRecDepth 65536 in
theorem w_t1 : (words1.take 24).all (fun c => isCode c || c.before args0 about1) = true := by decide +kernel
set_option maxRecDepth 65536 in
theorem w_t2 : (words1.drop 24).all (fun c => isCode c || c.before args0 about1) = true := by decide +kernel
theorem w_tables : (allAtoms (Jvm.Cond.code x code maxLocals ret :: tables_1)).before args0 about1 = true := by
  rw [allAtoms_all]
  show words1.all (fun c => c.before args0 about1) = true
  refine all_split ?_ w_codes
  rw [← List.take_append_drop 24 words1, List.all_append, w_t1, w_t2]
  rfl
set_option maxRecDepth 65536 in
theorem w_case : (Jvm.Cond.and given_1 narrow_1).before args0 about1 = true := by decide +kernel
theorem w_applies : (headSpec (Jvm.Cond.code x code maxLocals ret :: tables_1) room_1).applies x e0.platform about1 = true :=
  (Spec.applies_iff w_frames).mpr ⟨w_running, w_runnable, w_alone, w_named, w_hears, w_ripe, w_room, w_tables⟩
theorem atStart : AtStart classFile x code maxLocals ret World_1 tables_1 room_1 Calls_1 rest_1 Pre_1 launch0 p0 e0 about1 theMethod args0 below0 :=
  ⟨lists_1, trivial, launch0.admits_env _ _ _, launch0.least_env, fairChoices_fair.cas, fairChoices_fair.clock, w_frames, w_args, w_heap, w_applies, trivial, trivial, w_case⟩
end start1
theorem witness_1 : WitnessClaimed_1 := ⟨start1.p0, start1.e0, start1.about1, start1.theMethod, start1.args0, start1.below0, start1.atStart⟩
end Jvm.Pilot.@@N@@
