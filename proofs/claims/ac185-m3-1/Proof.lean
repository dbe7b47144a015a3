import JvmDerived
import JvmDerived.Pilot.@@N@@Statement
import JvmDerived.Pilot.@@N@@Code
set_option linter.unusedVariables false
set_option linter.unusedSimpArgs false
namespace Jvm.Pilot.@@N@@
open Jvm Jvm.ClassFile Sem Op Lib Jvm.Free Jvm.Stand Jvm.LawKit Jvm.RoadKit Bundle Jvm.Pilot.@@N@@.Jvm.D
section OwnLayer
variable {p : Program} {l : Launch} {e : Env} {R : Room} {s : State} {m : MethodId} {args : Array Value} {below : List Frame} {meth : Method} {c : Code} {T T' : State} {cells slots cells' slots' : Nat} {Z : State} {a0 : Array Value} {EL : List (String × Nat)} {n0 : Nat} {W0 : List Addr} {own : String} {h h' : Heap} {Ow Ow' : List Addr} {Pq : Outcome → State → Prop} {pc pc' : Nat} {L L' : Array Slot} {S S' : List Value}
/-- the run goes on from here to an end that Pq allows -/
def OG (p : Program) (e : Env) (below : List Frame) (m : MethodId) (Pq : Outcome → State → Prop) (T : State) (pc : Nat) (L : Array Slot) (S : List Value) : Prop :=
  ∃ t o, Steps p.tables e below (T.setTop (mkF m pc L S)) t ∧ t.status = .running ∧ Ended t below o ∧ Pq o t
theorem OG.st (st : ∀ t, Steps p.tables e below (T'.setTop (mkF m pc' L' S')) t → Steps p.tables e below (T.setTop (mkF m pc L S)) t) (k : OG p e below m Pq T' pc' L' S') : OG p e below m Pq T pc L S := by
  obtain ⟨t, o, h1, r⟩ := k
  exact ⟨t, o, st t h1, r⟩
/-- an address that this walk may write -/
def OOwn (Z : State) (EL : List (String × Nat)) (n0 : Nat) (W0 : List Addr) (hs : Nat) (vm : Vm) (h : Heap) (x : Addr) : Prop := n0 ≤ x ∧ x < h.size ∧ Safe Z EL vm h x ∧ (x ∈ W0 ∨ hs ≤ x)
/-- the tables since the invocation's start: warmed; with no constant of EL nothing is interned -/
def OSn (EL : List (String × Nat)) (s : State) (vm : Vm) (n : Nat) : Prop := s.Since vm n ∧ (EL = [] → s.WarmedH vm)
theorem OSn.of {vm : Vm} (q : s.WarmedH vm) (n : Nat) : OSn EL s vm n := ⟨q.since n, fun _ => q⟩
theorem OSn.trans {vm₁ vm₂ : Vm} {n₁ n₂ : Nat} (h₁ : OSn EL s vm₁ n₁) (h₂ : OSn EL (s.setVm vm₁) vm₂ n₂) (hn : n₁ ≤ n₂) : OSn EL s vm₂ n₂ := ⟨h₁.1.trans h₂.1 hn, fun e => State.WarmedH.trans (t := s.setVm vm₁) (h₁.2 e) (h₂.2 e)⟩
/-- where the walk stands -/
def OPn (p : Program) (l : Launch) (e : Env) (R : Room) (s : State) (m : MethodId) (args : Array Value) (below : List Frame) (meth : Method) (c : Code) (Z : State) (a0 : Array Value) (EL : List (String × Nat)) (n0 : Nat) (W0 : List Addr) (own : String) (T : State) (h : Heap) (Ow : List Addr) (cells slots : Nat) : Prop :=
  ∃ locs : List Loc, Stand p l e R (s.setVm T.vm) m args below meth c T locs cells slots ∧ p.tables.exec = Jvm.exec ∧ meth.locks = false ∧ OSn EL s T.vm h.size ∧ Z.Warmed39 T.vm ∧ T.vm.findClass own = some m.cls ∧ T.heap = h ∧ Fr n0 locs ∧ EW Z a0 EL ∧ CHr Z EL s.vm s.heap T.vm h ∧ Old Z n0 h ∧ Keep s.heap h W0 ∧ ∀ x ∈ Ow, OOwn Z EL n0 W0 s.heap.size T.vm h x
theorem OPn.here (P : OPn p l e R s m args below meth c Z a0 EL n0 W0 own T h Ow cells slots) : At T m c below := by obtain ⟨_, X, -⟩ := P; exact X.here
theorem OPn.ex (P : OPn p l e R s m args below meth c Z a0 EL n0 W0 own T h Ow cells slots) : p.tables.exec = Jvm.exec := by obtain ⟨_, _, hx, -⟩ := P; exact hx
theorem OPn.old (P : OPn p l e R s m args below meth c Z a0 EL n0 W0 own T h Ow cells slots) : Old Z n0 h := by obtain ⟨_, _, _, _, _, _, _, _, _, _, _, O, -⟩ := P; exact O
theorem OPn.keep0 (P : OPn p l e R s m args below meth c Z a0 EL n0 W0 own T h Ow cells slots) : Keep s.heap h W0 := by obtain ⟨_, _, _, _, _, _, _, _, _, _, _, _, K, -⟩ := P; exact K
theorem OPn.warm (P : OPn p l e R s m args below meth c Z a0 EL n0 W0 own T h Ow cells slots) : Z.Warmed39 T.vm := by obtain ⟨_, _, _, _, _, hZ, -⟩ := P; exact hZ
theorem OPn.n0le (P : OPn p l e R s m args below meth c Z a0 EL n0 W0 own T h Ow cells slots) : n0 ≤ h.size := by have O := P.old; rw [← O.1]; exact O.2.1
theorem OPn.mono (P : OPn p l e R s m args below meth c Z a0 EL n0 W0 own T h Ow cells slots) (hc : cells ≤ cells') (hs : slots ≤ slots') : OPn p l e R s m args below meth c Z a0 EL n0 W0 own T h Ow cells' slots' := by
  obtain ⟨locs, X, r⟩ := P
  exact ⟨locs, X.mono hc hs, r⟩
theorem OPn.less (P : OPn p l e R s m args below meth c Z a0 EL n0 W0 own T h Ow cells slots) (q : ∀ x ∈ Ow', x ∈ Ow) : OPn p l e R s m args below meth c Z a0 EL n0 W0 own T h Ow' cells slots := by
  obtain ⟨locs, X, h1, h2, h3, h4, h5, h6, h7, h8, h9, h10, h11, W⟩ := P
  exact ⟨locs, X, h1, h2, h3, h4, h5, h6, h7, h8, h9, h10, h11, fun x hx => W x (q x hx)⟩
theorem OPn.more (P : OPn p l e R s m args below meth c Z a0 EL n0 W0 own T h Ow cells slots) {x : Addr} (q : n0 ≤ x ∧ x < h.size ∧ Safe Z EL T.vm h x) (r : s.heap.size ≤ x) : OPn p l e R s m args below meth c Z a0 EL n0 W0 own T h (x :: Ow) cells slots := by
  obtain ⟨locs, X, h1, h2, h3, h4, h5, h6, h7, h8, h9, h10, h11, W⟩ := P
  exact ⟨locs, X, h1, h2, h3, h4, h5, h6, h7, h8, h9, h10, h11, fun y hy => (List.mem_cons.mp hy).elim (fun u => u ▸ ⟨q.1, q.2.1, q.2.2, Or.inr r⟩) (W y)⟩
theorem OPn.fin {locs' : List Loc} (hx : p.tables.exec = Jvm.exec) (hlk : meth.locks = false) (hS : OSn EL s T.vm h.size) (hZ : Z.Warmed39 T.vm) (hown : T.vm.findClass own = some m.cls) (hEL : EW Z a0 EL) (X' : Stand p l e R (s.setVm T.vm) m args below meth c T' locs' cells' slots') (eT' : T'.heap = h') (hle : h.size ≤ h'.size) (N' : Fr n0 locs') (C' : CHr Z EL s.vm s.heap T.vm h') (O' : Old Z n0 h') (K' : Keep s.heap h' W0) (W' : ∀ x ∈ Ow', OOwn Z EL n0 W0 s.heap.size T.vm h' x) :
    OPn p l e R s m args below meth c Z a0 EL n0 W0 own T' h' Ow' cells' slots' := by
  have A : CHr Z EL T.vm h' T'.vm h' := CHv.at X' hZ hEL C'.1
  refine ⟨locs', X'.retabled X'.warmed.wide, hx, hlk, hS.trans (OSn.of X'.warmed _) hle, State.Warmed39.trans (t := s.setVm T.vm) hZ X'.warmed.wide, ?_, eT', N', hEL, C'.trans A, O', K', fun x hx => ?_⟩
  · exact (X'.warmed.alike.findClass own _).trans hown
  · obtain ⟨q1, q2, q3, q4⟩ := W' x hx
    exact ⟨q1, q2, A.safe q2 q3, q4⟩
/-- a step that moves the tables alone -/
theorem OPn.tab (P : OPn p l e R s m args below meth c Z a0 EL n0 W0 own T h Ow cells slots) (f : ∀ locs, Stand p l e R (s.setVm T.vm) m args below meth c T locs cells slots → Z.Warmed39 (s.setVm T.vm).vm → (s.setVm T.vm).vm.findClass own = some m.cls → T.heap = h → p.tables.exec = Jvm.exec → ∃ T', Stand p l e R (s.setVm T.vm) m args below meth c T' locs cells slots ∧ T'.heap = h ∧ ∀ target, Steps p.tables e below (T'.setTop (mkF m pc' L' S')) target → Steps p.tables e below (T.setTop (mkF m pc L S)) target)
    (k : ∀ T', OPn p l e R s m args below meth c Z a0 EL n0 W0 own T' h Ow cells slots → OG p e below m Pq T' pc' L' S') : OG p e below m Pq T pc L S := by
  obtain ⟨locs, X, hx, hlk, hS, hZ, hown, eT, N, hEL, C, O, K, W⟩ := P
  obtain ⟨T', X', e', st⟩ := f locs X hZ hown eT hx
  exact OG.st st (k T' (OPn.fin hx hlk hS hZ hown hEL X' e' (Nat.le_refl _) N C O K W))
/-- a step that makes one cell -/
theorem OPn.grow (P : OPn p l e R s m args below meth c Z a0 EL n0 W0 own T h Ow cells slots) {G : Heap → Addr → Prop} (f : ∀ locs, Stand p l e R (s.setVm T.vm) m args below meth c T locs cells slots → Z.Warmed39 (s.setVm T.vm).vm → (s.setVm T.vm).vm.findClass own = some m.cls → T.heap = h → p.tables.exec = Jvm.exec → ∃ T' h', Stand p l e R (s.setVm T.vm) m args below meth c T' locs cells' slots' ∧ T'.heap = h' ∧ Ext h h' ∧ h.size < h'.size ∧ G h' h.size ∧ ∀ target, Steps p.tables e below (T'.setTop (mkF m pc' L' (.ref h.size :: S'))) target → Steps p.tables e below (T.setTop (mkF m pc L S)) target)
    (k : ∀ T' h' b, OPn p l e R s m args below meth c Z a0 EL n0 W0 own T' h' (b :: Ow) cells' slots' → Keep h h' [] → h.size ≤ b → G h' b → OG p e below m Pq T' pc' L' (.ref b :: S')) : OG p e below m Pq T pc L S := by
  have hn := P.n0le
  obtain ⟨locs, X, hx, hlk, hS, hZ, hown, eT, N, hEL, C, O, K, W⟩ := P
  obtain ⟨T', h', X', e', E, hlt, g, st⟩ := f locs X hZ hown eT hx
  refine OG.st st (k T' h' h.size (OPn.fin hx hlk hS hZ hown hEL X' e' E.1 N (C.trans (CHr.ext E C.1)) (O.ext E) (K.ext E) fun x hx => ?_) ((Keep.refl h []).ext E) (Nat.le_refl _) g)
  rcases List.mem_cons.mp hx with rfl | hx
  · exact ⟨hn, hlt, Safe.ext E C.1 (Safe.new (Nat.le_refl _)), Or.inr K.1⟩
  · obtain ⟨q1, q2, q3, q4⟩ := W x hx
    exact ⟨q1, Nat.lt_of_lt_of_le q2 E.1, Safe.ext E C.1 q3, q4⟩
/-- a step that writes one place of an own cell -/
theorem OPn.wr (P : OPn p l e R s m args below meth c Z a0 EL n0 W0 own T h Ow cells slots) {a : Addr} {sl : Nat} {v : Value} (ha : a ∈ Ow) (f : ∀ locs, Stand p l e R (s.setVm T.vm) m args below meth c T locs cells slots → Z.Warmed39 (s.setVm T.vm).vm → (s.setVm T.vm).vm.findClass own = some m.cls → T.heap = h → p.tables.exec = Jvm.exec → ∃ T' h', Stand p l e R (s.setVm T.vm) m args below meth c T' (locs ++ [⟨a, sl⟩]) cells slots ∧ T'.heap = h' ∧ Wr h h' a sl v ∧ ∀ target, Steps p.tables e below (T'.setTop (mkF m pc' L' S')) target → Steps p.tables e below (T.setTop (mkF m pc L S)) target)
    (k : ∀ T' h', OPn p l e R s m args below meth c Z a0 EL n0 W0 own T' h' Ow cells slots → Wr h h' a sl v → OG p e below m Pq T' pc' L' S') : OG p e below m Pq T pc L S := by
  obtain ⟨locs, X, hx, hlk, hS, hZ, hown, eT, N, hEL, C, O, K, W⟩ := P
  obtain ⟨T', h', X', e', Wq, st⟩ := f locs X hZ hown eT hx
  obtain ⟨q1, q2, q3, q4⟩ := W a ha
  refine OG.st st (k T' h' (OPn.fin hx hlk hS hZ hown hEL X' e' (Nat.le_of_eq Wq.size.symm) (Fr.snoc X' N q1) (C.trans (CHr.wr Wq q3 C.1)) (O.wr Wq q1) (K.wr Wq q4) fun x hx => ?_) Wq)
  obtain ⟨r1, r2, r3, r4⟩ := W x hx
  exact ⟨r1, by rw [Wq.size]; exact r2, Safe.wr Wq q3 C.1 r3, r4⟩
/-! the end of a walk -/
def OFq (Z : State) (EL : List (String × Nat)) (n0 : Nat) (s : State) (W0 : List Addr) (R : Room) (Q : Option Value → Vm → Heap → Prop) (o : Outcome) (t : State) : Prop :=
  ∃ v L, o = .returned v ∧ (Q v t.vm t.heap ∧ Keep s.heap t.heap W0 ∧ Fr n0 L) ∧ CHr Z EL s.vm s.heap t.vm t.heap ∧ (EL = [] → s.WarmedH t.vm) ∧ ReturnedEndW s o t L R.cells R.slots
theorem OPn.ret {Q : Option Value → Vm → Heap → Prop} (P : OPn p l e R s m args below meth c Z a0 EL n0 W0 own T h Ow cells slots) {v : Option Value} (hv : meth.sig.returnType = none → v = none) (hc : cells ≤ R.cells) (hs : slots ≤ R.slots) (q : Q v T.vm h)
    (st : ∀ locs, Stand p l e R (s.setVm T.vm) m args below meth c T locs cells slots → p.tables.exec = Jvm.exec → ∀ fs, (∀ (f : JFrame) (acts : List Action), f.method = m → f.locked = none → f.entered = [] → (doReturn e (T.setTop f) acts v).1 = T.setFrames fs) → Steps p.tables e below (T.setTop (mkF m pc L S)) (T.setFrames fs)) : OG p e below m (OFq Z EL n0 s W0 R Q) T pc L S := by
  obtain ⟨locs, X, hx, hlk, hS, hZ, hown, eT, N, hEL, C, O, K, W⟩ := P
  subst eT
  obtain ⟨fs, h1, h2, h3, h4, h5, h6, h7⟩ := X.leaveW hS.1 (Nat.le_refl _) hv hlk
  exact ⟨_, _, st locs X hx fs h1, h2, h3, v, locs, rfl, ⟨q, K, N⟩, C, hS.2, h4, h5, h6, h7.mono hc hs⟩
theorem o_ret0 {Q : Option Value → Vm → Heap → Prop} (P : OPn p l e R s m args below meth c Z a0 EL n0 W0 own T h Ow cells slots) (hret : meth.sig.returnType = none) (hd : decode c.code pc = .ok (.return_, 1)) (hc : cells ≤ R.cells) (hs : slots ≤ R.slots) (q : Q none T.vm h) : OG p e below m (OFq Z EL n0 s W0 R Q) T pc L [] :=
  P.ret (fun _ => rfl) hc hs q fun locs X hx fs hr => X.returnOut hx hret hd hr
theorem o_retI {Q : Option Value → Vm → Heap → Prop} (P : OPn p l e R s m args below meth c Z a0 EL n0 W0 own T h Ow cells slots) {t : FieldType} {z : Int32} (hret : meth.sig.returnType = some t) (ht : t = .int ∨ t = .boolean ∨ t = .byte ∨ t = .char ∨ t = .short) (hn : narrow t (.int z) = .int z) (hd : decode c.code pc = .ok (.ireturn, 1)) (hc : cells ≤ R.cells) (hs : slots ≤ R.slots) (q : Q (some (.int z)) T.vm h) : OG p e below m (OFq Z EL n0 s W0 R Q) T pc L (.int z :: S) :=
  P.ret (fun h => by rw [hret] at h; cases h) hc hs q fun locs X hx fs hr => retOut X hx hret hn (Or.inl ⟨rfl, ht, z, rfl⟩) hd hr
theorem o_retL {Q : Option Value → Vm → Heap → Prop} (P : OPn p l e R s m args below meth c Z a0 EL n0 W0 own T h Ow cells slots) {z : Int64} (hret : meth.sig.returnType = some .long) (hd : decode c.code pc = .ok (.lreturn, 1)) (hc : cells ≤ R.cells) (hs : slots ≤ R.slots) (q : Q (some (.long z)) T.vm h) : OG p e below m (OFq Z EL n0 s W0 R Q) T pc L (.long z :: S) :=
  P.ret (fun h => by rw [hret] at h; cases h) hc hs q fun locs X hx fs hr => retOut X hx hret rfl (Or.inr (Or.inl ⟨rfl, rfl, z, rfl⟩)) hd hr
theorem o_retD {Q : Option Value → Vm → Heap → Prop} (P : OPn p l e R s m args below meth c Z a0 EL n0 W0 own T h Ow cells slots) {z : UInt64} (hret : meth.sig.returnType = some .double) (hd : decode c.code pc = .ok (.dreturn, 1)) (hc : cells ≤ R.cells) (hs : slots ≤ R.slots) (q : Q (some (.double z)) T.vm h) : OG p e below m (OFq Z EL n0 s W0 R Q) T pc L (.double z :: S) :=
  P.ret (fun h => by rw [hret] at h; cases h) hc hs q fun locs X hx fs hr => retOut X hx hret rfl (Or.inr (Or.inr (Or.inl ⟨rfl, rfl, z, rfl⟩))) hd hr
theorem o_retA {Q : Option Value → Vm → Heap → Prop} (P : OPn p l e R s m args below meth c Z a0 EL n0 W0 own T h Ow cells slots) {t : FieldType} {w : Value} (hret : meth.sig.returnType = some t) (ht : t.isReference = true) (hw : w.isRef = true) (hn : narrow t w = w) (hd : decode c.code pc = .ok (.areturn, 1)) (hc : cells ≤ R.cells) (hs : slots ≤ R.slots) (q : Q (some w) T.vm h) : OG p e below m (OFq Z EL n0 s W0 R Q) T pc L (w :: S) :=
  P.ret (fun h => by rw [hret] at h; cases h) hc hs q fun locs X hx fs hr => retOut X hx hret hn (Or.inr (Or.inr (Or.inr (Or.inr ⟨rfl, ht, hw⟩)))) hd hr
/-! a contract -/
def OCt (l : Launch) (Z : State) (a0 : Array Value) (EL : List (String × Nat)) (n0 : Nat) (y : MethodName) (bytes : ByteArray) (maxL : Nat) (ret : Option FieldType) (rm : Room) (ws : List Jvm.Cond) (as' : Array Value) (h : Heap) (Sf : List Addr) (Q : Option Value → Vm → Heap → Prop) : Prop :=
  Old Z n0 h → EW Z a0 EL → (∀ x ∈ Sf, n0 ≤ x ∧ x < h.size) →
  MetFree l y (head1 (Jvm.Cond.code y bytes maxL ret :: ws) rm) (fun a U => a = as' ∧ Z.Warmed39 U.vm ∧ U.heap = h ∧ CHv Z EL U.vm h ∧ ∀ x ∈ Sf, Safe Z EL U.vm h x) (fun _ _ _ _ _ => True) (fun _ U o U' => OFq Z EL n0 U Sf rm Q o U')
theorem OCt.body {y : MethodName} {bytes : ByteArray} {maxL : Nat} {ret : Option FieldType} {rm : Room} {ws : List Jvm.Cond} {as' : Array Value} {Sf : List Addr} {Q : Option Value → Vm → Heap → Prop} {L0 : Array Slot} (hpl : plainFor y = true) (hef : ∀ m, entryFrame m as' maxL = mkF m 0 L0 [])
    (k : ∀ p e s m below meth c T, c.code = bytes → c.maxLocals = maxL → meth.sig.returnType = ret → meth.name = y.name → s.heap = h → OPn p l e rm s m as' below meth c Z a0 EL n0 Sf y.cls T h Sf 0 0 → OG p e below m (OFq Z EL n0 s Sf rm Q) T 0 L0 []) : OCt l Z a0 EL n0 y bytes maxL ret rm ws as' h Sf Q := by
  intro hO hEL hSf
  refine MetFree.of_bodySF hpl hisR ?_
  intro p e s m args below meth c s₁ Bd hml0 hP _
  obtain ⟨rfl, hZ, rfl, hC, hS⟩ := hP
  have X0 : Stand p l e rm s m args below meth c s₁ [] 0 0 := Stand.of_body Bd
  have ev : s₁.vm = s.vm := by rw [Bd.state]; rfl
  have eh : s₁.heap = s.heap := by rw [Bd.state]; rfl
  rw [hef m]
  refine k p e s m below meth c s₁ Bd.bytes hml0 Bd.returns (name_of_methodNamed Bd.named Bd.method).1 rfl ⟨[], X0.retabled X0.warmed.wide, Bd.exec, Bd.notSynchronized, OSn.of X0.warmed _, by rw [ev]; exact hZ, by rw [ev]; exact findClass_of_methodNamed Bd.named, eh, Fr.nil n0, hEL, by rw [ev]; exact CHr.refl hC, hO, Keep.refl _ _, fun x hx => ⟨(hSf x hx).1, (hSf x hx).2, by rw [ev]; exact hS x hx, Or.inl hx⟩⟩
/-! a call by a contract -/
theorem OCt.back {y : MethodName} {bytes : ByteArray} {maxL : Nat} {ret : Option FieldType} {rm : Room} {as' : Array Value} {Sf : List Addr} {Q : Option Value → Vm → Heap → Prop} {len W : Nat} (hO : Old Z n0 h) (hEL : EW Z a0 EL) (hSf : ∀ x ∈ Sf, n0 ≤ x ∧ x < h.size ∧ Safe Z EL T.vm h x) (hM : OCt l Z a0 EL n0 y bytes maxL ret rm [] as' h Sf Q)
    (hZ : Z.Warmed39 T.vm) (wc : (Jvm.Cond.code y bytes maxL ret).before a0 Z = true) (wz : (Jvm.Cond.initialized y.cls).before a0 Z = true) (hf : rm.frames + 1 ≤ R.frames) (hl : W + (maxL + 11) + rm.locals ≤ R.locals) (H : CHv Z EL T.vm h) :
    BackS l R p e below (s.setVm T.vm) args y len W (fun A a => a = as' ∧ A.U.heap = h ∧ A.cells + rm.cells ≤ R.cells ∧ A.slots + rm.slots ≤ R.slots)
      (fun A _ v B => ∃ L, Q v B.U.vm B.U.heap ∧ Keep h B.U.heap Sf ∧ Fr n0 L ∧ B.locs = A.locs ++ L ∧ B.cells = A.cells + rm.cells ∧ B.slots = A.slots + rm.slots ∧ CHr Z EL T.vm h B.U.vm B.U.heap ∧ (EL = [] → (s.setVm T.vm).WarmedH B.U.vm)) :=
  BackS.of_freeW (bytes := bytes) (maxL := maxL) (ret := ret) (E := fun _ first o t L k n => k = rm.cells ∧ n = rm.slots ∧ (∃ v, o = .returned v ∧ Q v t.vm t.heap ∧ Keep first.heap t.heap Sf ∧ Fr n0 L) ∧ CHr Z EL first.vm first.heap t.vm t.heap ∧ (EL = [] → first.WarmedH t.vm)) (hM hO hEL fun x hx => ⟨(hSf x hx).1, (hSf x hx).2.1⟩) hf hl
    (fun m meth c A a Y hp => have hU : Z.Warmed39 A.U.vm := wtrans (s := s.setVm T.vm) hZ Y.warmed
      ⟨by show (Jvm.Cond.and _ .tt).before a A.U = true; rw [Cond.before_and, mv hU wc]; rfl, mv hU wc, mv hU wz, hp.2.2.1, hp.2.2.2⟩)
    (fun m meth c A a g mk Y hp => ⟨hp.1, wtrans (s := s.setVm T.vm) hZ Y.warmed, hp.2.1, (CHv.at Y hZ hEL H).1, fun x hx => (CHv.at Y hZ hEL H).safe (hSf x hx).2.1 (hSf x hx).2.2⟩) (fun _ _ _ _ _ _ _ _ _ => trivial)
    (fun _ _ _ _ ⟨v, L, h1, ⟨h2, h3, h4⟩, h5, h5', h6⟩ => ⟨L, _, _, h6, rfl, rfl, ⟨v, h1, h2, h3, h4⟩, h5, h5'⟩)
    (fun m meth c A a g mk v t L k n Y hp _ _ ⟨e1, e2, ⟨v', e3, e4, e5, e6⟩, e7, e8⟩ => by
      cases e3; subst e1 e2
      have eh : (A.U.calling g mk a).heap = h := hp.2.1
      rw [eh] at e5 e7
      exact ⟨L, e4, e5, e6, rfl, rfl, rfl, (CHv.at Y hZ hEL H).trans e7, fun q => State.WarmedH.trans (t := A.U) Y.warmed (e8 q)⟩)
/-- behind a call: what every kind of call has in common -/
theorem OPn.behind {y : MethodName} {rm : Room} {Sf : List Addr} {Q : Option Value → Vm → Heap → Prop} {locs : List Loc} {v : Option Value} {B : Pt}
    (hx : p.tables.exec = Jvm.exec) (hlk : meth.locks = false) (hS : OSn EL s T.vm h.size) (hZ : Z.Warmed39 T.vm) (hown : T.vm.findClass own = some m.cls) (eT : T.heap = h) (N : Fr n0 locs) (hEL : EW Z a0 EL) (C : CHr Z EL s.vm s.heap T.vm h) (O : Old Z n0 h) (K : Keep s.heap h W0) (W : ∀ x ∈ Ow, OOwn Z EL n0 W0 s.heap.size T.vm h x) (hsf : ∀ x ∈ Sf, x ∈ Ow)
    (X' : Stand p l e R ((s.setVm T.vm).setVm B.U.vm) m args below meth c B.U B.locs B.cells B.slots) (hS' : (s.setVm T.vm).Since B.U.vm B.U.heap.size) (hle : T.heap.size ≤ B.U.heap.size)
    (hq : ∃ L, Q v B.U.vm B.U.heap ∧ Keep h B.U.heap Sf ∧ Fr n0 L ∧ B.locs = locs ++ L ∧ B.cells = cells + rm.cells ∧ B.slots = slots + rm.slots ∧ CHr Z EL T.vm h B.U.vm B.U.heap ∧ (EL = [] → (s.setVm T.vm).WarmedH B.U.vm)) :
    OPn p l e R s m args below meth c Z a0 EL n0 W0 own B.U B.U.heap Ow (cells + rm.cells) (slots + rm.slots) ∧ Keep h B.U.heap Sf ∧ Q v B.U.vm B.U.heap := by
  subst eT
  obtain ⟨Lc, q, Kq, Nq, e1, e2, e3, Cq, hH⟩ := hq
  rw [e1, e2, e3] at X'
  have hal := hS'.1.alike
  refine ⟨⟨locs ++ Lc, X', hx, hlk, hS.trans ⟨hS', hH⟩ hle, State.Warmed39.trans (t := s.setVm T.vm) hZ hS'.1, (hal.findClass own _).trans hown, rfl, N.app Nq, hEL, C.trans Cq, O.keep Kq fun x hx => (W x (hsf x hx)).1, K.trans Kq fun x hx => (W x (hsf x hx)).2.2.2, fun x hx => ?_⟩, Kq, q⟩
  obtain ⟨r1, r2, r3, r4⟩ := W x hx
  exact ⟨r1, Nat.lt_of_lt_of_le r2 hle, Cq.safe r2 r3, r4⟩
theorem o_iload (P : OPn p l e R s m args below meth c Z a0 EL n0 W0 own T h Ow cells slots) {k0 : Nat} {v : Int32} (hd : decode c.code pc = .ok (.iload k0, 2)) (hl : L[k0]? = some (.val (.int v))) (hp : pc + 2 = pc') (k : OG p e below m Pq T pc' L (.int v :: S)) : OG p e below m Pq T pc L S := by
  subst hp; exact OG.st (fun t q => XS.iload P.here P.ex rfl hd hl q) k
theorem o_iloadN (P : OPn p l e R s m args below meth c Z a0 EL n0 W0 own T h Ow cells slots) {k0 : Fin 4} {v : Int32} (hd : decode c.code pc = .ok (.iload_n k0, 1)) (hl : L[k0.val]? = some (.val (.int v))) (hp : pc + 1 = pc') (k : OG p e below m Pq T pc' L (.int v :: S)) : OG p e below m Pq T pc L S := by
  subst hp; exact OG.st (fun t q => XS.iloadN P.here P.ex rfl hd hl q) k
theorem o_istore (P : OPn p l e R s m args below meth c Z a0 EL n0 W0 own T h Ow cells slots) {k0 : Nat} {v : Int32} (hd : decode c.code pc = .ok (.istore k0, 2)) (hl : storeLocals L k0 (.int v) = some L') (hp : pc + 2 = pc') (k : OG p e below m Pq T pc' L' S) : OG p e below m Pq T pc L (.int v :: S) := by
  subst hp; exact OG.st (fun t q => XS.istore P.here P.ex rfl hd rfl hl q) k
theorem o_istoreN (P : OPn p l e R s m args below meth c Z a0 EL n0 W0 own T h Ow cells slots) {k0 : Fin 4} {v : Int32} (hd : decode c.code pc = .ok (.istore_n k0, 1)) (hl : storeLocals L k0.val (.int v) = some L') (hp : pc + 1 = pc') (k : OG p e below m Pq T pc' L' S) : OG p e below m Pq T pc L (.int v :: S) := by
  subst hp; exact OG.st (fun t q => XS.istoreN P.here P.ex rfl hd rfl hl q) k
theorem o_lload (P : OPn p l e R s m args below meth c Z a0 EL n0 W0 own T h Ow cells slots) {k0 : Nat} {v : Int64} (hd : decode c.code pc = .ok (.lload k0, 2)) (hl : L[k0]? = some (.val (.long v))) (hp : pc + 2 = pc') (k : OG p e below m Pq T pc' L (.long v :: S)) : OG p e below m Pq T pc L S := by
  subst hp; exact OG.st (fun t q => XS.lload P.here P.ex rfl hd hl q) k
theorem o_lloadN (P : OPn p l e R s m args below meth c Z a0 EL n0 W0 own T h Ow cells slots) {k0 : Fin 4} {v : Int64} (hd : decode c.code pc = .ok (.lload_n k0, 1)) (hl : L[k0.val]? = some (.val (.long v))) (hp : pc + 1 = pc') (k : OG p e below m Pq T pc' L (.long v :: S)) : OG p e below m Pq T pc L S := by
  subst hp; exact OG.st (fun t q => XS.lloadN P.here P.ex rfl hd hl q) k
theorem o_lstore (P : OPn p l e R s m args below meth c Z a0 EL n0 W0 own T h Ow cells slots) {k0 : Nat} {v : Int64} (hd : decode c.code pc = .ok (.lstore k0, 2)) (hl : storeLocals L k0 (.long v) = some L') (hp : pc + 2 = pc') (k : OG p e below m Pq T pc' L' S) : OG p e below m Pq T pc L (.long v :: S) := by
  subst hp; exact OG.st (fun t q => XS.lstore P.here P.ex rfl hd rfl hl q) k
theorem o_lstoreN (P : OPn p l e R s m args below meth c Z a0 EL n0 W0 own T h Ow cells slots) {k0 : Fin 4} {v : Int64} (hd : decode c.code pc = .ok (.lstore_n k0, 1)) (hl : storeLocals L k0.val (.long v) = some L') (hp : pc + 1 = pc') (k : OG p e below m Pq T pc' L' S) : OG p e below m Pq T pc L (.long v :: S) := by
  subst hp; exact OG.st (fun t q => XS.lstoreN P.here P.ex rfl hd rfl hl q) k
theorem o_dload (P : OPn p l e R s m args below meth c Z a0 EL n0 W0 own T h Ow cells slots) {k0 : Nat} {v : UInt64} (hd : decode c.code pc = .ok (.dload k0, 2)) (hl : L[k0]? = some (.val (.double v))) (hp : pc + 2 = pc') (k : OG p e below m Pq T pc' L (.double v :: S)) : OG p e below m Pq T pc L S := by
  subst hp; exact OG.st (fun t q => XS.dload P.here P.ex rfl hd hl q) k
theorem o_dloadN (P : OPn p l e R s m args below meth c Z a0 EL n0 W0 own T h Ow cells slots) {k0 : Fin 4} {v : UInt64} (hd : decode c.code pc = .ok (.dload_n k0, 1)) (hl : L[k0.val]? = some (.val (.double v))) (hp : pc + 1 = pc') (k : OG p e below m Pq T pc' L (.double v :: S)) : OG p e below m Pq T pc L S := by
  subst hp; exact OG.st (fun t q => XS.dloadN P.here P.ex rfl hd hl q) k
theorem o_dstore (P : OPn p l e R s m args below meth c Z a0 EL n0 W0 own T h Ow cells slots) {k0 : Nat} {v : UInt64} (hd : decode c.code pc = .ok (.dstore k0, 2)) (hl : storeLocals L k0 (.double v) = some L') (hp : pc + 2 = pc') (k : OG p e below m Pq T pc' L' S) : OG p e below m Pq T pc L (.double v :: S) := by
  subst hp; exact OG.st (fun t q => XS.dstore P.here P.ex rfl hd rfl hl q) k
theorem o_dstoreN (P : OPn p l e R s m args below meth c Z a0 EL n0 W0 own T h Ow cells slots) {k0 : Fin 4} {v : UInt64} (hd : decode c.code pc = .ok (.dstore_n k0, 1)) (hl : storeLocals L k0.val (.double v) = some L') (hp : pc + 1 = pc') (k : OG p e below m Pq T pc' L' S) : OG p e below m Pq T pc L (.double v :: S) := by
  subst hp; exact OG.st (fun t q => XS.dstoreN P.here P.ex rfl hd rfl hl q) k
theorem o_aload (P : OPn p l e R s m args below meth c Z a0 EL n0 W0 own T h Ow cells slots) {k0 : Nat} {v : Value} (hd : decode c.code pc = .ok (.aload k0, 2)) (hl : L[k0]? = some (.val v)) (hv : v.isRef = true) (hp : pc + 2 = pc') (k : OG p e below m Pq T pc' L (v :: S)) : OG p e below m Pq T pc L S := by
  subst hp; exact OG.st (fun t q => XS.aload P.here P.ex rfl hd hl hv q) k
theorem o_aloadN (P : OPn p l e R s m args below meth c Z a0 EL n0 W0 own T h Ow cells slots) {k0 : Fin 4} {v : Value} (hd : decode c.code pc = .ok (.aload_n k0, 1)) (hl : L[k0.val]? = some (.val v)) (hv : v.isRef = true) (hp : pc + 1 = pc') (k : OG p e below m Pq T pc' L (v :: S)) : OG p e below m Pq T pc L S := by
  subst hp; exact OG.st (fun t q => XS.aloadN P.here P.ex rfl hd hl hv q) k
theorem o_astore (P : OPn p l e R s m args below meth c Z a0 EL n0 W0 own T h Ow cells slots) {k0 : Nat} {v : Value} (hd : decode c.code pc = .ok (.astore k0, 2)) (hv : v.isRef = true) (hl : storeLocals L k0 v = some L') (hp : pc + 2 = pc') (k : OG p e below m Pq T pc' L' S) : OG p e below m Pq T pc L (v :: S) := by
  subst hp; exact OG.st (fun t q => XS.astore P.here P.ex rfl hd rfl hv hl q) k
theorem o_astoreN (P : OPn p l e R s m args below meth c Z a0 EL n0 W0 own T h Ow cells slots) {k0 : Fin 4} {v : Value} (hd : decode c.code pc = .ok (.astore_n k0, 1)) (hv : v.isRef = true) (hl : storeLocals L k0.val v = some L') (hp : pc + 1 = pc') (k : OG p e below m Pq T pc' L' S) : OG p e below m Pq T pc L (v :: S) := by
  subst hp; exact OG.st (fun t q => XS.astoreN P.here P.ex rfl hd rfl hv hl q) k
theorem o_iconst (P : OPn p l e R s m args below meth c Z a0 EL n0 W0 own T h Ow cells slots) {i : Int} (v : Int32) (hd : decode c.code pc = .ok (.iconst i, 1)) (hv : Int32.ofInt i = v) (hp : pc + 1 = pc') (k : OG p e below m Pq T pc' L (.int v :: S)) : OG p e below m Pq T pc L S := by
  subst hp; exact OG.st (fun t q => XS.iconst P.here P.ex rfl hd (hv ▸ q)) k
theorem o_bipush (P : OPn p l e R s m args below meth c Z a0 EL n0 W0 own T h Ow cells slots) {i : Int} (v : Int32) (hd : decode c.code pc = .ok (.bipush i, 2)) (hv : (Int8.ofInt i).toInt32 = v) (hp : pc + 2 = pc') (k : OG p e below m Pq T pc' L (.int v :: S)) : OG p e below m Pq T pc L S := by
  subst hp; exact OG.st (fun t q => XS.bipush P.here P.ex rfl hd (hv ▸ q)) k
theorem o_sipush (P : OPn p l e R s m args below meth c Z a0 EL n0 W0 own T h Ow cells slots) {i : Int} (v : Int32) (hd : decode c.code pc = .ok (.sipush i, 3)) (hv : (Int16.ofInt i).toInt32 = v) (hp : pc + 3 = pc') (k : OG p e below m Pq T pc' L (.int v :: S)) : OG p e below m Pq T pc L S := by
  subst hp; exact OG.st (fun t q => XS.sipush P.here P.ex rfl hd (hv ▸ q)) k
theorem o_lconst (P : OPn p l e R s m args below meth c Z a0 EL n0 W0 own T h Ow cells slots) {i : Fin 2} (v : Int64) (hd : decode c.code pc = .ok (.lconst i, 1)) (hv : Int64.ofNat i = v) (hp : pc + 1 = pc') (k : OG p e below m Pq T pc' L (.long v :: S)) : OG p e below m Pq T pc L S := by
  subst hp; exact OG.st (fun t q => XS.lconst P.here P.ex rfl hd (hv ▸ q)) k
theorem o_dconst0 (P : OPn p l e R s m args below meth c Z a0 EL n0 W0 own T h Ow cells slots) {v : UInt64} (hd : decode c.code pc = .ok (.dconst 0, 1)) (hv : FP.dconst0 = v) (hp : pc + 1 = pc') (k : OG p e below m Pq T pc' L (.double v :: S)) : OG p e below m Pq T pc L S := by
  subst hp; exact OG.st (fun t q => XS.dconst0 P.here P.ex rfl hd hv q) k
theorem o_dconst1 (P : OPn p l e R s m args below meth c Z a0 EL n0 W0 own T h Ow cells slots) {v : UInt64} (hd : decode c.code pc = .ok (.dconst 1, 1)) (hv : FP.dconst1 = v) (hp : pc + 1 = pc') (k : OG p e below m Pq T pc' L (.double v :: S)) : OG p e below m Pq T pc L S := by
  subst hp; exact OG.st (fun t q => XS.dconst1 P.here P.ex rfl hd hv q) k
theorem o_aconstNull (P : OPn p l e R s m args below meth c Z a0 EL n0 W0 own T h Ow cells slots)  (hd : decode c.code pc = .ok (.aconst_null, 1)) (hp : pc + 1 = pc') (k : OG p e below m Pq T pc' L (.null :: S)) : OG p e below m Pq T pc L S := by
  subst hp; exact OG.st (fun t q => XS.aconstNull P.here P.ex rfl hd q) k
theorem o_iadd (P : OPn p l e R s m args below meth c Z a0 EL n0 W0 own T h Ow cells slots) {x y : Int32} (hd : decode c.code pc = .ok (.iadd, 1)) (hp : pc + 1 = pc') (k : OG p e below m Pq T pc' L (.int (x + y) :: S)) : OG p e below m Pq T pc L (.int y :: .int x :: S) := by
  subst hp; exact OG.st (fun t q => XS.iadd P.here P.ex rfl hd rfl q) k
theorem o_ladd (P : OPn p l e R s m args below meth c Z a0 EL n0 W0 own T h Ow cells slots) {x y : Int64} (hd : decode c.code pc = .ok (.ladd, 1)) (hp : pc + 1 = pc') (k : OG p e below m Pq T pc' L (.long (x + y) :: S)) : OG p e below m Pq T pc L (.long y :: .long x :: S) := by
  subst hp; exact OG.st (fun t q => XS.ladd P.here P.ex rfl hd rfl q) k
theorem o_isub (P : OPn p l e R s m args below meth c Z a0 EL n0 W0 own T h Ow cells slots) {x y : Int32} (hd : decode c.code pc = .ok (.isub, 1)) (hp : pc + 1 = pc') (k : OG p e below m Pq T pc' L (.int (x - y) :: S)) : OG p e below m Pq T pc L (.int y :: .int x :: S) := by
  subst hp; exact OG.st (fun t q => XS.isub P.here P.ex rfl hd rfl q) k
theorem o_lsub (P : OPn p l e R s m args below meth c Z a0 EL n0 W0 own T h Ow cells slots) {x y : Int64} (hd : decode c.code pc = .ok (.lsub, 1)) (hp : pc + 1 = pc') (k : OG p e below m Pq T pc' L (.long (x - y) :: S)) : OG p e below m Pq T pc L (.long y :: .long x :: S) := by
  subst hp; exact OG.st (fun t q => XS.lsub P.here P.ex rfl hd rfl q) k
theorem o_imul (P : OPn p l e R s m args below meth c Z a0 EL n0 W0 own T h Ow cells slots) {x y : Int32} (hd : decode c.code pc = .ok (.imul, 1)) (hp : pc + 1 = pc') (k : OG p e below m Pq T pc' L (.int (x * y) :: S)) : OG p e below m Pq T pc L (.int y :: .int x :: S) := by
  subst hp; exact OG.st (fun t q => XS.imul P.here P.ex rfl hd rfl q) k
theorem o_lmul (P : OPn p l e R s m args below meth c Z a0 EL n0 W0 own T h Ow cells slots) {x y : Int64} (hd : decode c.code pc = .ok (.lmul, 1)) (hp : pc + 1 = pc') (k : OG p e below m Pq T pc' L (.long (x * y) :: S)) : OG p e below m Pq T pc L (.long y :: .long x :: S) := by
  subst hp; exact OG.st (fun t q => XS.lmul P.here P.ex rfl hd rfl q) k
theorem o_iand (P : OPn p l e R s m args below meth c Z a0 EL n0 W0 own T h Ow cells slots) {x y : Int32} (hd : decode c.code pc = .ok (.iand, 1)) (hp : pc + 1 = pc') (k : OG p e below m Pq T pc' L (.int (x &&& y) :: S)) : OG p e below m Pq T pc L (.int y :: .int x :: S) := by
  subst hp; exact OG.st (fun t q => XS.iand P.here P.ex rfl hd rfl q) k
theorem o_land (P : OPn p l e R s m args below meth c Z a0 EL n0 W0 own T h Ow cells slots) {x y : Int64} (hd : decode c.code pc = .ok (.land, 1)) (hp : pc + 1 = pc') (k : OG p e below m Pq T pc' L (.long (x &&& y) :: S)) : OG p e below m Pq T pc L (.long y :: .long x :: S) := by
  subst hp; exact OG.st (fun t q => XS.land P.here P.ex rfl hd rfl q) k
theorem o_ior (P : OPn p l e R s m args below meth c Z a0 EL n0 W0 own T h Ow cells slots) {x y : Int32} (hd : decode c.code pc = .ok (.ior, 1)) (hp : pc + 1 = pc') (k : OG p e below m Pq T pc' L (.int (x ||| y) :: S)) : OG p e below m Pq T pc L (.int y :: .int x :: S) := by
  subst hp; exact OG.st (fun t q => XS.ior P.here P.ex rfl hd rfl q) k
theorem o_lor (P : OPn p l e R s m args below meth c Z a0 EL n0 W0 own T h Ow cells slots) {x y : Int64} (hd : decode c.code pc = .ok (.lor, 1)) (hp : pc + 1 = pc') (k : OG p e below m Pq T pc' L (.long (x ||| y) :: S)) : OG p e below m Pq T pc L (.long y :: .long x :: S) := by
  subst hp; exact OG.st (fun t q => XS.lor P.here P.ex rfl hd rfl q) k
theorem o_ixor (P : OPn p l e R s m args below meth c Z a0 EL n0 W0 own T h Ow cells slots) {x y : Int32} (hd : decode c.code pc = .ok (.ixor, 1)) (hp : pc + 1 = pc') (k : OG p e below m Pq T pc' L (.int (x ^^^ y) :: S)) : OG p e below m Pq T pc L (.int y :: .int x :: S) := by
  subst hp; exact OG.st (fun t q => XS.ixor P.here P.ex rfl hd rfl q) k
theorem o_lxor (P : OPn p l e R s m args below meth c Z a0 EL n0 W0 own T h Ow cells slots) {x y : Int64} (hd : decode c.code pc = .ok (.lxor, 1)) (hp : pc + 1 = pc') (k : OG p e below m Pq T pc' L (.long (x ^^^ y) :: S)) : OG p e below m Pq T pc L (.long y :: .long x :: S) := by
  subst hp; exact OG.st (fun t q => XS.lxor P.here P.ex rfl hd rfl q) k
theorem o_idiv (P : OPn p l e R s m args below meth c Z a0 EL n0 W0 own T h Ow cells slots) {x y : Int32} (hd : decode c.code pc = .ok (.idiv, 1)) (hy : y ≠ 0) (hp : pc + 1 = pc') (k : OG p e below m Pq T pc' L (.int (x / y) :: S)) : OG p e below m Pq T pc L (.int y :: .int x :: S) := by
  subst hp; exact OG.st (fun t q => XS.idiv P.here P.ex rfl hd rfl hy q) k
theorem o_ldiv (P : OPn p l e R s m args below meth c Z a0 EL n0 W0 own T h Ow cells slots) {x y : Int64} (hd : decode c.code pc = .ok (.ldiv, 1)) (hy : y ≠ 0) (hp : pc + 1 = pc') (k : OG p e below m Pq T pc' L (.long (x / y) :: S)) : OG p e below m Pq T pc L (.long y :: .long x :: S) := by
  subst hp; exact OG.st (fun t q => XS.ldiv P.here P.ex rfl hd rfl hy q) k
theorem o_irem (P : OPn p l e R s m args below meth c Z a0 EL n0 W0 own T h Ow cells slots) {x y : Int32} (hd : decode c.code pc = .ok (.irem, 1)) (hy : y ≠ 0) (hp : pc + 1 = pc') (k : OG p e below m Pq T pc' L (.int (x % y) :: S)) : OG p e below m Pq T pc L (.int y :: .int x :: S) := by
  subst hp; exact OG.st (fun t q => XS.irem P.here P.ex rfl hd rfl hy (by rw [irem_eq_mod]; exact q)) k
theorem o_lrem (P : OPn p l e R s m args below meth c Z a0 EL n0 W0 own T h Ow cells slots) {x y : Int64} (hd : decode c.code pc = .ok (.lrem, 1)) (hy : y ≠ 0) (hp : pc + 1 = pc') (k : OG p e below m Pq T pc' L (.long (x % y) :: S)) : OG p e below m Pq T pc L (.long y :: .long x :: S) := by
  subst hp; exact OG.st (fun t q => XS.lrem P.here P.ex rfl hd rfl hy (by rw [lrem_mod]; exact q)) k
theorem o_ineg (P : OPn p l e R s m args below meth c Z a0 EL n0 W0 own T h Ow cells slots) {x : Int32} (hd : decode c.code pc = .ok (.ineg, 1)) (hp : pc + 1 = pc') (k : OG p e below m Pq T pc' L (.int (-x) :: S)) : OG p e below m Pq T pc L (.int x :: S) := by
  subst hp; exact OG.st (fun t q => XS.ineg P.here P.ex rfl hd rfl q) k
theorem o_lneg (P : OPn p l e R s m args below meth c Z a0 EL n0 W0 own T h Ow cells slots) {x : Int64} (hd : decode c.code pc = .ok (.lneg, 1)) (hp : pc + 1 = pc') (k : OG p e below m Pq T pc' L (.long (-x) :: S)) : OG p e below m Pq T pc L (.long x :: S) := by
  subst hp; exact OG.st (fun t q => XS.lneg P.here P.ex rfl hd rfl q) k
theorem o_ishl (P : OPn p l e R s m args below meth c Z a0 EL n0 W0 own T h Ow cells slots) {x y : Int32} (hd : decode c.code pc = .ok (.ishl, 1)) (hp : pc + 1 = pc') (k : OG p e below m Pq T pc' L (.int (x <<< (y &&& 31)) :: S)) : OG p e below m Pq T pc L (.int y :: .int x :: S) := by
  subst hp; exact OG.st (fun t q => XS.ishl P.here P.ex rfl hd rfl q) k
theorem o_ishr (P : OPn p l e R s m args below meth c Z a0 EL n0 W0 own T h Ow cells slots) {x y : Int32} (hd : decode c.code pc = .ok (.ishr, 1)) (hp : pc + 1 = pc') (k : OG p e below m Pq T pc' L (.int (x >>> (y &&& 31)) :: S)) : OG p e below m Pq T pc L (.int y :: .int x :: S) := by
  subst hp; exact OG.st (fun t q => XS.ishr P.here P.ex rfl hd rfl q) k
theorem o_iushr (P : OPn p l e R s m args below meth c Z a0 EL n0 W0 own T h Ow cells slots) {x y : Int32} (hd : decode c.code pc = .ok (.iushr, 1)) (hp : pc + 1 = pc') (k : OG p e below m Pq T pc' L (.int ((x.toUInt32 >>> (y &&& 31).toUInt32).toInt32) :: S)) : OG p e below m Pq T pc L (.int y :: .int x :: S) := by
  subst hp; exact OG.st (fun t q => XS.iushr P.here P.ex rfl hd rfl q) k
theorem o_lshl (P : OPn p l e R s m args below meth c Z a0 EL n0 W0 own T h Ow cells slots) {x : Int64} {y : Int32} (hd : decode c.code pc = .ok (.lshl, 1)) (hp : pc + 1 = pc') (k : OG p e below m Pq T pc' L (.long (x <<< (y &&& 0x3f).toInt64) :: S)) : OG p e below m Pq T pc L (.int y :: .long x :: S) := by
  subst hp; exact OG.st (fun t q => XS.lshl P.here P.ex rfl hd rfl q) k
theorem o_lshr (P : OPn p l e R s m args below meth c Z a0 EL n0 W0 own T h Ow cells slots) {x : Int64} {y : Int32} (hd : decode c.code pc = .ok (.lshr, 1)) (hp : pc + 1 = pc') (k : OG p e below m Pq T pc' L (.long (x >>> (y &&& 0x3f).toInt64) :: S)) : OG p e below m Pq T pc L (.int y :: .long x :: S) := by
  subst hp; exact OG.st (fun t q => XS.lshr P.here P.ex rfl hd rfl q) k
theorem o_lushr (P : OPn p l e R s m args below meth c Z a0 EL n0 W0 own T h Ow cells slots) {x : Int64} {y : Int32} (hd : decode c.code pc = .ok (.lushr, 1)) (hp : pc + 1 = pc') (k : OG p e below m Pq T pc' L (.long ((x.toUInt64 >>> (y &&& 0x3f).toInt64.toUInt64).toInt64) :: S)) : OG p e below m Pq T pc L (.int y :: .long x :: S) := by
  subst hp; exact OG.st (fun t q => XS.lushr P.here P.ex rfl hd rfl q) k
theorem o_i2l (P : OPn p l e R s m args below meth c Z a0 EL n0 W0 own T h Ow cells slots) {x : Int32} (hd : decode c.code pc = .ok (.i2l, 1)) (hp : pc + 1 = pc') (k : OG p e below m Pq T pc' L (.long (x.toInt64) :: S)) : OG p e below m Pq T pc L (.int x :: S) := by
  subst hp; exact OG.st (fun t q => XS.i2l P.here P.ex rfl hd rfl q) k
theorem o_l2i (P : OPn p l e R s m args below meth c Z a0 EL n0 W0 own T h Ow cells slots) {x : Int64} (hd : decode c.code pc = .ok (.l2i, 1)) (hp : pc + 1 = pc') (k : OG p e below m Pq T pc' L (.int (x.toInt32) :: S)) : OG p e below m Pq T pc L (.long x :: S) := by
  subst hp; exact OG.st (fun t q => XS.l2i P.here P.ex rfl hd rfl q) k
theorem o_i2b (P : OPn p l e R s m args below meth c Z a0 EL n0 W0 own T h Ow cells slots) {x : Int32} (hd : decode c.code pc = .ok (.i2b, 1)) (hp : pc + 1 = pc') (k : OG p e below m Pq T pc' L (.int (x.toInt8.toInt32) :: S)) : OG p e below m Pq T pc L (.int x :: S) := by
  subst hp; exact OG.st (fun t q => XS.i2b P.here P.ex rfl hd rfl q) k
theorem o_i2s (P : OPn p l e R s m args below meth c Z a0 EL n0 W0 own T h Ow cells slots) {x : Int32} (hd : decode c.code pc = .ok (.i2s, 1)) (hp : pc + 1 = pc') (k : OG p e below m Pq T pc' L (.int (x.toInt16.toInt32) :: S)) : OG p e below m Pq T pc L (.int x :: S) := by
  subst hp; exact OG.st (fun t q => XS.i2s P.here P.ex rfl hd rfl q) k
theorem o_i2c (P : OPn p l e R s m args below meth c Z a0 EL n0 W0 own T h Ow cells slots) {x : Int32} (hd : decode c.code pc = .ok (.i2c, 1)) (hp : pc + 1 = pc') (k : OG p e below m Pq T pc' L (.int (x.toUInt32.toUInt16.toUInt32.toInt32) :: S)) : OG p e below m Pq T pc L (.int x :: S) := by
  subst hp; exact OG.st (fun t q => XS.i2c P.here P.ex rfl hd rfl q) k
theorem o_lcmp (P : OPn p l e R s m args below meth c Z a0 EL n0 W0 own T h Ow cells slots) {x y : Int64} (hd : decode c.code pc = .ok (.lcmp, 1)) (hp : pc + 1 = pc') (k : OG p e below m Pq T pc' L (.int (lcmpW x y) :: S)) : OG p e below m Pq T pc L (.long y :: .long x :: S) := by
  subst hp; exact OG.st (fun t q => XS.lcmp P.here P.ex rfl hd rfl q) k
theorem o_i2d (P : OPn p l e R s m args below meth c Z a0 EL n0 W0 own T h Ow cells slots) {x : Int32} {v : UInt64} (hd : decode c.code pc = .ok (.i2d, 1)) (hv : FP.i2d x = v) (hp : pc + 1 = pc') (k : OG p e below m Pq T pc' L (.double v :: S)) : OG p e below m Pq T pc L (.int x :: S) := by
  subst hp; exact OG.st (fun t q => XS.i2dS P.here P.ex rfl hd rfl hv q) k
theorem o_dadd (P : OPn p l e R s m args below meth c Z a0 EL n0 W0 own T h Ow cells slots) {x y v : UInt64} (hd : decode c.code pc = .ok (.dadd, 1)) (hn : Jvm.Free.Fl.NoNaN64 (FP.dadd x y)) (hv : FP.dadd x y = v) (hp : pc + 1 = pc') (k : OG p e below m Pq T pc' L (.double v :: S)) : OG p e below m Pq T pc L (.double y :: .double x :: S) := by
  subst hp; exact OG.st (fun t q => XS.daddS P.here P.ex rfl hd rfl hn hv q) k
theorem o_dmul (P : OPn p l e R s m args below meth c Z a0 EL n0 W0 own T h Ow cells slots) {x y v : UInt64} (hd : decode c.code pc = .ok (.dmul, 1)) (hn : Jvm.Free.Fl.NoNaN64 (FP.dmul x y)) (hv : FP.dmul x y = v) (hp : pc + 1 = pc') (k : OG p e below m Pq T pc' L (.double v :: S)) : OG p e below m Pq T pc L (.double y :: .double x :: S) := by
  subst hp; exact OG.st (fun t q => XS.dmulS P.here P.ex rfl hd rfl hn hv q) k
theorem o_ddiv (P : OPn p l e R s m args below meth c Z a0 EL n0 W0 own T h Ow cells slots) {x y v : UInt64} (hd : decode c.code pc = .ok (.ddiv, 1)) (hn : Jvm.Free.Fl.NoNaN64 (FP.ddiv x y)) (hv : FP.ddiv x y = v) (hp : pc + 1 = pc') (k : OG p e below m Pq T pc' L (.double v :: S)) : OG p e below m Pq T pc L (.double y :: .double x :: S) := by
  subst hp; exact OG.st (fun t q => XS.ddivS P.here P.ex rfl hd rfl hn hv q) k
theorem o_dcmp (P : OPn p l e R s m args below meth c Z a0 EL n0 W0 own T h Ow cells slots) {o : CmpOp} {x y : UInt64} {v : Int32} (hd : decode c.code pc = .ok (.dcmp o, 1)) (hv : cmpValue (FP.dcmp x y) o = v) (hp : pc + 1 = pc') (k : OG p e below m Pq T pc' L (.int v :: S)) : OG p e below m Pq T pc L (.double y :: .double x :: S) := by
  subst hp; exact OG.st (fun t q => XS.dcmpS P.here P.ex rfl hd rfl hv q) k
theorem o_dup (P : OPn p l e R s m args below meth c Z a0 EL n0 W0 own T h Ow cells slots) {x : Value} (hd : decode c.code pc = .ok (.dup, 1)) (hc : x.category = 1) (hp : pc + 1 = pc') (k : OG p e below m Pq T pc' L (x :: x :: S)) : OG p e below m Pq T pc L (x :: S) := by
  subst hp; exact OG.st (fun t q => XS.dup P.here P.ex rfl hd rfl hc q) k
theorem o_pop (P : OPn p l e R s m args below meth c Z a0 EL n0 W0 own T h Ow cells slots) {x : Value} (hd : decode c.code pc = .ok (.pop, 1)) (hc : x.category = 1) (hp : pc + 1 = pc') (k : OG p e below m Pq T pc' L S) : OG p e below m Pq T pc L (x :: S) := by
  subst hp; exact OG.st (fun t q => XS.pop P.here P.ex rfl hd rfl hc q) k
theorem o_swap (P : OPn p l e R s m args below meth c Z a0 EL n0 W0 own T h Ow cells slots) {x y : Value} (hd : decode c.code pc = .ok (.swap, 1)) (hc : x.category = 1) (hc2 : y.category = 1) (hp : pc + 1 = pc') (k : OG p e below m Pq T pc' L (y :: x :: S)) : OG p e below m Pq T pc L (x :: y :: S) := by
  subst hp; exact OG.st (fun t q => XS.swap P.here P.ex rfl hd rfl hc hc2 q) k
theorem o_dupX1 (P : OPn p l e R s m args below meth c Z a0 EL n0 W0 own T h Ow cells slots) {x y : Value} (hd : decode c.code pc = .ok (.dup_x1, 1)) (hc : x.category = 1) (hc2 : y.category = 1) (hp : pc + 1 = pc') (k : OG p e below m Pq T pc' L (x :: y :: x :: S)) : OG p e below m Pq T pc L (x :: y :: S) := by
  subst hp; exact OG.st (fun t q => XS.dupX1 P.here P.ex rfl hd rfl hc hc2 q) k
theorem o_dup2 (P : OPn p l e R s m args below meth c Z a0 EL n0 W0 own T h Ow cells slots) {x y : Value} (hd : decode c.code pc = .ok (.dup2, 1)) (hc : x.category = 1) (hc2 : y.category = 1) (hp : pc + 1 = pc') (k : OG p e below m Pq T pc' L (x :: y :: x :: y :: S)) : OG p e below m Pq T pc L (x :: y :: S) := by
  subst hp; exact OG.st (fun t q => Jvm.Free.XT.dup2 P.here P.ex rfl hd rfl hc hc2 q) k
theorem o_dup2L (P : OPn p l e R s m args below meth c Z a0 EL n0 W0 own T h Ow cells slots) {x : Int64} (hd : decode c.code pc = .ok (.dup2, 1)) (hp : pc + 1 = pc') (k : OG p e below m Pq T pc' L (.long x :: .long x :: S)) : OG p e below m Pq T pc L (.long x :: S) := by
  subst hp; exact OG.st (fun t q => Jvm.Free.XT.dup2L P.here P.ex rfl hd rfl q) k
theorem o_iinc (P : OPn p l e R s m args below meth c Z a0 EL n0 W0 own T h Ow cells slots) {k0 : Nat} {i : Int} {x : Int32} (v : Int32) (hd : decode c.code pc = .ok (.iinc k0 i, 3)) (hv : Int32.ofInt i = v) (hl : L[k0]? = some (.val (.int x))) (hl' : storeLocals L k0 (.int (x + v)) = some L') (hp : pc + 3 = pc') (k : OG p e below m Pq T pc' L' S) : OG p e below m Pq T pc L S := by
  subst hp; exact OG.st (fun t q => XS.iinc P.here P.ex rfl hd hl (hv ▸ hl') q) k
theorem o_goto (P : OPn p l e R s m args below meth c Z a0 EL n0 W0 own T h Ow cells slots) {o : Int} (hd : decode c.code pc = .ok (.goto o, 3)) (ho : 0 ≤ (pc : Int) + o) (hp : ((pc : Int) + o).toNat = pc') (k : OG p e below m Pq T pc' L S) : OG p e below m Pq T pc L S :=
  OG.st (fun t q => XS.goto P.here P.ex rfl rfl hd ho hp q) k
theorem o_icmp_lt (P : OPn p l e R s m args below meth c Z a0 EL n0 W0 own T h Ow cells slots) {o : Int} {x y : Int32} {pcf : Nat} (hd : decode c.code pc = .ok (.if_icmp .lt o, 3)) (ho : 0 ≤ (pc : Int) + o) (hp : ((pc : Int) + o).toNat = pc') (hq : pc + 3 = pcf) (k1 : x < y → OG p e below m Pq T pc' L S) (k2 : ¬ x < y → OG p e below m Pq T pcf L S) : OG p e below m Pq T pc L (.int y :: .int x :: S) := by
  by_cases q : x < y
  · exact OG.st (fun t r => XS.icmpYes P.here P.ex rfl rfl hd rfl (tlt q).1 ho hp r) (k1 q)
  · subst hq; exact OG.st (fun t r => XS.icmpNo P.here P.ex rfl hd rfl (flt q).1 r) (k2 q)
theorem o_if_lt (P : OPn p l e R s m args below meth c Z a0 EL n0 W0 own T h Ow cells slots) {o : Int} {x : Int32} {pcf : Nat} (hd : decode c.code pc = .ok (.ifCond .lt o, 3)) (ho : 0 ≤ (pc : Int) + o) (hp : ((pc : Int) + o).toNat = pc') (hq : pc + 3 = pcf) (k1 : x < (0 : Int32) → OG p e below m Pq T pc' L S) (k2 : ¬ x < (0 : Int32) → OG p e below m Pq T pcf L S) : OG p e below m Pq T pc L (.int x :: S) := by
  by_cases q : x < (0 : Int32)
  · exact OG.st (fun t r => XS.ifYes P.here P.ex rfl rfl hd rfl ((if0 _ _).trans (tlt q).1) ho hp r) (k1 q)
  · subst hq; exact OG.st (fun t r => XS.ifNo P.here P.ex rfl hd rfl ((if0 _ _).trans (flt q).1) r) (k2 q)
theorem o_icmp_ge (P : OPn p l e R s m args below meth c Z a0 EL n0 W0 own T h Ow cells slots) {o : Int} {x y : Int32} {pcf : Nat} (hd : decode c.code pc = .ok (.if_icmp .ge o, 3)) (ho : 0 ≤ (pc : Int) + o) (hp : ((pc : Int) + o).toNat = pc') (hq : pc + 3 = pcf) (k1 : ¬ x < y → OG p e below m Pq T pc' L S) (k2 : x < y → OG p e below m Pq T pcf L S) : OG p e below m Pq T pc L (.int y :: .int x :: S) := by
  by_cases q : x < y
  · subst hq; exact OG.st (fun t r => XS.icmpNo P.here P.ex rfl hd rfl (tlt q).2.1 r) (k2 q)
  · exact OG.st (fun t r => XS.icmpYes P.here P.ex rfl rfl hd rfl (flt q).2.1 ho hp r) (k1 q)
theorem o_if_ge (P : OPn p l e R s m args below meth c Z a0 EL n0 W0 own T h Ow cells slots) {o : Int} {x : Int32} {pcf : Nat} (hd : decode c.code pc = .ok (.ifCond .ge o, 3)) (ho : 0 ≤ (pc : Int) + o) (hp : ((pc : Int) + o).toNat = pc') (hq : pc + 3 = pcf) (k1 : ¬ x < (0 : Int32) → OG p e below m Pq T pc' L S) (k2 : x < (0 : Int32) → OG p e below m Pq T pcf L S) : OG p e below m Pq T pc L (.int x :: S) := by
  by_cases q : x < (0 : Int32)
  · subst hq; exact OG.st (fun t r => XS.ifNo P.here P.ex rfl hd rfl ((if0 _ _).trans (tlt q).2.1) r) (k2 q)
  · exact OG.st (fun t r => XS.ifYes P.here P.ex rfl rfl hd rfl ((if0 _ _).trans (flt q).2.1) ho hp r) (k1 q)
theorem o_icmp_gt (P : OPn p l e R s m args below meth c Z a0 EL n0 W0 own T h Ow cells slots) {o : Int} {x y : Int32} {pcf : Nat} (hd : decode c.code pc = .ok (.if_icmp .gt o, 3)) (ho : 0 ≤ (pc : Int) + o) (hp : ((pc : Int) + o).toNat = pc') (hq : pc + 3 = pcf) (k1 : y < x → OG p e below m Pq T pc' L S) (k2 : ¬ y < x → OG p e below m Pq T pcf L S) : OG p e below m Pq T pc L (.int y :: .int x :: S) := by
  by_cases q : y < x
  · exact OG.st (fun t r => XS.icmpYes P.here P.ex rfl rfl hd rfl (tlt q).2.2.1 ho hp r) (k1 q)
  · subst hq; exact OG.st (fun t r => XS.icmpNo P.here P.ex rfl hd rfl (flt q).2.2.1 r) (k2 q)
theorem o_if_gt (P : OPn p l e R s m args below meth c Z a0 EL n0 W0 own T h Ow cells slots) {o : Int} {x : Int32} {pcf : Nat} (hd : decode c.code pc = .ok (.ifCond .gt o, 3)) (ho : 0 ≤ (pc : Int) + o) (hp : ((pc : Int) + o).toNat = pc') (hq : pc + 3 = pcf) (k1 : (0 : Int32) < x → OG p e below m Pq T pc' L S) (k2 : ¬ (0 : Int32) < x → OG p e below m Pq T pcf L S) : OG p e below m Pq T pc L (.int x :: S) := by
  by_cases q : (0 : Int32) < x
  · exact OG.st (fun t r => XS.ifYes P.here P.ex rfl rfl hd rfl ((if0 _ _).trans (tlt q).2.2.1) ho hp r) (k1 q)
  · subst hq; exact OG.st (fun t r => XS.ifNo P.here P.ex rfl hd rfl ((if0 _ _).trans (flt q).2.2.1) r) (k2 q)
theorem o_icmp_le (P : OPn p l e R s m args below meth c Z a0 EL n0 W0 own T h Ow cells slots) {o : Int} {x y : Int32} {pcf : Nat} (hd : decode c.code pc = .ok (.if_icmp .le o, 3)) (ho : 0 ≤ (pc : Int) + o) (hp : ((pc : Int) + o).toNat = pc') (hq : pc + 3 = pcf) (k1 : ¬ y < x → OG p e below m Pq T pc' L S) (k2 : y < x → OG p e below m Pq T pcf L S) : OG p e below m Pq T pc L (.int y :: .int x :: S) := by
  by_cases q : y < x
  · subst hq; exact OG.st (fun t r => XS.icmpNo P.here P.ex rfl hd rfl (tlt q).2.2.2 r) (k2 q)
  · exact OG.st (fun t r => XS.icmpYes P.here P.ex rfl rfl hd rfl (flt q).2.2.2 ho hp r) (k1 q)
theorem o_if_le (P : OPn p l e R s m args below meth c Z a0 EL n0 W0 own T h Ow cells slots) {o : Int} {x : Int32} {pcf : Nat} (hd : decode c.code pc = .ok (.ifCond .le o, 3)) (ho : 0 ≤ (pc : Int) + o) (hp : ((pc : Int) + o).toNat = pc') (hq : pc + 3 = pcf) (k1 : ¬ (0 : Int32) < x → OG p e below m Pq T pc' L S) (k2 : (0 : Int32) < x → OG p e below m Pq T pcf L S) : OG p e below m Pq T pc L (.int x :: S) := by
  by_cases q : (0 : Int32) < x
  · subst hq; exact OG.st (fun t r => XS.ifNo P.here P.ex rfl hd rfl ((if0 _ _).trans (tlt q).2.2.2) r) (k2 q)
  · exact OG.st (fun t r => XS.ifYes P.here P.ex rfl rfl hd rfl ((if0 _ _).trans (flt q).2.2.2) ho hp r) (k1 q)
theorem o_icmp_eq (P : OPn p l e R s m args below meth c Z a0 EL n0 W0 own T h Ow cells slots) {o : Int} {x y : Int32} {pcf : Nat} (hd : decode c.code pc = .ok (.if_icmp .eq o, 3)) (ho : 0 ≤ (pc : Int) + o) (hp : ((pc : Int) + o).toNat = pc') (hq : pc + 3 = pcf) (k1 : x = y → OG p e below m Pq T pc' L S) (k2 : ¬ x = y → OG p e below m Pq T pcf L S) : OG p e below m Pq T pc L (.int y :: .int x :: S) := by
  by_cases q : x = y
  · exact OG.st (fun t r => XS.icmpYes P.here P.ex rfl rfl hd rfl (teq q).1 ho hp r) (k1 q)
  · subst hq; exact OG.st (fun t r => XS.icmpNo P.here P.ex rfl hd rfl (feq q).1 r) (k2 q)
theorem o_if_eq (P : OPn p l e R s m args below meth c Z a0 EL n0 W0 own T h Ow cells slots) {o : Int} {x : Int32} {pcf : Nat} (hd : decode c.code pc = .ok (.ifCond .eq o, 3)) (ho : 0 ≤ (pc : Int) + o) (hp : ((pc : Int) + o).toNat = pc') (hq : pc + 3 = pcf) (k1 : x = (0 : Int32) → OG p e below m Pq T pc' L S) (k2 : ¬ x = (0 : Int32) → OG p e below m Pq T pcf L S) : OG p e below m Pq T pc L (.int x :: S) := by
  by_cases q : x = (0 : Int32)
  · exact OG.st (fun t r => XS.ifYes P.here P.ex rfl rfl hd rfl ((if0 _ _).trans (teq q).1) ho hp r) (k1 q)
  · subst hq; exact OG.st (fun t r => XS.ifNo P.here P.ex rfl hd rfl ((if0 _ _).trans (feq q).1) r) (k2 q)
theorem o_icmp_ne (P : OPn p l e R s m args below meth c Z a0 EL n0 W0 own T h Ow cells slots) {o : Int} {x y : Int32} {pcf : Nat} (hd : decode c.code pc = .ok (.if_icmp .ne o, 3)) (ho : 0 ≤ (pc : Int) + o) (hp : ((pc : Int) + o).toNat = pc') (hq : pc + 3 = pcf) (k1 : ¬ x = y → OG p e below m Pq T pc' L S) (k2 : x = y → OG p e below m Pq T pcf L S) : OG p e below m Pq T pc L (.int y :: .int x :: S) := by
  by_cases q : x = y
  · subst hq; exact OG.st (fun t r => XS.icmpNo P.here P.ex rfl hd rfl (teq q).2 r) (k2 q)
  · exact OG.st (fun t r => XS.icmpYes P.here P.ex rfl rfl hd rfl (feq q).2 ho hp r) (k1 q)
theorem o_if_ne (P : OPn p l e R s m args below meth c Z a0 EL n0 W0 own T h Ow cells slots) {o : Int} {x : Int32} {pcf : Nat} (hd : decode c.code pc = .ok (.ifCond .ne o, 3)) (ho : 0 ≤ (pc : Int) + o) (hp : ((pc : Int) + o).toNat = pc') (hq : pc + 3 = pcf) (k1 : ¬ x = (0 : Int32) → OG p e below m Pq T pc' L S) (k2 : x = (0 : Int32) → OG p e below m Pq T pcf L S) : OG p e below m Pq T pc L (.int x :: S) := by
  by_cases q : x = (0 : Int32)
  · subst hq; exact OG.st (fun t r => XS.ifNo P.here P.ex rfl hd rfl ((if0 _ _).trans (teq q).2) r) (k2 q)
  · exact OG.st (fun t r => XS.ifYes P.here P.ex rfl rfl hd rfl ((if0 _ _).trans (feq q).2) ho hp r) (k1 q)
theorem o_ifnullY (P : OPn p l e R s m args below meth c Z a0 EL n0 W0 own T h Ow cells slots) {o : Int} (hd : decode c.code pc = .ok (.ifnull o, 3)) (ho : 0 ≤ (pc : Int) + o) (hp : ((pc : Int) + o).toNat = pc') (k : OG p e below m Pq T pc' L S) : OG p e below m Pq T pc L (.null :: S) :=
  OG.st (fun t q => XS.ifnullYes P.here P.ex rfl rfl hd rfl ho hp q) k
theorem o_ifnullN (P : OPn p l e R s m args below meth c Z a0 EL n0 W0 own T h Ow cells slots) {o : Int} {b : Addr} (hd : decode c.code pc = .ok (.ifnull o, 3)) (hp : pc + 3 = pc') (k : OG p e below m Pq T pc' L S) : OG p e below m Pq T pc L (.ref b :: S) := by
  subst hp; exact OG.st (fun t q => XS.ifnullNo P.here P.ex rfl hd rfl q) k
theorem o_ifnonnullY (P : OPn p l e R s m args below meth c Z a0 EL n0 W0 own T h Ow cells slots) {o : Int} {b : Addr} (hd : decode c.code pc = .ok (.ifnonnull o, 3)) (ho : 0 ≤ (pc : Int) + o) (hp : ((pc : Int) + o).toNat = pc') (k : OG p e below m Pq T pc' L S) : OG p e below m Pq T pc L (.ref b :: S) :=
  OG.st (fun t q => XS.ifnonnullYes P.here P.ex rfl rfl hd rfl ho hp q) k
theorem o_ifnonnullN (P : OPn p l e R s m args below meth c Z a0 EL n0 W0 own T h Ow cells slots) {o : Int} (hd : decode c.code pc = .ok (.ifnonnull o, 3)) (hp : pc + 3 = pc') (k : OG p e below m Pq T pc' L S) : OG p e below m Pq T pc L (.null :: S) := by
  subst hp; exact OG.st (fun t q => XS.ifnonnullNo P.here P.ex rfl hd rfl q) k
theorem o_acmp (P : OPn p l e R s m args below meth c Z a0 EL n0 W0 own T h Ow cells slots) {cd : ACond} {o : Int} {x y : Value} (same : Bool) (hd : decode c.code pc = .ok (.if_acmp cd o, 3)) (h1 : x.isRef = true) (h2 : y.isRef = true) (hq : decide (x = y) = same) (ho : 0 ≤ (pc : Int) + o) (hp : pc' = if acV cd same = true then ((pc : Int) + o).toNat else pc + 3) (k : OG p e below m Pq T pc' L S) : OG p e below m Pq T pc L (y :: x :: S) := by
  obtain ⟨locs, X, hx, -⟩ := P
  exact OG.st (fun t q => Jvm.RoadKit.acmp X hx rfl h1 h2 rfl hd rfl hq ho hp q) k
/-! objects: class and fields, one fact -/
def OObj (Z : State) (h : Heap) (a : Addr) (C : String) (fs : List (String × String × String × Value)) : Prop :=
  Exa Z h a C ∧ (∀ f ∈ fs, Fld Z h a f.1 f.2.1 f.2.2.1 f.2.2.2) ∧ ∀ (i j : Nat) (f g : String × String × String × Value), i ≠ j → fs[i]? = some f → fs[j]? = some g → Jvm.RoadKit.slotOf Z f.1 f.2.1 f.2.2.1 ≠ Jvm.RoadKit.slotOf Z g.1 g.2.1 g.2.2.1
section OObjs
variable {a b : Addr} {C O nm d : String} {fs : List (String × String × String × Value)} {u v w : Value} {ws : List Addr} {sl : Nat}
theorem OObj.exa (F : OObj Z h a C fs) : Exa Z h a C := F.1
theorem OObj.lt (F : OObj Z h a C fs) : a < h.size := F.1.lt
theorem OObj.keep (F : OObj Z h a C fs) (K : Keep h h' ws) (q : a ∉ ws) : OObj Z h' a C fs := ⟨F.1.keep K, fun f hf => (F.2.1 f hf).keep K q, F.2.2⟩
theorem OObj.oth (F : OObj Z h a C fs) (W : Wr h h' b sl v) (q : a ≠ b) : OObj Z h' a C fs := ⟨F.1.wr W, fun f hf => (F.2.1 f hf).other W (Or.inl q), F.2.2⟩
theorem OObj.fld (F : OObj Z h a C fs) (i : Nat) (hi : fs[i]? = some (O, nm, d, v)) : Fld Z h a O nm d v := F.2.1 _ (List.mem_of_getElem? hi)
theorem OObj.put (F : OObj Z h a C fs) (i : Nat) (hi : fs[i]? = some (O, nm, d, u)) (W : Wr h h' a (Jvm.RoadKit.slotOf Z O nm d) v) : OObj Z h' a C (fs.set i (O, nm, d, v)) := by
  have key : ∀ (j : Nat) (f : String × String × String × Value), (fs.set i (O, nm, d, v))[j]? = some f → (j = i ∧ f = (O, nm, d, v)) ∨ (j ≠ i ∧ fs[j]? = some f) := by
    intro j f hj
    by_cases e : j = i
    · subst e
      have hlt : j < fs.length := (List.getElem?_eq_some_iff.mp hi).1
      rw [List.getElem?_set_self hlt] at hj
      exact Or.inl ⟨rfl, (Option.some.inj hj).symm⟩
    · rw [List.getElem?_set_ne (fun q => e q.symm)] at hj
      exact Or.inr ⟨e, hj⟩
  refine ⟨F.1.wr W, fun f hf => ?_, fun j k f g hjk hj hk => ?_⟩
  · obtain ⟨j, hj⟩ := List.getElem?_of_mem hf
    rcases key j f hj with ⟨rfl, rfl⟩ | ⟨hne, hj'⟩
    · exact (F.fld j hi).same W
    · exact (F.2.1 f (List.mem_of_getElem? hj')).other W (Or.inr (F.2.2 j i f (O, nm, d, u) hne hj' hi))
  · rcases key j f hj with ⟨rfl, rfl⟩ | ⟨hne, hj'⟩ <;> rcases key k g hk with ⟨rfl, rfl⟩ | ⟨hne', hk'⟩
    · exact absurd rfl hjk
    · exact F.2.2 j k (O, nm, d, u) g hjk hi hk'
    · exact F.2.2 j k f (O, nm, d, u) hjk hj' hi
    · exact F.2.2 j k f g hjk hj' hk'
theorem OObj.new (E : Exa Z h a C) (D : ∀ {O nm d : String} {ty : FieldType}, Laid Z a0 C O nm d → parseFieldDescriptor d = some ty → Fld Z h a O nm d (defaultValue ty)) (hL : ∀ f ∈ fs, Laid Z a0 C f.1 f.2.1 f.2.2.1 ∧ ∃ ty, parseFieldDescriptor f.2.2.1 = some ty ∧ defaultValue ty = f.2.2.2) (nd : (fs.map fun f => f.2.1).Nodup) : OObj Z h a C fs := by
  refine ⟨E, fun f hf => ?_, fun i j f g hij hi hj => ?_⟩
  · obtain ⟨L, ty, h1, h2⟩ := hL f hf
    rw [← h2]; exact D L h1
  · obtain ⟨L1, t1, p1, -⟩ := hL f (List.mem_of_getElem? hi)
    obtain ⟨L2, t2, p2, -⟩ := hL g (List.mem_of_getElem? hj)
    refine slot_ne L1 L2 (fun e => hij ?_) p1 p2
    have hi' : (fs.map fun f => f.2.1)[i]? = some f.2.1 := by rw [List.getElem?_map, hi]; rfl
    have hj' : (fs.map fun f => f.2.1)[j]? = some f.2.1 := by rw [List.getElem?_map, hj, e]; rfl
    obtain ⟨li, ei⟩ := List.getElem?_eq_some_iff.mp hi'
    obtain ⟨lj, ej⟩ := List.getElem?_eq_some_iff.mp hj'
    have np := List.pairwise_iff_getElem.mp nd
    rcases Nat.lt_trichotomy i j with q | q | q
    · exact absurd (ei.trans ej.symm) (np i j li lj q)
    · exact q
    · exact absurd (ej.trans ei.symm) (np j i lj li q)
end OObjs
/-- every field of the list is laid, with its first value -/
def OLd (Z : State) (a0 : Array Value) (C : String) (fs : List (String × String × String × Value)) : Prop := ∀ f ∈ fs, Laid Z a0 C f.1 f.2.1 f.2.2.1 ∧ ∃ ty, parseFieldDescriptor f.2.2.1 = some ty ∧ defaultValue ty = f.2.2.2
theorem OLd.nil {C : String} : OLd Z a0 C [] := fun _ q => nomatch q
theorem OLd.cons {C O nm d : String} {v : Value} {ty : FieldType} {fs : List (String × String × String × Value)} (L : Laid Z a0 C O nm d) (h1 : parseFieldDescriptor d = some ty) (h2 : defaultValue ty = v) (r : OLd Z a0 C fs) : OLd Z a0 C ((O, nm, d, v) :: fs) := fun f hf => by
  rcases List.mem_cons.mp hf with rfl | hf
  · exact ⟨L, ty, h1, h2⟩
  · exact r f hf
/-! arrays: the whole content, one fact -/
def OArr (Z : State) (h : Heap) (a : Addr) (ty : FieldType) (vs : List Value) : Prop :=
  ∃ c : Cell, Arr Z h a c ty ∧ c.slots = vs.toArray ∧ vs.length < 2147483648 ∧ ∀ v ∈ vs, fits ty v = true
section OArrs
variable {a b : Addr} {ty : FieldType} {vs : List Value} {u v w : Value} {ws : List Addr} {sl : Nat} {j z : Int32} {k : ClassId} {dv : Value}
theorem OArr.eq {vs' : List Value} (F : OArr Z h a ty vs) (e : vs = vs') : OArr Z h a ty vs' := e ▸ F
theorem OArr.lt (F : OArr Z h a ty vs) : a < h.size := by obtain ⟨c, A, -⟩ := F; exact A.lt
theorem OArr.len (F : OArr Z h a ty vs) : vs.length < 2147483648 := by obtain ⟨c, -, -, q, -⟩ := F; exact q
theorem OArr.keep (F : OArr Z h a ty vs) (K : Keep h h' ws) (q : a ∉ ws) : OArr Z h' a ty vs := by obtain ⟨c, A, r⟩ := F; exact ⟨c, ⟨K.2.1 a c A.1 q, A.2⟩, r⟩
theorem OArr.oth (F : OArr Z h a ty vs) (W : Wr h h' b sl v) (q : a ≠ b) : OArr Z h' a ty vs := by obtain ⟨c, A, r⟩ := F; exact ⟨c, A.other W q, r⟩
theorem OArr.set (F : OArr Z h a ty vs) (W : Wr h h' a sl v) (hv : fits ty v = true) : OArr Z h' a ty (vs.set sl v) := by
  obtain ⟨c, A, e, n, q⟩ := F
  refine ⟨c.setSlot sl v, A.same W, by simp [Cell.setSlot, e], by rw [List.length_set]; exact n, fun x hx => ?_⟩
  rcases List.mem_or_eq_of_mem_set hx with hx | rfl
  · exact q x hx
  · exact hv
theorem OArr.ofArv (F : Arv Z h a k ty z vs dv) (hl : vs.length = z.toNatClampNeg) : OArr Z h a ty vs := by
  obtain ⟨c, A, -, S, q, H, G⟩ := F
  refine ⟨c, A, ?_, by rw [hl]; exact (back32 q).2, fun v hv => ?_⟩
  · apply Array.ext_getElem?
    intro i
    by_cases hi : i < c.slots.size
    · rw [H i hi]
      have hi' : i < vs.length := by rw [hl, ← S]; exact hi
      simp [hi']
    · rw [Array.getElem?_eq_none (by omega)]
      have hi' : ¬ i < vs.length := by rw [hl, ← S]; exact hi
      simp; omega
  · obtain ⟨i, hi⟩ := List.getElem?_of_mem hv
    obtain ⟨hi1, hi2⟩ := List.getElem?_eq_some_iff.mp hi
    have := G i (by rw [S, ← hl]; exact hi1)
    simpa [hi1, hi2] using this
theorem OArr.toArv (F : OArr Z h a ty vs) (hz : ¬ z < 0) (hl : z.toNatClampNeg = vs.length) : ∃ k, Arv Z h a k ty z vs dv := by
  obtain ⟨c, A, e, n, q⟩ := F
  refine ⟨c.cls, c, A, rfl, by rw [e, hl]; simp, hz, fun i hi => ?_, fun i hi => ?_⟩
  · rw [e] at hi ⊢
    have hi' : i < vs.length := by simpa using hi
    simp [hi']
  · rw [e] at hi
    have hi' : i < vs.length := by simpa using hi
    have := q vs[i] (List.getElem_mem hi')
    simpa [hi'] using this
theorem OArr.size (F : OArr Z h a ty vs) {c : Cell} (hc : h[a]? = some c) : c.slots = vs.toArray := by
  obtain ⟨c', A, e, -⟩ := F
  cases hc.symm.trans A.1
  exact e
/-- inside -/
theorem o_in (hj : ¬ j < 0) (hl : j.toNatClampNeg < vs.length) : ¬ (j < 0 ∨ vs.toArray.size ≤ j.toNatClampNeg) := fun q => q.elim hj fun r => by simp at r; omega
end OArrs
/-! fields -/
theorem o_getF (P : OPn p l e R s m args below meth c Z a0 EL n0 W0 own T h Ow cells slots) {R0 O n d : String} {index : Nat} {a : Addr} {v : Value} (w : (Jvm.Cond.fieldLink own index R0 n d).before a0 Z = true) (via : Via Z R0 O n d) (F : Fld Z h a O n d v) (hd : decode c.code pc = .ok (.getfield index, 3)) (hp : pc + 3 = pc')
    (k : ∀ T', OPn p l e R s m args below meth c Z a0 EL n0 W0 own T' h Ow cells slots → OG p e below m Pq T' pc' L (v :: S)) : OG p e below m Pq T pc L (.ref a :: S) := by
  subst hp
  exact P.tab (fun locs X hZ hown eT hx => getF (host := "") X hx hZ hown (Or.inl w) via eT F (g := mkF m pc L (.ref a :: S)) rfl rfl hd) k
theorem o_getFN (P : OPn p l e R s m args below meth c Z a0 EL n0 W0 own T h Ow cells slots) {R0 O n d host : String} {index : Nat} {a : Addr} {v : Value} (w : (Jvm.Cond.fieldLinkNest own index R0 n d host).before a0 Z = true) (via : Via Z R0 O n d) (F : Fld Z h a O n d v) (hd : decode c.code pc = .ok (.getfield index, 3)) (hp : pc + 3 = pc')
    (k : ∀ T', OPn p l e R s m args below meth c Z a0 EL n0 W0 own T' h Ow cells slots → OG p e below m Pq T' pc' L (v :: S)) : OG p e below m Pq T pc L (.ref a :: S) := by
  subst hp
  exact P.tab (fun locs X hZ hown eT hx => getF (host := host) X hx hZ hown (Or.inr w) via eT F (g := mkF m pc L (.ref a :: S)) rfl rfl hd) k
theorem o_getS (P : OPn p l e R s m args below meth c Z a0 EL n0 W0 own T h Ow cells slots) {R0 O n d : String} {index : Nat} {v : Value} (w : (Jvm.Cond.fieldLink own index R0 n d).before a0 Z = true) (via : Via Z R0 O n d) (F : Sta Z Z.heap O n d v) (hd : decode c.code pc = .ok (.getstatic index, 3)) (hp : pc + 3 = pc')
    (k : ∀ T', OPn p l e R s m args below meth c Z a0 EL n0 W0 own T' h Ow cells slots → OG p e below m Pq T' pc' L (v :: S)) : OG p e below m Pq T pc L S := by
  subst hp
  have O := P.old
  exact P.tab (fun locs X hZ hown eT hx => getS2 (host := "") X hx hZ hown (Or.inl w) via eT (F.ext O.2) (g := mkF m pc L S) rfl hd) k
theorem o_getSN (P : OPn p l e R s m args below meth c Z a0 EL n0 W0 own T h Ow cells slots) {R0 O n d host : String} {index : Nat} {v : Value} (w : (Jvm.Cond.fieldLinkNest own index R0 n d host).before a0 Z = true) (via : Via Z R0 O n d) (F : Sta Z Z.heap O n d v) (hd : decode c.code pc = .ok (.getstatic index, 3)) (hp : pc + 3 = pc')
    (k : ∀ T', OPn p l e R s m args below meth c Z a0 EL n0 W0 own T' h Ow cells slots → OG p e below m Pq T' pc' L (v :: S)) : OG p e below m Pq T pc L S := by
  subst hp
  have O := P.old
  exact P.tab (fun locs X hZ hown eT hx => getS2 (host := host) X hx hZ hown (Or.inr w) via eT (F.ext O.2) (g := mkF m pc L S) rfl hd) k
theorem o_putF (P : OPn p l e R s m args below meth c Z a0 EL n0 W0 own T h Ow cells slots) {R0 O n d C : String} {index kk : Nat} {a : Addr} {v v' old : Value} {ty : FieldType} (w : (Jvm.Cond.fieldLink own index R0 n d).before a0 Z = true) (via : Via Z R0 O n d) (F : Fld Z h a O n d old) (E : Exa Z h a C) (Lw : (Jvm.Cond.lays C O n d).before a0 Z = true ∨ ((Jvm.Cond.laysFinal C O n d).before a0 Z = true ∧ own = O ∧ meth.name = "<init>")) (wi : (Jvm.Cond.instantiable C kk).before a0 Z = true) (hty : parseFieldDescriptor d = some ty) (hn : narrow ty v = v') (hf : fits ty v' = true) (ha : a ∈ Ow) (hd : decode c.code pc = .ok (.putfield index, 3)) (hp : pc + 3 = pc')
    (k : ∀ T' h', OPn p l e R s m args below meth c Z a0 EL n0 W0 own T' h' Ow cells slots → Wr h h' a (Jvm.RoadKit.slotOf Z O n d) v' → OG p e below m Pq T' pc' L S) : OG p e below m Pq T pc L (v :: .ref a :: S) := by
  subst hp
  exact P.wr ha (fun locs X hZ hown eT hx => putFN X hx hZ hown w via eT F E Lw wi hty hn hf (g := mkF m pc L (v :: .ref a :: S)) rfl rfl hd) k
/-! new objects and arrays -/
theorem o_new (P : OPn p l e R s m args below meth c Z a0 EL n0 W0 own T h Ow cells slots) {C : String} {index n : Nat} (fs : List (String × String × String × Value)) (w : (Jvm.Cond.classLink own index C).before a0 Z = true) (wi : (Jvm.Cond.instantiable C n).before a0 Z = true) (wz : (Jvm.Cond.initialized C).before a0 Z = true) (hL : OLd Z a0 C fs) (nd : (fs.map fun f => f.2.1).Nodup) (hd : decode c.code pc = .ok (.new index, 3)) (hp : pc + 3 = pc') (hc : cells + 1 ≤ R.cells) (hl : slots + n ≤ R.slots)
    (k : ∀ T' h' b, OPn p l e R s m args below meth c Z a0 EL n0 W0 own T' h' (b :: Ow) (cells + 1) (slots + n) → Keep h h' [] → h.size ≤ b → OObj Z h' b C fs → OG p e below m Pq T' pc' L (.ref b :: S)) : OG p e below m Pq T pc L S := by
  subst hp
  refine P.grow (G := fun h' b => OObj Z h' b C fs) (fun locs X hZ hown eT hx => ?_) k
  obtain ⟨T', h', X', e', E', A', D', -, st⟩ := newO X hx hZ hown w wi wz eT (g := mkF m pc L S) rfl hd hc hl
  exact ⟨T', h', X', e', E', A'.lt, OObj.new A' D' hL nd, st⟩
theorem o_newarr (P : OPn p l e R s m args below meth c Z a0 EL n0 W0 own T h Ow cells slots) {aty : ArrayType} {n : Int32} {cap : Nat} (w : (Jvm.Cond.arrayClass (newarray.typeOf aty)).before a0 Z = true) (hd : decode c.code pc = .ok (.newarray aty, 2)) (hn : ¬ n < 0) (hcap : n.toNatClampNeg ≤ cap) (hb : cap * 8 ≤ 536870912) (hp : pc + 2 = pc') (hc : cells + 1 ≤ R.cells) (hl : slots + cap ≤ R.slots)
    (k : ∀ T' h' b, OPn p l e R s m args below meth c Z a0 EL n0 W0 own T' h' (b :: Ow) (cells + 1) (slots + cap) → Keep h h' [] → h.size ≤ b → OArr Z h' b (newarray.typeOf aty) (List.replicate n.toNatClampNeg (defaultValue (newarray.typeOf aty))) → OG p e below m Pq T' pc' L (.ref b :: S)) : OG p e below m Pq T pc L (.int n :: S) := by
  subst hp
  refine P.grow (G := fun h' b => OArr Z h' b (newarray.typeOf aty) (List.replicate n.toNatClampNeg (defaultValue (newarray.typeOf aty)))) (fun locs X hZ hown eT hx => ?_) k
  obtain ⟨T', h', cA, X', e', E', A', st⟩ := newP X hx hZ w eT (g := mkF m pc L (.int n :: S)) rfl hd rfl hn hcap hb hc hl
  refine ⟨T', h', X', e', E', A'.lt, ⟨_, A', by simp [newA], by simpa using (back32 hn).2, fun v hv => ?_⟩, st⟩
  rw [List.eq_of_mem_replicate hv]; cases (newarray.typeOf aty) <;> rfl
theorem o_anewarr (P : OPn p l e R s m args below meth c Z a0 EL n0 W0 own T h Ow cells slots) {C : String} {index : Nat} {n : Int32} {cap : Nat} (w1 : (Jvm.Cond.classLink own index C).before a0 Z = true) (w2 : (Jvm.Cond.arrayOver (.object C)).before a0 Z = true) (hd : decode c.code pc = .ok (.anewarray index, 3)) (hn : ¬ n < 0) (hcap : n.toNatClampNeg ≤ cap) (hb : cap * 8 ≤ 536870912) (hp : pc + 3 = pc') (hc : cells + 1 ≤ R.cells) (hl : slots + cap ≤ R.slots)
    (k : ∀ T' h' b, OPn p l e R s m args below meth c Z a0 EL n0 W0 own T' h' (b :: Ow) (cells + 1) (slots + cap) → Keep h h' [] → h.size ≤ b → OArr Z h' b (.object C) (List.replicate n.toNatClampNeg .null) → (∃ cell : Cell, h'[b]? = some cell ∧ Ovr Z cell.cls C) → OG p e below m Pq T' pc' L (.ref b :: S)) : OG p e below m Pq T pc L (.int n :: S) := by
  subst hp
  refine P.grow (G := fun h' b => OArr Z h' b (.object C) (List.replicate n.toNatClampNeg .null) ∧ ∃ cell : Cell, h'[b]? = some cell ∧ Ovr Z cell.cls C) (fun locs X hZ hown eT hx => ?_) fun T' h' b P' K hb' q => k T' h' b P' K hb' q.1 q.2
  obtain ⟨T', h', cA, X', e', E', A', O', st⟩ := newR X hx hZ hown w1 w2 eT (g := mkF m pc L (.int n :: S)) rfl hd rfl hn hcap hb hc hl
  refine ⟨T', h', X', e', E', A'.lt, ⟨⟨_, A', by simp [newA, defaultValue], by simpa using (back32 hn).2, fun v hv => ?_⟩, _, A'.1, O'⟩, st⟩
  rw [List.eq_of_mem_replicate hv]; rfl
/-! components -/
theorem o_arrlen (P : OPn p l e R s m args below meth c Z a0 EL n0 W0 own T h Ow cells slots) {a : Addr} {ty : FieldType} {vs : List Value} {n : Int32} (A : OArr Z h a ty vs) (hd : decode c.code pc = .ok (.arraylength, 1)) (hn : vs.length.toInt32 = n) (hp : pc + 1 = pc') (k : OG p e below m Pq T pc' L (.int n :: S)) : OG p e below m Pq T pc L (.ref a :: S) := by
  subst hp hn
  obtain ⟨locs, X, hx, hlk, hS, hZ, hown, eT, r⟩ := P
  obtain ⟨cl, Ar, e1, -⟩ := A
  have st := X.arraylength hx (by rw [eT]; exact Ar.1) (State.isArrayOf_alike hZ.alike Ar.2.1) (g := mkF m pc L (.ref a :: S)) rfl rfl hd
  rw [e1] at st
  exact OG.st (fun t q => st t (by simpa using q)) k
theorem o_iaload (P : OPn p l e R s m args below meth c Z a0 EL n0 W0 own T h Ow cells slots) {a : Addr} {vs : List Value} {j : Int32} {v : Value} (A : OArr Z h a .int vs) (hj : ¬ j < 0) (hv : vs[j.toNatClampNeg]? = some v) (hd : decode c.code pc = .ok (.iaload, 1)) (hp : pc + 1 = pc') (k : OG p e below m Pq T pc' L (v :: S)) : OG p e below m Pq T pc L (.int j :: .ref a :: S) := by
  subst hp
  obtain ⟨locs, X, hx, hlk, hS, hZ, hown, eT, r⟩ := P
  obtain ⟨cl, Ar, e1, -⟩ := A
  have hlt : j.toNatClampNeg < vs.length := (List.getElem?_eq_some_iff.mp hv).1
  exact OG.st (fun t q => X.iaload hx (by rw [eT]; exact Ar.1) (State.isArrayOf_alike hZ.alike Ar.2.1) Ar.2.2 (by rw [e1]; exact o_in hj hlt) (by rw [e1]; simpa using hv) (g := mkF m pc L (.int j :: .ref a :: S)) rfl rfl hd t q) k
theorem o_laload (P : OPn p l e R s m args below meth c Z a0 EL n0 W0 own T h Ow cells slots) {a : Addr} {vs : List Value} {j : Int32} {v : Value} (A : OArr Z h a .long vs) (hj : ¬ j < 0) (hv : vs[j.toNatClampNeg]? = some v) (hd : decode c.code pc = .ok (.laload, 1)) (hp : pc + 1 = pc') (k : OG p e below m Pq T pc' L (v :: S)) : OG p e below m Pq T pc L (.int j :: .ref a :: S) := by
  subst hp
  obtain ⟨locs, X, hx, hlk, hS, hZ, hown, eT, r⟩ := P
  obtain ⟨cl, Ar, e1, -⟩ := A
  have hlt : j.toNatClampNeg < vs.length := (List.getElem?_eq_some_iff.mp hv).1
  exact OG.st (fun t q => X.laload hx (by rw [eT]; exact Ar.1) (State.isArrayOf_alike hZ.alike Ar.2.1) Ar.2.2 (by rw [e1]; exact o_in hj hlt) (by rw [e1]; simpa using hv) (g := mkF m pc L (.int j :: .ref a :: S)) rfl rfl hd t q) k
theorem o_caload (P : OPn p l e R s m args below meth c Z a0 EL n0 W0 own T h Ow cells slots) {a : Addr} {vs : List Value} {j : Int32} {v : Value} (A : OArr Z h a .char vs) (hj : ¬ j < 0) (hv : vs[j.toNatClampNeg]? = some v) (hd : decode c.code pc = .ok (.caload, 1)) (hp : pc + 1 = pc') (k : OG p e below m Pq T pc' L (v :: S)) : OG p e below m Pq T pc L (.int j :: .ref a :: S) := by
  subst hp
  obtain ⟨locs, X, hx, hlk, hS, hZ, hown, eT, r⟩ := P
  obtain ⟨cl, Ar, e1, -⟩ := A
  have hlt : j.toNatClampNeg < vs.length := (List.getElem?_eq_some_iff.mp hv).1
  exact OG.st (fun t q => X.caload hx (by rw [eT]; exact Ar.1) (State.isArrayOf_alike hZ.alike Ar.2.1) Ar.2.2 (by rw [e1]; exact o_in hj hlt) (by rw [e1]; simpa using hv) (g := mkF m pc L (.int j :: .ref a :: S)) rfl rfl hd t q) k
theorem o_baload (P : OPn p l e R s m args below meth c Z a0 EL n0 W0 own T h Ow cells slots) {a : Addr} {vs : List Value} {j : Int32} {v : Value} (A : OArr Z h a .byte vs) (hj : ¬ j < 0) (hv : vs[j.toNatClampNeg]? = some v) (hd : decode c.code pc = .ok (.baload, 1)) (hp : pc + 1 = pc') (k : OG p e below m Pq T pc' L (v :: S)) : OG p e below m Pq T pc L (.int j :: .ref a :: S) := by
  subst hp
  obtain ⟨locs, X, hx, hlk, hS, hZ, hown, eT, r⟩ := P
  obtain ⟨cl, Ar, e1, -⟩ := A
  have hlt : j.toNatClampNeg < vs.length := (List.getElem?_eq_some_iff.mp hv).1
  exact OG.st (fun t q => X.baloadBytes hx (by rw [eT]; exact Ar.1) (State.isArrayOf_alike hZ.alike Ar.2.1) Ar.2.2 (by rw [e1]; exact o_in hj hlt) (by rw [e1]; simpa using hv) (g := mkF m pc L (.int j :: .ref a :: S)) rfl rfl hd t q) k
theorem o_zaload (P : OPn p l e R s m args below meth c Z a0 EL n0 W0 own T h Ow cells slots) {a : Addr} {vs : List Value} {j : Int32} {v : Value} (A : OArr Z h a .boolean vs) (hj : ¬ j < 0) (hv : vs[j.toNatClampNeg]? = some v) (hd : decode c.code pc = .ok (.baload, 1)) (hp : pc + 1 = pc') (k : OG p e below m Pq T pc' L (v :: S)) : OG p e below m Pq T pc L (.int j :: .ref a :: S) := by
  subst hp
  obtain ⟨locs, X, hx, hlk, hS, hZ, hown, eT, r⟩ := P
  obtain ⟨cl, Ar, e1, -⟩ := A
  have hlt : j.toNatClampNeg < vs.length := (List.getElem?_eq_some_iff.mp hv).1
  exact OG.st (fun t q => X.baloadBooleans hx (by rw [eT]; exact Ar.1) (State.isArrayOf_alike hZ.alike Ar.2.1) Ar.2.2 (by rw [e1]; exact o_in hj hlt) (by rw [e1]; simpa using hv) (g := mkF m pc L (.int j :: .ref a :: S)) rfl rfl hd t q) k
theorem o_daload (P : OPn p l e R s m args below meth c Z a0 EL n0 W0 own T h Ow cells slots) {a : Addr} {vs : List Value} {j : Int32} {v : Value} (A : OArr Z h a .double vs) (hj : ¬ j < 0) (hv : vs[j.toNatClampNeg]? = some v) (hd : decode c.code pc = .ok (.daload, 1)) (hp : pc + 1 = pc') (k : OG p e below m Pq T pc' L (v :: S)) : OG p e below m Pq T pc L (.int j :: .ref a :: S) := by
  subst hp
  obtain ⟨locs, X, hx, hlk, hS, hZ, hown, eT, r⟩ := P
  obtain ⟨cl, Ar, e1, -⟩ := A
  have hlt : j.toNatClampNeg < vs.length := (List.getElem?_eq_some_iff.mp hv).1
  exact OG.st (fun t q => X.daload hx (by rw [eT]; exact Ar.1) (State.isArrayOf_alike hZ.alike Ar.2.1) Ar.2.2 (by rw [e1]; exact o_in hj hlt) (by rw [e1]; simpa using hv) (g := mkF m pc L (.int j :: .ref a :: S)) rfl rfl hd t q) k
theorem o_saload (P : OPn p l e R s m args below meth c Z a0 EL n0 W0 own T h Ow cells slots) {a : Addr} {vs : List Value} {j : Int32} {v : Value} (A : OArr Z h a .short vs) (hj : ¬ j < 0) (hv : vs[j.toNatClampNeg]? = some v) (hd : decode c.code pc = .ok (.saload, 1)) (hp : pc + 1 = pc') (k : OG p e below m Pq T pc' L (v :: S)) : OG p e below m Pq T pc L (.int j :: .ref a :: S) := by
  subst hp
  obtain ⟨locs, X, hx, hlk, hS, hZ, hown, eT, r⟩ := P
  obtain ⟨cl, Ar, e1, -⟩ := A
  have hlt : j.toNatClampNeg < vs.length := (List.getElem?_eq_some_iff.mp hv).1
  exact OG.st (fun t q => X.saload hx (by rw [eT]; exact Ar.1) (State.isArrayOf_alike hZ.alike Ar.2.1) Ar.2.2 (by rw [e1]; exact o_in hj hlt) (by rw [e1]; simpa using hv) (g := mkF m pc L (.int j :: .ref a :: S)) rfl rfl hd t q) k
theorem o_aaload (P : OPn p l e R s m args below meth c Z a0 EL n0 W0 own T h Ow cells slots) {a : Addr} {ty : FieldType} {vs : List Value} {j : Int32} {v : Value} (A : OArr Z h a ty vs) (hty : ty.isReference = true) (hj : ¬ j < 0) (hv : vs[j.toNatClampNeg]? = some v) (hd : decode c.code pc = .ok (.aaload, 1)) (hp : pc + 1 = pc') (k : OG p e below m Pq T pc' L (v :: S)) : OG p e below m Pq T pc L (.int j :: .ref a :: S) := by
  subst hp
  obtain ⟨locs, X, hx, hlk, hS, hZ, hown, eT, r⟩ := P
  obtain ⟨cl, Ar, e1, -⟩ := A
  have hlt : j.toNatClampNeg < vs.length := (List.getElem?_eq_some_iff.mp hv).1
  exact OG.st (fun t q => X.aaload hx (by rw [eT]; exact Ar.1) (State.isArrayOf_alike hZ.alike Ar.2.1) hty Ar.2.2 (by rw [e1]; exact o_in hj hlt) (by rw [e1]; simpa using hv) (g := mkF m pc L (.int j :: .ref a :: S)) rfl rfl hd t q) k
theorem o_iastore (P : OPn p l e R s m args below meth c Z a0 EL n0 W0 own T h Ow cells slots) {a : Addr} {vs : List Value} {j : Int32} {x : Int32} {v : Value} (A : OArr Z h a .int vs) (ha : a ∈ Ow) (hj : ¬ j < 0) (hlt : j.toNatClampNeg < vs.length) (hv : Value.int x = v) (hd : decode c.code pc = .ok (.iastore, 1)) (hp : pc + 1 = pc')
    (k : ∀ T' h', OPn p l e R s m args below meth c Z a0 EL n0 W0 own T' h' Ow cells slots → Wr h h' a j.toNatClampNeg v → OArr Z h' a .int (vs.set j.toNatClampNeg v) → OG p e below m Pq T' pc' L S) : OG p e below m Pq T pc L (.int x :: .int j :: .ref a :: S) := by
  subst hp hv
  obtain ⟨cl, Ar, e1, e2⟩ := id A
  exact P.wr ha (fun locs X hZ hown eT hx => stI X hx hZ eT Ar (by rw [e1]; exact o_in hj hlt) (g := mkF m pc L (.int x :: .int j :: .ref a :: S)) rfl rfl hd) fun T' h' P' W' => k T' h' P' W' (A.set W' rfl)
theorem o_lastore (P : OPn p l e R s m args below meth c Z a0 EL n0 W0 own T h Ow cells slots) {a : Addr} {vs : List Value} {j : Int32} {x : Int64} {v : Value} (A : OArr Z h a .long vs) (ha : a ∈ Ow) (hj : ¬ j < 0) (hlt : j.toNatClampNeg < vs.length) (hv : Value.long x = v) (hd : decode c.code pc = .ok (.lastore, 1)) (hp : pc + 1 = pc')
    (k : ∀ T' h', OPn p l e R s m args below meth c Z a0 EL n0 W0 own T' h' Ow cells slots → Wr h h' a j.toNatClampNeg v → OArr Z h' a .long (vs.set j.toNatClampNeg v) → OG p e below m Pq T' pc' L S) : OG p e below m Pq T pc L (.long x :: .int j :: .ref a :: S) := by
  subst hp hv
  obtain ⟨cl, Ar, e1, e2⟩ := id A
  exact P.wr ha (fun locs X hZ hown eT hx => stJ X hx hZ eT Ar (by rw [e1]; exact o_in hj hlt) (g := mkF m pc L (.long x :: .int j :: .ref a :: S)) rfl rfl hd) fun T' h' P' W' => k T' h' P' W' (A.set W' rfl)
theorem o_castore (P : OPn p l e R s m args below meth c Z a0 EL n0 W0 own T h Ow cells slots) {a : Addr} {vs : List Value} {j : Int32} {x : Int32} {v : Value} (A : OArr Z h a .char vs) (ha : a ∈ Ow) (hj : ¬ j < 0) (hlt : j.toNatClampNeg < vs.length) (hv : Value.int (nar .char x) = v) (hd : decode c.code pc = .ok (.castore, 1)) (hp : pc + 1 = pc')
    (k : ∀ T' h', OPn p l e R s m args below meth c Z a0 EL n0 W0 own T' h' Ow cells slots → Wr h h' a j.toNatClampNeg v → OArr Z h' a .char (vs.set j.toNatClampNeg v) → OG p e below m Pq T' pc' L S) : OG p e below m Pq T pc L (.int x :: .int j :: .ref a :: S) := by
  subst hp hv
  obtain ⟨cl, Ar, e1, e2⟩ := id A
  exact P.wr ha (fun locs X hZ hown eT hx => stC X hx hZ eT Ar (by rw [e1]; exact o_in hj hlt) (g := mkF m pc L (.int x :: .int j :: .ref a :: S)) rfl rfl hd) fun T' h' P' W' => k T' h' P' W' (A.set W' (fits_nar_char _))
theorem o_bastore (P : OPn p l e R s m args below meth c Z a0 EL n0 W0 own T h Ow cells slots) {a : Addr} {vs : List Value} {j : Int32} {x : Int32} {v : Value} (A : OArr Z h a .byte vs) (ha : a ∈ Ow) (hj : ¬ j < 0) (hlt : j.toNatClampNeg < vs.length) (hv : Value.int (nar .byte x) = v) (hd : decode c.code pc = .ok (.bastore, 1)) (hp : pc + 1 = pc')
    (k : ∀ T' h', OPn p l e R s m args below meth c Z a0 EL n0 W0 own T' h' Ow cells slots → Wr h h' a j.toNatClampNeg v → OArr Z h' a .byte (vs.set j.toNatClampNeg v) → OG p e below m Pq T' pc' L S) : OG p e below m Pq T pc L (.int x :: .int j :: .ref a :: S) := by
  subst hp hv
  obtain ⟨cl, Ar, e1, e2⟩ := id A
  exact P.wr ha (fun locs X hZ hown eT hx => stB X hx hZ eT Ar (by rw [e1]; exact o_in hj hlt) (g := mkF m pc L (.int x :: .int j :: .ref a :: S)) rfl rfl hd) fun T' h' P' W' => k T' h' P' W' (A.set W' (fits_nar_byte _))
theorem o_zastore (P : OPn p l e R s m args below meth c Z a0 EL n0 W0 own T h Ow cells slots) {a : Addr} {vs : List Value} {j : Int32} {x : Int32} {v : Value} (A : OArr Z h a .boolean vs) (ha : a ∈ Ow) (hj : ¬ j < 0) (hlt : j.toNatClampNeg < vs.length) (hv : Value.int (nar .boolean x) = v) (hd : decode c.code pc = .ok (.bastore, 1)) (hp : pc + 1 = pc')
    (k : ∀ T' h', OPn p l e R s m args below meth c Z a0 EL n0 W0 own T' h' Ow cells slots → Wr h h' a j.toNatClampNeg v → OArr Z h' a .boolean (vs.set j.toNatClampNeg v) → OG p e below m Pq T' pc' L S) : OG p e below m Pq T pc L (.int x :: .int j :: .ref a :: S) := by
  subst hp hv
  obtain ⟨cl, Ar, e1, e2⟩ := id A
  exact P.wr ha (fun locs X hZ hown eT hx => stZ X hx hZ eT Ar (by rw [e1]; exact o_in hj hlt) (g := mkF m pc L (.int x :: .int j :: .ref a :: S)) rfl rfl hd) fun T' h' P' W' => k T' h' P' W' (A.set W' (fits_nar_bool _))
theorem o_dastore (P : OPn p l e R s m args below meth c Z a0 EL n0 W0 own T h Ow cells slots) {a : Addr} {vs : List Value} {j : Int32} {x : UInt64} {v : Value} (A : OArr Z h a .double vs) (ha : a ∈ Ow) (hj : ¬ j < 0) (hlt : j.toNatClampNeg < vs.length) (hv : Value.double x = v) (hd : decode c.code pc = .ok (.dastore, 1)) (hp : pc + 1 = pc')
    (k : ∀ T' h', OPn p l e R s m args below meth c Z a0 EL n0 W0 own T' h' Ow cells slots → Wr h h' a j.toNatClampNeg v → OArr Z h' a .double (vs.set j.toNatClampNeg v) → OG p e below m Pq T' pc' L S) : OG p e below m Pq T pc L (.double x :: .int j :: .ref a :: S) := by
  subst hp hv
  obtain ⟨cl, Ar, e1, e2⟩ := id A
  exact P.wr ha (fun locs X hZ hown eT hx => stD X hx hZ eT Ar (by rw [e1]; exact o_in hj hlt) (g := mkF m pc L (.double x :: .int j :: .ref a :: S)) rfl rfl hd) fun T' h' P' W' => k T' h' P' W' (A.set W' rfl)
theorem o_aastore (P : OPn p l e R s m args below meth c Z a0 EL n0 W0 own T h Ow cells slots) {a : Addr} {ty : FieldType} {vs : List Value} {j : Int32} {v : Value} (A : OArr Z h a ty vs) (ha : a ∈ Ow) (hty : ty.isReference = true) (F : Sto Z h a v) (hfit : fits ty v = true) (hj : ¬ j < 0) (hlt : j.toNatClampNeg < vs.length) (hd : decode c.code pc = .ok (.aastore, 1)) (hp : pc + 1 = pc')
    (k : ∀ T' h', OPn p l e R s m args below meth c Z a0 EL n0 W0 own T' h' Ow cells slots → Wr h h' a j.toNatClampNeg v → OArr Z h' a ty (vs.set j.toNatClampNeg v) → OG p e below m Pq T' pc' L S) : OG p e below m Pq T pc L (v :: .int j :: .ref a :: S) := by
  subst hp
  obtain ⟨cl, Ar, e1, e2⟩ := id A
  exact P.wr ha (fun locs X hZ hown eT hx => stR X hx hZ eT Ar (by rw [e1]; exact o_in hj hlt) hty F (g := mkF m pc L (v :: .int j :: .ref a :: S)) rfl rfl hd) fun T' h' P' W' => k T' h' P' W' (A.set W' hfit)
theorem o_cast (P : OPn p l e R s m args below meth c Z a0 EL n0 W0 own T h Ow cells slots) {K : String} {index : Nat} {a : Addr} (w : (Jvm.Cond.classLink own index K).before a0 Z = true) (F : Ins Z h a K true) (hd : decode c.code pc = .ok (.checkcast index, 3)) (hp : pc + 3 = pc') (k : ∀ T', OPn p l e R s m args below meth c Z a0 EL n0 W0 own T' h Ow cells slots → OG p e below m Pq T' pc' L (.ref a :: S)) : OG p e below m Pq T pc L (.ref a :: S) := by
  subst hp
  exact P.tab (fun locs X hZ hown eT hx => castY X hx hZ hown w eT F (g := mkF m pc L (.ref a :: S)) rfl rfl hd) k
theorem o_instY (P : OPn p l e R s m args below meth c Z a0 EL n0 W0 own T h Ow cells slots) {K : String} {index : Nat} {a : Addr} (w : (Jvm.Cond.classLink own index K).before a0 Z = true) (F : Ins Z h a K true) (hd : decode c.code pc = .ok (.instanceof index, 3)) (hp : pc + 3 = pc') (k : ∀ T', OPn p l e R s m args below meth c Z a0 EL n0 W0 own T' h Ow cells slots → OG p e below m Pq T' pc' L (.int 1 :: S)) : OG p e below m Pq T pc L (.ref a :: S) := by
  subst hp
  exact P.tab (fun locs X hZ hown eT hx => instY X hx hZ hown w eT F (g := mkF m pc L (.ref a :: S)) rfl rfl hd) k
theorem o_instN (P : OPn p l e R s m args below meth c Z a0 EL n0 W0 own T h Ow cells slots) {K C : String} {index : Nat} {a : Addr} (w : (Jvm.Cond.classLink own index K).before a0 Z = true) (E : Exa Z h a C) (F : ∃ c t, Z.vm.findClass C = some c ∧ Z.vm.findClass K = some t ∧ Z.vm.assignable c t = false) (hd : decode c.code pc = .ok (.instanceof index, 3)) (hp : pc + 3 = pc') (k : ∀ T', OPn p l e R s m args below meth c Z a0 EL n0 W0 own T' h Ow cells slots → OG p e below m Pq T' pc' L (.int 0 :: S)) : OG p e below m Pq T pc L (.ref a :: S) := by
  subst hp
  exact P.tab (fun locs X hZ hown eT hx => instNo X hx hZ hown w eT E F (g := mkF m pc L (.ref a :: S)) rfl rfl hd) k
theorem o_castNull (P : OPn p l e R s m args below meth c Z a0 EL n0 W0 own T h Ow cells slots) {index : Nat} (hd : decode c.code pc = .ok (.checkcast index, 3)) (hp : pc + 3 = pc') (k : OG p e below m Pq T pc' L (.null :: S)) : OG p e below m Pq T pc L (.null :: S) := by
  subst hp
  obtain ⟨locs, X, hx, -⟩ := P
  exact OG.st (fun t q => X.checkcastNull hx (g := mkF m pc L (.null :: S)) rfl rfl hd t q) k
theorem o_instNull (P : OPn p l e R s m args below meth c Z a0 EL n0 W0 own T h Ow cells slots) {index : Nat} (hd : decode c.code pc = .ok (.instanceof index, 3)) (hp : pc + 3 = pc') (k : OG p e below m Pq T pc' L (.int 0 :: S)) : OG p e below m Pq T pc L (.null :: S) := by
  subst hp
  obtain ⟨locs, X, hx, -⟩ := P
  exact OG.st (fun t q => X.instanceofNull hx (g := mkF m pc L (.null :: S)) rfl rfl hd t q) k
theorem o_ldcI (P : OPn p l e R s m args below meth c Z a0 EL n0 W0 own T h Ow cells slots) {index : Nat} {v : Int32} (w : (Jvm.Cond.constant own index v).before a0 Z = true) (hd : decode c.code pc = .ok (.ldc index, 2)) (hp : pc + 2 = pc') (k : OG p e below m Pq T pc' L (.int v :: S)) : OG p e below m Pq T pc L S := by
  subst hp
  obtain ⟨locs, X, hx, hlk, hS, hZ, hown, eT, r⟩ := P
  exact OG.st (fun t q => X.ldcInt hx hown (mvT (s := s.setVm T.vm) hZ w) (g := mkF m pc L S) rfl hd t q) k
theorem o_ldc2L (P : OPn p l e R s m args below meth c Z a0 EL n0 W0 own T h Ow cells slots) {index : Nat} {v : Int64} (w : (Jvm.Cond.constantLong own index v).before a0 Z = true) (hd : decode c.code pc = .ok (.ldc2_w index, 3)) (hp : pc + 3 = pc') (k : OG p e below m Pq T pc' L (.long v :: S)) : OG p e below m Pq T pc L S := by
  subst hp
  obtain ⟨locs, X, hx, hlk, hS, hZ, hown, eT, r⟩ := P
  exact OG.st (fun t q => X.ldc2Long hx hown (mvT (s := s.setVm T.vm) hZ w) (g := mkF m pc L S) rfl hd t q) k
/-- what is known of a String of known bytes (Latin-1) -/
def OStr (Z : State) (h : Heap) (a b : Addr) (vs : List Value) : Prop := OObj Z h a "java/lang/String" [("java/lang/String", "value", "[B", .ref b), ("java/lang/String", "coder", "B", .int 0)] ∧ OArr Z h b .byte vs
theorem OStr.keep {a b : Addr} {vs : List Value} {ws : List Addr} (F : OStr Z h a b vs) (K : Keep h h' ws) (q : a ∉ ws) (r : b ∉ ws) : OStr Z h' a b vs := ⟨F.1.keep K q, F.2.keep K r⟩
theorem o_ldcS (P : OPn p l e R s m args below meth c Z a0 EL n0 W0 own T h Ow cells slots) {index : Nat} {text : String} {vs : List Value} {n : Nat} (w : (Jvm.Cond.stringLink own index text).before a0 Z = true) (wS : ∀ a ∈ Bundle.stringAtoms, a.before a0 Z = true) (hmem : (own, index) ∈ EL)
    (lv : Laid Z a0 "java/lang/String" "java/lang/String" "value" "[B") (lc : Laid Z a0 "java/lang/String" "java/lang/String" "coder" "B")
    (ht : (∀ c ∈ text.toList, c.toNat < 256) ∧ text.toList.map (fun c => Value.int (Jvm.Lit.byteI c.toNat.toUInt16)) = vs) (z : Int32) (hz : ¬ z < 0) (hl : z.toNatClampNeg = vs.length) (hd : decode c.code pc = .ok (.ldc index, 2)) (hp : pc + 2 = pc') (hn : 4 * text.toList.length ≤ n) (hbig : n ≤ 536870912) (hc : cells + 2 ≤ R.cells) (hs : slots + (n + 4) ≤ R.slots)
    (k : ∀ T' h' a b, OPn p l e R s m args below meth c Z a0 EL n0 W0 own T' h' Ow (cells + 2) (slots + (n + 4)) → Keep h h' [] → OStr Z h' a b vs → (∀ x ∈ Ow, x ≠ a ∧ x ≠ b) → OG p e below m Pq T' pc' L (.ref a :: S)) : OG p e below m Pq T pc L S := by
  subst hp
  obtain ⟨locs, X, hx, hlk, hS, hZ, hown, eT, N, hEL, C, O, K, W⟩ := P
  obtain ⟨a, T', h', k1, b, kk, X', e', E', hS', hk', hZ', hown', E1, F1, F2, A1, -, -, C', -, hne, st⟩ := ldcCH X hx hZ hown w wS eT hS.1 (Nat.le_refl _) hEL hmem C.1 ht hz hl (g := mkF m pc L S) rfl hd hn hbig hc hs
  have W' : ∀ x ∈ Ow, OOwn Z EL n0 W0 s.heap.size T'.vm h' x := fun x hx => by
    obtain ⟨q1, q2, q3, q4⟩ := W x hx
    exact ⟨q1, Nat.lt_of_lt_of_le q2 E'.1, C'.safe q2 q3, q4⟩
  have hS2 : OSn EL s T'.vm h'.size := ⟨⟨hS'.1, hS'.2.mono hk'⟩, fun e => by rw [e] at hmem; cases hmem⟩
  refine OG.st st (k T' h' a b ⟨locs, X', hx, hlk, hS2, hZ', hown', e', N, hEL, C.trans C', O.ext E', K.ext E', W'⟩ ((Keep.refl h []).ext E') ⟨⟨E1, fun f hf => ?_, fun i j f g hij hi hj => ?_⟩, OArr.ofArv A1 (by rw [hl])⟩ fun x hx => hne x (W' x hx).2.2.1)
  · rcases List.mem_cons.mp hf with rfl | hf
    · exact F2
    · rcases List.mem_cons.mp hf with rfl | hf
      · exact F1
      · cases hf
  · have s1 := slot_ne lv lc (t := .array .byte) (t' := .byte) (by decide) (by decide) (by decide)
    match i, j, hi, hj with
    | 0, 0, _, _ => exact absurd rfl hij
    | 1, 1, _, _ => exact absurd rfl hij
    | 0, 1, hi, hj => cases hi; cases hj; exact s1
    | 1, 0, hi, hj => cases hi; cases hj; exact s1.symm
theorem o_mvMN {Z s : State} {a0 args : Array Value} {own host : String} {y : MethodName} {index : Nat} (hZ : Z.Warmed39 s.vm) (w : (Jvm.Cond.methodLinkNest own index y host).before a0 Z = true) : (Jvm.Cond.methodLinkNest own index y host).before args s = true := (Cond.methodLinkNest_wide hZ w :)
theorem o_mvF {Z s : State} {a0 args : Array Value} {x : MethodName} (hZ : Z.Warmed39 s.vm) (w2 : (Jvm.Cond.declares x).before a0 Z = true) (w : (Jvm.Cond.interfaceMethod x.cls x.cls x.name x.desc).before a0 Z = true) (hy : x.cls ≠ "java/lang/invoke/MethodHandle" ∧ x.cls ≠ "java/lang/invoke/VarHandle") : (Jvm.Cond.interfaceMethod x.cls x.cls x.name x.desc).before args s = true := by
  obtain ⟨r0, r, hn, -⟩ := Cond.declares_spec w2
  have q := Cond.interfaceMethod_setVm (args := a0) (s := Z) (vm' := s.vm) hZ.alike (ref := x.cls) (name := x.name) (desc := x.desc) hn hy
  exact (q.trans w :)
theorem o_callS (P : OPn p l e R s m args below meth c Z a0 EL n0 W0 own T h Ow cells slots) {y : MethodName} {bytes : ByteArray} {maxL : Nat} {ret : Option FieldType} {rm : Room} {as' : Array Value} {Sf : List Addr} {Q : Option Value → Vm → Heap → Prop} {index W : Nat} (w1 : (Jvm.Cond.methodLink own index y).before a0 Z = true) (w2 : (Jvm.Cond.static y).before a0 Z = true) (w3 : (Jvm.Cond.initialized y.cls).before a0 Z = true) (w4 : (Jvm.Cond.code y bytes maxL ret).before a0 Z = true) (hy : y.cls ≠ "java/lang/invoke/MethodHandle" ∧ y.cls ≠ "java/lang/invoke/VarHandle") (hM : OCt l Z a0 EL n0 y bytes maxL ret rm [] as' h Sf Q) (hsf : ∀ x ∈ Sf, x ∈ Ow) (hml : L.size = c.maxLocals) (hf : rm.frames + 1 ≤ R.frames) (hl : W + (maxL + 11) + rm.locals ≤ R.locals) {argsL rest : List Value} (hlen : ∀ sig, parseMethodDescriptor y.desc = some sig → argsL.length = sig.parameters.length) (hst : S = argsL.reverse ++ rest) (has : argsL.toArray = as') (hW : (rest.map fun v => v.category).sum ≤ W) (hd : decode c.code pc = .ok (.invokestatic index, 3)) (hp : pc + 3 = pc') (hc : cells + rm.cells ≤ R.cells) (hs : slots + rm.slots ≤ R.slots)
    (k : ∀ T' h' v, OPn p l e R s m args below meth c Z a0 EL n0 W0 own T' h' Ow (cells + rm.cells) (slots + rm.slots) → Keep h h' Sf → Q v T'.vm h' → OG p e below m Pq T' pc' L (v.toList ++ rest)) : OG p e below m Pq T pc L S := by
  subst hp
  obtain ⟨locs, X, hx, hlk, hS, hZ, hown, eT, N, hEL, C, O, K, W'⟩ := P
  have hb := OCt.back (p := p) (e := e) (below := below) (s := s) (args := args) (T := T) (len := 3) (W := W) (R := R) O hEL (fun x hx => ⟨(W' x (hsf x hx)).1, (W' x (hsf x hx)).2.1, (W' x (hsf x hx)).2.2.1⟩) hM hZ w4 w3 hf hl C.1
  obtain ⟨v, vm₁, B, hW1, X', hSi, hle, hq, st⟩ := callSS X hx (y := y) hown (mvT (s := s.setVm T.vm) hZ w1) (mvT (s := s.setVm T.vm) hZ w2) (mvT (s := s.setVm T.vm) hZ w3) (mvT (s := s.setVm T.vm) hZ w4) hy hb (g := mkF m pc L S) rfl hml (argsL := argsL) (rest := rest) hlen hst (by show 2 * 0 + _ ≤ _; omega) hd (fun _ _ => ⟨has, eT, hc, hs⟩)
  obtain ⟨P', K', q⟩ := OPn.behind (y := y) hx hlk hS hZ hown eT N hEL C O K W' hsf X' hSi hle hq
  exact OG.st (fun t r => st.trans r) (k _ _ v P' K' q)
theorem o_callI (P : OPn p l e R s m args below meth c Z a0 EL n0 W0 own T h Ow cells slots) {y : MethodName} {bytes : ByteArray} {maxL : Nat} {rm : Room} {as' : Array Value} {Sf : List Addr} {Q : Option Value → Vm → Heap → Prop} {index W : Nat} {a : Addr} (hy1 : y.name = "<init>") (w1 : (Jvm.Cond.methodLink own index y).before a0 Z = true) (w2 : (Jvm.Cond.instanceMethod y).before a0 Z = true) (w3 : (Jvm.Cond.initialized y.cls).before a0 Z = true) (w4 : (Jvm.Cond.code y bytes maxL none).before a0 Z = true) (hy : y.cls ≠ "java/lang/invoke/MethodHandle" ∧ y.cls ≠ "java/lang/invoke/VarHandle") (hM : OCt l Z a0 EL n0 y bytes maxL none rm [] as' h Sf Q) (hsf : ∀ x ∈ Sf, x ∈ Ow) (hml : L.size = c.maxLocals) (hf : rm.frames + 1 ≤ R.frames) (hl : W + (maxL + 11) + rm.locals ≤ R.locals) {argsL rest : List Value} (hlen : ∀ sig, parseMethodDescriptor y.desc = some sig → argsL.length = sig.parameters.length) (hst : S = argsL.reverse ++ .ref a :: rest) (has : (.ref a :: argsL).toArray = as') (hW : (rest.map fun v => v.category).sum ≤ W) (hd : decode c.code pc = .ok (.invokespecial index, 3)) (hp : pc + 3 = pc') (hc : cells + rm.cells ≤ R.cells) (hs : slots + rm.slots ≤ R.slots)
    (k : ∀ T' h' v, OPn p l e R s m args below meth c Z a0 EL n0 W0 own T' h' Ow (cells + rm.cells) (slots + rm.slots) → Keep h h' Sf → Q v T'.vm h' → OG p e below m Pq T' pc' L (v.toList ++ rest)) : OG p e below m Pq T pc L S := by
  subst hp
  obtain ⟨locs, X, hx, hlk, hS, hZ, hown, eT, N, hEL, C, O, K, W'⟩ := P
  have hb := OCt.back (p := p) (e := e) (below := below) (s := s) (args := args) (T := T) (len := 3) (W := W) (R := R) O hEL (fun x hx => ⟨(W' x (hsf x hx)).1, (W' x (hsf x hx)).2.1, (W' x (hsf x hx)).2.2.1⟩) hM hZ w4 w3 hf hl C.1
  obtain ⟨v, vm₁, B, hW1, X', hSi, hle, hq, st⟩ := X.specialBackS hx (y := y) hy1 hown (mvT (s := s.setVm T.vm) hZ w1) (mvT (s := s.setVm T.vm) hZ w2) (mvT (s := s.setVm T.vm) hZ w4) hy hb (g := mkF m pc L S) rfl hml (Steps.refl _) (a := a) (argsL := argsL) (rest := rest) hlen hst (by show 2 * 0 + _ ≤ _; omega) hd (fun _ _ => ⟨has, eT, hc, hs⟩)
  obtain ⟨P', K', q⟩ := OPn.behind (y := y) hx hlk hS hZ hown eT N hEL C O K W' hsf X' hSi hle hq
  exact OG.st (fun t r => st.trans r) (k _ _ v P' K' q)
theorem o_callIN (P : OPn p l e R s m args below meth c Z a0 EL n0 W0 own T h Ow cells slots) {y : MethodName} {bytes : ByteArray} {maxL : Nat} {rm : Room} {as' : Array Value} {Sf : List Addr} {Q : Option Value → Vm → Heap → Prop} {index W : Nat} {a : Addr} {host : String} (hy1 : y.name = "<init>") (w1 : (Jvm.Cond.methodLinkNest own index y host).before a0 Z = true) (w2 : (Jvm.Cond.instanceMethod y).before a0 Z = true) (w3 : (Jvm.Cond.initialized y.cls).before a0 Z = true) (w4 : (Jvm.Cond.code y bytes maxL none).before a0 Z = true) (hy : y.cls ≠ "java/lang/invoke/MethodHandle" ∧ y.cls ≠ "java/lang/invoke/VarHandle") (hM : OCt l Z a0 EL n0 y bytes maxL none rm [] as' h Sf Q) (hsf : ∀ x ∈ Sf, x ∈ Ow) (hml : L.size = c.maxLocals) (hf : rm.frames + 1 ≤ R.frames) (hl : W + (maxL + 11) + rm.locals ≤ R.locals) {argsL rest : List Value} (hlen : ∀ sig, parseMethodDescriptor y.desc = some sig → argsL.length = sig.parameters.length) (hst : S = argsL.reverse ++ .ref a :: rest) (has : (.ref a :: argsL).toArray = as') (hW : (rest.map fun v => v.category).sum ≤ W) (hd : decode c.code pc = .ok (.invokespecial index, 3)) (hp : pc + 3 = pc') (hc : cells + rm.cells ≤ R.cells) (hs : slots + rm.slots ≤ R.slots)
    (k : ∀ T' h' v, OPn p l e R s m args below meth c Z a0 EL n0 W0 own T' h' Ow (cells + rm.cells) (slots + rm.slots) → Keep h h' Sf → Q v T'.vm h' → OG p e below m Pq T' pc' L (v.toList ++ rest)) : OG p e below m Pq T pc L S := by
  subst hp
  obtain ⟨locs, X, hx, hlk, hS, hZ, hown, eT, N, hEL, C, O, K, W'⟩ := P
  have hb := OCt.back (p := p) (e := e) (below := below) (s := s) (args := args) (T := T) (len := 3) (W := W) (R := R) O hEL (fun x hx => ⟨(W' x (hsf x hx)).1, (W' x (hsf x hx)).2.1, (W' x (hsf x hx)).2.2.1⟩) hM hZ w4 w3 hf hl C.1
  obtain ⟨v, vm₁, B, hW1, X', hSi, hle, hq, st⟩ := X.specialBackNestS hx (y := y) hy1 hown (o_mvMN (s := s.setVm T.vm) hZ w1) (mvT (s := s.setVm T.vm) hZ w2) (mvT (s := s.setVm T.vm) hZ w4) hy hb (g := mkF m pc L S) rfl hml (Steps.refl _) (a := a) (argsL := argsL) (rest := rest) hlen hst (by show 2 * 0 + _ ≤ _; omega) hd (fun _ _ => ⟨has, eT, hc, hs⟩)
  obtain ⟨P', K', q⟩ := OPn.behind (y := y) hx hlk hS hZ hown eT N hEL C O K W' hsf X' hSi hle hq
  exact OG.st (fun t r => st.trans r) (k _ _ v P' K' q)
theorem o_callV (P : OPn p l e R s m args below meth c Z a0 EL n0 W0 own T h Ow cells slots) {y : MethodName} {bytes : ByteArray} {maxL : Nat} {ret : Option FieldType} {rm : Room} {as' : Array Value} {Sf : List Addr} {Q : Option Value → Vm → Heap → Prop} {index W : Nat} {x : MethodName} {a : Addr} {Cr : String} (w1 : (Jvm.Cond.methodLink own index x).before a0 Z = true) (w2 : (Jvm.Cond.declares x).before a0 Z = true) (nf : ∀ U : State, Z.Warmed39 U.vm → NotFace U x) (w5 : (Jvm.Cond.selects Cr x y).before a0 Z = true) (w6 : (Jvm.Cond.instanceMethod y).before a0 Z = true) (w3 : (Jvm.Cond.initialized y.cls).before a0 Z = true) (w4 : (Jvm.Cond.code y bytes maxL ret).before a0 Z = true) (hy : x.cls ≠ "java/lang/invoke/MethodHandle" ∧ x.cls ≠ "java/lang/invoke/VarHandle") (Er : Exa Z h a Cr) (hM : OCt l Z a0 EL n0 y bytes maxL ret rm [] as' h Sf Q) (hsf : ∀ x ∈ Sf, x ∈ Ow) (hml : L.size = c.maxLocals) (hf : rm.frames + 1 ≤ R.frames) (hl : W + (maxL + 11) + rm.locals ≤ R.locals) {argsL rest : List Value} (hlen : ∀ sig, parseMethodDescriptor x.desc = some sig → argsL.length = sig.parameters.length) (hst : S = argsL.reverse ++ .ref a :: rest) (has : (.ref a :: argsL).toArray = as') (hW : (rest.map fun v => v.category).sum ≤ W) (hd : decode c.code pc = .ok (.invokevirtual index, 3)) (hp : pc + 3 = pc') (hc : cells + rm.cells ≤ R.cells) (hs : slots + rm.slots ≤ R.slots)
    (k : ∀ T' h' v, OPn p l e R s m args below meth c Z a0 EL n0 W0 own T' h' Ow (cells + rm.cells) (slots + rm.slots) → Keep h h' Sf → Q v T'.vm h' → OG p e below m Pq T' pc' L (v.toList ++ rest)) : OG p e below m Pq T pc L S := by
  subst hp
  obtain ⟨locs, X, hx, hlk, hS, hZ, hown, eT, N, hEL, C, O, K, W'⟩ := P
  have hb := OCt.back (p := p) (e := e) (below := below) (s := s) (args := args) (T := T) (len := 3) (W := W) (R := R) O hEL (fun x hx => ⟨(W' x (hsf x hx)).1, (W' x (hsf x hx)).2.1, (W' x (hsf x hx)).2.2.1⟩) hM hZ w4 w3 hf hl C.1
  obtain ⟨cB, kB, q1, q2, q3⟩ := isOf (s := s.setVm T.vm) hZ eT Er
  obtain ⟨v, vm₁, B, hW1, X', hSi, hle, hq, st⟩ := X.virtualBackS hx (y := x) (z := y) hown (mvT (s := s.setVm T.vm) hZ w1) (mvT (s := s.setVm T.vm) hZ w2) (nf (s.setVm T.vm) hZ) (mvT (s := s.setVm T.vm) hZ w5) (mvT (s := s.setVm T.vm) hZ w6) hy hb q1 q3 (g := mkF m pc L S) rfl hml (Steps.refl _) (argsL := argsL) (rest := rest) hlen hst (by show 2 * 0 + _ ≤ _; omega) hd (fun _ _ => ⟨has, eT, hc, hs⟩)
  obtain ⟨P', K', q⟩ := OPn.behind (y := y) hx hlk hS hZ hown eT N hEL C O K W' hsf X' hSi hle hq
  exact OG.st (fun t r => st.trans r) (k _ _ v P' K' q)
theorem o_callF (P : OPn p l e R s m args below meth c Z a0 EL n0 W0 own T h Ow cells slots) {y : MethodName} {bytes : ByteArray} {maxL : Nat} {ret : Option FieldType} {rm : Room} {as' : Array Value} {Sf : List Addr} {Q : Option Value → Vm → Heap → Prop} {index W : Nat} {x : MethodName} {a : Addr} {Cr : String} {count : Nat} (w1 : (Jvm.Cond.methodLink own index x).before a0 Z = true) (w2 : (Jvm.Cond.declares x).before a0 Z = true) (w7 : (Jvm.Cond.interfaceMethod x.cls x.cls x.name x.desc).before a0 Z = true) (w5 : (Jvm.Cond.selects Cr x y).before a0 Z = true) (w6 : (Jvm.Cond.instanceMethod y).before a0 Z = true) (w8 : (Jvm.Cond.publicMethod y).before a0 Z = true) (w9 : (Jvm.Cond.unhidden Cr x.name x.desc).before a0 Z = true) (w10 : (Jvm.Cond.castable Cr x.cls).before a0 Z = true) (w3 : (Jvm.Cond.initialized y.cls).before a0 Z = true) (w4 : (Jvm.Cond.code y bytes maxL ret).before a0 Z = true) (hy : x.cls ≠ "java/lang/invoke/MethodHandle" ∧ x.cls ≠ "java/lang/invoke/VarHandle") (Er : Exa Z h a Cr) (hM : OCt l Z a0 EL n0 y bytes maxL ret rm [] as' h Sf Q) (hsf : ∀ x ∈ Sf, x ∈ Ow) (hml : L.size = c.maxLocals) (hf : rm.frames + 1 ≤ R.frames) (hl : W + (maxL + 11) + rm.locals ≤ R.locals) {argsL rest : List Value} (hlen : ∀ sig, parseMethodDescriptor x.desc = some sig → argsL.length = sig.parameters.length) (hst : S = argsL.reverse ++ .ref a :: rest) (has : (.ref a :: argsL).toArray = as') (hW : (rest.map fun v => v.category).sum ≤ W) (hd : decode c.code pc = .ok (.invokeinterface index count, 5)) (hp : pc + 5 = pc') (hc : cells + rm.cells ≤ R.cells) (hs : slots + rm.slots ≤ R.slots)
    (k : ∀ T' h' v, OPn p l e R s m args below meth c Z a0 EL n0 W0 own T' h' Ow (cells + rm.cells) (slots + rm.slots) → Keep h h' Sf → Q v T'.vm h' → OG p e below m Pq T' pc' L (v.toList ++ rest)) : OG p e below m Pq T pc L S := by
  subst hp
  obtain ⟨locs, X, hx, hlk, hS, hZ, hown, eT, N, hEL, C, O, K, W'⟩ := P
  have hb := OCt.back (p := p) (e := e) (below := below) (s := s) (args := args) (T := T) (len := 5) (W := W) (R := R) O hEL (fun x hx => ⟨(W' x (hsf x hx)).1, (W' x (hsf x hx)).2.1, (W' x (hsf x hx)).2.2.1⟩) hM hZ w4 w3 hf hl C.1
  obtain ⟨cB, kB, q1, q2, q3⟩ := isOf (s := s.setVm T.vm) hZ eT Er
  obtain ⟨v, vm₁, B, hW1, X', hSi, hle, hq, st⟩ := X.interfaceBackS hx (xi := x) (y := y) hown (mvT (s := s.setVm T.vm) hZ w1) (mvT (s := s.setVm T.vm) hZ w2) (o_mvF (s := s.setVm T.vm) hZ w2 w7 hy) (mvT (s := s.setVm T.vm) hZ w5) (mvT (s := s.setVm T.vm) hZ w6) (mvT (s := s.setVm T.vm) hZ w8) (mvT (s := s.setVm T.vm) hZ w9) (mvT (s := s.setVm T.vm) hZ w10) hy hb q1 q2 q3 (g := mkF m pc L S) rfl hml (Steps.refl _) (argsL := argsL) (rest := rest) hlen hst (by show 2 * 0 + _ ≤ _; omega) hd (fun _ _ => ⟨has, eT, hc, hs⟩)
  obtain ⟨P', K', q⟩ := OPn.behind (y := y) hx hlk hS hZ hown eT N hEL C O K W' hsf X' hSi hle hq
  exact OG.st (fun t r => st.trans r) (k _ _ v P' K' q)
theorem o_initO (P : OPn p l e R s m args below meth c Z a0 EL n0 W0 own T h Ow cells slots) {index W : Nat} {a : Addr} (w1 : (Jvm.Cond.methodLink own index Lib.objectInit).before a0 Z = true) (w2 : (Jvm.Cond.instanceMethod Lib.objectInit).before a0 Z = true) (w3 : (Jvm.Cond.code Lib.objectInit ⟨#[0xb1]⟩ 1 none).before a0 Z = true) (hml : L.size = c.maxLocals) (hf : 1 ≤ R.frames) (hW : (S.map fun v => v.category).sum ≤ W) (hl : W + 12 ≤ R.locals) (hd : decode c.code pc = .ok (.invokespecial index, 3)) (hp : pc + 3 = pc') (k : ∀ T', OPn p l e R s m args below meth c Z a0 EL n0 W0 own T' h Ow cells slots → OG p e below m Pq T' pc' L S) : OG p e below m Pq T pc L (.ref a :: S) := by
  subst hp
  exact P.tab (fun locs X hZ hown eT hx => initO X hx hZ hown w1 w2 w3 eT (g := mkF m pc L (.ref a :: S)) rfl hml rfl hd hf (by show 2 * 0 + _ ≤ _; omega) hl) k
theorem o_nfSel {x y : MethodName} {Cr : String} (hxy : x.cls = y.cls) (w : (Jvm.Cond.selects Cr x x).before a0 Z = true) : ∀ U : State, Z.Warmed39 U.vm → NotFace U x := fun U hU => notFace_of_selects (args := #[]) (mvT (s := U) hU w)
theorem o_nfSup {x : MethodName} {K : String} (w : (Jvm.Cond.superclass x.cls K).before a0 Z = true) : ∀ U : State, Z.Warmed39 U.vm → NotFace U x := fun U hU => nf_super (args := #[]) (mvT (s := U) hU w)
theorem o_nfTop {x : MethodName} (w : (Jvm.Cond.noSuperclass x.cls).before a0 Z = true) : ∀ U : State, Z.Warmed39 U.vm → NotFace U x := fun U hU => nf_top (args := #[]) (mvT (s := U) hU w)
theorem o_sf0 : ∀ x ∈ ([] : List Addr), x ∈ Ow := fun _ q => nomatch q
theorem o_sfS {x : Addr} {Sf : List Addr} (h1 : x ∈ Ow) (h2 : ∀ y ∈ Sf, y ∈ Ow) : ∀ y ∈ x :: Sf, y ∈ Ow := fun y q => (List.mem_cons.mp q).elim (fun e => e ▸ h1) (h2 y)
end OwnLayer
theorem o_catR (a : Addr) : (Value.ref a).category = 1 := rfl
theorem o_catN : Value.null.category = 1 := rfl
theorem o_catI (x : Int32) : (Value.int x).category = 1 := rfl
theorem o_catJ (x : Int64) : (Value.long x).category = 2 := rfl
theorem o_catD (x : UInt64) : (Value.double x).category = 2 := rfl
/-! numbers as indices; bytes of chars -/
theorem oi_nat {i : Nat} (h : i < 2147483648) : i.toInt32.toNatClampNeg = i := Int32.toNatClampNeg_ofNat_of_lt h
theorem oi_int {i : Nat} (h : i < 2147483648) : i.toInt32.toInt = i := Int32.toInt_ofNat_of_lt h
theorem oi_nn {i : Nat} (h : i < 2147483648) : ¬ i.toInt32 < 0 := by
  rw [Int32.lt_iff_toInt_lt, oi_int h]; have : (0 : Int32).toInt = 0 := rfl; omega
theorem oi_succ (i : Nat) : i.toInt32 + (1 : Int32) = (i + 1).toInt32 := (Int32.ofNat_add i 1).symm
theorem oi_lt {i j : Nat} (hi : i < 2147483648) (hj : j < 2147483648) : i.toInt32 < j.toInt32 ↔ i < j := by
  rw [Int32.lt_iff_toInt_lt, oi_int hi, oi_int hj]; omega
theorem oi_eq {i j : Nat} (hi : i < 2147483648) (hj : j < 2147483648) : i.toInt32 = j.toInt32 ↔ i = j := by
  constructor
  · intro h
    have := congrArg Int32.toInt h
    rw [oi_int hi, oi_int hj] at this; omega
  · rintro rfl; rfl
abbrev och (cs : List Int32) : List Value := cs.map fun c => .int c
abbrev obyte (c : Int32) : Int32 := c.toInt8.toInt32
/-- Latin-1 chars -/
def OLat (cs : List Int32) : Prop := ∀ c ∈ cs, ¬ c < 0 ∧ ¬ (255 : Int32) < c
theorem OLat.nil : OLat [] := fun _ q => nomatch q
theorem OLat.cons {c : Int32} {cs : List Int32} (h : ¬ c < 0 ∧ ¬ (255 : Int32) < c) (r : OLat cs) : OLat (c :: cs) := fun x hx => (List.mem_cons.mp hx).elim (fun e => e ▸ h) (r x)
theorem obyte_inj {c d : Int32} (hc : ¬ c < 0 ∧ ¬ (255 : Int32) < c) (hd : ¬ d < 0 ∧ ¬ (255 : Int32) < d) (h : obyte c = obyte d) : c = d := by
  have e := congrArg Int32.toInt h
  have q1 := c_i2b c; have q2 := c_i2b d
  obtain ⟨c1, c2⟩ := hc; obtain ⟨d1, d2⟩ := hd
  rw [Int32.lt_iff_toInt_lt] at c1 c2 d1 d2
  have z0 : (0 : Int32).toInt = 0 := rfl
  have z1 : (255 : Int32).toInt = 255 := rfl
  rw [z0] at c1 d1; rw [z1] at c2 d2
  apply Int32.toInt_inj.mp
  show c.toInt = d.toInt
  have e' : c.toInt8.toInt32.toInt = d.toInt8.toInt32.toInt := e
  omega
theorem obytes_inj : ∀ {cs ds : List Int32}, OLat cs → OLat ds → cs.map obyte = ds.map obyte → cs = ds
  | [], [], _, _, _ => rfl
  | [], _ :: _, _, _, h => by cases h
  | _ :: _, [], _, _, h => by cases h
  | c :: cs, d :: ds, hc, hd, h => by
    simp only [List.map_cons, List.cons.injEq] at h
    rw [obyte_inj (hc c (by simp)) (hd d (by simp)) h.1, obytes_inj (fun x hx => hc x (by simp [hx])) (fun x hx => hd x (by simp [hx])) h.2]
theorem och_get {cs : List Int32} {i : Nat} {c : Int32} (h : cs[i]? = some c) : (och cs)[i]? = some (.int c) := by simp [h]
theorem och_inj {us ws : List Int32} (h : och us = och ws) : us = ws := by
  have : us.map (fun c => Value.int c) = ws.map fun c => Value.int c := h
  exact (List.map_inj_right (fun a b e => Value.int.inj e)).mp this
theorem o_nar_char {c : Int32} (h : ¬ c < 0 ∧ ¬ (65535 : Int32) < c) : nar .char c = c := by
  obtain ⟨q1, q2, q3⟩ := c_i2c c
  obtain ⟨c1, c2⟩ := h
  rw [Int32.lt_iff_toInt_lt] at c1 c2
  have z0 : (0 : Int32).toInt = 0 := rfl
  have z1 : (65535 : Int32).toInt = 65535 := rfl
  rw [z0] at c1; rw [z1] at c2
  apply Int32.toInt_inj.mp
  show c.toUInt32.toUInt16.toUInt32.toInt32.toInt = c.toInt
  omega
/-- a mask of eight bits, as a char -/
theorem o_mask8 (y : Int32) : ¬ (y &&& (255 : Int32)).toUInt32.toUInt16.toUInt32.toInt32 < 0 ∧ ¬ (255 : Int32) < (y &&& (255 : Int32)).toUInt32.toUInt16.toUInt32.toInt32 := by
  obtain ⟨q1, q2, q3⟩ := c_i2c (y &&& (255 : Int32))
  have q4 := c_and y 255 (by decide)
  have z0 : (0 : Int32).toInt = 0 := rfl
  have z1 : (255 : Int32).toInt = 255 := rfl
  rw [z1] at q4
  rw [Int32.lt_iff_toInt_lt, Int32.lt_iff_toInt_lt, z0, z1]
  omega
theorem o_c16 {c : Int32} (h : ¬ c < 0 ∧ ¬ (255 : Int32) < c) : ¬ c < 0 ∧ ¬ (65535 : Int32) < c := by
  obtain ⟨h1, h2⟩ := h
  refine ⟨h1, fun q => h2 ?_⟩
  rw [Int32.lt_iff_toInt_lt] at q ⊢
  have z1 : (65535 : Int32).toInt = 65535 := rfl
  have z2 : (255 : Int32).toInt = 255 := rfl
  omega
theorem OObj.uniq {Z : State} {h : Heap} {a : Addr} {C O nm d : String} {fs gs : List (String × String × String × Value)} {v w : Value} (F : OObj Z h a C fs) (G : OObj Z h a C gs) (i j : Nat) (hi : fs[i]? = some (O, nm, d, v)) (hj : gs[j]? = some (O, nm, d, w)) : v = w := Classical.byContradiction fun q => (F.fld i hi).ne (G.fld j hj) q rfl
theorem OArr.uniq {Z : State} {h : Heap} {a : Addr} {ty : FieldType} {vs ws : List Value} (F : OArr Z h a ty vs) (G : OArr Z h a ty ws) : vs = ws := by
  obtain ⟨c, A, e, -⟩ := F
  have q := G.size A.1
  rw [e] at q
  simpa using q
theorem OStr.uniq {Z : State} {h : Heap} {a b b' : Addr} {us ws : List Int32} (F : OStr Z h a b (och us)) (G : OStr Z h a b' (och ws)) : us = ws := by
  have e := Value.ref.inj (F.1.uniq G.1 0 0 rfl rfl)
  subst e
  exact och_inj (F.2.uniq G.2)
theorem OObj.neArr {Z : State} {h : Heap} {a b : Addr} {C : String} {a0 : Array Value} {fs : List (String × String × String × Value)} {ty : FieldType} {vs : List Value} {k : Nat} (F : OObj Z h a C fs) (wi : (Jvm.Cond.instantiable C k).before a0 Z = true) (G : OArr Z h b ty vs) : a ≠ b := by
  obtain ⟨c, A, -⟩ := G
  exact ne_arr F.1 wi A
theorem OObj.neObj {Z : State} {h : Heap} {a b : Addr} {C C' : String} {fs gs : List (String × String × String × Value)} (F : OObj Z h a C fs) (G : OObj Z h b C' gs) (hn : C ≠ C') : a ≠ b := ne_exa F.1 G.1 hn
/-- a String reference that may be null -/
def OSv (Z : State) (h : Heap) (v : Value) (o : Option (List Int32)) : Prop := (v = .null ∧ o = none) ∨ ∃ (a b : Addr) (us : List Int32), v = .ref a ∧ o = some us ∧ OStr Z h a b (och us)
theorem OSv.isRef {Z : State} {h : Heap} {v : Value} {o : Option (List Int32)} (F : OSv Z h v o) : v.isRef = true := by
  rcases F with ⟨rfl, -⟩ | ⟨a, b, us, rfl, -⟩ <;> rfl
theorem OSv.cat {Z : State} {h : Heap} {v : Value} {o : Option (List Int32)} (F : OSv Z h v o) : v.category = 1 := by
  rcases F with ⟨rfl, -⟩ | ⟨a, b, us, rfl, -⟩ <;> rfl
theorem OSv.keep0 {Z : State} {h h' : Heap} {v : Value} {o : Option (List Int32)} (F : OSv Z h v o) (K : Keep h h' []) : OSv Z h' v o := by
  rcases F with F | ⟨a, b, us, e1, e2, F⟩
  · exact Or.inl F
  · exact Or.inr ⟨a, b, us, e1, e2, F.keep K nin0 nin0⟩
theorem OSv.keep1 {Z : State} {h h' : Heap} {v : Value} {o : Option (List Int32)} {c : Addr} {C : String} {a0 : Array Value} {fs : List (String × String × String × Value)} {k : Nat} (F : OSv Z h v o) (G : OObj Z h c C fs) (wi : (Jvm.Cond.instantiable C k).before a0 Z = true) (hC : C ≠ "java/lang/String") (K : Keep h h' [c]) : OSv Z h' v o := by
  rcases F with F | ⟨a, b, us, e1, e2, F⟩
  · exact Or.inl F
  · exact Or.inr ⟨a, b, us, e1, e2, F.keep K (ninS (Ne.symm (G.neObj F.1 hC)) nin0) (ninS (Ne.symm (G.neArr wi F.2)) nin0)⟩
theorem o_fitsRef {v : Value} {C : String} (h : v.isRef = true) : fits (.object C) v = true := by cases v <;> first | rfl | cases h
theorem o_store {l : Array Slot} {i : Nat} {v : Value} {o : Slot} {l' : Array Slot} (hold : l[i]? = some o) (ho : One o) (hv : v.category = 1) (e : l.setIfInBounds i (.val v) = l') : storeLocals l i v = some l' := e ▸ XS.store1 hold ho hv
/-- C is no K: C's superclass is the root; K is a class of objects -/
theorem o_ns1 {Z : State} {a0 : Array Value} {O C K : String} {n : Nat} (w0 : (Jvm.Cond.noSuperclass O).before a0 Z = true) (w : (Jvm.Cond.superclass C O).before a0 Z = true) (wi : (Jvm.Cond.instantiable K n).before a0 Z = true) (h1 : O ≠ K) (h2 : C ≠ K) : ∃ c t, Z.vm.findClass C = some c ∧ Z.vm.findClass K = some t ∧ Z.vm.assignable c t = false := by
  obtain ⟨c0, k0, a1, a2, a3, -, -⟩ := Cond.noSuperclass_spec w0
  obtain ⟨t, kt, g1, g2, g3, g4, -, -⟩ := Cond.instantiable_spec wi
  obtain ⟨c, b0⟩ := found_sup w
  obtain ⟨p, k, kp, b1, b2, b3, b4, b5, -, b7⟩ := Cond.superclass_spec b0 w
  cases b1.symm.trans a1
  have ne0 := ids_ne a1 g1 h1
  have ne1 := ids_ne b0 g1 h2
  have gI : kt.isInterface = false := by
    cases q : kt.isInterface
    · rfl
    · rw [q] at g4; cases g4
  have sub0 : ∀ fuel, Z.vm.isSubclassAux fuel c0 t = false := fun fuel => by
    cases fuel with
    | zero => rfl
    | succ f => simp [Vm.isSubclassAux, ne0, a2, a3]
  have sub : ∀ fuel, Z.vm.isSubclassAux fuel c t = false := fun fuel => by
    cases fuel with
    | zero => rfl
    | succ f => simp [Vm.isSubclassAux, ne1, b2, b4, sub0]
  refine ⟨c, t, b0, g1, ?_⟩
  show Z.vm.assignableAux (255 + 1) c t = false
  simp [Vm.assignableAux, ne1, b2, g2, b5, g3, gI, Vm.isSubclass, sub]
theorem o_nar_byte (c : Int32) : nar .byte (obyte c) = obyte c := by simp [nar, obyte]
theorem OObj.one {Z : State} {h : Heap} {a : Addr} {C O nm d : String} {v : Value} (E : Exa Z h a C) (F : Fld Z h a O nm d v) : OObj Z h a C [(O, nm, d, v)] := by
  refine ⟨E, fun f hf => ?_, fun i j f g hij hi hj => ?_⟩
  · rw [List.mem_singleton.mp hf]; exact F
  · have h1 := (List.getElem?_eq_some_iff.mp hi).1
    have h2 := (List.getElem?_eq_some_iff.mp hj).1
    simp at h1 h2; omega
theorem OObj.zero {Z : State} {h : Heap} {a : Addr} {C : String} (E : Exa Z h a C) : OObj Z h a C [] := ⟨E, fun f hf => (nomatch hf), fun i j f g hij hi hj => by simp at hi⟩
theorem OObj.ext {Z : State} {h h' : Heap} {a : Addr} {C : String} {fs : List (String × String × String × Value)} (F : OObj Z h a C fs) (E : Ext h h') : OObj Z h' a C fs := ⟨F.1.ext E, fun f hf => (F.2.1 f hf).ext E, F.2.2⟩
/-! from the case's words to facts at the start -/
section OStart
variable {Z : State} {args : Array Value} {t F : Term} {a : Addr} {cl : Cell} {ty : FieldType} {n : Int32} {vs : List Value}
theorem o_len (et : t.eval args Z none [] Z = some (.ref a)) (A : Arr Z Z.heap a cl ty) (h : (Jvm.Cond.eq (.length t) (.int n)).value args Z none Z [] = some true) : cl.slots.size < 2 ^ 31 ∧ cl.slots.size.toInt32 = n := by
  have e := eqv_i (Term.int_eval n) h
  have ha := A.fin (Vm.Alike.refl _)
  by_cases q : cl.slots.size < 2 ^ 31
  · rw [len_f et ha q] at e
    exact ⟨q, Value.int.inj (Option.some.inj e)⟩
  · simp [Term.eval, et, ha] at e
    omega
theorem o_fnull {C nm d : String} (et : t.eval args Z none [] Z = some (.ref a)) (h : (Jvm.Cond.eq (.field t C nm d) .null).value args Z none Z [] = some true) : Fld Z Z.heap a C nm d .null := Fld.start ((fld_at et).symm.trans (null_v h))
theorem o_eqr {X : Term} {y : Addr} (hF : F.eval args Z none [] Z = some (.ref y)) (h : (Jvm.Cond.eq X F).value args Z none Z [] = some true) : X.eval args Z none [] Z = some (.ref y) := by
  obtain ⟨x, y', e1, e2, k1, k2⟩ := cmp_v (Or.inl h)
  cases hF.symm.trans e2
  simp only [Cond.value, e1, hF] at h
  cases x <;> simp_all
theorem o_fexa {C nm d : String} {b : Addr} (et : t.eval args Z none [] Z = some (.ref a)) (eb : (Term.field t C nm d).eval args Z none [] Z = some (.ref b)) : Fld Z Z.heap a C nm d (.ref b) := Fld.start ((fld_at et).symm.trans eb)
theorem o_fint {C nm d : String} (et : t.eval args Z none [] Z = some (.ref a)) (h : (Jvm.Cond.eq (.field t C nm d) (.int n)).value args Z none Z [] = some true) : Fld Z Z.heap a C nm d (.int n) := Fld.start ((fld_at et).symm.trans (eqv_i (Term.int_eval n) h))
theorem o_flong {C nm d : String} {x : Int64} (et : t.eval args Z none [] Z = some (.ref a)) (h : (Jvm.Cond.eq (.field t C nm d) (.long x)).value args Z none Z [] = some true) : Fld Z Z.heap a C nm d (.long x) := Fld.start ((fld_at et).symm.trans (eqv_l (long_at x) h))
theorem o_slot {j : Int32} {v : Value} (et : t.eval args Z none [] Z = some (.ref a)) (A : Arr Z Z.heap a cl ty) (hj : ¬ j < 0) (e : (Term.elem t (.int j)).eval args Z none [] Z = some v) : cl.slots[j.toNatClampNeg]? = some v := (elem_f et (Term.int_eval j) (A.fin (Vm.Alike.refl _)) hj).symm.trans e
theorem OArr.start (hf : Fit Z) (A : Arr Z Z.heap a cl ty) (hl : cl.slots.size < 2 ^ 31 ∧ cl.slots.size.toInt32 = n) (hz : ¬ n < 0) (hn : n.toNatClampNeg = vs.length) (H : HasL cl 0 vs) : OArr Z Z.heap a ty vs := OArr.ofArv (dv := .null) (Arv.start hf A hl.1 hl.2 hz hn H) hn.symm
theorem OArr.ext {h h' : Heap} (F : OArr Z h a ty vs) (E : Ext h h') : OArr Z h' a ty vs := by obtain ⟨c, A, r⟩ := F; exact ⟨c, A.ext E, r⟩
theorem OObj.two {h : Heap} {C O nm d O' nm' d' : String} {a0 : Array Value} {v w : Value} {ty ty' : FieldType} (E : Exa Z h a C) (F : Fld Z h a O nm d v) (G : Fld Z h a O' nm' d' w) (L : Laid Z a0 C O nm d) (L' : Laid Z a0 C O' nm' d') (hn : nm ≠ nm') (ht : parseFieldDescriptor d = some ty) (ht' : parseFieldDescriptor d' = some ty') : OObj Z h a C [(O, nm, d, v), (O', nm', d', w)] := by
  have s1 := slot_ne L L' hn ht ht'
  refine ⟨E, fun f hf => ?_, fun i j f g hij hi hj => ?_⟩
  · rcases List.mem_cons.mp hf with rfl | hf
    · exact F
    · rw [List.mem_singleton.mp hf]; exact G
  · match i, j, hi, hj with
    | 0, 0, _, _ => exact absurd rfl hij
    | 1, 1, _, _ => exact absurd rfl hij
    | 0, 1, hi, hj => cases hi; cases hj; exact s1
    | 1, 0, hi, hj => cases hi; cases hj; exact s1.symm
end OStart
section OClone
variable {p : Program} {l : Launch} {e : Env} {R : Room} {s : State} {m : MethodId} {args : Array Value} {below : List Frame} {meth : Method} {c : Code} {T T' : State} {cells slots : Nat} {Z : State} {a0 : Array Value} {EL : List (String × Nat)} {n0 : Nat} {W0 : List Addr} {own : String} {h h' : Heap} {Ow : List Addr} {Pq : Outcome → State → Prop} {pc pc' : Nat} {L : Array Slot} {S : List Value}
theorem o_clone (P : OPn p l e R s m args below meth c Z a0 EL n0 W0 own T h Ow cells slots) {ad : String} {index cap W : Nat} {a : Addr} {ty : FieldType} {vs : List Value} (w1 : (Jvm.Cond.methodLink own index ⟨ad, "clone", "()Ljava/lang/Object;"⟩).before a0 Z = true) (w2 : (Jvm.Cond.sameMethod ad "java/lang/Object" "clone" "()Ljava/lang/Object;").before a0 Z = true) (w3 : (Jvm.Cond.native ⟨"java/lang/Object", "clone", "()Ljava/lang/Object;"⟩).before a0 Z = true) (w4 : (Jvm.Cond.instanceMethod ⟨"java/lang/Object", "clone", "()Ljava/lang/Object;"⟩).before a0 Z = true) (w5 : (Jvm.Cond.selects ad ⟨ad, "clone", "()Ljava/lang/Object;"⟩ ⟨"java/lang/Object", "clone", "()Ljava/lang/Object;"⟩).before a0 Z = true) (w6 : (Jvm.Cond.castable ad "java/lang/Cloneable").before a0 Z = true)
    (A : OArr Z h a ty vs) (E : Exa Z h a ad) (hml : L.size = c.maxLocals) (hd : decode c.code pc = .ok (.invokevirtual index, 3)) (hp : pc + 3 = pc') (hf : 1 ≤ R.frames) (hW : (S.map fun v => v.category).sum ≤ W) (hl : W + 14 ≤ R.locals) (hcap : vs.length ≤ cap) (hc : cells + 1 ≤ R.cells) (hs : slots + cap ≤ R.slots)
    (k : ∀ T' h' b, OPn p l e R s m args below meth c Z a0 EL n0 W0 own T' h' (b :: Ow) (cells + 1) (slots + cap) → Keep h h' [] → h.size ≤ b → OArr Z h' b ty vs → Exa Z h' b ad → OG p e below m Pq T' pc' L (.ref b :: S)) : OG p e below m Pq T pc L (.ref a :: S) := by
  subst hp
  obtain ⟨cl, Ar, e1, e2, e3⟩ := A
  have FC : FitC Z cl := fitC_of Ar fun i hi v hv => e3 v (by rw [e1] at hv; exact List.mem_of_getElem? (by simpa using hv))
  refine P.grow (G := fun h' b => OArr Z h' b ty vs ∧ Exa Z h' b ad) (fun locs X hZ hown eT hx => ?_) fun T' h' b P' K hb q => k T' h' b P' K hb q.1 q.2
  obtain ⟨T', h', X', e', E', A', B', st⟩ := cloneA X hx hZ hown w1 w2 w3 w4 w5 w6 eT Ar E FC (g := mkF m pc L (.ref a :: S)) rfl hml rfl hd hf (by show 2 * 0 + _ ≤ _; omega) hl (by rw [e1]; simpa using hcap) hc hs
  exact ⟨T', h', X', e', E', A'.lt, ⟨⟨_, A', e1, e2, e3⟩, B'⟩, st⟩
end OClone
theorem ow {Z : State} {a0 : Array Value} {d : Jvm.Cond} (hw : ∀ d ∈ tables_1, d.before a0 Z = true) (k : Nat) (h : tables_1[k]? = some d) : d.before a0 Z = true := hw d (List.mem_of_getElem? h)
theorem pd_0 : parseMethodDescriptor "([CI[BII)I" = some ⟨[(.array .char), .int, (.array .byte), .int, .int], some .int⟩ := by decide +kernel
theorem pd_1 : parseMethodDescriptor "([CII)[B" = some ⟨[(.array .char), .int, .int], some (.array .byte)⟩ := by decide +kernel
theorem pd_2 : parseMethodDescriptor "([BI)B" = some ⟨[(.array .byte), .int], some .byte⟩ := by decide +kernel
theorem pd_3 : parseMethodDescriptor "([CIILjava/lang/Void;)V" = some ⟨[(.array .char), .int, .int, (.object "java/lang/Void")], none⟩ := by decide +kernel
theorem pd_4 : parseMethodDescriptor "([B[B)Z" = some ⟨[(.array .byte), (.array .byte)], some .boolean⟩ := by decide +kernel
theorem pd_5 : parseMethodDescriptor "(IILjava/util/function/BiFunction;)I" = some ⟨[.int, .int, (.object "java/util/function/BiFunction")], some .int⟩ := by decide +kernel
theorem pd_6 : parseMethodDescriptor "(II)V" = some ⟨[.int, .int], none⟩ := by decide +kernel
theorem pd_7 : parseMethodDescriptor "()Z" = some ⟨[], some .boolean⟩ := by decide +kernel
theorem pd_8 : parseMethodDescriptor "([BI)C" = some ⟨[(.array .byte), .int], some .char⟩ := by decide +kernel
theorem pd_9 : parseMethodDescriptor "()B" = some ⟨[], some .byte⟩ := by decide +kernel
theorem pd_10 : parseMethodDescriptor "()[Lcom/example/busca/busca/analysis/Analyzer;" = some ⟨[], some (.array (.object "com/example/busca/busca/analysis/Analyzer"))⟩ := by decide +kernel
theorem pd_11 : parseMethodDescriptor "(Ljava/lang/Object;)Z" = some ⟨[(.object "java/lang/Object")], some .boolean⟩ := by decide +kernel
theorem pd_12 : parseMethodDescriptor "()I" = some ⟨[], some .int⟩ := by decide +kernel
theorem pd_13 : parseMethodDescriptor "(I)C" = some ⟨[.int], some .char⟩ := by decide +kernel
theorem pd_14 : parseMethodDescriptor "([C)V" = some ⟨[(.array .char)], none⟩ := by decide +kernel
theorem pd_15 : parseMethodDescriptor "(Ljava/lang/String;)Lcom/example/busca/busca/analysis/Analyzer;" = some ⟨[(.object "java/lang/String")], some (.object "com/example/busca/busca/analysis/Analyzer")⟩ := by decide +kernel
theorem pd_16 : parseMethodDescriptor "([CI)Ljava/lang/String;" = some ⟨[(.array .char), .int], some (.object "java/lang/String")⟩ := by decide +kernel
theorem pd_17 : parseMethodDescriptor "(Ljava/lang/String;IJ)C" = some ⟨[(.object "java/lang/String"), .int, .long], some .char⟩ := by decide +kernel
theorem pd_18 : parseMethodDescriptor "(II)I" = some ⟨[.int, .int], some .int⟩ := by decide +kernel
theorem pn_S : plainName "java/lang/String" = true := by first | (simp [plainName, overriddenIn]; done) | decide +kernel
theorem pn_L1 : plainName "java/lang/StringLatin1" = true := by first | (simp [plainName, overriddenIn]; done) | decide +kernel
theorem pn_U16 : plainName "java/lang/StringUTF16" = true := by first | (simp [plainName, overriddenIn]; done) | decide +kernel
theorem dsl_0 : decode jdk_52_method_21_code 0 = .ok (.iconst 0, 1) := by decide +kernel
theorem dsl_1 : decode jdk_52_method_21_code 1 = .ok (.istore 5, 2) := by decide +kernel
theorem dsl_3 : decode jdk_52_method_21_code 3 = .ok (.iload 5, 2) := by decide +kernel
theorem dsl_5 : decode jdk_52_method_21_code 5 = .ok (.iload 4, 2) := by decide +kernel
theorem dsl_7 : decode jdk_52_method_21_code 7 = .ok (.if_icmp .ge 37, 3) := by decide +kernel
theorem dsl_10 : decode jdk_52_method_21_code 10 = .ok (.aload_n 0, 1) := by decide +kernel
theorem dsl_11 : decode jdk_52_method_21_code 11 = .ok (.iload_n 1, 1) := by decide +kernel
theorem dsl_12 : decode jdk_52_method_21_code 12 = .ok (.caload, 1) := by decide +kernel
theorem dsl_13 : decode jdk_52_method_21_code 13 = .ok (.istore 6, 2) := by decide +kernel
theorem dsl_15 : decode jdk_52_method_21_code 15 = .ok (.iload 6, 2) := by decide +kernel
theorem dsl_17 : decode jdk_52_method_21_code 17 = .ok (.sipush 255, 3) := by decide +kernel
theorem dsl_20 : decode jdk_52_method_21_code 20 = .ok (.if_icmp .le 6, 3) := by decide +kernel
theorem dsl_23 : decode jdk_52_method_21_code 23 = .ok (.iload 5, 2) := by decide +kernel
theorem dsl_25 : decode jdk_52_method_21_code 25 = .ok (.ireturn, 1) := by decide +kernel
theorem dsl_26 : decode jdk_52_method_21_code 26 = .ok (.aload_n 2, 1) := by decide +kernel
theorem dsl_27 : decode jdk_52_method_21_code 27 = .ok (.iload_n 3, 1) := by decide +kernel
theorem dsl_28 : decode jdk_52_method_21_code 28 = .ok (.iload 6, 2) := by decide +kernel
theorem dsl_30 : decode jdk_52_method_21_code 30 = .ok (.i2b, 1) := by decide +kernel
theorem dsl_31 : decode jdk_52_method_21_code 31 = .ok (.bastore, 1) := by decide +kernel
theorem dsl_32 : decode jdk_52_method_21_code 32 = .ok (.iinc 1 1, 3) := by decide +kernel
theorem dsl_35 : decode jdk_52_method_21_code 35 = .ok (.iinc 3 1, 3) := by decide +kernel
theorem dsl_38 : decode jdk_52_method_21_code 38 = .ok (.iinc 5 1, 3) := by decide +kernel
theorem dsl_41 : decode jdk_52_method_21_code 41 = .ok (.goto (-38), 3) := by decide +kernel
theorem dsl_44 : decode jdk_52_method_21_code 44 = .ok (.iload 4, 2) := by decide +kernel
theorem dsl_46 : decode jdk_52_method_21_code 46 = .ok (.ireturn, 1) := by decide +kernel
theorem ef_sl (x0 : Addr) (x1 : Int32) (x2 : Addr) (x3 : Int32) (x4 : Int32) (m : MethodId) : entryFrame m #[(.ref x0), (.int x1), (.ref x2), (.int x3), (.int x4)] 7 = mkF m 0 #[.val (.ref x0), .val (.int x1), .val (.ref x2), .val (.int x3), .val (.int x4), .unset, .unset] [] := by first | (simp [entryFrame, mkF, argsToLocals, o_catR, o_catN, o_catI, o_catJ, o_catD]; done) | rfl
theorem o_takeset {cs : List Int32} {i k : Nat} {c : Int32} (hik : i + (k + 1) = cs.length) (hc : cs[i]? = some c) : (och ((cs.take i).map obyte) ++ List.replicate (k + 1) (Value.int 0)).set i (.int (obyte c)) = och ((cs.take (i + 1)).map obyte) ++ List.replicate k (.int 0) := by
  have hl : (och ((cs.take i).map obyte)).length = i := by simp; omega
  rw [List.set_append_right _ _ (by rw [hl]; exact Nat.le_refl _), hl, Nat.sub_self, List.replicate_succ, List.set_cons_zero]
  obtain ⟨hi, e⟩ := List.getElem?_eq_some_iff.mp hc
  rw [List.take_succ_eq_append_getElem hi, e]
  simp
theorem o_takelen {cs : List Int32} {i k : Nat} (hik : i + (k + 1) = cs.length) : i < (och ((cs.take i).map obyte) ++ List.replicate (k + 1) (Value.int 0)).length := by simp; omega
set_option maxRecDepth 65536 in
set_option maxHeartbeats 40000000 in
theorem ct_cmprL (l : Launch) (Z : State) (a0 : Array Value) (hw : ∀ d ∈ tables_1, d.before a0 Z = true) (EL : List (String × Nat)) (n0 : Nat) (va d : Addr) (cs : List Int32) (h0 : Heap) (A_va : OArr Z h0 va .char (och cs)) (A_d : OArr Z h0 d .byte (List.replicate cs.length (.int 0))) (ne_va_d : va ≠ d) (hl : OLat cs) :
    OCt l Z a0 EL n0 (⟨"java/lang/StringUTF16", "compress", "([CI[BII)I"⟩ : MethodName) jdk_52_method_21_code 7 (some .int) ({ frames := 0, cells := 0, slots := 0, locals := 0 } : Room) [] #[(.ref va), (.int (0 : Int32)), (.ref d), (.int (0 : Int32)), (.int cs.length.toInt32)] h0 [d] (fun w vm h => w = some (.int cs.length.toInt32) ∧ OArr Z h d .byte (och (cs.map obyte))) := by
  refine OCt.body (plainFor_of_name pn_U16) (ef_sl va ((0 : Int32)) d ((0 : Int32)) (cs.length.toInt32)) ?_
  intro p e s m below meth c T hby hml hret hnm hsh P
  have hbig : cs.length < 2147483648 := by simpa using A_va.len
  have loop : ∀ (k i : Nat) (T : State) (h : Heap) (o : Slot), i + k = cs.length → One o → OPn p l e ({ frames := 0, cells := 0, slots := 0, locals := 0 } : Room) s m #[(.ref va), (.int (0 : Int32)), (.ref d), (.int (0 : Int32)), (.int cs.length.toInt32)] below meth c Z a0 EL n0 [d] "java/lang/StringUTF16" T h [d] 0 0 → OArr Z h va .char (och cs) → OArr Z h d .byte (och ((cs.take i).map obyte) ++ List.replicate k (.int 0)) → OG p e below m (OFq Z EL n0 s [d] ({ frames := 0, cells := 0, slots := 0, locals := 0 } : Room) (fun w vm h => w = some (.int cs.length.toInt32) ∧ OArr Z h d .byte (och (cs.map obyte)))) T 3 #[.val (.ref va), .val (.int i.toInt32), .val (.ref d), .val (.int i.toInt32), .val (.int cs.length.toInt32), .val (.int i.toInt32), o] [] := by
    clear P A_va A_d T
    intro k
    induction k with
    | zero =>
        intro i T h o hik ho P A_va A_d
        refine o_iload P (hb hby dsl_3) rfl (pc' := 5) rfl ?_
        refine o_iload P (hb hby dsl_5) rfl (pc' := 7) rfl ?_
        refine o_icmp_ge P (hb hby dsl_7) (by decide) (pc' := 44) (by decide) (pcf := 10) rfl (fun _ => ?_) (fun q => absurd q (fun q => by rw [oi_lt (by omega) hbig] at q; omega))
        refine o_iload P (hb hby dsl_44) rfl (pc' := 46) rfl ?_
        exact o_retI P hret (by simp) rfl (hb hby dsl_46) (by decide) (by decide) ⟨rfl, by rw [show i = cs.length by omega, List.take_length] at A_d; simpa using A_d⟩
    | succ k ih =>
        intro i T h o hik ho P A_va A_d
        obtain ⟨cc, hc⟩ : ∃ cc, cs[i]? = some cc := ⟨cs[i]'(by omega), List.getElem?_eq_getElem (by omega)⟩
        refine o_iload P (hb hby dsl_3) rfl (pc' := 5) rfl ?_
        refine o_iload P (hb hby dsl_5) rfl (pc' := 7) rfl ?_
        refine o_icmp_ge P (hb hby dsl_7) (by decide) (pc' := 44) (by decide) (pcf := 10) rfl (fun q => absurd ((oi_lt (by omega) hbig).mpr (by omega)) q) (fun _ => ?_)
        refine o_aloadN P (hb hby dsl_10) rfl rfl (pc' := 11) rfl ?_
        refine o_iloadN P (hb hby dsl_11) rfl (pc' := 12) rfl ?_
        refine o_caload P (v := (.int cc)) A_va (oi_nn (by omega)) (by rw [oi_nat (by omega)]; exact och_get hc) (hb hby dsl_12) (pc' := 13) rfl ?_
        refine o_istore P (hb hby dsl_13) (L' := #[.val (.ref va), .val (.int i.toInt32), .val (.ref d), .val (.int i.toInt32), .val (.int cs.length.toInt32), .val (.int i.toInt32), .val (.int cc)]) (o_store rfl ho rfl rfl) (pc' := 15) rfl ?_
        refine o_iload P (hb hby dsl_15) rfl (pc' := 17) rfl ?_
        refine o_sipush P (255 : Int32) (hb hby dsl_17) rfl (pc' := 20) rfl ?_
        refine o_icmp_le P (hb hby dsl_20) (by decide) (pc' := 26) (by decide) (pcf := 23) rfl (fun _ => ?_) (fun q => absurd q (hl cc (List.mem_of_getElem? hc)).2)
        refine o_aloadN P (hb hby dsl_26) rfl rfl (pc' := 27) rfl ?_
        refine o_iloadN P (hb hby dsl_27) rfl (pc' := 28) rfl ?_
        refine o_iload P (hb hby dsl_28) rfl (pc' := 30) rfl ?_
        refine o_i2b P (hb hby dsl_30) (pc' := 31) rfl ?_
        refine o_bastore P (v := (.int (obyte cc))) A_d (List.Mem.head _) (oi_nn (by omega)) (by rw [oi_nat (by omega)]; exact o_takelen hik) (congrArg Value.int (o_nar_byte cc)) (hb hby dsl_31) (pc' := 32) rfl ?_
        clear P; clear A_d; intro T h1 P W1 A_d
        replace A_va := A_va.oth W1 ne_va_d
        clear W1
        rw [oi_nat (by omega), o_takeset hik hc] at A_d
        refine o_iinc P (1 : Int32) (hb hby dsl_32) rfl rfl (L' := #[.val (.ref va), .val (.int (i.toInt32 + (1 : Int32))), .val (.ref d), .val (.int i.toInt32), .val (.int cs.length.toInt32), .val (.int i.toInt32), .val (.int cc)]) rfl (pc' := 35) rfl ?_
        refine o_iinc P (1 : Int32) (hb hby dsl_35) rfl rfl (L' := #[.val (.ref va), .val (.int (i.toInt32 + (1 : Int32))), .val (.ref d), .val (.int (i.toInt32 + (1 : Int32))), .val (.int cs.length.toInt32), .val (.int i.toInt32), .val (.int cc)]) rfl (pc' := 38) rfl ?_
        refine o_iinc P (1 : Int32) (hb hby dsl_38) rfl rfl (L' := #[.val (.ref va), .val (.int (i.toInt32 + (1 : Int32))), .val (.ref d), .val (.int (i.toInt32 + (1 : Int32))), .val (.int cs.length.toInt32), .val (.int (i.toInt32 + (1 : Int32))), .val (.int cc)]) rfl (pc' := 41) rfl ?_
        refine o_goto P (hb hby dsl_41) (by decide) (pc' := 3) (by decide) ?_
        rw [oi_succ i]
        exact ih (i + 1) T h1 _ (by omega) (One.val rfl) P A_va A_d
  refine o_iconst P (0 : Int32) (hb hby dsl_0) rfl (pc' := 1) rfl ?_
  refine o_istore P (hb hby dsl_1) (L' := #[.val (.ref va), .val (.int (0 : Int32)), .val (.ref d), .val (.int (0 : Int32)), .val (.int cs.length.toInt32), .val (.int (0 : Int32)), .unset]) rfl (pc' := 3) rfl ?_
  exact loop cs.length 0 T h0 _ (by omega) One.u P A_va (by simpa using A_d)
theorem dsk_0 : decode jdk_52_method_16_code 0 = .ok (.iload_n 2, 1) := by decide +kernel
theorem dsk_1 : decode jdk_52_method_16_code 1 = .ok (.newarray .byte, 2) := by decide +kernel
theorem dsk_3 : decode jdk_52_method_16_code 3 = .ok (.astore_n 3, 1) := by decide +kernel
theorem dsk_4 : decode jdk_52_method_16_code 4 = .ok (.aload_n 0, 1) := by decide +kernel
theorem dsk_5 : decode jdk_52_method_16_code 5 = .ok (.iload_n 1, 1) := by decide +kernel
theorem dsk_6 : decode jdk_52_method_16_code 6 = .ok (.aload_n 3, 1) := by decide +kernel
theorem dsk_7 : decode jdk_52_method_16_code 7 = .ok (.iconst 0, 1) := by decide +kernel
theorem dsk_8 : decode jdk_52_method_16_code 8 = .ok (.iload_n 2, 1) := by decide +kernel
theorem dsk_9 : decode jdk_52_method_16_code 9 = .ok (.invokestatic 115, 3) := by decide +kernel
theorem dsk_12 : decode jdk_52_method_16_code 12 = .ok (.istore 4, 2) := by decide +kernel
theorem dsk_14 : decode jdk_52_method_16_code 14 = .ok (.iload 4, 2) := by decide +kernel
theorem dsk_16 : decode jdk_52_method_16_code 16 = .ok (.iload_n 2, 1) := by decide +kernel
theorem dsk_17 : decode jdk_52_method_16_code 17 = .ok (.if_icmp .eq 40, 3) := by decide +kernel
theorem dsk_20 : decode jdk_52_method_16_code 20 = .ok (.aload_n 0, 1) := by decide +kernel
theorem dsk_21 : decode jdk_52_method_16_code 21 = .ok (.iload_n 1, 1) := by decide +kernel
theorem dsk_22 : decode jdk_52_method_16_code 22 = .ok (.iload_n 2, 1) := by decide +kernel
theorem dsk_23 : decode jdk_52_method_16_code 23 = .ok (.invokestatic 119, 3) := by decide +kernel
theorem dsk_26 : decode jdk_52_method_16_code 26 = .ok (.astore 5, 2) := by decide +kernel
theorem dsk_28 : decode jdk_52_method_16_code 28 = .ok (.aload 5, 2) := by decide +kernel
theorem dsk_30 : decode jdk_52_method_16_code 30 = .ok (.iload 4, 2) := by decide +kernel
theorem dsk_32 : decode jdk_52_method_16_code 32 = .ok (.invokestatic 71, 3) := by decide +kernel
theorem dsk_35 : decode jdk_52_method_16_code 35 = .ok (.sipush 255, 3) := by decide +kernel
theorem dsk_38 : decode jdk_52_method_16_code 38 = .ok (.if_icmp .gt 16, 3) := by decide +kernel
theorem dsk_41 : decode jdk_52_method_16_code 41 = .ok (.aload 5, 2) := by decide +kernel
theorem dsk_43 : decode jdk_52_method_16_code 43 = .ok (.iconst 0, 1) := by decide +kernel
theorem dsk_44 : decode jdk_52_method_16_code 44 = .ok (.aload_n 3, 1) := by decide +kernel
theorem dsk_45 : decode jdk_52_method_16_code 45 = .ok (.iconst 0, 1) := by decide +kernel
theorem dsk_46 : decode jdk_52_method_16_code 46 = .ok (.iload_n 2, 1) := by decide +kernel
theorem dsk_47 : decode jdk_52_method_16_code 47 = .ok (.invokestatic 123, 3) := by decide +kernel
theorem dsk_50 : decode jdk_52_method_16_code 50 = .ok (.iload_n 2, 1) := by decide +kernel
theorem dsk_51 : decode jdk_52_method_16_code 51 = .ok (.if_icmp .eq 6, 3) := by decide +kernel
theorem dsk_54 : decode jdk_52_method_16_code 54 = .ok (.aload 5, 2) := by decide +kernel
theorem dsk_56 : decode jdk_52_method_16_code 56 = .ok (.areturn, 1) := by decide +kernel
theorem dsk_57 : decode jdk_52_method_16_code 57 = .ok (.aload_n 3, 1) := by decide +kernel
theorem dsk_58 : decode jdk_52_method_16_code 58 = .ok (.areturn, 1) := by decide +kernel
theorem ef_sk (x0 : Addr) (x1 : Int32) (x2 : Int32) (m : MethodId) : entryFrame m #[(.ref x0), (.int x1), (.int x2)] 6 = mkF m 0 #[.val (.ref x0), .val (.int x1), .val (.int x2), .unset, .unset, .unset] [] := by first | (simp [entryFrame, mkF, argsToLocals, o_catR, o_catN, o_catI, o_catJ, o_catD]; done) | rfl
set_option maxRecDepth 65536 in
set_option maxHeartbeats 40000000 in
theorem ct_cmpr (l : Launch) (Z : State) (a0 : Array Value) (hw : ∀ d ∈ tables_1, d.before a0 Z = true) (EL : List (String × Nat)) (n0 : Nat) (va : Addr) (cs : List Int32) (h0 : Heap) (A_va : OArr Z h0 va .char (och cs)) (hl : OLat cs) (hcap : cs.length ≤ 8) :
    OCt l Z a0 EL n0 (⟨"java/lang/StringUTF16", "compress", "([CII)[B"⟩ : MethodName) jdk_52_method_16_code 6 (some (.array .byte)) ({ frames := 1, cells := 1, slots := 8, locals := 18 } : Room) [] #[(.ref va), (.int (0 : Int32)), (.int cs.length.toInt32)] h0 [] (fun w vm h => ∃ d : Addr, w = some (.ref d) ∧ h0.size ≤ d ∧ OArr Z h d .byte (och (cs.map obyte))) := by
  refine OCt.body (plainFor_of_name pn_U16) (ef_sk va ((0 : Int32)) (cs.length.toInt32)) ?_
  intro p e s m below meth c T hby hml hret hnm hsh P
  refine o_iloadN P (hb hby dsk_0) rfl (pc' := 1) rfl ?_
  have hz_d := P.keep0.1
  refine o_newarr P (cap := 8) (ow hw 3 rfl) (hb hby dsk_1) (oi_nn (by omega)) (by rw [oi_nat (by omega)]; exact hcap) (by decide) (pc' := 3) rfl (by decide) (by decide) ?_
  clear P; intro T h1 d P K1 hb_d A_d
  have sz_d := Nat.le_trans hz_d hb_d
  clear hz_d
  have ne_va_d : va ≠ d := Nat.ne_of_lt (Nat.lt_of_lt_of_le A_va.lt hb_d)
  replace A_va := A_va.keep K1 nin0
  clear K1
  replace A_d : OArr Z h1 d .byte (List.replicate cs.length (.int 0)) := by rw [oi_nat (by omega)] at A_d; exact A_d
  refine o_astoreN P (hb hby dsk_3) rfl (L' := #[.val (.ref va), .val (.int (0 : Int32)), .val (.int cs.length.toInt32), .val (.ref d), .unset, .unset]) rfl (pc' := 4) rfl ?_
  refine o_aloadN P (hb hby dsk_4) rfl rfl (pc' := 5) rfl ?_
  refine o_iloadN P (hb hby dsk_5) rfl (pc' := 6) rfl ?_
  refine o_aloadN P (hb hby dsk_6) rfl rfl (pc' := 7) rfl ?_
  refine o_iconst P (0 : Int32) (hb hby dsk_7) rfl (pc' := 8) rfl ?_
  refine o_iloadN P (hb hby dsk_8) rfl (pc' := 9) rfl ?_
  refine o_callS P (W := 0) (ow hw 104 rfl) (ow hw 105 rfl) (ow hw 102 rfl) (ow hw 106 rfl) (by decide) (ct_cmprL l Z a0 hw EL n0 va d cs h1 A_va A_d ne_va_d hl) (o_sfS (List.Mem.head _) o_sf0) (by rw [hml]; rfl) (by decide) (by decide) (argsL := [(.ref va), (.int (0 : Int32)), (.ref d), (.int (0 : Int32)), (.int cs.length.toInt32)]) (rest := []) (lenOf pd_0 rfl) rfl rfl (Nat.le_of_eq rfl) (hb hby dsk_9) (pc' := 12) rfl (by decide) (by decide) ?_
  clear P; intro T h2 v2 P K2 q2
  clear A_d; obtain ⟨rfl, A_d⟩ := q2
  replace A_va := A_va.keep K2 (ninS ne_va_d nin0)
  show OG p e below m _ T 12 #[.val (.ref va), .val (.int (0 : Int32)), .val (.int cs.length.toInt32), .val (.ref d), .unset, .unset] [(.int cs.length.toInt32)]
  refine o_istore P (hb hby dsk_12) (L' := #[.val (.ref va), .val (.int (0 : Int32)), .val (.int cs.length.toInt32), .val (.ref d), .val (.int cs.length.toInt32), .unset]) rfl (pc' := 14) rfl ?_
  refine o_iload P (hb hby dsk_14) rfl (pc' := 16) rfl ?_
  refine o_iloadN P (hb hby dsk_16) rfl (pc' := 17) rfl ?_
  refine o_icmp_eq P (hb hby dsk_17) (by decide) (pc' := 57) (by decide) (pcf := 20) rfl (fun _ => ?_) (fun q => absurd rfl q)
  refine o_aloadN P (hb hby dsk_57) rfl rfl (pc' := 58) rfl ?_
  exact o_retA P hret rfl rfl rfl (hb hby dsk_58) (by decide) (by decide) ⟨d, rfl, hsh ▸ sz_d, A_d⟩
theorem dsc_0 : decode jdk_52_method_15_code 0 = .ok (.iload_n 1, 1) := by decide +kernel
theorem dsc_1 : decode jdk_52_method_15_code 1 = .ok (.aload_n 0, 1) := by decide +kernel
theorem dsc_2 : decode jdk_52_method_15_code 2 = .ok (.arraylength, 1) := by decide +kernel
theorem dsc_3 : decode jdk_52_method_15_code 3 = .ok (.isub, 1) := by decide +kernel
theorem dsc_4 : decode jdk_52_method_15_code 4 = .ok (.bipush 31, 2) := by decide +kernel
theorem dsc_6 : decode jdk_52_method_15_code 6 = .ok (.iushr, 1) := by decide +kernel
theorem dsc_7 : decode jdk_52_method_15_code 7 = .ok (.i2b, 1) := by decide +kernel
theorem dsc_8 : decode jdk_52_method_15_code 8 = .ok (.ireturn, 1) := by decide +kernel
theorem ef_sc (x0 : Addr) (x1 : Int32) (m : MethodId) : entryFrame m #[(.ref x0), (.int x1)] 2 = mkF m 0 #[.val (.ref x0), .val (.int x1)] [] := by first | (simp [entryFrame, mkF, argsToLocals, o_catR, o_catN, o_catI, o_catJ, o_catD]; done) | rfl
set_option maxRecDepth 65536 in
set_option maxHeartbeats 40000000 in
theorem ct_coder (l : Launch) (Z : State) (a0 : Array Value) (hw : ∀ d ∈ tables_1, d.before a0 Z = true) (EL : List (String × Nat)) (n0 : Nat) (a : Addr) (n : Int32) (vs : List Value) (h0 : Heap) (A_a : OArr Z h0 a .byte vs) (hn : vs.length.toInt32 = n) :
    OCt l Z a0 EL n0 (⟨"java/lang/StringUTF16", "coderFromArrayLen", "([BI)B"⟩ : MethodName) jdk_52_method_15_code 2 (some .byte) ({ frames := 0, cells := 0, slots := 0, locals := 0 } : Room) [] #[(.ref a), (.int n)] h0 [] (fun w vm h => w = some (.int 0) ∧ h = h0) := by
  refine OCt.body (plainFor_of_name pn_U16) (ef_sc a n) ?_
  intro p e s m below meth c T hby hml hret hnm hsh P
  refine o_iloadN P (hb hby dsc_0) rfl (pc' := 1) rfl ?_
  refine o_aloadN P (hb hby dsc_1) rfl rfl (pc' := 2) rfl ?_
  refine o_arrlen P A_a (hb hby dsc_2) (n := n) hn (pc' := 3) rfl ?_
  refine o_isub P (hb hby dsc_3) (pc' := 4) rfl ?_
  refine o_bipush P (31 : Int32) (hb hby dsc_4) rfl (pc' := 6) rfl ?_
  refine o_iushr P (hb hby dsc_6) (pc' := 7) rfl ?_
  refine o_i2b P (hb hby dsc_7) (pc' := 8) rfl ?_
  rw [Int32.sub_self]
  show OG p e below m _ T 8 #[.val (.ref a), .val (.int n)] [(.int (0 : Int32))]
  exact o_retI P hret (by simp) rfl (hb hby dsc_8) (by decide) (by decide) ⟨rfl, rfl⟩
theorem own_wS {Z : State} {a0 : Array Value} (hw : ∀ d ∈ tables_1, d.before a0 Z = true) : ∀ a ∈ Bundle.stringAtoms, a.before a0 Z = true := fun a ha => by
  simp only [Bundle.stringAtoms, List.mem_cons, List.not_mem_nil, or_false] at ha
  rcases ha with rfl | rfl | rfl | rfl | rfl | rfl | rfl
  · exact (ow hw 1 rfl)
  · exact (ow hw 2 rfl)
  · exact (ow hw 3 rfl)
  · exact (ow hw 4 rfl)
  · exact (ow hw 5 rfl)
  · exact (ow hw 6 rfl)
  · exact (ow hw 7 rfl)
theorem dsi_0 : decode jdk_42_method_149_code 0 = .ok (.aload_n 0, 1) := by decide +kernel
theorem dsi_1 : decode jdk_42_method_149_code 1 = .ok (.invokespecial 1, 3) := by decide +kernel
theorem dsi_4 : decode jdk_42_method_149_code 4 = .ok (.iload_n 3, 1) := by decide +kernel
theorem dsi_5 : decode jdk_42_method_149_code 5 = .ok (.ifCond .ne 22, 3) := by decide +kernel
theorem dsi_8 : decode jdk_42_method_149_code 8 = .ok (.aload_n 0, 1) := by decide +kernel
theorem dsi_9 : decode jdk_42_method_149_code 9 = .ok (.ldc 7, 2) := by decide +kernel
theorem dsi_11 : decode jdk_42_method_149_code 11 = .ok (.getfield 9, 3) := by decide +kernel
theorem dsi_14 : decode jdk_42_method_149_code 14 = .ok (.putfield 9, 3) := by decide +kernel
theorem dsi_17 : decode jdk_42_method_149_code 17 = .ok (.aload_n 0, 1) := by decide +kernel
theorem dsi_18 : decode jdk_42_method_149_code 18 = .ok (.ldc 7, 2) := by decide +kernel
theorem dsi_20 : decode jdk_42_method_149_code 20 = .ok (.getfield 15, 3) := by decide +kernel
theorem dsi_23 : decode jdk_42_method_149_code 23 = .ok (.putfield 15, 3) := by decide +kernel
theorem dsi_26 : decode jdk_42_method_149_code 26 = .ok (.return_, 1) := by decide +kernel
theorem dsi_27 : decode jdk_42_method_149_code 27 = .ok (.getstatic 38, 3) := by decide +kernel
theorem dsi_30 : decode jdk_42_method_149_code 30 = .ok (.ifCond .eq 28, 3) := by decide +kernel
theorem dsi_33 : decode jdk_42_method_149_code 33 = .ok (.aload_n 1, 1) := by decide +kernel
theorem dsi_34 : decode jdk_42_method_149_code 34 = .ok (.iload_n 2, 1) := by decide +kernel
theorem dsi_35 : decode jdk_42_method_149_code 35 = .ok (.iload_n 3, 1) := by decide +kernel
theorem dsi_36 : decode jdk_42_method_149_code 36 = .ok (.invokestatic 177, 3) := by decide +kernel
theorem dsi_39 : decode jdk_42_method_149_code 39 = .ok (.astore 5, 2) := by decide +kernel
theorem dsi_41 : decode jdk_42_method_149_code 41 = .ok (.aload_n 0, 1) := by decide +kernel
theorem dsi_42 : decode jdk_42_method_149_code 42 = .ok (.aload 5, 2) := by decide +kernel
theorem dsi_44 : decode jdk_42_method_149_code 44 = .ok (.iload_n 3, 1) := by decide +kernel
theorem dsi_45 : decode jdk_42_method_149_code 45 = .ok (.invokestatic 47, 3) := by decide +kernel
theorem dsi_48 : decode jdk_42_method_149_code 48 = .ok (.putfield 15, 3) := by decide +kernel
theorem dsi_51 : decode jdk_42_method_149_code 51 = .ok (.aload_n 0, 1) := by decide +kernel
theorem dsi_52 : decode jdk_42_method_149_code 52 = .ok (.aload 5, 2) := by decide +kernel
theorem dsi_54 : decode jdk_42_method_149_code 54 = .ok (.putfield 9, 3) := by decide +kernel
theorem dsi_57 : decode jdk_42_method_149_code 57 = .ok (.return_, 1) := by decide +kernel
theorem dsi_58 : decode jdk_42_method_149_code 58 = .ok (.aload_n 0, 1) := by decide +kernel
theorem dsi_59 : decode jdk_42_method_149_code 59 = .ok (.iconst 1, 1) := by decide +kernel
theorem dsi_60 : decode jdk_42_method_149_code 60 = .ok (.putfield 15, 3) := by decide +kernel
theorem dsi_63 : decode jdk_42_method_149_code 63 = .ok (.aload_n 0, 1) := by decide +kernel
theorem dsi_64 : decode jdk_42_method_149_code 64 = .ok (.aload_n 1, 1) := by decide +kernel
theorem dsi_65 : decode jdk_42_method_149_code 65 = .ok (.iload_n 2, 1) := by decide +kernel
theorem dsi_66 : decode jdk_42_method_149_code 66 = .ok (.iload_n 3, 1) := by decide +kernel
theorem dsi_67 : decode jdk_42_method_149_code 67 = .ok (.invokestatic 180, 3) := by decide +kernel
theorem dsi_70 : decode jdk_42_method_149_code 70 = .ok (.putfield 9, 3) := by decide +kernel
theorem dsi_73 : decode jdk_42_method_149_code 73 = .ok (.return_, 1) := by decide +kernel
theorem ef_si (x0 : Addr) (x1 : Addr) (x2 : Int32) (x3 : Int32) (m : MethodId) : entryFrame m #[(.ref x0), (.ref x1), (.int x2), (.int x3), .null] 6 = mkF m 0 #[.val (.ref x0), .val (.ref x1), .val (.int x2), .val (.int x3), .val .null, .unset] [] := by first | (simp [entryFrame, mkF, argsToLocals, o_catR, o_catN, o_catI, o_catJ, o_catD]; done) | rfl
set_option maxRecDepth 65536 in
set_option maxHeartbeats 40000000 in
theorem ct_initV1 (l : Launch) (Z : State) (a0 : Array Value) (hw : ∀ d ∈ tables_1, d.before a0 Z = true) (EL : List (String × Nat)) (n0 : Nat) (st va : Addr) (cs : List Int32) (cv : Int32) (hcs : Sta Z Z.heap "java/lang/String" "COMPACT_STRINGS" "Z" (.int cv)) (hcv : ¬ cv = 0) (h0 : Heap) (F_st : OObj Z h0 st "java/lang/String" [("java/lang/String", "value", "[B", .null), ("java/lang/String", "coder", "B", (.int (0 : Int32)))]) (A_va : OArr Z h0 va .char (och cs)) (ne_st_va : st ≠ va) (hl : OLat cs) (hcap : cs.length ≤ 8) (hpos : 0 < cs.length) :
    OCt l Z a0 EL n0 (⟨"java/lang/String", "<init>", "([CIILjava/lang/Void;)V"⟩ : MethodName) jdk_42_method_149_code 6 none ({ frames := 2, cells := 4, slots := 8, locals := 35 } : Room) [] #[(.ref st), (.ref va), (.int (0 : Int32)), (.int cs.length.toInt32), .null] h0 [st] (fun w vm h => w = none ∧ ∃ b : Addr, OStr Z h st b (och (cs.map obyte))) := by
  refine OCt.body (plainFor_of_name pn_S) (ef_si st va ((0 : Int32)) (cs.length.toInt32)) ?_
  intro p e s m below meth c T hby hml hret hnm hsh P
  refine o_aloadN P (hb hby dsi_0) rfl rfl (pc' := 1) rfl ?_
  refine o_initO P (W := 0) (ow hw 60 rfl) (ow hw 61 rfl) (ow hw 62 rfl) (by rw [hml]; rfl) (by decide) (Nat.le_of_eq rfl) (by decide) (hb hby dsi_1) (pc' := 4) rfl ?_
  clear P; intro T P
  refine o_iloadN P (hb hby dsi_4) rfl (pc' := 5) rfl ?_
  refine o_if_ne P (hb hby dsi_5) (by decide) (pc' := 27) (by decide) (pcf := 8) rfl (fun _ => ?_) (fun q => absurd q (fun q => by rw [← show (0 : Nat).toInt32 = (0 : Int32) from rfl, oi_eq (by omega) (by omega)] at q; omega))
  refine o_getS P (ow hw 24 rfl) Via.refl hcs (hb hby dsi_27) (pc' := 30) rfl ?_
  clear P; intro T P
  refine o_if_eq P (hb hby dsi_30) (by decide) (pc' := 58) (by decide) (pcf := 33) rfl (fun q => absurd q hcv) (fun _ => ?_)
  refine o_aloadN P (hb hby dsi_33) rfl rfl (pc' := 34) rfl ?_
  refine o_iloadN P (hb hby dsi_34) rfl (pc' := 35) rfl ?_
  refine o_iloadN P (hb hby dsi_35) rfl (pc' := 36) rfl ?_
  refine o_callS P (W := 0) (ow hw 100 rfl) (ow hw 101 rfl) (ow hw 102 rfl) (ow hw 103 rfl) (by decide) (ct_cmpr l Z a0 hw EL n0 va cs h0 A_va hl hcap) o_sf0 (by rw [hml]; rfl) (by decide) (by decide) (argsL := [(.ref va), (.int (0 : Int32)), (.int cs.length.toInt32)]) (rest := []) (lenOf pd_1 rfl) rfl rfl (Nat.le_of_eq rfl) (hb hby dsi_36) (pc' := 39) rfl (by decide) (by decide) ?_
  clear P; intro T h1 v1 P K1 q1
  obtain ⟨d, rfl, g1, A_d⟩ := q1
  have ne_st_d : st ≠ d := Nat.ne_of_lt (Nat.lt_of_lt_of_le F_st.lt g1)
  have ne_va_d : va ≠ d := Nat.ne_of_lt (Nat.lt_of_lt_of_le A_va.lt g1)
  replace F_st := F_st.keep K1 nin0
  replace A_va := A_va.keep K1 nin0
  show OG p e below m _ T 39 #[.val (.ref st), .val (.ref va), .val (.int (0 : Int32)), .val (.int cs.length.toInt32), .val .null, .unset] [(.ref d)]
  refine o_astore P (hb hby dsi_39) rfl (L' := #[.val (.ref st), .val (.ref va), .val (.int (0 : Int32)), .val (.int cs.length.toInt32), .val .null, .val (.ref d)]) rfl (pc' := 41) rfl ?_
  refine o_aloadN P (hb hby dsi_41) rfl rfl (pc' := 42) rfl ?_
  refine o_aload P (hb hby dsi_42) rfl rfl (pc' := 44) rfl ?_
  refine o_iloadN P (hb hby dsi_44) rfl (pc' := 45) rfl ?_
  refine o_callS P (W := 1) (ow hw 107 rfl) (ow hw 108 rfl) (ow hw 102 rfl) (ow hw 109 rfl) (by decide) (ct_coder l Z a0 hw EL n0 d cs.length.toInt32 _ h1 A_d (by simp)) o_sf0 (by rw [hml]; rfl) (by decide) (by decide) (argsL := [(.ref d), (.int cs.length.toInt32)]) (rest := [(.ref st)]) (lenOf pd_2 rfl) rfl rfl (Nat.le_of_eq rfl) (hb hby dsi_45) (pc' := 48) rfl (by decide) (by decide) ?_
  clear P; intro T h2 v2 P K2 q2
  obtain ⟨rfl, rfl⟩ := q2; clear K2
  show OG p e below m _ T 48 #[.val (.ref st), .val (.ref va), .val (.int (0 : Int32)), .val (.int cs.length.toInt32), .val .null, .val (.ref d)] [(.int (0 : Int32)), (.ref st)]
  refine o_putF P (v' := (.int (0 : Int32))) (ty := .byte) (ow hw 25 rfl) Via.refl (F_st.fld 1 rfl) F_st.exa (Or.inr ⟨(ow hw 5 rfl), rfl, hnm⟩) (ow hw 2 rfl) (by decide) rfl rfl (List.Mem.head _) (hb hby dsi_48) (pc' := 51) rfl ?_
  clear P; intro T h3 P W3
  replace A_va := A_va.oth W3 (Ne.symm ne_st_va)
  replace A_d := A_d.oth W3 (Ne.symm ne_st_d)
  replace F_st : OObj Z h3 st "java/lang/String" [("java/lang/String", "value", "[B", .null), ("java/lang/String", "coder", "B", (.int (0 : Int32)))] := F_st.put 1 rfl W3
  clear W3
  refine o_aloadN P (hb hby dsi_51) rfl rfl (pc' := 52) rfl ?_
  refine o_aload P (hb hby dsi_52) rfl rfl (pc' := 54) rfl ?_
  refine o_putF P (v' := (.ref d)) (ty := (.array .byte)) (ow hw 18 rfl) Via.refl (F_st.fld 0 rfl) F_st.exa (Or.inr ⟨(ow hw 4 rfl), rfl, hnm⟩) (ow hw 2 rfl) (by decide) rfl rfl (List.Mem.head _) (hb hby dsi_54) (pc' := 57) rfl ?_
  clear P; intro T h4 P W4
  replace A_va := A_va.oth W4 (Ne.symm ne_st_va)
  replace A_d := A_d.oth W4 (Ne.symm ne_st_d)
  replace F_st : OObj Z h4 st "java/lang/String" [("java/lang/String", "value", "[B", (.ref d)), ("java/lang/String", "coder", "B", (.int (0 : Int32)))] := F_st.put 0 rfl W4
  clear W4
  exact o_ret0 P hret (hb hby dsi_57) (by decide) (by decide) ⟨rfl, d, F_st, A_d⟩
set_option maxRecDepth 65536 in
set_option maxHeartbeats 40000000 in
theorem ct_initV0 (l : Launch) (Z : State) (a0 : Array Value) (hw : ∀ d ∈ tables_1, d.before a0 Z = true) (EL : List (String × Nat)) (n0 : Nat) (st va : Addr) (h0 : Heap) (F_st : OObj Z h0 st "java/lang/String" [("java/lang/String", "value", "[B", .null), ("java/lang/String", "coder", "B", (.int (0 : Int32)))]) (hmem : ("java/lang/String", 7) ∈ EL) :
    OCt l Z a0 EL n0 (⟨"java/lang/String", "<init>", "([CIILjava/lang/Void;)V"⟩ : MethodName) jdk_42_method_149_code 6 none ({ frames := 1, cells := 4, slots := 8, locals := 12 } : Room) [] #[(.ref st), (.ref va), (.int (0 : Int32)), (.int (0 : Int32)), .null] h0 [st] (fun w vm h => w = none ∧ ∃ b : Addr, OStr Z h st b (och [])) := by
  refine OCt.body (plainFor_of_name pn_S) (ef_si st va (0 : Int32) (0 : Int32)) ?_
  intro p e s m below meth c T hby hml hret hnm hsh P
  refine o_aloadN P (hb hby dsi_0) rfl rfl (pc' := 1) rfl ?_
  refine o_initO P (W := 0) (ow hw 60 rfl) (ow hw 61 rfl) (ow hw 62 rfl) (by rw [hml]; rfl) (by decide) (Nat.le_of_eq rfl) (by decide) (hb hby dsi_1) (pc' := 4) rfl ?_
  clear P; intro T P
  refine o_iloadN P (hb hby dsi_4) rfl (pc' := 5) rfl ?_
  refine o_if_ne P (hb hby dsi_5) (by decide) (pc' := 27) (by decide) (pcf := 8) rfl (fun q => absurd (by decide) q) (fun _ => ?_)
  refine o_aloadN P (hb hby dsi_8) rfl rfl (pc' := 9) rfl ?_
  refine o_ldcS P (n := 0) (vs := []) (ow hw 63 rfl) (own_wS hw) hmem (Or.inr (ow hw 4 rfl)) (Or.inr (ow hw 5 rfl)) ⟨by simp, by simp⟩ (0 : Int32) (by decide) rfl (hb hby dsi_9) (pc' := 11) rfl (by simp) (by decide) (by decide) (by decide) ?_
  clear P; intro T h1 e1 f1 P K1 G_e1 hne
  have ne_st_e1 : st ≠ e1 := (hne st (List.Mem.head _)).1
  have ne_st_f1 : st ≠ f1 := (hne st (List.Mem.head _)).2
  clear hne
  replace F_st := F_st.keep K1 nin0
  clear K1
  obtain ⟨F_e1, A_f1⟩ := G_e1
  refine o_getF P (ow hw 18 rfl) Via.refl (F_e1.fld 0 rfl) (hb hby dsi_11) (pc' := 14) rfl ?_
  clear P; intro T P
  refine o_putF P (v' := (.ref f1)) (ty := (.array .byte)) (ow hw 18 rfl) Via.refl (F_st.fld 0 rfl) F_st.exa (Or.inr ⟨(ow hw 4 rfl), rfl, hnm⟩) (ow hw 2 rfl) (by decide) rfl rfl (List.Mem.head _) (hb hby dsi_14) (pc' := 17) rfl ?_
  clear P; intro T h2 P W2
  replace F_e1 := F_e1.oth W2 (Ne.symm ne_st_e1)
  replace A_f1 := A_f1.oth W2 (Ne.symm ne_st_f1)
  replace F_st : OObj Z h2 st "java/lang/String" [("java/lang/String", "value", "[B", (.ref f1)), ("java/lang/String", "coder", "B", (.int (0 : Int32)))] := F_st.put 0 rfl W2
  clear W2
  refine o_aloadN P (hb hby dsi_17) rfl rfl (pc' := 18) rfl ?_
  refine o_ldcS P (n := 0) (vs := []) (ow hw 63 rfl) (own_wS hw) hmem (Or.inr (ow hw 4 rfl)) (Or.inr (ow hw 5 rfl)) ⟨by simp, by simp⟩ (0 : Int32) (by decide) rfl (hb hby dsi_18) (pc' := 20) rfl (by simp) (by decide) (by decide) (by decide) ?_
  clear P; intro T h3 e2 f2 P K3 G_e2 hne
  have ne_st_e2 : st ≠ e2 := (hne st (List.Mem.head _)).1
  have ne_st_f2 : st ≠ f2 := (hne st (List.Mem.head _)).2
  clear hne
  replace F_st := F_st.keep K3 nin0
  replace A_f1 := A_f1.keep K3 nin0
  clear K3
  obtain ⟨F_e2, A_f2⟩ := G_e2
  refine o_getF P (ow hw 25 rfl) Via.refl (F_e2.fld 1 rfl) (hb hby dsi_20) (pc' := 23) rfl ?_
  clear P; intro T P
  refine o_putF P (v' := (.int (0 : Int32))) (ty := .byte) (ow hw 25 rfl) Via.refl (F_st.fld 1 rfl) F_st.exa (Or.inr ⟨(ow hw 5 rfl), rfl, hnm⟩) (ow hw 2 rfl) (by decide) rfl rfl (List.Mem.head _) (hb hby dsi_23) (pc' := 26) rfl ?_
  clear P; intro T h4 P W4
  replace F_e2 := F_e2.oth W4 (Ne.symm ne_st_e2)
  replace A_f1 := A_f1.oth W4 (Ne.symm ne_st_f1)
  replace A_f2 := A_f2.oth W4 (Ne.symm ne_st_f2)
  replace F_st : OObj Z h4 st "java/lang/String" [("java/lang/String", "value", "[B", (.ref f1)), ("java/lang/String", "coder", "B", (.int (0 : Int32)))] := F_st.put 1 rfl W4
  clear W4
  exact o_ret0 P hret (hb hby dsi_26) (by decide) (by decide) ⟨rfl, f1, F_st, A_f1⟩
theorem dsj_0 : decode jdk_42_method_3_code 0 = .ok (.aload_n 0, 1) := by decide +kernel
theorem dsj_1 : decode jdk_42_method_3_code 1 = .ok (.aload_n 1, 1) := by decide +kernel
theorem dsj_2 : decode jdk_42_method_3_code 2 = .ok (.iconst 0, 1) := by decide +kernel
theorem dsj_3 : decode jdk_42_method_3_code 3 = .ok (.aload_n 1, 1) := by decide +kernel
theorem dsj_4 : decode jdk_42_method_3_code 4 = .ok (.arraylength, 1) := by decide +kernel
theorem dsj_5 : decode jdk_42_method_3_code 5 = .ok (.aconst_null, 1) := by decide +kernel
theorem dsj_6 : decode jdk_42_method_3_code 6 = .ok (.invokespecial 27, 3) := by decide +kernel
theorem dsj_9 : decode jdk_42_method_3_code 9 = .ok (.return_, 1) := by decide +kernel
theorem ef_sj (x0 : Addr) (x1 : Addr) (m : MethodId) : entryFrame m #[(.ref x0), (.ref x1)] 2 = mkF m 0 #[.val (.ref x0), .val (.ref x1)] [] := by first | (simp [entryFrame, mkF, argsToLocals, o_catR, o_catN, o_catI, o_catJ, o_catD]; done) | rfl
set_option maxRecDepth 65536 in
set_option maxHeartbeats 40000000 in
theorem ct_init0 (l : Launch) (Z : State) (a0 : Array Value) (hw : ∀ d ∈ tables_1, d.before a0 Z = true) (EL : List (String × Nat)) (n0 : Nat) (st va : Addr) (h0 : Heap) (F_st : OObj Z h0 st "java/lang/String" [("java/lang/String", "value", "[B", .null), ("java/lang/String", "coder", "B", (.int (0 : Int32)))]) (A_va : OArr Z h0 va .char []) (ne_st_va : st ≠ va) (hmem : ("java/lang/String", 7) ∈ EL) :
    OCt l Z a0 EL n0 (⟨"java/lang/String", "<init>", "([C)V"⟩ : MethodName) jdk_42_method_3_code 2 none ({ frames := 2, cells := 4, slots := 8, locals := 29 } : Room) [] #[(.ref st), (.ref va)] h0 [st] (fun w vm h => w = none ∧ ∃ b : Addr, OStr Z h st b (och [])) := by
  refine OCt.body (plainFor_of_name pn_S) (ef_sj st va) ?_
  intro p e s m below meth c T hby hml hret hnm hsh P
  refine o_aloadN P (hb hby dsj_0) rfl rfl (pc' := 1) rfl ?_
  refine o_aloadN P (hb hby dsj_1) rfl rfl (pc' := 2) rfl ?_
  refine o_iconst P (0 : Int32) (hb hby dsj_2) rfl (pc' := 3) rfl ?_
  refine o_aloadN P (hb hby dsj_3) rfl rfl (pc' := 4) rfl ?_
  refine o_arrlen P A_va (hb hby dsj_4) (n := (0 : Int32)) rfl (pc' := 5) rfl ?_
  refine o_aconstNull P (hb hby dsj_5) (pc' := 6) rfl ?_
  refine o_callI P (W := 0) (a := st) rfl (ow hw 56 rfl) (ow hw 57 rfl) (ow hw 1 rfl) (ow hw 59 rfl) (by decide) (ct_initV0 l Z a0 hw EL n0 st va h0 F_st hmem) (o_sfS (List.Mem.head _) o_sf0) (by rw [hml]; rfl) (by decide) (by decide) (argsL := [(.ref va), (.int (0 : Int32)), (.int (0 : Int32)), .null]) (rest := []) (lenOf pd_3 rfl) rfl rfl (Nat.le_of_eq rfl) (hb hby dsj_6) (pc' := 9) rfl (by decide) (by decide) ?_
  clear P; intro T h1 v1 P K1 q1
  obtain ⟨rfl, b, G⟩ := q1
  show OG p e below m _ T 9 #[.val (.ref st), .val (.ref va)] []
  exact o_ret0 P hret (hb hby dsj_9) (by decide) (by decide) ⟨rfl, b, G⟩
set_option maxRecDepth 65536 in
set_option maxHeartbeats 40000000 in
theorem ct_init1 (l : Launch) (Z : State) (a0 : Array Value) (hw : ∀ d ∈ tables_1, d.before a0 Z = true) (EL : List (String × Nat)) (n0 : Nat) (st va : Addr) (cs : List Int32) (cv : Int32) (hcs : Sta Z Z.heap "java/lang/String" "COMPACT_STRINGS" "Z" (.int cv)) (hcv : ¬ cv = 0) (h0 : Heap) (F_st : OObj Z h0 st "java/lang/String" [("java/lang/String", "value", "[B", .null), ("java/lang/String", "coder", "B", (.int (0 : Int32)))]) (A_va : OArr Z h0 va .char (och cs)) (ne_st_va : st ≠ va) (hl : OLat cs) (hcap : cs.length ≤ 8) (hpos : 0 < cs.length) :
    OCt l Z a0 EL n0 (⟨"java/lang/String", "<init>", "([C)V"⟩ : MethodName) jdk_42_method_3_code 2 none ({ frames := 3, cells := 4, slots := 8, locals := 52 } : Room) [] #[(.ref st), (.ref va)] h0 [st] (fun w vm h => w = none ∧ ∃ b : Addr, OStr Z h st b (och (cs.map obyte))) := by
  refine OCt.body (plainFor_of_name pn_S) (ef_sj st va) ?_
  intro p e s m below meth c T hby hml hret hnm hsh P
  refine o_aloadN P (hb hby dsj_0) rfl rfl (pc' := 1) rfl ?_
  refine o_aloadN P (hb hby dsj_1) rfl rfl (pc' := 2) rfl ?_
  refine o_iconst P (0 : Int32) (hb hby dsj_2) rfl (pc' := 3) rfl ?_
  refine o_aloadN P (hb hby dsj_3) rfl rfl (pc' := 4) rfl ?_
  refine o_arrlen P A_va (hb hby dsj_4) (n := cs.length.toInt32) (by simp) (pc' := 5) rfl ?_
  refine o_aconstNull P (hb hby dsj_5) (pc' := 6) rfl ?_
  refine o_callI P (W := 0) (a := st) rfl (ow hw 56 rfl) (ow hw 57 rfl) (ow hw 1 rfl) (ow hw 59 rfl) (by decide) (ct_initV1 l Z a0 hw EL n0 st va cs cv hcs hcv h0 F_st A_va ne_st_va hl hcap hpos) (o_sfS (List.Mem.head _) o_sf0) (by rw [hml]; rfl) (by decide) (by decide) (argsL := [(.ref va), (.int (0 : Int32)), (.int cs.length.toInt32), .null]) (rest := []) (lenOf pd_3 rfl) rfl rfl (Nat.le_of_eq rfl) (hb hby dsj_6) (pc' := 9) rfl (by decide) (by decide) ?_
  clear P; intro T h1 v1 P K1 q1
  obtain ⟨rfl, b, G⟩ := q1
  show OG p e below m _ T 9 #[.val (.ref st), .val (.ref va)] []
  exact o_ret0 P hret (hb hby dsj_9) (by decide) (by decide) ⟨rfl, b, G⟩
theorem dsq_0 : decode jdk_42_method_66_code 0 = .ok (.aload_n 0, 1) := by decide +kernel
theorem dsq_1 : decode jdk_42_method_66_code 1 = .ok (.aload_n 1, 1) := by decide +kernel
theorem dsq_2 : decode jdk_42_method_66_code 2 = .ok (.if_acmp .ne 5, 3) := by decide +kernel
theorem dsq_5 : decode jdk_42_method_66_code 5 = .ok (.iconst 1, 1) := by decide +kernel
theorem dsq_6 : decode jdk_42_method_66_code 6 = .ok (.ireturn, 1) := by decide +kernel
theorem dsq_7 : decode jdk_42_method_66_code 7 = .ok (.aload_n 1, 1) := by decide +kernel
theorem dsq_8 : decode jdk_42_method_66_code 8 = .ok (.instanceof 10, 3) := by decide +kernel
theorem dsq_11 : decode jdk_42_method_66_code 11 = .ok (.ifCond .eq 43, 3) := by decide +kernel
theorem dsq_14 : decode jdk_42_method_66_code 14 = .ok (.aload_n 1, 1) := by decide +kernel
theorem dsq_15 : decode jdk_42_method_66_code 15 = .ok (.checkcast 10, 3) := by decide +kernel
theorem dsq_18 : decode jdk_42_method_66_code 18 = .ok (.astore_n 2, 1) := by decide +kernel
theorem dsq_19 : decode jdk_42_method_66_code 19 = .ok (.getstatic 38, 3) := by decide +kernel
theorem dsq_22 : decode jdk_42_method_66_code 22 = .ok (.ifCond .eq 14, 3) := by decide +kernel
theorem dsq_25 : decode jdk_42_method_66_code 25 = .ok (.aload_n 0, 1) := by decide +kernel
theorem dsq_26 : decode jdk_42_method_66_code 26 = .ok (.getfield 15, 3) := by decide +kernel
theorem dsq_29 : decode jdk_42_method_66_code 29 = .ok (.aload_n 2, 1) := by decide +kernel
theorem dsq_30 : decode jdk_42_method_66_code 30 = .ok (.getfield 15, 3) := by decide +kernel
theorem dsq_33 : decode jdk_42_method_66_code 33 = .ok (.if_icmp .ne 21, 3) := by decide +kernel
theorem dsq_36 : decode jdk_42_method_66_code 36 = .ok (.aload_n 0, 1) := by decide +kernel
theorem dsq_37 : decode jdk_42_method_66_code 37 = .ok (.getfield 9, 3) := by decide +kernel
theorem dsq_40 : decode jdk_42_method_66_code 40 = .ok (.aload_n 2, 1) := by decide +kernel
theorem dsq_41 : decode jdk_42_method_66_code 41 = .ok (.getfield 9, 3) := by decide +kernel
theorem dsq_44 : decode jdk_42_method_66_code 44 = .ok (.invokestatic 541, 3) := by decide +kernel
theorem dsq_47 : decode jdk_42_method_66_code 47 = .ok (.ifCond .eq 7, 3) := by decide +kernel
theorem dsq_50 : decode jdk_42_method_66_code 50 = .ok (.iconst 1, 1) := by decide +kernel
theorem dsq_51 : decode jdk_42_method_66_code 51 = .ok (.goto 4, 3) := by decide +kernel
theorem dsq_54 : decode jdk_42_method_66_code 54 = .ok (.iconst 0, 1) := by decide +kernel
theorem dsq_55 : decode jdk_42_method_66_code 55 = .ok (.ireturn, 1) := by decide +kernel
theorem ef_sq (x0 : Addr) (x1 : Addr) (m : MethodId) : entryFrame m #[(.ref x0), (.ref x1)] 3 = mkF m 0 #[.val (.ref x0), .val (.ref x1), .unset] [] := by first | (simp [entryFrame, mkF, argsToLocals, o_catR, o_catN, o_catI, o_catJ, o_catD]; done) | rfl
set_option maxRecDepth 65536 in
set_option maxHeartbeats 40000000 in
theorem ct_eqSame (l : Launch) (Z : State) (a0 : Array Value) (hw : ∀ d ∈ tables_1, d.before a0 Z = true) (EL : List (String × Nat)) (n0 : Nat) (a : Addr) (h0 : Heap) :
    OCt l Z a0 EL n0 (⟨"java/lang/String", "equals", "(Ljava/lang/Object;)Z"⟩ : MethodName) jdk_42_method_66_code 3 (some .boolean) ({ frames := 1, cells := 0, slots := 0, locals := 14 } : Room) [] #[(.ref a), (.ref a)] h0 [] (fun w vm h => w = some (.int 1) ∧ h = h0) := by
  refine OCt.body (plainFor_of_name pn_S) (ef_sq a a) ?_
  intro p e s m below meth c T hby hml hret hnm hsh P
  refine o_aloadN P (hb hby dsq_0) rfl rfl (pc' := 1) rfl ?_
  refine o_aloadN P (hb hby dsq_1) rfl rfl (pc' := 2) rfl ?_
  refine o_acmp P true (hb hby dsq_2) rfl rfl (decide_eq_true rfl) (by decide) (pc' := 5) rfl ?_
  refine o_iconst P (1 : Int32) (hb hby dsq_5) rfl (pc' := 6) rfl ?_
  exact o_retI P hret (by simp) rfl (hb hby dsq_6) (by decide) (by decide) ⟨rfl, rfl⟩
theorem ef_sqn (x0 : Addr) (m : MethodId) : entryFrame m #[(.ref x0), .null] 3 = mkF m 0 #[.val (.ref x0), .val .null, .unset] [] := by first | (simp [entryFrame, mkF, argsToLocals, o_catR, o_catN, o_catI, o_catJ, o_catD]; done) | rfl
set_option maxRecDepth 65536 in
set_option maxHeartbeats 40000000 in
theorem ct_eqNull (l : Launch) (Z : State) (a0 : Array Value) (hw : ∀ d ∈ tables_1, d.before a0 Z = true) (EL : List (String × Nat)) (n0 : Nat) (a : Addr) (h0 : Heap) :
    OCt l Z a0 EL n0 (⟨"java/lang/String", "equals", "(Ljava/lang/Object;)Z"⟩ : MethodName) jdk_42_method_66_code 3 (some .boolean) ({ frames := 1, cells := 0, slots := 0, locals := 14 } : Room) [] #[(.ref a), .null] h0 [] (fun w vm h => w = some (.int 0) ∧ h = h0) := by
  refine OCt.body (plainFor_of_name pn_S) (ef_sqn a) ?_
  intro p e s m below meth c T hby hml hret hnm hsh P
  refine o_aloadN P (hb hby dsq_0) rfl rfl (pc' := 1) rfl ?_
  refine o_aloadN P (hb hby dsq_1) rfl rfl (pc' := 2) rfl ?_
  refine o_acmp P false (hb hby dsq_2) rfl rfl (decide_eq_false nofun) (by decide) (pc' := 7) rfl ?_
  refine o_aloadN P (hb hby dsq_7) rfl rfl (pc' := 8) rfl ?_
  refine o_instNull P (hb hby dsq_8) (pc' := 11) rfl ?_
  refine o_if_eq P (hb hby dsq_11) (by decide) (pc' := 54) (by decide) (pcf := 14) rfl (fun _ => ?_) (fun q => absurd (by decide) q)
  refine o_iconst P (0 : Int32) (hb hby dsq_54) rfl (pc' := 55) rfl ?_
  exact o_retI P hret (by simp) rfl (hb hby dsq_55) (by decide) (by decide) ⟨rfl, rfl⟩
theorem dse_0 : decode jdk_43_method_13_code 0 = .ok (.aload_n 0, 1) := by decide +kernel
theorem dse_1 : decode jdk_43_method_13_code 1 = .ok (.arraylength, 1) := by decide +kernel
theorem dse_2 : decode jdk_43_method_13_code 2 = .ok (.aload_n 1, 1) := by decide +kernel
theorem dse_3 : decode jdk_43_method_13_code 3 = .ok (.arraylength, 1) := by decide +kernel
theorem dse_4 : decode jdk_43_method_13_code 4 = .ok (.if_icmp .ne 30, 3) := by decide +kernel
theorem dse_7 : decode jdk_43_method_13_code 7 = .ok (.iconst 0, 1) := by decide +kernel
theorem dse_8 : decode jdk_43_method_13_code 8 = .ok (.istore_n 2, 1) := by decide +kernel
theorem dse_9 : decode jdk_43_method_13_code 9 = .ok (.iload_n 2, 1) := by decide +kernel
theorem dse_10 : decode jdk_43_method_13_code 10 = .ok (.aload_n 0, 1) := by decide +kernel
theorem dse_11 : decode jdk_43_method_13_code 11 = .ok (.arraylength, 1) := by decide +kernel
theorem dse_12 : decode jdk_43_method_13_code 12 = .ok (.if_icmp .ge 20, 3) := by decide +kernel
theorem dse_15 : decode jdk_43_method_13_code 15 = .ok (.aload_n 0, 1) := by decide +kernel
theorem dse_16 : decode jdk_43_method_13_code 16 = .ok (.iload_n 2, 1) := by decide +kernel
theorem dse_17 : decode jdk_43_method_13_code 17 = .ok (.baload, 1) := by decide +kernel
theorem dse_18 : decode jdk_43_method_13_code 18 = .ok (.aload_n 1, 1) := by decide +kernel
theorem dse_19 : decode jdk_43_method_13_code 19 = .ok (.iload_n 2, 1) := by decide +kernel
theorem dse_20 : decode jdk_43_method_13_code 20 = .ok (.baload, 1) := by decide +kernel
theorem dse_21 : decode jdk_43_method_13_code 21 = .ok (.if_icmp .eq 5, 3) := by decide +kernel
theorem dse_24 : decode jdk_43_method_13_code 24 = .ok (.iconst 0, 1) := by decide +kernel
theorem dse_25 : decode jdk_43_method_13_code 25 = .ok (.ireturn, 1) := by decide +kernel
theorem dse_26 : decode jdk_43_method_13_code 26 = .ok (.iinc 2 1, 3) := by decide +kernel
theorem dse_29 : decode jdk_43_method_13_code 29 = .ok (.goto (-20), 3) := by decide +kernel
theorem dse_32 : decode jdk_43_method_13_code 32 = .ok (.iconst 1, 1) := by decide +kernel
theorem dse_33 : decode jdk_43_method_13_code 33 = .ok (.ireturn, 1) := by decide +kernel
theorem dse_34 : decode jdk_43_method_13_code 34 = .ok (.iconst 0, 1) := by decide +kernel
theorem dse_35 : decode jdk_43_method_13_code 35 = .ok (.ireturn, 1) := by decide +kernel
theorem ef_se (x0 : Addr) (x1 : Addr) (m : MethodId) : entryFrame m #[(.ref x0), (.ref x1)] 3 = mkF m 0 #[.val (.ref x0), .val (.ref x1), .unset] [] := by first | (simp [entryFrame, mkF, argsToLocals, o_catR, o_catN, o_catI, o_catJ, o_catD]; done) | rfl
set_option maxRecDepth 65536 in
set_option maxHeartbeats 40000000 in
theorem ct_lat1eq (l : Launch) (Z : State) (a0 : Array Value) (hw : ∀ d ∈ tables_1, d.before a0 Z = true) (EL : List (String × Nat)) (n0 : Nat) (x y : Addr) (us ws : List Int32) (h0 : Heap) (A_x : OArr Z h0 x .byte (och us)) (A_y : OArr Z h0 y .byte (och ws)) :
    OCt l Z a0 EL n0 (⟨"java/lang/StringLatin1", "equals", "([B[B)Z"⟩ : MethodName) jdk_43_method_13_code 3 (some .boolean) ({ frames := 0, cells := 0, slots := 0, locals := 0 } : Room) [] #[(.ref x), (.ref y)] h0 [] (fun w vm h => w = some (.int (if us = ws then 1 else 0)) ∧ h = h0) := by
  refine OCt.body (plainFor_of_name pn_L1) (ef_se x y) ?_
  intro p e s m below meth c T hby hml hret hnm hsh P
  have hu : us.length < 2147483648 := by simpa using A_x.len
  have hv : ws.length < 2147483648 := by simpa using A_y.len
  have loop : us.length = ws.length → ∀ (k i : Nat) (T : State), i + k = us.length → (∀ j, j < i → us[j]? = ws[j]?) → OPn p l e ({ frames := 0, cells := 0, slots := 0, locals := 0 } : Room) s m #[.ref x, .ref y] below meth c Z a0 EL n0 [] "java/lang/StringLatin1" T h0 [] 0 0 → OG p e below m (OFq Z EL n0 s [] ({ frames := 0, cells := 0, slots := 0, locals := 0 } : Room) (fun w vm h => w = some (.int (if us = ws then 1 else 0)) ∧ h = h0)) T 9 #[.val (.ref x), .val (.ref y), .val (.int i.toInt32)] [] := by
    clear P T
    intro hlen k
    induction k with
    | zero =>
        intro i T hik hpre P
        refine o_iloadN P (hb hby dse_9) rfl (pc' := 10) rfl ?_
        refine o_aloadN P (hb hby dse_10) rfl rfl (pc' := 11) rfl ?_
        refine o_arrlen P A_x (hb hby dse_11) (n := us.length.toInt32) (by simp) (pc' := 12) rfl ?_
        refine o_icmp_ge P (hb hby dse_12) (by decide) (pc' := 32) (by decide) (pcf := 15) rfl (fun _ => ?_) (fun q => absurd q (fun q => by rw [oi_lt (by omega) hu] at q; omega))
        refine o_iconst P (1 : Int32) (hb hby dse_32) rfl (pc' := 33) rfl ?_
        have heq : us = ws := by
            apply List.ext_getElem?
            intro j
            by_cases q : j < us.length
            · exact hpre j (by omega)
            · rw [List.getElem?_eq_none (by omega), List.getElem?_eq_none (by omega)]
        exact o_retI P hret (by simp) rfl (hb hby dse_33) (by decide) (by decide) ⟨by rw [if_pos heq], rfl⟩
    | succ k ih =>
        intro i T hik hpre P
        obtain ⟨cu, hcu⟩ : ∃ cu, us[i]? = some cu := ⟨us[i]'(by omega), List.getElem?_eq_getElem (by omega)⟩
        obtain ⟨cw, hcw⟩ : ∃ cw, ws[i]? = some cw := ⟨ws[i]'(by omega), List.getElem?_eq_getElem (by omega)⟩
        refine o_iloadN P (hb hby dse_9) rfl (pc' := 10) rfl ?_
        refine o_aloadN P (hb hby dse_10) rfl rfl (pc' := 11) rfl ?_
        refine o_arrlen P A_x (hb hby dse_11) (n := us.length.toInt32) (by simp) (pc' := 12) rfl ?_
        refine o_icmp_ge P (hb hby dse_12) (by decide) (pc' := 32) (by decide) (pcf := 15) rfl (fun q => absurd ((oi_lt (by omega) hu).mpr (by omega)) q) (fun _ => ?_)
        refine o_aloadN P (hb hby dse_15) rfl rfl (pc' := 16) rfl ?_
        refine o_iloadN P (hb hby dse_16) rfl (pc' := 17) rfl ?_
        refine o_baload P (v := (.int cu)) A_x (oi_nn (by omega)) (by rw [oi_nat (by omega)]; exact och_get hcu) (hb hby dse_17) (pc' := 18) rfl ?_
        refine o_aloadN P (hb hby dse_18) rfl rfl (pc' := 19) rfl ?_
        refine o_iloadN P (hb hby dse_19) rfl (pc' := 20) rfl ?_
        refine o_baload P (v := (.int cw)) A_y (oi_nn (by omega)) (by rw [oi_nat (by omega)]; exact och_get hcw) (hb hby dse_20) (pc' := 21) rfl ?_
        refine o_icmp_eq P (hb hby dse_21) (by decide) (pc' := 26) (by decide) (pcf := 24) rfl (fun hq => ?_) (fun hq => ?_)
        · refine o_iinc P (1 : Int32) (hb hby dse_26) rfl rfl (L' := #[.val (.ref x), .val (.ref y), .val (.int (i.toInt32 + (1 : Int32)))]) rfl (pc' := 29) rfl ?_
          refine o_goto P (hb hby dse_29) (by decide) (pc' := 9) (by decide) ?_
          rw [oi_succ i]
          refine ih (i + 1) T (by omega) (fun j hj => ?_) P
          rcases Nat.lt_or_ge j i with q | q
          · exact hpre j q
          · rw [show j = i by omega, hcu, hcw, hq]
        · refine o_iconst P (0 : Int32) (hb hby dse_24) rfl (pc' := 25) rfl ?_
          exact o_retI P hret (by simp) rfl (hb hby dse_25) (by decide) (by decide) ⟨by rw [if_neg fun q => hq (by rw [q] at hcu; exact Option.some.inj (hcu.symm.trans hcw))], rfl⟩
  refine o_aloadN P (hb hby dse_0) rfl rfl (pc' := 1) rfl ?_
  refine o_arrlen P A_x (hb hby dse_1) (n := us.length.toInt32) (by simp) (pc' := 2) rfl ?_
  refine o_aloadN P (hb hby dse_2) rfl rfl (pc' := 3) rfl ?_
  refine o_arrlen P A_y (hb hby dse_3) (n := ws.length.toInt32) (by simp) (pc' := 4) rfl ?_
  refine o_icmp_ne P (hb hby dse_4) (by decide) (pc' := 34) (by decide) (pcf := 7) rfl (fun hq => ?_) (fun hq => ?_)
  · refine o_iconst P (0 : Int32) (hb hby dse_34) rfl (pc' := 35) rfl ?_
    exact o_retI P hret (by simp) rfl (hb hby dse_35) (by decide) (by decide) ⟨by rw [if_neg fun q => hq (by rw [q])], rfl⟩
  · refine o_iconst P (0 : Int32) (hb hby dse_7) rfl (pc' := 8) rfl ?_
    refine o_istoreN P (hb hby dse_8) (L' := #[.val (.ref x), .val (.ref y), .val (.int (0 : Int32))]) rfl (pc' := 9) rfl ?_
    exact loop ((oi_eq hu hv).mp hq) us.length 0 T (by omega) (fun j hj => absurd hj (Nat.not_lt_zero _)) P
set_option maxRecDepth 65536 in
set_option maxHeartbeats 40000000 in
theorem ct_eq (l : Launch) (Z : State) (a0 : Array Value) (hw : ∀ d ∈ tables_1, d.before a0 Z = true) (EL : List (String × Nat)) (n0 : Nat) (a b x y : Addr) (us ws : List Int32) (cv : Int32) (hcs : Sta Z Z.heap "java/lang/String" "COMPACT_STRINGS" "Z" (.int cv)) (hcv : ¬ cv = 0) (h0 : Heap) (G_a : OStr Z h0 a x (och us)) (G_b : OStr Z h0 b y (och ws)) :
    OCt l Z a0 EL n0 (⟨"java/lang/String", "equals", "(Ljava/lang/Object;)Z"⟩ : MethodName) jdk_42_method_66_code 3 (some .boolean) ({ frames := 1, cells := 0, slots := 0, locals := 14 } : Room) [] #[(.ref a), (.ref b)] h0 [] (fun w vm h => w = some (.int (if us = ws then 1 else 0)) ∧ h = h0) := by
  refine OCt.body (plainFor_of_name pn_S) (ef_sq a b) ?_
  intro p e s m below meth c T hby hml hret hnm hsh P
  obtain ⟨F_a, A_x⟩ := G_a
  obtain ⟨F_b, A_y⟩ := G_b
  refine o_aloadN P (hb hby dsq_0) rfl rfl (pc' := 1) rfl ?_
  refine o_aloadN P (hb hby dsq_1) rfl rfl (pc' := 2) rfl ?_
  by_cases hab : b = a
  · subst hab
    refine o_acmp P true (hb hby dsq_2) rfl rfl (decide_eq_true rfl) (by decide) (pc' := 5) rfl ?_
    refine o_iconst P (1 : Int32) (hb hby dsq_5) rfl (pc' := 6) rfl ?_
    exact o_retI P hret (by simp) rfl (hb hby dsq_6) (by decide) (by decide) ⟨by rw [if_pos (OStr.uniq ⟨F_a, A_x⟩ ⟨F_b, A_y⟩)], rfl⟩
  · refine o_acmp P false (hb hby dsq_2) rfl rfl (decide_eq_false fun q => hab (Value.ref.inj q).symm) (by decide) (pc' := 7) rfl ?_
    refine o_aloadN P (hb hby dsq_7) rfl rfl (pc' := 8) rfl ?_
    refine o_instY P (ow hw 69 rfl) (Ins.self F_b.exa) (hb hby dsq_8) (pc' := 11) rfl ?_
    clear P; intro T P
    refine o_if_eq P (hb hby dsq_11) (by decide) (pc' := 54) (by decide) (pcf := 14) rfl (fun q => absurd q (by decide)) (fun _ => ?_)
    refine o_aloadN P (hb hby dsq_14) rfl rfl (pc' := 15) rfl ?_
    refine o_cast P (ow hw 69 rfl) (Ins.self F_b.exa) (hb hby dsq_15) (pc' := 18) rfl ?_
    clear P; intro T P
    refine o_astoreN P (hb hby dsq_18) rfl (L' := #[.val (.ref a), .val (.ref b), .val (.ref b)]) rfl (pc' := 19) rfl ?_
    refine o_getS P (ow hw 24 rfl) Via.refl hcs (hb hby dsq_19) (pc' := 22) rfl ?_
    clear P; intro T P
    refine o_if_eq P (hb hby dsq_22) (by decide) (pc' := 36) (by decide) (pcf := 25) rfl (fun q => absurd q hcv) (fun _ => ?_)
    refine o_aloadN P (hb hby dsq_25) rfl rfl (pc' := 26) rfl ?_
    refine o_getF P (ow hw 25 rfl) Via.refl (F_a.fld 1 rfl) (hb hby dsq_26) (pc' := 29) rfl ?_
    clear P; intro T P
    refine o_aloadN P (hb hby dsq_29) rfl rfl (pc' := 30) rfl ?_
    refine o_getF P (ow hw 25 rfl) Via.refl (F_b.fld 1 rfl) (hb hby dsq_30) (pc' := 33) rfl ?_
    clear P; intro T P
    refine o_icmp_ne P (hb hby dsq_33) (by decide) (pc' := 54) (by decide) (pcf := 36) rfl (fun q => absurd (by decide) q) (fun _ => ?_)
    refine o_aloadN P (hb hby dsq_36) rfl rfl (pc' := 37) rfl ?_
    refine o_getF P (ow hw 18 rfl) Via.refl (F_a.fld 0 rfl) (hb hby dsq_37) (pc' := 40) rfl ?_
    clear P; intro T P
    refine o_aloadN P (hb hby dsq_40) rfl rfl (pc' := 41) rfl ?_
    refine o_getF P (ow hw 18 rfl) Via.refl (F_b.fld 0 rfl) (hb hby dsq_41) (pc' := 44) rfl ?_
    clear P; intro T P
    refine o_callS P (W := 0) (ow hw 70 rfl) (ow hw 71 rfl) (ow hw 38 rfl) (ow hw 72 rfl) (by decide) (ct_lat1eq l Z a0 hw EL n0 x y us ws h0 A_x A_y) o_sf0 (by rw [hml]; rfl) (by decide) (by decide) (argsL := [(.ref x), (.ref y)]) (rest := []) (lenOf pd_4 rfl) rfl rfl (Nat.le_of_eq rfl) (hb hby dsq_44) (pc' := 47) rfl (by decide) (by decide) ?_
    clear P; intro T h1 v1 P K1 q1
    obtain ⟨rfl, rfl⟩ := q1; clear K1
    by_cases huw : us = ws
    · rw [if_pos huw]
      show OG p e below m _ T 47 #[.val (.ref a), .val (.ref b), .val (.ref b)] [(.int (1 : Int32))]
      refine o_if_eq P (hb hby dsq_47) (by decide) (pc' := 54) (by decide) (pcf := 50) rfl (fun q => absurd q (by decide)) (fun _ => ?_)
      refine o_iconst P (1 : Int32) (hb hby dsq_50) rfl (pc' := 51) rfl ?_
      refine o_goto P (hb hby dsq_51) (by decide) (pc' := 55) (by decide) ?_
      exact o_retI P hret (by simp) rfl (hb hby dsq_55) (by decide) (by decide) ⟨rfl, rfl⟩
    · rw [if_neg huw]
      show OG p e below m _ T 47 #[.val (.ref a), .val (.ref b), .val (.ref b)] [(.int (0 : Int32))]
      refine o_if_eq P (hb hby dsq_47) (by decide) (pc' := 54) (by decide) (pcf := 50) rfl (fun _ => ?_) (fun q => absurd (by decide) q)
      refine o_iconst P (0 : Int32) (hb hby dsq_54) rfl (pc' := 55) rfl ?_
      exact o_retI P hret (by simp) rfl (hb hby dsq_55) (by decide) (by decide) ⟨rfl, rfl⟩
theorem dsa_0 : decode jdk_42_method_154_code 0 = .ok (.getstatic 38, 3) := by decide +kernel
theorem dsa_3 : decode jdk_42_method_154_code 3 = .ok (.ifCond .eq 14, 3) := by decide +kernel
theorem dsa_6 : decode jdk_42_method_154_code 6 = .ok (.aload_n 0, 1) := by decide +kernel
theorem dsa_7 : decode jdk_42_method_154_code 7 = .ok (.getfield 15, 3) := by decide +kernel
theorem dsa_10 : decode jdk_42_method_154_code 10 = .ok (.ifCond .ne 7, 3) := by decide +kernel
theorem dsa_13 : decode jdk_42_method_154_code 13 = .ok (.iconst 1, 1) := by decide +kernel
theorem dsa_14 : decode jdk_42_method_154_code 14 = .ok (.goto 4, 3) := by decide +kernel
theorem dsa_17 : decode jdk_42_method_154_code 17 = .ok (.iconst 0, 1) := by decide +kernel
theorem dsa_18 : decode jdk_42_method_154_code 18 = .ok (.ireturn, 1) := by decide +kernel
theorem ef_sa (x0 : Addr) (m : MethodId) : entryFrame m #[(.ref x0)] 1 = mkF m 0 #[.val (.ref x0)] [] := by first | (simp [entryFrame, mkF, argsToLocals, o_catR, o_catN, o_catI, o_catJ, o_catD]; done) | rfl
set_option maxRecDepth 65536 in
set_option maxHeartbeats 40000000 in
theorem ct_isLat (l : Launch) (Z : State) (a0 : Array Value) (hw : ∀ d ∈ tables_1, d.before a0 Z = true) (EL : List (String × Nat)) (n0 : Nat) (a x : Addr) (cv : Int32) (hcs : Sta Z Z.heap "java/lang/String" "COMPACT_STRINGS" "Z" (.int cv)) (hcv : ¬ cv = 0) (h0 : Heap) (F_a : OObj Z h0 a "java/lang/String" [("java/lang/String", "value", "[B", (.ref x)), ("java/lang/String", "coder", "B", (.int (0 : Int32)))]) :
    OCt l Z a0 EL n0 (⟨"java/lang/String", "isLatin1", "()Z"⟩ : MethodName) jdk_42_method_154_code 1 (some .boolean) ({ frames := 0, cells := 0, slots := 0, locals := 0 } : Room) [] #[(.ref a)] h0 [] (fun w vm h => w = some (.int 1) ∧ h = h0) := by
  refine OCt.body (plainFor_of_name pn_S) (ef_sa a) ?_
  intro p e s m below meth c T hby hml hret hnm hsh P
  refine o_getS P (ow hw 24 rfl) Via.refl hcs (hb hby dsa_0) (pc' := 3) rfl ?_
  clear P; intro T P
  refine o_if_eq P (hb hby dsa_3) (by decide) (pc' := 17) (by decide) (pcf := 6) rfl (fun q => absurd q hcv) (fun _ => ?_)
  refine o_aloadN P (hb hby dsa_6) rfl rfl (pc' := 7) rfl ?_
  refine o_getF P (ow hw 25 rfl) Via.refl (F_a.fld 1 rfl) (hb hby dsa_7) (pc' := 10) rfl ?_
  clear P; intro T P
  refine o_if_ne P (hb hby dsa_10) (by decide) (pc' := 17) (by decide) (pcf := 13) rfl (fun q => absurd (by decide) q) (fun _ => ?_)
  refine o_iconst P (1 : Int32) (hb hby dsa_13) rfl (pc' := 14) rfl ?_
  refine o_goto P (hb hby dsa_14) (by decide) (pc' := 18) (by decide) ?_
  exact o_retI P hret (by simp) rfl (hb hby dsa_18) (by decide) (by decide) ⟨rfl, rfl⟩
theorem pn_P : plainName "jdk/internal/util/Preconditions" = true := by first | (simp [plainName, overriddenIn]; done) | decide +kernel
theorem dsb_0 : decode jdk_41_method_11_code 0 = .ok (.iload_n 0, 1) := by decide +kernel
theorem dsb_1 : decode jdk_41_method_11_code 1 = .ok (.ifCond .lt 8, 3) := by decide +kernel
theorem dsb_4 : decode jdk_41_method_11_code 4 = .ok (.iload_n 0, 1) := by decide +kernel
theorem dsb_5 : decode jdk_41_method_11_code 5 = .ok (.iload_n 1, 1) := by decide +kernel
theorem dsb_6 : decode jdk_41_method_11_code 6 = .ok (.if_icmp .lt 10, 3) := by decide +kernel
theorem dsb_9 : decode jdk_41_method_11_code 9 = .ok (.aload_n 2, 1) := by decide +kernel
theorem dsb_10 : decode jdk_41_method_11_code 10 = .ok (.iload_n 0, 1) := by decide +kernel
theorem dsb_11 : decode jdk_41_method_11_code 11 = .ok (.iload_n 1, 1) := by decide +kernel
theorem dsb_12 : decode jdk_41_method_11_code 12 = .ok (.invokestatic 95, 3) := by decide +kernel
theorem dsb_15 : decode jdk_41_method_11_code 15 = .ok (.athrow, 1) := by decide +kernel
theorem dsb_16 : decode jdk_41_method_11_code 16 = .ok (.iload_n 0, 1) := by decide +kernel
theorem dsb_17 : decode jdk_41_method_11_code 17 = .ok (.ireturn, 1) := by decide +kernel
theorem ef_sb (i n : Int32) (v : Value) (hv : v.category = 1) (m : MethodId) : entryFrame m #[.int i, .int n, v] 3 = mkF m 0 #[.val (.int i), .val (.int n), .val v] [] := by first | (simp [entryFrame, mkF, argsToLocals, o_catI, hv]; done) | rfl
set_option maxRecDepth 65536 in
set_option maxHeartbeats 40000000 in
theorem ct_pcI (l : Launch) (Z : State) (a0 : Array Value) (hw : ∀ d ∈ tables_1, d.before a0 Z = true) (EL : List (String × Nat)) (n0 : Nat) (i n : Int32) (fv : Value) (hfr : fv.isRef = true) (hi0 : ¬ i < 0) (hin : i < n) (h0 : Heap) :
    OCt l Z a0 EL n0 (⟨"jdk/internal/util/Preconditions", "checkIndex", "(IILjava/util/function/BiFunction;)I"⟩ : MethodName) jdk_41_method_11_code 3 (some .int) ({ frames := 0, cells := 0, slots := 0, locals := 0 } : Room) [] #[(.int i), (.int n), fv] h0 [] (fun w vm h => w = some (.int i) ∧ h = h0) := by
  refine OCt.body (plainFor_of_name pn_P) (ef_sb i n fv (Jvm.Free.XT.cat1 hfr)) ?_
  intro p e s m below meth c T hby hml hret hnm hsh P
  refine o_iloadN P (hb hby dsb_0) rfl (pc' := 1) rfl ?_
  refine o_if_lt P (hb hby dsb_1) (by decide) (pc' := 9) (by decide) (pcf := 4) rfl (fun q => absurd q hi0) (fun _ => ?_)
  refine o_iloadN P (hb hby dsb_4) rfl (pc' := 5) rfl ?_
  refine o_iloadN P (hb hby dsb_5) rfl (pc' := 6) rfl ?_
  refine o_icmp_lt P (hb hby dsb_6) (by decide) (pc' := 16) (by decide) (pcf := 9) rfl (fun _ => ?_) (fun q => absurd hin q)
  refine o_iloadN P (hb hby dsb_16) rfl (pc' := 17) rfl ?_
  exact o_retI P hret (by simp) rfl (hb hby dsb_17) (by decide) (by decide) ⟨rfl, rfl⟩
theorem dsd_0 : decode jdk_42_method_155_code 0 = .ok (.iload_n 0, 1) := by decide +kernel
theorem dsd_1 : decode jdk_42_method_155_code 1 = .ok (.iload_n 1, 1) := by decide +kernel
theorem dsd_2 : decode jdk_42_method_155_code 2 = .ok (.getstatic 1053, 3) := by decide +kernel
theorem dsd_5 : decode jdk_42_method_155_code 5 = .ok (.invokestatic 1059, 3) := by decide +kernel
theorem dsd_8 : decode jdk_42_method_155_code 8 = .ok (.pop, 1) := by decide +kernel
theorem dsd_9 : decode jdk_42_method_155_code 9 = .ok (.return_, 1) := by decide +kernel
theorem ef_sd (x0 : Int32) (x1 : Int32) (m : MethodId) : entryFrame m #[(.int x0), (.int x1)] 2 = mkF m 0 #[.val (.int x0), .val (.int x1)] [] := by first | (simp [entryFrame, mkF, argsToLocals, o_catR, o_catN, o_catI, o_catJ, o_catD]; done) | rfl
set_option maxRecDepth 65536 in
set_option maxHeartbeats 40000000 in
theorem ct_scI (l : Launch) (Z : State) (a0 : Array Value) (hw : ∀ d ∈ tables_1, d.before a0 Z = true) (EL : List (String × Nat)) (n0 : Nat) (i n : Int32) (fv : Value) (hfv : Sta Z Z.heap "jdk/internal/util/Preconditions" "SIOOBE_FORMATTER" "Ljava/util/function/BiFunction;" fv) (hfr : fv.isRef = true) (hi0 : ¬ i < 0) (hin : i < n) (h0 : Heap) :
    OCt l Z a0 EL n0 (⟨"java/lang/String", "checkIndex", "(II)V"⟩ : MethodName) jdk_42_method_155_code 2 none ({ frames := 1, cells := 0, slots := 0, locals := 14 } : Room) [] #[(.int i), (.int n)] h0 [] (fun w vm h => w = none ∧ h = h0) := by
  refine OCt.body (plainFor_of_name pn_S) (ef_sd i n) ?_
  intro p e s m below meth c T hby hml hret hnm hsh P
  refine o_iloadN P (hb hby dsd_0) rfl (pc' := 1) rfl ?_
  refine o_iloadN P (hb hby dsd_1) rfl (pc' := 2) rfl ?_
  refine o_getS P (ow hw 43 rfl) Via.refl hfv (hb hby dsd_2) (pc' := 5) rfl ?_
  clear P; intro T P
  refine o_callS P (W := 0) (ow hw 45 rfl) (ow hw 46 rfl) (ow hw 44 rfl) (ow hw 47 rfl) (by decide) (ct_pcI l Z a0 hw EL n0 i n fv hfr hi0 hin h0) o_sf0 (by rw [hml]; rfl) (by decide) (by decide) (argsL := [(.int i), (.int n), fv]) (rest := []) (lenOf pd_5 rfl) rfl rfl (Nat.le_of_eq rfl) (hb hby dsd_5) (pc' := 8) rfl (by decide) (by decide) ?_
  clear P; intro T h1 v1 P K1 q1
  obtain ⟨rfl, rfl⟩ := q1; clear K1
  show OG p e below m _ T 8 #[.val (.int i), .val (.int n)] [(.int i)]
  refine o_pop P (hb hby dsd_8) rfl (pc' := 9) rfl ?_
  exact o_ret0 P hret (hb hby dsd_9) (by decide) (by decide) ⟨rfl, rfl⟩
theorem dsf_0 : decode jdk_43_method_2_code 0 = .ok (.iload_n 1, 1) := by decide +kernel
theorem dsf_1 : decode jdk_43_method_2_code 1 = .ok (.aload_n 0, 1) := by decide +kernel
theorem dsf_2 : decode jdk_43_method_2_code 2 = .ok (.arraylength, 1) := by decide +kernel
theorem dsf_3 : decode jdk_43_method_2_code 3 = .ok (.invokestatic 9, 3) := by decide +kernel
theorem dsf_6 : decode jdk_43_method_2_code 6 = .ok (.aload_n 0, 1) := by decide +kernel
theorem dsf_7 : decode jdk_43_method_2_code 7 = .ok (.iload_n 1, 1) := by decide +kernel
theorem dsf_8 : decode jdk_43_method_2_code 8 = .ok (.baload, 1) := by decide +kernel
theorem dsf_9 : decode jdk_43_method_2_code 9 = .ok (.sipush 255, 3) := by decide +kernel
theorem dsf_12 : decode jdk_43_method_2_code 12 = .ok (.iand, 1) := by decide +kernel
theorem dsf_13 : decode jdk_43_method_2_code 13 = .ok (.i2c, 1) := by decide +kernel
theorem dsf_14 : decode jdk_43_method_2_code 14 = .ok (.ireturn, 1) := by decide +kernel
theorem ef_sf (x0 : Addr) (x1 : Int32) (m : MethodId) : entryFrame m #[(.ref x0), (.int x1)] 2 = mkF m 0 #[.val (.ref x0), .val (.int x1)] [] := by first | (simp [entryFrame, mkF, argsToLocals, o_catR, o_catN, o_catI, o_catJ, o_catD]; done) | rfl
set_option maxRecDepth 65536 in
set_option maxHeartbeats 40000000 in
theorem ct_l1cA (l : Launch) (Z : State) (a0 : Array Value) (hw : ∀ d ∈ tables_1, d.before a0 Z = true) (EL : List (String × Nat)) (n0 : Nat) (x : Addr) (i u : Int32) (us : List Int32) (fv : Value) (hfv : Sta Z Z.heap "jdk/internal/util/Preconditions" "SIOOBE_FORMATTER" "Ljava/util/function/BiFunction;" fv) (hfr : fv.isRef = true) (hi0 : ¬ i < 0) (hu : us[i.toNatClampNeg]? = some u) (h0 : Heap) (A_x : OArr Z h0 x .byte (och us)) :
    OCt l Z a0 EL n0 (⟨"java/lang/StringLatin1", "charAt", "([BI)C"⟩ : MethodName) jdk_43_method_2_code 2 (some .char) ({ frames := 2, cells := 0, slots := 0, locals := 27 } : Room) [] #[(.ref x), (.int i)] h0 [] (fun w vm h => w = some (.int ((u &&& (255 : Int32)).toUInt32.toUInt16.toUInt32.toInt32)) ∧ h = h0) := by
  refine OCt.body (plainFor_of_name pn_L1) (ef_sf x i) ?_
  intro p e s m below meth c T hby hml hret hnm hsh P
  refine o_iloadN P (hb hby dsf_0) rfl (pc' := 1) rfl ?_
  refine o_aloadN P (hb hby dsf_1) rfl rfl (pc' := 2) rfl ?_
  refine o_arrlen P A_x (hb hby dsf_2) (n := us.length.toInt32) (by simp) (pc' := 3) rfl ?_
  have hn : us.length < 2147483648 := by simpa using A_x.len
  have hin : i < us.length.toInt32 := by rw [Int32.lt_iff_toInt_lt] at hi0 ⊢; have z : (0 : Int32).toInt = 0 := rfl; rw [oi_int hn]; have := (List.getElem?_eq_some_iff.mp hu).1; simp only [Int32.toNatClampNeg] at this; omega
  refine o_callS P (W := 0) (ow hw 40 rfl) (ow hw 41 rfl) (ow hw 1 rfl) (ow hw 42 rfl) (by decide) (ct_scI l Z a0 hw EL n0 i us.length.toInt32 fv hfv hfr hi0 hin h0) o_sf0 (by rw [hml]; rfl) (by decide) (by decide) (argsL := [(.int i), (.int us.length.toInt32)]) (rest := []) (lenOf pd_6 rfl) rfl rfl (Nat.le_of_eq rfl) (hb hby dsf_3) (pc' := 6) rfl (by decide) (by decide) ?_
  clear P; intro T h1 v1 P K1 q1
  obtain ⟨rfl, rfl⟩ := q1; clear K1
  show OG p e below m _ T 6 #[.val (.ref x), .val (.int i)] []
  refine o_aloadN P (hb hby dsf_6) rfl rfl (pc' := 7) rfl ?_
  refine o_iloadN P (hb hby dsf_7) rfl (pc' := 8) rfl ?_
  refine o_baload P (v := (.int u)) A_x hi0 (och_get hu) (hb hby dsf_8) (pc' := 9) rfl ?_
  refine o_sipush P (255 : Int32) (hb hby dsf_9) rfl (pc' := 12) rfl ?_
  refine o_iand P (hb hby dsf_12) (pc' := 13) rfl ?_
  refine o_i2c P (hb hby dsf_13) (pc' := 14) rfl ?_
  exact o_retI P hret (by simp) (Jvm.Free.XT.narrow_c _) (hb hby dsf_14) (by decide) (by decide) ⟨rfl, rfl⟩
theorem dsg_0 : decode jdk_42_method_56_code 0 = .ok (.aload_n 0, 1) := by decide +kernel
theorem dsg_1 : decode jdk_42_method_56_code 1 = .ok (.invokevirtual 492, 3) := by decide +kernel
theorem dsg_4 : decode jdk_42_method_56_code 4 = .ok (.ifCond .eq 12, 3) := by decide +kernel
theorem dsg_7 : decode jdk_42_method_56_code 7 = .ok (.aload_n 0, 1) := by decide +kernel
theorem dsg_8 : decode jdk_42_method_56_code 8 = .ok (.getfield 9, 3) := by decide +kernel
theorem dsg_11 : decode jdk_42_method_56_code 11 = .ok (.iload_n 1, 1) := by decide +kernel
theorem dsg_12 : decode jdk_42_method_56_code 12 = .ok (.invokestatic 495, 3) := by decide +kernel
theorem dsg_15 : decode jdk_42_method_56_code 15 = .ok (.ireturn, 1) := by decide +kernel
theorem dsg_16 : decode jdk_42_method_56_code 16 = .ok (.aload_n 0, 1) := by decide +kernel
theorem dsg_17 : decode jdk_42_method_56_code 17 = .ok (.getfield 9, 3) := by decide +kernel
theorem dsg_20 : decode jdk_42_method_56_code 20 = .ok (.iload_n 1, 1) := by decide +kernel
theorem dsg_21 : decode jdk_42_method_56_code 21 = .ok (.invokestatic 498, 3) := by decide +kernel
theorem dsg_24 : decode jdk_42_method_56_code 24 = .ok (.ireturn, 1) := by decide +kernel
theorem ef_sg (x0 : Addr) (x1 : Int32) (m : MethodId) : entryFrame m #[(.ref x0), (.int x1)] 2 = mkF m 0 #[.val (.ref x0), .val (.int x1)] [] := by first | (simp [entryFrame, mkF, argsToLocals, o_catR, o_catN, o_catI, o_catJ, o_catD]; done) | rfl
set_option maxRecDepth 65536 in
set_option maxHeartbeats 40000000 in
theorem ct_charAt (l : Launch) (Z : State) (a0 : Array Value) (hw : ∀ d ∈ tables_1, d.before a0 Z = true) (EL : List (String × Nat)) (n0 : Nat) (a x : Addr) (i u : Int32) (us : List Int32) (fv : Value) (hfv : Sta Z Z.heap "jdk/internal/util/Preconditions" "SIOOBE_FORMATTER" "Ljava/util/function/BiFunction;" fv) (hfr : fv.isRef = true) (hi0 : ¬ i < 0) (hu : us[i.toNatClampNeg]? = some u) (cv : Int32) (hcs : Sta Z Z.heap "java/lang/String" "COMPACT_STRINGS" "Z" (.int cv)) (hcv : ¬ cv = 0) (h0 : Heap) (G_a : OStr Z h0 a x (och us)) :
    OCt l Z a0 EL n0 (⟨"java/lang/String", "charAt", "(I)C"⟩ : MethodName) jdk_42_method_56_code 2 (some .char) ({ frames := 3, cells := 0, slots := 0, locals := 40 } : Room) [] #[(.ref a), (.int i)] h0 [] (fun w vm h => w = some (.int ((u &&& (255 : Int32)).toUInt32.toUInt16.toUInt32.toInt32)) ∧ h = h0) := by
  refine OCt.body (plainFor_of_name pn_S) (ef_sg a i) ?_
  intro p e s m below meth c T hby hml hret hnm hsh P
  obtain ⟨F_a, A_x⟩ := G_a
  refine o_aloadN P (hb hby dsg_0) rfl rfl (pc' := 1) rfl ?_
  refine o_callV P (W := 0) (x := (⟨"java/lang/String", "isLatin1", "()Z"⟩ : MethodName)) (y := (⟨"java/lang/String", "isLatin1", "()Z"⟩ : MethodName)) (a := a) (ow hw 31 rfl) (ow hw 32 rfl) (o_nfSel (y := (⟨"java/lang/String", "isLatin1", "()Z"⟩ : MethodName)) rfl (ow hw 34 rfl)) (ow hw 34 rfl) (ow hw 33 rfl) (ow hw 1 rfl) (ow hw 35 rfl) (by decide) F_a.exa (ct_isLat l Z a0 hw EL n0 a x cv hcs hcv h0 F_a) o_sf0 (by rw [hml]; rfl) (by decide) (by decide) (argsL := []) (rest := []) (lenOf pd_7 rfl) rfl rfl (Nat.le_of_eq rfl) (hb hby dsg_1) (pc' := 4) rfl (by decide) (by decide) ?_
  clear P; intro T h1 v1 P K1 q1
  obtain ⟨rfl, rfl⟩ := q1; clear K1
  show OG p e below m _ T 4 #[.val (.ref a), .val (.int i)] [(.int (1 : Int32))]
  refine o_if_eq P (hb hby dsg_4) (by decide) (pc' := 16) (by decide) (pcf := 7) rfl (fun q => absurd q (by decide)) (fun _ => ?_)
  refine o_aloadN P (hb hby dsg_7) rfl rfl (pc' := 8) rfl ?_
  refine o_getF P (ow hw 18 rfl) Via.refl (F_a.fld 0 rfl) (hb hby dsg_8) (pc' := 11) rfl ?_
  clear P; intro T P
  refine o_iloadN P (hb hby dsg_11) rfl (pc' := 12) rfl ?_
  refine o_callS P (W := 0) (ow hw 36 rfl) (ow hw 37 rfl) (ow hw 38 rfl) (ow hw 39 rfl) (by decide) (ct_l1cA l Z a0 hw EL n0 x i u us fv hfv hfr hi0 hu h1 A_x) o_sf0 (by rw [hml]; rfl) (by decide) (by decide) (argsL := [(.ref x), (.int i)]) (rest := []) (lenOf pd_8 rfl) rfl rfl (Nat.le_of_eq rfl) (hb hby dsg_12) (pc' := 15) rfl (by decide) (by decide) ?_
  clear P; intro T h2 v2 P K2 q2
  obtain ⟨rfl, rfl⟩ := q2; clear K2
  show OG p e below m _ T 15 #[.val (.ref a), .val (.int i)] [(.int ((u &&& (255 : Int32)).toUInt32.toUInt16.toUInt32.toInt32))]
  exact o_retI P hret (by simp) (Jvm.Free.XT.narrow_c _) (hb hby dsg_15) (by decide) (by decide) ⟨rfl, rfl⟩
theorem dsh_0 : decode jdk_42_method_152_code 0 = .ok (.getstatic 38, 3) := by decide +kernel
theorem dsh_3 : decode jdk_42_method_152_code 3 = .ok (.ifCond .eq 10, 3) := by decide +kernel
theorem dsh_6 : decode jdk_42_method_152_code 6 = .ok (.aload_n 0, 1) := by decide +kernel
theorem dsh_7 : decode jdk_42_method_152_code 7 = .ok (.getfield 15, 3) := by decide +kernel
theorem dsh_10 : decode jdk_42_method_152_code 10 = .ok (.goto 4, 3) := by decide +kernel
theorem dsh_13 : decode jdk_42_method_152_code 13 = .ok (.iconst 1, 1) := by decide +kernel
theorem dsh_14 : decode jdk_42_method_152_code 14 = .ok (.ireturn, 1) := by decide +kernel
theorem ef_sh (x0 : Addr) (m : MethodId) : entryFrame m #[(.ref x0)] 1 = mkF m 0 #[.val (.ref x0)] [] := by first | (simp [entryFrame, mkF, argsToLocals, o_catR, o_catN, o_catI, o_catJ, o_catD]; done) | rfl
set_option maxRecDepth 65536 in
set_option maxHeartbeats 40000000 in
theorem ct_coderM (l : Launch) (Z : State) (a0 : Array Value) (hw : ∀ d ∈ tables_1, d.before a0 Z = true) (EL : List (String × Nat)) (n0 : Nat) (a x : Addr) (cv : Int32) (hcs : Sta Z Z.heap "java/lang/String" "COMPACT_STRINGS" "Z" (.int cv)) (hcv : ¬ cv = 0) (h0 : Heap) (F_a : OObj Z h0 a "java/lang/String" [("java/lang/String", "value", "[B", (.ref x)), ("java/lang/String", "coder", "B", (.int (0 : Int32)))]) :
    OCt l Z a0 EL n0 (⟨"java/lang/String", "coder", "()B"⟩ : MethodName) jdk_42_method_152_code 1 (some .byte) ({ frames := 0, cells := 0, slots := 0, locals := 0 } : Room) [] #[(.ref a)] h0 [] (fun w vm h => w = some (.int 0) ∧ h = h0) := by
  refine OCt.body (plainFor_of_name pn_S) (ef_sh a) ?_
  intro p e s m below meth c T hby hml hret hnm hsh P
  refine o_getS P (ow hw 24 rfl) Via.refl hcs (hb hby dsh_0) (pc' := 3) rfl ?_
  clear P; intro T P
  refine o_if_eq P (hb hby dsh_3) (by decide) (pc' := 13) (by decide) (pcf := 6) rfl (fun q => absurd q hcv) (fun _ => ?_)
  refine o_aloadN P (hb hby dsh_6) rfl rfl (pc' := 7) rfl ?_
  refine o_getF P (ow hw 25 rfl) Via.refl (F_a.fld 1 rfl) (hb hby dsh_7) (pc' := 10) rfl ?_
  clear P; intro T P
  refine o_goto P (hb hby dsh_10) (by decide) (pc' := 14) (by decide) ?_
  exact o_retI P hret (by simp) rfl (hb hby dsh_14) (by decide) (by decide) ⟨rfl, rfl⟩
theorem dsm9_0 : decode jdk_42_method_54_code 0 = .ok (.aload_n 0, 1) := by decide +kernel
theorem dsm9_1 : decode jdk_42_method_54_code 1 = .ok (.getfield 9, 3) := by decide +kernel
theorem dsm9_4 : decode jdk_42_method_54_code 4 = .ok (.arraylength, 1) := by decide +kernel
theorem dsm9_5 : decode jdk_42_method_54_code 5 = .ok (.aload_n 0, 1) := by decide +kernel
theorem dsm9_6 : decode jdk_42_method_54_code 6 = .ok (.invokevirtual 335, 3) := by decide +kernel
theorem dsm9_9 : decode jdk_42_method_54_code 9 = .ok (.ishr, 1) := by decide +kernel
theorem dsm9_10 : decode jdk_42_method_54_code 10 = .ok (.ireturn, 1) := by decide +kernel
theorem ef_sm9 (x0 : Addr) (m : MethodId) : entryFrame m #[(.ref x0)] 1 = mkF m 0 #[.val (.ref x0)] [] := by first | (simp [entryFrame, mkF, argsToLocals, o_catR, o_catN, o_catI, o_catJ, o_catD]; done) | rfl
set_option maxRecDepth 65536 in
set_option maxHeartbeats 40000000 in
theorem ct_len (l : Launch) (Z : State) (a0 : Array Value) (hw : ∀ d ∈ tables_1, d.before a0 Z = true) (EL : List (String × Nat)) (n0 : Nat) (a x : Addr) (us : List Int32) (cv : Int32) (hcs : Sta Z Z.heap "java/lang/String" "COMPACT_STRINGS" "Z" (.int cv)) (hcv : ¬ cv = 0) (h0 : Heap) (G_a : OStr Z h0 a x (och us)) :
    OCt l Z a0 EL n0 (⟨"java/lang/String", "length", "()I"⟩ : MethodName) jdk_42_method_54_code 1 (some .int) ({ frames := 1, cells := 0, slots := 0, locals := 13 } : Room) [] #[(.ref a)] h0 [] (fun w vm h => w = some (.int us.length.toInt32) ∧ h = h0) := by
  refine OCt.body (plainFor_of_name pn_S) (ef_sm9 a) ?_
  intro p e s m below meth c T hby hml hret hnm hsh P
  obtain ⟨F_a, A_x⟩ := G_a
  refine o_aloadN P (hb hby dsm9_0) rfl rfl (pc' := 1) rfl ?_
  refine o_getF P (ow hw 18 rfl) Via.refl (F_a.fld 0 rfl) (hb hby dsm9_1) (pc' := 4) rfl ?_
  clear P; intro T P
  refine o_arrlen P A_x (hb hby dsm9_4) (n := us.length.toInt32) (by simp) (pc' := 5) rfl ?_
  refine o_aloadN P (hb hby dsm9_5) rfl rfl (pc' := 6) rfl ?_
  refine o_callV P (W := 1) (x := (⟨"java/lang/String", "coder", "()B"⟩ : MethodName)) (y := (⟨"java/lang/String", "coder", "()B"⟩ : MethodName)) (a := a) (ow hw 19 rfl) (ow hw 20 rfl) (o_nfSel (y := (⟨"java/lang/String", "coder", "()B"⟩ : MethodName)) rfl (ow hw 22 rfl)) (ow hw 22 rfl) (ow hw 21 rfl) (ow hw 1 rfl) (ow hw 23 rfl) (by decide) F_a.exa (ct_coderM l Z a0 hw EL n0 a x cv hcs hcv h0 F_a) o_sf0 (by rw [hml]; rfl) (by decide) (by decide) (argsL := []) (rest := [(.int us.length.toInt32)]) (lenOf pd_9 rfl) rfl rfl (Nat.le_of_eq rfl) (hb hby dsm9_6) (pc' := 9) rfl (by decide) (by decide) ?_
  clear P; intro T h1 v1 P K1 q1
  obtain ⟨rfl, rfl⟩ := q1; clear K1
  show OG p e below m _ T 9 #[.val (.ref a)] [(.int (0 : Int32)), (.int us.length.toInt32)]
  refine o_ishr P (hb hby dsm9_9) (pc' := 10) rfl ?_
  rw [show us.length.toInt32 >>> ((0 : Int32) &&& 31) = us.length.toInt32 from by simp]
  exact o_retI P hret (by simp) rfl (hb hby dsm9_10) (by decide) (by decide) ⟨rfl, rfl⟩
theorem pn_E : plainName "com/example/busca/busca/analysis/Analyzer" = true := by first | (simp [plainName, overriddenIn]; done) | decide +kernel
theorem dev_0 : decode prog_1_method_1_code 0 = .ok (.getstatic 13, 3) := by decide +kernel
theorem dev_3 : decode prog_1_method_1_code 3 = .ok (.invokevirtual 17, 3) := by decide +kernel
theorem dev_6 : decode prog_1_method_1_code 6 = .ok (.checkcast 18, 3) := by decide +kernel
theorem dev_9 : decode prog_1_method_1_code 9 = .ok (.areturn, 1) := by decide +kernel
theorem ef_ev  (m : MethodId) : entryFrame m #[] 0 = mkF m 0 #[] [] := by first | (simp [entryFrame, mkF, argsToLocals, o_catR, o_catN, o_catI, o_catJ, o_catD]; done) | rfl
set_option maxRecDepth 65536 in
set_option maxHeartbeats 40000000 in
theorem ct_values (l : Launch) (Z : State) (a0 : Array Value) (hw : ∀ d ∈ tables_1, d.before a0 Z = true) (EL : List (String × Nat)) (n0 : Nat) (k0 k1 k2 : Addr) (va : Addr) (hva : Sta Z Z.heap "com/example/busca/busca/analysis/Analyzer" "$VALUES" "[Lcom/example/busca/busca/analysis/Analyzer;" (.ref va)) (Eva : Exa Z Z.heap va "[Lcom/example/busca/busca/analysis/Analyzer;") (Ava : OArr Z Z.heap va (.object "com/example/busca/busca/analysis/Analyzer") [.ref k0, .ref k1, .ref k2]) (u0 w0 : Addr) (hk0 : Sta Z Z.heap "com/example/busca/busca/analysis/Analyzer" "PLAIN" "Lcom/example/busca/busca/analysis/Analyzer;" (.ref k0)) (Fk0 : OObj Z Z.heap k0 "com/example/busca/busca/analysis/Analyzer" [("com/example/busca/busca/analysis/Analyzer", "analyzerName", "Ljava/lang/String;", (.ref u0))]) (Gu0 : OStr Z Z.heap u0 w0 (och [112, 108, 97, 105, 110])) (u1 w1 : Addr) (hk1 : Sta Z Z.heap "com/example/busca/busca/analysis/Analyzer" "PORTER" "Lcom/example/busca/busca/analysis/Analyzer;" (.ref k1)) (Fk1 : OObj Z Z.heap k1 "com/example/busca/busca/analysis/Analyzer" [("com/example/busca/busca/analysis/Analyzer", "analyzerName", "Ljava/lang/String;", (.ref u1))]) (Gu1 : OStr Z Z.heap u1 w1 (och [112, 111, 114, 116, 101, 114])) (u2 w2 : Addr) (hk2 : Sta Z Z.heap "com/example/busca/busca/analysis/Analyzer" "ENGLISH" "Lcom/example/busca/busca/analysis/Analyzer;" (.ref k2)) (Fk2 : OObj Z Z.heap k2 "com/example/busca/busca/analysis/Analyzer" [("com/example/busca/busca/analysis/Analyzer", "analyzerName", "Ljava/lang/String;", (.ref u2))]) (Gu2 : OStr Z Z.heap u2 w2 (och [101, 110, 103, 108, 105, 115, 104])) (h0 : Heap) :
    OCt l Z a0 EL n0 (⟨"com/example/busca/busca/analysis/Analyzer", "values", "()[Lcom/example/busca/busca/analysis/Analyzer;"⟩ : MethodName) prog_1_method_1_code 0 (some (.array (.object "com/example/busca/busca/analysis/Analyzer"))) ({ frames := 1, cells := 1, slots := 3, locals := 14 } : Room) [] #[] h0 [] (fun w vm h => ∃ b : Addr, w = some (.ref b) ∧ OArr Z h b (.object "com/example/busca/busca/analysis/Analyzer") [.ref k0, .ref k1, .ref k2]) := by
  refine OCt.body (plainFor_of_name pn_E) (ef_ev ) ?_
  intro p e s m below meth c T hby hml hret hnm hsh P
  refine o_getS P (ow hw 82 rfl) Via.refl hva (hb hby dev_0) (pc' := 3) rfl ?_
  clear P; intro T P
  have hO := P.old
  refine o_clone P (W := 0) (cap := 3) (ad := "[Lcom/example/busca/busca/analysis/Analyzer;") (ow hw 84 rfl) (ow hw 85 rfl) (ow hw 89 rfl) (ow hw 87 rfl) (ow hw 88 rfl) (ow hw 90 rfl) (Ava.ext hO.2) (Eva.ext hO.2) (by rw [hml]; rfl) (hb hby dev_3) (pc' := 6) rfl (by decide) (Nat.le_of_eq rfl) (by decide) (of_decide_eq_true rfl) (by decide) (by decide) ?_
  clear P; intro T h1 b P K hbq A_b E_b
  refine o_cast P (ow hw 95 rfl) (Ins.self E_b) (hb hby dev_6) (pc' := 9) rfl ?_
  clear P; intro T P
  exact o_retA P hret rfl rfl rfl (hb hby dev_9) (by decide) (by decide) ⟨b, rfl, A_b⟩
theorem del_0 : decode prog_1_method_4_code 0 = .ok (.invokestatic 40, 3) := by decide +kernel
theorem del_3 : decode prog_1_method_4_code 3 = .ok (.astore_n 1, 1) := by decide +kernel
theorem del_4 : decode prog_1_method_4_code 4 = .ok (.aload_n 1, 1) := by decide +kernel
theorem del_5 : decode prog_1_method_4_code 5 = .ok (.arraylength, 1) := by decide +kernel
theorem del_6 : decode prog_1_method_4_code 6 = .ok (.istore_n 2, 1) := by decide +kernel
theorem del_7 : decode prog_1_method_4_code 7 = .ok (.iconst 0, 1) := by decide +kernel
theorem del_8 : decode prog_1_method_4_code 8 = .ok (.istore_n 3, 1) := by decide +kernel
theorem del_9 : decode prog_1_method_4_code 9 = .ok (.iload_n 3, 1) := by decide +kernel
theorem del_10 : decode prog_1_method_4_code 10 = .ok (.iload_n 2, 1) := by decide +kernel
theorem del_11 : decode prog_1_method_4_code 11 = .ok (.if_icmp .ge 29, 3) := by decide +kernel
theorem del_14 : decode prog_1_method_4_code 14 = .ok (.aload_n 1, 1) := by decide +kernel
theorem del_15 : decode prog_1_method_4_code 15 = .ok (.iload_n 3, 1) := by decide +kernel
theorem del_16 : decode prog_1_method_4_code 16 = .ok (.aaload, 1) := by decide +kernel
theorem del_17 : decode prog_1_method_4_code 17 = .ok (.astore 4, 2) := by decide +kernel
theorem del_19 : decode prog_1_method_4_code 19 = .ok (.aload 4, 2) := by decide +kernel
theorem del_21 : decode prog_1_method_4_code 21 = .ok (.getfield 32, 3) := by decide +kernel
theorem del_24 : decode prog_1_method_4_code 24 = .ok (.aload_n 0, 1) := by decide +kernel
theorem del_25 : decode prog_1_method_4_code 25 = .ok (.invokevirtual 44, 3) := by decide +kernel
theorem del_28 : decode prog_1_method_4_code 28 = .ok (.ifCond .eq 6, 3) := by decide +kernel
theorem del_31 : decode prog_1_method_4_code 31 = .ok (.aload 4, 2) := by decide +kernel
theorem del_33 : decode prog_1_method_4_code 33 = .ok (.areturn, 1) := by decide +kernel
theorem del_34 : decode prog_1_method_4_code 34 = .ok (.iinc 3 1, 3) := by decide +kernel
theorem del_37 : decode prog_1_method_4_code 37 = .ok (.goto (-28), 3) := by decide +kernel
theorem del_40 : decode prog_1_method_4_code 40 = .ok (.aconst_null, 1) := by decide +kernel
theorem del_41 : decode prog_1_method_4_code 41 = .ok (.areturn, 1) := by decide +kernel
theorem ef_elN  (m : MethodId) : entryFrame m #[.null] 5 = mkF m 0 #[.val .null, .unset, .unset, .unset, .unset] [] := by first | (simp [entryFrame, mkF, argsToLocals, o_catR, o_catN, o_catI, o_catJ, o_catD]; done) | rfl
set_option maxRecDepth 65536 in
set_option maxHeartbeats 40000000 in
theorem ct_findN (l : Launch) (Z : State) (a0 : Array Value) (hw : ∀ d ∈ tables_1, d.before a0 Z = true) (EL : List (String × Nat)) (n0 : Nat) (k0 k1 k2 : Addr) (va : Addr) (hva : Sta Z Z.heap "com/example/busca/busca/analysis/Analyzer" "$VALUES" "[Lcom/example/busca/busca/analysis/Analyzer;" (.ref va)) (Eva : Exa Z Z.heap va "[Lcom/example/busca/busca/analysis/Analyzer;") (Ava : OArr Z Z.heap va (.object "com/example/busca/busca/analysis/Analyzer") [.ref k0, .ref k1, .ref k2]) (u0 w0 : Addr) (hk0 : Sta Z Z.heap "com/example/busca/busca/analysis/Analyzer" "PLAIN" "Lcom/example/busca/busca/analysis/Analyzer;" (.ref k0)) (Fk0 : OObj Z Z.heap k0 "com/example/busca/busca/analysis/Analyzer" [("com/example/busca/busca/analysis/Analyzer", "analyzerName", "Ljava/lang/String;", (.ref u0))]) (Gu0 : OStr Z Z.heap u0 w0 (och [112, 108, 97, 105, 110])) (u1 w1 : Addr) (hk1 : Sta Z Z.heap "com/example/busca/busca/analysis/Analyzer" "PORTER" "Lcom/example/busca/busca/analysis/Analyzer;" (.ref k1)) (Fk1 : OObj Z Z.heap k1 "com/example/busca/busca/analysis/Analyzer" [("com/example/busca/busca/analysis/Analyzer", "analyzerName", "Ljava/lang/String;", (.ref u1))]) (Gu1 : OStr Z Z.heap u1 w1 (och [112, 111, 114, 116, 101, 114])) (u2 w2 : Addr) (hk2 : Sta Z Z.heap "com/example/busca/busca/analysis/Analyzer" "ENGLISH" "Lcom/example/busca/busca/analysis/Analyzer;" (.ref k2)) (Fk2 : OObj Z Z.heap k2 "com/example/busca/busca/analysis/Analyzer" [("com/example/busca/busca/analysis/Analyzer", "analyzerName", "Ljava/lang/String;", (.ref u2))]) (Gu2 : OStr Z Z.heap u2 w2 (och [101, 110, 103, 108, 105, 115, 104])) (cv : Int32) (hcs : Sta Z Z.heap "java/lang/String" "COMPACT_STRINGS" "Z" (.int cv)) (hcv : ¬ cv = 0) (h0 : Heap) :
    OCt l Z a0 EL n0 (⟨"com/example/busca/busca/analysis/Analyzer", "named", "(Ljava/lang/String;)Lcom/example/busca/busca/analysis/Analyzer;"⟩ : MethodName) prog_1_method_4_code 5 (some (.object "com/example/busca/busca/analysis/Analyzer")) ({ frames := 2, cells := 1, slots := 3, locals := 28 } : Room) [] #[.null] h0 [] (fun w vm h => w = some .null ∧ True) := by
  refine OCt.body (plainFor_of_name pn_E) (ef_elN ) ?_
  intro p e s m below meth c T hby hml hret hnm hsh P
  refine o_callS P (W := 0) (ow hw 79 rfl) (ow hw 80 rfl) (ow hw 77 rfl) (ow hw 81 rfl) (by decide) (ct_values l Z a0 hw EL n0 k0 k1 k2 va hva Eva Ava u0 w0 hk0 Fk0 Gu0 u1 w1 hk1 Fk1 Gu1 u2 w2 hk2 Fk2 Gu2 h0) o_sf0 (by rw [hml]; rfl) (by decide) (by decide) (argsL := []) (rest := []) (lenOf pd_10 rfl) rfl rfl (Nat.le_of_eq rfl) (hb hby del_0) (pc' := 3) rfl (by decide) (by decide) ?_
  clear P; intro T h1 v1 P K1 q1
  obtain ⟨b, rfl, A_b⟩ := q1
  clear K1
  show OG p e below m _ T 3 #[.val .null, .unset, .unset, .unset, .unset] [(.ref b)]
  have hO := P.old
  have F_k0 := Fk0.ext hO.2
  have G_u0 : OStr Z h1 u0 w0 (och [112, 108, 97, 105, 110]) := ⟨Gu0.1.ext hO.2, Gu0.2.ext hO.2⟩
  have F_u0 := G_u0.1
  have F_k1 := Fk1.ext hO.2
  have G_u1 : OStr Z h1 u1 w1 (och [112, 111, 114, 116, 101, 114]) := ⟨Gu1.1.ext hO.2, Gu1.2.ext hO.2⟩
  have F_u1 := G_u1.1
  have F_k2 := Fk2.ext hO.2
  have G_u2 : OStr Z h1 u2 w2 (och [101, 110, 103, 108, 105, 115, 104]) := ⟨Gu2.1.ext hO.2, Gu2.2.ext hO.2⟩
  have F_u2 := G_u2.1
  refine o_astoreN P (hb hby del_3) rfl (L' := #[.val .null, .val (.ref b), .unset, .unset, .unset]) rfl (pc' := 4) rfl ?_
  refine o_aloadN P (hb hby del_4) rfl rfl (pc' := 5) rfl ?_
  refine o_arrlen P A_b (hb hby del_5) (n := (3 : Int32)) rfl (pc' := 6) rfl ?_
  refine o_istoreN P (hb hby del_6) (L' := #[.val .null, .val (.ref b), .val (.int (3 : Int32)), .unset, .unset]) rfl (pc' := 7) rfl ?_
  refine o_iconst P (0 : Int32) (hb hby del_7) rfl (pc' := 8) rfl ?_
  refine o_istoreN P (hb hby del_8) (L' := #[.val .null, .val (.ref b), .val (.int (3 : Int32)), .val (.int (0 : Int32)), .unset]) rfl (pc' := 9) rfl ?_
  refine o_iloadN P (hb hby del_9) rfl (pc' := 10) rfl ?_
  refine o_iloadN P (hb hby del_10) rfl (pc' := 11) rfl ?_
  refine o_icmp_ge P (hb hby del_11) (by decide) (pc' := 40) (by decide) (pcf := 14) rfl (fun q => absurd (by decide) q) (fun _ => ?_)
  refine o_aloadN P (hb hby del_14) rfl rfl (pc' := 15) rfl ?_
  refine o_iloadN P (hb hby del_15) rfl (pc' := 16) rfl ?_
  refine o_aaload P (v := (.ref k0)) A_b rfl (by decide) rfl (hb hby del_16) (pc' := 17) rfl ?_
  refine o_astore P (hb hby del_17) rfl (L' := #[.val .null, .val (.ref b), .val (.int (3 : Int32)), .val (.int (0 : Int32)), .val (.ref k0)]) rfl (pc' := 19) rfl ?_
  refine o_aload P (hb hby del_19) rfl rfl (pc' := 21) rfl ?_
  refine o_getF P (ow hw 97 rfl) Via.refl (F_k0.fld 0 rfl) (hb hby del_21) (pc' := 24) rfl ?_
  clear P; intro T P
  refine o_aloadN P (hb hby del_24) rfl rfl (pc' := 25) rfl ?_
  refine o_callV P (W := 0) (x := (⟨"java/lang/String", "equals", "(Ljava/lang/Object;)Z"⟩ : MethodName)) (y := (⟨"java/lang/String", "equals", "(Ljava/lang/Object;)Z"⟩ : MethodName)) (a := u0) (ow hw 99 rfl) (ow hw 65 rfl) (o_nfSel (y := (⟨"java/lang/String", "equals", "(Ljava/lang/Object;)Z"⟩ : MethodName)) rfl (ow hw 67 rfl)) (ow hw 67 rfl) (ow hw 66 rfl) (ow hw 1 rfl) (ow hw 68 rfl) (by decide) F_u0.exa (ct_eqNull l Z a0 hw EL n0 u0 h1) o_sf0 (by rw [hml]; rfl) (by decide) (by decide) (argsL := [.null]) (rest := []) (lenOf pd_11 rfl) rfl rfl (Nat.le_of_eq rfl) (hb hby del_25) (pc' := 28) rfl (by decide) (by decide) ?_
  clear P; intro T h2 v2 P K2 q2
  obtain ⟨rfl, rfl⟩ := q2; clear K2
  show OG p e below m _ T 28 #[.val .null, .val (.ref b), .val (.int (3 : Int32)), .val (.int (0 : Int32)), .val (.ref k0)] [(.int (0 : Int32))]
  refine o_if_eq P (hb hby del_28) (by decide) (pc' := 34) (by decide) (pcf := 31) rfl (fun _ => ?_) (fun q => absurd (by decide) q)
  refine o_iinc P (1 : Int32) (hb hby del_34) rfl rfl (L' := #[.val .null, .val (.ref b), .val (.int (3 : Int32)), .val (.int (1 : Int32)), .val (.ref k0)]) rfl (pc' := 37) rfl ?_
  refine o_goto P (hb hby del_37) (by decide) (pc' := 9) (by decide) ?_
  refine o_iloadN P (hb hby del_9) rfl (pc' := 10) rfl ?_
  refine o_iloadN P (hb hby del_10) rfl (pc' := 11) rfl ?_
  refine o_icmp_ge P (hb hby del_11) (by decide) (pc' := 40) (by decide) (pcf := 14) rfl (fun q => absurd (by decide) q) (fun _ => ?_)
  refine o_aloadN P (hb hby del_14) rfl rfl (pc' := 15) rfl ?_
  refine o_iloadN P (hb hby del_15) rfl (pc' := 16) rfl ?_
  refine o_aaload P (v := (.ref k1)) A_b rfl (by decide) rfl (hb hby del_16) (pc' := 17) rfl ?_
  refine o_astore P (hb hby del_17) rfl (L' := #[.val .null, .val (.ref b), .val (.int (3 : Int32)), .val (.int (1 : Int32)), .val (.ref k1)]) rfl (pc' := 19) rfl ?_
  refine o_aload P (hb hby del_19) rfl rfl (pc' := 21) rfl ?_
  refine o_getF P (ow hw 97 rfl) Via.refl (F_k1.fld 0 rfl) (hb hby del_21) (pc' := 24) rfl ?_
  clear P; intro T P
  refine o_aloadN P (hb hby del_24) rfl rfl (pc' := 25) rfl ?_
  refine o_callV P (W := 0) (x := (⟨"java/lang/String", "equals", "(Ljava/lang/Object;)Z"⟩ : MethodName)) (y := (⟨"java/lang/String", "equals", "(Ljava/lang/Object;)Z"⟩ : MethodName)) (a := u1) (ow hw 99 rfl) (ow hw 65 rfl) (o_nfSel (y := (⟨"java/lang/String", "equals", "(Ljava/lang/Object;)Z"⟩ : MethodName)) rfl (ow hw 67 rfl)) (ow hw 67 rfl) (ow hw 66 rfl) (ow hw 1 rfl) (ow hw 68 rfl) (by decide) F_u1.exa (ct_eqNull l Z a0 hw EL n0 u1 h2) o_sf0 (by rw [hml]; rfl) (by decide) (by decide) (argsL := [.null]) (rest := []) (lenOf pd_11 rfl) rfl rfl (Nat.le_of_eq rfl) (hb hby del_25) (pc' := 28) rfl (by decide) (by decide) ?_
  clear P; intro T h3 v3 P K3 q3
  obtain ⟨rfl, rfl⟩ := q3; clear K3
  show OG p e below m _ T 28 #[.val .null, .val (.ref b), .val (.int (3 : Int32)), .val (.int (1 : Int32)), .val (.ref k1)] [(.int (0 : Int32))]
  refine o_if_eq P (hb hby del_28) (by decide) (pc' := 34) (by decide) (pcf := 31) rfl (fun _ => ?_) (fun q => absurd (by decide) q)
  refine o_iinc P (1 : Int32) (hb hby del_34) rfl rfl (L' := #[.val .null, .val (.ref b), .val (.int (3 : Int32)), .val (.int (2 : Int32)), .val (.ref k1)]) rfl (pc' := 37) rfl ?_
  refine o_goto P (hb hby del_37) (by decide) (pc' := 9) (by decide) ?_
  refine o_iloadN P (hb hby del_9) rfl (pc' := 10) rfl ?_
  refine o_iloadN P (hb hby del_10) rfl (pc' := 11) rfl ?_
  refine o_icmp_ge P (hb hby del_11) (by decide) (pc' := 40) (by decide) (pcf := 14) rfl (fun q => absurd (by decide) q) (fun _ => ?_)
  refine o_aloadN P (hb hby del_14) rfl rfl (pc' := 15) rfl ?_
  refine o_iloadN P (hb hby del_15) rfl (pc' := 16) rfl ?_
  refine o_aaload P (v := (.ref k2)) A_b rfl (by decide) rfl (hb hby del_16) (pc' := 17) rfl ?_
  refine o_astore P (hb hby del_17) rfl (L' := #[.val .null, .val (.ref b), .val (.int (3 : Int32)), .val (.int (2 : Int32)), .val (.ref k2)]) rfl (pc' := 19) rfl ?_
  refine o_aload P (hb hby del_19) rfl rfl (pc' := 21) rfl ?_
  refine o_getF P (ow hw 97 rfl) Via.refl (F_k2.fld 0 rfl) (hb hby del_21) (pc' := 24) rfl ?_
  clear P; intro T P
  refine o_aloadN P (hb hby del_24) rfl rfl (pc' := 25) rfl ?_
  refine o_callV P (W := 0) (x := (⟨"java/lang/String", "equals", "(Ljava/lang/Object;)Z"⟩ : MethodName)) (y := (⟨"java/lang/String", "equals", "(Ljava/lang/Object;)Z"⟩ : MethodName)) (a := u2) (ow hw 99 rfl) (ow hw 65 rfl) (o_nfSel (y := (⟨"java/lang/String", "equals", "(Ljava/lang/Object;)Z"⟩ : MethodName)) rfl (ow hw 67 rfl)) (ow hw 67 rfl) (ow hw 66 rfl) (ow hw 1 rfl) (ow hw 68 rfl) (by decide) F_u2.exa (ct_eqNull l Z a0 hw EL n0 u2 h3) o_sf0 (by rw [hml]; rfl) (by decide) (by decide) (argsL := [.null]) (rest := []) (lenOf pd_11 rfl) rfl rfl (Nat.le_of_eq rfl) (hb hby del_25) (pc' := 28) rfl (by decide) (by decide) ?_
  clear P; intro T h4 v4 P K4 q4
  obtain ⟨rfl, rfl⟩ := q4; clear K4
  show OG p e below m _ T 28 #[.val .null, .val (.ref b), .val (.int (3 : Int32)), .val (.int (2 : Int32)), .val (.ref k2)] [(.int (0 : Int32))]
  refine o_if_eq P (hb hby del_28) (by decide) (pc' := 34) (by decide) (pcf := 31) rfl (fun _ => ?_) (fun q => absurd (by decide) q)
  refine o_iinc P (1 : Int32) (hb hby del_34) rfl rfl (L' := #[.val .null, .val (.ref b), .val (.int (3 : Int32)), .val (.int (3 : Int32)), .val (.ref k2)]) rfl (pc' := 37) rfl ?_
  refine o_goto P (hb hby del_37) (by decide) (pc' := 9) (by decide) ?_
  refine o_iloadN P (hb hby del_9) rfl (pc' := 10) rfl ?_
  refine o_iloadN P (hb hby del_10) rfl (pc' := 11) rfl ?_
  refine o_icmp_ge P (hb hby del_11) (by decide) (pc' := 40) (by decide) (pcf := 14) rfl (fun _ => ?_) (fun q => absurd q (by decide))
  refine o_aconstNull P (hb hby del_40) (pc' := 41) rfl ?_
  exact o_retA P hret rfl rfl rfl (hb hby del_41) (by decide) (by decide) (by simp)
theorem ef_elR (x0 : Addr) (m : MethodId) : entryFrame m #[(.ref x0)] 5 = mkF m 0 #[.val (.ref x0), .unset, .unset, .unset, .unset] [] := by first | (simp [entryFrame, mkF, argsToLocals, o_catR, o_catN, o_catI, o_catJ, o_catD]; done) | rfl
set_option maxRecDepth 65536 in
set_option maxHeartbeats 40000000 in
theorem ct_findR (l : Launch) (Z : State) (a0 : Array Value) (hw : ∀ d ∈ tables_1, d.before a0 Z = true) (EL : List (String × Nat)) (n0 : Nat) (k0 k1 k2 : Addr) (va : Addr) (hva : Sta Z Z.heap "com/example/busca/busca/analysis/Analyzer" "$VALUES" "[Lcom/example/busca/busca/analysis/Analyzer;" (.ref va)) (Eva : Exa Z Z.heap va "[Lcom/example/busca/busca/analysis/Analyzer;") (Ava : OArr Z Z.heap va (.object "com/example/busca/busca/analysis/Analyzer") [.ref k0, .ref k1, .ref k2]) (u0 w0 : Addr) (hk0 : Sta Z Z.heap "com/example/busca/busca/analysis/Analyzer" "PLAIN" "Lcom/example/busca/busca/analysis/Analyzer;" (.ref k0)) (Fk0 : OObj Z Z.heap k0 "com/example/busca/busca/analysis/Analyzer" [("com/example/busca/busca/analysis/Analyzer", "analyzerName", "Ljava/lang/String;", (.ref u0))]) (Gu0 : OStr Z Z.heap u0 w0 (och [112, 108, 97, 105, 110])) (u1 w1 : Addr) (hk1 : Sta Z Z.heap "com/example/busca/busca/analysis/Analyzer" "PORTER" "Lcom/example/busca/busca/analysis/Analyzer;" (.ref k1)) (Fk1 : OObj Z Z.heap k1 "com/example/busca/busca/analysis/Analyzer" [("com/example/busca/busca/analysis/Analyzer", "analyzerName", "Ljava/lang/String;", (.ref u1))]) (Gu1 : OStr Z Z.heap u1 w1 (och [112, 111, 114, 116, 101, 114])) (u2 w2 : Addr) (hk2 : Sta Z Z.heap "com/example/busca/busca/analysis/Analyzer" "ENGLISH" "Lcom/example/busca/busca/analysis/Analyzer;" (.ref k2)) (Fk2 : OObj Z Z.heap k2 "com/example/busca/busca/analysis/Analyzer" [("com/example/busca/busca/analysis/Analyzer", "analyzerName", "Ljava/lang/String;", (.ref u2))]) (Gu2 : OStr Z Z.heap u2 w2 (och [101, 110, 103, 108, 105, 115, 104])) (cv : Int32) (hcs : Sta Z Z.heap "java/lang/String" "COMPACT_STRINGS" "Z" (.int cv)) (hcv : ¬ cv = 0) (st x : Addr) (us : List Int32) (h0 : Heap) (G : OStr Z h0 st x (och us)) :
    OCt l Z a0 EL n0 (⟨"com/example/busca/busca/analysis/Analyzer", "named", "(Ljava/lang/String;)Lcom/example/busca/busca/analysis/Analyzer;"⟩ : MethodName) prog_1_method_4_code 5 (some (.object "com/example/busca/busca/analysis/Analyzer")) ({ frames := 2, cells := 1, slots := 3, locals := 28 } : Room) [] #[(.ref st)] h0 [] (fun w vm h => w = some (if (some us) = some [112, 108, 97, 105, 110] then .ref k0 else if (some us) = some [112, 111, 114, 116, 101, 114] then .ref k1 else if (some us) = some [101, 110, 103, 108, 105, 115, 104] then .ref k2 else .null : Value) ∧ True) := by
  refine OCt.body (plainFor_of_name pn_E) (ef_elR st) ?_
  intro p e s m below meth c T hby hml hret hnm hsh P
  refine o_callS P (W := 0) (ow hw 79 rfl) (ow hw 80 rfl) (ow hw 77 rfl) (ow hw 81 rfl) (by decide) (ct_values l Z a0 hw EL n0 k0 k1 k2 va hva Eva Ava u0 w0 hk0 Fk0 Gu0 u1 w1 hk1 Fk1 Gu1 u2 w2 hk2 Fk2 Gu2 h0) o_sf0 (by rw [hml]; rfl) (by decide) (by decide) (argsL := []) (rest := []) (lenOf pd_10 rfl) rfl rfl (Nat.le_of_eq rfl) (hb hby del_0) (pc' := 3) rfl (by decide) (by decide) ?_
  clear P; intro T h1 v1 P K1 q1
  obtain ⟨b, rfl, A_b⟩ := q1
  replace G := G.keep K1 nin0 nin0
  clear K1
  show OG p e below m _ T 3 #[.val (.ref st), .unset, .unset, .unset, .unset] [(.ref b)]
  have hO := P.old
  have F_k0 := Fk0.ext hO.2
  have G_u0 : OStr Z h1 u0 w0 (och [112, 108, 97, 105, 110]) := ⟨Gu0.1.ext hO.2, Gu0.2.ext hO.2⟩
  have F_u0 := G_u0.1
  have F_k1 := Fk1.ext hO.2
  have G_u1 : OStr Z h1 u1 w1 (och [112, 111, 114, 116, 101, 114]) := ⟨Gu1.1.ext hO.2, Gu1.2.ext hO.2⟩
  have F_u1 := G_u1.1
  have F_k2 := Fk2.ext hO.2
  have G_u2 : OStr Z h1 u2 w2 (och [101, 110, 103, 108, 105, 115, 104]) := ⟨Gu2.1.ext hO.2, Gu2.2.ext hO.2⟩
  have F_u2 := G_u2.1
  refine o_astoreN P (hb hby del_3) rfl (L' := #[.val (.ref st), .val (.ref b), .unset, .unset, .unset]) rfl (pc' := 4) rfl ?_
  refine o_aloadN P (hb hby del_4) rfl rfl (pc' := 5) rfl ?_
  refine o_arrlen P A_b (hb hby del_5) (n := (3 : Int32)) rfl (pc' := 6) rfl ?_
  refine o_istoreN P (hb hby del_6) (L' := #[.val (.ref st), .val (.ref b), .val (.int (3 : Int32)), .unset, .unset]) rfl (pc' := 7) rfl ?_
  refine o_iconst P (0 : Int32) (hb hby del_7) rfl (pc' := 8) rfl ?_
  refine o_istoreN P (hb hby del_8) (L' := #[.val (.ref st), .val (.ref b), .val (.int (3 : Int32)), .val (.int (0 : Int32)), .unset]) rfl (pc' := 9) rfl ?_
  refine o_iloadN P (hb hby del_9) rfl (pc' := 10) rfl ?_
  refine o_iloadN P (hb hby del_10) rfl (pc' := 11) rfl ?_
  refine o_icmp_ge P (hb hby del_11) (by decide) (pc' := 40) (by decide) (pcf := 14) rfl (fun q => absurd (by decide) q) (fun _ => ?_)
  refine o_aloadN P (hb hby del_14) rfl rfl (pc' := 15) rfl ?_
  refine o_iloadN P (hb hby del_15) rfl (pc' := 16) rfl ?_
  refine o_aaload P (v := (.ref k0)) A_b rfl (by decide) rfl (hb hby del_16) (pc' := 17) rfl ?_
  refine o_astore P (hb hby del_17) rfl (L' := #[.val (.ref st), .val (.ref b), .val (.int (3 : Int32)), .val (.int (0 : Int32)), .val (.ref k0)]) rfl (pc' := 19) rfl ?_
  refine o_aload P (hb hby del_19) rfl rfl (pc' := 21) rfl ?_
  refine o_getF P (ow hw 97 rfl) Via.refl (F_k0.fld 0 rfl) (hb hby del_21) (pc' := 24) rfl ?_
  clear P; intro T P
  refine o_aloadN P (hb hby del_24) rfl rfl (pc' := 25) rfl ?_
  refine o_callV P (W := 0) (x := (⟨"java/lang/String", "equals", "(Ljava/lang/Object;)Z"⟩ : MethodName)) (y := (⟨"java/lang/String", "equals", "(Ljava/lang/Object;)Z"⟩ : MethodName)) (a := u0) (ow hw 99 rfl) (ow hw 65 rfl) (o_nfSel (y := (⟨"java/lang/String", "equals", "(Ljava/lang/Object;)Z"⟩ : MethodName)) rfl (ow hw 67 rfl)) (ow hw 67 rfl) (ow hw 66 rfl) (ow hw 1 rfl) (ow hw 68 rfl) (by decide) F_u0.exa (ct_eq l Z a0 hw EL n0 u0 st w0 x [112, 108, 97, 105, 110] us cv hcs hcv h1 G_u0 G) o_sf0 (by rw [hml]; rfl) (by decide) (by decide) (argsL := [(.ref st)]) (rest := []) (lenOf pd_11 rfl) rfl rfl (Nat.le_of_eq rfl) (hb hby del_25) (pc' := 28) rfl (by decide) (by decide) ?_
  clear P; intro T h2 v2 P K2 q2
  obtain ⟨rfl, rfl⟩ := q2; clear K2
  by_cases hu0 : us = [112, 108, 97, 105, 110]
  · rw [if_pos hu0.symm]
    show OG p e below m _ T 28 #[.val (.ref st), .val (.ref b), .val (.int (3 : Int32)), .val (.int (0 : Int32)), .val (.ref k0)] [(.int (1 : Int32))]
    refine o_if_eq P (hb hby del_28) (by decide) (pc' := 34) (by decide) (pcf := 31) rfl (fun q => absurd q (by decide)) (fun _ => ?_)
    refine o_aload P (hb hby del_31) rfl rfl (pc' := 33) rfl ?_
    exact o_retA P hret rfl rfl rfl (hb hby del_33) (by decide) (by decide) (by simp [hu0])
  · rw [if_neg (show ¬ [112, 108, 97, 105, 110] = us from fun q => hu0 q.symm)]
    show OG p e below m _ T 28 #[.val (.ref st), .val (.ref b), .val (.int (3 : Int32)), .val (.int (0 : Int32)), .val (.ref k0)] [(.int (0 : Int32))]
    refine o_if_eq P (hb hby del_28) (by decide) (pc' := 34) (by decide) (pcf := 31) rfl (fun _ => ?_) (fun q => absurd (by decide) q)
    refine o_iinc P (1 : Int32) (hb hby del_34) rfl rfl (L' := #[.val (.ref st), .val (.ref b), .val (.int (3 : Int32)), .val (.int (1 : Int32)), .val (.ref k0)]) rfl (pc' := 37) rfl ?_
    refine o_goto P (hb hby del_37) (by decide) (pc' := 9) (by decide) ?_
    refine o_iloadN P (hb hby del_9) rfl (pc' := 10) rfl ?_
    refine o_iloadN P (hb hby del_10) rfl (pc' := 11) rfl ?_
    refine o_icmp_ge P (hb hby del_11) (by decide) (pc' := 40) (by decide) (pcf := 14) rfl (fun q => absurd (by decide) q) (fun _ => ?_)
    refine o_aloadN P (hb hby del_14) rfl rfl (pc' := 15) rfl ?_
    refine o_iloadN P (hb hby del_15) rfl (pc' := 16) rfl ?_
    refine o_aaload P (v := (.ref k1)) A_b rfl (by decide) rfl (hb hby del_16) (pc' := 17) rfl ?_
    refine o_astore P (hb hby del_17) rfl (L' := #[.val (.ref st), .val (.ref b), .val (.int (3 : Int32)), .val (.int (1 : Int32)), .val (.ref k1)]) rfl (pc' := 19) rfl ?_
    refine o_aload P (hb hby del_19) rfl rfl (pc' := 21) rfl ?_
    refine o_getF P (ow hw 97 rfl) Via.refl (F_k1.fld 0 rfl) (hb hby del_21) (pc' := 24) rfl ?_
    clear P; intro T P
    refine o_aloadN P (hb hby del_24) rfl rfl (pc' := 25) rfl ?_
    refine o_callV P (W := 0) (x := (⟨"java/lang/String", "equals", "(Ljava/lang/Object;)Z"⟩ : MethodName)) (y := (⟨"java/lang/String", "equals", "(Ljava/lang/Object;)Z"⟩ : MethodName)) (a := u1) (ow hw 99 rfl) (ow hw 65 rfl) (o_nfSel (y := (⟨"java/lang/String", "equals", "(Ljava/lang/Object;)Z"⟩ : MethodName)) rfl (ow hw 67 rfl)) (ow hw 67 rfl) (ow hw 66 rfl) (ow hw 1 rfl) (ow hw 68 rfl) (by decide) F_u1.exa (ct_eq l Z a0 hw EL n0 u1 st w1 x [112, 111, 114, 116, 101, 114] us cv hcs hcv h2 G_u1 G) o_sf0 (by rw [hml]; rfl) (by decide) (by decide) (argsL := [(.ref st)]) (rest := []) (lenOf pd_11 rfl) rfl rfl (Nat.le_of_eq rfl) (hb hby del_25) (pc' := 28) rfl (by decide) (by decide) ?_
    clear P; intro T h3 v3 P K3 q3
    obtain ⟨rfl, rfl⟩ := q3; clear K3
    by_cases hu1 : us = [112, 111, 114, 116, 101, 114]
    · rw [if_pos hu1.symm]
      show OG p e below m _ T 28 #[.val (.ref st), .val (.ref b), .val (.int (3 : Int32)), .val (.int (1 : Int32)), .val (.ref k1)] [(.int (1 : Int32))]
      refine o_if_eq P (hb hby del_28) (by decide) (pc' := 34) (by decide) (pcf := 31) rfl (fun q => absurd q (by decide)) (fun _ => ?_)
      refine o_aload P (hb hby del_31) rfl rfl (pc' := 33) rfl ?_
      exact o_retA P hret rfl rfl rfl (hb hby del_33) (by decide) (by decide) (by simp [hu0, hu1])
    · rw [if_neg (show ¬ [112, 111, 114, 116, 101, 114] = us from fun q => hu1 q.symm)]
      show OG p e below m _ T 28 #[.val (.ref st), .val (.ref b), .val (.int (3 : Int32)), .val (.int (1 : Int32)), .val (.ref k1)] [(.int (0 : Int32))]
      refine o_if_eq P (hb hby del_28) (by decide) (pc' := 34) (by decide) (pcf := 31) rfl (fun _ => ?_) (fun q => absurd (by decide) q)
      refine o_iinc P (1 : Int32) (hb hby del_34) rfl rfl (L' := #[.val (.ref st), .val (.ref b), .val (.int (3 : Int32)), .val (.int (2 : Int32)), .val (.ref k1)]) rfl (pc' := 37) rfl ?_
      refine o_goto P (hb hby del_37) (by decide) (pc' := 9) (by decide) ?_
      refine o_iloadN P (hb hby del_9) rfl (pc' := 10) rfl ?_
      refine o_iloadN P (hb hby del_10) rfl (pc' := 11) rfl ?_
      refine o_icmp_ge P (hb hby del_11) (by decide) (pc' := 40) (by decide) (pcf := 14) rfl (fun q => absurd (by decide) q) (fun _ => ?_)
      refine o_aloadN P (hb hby del_14) rfl rfl (pc' := 15) rfl ?_
      refine o_iloadN P (hb hby del_15) rfl (pc' := 16) rfl ?_
      refine o_aaload P (v := (.ref k2)) A_b rfl (by decide) rfl (hb hby del_16) (pc' := 17) rfl ?_
      refine o_astore P (hb hby del_17) rfl (L' := #[.val (.ref st), .val (.ref b), .val (.int (3 : Int32)), .val (.int (2 : Int32)), .val (.ref k2)]) rfl (pc' := 19) rfl ?_
      refine o_aload P (hb hby del_19) rfl rfl (pc' := 21) rfl ?_
      refine o_getF P (ow hw 97 rfl) Via.refl (F_k2.fld 0 rfl) (hb hby del_21) (pc' := 24) rfl ?_
      clear P; intro T P
      refine o_aloadN P (hb hby del_24) rfl rfl (pc' := 25) rfl ?_
      refine o_callV P (W := 0) (x := (⟨"java/lang/String", "equals", "(Ljava/lang/Object;)Z"⟩ : MethodName)) (y := (⟨"java/lang/String", "equals", "(Ljava/lang/Object;)Z"⟩ : MethodName)) (a := u2) (ow hw 99 rfl) (ow hw 65 rfl) (o_nfSel (y := (⟨"java/lang/String", "equals", "(Ljava/lang/Object;)Z"⟩ : MethodName)) rfl (ow hw 67 rfl)) (ow hw 67 rfl) (ow hw 66 rfl) (ow hw 1 rfl) (ow hw 68 rfl) (by decide) F_u2.exa (ct_eq l Z a0 hw EL n0 u2 st w2 x [101, 110, 103, 108, 105, 115, 104] us cv hcs hcv h3 G_u2 G) o_sf0 (by rw [hml]; rfl) (by decide) (by decide) (argsL := [(.ref st)]) (rest := []) (lenOf pd_11 rfl) rfl rfl (Nat.le_of_eq rfl) (hb hby del_25) (pc' := 28) rfl (by decide) (by decide) ?_
      clear P; intro T h4 v4 P K4 q4
      obtain ⟨rfl, rfl⟩ := q4; clear K4
      by_cases hu2 : us = [101, 110, 103, 108, 105, 115, 104]
      · rw [if_pos hu2.symm]
        show OG p e below m _ T 28 #[.val (.ref st), .val (.ref b), .val (.int (3 : Int32)), .val (.int (2 : Int32)), .val (.ref k2)] [(.int (1 : Int32))]
        refine o_if_eq P (hb hby del_28) (by decide) (pc' := 34) (by decide) (pcf := 31) rfl (fun q => absurd q (by decide)) (fun _ => ?_)
        refine o_aload P (hb hby del_31) rfl rfl (pc' := 33) rfl ?_
        exact o_retA P hret rfl rfl rfl (hb hby del_33) (by decide) (by decide) (by simp [hu0, hu1, hu2])
      · rw [if_neg (show ¬ [101, 110, 103, 108, 105, 115, 104] = us from fun q => hu2 q.symm)]
        show OG p e below m _ T 28 #[.val (.ref st), .val (.ref b), .val (.int (3 : Int32)), .val (.int (2 : Int32)), .val (.ref k2)] [(.int (0 : Int32))]
        refine o_if_eq P (hb hby del_28) (by decide) (pc' := 34) (by decide) (pcf := 31) rfl (fun _ => ?_) (fun q => absurd (by decide) q)
        refine o_iinc P (1 : Int32) (hb hby del_34) rfl rfl (L' := #[.val (.ref st), .val (.ref b), .val (.int (3 : Int32)), .val (.int (3 : Int32)), .val (.ref k2)]) rfl (pc' := 37) rfl ?_
        refine o_goto P (hb hby del_37) (by decide) (pc' := 9) (by decide) ?_
        refine o_iloadN P (hb hby del_9) rfl (pc' := 10) rfl ?_
        refine o_iloadN P (hb hby del_10) rfl (pc' := 11) rfl ?_
        refine o_icmp_ge P (hb hby del_11) (by decide) (pc' := 40) (by decide) (pcf := 14) rfl (fun _ => ?_) (fun q => absurd q (by decide))
        refine o_aconstNull P (hb hby del_40) (pc' := 41) rfl ?_
        exact o_retA P hret rfl rfl rfl (hb hby del_41) (by decide) (by decide) (by simp [hu0, hu1, hu2])
theorem pn_L : plainName "com/example/busca/busca/analysis/AnalyzerNamedPinLaw" = true := by first | (simp [plainName, overriddenIn]; done) | decide +kernel
theorem o_mask8L (y : Int64) : ¬ (y &&& (255 : Int64)).toInt32.toUInt32.toUInt16.toUInt32.toInt32 < 0 ∧ ¬ (255 : Int32) < (y &&& (255 : Int64)).toInt32.toUInt32.toUInt16.toUInt32.toInt32 := by
  obtain ⟨q1, q2, q3⟩ := c_i2c (y &&& (255 : Int64)).toInt32
  have q4 := c_maskL y 255 8 (by decide) (by decide)
  have q5 := c_l2i (y &&& (255 : Int64))
  have q6 := rng32 (y &&& (255 : Int64)).toInt32
  have z0 : (0 : Int32).toInt = 0 := rfl
  have z1 : (255 : Int32).toInt = 255 := rfl
  have q7 : 0 ≤ (y &&& (255 : Int64)).toInt ∧ (y &&& (255 : Int64)).toInt < 256 := by rw [q4]; exact ⟨Int.emod_nonneg _ (by decide), Int.emod_lt_of_pos _ (by decide)⟩
  rw [Int32.lt_iff_toInt_lt, Int32.lt_iff_toInt_lt, z0, z1]
  omega
theorem own_l8 : ∀ {l : List Int32}, l.length = 8 → ∃ c0 c1 c2 c3 c4 c5 c6 c7, l = [c0, c1, c2, c3, c4, c5, c6, c7]
  | [c0, c1, c2, c3, c4, c5, c6, c7], _ => ⟨c0, c1, c2, c3, c4, c5, c6, c7, rfl⟩
theorem dpk_0 : decode method_3_code 0 = .ok (.iload_n 1, 1) := by decide +kernel
theorem dpk_1 : decode method_3_code 1 = .ok (.aload_n 0, 1) := by decide +kernel
theorem dpk_2 : decode method_3_code 2 = .ok (.invokevirtual 21, 3) := by decide +kernel
theorem dpk_5 : decode method_3_code 5 = .ok (.if_icmp .ge 9, 3) := by decide +kernel
theorem dpk_8 : decode method_3_code 8 = .ok (.aload_n 0, 1) := by decide +kernel
theorem dpk_9 : decode method_3_code 9 = .ok (.iload_n 1, 1) := by decide +kernel
theorem dpk_10 : decode method_3_code 10 = .ok (.invokevirtual 57, 3) := by decide +kernel
theorem dpk_13 : decode method_3_code 13 = .ok (.ireturn, 1) := by decide +kernel
theorem dpk_14 : decode method_3_code 14 = .ok (.lload_n 2, 1) := by decide +kernel
theorem dpk_15 : decode method_3_code 15 = .ok (.bipush 8, 2) := by decide +kernel
theorem dpk_17 : decode method_3_code 17 = .ok (.iload_n 1, 1) := by decide +kernel
theorem dpk_18 : decode method_3_code 18 = .ok (.imul, 1) := by decide +kernel
theorem dpk_19 : decode method_3_code 19 = .ok (.lushr, 1) := by decide +kernel
theorem dpk_20 : decode method_3_code 20 = .ok (.ldc2_w 61, 3) := by decide +kernel
theorem dpk_23 : decode method_3_code 23 = .ok (.land, 1) := by decide +kernel
theorem dpk_24 : decode method_3_code 24 = .ok (.l2i, 1) := by decide +kernel
theorem dpk_25 : decode method_3_code 25 = .ok (.i2c, 1) := by decide +kernel
theorem dpk_26 : decode method_3_code 26 = .ok (.ireturn, 1) := by decide +kernel
theorem ef_pk (x0 : Addr) (x1 : Int32) (x2 : Int64) (m : MethodId) : entryFrame m #[(.ref x0), (.int x1), (.long x2)] 4 = mkF m 0 #[.val (.ref x0), .val (.int x1), .val (.long x2), .second] [] := by first | (simp [entryFrame, mkF, argsToLocals, o_catR, o_catN, o_catI, o_catJ, o_catD]; done) | rfl
set_option maxRecDepth 65536 in
set_option maxHeartbeats 40000000 in
theorem ct_pick (l : Launch) (Z : State) (a0 : Array Value) (hw : ∀ d ∈ tables_1, d.before a0 Z = true) (EL : List (String × Nat)) (n0 : Nat) (t tx : Addr) (i : Int32) (y : Int64) (us : List Int32) (cv : Int32) (hcs : Sta Z Z.heap "java/lang/String" "COMPACT_STRINGS" "Z" (.int cv)) (hcv : ¬ cv = 0) (fv : Value) (hfv : Sta Z Z.heap "jdk/internal/util/Preconditions" "SIOOBE_FORMATTER" "Ljava/util/function/BiFunction;" fv) (hfr : fv.isRef = true) (hi0 : ¬ i < 0) (h0 : Heap) (G : OStr Z h0 t tx (och us)) :
    OCt l Z a0 EL n0 (⟨"com/example/busca/busca/analysis/AnalyzerNamedPinLaw", "pick", "(Ljava/lang/String;IJ)C"⟩ : MethodName) method_3_code 4 (some .char) ({ frames := 4, cells := 0, slots := 0, locals := 53 } : Room) [] #[(.ref t), (.int i), (.long y)] h0 [] (fun w vm h => ∃ y : Int32, w = some (.int y) ∧ (¬ y < 0 ∧ ¬ (255 : Int32) < y) ∧ h = h0) := by
  refine OCt.body (plainFor_of_name pn_L) (ef_pk t i y) ?_
  intro p e s m below meth c T hby hml hret hnm hsh P
  have F_t := G.1
  refine o_iloadN P (hb hby dpk_0) rfl (pc' := 1) rfl ?_
  refine o_aloadN P (hb hby dpk_1) rfl rfl (pc' := 2) rfl ?_
  refine o_callV P (W := 1) (x := (⟨"java/lang/String", "length", "()I"⟩ : MethodName)) (y := (⟨"java/lang/String", "length", "()I"⟩ : MethodName)) (a := t) (ow hw 13 rfl) (ow hw 14 rfl) (o_nfSel (y := (⟨"java/lang/String", "length", "()I"⟩ : MethodName)) rfl (ow hw 16 rfl)) (ow hw 16 rfl) (ow hw 15 rfl) (ow hw 1 rfl) (ow hw 17 rfl) (by decide) F_t.exa (ct_len l Z a0 hw EL n0 t tx us cv hcs hcv h0 G) o_sf0 (by rw [hml]; rfl) (by decide) (by decide) (argsL := []) (rest := [(.int i)]) (lenOf pd_12 rfl) rfl rfl (Nat.le_of_eq rfl) (hb hby dpk_2) (pc' := 5) rfl (by decide) (by decide) ?_
  clear P; intro T h1 v1 P K1 q1
  obtain ⟨rfl, rfl⟩ := q1; clear K1
  show OG p e below m _ T 5 #[.val (.ref t), .val (.int i), .val (.long y), .second] [(.int us.length.toInt32), (.int i)]
  refine o_icmp_ge P (hb hby dpk_5) (by decide) (pc' := 14) (by decide) (pcf := 8) rfl (fun hq => ?_) (fun hq => ?_)
  · refine o_lloadN P (hb hby dpk_14) rfl (pc' := 15) rfl ?_
    refine o_bipush P (8 : Int32) (hb hby dpk_15) rfl (pc' := 17) rfl ?_
    refine o_iloadN P (hb hby dpk_17) rfl (pc' := 18) rfl ?_
    refine o_imul P (hb hby dpk_18) (pc' := 19) rfl ?_
    refine o_lushr P (hb hby dpk_19) (pc' := 20) rfl ?_
    refine o_ldc2L P (ow hw 48 rfl) (hb hby dpk_20) (pc' := 23) rfl ?_
    refine o_land P (hb hby dpk_23) (pc' := 24) rfl ?_
    refine o_l2i P (hb hby dpk_24) (pc' := 25) rfl ?_
    refine o_i2c P (hb hby dpk_25) (pc' := 26) rfl ?_
    exact o_retI P hret (by simp) (Jvm.Free.XT.narrow_c _) (hb hby dpk_26) (by decide) (by decide) ⟨_, rfl, o_mask8L _, rfl⟩
  · have hbig : us.length < 2147483648 := by simpa using G.2.len
    have hlt : i.toNatClampNeg < us.length := by have hi' := hi0; have z0 : (0 : Int32).toInt = 0 := rfl; rw [Int32.lt_iff_toInt_lt] at hi'; rw [Int32.lt_iff_toInt_lt, oi_int hbig] at hq; simp only [Int32.toNatClampNeg]; omega
    obtain ⟨u, hu⟩ : ∃ u, us[i.toNatClampNeg]? = some u := ⟨_, List.getElem?_eq_getElem hlt⟩
    refine o_aloadN P (hb hby dpk_8) rfl rfl (pc' := 9) rfl ?_
    refine o_iloadN P (hb hby dpk_9) rfl (pc' := 10) rfl ?_
    refine o_callV P (W := 0) (x := (⟨"java/lang/String", "charAt", "(I)C"⟩ : MethodName)) (y := (⟨"java/lang/String", "charAt", "(I)C"⟩ : MethodName)) (a := t) (ow hw 26 rfl) (ow hw 27 rfl) (o_nfSel (y := (⟨"java/lang/String", "charAt", "(I)C"⟩ : MethodName)) rfl (ow hw 29 rfl)) (ow hw 29 rfl) (ow hw 28 rfl) (ow hw 1 rfl) (ow hw 30 rfl) (by decide) F_t.exa (ct_charAt l Z a0 hw EL n0 t tx i u us fv hfv hfr hi0 hu cv hcs hcv h1 G) o_sf0 (by rw [hml]; rfl) (by decide) (by decide) (argsL := [(.int i)]) (rest := []) (lenOf pd_13 rfl) rfl rfl (Nat.le_of_eq rfl) (hb hby dpk_10) (pc' := 13) rfl (by decide) (by decide) ?_
    clear P; intro T h2 v2 P K2 q2
    obtain ⟨rfl, rfl⟩ := q2; clear K2
    show OG p e below m _ T 13 #[.val (.ref t), .val (.int i), .val (.long y), .second] [(.int ((u &&& (255 : Int32)).toUInt32.toUInt16.toUInt32.toInt32))]
    exact o_retI P hret (by simp) (Jvm.Free.XT.narrow_c _) (hb hby dpk_13) (by decide) (by decide) ⟨_, rfl, o_mask8 _, rfl⟩
theorem dmx_0 : decode jdk_29_method_65_code 0 = .ok (.iload_n 0, 1) := by decide +kernel
theorem dmx_1 : decode jdk_29_method_65_code 1 = .ok (.iload_n 1, 1) := by decide +kernel
theorem dmx_2 : decode jdk_29_method_65_code 2 = .ok (.if_icmp .lt 7, 3) := by decide +kernel
theorem dmx_5 : decode jdk_29_method_65_code 5 = .ok (.iload_n 0, 1) := by decide +kernel
theorem dmx_6 : decode jdk_29_method_65_code 6 = .ok (.goto 4, 3) := by decide +kernel
theorem dmx_9 : decode jdk_29_method_65_code 9 = .ok (.iload_n 1, 1) := by decide +kernel
theorem dmx_10 : decode jdk_29_method_65_code 10 = .ok (.ireturn, 1) := by decide +kernel
theorem ef_mx (x0 : Int32) (x1 : Int32) (m : MethodId) : entryFrame m #[(.int x0), (.int x1)] 2 = mkF m 0 #[.val (.int x0), .val (.int x1)] [] := by first | (simp [entryFrame, mkF, argsToLocals, o_catR, o_catN, o_catI, o_catJ, o_catD]; done) | rfl
set_option maxRecDepth 65536 in
set_option maxHeartbeats 40000000 in
theorem ct_max (l : Launch) (Z : State) (a0 : Array Value) (hw : ∀ d ∈ tables_1, d.before a0 Z = true) (EL : List (String × Nat)) (n0 : Nat) (a b : Int32) (h0 : Heap) :
    OCt l Z a0 EL n0 (⟨"java/lang/Math", "max", "(II)I"⟩ : MethodName) jdk_29_method_65_code 2 (some .int) ({ frames := 0, cells := 0, slots := 0, locals := 0 } : Room) [] #[(.int a), (.int b)] h0 [] (fun w vm h => ∃ y : Int32, w = some (.int y) ∧ h = h0) := by
  refine OCt.body (Jvm.Free.JP.mathPlain rfl (by decide +kernel)) (ef_mx a b) ?_
  intro p e s m below meth c T hby hml hret hnm hsh P
  refine o_iloadN P (hb hby dmx_0) rfl (pc' := 1) rfl ?_
  refine o_iloadN P (hb hby dmx_1) rfl (pc' := 2) rfl ?_
  refine o_icmp_lt P (hb hby dmx_2) (by decide) (pc' := 9) (by decide) (pcf := 5) rfl (fun hq => ?_) (fun hq => ?_)
  · refine o_iloadN P (hb hby dmx_9) rfl (pc' := 10) rfl ?_
    exact o_retI P hret (by simp) rfl (hb hby dmx_10) (by decide) (by decide) ⟨_, rfl, rfl⟩
  · refine o_iloadN P (hb hby dmx_5) rfl (pc' := 6) rfl ?_
    refine o_goto P (hb hby dmx_6) (by decide) (pc' := 10) (by decide) ?_
    exact o_retI P hret (by simp) rfl (hb hby dmx_10) (by decide) (by decide) ⟨_, rfl, rfl⟩
theorem dst_0 : decode method_4_code 0 = .ok (.iload_n 1, 1) := by decide +kernel
theorem dst_1 : decode method_4_code 1 = .ok (.ifCond .gt 14, 3) := by decide +kernel
theorem dst_4 : decode method_4_code 4 = .ok (.new 22, 3) := by decide +kernel
theorem dst_7 : decode method_4_code 7 = .ok (.dup, 1) := by decide +kernel
theorem dst_8 : decode method_4_code 8 = .ok (.iconst 0, 1) := by decide +kernel
theorem dst_9 : decode method_4_code 9 = .ok (.newarray .char, 2) := by decide +kernel
theorem dst_11 : decode method_4_code 11 = .ok (.invokespecial 63, 3) := by decide +kernel
theorem dst_14 : decode method_4_code 14 = .ok (.areturn, 1) := by decide +kernel
theorem dst_15 : decode method_4_code 15 = .ok (.iload_n 1, 1) := by decide +kernel
theorem dst_16 : decode method_4_code 16 = .ok (.iconst 1, 1) := by decide +kernel
theorem dst_17 : decode method_4_code 17 = .ok (.if_icmp .ne 20, 3) := by decide +kernel
theorem dst_20 : decode method_4_code 20 = .ok (.new 22, 3) := by decide +kernel
theorem dst_23 : decode method_4_code 23 = .ok (.dup, 1) := by decide +kernel
theorem dst_24 : decode method_4_code 24 = .ok (.iconst 1, 1) := by decide +kernel
theorem dst_25 : decode method_4_code 25 = .ok (.newarray .char, 2) := by decide +kernel
theorem dst_27 : decode method_4_code 27 = .ok (.dup, 1) := by decide +kernel
theorem dst_28 : decode method_4_code 28 = .ok (.iconst 0, 1) := by decide +kernel
theorem dst_29 : decode method_4_code 29 = .ok (.aload_n 0, 1) := by decide +kernel
theorem dst_30 : decode method_4_code 30 = .ok (.iconst 0, 1) := by decide +kernel
theorem dst_31 : decode method_4_code 31 = .ok (.caload, 1) := by decide +kernel
theorem dst_32 : decode method_4_code 32 = .ok (.castore, 1) := by decide +kernel
theorem dst_33 : decode method_4_code 33 = .ok (.invokespecial 63, 3) := by decide +kernel
theorem dst_36 : decode method_4_code 36 = .ok (.areturn, 1) := by decide +kernel
theorem dst_37 : decode method_4_code 37 = .ok (.iload_n 1, 1) := by decide +kernel
theorem dst_38 : decode method_4_code 38 = .ok (.iconst 2, 1) := by decide +kernel
theorem dst_39 : decode method_4_code 39 = .ok (.if_icmp .ne 26, 3) := by decide +kernel
theorem dst_42 : decode method_4_code 42 = .ok (.new 22, 3) := by decide +kernel
theorem dst_45 : decode method_4_code 45 = .ok (.dup, 1) := by decide +kernel
theorem dst_46 : decode method_4_code 46 = .ok (.iconst 2, 1) := by decide +kernel
theorem dst_47 : decode method_4_code 47 = .ok (.newarray .char, 2) := by decide +kernel
theorem dst_49 : decode method_4_code 49 = .ok (.dup, 1) := by decide +kernel
theorem dst_50 : decode method_4_code 50 = .ok (.iconst 0, 1) := by decide +kernel
theorem dst_51 : decode method_4_code 51 = .ok (.aload_n 0, 1) := by decide +kernel
theorem dst_52 : decode method_4_code 52 = .ok (.iconst 0, 1) := by decide +kernel
theorem dst_53 : decode method_4_code 53 = .ok (.caload, 1) := by decide +kernel
theorem dst_54 : decode method_4_code 54 = .ok (.castore, 1) := by decide +kernel
theorem dst_55 : decode method_4_code 55 = .ok (.dup, 1) := by decide +kernel
theorem dst_56 : decode method_4_code 56 = .ok (.iconst 1, 1) := by decide +kernel
theorem dst_57 : decode method_4_code 57 = .ok (.aload_n 0, 1) := by decide +kernel
theorem dst_58 : decode method_4_code 58 = .ok (.iconst 1, 1) := by decide +kernel
theorem dst_59 : decode method_4_code 59 = .ok (.caload, 1) := by decide +kernel
theorem dst_60 : decode method_4_code 60 = .ok (.castore, 1) := by decide +kernel
theorem dst_61 : decode method_4_code 61 = .ok (.invokespecial 63, 3) := by decide +kernel
theorem dst_64 : decode method_4_code 64 = .ok (.areturn, 1) := by decide +kernel
theorem dst_65 : decode method_4_code 65 = .ok (.iload_n 1, 1) := by decide +kernel
theorem dst_66 : decode method_4_code 66 = .ok (.iconst 3, 1) := by decide +kernel
theorem dst_67 : decode method_4_code 67 = .ok (.if_icmp .ne 32, 3) := by decide +kernel
theorem dst_70 : decode method_4_code 70 = .ok (.new 22, 3) := by decide +kernel
theorem dst_73 : decode method_4_code 73 = .ok (.dup, 1) := by decide +kernel
theorem dst_74 : decode method_4_code 74 = .ok (.iconst 3, 1) := by decide +kernel
theorem dst_75 : decode method_4_code 75 = .ok (.newarray .char, 2) := by decide +kernel
theorem dst_77 : decode method_4_code 77 = .ok (.dup, 1) := by decide +kernel
theorem dst_78 : decode method_4_code 78 = .ok (.iconst 0, 1) := by decide +kernel
theorem dst_79 : decode method_4_code 79 = .ok (.aload_n 0, 1) := by decide +kernel
theorem dst_80 : decode method_4_code 80 = .ok (.iconst 0, 1) := by decide +kernel
theorem dst_81 : decode method_4_code 81 = .ok (.caload, 1) := by decide +kernel
theorem dst_82 : decode method_4_code 82 = .ok (.castore, 1) := by decide +kernel
theorem dst_83 : decode method_4_code 83 = .ok (.dup, 1) := by decide +kernel
theorem dst_84 : decode method_4_code 84 = .ok (.iconst 1, 1) := by decide +kernel
theorem dst_85 : decode method_4_code 85 = .ok (.aload_n 0, 1) := by decide +kernel
theorem dst_86 : decode method_4_code 86 = .ok (.iconst 1, 1) := by decide +kernel
theorem dst_87 : decode method_4_code 87 = .ok (.caload, 1) := by decide +kernel
theorem dst_88 : decode method_4_code 88 = .ok (.castore, 1) := by decide +kernel
theorem dst_89 : decode method_4_code 89 = .ok (.dup, 1) := by decide +kernel
theorem dst_90 : decode method_4_code 90 = .ok (.iconst 2, 1) := by decide +kernel
theorem dst_91 : decode method_4_code 91 = .ok (.aload_n 0, 1) := by decide +kernel
theorem dst_92 : decode method_4_code 92 = .ok (.iconst 2, 1) := by decide +kernel
theorem dst_93 : decode method_4_code 93 = .ok (.caload, 1) := by decide +kernel
theorem dst_94 : decode method_4_code 94 = .ok (.castore, 1) := by decide +kernel
theorem dst_95 : decode method_4_code 95 = .ok (.invokespecial 63, 3) := by decide +kernel
theorem dst_98 : decode method_4_code 98 = .ok (.areturn, 1) := by decide +kernel
theorem dst_99 : decode method_4_code 99 = .ok (.iload_n 1, 1) := by decide +kernel
theorem dst_100 : decode method_4_code 100 = .ok (.iconst 4, 1) := by decide +kernel
theorem dst_101 : decode method_4_code 101 = .ok (.if_icmp .ne 38, 3) := by decide +kernel
theorem dst_104 : decode method_4_code 104 = .ok (.new 22, 3) := by decide +kernel
theorem dst_107 : decode method_4_code 107 = .ok (.dup, 1) := by decide +kernel
theorem dst_108 : decode method_4_code 108 = .ok (.iconst 4, 1) := by decide +kernel
theorem dst_109 : decode method_4_code 109 = .ok (.newarray .char, 2) := by decide +kernel
theorem dst_111 : decode method_4_code 111 = .ok (.dup, 1) := by decide +kernel
theorem dst_112 : decode method_4_code 112 = .ok (.iconst 0, 1) := by decide +kernel
theorem dst_113 : decode method_4_code 113 = .ok (.aload_n 0, 1) := by decide +kernel
theorem dst_114 : decode method_4_code 114 = .ok (.iconst 0, 1) := by decide +kernel
theorem dst_115 : decode method_4_code 115 = .ok (.caload, 1) := by decide +kernel
theorem dst_116 : decode method_4_code 116 = .ok (.castore, 1) := by decide +kernel
theorem dst_117 : decode method_4_code 117 = .ok (.dup, 1) := by decide +kernel
theorem dst_118 : decode method_4_code 118 = .ok (.iconst 1, 1) := by decide +kernel
theorem dst_119 : decode method_4_code 119 = .ok (.aload_n 0, 1) := by decide +kernel
theorem dst_120 : decode method_4_code 120 = .ok (.iconst 1, 1) := by decide +kernel
theorem dst_121 : decode method_4_code 121 = .ok (.caload, 1) := by decide +kernel
theorem dst_122 : decode method_4_code 122 = .ok (.castore, 1) := by decide +kernel
theorem dst_123 : decode method_4_code 123 = .ok (.dup, 1) := by decide +kernel
theorem dst_124 : decode method_4_code 124 = .ok (.iconst 2, 1) := by decide +kernel
theorem dst_125 : decode method_4_code 125 = .ok (.aload_n 0, 1) := by decide +kernel
theorem dst_126 : decode method_4_code 126 = .ok (.iconst 2, 1) := by decide +kernel
theorem dst_127 : decode method_4_code 127 = .ok (.caload, 1) := by decide +kernel
theorem dst_128 : decode method_4_code 128 = .ok (.castore, 1) := by decide +kernel
theorem dst_129 : decode method_4_code 129 = .ok (.dup, 1) := by decide +kernel
theorem dst_130 : decode method_4_code 130 = .ok (.iconst 3, 1) := by decide +kernel
theorem dst_131 : decode method_4_code 131 = .ok (.aload_n 0, 1) := by decide +kernel
theorem dst_132 : decode method_4_code 132 = .ok (.iconst 3, 1) := by decide +kernel
theorem dst_133 : decode method_4_code 133 = .ok (.caload, 1) := by decide +kernel
theorem dst_134 : decode method_4_code 134 = .ok (.castore, 1) := by decide +kernel
theorem dst_135 : decode method_4_code 135 = .ok (.invokespecial 63, 3) := by decide +kernel
theorem dst_138 : decode method_4_code 138 = .ok (.areturn, 1) := by decide +kernel
theorem dst_139 : decode method_4_code 139 = .ok (.iload_n 1, 1) := by decide +kernel
theorem dst_140 : decode method_4_code 140 = .ok (.iconst 5, 1) := by decide +kernel
theorem dst_141 : decode method_4_code 141 = .ok (.if_icmp .ne 44, 3) := by decide +kernel
theorem dst_144 : decode method_4_code 144 = .ok (.new 22, 3) := by decide +kernel
theorem dst_147 : decode method_4_code 147 = .ok (.dup, 1) := by decide +kernel
theorem dst_148 : decode method_4_code 148 = .ok (.iconst 5, 1) := by decide +kernel
theorem dst_149 : decode method_4_code 149 = .ok (.newarray .char, 2) := by decide +kernel
theorem dst_151 : decode method_4_code 151 = .ok (.dup, 1) := by decide +kernel
theorem dst_152 : decode method_4_code 152 = .ok (.iconst 0, 1) := by decide +kernel
theorem dst_153 : decode method_4_code 153 = .ok (.aload_n 0, 1) := by decide +kernel
theorem dst_154 : decode method_4_code 154 = .ok (.iconst 0, 1) := by decide +kernel
theorem dst_155 : decode method_4_code 155 = .ok (.caload, 1) := by decide +kernel
theorem dst_156 : decode method_4_code 156 = .ok (.castore, 1) := by decide +kernel
theorem dst_157 : decode method_4_code 157 = .ok (.dup, 1) := by decide +kernel
theorem dst_158 : decode method_4_code 158 = .ok (.iconst 1, 1) := by decide +kernel
theorem dst_159 : decode method_4_code 159 = .ok (.aload_n 0, 1) := by decide +kernel
theorem dst_160 : decode method_4_code 160 = .ok (.iconst 1, 1) := by decide +kernel
theorem dst_161 : decode method_4_code 161 = .ok (.caload, 1) := by decide +kernel
theorem dst_162 : decode method_4_code 162 = .ok (.castore, 1) := by decide +kernel
theorem dst_163 : decode method_4_code 163 = .ok (.dup, 1) := by decide +kernel
theorem dst_164 : decode method_4_code 164 = .ok (.iconst 2, 1) := by decide +kernel
theorem dst_165 : decode method_4_code 165 = .ok (.aload_n 0, 1) := by decide +kernel
theorem dst_166 : decode method_4_code 166 = .ok (.iconst 2, 1) := by decide +kernel
theorem dst_167 : decode method_4_code 167 = .ok (.caload, 1) := by decide +kernel
theorem dst_168 : decode method_4_code 168 = .ok (.castore, 1) := by decide +kernel
theorem dst_169 : decode method_4_code 169 = .ok (.dup, 1) := by decide +kernel
theorem dst_170 : decode method_4_code 170 = .ok (.iconst 3, 1) := by decide +kernel
theorem dst_171 : decode method_4_code 171 = .ok (.aload_n 0, 1) := by decide +kernel
theorem dst_172 : decode method_4_code 172 = .ok (.iconst 3, 1) := by decide +kernel
theorem dst_173 : decode method_4_code 173 = .ok (.caload, 1) := by decide +kernel
theorem dst_174 : decode method_4_code 174 = .ok (.castore, 1) := by decide +kernel
theorem dst_175 : decode method_4_code 175 = .ok (.dup, 1) := by decide +kernel
theorem dst_176 : decode method_4_code 176 = .ok (.iconst 4, 1) := by decide +kernel
theorem dst_177 : decode method_4_code 177 = .ok (.aload_n 0, 1) := by decide +kernel
theorem dst_178 : decode method_4_code 178 = .ok (.iconst 4, 1) := by decide +kernel
theorem dst_179 : decode method_4_code 179 = .ok (.caload, 1) := by decide +kernel
theorem dst_180 : decode method_4_code 180 = .ok (.castore, 1) := by decide +kernel
theorem dst_181 : decode method_4_code 181 = .ok (.invokespecial 63, 3) := by decide +kernel
theorem dst_184 : decode method_4_code 184 = .ok (.areturn, 1) := by decide +kernel
theorem dst_185 : decode method_4_code 185 = .ok (.iload_n 1, 1) := by decide +kernel
theorem dst_186 : decode method_4_code 186 = .ok (.bipush 6, 2) := by decide +kernel
theorem dst_188 : decode method_4_code 188 = .ok (.if_icmp .ne 51, 3) := by decide +kernel
theorem dst_191 : decode method_4_code 191 = .ok (.new 22, 3) := by decide +kernel
theorem dst_194 : decode method_4_code 194 = .ok (.dup, 1) := by decide +kernel
theorem dst_195 : decode method_4_code 195 = .ok (.bipush 6, 2) := by decide +kernel
theorem dst_197 : decode method_4_code 197 = .ok (.newarray .char, 2) := by decide +kernel
theorem dst_199 : decode method_4_code 199 = .ok (.dup, 1) := by decide +kernel
theorem dst_200 : decode method_4_code 200 = .ok (.iconst 0, 1) := by decide +kernel
theorem dst_201 : decode method_4_code 201 = .ok (.aload_n 0, 1) := by decide +kernel
theorem dst_202 : decode method_4_code 202 = .ok (.iconst 0, 1) := by decide +kernel
theorem dst_203 : decode method_4_code 203 = .ok (.caload, 1) := by decide +kernel
theorem dst_204 : decode method_4_code 204 = .ok (.castore, 1) := by decide +kernel
theorem dst_205 : decode method_4_code 205 = .ok (.dup, 1) := by decide +kernel
theorem dst_206 : decode method_4_code 206 = .ok (.iconst 1, 1) := by decide +kernel
theorem dst_207 : decode method_4_code 207 = .ok (.aload_n 0, 1) := by decide +kernel
theorem dst_208 : decode method_4_code 208 = .ok (.iconst 1, 1) := by decide +kernel
theorem dst_209 : decode method_4_code 209 = .ok (.caload, 1) := by decide +kernel
theorem dst_210 : decode method_4_code 210 = .ok (.castore, 1) := by decide +kernel
theorem dst_211 : decode method_4_code 211 = .ok (.dup, 1) := by decide +kernel
theorem dst_212 : decode method_4_code 212 = .ok (.iconst 2, 1) := by decide +kernel
theorem dst_213 : decode method_4_code 213 = .ok (.aload_n 0, 1) := by decide +kernel
theorem dst_214 : decode method_4_code 214 = .ok (.iconst 2, 1) := by decide +kernel
theorem dst_215 : decode method_4_code 215 = .ok (.caload, 1) := by decide +kernel
theorem dst_216 : decode method_4_code 216 = .ok (.castore, 1) := by decide +kernel
theorem dst_217 : decode method_4_code 217 = .ok (.dup, 1) := by decide +kernel
theorem dst_218 : decode method_4_code 218 = .ok (.iconst 3, 1) := by decide +kernel
theorem dst_219 : decode method_4_code 219 = .ok (.aload_n 0, 1) := by decide +kernel
theorem dst_220 : decode method_4_code 220 = .ok (.iconst 3, 1) := by decide +kernel
theorem dst_221 : decode method_4_code 221 = .ok (.caload, 1) := by decide +kernel
theorem dst_222 : decode method_4_code 222 = .ok (.castore, 1) := by decide +kernel
theorem dst_223 : decode method_4_code 223 = .ok (.dup, 1) := by decide +kernel
theorem dst_224 : decode method_4_code 224 = .ok (.iconst 4, 1) := by decide +kernel
theorem dst_225 : decode method_4_code 225 = .ok (.aload_n 0, 1) := by decide +kernel
theorem dst_226 : decode method_4_code 226 = .ok (.iconst 4, 1) := by decide +kernel
theorem dst_227 : decode method_4_code 227 = .ok (.caload, 1) := by decide +kernel
theorem dst_228 : decode method_4_code 228 = .ok (.castore, 1) := by decide +kernel
theorem dst_229 : decode method_4_code 229 = .ok (.dup, 1) := by decide +kernel
theorem dst_230 : decode method_4_code 230 = .ok (.iconst 5, 1) := by decide +kernel
theorem dst_231 : decode method_4_code 231 = .ok (.aload_n 0, 1) := by decide +kernel
theorem dst_232 : decode method_4_code 232 = .ok (.iconst 5, 1) := by decide +kernel
theorem dst_233 : decode method_4_code 233 = .ok (.caload, 1) := by decide +kernel
theorem dst_234 : decode method_4_code 234 = .ok (.castore, 1) := by decide +kernel
theorem dst_235 : decode method_4_code 235 = .ok (.invokespecial 63, 3) := by decide +kernel
theorem dst_238 : decode method_4_code 238 = .ok (.areturn, 1) := by decide +kernel
theorem dst_239 : decode method_4_code 239 = .ok (.iload_n 1, 1) := by decide +kernel
theorem dst_240 : decode method_4_code 240 = .ok (.bipush 7, 2) := by decide +kernel
theorem dst_242 : decode method_4_code 242 = .ok (.if_icmp .ne 59, 3) := by decide +kernel
theorem dst_245 : decode method_4_code 245 = .ok (.new 22, 3) := by decide +kernel
theorem dst_248 : decode method_4_code 248 = .ok (.dup, 1) := by decide +kernel
theorem dst_249 : decode method_4_code 249 = .ok (.bipush 7, 2) := by decide +kernel
theorem dst_251 : decode method_4_code 251 = .ok (.newarray .char, 2) := by decide +kernel
theorem dst_253 : decode method_4_code 253 = .ok (.dup, 1) := by decide +kernel
theorem dst_254 : decode method_4_code 254 = .ok (.iconst 0, 1) := by decide +kernel
theorem dst_255 : decode method_4_code 255 = .ok (.aload_n 0, 1) := by decide +kernel
theorem dst_256 : decode method_4_code 256 = .ok (.iconst 0, 1) := by decide +kernel
theorem dst_257 : decode method_4_code 257 = .ok (.caload, 1) := by decide +kernel
theorem dst_258 : decode method_4_code 258 = .ok (.castore, 1) := by decide +kernel
theorem dst_259 : decode method_4_code 259 = .ok (.dup, 1) := by decide +kernel
theorem dst_260 : decode method_4_code 260 = .ok (.iconst 1, 1) := by decide +kernel
theorem dst_261 : decode method_4_code 261 = .ok (.aload_n 0, 1) := by decide +kernel
theorem dst_262 : decode method_4_code 262 = .ok (.iconst 1, 1) := by decide +kernel
theorem dst_263 : decode method_4_code 263 = .ok (.caload, 1) := by decide +kernel
theorem dst_264 : decode method_4_code 264 = .ok (.castore, 1) := by decide +kernel
theorem dst_265 : decode method_4_code 265 = .ok (.dup, 1) := by decide +kernel
theorem dst_266 : decode method_4_code 266 = .ok (.iconst 2, 1) := by decide +kernel
theorem dst_267 : decode method_4_code 267 = .ok (.aload_n 0, 1) := by decide +kernel
theorem dst_268 : decode method_4_code 268 = .ok (.iconst 2, 1) := by decide +kernel
theorem dst_269 : decode method_4_code 269 = .ok (.caload, 1) := by decide +kernel
theorem dst_270 : decode method_4_code 270 = .ok (.castore, 1) := by decide +kernel
theorem dst_271 : decode method_4_code 271 = .ok (.dup, 1) := by decide +kernel
theorem dst_272 : decode method_4_code 272 = .ok (.iconst 3, 1) := by decide +kernel
theorem dst_273 : decode method_4_code 273 = .ok (.aload_n 0, 1) := by decide +kernel
theorem dst_274 : decode method_4_code 274 = .ok (.iconst 3, 1) := by decide +kernel
theorem dst_275 : decode method_4_code 275 = .ok (.caload, 1) := by decide +kernel
theorem dst_276 : decode method_4_code 276 = .ok (.castore, 1) := by decide +kernel
theorem dst_277 : decode method_4_code 277 = .ok (.dup, 1) := by decide +kernel
theorem dst_278 : decode method_4_code 278 = .ok (.iconst 4, 1) := by decide +kernel
theorem dst_279 : decode method_4_code 279 = .ok (.aload_n 0, 1) := by decide +kernel
theorem dst_280 : decode method_4_code 280 = .ok (.iconst 4, 1) := by decide +kernel
theorem dst_281 : decode method_4_code 281 = .ok (.caload, 1) := by decide +kernel
theorem dst_282 : decode method_4_code 282 = .ok (.castore, 1) := by decide +kernel
theorem dst_283 : decode method_4_code 283 = .ok (.dup, 1) := by decide +kernel
theorem dst_284 : decode method_4_code 284 = .ok (.iconst 5, 1) := by decide +kernel
theorem dst_285 : decode method_4_code 285 = .ok (.aload_n 0, 1) := by decide +kernel
theorem dst_286 : decode method_4_code 286 = .ok (.iconst 5, 1) := by decide +kernel
theorem dst_287 : decode method_4_code 287 = .ok (.caload, 1) := by decide +kernel
theorem dst_288 : decode method_4_code 288 = .ok (.castore, 1) := by decide +kernel
theorem dst_289 : decode method_4_code 289 = .ok (.dup, 1) := by decide +kernel
theorem dst_290 : decode method_4_code 290 = .ok (.bipush 6, 2) := by decide +kernel
theorem dst_292 : decode method_4_code 292 = .ok (.aload_n 0, 1) := by decide +kernel
theorem dst_293 : decode method_4_code 293 = .ok (.bipush 6, 2) := by decide +kernel
theorem dst_295 : decode method_4_code 295 = .ok (.caload, 1) := by decide +kernel
theorem dst_296 : decode method_4_code 296 = .ok (.castore, 1) := by decide +kernel
theorem dst_297 : decode method_4_code 297 = .ok (.invokespecial 63, 3) := by decide +kernel
theorem dst_300 : decode method_4_code 300 = .ok (.areturn, 1) := by decide +kernel
theorem dst_301 : decode method_4_code 301 = .ok (.new 22, 3) := by decide +kernel
theorem dst_304 : decode method_4_code 304 = .ok (.dup, 1) := by decide +kernel
theorem dst_305 : decode method_4_code 305 = .ok (.bipush 8, 2) := by decide +kernel
theorem dst_307 : decode method_4_code 307 = .ok (.newarray .char, 2) := by decide +kernel
theorem dst_309 : decode method_4_code 309 = .ok (.dup, 1) := by decide +kernel
theorem dst_310 : decode method_4_code 310 = .ok (.iconst 0, 1) := by decide +kernel
theorem dst_311 : decode method_4_code 311 = .ok (.aload_n 0, 1) := by decide +kernel
theorem dst_312 : decode method_4_code 312 = .ok (.iconst 0, 1) := by decide +kernel
theorem dst_313 : decode method_4_code 313 = .ok (.caload, 1) := by decide +kernel
theorem dst_314 : decode method_4_code 314 = .ok (.castore, 1) := by decide +kernel
theorem dst_315 : decode method_4_code 315 = .ok (.dup, 1) := by decide +kernel
theorem dst_316 : decode method_4_code 316 = .ok (.iconst 1, 1) := by decide +kernel
theorem dst_317 : decode method_4_code 317 = .ok (.aload_n 0, 1) := by decide +kernel
theorem dst_318 : decode method_4_code 318 = .ok (.iconst 1, 1) := by decide +kernel
theorem dst_319 : decode method_4_code 319 = .ok (.caload, 1) := by decide +kernel
theorem dst_320 : decode method_4_code 320 = .ok (.castore, 1) := by decide +kernel
theorem dst_321 : decode method_4_code 321 = .ok (.dup, 1) := by decide +kernel
theorem dst_322 : decode method_4_code 322 = .ok (.iconst 2, 1) := by decide +kernel
theorem dst_323 : decode method_4_code 323 = .ok (.aload_n 0, 1) := by decide +kernel
theorem dst_324 : decode method_4_code 324 = .ok (.iconst 2, 1) := by decide +kernel
theorem dst_325 : decode method_4_code 325 = .ok (.caload, 1) := by decide +kernel
theorem dst_326 : decode method_4_code 326 = .ok (.castore, 1) := by decide +kernel
theorem dst_327 : decode method_4_code 327 = .ok (.dup, 1) := by decide +kernel
theorem dst_328 : decode method_4_code 328 = .ok (.iconst 3, 1) := by decide +kernel
theorem dst_329 : decode method_4_code 329 = .ok (.aload_n 0, 1) := by decide +kernel
theorem dst_330 : decode method_4_code 330 = .ok (.iconst 3, 1) := by decide +kernel
theorem dst_331 : decode method_4_code 331 = .ok (.caload, 1) := by decide +kernel
theorem dst_332 : decode method_4_code 332 = .ok (.castore, 1) := by decide +kernel
theorem dst_333 : decode method_4_code 333 = .ok (.dup, 1) := by decide +kernel
theorem dst_334 : decode method_4_code 334 = .ok (.iconst 4, 1) := by decide +kernel
theorem dst_335 : decode method_4_code 335 = .ok (.aload_n 0, 1) := by decide +kernel
theorem dst_336 : decode method_4_code 336 = .ok (.iconst 4, 1) := by decide +kernel
theorem dst_337 : decode method_4_code 337 = .ok (.caload, 1) := by decide +kernel
theorem dst_338 : decode method_4_code 338 = .ok (.castore, 1) := by decide +kernel
theorem dst_339 : decode method_4_code 339 = .ok (.dup, 1) := by decide +kernel
theorem dst_340 : decode method_4_code 340 = .ok (.iconst 5, 1) := by decide +kernel
theorem dst_341 : decode method_4_code 341 = .ok (.aload_n 0, 1) := by decide +kernel
theorem dst_342 : decode method_4_code 342 = .ok (.iconst 5, 1) := by decide +kernel
theorem dst_343 : decode method_4_code 343 = .ok (.caload, 1) := by decide +kernel
theorem dst_344 : decode method_4_code 344 = .ok (.castore, 1) := by decide +kernel
theorem dst_345 : decode method_4_code 345 = .ok (.dup, 1) := by decide +kernel
theorem dst_346 : decode method_4_code 346 = .ok (.bipush 6, 2) := by decide +kernel
theorem dst_348 : decode method_4_code 348 = .ok (.aload_n 0, 1) := by decide +kernel
theorem dst_349 : decode method_4_code 349 = .ok (.bipush 6, 2) := by decide +kernel
theorem dst_351 : decode method_4_code 351 = .ok (.caload, 1) := by decide +kernel
theorem dst_352 : decode method_4_code 352 = .ok (.castore, 1) := by decide +kernel
theorem dst_353 : decode method_4_code 353 = .ok (.dup, 1) := by decide +kernel
theorem dst_354 : decode method_4_code 354 = .ok (.bipush 7, 2) := by decide +kernel
theorem dst_356 : decode method_4_code 356 = .ok (.aload_n 0, 1) := by decide +kernel
theorem dst_357 : decode method_4_code 357 = .ok (.bipush 7, 2) := by decide +kernel
theorem dst_359 : decode method_4_code 359 = .ok (.caload, 1) := by decide +kernel
theorem dst_360 : decode method_4_code 360 = .ok (.castore, 1) := by decide +kernel
theorem dst_361 : decode method_4_code 361 = .ok (.invokespecial 63, 3) := by decide +kernel
theorem dst_364 : decode method_4_code 364 = .ok (.areturn, 1) := by decide +kernel
theorem ef_st (x0 : Addr) (x1 : Int32) (m : MethodId) : entryFrame m #[(.ref x0), (.int x1)] 2 = mkF m 0 #[.val (.ref x0), .val (.int x1)] [] := by first | (simp [entryFrame, mkF, argsToLocals, o_catR, o_catN, o_catI, o_catJ, o_catD]; done) | rfl
set_option maxRecDepth 65536 in
set_option maxHeartbeats 40000000 in
theorem ct_str (l : Launch) (Z : State) (a0 : Array Value) (hw : ∀ d ∈ tables_1, d.before a0 Z = true) (EL : List (String × Nat)) (n0 : Nat) (ar : Addr) (n c0 c1 c2 c3 c4 c5 c6 c7 : Int32) (l0 : (¬ c0 < 0 ∧ ¬ (255 : Int32) < c0)) (l1 : (¬ c1 < 0 ∧ ¬ (255 : Int32) < c1)) (l2 : (¬ c2 < 0 ∧ ¬ (255 : Int32) < c2)) (l3 : (¬ c3 < 0 ∧ ¬ (255 : Int32) < c3)) (l4 : (¬ c4 < 0 ∧ ¬ (255 : Int32) < c4)) (l5 : (¬ c5 < 0 ∧ ¬ (255 : Int32) < c5)) (l6 : (¬ c6 < 0 ∧ ¬ (255 : Int32) < c6)) (l7 : (¬ c7 < 0 ∧ ¬ (255 : Int32) < c7)) (cv : Int32) (hcs : Sta Z Z.heap "java/lang/String" "COMPACT_STRINGS" "Z" (.int cv)) (hcv : ¬ cv = 0) (hmem : ("java/lang/String", 7) ∈ EL) (h0 : Heap) (A_ar : OArr Z h0 ar .char [(.int c0), (.int c1), (.int c2), (.int c3), (.int c4), (.int c5), (.int c6), (.int c7)]) :
    OCt l Z a0 EL n0 (⟨"com/example/busca/busca/analysis/AnalyzerNamedPinLaw", "str", "([CI)Ljava/lang/String;"⟩ : MethodName) method_4_code 2 (some (.object "java/lang/String")) ({ frames := 4, cells := 6, slots := 20, locals := 66 } : Room) [] #[(.ref ar), (.int n)] h0 [] (fun w vm h => ∃ (st b : Addr) (us : List Int32), w = some (.ref st) ∧ OStr Z h st b (och us)) := by
  refine OCt.body (plainFor_of_name pn_L) (ef_st ar n) ?_
  intro p e s m below meth c T hby hml hret hnm hsh P
  refine o_iloadN P (hb hby dst_0) rfl (pc' := 1) rfl ?_
  refine o_if_gt P (hb hby dst_1) (by decide) (pc' := 15) (by decide) (pcf := 4) rfl (fun h0 => ?_) (fun h0 => ?_)
  · refine o_iloadN P (hb hby dst_15) rfl (pc' := 16) rfl ?_
    refine o_iconst P (1 : Int32) (hb hby dst_16) rfl (pc' := 17) rfl ?_
    refine o_icmp_ne P (hb hby dst_17) (by decide) (pc' := 37) (by decide) (pcf := 20) rfl (fun h1 => ?_) (fun h1 => ?_)
    · refine o_iloadN P (hb hby dst_37) rfl (pc' := 38) rfl ?_
      refine o_iconst P (2 : Int32) (hb hby dst_38) rfl (pc' := 39) rfl ?_
      refine o_icmp_ne P (hb hby dst_39) (by decide) (pc' := 65) (by decide) (pcf := 42) rfl (fun h2 => ?_) (fun h2 => ?_)
      · refine o_iloadN P (hb hby dst_65) rfl (pc' := 66) rfl ?_
        refine o_iconst P (3 : Int32) (hb hby dst_66) rfl (pc' := 67) rfl ?_
        refine o_icmp_ne P (hb hby dst_67) (by decide) (pc' := 99) (by decide) (pcf := 70) rfl (fun h3 => ?_) (fun h3 => ?_)
        · refine o_iloadN P (hb hby dst_99) rfl (pc' := 100) rfl ?_
          refine o_iconst P (4 : Int32) (hb hby dst_100) rfl (pc' := 101) rfl ?_
          refine o_icmp_ne P (hb hby dst_101) (by decide) (pc' := 139) (by decide) (pcf := 104) rfl (fun h4 => ?_) (fun h4 => ?_)
          · refine o_iloadN P (hb hby dst_139) rfl (pc' := 140) rfl ?_
            refine o_iconst P (5 : Int32) (hb hby dst_140) rfl (pc' := 141) rfl ?_
            refine o_icmp_ne P (hb hby dst_141) (by decide) (pc' := 185) (by decide) (pcf := 144) rfl (fun h5 => ?_) (fun h5 => ?_)
            · refine o_iloadN P (hb hby dst_185) rfl (pc' := 186) rfl ?_
              refine o_bipush P (6 : Int32) (hb hby dst_186) rfl (pc' := 188) rfl ?_
              refine o_icmp_ne P (hb hby dst_188) (by decide) (pc' := 239) (by decide) (pcf := 191) rfl (fun h6 => ?_) (fun h6 => ?_)
              · refine o_iloadN P (hb hby dst_239) rfl (pc' := 240) rfl ?_
                refine o_bipush P (7 : Int32) (hb hby dst_240) rfl (pc' := 242) rfl ?_
                refine o_icmp_ne P (hb hby dst_242) (by decide) (pc' := 301) (by decide) (pcf := 245) rfl (fun h7 => ?_) (fun h7 => ?_)
                · have hz_st := P.keep0.1
                  refine o_new P [("java/lang/String", "value", "[B", .null), ("java/lang/String", "coder", "B", (.int (0 : Int32)))] (ow hw 52 rfl) (ow hw 2 rfl) (ow hw 1 rfl) (OLd.cons (Or.inr (ow hw 4 rfl)) (ty := (.array .byte)) (by decide) rfl (OLd.cons (Or.inr (ow hw 5 rfl)) (ty := .byte) (by decide) rfl OLd.nil)) (by decide +kernel) (hb hby dst_301) (pc' := 304) rfl (by decide) (by decide) ?_
                  clear P; intro T h1 st P K1 hb_st F_st
                  have sz_st := Nat.le_trans hz_st hb_st
                  clear hz_st
                  have ne_ar_st : ar ≠ st := Nat.ne_of_lt (Nat.lt_of_lt_of_le A_ar.lt hb_st)
                  replace A_ar := A_ar.keep K1 nin0
                  clear K1
                  refine o_dup P (hb hby dst_304) rfl (pc' := 305) rfl ?_
                  refine o_bipush P (8 : Int32) (hb hby dst_305) rfl (pc' := 307) rfl ?_
                  have hz_b2 := P.keep0.1
                  refine o_newarr P (cap := 8) (ow hw 8 rfl) (hb hby dst_307) (by decide) (by decide) (by decide) (pc' := 309) rfl (by decide) (by decide) ?_
                  clear P; intro T h2 b2 P K2 hb_b2 A_b2
                  have sz_b2 := Nat.le_trans hz_b2 hb_b2
                  clear hz_b2
                  have ne_st_b2 : st ≠ b2 := Nat.ne_of_lt (Nat.lt_of_lt_of_le F_st.lt hb_b2)
                  have ne_ar_b2 : ar ≠ b2 := Nat.ne_of_lt (Nat.lt_of_lt_of_le A_ar.lt hb_b2)
                  replace F_st := F_st.keep K2 nin0
                  replace A_ar := A_ar.keep K2 nin0
                  clear K2
                  replace A_b2 : OArr Z h2 b2 .char [(.int 0), (.int 0), (.int 0), (.int 0), (.int 0), (.int 0), (.int 0), (.int 0)] := A_b2
                  refine o_dup P (hb hby dst_309) rfl (pc' := 310) rfl ?_
                  refine o_iconst P (0 : Int32) (hb hby dst_310) rfl (pc' := 311) rfl ?_
                  refine o_aloadN P (hb hby dst_311) rfl rfl (pc' := 312) rfl ?_
                  refine o_iconst P (0 : Int32) (hb hby dst_312) rfl (pc' := 313) rfl ?_
                  refine o_caload P (v := (.int c0)) A_ar (by decide) rfl (hb hby dst_313) (pc' := 314) rfl ?_
                  refine o_castore P (v := (.int c0)) A_b2 (List.Mem.head _) (by decide) (of_decide_eq_true rfl) (congrArg Value.int (o_nar_char (o_c16 l0))) (hb hby dst_314) (pc' := 315) rfl ?_
                  clear P; clear A_b2; intro T h3 P W3 A_b2
                  replace F_st := F_st.oth W3 ne_st_b2
                  replace A_ar := A_ar.oth W3 ne_ar_b2
                  clear W3
                  replace A_b2 : OArr Z h3 b2 .char [(.int c0), (.int 0), (.int 0), (.int 0), (.int 0), (.int 0), (.int 0), (.int 0)] := A_b2
                  refine o_dup P (hb hby dst_315) rfl (pc' := 316) rfl ?_
                  refine o_iconst P (1 : Int32) (hb hby dst_316) rfl (pc' := 317) rfl ?_
                  refine o_aloadN P (hb hby dst_317) rfl rfl (pc' := 318) rfl ?_
                  refine o_iconst P (1 : Int32) (hb hby dst_318) rfl (pc' := 319) rfl ?_
                  refine o_caload P (v := (.int c1)) A_ar (by decide) rfl (hb hby dst_319) (pc' := 320) rfl ?_
                  refine o_castore P (v := (.int c1)) A_b2 (List.Mem.head _) (by decide) (of_decide_eq_true rfl) (congrArg Value.int (o_nar_char (o_c16 l1))) (hb hby dst_320) (pc' := 321) rfl ?_
                  clear P; clear A_b2; intro T h4 P W4 A_b2
                  replace F_st := F_st.oth W4 ne_st_b2
                  replace A_ar := A_ar.oth W4 ne_ar_b2
                  clear W4
                  replace A_b2 : OArr Z h4 b2 .char [(.int c0), (.int c1), (.int 0), (.int 0), (.int 0), (.int 0), (.int 0), (.int 0)] := A_b2
                  refine o_dup P (hb hby dst_321) rfl (pc' := 322) rfl ?_
                  refine o_iconst P (2 : Int32) (hb hby dst_322) rfl (pc' := 323) rfl ?_
                  refine o_aloadN P (hb hby dst_323) rfl rfl (pc' := 324) rfl ?_
                  refine o_iconst P (2 : Int32) (hb hby dst_324) rfl (pc' := 325) rfl ?_
                  refine o_caload P (v := (.int c2)) A_ar (by decide) rfl (hb hby dst_325) (pc' := 326) rfl ?_
                  refine o_castore P (v := (.int c2)) A_b2 (List.Mem.head _) (by decide) (of_decide_eq_true rfl) (congrArg Value.int (o_nar_char (o_c16 l2))) (hb hby dst_326) (pc' := 327) rfl ?_
                  clear P; clear A_b2; intro T h5 P W5 A_b2
                  replace F_st := F_st.oth W5 ne_st_b2
                  replace A_ar := A_ar.oth W5 ne_ar_b2
                  clear W5
                  replace A_b2 : OArr Z h5 b2 .char [(.int c0), (.int c1), (.int c2), (.int 0), (.int 0), (.int 0), (.int 0), (.int 0)] := A_b2
                  refine o_dup P (hb hby dst_327) rfl (pc' := 328) rfl ?_
                  refine o_iconst P (3 : Int32) (hb hby dst_328) rfl (pc' := 329) rfl ?_
                  refine o_aloadN P (hb hby dst_329) rfl rfl (pc' := 330) rfl ?_
                  refine o_iconst P (3 : Int32) (hb hby dst_330) rfl (pc' := 331) rfl ?_
                  refine o_caload P (v := (.int c3)) A_ar (by decide) rfl (hb hby dst_331) (pc' := 332) rfl ?_
                  refine o_castore P (v := (.int c3)) A_b2 (List.Mem.head _) (by decide) (of_decide_eq_true rfl) (congrArg Value.int (o_nar_char (o_c16 l3))) (hb hby dst_332) (pc' := 333) rfl ?_
                  clear P; clear A_b2; intro T h6 P W6 A_b2
                  replace F_st := F_st.oth W6 ne_st_b2
                  replace A_ar := A_ar.oth W6 ne_ar_b2
                  clear W6
                  replace A_b2 : OArr Z h6 b2 .char [(.int c0), (.int c1), (.int c2), (.int c3), (.int 0), (.int 0), (.int 0), (.int 0)] := A_b2
                  refine o_dup P (hb hby dst_333) rfl (pc' := 334) rfl ?_
                  refine o_iconst P (4 : Int32) (hb hby dst_334) rfl (pc' := 335) rfl ?_
                  refine o_aloadN P (hb hby dst_335) rfl rfl (pc' := 336) rfl ?_
                  refine o_iconst P (4 : Int32) (hb hby dst_336) rfl (pc' := 337) rfl ?_
                  refine o_caload P (v := (.int c4)) A_ar (by decide) rfl (hb hby dst_337) (pc' := 338) rfl ?_
                  refine o_castore P (v := (.int c4)) A_b2 (List.Mem.head _) (by decide) (of_decide_eq_true rfl) (congrArg Value.int (o_nar_char (o_c16 l4))) (hb hby dst_338) (pc' := 339) rfl ?_
                  clear P; clear A_b2; intro T h7 P W7 A_b2
                  replace F_st := F_st.oth W7 ne_st_b2
                  replace A_ar := A_ar.oth W7 ne_ar_b2
                  clear W7
                  replace A_b2 : OArr Z h7 b2 .char [(.int c0), (.int c1), (.int c2), (.int c3), (.int c4), (.int 0), (.int 0), (.int 0)] := A_b2
                  refine o_dup P (hb hby dst_339) rfl (pc' := 340) rfl ?_
                  refine o_iconst P (5 : Int32) (hb hby dst_340) rfl (pc' := 341) rfl ?_
                  refine o_aloadN P (hb hby dst_341) rfl rfl (pc' := 342) rfl ?_
                  refine o_iconst P (5 : Int32) (hb hby dst_342) rfl (pc' := 343) rfl ?_
                  refine o_caload P (v := (.int c5)) A_ar (by decide) rfl (hb hby dst_343) (pc' := 344) rfl ?_
                  refine o_castore P (v := (.int c5)) A_b2 (List.Mem.head _) (by decide) (of_decide_eq_true rfl) (congrArg Value.int (o_nar_char (o_c16 l5))) (hb hby dst_344) (pc' := 345) rfl ?_
                  clear P; clear A_b2; intro T h8 P W8 A_b2
                  replace F_st := F_st.oth W8 ne_st_b2
                  replace A_ar := A_ar.oth W8 ne_ar_b2
                  clear W8
                  replace A_b2 : OArr Z h8 b2 .char [(.int c0), (.int c1), (.int c2), (.int c3), (.int c4), (.int c5), (.int 0), (.int 0)] := A_b2
                  refine o_dup P (hb hby dst_345) rfl (pc' := 346) rfl ?_
                  refine o_bipush P (6 : Int32) (hb hby dst_346) rfl (pc' := 348) rfl ?_
                  refine o_aloadN P (hb hby dst_348) rfl rfl (pc' := 349) rfl ?_
                  refine o_bipush P (6 : Int32) (hb hby dst_349) rfl (pc' := 351) rfl ?_
                  refine o_caload P (v := (.int c6)) A_ar (by decide) rfl (hb hby dst_351) (pc' := 352) rfl ?_
                  refine o_castore P (v := (.int c6)) A_b2 (List.Mem.head _) (by decide) (of_decide_eq_true rfl) (congrArg Value.int (o_nar_char (o_c16 l6))) (hb hby dst_352) (pc' := 353) rfl ?_
                  clear P; clear A_b2; intro T h9 P W9 A_b2
                  replace F_st := F_st.oth W9 ne_st_b2
                  replace A_ar := A_ar.oth W9 ne_ar_b2
                  clear W9
                  replace A_b2 : OArr Z h9 b2 .char [(.int c0), (.int c1), (.int c2), (.int c3), (.int c4), (.int c5), (.int c6), (.int 0)] := A_b2
                  refine o_dup P (hb hby dst_353) rfl (pc' := 354) rfl ?_
                  refine o_bipush P (7 : Int32) (hb hby dst_354) rfl (pc' := 356) rfl ?_
                  refine o_aloadN P (hb hby dst_356) rfl rfl (pc' := 357) rfl ?_
                  refine o_bipush P (7 : Int32) (hb hby dst_357) rfl (pc' := 359) rfl ?_
                  refine o_caload P (v := (.int c7)) A_ar (by decide) rfl (hb hby dst_359) (pc' := 360) rfl ?_
                  refine o_castore P (v := (.int c7)) A_b2 (List.Mem.head _) (by decide) (of_decide_eq_true rfl) (congrArg Value.int (o_nar_char (o_c16 l7))) (hb hby dst_360) (pc' := 361) rfl ?_
                  clear P; clear A_b2; intro T h10 P W10 A_b2
                  replace F_st := F_st.oth W10 ne_st_b2
                  replace A_ar := A_ar.oth W10 ne_ar_b2
                  clear W10
                  replace A_b2 : OArr Z h10 b2 .char [(.int c0), (.int c1), (.int c2), (.int c3), (.int c4), (.int c5), (.int c6), (.int c7)] := A_b2
                  refine o_callI P (W := 1) (a := st) rfl (ow hw 53 rfl) (ow hw 54 rfl) (ow hw 1 rfl) (ow hw 55 rfl) (by decide) (ct_init1 l Z a0 hw EL n0 st b2 [c0, c1, c2, c3, c4, c5, c6, c7] cv hcs hcv h10 F_st A_b2 ne_st_b2 (OLat.cons l0 (OLat.cons l1 (OLat.cons l2 (OLat.cons l3 (OLat.cons l4 (OLat.cons l5 (OLat.cons l6 (OLat.cons l7 OLat.nil)))))))) (of_decide_eq_true rfl) (of_decide_eq_true rfl)) (o_sfS (List.Mem.tail _ (List.Mem.head _)) o_sf0) (by rw [hml]; rfl) (by decide) (by decide) (argsL := [(.ref b2)]) (rest := [(.ref st)]) (lenOf pd_14 rfl) rfl rfl (Nat.le_of_eq rfl) (hb hby dst_361) (pc' := 364) rfl (by decide) (by decide) ?_
                  clear P; intro T h11 v11 P K11 q11
                  obtain ⟨rfl, b, G⟩ := q11
                  show OG p e below m _ T 364 #[.val (.ref ar), .val (.int n)] [(.ref st)]
                  exact o_retA P hret rfl rfl rfl (hb hby dst_364) (by decide) (by decide) ⟨st, b, _, rfl, G⟩
                · have hz_st := P.keep0.1
                  refine o_new P [("java/lang/String", "value", "[B", .null), ("java/lang/String", "coder", "B", (.int (0 : Int32)))] (ow hw 52 rfl) (ow hw 2 rfl) (ow hw 1 rfl) (OLd.cons (Or.inr (ow hw 4 rfl)) (ty := (.array .byte)) (by decide) rfl (OLd.cons (Or.inr (ow hw 5 rfl)) (ty := .byte) (by decide) rfl OLd.nil)) (by decide +kernel) (hb hby dst_245) (pc' := 248) rfl (by decide) (by decide) ?_
                  clear P; intro T h1 st P K1 hb_st F_st
                  have sz_st := Nat.le_trans hz_st hb_st
                  clear hz_st
                  have ne_ar_st : ar ≠ st := Nat.ne_of_lt (Nat.lt_of_lt_of_le A_ar.lt hb_st)
                  replace A_ar := A_ar.keep K1 nin0
                  clear K1
                  refine o_dup P (hb hby dst_248) rfl (pc' := 249) rfl ?_
                  refine o_bipush P (7 : Int32) (hb hby dst_249) rfl (pc' := 251) rfl ?_
                  have hz_b2 := P.keep0.1
                  refine o_newarr P (cap := 7) (ow hw 8 rfl) (hb hby dst_251) (by decide) (by decide) (by decide) (pc' := 253) rfl (by decide) (by decide) ?_
                  clear P; intro T h2 b2 P K2 hb_b2 A_b2
                  have sz_b2 := Nat.le_trans hz_b2 hb_b2
                  clear hz_b2
                  have ne_st_b2 : st ≠ b2 := Nat.ne_of_lt (Nat.lt_of_lt_of_le F_st.lt hb_b2)
                  have ne_ar_b2 : ar ≠ b2 := Nat.ne_of_lt (Nat.lt_of_lt_of_le A_ar.lt hb_b2)
                  replace F_st := F_st.keep K2 nin0
                  replace A_ar := A_ar.keep K2 nin0
                  clear K2
                  replace A_b2 : OArr Z h2 b2 .char [(.int 0), (.int 0), (.int 0), (.int 0), (.int 0), (.int 0), (.int 0)] := A_b2
                  refine o_dup P (hb hby dst_253) rfl (pc' := 254) rfl ?_
                  refine o_iconst P (0 : Int32) (hb hby dst_254) rfl (pc' := 255) rfl ?_
                  refine o_aloadN P (hb hby dst_255) rfl rfl (pc' := 256) rfl ?_
                  refine o_iconst P (0 : Int32) (hb hby dst_256) rfl (pc' := 257) rfl ?_
                  refine o_caload P (v := (.int c0)) A_ar (by decide) rfl (hb hby dst_257) (pc' := 258) rfl ?_
                  refine o_castore P (v := (.int c0)) A_b2 (List.Mem.head _) (by decide) (of_decide_eq_true rfl) (congrArg Value.int (o_nar_char (o_c16 l0))) (hb hby dst_258) (pc' := 259) rfl ?_
                  clear P; clear A_b2; intro T h3 P W3 A_b2
                  replace F_st := F_st.oth W3 ne_st_b2
                  replace A_ar := A_ar.oth W3 ne_ar_b2
                  clear W3
                  replace A_b2 : OArr Z h3 b2 .char [(.int c0), (.int 0), (.int 0), (.int 0), (.int 0), (.int 0), (.int 0)] := A_b2
                  refine o_dup P (hb hby dst_259) rfl (pc' := 260) rfl ?_
                  refine o_iconst P (1 : Int32) (hb hby dst_260) rfl (pc' := 261) rfl ?_
                  refine o_aloadN P (hb hby dst_261) rfl rfl (pc' := 262) rfl ?_
                  refine o_iconst P (1 : Int32) (hb hby dst_262) rfl (pc' := 263) rfl ?_
                  refine o_caload P (v := (.int c1)) A_ar (by decide) rfl (hb hby dst_263) (pc' := 264) rfl ?_
                  refine o_castore P (v := (.int c1)) A_b2 (List.Mem.head _) (by decide) (of_decide_eq_true rfl) (congrArg Value.int (o_nar_char (o_c16 l1))) (hb hby dst_264) (pc' := 265) rfl ?_
                  clear P; clear A_b2; intro T h4 P W4 A_b2
                  replace F_st := F_st.oth W4 ne_st_b2
                  replace A_ar := A_ar.oth W4 ne_ar_b2
                  clear W4
                  replace A_b2 : OArr Z h4 b2 .char [(.int c0), (.int c1), (.int 0), (.int 0), (.int 0), (.int 0), (.int 0)] := A_b2
                  refine o_dup P (hb hby dst_265) rfl (pc' := 266) rfl ?_
                  refine o_iconst P (2 : Int32) (hb hby dst_266) rfl (pc' := 267) rfl ?_
                  refine o_aloadN P (hb hby dst_267) rfl rfl (pc' := 268) rfl ?_
                  refine o_iconst P (2 : Int32) (hb hby dst_268) rfl (pc' := 269) rfl ?_
                  refine o_caload P (v := (.int c2)) A_ar (by decide) rfl (hb hby dst_269) (pc' := 270) rfl ?_
                  refine o_castore P (v := (.int c2)) A_b2 (List.Mem.head _) (by decide) (of_decide_eq_true rfl) (congrArg Value.int (o_nar_char (o_c16 l2))) (hb hby dst_270) (pc' := 271) rfl ?_
                  clear P; clear A_b2; intro T h5 P W5 A_b2
                  replace F_st := F_st.oth W5 ne_st_b2
                  replace A_ar := A_ar.oth W5 ne_ar_b2
                  clear W5
                  replace A_b2 : OArr Z h5 b2 .char [(.int c0), (.int c1), (.int c2), (.int 0), (.int 0), (.int 0), (.int 0)] := A_b2
                  refine o_dup P (hb hby dst_271) rfl (pc' := 272) rfl ?_
                  refine o_iconst P (3 : Int32) (hb hby dst_272) rfl (pc' := 273) rfl ?_
                  refine o_aloadN P (hb hby dst_273) rfl rfl (pc' := 274) rfl ?_
                  refine o_iconst P (3 : Int32) (hb hby dst_274) rfl (pc' := 275) rfl ?_
                  refine o_caload P (v := (.int c3)) A_ar (by decide) rfl (hb hby dst_275) (pc' := 276) rfl ?_
                  refine o_castore P (v := (.int c3)) A_b2 (List.Mem.head _) (by decide) (of_decide_eq_true rfl) (congrArg Value.int (o_nar_char (o_c16 l3))) (hb hby dst_276) (pc' := 277) rfl ?_
                  clear P; clear A_b2; intro T h6 P W6 A_b2
                  replace F_st := F_st.oth W6 ne_st_b2
                  replace A_ar := A_ar.oth W6 ne_ar_b2
                  clear W6
                  replace A_b2 : OArr Z h6 b2 .char [(.int c0), (.int c1), (.int c2), (.int c3), (.int 0), (.int 0), (.int 0)] := A_b2
                  refine o_dup P (hb hby dst_277) rfl (pc' := 278) rfl ?_
                  refine o_iconst P (4 : Int32) (hb hby dst_278) rfl (pc' := 279) rfl ?_
                  refine o_aloadN P (hb hby dst_279) rfl rfl (pc' := 280) rfl ?_
                  refine o_iconst P (4 : Int32) (hb hby dst_280) rfl (pc' := 281) rfl ?_
                  refine o_caload P (v := (.int c4)) A_ar (by decide) rfl (hb hby dst_281) (pc' := 282) rfl ?_
                  refine o_castore P (v := (.int c4)) A_b2 (List.Mem.head _) (by decide) (of_decide_eq_true rfl) (congrArg Value.int (o_nar_char (o_c16 l4))) (hb hby dst_282) (pc' := 283) rfl ?_
                  clear P; clear A_b2; intro T h7 P W7 A_b2
                  replace F_st := F_st.oth W7 ne_st_b2
                  replace A_ar := A_ar.oth W7 ne_ar_b2
                  clear W7
                  replace A_b2 : OArr Z h7 b2 .char [(.int c0), (.int c1), (.int c2), (.int c3), (.int c4), (.int 0), (.int 0)] := A_b2
                  refine o_dup P (hb hby dst_283) rfl (pc' := 284) rfl ?_
                  refine o_iconst P (5 : Int32) (hb hby dst_284) rfl (pc' := 285) rfl ?_
                  refine o_aloadN P (hb hby dst_285) rfl rfl (pc' := 286) rfl ?_
                  refine o_iconst P (5 : Int32) (hb hby dst_286) rfl (pc' := 287) rfl ?_
                  refine o_caload P (v := (.int c5)) A_ar (by decide) rfl (hb hby dst_287) (pc' := 288) rfl ?_
                  refine o_castore P (v := (.int c5)) A_b2 (List.Mem.head _) (by decide) (of_decide_eq_true rfl) (congrArg Value.int (o_nar_char (o_c16 l5))) (hb hby dst_288) (pc' := 289) rfl ?_
                  clear P; clear A_b2; intro T h8 P W8 A_b2
                  replace F_st := F_st.oth W8 ne_st_b2
                  replace A_ar := A_ar.oth W8 ne_ar_b2
                  clear W8
                  replace A_b2 : OArr Z h8 b2 .char [(.int c0), (.int c1), (.int c2), (.int c3), (.int c4), (.int c5), (.int 0)] := A_b2
                  refine o_dup P (hb hby dst_289) rfl (pc' := 290) rfl ?_
                  refine o_bipush P (6 : Int32) (hb hby dst_290) rfl (pc' := 292) rfl ?_
                  refine o_aloadN P (hb hby dst_292) rfl rfl (pc' := 293) rfl ?_
                  refine o_bipush P (6 : Int32) (hb hby dst_293) rfl (pc' := 295) rfl ?_
                  refine o_caload P (v := (.int c6)) A_ar (by decide) rfl (hb hby dst_295) (pc' := 296) rfl ?_
                  refine o_castore P (v := (.int c6)) A_b2 (List.Mem.head _) (by decide) (of_decide_eq_true rfl) (congrArg Value.int (o_nar_char (o_c16 l6))) (hb hby dst_296) (pc' := 297) rfl ?_
                  clear P; clear A_b2; intro T h9 P W9 A_b2
                  replace F_st := F_st.oth W9 ne_st_b2
                  replace A_ar := A_ar.oth W9 ne_ar_b2
                  clear W9
                  replace A_b2 : OArr Z h9 b2 .char [(.int c0), (.int c1), (.int c2), (.int c3), (.int c4), (.int c5), (.int c6)] := A_b2
                  refine o_callI P (W := 1) (a := st) rfl (ow hw 53 rfl) (ow hw 54 rfl) (ow hw 1 rfl) (ow hw 55 rfl) (by decide) (ct_init1 l Z a0 hw EL n0 st b2 [c0, c1, c2, c3, c4, c5, c6] cv hcs hcv h9 F_st A_b2 ne_st_b2 (OLat.cons l0 (OLat.cons l1 (OLat.cons l2 (OLat.cons l3 (OLat.cons l4 (OLat.cons l5 (OLat.cons l6 OLat.nil))))))) (of_decide_eq_true rfl) (of_decide_eq_true rfl)) (o_sfS (List.Mem.tail _ (List.Mem.head _)) o_sf0) (by rw [hml]; rfl) (by decide) (by decide) (argsL := [(.ref b2)]) (rest := [(.ref st)]) (lenOf pd_14 rfl) rfl rfl (Nat.le_of_eq rfl) (hb hby dst_297) (pc' := 300) rfl (by decide) (by decide) ?_
                  clear P; intro T h10 v10 P K10 q10
                  obtain ⟨rfl, b, G⟩ := q10
                  show OG p e below m _ T 300 #[.val (.ref ar), .val (.int n)] [(.ref st)]
                  exact o_retA P hret rfl rfl rfl (hb hby dst_300) (by decide) (by decide) ⟨st, b, _, rfl, G⟩
              · have hz_st := P.keep0.1
                refine o_new P [("java/lang/String", "value", "[B", .null), ("java/lang/String", "coder", "B", (.int (0 : Int32)))] (ow hw 52 rfl) (ow hw 2 rfl) (ow hw 1 rfl) (OLd.cons (Or.inr (ow hw 4 rfl)) (ty := (.array .byte)) (by decide) rfl (OLd.cons (Or.inr (ow hw 5 rfl)) (ty := .byte) (by decide) rfl OLd.nil)) (by decide +kernel) (hb hby dst_191) (pc' := 194) rfl (by decide) (by decide) ?_
                clear P; intro T h1 st P K1 hb_st F_st
                have sz_st := Nat.le_trans hz_st hb_st
                clear hz_st
                have ne_ar_st : ar ≠ st := Nat.ne_of_lt (Nat.lt_of_lt_of_le A_ar.lt hb_st)
                replace A_ar := A_ar.keep K1 nin0
                clear K1
                refine o_dup P (hb hby dst_194) rfl (pc' := 195) rfl ?_
                refine o_bipush P (6 : Int32) (hb hby dst_195) rfl (pc' := 197) rfl ?_
                have hz_b2 := P.keep0.1
                refine o_newarr P (cap := 6) (ow hw 8 rfl) (hb hby dst_197) (by decide) (by decide) (by decide) (pc' := 199) rfl (by decide) (by decide) ?_
                clear P; intro T h2 b2 P K2 hb_b2 A_b2
                have sz_b2 := Nat.le_trans hz_b2 hb_b2
                clear hz_b2
                have ne_st_b2 : st ≠ b2 := Nat.ne_of_lt (Nat.lt_of_lt_of_le F_st.lt hb_b2)
                have ne_ar_b2 : ar ≠ b2 := Nat.ne_of_lt (Nat.lt_of_lt_of_le A_ar.lt hb_b2)
                replace F_st := F_st.keep K2 nin0
                replace A_ar := A_ar.keep K2 nin0
                clear K2
                replace A_b2 : OArr Z h2 b2 .char [(.int 0), (.int 0), (.int 0), (.int 0), (.int 0), (.int 0)] := A_b2
                refine o_dup P (hb hby dst_199) rfl (pc' := 200) rfl ?_
                refine o_iconst P (0 : Int32) (hb hby dst_200) rfl (pc' := 201) rfl ?_
                refine o_aloadN P (hb hby dst_201) rfl rfl (pc' := 202) rfl ?_
                refine o_iconst P (0 : Int32) (hb hby dst_202) rfl (pc' := 203) rfl ?_
                refine o_caload P (v := (.int c0)) A_ar (by decide) rfl (hb hby dst_203) (pc' := 204) rfl ?_
                refine o_castore P (v := (.int c0)) A_b2 (List.Mem.head _) (by decide) (of_decide_eq_true rfl) (congrArg Value.int (o_nar_char (o_c16 l0))) (hb hby dst_204) (pc' := 205) rfl ?_
                clear P; clear A_b2; intro T h3 P W3 A_b2
                replace F_st := F_st.oth W3 ne_st_b2
                replace A_ar := A_ar.oth W3 ne_ar_b2
                clear W3
                replace A_b2 : OArr Z h3 b2 .char [(.int c0), (.int 0), (.int 0), (.int 0), (.int 0), (.int 0)] := A_b2
                refine o_dup P (hb hby dst_205) rfl (pc' := 206) rfl ?_
                refine o_iconst P (1 : Int32) (hb hby dst_206) rfl (pc' := 207) rfl ?_
                refine o_aloadN P (hb hby dst_207) rfl rfl (pc' := 208) rfl ?_
                refine o_iconst P (1 : Int32) (hb hby dst_208) rfl (pc' := 209) rfl ?_
                refine o_caload P (v := (.int c1)) A_ar (by decide) rfl (hb hby dst_209) (pc' := 210) rfl ?_
                refine o_castore P (v := (.int c1)) A_b2 (List.Mem.head _) (by decide) (of_decide_eq_true rfl) (congrArg Value.int (o_nar_char (o_c16 l1))) (hb hby dst_210) (pc' := 211) rfl ?_
                clear P; clear A_b2; intro T h4 P W4 A_b2
                replace F_st := F_st.oth W4 ne_st_b2
                replace A_ar := A_ar.oth W4 ne_ar_b2
                clear W4
                replace A_b2 : OArr Z h4 b2 .char [(.int c0), (.int c1), (.int 0), (.int 0), (.int 0), (.int 0)] := A_b2
                refine o_dup P (hb hby dst_211) rfl (pc' := 212) rfl ?_
                refine o_iconst P (2 : Int32) (hb hby dst_212) rfl (pc' := 213) rfl ?_
                refine o_aloadN P (hb hby dst_213) rfl rfl (pc' := 214) rfl ?_
                refine o_iconst P (2 : Int32) (hb hby dst_214) rfl (pc' := 215) rfl ?_
                refine o_caload P (v := (.int c2)) A_ar (by decide) rfl (hb hby dst_215) (pc' := 216) rfl ?_
                refine o_castore P (v := (.int c2)) A_b2 (List.Mem.head _) (by decide) (of_decide_eq_true rfl) (congrArg Value.int (o_nar_char (o_c16 l2))) (hb hby dst_216) (pc' := 217) rfl ?_
                clear P; clear A_b2; intro T h5 P W5 A_b2
                replace F_st := F_st.oth W5 ne_st_b2
                replace A_ar := A_ar.oth W5 ne_ar_b2
                clear W5
                replace A_b2 : OArr Z h5 b2 .char [(.int c0), (.int c1), (.int c2), (.int 0), (.int 0), (.int 0)] := A_b2
                refine o_dup P (hb hby dst_217) rfl (pc' := 218) rfl ?_
                refine o_iconst P (3 : Int32) (hb hby dst_218) rfl (pc' := 219) rfl ?_
                refine o_aloadN P (hb hby dst_219) rfl rfl (pc' := 220) rfl ?_
                refine o_iconst P (3 : Int32) (hb hby dst_220) rfl (pc' := 221) rfl ?_
                refine o_caload P (v := (.int c3)) A_ar (by decide) rfl (hb hby dst_221) (pc' := 222) rfl ?_
                refine o_castore P (v := (.int c3)) A_b2 (List.Mem.head _) (by decide) (of_decide_eq_true rfl) (congrArg Value.int (o_nar_char (o_c16 l3))) (hb hby dst_222) (pc' := 223) rfl ?_
                clear P; clear A_b2; intro T h6 P W6 A_b2
                replace F_st := F_st.oth W6 ne_st_b2
                replace A_ar := A_ar.oth W6 ne_ar_b2
                clear W6
                replace A_b2 : OArr Z h6 b2 .char [(.int c0), (.int c1), (.int c2), (.int c3), (.int 0), (.int 0)] := A_b2
                refine o_dup P (hb hby dst_223) rfl (pc' := 224) rfl ?_
                refine o_iconst P (4 : Int32) (hb hby dst_224) rfl (pc' := 225) rfl ?_
                refine o_aloadN P (hb hby dst_225) rfl rfl (pc' := 226) rfl ?_
                refine o_iconst P (4 : Int32) (hb hby dst_226) rfl (pc' := 227) rfl ?_
                refine o_caload P (v := (.int c4)) A_ar (by decide) rfl (hb hby dst_227) (pc' := 228) rfl ?_
                refine o_castore P (v := (.int c4)) A_b2 (List.Mem.head _) (by decide) (of_decide_eq_true rfl) (congrArg Value.int (o_nar_char (o_c16 l4))) (hb hby dst_228) (pc' := 229) rfl ?_
                clear P; clear A_b2; intro T h7 P W7 A_b2
                replace F_st := F_st.oth W7 ne_st_b2
                replace A_ar := A_ar.oth W7 ne_ar_b2
                clear W7
                replace A_b2 : OArr Z h7 b2 .char [(.int c0), (.int c1), (.int c2), (.int c3), (.int c4), (.int 0)] := A_b2
                refine o_dup P (hb hby dst_229) rfl (pc' := 230) rfl ?_
                refine o_iconst P (5 : Int32) (hb hby dst_230) rfl (pc' := 231) rfl ?_
                refine o_aloadN P (hb hby dst_231) rfl rfl (pc' := 232) rfl ?_
                refine o_iconst P (5 : Int32) (hb hby dst_232) rfl (pc' := 233) rfl ?_
                refine o_caload P (v := (.int c5)) A_ar (by decide) rfl (hb hby dst_233) (pc' := 234) rfl ?_
                refine o_castore P (v := (.int c5)) A_b2 (List.Mem.head _) (by decide) (of_decide_eq_true rfl) (congrArg Value.int (o_nar_char (o_c16 l5))) (hb hby dst_234) (pc' := 235) rfl ?_
                clear P; clear A_b2; intro T h8 P W8 A_b2
                replace F_st := F_st.oth W8 ne_st_b2
                replace A_ar := A_ar.oth W8 ne_ar_b2
                clear W8
                replace A_b2 : OArr Z h8 b2 .char [(.int c0), (.int c1), (.int c2), (.int c3), (.int c4), (.int c5)] := A_b2
                refine o_callI P (W := 1) (a := st) rfl (ow hw 53 rfl) (ow hw 54 rfl) (ow hw 1 rfl) (ow hw 55 rfl) (by decide) (ct_init1 l Z a0 hw EL n0 st b2 [c0, c1, c2, c3, c4, c5] cv hcs hcv h8 F_st A_b2 ne_st_b2 (OLat.cons l0 (OLat.cons l1 (OLat.cons l2 (OLat.cons l3 (OLat.cons l4 (OLat.cons l5 OLat.nil)))))) (of_decide_eq_true rfl) (of_decide_eq_true rfl)) (o_sfS (List.Mem.tail _ (List.Mem.head _)) o_sf0) (by rw [hml]; rfl) (by decide) (by decide) (argsL := [(.ref b2)]) (rest := [(.ref st)]) (lenOf pd_14 rfl) rfl rfl (Nat.le_of_eq rfl) (hb hby dst_235) (pc' := 238) rfl (by decide) (by decide) ?_
                clear P; intro T h9 v9 P K9 q9
                obtain ⟨rfl, b, G⟩ := q9
                show OG p e below m _ T 238 #[.val (.ref ar), .val (.int n)] [(.ref st)]
                exact o_retA P hret rfl rfl rfl (hb hby dst_238) (by decide) (by decide) ⟨st, b, _, rfl, G⟩
            · have hz_st := P.keep0.1
              refine o_new P [("java/lang/String", "value", "[B", .null), ("java/lang/String", "coder", "B", (.int (0 : Int32)))] (ow hw 52 rfl) (ow hw 2 rfl) (ow hw 1 rfl) (OLd.cons (Or.inr (ow hw 4 rfl)) (ty := (.array .byte)) (by decide) rfl (OLd.cons (Or.inr (ow hw 5 rfl)) (ty := .byte) (by decide) rfl OLd.nil)) (by decide +kernel) (hb hby dst_144) (pc' := 147) rfl (by decide) (by decide) ?_
              clear P; intro T h1 st P K1 hb_st F_st
              have sz_st := Nat.le_trans hz_st hb_st
              clear hz_st
              have ne_ar_st : ar ≠ st := Nat.ne_of_lt (Nat.lt_of_lt_of_le A_ar.lt hb_st)
              replace A_ar := A_ar.keep K1 nin0
              clear K1
              refine o_dup P (hb hby dst_147) rfl (pc' := 148) rfl ?_
              refine o_iconst P (5 : Int32) (hb hby dst_148) rfl (pc' := 149) rfl ?_
              have hz_b2 := P.keep0.1
              refine o_newarr P (cap := 5) (ow hw 8 rfl) (hb hby dst_149) (by decide) (by decide) (by decide) (pc' := 151) rfl (by decide) (by decide) ?_
              clear P; intro T h2 b2 P K2 hb_b2 A_b2
              have sz_b2 := Nat.le_trans hz_b2 hb_b2
              clear hz_b2
              have ne_st_b2 : st ≠ b2 := Nat.ne_of_lt (Nat.lt_of_lt_of_le F_st.lt hb_b2)
              have ne_ar_b2 : ar ≠ b2 := Nat.ne_of_lt (Nat.lt_of_lt_of_le A_ar.lt hb_b2)
              replace F_st := F_st.keep K2 nin0
              replace A_ar := A_ar.keep K2 nin0
              clear K2
              replace A_b2 : OArr Z h2 b2 .char [(.int 0), (.int 0), (.int 0), (.int 0), (.int 0)] := A_b2
              refine o_dup P (hb hby dst_151) rfl (pc' := 152) rfl ?_
              refine o_iconst P (0 : Int32) (hb hby dst_152) rfl (pc' := 153) rfl ?_
              refine o_aloadN P (hb hby dst_153) rfl rfl (pc' := 154) rfl ?_
              refine o_iconst P (0 : Int32) (hb hby dst_154) rfl (pc' := 155) rfl ?_
              refine o_caload P (v := (.int c0)) A_ar (by decide) rfl (hb hby dst_155) (pc' := 156) rfl ?_
              refine o_castore P (v := (.int c0)) A_b2 (List.Mem.head _) (by decide) (of_decide_eq_true rfl) (congrArg Value.int (o_nar_char (o_c16 l0))) (hb hby dst_156) (pc' := 157) rfl ?_
              clear P; clear A_b2; intro T h3 P W3 A_b2
              replace F_st := F_st.oth W3 ne_st_b2
              replace A_ar := A_ar.oth W3 ne_ar_b2
              clear W3
              replace A_b2 : OArr Z h3 b2 .char [(.int c0), (.int 0), (.int 0), (.int 0), (.int 0)] := A_b2
              refine o_dup P (hb hby dst_157) rfl (pc' := 158) rfl ?_
              refine o_iconst P (1 : Int32) (hb hby dst_158) rfl (pc' := 159) rfl ?_
              refine o_aloadN P (hb hby dst_159) rfl rfl (pc' := 160) rfl ?_
              refine o_iconst P (1 : Int32) (hb hby dst_160) rfl (pc' := 161) rfl ?_
              refine o_caload P (v := (.int c1)) A_ar (by decide) rfl (hb hby dst_161) (pc' := 162) rfl ?_
              refine o_castore P (v := (.int c1)) A_b2 (List.Mem.head _) (by decide) (of_decide_eq_true rfl) (congrArg Value.int (o_nar_char (o_c16 l1))) (hb hby dst_162) (pc' := 163) rfl ?_
              clear P; clear A_b2; intro T h4 P W4 A_b2
              replace F_st := F_st.oth W4 ne_st_b2
              replace A_ar := A_ar.oth W4 ne_ar_b2
              clear W4
              replace A_b2 : OArr Z h4 b2 .char [(.int c0), (.int c1), (.int 0), (.int 0), (.int 0)] := A_b2
              refine o_dup P (hb hby dst_163) rfl (pc' := 164) rfl ?_
              refine o_iconst P (2 : Int32) (hb hby dst_164) rfl (pc' := 165) rfl ?_
              refine o_aloadN P (hb hby dst_165) rfl rfl (pc' := 166) rfl ?_
              refine o_iconst P (2 : Int32) (hb hby dst_166) rfl (pc' := 167) rfl ?_
              refine o_caload P (v := (.int c2)) A_ar (by decide) rfl (hb hby dst_167) (pc' := 168) rfl ?_
              refine o_castore P (v := (.int c2)) A_b2 (List.Mem.head _) (by decide) (of_decide_eq_true rfl) (congrArg Value.int (o_nar_char (o_c16 l2))) (hb hby dst_168) (pc' := 169) rfl ?_
              clear P; clear A_b2; intro T h5 P W5 A_b2
              replace F_st := F_st.oth W5 ne_st_b2
              replace A_ar := A_ar.oth W5 ne_ar_b2
              clear W5
              replace A_b2 : OArr Z h5 b2 .char [(.int c0), (.int c1), (.int c2), (.int 0), (.int 0)] := A_b2
              refine o_dup P (hb hby dst_169) rfl (pc' := 170) rfl ?_
              refine o_iconst P (3 : Int32) (hb hby dst_170) rfl (pc' := 171) rfl ?_
              refine o_aloadN P (hb hby dst_171) rfl rfl (pc' := 172) rfl ?_
              refine o_iconst P (3 : Int32) (hb hby dst_172) rfl (pc' := 173) rfl ?_
              refine o_caload P (v := (.int c3)) A_ar (by decide) rfl (hb hby dst_173) (pc' := 174) rfl ?_
              refine o_castore P (v := (.int c3)) A_b2 (List.Mem.head _) (by decide) (of_decide_eq_true rfl) (congrArg Value.int (o_nar_char (o_c16 l3))) (hb hby dst_174) (pc' := 175) rfl ?_
              clear P; clear A_b2; intro T h6 P W6 A_b2
              replace F_st := F_st.oth W6 ne_st_b2
              replace A_ar := A_ar.oth W6 ne_ar_b2
              clear W6
              replace A_b2 : OArr Z h6 b2 .char [(.int c0), (.int c1), (.int c2), (.int c3), (.int 0)] := A_b2
              refine o_dup P (hb hby dst_175) rfl (pc' := 176) rfl ?_
              refine o_iconst P (4 : Int32) (hb hby dst_176) rfl (pc' := 177) rfl ?_
              refine o_aloadN P (hb hby dst_177) rfl rfl (pc' := 178) rfl ?_
              refine o_iconst P (4 : Int32) (hb hby dst_178) rfl (pc' := 179) rfl ?_
              refine o_caload P (v := (.int c4)) A_ar (by decide) rfl (hb hby dst_179) (pc' := 180) rfl ?_
              refine o_castore P (v := (.int c4)) A_b2 (List.Mem.head _) (by decide) (of_decide_eq_true rfl) (congrArg Value.int (o_nar_char (o_c16 l4))) (hb hby dst_180) (pc' := 181) rfl ?_
              clear P; clear A_b2; intro T h7 P W7 A_b2
              replace F_st := F_st.oth W7 ne_st_b2
              replace A_ar := A_ar.oth W7 ne_ar_b2
              clear W7
              replace A_b2 : OArr Z h7 b2 .char [(.int c0), (.int c1), (.int c2), (.int c3), (.int c4)] := A_b2
              refine o_callI P (W := 1) (a := st) rfl (ow hw 53 rfl) (ow hw 54 rfl) (ow hw 1 rfl) (ow hw 55 rfl) (by decide) (ct_init1 l Z a0 hw EL n0 st b2 [c0, c1, c2, c3, c4] cv hcs hcv h7 F_st A_b2 ne_st_b2 (OLat.cons l0 (OLat.cons l1 (OLat.cons l2 (OLat.cons l3 (OLat.cons l4 OLat.nil))))) (of_decide_eq_true rfl) (of_decide_eq_true rfl)) (o_sfS (List.Mem.tail _ (List.Mem.head _)) o_sf0) (by rw [hml]; rfl) (by decide) (by decide) (argsL := [(.ref b2)]) (rest := [(.ref st)]) (lenOf pd_14 rfl) rfl rfl (Nat.le_of_eq rfl) (hb hby dst_181) (pc' := 184) rfl (by decide) (by decide) ?_
              clear P; intro T h8 v8 P K8 q8
              obtain ⟨rfl, b, G⟩ := q8
              show OG p e below m _ T 184 #[.val (.ref ar), .val (.int n)] [(.ref st)]
              exact o_retA P hret rfl rfl rfl (hb hby dst_184) (by decide) (by decide) ⟨st, b, _, rfl, G⟩
          · have hz_st := P.keep0.1
            refine o_new P [("java/lang/String", "value", "[B", .null), ("java/lang/String", "coder", "B", (.int (0 : Int32)))] (ow hw 52 rfl) (ow hw 2 rfl) (ow hw 1 rfl) (OLd.cons (Or.inr (ow hw 4 rfl)) (ty := (.array .byte)) (by decide) rfl (OLd.cons (Or.inr (ow hw 5 rfl)) (ty := .byte) (by decide) rfl OLd.nil)) (by decide +kernel) (hb hby dst_104) (pc' := 107) rfl (by decide) (by decide) ?_
            clear P; intro T h1 st P K1 hb_st F_st
            have sz_st := Nat.le_trans hz_st hb_st
            clear hz_st
            have ne_ar_st : ar ≠ st := Nat.ne_of_lt (Nat.lt_of_lt_of_le A_ar.lt hb_st)
            replace A_ar := A_ar.keep K1 nin0
            clear K1
            refine o_dup P (hb hby dst_107) rfl (pc' := 108) rfl ?_
            refine o_iconst P (4 : Int32) (hb hby dst_108) rfl (pc' := 109) rfl ?_
            have hz_b2 := P.keep0.1
            refine o_newarr P (cap := 4) (ow hw 8 rfl) (hb hby dst_109) (by decide) (by decide) (by decide) (pc' := 111) rfl (by decide) (by decide) ?_
            clear P; intro T h2 b2 P K2 hb_b2 A_b2
            have sz_b2 := Nat.le_trans hz_b2 hb_b2
            clear hz_b2
            have ne_st_b2 : st ≠ b2 := Nat.ne_of_lt (Nat.lt_of_lt_of_le F_st.lt hb_b2)
            have ne_ar_b2 : ar ≠ b2 := Nat.ne_of_lt (Nat.lt_of_lt_of_le A_ar.lt hb_b2)
            replace F_st := F_st.keep K2 nin0
            replace A_ar := A_ar.keep K2 nin0
            clear K2
            replace A_b2 : OArr Z h2 b2 .char [(.int 0), (.int 0), (.int 0), (.int 0)] := A_b2
            refine o_dup P (hb hby dst_111) rfl (pc' := 112) rfl ?_
            refine o_iconst P (0 : Int32) (hb hby dst_112) rfl (pc' := 113) rfl ?_
            refine o_aloadN P (hb hby dst_113) rfl rfl (pc' := 114) rfl ?_
            refine o_iconst P (0 : Int32) (hb hby dst_114) rfl (pc' := 115) rfl ?_
            refine o_caload P (v := (.int c0)) A_ar (by decide) rfl (hb hby dst_115) (pc' := 116) rfl ?_
            refine o_castore P (v := (.int c0)) A_b2 (List.Mem.head _) (by decide) (of_decide_eq_true rfl) (congrArg Value.int (o_nar_char (o_c16 l0))) (hb hby dst_116) (pc' := 117) rfl ?_
            clear P; clear A_b2; intro T h3 P W3 A_b2
            replace F_st := F_st.oth W3 ne_st_b2
            replace A_ar := A_ar.oth W3 ne_ar_b2
            clear W3
            replace A_b2 : OArr Z h3 b2 .char [(.int c0), (.int 0), (.int 0), (.int 0)] := A_b2
            refine o_dup P (hb hby dst_117) rfl (pc' := 118) rfl ?_
            refine o_iconst P (1 : Int32) (hb hby dst_118) rfl (pc' := 119) rfl ?_
            refine o_aloadN P (hb hby dst_119) rfl rfl (pc' := 120) rfl ?_
            refine o_iconst P (1 : Int32) (hb hby dst_120) rfl (pc' := 121) rfl ?_
            refine o_caload P (v := (.int c1)) A_ar (by decide) rfl (hb hby dst_121) (pc' := 122) rfl ?_
            refine o_castore P (v := (.int c1)) A_b2 (List.Mem.head _) (by decide) (of_decide_eq_true rfl) (congrArg Value.int (o_nar_char (o_c16 l1))) (hb hby dst_122) (pc' := 123) rfl ?_
            clear P; clear A_b2; intro T h4 P W4 A_b2
            replace F_st := F_st.oth W4 ne_st_b2
            replace A_ar := A_ar.oth W4 ne_ar_b2
            clear W4
            replace A_b2 : OArr Z h4 b2 .char [(.int c0), (.int c1), (.int 0), (.int 0)] := A_b2
            refine o_dup P (hb hby dst_123) rfl (pc' := 124) rfl ?_
            refine o_iconst P (2 : Int32) (hb hby dst_124) rfl (pc' := 125) rfl ?_
            refine o_aloadN P (hb hby dst_125) rfl rfl (pc' := 126) rfl ?_
            refine o_iconst P (2 : Int32) (hb hby dst_126) rfl (pc' := 127) rfl ?_
            refine o_caload P (v := (.int c2)) A_ar (by decide) rfl (hb hby dst_127) (pc' := 128) rfl ?_
            refine o_castore P (v := (.int c2)) A_b2 (List.Mem.head _) (by decide) (of_decide_eq_true rfl) (congrArg Value.int (o_nar_char (o_c16 l2))) (hb hby dst_128) (pc' := 129) rfl ?_
            clear P; clear A_b2; intro T h5 P W5 A_b2
            replace F_st := F_st.oth W5 ne_st_b2
            replace A_ar := A_ar.oth W5 ne_ar_b2
            clear W5
            replace A_b2 : OArr Z h5 b2 .char [(.int c0), (.int c1), (.int c2), (.int 0)] := A_b2
            refine o_dup P (hb hby dst_129) rfl (pc' := 130) rfl ?_
            refine o_iconst P (3 : Int32) (hb hby dst_130) rfl (pc' := 131) rfl ?_
            refine o_aloadN P (hb hby dst_131) rfl rfl (pc' := 132) rfl ?_
            refine o_iconst P (3 : Int32) (hb hby dst_132) rfl (pc' := 133) rfl ?_
            refine o_caload P (v := (.int c3)) A_ar (by decide) rfl (hb hby dst_133) (pc' := 134) rfl ?_
            refine o_castore P (v := (.int c3)) A_b2 (List.Mem.head _) (by decide) (of_decide_eq_true rfl) (congrArg Value.int (o_nar_char (o_c16 l3))) (hb hby dst_134) (pc' := 135) rfl ?_
            clear P; clear A_b2; intro T h6 P W6 A_b2
            replace F_st := F_st.oth W6 ne_st_b2
            replace A_ar := A_ar.oth W6 ne_ar_b2
            clear W6
            replace A_b2 : OArr Z h6 b2 .char [(.int c0), (.int c1), (.int c2), (.int c3)] := A_b2
            refine o_callI P (W := 1) (a := st) rfl (ow hw 53 rfl) (ow hw 54 rfl) (ow hw 1 rfl) (ow hw 55 rfl) (by decide) (ct_init1 l Z a0 hw EL n0 st b2 [c0, c1, c2, c3] cv hcs hcv h6 F_st A_b2 ne_st_b2 (OLat.cons l0 (OLat.cons l1 (OLat.cons l2 (OLat.cons l3 OLat.nil)))) (of_decide_eq_true rfl) (of_decide_eq_true rfl)) (o_sfS (List.Mem.tail _ (List.Mem.head _)) o_sf0) (by rw [hml]; rfl) (by decide) (by decide) (argsL := [(.ref b2)]) (rest := [(.ref st)]) (lenOf pd_14 rfl) rfl rfl (Nat.le_of_eq rfl) (hb hby dst_135) (pc' := 138) rfl (by decide) (by decide) ?_
            clear P; intro T h7 v7 P K7 q7
            obtain ⟨rfl, b, G⟩ := q7
            show OG p e below m _ T 138 #[.val (.ref ar), .val (.int n)] [(.ref st)]
            exact o_retA P hret rfl rfl rfl (hb hby dst_138) (by decide) (by decide) ⟨st, b, _, rfl, G⟩
        · have hz_st := P.keep0.1
          refine o_new P [("java/lang/String", "value", "[B", .null), ("java/lang/String", "coder", "B", (.int (0 : Int32)))] (ow hw 52 rfl) (ow hw 2 rfl) (ow hw 1 rfl) (OLd.cons (Or.inr (ow hw 4 rfl)) (ty := (.array .byte)) (by decide) rfl (OLd.cons (Or.inr (ow hw 5 rfl)) (ty := .byte) (by decide) rfl OLd.nil)) (by decide +kernel) (hb hby dst_70) (pc' := 73) rfl (by decide) (by decide) ?_
          clear P; intro T h1 st P K1 hb_st F_st
          have sz_st := Nat.le_trans hz_st hb_st
          clear hz_st
          have ne_ar_st : ar ≠ st := Nat.ne_of_lt (Nat.lt_of_lt_of_le A_ar.lt hb_st)
          replace A_ar := A_ar.keep K1 nin0
          clear K1
          refine o_dup P (hb hby dst_73) rfl (pc' := 74) rfl ?_
          refine o_iconst P (3 : Int32) (hb hby dst_74) rfl (pc' := 75) rfl ?_
          have hz_b2 := P.keep0.1
          refine o_newarr P (cap := 3) (ow hw 8 rfl) (hb hby dst_75) (by decide) (by decide) (by decide) (pc' := 77) rfl (by decide) (by decide) ?_
          clear P; intro T h2 b2 P K2 hb_b2 A_b2
          have sz_b2 := Nat.le_trans hz_b2 hb_b2
          clear hz_b2
          have ne_st_b2 : st ≠ b2 := Nat.ne_of_lt (Nat.lt_of_lt_of_le F_st.lt hb_b2)
          have ne_ar_b2 : ar ≠ b2 := Nat.ne_of_lt (Nat.lt_of_lt_of_le A_ar.lt hb_b2)
          replace F_st := F_st.keep K2 nin0
          replace A_ar := A_ar.keep K2 nin0
          clear K2
          replace A_b2 : OArr Z h2 b2 .char [(.int 0), (.int 0), (.int 0)] := A_b2
          refine o_dup P (hb hby dst_77) rfl (pc' := 78) rfl ?_
          refine o_iconst P (0 : Int32) (hb hby dst_78) rfl (pc' := 79) rfl ?_
          refine o_aloadN P (hb hby dst_79) rfl rfl (pc' := 80) rfl ?_
          refine o_iconst P (0 : Int32) (hb hby dst_80) rfl (pc' := 81) rfl ?_
          refine o_caload P (v := (.int c0)) A_ar (by decide) rfl (hb hby dst_81) (pc' := 82) rfl ?_
          refine o_castore P (v := (.int c0)) A_b2 (List.Mem.head _) (by decide) (of_decide_eq_true rfl) (congrArg Value.int (o_nar_char (o_c16 l0))) (hb hby dst_82) (pc' := 83) rfl ?_
          clear P; clear A_b2; intro T h3 P W3 A_b2
          replace F_st := F_st.oth W3 ne_st_b2
          replace A_ar := A_ar.oth W3 ne_ar_b2
          clear W3
          replace A_b2 : OArr Z h3 b2 .char [(.int c0), (.int 0), (.int 0)] := A_b2
          refine o_dup P (hb hby dst_83) rfl (pc' := 84) rfl ?_
          refine o_iconst P (1 : Int32) (hb hby dst_84) rfl (pc' := 85) rfl ?_
          refine o_aloadN P (hb hby dst_85) rfl rfl (pc' := 86) rfl ?_
          refine o_iconst P (1 : Int32) (hb hby dst_86) rfl (pc' := 87) rfl ?_
          refine o_caload P (v := (.int c1)) A_ar (by decide) rfl (hb hby dst_87) (pc' := 88) rfl ?_
          refine o_castore P (v := (.int c1)) A_b2 (List.Mem.head _) (by decide) (of_decide_eq_true rfl) (congrArg Value.int (o_nar_char (o_c16 l1))) (hb hby dst_88) (pc' := 89) rfl ?_
          clear P; clear A_b2; intro T h4 P W4 A_b2
          replace F_st := F_st.oth W4 ne_st_b2
          replace A_ar := A_ar.oth W4 ne_ar_b2
          clear W4
          replace A_b2 : OArr Z h4 b2 .char [(.int c0), (.int c1), (.int 0)] := A_b2
          refine o_dup P (hb hby dst_89) rfl (pc' := 90) rfl ?_
          refine o_iconst P (2 : Int32) (hb hby dst_90) rfl (pc' := 91) rfl ?_
          refine o_aloadN P (hb hby dst_91) rfl rfl (pc' := 92) rfl ?_
          refine o_iconst P (2 : Int32) (hb hby dst_92) rfl (pc' := 93) rfl ?_
          refine o_caload P (v := (.int c2)) A_ar (by decide) rfl (hb hby dst_93) (pc' := 94) rfl ?_
          refine o_castore P (v := (.int c2)) A_b2 (List.Mem.head _) (by decide) (of_decide_eq_true rfl) (congrArg Value.int (o_nar_char (o_c16 l2))) (hb hby dst_94) (pc' := 95) rfl ?_
          clear P; clear A_b2; intro T h5 P W5 A_b2
          replace F_st := F_st.oth W5 ne_st_b2
          replace A_ar := A_ar.oth W5 ne_ar_b2
          clear W5
          replace A_b2 : OArr Z h5 b2 .char [(.int c0), (.int c1), (.int c2)] := A_b2
          refine o_callI P (W := 1) (a := st) rfl (ow hw 53 rfl) (ow hw 54 rfl) (ow hw 1 rfl) (ow hw 55 rfl) (by decide) (ct_init1 l Z a0 hw EL n0 st b2 [c0, c1, c2] cv hcs hcv h5 F_st A_b2 ne_st_b2 (OLat.cons l0 (OLat.cons l1 (OLat.cons l2 OLat.nil))) (of_decide_eq_true rfl) (of_decide_eq_true rfl)) (o_sfS (List.Mem.tail _ (List.Mem.head _)) o_sf0) (by rw [hml]; rfl) (by decide) (by decide) (argsL := [(.ref b2)]) (rest := [(.ref st)]) (lenOf pd_14 rfl) rfl rfl (Nat.le_of_eq rfl) (hb hby dst_95) (pc' := 98) rfl (by decide) (by decide) ?_
          clear P; intro T h6 v6 P K6 q6
          obtain ⟨rfl, b, G⟩ := q6
          show OG p e below m _ T 98 #[.val (.ref ar), .val (.int n)] [(.ref st)]
          exact o_retA P hret rfl rfl rfl (hb hby dst_98) (by decide) (by decide) ⟨st, b, _, rfl, G⟩
      · have hz_st := P.keep0.1
        refine o_new P [("java/lang/String", "value", "[B", .null), ("java/lang/String", "coder", "B", (.int (0 : Int32)))] (ow hw 52 rfl) (ow hw 2 rfl) (ow hw 1 rfl) (OLd.cons (Or.inr (ow hw 4 rfl)) (ty := (.array .byte)) (by decide) rfl (OLd.cons (Or.inr (ow hw 5 rfl)) (ty := .byte) (by decide) rfl OLd.nil)) (by decide +kernel) (hb hby dst_42) (pc' := 45) rfl (by decide) (by decide) ?_
        clear P; intro T h1 st P K1 hb_st F_st
        have sz_st := Nat.le_trans hz_st hb_st
        clear hz_st
        have ne_ar_st : ar ≠ st := Nat.ne_of_lt (Nat.lt_of_lt_of_le A_ar.lt hb_st)
        replace A_ar := A_ar.keep K1 nin0
        clear K1
        refine o_dup P (hb hby dst_45) rfl (pc' := 46) rfl ?_
        refine o_iconst P (2 : Int32) (hb hby dst_46) rfl (pc' := 47) rfl ?_
        have hz_b2 := P.keep0.1
        refine o_newarr P (cap := 2) (ow hw 8 rfl) (hb hby dst_47) (by decide) (by decide) (by decide) (pc' := 49) rfl (by decide) (by decide) ?_
        clear P; intro T h2 b2 P K2 hb_b2 A_b2
        have sz_b2 := Nat.le_trans hz_b2 hb_b2
        clear hz_b2
        have ne_st_b2 : st ≠ b2 := Nat.ne_of_lt (Nat.lt_of_lt_of_le F_st.lt hb_b2)
        have ne_ar_b2 : ar ≠ b2 := Nat.ne_of_lt (Nat.lt_of_lt_of_le A_ar.lt hb_b2)
        replace F_st := F_st.keep K2 nin0
        replace A_ar := A_ar.keep K2 nin0
        clear K2
        replace A_b2 : OArr Z h2 b2 .char [(.int 0), (.int 0)] := A_b2
        refine o_dup P (hb hby dst_49) rfl (pc' := 50) rfl ?_
        refine o_iconst P (0 : Int32) (hb hby dst_50) rfl (pc' := 51) rfl ?_
        refine o_aloadN P (hb hby dst_51) rfl rfl (pc' := 52) rfl ?_
        refine o_iconst P (0 : Int32) (hb hby dst_52) rfl (pc' := 53) rfl ?_
        refine o_caload P (v := (.int c0)) A_ar (by decide) rfl (hb hby dst_53) (pc' := 54) rfl ?_
        refine o_castore P (v := (.int c0)) A_b2 (List.Mem.head _) (by decide) (of_decide_eq_true rfl) (congrArg Value.int (o_nar_char (o_c16 l0))) (hb hby dst_54) (pc' := 55) rfl ?_
        clear P; clear A_b2; intro T h3 P W3 A_b2
        replace F_st := F_st.oth W3 ne_st_b2
        replace A_ar := A_ar.oth W3 ne_ar_b2
        clear W3
        replace A_b2 : OArr Z h3 b2 .char [(.int c0), (.int 0)] := A_b2
        refine o_dup P (hb hby dst_55) rfl (pc' := 56) rfl ?_
        refine o_iconst P (1 : Int32) (hb hby dst_56) rfl (pc' := 57) rfl ?_
        refine o_aloadN P (hb hby dst_57) rfl rfl (pc' := 58) rfl ?_
        refine o_iconst P (1 : Int32) (hb hby dst_58) rfl (pc' := 59) rfl ?_
        refine o_caload P (v := (.int c1)) A_ar (by decide) rfl (hb hby dst_59) (pc' := 60) rfl ?_
        refine o_castore P (v := (.int c1)) A_b2 (List.Mem.head _) (by decide) (of_decide_eq_true rfl) (congrArg Value.int (o_nar_char (o_c16 l1))) (hb hby dst_60) (pc' := 61) rfl ?_
        clear P; clear A_b2; intro T h4 P W4 A_b2
        replace F_st := F_st.oth W4 ne_st_b2
        replace A_ar := A_ar.oth W4 ne_ar_b2
        clear W4
        replace A_b2 : OArr Z h4 b2 .char [(.int c0), (.int c1)] := A_b2
        refine o_callI P (W := 1) (a := st) rfl (ow hw 53 rfl) (ow hw 54 rfl) (ow hw 1 rfl) (ow hw 55 rfl) (by decide) (ct_init1 l Z a0 hw EL n0 st b2 [c0, c1] cv hcs hcv h4 F_st A_b2 ne_st_b2 (OLat.cons l0 (OLat.cons l1 OLat.nil)) (of_decide_eq_true rfl) (of_decide_eq_true rfl)) (o_sfS (List.Mem.tail _ (List.Mem.head _)) o_sf0) (by rw [hml]; rfl) (by decide) (by decide) (argsL := [(.ref b2)]) (rest := [(.ref st)]) (lenOf pd_14 rfl) rfl rfl (Nat.le_of_eq rfl) (hb hby dst_61) (pc' := 64) rfl (by decide) (by decide) ?_
        clear P; intro T h5 v5 P K5 q5
        obtain ⟨rfl, b, G⟩ := q5
        show OG p e below m _ T 64 #[.val (.ref ar), .val (.int n)] [(.ref st)]
        exact o_retA P hret rfl rfl rfl (hb hby dst_64) (by decide) (by decide) ⟨st, b, _, rfl, G⟩
    · have hz_st := P.keep0.1
      refine o_new P [("java/lang/String", "value", "[B", .null), ("java/lang/String", "coder", "B", (.int (0 : Int32)))] (ow hw 52 rfl) (ow hw 2 rfl) (ow hw 1 rfl) (OLd.cons (Or.inr (ow hw 4 rfl)) (ty := (.array .byte)) (by decide) rfl (OLd.cons (Or.inr (ow hw 5 rfl)) (ty := .byte) (by decide) rfl OLd.nil)) (by decide +kernel) (hb hby dst_20) (pc' := 23) rfl (by decide) (by decide) ?_
      clear P; intro T h1 st P K1 hb_st F_st
      have sz_st := Nat.le_trans hz_st hb_st
      clear hz_st
      have ne_ar_st : ar ≠ st := Nat.ne_of_lt (Nat.lt_of_lt_of_le A_ar.lt hb_st)
      replace A_ar := A_ar.keep K1 nin0
      clear K1
      refine o_dup P (hb hby dst_23) rfl (pc' := 24) rfl ?_
      refine o_iconst P (1 : Int32) (hb hby dst_24) rfl (pc' := 25) rfl ?_
      have hz_b2 := P.keep0.1
      refine o_newarr P (cap := 1) (ow hw 8 rfl) (hb hby dst_25) (by decide) (by decide) (by decide) (pc' := 27) rfl (by decide) (by decide) ?_
      clear P; intro T h2 b2 P K2 hb_b2 A_b2
      have sz_b2 := Nat.le_trans hz_b2 hb_b2
      clear hz_b2
      have ne_st_b2 : st ≠ b2 := Nat.ne_of_lt (Nat.lt_of_lt_of_le F_st.lt hb_b2)
      have ne_ar_b2 : ar ≠ b2 := Nat.ne_of_lt (Nat.lt_of_lt_of_le A_ar.lt hb_b2)
      replace F_st := F_st.keep K2 nin0
      replace A_ar := A_ar.keep K2 nin0
      clear K2
      replace A_b2 : OArr Z h2 b2 .char [(.int 0)] := A_b2
      refine o_dup P (hb hby dst_27) rfl (pc' := 28) rfl ?_
      refine o_iconst P (0 : Int32) (hb hby dst_28) rfl (pc' := 29) rfl ?_
      refine o_aloadN P (hb hby dst_29) rfl rfl (pc' := 30) rfl ?_
      refine o_iconst P (0 : Int32) (hb hby dst_30) rfl (pc' := 31) rfl ?_
      refine o_caload P (v := (.int c0)) A_ar (by decide) rfl (hb hby dst_31) (pc' := 32) rfl ?_
      refine o_castore P (v := (.int c0)) A_b2 (List.Mem.head _) (by decide) (of_decide_eq_true rfl) (congrArg Value.int (o_nar_char (o_c16 l0))) (hb hby dst_32) (pc' := 33) rfl ?_
      clear P; clear A_b2; intro T h3 P W3 A_b2
      replace F_st := F_st.oth W3 ne_st_b2
      replace A_ar := A_ar.oth W3 ne_ar_b2
      clear W3
      replace A_b2 : OArr Z h3 b2 .char [(.int c0)] := A_b2
      refine o_callI P (W := 1) (a := st) rfl (ow hw 53 rfl) (ow hw 54 rfl) (ow hw 1 rfl) (ow hw 55 rfl) (by decide) (ct_init1 l Z a0 hw EL n0 st b2 [c0] cv hcs hcv h3 F_st A_b2 ne_st_b2 (OLat.cons l0 OLat.nil) (of_decide_eq_true rfl) (of_decide_eq_true rfl)) (o_sfS (List.Mem.tail _ (List.Mem.head _)) o_sf0) (by rw [hml]; rfl) (by decide) (by decide) (argsL := [(.ref b2)]) (rest := [(.ref st)]) (lenOf pd_14 rfl) rfl rfl (Nat.le_of_eq rfl) (hb hby dst_33) (pc' := 36) rfl (by decide) (by decide) ?_
      clear P; intro T h4 v4 P K4 q4
      obtain ⟨rfl, b, G⟩ := q4
      show OG p e below m _ T 36 #[.val (.ref ar), .val (.int n)] [(.ref st)]
      exact o_retA P hret rfl rfl rfl (hb hby dst_36) (by decide) (by decide) ⟨st, b, _, rfl, G⟩
  · have hz_st := P.keep0.1
    refine o_new P [("java/lang/String", "value", "[B", .null), ("java/lang/String", "coder", "B", (.int (0 : Int32)))] (ow hw 52 rfl) (ow hw 2 rfl) (ow hw 1 rfl) (OLd.cons (Or.inr (ow hw 4 rfl)) (ty := (.array .byte)) (by decide) rfl (OLd.cons (Or.inr (ow hw 5 rfl)) (ty := .byte) (by decide) rfl OLd.nil)) (by decide +kernel) (hb hby dst_4) (pc' := 7) rfl (by decide) (by decide) ?_
    clear P; intro T h1 st P K1 hb_st F_st
    have sz_st := Nat.le_trans hz_st hb_st
    clear hz_st
    have ne_ar_st : ar ≠ st := Nat.ne_of_lt (Nat.lt_of_lt_of_le A_ar.lt hb_st)
    replace A_ar := A_ar.keep K1 nin0
    clear K1
    refine o_dup P (hb hby dst_7) rfl (pc' := 8) rfl ?_
    refine o_iconst P (0 : Int32) (hb hby dst_8) rfl (pc' := 9) rfl ?_
    have hz_b2 := P.keep0.1
    refine o_newarr P (cap := 0) (ow hw 8 rfl) (hb hby dst_9) (by decide) (by decide) (by decide) (pc' := 11) rfl (by decide) (by decide) ?_
    clear P; intro T h2 b2 P K2 hb_b2 A_b2
    have sz_b2 := Nat.le_trans hz_b2 hb_b2
    clear hz_b2
    have ne_st_b2 : st ≠ b2 := Nat.ne_of_lt (Nat.lt_of_lt_of_le F_st.lt hb_b2)
    have ne_ar_b2 : ar ≠ b2 := Nat.ne_of_lt (Nat.lt_of_lt_of_le A_ar.lt hb_b2)
    replace F_st := F_st.keep K2 nin0
    replace A_ar := A_ar.keep K2 nin0
    clear K2
    replace A_b2 : OArr Z h2 b2 .char [] := A_b2
    refine o_callI P (W := 1) (a := st) rfl (ow hw 53 rfl) (ow hw 54 rfl) (ow hw 1 rfl) (ow hw 55 rfl) (by decide) (ct_init0 l Z a0 hw EL n0 st b2 h2 F_st A_b2 ne_st_b2 hmem) (o_sfS (List.Mem.tail _ (List.Mem.head _)) o_sf0) (by rw [hml]; rfl) (by decide) (by decide) (argsL := [(.ref b2)]) (rest := [(.ref st)]) (lenOf pd_14 rfl) rfl rfl (Nat.le_of_eq rfl) (hb hby dst_11) (pc' := 14) rfl (by decide) (by decide) ?_
    clear P; intro T h3 v3 P K3 q3
    obtain ⟨rfl, b, G⟩ := q3
    show OG p e below m _ T 14 #[.val (.ref ar), .val (.int n)] [(.ref st)]
    exact o_retA P hret rfl rfl rfl (hb hby dst_14) (by decide) (by decide) ⟨st, b, _, rfl, G⟩
set_option maxRecDepth 65536 in
set_option maxHeartbeats 40000000 in
theorem law247 {p : Program} {e : Env} {s : State} {m : MethodId} {args : Array Value} {below : List Frame} {meth : Method} {c : Code} {T : State} {n0 : Nat} {h0 : Heap} {Ow : List Addr} (l : Launch) (Z : State) (a0 : Array Value) (hw : ∀ d ∈ tables_1, d.before a0 Z = true) (EL : List (String × Nat)) (hby : c.code = code) (hml : c.maxLocals = maxLocals) (hret : meth.sig.returnType = ret) (i0 i1 i2 i3 : Int32) (i4 : Int64) (kd : Int32) (t : Addr) (nl md n pp : Int32) (ar st x : Addr) (us : List Int32) (G : OStr Z h0 st x (och us)) (k0 k1 k2 : Addr) (va : Addr) (hva : Sta Z Z.heap "com/example/busca/busca/analysis/Analyzer" "$VALUES" "[Lcom/example/busca/busca/analysis/Analyzer;" (.ref va)) (Eva : Exa Z Z.heap va "[Lcom/example/busca/busca/analysis/Analyzer;") (Ava : OArr Z Z.heap va (.object "com/example/busca/busca/analysis/Analyzer") [.ref k0, .ref k1, .ref k2]) (u0 w0 : Addr) (hk0 : Sta Z Z.heap "com/example/busca/busca/analysis/Analyzer" "PLAIN" "Lcom/example/busca/busca/analysis/Analyzer;" (.ref k0)) (Fk0 : OObj Z Z.heap k0 "com/example/busca/busca/analysis/Analyzer" [("com/example/busca/busca/analysis/Analyzer", "analyzerName", "Ljava/lang/String;", (.ref u0))]) (Gu0 : OStr Z Z.heap u0 w0 (och [112, 108, 97, 105, 110])) (u1 w1 : Addr) (hk1 : Sta Z Z.heap "com/example/busca/busca/analysis/Analyzer" "PORTER" "Lcom/example/busca/busca/analysis/Analyzer;" (.ref k1)) (Fk1 : OObj Z Z.heap k1 "com/example/busca/busca/analysis/Analyzer" [("com/example/busca/busca/analysis/Analyzer", "analyzerName", "Ljava/lang/String;", (.ref u1))]) (Gu1 : OStr Z Z.heap u1 w1 (och [112, 111, 114, 116, 101, 114])) (u2 w2 : Addr) (hk2 : Sta Z Z.heap "com/example/busca/busca/analysis/Analyzer" "ENGLISH" "Lcom/example/busca/busca/analysis/Analyzer;" (.ref k2)) (Fk2 : OObj Z Z.heap k2 "com/example/busca/busca/analysis/Analyzer" [("com/example/busca/busca/analysis/Analyzer", "analyzerName", "Ljava/lang/String;", (.ref u2))]) (Gu2 : OStr Z Z.heap u2 w2 (och [101, 110, 103, 108, 105, 115, 104])) (cv : Int32) (hcs : Sta Z Z.heap "java/lang/String" "COMPACT_STRINGS" "Z" (.int cv)) (hcv : ¬ cv = 0) (fv : Value) (hfv : Sta Z Z.heap "jdk/internal/util/Preconditions" "SIOOBE_FORMATTER" "Ljava/util/function/BiFunction;" fv) (hfr : fv.isRef = true) (hm7 : ("com/example/busca/busca/analysis/AnalyzerNamedPinLaw", 7) ∈ EL) (hm9 : ("com/example/busca/busca/analysis/AnalyzerNamedPinLaw", 9) ∈ EL) (hm11 : ("com/example/busca/busca/analysis/AnalyzerNamedPinLaw", 11) ∈ EL) (hm13 : ("com/example/busca/busca/analysis/AnalyzerNamedPinLaw", 13) ∈ EL) (hmem : ("java/lang/String", 7) ∈ EL) (P : OPn p l e room_1 s m args below meth c Z a0 EL n0 [] "com/example/busca/busca/analysis/AnalyzerNamedPinLaw" T h0 Ow 9 72) :
    OG p e below m (OFq Z EL n0 s [] room_1 (fun w vm h => w = some (.int 1))) T 247 #[.val (.int i0), .val (.int i1), .val (.int i2), .val (.int i3), .val (.long i4), .second, .val (.int kd), .val (.ref t), .val (.ref ar), .val (.int nl), .val (.int md), .val (.int n), .val (.int pp), .val (.ref st), .unset] [] := by
  have F_st := G.1
  refine o_aload P (hb hby at_247) rfl rfl (pc' := 249) rfl ?_
  refine o_ldcS P (n := 20) (vs := och [112, 108, 97, 105, 110]) (ow hw 0 rfl) (own_wS hw) hm7 (Or.inr (ow hw 4 rfl)) (Or.inr (ow hw 5 rfl)) ⟨by decide, by decide +kernel⟩ (5 : Int32) (by decide) rfl (hb hby at_249) (pc' := 251) rfl (by decide) (by decide) (by decide) (by decide) ?_
  clear P; intro T h1 e0 f0 P K1 G_e0 _
  replace G := G.keep K1 nin0 nin0
  replace F_st := F_st.keep K1 nin0
  clear K1
  refine o_callV P (W := 0) (x := (⟨"java/lang/String", "equals", "(Ljava/lang/Object;)Z"⟩ : MethodName)) (y := (⟨"java/lang/String", "equals", "(Ljava/lang/Object;)Z"⟩ : MethodName)) (a := st) (ow hw 64 rfl) (ow hw 65 rfl) (o_nfSel (y := (⟨"java/lang/String", "equals", "(Ljava/lang/Object;)Z"⟩ : MethodName)) rfl (ow hw 67 rfl)) (ow hw 67 rfl) (ow hw 66 rfl) (ow hw 1 rfl) (ow hw 68 rfl) (by decide) F_st.exa (ct_eq l Z a0 hw EL n0 st e0 x f0 us [112, 108, 97, 105, 110] cv hcs hcv h1 G G_e0) o_sf0 (by rw [hml]; rfl) (by decide) (by decide) (argsL := [(.ref e0)]) (rest := []) (lenOf pd_11 rfl) rfl rfl (Nat.le_of_eq rfl) (hb hby at_251) (pc' := 254) rfl (by decide) (by decide) ?_
  clear P; intro T h2 v2 P K2 q2
  obtain ⟨rfl, rfl⟩ := q2; clear K2
  by_cases hu0 : us = [112, 108, 97, 105, 110]
  · rw [if_pos hu0]
    show OG p e below m _ T 254 #[.val (.int i0), .val (.int i1), .val (.int i2), .val (.int i3), .val (.long i4), .second, .val (.int kd), .val (.ref t), .val (.ref ar), .val (.int nl), .val (.int md), .val (.int n), .val (.int pp), .val (.ref st), .unset] [(.int (1 : Int32))]
    refine o_if_eq P (hb hby at_254) (by decide) (pc' := 263) (by decide) (pcf := 257) rfl (fun q => absurd q (by decide)) (fun _ => ?_)
    refine o_getS P (ow hw 115 rfl) Via.refl hk0 (hb hby at_257) (pc' := 260) rfl ?_
    clear P; intro T P
    refine o_goto P (hb hby at_260) (by decide) (pc' := 296) (by decide) ?_
    refine o_astore P (hb hby at_296) rfl (L' := #[.val (.int i0), .val (.int i1), .val (.int i2), .val (.int i3), .val (.long i4), .second, .val (.int kd), .val (.ref t), .val (.ref ar), .val (.int nl), .val (.int md), .val (.int n), .val (.int pp), .val (.ref st), .val (.ref k0)]) rfl (pc' := 298) rfl ?_
    refine o_aload P (hb hby at_298) rfl rfl (pc' := 300) rfl ?_
    refine o_callS P (W := 0) (ow hw 75 rfl) (ow hw 76 rfl) (ow hw 77 rfl) (ow hw 78 rfl) (by decide) (ct_findR l Z a0 hw EL n0 k0 k1 k2 va hva Eva Ava u0 w0 hk0 Fk0 Gu0 u1 w1 hk1 Fk1 Gu1 u2 w2 hk2 Fk2 Gu2 cv hcs hcv st x us h2 G) o_sf0 (by rw [hml]; rfl) (by decide) (by decide) (argsL := [(.ref st)]) (rest := []) (lenOf pd_15 rfl) rfl rfl (Nat.le_of_eq rfl) (hb hby at_300) (pc' := 303) rfl (by decide) (by decide) ?_
    clear P; intro T h3 v3 P K3 q3
    obtain ⟨rfl, -⟩ := q3
    rw [show (if (some us) = some [112, 108, 97, 105, 110] then .ref k0 else if (some us) = some [112, 111, 114, 116, 101, 114] then .ref k1 else if (some us) = some [101, 110, 103, 108, 105, 115, 104] then .ref k2 else .null : Value) = (.ref k0) from by simp [hu0]]
    show OG p e below m _ T 303 #[.val (.int i0), .val (.int i1), .val (.int i2), .val (.int i3), .val (.long i4), .second, .val (.int kd), .val (.ref t), .val (.ref ar), .val (.int nl), .val (.int md), .val (.int n), .val (.int pp), .val (.ref st), .val (.ref k0)] [(.ref k0)]
    refine o_aload P (hb hby at_303) rfl rfl (pc' := 305) rfl ?_
    refine o_acmp P true (hb hby at_305) rfl rfl (decide_eq_true rfl) (by decide) (pc' := 308) rfl ?_
    refine o_iconst P (1 : Int32) (hb hby at_308) rfl (pc' := 309) rfl ?_
    refine o_goto P (hb hby at_309) (by decide) (pc' := 313) (by decide) ?_
    exact o_retI P hret (by simp) rfl (hb hby at_313) (by decide) (by decide) rfl
  · rw [if_neg hu0]
    show OG p e below m _ T 254 #[.val (.int i0), .val (.int i1), .val (.int i2), .val (.int i3), .val (.long i4), .second, .val (.int kd), .val (.ref t), .val (.ref ar), .val (.int nl), .val (.int md), .val (.int n), .val (.int pp), .val (.ref st), .unset] [(.int (0 : Int32))]
    refine o_if_eq P (hb hby at_254) (by decide) (pc' := 263) (by decide) (pcf := 257) rfl (fun _ => ?_) (fun q => absurd (by decide) q)
    refine o_aload P (hb hby at_263) rfl rfl (pc' := 265) rfl ?_
    refine o_ldcS P (n := 24) (vs := och [112, 111, 114, 116, 101, 114]) (ow hw 73 rfl) (own_wS hw) hm9 (Or.inr (ow hw 4 rfl)) (Or.inr (ow hw 5 rfl)) ⟨by decide, by decide +kernel⟩ (6 : Int32) (by decide) rfl (hb hby at_265) (pc' := 267) rfl (by decide) (by decide) (by decide) (by decide) ?_
    clear P; intro T h3 e1 f1 P K3 G_e1 _
    replace G := G.keep K3 nin0 nin0
    replace F_st := F_st.keep K3 nin0
    clear K3
    refine o_callV P (W := 0) (x := (⟨"java/lang/String", "equals", "(Ljava/lang/Object;)Z"⟩ : MethodName)) (y := (⟨"java/lang/String", "equals", "(Ljava/lang/Object;)Z"⟩ : MethodName)) (a := st) (ow hw 64 rfl) (ow hw 65 rfl) (o_nfSel (y := (⟨"java/lang/String", "equals", "(Ljava/lang/Object;)Z"⟩ : MethodName)) rfl (ow hw 67 rfl)) (ow hw 67 rfl) (ow hw 66 rfl) (ow hw 1 rfl) (ow hw 68 rfl) (by decide) F_st.exa (ct_eq l Z a0 hw EL n0 st e1 x f1 us [112, 111, 114, 116, 101, 114] cv hcs hcv h3 G G_e1) o_sf0 (by rw [hml]; rfl) (by decide) (by decide) (argsL := [(.ref e1)]) (rest := []) (lenOf pd_11 rfl) rfl rfl (Nat.le_of_eq rfl) (hb hby at_267) (pc' := 270) rfl (by decide) (by decide) ?_
    clear P; intro T h4 v4 P K4 q4
    obtain ⟨rfl, rfl⟩ := q4; clear K4
    by_cases hu1 : us = [112, 111, 114, 116, 101, 114]
    · rw [if_pos hu1]
      show OG p e below m _ T 270 #[.val (.int i0), .val (.int i1), .val (.int i2), .val (.int i3), .val (.long i4), .second, .val (.int kd), .val (.ref t), .val (.ref ar), .val (.int nl), .val (.int md), .val (.int n), .val (.int pp), .val (.ref st), .unset] [(.int (1 : Int32))]
      refine o_if_eq P (hb hby at_270) (by decide) (pc' := 279) (by decide) (pcf := 273) rfl (fun q => absurd q (by decide)) (fun _ => ?_)
      refine o_getS P (ow hw 116 rfl) Via.refl hk1 (hb hby at_273) (pc' := 276) rfl ?_
      clear P; intro T P
      refine o_goto P (hb hby at_276) (by decide) (pc' := 296) (by decide) ?_
      refine o_astore P (hb hby at_296) rfl (L' := #[.val (.int i0), .val (.int i1), .val (.int i2), .val (.int i3), .val (.long i4), .second, .val (.int kd), .val (.ref t), .val (.ref ar), .val (.int nl), .val (.int md), .val (.int n), .val (.int pp), .val (.ref st), .val (.ref k1)]) rfl (pc' := 298) rfl ?_
      refine o_aload P (hb hby at_298) rfl rfl (pc' := 300) rfl ?_
      refine o_callS P (W := 0) (ow hw 75 rfl) (ow hw 76 rfl) (ow hw 77 rfl) (ow hw 78 rfl) (by decide) (ct_findR l Z a0 hw EL n0 k0 k1 k2 va hva Eva Ava u0 w0 hk0 Fk0 Gu0 u1 w1 hk1 Fk1 Gu1 u2 w2 hk2 Fk2 Gu2 cv hcs hcv st x us h4 G) o_sf0 (by rw [hml]; rfl) (by decide) (by decide) (argsL := [(.ref st)]) (rest := []) (lenOf pd_15 rfl) rfl rfl (Nat.le_of_eq rfl) (hb hby at_300) (pc' := 303) rfl (by decide) (by decide) ?_
      clear P; intro T h5 v5 P K5 q5
      obtain ⟨rfl, -⟩ := q5
      rw [show (if (some us) = some [112, 108, 97, 105, 110] then .ref k0 else if (some us) = some [112, 111, 114, 116, 101, 114] then .ref k1 else if (some us) = some [101, 110, 103, 108, 105, 115, 104] then .ref k2 else .null : Value) = (.ref k1) from by simp [hu1]]
      show OG p e below m _ T 303 #[.val (.int i0), .val (.int i1), .val (.int i2), .val (.int i3), .val (.long i4), .second, .val (.int kd), .val (.ref t), .val (.ref ar), .val (.int nl), .val (.int md), .val (.int n), .val (.int pp), .val (.ref st), .val (.ref k1)] [(.ref k1)]
      refine o_aload P (hb hby at_303) rfl rfl (pc' := 305) rfl ?_
      refine o_acmp P true (hb hby at_305) rfl rfl (decide_eq_true rfl) (by decide) (pc' := 308) rfl ?_
      refine o_iconst P (1 : Int32) (hb hby at_308) rfl (pc' := 309) rfl ?_
      refine o_goto P (hb hby at_309) (by decide) (pc' := 313) (by decide) ?_
      exact o_retI P hret (by simp) rfl (hb hby at_313) (by decide) (by decide) rfl
    · rw [if_neg hu1]
      show OG p e below m _ T 270 #[.val (.int i0), .val (.int i1), .val (.int i2), .val (.int i3), .val (.long i4), .second, .val (.int kd), .val (.ref t), .val (.ref ar), .val (.int nl), .val (.int md), .val (.int n), .val (.int pp), .val (.ref st), .unset] [(.int (0 : Int32))]
      refine o_if_eq P (hb hby at_270) (by decide) (pc' := 279) (by decide) (pcf := 273) rfl (fun _ => ?_) (fun q => absurd (by decide) q)
      refine o_aload P (hb hby at_279) rfl rfl (pc' := 281) rfl ?_
      refine o_ldcS P (n := 28) (vs := och [101, 110, 103, 108, 105, 115, 104]) (ow hw 74 rfl) (own_wS hw) hm11 (Or.inr (ow hw 4 rfl)) (Or.inr (ow hw 5 rfl)) ⟨by decide, by decide +kernel⟩ (7 : Int32) (by decide) rfl (hb hby at_281) (pc' := 283) rfl (by decide) (by decide) (by decide) (by decide) ?_
      clear P; intro T h5 e2 f2 P K5 G_e2 _
      replace G := G.keep K5 nin0 nin0
      replace F_st := F_st.keep K5 nin0
      clear K5
      refine o_callV P (W := 0) (x := (⟨"java/lang/String", "equals", "(Ljava/lang/Object;)Z"⟩ : MethodName)) (y := (⟨"java/lang/String", "equals", "(Ljava/lang/Object;)Z"⟩ : MethodName)) (a := st) (ow hw 64 rfl) (ow hw 65 rfl) (o_nfSel (y := (⟨"java/lang/String", "equals", "(Ljava/lang/Object;)Z"⟩ : MethodName)) rfl (ow hw 67 rfl)) (ow hw 67 rfl) (ow hw 66 rfl) (ow hw 1 rfl) (ow hw 68 rfl) (by decide) F_st.exa (ct_eq l Z a0 hw EL n0 st e2 x f2 us [101, 110, 103, 108, 105, 115, 104] cv hcs hcv h5 G G_e2) o_sf0 (by rw [hml]; rfl) (by decide) (by decide) (argsL := [(.ref e2)]) (rest := []) (lenOf pd_11 rfl) rfl rfl (Nat.le_of_eq rfl) (hb hby at_283) (pc' := 286) rfl (by decide) (by decide) ?_
      clear P; intro T h6 v6 P K6 q6
      obtain ⟨rfl, rfl⟩ := q6; clear K6
      by_cases hu2 : us = [101, 110, 103, 108, 105, 115, 104]
      · rw [if_pos hu2]
        show OG p e below m _ T 286 #[.val (.int i0), .val (.int i1), .val (.int i2), .val (.int i3), .val (.long i4), .second, .val (.int kd), .val (.ref t), .val (.ref ar), .val (.int nl), .val (.int md), .val (.int n), .val (.int pp), .val (.ref st), .unset] [(.int (1 : Int32))]
        refine o_if_eq P (hb hby at_286) (by decide) (pc' := 295) (by decide) (pcf := 289) rfl (fun q => absurd q (by decide)) (fun _ => ?_)
        refine o_getS P (ow hw 117 rfl) Via.refl hk2 (hb hby at_289) (pc' := 292) rfl ?_
        clear P; intro T P
        refine o_goto P (hb hby at_292) (by decide) (pc' := 296) (by decide) ?_
        refine o_astore P (hb hby at_296) rfl (L' := #[.val (.int i0), .val (.int i1), .val (.int i2), .val (.int i3), .val (.long i4), .second, .val (.int kd), .val (.ref t), .val (.ref ar), .val (.int nl), .val (.int md), .val (.int n), .val (.int pp), .val (.ref st), .val (.ref k2)]) rfl (pc' := 298) rfl ?_
        refine o_aload P (hb hby at_298) rfl rfl (pc' := 300) rfl ?_
        refine o_callS P (W := 0) (ow hw 75 rfl) (ow hw 76 rfl) (ow hw 77 rfl) (ow hw 78 rfl) (by decide) (ct_findR l Z a0 hw EL n0 k0 k1 k2 va hva Eva Ava u0 w0 hk0 Fk0 Gu0 u1 w1 hk1 Fk1 Gu1 u2 w2 hk2 Fk2 Gu2 cv hcs hcv st x us h6 G) o_sf0 (by rw [hml]; rfl) (by decide) (by decide) (argsL := [(.ref st)]) (rest := []) (lenOf pd_15 rfl) rfl rfl (Nat.le_of_eq rfl) (hb hby at_300) (pc' := 303) rfl (by decide) (by decide) ?_
        clear P; intro T h7 v7 P K7 q7
        obtain ⟨rfl, -⟩ := q7
        rw [show (if (some us) = some [112, 108, 97, 105, 110] then .ref k0 else if (some us) = some [112, 111, 114, 116, 101, 114] then .ref k1 else if (some us) = some [101, 110, 103, 108, 105, 115, 104] then .ref k2 else .null : Value) = (.ref k2) from by simp [hu2]]
        show OG p e below m _ T 303 #[.val (.int i0), .val (.int i1), .val (.int i2), .val (.int i3), .val (.long i4), .second, .val (.int kd), .val (.ref t), .val (.ref ar), .val (.int nl), .val (.int md), .val (.int n), .val (.int pp), .val (.ref st), .val (.ref k2)] [(.ref k2)]
        refine o_aload P (hb hby at_303) rfl rfl (pc' := 305) rfl ?_
        refine o_acmp P true (hb hby at_305) rfl rfl (decide_eq_true rfl) (by decide) (pc' := 308) rfl ?_
        refine o_iconst P (1 : Int32) (hb hby at_308) rfl (pc' := 309) rfl ?_
        refine o_goto P (hb hby at_309) (by decide) (pc' := 313) (by decide) ?_
        exact o_retI P hret (by simp) rfl (hb hby at_313) (by decide) (by decide) rfl
      · rw [if_neg hu2]
        show OG p e below m _ T 286 #[.val (.int i0), .val (.int i1), .val (.int i2), .val (.int i3), .val (.long i4), .second, .val (.int kd), .val (.ref t), .val (.ref ar), .val (.int nl), .val (.int md), .val (.int n), .val (.int pp), .val (.ref st), .unset] [(.int (0 : Int32))]
        refine o_if_eq P (hb hby at_286) (by decide) (pc' := 295) (by decide) (pcf := 289) rfl (fun _ => ?_) (fun q => absurd (by decide) q)
        refine o_aconstNull P (hb hby at_295) (pc' := 296) rfl ?_
        refine o_astore P (hb hby at_296) rfl (L' := #[.val (.int i0), .val (.int i1), .val (.int i2), .val (.int i3), .val (.long i4), .second, .val (.int kd), .val (.ref t), .val (.ref ar), .val (.int nl), .val (.int md), .val (.int n), .val (.int pp), .val (.ref st), .val .null]) rfl (pc' := 298) rfl ?_
        refine o_aload P (hb hby at_298) rfl rfl (pc' := 300) rfl ?_
        refine o_callS P (W := 0) (ow hw 75 rfl) (ow hw 76 rfl) (ow hw 77 rfl) (ow hw 78 rfl) (by decide) (ct_findR l Z a0 hw EL n0 k0 k1 k2 va hva Eva Ava u0 w0 hk0 Fk0 Gu0 u1 w1 hk1 Fk1 Gu1 u2 w2 hk2 Fk2 Gu2 cv hcs hcv st x us h6 G) o_sf0 (by rw [hml]; rfl) (by decide) (by decide) (argsL := [(.ref st)]) (rest := []) (lenOf pd_15 rfl) rfl rfl (Nat.le_of_eq rfl) (hb hby at_300) (pc' := 303) rfl (by decide) (by decide) ?_
        clear P; intro T h7 v7 P K7 q7
        obtain ⟨rfl, -⟩ := q7
        rw [show (if (some us) = some [112, 108, 97, 105, 110] then .ref k0 else if (some us) = some [112, 111, 114, 116, 101, 114] then .ref k1 else if (some us) = some [101, 110, 103, 108, 105, 115, 104] then .ref k2 else .null : Value) = .null from by simp [hu0, hu1, hu2]]
        show OG p e below m _ T 303 #[.val (.int i0), .val (.int i1), .val (.int i2), .val (.int i3), .val (.long i4), .second, .val (.int kd), .val (.ref t), .val (.ref ar), .val (.int nl), .val (.int md), .val (.int n), .val (.int pp), .val (.ref st), .val .null] [.null]
        refine o_aload P (hb hby at_303) rfl rfl (pc' := 305) rfl ?_
        refine o_acmp P true (hb hby at_305) rfl rfl (decide_eq_true rfl) (by decide) (pc' := 308) rfl ?_
        refine o_iconst P (1 : Int32) (hb hby at_308) rfl (pc' := 309) rfl ?_
        refine o_goto P (hb hby at_309) (by decide) (pc' := 313) (by decide) ?_
        exact o_retI P hret (by simp) rfl (hb hby at_313) (by decide) (by decide) rfl
set_option maxRecDepth 65536 in
set_option maxHeartbeats 40000000 in
theorem law238 {p : Program} {e : Env} {s : State} {m : MethodId} {args : Array Value} {below : List Frame} {meth : Method} {c : Code} {T : State} {n0 : Nat} {h0 : Heap} {Ow : List Addr} (l : Launch) (Z : State) (a0 : Array Value) (hw : ∀ d ∈ tables_1, d.before a0 Z = true) (EL : List (String × Nat)) (hby : c.code = code) (hml : c.maxLocals = maxLocals) (hret : meth.sig.returnType = ret) (i0 i1 i2 i3 : Int32) (i4 : Int64) (kd : Int32) (t : Addr) (nl md n pp : Int32) (ar : Addr) (qs : List Int32) (hl8 : qs.length = 8) (hlat : OLat qs) (A_ar : OArr Z h0 ar .char (och qs)) (k0 k1 k2 : Addr) (va : Addr) (hva : Sta Z Z.heap "com/example/busca/busca/analysis/Analyzer" "$VALUES" "[Lcom/example/busca/busca/analysis/Analyzer;" (.ref va)) (Eva : Exa Z Z.heap va "[Lcom/example/busca/busca/analysis/Analyzer;") (Ava : OArr Z Z.heap va (.object "com/example/busca/busca/analysis/Analyzer") [.ref k0, .ref k1, .ref k2]) (u0 w0 : Addr) (hk0 : Sta Z Z.heap "com/example/busca/busca/analysis/Analyzer" "PLAIN" "Lcom/example/busca/busca/analysis/Analyzer;" (.ref k0)) (Fk0 : OObj Z Z.heap k0 "com/example/busca/busca/analysis/Analyzer" [("com/example/busca/busca/analysis/Analyzer", "analyzerName", "Ljava/lang/String;", (.ref u0))]) (Gu0 : OStr Z Z.heap u0 w0 (och [112, 108, 97, 105, 110])) (u1 w1 : Addr) (hk1 : Sta Z Z.heap "com/example/busca/busca/analysis/Analyzer" "PORTER" "Lcom/example/busca/busca/analysis/Analyzer;" (.ref k1)) (Fk1 : OObj Z Z.heap k1 "com/example/busca/busca/analysis/Analyzer" [("com/example/busca/busca/analysis/Analyzer", "analyzerName", "Ljava/lang/String;", (.ref u1))]) (Gu1 : OStr Z Z.heap u1 w1 (och [112, 111, 114, 116, 101, 114])) (u2 w2 : Addr) (hk2 : Sta Z Z.heap "com/example/busca/busca/analysis/Analyzer" "ENGLISH" "Lcom/example/busca/busca/analysis/Analyzer;" (.ref k2)) (Fk2 : OObj Z Z.heap k2 "com/example/busca/busca/analysis/Analyzer" [("com/example/busca/busca/analysis/Analyzer", "analyzerName", "Ljava/lang/String;", (.ref u2))]) (Gu2 : OStr Z Z.heap u2 w2 (och [101, 110, 103, 108, 105, 115, 104])) (cv : Int32) (hcs : Sta Z Z.heap "java/lang/String" "COMPACT_STRINGS" "Z" (.int cv)) (hcv : ¬ cv = 0) (fv : Value) (hfv : Sta Z Z.heap "jdk/internal/util/Preconditions" "SIOOBE_FORMATTER" "Ljava/util/function/BiFunction;" fv) (hfr : fv.isRef = true) (hm7 : ("com/example/busca/busca/analysis/AnalyzerNamedPinLaw", 7) ∈ EL) (hm9 : ("com/example/busca/busca/analysis/AnalyzerNamedPinLaw", 9) ∈ EL) (hm11 : ("com/example/busca/busca/analysis/AnalyzerNamedPinLaw", 11) ∈ EL) (hm13 : ("com/example/busca/busca/analysis/AnalyzerNamedPinLaw", 13) ∈ EL) (hmem : ("java/lang/String", 7) ∈ EL) (P : OPn p l e room_1 s m args below meth c Z a0 EL n0 [] "com/example/busca/busca/analysis/AnalyzerNamedPinLaw" T h0 Ow 3 48) :
    OG p e below m (OFq Z EL n0 s [] room_1 (fun w vm h => w = some (.int 1))) T 238 #[.val (.int i0), .val (.int i1), .val (.int i2), .val (.int i3), .val (.long i4), .second, .val (.int kd), .val (.ref t), .val (.ref ar), .val (.int nl), .val (.int md), .val (.int n), .val (.int pp), .unset, .unset] [] := by
  obtain ⟨c0, c1, c2, c3, c4, c5, c6, c7, rfl⟩ := own_l8 hl8
  have l0 := hlat c0 (by simp)
  have l1 := hlat c1 (by simp)
  have l2 := hlat c2 (by simp)
  have l3 := hlat c3 (by simp)
  have l4 := hlat c4 (by simp)
  have l5 := hlat c5 (by simp)
  have l6 := hlat c6 (by simp)
  have l7 := hlat c7 (by simp)
  refine o_aload P (hb hby at_238) rfl rfl (pc' := 240) rfl ?_
  refine o_iload P (hb hby at_240) rfl (pc' := 242) rfl ?_
  refine o_callS P (W := 0) (ow hw 49 rfl) (ow hw 50 rfl) (ow hw 11 rfl) (ow hw 51 rfl) (by decide) (ct_str l Z a0 hw EL n0 ar n c0 c1 c2 c3 c4 c5 c6 c7 l0 l1 l2 l3 l4 l5 l6 l7 cv hcs hcv hmem h0 A_ar) o_sf0 (by rw [hml]; rfl) (by decide) (by decide) (argsL := [(.ref ar), (.int n)]) (rest := []) (lenOf pd_16 rfl) rfl rfl (Nat.le_of_eq rfl) (hb hby at_242) (pc' := 245) rfl (by decide) (by decide) ?_
  clear P; intro T h1 v1 P K1 q1
  obtain ⟨st, x, us, rfl, G⟩ := q1
  show OG p e below m _ T 245 #[.val (.int i0), .val (.int i1), .val (.int i2), .val (.int i3), .val (.long i4), .second, .val (.int kd), .val (.ref t), .val (.ref ar), .val (.int nl), .val (.int md), .val (.int n), .val (.int pp), .unset, .unset] [(.ref st)]
  refine o_astore P (hb hby at_245) rfl (L' := #[.val (.int i0), .val (.int i1), .val (.int i2), .val (.int i3), .val (.long i4), .second, .val (.int kd), .val (.ref t), .val (.ref ar), .val (.int nl), .val (.int md), .val (.int n), .val (.int pp), .val (.ref st), .unset]) rfl (pc' := 247) rfl ?_
  exact law247 l Z a0 hw EL hby hml hret i0 i1 i2 i3 i4 kd t nl md n pp ar st x us G k0 k1 k2 va hva Eva Ava u0 w0 hk0 Fk0 Gu0 u1 w1 hk1 Fk1 Gu1 u2 w2 hk2 Fk2 Gu2 cv hcs hcv fv hfv hfr hm7 hm9 hm11 hm13 hmem (P.mono (by decide) (by decide))
set_option maxRecDepth 65536 in
set_option maxHeartbeats 40000000 in
theorem law207 {p : Program} {e : Env} {s : State} {m : MethodId} {args : Array Value} {below : List Frame} {meth : Method} {c : Code} {T : State} {n0 : Nat} {h0 : Heap} {Ow : List Addr} (l : Launch) (Z : State) (a0 : Array Value) (hw : ∀ d ∈ tables_1, d.before a0 Z = true) (EL : List (String × Nat)) (hby : c.code = code) (hml : c.maxLocals = maxLocals) (hret : meth.sig.returnType = ret) (i0 i1 i2 i3 : Int32) (i4 : Int64) (kd : Int32) (t : Addr) (nl md n : Int32) (ar : Addr) (qs : List Int32) (hl8 : qs.length = 8) (hlat : OLat qs) (A_ar : OArr Z h0 ar .char (och qs)) (k0 k1 k2 : Addr) (va : Addr) (hva : Sta Z Z.heap "com/example/busca/busca/analysis/Analyzer" "$VALUES" "[Lcom/example/busca/busca/analysis/Analyzer;" (.ref va)) (Eva : Exa Z Z.heap va "[Lcom/example/busca/busca/analysis/Analyzer;") (Ava : OArr Z Z.heap va (.object "com/example/busca/busca/analysis/Analyzer") [.ref k0, .ref k1, .ref k2]) (u0 w0 : Addr) (hk0 : Sta Z Z.heap "com/example/busca/busca/analysis/Analyzer" "PLAIN" "Lcom/example/busca/busca/analysis/Analyzer;" (.ref k0)) (Fk0 : OObj Z Z.heap k0 "com/example/busca/busca/analysis/Analyzer" [("com/example/busca/busca/analysis/Analyzer", "analyzerName", "Ljava/lang/String;", (.ref u0))]) (Gu0 : OStr Z Z.heap u0 w0 (och [112, 108, 97, 105, 110])) (u1 w1 : Addr) (hk1 : Sta Z Z.heap "com/example/busca/busca/analysis/Analyzer" "PORTER" "Lcom/example/busca/busca/analysis/Analyzer;" (.ref k1)) (Fk1 : OObj Z Z.heap k1 "com/example/busca/busca/analysis/Analyzer" [("com/example/busca/busca/analysis/Analyzer", "analyzerName", "Ljava/lang/String;", (.ref u1))]) (Gu1 : OStr Z Z.heap u1 w1 (och [112, 111, 114, 116, 101, 114])) (u2 w2 : Addr) (hk2 : Sta Z Z.heap "com/example/busca/busca/analysis/Analyzer" "ENGLISH" "Lcom/example/busca/busca/analysis/Analyzer;" (.ref k2)) (Fk2 : OObj Z Z.heap k2 "com/example/busca/busca/analysis/Analyzer" [("com/example/busca/busca/analysis/Analyzer", "analyzerName", "Ljava/lang/String;", (.ref u2))]) (Gu2 : OStr Z Z.heap u2 w2 (och [101, 110, 103, 108, 105, 115, 104])) (cv : Int32) (hcs : Sta Z Z.heap "java/lang/String" "COMPACT_STRINGS" "Z" (.int cv)) (hcv : ¬ cv = 0) (fv : Value) (hfv : Sta Z Z.heap "jdk/internal/util/Preconditions" "SIOOBE_FORMATTER" "Ljava/util/function/BiFunction;" fv) (hfr : fv.isRef = true) (hm7 : ("com/example/busca/busca/analysis/AnalyzerNamedPinLaw", 7) ∈ EL) (hm9 : ("com/example/busca/busca/analysis/AnalyzerNamedPinLaw", 9) ∈ EL) (hm11 : ("com/example/busca/busca/analysis/AnalyzerNamedPinLaw", 11) ∈ EL) (hm13 : ("com/example/busca/busca/analysis/AnalyzerNamedPinLaw", 13) ∈ EL) (hmem : ("java/lang/String", 7) ∈ EL) (P : OPn p l e room_1 s m args below meth c Z a0 EL n0 [] "com/example/busca/busca/analysis/AnalyzerNamedPinLaw" T h0 (ar :: Ow) 3 48) :
    OG p e below m (OFq Z EL n0 s [] room_1 (fun w vm h => w = some (.int 1))) T 207 #[.val (.int i0), .val (.int i1), .val (.int i2), .val (.int i3), .val (.long i4), .second, .val (.int kd), .val (.ref t), .val (.ref ar), .val (.int nl), .val (.int md), .val (.int n), .unset, .unset, .unset] [] := by
  refine o_iloadN P (hb hby at_207) rfl (pc' := 208) rfl ?_
  refine o_bipush P (7 : Int32) (hb hby at_208) rfl (pc' := 210) rfl ?_
  refine o_iand P (hb hby at_210) (pc' := 211) rfl ?_
  refine o_istore P (hb hby at_211) (L' := #[.val (.int i0), .val (.int i1), .val (.int i2), .val (.int i3), .val (.long i4), .second, .val (.int kd), .val (.ref t), .val (.ref ar), .val (.int nl), .val (.int md), .val (.int n), .val (.int (i2 &&& (7 : Int32))), .unset, .unset]) rfl (pc' := 213) rfl ?_
  refine o_iloadN P (hb hby at_213) rfl (pc' := 214) rfl ?_
  refine o_bipush P (8 : Int32) (hb hby at_214) rfl (pc' := 216) rfl ?_
  refine o_iand P (hb hby at_216) (pc' := 217) rfl ?_
  refine o_if_eq P (hb hby at_217) (by decide) (pc' := 238) (by decide) (pcf := 220) rfl (fun hz => ?_) (fun hz => ?_)
  · exact law238 l Z a0 hw EL hby hml hret i0 i1 i2 i3 i4 kd t nl md n _ ar qs hl8 hlat A_ar k0 k1 k2 va hva Eva Ava u0 w0 hk0 Fk0 Gu0 u1 w1 hk1 Fk1 Gu1 u2 w2 hk2 Fk2 Gu2 cv hcs hcv fv hfv hfr hm7 hm9 hm11 hm13 hmem P
  · refine o_iload P (hb hby at_220) rfl (pc' := 222) rfl ?_
    refine o_iload P (hb hby at_222) rfl (pc' := 224) rfl ?_
    refine o_icmp_ge P (hb hby at_224) (by decide) (pc' := 238) (by decide) (pcf := 227) rfl (fun hy => ?_) (fun hy => ?_)
    · exact law238 l Z a0 hw EL hby hml hret i0 i1 i2 i3 i4 kd t nl md n _ ar qs hl8 hlat A_ar k0 k1 k2 va hva Eva Ava u0 w0 hk0 Fk0 Gu0 u1 w1 hk1 Fk1 Gu1 u2 w2 hk2 Fk2 Gu2 cv hcs hcv fv hfv hfr hm7 hm9 hm11 hm13 hmem P
    · refine o_aload P (hb hby at_227) rfl rfl (pc' := 229) rfl ?_
      refine o_iload P (hb hby at_229) rfl (pc' := 231) rfl ?_
      refine o_iloadN P (hb hby at_231) rfl (pc' := 232) rfl ?_
      refine o_sipush P (255 : Int32) (hb hby at_232) rfl (pc' := 235) rfl ?_
      refine o_iand P (hb hby at_235) (pc' := 236) rfl ?_
      refine o_i2c P (hb hby at_236) (pc' := 237) rfl ?_
      have hp7 := c_and i2 7 (by decide)
      have hpn : ¬ (i2 &&& (7 : Int32)) < 0 := by rw [Int32.lt_iff_toInt_lt]; have z : (0 : Int32).toInt = 0 := rfl; omega
      have hp8 : ((i2 &&& (7 : Int32))).toNatClampNeg < 8 := by have z : (7 : Int32).toInt = 7 := rfl; simp only [Int32.toNatClampNeg]; omega
      refine o_castore P (v := (.int ((i3 &&& (255 : Int32)).toUInt32.toUInt16.toUInt32.toInt32))) A_ar (List.Mem.head _) hpn (by simp [hl8]; exact hp8) (congrArg Value.int (o_nar_char (o_c16 (o_mask8 _)))) (hb hby at_237) (pc' := 238) rfl ?_
      clear P; clear A_ar; intro T h1 P W1 A_ar
      clear W1
      replace A_ar : OArr Z h1 ar .char (och (qs.set ((i2 &&& (7 : Int32))).toNatClampNeg ((i3 &&& (255 : Int32)).toUInt32.toUInt16.toUInt32.toInt32))) := A_ar.eq (by simp [och, List.map_set])
      exact law238 l Z a0 hw EL hby hml hret i0 i1 i2 i3 i4 kd t nl md n _ ar _ (by simpa using hl8) (fun q hq => (List.mem_or_eq_of_mem_set hq).elim (hlat q) (fun e => e ▸ o_mask8 _)) A_ar k0 k1 k2 va hva Eva Ava u0 w0 hk0 Fk0 Gu0 u1 w1 hk1 Fk1 Gu1 u2 w2 hk2 Fk2 Gu2 cv hcs hcv fv hfv hfr hm7 hm9 hm11 hm13 hmem P
set_option maxRecDepth 65536 in
set_option maxHeartbeats 40000000 in
theorem law41 {p : Program} {e : Env} {s : State} {m : MethodId} {args : Array Value} {below : List Frame} {meth : Method} {c : Code} {T : State} {n0 : Nat} {h0 : Heap} {Ow : List Addr} (l : Launch) (Z : State) (a0 : Array Value) (hw : ∀ d ∈ tables_1, d.before a0 Z = true) (EL : List (String × Nat)) (hby : c.code = code) (hml : c.maxLocals = maxLocals) (hret : meth.sig.returnType = ret) (i0 i1 i2 i3 : Int32) (i4 : Int64) (kd : Int32) (t : Addr) (tx : Addr) (us : List Int32) (G : OStr Z h0 t tx (och us)) (k0 k1 k2 : Addr) (va : Addr) (hva : Sta Z Z.heap "com/example/busca/busca/analysis/Analyzer" "$VALUES" "[Lcom/example/busca/busca/analysis/Analyzer;" (.ref va)) (Eva : Exa Z Z.heap va "[Lcom/example/busca/busca/analysis/Analyzer;") (Ava : OArr Z Z.heap va (.object "com/example/busca/busca/analysis/Analyzer") [.ref k0, .ref k1, .ref k2]) (u0 w0 : Addr) (hk0 : Sta Z Z.heap "com/example/busca/busca/analysis/Analyzer" "PLAIN" "Lcom/example/busca/busca/analysis/Analyzer;" (.ref k0)) (Fk0 : OObj Z Z.heap k0 "com/example/busca/busca/analysis/Analyzer" [("com/example/busca/busca/analysis/Analyzer", "analyzerName", "Ljava/lang/String;", (.ref u0))]) (Gu0 : OStr Z Z.heap u0 w0 (och [112, 108, 97, 105, 110])) (u1 w1 : Addr) (hk1 : Sta Z Z.heap "com/example/busca/busca/analysis/Analyzer" "PORTER" "Lcom/example/busca/busca/analysis/Analyzer;" (.ref k1)) (Fk1 : OObj Z Z.heap k1 "com/example/busca/busca/analysis/Analyzer" [("com/example/busca/busca/analysis/Analyzer", "analyzerName", "Ljava/lang/String;", (.ref u1))]) (Gu1 : OStr Z Z.heap u1 w1 (och [112, 111, 114, 116, 101, 114])) (u2 w2 : Addr) (hk2 : Sta Z Z.heap "com/example/busca/busca/analysis/Analyzer" "ENGLISH" "Lcom/example/busca/busca/analysis/Analyzer;" (.ref k2)) (Fk2 : OObj Z Z.heap k2 "com/example/busca/busca/analysis/Analyzer" [("com/example/busca/busca/analysis/Analyzer", "analyzerName", "Ljava/lang/String;", (.ref u2))]) (Gu2 : OStr Z Z.heap u2 w2 (och [101, 110, 103, 108, 105, 115, 104])) (cv : Int32) (hcs : Sta Z Z.heap "java/lang/String" "COMPACT_STRINGS" "Z" (.int cv)) (hcv : ¬ cv = 0) (fv : Value) (hfv : Sta Z Z.heap "jdk/internal/util/Preconditions" "SIOOBE_FORMATTER" "Ljava/util/function/BiFunction;" fv) (hfr : fv.isRef = true) (hm7 : ("com/example/busca/busca/analysis/AnalyzerNamedPinLaw", 7) ∈ EL) (hm9 : ("com/example/busca/busca/analysis/AnalyzerNamedPinLaw", 9) ∈ EL) (hm11 : ("com/example/busca/busca/analysis/AnalyzerNamedPinLaw", 11) ∈ EL) (hm13 : ("com/example/busca/busca/analysis/AnalyzerNamedPinLaw", 13) ∈ EL) (hmem : ("java/lang/String", 7) ∈ EL) (P : OPn p l e room_1 s m args below meth c Z a0 EL n0 [] "com/example/busca/busca/analysis/AnalyzerNamedPinLaw" T h0 Ow 2 40) :
    OG p e below m (OFq Z EL n0 s [] room_1 (fun w vm h => w = some (.int 1))) T 41 #[.val (.int i0), .val (.int i1), .val (.int i2), .val (.int i3), .val (.long i4), .second, .val (.int kd), .val (.ref t), .unset, .unset, .unset, .unset, .unset, .unset, .unset] [] := by
  have F_t := G.1
  refine o_bipush P (8 : Int32) (hb hby at_41) rfl (pc' := 43) rfl ?_
  have hz_ar := P.keep0.1
  refine o_newarr P (cap := 8) (ow hw 8 rfl) (hb hby at_43) (by decide) (by decide) (by decide) (pc' := 45) rfl (by decide) (by decide) ?_
  clear P; intro T h1 ar P K1 hb_ar A_ar
  have sz_ar := Nat.le_trans hz_ar hb_ar
  clear hz_ar
  have ne_tx_ar : tx ≠ ar := Nat.ne_of_lt (Nat.lt_of_lt_of_le G.2.lt hb_ar)
  have ne_t_ar : t ≠ ar := Nat.ne_of_lt (Nat.lt_of_lt_of_le F_t.lt hb_ar)
  replace F_t := F_t.keep K1 nin0
  replace G := G.keep K1 nin0 nin0
  clear K1
  replace A_ar : OArr Z h1 ar .char [(.int 0), (.int 0), (.int 0), (.int 0), (.int 0), (.int 0), (.int 0), (.int 0)] := A_ar
  refine o_astore P (hb hby at_45) rfl (L' := #[.val (.int i0), .val (.int i1), .val (.int i2), .val (.int i3), .val (.long i4), .second, .val (.int kd), .val (.ref t), .val (.ref ar), .unset, .unset, .unset, .unset, .unset, .unset]) rfl (pc' := 47) rfl ?_
  refine o_aload P (hb hby at_47) rfl rfl (pc' := 49) rfl ?_
  refine o_iconst P (0 : Int32) (hb hby at_49) rfl (pc' := 50) rfl ?_
  refine o_aload P (hb hby at_50) rfl rfl (pc' := 52) rfl ?_
  refine o_iconst P (0 : Int32) (hb hby at_52) rfl (pc' := 53) rfl ?_
  refine o_lload P (hb hby at_53) rfl (pc' := 55) rfl ?_
  refine o_callS P (W := 2) (ow hw 9 rfl) (ow hw 10 rfl) (ow hw 11 rfl) (ow hw 12 rfl) (by decide) (ct_pick l Z a0 hw EL n0 t tx (0 : Int32) i4 us cv hcs hcv fv hfv hfr (by decide) h1 G) o_sf0 (by rw [hml]; rfl) (by decide) (by decide) (argsL := [(.ref t), (.int (0 : Int32)), (.long i4)]) (rest := [(.int (0 : Int32)), (.ref ar)]) (lenOf pd_17 rfl) rfl rfl (Nat.le_of_eq rfl) (hb hby at_55) (pc' := 58) rfl (by decide) (by decide) ?_
  clear P; intro T h2 v2 P K2 q2
  obtain ⟨c0, rfl, l0, rfl⟩ := q2; clear K2
  show OG p e below m _ T 58 #[.val (.int i0), .val (.int i1), .val (.int i2), .val (.int i3), .val (.long i4), .second, .val (.int kd), .val (.ref t), .val (.ref ar), .unset, .unset, .unset, .unset, .unset, .unset] [(.int c0), (.int (0 : Int32)), (.ref ar)]
  refine o_castore P (v := (.int c0)) A_ar (List.Mem.head _) (by decide) (of_decide_eq_true rfl) (congrArg Value.int (o_nar_char (o_c16 l0))) (hb hby at_58) (pc' := 59) rfl ?_
  clear P; clear A_ar; intro T h3 P W3 A_ar
  replace F_t := F_t.oth W3 ne_t_ar
  replace G := G.keep (Keep.of_wr W3) (ninS ne_t_ar nin0) (ninS ne_tx_ar nin0)
  clear W3
  replace A_ar : OArr Z h3 ar .char [(.int c0), (.int 0), (.int 0), (.int 0), (.int 0), (.int 0), (.int 0), (.int 0)] := A_ar
  refine o_aload P (hb hby at_59) rfl rfl (pc' := 61) rfl ?_
  refine o_iconst P (1 : Int32) (hb hby at_61) rfl (pc' := 62) rfl ?_
  refine o_aload P (hb hby at_62) rfl rfl (pc' := 64) rfl ?_
  refine o_iconst P (1 : Int32) (hb hby at_64) rfl (pc' := 65) rfl ?_
  refine o_lload P (hb hby at_65) rfl (pc' := 67) rfl ?_
  refine o_callS P (W := 2) (ow hw 9 rfl) (ow hw 10 rfl) (ow hw 11 rfl) (ow hw 12 rfl) (by decide) (ct_pick l Z a0 hw EL n0 t tx (1 : Int32) i4 us cv hcs hcv fv hfv hfr (by decide) h3 G) o_sf0 (by rw [hml]; rfl) (by decide) (by decide) (argsL := [(.ref t), (.int (1 : Int32)), (.long i4)]) (rest := [(.int (1 : Int32)), (.ref ar)]) (lenOf pd_17 rfl) rfl rfl (Nat.le_of_eq rfl) (hb hby at_67) (pc' := 70) rfl (by decide) (by decide) ?_
  clear P; intro T h4 v4 P K4 q4
  obtain ⟨c1, rfl, l1, rfl⟩ := q4; clear K4
  show OG p e below m _ T 70 #[.val (.int i0), .val (.int i1), .val (.int i2), .val (.int i3), .val (.long i4), .second, .val (.int kd), .val (.ref t), .val (.ref ar), .unset, .unset, .unset, .unset, .unset, .unset] [(.int c1), (.int (1 : Int32)), (.ref ar)]
  refine o_castore P (v := (.int c1)) A_ar (List.Mem.head _) (by decide) (of_decide_eq_true rfl) (congrArg Value.int (o_nar_char (o_c16 l1))) (hb hby at_70) (pc' := 71) rfl ?_
  clear P; clear A_ar; intro T h5 P W5 A_ar
  replace F_t := F_t.oth W5 ne_t_ar
  replace G := G.keep (Keep.of_wr W5) (ninS ne_t_ar nin0) (ninS ne_tx_ar nin0)
  clear W5
  replace A_ar : OArr Z h5 ar .char [(.int c0), (.int c1), (.int 0), (.int 0), (.int 0), (.int 0), (.int 0), (.int 0)] := A_ar
  refine o_aload P (hb hby at_71) rfl rfl (pc' := 73) rfl ?_
  refine o_iconst P (2 : Int32) (hb hby at_73) rfl (pc' := 74) rfl ?_
  refine o_aload P (hb hby at_74) rfl rfl (pc' := 76) rfl ?_
  refine o_iconst P (2 : Int32) (hb hby at_76) rfl (pc' := 77) rfl ?_
  refine o_lload P (hb hby at_77) rfl (pc' := 79) rfl ?_
  refine o_callS P (W := 2) (ow hw 9 rfl) (ow hw 10 rfl) (ow hw 11 rfl) (ow hw 12 rfl) (by decide) (ct_pick l Z a0 hw EL n0 t tx (2 : Int32) i4 us cv hcs hcv fv hfv hfr (by decide) h5 G) o_sf0 (by rw [hml]; rfl) (by decide) (by decide) (argsL := [(.ref t), (.int (2 : Int32)), (.long i4)]) (rest := [(.int (2 : Int32)), (.ref ar)]) (lenOf pd_17 rfl) rfl rfl (Nat.le_of_eq rfl) (hb hby at_79) (pc' := 82) rfl (by decide) (by decide) ?_
  clear P; intro T h6 v6 P K6 q6
  obtain ⟨c2, rfl, l2, rfl⟩ := q6; clear K6
  show OG p e below m _ T 82 #[.val (.int i0), .val (.int i1), .val (.int i2), .val (.int i3), .val (.long i4), .second, .val (.int kd), .val (.ref t), .val (.ref ar), .unset, .unset, .unset, .unset, .unset, .unset] [(.int c2), (.int (2 : Int32)), (.ref ar)]
  refine o_castore P (v := (.int c2)) A_ar (List.Mem.head _) (by decide) (of_decide_eq_true rfl) (congrArg Value.int (o_nar_char (o_c16 l2))) (hb hby at_82) (pc' := 83) rfl ?_
  clear P; clear A_ar; intro T h7 P W7 A_ar
  replace F_t := F_t.oth W7 ne_t_ar
  replace G := G.keep (Keep.of_wr W7) (ninS ne_t_ar nin0) (ninS ne_tx_ar nin0)
  clear W7
  replace A_ar : OArr Z h7 ar .char [(.int c0), (.int c1), (.int c2), (.int 0), (.int 0), (.int 0), (.int 0), (.int 0)] := A_ar
  refine o_aload P (hb hby at_83) rfl rfl (pc' := 85) rfl ?_
  refine o_iconst P (3 : Int32) (hb hby at_85) rfl (pc' := 86) rfl ?_
  refine o_aload P (hb hby at_86) rfl rfl (pc' := 88) rfl ?_
  refine o_iconst P (3 : Int32) (hb hby at_88) rfl (pc' := 89) rfl ?_
  refine o_lload P (hb hby at_89) rfl (pc' := 91) rfl ?_
  refine o_callS P (W := 2) (ow hw 9 rfl) (ow hw 10 rfl) (ow hw 11 rfl) (ow hw 12 rfl) (by decide) (ct_pick l Z a0 hw EL n0 t tx (3 : Int32) i4 us cv hcs hcv fv hfv hfr (by decide) h7 G) o_sf0 (by rw [hml]; rfl) (by decide) (by decide) (argsL := [(.ref t), (.int (3 : Int32)), (.long i4)]) (rest := [(.int (3 : Int32)), (.ref ar)]) (lenOf pd_17 rfl) rfl rfl (Nat.le_of_eq rfl) (hb hby at_91) (pc' := 94) rfl (by decide) (by decide) ?_
  clear P; intro T h8 v8 P K8 q8
  obtain ⟨c3, rfl, l3, rfl⟩ := q8; clear K8
  show OG p e below m _ T 94 #[.val (.int i0), .val (.int i1), .val (.int i2), .val (.int i3), .val (.long i4), .second, .val (.int kd), .val (.ref t), .val (.ref ar), .unset, .unset, .unset, .unset, .unset, .unset] [(.int c3), (.int (3 : Int32)), (.ref ar)]
  refine o_castore P (v := (.int c3)) A_ar (List.Mem.head _) (by decide) (of_decide_eq_true rfl) (congrArg Value.int (o_nar_char (o_c16 l3))) (hb hby at_94) (pc' := 95) rfl ?_
  clear P; clear A_ar; intro T h9 P W9 A_ar
  replace F_t := F_t.oth W9 ne_t_ar
  replace G := G.keep (Keep.of_wr W9) (ninS ne_t_ar nin0) (ninS ne_tx_ar nin0)
  clear W9
  replace A_ar : OArr Z h9 ar .char [(.int c0), (.int c1), (.int c2), (.int c3), (.int 0), (.int 0), (.int 0), (.int 0)] := A_ar
  refine o_aload P (hb hby at_95) rfl rfl (pc' := 97) rfl ?_
  refine o_iconst P (4 : Int32) (hb hby at_97) rfl (pc' := 98) rfl ?_
  refine o_aload P (hb hby at_98) rfl rfl (pc' := 100) rfl ?_
  refine o_iconst P (4 : Int32) (hb hby at_100) rfl (pc' := 101) rfl ?_
  refine o_lload P (hb hby at_101) rfl (pc' := 103) rfl ?_
  refine o_callS P (W := 2) (ow hw 9 rfl) (ow hw 10 rfl) (ow hw 11 rfl) (ow hw 12 rfl) (by decide) (ct_pick l Z a0 hw EL n0 t tx (4 : Int32) i4 us cv hcs hcv fv hfv hfr (by decide) h9 G) o_sf0 (by rw [hml]; rfl) (by decide) (by decide) (argsL := [(.ref t), (.int (4 : Int32)), (.long i4)]) (rest := [(.int (4 : Int32)), (.ref ar)]) (lenOf pd_17 rfl) rfl rfl (Nat.le_of_eq rfl) (hb hby at_103) (pc' := 106) rfl (by decide) (by decide) ?_
  clear P; intro T h10 v10 P K10 q10
  obtain ⟨c4, rfl, l4, rfl⟩ := q10; clear K10
  show OG p e below m _ T 106 #[.val (.int i0), .val (.int i1), .val (.int i2), .val (.int i3), .val (.long i4), .second, .val (.int kd), .val (.ref t), .val (.ref ar), .unset, .unset, .unset, .unset, .unset, .unset] [(.int c4), (.int (4 : Int32)), (.ref ar)]
  refine o_castore P (v := (.int c4)) A_ar (List.Mem.head _) (by decide) (of_decide_eq_true rfl) (congrArg Value.int (o_nar_char (o_c16 l4))) (hb hby at_106) (pc' := 107) rfl ?_
  clear P; clear A_ar; intro T h11 P W11 A_ar
  replace F_t := F_t.oth W11 ne_t_ar
  replace G := G.keep (Keep.of_wr W11) (ninS ne_t_ar nin0) (ninS ne_tx_ar nin0)
  clear W11
  replace A_ar : OArr Z h11 ar .char [(.int c0), (.int c1), (.int c2), (.int c3), (.int c4), (.int 0), (.int 0), (.int 0)] := A_ar
  refine o_aload P (hb hby at_107) rfl rfl (pc' := 109) rfl ?_
  refine o_iconst P (5 : Int32) (hb hby at_109) rfl (pc' := 110) rfl ?_
  refine o_aload P (hb hby at_110) rfl rfl (pc' := 112) rfl ?_
  refine o_iconst P (5 : Int32) (hb hby at_112) rfl (pc' := 113) rfl ?_
  refine o_lload P (hb hby at_113) rfl (pc' := 115) rfl ?_
  refine o_callS P (W := 2) (ow hw 9 rfl) (ow hw 10 rfl) (ow hw 11 rfl) (ow hw 12 rfl) (by decide) (ct_pick l Z a0 hw EL n0 t tx (5 : Int32) i4 us cv hcs hcv fv hfv hfr (by decide) h11 G) o_sf0 (by rw [hml]; rfl) (by decide) (by decide) (argsL := [(.ref t), (.int (5 : Int32)), (.long i4)]) (rest := [(.int (5 : Int32)), (.ref ar)]) (lenOf pd_17 rfl) rfl rfl (Nat.le_of_eq rfl) (hb hby at_115) (pc' := 118) rfl (by decide) (by decide) ?_
  clear P; intro T h12 v12 P K12 q12
  obtain ⟨c5, rfl, l5, rfl⟩ := q12; clear K12
  show OG p e below m _ T 118 #[.val (.int i0), .val (.int i1), .val (.int i2), .val (.int i3), .val (.long i4), .second, .val (.int kd), .val (.ref t), .val (.ref ar), .unset, .unset, .unset, .unset, .unset, .unset] [(.int c5), (.int (5 : Int32)), (.ref ar)]
  refine o_castore P (v := (.int c5)) A_ar (List.Mem.head _) (by decide) (of_decide_eq_true rfl) (congrArg Value.int (o_nar_char (o_c16 l5))) (hb hby at_118) (pc' := 119) rfl ?_
  clear P; clear A_ar; intro T h13 P W13 A_ar
  replace F_t := F_t.oth W13 ne_t_ar
  replace G := G.keep (Keep.of_wr W13) (ninS ne_t_ar nin0) (ninS ne_tx_ar nin0)
  clear W13
  replace A_ar : OArr Z h13 ar .char [(.int c0), (.int c1), (.int c2), (.int c3), (.int c4), (.int c5), (.int 0), (.int 0)] := A_ar
  refine o_aload P (hb hby at_119) rfl rfl (pc' := 121) rfl ?_
  refine o_bipush P (6 : Int32) (hb hby at_121) rfl (pc' := 123) rfl ?_
  refine o_aload P (hb hby at_123) rfl rfl (pc' := 125) rfl ?_
  refine o_bipush P (6 : Int32) (hb hby at_125) rfl (pc' := 127) rfl ?_
  refine o_lload P (hb hby at_127) rfl (pc' := 129) rfl ?_
  refine o_callS P (W := 2) (ow hw 9 rfl) (ow hw 10 rfl) (ow hw 11 rfl) (ow hw 12 rfl) (by decide) (ct_pick l Z a0 hw EL n0 t tx (6 : Int32) i4 us cv hcs hcv fv hfv hfr (by decide) h13 G) o_sf0 (by rw [hml]; rfl) (by decide) (by decide) (argsL := [(.ref t), (.int (6 : Int32)), (.long i4)]) (rest := [(.int (6 : Int32)), (.ref ar)]) (lenOf pd_17 rfl) rfl rfl (Nat.le_of_eq rfl) (hb hby at_129) (pc' := 132) rfl (by decide) (by decide) ?_
  clear P; intro T h14 v14 P K14 q14
  obtain ⟨c6, rfl, l6, rfl⟩ := q14; clear K14
  show OG p e below m _ T 132 #[.val (.int i0), .val (.int i1), .val (.int i2), .val (.int i3), .val (.long i4), .second, .val (.int kd), .val (.ref t), .val (.ref ar), .unset, .unset, .unset, .unset, .unset, .unset] [(.int c6), (.int (6 : Int32)), (.ref ar)]
  refine o_castore P (v := (.int c6)) A_ar (List.Mem.head _) (by decide) (of_decide_eq_true rfl) (congrArg Value.int (o_nar_char (o_c16 l6))) (hb hby at_132) (pc' := 133) rfl ?_
  clear P; clear A_ar; intro T h15 P W15 A_ar
  replace F_t := F_t.oth W15 ne_t_ar
  replace G := G.keep (Keep.of_wr W15) (ninS ne_t_ar nin0) (ninS ne_tx_ar nin0)
  clear W15
  replace A_ar : OArr Z h15 ar .char [(.int c0), (.int c1), (.int c2), (.int c3), (.int c4), (.int c5), (.int c6), (.int 0)] := A_ar
  refine o_aload P (hb hby at_133) rfl rfl (pc' := 135) rfl ?_
  refine o_bipush P (7 : Int32) (hb hby at_135) rfl (pc' := 137) rfl ?_
  refine o_aload P (hb hby at_137) rfl rfl (pc' := 139) rfl ?_
  refine o_bipush P (7 : Int32) (hb hby at_139) rfl (pc' := 141) rfl ?_
  refine o_lload P (hb hby at_141) rfl (pc' := 143) rfl ?_
  refine o_callS P (W := 2) (ow hw 9 rfl) (ow hw 10 rfl) (ow hw 11 rfl) (ow hw 12 rfl) (by decide) (ct_pick l Z a0 hw EL n0 t tx (7 : Int32) i4 us cv hcs hcv fv hfv hfr (by decide) h15 G) o_sf0 (by rw [hml]; rfl) (by decide) (by decide) (argsL := [(.ref t), (.int (7 : Int32)), (.long i4)]) (rest := [(.int (7 : Int32)), (.ref ar)]) (lenOf pd_17 rfl) rfl rfl (Nat.le_of_eq rfl) (hb hby at_143) (pc' := 146) rfl (by decide) (by decide) ?_
  clear P; intro T h16 v16 P K16 q16
  obtain ⟨c7, rfl, l7, rfl⟩ := q16; clear K16
  show OG p e below m _ T 146 #[.val (.int i0), .val (.int i1), .val (.int i2), .val (.int i3), .val (.long i4), .second, .val (.int kd), .val (.ref t), .val (.ref ar), .unset, .unset, .unset, .unset, .unset, .unset] [(.int c7), (.int (7 : Int32)), (.ref ar)]
  refine o_castore P (v := (.int c7)) A_ar (List.Mem.head _) (by decide) (of_decide_eq_true rfl) (congrArg Value.int (o_nar_char (o_c16 l7))) (hb hby at_146) (pc' := 147) rfl ?_
  clear P; clear A_ar; intro T h17 P W17 A_ar
  replace F_t := F_t.oth W17 ne_t_ar
  replace G := G.keep (Keep.of_wr W17) (ninS ne_t_ar nin0) (ninS ne_tx_ar nin0)
  clear W17
  replace A_ar : OArr Z h17 ar .char [(.int c0), (.int c1), (.int c2), (.int c3), (.int c4), (.int c5), (.int c6), (.int c7)] := A_ar
  refine o_aload P (hb hby at_147) rfl rfl (pc' := 149) rfl ?_
  refine o_callV P (W := 0) (x := (⟨"java/lang/String", "length", "()I"⟩ : MethodName)) (y := (⟨"java/lang/String", "length", "()I"⟩ : MethodName)) (a := t) (ow hw 13 rfl) (ow hw 14 rfl) (o_nfSel (y := (⟨"java/lang/String", "length", "()I"⟩ : MethodName)) rfl (ow hw 16 rfl)) (ow hw 16 rfl) (ow hw 15 rfl) (ow hw 1 rfl) (ow hw 17 rfl) (by decide) F_t.exa (ct_len l Z a0 hw EL n0 t tx us cv hcs hcv h17 G) o_sf0 (by rw [hml]; rfl) (by decide) (by decide) (argsL := []) (rest := []) (lenOf pd_12 rfl) rfl rfl (Nat.le_of_eq rfl) (hb hby at_149) (pc' := 152) rfl (by decide) (by decide) ?_
  clear P; intro T h18 v18 P K18 q18
  obtain ⟨rfl, rfl⟩ := q18; clear K18
  show OG p e below m _ T 152 #[.val (.int i0), .val (.int i1), .val (.int i2), .val (.int i3), .val (.long i4), .second, .val (.int kd), .val (.ref t), .val (.ref ar), .unset, .unset, .unset, .unset, .unset, .unset] [(.int us.length.toInt32)]
  refine o_istore P (hb hby at_152) (L' := #[.val (.int i0), .val (.int i1), .val (.int i2), .val (.int i3), .val (.long i4), .second, .val (.int kd), .val (.ref t), .val (.ref ar), .val (.int us.length.toInt32), .unset, .unset, .unset, .unset, .unset]) rfl (pc' := 154) rfl ?_
  refine o_iloadN P (hb hby at_154) rfl (pc' := 155) rfl ?_
  refine o_iconst P (3 : Int32) (hb hby at_155) rfl (pc' := 156) rfl ?_
  refine o_iand P (hb hby at_156) (pc' := 157) rfl ?_
  refine o_istore P (hb hby at_157) (L' := #[.val (.int i0), .val (.int i1), .val (.int i2), .val (.int i3), .val (.long i4), .second, .val (.int kd), .val (.ref t), .val (.ref ar), .val (.int us.length.toInt32), .val (.int (i1 &&& (3 : Int32))), .unset, .unset, .unset, .unset]) rfl (pc' := 159) rfl ?_
  refine o_iload P (hb hby at_159) rfl (pc' := 161) rfl ?_
  refine o_if_ne P (hb hby at_161) (by decide) (pc' := 169) (by decide) (pcf := 164) rfl (fun hd0 => ?_) (fun hd0 => ?_)
  · refine o_iload P (hb hby at_169) rfl (pc' := 171) rfl ?_
    refine o_iconst P (1 : Int32) (hb hby at_171) rfl (pc' := 172) rfl ?_
    refine o_icmp_ne P (hb hby at_172) (by decide) (pc' := 186) (by decide) (pcf := 175) rfl (fun hd1 => ?_) (fun hd1 => ?_)
    · refine o_iload P (hb hby at_186) rfl (pc' := 188) rfl ?_
      refine o_iconst P (2 : Int32) (hb hby at_188) rfl (pc' := 189) rfl ?_
      refine o_icmp_ne P (hb hby at_189) (by decide) (pc' := 199) (by decide) (pcf := 192) rfl (fun hd2 => ?_) (fun hd2 => ?_)
      · refine o_iloadN P (hb hby at_199) rfl (pc' := 200) rfl ?_
        refine o_iconst P (2 : Int32) (hb hby at_200) rfl (pc' := 201) rfl ?_
        refine o_iushr P (hb hby at_201) (pc' := 202) rfl ?_
        refine o_bipush P (9 : Int32) (hb hby at_202) rfl (pc' := 204) rfl ?_
        refine o_irem P (hb hby at_204) (by decide) (pc' := 205) rfl ?_
        refine o_istore P (hb hby at_205) (L' := #[.val (.int i0), .val (.int i1), .val (.int i2), .val (.int i3), .val (.long i4), .second, .val (.int kd), .val (.ref t), .val (.ref ar), .val (.int us.length.toInt32), .val (.int (i1 &&& (3 : Int32))), .val (.int (((i1.toUInt32 >>> ((2 : Int32) &&& 31).toUInt32).toInt32) % (9 : Int32))), .unset, .unset, .unset]) rfl (pc' := 207) rfl ?_
        exact law207 l Z a0 hw EL hby hml hret i0 i1 i2 i3 i4 kd t _ _ _ ar [c0, c1, c2, c3, c4, c5, c6, c7] rfl (OLat.cons l0 (OLat.cons l1 (OLat.cons l2 (OLat.cons l3 (OLat.cons l4 (OLat.cons l5 (OLat.cons l6 (OLat.cons l7 OLat.nil)))))))) A_ar k0 k1 k2 va hva Eva Ava u0 w0 hk0 Fk0 Gu0 u1 w1 hk1 Fk1 Gu1 u2 w2 hk2 Fk2 Gu2 cv hcs hcv fv hfv hfr hm7 hm9 hm11 hm13 hmem P
      · refine o_iload P (hb hby at_192) rfl (pc' := 194) rfl ?_
        refine o_iconst P (1 : Int32) (hb hby at_194) rfl (pc' := 195) rfl ?_
        refine o_iadd P (hb hby at_195) (pc' := 196) rfl ?_
        refine o_goto P (hb hby at_196) (by decide) (pc' := 205) (by decide) ?_
        refine o_istore P (hb hby at_205) (L' := #[.val (.int i0), .val (.int i1), .val (.int i2), .val (.int i3), .val (.long i4), .second, .val (.int kd), .val (.ref t), .val (.ref ar), .val (.int us.length.toInt32), .val (.int (i1 &&& (3 : Int32))), .val (.int (us.length.toInt32 + (1 : Int32))), .unset, .unset, .unset]) rfl (pc' := 207) rfl ?_
        exact law207 l Z a0 hw EL hby hml hret i0 i1 i2 i3 i4 kd t _ _ _ ar [c0, c1, c2, c3, c4, c5, c6, c7] rfl (OLat.cons l0 (OLat.cons l1 (OLat.cons l2 (OLat.cons l3 (OLat.cons l4 (OLat.cons l5 (OLat.cons l6 (OLat.cons l7 OLat.nil)))))))) A_ar k0 k1 k2 va hva Eva Ava u0 w0 hk0 Fk0 Gu0 u1 w1 hk1 Fk1 Gu1 u2 w2 hk2 Fk2 Gu2 cv hcs hcv fv hfv hfr hm7 hm9 hm11 hm13 hmem P
    · refine o_iconst P (0 : Int32) (hb hby at_175) rfl (pc' := 176) rfl ?_
      refine o_iload P (hb hby at_176) rfl (pc' := 178) rfl ?_
      refine o_iconst P (1 : Int32) (hb hby at_178) rfl (pc' := 179) rfl ?_
      refine o_isub P (hb hby at_179) (pc' := 180) rfl ?_
      refine o_callS P (W := 0) (ow hw 111 rfl) (ow hw 112 rfl) (ow hw 113 rfl) (ow hw 114 rfl) (by decide) (ct_max l Z a0 hw EL n0 _ _ h18) o_sf0 (by rw [hml]; rfl) (by decide) (by decide) (argsL := [(.int (0 : Int32)), (.int (us.length.toInt32 - (1 : Int32)))]) (rest := []) (lenOf pd_18 rfl) rfl rfl (Nat.le_of_eq rfl) (hb hby at_180) (pc' := 183) rfl (by decide) (by decide) ?_
      clear P; intro T h19 v19 P K19 q19
      obtain ⟨mxv, rfl, rfl⟩ := q19; clear K19
      show OG p e below m _ T 183 #[.val (.int i0), .val (.int i1), .val (.int i2), .val (.int i3), .val (.long i4), .second, .val (.int kd), .val (.ref t), .val (.ref ar), .val (.int us.length.toInt32), .val (.int (i1 &&& (3 : Int32))), .unset, .unset, .unset, .unset] [(.int mxv)]
      refine o_goto P (hb hby at_183) (by decide) (pc' := 205) (by decide) ?_
      refine o_istore P (hb hby at_205) (L' := #[.val (.int i0), .val (.int i1), .val (.int i2), .val (.int i3), .val (.long i4), .second, .val (.int kd), .val (.ref t), .val (.ref ar), .val (.int us.length.toInt32), .val (.int (i1 &&& (3 : Int32))), .val (.int mxv), .unset, .unset, .unset]) rfl (pc' := 207) rfl ?_
      exact law207 l Z a0 hw EL hby hml hret i0 i1 i2 i3 i4 kd t _ _ _ ar [c0, c1, c2, c3, c4, c5, c6, c7] rfl (OLat.cons l0 (OLat.cons l1 (OLat.cons l2 (OLat.cons l3 (OLat.cons l4 (OLat.cons l5 (OLat.cons l6 (OLat.cons l7 OLat.nil)))))))) A_ar k0 k1 k2 va hva Eva Ava u0 w0 hk0 Fk0 Gu0 u1 w1 hk1 Fk1 Gu1 u2 w2 hk2 Fk2 Gu2 cv hcs hcv fv hfv hfr hm7 hm9 hm11 hm13 hmem P
  · refine o_iload P (hb hby at_164) rfl (pc' := 166) rfl ?_
    refine o_goto P (hb hby at_166) (by decide) (pc' := 205) (by decide) ?_
    refine o_istore P (hb hby at_205) (L' := #[.val (.int i0), .val (.int i1), .val (.int i2), .val (.int i3), .val (.long i4), .second, .val (.int kd), .val (.ref t), .val (.ref ar), .val (.int us.length.toInt32), .val (.int (i1 &&& (3 : Int32))), .val (.int us.length.toInt32), .unset, .unset, .unset]) rfl (pc' := 207) rfl ?_
    exact law207 l Z a0 hw EL hby hml hret i0 i1 i2 i3 i4 kd t _ _ _ ar [c0, c1, c2, c3, c4, c5, c6, c7] rfl (OLat.cons l0 (OLat.cons l1 (OLat.cons l2 (OLat.cons l3 (OLat.cons l4 (OLat.cons l5 (OLat.cons l6 (OLat.cons l7 OLat.nil)))))))) A_ar k0 k1 k2 va hva Eva Ava u0 w0 hk0 Fk0 Gu0 u1 w1 hk1 Fk1 Gu1 u2 w2 hk2 Fk2 Gu2 cv hcs hcv fv hfv hfr hm7 hm9 hm11 hm13 hmem P
theorem ef_0 (x0 : Int32) (x1 : Int32) (x2 : Int32) (x3 : Int32) (x4 : Int64) (m : MethodId) : entryFrame m #[(.int x0), (.int x1), (.int x2), (.int x3), (.long x4)] maxLocals = mkF m 0 #[.val (.int x0), .val (.int x1), .val (.int x2), .val (.int x3), .val (.long x4), .second, .unset, .unset, .unset, .unset, .unset, .unset, .unset, .unset, .unset] [] := by first | (simp [entryFrame, mkF, argsToLocals, o_catR, o_catN, o_catI, o_catJ, o_catD, maxLocals]; done) | rfl
set_option maxRecDepth 65536 in
set_option maxHeartbeats 40000000 in
theorem rm0 (l : Launch) (Z : State) (a0 : Array Value) (hw : ∀ d ∈ tables_1, d.before a0 Z = true) (EL : List (String × Nat)) (n0 : Nat) (i0 i1 i2 i3 : Int32) (i4 : Int64) (k0 k1 k2 : Addr) (va : Addr) (hva : Sta Z Z.heap "com/example/busca/busca/analysis/Analyzer" "$VALUES" "[Lcom/example/busca/busca/analysis/Analyzer;" (.ref va)) (Eva : Exa Z Z.heap va "[Lcom/example/busca/busca/analysis/Analyzer;") (Ava : OArr Z Z.heap va (.object "com/example/busca/busca/analysis/Analyzer") [.ref k0, .ref k1, .ref k2]) (u0 w0 : Addr) (hk0 : Sta Z Z.heap "com/example/busca/busca/analysis/Analyzer" "PLAIN" "Lcom/example/busca/busca/analysis/Analyzer;" (.ref k0)) (Fk0 : OObj Z Z.heap k0 "com/example/busca/busca/analysis/Analyzer" [("com/example/busca/busca/analysis/Analyzer", "analyzerName", "Ljava/lang/String;", (.ref u0))]) (Gu0 : OStr Z Z.heap u0 w0 (och [112, 108, 97, 105, 110])) (u1 w1 : Addr) (hk1 : Sta Z Z.heap "com/example/busca/busca/analysis/Analyzer" "PORTER" "Lcom/example/busca/busca/analysis/Analyzer;" (.ref k1)) (Fk1 : OObj Z Z.heap k1 "com/example/busca/busca/analysis/Analyzer" [("com/example/busca/busca/analysis/Analyzer", "analyzerName", "Ljava/lang/String;", (.ref u1))]) (Gu1 : OStr Z Z.heap u1 w1 (och [112, 111, 114, 116, 101, 114])) (u2 w2 : Addr) (hk2 : Sta Z Z.heap "com/example/busca/busca/analysis/Analyzer" "ENGLISH" "Lcom/example/busca/busca/analysis/Analyzer;" (.ref k2)) (Fk2 : OObj Z Z.heap k2 "com/example/busca/busca/analysis/Analyzer" [("com/example/busca/busca/analysis/Analyzer", "analyzerName", "Ljava/lang/String;", (.ref u2))]) (Gu2 : OStr Z Z.heap u2 w2 (och [101, 110, 103, 108, 105, 115, 104])) (cv : Int32) (hcs : Sta Z Z.heap "java/lang/String" "COMPACT_STRINGS" "Z" (.int cv)) (hcv : ¬ cv = 0) (fv : Value) (hfv : Sta Z Z.heap "jdk/internal/util/Preconditions" "SIOOBE_FORMATTER" "Ljava/util/function/BiFunction;" fv) (hfr : fv.isRef = true) (hm7 : ("com/example/busca/busca/analysis/AnalyzerNamedPinLaw", 7) ∈ EL) (hm9 : ("com/example/busca/busca/analysis/AnalyzerNamedPinLaw", 9) ∈ EL) (hm11 : ("com/example/busca/busca/analysis/AnalyzerNamedPinLaw", 11) ∈ EL) (hm13 : ("com/example/busca/busca/analysis/AnalyzerNamedPinLaw", 13) ∈ EL) (hmem : ("java/lang/String", 7) ∈ EL) (h0 : Heap) :
    OCt l Z a0 EL n0 x code maxLocals ret room_1 tables_1 #[(.int i0), (.int i1), (.int i2), (.int i3), (.long i4)] h0 [] (fun w vm h => w = some (.int 1)) := by
  refine OCt.body (plainFor_of_name pn_L) (ef_0 i0 i1 i2 i3 i4) ?_
  intro p e s m below meth c T hby hml hret hnm hsh P
  refine o_iloadN P (hb hby at_0) rfl (pc' := 1) rfl ?_
  refine o_iconst P (3 : Int32) (hb hby at_1) rfl (pc' := 2) rfl ?_
  refine o_iand P (hb hby at_2) (pc' := 3) rfl ?_
  refine o_istore P (hb hby at_3) (L' := #[.val (.int i0), .val (.int i1), .val (.int i2), .val (.int i3), .val (.long i4), .second, .val (.int (i0 &&& (3 : Int32))), .unset, .unset, .unset, .unset, .unset, .unset, .unset, .unset]) rfl (pc' := 5) rfl ?_
  refine o_iload P (hb hby at_5) rfl (pc' := 7) rfl ?_
  refine o_if_ne P (hb hby at_7) (by decide) (pc' := 15) (by decide) (pcf := 10) rfl (fun h0q => ?_) (fun h0q => ?_)
  · refine o_iload P (hb hby at_15) rfl (pc' := 17) rfl ?_
    refine o_iconst P (1 : Int32) (hb hby at_17) rfl (pc' := 18) rfl ?_
    refine o_icmp_ne P (hb hby at_18) (by decide) (pc' := 26) (by decide) (pcf := 21) rfl (fun h1q => ?_) (fun h1q => ?_)
    · refine o_iload P (hb hby at_26) rfl (pc' := 28) rfl ?_
      refine o_iconst P (2 : Int32) (hb hby at_28) rfl (pc' := 29) rfl ?_
      refine o_icmp_ne P (hb hby at_29) (by decide) (pc' := 37) (by decide) (pcf := 32) rfl (fun h2q => ?_) (fun h2q => ?_)
      · refine o_ldcS P (n := 0) (vs := och []) (ow hw 110 rfl) (own_wS hw) hm13 (Or.inr (ow hw 4 rfl)) (Or.inr (ow hw 5 rfl)) ⟨by decide, by decide +kernel⟩ (0 : Int32) (by decide) rfl (hb hby at_37) (pc' := 39) rfl (by decide) (by decide) (by decide) (by decide) ?_
        clear P; intro T h1 t tx P K1 G_t _
        clear K1
        refine o_astore P (hb hby at_39) rfl (L' := #[.val (.int i0), .val (.int i1), .val (.int i2), .val (.int i3), .val (.long i4), .second, .val (.int (i0 &&& (3 : Int32))), .val (.ref t), .unset, .unset, .unset, .unset, .unset, .unset, .unset]) rfl (pc' := 41) rfl ?_
        exact law41 l Z a0 hw EL hby hml hret i0 i1 i2 i3 i4 _ t tx _ G_t k0 k1 k2 va hva Eva Ava u0 w0 hk0 Fk0 Gu0 u1 w1 hk1 Fk1 Gu1 u2 w2 hk2 Fk2 Gu2 cv hcs hcv fv hfv hfr hm7 hm9 hm11 hm13 hmem (P.mono (by decide) (by decide))
      · refine o_ldcS P (n := 28) (vs := och [101, 110, 103, 108, 105, 115, 104]) (ow hw 74 rfl) (own_wS hw) hm11 (Or.inr (ow hw 4 rfl)) (Or.inr (ow hw 5 rfl)) ⟨by decide, by decide +kernel⟩ (7 : Int32) (by decide) rfl (hb hby at_32) (pc' := 34) rfl (by decide) (by decide) (by decide) (by decide) ?_
        clear P; intro T h1 t tx P K1 G_t _
        clear K1
        refine o_goto P (hb hby at_34) (by decide) (pc' := 39) (by decide) ?_
        refine o_astore P (hb hby at_39) rfl (L' := #[.val (.int i0), .val (.int i1), .val (.int i2), .val (.int i3), .val (.long i4), .second, .val (.int (i0 &&& (3 : Int32))), .val (.ref t), .unset, .unset, .unset, .unset, .unset, .unset, .unset]) rfl (pc' := 41) rfl ?_
        exact law41 l Z a0 hw EL hby hml hret i0 i1 i2 i3 i4 _ t tx _ G_t k0 k1 k2 va hva Eva Ava u0 w0 hk0 Fk0 Gu0 u1 w1 hk1 Fk1 Gu1 u2 w2 hk2 Fk2 Gu2 cv hcs hcv fv hfv hfr hm7 hm9 hm11 hm13 hmem (P.mono (by decide) (by decide))
    · refine o_ldcS P (n := 24) (vs := och [112, 111, 114, 116, 101, 114]) (ow hw 73 rfl) (own_wS hw) hm9 (Or.inr (ow hw 4 rfl)) (Or.inr (ow hw 5 rfl)) ⟨by decide, by decide +kernel⟩ (6 : Int32) (by decide) rfl (hb hby at_21) (pc' := 23) rfl (by decide) (by decide) (by decide) (by decide) ?_
      clear P; intro T h1 t tx P K1 G_t _
      clear K1
      refine o_goto P (hb hby at_23) (by decide) (pc' := 39) (by decide) ?_
      refine o_astore P (hb hby at_39) rfl (L' := #[.val (.int i0), .val (.int i1), .val (.int i2), .val (.int i3), .val (.long i4), .second, .val (.int (i0 &&& (3 : Int32))), .val (.ref t), .unset, .unset, .unset, .unset, .unset, .unset, .unset]) rfl (pc' := 41) rfl ?_
      exact law41 l Z a0 hw EL hby hml hret i0 i1 i2 i3 i4 _ t tx _ G_t k0 k1 k2 va hva Eva Ava u0 w0 hk0 Fk0 Gu0 u1 w1 hk1 Fk1 Gu1 u2 w2 hk2 Fk2 Gu2 cv hcs hcv fv hfv hfr hm7 hm9 hm11 hm13 hmem (P.mono (by decide) (by decide))
  · refine o_ldcS P (n := 20) (vs := och [112, 108, 97, 105, 110]) (ow hw 0 rfl) (own_wS hw) hm7 (Or.inr (ow hw 4 rfl)) (Or.inr (ow hw 5 rfl)) ⟨by decide, by decide +kernel⟩ (5 : Int32) (by decide) rfl (hb hby at_10) (pc' := 12) rfl (by decide) (by decide) (by decide) (by decide) ?_
    clear P; intro T h1 t tx P K1 G_t _
    clear K1
    refine o_goto P (hb hby at_12) (by decide) (pc' := 39) (by decide) ?_
    refine o_astore P (hb hby at_39) rfl (L' := #[.val (.int i0), .val (.int i1), .val (.int i2), .val (.int i3), .val (.long i4), .second, .val (.int (i0 &&& (3 : Int32))), .val (.ref t), .unset, .unset, .unset, .unset, .unset, .unset, .unset]) rfl (pc' := 41) rfl ?_
    exact law41 l Z a0 hw EL hby hml hret i0 i1 i2 i3 i4 _ t tx _ G_t k0 k1 k2 va hva Eva Ava u0 w0 hk0 Fk0 Gu0 u1 w1 hk1 Fk1 Gu1 u2 w2 hk2 Fk2 Gu2 cv hcs hcv fv hfv hfr hm7 hm9 hm11 hm13 hmem (P.mono (by decide) (by decide))
set_option maxRecDepth 65536 in
set_option maxHeartbeats 40000000 in
theorem comes_1 {Post : Tables → Env → Array Value → State → Outcome → State → Prop} (hpost : ∀ tb e args s v u, (limb_1_1.after args s (.returned v) u = true ∧ limb_1_2.after args s (.returned v) u = true ∧ True) → ReturnedEndW s (.returned v) u (Jvm.fieldLocs frame_1_writes args s ++ Jvm.arrayLocs frame_1_arrays args s ++ Jvm.staticLocs frame_1_statics s) 32 5312 → Post tb e args s (.returned v) u) :
    ArmFor flags0 classFile x code maxLocals ret World_1 tables_1 room_1 Calls_1 rest_1 Pre_1 Post := by
  intro l hfl _ _ p e ha hc hk s m args below hf hA hF happ hP
  obtain ⟨hcalls, hrest, hpre⟩ := hP
  obtain ⟨-, -, -, hnamed, -, -, -, hat⟩ := (Spec.applies_iff hf).mp happ
  obtain ⟨hg, hn⟩ := and_e (Cond.before_iff.mp (show (Jvm.Cond.and given_1 narrow_1).before args s = true from hpre))
  obtain ⟨g0, hg⟩ := and_e hg
  obtain ⟨gv0, hg⟩ := and_e hg
  obtain ⟨gv1, hg⟩ := and_e hg
  obtain ⟨gv2, hg⟩ := and_e hg
  obtain ⟨gv3, hg⟩ := and_e hg
  have gv4 := hg
  obtain ⟨w0, w1, w2, w3, w4, rfl⟩ : ∃ w0 w1 w2 w3 w4 : Value, args = #[w0, w1, w2, w3, w4] := by
    have hs : args.size = 5 := by simpa [Cond.value, given_1] using g0
    obtain ⟨L⟩ := args
    match L, hs with
    | [w0, w1, w2, w3, w4], _ => exact ⟨w0, w1, w2, w3, w4, rfl⟩
  have hw := fun d (hd : d ∈ tables_1) => atoms_spec (ws := Jvm.Cond.code x code maxLocals ret :: tables_1) hat d (List.mem_cons_of_mem _ hd)
  have hfit : Fit s := fun {y c} hc i hi => by
    obtain ⟨ha, rfl⟩ := Array.getElem?_eq_some_iff.mp hc
    have q := List.all_eq_true.mp ((Array.all_eq_true_iff_forall_mem.mp hF) _ (Array.getElem_mem ha)) i (List.mem_range.mpr hi)
    simpa [Array.getElem?_eq_getElem hi] using q
  obtain ⟨hsets, hown0⟩ := atoms_of _ (rest_1_c_eq ▸ (show rest_1_c.before _ s = true from hrest))
  obtain ⟨i0, ei0⟩ := is_v gv0
  obtain rfl : w0 = (.int i0) := Option.some.inj ei0
  obtain ⟨i1, ei1⟩ := is_v gv1
  obtain rfl : w1 = (.int i1) := Option.some.inj ei1
  obtain ⟨i2, ei2⟩ := is_v gv2
  obtain rfl : w2 = (.int i2) := Option.some.inj ei2
  obtain ⟨i3, ei3⟩ := is_v gv3
  obtain rfl : w3 = (.int i3) := Option.some.inj ei3
  obtain ⟨i4, ei4⟩ := isL_v gv4
  obtain rfl : w4 = (.long i4) := Option.some.inj ei4
  have n3 := not_v (Cond.before_iff.mp (hsets _ (List.mem_of_getElem? (i := 2) rfl)))
  obtain ⟨cv, e6⟩ := is_v (Cond.before_iff.mp (hsets _ (List.mem_of_getElem? (i := 1) rfl)))
  have hcs : Sta s s.heap "java/lang/String" "COMPACT_STRINGS" "Z" (.int cv) := Sta.start e6 (Or.inl (hsets _ (List.mem_of_getElem? (i := 0) rfl)))
  have hcv : ¬ (cv = (0 : Int32)) := gotF (Cond.eq_ints e6 (Term.int_eval (0))) n3
  obtain ⟨fv, efv, hfr⟩ := isR_v (Cond.before_iff.mp (hsets _ (List.mem_of_getElem? (i := 8) rfl)))
  have hfv : Sta s s.heap "jdk/internal/util/Preconditions" "SIOOBE_FORMATTER" "Ljava/util/function/BiFunction;" fv := Sta.start efv (Or.inl (hsets _ (List.mem_of_getElem? (i := 7) rfl)))
  have hEW : EW s #[.int i0, .int i1, .int i2, .int i3, .long i4] consts_1 := (EW.cons (ow hw 0 rfl) (by decide) (EW.cons (ow hw 73 rfl) (by decide) (EW.cons (ow hw 74 rfl) (by decide) (EW.cons (ow hw 110 rfl) (by decide) (EW.cons (ow hw 63 rfl) (by decide) EW.nil)))))
  have hCH : CHv s consts_1 s.vm s.heap := CHv.start hEW (fun p hp => hcalls.1 p hp) (hsets _ (List.mem_of_getElem? (i := 2) rfl)) (ow hw 3 rfl) (ow hw 2 rfl)
  obtain ⟨nc0, hn⟩ := and_e hn
  obtain ⟨nc1, hn⟩ := and_e hn
  obtain ⟨nc2, hn⟩ := and_e hn
  obtain ⟨nc3, hn⟩ := and_e hn
  obtain ⟨nc4, hn⟩ := and_e hn
  obtain ⟨nc5, hn⟩ := and_e hn
  obtain ⟨nc6, hn⟩ := and_e hn
  obtain ⟨nc7, hn⟩ := and_e hn
  obtain ⟨nc8, hn⟩ := and_e hn
  obtain ⟨nc9, hn⟩ := and_e hn
  obtain ⟨nc10, hn⟩ := and_e hn
  obtain ⟨nc11, hn⟩ := and_e hn
  obtain ⟨nc12, hn⟩ := and_e hn
  obtain ⟨nc13, hn⟩ := and_e hn
  obtain ⟨nc14, hn⟩ := and_e hn
  obtain ⟨nc15, hn⟩ := and_e hn
  obtain ⟨nc16, hn⟩ := and_e hn
  obtain ⟨nc17, hn⟩ := and_e hn
  obtain ⟨nc18, hn⟩ := and_e hn
  obtain ⟨nc19, hn⟩ := and_e hn
  obtain ⟨nc20, hn⟩ := and_e hn
  obtain ⟨nc21, hn⟩ := and_e hn
  obtain ⟨nc22, hn⟩ := and_e hn
  obtain ⟨nc23, hn⟩ := and_e hn
  obtain ⟨nc24, hn⟩ := and_e hn
  obtain ⟨nc25, hn⟩ := and_e hn
  obtain ⟨nc26, hn⟩ := and_e hn
  obtain ⟨nc27, hn⟩ := and_e hn
  obtain ⟨nc28, hn⟩ := and_e hn
  obtain ⟨nc29, hn⟩ := and_e hn
  obtain ⟨nc30, hn⟩ := and_e hn
  obtain ⟨nc31, hn⟩ := and_e hn
  obtain ⟨nc32, hn⟩ := and_e hn
  obtain ⟨nc33, hn⟩ := and_e hn
  obtain ⟨nc34, hn⟩ := and_e hn
  obtain ⟨nc35, hn⟩ := and_e hn
  obtain ⟨nc36, hn⟩ := and_e hn
  obtain ⟨nc37, hn⟩ := and_e hn
  have nc38 := hn
  obtain ⟨va, eva⟩ := exa_v nc1
  have hva : Sta s s.heap "com/example/busca/busca/analysis/Analyzer" "$VALUES" "[Lcom/example/busca/busca/analysis/Analyzer;" (.ref va) := Sta.start eva (Or.inr ⟨(ow hw 77 rfl), (ow hw 83 rfl)⟩)
  have Eva := Exa.start eva nc1
  obtain ⟨vac, Avac⟩ := Arr.start eva nc0
  have val := o_len eva Avac nc2
  obtain ⟨k0, ek0⟩ := exa_v nc3
  have hk0 : Sta s s.heap "com/example/busca/busca/analysis/Analyzer" "PLAIN" "Lcom/example/busca/busca/analysis/Analyzer;" (.ref k0) := Sta.start ek0 (Or.inr ⟨(ow hw 77 rfl), (ow hw 91 rfl)⟩)
  obtain ⟨u0, eu0⟩ := exa_v nc9
  have Fk0 : OObj s s.heap k0 "com/example/busca/busca/analysis/Analyzer" [("com/example/busca/busca/analysis/Analyzer", "analyzerName", "Ljava/lang/String;", .ref u0)] := OObj.one (Exa.start ek0 nc3) (o_fexa ek0 eu0)
  obtain ⟨w0, ew0⟩ := arr_v nc11
  obtain ⟨wc0, Aw0⟩ := Arr.start ew0 nc11
  have wl0 := o_len ew0 Aw0 nc12
  have Gu0 : OStr s s.heap u0 w0 (och [112, 108, 97, 105, 110]) := ⟨OObj.two (a0 := #[.int i0, .int i1, .int i2, .int i3, .long i4]) (Exa.start eu0 nc9) (o_fexa eu0 ew0) (o_fint eu0 nc10) (Or.inr (ow hw 4 rfl)) (Or.inr (ow hw 5 rfl)) (by decide) (ty := .array .byte) (by decide) (ty' := .byte) (by decide), OArr.start hfit Aw0 wl0 (by decide) rfl ⟨o_slot ew0 Aw0 (by decide) (eqv_i (Term.int_eval 112) nc21), o_slot ew0 Aw0 (by decide) (eqv_i (Term.int_eval 108) nc22), o_slot ew0 Aw0 (by decide) (eqv_i (Term.int_eval 97) nc23), o_slot ew0 Aw0 (by decide) (eqv_i (Term.int_eval 105) nc24), o_slot ew0 Aw0 (by decide) (eqv_i (Term.int_eval 110) nc25), trivial⟩⟩
  obtain ⟨k1, ek1⟩ := exa_v nc5
  have hk1 : Sta s s.heap "com/example/busca/busca/analysis/Analyzer" "PORTER" "Lcom/example/busca/busca/analysis/Analyzer;" (.ref k1) := Sta.start ek1 (Or.inr ⟨(ow hw 77 rfl), (ow hw 92 rfl)⟩)
  obtain ⟨u1, eu1⟩ := exa_v nc13
  have Fk1 : OObj s s.heap k1 "com/example/busca/busca/analysis/Analyzer" [("com/example/busca/busca/analysis/Analyzer", "analyzerName", "Ljava/lang/String;", .ref u1)] := OObj.one (Exa.start ek1 nc5) (o_fexa ek1 eu1)
  obtain ⟨w1, ew1⟩ := arr_v nc15
  obtain ⟨wc1, Aw1⟩ := Arr.start ew1 nc15
  have wl1 := o_len ew1 Aw1 nc16
  have Gu1 : OStr s s.heap u1 w1 (och [112, 111, 114, 116, 101, 114]) := ⟨OObj.two (a0 := #[.int i0, .int i1, .int i2, .int i3, .long i4]) (Exa.start eu1 nc13) (o_fexa eu1 ew1) (o_fint eu1 nc14) (Or.inr (ow hw 4 rfl)) (Or.inr (ow hw 5 rfl)) (by decide) (ty := .array .byte) (by decide) (ty' := .byte) (by decide), OArr.start hfit Aw1 wl1 (by decide) rfl ⟨o_slot ew1 Aw1 (by decide) (eqv_i (Term.int_eval 112) nc26), o_slot ew1 Aw1 (by decide) (eqv_i (Term.int_eval 111) nc27), o_slot ew1 Aw1 (by decide) (eqv_i (Term.int_eval 114) nc28), o_slot ew1 Aw1 (by decide) (eqv_i (Term.int_eval 116) nc29), o_slot ew1 Aw1 (by decide) (eqv_i (Term.int_eval 101) nc30), o_slot ew1 Aw1 (by decide) (eqv_i (Term.int_eval 114) nc31), trivial⟩⟩
  obtain ⟨k2, ek2⟩ := exa_v nc7
  have hk2 : Sta s s.heap "com/example/busca/busca/analysis/Analyzer" "ENGLISH" "Lcom/example/busca/busca/analysis/Analyzer;" (.ref k2) := Sta.start ek2 (Or.inr ⟨(ow hw 77 rfl), (ow hw 93 rfl)⟩)
  obtain ⟨u2, eu2⟩ := exa_v nc17
  have Fk2 : OObj s s.heap k2 "com/example/busca/busca/analysis/Analyzer" [("com/example/busca/busca/analysis/Analyzer", "analyzerName", "Ljava/lang/String;", .ref u2)] := OObj.one (Exa.start ek2 nc7) (o_fexa ek2 eu2)
  obtain ⟨w2, ew2⟩ := arr_v nc19
  obtain ⟨wc2, Aw2⟩ := Arr.start ew2 nc19
  have wl2 := o_len ew2 Aw2 nc20
  have Gu2 : OStr s s.heap u2 w2 (och [101, 110, 103, 108, 105, 115, 104]) := ⟨OObj.two (a0 := #[.int i0, .int i1, .int i2, .int i3, .long i4]) (Exa.start eu2 nc17) (o_fexa eu2 ew2) (o_fint eu2 nc18) (Or.inr (ow hw 4 rfl)) (Or.inr (ow hw 5 rfl)) (by decide) (ty := .array .byte) (by decide) (ty' := .byte) (by decide), OArr.start hfit Aw2 wl2 (by decide) rfl ⟨o_slot ew2 Aw2 (by decide) (eqv_i (Term.int_eval 101) nc32), o_slot ew2 Aw2 (by decide) (eqv_i (Term.int_eval 110) nc33), o_slot ew2 Aw2 (by decide) (eqv_i (Term.int_eval 103) nc34), o_slot ew2 Aw2 (by decide) (eqv_i (Term.int_eval 108) nc35), o_slot ew2 Aw2 (by decide) (eqv_i (Term.int_eval 105) nc36), o_slot ew2 Aw2 (by decide) (eqv_i (Term.int_eval 115) nc37), o_slot ew2 Aw2 (by decide) (eqv_i (Term.int_eval 104) nc38), trivial⟩⟩
  have Ava : OArr s s.heap va (.object "com/example/busca/busca/analysis/Analyzer") [.ref k0, .ref k1, .ref k2] := OArr.start hfit Avac val (by decide) rfl ⟨o_slot eva Avac (by decide) (o_eqr ek0 nc4), o_slot eva Avac (by decide) (o_eqr ek1 nc6), o_slot eva Avac (by decide) (o_eqr ek2 nc8), trivial⟩
  obtain ⟨n, o, h1, h2, h3, v, L, rfl, ⟨rfl, K, N⟩, hC, hH, hq⟩ := rm0 l s _ hw consts_1 s.heap.size i0 i1 i2 i3 i4 k0 k1 k2 va hva Eva Ava u0 w0 hk0 Fk0 Gu0 u1 w1 hk1 Fk1 Gu1 u2 w2 hk2 Fk2 Gu2 cv hcs hcv fv hfv hfr (by simp [consts_1]) (by simp [consts_1]) (by simp [consts_1]) (by simp [consts_1]) (by simp [consts_1]) s.heap (Old.start s) hEW (fun _ q => nomatch q) p e ha hc hk s m _ below hf ((Spec.applies_iff_loose hf).mp happ).1 ⟨rfl, State.Warmed39.refl s, rfl, hCH, fun _ q => nomatch q⟩ trivial
  refine ⟨n, _, h1, h2, h3, hpost _ _ _ _ _ _ ⟨Cond.after_iff.mpr rfl, Cond.after_iff.mpr (eq_i res_at (Term.int_eval (1)) rfl), trivial⟩ ⟨hq.1, hq.2.1, hq.2.2.1, (hq.2.2.2.sift fun y hy => Or.inr (N y hy)).mono (by decide) (by decide)⟩⟩
theorem main_1_1 : Claimed_1_1 := comes_1 fun _ _ _ _ _ _ h hF => ⟨h.1, hF⟩
theorem main_1_2 : Claimed_1_2 := comes_1 fun _ _ _ _ _ _ h hF => ⟨h.2.1, hF⟩
end Jvm.Pilot.@@N@@
namespace Jvm.Pilot.@@N@@
open Jvm Jvm.ClassFile Sem Op Lib Jvm.Free Jvm.Stand Jvm.Pilot.@@N@@.Jvm.D
/-! MADE BY PROGRAM (witnessworld.py) out of the Statement's table words and the real class files: 23 classes; the members and pool entries that the words name. The judged class is class 1, her method 1. -/
namespace start1
open Jvm.ClassFile
def u (s : String) : CpInfo := .utf8 (stringToUtf16 s)
/-- a pool by its gaps: so many unusable entries, then the entry; so many at the end -/
def gap : Nat → List CpInfo → List CpInfo
  | 0, r => r
  | n + 1, r => .unusable :: gap n r
def poolList (es : List (Nat × CpInfo)) (last : Nat) : List CpInfo := es.foldr (fun e r => gap e.1 (e.2 :: r)) (gap last [])
def pool (es : List (Nat × CpInfo)) (last : Nat) : Array CpInfo := ⟨poolList es last⟩
def fileOf (pool : Array CpInfo) (this : Nat) (attrs : Array Attribute := #[]) (ms : Array MethodInfo := #[]) (fl : Nat := 33) (sup : Nat := 0) (ifs : Array Nat := #[]) (fds : Array FieldInfo := #[]) : ClassFile where
  minorVersion := 0
  majorVersion := 65
  constantPool := pool
  accessFlags := fl
  thisClass := this
  superClass := sup
  interfaces := ifs
  fields := fds
  methods := ms
  attributes := attrs
def plain (name : String) (sup : Option ClassId) : Class where
  name := name
  kind := .ordinary
  loader := none
  accessFlags := 33
  super := sup
  interfaces := #[]
  cf := none
  fields := #[]
  methods := #[]
  instanceTypes := #[]
  staticTypes := #[]
  resolved := #[]
  callSites := []
  init := .initialized
  statics := none
  mirror := none

def pool0 : Array CpInfo := pool [(5, u "<init>"), (0, u "()V"), (1, .class_ 10), (1, u "java/lang/Object"), (85, u "clone"), (0, u "()Ljava/lang/Object;")] 26

def k0c0 : Code := { maxStack := 0, maxLocals := 1, code := object_method_1_code, exceptionTable := #[], attributes := #[] }
def k0m0 : Method := { name := "<init>", desc := "()V", sig := { parameters := [], returnType := none }, accessFlags := 1, code := some k0c0 }
def k0m1 : Method := { name := "clone", desc := "()Ljava/lang/Object;", sig := { parameters := [], returnType := some (.object "java/lang/Object") }, accessFlags := 260, code := none }
/-- java/lang/Object -/
def k0 : Class := { plain "java/lang/Object" none with
  accessFlags := 33
  interfaces := #[]
  cf := some (fileOf pool0 8 #[] #[{ accessFlags := 1, nameIndex := 5, descriptorIndex := 6, attributes := #[] }, { accessFlags := 260, nameIndex := 96, descriptorIndex := 97, attributes := #[] }] 33 0 #[] #[])
  fields := #[]
  methods := #[k0m0, k0m1]
  instanceTypes := #[]
  staticTypes := #[]
  resolved := Array.replicate 124 none
  statics := none }

def pool1 : Array CpInfo := pool [(2, .class_ 4), (1, u "java/lang/Object"), (0, u "<init>"), (0, u "()V"), (0, .string 8), (0, u "plain"), (0, .string 10), (0, u "porter"), (0, .string 12), (0, u "english"), (0, .string 14), (0, u ""), (0, .methodref 16 17), (0, .class_ 18), (0, .nameAndType 19 20), (0, u "com/example/busca/busca/analysis/AnalyzerNamedPinLaw"), (0, u "pick"), (0, u "(Ljava/lang/String;IJ)C"), (0, .methodref 22 23), (0, .class_ 24), (0, .nameAndType 25 26), (0, u "java/lang/String"), (0, u "length"), (0, u "()I"), (0, .methodref 28 29), (0, .class_ 30), (0, .nameAndType 31 32), (0, u "java/lang/Math"), (0, u "max"), (0, u "(II)I"), (0, .methodref 16 34), (0, .nameAndType 35 36), (0, u "str"), (0, u "([CI)Ljava/lang/String;"), (0, .methodref 22 38), (0, .nameAndType 39 40), (0, u "equals"), (0, u "(Ljava/lang/Object;)Z"), (0, .fieldref 42 43), (0, .class_ 44), (0, .nameAndType 45 46), (0, u "com/example/busca/busca/analysis/Analyzer"), (0, u "PLAIN"), (0, u "Lcom/example/busca/busca/analysis/Analyzer;"), (0, .fieldref 42 48), (0, .nameAndType 49 46), (0, u "PORTER"), (0, .fieldref 42 51), (0, .nameAndType 52 46), (0, u "ENGLISH"), (0, .methodref 42 54), (0, .nameAndType 55 56), (0, u "named"), (0, u "(Ljava/lang/String;)Lcom/example/busca/busca/analysis/Analyzer;"), (0, .methodref 22 58), (0, .nameAndType 59 60), (0, u "charAt"), (0, u "(I)C"), (0, .long 255), (1, .methodref 22 64), (0, .nameAndType 5 65), (0, u "([C)V"), (2, u "law"), (0, u "(IIIIJ)Z")] 5

def k1m0 : Method := { name := "<init>", desc := "()V", sig := { parameters := [], returnType := none }, accessFlags := 1, code := none }
def k1c1 : Code := { maxStack := 6, maxLocals := 15, code := code, exceptionTable := #[], attributes := #[] }
def k1m1 : Method := { name := "law", desc := "(IIIIJ)Z", sig := { parameters := [.int, .int, .int, .int, .long], returnType := some .boolean }, accessFlags := 9, code := some k1c1 }
def k1c2 : Code := { maxStack := 4, maxLocals := 4, code := method_3_code, exceptionTable := #[], attributes := #[] }
def k1m2 : Method := { name := "pick", desc := "(Ljava/lang/String;IJ)C", sig := { parameters := [(.object "java/lang/String"), .int, .long], returnType := some .char }, accessFlags := 10, code := some k1c2 }
def k1c3 : Code := { maxStack := 7, maxLocals := 2, code := method_4_code, exceptionTable := #[], attributes := #[] }
def k1m3 : Method := { name := "str", desc := "([CI)Ljava/lang/String;", sig := { parameters := [(.array .char), .int], returnType := some (.object "java/lang/String") }, accessFlags := 10, code := some k1c3 }
/-- com/example/busca/busca/analysis/AnalyzerNamedPinLaw -/
def k1 : Class := { plain "com/example/busca/busca/analysis/AnalyzerNamedPinLaw" (some 0) with
  accessFlags := 49
  interfaces := #[]
  cf := some (fileOf pool1 16 #[] #[{ accessFlags := 1, nameIndex := 5, descriptorIndex := 6, attributes := #[] }, { accessFlags := 9, nameIndex := 68, descriptorIndex := 69, attributes := #[] }, { accessFlags := 10, nameIndex := 19, descriptorIndex := 20, attributes := #[] }, { accessFlags := 10, nameIndex := 35, descriptorIndex := 36, attributes := #[] }] 49 2 #[] #[])
  fields := #[]
  methods := #[k1m0, k1m1, k1m2, k1m3]
  instanceTypes := #[]
  staticTypes := #[]
  resolved := Array.replicate 75 none
  statics := none }

def pool2 : Array CpInfo := pool [(1, .class_ 2), (0, u "java/io/Serializable"), (0, .class_ 4), (0, u "java/lang/Object")] 2

/-- java/io/Serializable -/
def k2 : Class := { plain "java/io/Serializable" (some 0) with
  accessFlags := 1537
  interfaces := #[]
  cf := some (fileOf pool2 1 #[] #[] 1537 3 #[] #[])
  fields := #[]
  methods := #[]
  instanceTypes := #[]
  staticTypes := #[]
  resolved := Array.replicate 7 none
  statics := none }

def pool3 : Array CpInfo := pool [(1, .class_ 2), (0, u "java/lang/Comparable"), (0, .class_ 4), (0, u "java/lang/Object")] 7

/-- java/lang/Comparable -/
def k3 : Class := { plain "java/lang/Comparable" (some 0) with
  accessFlags := 1537
  interfaces := #[]
  cf := some (fileOf pool3 1 #[] #[] 1537 3 #[] #[])
  fields := #[]
  methods := #[]
  instanceTypes := #[]
  staticTypes := #[]
  resolved := Array.replicate 12 none
  statics := none }

def pool4 : Array CpInfo := pool [(2, .class_ 4), (1, u "java/lang/CharSequence"), (42, .class_ 48), (0, u "java/lang/CharSequence$1CodePointIterator"), (10, .class_ 60), (0, u "java/lang/CharSequence$1CharIterator"), (5, .class_ 67), (0, u "java/lang/Object")] 63

/-- java/lang/CharSequence -/
def k4 : Class := { plain "java/lang/CharSequence" (some 0) with
  accessFlags := 1537
  interfaces := #[]
  cf := some (fileOf pool4 2 #[.nestMembers #[47, 59]] #[] 1537 66 #[] #[])
  fields := #[]
  methods := #[]
  instanceTypes := #[]
  staticTypes := #[]
  resolved := Array.replicate 131 none
  statics := none }

def pool5 : Array CpInfo := pool [(1, .class_ 2), (0, u "java/lang/constant/Constable"), (0, .class_ 4), (0, u "java/lang/Object")] 6

/-- java/lang/constant/Constable -/
def k5 : Class := { plain "java/lang/constant/Constable" (some 0) with
  accessFlags := 1537
  interfaces := #[]
  cf := some (fileOf pool5 1 #[] #[] 1537 3 #[] #[])
  fields := #[]
  methods := #[]
  instanceTypes := #[]
  staticTypes := #[]
  resolved := Array.replicate 11 none
  statics := none }

def pool6 : Array CpInfo := pool [(1, .class_ 2), (0, u "java/lang/constant/ConstantDesc"), (0, .class_ 4), (0, u "java/lang/Object")] 32

/-- java/lang/constant/ConstantDesc -/
def k6 : Class := { plain "java/lang/constant/ConstantDesc" (some 0) with
  accessFlags := 1537
  interfaces := #[]
  cf := some (fileOf pool6 1 #[] #[] 1537 3 #[] #[])
  fields := #[]
  methods := #[]
  instanceTypes := #[]
  staticTypes := #[]
  resolved := Array.replicate 37 none
  statics := none }

def pool7 : Array CpInfo := pool [(1, .methodref 2 3), (0, .class_ 4), (0, .nameAndType 5 6), (0, u "java/lang/Object"), (0, u "<init>"), (0, u "()V"), (0, .string 8), (0, u ""), (0, .fieldref 10 11), (0, .class_ 12), (0, .nameAndType 13 14), (0, u "java/lang/String"), (0, u "value"), (0, u "[B"), (0, .fieldref 10 16), (0, .nameAndType 17 18), (0, u "coder"), (0, u "B"), (2, u "hash"), (0, u "I"), (2, u "hashIsZero"), (0, u "Z"), (0, .methodref 10 28), (0, .nameAndType 5 29), (0, u "([CIILjava/lang/Void;)V"), (8, .fieldref 10 39), (0, .nameAndType 40 26), (0, u "COMPACT_STRINGS"), (1, .class_ 44), (1, u "java/lang/StringUTF16"), (0, u "compress"), (1, .methodref 42 48), (0, .nameAndType 49 50), (0, u "coderFromArrayLen"), (0, u "([BI)B"), (56, .class_ 109), (1, u "java/lang/StringLatin1"), (32, u "()Z"), (34, .methodref 42 178), (0, .nameAndType 45 179), (0, u "([CII)[B"), (154, u "()I"), (0, .methodref 10 336), (0, .nameAndType 17 337), (0, u "()B"), (25, u "([BI)C"), (27, u "(II)V"), (35, u "(I)C"), (64, .methodref 10 493), (0, .nameAndType 494 142), (0, u "isLatin1"), (0, .methodref 107 496), (0, .nameAndType 497 363), (0, u "charAt"), (3, u "checkIndex"), (5, u "length"), (33, .methodref 107 542), (0, .nameAndType 543 544), (0, u "equals"), (0, u "([B[B)Z"), (28, u "(Ljava/lang/Object;)Z"), (1, .class_ 576), (0, u "java/lang/CharSequence"), (22, u "CASE_INSENSITIVE_ORDER"), (0, u "Ljava/util/Comparator;"), (409, u "([C)V"), (42, .fieldref 1054 1055), (0, .class_ 1056), (0, .nameAndType 1057 1058), (0, u "jdk/internal/util/Preconditions"), (0, u "SIOOBE_FORMATTER"), (0, u "Ljava/util/function/BiFunction;"), (0, .methodref 1054 1060), (0, .nameAndType 501 1061), (0, u "(IILjava/util/function/BiFunction;)I"), (39, u "serialPersistentFields"), (0, u "[Ljava/io/ObjectStreamField;"), (0, .class_ 1104), (0, u "java/lang/String$CaseInsensitiveComparator"), (1, .class_ 1107), (0, u "java/io/Serializable"), (0, .class_ 1109), (0, u "java/lang/Comparable"), (0, .class_ 1111), (0, u "java/lang/constant/Constable"), (0, .class_ 1113), (0, u "java/lang/constant/ConstantDesc"), (2, u "serialVersionUID"), (0, u "J"), (3, u "REPL"), (0, u "C"), (2, u "LATIN1"), (1, u "UTF16")] 323

def k7m0 : Method := { name := "<init>", desc := "()V", sig := { parameters := [], returnType := none }, accessFlags := 1, code := none }
def k7c1 : Code := { maxStack := 5, maxLocals := 2, code := jdk_42_method_3_code, exceptionTable := #[], attributes := #[] }
def k7m1 : Method := { name := "<init>", desc := "([C)V", sig := { parameters := [(.array .char)], returnType := none }, accessFlags := 1, code := some k7c1 }
def k7c2 : Code := { maxStack := 2, maxLocals := 1, code := jdk_42_method_54_code, exceptionTable := #[], attributes := #[] }
def k7m2 : Method := { name := "length", desc := "()I", sig := { parameters := [], returnType := some .int }, accessFlags := 1, code := some k7c2 }
def k7c3 : Code := { maxStack := 2, maxLocals := 2, code := jdk_42_method_56_code, exceptionTable := #[], attributes := #[] }
def k7m3 : Method := { name := "charAt", desc := "(I)C", sig := { parameters := [.int], returnType := some .char }, accessFlags := 1, code := some k7c3 }
def k7c4 : Code := { maxStack := 2, maxLocals := 3, code := jdk_42_method_66_code, exceptionTable := #[], attributes := #[] }
def k7m4 : Method := { name := "equals", desc := "(Ljava/lang/Object;)Z", sig := { parameters := [(.object "java/lang/Object")], returnType := some .boolean }, accessFlags := 1, code := some k7c4 }
def k7c5 : Code := { maxStack := 4, maxLocals := 6, code := jdk_42_method_149_code, exceptionTable := #[], attributes := #[] }
def k7m5 : Method := { name := "<init>", desc := "([CIILjava/lang/Void;)V", sig := { parameters := [(.array .char), .int, .int, (.object "java/lang/Void")], returnType := none }, accessFlags := 2, code := some k7c5 }
def k7c6 : Code := { maxStack := 1, maxLocals := 1, code := jdk_42_method_152_code, exceptionTable := #[], attributes := #[] }
def k7m6 : Method := { name := "coder", desc := "()B", sig := { parameters := [], returnType := some .byte }, accessFlags := 0, code := some k7c6 }
def k7c7 : Code := { maxStack := 1, maxLocals := 1, code := jdk_42_method_154_code, exceptionTable := #[], attributes := #[] }
def k7m7 : Method := { name := "isLatin1", desc := "()Z", sig := { parameters := [], returnType := some .boolean }, accessFlags := 0, code := some k7c7 }
def k7c8 : Code := { maxStack := 3, maxLocals := 2, code := jdk_42_method_155_code, exceptionTable := #[], attributes := #[] }
def k7m8 : Method := { name := "checkIndex", desc := "(II)V", sig := { parameters := [.int, .int], returnType := none }, accessFlags := 8, code := some k7c8 }
/-- java/lang/String -/
def k7 : Class := { plain "java/lang/String" (some 0) with
  accessFlags := 49
  interfaces := #[2, 3, 4, 5, 6]
  cf := some (fileOf pool7 10 #[.nestMembers #[1103]] #[{ accessFlags := 1, nameIndex := 5, descriptorIndex := 6, attributes := #[] }, { accessFlags := 1, nameIndex := 5, descriptorIndex := 1010, attributes := #[] }, { accessFlags := 1, nameIndex := 507, descriptorIndex := 334, attributes := #[] }, { accessFlags := 1, nameIndex := 497, descriptorIndex := 427, attributes := #[] }, { accessFlags := 1, nameIndex := 543, descriptorIndex := 573, attributes := #[] }, { accessFlags := 2, nameIndex := 5, descriptorIndex := 29, attributes := #[] }, { accessFlags := 0, nameIndex := 17, descriptorIndex := 337, attributes := #[] }, { accessFlags := 0, nameIndex := 494, descriptorIndex := 142, attributes := #[] }, { accessFlags := 8, nameIndex := 501, descriptorIndex := 391, attributes := #[] }] 49 2 #[1106, 1108, 575, 1110, 1112] #[{ accessFlags := 18, nameIndex := 13, descriptorIndex := 14, attributes := #[] }, { accessFlags := 18, nameIndex := 17, descriptorIndex := 18, attributes := #[] }, { accessFlags := 2, nameIndex := 21, descriptorIndex := 22, attributes := #[] }, { accessFlags := 2, nameIndex := 25, descriptorIndex := 26, attributes := #[] }, { accessFlags := 26, nameIndex := 1116, descriptorIndex := 1117, attributes := #[] }, { accessFlags := 24, nameIndex := 40, descriptorIndex := 26, attributes := #[] }, { accessFlags := 26, nameIndex := 1101, descriptorIndex := 1102, attributes := #[] }, { accessFlags := 26, nameIndex := 1121, descriptorIndex := 1122, attributes := #[] }, { accessFlags := 25, nameIndex := 599, descriptorIndex := 600, attributes := #[] }, { accessFlags := 24, nameIndex := 1125, descriptorIndex := 18, attributes := #[] }, { accessFlags := 24, nameIndex := 1127, descriptorIndex := 18, attributes := #[] }])
  fields := #[{ name := "value", type := (.array .byte), accessFlags := 18, slot := 0, constantValue := 0 }, { name := "coder", type := .byte, accessFlags := 18, slot := 1, constantValue := 0 }, { name := "hash", type := .int, accessFlags := 2, slot := 2, constantValue := 0 }, { name := "hashIsZero", type := .boolean, accessFlags := 2, slot := 3, constantValue := 0 }, { name := "serialVersionUID", type := .long, accessFlags := 26, slot := 0, constantValue := 0 }, { name := "COMPACT_STRINGS", type := .boolean, accessFlags := 24, slot := 1, constantValue := 0 }, { name := "serialPersistentFields", type := (.array (.object "java/io/ObjectStreamField")), accessFlags := 26, slot := 2, constantValue := 0 }, { name := "REPL", type := .char, accessFlags := 26, slot := 3, constantValue := 0 }, { name := "CASE_INSENSITIVE_ORDER", type := (.object "java/util/Comparator"), accessFlags := 25, slot := 4, constantValue := 0 }, { name := "LATIN1", type := .byte, accessFlags := 24, slot := 5, constantValue := 0 }, { name := "UTF16", type := .byte, accessFlags := 24, slot := 6, constantValue := 0 }]
  methods := #[k7m0, k7m1, k7m2, k7m3, k7m4, k7m5, k7m6, k7m7, k7m8]
  instanceTypes := #[(.array .byte), .byte, .int, .boolean]
  staticTypes := #[.long, .boolean, (.array (.object "java/io/ObjectStreamField")), .char, (.object "java/util/Comparator"), .byte, .byte]
  resolved := Array.replicate 1451 none
  statics := some 0 }

def pool8 : Array CpInfo := pool [(1, .class_ 2), (0, u "java/lang/String"), (1, .class_ 6), (1, u "java/lang/Object"), (0, u "<init>"), (0, u "()V"), (0, .methodref 1 10), (0, .nameAndType 11 12), (0, u "checkIndex"), (0, u "(II)V"), (1, .class_ 16), (1, u "java/lang/StringLatin1"), (36, u "([BI)C"), (67, u "$assertionsDisabled"), (0, u "Z"), (98, .class_ 223), (1, u "java/lang/StringLatin1$LinesSpliterator"), (28, u "charAt"), (28, u "equals"), (0, u "([B[B)Z"), (107, .class_ 391), (0, u "java/lang/StringLatin1$CharsSpliterator")] 3

def k8m0 : Method := { name := "<init>", desc := "()V", sig := { parameters := [], returnType := none }, accessFlags := 0, code := none }
def k8c1 : Code := { maxStack := 2, maxLocals := 2, code := jdk_43_method_2_code, exceptionTable := #[], attributes := #[] }
def k8m1 : Method := { name := "charAt", desc := "([BI)C", sig := { parameters := [(.array .byte), .int], returnType := some .char }, accessFlags := 9, code := some k8c1 }
def k8c2 : Code := { maxStack := 3, maxLocals := 3, code := jdk_43_method_13_code, exceptionTable := #[], attributes := #[] }
def k8m2 : Method := { name := "equals", desc := "([B[B)Z", sig := { parameters := [(.array .byte), (.array .byte)], returnType := some .boolean }, accessFlags := 9, code := some k8c2 }
/-- java/lang/StringLatin1 -/
def k8 : Class := { plain "java/lang/StringLatin1" (some 0) with
  accessFlags := 48
  interfaces := #[]
  cf := some (fileOf pool8 14 #[.nestMembers #[390, 221]] #[{ accessFlags := 0, nameIndex := 7, descriptorIndex := 8, attributes := #[] }, { accessFlags := 9, nameIndex := 252, descriptorIndex := 53, attributes := #[] }, { accessFlags := 9, nameIndex := 281, descriptorIndex := 282, attributes := #[] }] 48 4 #[] #[{ accessFlags := 4120, nameIndex := 121, descriptorIndex := 122, attributes := #[] }])
  fields := #[{ name := "$assertionsDisabled", type := .boolean, accessFlags := 4120, slot := 0, constantValue := 0 }]
  methods := #[k8m0, k8m1, k8m2]
  instanceTypes := #[]
  staticTypes := #[.boolean]
  resolved := Array.replicate 395 none
  statics := none }

def pool9 : Array CpInfo := pool [(2, .class_ 4), (1, u "java/lang/Object"), (0, u "<init>"), (0, u "()V"), (17, .class_ 26), (1, u "jdk/internal/util/Preconditions"), (6, u "checkIndex"), (21, .class_ 56), (0, u "jdk/internal/util/Preconditions$4"), (57, .class_ 115), (0, u "jdk/internal/util/Preconditions$1"), (7, u "SIOOBE_FORMATTER"), (0, u "Ljava/util/function/BiFunction;"), (0, .class_ 126), (0, u "jdk/internal/util/Preconditions$2"), (3, u "AIOOBE_FORMATTER"), (0, .class_ 132), (0, u "jdk/internal/util/Preconditions$3"), (3, u "IOOBE_FORMATTER"), (41, u "(IILjava/util/function/BiFunction;)I")] 15

def k9m0 : Method := { name := "<init>", desc := "()V", sig := { parameters := [], returnType := none }, accessFlags := 1, code := none }
def k9c1 : Code := { maxStack := 3, maxLocals := 3, code := jdk_41_method_11_code, exceptionTable := #[], attributes := #[] }
def k9m1 : Method := { name := "checkIndex", desc := "(IILjava/util/function/BiFunction;)I", sig := { parameters := [.int, .int, (.object "java/util/function/BiFunction")], returnType := some .int }, accessFlags := 9, code := some k9c1 }
/-- jdk/internal/util/Preconditions -/
def k9 : Class := { plain "jdk/internal/util/Preconditions" (some 0) with
  accessFlags := 33
  interfaces := #[]
  cf := some (fileOf pool9 24 #[.nestMembers #[55, 131, 125, 114]] #[{ accessFlags := 1, nameIndex := 5, descriptorIndex := 6, attributes := #[] }, { accessFlags := 9, nameIndex := 33, descriptorIndex := 178, attributes := #[] }] 33 2 #[] #[{ accessFlags := 25, nameIndex := 123, descriptorIndex := 124, attributes := #[] }, { accessFlags := 25, nameIndex := 130, descriptorIndex := 124, attributes := #[] }, { accessFlags := 25, nameIndex := 136, descriptorIndex := 124, attributes := #[] }])
  fields := #[{ name := "SIOOBE_FORMATTER", type := (.object "java/util/function/BiFunction"), accessFlags := 25, slot := 0, constantValue := 0 }, { name := "AIOOBE_FORMATTER", type := (.object "java/util/function/BiFunction"), accessFlags := 25, slot := 1, constantValue := 0 }, { name := "IOOBE_FORMATTER", type := (.object "java/util/function/BiFunction"), accessFlags := 25, slot := 2, constantValue := 0 }]
  methods := #[k9m0, k9m1]
  instanceTypes := #[]
  staticTypes := #[(.object "java/util/function/BiFunction"), (.object "java/util/function/BiFunction"), (.object "java/util/function/BiFunction")]
  resolved := Array.replicate 194 none
  statics := some 1 }

def pool10 : Array CpInfo := pool [(2, .class_ 4), (1, u "java/lang/Enum"), (0, u "name"), (0, u "Ljava/lang/String;"), (2, u "ordinal"), (0, u "I"), (1, .class_ 14), (1, u "java/lang/Object"), (4, u "hash"), (86, .class_ 108), (1, u "java/lang/Enum$EnumDesc"), (2, .class_ 112), (0, u "java/lang/constant/Constable"), (0, .class_ 114), (0, u "java/lang/Comparable"), (0, .class_ 116), (0, u "java/io/Serializable")] 87

/-- java/lang/Enum -/
def k10 : Class := { plain "java/lang/Enum" (some 0) with
  accessFlags := 1057
  interfaces := #[5, 3, 2]
  cf := some (fileOf pool10 2 #[.nestMembers #[106]] #[] 1057 12 #[111, 113, 115] #[{ accessFlags := 18, nameIndex := 5, descriptorIndex := 6, attributes := #[] }, { accessFlags := 18, nameIndex := 9, descriptorIndex := 10, attributes := #[] }, { accessFlags := 2, nameIndex := 19, descriptorIndex := 10, attributes := #[] }])
  fields := #[{ name := "name", type := (.object "java/lang/String"), accessFlags := 18, slot := 0, constantValue := 0 }, { name := "ordinal", type := .int, accessFlags := 18, slot := 1, constantValue := 0 }, { name := "hash", type := .int, accessFlags := 2, slot := 2, constantValue := 0 }]
  methods := #[]
  instanceTypes := #[(.object "java/lang/String"), .int, .int]
  staticTypes := #[]
  resolved := Array.replicate 204 none
  statics := none }

def pool11 : Array CpInfo := pool [(1, .class_ 2), (0, u "com/example/busca/busca/analysis/Analyzer"), (2, u "PLAIN"), (0, u "Lcom/example/busca/busca/analysis/Analyzer;"), (2, u "PORTER"), (2, u "ENGLISH"), (0, .fieldref 1 14), (0, .nameAndType 15 16), (0, u "$VALUES"), (0, u "[Lcom/example/busca/busca/analysis/Analyzer;"), (0, .methodref 18 19), (0, .class_ 16), (0, .nameAndType 20 21), (0, u "clone"), (0, u "()Ljava/lang/Object;"), (1, .class_ 25), (1, u "java/lang/Enum"), (6, .fieldref 1 33), (0, .nameAndType 34 35), (0, u "analyzerName"), (0, u "Ljava/lang/String;"), (2, u "filter"), (0, u "Lcom/example/busca/busca/analysis/Analyzer$TokenFilter;"), (0, .methodref 1 41), (0, .nameAndType 42 43), (0, u "values"), (0, u "()[Lcom/example/busca/busca/analysis/Analyzer;"), (0, .methodref 45 46), (0, .class_ 47), (0, .nameAndType 48 49), (0, u "java/lang/String"), (0, u "equals"), (0, u "(Ljava/lang/Object;)Z"), (70, .class_ 122), (1, u "com/example/busca/busca/analysis/Analyzer$TokenFilter"), (32, u "(Ljava/lang/String;)Lcom/example/busca/busca/analysis/Analyzer;"), (3, u "named")] 38

def k11c0 : Code := { maxStack := 1, maxLocals := 0, code := prog_1_method_1_code, exceptionTable := #[], attributes := #[] }
def k11m0 : Method := { name := "values", desc := "()[Lcom/example/busca/busca/analysis/Analyzer;", sig := { parameters := [], returnType := some (.array (.object "com/example/busca/busca/analysis/Analyzer")) }, accessFlags := 9, code := some k11c0 }
def k11c1 : Code := { maxStack := 2, maxLocals := 5, code := prog_1_method_4_code, exceptionTable := #[], attributes := #[] }
def k11m1 : Method := { name := "named", desc := "(Ljava/lang/String;)Lcom/example/busca/busca/analysis/Analyzer;", sig := { parameters := [(.object "java/lang/String")], returnType := some (.object "com/example/busca/busca/analysis/Analyzer") }, accessFlags := 9, code := some k11c1 }
/-- com/example/busca/busca/analysis/Analyzer -/
def k11 : Class := { plain "com/example/busca/busca/analysis/Analyzer" (some 10) with
  accessFlags := 16433
  interfaces := #[]
  cf := some (fileOf pool11 1 #[.nestMembers #[120]] #[{ accessFlags := 9, nameIndex := 42, descriptorIndex := 43, attributes := #[] }, { accessFlags := 9, nameIndex := 159, descriptorIndex := 155, attributes := #[] }] 16433 23 #[] #[{ accessFlags := 16409, nameIndex := 5, descriptorIndex := 6, attributes := #[] }, { accessFlags := 16409, nameIndex := 9, descriptorIndex := 6, attributes := #[] }, { accessFlags := 16409, nameIndex := 12, descriptorIndex := 6, attributes := #[] }, { accessFlags := 18, nameIndex := 34, descriptorIndex := 35, attributes := #[] }, { accessFlags := 18, nameIndex := 38, descriptorIndex := 39, attributes := #[] }, { accessFlags := 4122, nameIndex := 15, descriptorIndex := 16, attributes := #[] }])
  fields := #[{ name := "PLAIN", type := (.object "com/example/busca/busca/analysis/Analyzer"), accessFlags := 16409, slot := 0, constantValue := 0 }, { name := "PORTER", type := (.object "com/example/busca/busca/analysis/Analyzer"), accessFlags := 16409, slot := 1, constantValue := 0 }, { name := "ENGLISH", type := (.object "com/example/busca/busca/analysis/Analyzer"), accessFlags := 16409, slot := 2, constantValue := 0 }, { name := "analyzerName", type := (.object "java/lang/String"), accessFlags := 18, slot := 3, constantValue := 0 }, { name := "filter", type := (.object "com/example/busca/busca/analysis/Analyzer$TokenFilter"), accessFlags := 18, slot := 4, constantValue := 0 }, { name := "$VALUES", type := (.array (.object "com/example/busca/busca/analysis/Analyzer")), accessFlags := 4122, slot := 3, constantValue := 0 }]
  methods := #[k11m0, k11m1]
  instanceTypes := #[(.object "java/lang/String"), .int, .int, (.object "java/lang/String"), (.object "com/example/busca/busca/analysis/Analyzer$TokenFilter")]
  staticTypes := #[(.object "com/example/busca/busca/analysis/Analyzer"), (.object "com/example/busca/busca/analysis/Analyzer"), (.object "com/example/busca/busca/analysis/Analyzer"), (.array (.object "com/example/busca/busca/analysis/Analyzer"))]
  resolved := Array.replicate 198 none
  statics := some 2 }

def pool12 : Array CpInfo := pool [(1, .class_ 2), (0, u "java/lang/Cloneable"), (0, .class_ 4), (0, u "java/lang/Object")] 2

/-- java/lang/Cloneable -/
def k12 : Class := { plain "java/lang/Cloneable" (some 0) with
  accessFlags := 1537
  interfaces := #[]
  cf := some (fileOf pool12 1 #[] #[] 1537 3 #[] #[])
  fields := #[]
  methods := #[]
  instanceTypes := #[]
  staticTypes := #[]
  resolved := Array.replicate 7 none
  statics := none }

def pool13 : Array CpInfo := pool [(6, .class_ 8), (1, u "java/lang/Object"), (0, u "<init>"), (0, u "()V"), (1, .class_ 14), (1, u "java/lang/StringUTF16"), (31, u "$assertionsDisabled"), (0, u "Z"), (13, u "HI_BYTE_SHIFT"), (0, u "I"), (2, u "LO_BYTE_SHIFT"), (49, .methodref 12 116), (0, .nameAndType 117 118), (0, u "compress"), (0, u "([CI[BII)I"), (3, u "([CII)[B"), (138, u "coderFromArrayLen"), (0, u "([BI)B"), (106, .class_ 371), (1, u "java/lang/StringUTF16$LinesSpliterator"), (58, u "MAX_LENGTH"), (196, .class_ 628), (0, u "java/lang/StringUTF16$CodePointsSpliterator"), (0, .class_ 630), (0, u "java/lang/StringUTF16$CharsSpliterator")] 4

def k13m0 : Method := { name := "<init>", desc := "()V", sig := { parameters := [], returnType := none }, accessFlags := 0, code := none }
def k13c1 : Code := { maxStack := 2, maxLocals := 2, code := jdk_52_method_15_code, exceptionTable := #[], attributes := #[] }
def k13m1 : Method := { name := "coderFromArrayLen", desc := "([BI)B", sig := { parameters := [(.array .byte), .int], returnType := some .byte }, accessFlags := 8, code := some k13c1 }
def k13c2 : Code := { maxStack := 5, maxLocals := 6, code := jdk_52_method_16_code, exceptionTable := #[], attributes := #[] }
def k13m2 : Method := { name := "compress", desc := "([CII)[B", sig := { parameters := [(.array .char), .int, .int], returnType := some (.array .byte) }, accessFlags := 9, code := some k13c2 }
def k13c3 : Code := { maxStack := 3, maxLocals := 7, code := jdk_52_method_21_code, exceptionTable := #[], attributes := #[] }
def k13m3 : Method := { name := "compress", desc := "([CI[BII)I", sig := { parameters := [(.array .char), .int, (.array .byte), .int, .int], returnType := some .int }, accessFlags := 9, code := some k13c3 }
/-- java/lang/StringUTF16 -/
def k13 : Class := { plain "java/lang/StringUTF16" (some 0) with
  accessFlags := 48
  interfaces := #[]
  cf := some (fileOf pool13 12 #[.nestMembers #[627, 629, 369]] #[{ accessFlags := 0, nameIndex := 9, descriptorIndex := 10, attributes := #[] }, { accessFlags := 8, nameIndex := 261, descriptorIndex := 262, attributes := #[] }, { accessFlags := 9, nameIndex := 117, descriptorIndex := 122, attributes := #[] }, { accessFlags := 9, nameIndex := 117, descriptorIndex := 118, attributes := #[] }] 48 6 #[] #[{ accessFlags := 26, nameIndex := 61, descriptorIndex := 62, attributes := #[] }, { accessFlags := 26, nameIndex := 65, descriptorIndex := 62, attributes := #[] }, { accessFlags := 24, nameIndex := 430, descriptorIndex := 62, attributes := #[] }, { accessFlags := 4120, nameIndex := 46, descriptorIndex := 47, attributes := #[] }])
  fields := #[{ name := "HI_BYTE_SHIFT", type := .int, accessFlags := 26, slot := 0, constantValue := 0 }, { name := "LO_BYTE_SHIFT", type := .int, accessFlags := 26, slot := 1, constantValue := 0 }, { name := "MAX_LENGTH", type := .int, accessFlags := 24, slot := 2, constantValue := 0 }, { name := "$assertionsDisabled", type := .boolean, accessFlags := 4120, slot := 3, constantValue := 0 }]
  methods := #[k13m0, k13m1, k13m2, k13m3]
  instanceTypes := #[]
  staticTypes := #[.int, .int, .int, .boolean]
  resolved := Array.replicate 635 none
  statics := none }

def pool14 : Array CpInfo := pool [(1, .class_ 2), (0, u "java/lang/Math"), (1, .class_ 6), (1, u "java/lang/Object"), (0, u "<init>"), (0, u "()V"), (89, .class_ 100), (1, u "java/lang/Math$RandomNumberGeneratorHolder"), (71, u "negativeZeroFloatBits"), (0, u "J"), (2, u "negativeZeroDoubleBits"), (21, u "max"), (46, u "$assertionsDisabled"), (0, u "Z"), (88, u "(II)I"), (2, u "twoToTheDoubleScaleDown"), (0, u "D"), (4, u "twoToTheDoubleScaleUp"), (9, u "E"), (3, u "PI"), (2, u "TAU"), (2, u "DEGREES_TO_RADIANS"), (0, u "RADIANS_TO_DEGREES")] 94

def k14m0 : Method := { name := "<init>", desc := "()V", sig := { parameters := [], returnType := none }, accessFlags := 2, code := none }
def k14c1 : Code := { maxStack := 2, maxLocals := 2, code := jdk_29_method_65_code, exceptionTable := #[], attributes := #[] }
def k14m1 : Method := { name := "max", desc := "(II)I", sig := { parameters := [.int, .int], returnType := some .int }, accessFlags := 9, code := some k14c1 }
/-- java/lang/Math -/
def k14 : Class := { plain "java/lang/Math" (some 0) with
  accessFlags := 49
  interfaces := #[]
  cf := some (fileOf pool14 1 #[.nestMembers #[98]] #[{ accessFlags := 2, nameIndex := 7, descriptorIndex := 8, attributes := #[] }, { accessFlags := 9, nameIndex := 198, descriptorIndex := 335, attributes := #[] }] 49 4 #[] #[{ accessFlags := 25, nameIndex := 354, descriptorIndex := 339, attributes := #[] }, { accessFlags := 25, nameIndex := 358, descriptorIndex := 339, attributes := #[] }, { accessFlags := 25, nameIndex := 361, descriptorIndex := 339, attributes := #[] }, { accessFlags := 26, nameIndex := 364, descriptorIndex := 339, attributes := #[] }, { accessFlags := 26, nameIndex := 365, descriptorIndex := 339, attributes := #[] }, { accessFlags := 26, nameIndex := 172, descriptorIndex := 173, attributes := #[] }, { accessFlags := 26, nameIndex := 176, descriptorIndex := 173, attributes := #[] }, { accessFlags := 8, nameIndex := 344, descriptorIndex := 339, attributes := #[] }, { accessFlags := 8, nameIndex := 338, descriptorIndex := 339, attributes := #[] }, { accessFlags := 4120, nameIndex := 245, descriptorIndex := 246, attributes := #[] }])
  fields := #[{ name := "E", type := .double, accessFlags := 25, slot := 0, constantValue := 0 }, { name := "PI", type := .double, accessFlags := 25, slot := 1, constantValue := 0 }, { name := "TAU", type := .double, accessFlags := 25, slot := 2, constantValue := 0 }, { name := "DEGREES_TO_RADIANS", type := .double, accessFlags := 26, slot := 3, constantValue := 0 }, { name := "RADIANS_TO_DEGREES", type := .double, accessFlags := 26, slot := 4, constantValue := 0 }, { name := "negativeZeroFloatBits", type := .long, accessFlags := 26, slot := 5, constantValue := 0 }, { name := "negativeZeroDoubleBits", type := .long, accessFlags := 26, slot := 6, constantValue := 0 }, { name := "twoToTheDoubleScaleUp", type := .double, accessFlags := 8, slot := 7, constantValue := 0 }, { name := "twoToTheDoubleScaleDown", type := .double, accessFlags := 8, slot := 8, constantValue := 0 }, { name := "$assertionsDisabled", type := .boolean, accessFlags := 4120, slot := 9, constantValue := 0 }]
  methods := #[k14m0, k14m1]
  instanceTypes := #[]
  staticTypes := #[.double, .double, .double, .double, .double, .long, .long, .double, .double, .boolean]
  resolved := Array.replicate 460 none
  statics := none }

def pool15 : Array CpInfo := pool [(9, u "<init>"), (6, .class_ 18), (1, u "java/lang/Object"), (0, u "()V"), (1, .class_ 23), (1, u "jdk/internal/util/ArraysSupport"), (0, u "LOG2_ARRAY_LONG_INDEX_SCALE"), (0, u "I"), (2, u "U"), (0, u "Ljdk/internal/misc/Unsafe;"), (8, u "BIG_ENDIAN"), (0, u "Z"), (8, u "LOG2_BYTE_BIT_SIZE"), (4, u "LOG2_ARRAY_INT_INDEX_SCALE"), (54, u "JLA"), (0, u "Ljdk/internal/access/JavaLangAccess;"), (11, u "LOG2_ARRAY_BOOLEAN_INDEX_SCALE"), (9, u "LOG2_ARRAY_BYTE_INDEX_SCALE"), (5, u "LOG2_ARRAY_CHAR_INDEX_SCALE"), (5, u "LOG2_ARRAY_SHORT_INDEX_SCALE"), (18, u "LOG2_ARRAY_FLOAT_INDEX_SCALE"), (24, u "LOG2_ARRAY_DOUBLE_INDEX_SCALE"), (89, u "T_BOOLEAN"), (2, u "T_CHAR"), (1, u "T_FLOAT"), (1, u "T_DOUBLE"), (1, u "T_BYTE"), (1, u "T_SHORT"), (1, u "T_INT"), (1, u "T_LONG"), (1, u "SOFT_MAX_ARRAY_LENGTH")] 83

def k15m0 : Method := { name := "<init>", desc := "()V", sig := { parameters := [], returnType := none }, accessFlags := 2, code := none }
/-- jdk/internal/util/ArraysSupport -/
def k15 : Class := { plain "jdk/internal/util/ArraysSupport" (some 0) with
  accessFlags := 33
  interfaces := #[]
  cf := some (fileOf pool15 21 #[] #[{ accessFlags := 2, nameIndex := 9, descriptorIndex := 19, attributes := #[] }] 33 16 #[] #[{ accessFlags := 24, nameIndex := 28, descriptorIndex := 29, attributes := #[] }, { accessFlags := 26, nameIndex := 38, descriptorIndex := 39, attributes := #[] }, { accessFlags := 25, nameIndex := 121, descriptorIndex := 25, attributes := #[] }, { accessFlags := 25, nameIndex := 131, descriptorIndex := 25, attributes := #[] }, { accessFlags := 25, nameIndex := 137, descriptorIndex := 25, attributes := #[] }, { accessFlags := 25, nameIndex := 143, descriptorIndex := 25, attributes := #[] }, { accessFlags := 25, nameIndex := 53, descriptorIndex := 25, attributes := #[] }, { accessFlags := 25, nameIndex := 24, descriptorIndex := 25, attributes := #[] }, { accessFlags := 25, nameIndex := 162, descriptorIndex := 25, attributes := #[] }, { accessFlags := 25, nameIndex := 187, descriptorIndex := 25, attributes := #[] }, { accessFlags := 26, nameIndex := 48, descriptorIndex := 25, attributes := #[] }, { accessFlags := 25, nameIndex := 277, descriptorIndex := 25, attributes := #[] }, { accessFlags := 25, nameIndex := 280, descriptorIndex := 25, attributes := #[] }, { accessFlags := 25, nameIndex := 282, descriptorIndex := 25, attributes := #[] }, { accessFlags := 25, nameIndex := 284, descriptorIndex := 25, attributes := #[] }, { accessFlags := 25, nameIndex := 286, descriptorIndex := 25, attributes := #[] }, { accessFlags := 25, nameIndex := 288, descriptorIndex := 25, attributes := #[] }, { accessFlags := 25, nameIndex := 290, descriptorIndex := 25, attributes := #[] }, { accessFlags := 25, nameIndex := 292, descriptorIndex := 25, attributes := #[] }, { accessFlags := 26, nameIndex := 108, descriptorIndex := 109, attributes := #[] }, { accessFlags := 25, nameIndex := 294, descriptorIndex := 25, attributes := #[] }])
  fields := #[{ name := "U", type := (.object "jdk/internal/misc/Unsafe"), accessFlags := 24, slot := 0, constantValue := 0 }, { name := "BIG_ENDIAN", type := .boolean, accessFlags := 26, slot := 1, constantValue := 0 }, { name := "LOG2_ARRAY_BOOLEAN_INDEX_SCALE", type := .int, accessFlags := 25, slot := 2, constantValue := 0 }, { name := "LOG2_ARRAY_BYTE_INDEX_SCALE", type := .int, accessFlags := 25, slot := 3, constantValue := 0 }, { name := "LOG2_ARRAY_CHAR_INDEX_SCALE", type := .int, accessFlags := 25, slot := 4, constantValue := 0 }, { name := "LOG2_ARRAY_SHORT_INDEX_SCALE", type := .int, accessFlags := 25, slot := 5, constantValue := 0 }, { name := "LOG2_ARRAY_INT_INDEX_SCALE", type := .int, accessFlags := 25, slot := 6, constantValue := 0 }, { name := "LOG2_ARRAY_LONG_INDEX_SCALE", type := .int, accessFlags := 25, slot := 7, constantValue := 0 }, { name := "LOG2_ARRAY_FLOAT_INDEX_SCALE", type := .int, accessFlags := 25, slot := 8, constantValue := 0 }, { name := "LOG2_ARRAY_DOUBLE_INDEX_SCALE", type := .int, accessFlags := 25, slot := 9, constantValue := 0 }, { name := "LOG2_BYTE_BIT_SIZE", type := .int, accessFlags := 26, slot := 10, constantValue := 0 }, { name := "T_BOOLEAN", type := .int, accessFlags := 25, slot := 11, constantValue := 0 }, { name := "T_CHAR", type := .int, accessFlags := 25, slot := 12, constantValue := 0 }, { name := "T_FLOAT", type := .int, accessFlags := 25, slot := 13, constantValue := 0 }, { name := "T_DOUBLE", type := .int, accessFlags := 25, slot := 14, constantValue := 0 }, { name := "T_BYTE", type := .int, accessFlags := 25, slot := 15, constantValue := 0 }, { name := "T_SHORT", type := .int, accessFlags := 25, slot := 16, constantValue := 0 }, { name := "T_INT", type := .int, accessFlags := 25, slot := 17, constantValue := 0 }, { name := "T_LONG", type := .int, accessFlags := 25, slot := 18, constantValue := 0 }, { name := "JLA", type := (.object "jdk/internal/access/JavaLangAccess"), accessFlags := 26, slot := 19, constantValue := 0 }, { name := "SOFT_MAX_ARRAY_LENGTH", type := .int, accessFlags := 25, slot := 20, constantValue := 0 }]
  methods := #[k15m0]
  instanceTypes := #[]
  staticTypes := #[(.object "jdk/internal/misc/Unsafe"), .boolean, .int, .int, .int, .int, .int, .int, .int, .int, .int, .int, .int, .int, .int, .int, .int, .int, .int, (.object "jdk/internal/access/JavaLangAccess"), .int]
  resolved := Array.replicate 378 none
  statics := none }

/-- the primitive byte -/
def k16 : Class := { plain "byte" none with kind := .primitive 'B', accessFlags := 0x411 }
/-- [B -/
def k17 : Class := { plain "[B" (some 0) with kind := .array 16 .byte, interfaces := #[12, 2], accessFlags := 1041 }

/-- the primitive char -/
def k18 : Class := { plain "char" none with kind := .primitive 'C', accessFlags := 0x411 }
/-- [C -/
def k19 : Class := { plain "[C" (some 0) with kind := .array 18 .char, interfaces := #[12, 2], accessFlags := 1041 }

/-- the primitive int -/
def k20 : Class := { plain "int" none with kind := .primitive 'I', accessFlags := 0x411 }
/-- [I -/
def k21 : Class := { plain "[I" (some 0) with kind := .array 20 .int, interfaces := #[12, 2], accessFlags := 1041 }

/-- [Lcom/example/busca/busca/analysis/Analyzer; -/
def k22 : Class := { plain "[Lcom/example/busca/busca/analysis/Analyzer;" (some 0) with kind := .array 11 (.object "com/example/busca/busca/analysis/Analyzer"), interfaces := #[12, 2], accessFlags := 1041 }

def heap : Heap := #[{ cls := 7, slots := #[.long 0, .int 1, .null, .int 0, .null, .int 0, .int 0], vm := .statics 7 },
  { cls := 9, slots := #[.null, .null, .null], vm := .statics 9 },
  { cls := 11, slots := #[.ref 4, .ref 5, .ref 6, .ref 3], vm := .statics 11 },
  { cls := 22, slots := #[.ref 4, .ref 5, .ref 6], vm := .none },
  { cls := 11, slots := #[.null, .int 0, .int 0, .ref 7, .null], vm := .none },
  { cls := 11, slots := #[.null, .int 1, .int 0, .ref 9, .null], vm := .none },
  { cls := 11, slots := #[.null, .int 2, .int 0, .ref 11, .null], vm := .none },
  { cls := 7, slots := #[.ref 8, .int 0, .int 0, .int 0], vm := .none },
  { cls := 17, slots := #[.int 112, .int 108, .int 97, .int 105, .int 110], vm := .none },
  { cls := 7, slots := #[.ref 10, .int 0, .int 0, .int 0], vm := .none },
  { cls := 17, slots := #[.int 112, .int 111, .int 114, .int 116, .int 101, .int 114], vm := .none },
  { cls := 7, slots := #[.ref 12, .int 0, .int 0, .int 0], vm := .none },
  { cls := 17, slots := #[.int 101, .int 110, .int 103, .int 108, .int 105, .int 115, .int 104], vm := .none }]
def classes : Array Class := #[k0, k1, k2, k3, k4, k5, k6, k7, k8, k9, k10, k11, k12, k13, k14, k15, k16, k17, k18, k19, k20, k21, k22]
def interned : List (Array UInt16 × Addr) := []
def slotsUsed : Nat := 62
def theMethod : MethodId := ⟨1, 1⟩
def args0 : Array Value := #[.int 5, .int 5, .int 5, .int 5, .long 5]
def aboutOver (below : List Frame) : State where
  vm := { classes := classes, interned := interned.toArray }
  heap := heap
  slotsUsed := slotsUsed
  threads := #[{ frames := .invoking theMethod args0 :: below }]
def below0 : List Frame := [.native { method := ⟨0, 0⟩, args := #[] }]
def about1 : State := aboutOver below0
def p0 : Program := .bare "" "" ""
def e0 : Env := launch0.env 0 0 0
theorem w_frames : about1.frames = Frame.invoking theMethod args0 :: below0 := rfl
set_option maxRecDepth 65536 in
theorem w_args : argsFit about1.vm theMethod args0 = true := by decide +kernel
set_option maxRecDepth 65536 in
theorem w_heap : heapFits about1 = true := by decide +kernel
set_option maxRecDepth 65536 in
theorem w_runnable : about1.curStatus? = some .runnable := by decide +kernel
set_option maxRecDepth 65536 in
theorem w_alone : about1.alone = true := by decide +kernel
set_option maxRecDepth 65536 in
theorem w_named : about1.methodNamed? x = some theMethod := by decide +kernel
set_option maxRecDepth 65536 in
theorem w_hears : about1.hears theMethod below0 = true := by decide +kernel
set_option maxRecDepth 65536 in
theorem w_ripe : about1.ripe theMethod args0 below0 = true := by decide +kernel
theorem w_running : about1.status = .running := rfl
set_option maxRecDepth 65536 in
theorem w_room : about1.hasRoom e0.platform room_1 = true :=
  launch0.hasRoom_least _ room_1 (by decide +kernel) (by decide +kernel) (by decide +kernel) (by decide +kernel) (by decide +kernel) (by decide +kernel)
theorem allAtoms_all (ts : List Jvm.Cond) (a : Array Jvm.Value) (st : Jvm.State) : (allAtoms ts).before a st = ts.all (fun c => c.before a st) := by
  induction ts with
  | nil => rfl
  | cons c t ih =>
    show (Jvm.Cond.and c (allAtoms t)).before a st = _
    rw [Jvm.Cond.before_and, ih, List.all_cons]
def words1 : List Jvm.Cond := Jvm.Cond.code x code maxLocals ret :: tables_1
/-- a 'code' word, met by the world's own term for the bytes: nothing is compared byte by byte -/
theorem code_word {y : MethodName} {bytes : ByteArray} {mx : Nat} {rt : Option FieldType} {a : Array Value} {s : State} {m : MethodId} {meth : Method} {c : Code} (h1 : s.methodNamed? y = some m) (h2 : s.vm.method? m = some meth) (h3 : meth.code = some c) (h4 : c.code = bytes)
    (h5 : (c.maxLocals == mx && c.exceptionTable.isEmpty && decide (c.maxStack ≤ mostOperands) && decide (meth.sig.returnType = rt) && !meth.locks && decide (parseMethodDescriptor y.desc = some meth.sig)) = true) : (Jvm.Cond.code y bytes mx rt).before a s = true := by
  simp only [Bool.and_eq_true, beq_iff_eq, Bool.not_eq_true', decide_eq_true_eq] at h5
  obtain ⟨⟨⟨⟨⟨g1, g2⟩, g3⟩, g4⟩, g5⟩, g6⟩ := h5
  simp [Cond.before, Cond.holds, Cond.value, h1, h2, h3, h4, g1, g2, g3, g4, g5, g6]
def isCode : Jvm.Cond → Bool
  | .code _ _ _ _ => true
  | _ => false
theorem all_split {L : List Jvm.Cond} {P : Jvm.Cond → Bool} (h1 : L.all (fun c => isCode c || P c) = true) (h2 : ∀ c ∈ L.filter isCode, P c = true) : L.all P = true := by
  refine List.all_eq_true.mpr fun c hc => ?_
  have h := List.all_eq_true.mp h1 c hc
  rcases Bool.eq_false_or_eq_true (isCode c) with hi | hi
  · exact h2 c (List.mem_filter.mpr ⟨hc, hi⟩)
  · simpa [hi] using h
set_option maxRecDepth 65536 in
theorem w_c0 : (Jvm.Cond.code x code maxLocals ret).before args0 about1 = true := code_word (m := ⟨1, 1⟩) (meth := k1m1) (c := k1c1) (by decide +kernel) rfl rfl rfl (by decide +kernel)
set_option maxRecDepth 65536 in
theorem w_c1 : (Jvm.Cond.code ({ cls := "com/example/busca/busca/analysis/AnalyzerNamedPinLaw", name := "pick", desc := "(Ljava/lang/String;IJ)C" } : Jvm.MethodName) method_3_code (4 : Nat) (Option.some Jvm.ClassFile.FieldType.char)).before args0 about1 = true := code_word (m := ⟨1, 2⟩) (meth := k1m2) (c := k1c2) (by decide +kernel) rfl rfl rfl (by decide +kernel)
set_option maxRecDepth 65536 in
theorem w_c2 : (Jvm.Cond.code ({ cls := "java/lang/String", name := "length", desc := "()I" } : Jvm.MethodName) jdk_42_method_54_code (1 : Nat) (Option.some Jvm.ClassFile.FieldType.int)).before args0 about1 = true := code_word (m := ⟨7, 2⟩) (meth := k7m2) (c := k7c2) (by decide +kernel) rfl rfl rfl (by decide +kernel)
set_option maxRecDepth 65536 in
theorem w_c3 : (Jvm.Cond.code ({ cls := "java/lang/String", name := "coder", desc := "()B" } : Jvm.MethodName) jdk_42_method_152_code (1 : Nat) (Option.some Jvm.ClassFile.FieldType.byte)).before args0 about1 = true := code_word (m := ⟨7, 6⟩) (meth := k7m6) (c := k7c6) (by decide +kernel) rfl rfl rfl (by decide +kernel)
set_option maxRecDepth 65536 in
theorem w_c4 : (Jvm.Cond.code ({ cls := "java/lang/String", name := "charAt", desc := "(I)C" } : Jvm.MethodName) jdk_42_method_56_code (2 : Nat) (Option.some Jvm.ClassFile.FieldType.char)).before args0 about1 = true := code_word (m := ⟨7, 3⟩) (meth := k7m3) (c := k7c3) (by decide +kernel) rfl rfl rfl (by decide +kernel)
set_option maxRecDepth 65536 in
theorem w_c5 : (Jvm.Cond.code ({ cls := "java/lang/String", name := "isLatin1", desc := "()Z" } : Jvm.MethodName) jdk_42_method_154_code (1 : Nat) (Option.some Jvm.ClassFile.FieldType.boolean)).before args0 about1 = true := code_word (m := ⟨7, 7⟩) (meth := k7m7) (c := k7c7) (by decide +kernel) rfl rfl rfl (by decide +kernel)
set_option maxRecDepth 65536 in
theorem w_c6 : (Jvm.Cond.code ({ cls := "java/lang/StringLatin1", name := "charAt", desc := "([BI)C" } : Jvm.MethodName) jdk_43_method_2_code (2 : Nat) (Option.some Jvm.ClassFile.FieldType.char)).before args0 about1 = true := code_word (m := ⟨8, 1⟩) (meth := k8m1) (c := k8c1) (by decide +kernel) rfl rfl rfl (by decide +kernel)
set_option maxRecDepth 65536 in
theorem w_c7 : (Jvm.Cond.code ({ cls := "java/lang/String", name := "checkIndex", desc := "(II)V" } : Jvm.MethodName) jdk_42_method_155_code (2 : Nat) (Option.none : Option Jvm.ClassFile.FieldType)).before args0 about1 = true := code_word (m := ⟨7, 8⟩) (meth := k7m8) (c := k7c8) (by decide +kernel) rfl rfl rfl (by decide +kernel)
set_option maxRecDepth 65536 in
theorem w_c8 : (Jvm.Cond.code ({ cls := "jdk/internal/util/Preconditions", name := "checkIndex", desc := "(IILjava/util/function/BiFunction;)I" } : Jvm.MethodName) jdk_41_method_11_code (3 : Nat) (Option.some Jvm.ClassFile.FieldType.int)).before args0 about1 = true := code_word (m := ⟨9, 1⟩) (meth := k9m1) (c := k9c1) (by decide +kernel) rfl rfl rfl (by decide +kernel)
set_option maxRecDepth 65536 in
theorem w_c9 : (Jvm.Cond.code ({ cls := "com/example/busca/busca/analysis/AnalyzerNamedPinLaw", name := "str", desc := "([CI)Ljava/lang/String;" } : Jvm.MethodName) method_4_code (2 : Nat) (Option.some (Jvm.ClassFile.FieldType.object "java/lang/String"))).before args0 about1 = true := code_word (m := ⟨1, 3⟩) (meth := k1m3) (c := k1c3) (by decide +kernel) rfl rfl rfl (by decide +kernel)
set_option maxRecDepth 65536 in
theorem w_c10 : (Jvm.Cond.code ({ cls := "java/lang/String", name := "<init>", desc := "([C)V" } : Jvm.MethodName) jdk_42_method_3_code (2 : Nat) (Option.none : Option Jvm.ClassFile.FieldType)).before args0 about1 = true := code_word (m := ⟨7, 1⟩) (meth := k7m1) (c := k7c1) (by decide +kernel) rfl rfl rfl (by decide +kernel)
set_option maxRecDepth 65536 in
theorem w_c11 : (Jvm.Cond.code ({ cls := "java/lang/String", name := "<init>", desc := "([CIILjava/lang/Void;)V" } : Jvm.MethodName) jdk_42_method_149_code (6 : Nat) (Option.none : Option Jvm.ClassFile.FieldType)).before args0 about1 = true := code_word (m := ⟨7, 5⟩) (meth := k7m5) (c := k7c5) (by decide +kernel) rfl rfl rfl (by decide +kernel)
set_option maxRecDepth 65536 in
theorem w_c12 : (Jvm.Cond.code ({ cls := "java/lang/Object", name := "<init>", desc := "()V" } : Jvm.MethodName) object_method_1_code (1 : Nat) (Option.none : Option Jvm.ClassFile.FieldType)).before args0 about1 = true := code_word (m := ⟨0, 0⟩) (meth := k0m0) (c := k0c0) (by decide +kernel) rfl rfl rfl (by decide +kernel)
set_option maxRecDepth 65536 in
theorem w_c13 : (Jvm.Cond.code ({ cls := "java/lang/String", name := "equals", desc := "(Ljava/lang/Object;)Z" } : Jvm.MethodName) jdk_42_method_66_code (3 : Nat) (Option.some Jvm.ClassFile.FieldType.boolean)).before args0 about1 = true := code_word (m := ⟨7, 4⟩) (meth := k7m4) (c := k7c4) (by decide +kernel) rfl rfl rfl (by decide +kernel)
set_option maxRecDepth 65536 in
theorem w_c14 : (Jvm.Cond.code ({ cls := "java/lang/StringLatin1", name := "equals", desc := "([B[B)Z" } : Jvm.MethodName) jdk_43_method_13_code (3 : Nat) (Option.some Jvm.ClassFile.FieldType.boolean)).before args0 about1 = true := code_word (m := ⟨8, 2⟩) (meth := k8m2) (c := k8c2) (by decide +kernel) rfl rfl rfl (by decide +kernel)
set_option maxRecDepth 65536 in
theorem w_c15 : (Jvm.Cond.code ({ cls := "com/example/busca/busca/analysis/Analyzer", name := "named", desc := "(Ljava/lang/String;)Lcom/example/busca/busca/analysis/Analyzer;" } : Jvm.MethodName) prog_1_method_4_code (5 : Nat) (Option.some (Jvm.ClassFile.FieldType.object "com/example/busca/busca/analysis/Analyzer"))).before args0 about1 = true := code_word (m := ⟨11, 1⟩) (meth := k11m1) (c := k11c1) (by decide +kernel) rfl rfl rfl (by decide +kernel)
set_option maxRecDepth 65536 in
theorem w_c16 : (Jvm.Cond.code ({ cls := "com/example/busca/busca/analysis/Analyzer", name := "values", desc := "()[Lcom/example/busca/busca/analysis/Analyzer;" } : Jvm.MethodName) prog_1_method_1_code (0 : Nat) (Option.some (Jvm.ClassFile.FieldType.array (Jvm.ClassFile.FieldType.object "com/example/busca/busca/analysis/Analyzer")))).before args0 about1 = true := code_word (m := ⟨11, 0⟩) (meth := k11m0) (c := k11c0) (by decide +kernel) rfl rfl rfl (by decide +kernel)
set_option maxRecDepth 65536 in
theorem w_c17 : (Jvm.Cond.code ({ cls := "java/lang/StringUTF16", name := "compress", desc := "([CII)[B" } : Jvm.MethodName) jdk_52_method_16_code (6 : Nat) (Option.some (Jvm.ClassFile.FieldType.array Jvm.ClassFile.FieldType.byte))).before args0 about1 = true := code_word (m := ⟨13, 2⟩) (meth := k13m2) (c := k13c2) (by decide +kernel) rfl rfl rfl (by decide +kernel)
set_option maxRecDepth 65536 in
theorem w_c18 : (Jvm.Cond.code ({ cls := "java/lang/StringUTF16", name := "compress", desc := "([CI[BII)I" } : Jvm.MethodName) jdk_52_method_21_code (7 : Nat) (Option.some Jvm.ClassFile.FieldType.int)).before args0 about1 = true := code_word (m := ⟨13, 3⟩) (meth := k13m3) (c := k13c3) (by decide +kernel) rfl rfl rfl (by decide +kernel)
set_option maxRecDepth 65536 in
theorem w_c19 : (Jvm.Cond.code ({ cls := "java/lang/StringUTF16", name := "coderFromArrayLen", desc := "([BI)B" } : Jvm.MethodName) jdk_52_method_15_code (2 : Nat) (Option.some Jvm.ClassFile.FieldType.byte)).before args0 about1 = true := code_word (m := ⟨13, 1⟩) (meth := k13m1) (c := k13c1) (by decide +kernel) rfl rfl rfl (by decide +kernel)
set_option maxRecDepth 65536 in
theorem w_c20 : (Jvm.Cond.code ({ cls := "java/lang/Math", name := "max", desc := "(II)I" } : Jvm.MethodName) jdk_29_method_65_code (2 : Nat) (Option.some Jvm.ClassFile.FieldType.int)).before args0 about1 = true := code_word (m := ⟨14, 1⟩) (meth := k14m1) (c := k14c1) (by decide +kernel) rfl rfl rfl (by decide +kernel)
def codes1 : List Jvm.Cond := [Jvm.Cond.code x code maxLocals ret, Jvm.Cond.code ({ cls := "com/example/busca/busca/analysis/AnalyzerNamedPinLaw", name := "pick", desc := "(Ljava/lang/String;IJ)C" } : Jvm.MethodName) method_3_code (4 : Nat) (Option.some Jvm.ClassFile.FieldType.char), Jvm.Cond.code ({ cls := "java/lang/String", name := "length", desc := "()I" } : Jvm.MethodName) jdk_42_method_54_code (1 : Nat) (Option.some Jvm.ClassFile.FieldType.int), Jvm.Cond.code ({ cls := "java/lang/String", name := "coder", desc := "()B" } : Jvm.MethodName) jdk_42_method_152_code (1 : Nat) (Option.some Jvm.ClassFile.FieldType.byte), Jvm.Cond.code ({ cls := "java/lang/String", name := "charAt", desc := "(I)C" } : Jvm.MethodName) jdk_42_method_56_code (2 : Nat) (Option.some Jvm.ClassFile.FieldType.char), Jvm.Cond.code ({ cls := "java/lang/String", name := "isLatin1", desc := "()Z" } : Jvm.MethodName) jdk_42_method_154_code (1 : Nat) (Option.some Jvm.ClassFile.FieldType.boolean), Jvm.Cond.code ({ cls := "java/lang/StringLatin1", name := "charAt", desc := "([BI)C" } : Jvm.MethodName) jdk_43_method_2_code (2 : Nat) (Option.some Jvm.ClassFile.FieldType.char), Jvm.Cond.code ({ cls := "java/lang/String", name := "checkIndex", desc := "(II)V" } : Jvm.MethodName) jdk_42_method_155_code (2 : Nat) (Option.none : Option Jvm.ClassFile.FieldType), Jvm.Cond.code ({ cls := "jdk/internal/util/Preconditions", name := "checkIndex", desc := "(IILjava/util/function/BiFunction;)I" } : Jvm.MethodName) jdk_41_method_11_code (3 : Nat) (Option.some Jvm.ClassFile.FieldType.int), Jvm.Cond.code ({ cls := "com/example/busca/busca/analysis/AnalyzerNamedPinLaw", name := "str", desc := "([CI)Ljava/lang/String;" } : Jvm.MethodName) method_4_code (2 : Nat) (Option.some (Jvm.ClassFile.FieldType.object "java/lang/String")), Jvm.Cond.code ({ cls := "java/lang/String", name := "<init>", desc := "([C)V" } : Jvm.MethodName) jdk_42_method_3_code (2 : Nat) (Option.none : Option Jvm.ClassFile.FieldType), Jvm.Cond.code ({ cls := "java/lang/String", name := "<init>", desc := "([CIILjava/lang/Void;)V" } : Jvm.MethodName) jdk_42_method_149_code (6 : Nat) (Option.none : Option Jvm.ClassFile.FieldType), Jvm.Cond.code ({ cls := "java/lang/Object", name := "<init>", desc := "()V" } : Jvm.MethodName) object_method_1_code (1 : Nat) (Option.none : Option Jvm.ClassFile.FieldType), Jvm.Cond.code ({ cls := "java/lang/String", name := "equals", desc := "(Ljava/lang/Object;)Z" } : Jvm.MethodName) jdk_42_method_66_code (3 : Nat) (Option.some Jvm.ClassFile.FieldType.boolean), Jvm.Cond.code ({ cls := "java/lang/StringLatin1", name := "equals", desc := "([B[B)Z" } : Jvm.MethodName) jdk_43_method_13_code (3 : Nat) (Option.some Jvm.ClassFile.FieldType.boolean), Jvm.Cond.code ({ cls := "com/example/busca/busca/analysis/Analyzer", name := "named", desc := "(Ljava/lang/String;)Lcom/example/busca/busca/analysis/Analyzer;" } : Jvm.MethodName) prog_1_method_4_code (5 : Nat) (Option.some (Jvm.ClassFile.FieldType.object "com/example/busca/busca/analysis/Analyzer")), Jvm.Cond.code ({ cls := "com/example/busca/busca/analysis/Analyzer", name := "values", desc := "()[Lcom/example/busca/busca/analysis/Analyzer;" } : Jvm.MethodName) prog_1_method_1_code (0 : Nat) (Option.some (Jvm.ClassFile.FieldType.array (Jvm.ClassFile.FieldType.object "com/example/busca/busca/analysis/Analyzer"))), Jvm.Cond.code ({ cls := "java/lang/StringUTF16", name := "compress", desc := "([CII)[B" } : Jvm.MethodName) jdk_52_method_16_code (6 : Nat) (Option.some (Jvm.ClassFile.FieldType.array Jvm.ClassFile.FieldType.byte)), Jvm.Cond.code ({ cls := "java/lang/StringUTF16", name := "compress", desc := "([CI[BII)I" } : Jvm.MethodName) jdk_52_method_21_code (7 : Nat) (Option.some Jvm.ClassFile.FieldType.int), Jvm.Cond.code ({ cls := "java/lang/StringUTF16", name := "coderFromArrayLen", desc := "([BI)B" } : Jvm.MethodName) jdk_52_method_15_code (2 : Nat) (Option.some Jvm.ClassFile.FieldType.byte), Jvm.Cond.code ({ cls := "java/lang/Math", name := "max", desc := "(II)I" } : Jvm.MethodName) jdk_29_method_65_code (2 : Nat) (Option.some Jvm.ClassFile.FieldType.int)]
set_option maxRecDepth 65536 in
theorem codes_eq : words1.filter isCode = codes1 := rfl
theorem w_codes : ∀ c ∈ words1.filter isCode, c.before args0 about1 = true := by
  rw [codes_eq]
  intro c hc
  simp only [codes1, List.mem_cons, List.not_mem_nil, or_false] at hc
  rcases hc with rfl | rfl | rfl | rfl | rfl | rfl | rfl | rfl | rfl | rfl | rfl | rfl | rfl | rfl | rfl | rfl | rfl | rfl | rfl | rfl | rfl
  · exact w_c0
  · exact w_c1
  · exact w_c2
  · exact w_c3
  · exact w_c4
  · exact w_c5
  · exact w_c6
  · exact w_c7
  · exact w_c8
  · exact w_c9
  · exact w_c10
  · exact w_c11
  · exact w_c12
  · exact w_c13
  · exact w_c14
  · exact w_c15
  · exact w_c16
  · exact w_c17
  · exact w_c18
  · exact w_c19
  · exact w_c20
set_option maxRecDepth 65536 in
theorem w_t1 : (words1.take 24).all (fun c => isCode c || c.before args0 about1) = true := by decide +kernel
set_option maxRecDepth 65536 in
theorem w_t2 : ((words1.drop 24).take 24).all (fun c => isCode c || c.before args0 about1) = true := by decide +kernel
set_option maxRecDepth 65536 in
theorem w_t3 : (((words1.drop 24).drop 24).take 24).all (fun c => isCode c || c.before args0 about1) = true := by decide +kernel
set_option maxRecDepth 65536 in
theorem w_t4 : ((((words1.drop 24).drop 24).drop 24).take 24).all (fun c => isCode c || c.before args0 about1) = true := by decide +kernel
set_option maxRecDepth 65536 in
theorem w_t5 : ((((words1.drop 24).drop 24).drop 24).drop 24).all (fun c => isCode c || c.before args0 about1) = true := by decide +kernel
theorem w_tables : (allAtoms (Jvm.Cond.code x code maxLocals ret :: tables_1)).before args0 about1 = true := by
  rw [allAtoms_all]
  show words1.all (fun c => c.before args0 about1) = true
  refine all_split ?_ w_codes
  rw [← List.take_append_drop 24 words1, List.all_append, w_t1, ← List.take_append_drop 24 (words1.drop 24), List.all_append, w_t2, ← List.take_append_drop 24 ((words1.drop 24).drop 24), List.all_append, w_t3, ← List.take_append_drop 24 (((words1.drop 24).drop 24).drop 24), List.all_append, w_t4, w_t5]
  rfl
set_option maxRecDepth 65536 in
theorem w_rest : rest_1_c.before args0 about1 = true := by decide +kernel
set_option maxRecDepth 65536 in
theorem w_case : (Jvm.Cond.and given_1 narrow_1).before args0 about1 = true := by decide +kernel
set_option maxRecDepth 65536 in
theorem w_consts : constsHeld consts_1 about1 := Jvm.Lit.constsHeldB_iff.mp (by decide +kernel)
theorem w_applies : (headSpec (Jvm.Cond.code x code maxLocals ret :: tables_1) room_1).applies x e0.platform about1 = true :=
  (Spec.applies_iff w_frames).mpr ⟨w_running, w_runnable, w_alone, w_named, w_hears, w_ripe, w_room, w_tables⟩
theorem atStart : AtStart classFile x code maxLocals ret World_1 tables_1 room_1 Calls_1 rest_1 Pre_1 launch0 p0 e0 about1 theMethod args0 below0 :=
  ⟨lists_1, trivial, launch0.admits_env _ _ _, launch0.least_env, fairChoices_fair.cas, fairChoices_fair.clock, w_frames, w_args, w_heap, w_applies, ⟨w_consts, trivial⟩, w_rest, w_case⟩
end start1
theorem witness_1 : WitnessClaimed_1 := ⟨start1.p0, start1.e0, start1.about1, start1.theMethod, start1.args0, start1.below0, start1.atStart⟩
end Jvm.Pilot.@@N@@
