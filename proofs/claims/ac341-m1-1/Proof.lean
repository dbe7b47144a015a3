import JvmDerived
import JvmDerived.Pilot.@@N@@Statement
import JvmDerived.Pilot.@@N@@Code
set_option linter.unusedVariables false
set_option linter.unusedSimpArgs false
namespace Jvm.Pilot.@@N@@
open Jvm Jvm.ClassFile Sem Op Lib Jvm.Free Jvm.Stand Jvm.LawKit Jvm.RoadKit Bundle Jvm.Pilot.@@N@@.Jvm.D
section OwnLayer
variable {p : Program} {l : Launch} {e : Env} {R : Room} {s : State} {m : MethodId} {args : Array Value} {below : List Frame} {meth : Method} {c : Code} {T T' : State} {cells slots cells' slots' : Nat} {Z : State} {a0 : Array Value} {EL : List (String × Nat)} {n0 : Nat} {W0 : List Addr} {own : String} {h h' : Heap} {Ow Ow' : List Addr} {Pq : Outcome → State → Prop} {pc pc' : Nat} {L L' : Array Slot} {S S' : List Value}
/-- the run goes on from here to an end that Pq allows -/
def OG (p : Program) (e : Env) (below : List Frame) (m : MethodId) (Pq : Outcome → State → Prop) (T : State) (pc : Nat) (L : Array Slot) (S : List Value) : Prop :=
  ∃ t o, Steps p.tables e below (T.setTop (mkF m pc L S)) t ∧ t.status = .running ∧ Ended t below o ∧ Pq o t
theorem OG.st (st : ∀ t, Steps p.tables e below (T'.setTop (mkF m pc' L' S')) t → Steps p.tables e below (T.setTop (mkF m pc L S)) t) (k : OG p e below m Pq T' pc' L' S') : OG p e below m Pq T pc L S := by
  obtain ⟨t, o, h1, r⟩ := k
  exact ⟨t, o, st t h1, r⟩
/-- an address that this walk may write -/
def OOwn (Z : State) (EL : List (String × Nat)) (n0 : Nat) (W0 : List Addr) (hs : Nat) (vm : Vm) (h : Heap) (x : Addr) : Prop := n0 ≤ x ∧ x < h.size ∧ Safe Z EL vm h x ∧ (x ∈ W0 ∨ hs ≤ x)
/-- the tables since the invocation's start: warmed; with no constant of EL nothing is interned -/
def OSn (EL : List (String × Nat)) (s : State) (vm : Vm) (n : Nat) : Prop := s.Since vm n ∧ (EL = [] → s.WarmedH vm)
theorem OSn.of {vm : Vm} (q : s.WarmedH vm) (n : Nat) : OSn EL s vm n := ⟨q.since n, fun _ => q⟩
theorem OSn.trans {vm₁ vm₂ : Vm} {n₁ n₂ : Nat} (h₁ : OSn EL s vm₁ n₁) (h₂ : OSn EL (s.setVm vm₁) vm₂ n₂) (hn : n₁ ≤ n₂) : OSn EL s vm₂ n₂ := ⟨h₁.1.trans h₂.1 hn, fun e => State.WarmedH.trans (t := s.setVm vm₁) (h₁.2 e) (h₂.2 e)⟩
/-- where the walk stands -/
def OPn (p : Program) (l : Launch) (e : Env) (R : Room) (s : State) (m : MethodId) (args : Array Value) (below : List Frame) (meth : Method) (c : Code) (Z : State) (a0 : Array Value) (EL : List (String × Nat)) (n0 : Nat) (W0 : List Addr) (own : String) (T : State) (h : Heap) (Ow : List Addr) (cells slots : Nat) : Prop :=
  ∃ locs : List Loc, Stand p l e R (s.setVm T.vm) m args below meth c T locs cells slots ∧ p.tables.exec = Jvm.exec ∧ meth.locks = false ∧ OSn EL s T.vm h.size ∧ Z.Warmed39 T.vm ∧ T.vm.findClass own = some m.cls ∧ T.heap = h ∧ Fr n0 locs ∧ EW Z a0 EL ∧ CHr Z EL s.vm s.heap T.vm h ∧ Old Z n0 h ∧ Keep s.heap h W0 ∧ ∀ x ∈ Ow, OOwn Z EL n0 W0 s.heap.size T.vm h x
theorem OPn.here (P : OPn p l e R s m args below meth c Z a0 EL n0 W0 own T h Ow cells slots) : At T m c below := by obtain ⟨_, X, -⟩ := P; exact X.here
theorem OPn.ex (P : OPn p l e R s m args below meth c Z a0 EL n0 W0 own T h Ow cells slots) : p.tables.exec = Jvm.exec := by obtain ⟨_, _, hx, -⟩ := P; exact hx
theorem OPn.old (P : OPn p l e R s m args below meth c Z a0 EL n0 W0 own T h Ow cells slots) : Old Z n0 h := by obtain ⟨_, _, _, _, _, _, _, _, _, _, _, O, -⟩ := P; exact O
theorem OPn.keep0 (P : OPn p l e R s m args below meth c Z a0 EL n0 W0 own T h Ow cells slots) : Keep s.heap h W0 := by obtain ⟨_, _, _, _, _, _, _, _, _, _, _, _, K, -⟩ := P; exact K
theorem OPn.warm (P : OPn p l e R s m args below meth c Z a0 EL n0 W0 own T h Ow cells slots) : Z.Warmed39 T.vm := by obtain ⟨_, _, _, _, _, hZ, -⟩ := P; exact hZ
theorem OPn.n0le (P : OPn p l e R s m args below meth c Z a0 EL n0 W0 own T h Ow cells slots) : n0 ≤ h.size := by have O := P.old; rw [← O.1]; exact O.2.1
theorem OPn.mono (P : OPn p l e R s m args below meth c Z a0 EL n0 W0 own T h Ow cells slots) (hc : cells ≤ cells') (hs : slots ≤ slots') : OPn p l e R s m args below meth c Z a0 EL n0 W0 own T h Ow cells' slots' := by
  obtain ⟨locs, X, r⟩ := P
  exact ⟨locs, X.mono hc hs, r⟩
theorem OPn.less (P : OPn p l e R s m args below meth c Z a0 EL n0 W0 own T h Ow cells slots) (q : ∀ x ∈ Ow', x ∈ Ow) : OPn p l e R s m args below meth c Z a0 EL n0 W0 own T h Ow' cells slots := by
  obtain ⟨locs, X, h1, h2, h3, h4, h5, h6, h7, h8, h9, h10, h11, W⟩ := P
  exact ⟨locs, X, h1, h2, h3, h4, h5, h6, h7, h8, h9, h10, h11, fun x hx => W x (q x hx)⟩
theorem OPn.more (P : OPn p l e R s m args below meth c Z a0 EL n0 W0 own T h Ow cells slots) {x : Addr} (q : n0 ≤ x ∧ x < h.size ∧ Safe Z EL T.vm h x) (r : s.heap.size ≤ x) : OPn p l e R s m args below meth c Z a0 EL n0 W0 own T h (x :: Ow) cells slots := by
  obtain ⟨locs, X, h1, h2, h3, h4, h5, h6, h7, h8, h9, h10, h11, W⟩ := P
  exact ⟨locs, X, h1, h2, h3, h4, h5, h6, h7, h8, h9, h10, h11, fun y hy => (List.mem_cons.mp hy).elim (fun u => u ▸ ⟨q.1, q.2.1, q.2.2, Or.inr r⟩) (W y)⟩
theorem OPn.fin {locs' : List Loc} (hx : p.tables.exec = Jvm.exec) (hlk : meth.locks = false) (hS : OSn EL s T.vm h.size) (hZ : Z.Warmed39 T.vm) (hown : T.vm.findClass own = some m.cls) (hEL : EW Z a0 EL) (X' : Stand p l e R (s.setVm T.vm) m args below meth c T' locs' cells' slots') (eT' : T'.heap = h') (hle : h.size ≤ h'.size) (N' : Fr n0 locs') (C' : CHr Z EL s.vm s.heap T.vm h') (O' : Old Z n0 h') (K' : Keep s.heap h' W0) (W' : ∀ x ∈ Ow', OOwn Z EL n0 W0 s.heap.size T.vm h' x) :
    OPn p l e R s m args below meth c Z a0 EL n0 W0 own T' h' Ow' cells' slots' := by
  have A : CHr Z EL T.vm h' T'.vm h' := CHv.at X' hZ hEL C'.1
  refine ⟨locs', X'.retabled X'.warmed.wide, hx, hlk, hS.trans (OSn.of X'.warmed _) hle, State.Warmed39.trans (t := s.setVm T.vm) hZ X'.warmed.wide, ?_, eT', N', hEL, C'.trans A, O', K', fun x hx => ?_⟩
  · exact (X'.warmed.alike.findClass own _).trans hown
  · obtain ⟨q1, q2, q3, q4⟩ := W' x hx
    exact ⟨q1, q2, A.safe q2 q3, q4⟩
/-- a step that moves the tables alone -/
theorem OPn.tab (P : OPn p l e R s m args below meth c Z a0 EL n0 W0 own T h Ow cells slots) (f : ∀ locs, Stand p l e R (s.setVm T.vm) m args below meth c T locs cells slots → Z.Warmed39 (s.setVm T.vm).vm → (s.setVm T.vm).vm.findClass own = some m.cls → T.heap = h → p.tables.exec = Jvm.exec → ∃ T', Stand p l e R (s.setVm T.vm) m args below meth c T' locs cells slots ∧ T'.heap = h ∧ ∀ target, Steps p.tables e below (T'.setTop (mkF m pc' L' S')) target → Steps p.tables e below (T.setTop (mkF m pc L S)) target)
    (k : ∀ T', OPn p l e R s m args below meth c Z a0 EL n0 W0 own T' h Ow cells slots → OG p e below m Pq T' pc' L' S') : OG p e below m Pq T pc L S := by
  obtain ⟨locs, X, hx, hlk, hS, hZ, hown, eT, N, hEL, C, O, K, W⟩ := P
  obtain ⟨T', X', e', st⟩ := f locs X hZ hown eT hx
  exact OG.st st (k T' (OPn.fin hx hlk hS hZ hown hEL X' e' (Nat.le_refl _) N C O K W))
/-- a step that makes one cell -/
theorem OPn.grow (P : OPn p l e R s m args below meth c Z a0 EL n0 W0 own T h Ow cells slots) {G : Heap → Addr → Prop} (f : ∀ locs, Stand p l e R (s.setVm T.vm) m args below meth c T locs cells slots → Z.Warmed39 (s.setVm T.vm).vm → (s.setVm T.vm).vm.findClass own = some m.cls → T.heap = h → p.tables.exec = Jvm.exec → ∃ T' h', Stand p l e R (s.setVm T.vm) m args below meth c T' locs cells' slots' ∧ T'.heap = h' ∧ Ext h h' ∧ h.size < h'.size ∧ G h' h.size ∧ ∀ target, Steps p.tables e below (T'.setTop (mkF m pc' L' (.ref h.size :: S'))) target → Steps p.tables e below (T.setTop (mkF m pc L S)) target)
    (k : ∀ T' h' b, OPn p l e R s m args below meth c Z a0 EL n0 W0 own T' h' (b :: Ow) cells' slots' → Keep h h' [] → h.size ≤ b → G h' b → OG p e below m Pq T' pc' L' (.ref b :: S')) : OG p e below m Pq T pc L S := by
  have hn := P.n0le
  obtain ⟨locs, X, hx, hlk, hS, hZ, hown, eT, N, hEL, C, O, K, W⟩ := P
  obtain ⟨T', h', X', e', E, hlt, g, st⟩ := f locs X hZ hown eT hx
  refine OG.st st (k T' h' h.size (OPn.fin hx hlk hS hZ hown hEL X' e' E.1 N (C.trans (CHr.ext E C.1)) (O.ext E) (K.ext E) fun x hx => ?_) ((Keep.refl h []).ext E) (Nat.le_refl _) g)
  rcases List.mem_cons.mp hx with rfl | hx
  · exact ⟨hn, hlt, Safe.ext E C.1 (Safe.new (Nat.le_refl _)), Or.inr K.1⟩
  · obtain ⟨q1, q2, q3, q4⟩ := W x hx
    exact ⟨q1, Nat.lt_of_lt_of_le q2 E.1, Safe.ext E C.1 q3, q4⟩
/-- a step that writes one place of an own cell -/
theorem OPn.wr (P : OPn p l e R s m args below meth c Z a0 EL n0 W0 own T h Ow cells slots) {a : Addr} {sl : Nat} {v : Value} (ha : a ∈ Ow) (f : ∀ locs, Stand p l e R (s.setVm T.vm) m args below meth c T locs cells slots → Z.Warmed39 (s.setVm T.vm).vm → (s.setVm T.vm).vm.findClass own = some m.cls → T.heap = h → p.tables.exec = Jvm.exec → ∃ T' h', Stand p l e R (s.setVm T.vm) m args below meth c T' (locs ++ [⟨a, sl⟩]) cells slots ∧ T'.heap = h' ∧ Wr h h' a sl v ∧ ∀ target, Steps p.tables e below (T'.setTop (mkF m pc' L' S')) target → Steps p.tables e below (T.setTop (mkF m pc L S)) target)
    (k : ∀ T' h', OPn p l e R s m args below meth c Z a0 EL n0 W0 own T' h' Ow cells slots → Wr h h' a sl v → OG p e below m Pq T' pc' L' S') : OG p e below m Pq T pc L S := by
  obtain ⟨locs, X, hx, hlk, hS, hZ, hown, eT, N, hEL, C, O, K, W⟩ := P
  obtain ⟨T', h', X', e', Wq, st⟩ := f locs X hZ hown eT hx
  obtain ⟨q1, q2, q3, q4⟩ := W a ha
  refine OG.st st (k T' h' (OPn.fin hx hlk hS hZ hown hEL X' e' (Nat.le_of_eq Wq.size.symm) (Fr.snoc X' N q1) (C.trans (CHr.wr Wq q3 C.1)) (O.wr Wq q1) (K.wr Wq q4) fun x hx => ?_) Wq)
  obtain ⟨r1, r2, r3, r4⟩ := W x hx
  exact ⟨r1, by rw [Wq.size]; exact r2, Safe.wr Wq q3 C.1 r3, r4⟩
/-! the end of a walk -/
def OFq (Z : State) (EL : List (String × Nat)) (n0 : Nat) (s : State) (W0 : List Addr) (R : Room) (Q : Option Value → Vm → Heap → Prop) (o : Outcome) (t : State) : Prop :=
  ∃ v L, o = .returned v ∧ (Q v t.vm t.heap ∧ Keep s.heap t.heap W0 ∧ Fr n0 L) ∧ CHr Z EL s.vm s.heap t.vm t.heap ∧ (EL = [] → s.WarmedH t.vm) ∧ ReturnedEndW s o t L R.cells R.slots
theorem OPn.ret {Q : Option Value → Vm → Heap → Prop} (P : OPn p l e R s m args below meth c Z a0 EL n0 W0 own T h Ow cells slots) {v : Option Value} (hv : meth.sig.returnType = none → v = none) (hc : cells ≤ R.cells) (hs : slots ≤ R.slots) (q : Q v T.vm h)
    (st : ∀ locs, Stand p l e R (s.setVm T.vm) m args below meth c T locs cells slots → p.tables.exec = Jvm.exec → ∀ fs, (∀ (f : JFrame) (acts : List Action), f.method = m → f.locked = none → f.entered = [] → (doReturn e (T.setTop f) acts v).1 = T.setFrames fs) → Steps p.tables e below (T.setTop (mkF m pc L S)) (T.setFrames fs)) : OG p e below m (OFq Z EL n0 s W0 R Q) T pc L S := by
  obtain ⟨locs, X, hx, hlk, hS, hZ, hown, eT, N, hEL, C, O, K, W⟩ := P
  subst eT
  obtain ⟨fs, h1, h2, h3, h4, h5, h6, h7⟩ := X.leaveW hS.1 (Nat.le_refl _) hv hlk
  exact ⟨_, _, st locs X hx fs h1, h2, h3, v, locs, rfl, ⟨q, K, N⟩, C, hS.2, h4, h5, h6, h7.mono hc hs⟩
theorem o_ret0 {Q : Option Value → Vm → Heap → Prop} (P : OPn p l e R s m args below meth c Z a0 EL n0 W0 own T h Ow cells slots) (hret : meth.sig.returnType = none) (hd : decode c.code pc = .ok (.return_, 1)) (hc : cells ≤ R.cells) (hs : slots ≤ R.slots) (q : Q none T.vm h) : OG p e below m (OFq Z EL n0 s W0 R Q) T pc L [] :=
  P.ret (fun _ => rfl) hc hs q fun locs X hx fs hr => X.returnOut hx hret hd hr
theorem o_retI {Q : Option Value → Vm → Heap → Prop} (P : OPn p l e R s m args below meth c Z a0 EL n0 W0 own T h Ow cells slots) {t : FieldType} {z : Int32} (hret : meth.sig.returnType = some t) (ht : t = .int ∨ t = .boolean ∨ t = .byte ∨ t = .char ∨ t = .short) (hn : narrow t (.int z) = .int z) (hd : decode c.code pc = .ok (.ireturn, 1)) (hc : cells ≤ R.cells) (hs : slots ≤ R.slots) (q : Q (some (.int z)) T.vm h) : OG p e below m (OFq Z EL n0 s W0 R Q) T pc L (.int z :: S) :=
  P.ret (fun h => by rw [hret] at h; cases h) hc hs q fun locs X hx fs hr => retOut X hx hret hn (Or.inl ⟨rfl, ht, z, rfl⟩) hd hr
theorem o_retL {Q : Option Value → Vm → Heap → Prop} (P : OPn p l e R s m args below meth c Z a0 EL n0 W0 own T h Ow cells slots) {z : Int64} (hret : meth.sig.returnType = some .long) (hd : decode c.code pc = .ok (.lreturn, 1)) (hc : cells ≤ R.cells) (hs : slots ≤ R.slots) (q : Q (some (.long z)) T.vm h) : OG p e below m (OFq Z EL n0 s W0 R Q) T pc L (.long z :: S) :=
  P.ret (fun h => by rw [hret] at h; cases h) hc hs q fun locs X hx fs hr => retOut X hx hret rfl (Or.inr (Or.inl ⟨rfl, rfl, z, rfl⟩)) hd hr
theorem o_retD {Q : Option Value → Vm → Heap → Prop} (P : OPn p l e R s m args below meth c Z a0 EL n0 W0 own T h Ow cells slots) {z : UInt64} (hret : meth.sig.returnType = some .double) (hd : decode c.code pc = .ok (.dreturn, 1)) (hc : cells ≤ R.cells) (hs : slots ≤ R.slots) (q : Q (some (.double z)) T.vm h) : OG p e below m (OFq Z EL n0 s W0 R Q) T pc L (.double z :: S) :=
  P.ret (fun h => by rw [hret] at h; cases h) hc hs q fun locs X hx fs hr => retOut X hx hret rfl (Or.inr (Or.inr (Or.inl ⟨rfl, rfl, z, rfl⟩))) hd hr
theorem o_retA {Q : Option Value → Vm → Heap → Prop} (P : OPn p l e R s m args below meth c Z a0 EL n0 W0 own T h Ow cells slots) {t : FieldType} {w : Value} (hret : meth.sig.returnType = some t) (ht : t.isReference = true) (hw : w.isRef = true) (hn : narrow t w = w) (hd : decode c.code pc = .ok (.areturn, 1)) (hc : cells ≤ R.cells) (hs : slots ≤ R.slots) (q : Q (some w) T.vm h) : OG p e below m (OFq Z EL n0 s W0 R Q) T pc L (w :: S) :=
  P.ret (fun h => by rw [hret] at h; cases h) hc hs q fun locs X hx fs hr => retOut X hx hret hn (Or.inr (Or.inr (Or.inr (Or.inr ⟨rfl, ht, hw⟩)))) hd hr
/-! a contract -/
def OCt (l : Launch) (Z : State) (a0 : Array Value) (EL : List (String × Nat)) (n0 : Nat) (y : MethodName) (bytes : ByteArray) (maxL : Nat) (ret : Option FieldType) (rm : Room) (ws : List Jvm.Cond) (as' : Array Value) (h : Heap) (Sf : List Addr) (Q : Option Value → Vm → Heap → Prop) : Prop :=
  Old Z n0 h → EW Z a0 EL → (∀ x ∈ Sf, n0 ≤ x ∧ x < h.size) →
  MetFree l y (head1 (Jvm.Cond.code y bytes maxL ret :: ws) rm) (fun a U => a = as' ∧ Z.Warmed39 U.vm ∧ U.heap = h ∧ CHv Z EL U.vm h ∧ ∀ x ∈ Sf, Safe Z EL U.vm h x) (fun _ _ _ _ _ => True) (fun _ U o U' => OFq Z EL n0 U Sf rm Q o U')
theorem OCt.body {y : MethodName} {bytes : ByteArray} {maxL : Nat} {ret : Option FieldType} {rm : Room} {ws : List Jvm.Cond} {as' : Array Value} {Sf : List Addr} {Q : Option Value → Vm → Heap → Prop} {L0 : Array Slot} (hpl : plainFor y = true) (hef : ∀ m, entryFrame m as' maxL = mkF m 0 L0 [])
    (k : ∀ p e s m below meth c T, c.code = bytes → c.maxLocals = maxL → meth.sig.returnType = ret → meth.name = y.name → s.heap = h → OPn p l e rm s m as' below meth c Z a0 EL n0 Sf y.cls T h Sf 0 0 → OG p e below m (OFq Z EL n0 s Sf rm Q) T 0 L0 []) : OCt l Z a0 EL n0 y bytes maxL ret rm ws as' h Sf Q := by
  intro hO hEL hSf
  refine MetFree.of_bodySF hpl hisR ?_
  intro p e s m args below meth c s₁ Bd hml0 hP _
  obtain ⟨rfl, hZ, rfl, hC, hS⟩ := hP
  have X0 : Stand p l e rm s m args below meth c s₁ [] 0 0 := Stand.of_body Bd
  have ev : s₁.vm = s.vm := by rw [Bd.state]; rfl
  have eh : s₁.heap = s.heap := by rw [Bd.state]; rfl
  rw [hef m]
  refine k p e s m below meth c s₁ Bd.bytes hml0 Bd.returns (name_of_methodNamed Bd.named Bd.method).1 rfl ⟨[], X0.retabled X0.warmed.wide, Bd.exec, Bd.notSynchronized, OSn.of X0.warmed _, by rw [ev]; exact hZ, by rw [ev]; exact findClass_of_methodNamed Bd.named, eh, Fr.nil n0, hEL, by rw [ev]; exact CHr.refl hC, hO, Keep.refl _ _, fun x hx => ⟨(hSf x hx).1, (hSf x hx).2, by rw [ev]; exact hS x hx, Or.inl hx⟩⟩
/-! a call by a contract -/
theorem OCt.back {y : MethodName} {bytes : ByteArray} {maxL : Nat} {ret : Option FieldType} {rm : Room} {as' : Array Value} {Sf : List Addr} {Q : Option Value → Vm → Heap → Prop} {len W : Nat} (hO : Old Z n0 h) (hEL : EW Z a0 EL) (hSf : ∀ x ∈ Sf, n0 ≤ x ∧ x < h.size ∧ Safe Z EL T.vm h x) (hM : OCt l Z a0 EL n0 y bytes maxL ret rm [] as' h Sf Q)
    (hZ : Z.Warmed39 T.vm) (wc : (Jvm.Cond.code y bytes maxL ret).before a0 Z = true) (wz : (Jvm.Cond.initialized y.cls).before a0 Z = true) (hf : rm.frames + 1 ≤ R.frames) (hl : W + (maxL + 11) + rm.locals ≤ R.locals) (H : CHv Z EL T.vm h) :
    BackS l R p e below (s.setVm T.vm) args y len W (fun A a => a = as' ∧ A.U.heap = h ∧ A.cells + rm.cells ≤ R.cells ∧ A.slots + rm.slots ≤ R.slots)
      (fun A _ v B => ∃ L, Q v B.U.vm B.U.heap ∧ Keep h B.U.heap Sf ∧ Fr n0 L ∧ B.locs = A.locs ++ L ∧ B.cells = A.cells + rm.cells ∧ B.slots = A.slots + rm.slots ∧ CHr Z EL T.vm h B.U.vm B.U.heap ∧ (EL = [] → (s.setVm T.vm).WarmedH B.U.vm)) :=
  BackS.of_freeW (bytes := bytes) (maxL := maxL) (ret := ret) (E := fun _ first o t L k n => k = rm.cells ∧ n = rm.slots ∧ (∃ v, o = .returned v ∧ Q v t.vm t.heap ∧ Keep first.heap t.heap Sf ∧ Fr n0 L) ∧ CHr Z EL first.vm first.heap t.vm t.heap ∧ (EL = [] → first.WarmedH t.vm)) (hM hO hEL fun x hx => ⟨(hSf x hx).1, (hSf x hx).2.1⟩) hf hl
    (fun m meth c A a Y hp => have hU : Z.Warmed39 A.U.vm := wtrans (s := s.setVm T.vm) hZ Y.warmed
      ⟨by show (Jvm.Cond.and _ .tt).before a A.U = true; rw [Cond.before_and, mv hU wc]; rfl, mv hU wc, mv hU wz, hp.2.2.1, hp.2.2.2⟩)
    (fun m meth c A a g mk Y hp => ⟨hp.1, wtrans (s := s.setVm T.vm) hZ Y.warmed, hp.2.1, (CHv.at Y hZ hEL H).1, fun x hx => (CHv.at Y hZ hEL H).safe (hSf x hx).2.1 (hSf x hx).2.2⟩) (fun _ _ _ _ _ _ _ _ _ => trivial)
    (fun _ _ _ _ ⟨v, L, h1, ⟨h2, h3, h4⟩, h5, h5', h6⟩ => ⟨L, _, _, h6, rfl, rfl, ⟨v, h1, h2, h3, h4⟩, h5, h5'⟩)
    (fun m meth c A a g mk v t L k n Y hp _ _ ⟨e1, e2, ⟨v', e3, e4, e5, e6⟩, e7, e8⟩ => by
      cases e3; subst e1 e2
      have eh : (A.U.calling g mk a).heap = h := hp.2.1
      rw [eh] at e5 e7
      exact ⟨L, e4, e5, e6, rfl, rfl, rfl, (CHv.at Y hZ hEL H).trans e7, fun q => State.WarmedH.trans (t := A.U) Y.warmed (e8 q)⟩)
/-- behind a call: what every kind of call has in common -/
theorem OPn.behind {y : MethodName} {rm : Room} {Sf : List Addr} {Q : Option Value → Vm → Heap → Prop} {locs : List Loc} {v : Option Value} {B : Pt}
    (hx : p.tables.exec = Jvm.exec) (hlk : meth.locks = false) (hS : OSn EL s T.vm h.size) (hZ : Z.Warmed39 T.vm) (hown : T.vm.findClass own = some m.cls) (eT : T.heap = h) (N : Fr n0 locs) (hEL : EW Z a0 EL) (C : CHr Z EL s.vm s.heap T.vm h) (O : Old Z n0 h) (K : Keep s.heap h W0) (W : ∀ x ∈ Ow, OOwn Z EL n0 W0 s.heap.size T.vm h x) (hsf : ∀ x ∈ Sf, x ∈ Ow)
    (X' : Stand p l e R ((s.setVm T.vm).setVm B.U.vm) m args below meth c B.U B.locs B.cells B.slots) (hS' : (s.setVm T.vm).Since B.U.vm B.U.heap.size) (hle : T.heap.size ≤ B.U.heap.size)
    (hq : ∃ L, Q v B.U.vm B.U.heap ∧ Keep h B.U.heap Sf ∧ Fr n0 L ∧ B.locs = locs ++ L ∧ B.cells = cells + rm.cells ∧ B.slots = slots + rm.slots ∧ CHr Z EL T.vm h B.U.vm B.U.heap ∧ (EL = [] → (s.setVm T.vm).WarmedH B.U.vm)) :
    OPn p l e R s m args below meth c Z a0 EL n0 W0 own B.U B.U.heap Ow (cells + rm.cells) (slots + rm.slots) ∧ Keep h B.U.heap Sf ∧ Q v B.U.vm B.U.heap := by
  subst eT
  obtain ⟨Lc, q, Kq, Nq, e1, e2, e3, Cq, hH⟩ := hq
  rw [e1, e2, e3] at X'
  have hal := hS'.1.alike
  refine ⟨⟨locs ++ Lc, X', hx, hlk, hS.trans ⟨hS', hH⟩ hle, State.Warmed39.trans (t := s.setVm T.vm) hZ hS'.1, (hal.findClass own _).trans hown, rfl, N.app Nq, hEL, C.trans Cq, O.keep Kq fun x hx => (W x (hsf x hx)).1, K.trans Kq fun x hx => (W x (hsf x hx)).2.2.2, fun x hx => ?_⟩, Kq, q⟩
  obtain ⟨r1, r2, r3, r4⟩ := W x hx
  exact ⟨r1, Nat.lt_of_lt_of_le r2 hle, Cq.safe r2 r3, r4⟩
theorem o_iload (P : OPn p l e R s m args below meth c Z a0 EL n0 W0 own T h Ow cells slots) {k0 : Nat} {v : Int32} (hd : decode c.code pc = .ok (.iload k0, 2)) (hl : L[k0]? = some (.val (.int v))) (hp : pc + 2 = pc') (k : OG p e below m Pq T pc' L (.int v :: S)) : OG p e below m Pq T pc L S := by
  subst hp; exact OG.st (fun t q => XS.iload P.here P.ex rfl hd hl q) k
theorem o_iloadN (P : OPn p l e R s m args below meth c Z a0 EL n0 W0 own T h Ow cells slots) {k0 : Fin 4} {v : Int32} (hd : decode c.code pc = .ok (.iload_n k0, 1)) (hl : L[k0.val]? = some (.val (.int v))) (hp : pc + 1 = pc') (k : OG p e below m Pq T pc' L (.int v :: S)) : OG p e below m Pq T pc L S := by
  subst hp; exact OG.st (fun t q => XS.iloadN P.here P.ex rfl hd hl q) k
theorem o_istore (P : OPn p l e R s m args below meth c Z a0 EL n0 W0 own T h Ow cells slots) {k0 : Nat} {v : Int32} (hd : decode c.code pc = .ok (.istore k0, 2)) (hl : storeLocals L k0 (.int v) = some L') (hp : pc + 2 = pc') (k : OG p e below m Pq T pc' L' S) : OG p e below m Pq T pc L (.int v :: S) := by
  subst hp; exact OG.st (fun t q => XS.istore P.here P.ex rfl hd rfl hl q) k
theorem o_istoreN (P : OPn p l e R s m args below meth c Z a0 EL n0 W0 own T h Ow cells slots) {k0 : Fin 4} {v : Int32} (hd : decode c.code pc = .ok (.istore_n k0, 1)) (hl : storeLocals L k0.val (.int v) = some L') (hp : pc + 1 = pc') (k : OG p e below m Pq T pc' L' S) : OG p e below m Pq T pc L (.int v :: S) := by
  subst hp; exact OG.st (fun t q => XS.istoreN P.here P.ex rfl hd rfl hl q) k
theorem o_lload (P : OPn p l e R s m args below meth c Z a0 EL n0 W0 own T h Ow cells slots) {k0 : Nat} {v : Int64} (hd : decode c.code pc = .ok (.lload k0, 2)) (hl : L[k0]? = some (.val (.long v))) (hp : pc + 2 = pc') (k : OG p e below m Pq T pc' L (.long v :: S)) : OG p e below m Pq T pc L S := by
  subst hp; exact OG.st (fun t q => XS.lload P.here P.ex rfl hd hl q) k
theorem o_lloadN (P : OPn p l e R s m args below meth c Z a0 EL n0 W0 own T h Ow cells slots) {k0 : Fin 4} {v : Int64} (hd : decode c.code pc = .ok (.lload_n k0, 1)) (hl : L[k0.val]? = some (.val (.long v))) (hp : pc + 1 = pc') (k : OG p e below m Pq T pc' L (.long v :: S)) : OG p e below m Pq T pc L S := by
  subst hp; exact OG.st (fun t q => XS.lloadN P.here P.ex rfl hd hl q) k
theorem o_lstore (P : OPn p l e R s m args below meth c Z a0 EL n0 W0 own T h Ow cells slots) {k0 : Nat} {v : Int64} (hd : decode c.code pc = .ok (.lstore k0, 2)) (hl : storeLocals L k0 (.long v) = some L') (hp : pc + 2 = pc') (k : OG p e below m Pq T pc' L' S) : OG p e below m Pq T pc L (.long v :: S) := by
  subst hp; exact OG.st (fun t q => XS.lstore P.here P.ex rfl hd rfl hl q) k
theorem o_lstoreN (P : OPn p l e R s m args below meth c Z a0 EL n0 W0 own T h Ow cells slots) {k0 : Fin 4} {v : Int64} (hd : decode c.code pc = .ok (.lstore_n k0, 1)) (hl : storeLocals L k0.val (.long v) = some L') (hp : pc + 1 = pc') (k : OG p e below m Pq T pc' L' S) : OG p e below m Pq T pc L (.long v :: S) := by
  subst hp; exact OG.st (fun t q => XS.lstoreN P.here P.ex rfl hd rfl hl q) k
theorem o_dload (P : OPn p l e R s m args below meth c Z a0 EL n0 W0 own T h Ow cells slots) {k0 : Nat} {v : UInt64} (hd : decode c.code pc = .ok (.dload k0, 2)) (hl : L[k0]? = some (.val (.double v))) (hp : pc + 2 = pc') (k : OG p e below m Pq T pc' L (.double v :: S)) : OG p e below m Pq T pc L S := by
  subst hp; exact OG.st (fun t q => XS.dload P.here P.ex rfl hd hl q) k
theorem o_dloadN (P : OPn p l e R s m args below meth c Z a0 EL n0 W0 own T h Ow cells slots) {k0 : Fin 4} {v : UInt64} (hd : decode c.code pc = .ok (.dload_n k0, 1)) (hl : L[k0.val]? = some (.val (.double v))) (hp : pc + 1 = pc') (k : OG p e below m Pq T pc' L (.double v :: S)) : OG p e below m Pq T pc L S := by
  subst hp; exact OG.st (fun t q => XS.dloadN P.here P.ex rfl hd hl q) k
theorem o_dstore (P : OPn p l e R s m args below meth c Z a0 EL n0 W0 own T h Ow cells slots) {k0 : Nat} {v : UInt64} (hd : decode c.code pc = .ok (.dstore k0, 2)) (hl : storeLocals L k0 (.double v) = some L') (hp : pc + 2 = pc') (k : OG p e below m Pq T pc' L' S) : OG p e below m Pq T pc L (.double v :: S) := by
  subst hp; exact OG.st (fun t q => XS.dstore P.here P.ex rfl hd rfl hl q) k
theorem o_dstoreN (P : OPn p l e R s m args below meth c Z a0 EL n0 W0 own T h Ow cells slots) {k0 : Fin 4} {v : UInt64} (hd : decode c.code pc = .ok (.dstore_n k0, 1)) (hl : storeLocals L k0.val (.double v) = some L') (hp : pc + 1 = pc') (k : OG p e below m Pq T pc' L' S) : OG p e below m Pq T pc L (.double v :: S) := by
  subst hp; exact OG.st (fun t q => XS.dstoreN P.here P.ex rfl hd rfl hl q) k
theorem o_aload (P : OPn p l e R s m args below meth c Z a0 EL n0 W0 own T h Ow cells slots) {k0 : Nat} {v : Value} (hd : decode c.code pc = .ok (.aload k0, 2)) (hl : L[k0]? = some (.val v)) (hv : v.isRef = true) (hp : pc + 2 = pc') (k : OG p e below m Pq T pc' L (v :: S)) : OG p e below m Pq T pc L S := by
  subst hp; exact OG.st (fun t q => XS.aload P.here P.ex rfl hd hl hv q) k
theorem o_aloadN (P : OPn p l e R s m args below meth c Z a0 EL n0 W0 own T h Ow cells slots) {k0 : Fin 4} {v : Value} (hd : decode c.code pc = .ok (.aload_n k0, 1)) (hl : L[k0.val]? = some (.val v)) (hv : v.isRef = true) (hp : pc + 1 = pc') (k : OG p e below m Pq T pc' L (v :: S)) : OG p e below m Pq T pc L S := by
  subst hp; exact OG.st (fun t q => XS.aloadN P.here P.ex rfl hd hl hv q) k
theorem o_astore (P : OPn p l e R s m args below meth c Z a0 EL n0 W0 own T h Ow cells slots) {k0 : Nat} {v : Value} (hd : decode c.code pc = .ok (.astore k0, 2)) (hv : v.isRef = true) (hl : storeLocals L k0 v = some L') (hp : pc + 2 = pc') (k : OG p e below m Pq T pc' L' S) : OG p e below m Pq T pc L (v :: S) := by
  subst hp; exact OG.st (fun t q => XS.astore P.here P.ex rfl hd rfl hv hl q) k
theorem o_astoreN (P : OPn p l e R s m args below meth c Z a0 EL n0 W0 own T h Ow cells slots) {k0 : Fin 4} {v : Value} (hd : decode c.code pc = .ok (.astore_n k0, 1)) (hv : v.isRef = true) (hl : storeLocals L k0.val v = some L') (hp : pc + 1 = pc') (k : OG p e below m Pq T pc' L' S) : OG p e below m Pq T pc L (v :: S) := by
  subst hp; exact OG.st (fun t q => XS.astoreN P.here P.ex rfl hd rfl hv hl q) k
theorem o_iconst (P : OPn p l e R s m args below meth c Z a0 EL n0 W0 own T h Ow cells slots) {i : Int} (v : Int32) (hd : decode c.code pc = .ok (.iconst i, 1)) (hv : Int32.ofInt i = v) (hp : pc + 1 = pc') (k : OG p e below m Pq T pc' L (.int v :: S)) : OG p e below m Pq T pc L S := by
  subst hp; exact OG.st (fun t q => XS.iconst P.here P.ex rfl hd (hv ▸ q)) k
theorem o_bipush (P : OPn p l e R s m args below meth c Z a0 EL n0 W0 own T h Ow cells slots) {i : Int} (v : Int32) (hd : decode c.code pc = .ok (.bipush i, 2)) (hv : (Int8.ofInt i).toInt32 = v) (hp : pc + 2 = pc') (k : OG p e below m Pq T pc' L (.int v :: S)) : OG p e below m Pq T pc L S := by
  subst hp; exact OG.st (fun t q => XS.bipush P.here P.ex rfl hd (hv ▸ q)) k
theorem o_sipush (P : OPn p l e R s m args below meth c Z a0 EL n0 W0 own T h Ow cells slots) {i : Int} (v : Int32) (hd : decode c.code pc = .ok (.sipush i, 3)) (hv : (Int16.ofInt i).toInt32 = v) (hp : pc + 3 = pc') (k : OG p e below m Pq T pc' L (.int v :: S)) : OG p e below m Pq T pc L S := by
  subst hp; exact OG.st (fun t q => XS.sipush P.here P.ex rfl hd (hv ▸ q)) k
theorem o_lconst (P : OPn p l e R s m args below meth c Z a0 EL n0 W0 own T h Ow cells slots) {i : Fin 2} (v : Int64) (hd : decode c.code pc = .ok (.lconst i, 1)) (hv : Int64.ofNat i = v) (hp : pc + 1 = pc') (k : OG p e below m Pq T pc' L (.long v :: S)) : OG p e below m Pq T pc L S := by
  subst hp; exact OG.st (fun t q => XS.lconst P.here P.ex rfl hd (hv ▸ q)) k
theorem o_dconst0 (P : OPn p l e R s m args below meth c Z a0 EL n0 W0 own T h Ow cells slots) {v : UInt64} (hd : decode c.code pc = .ok (.dconst 0, 1)) (hv : FP.dconst0 = v) (hp : pc + 1 = pc') (k : OG p e below m Pq T pc' L (.double v :: S)) : OG p e below m Pq T pc L S := by
  subst hp; exact OG.st (fun t q => XS.dconst0 P.here P.ex rfl hd hv q) k
theorem o_dconst1 (P : OPn p l e R s m args below meth c Z a0 EL n0 W0 own T h Ow cells slots) {v : UInt64} (hd : decode c.code pc = .ok (.dconst 1, 1)) (hv : FP.dconst1 = v) (hp : pc + 1 = pc') (k : OG p e below m Pq T pc' L (.double v :: S)) : OG p e below m Pq T pc L S := by
  subst hp; exact OG.st (fun t q => XS.dconst1 P.here P.ex rfl hd hv q) k
theorem o_aconstNull (P : OPn p l e R s m args below meth c Z a0 EL n0 W0 own T h Ow cells slots)  (hd : decode c.code pc = .ok (.aconst_null, 1)) (hp : pc + 1 = pc') (k : OG p e below m Pq T pc' L (.null :: S)) : OG p e below m Pq T pc L S := by
  subst hp; exact OG.st (fun t q => XS.aconstNull P.here P.ex rfl hd q) k
theorem o_iadd (P : OPn p l e R s m args below meth c Z a0 EL n0 W0 own T h Ow cells slots) {x y : Int32} (hd : decode c.code pc = .ok (.iadd, 1)) (hp : pc + 1 = pc') (k : OG p e below m Pq T pc' L (.int (x + y) :: S)) : OG p e below m Pq T pc L (.int y :: .int x :: S) := by
  subst hp; exact OG.st (fun t q => XS.iadd P.here P.ex rfl hd rfl q) k
theorem o_ladd (P : OPn p l e R s m args below meth c Z a0 EL n0 W0 own T h Ow cells slots) {x y : Int64} (hd : decode c.code pc = .ok (.ladd, 1)) (hp : pc + 1 = pc') (k : OG p e below m Pq T pc' L (.long (x + y) :: S)) : OG p e below m Pq T pc L (.long y :: .long x :: S) := by
  subst hp; exact OG.st (fun t q => XS.ladd P.here P.ex rfl hd rfl q) k
theorem o_isub (P : OPn p l e R s m args below meth c Z a0 EL n0 W0 own T h Ow cells slots) {x y : Int32} (hd : decode c.code pc = .ok (.isub, 1)) (hp : pc + 1 = pc') (k : OG p e below m Pq T pc' L (.int (x - y) :: S)) : OG p e below m Pq T pc L (.int y :: .int x :: S) := by
  subst hp; exact OG.st (fun t q => XS.isub P.here P.ex rfl hd rfl q) k
theorem o_lsub (P : OPn p l e R s m args below meth c Z a0 EL n0 W0 own T h Ow cells slots) {x y : Int64} (hd : decode c.code pc = .ok (.lsub, 1)) (hp : pc + 1 = pc') (k : OG p e below m Pq T pc' L (.long (x - y) :: S)) : OG p e below m Pq T pc L (.long y :: .long x :: S) := by
  subst hp; exact OG.st (fun t q => XS.lsub P.here P.ex rfl hd rfl q) k
theorem o_imul (P : OPn p l e R s m args below meth c Z a0 EL n0 W0 own T h Ow cells slots) {x y : Int32} (hd : decode c.code pc = .ok (.imul, 1)) (hp : pc + 1 = pc') (k : OG p e below m Pq T pc' L (.int (x * y) :: S)) : OG p e below m Pq T pc L (.int y :: .int x :: S) := by
  subst hp; exact OG.st (fun t q => XS.imul P.here P.ex rfl hd rfl q) k
theorem o_lmul (P : OPn p l e R s m args below meth c Z a0 EL n0 W0 own T h Ow cells slots) {x y : Int64} (hd : decode c.code pc = .ok (.lmul, 1)) (hp : pc + 1 = pc') (k : OG p e below m Pq T pc' L (.long (x * y) :: S)) : OG p e below m Pq T pc L (.long y :: .long x :: S) := by
  subst hp; exact OG.st (fun t q => XS.lmul P.here P.ex rfl hd rfl q) k
theorem o_iand (P : OPn p l e R s m args below meth c Z a0 EL n0 W0 own T h Ow cells slots) {x y : Int32} (hd : decode c.code pc = .ok (.iand, 1)) (hp : pc + 1 = pc') (k : OG p e below m Pq T pc' L (.int (x &&& y) :: S)) : OG p e below m Pq T pc L (.int y :: .int x :: S) := by
  subst hp; exact OG.st (fun t q => XS.iand P.here P.ex rfl hd rfl q) k
theorem o_land (P : OPn p l e R s m args below meth c Z a0 EL n0 W0 own T h Ow cells slots) {x y : Int64} (hd : decode c.code pc = .ok (.land, 1)) (hp : pc + 1 = pc') (k : OG p e below m Pq T pc' L (.long (x &&& y) :: S)) : OG p e below m Pq T pc L (.long y :: .long x :: S) := by
  subst hp; exact OG.st (fun t q => XS.land P.here P.ex rfl hd rfl q) k
theorem o_ior (P : OPn p l e R s m args below meth c Z a0 EL n0 W0 own T h Ow cells slots) {x y : Int32} (hd : decode c.code pc = .ok (.ior, 1)) (hp : pc + 1 = pc') (k : OG p e below m Pq T pc' L (.int (x ||| y) :: S)) : OG p e below m Pq T pc L (.int y :: .int x :: S) := by
  subst hp; exact OG.st (fun t q => XS.ior P.here P.ex rfl hd rfl q) k
theorem o_lor (P : OPn p l e R s m args below meth c Z a0 EL n0 W0 own T h Ow cells slots) {x y : Int64} (hd : decode c.code pc = .ok (.lor, 1)) (hp : pc + 1 = pc') (k : OG p e below m Pq T pc' L (.long (x ||| y) :: S)) : OG p e below m Pq T pc L (.long y :: .long x :: S) := by
  subst hp; exact OG.st (fun t q => XS.lor P.here P.ex rfl hd rfl q) k
theorem o_ixor (P : OPn p l e R s m args below meth c Z a0 EL n0 W0 own T h Ow cells slots) {x y : Int32} (hd : decode c.code pc = .ok (.ixor, 1)) (hp : pc + 1 = pc') (k : OG p e below m Pq T pc' L (.int (x ^^^ y) :: S)) : OG p e below m Pq T pc L (.int y :: .int x :: S) := by
  subst hp; exact OG.st (fun t q => XS.ixor P.here P.ex rfl hd rfl q) k
theorem o_lxor (P : OPn p l e R s m args below meth c Z a0 EL n0 W0 own T h Ow cells slots) {x y : Int64} (hd : decode c.code pc = .ok (.lxor, 1)) (hp : pc + 1 = pc') (k : OG p e below m Pq T pc' L (.long (x ^^^ y) :: S)) : OG p e below m Pq T pc L (.long y :: .long x :: S) := by
  subst hp; exact OG.st (fun t q => XS.lxor P.here P.ex rfl hd rfl q) k
theorem o_idiv (P : OPn p l e R s m args below meth c Z a0 EL n0 W0 own T h Ow cells slots) {x y : Int32} (hd : decode c.code pc = .ok (.idiv, 1)) (hy : y ≠ 0) (hp : pc + 1 = pc') (k : OG p e below m Pq T pc' L (.int (x / y) :: S)) : OG p e below m Pq T pc L (.int y :: .int x :: S) := by
  subst hp; exact OG.st (fun t q => XS.idiv P.here P.ex rfl hd rfl hy q) k
theorem o_ldiv (P : OPn p l e R s m args below meth c Z a0 EL n0 W0 own T h Ow cells slots) {x y : Int64} (hd : decode c.code pc = .ok (.ldiv, 1)) (hy : y ≠ 0) (hp : pc + 1 = pc') (k : OG p e below m Pq T pc' L (.long (x / y) :: S)) : OG p e below m Pq T pc L (.long y :: .long x :: S) := by
  subst hp; exact OG.st (fun t q => XS.ldiv P.here P.ex rfl hd rfl hy q) k
theorem o_irem (P : OPn p l e R s m args below meth c Z a0 EL n0 W0 own T h Ow cells slots) {x y : Int32} (hd : decode c.code pc = .ok (.irem, 1)) (hy : y ≠ 0) (hp : pc + 1 = pc') (k : OG p e below m Pq T pc' L (.int (x % y) :: S)) : OG p e below m Pq T pc L (.int y :: .int x :: S) := by
  subst hp; exact OG.st (fun t q => XS.irem P.here P.ex rfl hd rfl hy (by rw [irem_eq_mod]; exact q)) k
theorem o_lrem (P : OPn p l e R s m args below meth c Z a0 EL n0 W0 own T h Ow cells slots) {x y : Int64} (hd : decode c.code pc = .ok (.lrem, 1)) (hy : y ≠ 0) (hp : pc + 1 = pc') (k : OG p e below m Pq T pc' L (.long (x % y) :: S)) : OG p e below m Pq T pc L (.long y :: .long x :: S) := by
  subst hp; exact OG.st (fun t q => XS.lrem P.here P.ex rfl hd rfl hy (by rw [lrem_mod]; exact q)) k
theorem o_ineg (P : OPn p l e R s m args below meth c Z a0 EL n0 W0 own T h Ow cells slots) {x : Int32} (hd : decode c.code pc = .ok (.ineg, 1)) (hp : pc + 1 = pc') (k : OG p e below m Pq T pc' L (.int (-x) :: S)) : OG p e below m Pq T pc L (.int x :: S) := by
  subst hp; exact OG.st (fun t q => XS.ineg P.here P.ex rfl hd rfl q) k
theorem o_lneg (P : OPn p l e R s m args below meth c Z a0 EL n0 W0 own T h Ow cells slots) {x : Int64} (hd : decode c.code pc = .ok (.lneg, 1)) (hp : pc + 1 = pc') (k : OG p e below m Pq T pc' L (.long (-x) :: S)) : OG p e below m Pq T pc L (.long x :: S) := by
  subst hp; exact OG.st (fun t q => XS.lneg P.here P.ex rfl hd rfl q) k
theorem o_ishl (P : OPn p l e R s m args below meth c Z a0 EL n0 W0 own T h Ow cells slots) {x y : Int32} (hd : decode c.code pc = .ok (.ishl, 1)) (hp : pc + 1 = pc') (k : OG p e below m Pq T pc' L (.int (x <<< (y &&& 31)) :: S)) : OG p e below m Pq T pc L (.int y :: .int x :: S) := by
  subst hp; exact OG.st (fun t q => XS.ishl P.here P.ex rfl hd rfl q) k
theorem o_ishr (P : OPn p l e R s m args below meth c Z a0 EL n0 W0 own T h Ow cells slots) {x y : Int32} (hd : decode c.code pc = .ok (.ishr, 1)) (hp : pc + 1 = pc') (k : OG p e below m Pq T pc' L (.int (x >>> (y &&& 31)) :: S)) : OG p e below m Pq T pc L (.int y :: .int x :: S) := by
  subst hp; exact OG.st (fun t q => XS.ishr P.here P.ex rfl hd rfl q) k
theorem o_iushr (P : OPn p l e R s m args below meth c Z a0 EL n0 W0 own T h Ow cells slots) {x y : Int32} (hd : decode c.code pc = .ok (.iushr, 1)) (hp : pc + 1 = pc') (k : OG p e below m Pq T pc' L (.int ((x.toUInt32 >>> (y &&& 31).toUInt32).toInt32) :: S)) : OG p e below m Pq T pc L (.int y :: .int x :: S) := by
  subst hp; exact OG.st (fun t q => XS.iushr P.here P.ex rfl hd rfl q) k
theorem o_lshl (P : OPn p l e R s m args below meth c Z a0 EL n0 W0 own T h Ow cells slots) {x : Int64} {y : Int32} (hd : decode c.code pc = .ok (.lshl, 1)) (hp : pc + 1 = pc') (k : OG p e below m Pq T pc' L (.long (x <<< (y &&& 0x3f).toInt64) :: S)) : OG p e below m Pq T pc L (.int y :: .long x :: S) := by
  subst hp; exact OG.st (fun t q => XS.lshl P.here P.ex rfl hd rfl q) k
theorem o_lshr (P : OPn p l e R s m args below meth c Z a0 EL n0 W0 own T h Ow cells slots) {x : Int64} {y : Int32} (hd : decode c.code pc = .ok (.lshr, 1)) (hp : pc + 1 = pc') (k : OG p e below m Pq T pc' L (.long (x >>> (y &&& 0x3f).toInt64) :: S)) : OG p e below m Pq T pc L (.int y :: .long x :: S) := by
  subst hp; exact OG.st (fun t q => XS.lshr P.here P.ex rfl hd rfl q) k
theorem o_lushr (P : OPn p l e R s m args below meth c Z a0 EL n0 W0 own T h Ow cells slots) {x : Int64} {y : Int32} (hd : decode c.code pc = .ok (.lushr, 1)) (hp : pc + 1 = pc') (k : OG p e below m Pq T pc' L (.long ((x.toUInt64 >>> (y &&& 0x3f).toInt64.toUInt64).toInt64) :: S)) : OG p e below m Pq T pc L (.int y :: .long x :: S) := by
  subst hp; exact OG.st (fun t q => XS.lushr P.here P.ex rfl hd rfl q) k
theorem o_i2l (P : OPn p l e R s m args below meth c Z a0 EL n0 W0 own T h Ow cells slots) {x : Int32} (hd : decode c.code pc = .ok (.i2l, 1)) (hp : pc + 1 = pc') (k : OG p e below m Pq T pc' L (.long (x.toInt64) :: S)) : OG p e below m Pq T pc L (.int x :: S) := by
  subst hp; exact OG.st (fun t q => XS.i2l P.here P.ex rfl hd rfl q) k
theorem o_l2i (P : OPn p l e R s m args below meth c Z a0 EL n0 W0 own T h Ow cells slots) {x : Int64} (hd : decode c.code pc = .ok (.l2i, 1)) (hp : pc + 1 = pc') (k : OG p e below m Pq T pc' L (.int (x.toInt32) :: S)) : OG p e below m Pq T pc L (.long x :: S) := by
  subst hp; exact OG.st (fun t q => XS.l2i P.here P.ex rfl hd rfl q) k
theorem o_i2b (P : OPn p l e R s m args below meth c Z a0 EL n0 W0 own T h Ow cells slots) {x : Int32} (hd : decode c.code pc = .ok (.i2b, 1)) (hp : pc + 1 = pc') (k : OG p e below m Pq T pc' L (.int (x.toInt8.toInt32) :: S)) : OG p e below m Pq T pc L (.int x :: S) := by
  subst hp; exact OG.st (fun t q => XS.i2b P.here P.ex rfl hd rfl q) k
theorem o_i2s (P : OPn p l e R s m args below meth c Z a0 EL n0 W0 own T h Ow cells slots) {x : Int32} (hd : decode c.code pc = .ok (.i2s, 1)) (hp : pc + 1 = pc') (k : OG p e below m Pq T pc' L (.int (x.toInt16.toInt32) :: S)) : OG p e below m Pq T pc L (.int x :: S) := by
  subst hp; exact OG.st (fun t q => XS.i2s P.here P.ex rfl hd rfl q) k
theorem o_i2c (P : OPn p l e R s m args below meth c Z a0 EL n0 W0 own T h Ow cells slots) {x : Int32} (hd : decode c.code pc = .ok (.i2c, 1)) (hp : pc + 1 = pc') (k : OG p e below m Pq T pc' L (.int (x.toUInt32.toUInt16.toUInt32.toInt32) :: S)) : OG p e below m Pq T pc L (.int x :: S) := by
  subst hp; exact OG.st (fun t q => XS.i2c P.here P.ex rfl hd rfl q) k
theorem o_lcmp (P : OPn p l e R s m args below meth c Z a0 EL n0 W0 own T h Ow cells slots) {x y : Int64} (hd : decode c.code pc = .ok (.lcmp, 1)) (hp : pc + 1 = pc') (k : OG p e below m Pq T pc' L (.int (lcmpW x y) :: S)) : OG p e below m Pq T pc L (.long y :: .long x :: S) := by
  subst hp; exact OG.st (fun t q => XS.lcmp P.here P.ex rfl hd rfl q) k
theorem o_i2d (P : OPn p l e R s m args below meth c Z a0 EL n0 W0 own T h Ow cells slots) {x : Int32} {v : UInt64} (hd : decode c.code pc = .ok (.i2d, 1)) (hv : FP.i2d x = v) (hp : pc + 1 = pc') (k : OG p e below m Pq T pc' L (.double v :: S)) : OG p e below m Pq T pc L (.int x :: S) := by
  subst hp; exact OG.st (fun t q => XS.i2dS P.here P.ex rfl hd rfl hv q) k
theorem o_dadd (P : OPn p l e R s m args below meth c Z a0 EL n0 W0 own T h Ow cells slots) {x y v : UInt64} (hd : decode c.code pc = .ok (.dadd, 1)) (hn : Jvm.Free.Fl.NoNaN64 (FP.dadd x y)) (hv : FP.dadd x y = v) (hp : pc + 1 = pc') (k : OG p e below m Pq T pc' L (.double v :: S)) : OG p e below m Pq T pc L (.double y :: .double x :: S) := by
  subst hp; exact OG.st (fun t q => XS.daddS P.here P.ex rfl hd rfl hn hv q) k
theorem o_dmul (P : OPn p l e R s m args below meth c Z a0 EL n0 W0 own T h Ow cells slots) {x y v : UInt64} (hd : decode c.code pc = .ok (.dmul, 1)) (hn : Jvm.Free.Fl.NoNaN64 (FP.dmul x y)) (hv : FP.dmul x y = v) (hp : pc + 1 = pc') (k : OG p e below m Pq T pc' L (.double v :: S)) : OG p e below m Pq T pc L (.double y :: .double x :: S) := by
  subst hp; exact OG.st (fun t q => XS.dmulS P.here P.ex rfl hd rfl hn hv q) k
theorem o_ddiv (P : OPn p l e R s m args below meth c Z a0 EL n0 W0 own T h Ow cells slots) {x y v : UInt64} (hd : decode c.code pc = .ok (.ddiv, 1)) (hn : Jvm.Free.Fl.NoNaN64 (FP.ddiv x y)) (hv : FP.ddiv x y = v) (hp : pc + 1 = pc') (k : OG p e below m Pq T pc' L (.double v :: S)) : OG p e below m Pq T pc L (.double y :: .double x :: S) := by
  subst hp; exact OG.st (fun t q => XS.ddivS P.here P.ex rfl hd rfl hn hv q) k
theorem o_dcmp (P : OPn p l e R s m args below meth c Z a0 EL n0 W0 own T h Ow cells slots) {o : CmpOp} {x y : UInt64} {v : Int32} (hd : decode c.code pc = .ok (.dcmp o, 1)) (hv : cmpValue (FP.dcmp x y) o = v) (hp : pc + 1 = pc') (k : OG p e below m Pq T pc' L (.int v :: S)) : OG p e below m Pq T pc L (.double y :: .double x :: S) := by
  subst hp; exact OG.st (fun t q => XS.dcmpS P.here P.ex rfl hd rfl hv q) k
theorem o_dup (P : OPn p l e R s m args below meth c Z a0 EL n0 W0 own T h Ow cells slots) {x : Value} (hd : decode c.code pc = .ok (.dup, 1)) (hc : x.category = 1) (hp : pc + 1 = pc') (k : OG p e below m Pq T pc' L (x :: x :: S)) : OG p e below m Pq T pc L (x :: S) := by
  subst hp; exact OG.st (fun t q => XS.dup P.here P.ex rfl hd rfl hc q) k
theorem o_pop (P : OPn p l e R s m args below meth c Z a0 EL n0 W0 own T h Ow cells slots) {x : Value} (hd : decode c.code pc = .ok (.pop, 1)) (hc : x.category = 1) (hp : pc + 1 = pc') (k : OG p e below m Pq T pc' L S) : OG p e below m Pq T pc L (x :: S) := by
  subst hp; exact OG.st (fun t q => XS.pop P.here P.ex rfl hd rfl hc q) k
theorem o_swap (P : OPn p l e R s m args below meth c Z a0 EL n0 W0 own T h Ow cells slots) {x y : Value} (hd : decode c.code pc = .ok (.swap, 1)) (hc : x.category = 1) (hc2 : y.category = 1) (hp : pc + 1 = pc') (k : OG p e below m Pq T pc' L (y :: x :: S)) : OG p e below m Pq T pc L (x :: y :: S) := by
  subst hp; exact OG.st (fun t q => XS.swap P.here P.ex rfl hd rfl hc hc2 q) k
theorem o_dupX1 (P : OPn p l e R s m args below meth c Z a0 EL n0 W0 own T h Ow cells slots) {x y : Value} (hd : decode c.code pc = .ok (.dup_x1, 1)) (hc : x.category = 1) (hc2 : y.category = 1) (hp : pc + 1 = pc') (k : OG p e below m Pq T pc' L (x :: y :: x :: S)) : OG p e below m Pq T pc L (x :: y :: S) := by
  subst hp; exact OG.st (fun t q => XS.dupX1 P.here P.ex rfl hd rfl hc hc2 q) k
theorem o_dup2 (P : OPn p l e R s m args below meth c Z a0 EL n0 W0 own T h Ow cells slots) {x y : Value} (hd : decode c.code pc = .ok (.dup2, 1)) (hc : x.category = 1) (hc2 : y.category = 1) (hp : pc + 1 = pc') (k : OG p e below m Pq T pc' L (x :: y :: x :: y :: S)) : OG p e below m Pq T pc L (x :: y :: S) := by
  subst hp; exact OG.st (fun t q => Jvm.Free.XT.dup2 P.here P.ex rfl hd rfl hc hc2 q) k
theorem o_dup2L (P : OPn p l e R s m args below meth c Z a0 EL n0 W0 own T h Ow cells slots) {x : Int64} (hd : decode c.code pc = .ok (.dup2, 1)) (hp : pc + 1 = pc') (k : OG p e below m Pq T pc' L (.long x :: .long x :: S)) : OG p e below m Pq T pc L (.long x :: S) := by
  subst hp; exact OG.st (fun t q => Jvm.Free.XT.dup2L P.here P.ex rfl hd rfl q) k
theorem o_iinc (P : OPn p l e R s m args below meth c Z a0 EL n0 W0 own T h Ow cells slots) {k0 : Nat} {i : Int} {x : Int32} (v : Int32) (hd : decode c.code pc = .ok (.iinc k0 i, 3)) (hv : Int32.ofInt i = v) (hl : L[k0]? = some (.val (.int x))) (hl' : storeLocals L k0 (.int (x + v)) = some L') (hp : pc + 3 = pc') (k : OG p e below m Pq T pc' L' S) : OG p e below m Pq T pc L S := by
  subst hp; exact OG.st (fun t q => XS.iinc P.here P.ex rfl hd hl (hv ▸ hl') q) k
theorem o_goto (P : OPn p l e R s m args below meth c Z a0 EL n0 W0 own T h Ow cells slots) {o : Int} (hd : decode c.code pc = .ok (.goto o, 3)) (ho : 0 ≤ (pc : Int) + o) (hp : ((pc : Int) + o).toNat = pc') (k : OG p e below m Pq T pc' L S) : OG p e below m Pq T pc L S :=
  OG.st (fun t q => XS.goto P.here P.ex rfl rfl hd ho hp q) k
theorem o_icmp_lt (P : OPn p l e R s m args below meth c Z a0 EL n0 W0 own T h Ow cells slots) {o : Int} {x y : Int32} {pcf : Nat} (hd : decode c.code pc = .ok (.if_icmp .lt o, 3)) (ho : 0 ≤ (pc : Int) + o) (hp : ((pc : Int) + o).toNat = pc') (hq : pc + 3 = pcf) (k1 : x < y → OG p e below m Pq T pc' L S) (k2 : ¬ x < y → OG p e below m Pq T pcf L S) : OG p e below m Pq T pc L (.int y :: .int x :: S) := by
  by_cases q : x < y
  · exact OG.st (fun t r => XS.icmpYes P.here P.ex rfl rfl hd rfl (tlt q).1 ho hp r) (k1 q)
  · subst hq; exact OG.st (fun t r => XS.icmpNo P.here P.ex rfl hd rfl (flt q).1 r) (k2 q)
theorem o_if_lt (P : OPn p l e R s m args below meth c Z a0 EL n0 W0 own T h Ow cells slots) {o : Int} {x : Int32} {pcf : Nat} (hd : decode c.code pc = .ok (.ifCond .lt o, 3)) (ho : 0 ≤ (pc : Int) + o) (hp : ((pc : Int) + o).toNat = pc') (hq : pc + 3 = pcf) (k1 : x < (0 : Int32) → OG p e below m Pq T pc' L S) (k2 : ¬ x < (0 : Int32) → OG p e below m Pq T pcf L S) : OG p e below m Pq T pc L (.int x :: S) := by
  by_cases q : x < (0 : Int32)
  · exact OG.st (fun t r => XS.ifYes P.here P.ex rfl rfl hd rfl ((if0 _ _).trans (tlt q).1) ho hp r) (k1 q)
  · subst hq; exact OG.st (fun t r => XS.ifNo P.here P.ex rfl hd rfl ((if0 _ _).trans (flt q).1) r) (k2 q)
theorem o_icmp_ge (P : OPn p l e R s m args below meth c Z a0 EL n0 W0 own T h Ow cells slots) {o : Int} {x y : Int32} {pcf : Nat} (hd : decode c.code pc = .ok (.if_icmp .ge o, 3)) (ho : 0 ≤ (pc : Int) + o) (hp : ((pc : Int) + o).toNat = pc') (hq : pc + 3 = pcf) (k1 : ¬ x < y → OG p e below m Pq T pc' L S) (k2 : x < y → OG p e below m Pq T pcf L S) : OG p e below m Pq T pc L (.int y :: .int x :: S) := by
  by_cases q : x < y
  · subst hq; exact OG.st (fun t r => XS.icmpNo P.here P.ex rfl hd rfl (tlt q).2.1 r) (k2 q)
  · exact OG.st (fun t r => XS.icmpYes P.here P.ex rfl rfl hd rfl (flt q).2.1 ho hp r) (k1 q)
theorem o_if_ge (P : OPn p l e R s m args below meth c Z a0 EL n0 W0 own T h Ow cells slots) {o : Int} {x : Int32} {pcf : Nat} (hd : decode c.code pc = .ok (.ifCond .ge o, 3)) (ho : 0 ≤ (pc : Int) + o) (hp : ((pc : Int) + o).toNat = pc') (hq : pc + 3 = pcf) (k1 : ¬ x < (0 : Int32) → OG p e below m Pq T pc' L S) (k2 : x < (0 : Int32) → OG p e below m Pq T pcf L S) : OG p e below m Pq T pc L (.int x :: S) := by
  by_cases q : x < (0 : Int32)
  · subst hq; exact OG.st (fun t r => XS.ifNo P.here P.ex rfl hd rfl ((if0 _ _).trans (tlt q).2.1) r) (k2 q)
  · exact OG.st (fun t r => XS.ifYes P.here P.ex rfl rfl hd rfl ((if0 _ _).trans (flt q).2.1) ho hp r) (k1 q)
theorem o_icmp_gt (P : OPn p l e R s m args below meth c Z a0 EL n0 W0 own T h Ow cells slots) {o : Int} {x y : Int32} {pcf : Nat} (hd : decode c.code pc = .ok (.if_icmp .gt o, 3)) (ho : 0 ≤ (pc : Int) + o) (hp : ((pc : Int) + o).toNat = pc') (hq : pc + 3 = pcf) (k1 : y < x → OG p e below m Pq T pc' L S) (k2 : ¬ y < x → OG p e below m Pq T pcf L S) : OG p e below m Pq T pc L (.int y :: .int x :: S) := by
  by_cases q : y < x
  · exact OG.st (fun t r => XS.icmpYes P.here P.ex rfl rfl hd rfl (tlt q).2.2.1 ho hp r) (k1 q)
  · subst hq; exact OG.st (fun t r => XS.icmpNo P.here P.ex rfl hd rfl (flt q).2.2.1 r) (k2 q)
theorem o_if_gt (P : OPn p l e R s m args below meth c Z a0 EL n0 W0 own T h Ow cells slots) {o : Int} {x : Int32} {pcf : Nat} (hd : decode c.code pc = .ok (.ifCond .gt o, 3)) (ho : 0 ≤ (pc : Int) + o) (hp : ((pc : Int) + o).toNat = pc') (hq : pc + 3 = pcf) (k1 : (0 : Int32) < x → OG p e below m Pq T pc' L S) (k2 : ¬ (0 : Int32) < x → OG p e below m Pq T pcf L S) : OG p e below m Pq T pc L (.int x :: S) := by
  by_cases q : (0 : Int32) < x
  · exact OG.st (fun t r => XS.ifYes P.here P.ex rfl rfl hd rfl ((if0 _ _).trans (tlt q).2.2.1) ho hp r) (k1 q)
  · subst hq; exact OG.st (fun t r => XS.ifNo P.here P.ex rfl hd rfl ((if0 _ _).trans (flt q).2.2.1) r) (k2 q)
theorem o_icmp_le (P : OPn p l e R s m args below meth c Z a0 EL n0 W0 own T h Ow cells slots) {o : Int} {x y : Int32} {pcf : Nat} (hd : decode c.code pc = .ok (.if_icmp .le o, 3)) (ho : 0 ≤ (pc : Int) + o) (hp : ((pc : Int) + o).toNat = pc') (hq : pc + 3 = pcf) (k1 : ¬ y < x → OG p e below m Pq T pc' L S) (k2 : y < x → OG p e below m Pq T pcf L S) : OG p e below m Pq T pc L (.int y :: .int x :: S) := by
  by_cases q : y < x
  · subst hq; exact OG.st (fun t r => XS.icmpNo P.here P.ex rfl hd rfl (tlt q).2.2.2 r) (k2 q)
  · exact OG.st (fun t r => XS.icmpYes P.here P.ex rfl rfl hd rfl (flt q).2.2.2 ho hp r) (k1 q)
theorem o_if_le (P : OPn p l e R s m args below meth c Z a0 EL n0 W0 own T h Ow cells slots) {o : Int} {x : Int32} {pcf : Nat} (hd : decode c.code pc = .ok (.ifCond .le o, 3)) (ho : 0 ≤ (pc : Int) + o) (hp : ((pc : Int) + o).toNat = pc') (hq : pc + 3 = pcf) (k1 : ¬ (0 : Int32) < x → OG p e below m Pq T pc' L S) (k2 : (0 : Int32) < x → OG p e below m Pq T pcf L S) : OG p e below m Pq T pc L (.int x :: S) := by
  by_cases q : (0 : Int32) < x
  · subst hq; exact OG.st (fun t r => XS.ifNo P.here P.ex rfl hd rfl ((if0 _ _).trans (tlt q).2.2.2) r) (k2 q)
  · exact OG.st (fun t r => XS.ifYes P.here P.ex rfl rfl hd rfl ((if0 _ _).trans (flt q).2.2.2) ho hp r) (k1 q)
theorem o_icmp_eq (P : OPn p l e R s m args below meth c Z a0 EL n0 W0 own T h Ow cells slots) {o : Int} {x y : Int32} {pcf : Nat} (hd : decode c.code pc = .ok (.if_icmp .eq o, 3)) (ho : 0 ≤ (pc : Int) + o) (hp : ((pc : Int) + o).toNat = pc') (hq : pc + 3 = pcf) (k1 : x = y → OG p e below m Pq T pc' L S) (k2 : ¬ x = y → OG p e below m Pq T pcf L S) : OG p e below m Pq T pc L (.int y :: .int x :: S) := by
  by_cases q : x = y
  · exact OG.st (fun t r => XS.icmpYes P.here P.ex rfl rfl hd rfl (teq q).1 ho hp r) (k1 q)
  · subst hq; exact OG.st (fun t r => XS.icmpNo P.here P.ex rfl hd rfl (feq q).1 r) (k2 q)
theorem o_if_eq (P : OPn p l e R s m args below meth c Z a0 EL n0 W0 own T h Ow cells slots) {o : Int} {x : Int32} {pcf : Nat} (hd : decode c.code pc = .ok (.ifCond .eq o, 3)) (ho : 0 ≤ (pc : Int) + o) (hp : ((pc : Int) + o).toNat = pc') (hq : pc + 3 = pcf) (k1 : x = (0 : Int32) → OG p e below m Pq T pc' L S) (k2 : ¬ x = (0 : Int32) → OG p e below m Pq T pcf L S) : OG p e below m Pq T pc L (.int x :: S) := by
  by_cases q : x = (0 : Int32)
  · exact OG.st (fun t r => XS.ifYes P.here P.ex rfl rfl hd rfl ((if0 _ _).trans (teq q).1) ho hp r) (k1 q)
  · subst hq; exact OG.st (fun t r => XS.ifNo P.here P.ex rfl hd rfl ((if0 _ _).trans (feq q).1) r) (k2 q)
theorem o_icmp_ne (P : OPn p l e R s m args below meth c Z a0 EL n0 W0 own T h Ow cells slots) {o : Int} {x y : Int32} {pcf : Nat} (hd : decode c.code pc = .ok (.if_icmp .ne o, 3)) (ho : 0 ≤ (pc : Int) + o) (hp : ((pc : Int) + o).toNat = pc') (hq : pc + 3 = pcf) (k1 : ¬ x = y → OG p e below m Pq T pc' L S) (k2 : x = y → OG p e below m Pq T pcf L S) : OG p e below m Pq T pc L (.int y :: .int x :: S) := by
  by_cases q : x = y
  · subst hq; exact OG.st (fun t r => XS.icmpNo P.here P.ex rfl hd rfl (teq q).2 r) (k2 q)
  · exact OG.st (fun t r => XS.icmpYes P.here P.ex rfl rfl hd rfl (feq q).2 ho hp r) (k1 q)
theorem o_if_ne (P : OPn p l e R s m args below meth c Z a0 EL n0 W0 own T h Ow cells slots) {o : Int} {x : Int32} {pcf : Nat} (hd : decode c.code pc = .ok (.ifCond .ne o, 3)) (ho : 0 ≤ (pc : Int) + o) (hp : ((pc : Int) + o).toNat = pc') (hq : pc + 3 = pcf) (k1 : ¬ x = (0 : Int32) → OG p e below m Pq T pc' L S) (k2 : x = (0 : Int32) → OG p e below m Pq T pcf L S) : OG p e below m Pq T pc L (.int x :: S) := by
  by_cases q : x = (0 : Int32)
  · subst hq; exact OG.st (fun t r => XS.ifNo P.here P.ex rfl hd rfl ((if0 _ _).trans (teq q).2) r) (k2 q)
  · exact OG.st (fun t r => XS.ifYes P.here P.ex rfl rfl hd rfl ((if0 _ _).trans (feq q).2) ho hp r) (k1 q)
theorem o_ifnullY (P : OPn p l e R s m args below meth c Z a0 EL n0 W0 own T h Ow cells slots) {o : Int} (hd : decode c.code pc = .ok (.ifnull o, 3)) (ho : 0 ≤ (pc : Int) + o) (hp : ((pc : Int) + o).toNat = pc') (k : OG p e below m Pq T pc' L S) : OG p e below m Pq T pc L (.null :: S) :=
  OG.st (fun t q => XS.ifnullYes P.here P.ex rfl rfl hd rfl ho hp q) k
theorem o_ifnullN (P : OPn p l e R s m args below meth c Z a0 EL n0 W0 own T h Ow cells slots) {o : Int} {b : Addr} (hd : decode c.code pc = .ok (.ifnull o, 3)) (hp : pc + 3 = pc') (k : OG p e below m Pq T pc' L S) : OG p e below m Pq T pc L (.ref b :: S) := by
  subst hp; exact OG.st (fun t q => XS.ifnullNo P.here P.ex rfl hd rfl q) k
theorem o_ifnonnullY (P : OPn p l e R s m args below meth c Z a0 EL n0 W0 own T h Ow cells slots) {o : Int} {b : Addr} (hd : decode c.code pc = .ok (.ifnonnull o, 3)) (ho : 0 ≤ (pc : Int) + o) (hp : ((pc : Int) + o).toNat = pc') (k : OG p e below m Pq T pc' L S) : OG p e below m Pq T pc L (.ref b :: S) :=
  OG.st (fun t q => XS.ifnonnullYes P.here P.ex rfl rfl hd rfl ho hp q) k
theorem o_ifnonnullN (P : OPn p l e R s m args below meth c Z a0 EL n0 W0 own T h Ow cells slots) {o : Int} (hd : decode c.code pc = .ok (.ifnonnull o, 3)) (hp : pc + 3 = pc') (k : OG p e below m Pq T pc' L S) : OG p e below m Pq T pc L (.null :: S) := by
  subst hp; exact OG.st (fun t q => XS.ifnonnullNo P.here P.ex rfl hd rfl q) k
theorem o_acmp (P : OPn p l e R s m args below meth c Z a0 EL n0 W0 own T h Ow cells slots) {cd : ACond} {o : Int} {x y : Value} (same : Bool) (hd : decode c.code pc = .ok (.if_acmp cd o, 3)) (h1 : x.isRef = true) (h2 : y.isRef = true) (hq : decide (x = y) = same) (ho : 0 ≤ (pc : Int) + o) (hp : pc' = if acV cd same = true then ((pc : Int) + o).toNat else pc + 3) (k : OG p e below m Pq T pc' L S) : OG p e below m Pq T pc L (y :: x :: S) := by
  obtain ⟨locs, X, hx, -⟩ := P
  exact OG.st (fun t q => Jvm.RoadKit.acmp X hx rfl h1 h2 rfl hd rfl hq ho hp q) k
/-! objects: class and fields, one fact -/
def OObj (Z : State) (h : Heap) (a : Addr) (C : String) (fs : List (String × String × String × Value)) : Prop :=
  Exa Z h a C ∧ (∀ f ∈ fs, Fld Z h a f.1 f.2.1 f.2.2.1 f.2.2.2) ∧ ∀ (i j : Nat) (f g : String × String × String × Value), i ≠ j → fs[i]? = some f → fs[j]? = some g → Jvm.RoadKit.slotOf Z f.1 f.2.1 f.2.2.1 ≠ Jvm.RoadKit.slotOf Z g.1 g.2.1 g.2.2.1
section OObjs
variable {a b : Addr} {C O nm d : String} {fs : List (String × String × String × Value)} {u v w : Value} {ws : List Addr} {sl : Nat}
theorem OObj.exa (F : OObj Z h a C fs) : Exa Z h a C := F.1
theorem OObj.lt (F : OObj Z h a C fs) : a < h.size := F.1.lt
theorem OObj.keep (F : OObj Z h a C fs) (K : Keep h h' ws) (q : a ∉ ws) : OObj Z h' a C fs := ⟨F.1.keep K, fun f hf => (F.2.1 f hf).keep K q, F.2.2⟩
theorem OObj.oth (F : OObj Z h a C fs) (W : Wr h h' b sl v) (q : a ≠ b) : OObj Z h' a C fs := ⟨F.1.wr W, fun f hf => (F.2.1 f hf).other W (Or.inl q), F.2.2⟩
theorem OObj.fld (F : OObj Z h a C fs) (i : Nat) (hi : fs[i]? = some (O, nm, d, v)) : Fld Z h a O nm d v := F.2.1 _ (List.mem_of_getElem? hi)
theorem OObj.put (F : OObj Z h a C fs) (i : Nat) (hi : fs[i]? = some (O, nm, d, u)) (W : Wr h h' a (Jvm.RoadKit.slotOf Z O nm d) v) : OObj Z h' a C (fs.set i (O, nm, d, v)) := by
  have key : ∀ (j : Nat) (f : String × String × String × Value), (fs.set i (O, nm, d, v))[j]? = some f → (j = i ∧ f = (O, nm, d, v)) ∨ (j ≠ i ∧ fs[j]? = some f) := by
    intro j f hj
    by_cases e : j = i
    · subst e
      have hlt : j < fs.length := (List.getElem?_eq_some_iff.mp hi).1
      rw [List.getElem?_set_self hlt] at hj
      exact Or.inl ⟨rfl, (Option.some.inj hj).symm⟩
    · rw [List.getElem?_set_ne (fun q => e q.symm)] at hj
      exact Or.inr ⟨e, hj⟩
  refine ⟨F.1.wr W, fun f hf => ?_, fun j k f g hjk hj hk => ?_⟩
  · obtain ⟨j, hj⟩ := List.getElem?_of_mem hf
    rcases key j f hj with ⟨rfl, rfl⟩ | ⟨hne, hj'⟩
    · exact (F.fld j hi).same W
    · exact (F.2.1 f (List.mem_of_getElem? hj')).other W (Or.inr (F.2.2 j i f (O, nm, d, u) hne hj' hi))
  · rcases key j f hj with ⟨rfl, rfl⟩ | ⟨hne, hj'⟩ <;> rcases key k g hk with ⟨rfl, rfl⟩ | ⟨hne', hk'⟩
    · exact absurd rfl hjk
    · exact F.2.2 j k (O, nm, d, u) g hjk hi hk'
    · exact F.2.2 j k f (O, nm, d, u) hjk hj' hi
    · exact F.2.2 j k f g hjk hj' hk'
theorem OObj.new (E : Exa Z h a C) (D : ∀ {O nm d : String} {ty : FieldType}, Laid Z a0 C O nm d → parseFieldDescriptor d = some ty → Fld Z h a O nm d (defaultValue ty)) (hL : ∀ f ∈ fs, Laid Z a0 C f.1 f.2.1 f.2.2.1 ∧ ∃ ty, parseFieldDescriptor f.2.2.1 = some ty ∧ defaultValue ty = f.2.2.2) (nd : (fs.map fun f => f.2.1).Nodup) : OObj Z h a C fs := by
  refine ⟨E, fun f hf => ?_, fun i j f g hij hi hj => ?_⟩
  · obtain ⟨L, ty, h1, h2⟩ := hL f hf
    rw [← h2]; exact D L h1
  · obtain ⟨L1, t1, p1, -⟩ := hL f (List.mem_of_getElem? hi)
    obtain ⟨L2, t2, p2, -⟩ := hL g (List.mem_of_getElem? hj)
    refine slot_ne L1 L2 (fun e => hij ?_) p1 p2
    have hi' : (fs.map fun f => f.2.1)[i]? = some f.2.1 := by rw [List.getElem?_map, hi]; rfl
    have hj' : (fs.map fun f => f.2.1)[j]? = some f.2.1 := by rw [List.getElem?_map, hj, e]; rfl
    obtain ⟨li, ei⟩ := List.getElem?_eq_some_iff.mp hi'
    obtain ⟨lj, ej⟩ := List.getElem?_eq_some_iff.mp hj'
    have np := List.pairwise_iff_getElem.mp nd
    rcases Nat.lt_trichotomy i j with q | q | q
    · exact absurd (ei.trans ej.symm) (np i j li lj q)
    · exact q
    · exact absurd (ej.trans ei.symm) (np j i lj li q)
end OObjs
/-- every field of the list is laid, with its first value -/
def OLd (Z : State) (a0 : Array Value) (C : String) (fs : List (String × String × String × Value)) : Prop := ∀ f ∈ fs, Laid Z a0 C f.1 f.2.1 f.2.2.1 ∧ ∃ ty, parseFieldDescriptor f.2.2.1 = some ty ∧ defaultValue ty = f.2.2.2
theorem OLd.nil {C : String} : OLd Z a0 C [] := fun _ q => nomatch q
theorem OLd.cons {C O nm d : String} {v : Value} {ty : FieldType} {fs : List (String × String × String × Value)} (L : Laid Z a0 C O nm d) (h1 : parseFieldDescriptor d = some ty) (h2 : defaultValue ty = v) (r : OLd Z a0 C fs) : OLd Z a0 C ((O, nm, d, v) :: fs) := fun f hf => by
  rcases List.mem_cons.mp hf with rfl | hf
  · exact ⟨L, ty, h1, h2⟩
  · exact r f hf
/-! arrays: the whole content, one fact -/
def OArr (Z : State) (h : Heap) (a : Addr) (ty : FieldType) (vs : List Value) : Prop :=
  ∃ c : Cell, Arr Z h a c ty ∧ c.slots = vs.toArray ∧ vs.length < 2147483648 ∧ ∀ v ∈ vs, fits ty v = true
section OArrs
variable {a b : Addr} {ty : FieldType} {vs : List Value} {u v w : Value} {ws : List Addr} {sl : Nat} {j z : Int32} {k : ClassId} {dv : Value}
theorem OArr.eq {vs' : List Value} (F : OArr Z h a ty vs) (e : vs = vs') : OArr Z h a ty vs' := e ▸ F
theorem OArr.lt (F : OArr Z h a ty vs) : a < h.size := by obtain ⟨c, A, -⟩ := F; exact A.lt
theorem OArr.len (F : OArr Z h a ty vs) : vs.length < 2147483648 := by obtain ⟨c, -, -, q, -⟩ := F; exact q
theorem OArr.keep (F : OArr Z h a ty vs) (K : Keep h h' ws) (q : a ∉ ws) : OArr Z h' a ty vs := by obtain ⟨c, A, r⟩ := F; exact ⟨c, ⟨K.2.1 a c A.1 q, A.2⟩, r⟩
theorem OArr.oth (F : OArr Z h a ty vs) (W : Wr h h' b sl v) (q : a ≠ b) : OArr Z h' a ty vs := by obtain ⟨c, A, r⟩ := F; exact ⟨c, A.other W q, r⟩
theorem OArr.set (F : OArr Z h a ty vs) (W : Wr h h' a sl v) (hv : fits ty v = true) : OArr Z h' a ty (vs.set sl v) := by
  obtain ⟨c, A, e, n, q⟩ := F
  refine ⟨c.setSlot sl v, A.same W, by simp [Cell.setSlot, e], by rw [List.length_set]; exact n, fun x hx => ?_⟩
  rcases List.mem_or_eq_of_mem_set hx with hx | rfl
  · exact q x hx
  · exact hv
theorem OArr.ofArv (F : Arv Z h a k ty z vs dv) (hl : vs.length = z.toNatClampNeg) : OArr Z h a ty vs := by
  obtain ⟨c, A, -, S, q, H, G⟩ := F
  refine ⟨c, A, ?_, by rw [hl]; exact (back32 q).2, fun v hv => ?_⟩
  · apply Array.ext_getElem?
    intro i
    by_cases hi : i < c.slots.size
    · rw [H i hi]
      have hi' : i < vs.length := by rw [hl, ← S]; exact hi
      simp [hi']
    · rw [Array.getElem?_eq_none (by omega)]
      have hi' : ¬ i < vs.length := by rw [hl, ← S]; exact hi
      simp; omega
  · obtain ⟨i, hi⟩ := List.getElem?_of_mem hv
    obtain ⟨hi1, hi2⟩ := List.getElem?_eq_some_iff.mp hi
    have := G i (by rw [S, ← hl]; exact hi1)
    simpa [hi1, hi2] using this
theorem OArr.toArv (F : OArr Z h a ty vs) (hz : ¬ z < 0) (hl : z.toNatClampNeg = vs.length) : ∃ k, Arv Z h a k ty z vs dv := by
  obtain ⟨c, A, e, n, q⟩ := F
  refine ⟨c.cls, c, A, rfl, by rw [e, hl]; simp, hz, fun i hi => ?_, fun i hi => ?_⟩
  · rw [e] at hi ⊢
    have hi' : i < vs.length := by simpa using hi
    simp [hi']
  · rw [e] at hi
    have hi' : i < vs.length := by simpa using hi
    have := q vs[i] (List.getElem_mem hi')
    simpa [hi'] using this
theorem OArr.size (F : OArr Z h a ty vs) {c : Cell} (hc : h[a]? = some c) : c.slots = vs.toArray := by
  obtain ⟨c', A, e, -⟩ := F
  cases hc.symm.trans A.1
  exact e
/-- inside -/
theorem o_in (hj : ¬ j < 0) (hl : j.toNatClampNeg < vs.length) : ¬ (j < 0 ∨ vs.toArray.size ≤ j.toNatClampNeg) := fun q => q.elim hj fun r => by simp at r; omega
end OArrs
/-! fields -/
theorem o_getF (P : OPn p l e R s m args below meth c Z a0 EL n0 W0 own T h Ow cells slots) {R0 O n d : String} {index : Nat} {a : Addr} {v : Value} (w : (Jvm.Cond.fieldLink own index R0 n d).before a0 Z = true) (via : Via Z R0 O n d) (F : Fld Z h a O n d v) (hd : decode c.code pc = .ok (.getfield index, 3)) (hp : pc + 3 = pc')
    (k : ∀ T', OPn p l e R s m args below meth c Z a0 EL n0 W0 own T' h Ow cells slots → OG p e below m Pq T' pc' L (v :: S)) : OG p e below m Pq T pc L (.ref a :: S) := by
  subst hp
  exact P.tab (fun locs X hZ hown eT hx => getF (host := "") X hx hZ hown (Or.inl w) via eT F (g := mkF m pc L (.ref a :: S)) rfl rfl hd) k
theorem o_getFN (P : OPn p l e R s m args below meth c Z a0 EL n0 W0 own T h Ow cells slots) {R0 O n d host : String} {index : Nat} {a : Addr} {v : Value} (w : (Jvm.Cond.fieldLinkNest own index R0 n d host).before a0 Z = true) (via : Via Z R0 O n d) (F : Fld Z h a O n d v) (hd : decode c.code pc = .ok (.getfield index, 3)) (hp : pc + 3 = pc')
    (k : ∀ T', OPn p l e R s m args below meth c Z a0 EL n0 W0 own T' h Ow cells slots → OG p e below m Pq T' pc' L (v :: S)) : OG p e below m Pq T pc L (.ref a :: S) := by
  subst hp
  exact P.tab (fun locs X hZ hown eT hx => getF (host := host) X hx hZ hown (Or.inr w) via eT F (g := mkF m pc L (.ref a :: S)) rfl rfl hd) k
theorem o_getS (P : OPn p l e R s m args below meth c Z a0 EL n0 W0 own T h Ow cells slots) {R0 O n d : String} {index : Nat} {v : Value} (w : (Jvm.Cond.fieldLink own index R0 n d).before a0 Z = true) (via : Via Z R0 O n d) (F : Sta Z Z.heap O n d v) (hd : decode c.code pc = .ok (.getstatic index, 3)) (hp : pc + 3 = pc')
    (k : ∀ T', OPn p l e R s m args below meth c Z a0 EL n0 W0 own T' h Ow cells slots → OG p e below m Pq T' pc' L (v :: S)) : OG p e below m Pq T pc L S := by
  subst hp
  have O := P.old
  exact P.tab (fun locs X hZ hown eT hx => getS2 (host := "") X hx hZ hown (Or.inl w) via eT (F.ext O.2) (g := mkF m pc L S) rfl hd) k
theorem o_getSN (P : OPn p l e R s m args below meth c Z a0 EL n0 W0 own T h Ow cells slots) {R0 O n d host : String} {index : Nat} {v : Value} (w : (Jvm.Cond.fieldLinkNest own index R0 n d host).before a0 Z = true) (via : Via Z R0 O n d) (F : Sta Z Z.heap O n d v) (hd : decode c.code pc = .ok (.getstatic index, 3)) (hp : pc + 3 = pc')
    (k : ∀ T', OPn p l e R s m args below meth c Z a0 EL n0 W0 own T' h Ow cells slots → OG p e below m Pq T' pc' L (v :: S)) : OG p e below m Pq T pc L S := by
  subst hp
  have O := P.old
  exact P.tab (fun locs X hZ hown eT hx => getS2 (host := host) X hx hZ hown (Or.inr w) via eT (F.ext O.2) (g := mkF m pc L S) rfl hd) k
theorem o_putF (P : OPn p l e R s m args below meth c Z a0 EL n0 W0 own T h Ow cells slots) {R0 O n d C : String} {index kk : Nat} {a : Addr} {v v' old : Value} {ty : FieldType} (w : (Jvm.Cond.fieldLink own index R0 n d).before a0 Z = true) (via : Via Z R0 O n d) (F : Fld Z h a O n d old) (E : Exa Z h a C) (Lw : (Jvm.Cond.lays C O n d).before a0 Z = true ∨ ((Jvm.Cond.laysFinal C O n d).before a0 Z = true ∧ own = O ∧ meth.name = "<init>")) (wi : (Jvm.Cond.instantiable C kk).before a0 Z = true) (hty : parseFieldDescriptor d = some ty) (hn : narrow ty v = v') (hf : fits ty v' = true) (ha : a ∈ Ow) (hd : decode c.code pc = .ok (.putfield index, 3)) (hp : pc + 3 = pc')
    (k : ∀ T' h', OPn p l e R s m args below meth c Z a0 EL n0 W0 own T' h' Ow cells slots → Wr h h' a (Jvm.RoadKit.slotOf Z O n d) v' → OG p e below m Pq T' pc' L S) : OG p e below m Pq T pc L (v :: .ref a :: S) := by
  subst hp
  exact P.wr ha (fun locs X hZ hown eT hx => putFN X hx hZ hown w via eT F E Lw wi hty hn hf (g := mkF m pc L (v :: .ref a :: S)) rfl rfl hd) k
/-! new objects and arrays -/
theorem o_new (P : OPn p l e R s m args below meth c Z a0 EL n0 W0 own T h Ow cells slots) {C : String} {index n : Nat} (fs : List (String × String × String × Value)) (w : (Jvm.Cond.classLink own index C).before a0 Z = true) (wi : (Jvm.Cond.instantiable C n).before a0 Z = true) (wz : (Jvm.Cond.initialized C).before a0 Z = true) (hL : OLd Z a0 C fs) (nd : (fs.map fun f => f.2.1).Nodup) (hd : decode c.code pc = .ok (.new index, 3)) (hp : pc + 3 = pc') (hc : cells + 1 ≤ R.cells) (hl : slots + n ≤ R.slots)
    (k : ∀ T' h' b, OPn p l e R s m args below meth c Z a0 EL n0 W0 own T' h' (b :: Ow) (cells + 1) (slots + n) → Keep h h' [] → h.size ≤ b → OObj Z h' b C fs → OG p e below m Pq T' pc' L (.ref b :: S)) : OG p e below m Pq T pc L S := by
  subst hp
  refine P.grow (G := fun h' b => OObj Z h' b C fs) (fun locs X hZ hown eT hx => ?_) k
  obtain ⟨T', h', X', e', E', A', D', -, st⟩ := newO X hx hZ hown w wi wz eT (g := mkF m pc L S) rfl hd hc hl
  exact ⟨T', h', X', e', E', A'.lt, OObj.new A' D' hL nd, st⟩
theorem o_newarr (P : OPn p l e R s m args below meth c Z a0 EL n0 W0 own T h Ow cells slots) {aty : ArrayType} {n : Int32} {cap : Nat} (w : (Jvm.Cond.arrayClass (newarray.typeOf aty)).before a0 Z = true) (hd : decode c.code pc = .ok (.newarray aty, 2)) (hn : ¬ n < 0) (hcap : n.toNatClampNeg ≤ cap) (hb : cap * 8 ≤ 536870912) (hp : pc + 2 = pc') (hc : cells + 1 ≤ R.cells) (hl : slots + cap ≤ R.slots)
    (k : ∀ T' h' b, OPn p l e R s m args below meth c Z a0 EL n0 W0 own T' h' (b :: Ow) (cells + 1) (slots + cap) → Keep h h' [] → h.size ≤ b → OArr Z h' b (newarray.typeOf aty) (List.replicate n.toNatClampNeg (defaultValue (newarray.typeOf aty))) → OG p e below m Pq T' pc' L (.ref b :: S)) : OG p e below m Pq T pc L (.int n :: S) := by
  subst hp
  refine P.grow (G := fun h' b => OArr Z h' b (newarray.typeOf aty) (List.replicate n.toNatClampNeg (defaultValue (newarray.typeOf aty)))) (fun locs X hZ hown eT hx => ?_) k
  obtain ⟨T', h', cA, X', e', E', A', st⟩ := newP X hx hZ w eT (g := mkF m pc L (.int n :: S)) rfl hd rfl hn hcap hb hc hl
  refine ⟨T', h', X', e', E', A'.lt, ⟨_, A', by simp [newA], by simpa using (back32 hn).2, fun v hv => ?_⟩, st⟩
  rw [List.eq_of_mem_replicate hv]; cases (newarray.typeOf aty) <;> rfl
theorem o_anewarr (P : OPn p l e R s m args below meth c Z a0 EL n0 W0 own T h Ow cells slots) {C : String} {index : Nat} {n : Int32} {cap : Nat} (w1 : (Jvm.Cond.classLink own index C).before a0 Z = true) (w2 : (Jvm.Cond.arrayOver (.object C)).before a0 Z = true) (hd : decode c.code pc = .ok (.anewarray index, 3)) (hn : ¬ n < 0) (hcap : n.toNatClampNeg ≤ cap) (hb : cap * 8 ≤ 536870912) (hp : pc + 3 = pc') (hc : cells + 1 ≤ R.cells) (hl : slots + cap ≤ R.slots)
    (k : ∀ T' h' b, OPn p l e R s m args below meth c Z a0 EL n0 W0 own T' h' (b :: Ow) (cells + 1) (slots + cap) → Keep h h' [] → h.size ≤ b → OArr Z h' b (.object C) (List.replicate n.toNatClampNeg .null) → (∃ cell : Cell, h'[b]? = some cell ∧ Ovr Z cell.cls C) → OG p e below m Pq T' pc' L (.ref b :: S)) : OG p e below m Pq T pc L (.int n :: S) := by
  subst hp
  refine P.grow (G := fun h' b => OArr Z h' b (.object C) (List.replicate n.toNatClampNeg .null) ∧ ∃ cell : Cell, h'[b]? = some cell ∧ Ovr Z cell.cls C) (fun locs X hZ hown eT hx => ?_) fun T' h' b P' K hb' q => k T' h' b P' K hb' q.1 q.2
  obtain ⟨T', h', cA, X', e', E', A', O', st⟩ := newR X hx hZ hown w1 w2 eT (g := mkF m pc L (.int n :: S)) rfl hd rfl hn hcap hb hc hl
  refine ⟨T', h', X', e', E', A'.lt, ⟨⟨_, A', by simp [newA, defaultValue], by simpa using (back32 hn).2, fun v hv => ?_⟩, _, A'.1, O'⟩, st⟩
  rw [List.eq_of_mem_replicate hv]; rfl
/-! components -/
theorem o_arrlen (P : OPn p l e R s m args below meth c Z a0 EL n0 W0 own T h Ow cells slots) {a : Addr} {ty : FieldType} {vs : List Value} {n : Int32} (A : OArr Z h a ty vs) (hd : decode c.code pc = .ok (.arraylength, 1)) (hn : vs.length.toInt32 = n) (hp : pc + 1 = pc') (k : OG p e below m Pq T pc' L (.int n :: S)) : OG p e below m Pq T pc L (.ref a :: S) := by
  subst hp hn
  obtain ⟨locs, X, hx, hlk, hS, hZ, hown, eT, r⟩ := P
  obtain ⟨cl, Ar, e1, -⟩ := A
  have st := X.arraylength hx (by rw [eT]; exact Ar.1) (State.isArrayOf_alike hZ.alike Ar.2.1) (g := mkF m pc L (.ref a :: S)) rfl rfl hd
  rw [e1] at st
  exact OG.st (fun t q => st t (by simpa using q)) k
theorem o_iaload (P : OPn p l e R s m args below meth c Z a0 EL n0 W0 own T h Ow cells slots) {a : Addr} {vs : List Value} {j : Int32} {v : Value} (A : OArr Z h a .int vs) (hj : ¬ j < 0) (hv : vs[j.toNatClampNeg]? = some v) (hd : decode c.code pc = .ok (.iaload, 1)) (hp : pc + 1 = pc') (k : OG p e below m Pq T pc' L (v :: S)) : OG p e below m Pq T pc L (.int j :: .ref a :: S) := by
  subst hp
  obtain ⟨locs, X, hx, hlk, hS, hZ, hown, eT, r⟩ := P
  obtain ⟨cl, Ar, e1, -⟩ := A
  have hlt : j.toNatClampNeg < vs.length := (List.getElem?_eq_some_iff.mp hv).1
  exact OG.st (fun t q => X.iaload hx (by rw [eT]; exact Ar.1) (State.isArrayOf_alike hZ.alike Ar.2.1) Ar.2.2 (by rw [e1]; exact o_in hj hlt) (by rw [e1]; simpa using hv) (g := mkF m pc L (.int j :: .ref a :: S)) rfl rfl hd t q) k
theorem o_laload (P : OPn p l e R s m args below meth c Z a0 EL n0 W0 own T h Ow cells slots) {a : Addr} {vs : List Value} {j : Int32} {v : Value} (A : OArr Z h a .long vs) (hj : ¬ j < 0) (hv : vs[j.toNatClampNeg]? = some v) (hd : decode c.code pc = .ok (.laload, 1)) (hp : pc + 1 = pc') (k : OG p e below m Pq T pc' L (v :: S)) : OG p e below m Pq T pc L (.int j :: .ref a :: S) := by
  subst hp
  obtain ⟨locs, X, hx, hlk, hS, hZ, hown, eT, r⟩ := P
  obtain ⟨cl, Ar, e1, -⟩ := A
  have hlt : j.toNatClampNeg < vs.length := (List.getElem?_eq_some_iff.mp hv).1
  exact OG.st (fun t q => X.laload hx (by rw [eT]; exact Ar.1) (State.isArrayOf_alike hZ.alike Ar.2.1) Ar.2.2 (by rw [e1]; exact o_in hj hlt) (by rw [e1]; simpa using hv) (g := mkF m pc L (.int j :: .ref a :: S)) rfl rfl hd t q) k
theorem o_caload (P : OPn p l e R s m args below meth c Z a0 EL n0 W0 own T h Ow cells slots) {a : Addr} {vs : List Value} {j : Int32} {v : Value} (A : OArr Z h a .char vs) (hj : ¬ j < 0) (hv : vs[j.toNatClampNeg]? = some v) (hd : decode c.code pc = .ok (.caload, 1)) (hp : pc + 1 = pc') (k : OG p e below m Pq T pc' L (v :: S)) : OG p e below m Pq T pc L (.int j :: .ref a :: S) := by
  subst hp
  obtain ⟨locs, X, hx, hlk, hS, hZ, hown, eT, r⟩ := P
  obtain ⟨cl, Ar, e1, -⟩ := A
  have hlt : j.toNatClampNeg < vs.length := (List.getElem?_eq_some_iff.mp hv).1
  exact OG.st (fun t q => X.caload hx (by rw [eT]; exact Ar.1) (State.isArrayOf_alike hZ.alike Ar.2.1) Ar.2.2 (by rw [e1]; exact o_in hj hlt) (by rw [e1]; simpa using hv) (g := mkF m pc L (.int j :: .ref a :: S)) rfl rfl hd t q) k
theorem o_baload (P : OPn p l e R s m args below meth c Z a0 EL n0 W0 own T h Ow cells slots) {a : Addr} {vs : List Value} {j : Int32} {v : Value} (A : OArr Z h a .byte vs) (hj : ¬ j < 0) (hv : vs[j.toNatClampNeg]? = some v) (hd : decode c.code pc = .ok (.baload, 1)) (hp : pc + 1 = pc') (k : OG p e below m Pq T pc' L (v :: S)) : OG p e below m Pq T pc L (.int j :: .ref a :: S) := by
  subst hp
  obtain ⟨locs, X, hx, hlk, hS, hZ, hown, eT, r⟩ := P
  obtain ⟨cl, Ar, e1, -⟩ := A
  have hlt : j.toNatClampNeg < vs.length := (List.getElem?_eq_some_iff.mp hv).1
  exact OG.st (fun t q => X.baloadBytes hx (by rw [eT]; exact Ar.1) (State.isArrayOf_alike hZ.alike Ar.2.1) Ar.2.2 (by rw [e1]; exact o_in hj hlt) (by rw [e1]; simpa using hv) (g := mkF m pc L (.int j :: .ref a :: S)) rfl rfl hd t q) k
theorem o_zaload (P : OPn p l e R s m args below meth c Z a0 EL n0 W0 own T h Ow cells slots) {a : Addr} {vs : List Value} {j : Int32} {v : Value} (A : OArr Z h a .boolean vs) (hj : ¬ j < 0) (hv : vs[j.toNatClampNeg]? = some v) (hd : decode c.code pc = .ok (.baload, 1)) (hp : pc + 1 = pc') (k : OG p e below m Pq T pc' L (v :: S)) : OG p e below m Pq T pc L (.int j :: .ref a :: S) := by
  subst hp
  obtain ⟨locs, X, hx, hlk, hS, hZ, hown, eT, r⟩ := P
  obtain ⟨cl, Ar, e1, -⟩ := A
  have hlt : j.toNatClampNeg < vs.length := (List.getElem?_eq_some_iff.mp hv).1
  exact OG.st (fun t q => X.baloadBooleans hx (by rw [eT]; exact Ar.1) (State.isArrayOf_alike hZ.alike Ar.2.1) Ar.2.2 (by rw [e1]; exact o_in hj hlt) (by rw [e1]; simpa using hv) (g := mkF m pc L (.int j :: .ref a :: S)) rfl rfl hd t q) k
theorem o_daload (P : OPn p l e R s m args below meth c Z a0 EL n0 W0 own T h Ow cells slots) {a : Addr} {vs : List Value} {j : Int32} {v : Value} (A : OArr Z h a .double vs) (hj : ¬ j < 0) (hv : vs[j.toNatClampNeg]? = some v) (hd : decode c.code pc = .ok (.daload, 1)) (hp : pc + 1 = pc') (k : OG p e below m Pq T pc' L (v :: S)) : OG p e below m Pq T pc L (.int j :: .ref a :: S) := by
  subst hp
  obtain ⟨locs, X, hx, hlk, hS, hZ, hown, eT, r⟩ := P
  obtain ⟨cl, Ar, e1, -⟩ := A
  have hlt : j.toNatClampNeg < vs.length := (List.getElem?_eq_some_iff.mp hv).1
  exact OG.st (fun t q => X.daload hx (by rw [eT]; exact Ar.1) (State.isArrayOf_alike hZ.alike Ar.2.1) Ar.2.2 (by rw [e1]; exact o_in hj hlt) (by rw [e1]; simpa using hv) (g := mkF m pc L (.int j :: .ref a :: S)) rfl rfl hd t q) k
theorem o_saload (P : OPn p l e R s m args below meth c Z a0 EL n0 W0 own T h Ow cells slots) {a : Addr} {vs : List Value} {j : Int32} {v : Value} (A : OArr Z h a .short vs) (hj : ¬ j < 0) (hv : vs[j.toNatClampNeg]? = some v) (hd : decode c.code pc = .ok (.saload, 1)) (hp : pc + 1 = pc') (k : OG p e below m Pq T pc' L (v :: S)) : OG p e below m Pq T pc L (.int j :: .ref a :: S) := by
  subst hp
  obtain ⟨locs, X, hx, hlk, hS, hZ, hown, eT, r⟩ := P
  obtain ⟨cl, Ar, e1, -⟩ := A
  have hlt : j.toNatClampNeg < vs.length := (List.getElem?_eq_some_iff.mp hv).1
  exact OG.st (fun t q => X.saload hx (by rw [eT]; exact Ar.1) (State.isArrayOf_alike hZ.alike Ar.2.1) Ar.2.2 (by rw [e1]; exact o_in hj hlt) (by rw [e1]; simpa using hv) (g := mkF m pc L (.int j :: .ref a :: S)) rfl rfl hd t q) k
theorem o_aaload (P : OPn p l e R s m args below meth c Z a0 EL n0 W0 own T h Ow cells slots) {a : Addr} {ty : FieldType} {vs : List Value} {j : Int32} {v : Value} (A : OArr Z h a ty vs) (hty : ty.isReference = true) (hj : ¬ j < 0) (hv : vs[j.toNatClampNeg]? = some v) (hd : decode c.code pc = .ok (.aaload, 1)) (hp : pc + 1 = pc') (k : OG p e below m Pq T pc' L (v :: S)) : OG p e below m Pq T pc L (.int j :: .ref a :: S) := by
  subst hp
  obtain ⟨locs, X, hx, hlk, hS, hZ, hown, eT, r⟩ := P
  obtain ⟨cl, Ar, e1, -⟩ := A
  have hlt : j.toNatClampNeg < vs.length := (List.getElem?_eq_some_iff.mp hv).1
  exact OG.st (fun t q => X.aaload hx (by rw [eT]; exact Ar.1) (State.isArrayOf_alike hZ.alike Ar.2.1) hty Ar.2.2 (by rw [e1]; exact o_in hj hlt) (by rw [e1]; simpa using hv) (g := mkF m pc L (.int j :: .ref a :: S)) rfl rfl hd t q) k
theorem o_iastore (P : OPn p l e R s m args below meth c Z a0 EL n0 W0 own T h Ow cells slots) {a : Addr} {vs : List Value} {j : Int32} {x : Int32} {v : Value} (A : OArr Z h a .int vs) (ha : a ∈ Ow) (hj : ¬ j < 0) (hlt : j.toNatClampNeg < vs.length) (hv : Value.int x = v) (hd : decode c.code pc = .ok (.iastore, 1)) (hp : pc + 1 = pc')
    (k : ∀ T' h', OPn p l e R s m args below meth c Z a0 EL n0 W0 own T' h' Ow cells slots → Wr h h' a j.toNatClampNeg v → OArr Z h' a .int (vs.set j.toNatClampNeg v) → OG p e below m Pq T' pc' L S) : OG p e below m Pq T pc L (.int x :: .int j :: .ref a :: S) := by
  subst hp hv
  obtain ⟨cl, Ar, e1, e2⟩ := id A
  exact P.wr ha (fun locs X hZ hown eT hx => stI X hx hZ eT Ar (by rw [e1]; exact o_in hj hlt) (g := mkF m pc L (.int x :: .int j :: .ref a :: S)) rfl rfl hd) fun T' h' P' W' => k T' h' P' W' (A.set W' rfl)
theorem o_lastore (P : OPn p l e R s m args below meth c Z a0 EL n0 W0 own T h Ow cells slots) {a : Addr} {vs : List Value} {j : Int32} {x : Int64} {v : Value} (A : OArr Z h a .long vs) (ha : a ∈ Ow) (hj : ¬ j < 0) (hlt : j.toNatClampNeg < vs.length) (hv : Value.long x = v) (hd : decode c.code pc = .ok (.lastore, 1)) (hp : pc + 1 = pc')
    (k : ∀ T' h', OPn p l e R s m args below meth c Z a0 EL n0 W0 own T' h' Ow cells slots → Wr h h' a j.toNatClampNeg v → OArr Z h' a .long (vs.set j.toNatClampNeg v) → OG p e below m Pq T' pc' L S) : OG p e below m Pq T pc L (.long x :: .int j :: .ref a :: S) := by
  subst hp hv
  obtain ⟨cl, Ar, e1, e2⟩ := id A
  exact P.wr ha (fun locs X hZ hown eT hx => stJ X hx hZ eT Ar (by rw [e1]; exact o_in hj hlt) (g := mkF m pc L (.long x :: .int j :: .ref a :: S)) rfl rfl hd) fun T' h' P' W' => k T' h' P' W' (A.set W' rfl)
theorem o_castore (P : OPn p l e R s m args below meth c Z a0 EL n0 W0 own T h Ow cells slots) {a : Addr} {vs : List Value} {j : Int32} {x : Int32} {v : Value} (A : OArr Z h a .char vs) (ha : a ∈ Ow) (hj : ¬ j < 0) (hlt : j.toNatClampNeg < vs.length) (hv : Value.int (nar .char x) = v) (hd : decode c.code pc = .ok (.castore, 1)) (hp : pc + 1 = pc')
    (k : ∀ T' h', OPn p l e R s m args below meth c Z a0 EL n0 W0 own T' h' Ow cells slots → Wr h h' a j.toNatClampNeg v → OArr Z h' a .char (vs.set j.toNatClampNeg v) → OG p e below m Pq T' pc' L S) : OG p e below m Pq T pc L (.int x :: .int j :: .ref a :: S) := by
  subst hp hv
  obtain ⟨cl, Ar, e1, e2⟩ := id A
  exact P.wr ha (fun locs X hZ hown eT hx => stC X hx hZ eT Ar (by rw [e1]; exact o_in hj hlt) (g := mkF m pc L (.int x :: .int j :: .ref a :: S)) rfl rfl hd) fun T' h' P' W' => k T' h' P' W' (A.set W' (fits_nar_char _))
theorem o_bastore (P : OPn p l e R s m args below meth c Z a0 EL n0 W0 own T h Ow cells slots) {a : Addr} {vs : List Value} {j : Int32} {x : Int32} {v : Value} (A : OArr Z h a .byte vs) (ha : a ∈ Ow) (hj : ¬ j < 0) (hlt : j.toNatClampNeg < vs.length) (hv : Value.int (nar .byte x) = v) (hd : decode c.code pc = .ok (.bastore, 1)) (hp : pc + 1 = pc')
    (k : ∀ T' h', OPn p l e R s m args below meth c Z a0 EL n0 W0 own T' h' Ow cells slots → Wr h h' a j.toNatClampNeg v → OArr Z h' a .byte (vs.set j.toNatClampNeg v) → OG p e below m Pq T' pc' L S) : OG p e below m Pq T pc L (.int x :: .int j :: .ref a :: S) := by
  subst hp hv
  obtain ⟨cl, Ar, e1, e2⟩ := id A
  exact P.wr ha (fun locs X hZ hown eT hx => stB X hx hZ eT Ar (by rw [e1]; exact o_in hj hlt) (g := mkF m pc L (.int x :: .int j :: .ref a :: S)) rfl rfl hd) fun T' h' P' W' => k T' h' P' W' (A.set W' (fits_nar_byte _))
theorem o_zastore (P : OPn p l e R s m args below meth c Z a0 EL n0 W0 own T h Ow cells slots) {a : Addr} {vs : List Value} {j : Int32} {x : Int32} {v : Value} (A : OArr Z h a .boolean vs) (ha : a ∈ Ow) (hj : ¬ j < 0) (hlt : j.toNatClampNeg < vs.length) (hv : Value.int (nar .boolean x) = v) (hd : decode c.code pc = .ok (.bastore, 1)) (hp : pc + 1 = pc')
    (k : ∀ T' h', OPn p l e R s m args below meth c Z a0 EL n0 W0 own T' h' Ow cells slots → Wr h h' a j.toNatClampNeg v → OArr Z h' a .boolean (vs.set j.toNatClampNeg v) → OG p e below m Pq T' pc' L S) : OG p e below m Pq T pc L (.int x :: .int j :: .ref a :: S) := by
  subst hp hv
  obtain ⟨cl, Ar, e1, e2⟩ := id A
  exact P.wr ha (fun locs X hZ hown eT hx => stZ X hx hZ eT Ar (by rw [e1]; exact o_in hj hlt) (g := mkF m pc L (.int x :: .int j :: .ref a :: S)) rfl rfl hd) fun T' h' P' W' => k T' h' P' W' (A.set W' (fits_nar_bool _))
theorem o_dastore (P : OPn p l e R s m args below meth c Z a0 EL n0 W0 own T h Ow cells slots) {a : Addr} {vs : List Value} {j : Int32} {x : UInt64} {v : Value} (A : OArr Z h a .double vs) (ha : a ∈ Ow) (hj : ¬ j < 0) (hlt : j.toNatClampNeg < vs.length) (hv : Value.double x = v) (hd : decode c.code pc = .ok (.dastore, 1)) (hp : pc + 1 = pc')
    (k : ∀ T' h', OPn p l e R s m args below meth c Z a0 EL n0 W0 own T' h' Ow cells slots → Wr h h' a j.toNatClampNeg v → OArr Z h' a .double (vs.set j.toNatClampNeg v) → OG p e below m Pq T' pc' L S) : OG p e below m Pq T pc L (.double x :: .int j :: .ref a :: S) := by
  subst hp hv
  obtain ⟨cl, Ar, e1, e2⟩ := id A
  exact P.wr ha (fun locs X hZ hown eT hx => stD X hx hZ eT Ar (by rw [e1]; exact o_in hj hlt) (g := mkF m pc L (.double x :: .int j :: .ref a :: S)) rfl rfl hd) fun T' h' P' W' => k T' h' P' W' (A.set W' rfl)
theorem o_aastore (P : OPn p l e R s m args below meth c Z a0 EL n0 W0 own T h Ow cells slots) {a : Addr} {ty : FieldType} {vs : List Value} {j : Int32} {v : Value} (A : OArr Z h a ty vs) (ha : a ∈ Ow) (hty : ty.isReference = true) (F : Sto Z h a v) (hfit : fits ty v = true) (hj : ¬ j < 0) (hlt : j.toNatClampNeg < vs.length) (hd : decode c.code pc = .ok (.aastore, 1)) (hp : pc + 1 = pc')
    (k : ∀ T' h', OPn p l e R s m args below meth c Z a0 EL n0 W0 own T' h' Ow cells slots → Wr h h' a j.toNatClampNeg v → OArr Z h' a ty (vs.set j.toNatClampNeg v) → OG p e below m Pq T' pc' L S) : OG p e below m Pq T pc L (v :: .int j :: .ref a :: S) := by
  subst hp
  obtain ⟨cl, Ar, e1, e2⟩ := id A
  exact P.wr ha (fun locs X hZ hown eT hx => stR X hx hZ eT Ar (by rw [e1]; exact o_in hj hlt) hty F (g := mkF m pc L (v :: .int j :: .ref a :: S)) rfl rfl hd) fun T' h' P' W' => k T' h' P' W' (A.set W' hfit)
theorem o_cast (P : OPn p l e R s m args below meth c Z a0 EL n0 W0 own T h Ow cells slots) {K : String} {index : Nat} {a : Addr} (w : (Jvm.Cond.classLink own index K).before a0 Z = true) (F : Ins Z h a K true) (hd : decode c.code pc = .ok (.checkcast index, 3)) (hp : pc + 3 = pc') (k : ∀ T', OPn p l e R s m args below meth c Z a0 EL n0 W0 own T' h Ow cells slots → OG p e below m Pq T' pc' L (.ref a :: S)) : OG p e below m Pq T pc L (.ref a :: S) := by
  subst hp
  exact P.tab (fun locs X hZ hown eT hx => castY X hx hZ hown w eT F (g := mkF m pc L (.ref a :: S)) rfl rfl hd) k
theorem o_instY (P : OPn p l e R s m args below meth c Z a0 EL n0 W0 own T h Ow cells slots) {K : String} {index : Nat} {a : Addr} (w : (Jvm.Cond.classLink own index K).before a0 Z = true) (F : Ins Z h a K true) (hd : decode c.code pc = .ok (.instanceof index, 3)) (hp : pc + 3 = pc') (k : ∀ T', OPn p l e R s m args below meth c Z a0 EL n0 W0 own T' h Ow cells slots → OG p e below m Pq T' pc' L (.int 1 :: S)) : OG p e below m Pq T pc L (.ref a :: S) := by
  subst hp
  exact P.tab (fun locs X hZ hown eT hx => instY X hx hZ hown w eT F (g := mkF m pc L (.ref a :: S)) rfl rfl hd) k
theorem o_instN (P : OPn p l e R s m args below meth c Z a0 EL n0 W0 own T h Ow cells slots) {K C : String} {index : Nat} {a : Addr} (w : (Jvm.Cond.classLink own index K).before a0 Z = true) (E : Exa Z h a C) (F : ∃ c t, Z.vm.findClass C = some c ∧ Z.vm.findClass K = some t ∧ Z.vm.assignable c t = false) (hd : decode c.code pc = .ok (.instanceof index, 3)) (hp : pc + 3 = pc') (k : ∀ T', OPn p l e R s m args below meth c Z a0 EL n0 W0 own T' h Ow cells slots → OG p e below m Pq T' pc' L (.int 0 :: S)) : OG p e below m Pq T pc L (.ref a :: S) := by
  subst hp
  exact P.tab (fun locs X hZ hown eT hx => instNo X hx hZ hown w eT E F (g := mkF m pc L (.ref a :: S)) rfl rfl hd) k
theorem o_castNull (P : OPn p l e R s m args below meth c Z a0 EL n0 W0 own T h Ow cells slots) {index : Nat} (hd : decode c.code pc = .ok (.checkcast index, 3)) (hp : pc + 3 = pc') (k : OG p e below m Pq T pc' L (.null :: S)) : OG p e below m Pq T pc L (.null :: S) := by
  subst hp
  obtain ⟨locs, X, hx, -⟩ := P
  exact OG.st (fun t q => X.checkcastNull hx (g := mkF m pc L (.null :: S)) rfl rfl hd t q) k
theorem o_instNull (P : OPn p l e R s m args below meth c Z a0 EL n0 W0 own T h Ow cells slots) {index : Nat} (hd : decode c.code pc = .ok (.instanceof index, 3)) (hp : pc + 3 = pc') (k : OG p e below m Pq T pc' L (.int 0 :: S)) : OG p e below m Pq T pc L (.null :: S) := by
  subst hp
  obtain ⟨locs, X, hx, -⟩ := P
  exact OG.st (fun t q => X.instanceofNull hx (g := mkF m pc L (.null :: S)) rfl rfl hd t q) k
theorem o_ldcI (P : OPn p l e R s m args below meth c Z a0 EL n0 W0 own T h Ow cells slots) {index : Nat} {v : Int32} (w : (Jvm.Cond.constant own index v).before a0 Z = true) (hd : decode c.code pc = .ok (.ldc index, 2)) (hp : pc + 2 = pc') (k : OG p e below m Pq T pc' L (.int v :: S)) : OG p e below m Pq T pc L S := by
  subst hp
  obtain ⟨locs, X, hx, hlk, hS, hZ, hown, eT, r⟩ := P
  exact OG.st (fun t q => X.ldcInt hx hown (mvT (s := s.setVm T.vm) hZ w) (g := mkF m pc L S) rfl hd t q) k
theorem o_ldc2L (P : OPn p l e R s m args below meth c Z a0 EL n0 W0 own T h Ow cells slots) {index : Nat} {v : Int64} (w : (Jvm.Cond.constantLong own index v).before a0 Z = true) (hd : decode c.code pc = .ok (.ldc2_w index, 3)) (hp : pc + 3 = pc') (k : OG p e below m Pq T pc' L (.long v :: S)) : OG p e below m Pq T pc L S := by
  subst hp
  obtain ⟨locs, X, hx, hlk, hS, hZ, hown, eT, r⟩ := P
  exact OG.st (fun t q => X.ldc2Long hx hown (mvT (s := s.setVm T.vm) hZ w) (g := mkF m pc L S) rfl hd t q) k
/-- what is known of a String of known bytes (Latin-1) -/
def OStr (Z : State) (h : Heap) (a b : Addr) (vs : List Value) : Prop := OObj Z h a "java/lang/String" [("java/lang/String", "value", "[B", .ref b), ("java/lang/String", "coder", "B", .int 0)] ∧ OArr Z h b .byte vs
theorem OStr.keep {a b : Addr} {vs : List Value} {ws : List Addr} (F : OStr Z h a b vs) (K : Keep h h' ws) (q : a ∉ ws) (r : b ∉ ws) : OStr Z h' a b vs := ⟨F.1.keep K q, F.2.keep K r⟩
theorem o_ldcS (P : OPn p l e R s m args below meth c Z a0 EL n0 W0 own T h Ow cells slots) {index : Nat} {text : String} {vs : List Value} {n : Nat} (w : (Jvm.Cond.stringLink own index text).before a0 Z = true) (wS : ∀ a ∈ Bundle.stringAtoms, a.before a0 Z = true) (hmem : (own, index) ∈ EL)
    (lv : Laid Z a0 "java/lang/String" "java/lang/String" "value" "[B") (lc : Laid Z a0 "java/lang/String" "java/lang/String" "coder" "B")
    (ht : (∀ c ∈ text.toList, c.toNat < 256) ∧ text.toList.map (fun c => Value.int (Jvm.Lit.byteI c.toNat.toUInt16)) = vs) (z : Int32) (hz : ¬ z < 0) (hl : z.toNatClampNeg = vs.length) (hd : decode c.code pc = .ok (.ldc index, 2)) (hp : pc + 2 = pc') (hn : 4 * text.toList.length ≤ n) (hbig : n ≤ 536870912) (hc : cells + 2 ≤ R.cells) (hs : slots + (n + 4) ≤ R.slots)
    (k : ∀ T' h' a b, OPn p l e R s m args below meth c Z a0 EL n0 W0 own T' h' Ow (cells + 2) (slots + (n + 4)) → Keep h h' [] → OStr Z h' a b vs → (∀ x ∈ Ow, x ≠ a ∧ x ≠ b) → OG p e below m Pq T' pc' L (.ref a :: S)) : OG p e below m Pq T pc L S := by
  subst hp
  obtain ⟨locs, X, hx, hlk, hS, hZ, hown, eT, N, hEL, C, O, K, W⟩ := P
  obtain ⟨a, T', h', k1, b, kk, X', e', E', hS', hk', hZ', hown', E1, F1, F2, A1, -, -, C', -, hne, st⟩ := ldcCH X hx hZ hown w wS eT hS.1 (Nat.le_refl _) hEL hmem C.1 ht hz hl (g := mkF m pc L S) rfl hd hn hbig hc hs
  have W' : ∀ x ∈ Ow, OOwn Z EL n0 W0 s.heap.size T'.vm h' x := fun x hx => by
    obtain ⟨q1, q2, q3, q4⟩ := W x hx
    exact ⟨q1, Nat.lt_of_lt_of_le q2 E'.1, C'.safe q2 q3, q4⟩
  have hS2 : OSn EL s T'.vm h'.size := ⟨⟨hS'.1, hS'.2.mono hk'⟩, fun e => by rw [e] at hmem; cases hmem⟩
  refine OG.st st (k T' h' a b ⟨locs, X', hx, hlk, hS2, hZ', hown', e', N, hEL, C.trans C', O.ext E', K.ext E', W'⟩ ((Keep.refl h []).ext E') ⟨⟨E1, fun f hf => ?_, fun i j f g hij hi hj => ?_⟩, OArr.ofArv A1 (by rw [hl])⟩ fun x hx => hne x (W' x hx).2.2.1)
  · rcases List.mem_cons.mp hf with rfl | hf
    · exact F2
    · rcases List.mem_cons.mp hf with rfl | hf
      · exact F1
      · cases hf
  · have s1 := slot_ne lv lc (t := .array .byte) (t' := .byte) (by decide) (by decide) (by decide)
    match i, j, hi, hj with
    | 0, 0, _, _ => exact absurd rfl hij
    | 1, 1, _, _ => exact absurd rfl hij
    | 0, 1, hi, hj => cases hi; cases hj; exact s1
    | 1, 0, hi, hj => cases hi; cases hj; exact s1.symm
theorem o_mvMN {Z s : State} {a0 args : Array Value} {own host : String} {y : MethodName} {index : Nat} (hZ : Z.Warmed39 s.vm) (w : (Jvm.Cond.methodLinkNest own index y host).before a0 Z = true) : (Jvm.Cond.methodLinkNest own index y host).before args s = true := (Cond.methodLinkNest_wide hZ w :)
theorem o_mvF {Z s : State} {a0 args : Array Value} {x : MethodName} (hZ : Z.Warmed39 s.vm) (w2 : (Jvm.Cond.declares x).before a0 Z = true) (w : (Jvm.Cond.interfaceMethod x.cls x.cls x.name x.desc).before a0 Z = true) (hy : x.cls ≠ "java/lang/invoke/MethodHandle" ∧ x.cls ≠ "java/lang/invoke/VarHandle") : (Jvm.Cond.interfaceMethod x.cls x.cls x.name x.desc).before args s = true := by
  obtain ⟨r0, r, hn, -⟩ := Cond.declares_spec w2
  have q := Cond.interfaceMethod_setVm (args := a0) (s := Z) (vm' := s.vm) hZ.alike (ref := x.cls) (name := x.name) (desc := x.desc) hn hy
  exact (q.trans w :)
theorem o_callS (P : OPn p l e R s m args below meth c Z a0 EL n0 W0 own T h Ow cells slots) {y : MethodName} {bytes : ByteArray} {maxL : Nat} {ret : Option FieldType} {rm : Room} {as' : Array Value} {Sf : List Addr} {Q : Option Value → Vm → Heap → Prop} {index W : Nat} (w1 : (Jvm.Cond.methodLink own index y).before a0 Z = true) (w2 : (Jvm.Cond.static y).before a0 Z = true) (w3 : (Jvm.Cond.initialized y.cls).before a0 Z = true) (w4 : (Jvm.Cond.code y bytes maxL ret).before a0 Z = true) (hy : y.cls ≠ "java/lang/invoke/MethodHandle" ∧ y.cls ≠ "java/lang/invoke/VarHandle") (hM : OCt l Z a0 EL n0 y bytes maxL ret rm [] as' h Sf Q) (hsf : ∀ x ∈ Sf, x ∈ Ow) (hml : L.size = c.maxLocals) (hf : rm.frames + 1 ≤ R.frames) (hl : W + (maxL + 11) + rm.locals ≤ R.locals) {argsL rest : List Value} (hlen : ∀ sig, parseMethodDescriptor y.desc = some sig → argsL.length = sig.parameters.length) (hst : S = argsL.reverse ++ rest) (has : argsL.toArray = as') (hW : (rest.map fun v => v.category).sum ≤ W) (hd : decode c.code pc = .ok (.invokestatic index, 3)) (hp : pc + 3 = pc') (hc : cells + rm.cells ≤ R.cells) (hs : slots + rm.slots ≤ R.slots)
    (k : ∀ T' h' v, OPn p l e R s m args below meth c Z a0 EL n0 W0 own T' h' Ow (cells + rm.cells) (slots + rm.slots) → Keep h h' Sf → Q v T'.vm h' → OG p e below m Pq T' pc' L (v.toList ++ rest)) : OG p e below m Pq T pc L S := by
  subst hp
  obtain ⟨locs, X, hx, hlk, hS, hZ, hown, eT, N, hEL, C, O, K, W'⟩ := P
  have hb := OCt.back (p := p) (e := e) (below := below) (s := s) (args := args) (T := T) (len := 3) (W := W) (R := R) O hEL (fun x hx => ⟨(W' x (hsf x hx)).1, (W' x (hsf x hx)).2.1, (W' x (hsf x hx)).2.2.1⟩) hM hZ w4 w3 hf hl C.1
  obtain ⟨v, vm₁, B, hW1, X', hSi, hle, hq, st⟩ := callSS X hx (y := y) hown (mvT (s := s.setVm T.vm) hZ w1) (mvT (s := s.setVm T.vm) hZ w2) (mvT (s := s.setVm T.vm) hZ w3) (mvT (s := s.setVm T.vm) hZ w4) hy hb (g := mkF m pc L S) rfl hml (argsL := argsL) (rest := rest) hlen hst (by show 2 * 0 + _ ≤ _; omega) hd (fun _ _ => ⟨has, eT, hc, hs⟩)
  obtain ⟨P', K', q⟩ := OPn.behind (y := y) hx hlk hS hZ hown eT N hEL C O K W' hsf X' hSi hle hq
  exact OG.st (fun t r => st.trans r) (k _ _ v P' K' q)
theorem o_callI (P : OPn p l e R s m args below meth c Z a0 EL n0 W0 own T h Ow cells slots) {y : MethodName} {bytes : ByteArray} {maxL : Nat} {rm : Room} {as' : Array Value} {Sf : List Addr} {Q : Option Value → Vm → Heap → Prop} {index W : Nat} {a : Addr} (hy1 : y.name = "<init>") (w1 : (Jvm.Cond.methodLink own index y).before a0 Z = true) (w2 : (Jvm.Cond.instanceMethod y).before a0 Z = true) (w3 : (Jvm.Cond.initialized y.cls).before a0 Z = true) (w4 : (Jvm.Cond.code y bytes maxL none).before a0 Z = true) (hy : y.cls ≠ "java/lang/invoke/MethodHandle" ∧ y.cls ≠ "java/lang/invoke/VarHandle") (hM : OCt l Z a0 EL n0 y bytes maxL none rm [] as' h Sf Q) (hsf : ∀ x ∈ Sf, x ∈ Ow) (hml : L.size = c.maxLocals) (hf : rm.frames + 1 ≤ R.frames) (hl : W + (maxL + 11) + rm.locals ≤ R.locals) {argsL rest : List Value} (hlen : ∀ sig, parseMethodDescriptor y.desc = some sig → argsL.length = sig.parameters.length) (hst : S = argsL.reverse ++ .ref a :: rest) (has : (.ref a :: argsL).toArray = as') (hW : (rest.map fun v => v.category).sum ≤ W) (hd : decode c.code pc = .ok (.invokespecial index, 3)) (hp : pc + 3 = pc') (hc : cells + rm.cells ≤ R.cells) (hs : slots + rm.slots ≤ R.slots)
    (k : ∀ T' h' v, OPn p l e R s m args below meth c Z a0 EL n0 W0 own T' h' Ow (cells + rm.cells) (slots + rm.slots) → Keep h h' Sf → Q v T'.vm h' → OG p e below m Pq T' pc' L (v.toList ++ rest)) : OG p e below m Pq T pc L S := by
  subst hp
  obtain ⟨locs, X, hx, hlk, hS, hZ, hown, eT, N, hEL, C, O, K, W'⟩ := P
  have hb := OCt.back (p := p) (e := e) (below := below) (s := s) (args := args) (T := T) (len := 3) (W := W) (R := R) O hEL (fun x hx => ⟨(W' x (hsf x hx)).1, (W' x (hsf x hx)).2.1, (W' x (hsf x hx)).2.2.1⟩) hM hZ w4 w3 hf hl C.1
  obtain ⟨v, vm₁, B, hW1, X', hSi, hle, hq, st⟩ := X.specialBackS hx (y := y) hy1 hown (mvT (s := s.setVm T.vm) hZ w1) (mvT (s := s.setVm T.vm) hZ w2) (mvT (s := s.setVm T.vm) hZ w4) hy hb (g := mkF m pc L S) rfl hml (Steps.refl _) (a := a) (argsL := argsL) (rest := rest) hlen hst (by show 2 * 0 + _ ≤ _; omega) hd (fun _ _ => ⟨has, eT, hc, hs⟩)
  obtain ⟨P', K', q⟩ := OPn.behind (y := y) hx hlk hS hZ hown eT N hEL C O K W' hsf X' hSi hle hq
  exact OG.st (fun t r => st.trans r) (k _ _ v P' K' q)
theorem o_callIN (P : OPn p l e R s m args below meth c Z a0 EL n0 W0 own T h Ow cells slots) {y : MethodName} {bytes : ByteArray} {maxL : Nat} {rm : Room} {as' : Array Value} {Sf : List Addr} {Q : Option Value → Vm → Heap → Prop} {index W : Nat} {a : Addr} {host : String} (hy1 : y.name = "<init>") (w1 : (Jvm.Cond.methodLinkNest own index y host).before a0 Z = true) (w2 : (Jvm.Cond.instanceMethod y).before a0 Z = true) (w3 : (Jvm.Cond.initialized y.cls).before a0 Z = true) (w4 : (Jvm.Cond.code y bytes maxL none).before a0 Z = true) (hy : y.cls ≠ "java/lang/invoke/MethodHandle" ∧ y.cls ≠ "java/lang/invoke/VarHandle") (hM : OCt l Z a0 EL n0 y bytes maxL none rm [] as' h Sf Q) (hsf : ∀ x ∈ Sf, x ∈ Ow) (hml : L.size = c.maxLocals) (hf : rm.frames + 1 ≤ R.frames) (hl : W + (maxL + 11) + rm.locals ≤ R.locals) {argsL rest : List Value} (hlen : ∀ sig, parseMethodDescriptor y.desc = some sig → argsL.length = sig.parameters.length) (hst : S = argsL.reverse ++ .ref a :: rest) (has : (.ref a :: argsL).toArray = as') (hW : (rest.map fun v => v.category).sum ≤ W) (hd : decode c.code pc = .ok (.invokespecial index, 3)) (hp : pc + 3 = pc') (hc : cells + rm.cells ≤ R.cells) (hs : slots + rm.slots ≤ R.slots)
    (k : ∀ T' h' v, OPn p l e R s m args below meth c Z a0 EL n0 W0 own T' h' Ow (cells + rm.cells) (slots + rm.slots) → Keep h h' Sf → Q v T'.vm h' → OG p e below m Pq T' pc' L (v.toList ++ rest)) : OG p e below m Pq T pc L S := by
  subst hp
  obtain ⟨locs, X, hx, hlk, hS, hZ, hown, eT, N, hEL, C, O, K, W'⟩ := P
  have hb := OCt.back (p := p) (e := e) (below := below) (s := s) (args := args) (T := T) (len := 3) (W := W) (R := R) O hEL (fun x hx => ⟨(W' x (hsf x hx)).1, (W' x (hsf x hx)).2.1, (W' x (hsf x hx)).2.2.1⟩) hM hZ w4 w3 hf hl C.1
  obtain ⟨v, vm₁, B, hW1, X', hSi, hle, hq, st⟩ := X.specialBackNestS hx (y := y) hy1 hown (o_mvMN (s := s.setVm T.vm) hZ w1) (mvT (s := s.setVm T.vm) hZ w2) (mvT (s := s.setVm T.vm) hZ w4) hy hb (g := mkF m pc L S) rfl hml (Steps.refl _) (a := a) (argsL := argsL) (rest := rest) hlen hst (by show 2 * 0 + _ ≤ _; omega) hd (fun _ _ => ⟨has, eT, hc, hs⟩)
  obtain ⟨P', K', q⟩ := OPn.behind (y := y) hx hlk hS hZ hown eT N hEL C O K W' hsf X' hSi hle hq
  exact OG.st (fun t r => st.trans r) (k _ _ v P' K' q)
theorem o_callV (P : OPn p l e R s m args below meth c Z a0 EL n0 W0 own T h Ow cells slots) {y : MethodName} {bytes : ByteArray} {maxL : Nat} {ret : Option FieldType} {rm : Room} {as' : Array Value} {Sf : List Addr} {Q : Option Value → Vm → Heap → Prop} {index W : Nat} {x : MethodName} {a : Addr} {Cr : String} (w1 : (Jvm.Cond.methodLink own index x).before a0 Z = true) (w2 : (Jvm.Cond.declares x).before a0 Z = true) (nf : ∀ U : State, Z.Warmed39 U.vm → NotFace U x) (w5 : (Jvm.Cond.selects Cr x y).before a0 Z = true) (w6 : (Jvm.Cond.instanceMethod y).before a0 Z = true) (w3 : (Jvm.Cond.initialized y.cls).before a0 Z = true) (w4 : (Jvm.Cond.code y bytes maxL ret).before a0 Z = true) (hy : x.cls ≠ "java/lang/invoke/MethodHandle" ∧ x.cls ≠ "java/lang/invoke/VarHandle") (Er : Exa Z h a Cr) (hM : OCt l Z a0 EL n0 y bytes maxL ret rm [] as' h Sf Q) (hsf : ∀ x ∈ Sf, x ∈ Ow) (hml : L.size = c.maxLocals) (hf : rm.frames + 1 ≤ R.frames) (hl : W + (maxL + 11) + rm.locals ≤ R.locals) {argsL rest : List Value} (hlen : ∀ sig, parseMethodDescriptor x.desc = some sig → argsL.length = sig.parameters.length) (hst : S = argsL.reverse ++ .ref a :: rest) (has : (.ref a :: argsL).toArray = as') (hW : (rest.map fun v => v.category).sum ≤ W) (hd : decode c.code pc = .ok (.invokevirtual index, 3)) (hp : pc + 3 = pc') (hc : cells + rm.cells ≤ R.cells) (hs : slots + rm.slots ≤ R.slots)
    (k : ∀ T' h' v, OPn p l e R s m args below meth c Z a0 EL n0 W0 own T' h' Ow (cells + rm.cells) (slots + rm.slots) → Keep h h' Sf → Q v T'.vm h' → OG p e below m Pq T' pc' L (v.toList ++ rest)) : OG p e below m Pq T pc L S := by
  subst hp
  obtain ⟨locs, X, hx, hlk, hS, hZ, hown, eT, N, hEL, C, O, K, W'⟩ := P
  have hb := OCt.back (p := p) (e := e) (below := below) (s := s) (args := args) (T := T) (len := 3) (W := W) (R := R) O hEL (fun x hx => ⟨(W' x (hsf x hx)).1, (W' x (hsf x hx)).2.1, (W' x (hsf x hx)).2.2.1⟩) hM hZ w4 w3 hf hl C.1
  obtain ⟨cB, kB, q1, q2, q3⟩ := isOf (s := s.setVm T.vm) hZ eT Er
  obtain ⟨v, vm₁, B, hW1, X', hSi, hle, hq, st⟩ := X.virtualBackS hx (y := x) (z := y) hown (mvT (s := s.setVm T.vm) hZ w1) (mvT (s := s.setVm T.vm) hZ w2) (nf (s.setVm T.vm) hZ) (mvT (s := s.setVm T.vm) hZ w5) (mvT (s := s.setVm T.vm) hZ w6) hy hb q1 q3 (g := mkF m pc L S) rfl hml (Steps.refl _) (argsL := argsL) (rest := rest) hlen hst (by show 2 * 0 + _ ≤ _; omega) hd (fun _ _ => ⟨has, eT, hc, hs⟩)
  obtain ⟨P', K', q⟩ := OPn.behind (y := y) hx hlk hS hZ hown eT N hEL C O K W' hsf X' hSi hle hq
  exact OG.st (fun t r => st.trans r) (k _ _ v P' K' q)
theorem o_callF (P : OPn p l e R s m args below meth c Z a0 EL n0 W0 own T h Ow cells slots) {y : MethodName} {bytes : ByteArray} {maxL : Nat} {ret : Option FieldType} {rm : Room} {as' : Array Value} {Sf : List Addr} {Q : Option Value → Vm → Heap → Prop} {index W : Nat} {x : MethodName} {a : Addr} {Cr : String} {count : Nat} (w1 : (Jvm.Cond.methodLink own index x).before a0 Z = true) (w2 : (Jvm.Cond.declares x).before a0 Z = true) (w7 : (Jvm.Cond.interfaceMethod x.cls x.cls x.name x.desc).before a0 Z = true) (w5 : (Jvm.Cond.selects Cr x y).before a0 Z = true) (w6 : (Jvm.Cond.instanceMethod y).before a0 Z = true) (w8 : (Jvm.Cond.publicMethod y).before a0 Z = true) (w9 : (Jvm.Cond.unhidden Cr x.name x.desc).before a0 Z = true) (w10 : (Jvm.Cond.castable Cr x.cls).before a0 Z = true) (w3 : (Jvm.Cond.initialized y.cls).before a0 Z = true) (w4 : (Jvm.Cond.code y bytes maxL ret).before a0 Z = true) (hy : x.cls ≠ "java/lang/invoke/MethodHandle" ∧ x.cls ≠ "java/lang/invoke/VarHandle") (Er : Exa Z h a Cr) (hM : OCt l Z a0 EL n0 y bytes maxL ret rm [] as' h Sf Q) (hsf : ∀ x ∈ Sf, x ∈ Ow) (hml : L.size = c.maxLocals) (hf : rm.frames + 1 ≤ R.frames) (hl : W + (maxL + 11) + rm.locals ≤ R.locals) {argsL rest : List Value} (hlen : ∀ sig, parseMethodDescriptor x.desc = some sig → argsL.length = sig.parameters.length) (hst : S = argsL.reverse ++ .ref a :: rest) (has : (.ref a :: argsL).toArray = as') (hW : (rest.map fun v => v.category).sum ≤ W) (hd : decode c.code pc = .ok (.invokeinterface index count, 5)) (hp : pc + 5 = pc') (hc : cells + rm.cells ≤ R.cells) (hs : slots + rm.slots ≤ R.slots)
    (k : ∀ T' h' v, OPn p l e R s m args below meth c Z a0 EL n0 W0 own T' h' Ow (cells + rm.cells) (slots + rm.slots) → Keep h h' Sf → Q v T'.vm h' → OG p e below m Pq T' pc' L (v.toList ++ rest)) : OG p e below m Pq T pc L S := by
  subst hp
  obtain ⟨locs, X, hx, hlk, hS, hZ, hown, eT, N, hEL, C, O, K, W'⟩ := P
  have hb := OCt.back (p := p) (e := e) (below := below) (s := s) (args := args) (T := T) (len := 5) (W := W) (R := R) O hEL (fun x hx => ⟨(W' x (hsf x hx)).1, (W' x (hsf x hx)).2.1, (W' x (hsf x hx)).2.2.1⟩) hM hZ w4 w3 hf hl C.1
  obtain ⟨cB, kB, q1, q2, q3⟩ := isOf (s := s.setVm T.vm) hZ eT Er
  obtain ⟨v, vm₁, B, hW1, X', hSi, hle, hq, st⟩ := X.interfaceBackS hx (xi := x) (y := y) hown (mvT (s := s.setVm T.vm) hZ w1) (mvT (s := s.setVm T.vm) hZ w2) (o_mvF (s := s.setVm T.vm) hZ w2 w7 hy) (mvT (s := s.setVm T.vm) hZ w5) (mvT (s := s.setVm T.vm) hZ w6) (mvT (s := s.setVm T.vm) hZ w8) (mvT (s := s.setVm T.vm) hZ w9) (mvT (s := s.setVm T.vm) hZ w10) hy hb q1 q2 q3 (g := mkF m pc L S) rfl hml (Steps.refl _) (argsL := argsL) (rest := rest) hlen hst (by show 2 * 0 + _ ≤ _; omega) hd (fun _ _ => ⟨has, eT, hc, hs⟩)
  obtain ⟨P', K', q⟩ := OPn.behind (y := y) hx hlk hS hZ hown eT N hEL C O K W' hsf X' hSi hle hq
  exact OG.st (fun t r => st.trans r) (k _ _ v P' K' q)
theorem o_initO (P : OPn p l e R s m args below meth c Z a0 EL n0 W0 own T h Ow cells slots) {index W : Nat} {a : Addr} (w1 : (Jvm.Cond.methodLink own index Lib.objectInit).before a0 Z = true) (w2 : (Jvm.Cond.instanceMethod Lib.objectInit).before a0 Z = true) (w3 : (Jvm.Cond.code Lib.objectInit ⟨#[0xb1]⟩ 1 none).before a0 Z = true) (hml : L.size = c.maxLocals) (hf : 1 ≤ R.frames) (hW : (S.map fun v => v.category).sum ≤ W) (hl : W + 12 ≤ R.locals) (hd : decode c.code pc = .ok (.invokespecial index, 3)) (hp : pc + 3 = pc') (k : ∀ T', OPn p l e R s m args below meth c Z a0 EL n0 W0 own T' h Ow cells slots → OG p e below m Pq T' pc' L S) : OG p e below m Pq T pc L (.ref a :: S) := by
  subst hp
  exact P.tab (fun locs X hZ hown eT hx => initO X hx hZ hown w1 w2 w3 eT (g := mkF m pc L (.ref a :: S)) rfl hml rfl hd hf (by show 2 * 0 + _ ≤ _; omega) hl) k
theorem o_nfSel {x y : MethodName} {Cr : String} (hxy : x.cls = y.cls) (w : (Jvm.Cond.selects Cr x x).before a0 Z = true) : ∀ U : State, Z.Warmed39 U.vm → NotFace U x := fun U hU => notFace_of_selects (args := #[]) (mvT (s := U) hU w)
theorem o_nfSup {x : MethodName} {K : String} (w : (Jvm.Cond.superclass x.cls K).before a0 Z = true) : ∀ U : State, Z.Warmed39 U.vm → NotFace U x := fun U hU => nf_super (args := #[]) (mvT (s := U) hU w)
theorem o_nfTop {x : MethodName} (w : (Jvm.Cond.noSuperclass x.cls).before a0 Z = true) : ∀ U : State, Z.Warmed39 U.vm → NotFace U x := fun U hU => nf_top (args := #[]) (mvT (s := U) hU w)
theorem o_sf0 : ∀ x ∈ ([] : List Addr), x ∈ Ow := fun _ q => nomatch q
theorem o_sfS {x : Addr} {Sf : List Addr} (h1 : x ∈ Ow) (h2 : ∀ y ∈ Sf, y ∈ Ow) : ∀ y ∈ x :: Sf, y ∈ Ow := fun y q => (List.mem_cons.mp q).elim (fun e => e ▸ h1) (h2 y)
end OwnLayer
theorem o_catR (a : Addr) : (Value.ref a).category = 1 := rfl
theorem o_catN : Value.null.category = 1 := rfl
theorem o_catI (x : Int32) : (Value.int x).category = 1 := rfl
theorem o_catJ (x : Int64) : (Value.long x).category = 2 := rfl
theorem o_catD (x : UInt64) : (Value.double x).category = 2 := rfl
/-! numbers as indices; bytes of chars -/
theorem oi_nat {i : Nat} (h : i < 2147483648) : i.toInt32.toNatClampNeg = i := Int32.toNatClampNeg_ofNat_of_lt h
theorem oi_int {i : Nat} (h : i < 2147483648) : i.toInt32.toInt = i := Int32.toInt_ofNat_of_lt h
theorem oi_nn {i : Nat} (h : i < 2147483648) : ¬ i.toInt32 < 0 := by
  rw [Int32.lt_iff_toInt_lt, oi_int h]; have : (0 : Int32).toInt = 0 := rfl; omega
theorem oi_succ (i : Nat) : i.toInt32 + (1 : Int32) = (i + 1).toInt32 := (Int32.ofNat_add i 1).symm
theorem oi_lt {i j : Nat} (hi : i < 2147483648) (hj : j < 2147483648) : i.toInt32 < j.toInt32 ↔ i < j := by
  rw [Int32.lt_iff_toInt_lt, oi_int hi, oi_int hj]; omega
theorem oi_eq {i j : Nat} (hi : i < 2147483648) (hj : j < 2147483648) : i.toInt32 = j.toInt32 ↔ i = j := by
  constructor
  · intro h
    have := congrArg Int32.toInt h
    rw [oi_int hi, oi_int hj] at this; omega
  · rintro rfl; rfl
abbrev och (cs : List Int32) : List Value := cs.map fun c => .int c
abbrev obyte (c : Int32) : Int32 := c.toInt8.toInt32
/-- Latin-1 chars -/
def OLat (cs : List Int32) : Prop := ∀ c ∈ cs, ¬ c < 0 ∧ ¬ (255 : Int32) < c
theorem OLat.nil : OLat [] := fun _ q => nomatch q
theorem OLat.cons {c : Int32} {cs : List Int32} (h : ¬ c < 0 ∧ ¬ (255 : Int32) < c) (r : OLat cs) : OLat (c :: cs) := fun x hx => (List.mem_cons.mp hx).elim (fun e => e ▸ h) (r x)
theorem obyte_inj {c d : Int32} (hc : ¬ c < 0 ∧ ¬ (255 : Int32) < c) (hd : ¬ d < 0 ∧ ¬ (255 : Int32) < d) (h : obyte c = obyte d) : c = d := by
  have e := congrArg Int32.toInt h
  have q1 := c_i2b c; have q2 := c_i2b d
  obtain ⟨c1, c2⟩ := hc; obtain ⟨d1, d2⟩ := hd
  rw [Int32.lt_iff_toInt_lt] at c1 c2 d1 d2
  have z0 : (0 : Int32).toInt = 0 := rfl
  have z1 : (255 : Int32).toInt = 255 := rfl
  rw [z0] at c1 d1; rw [z1] at c2 d2
  apply Int32.toInt_inj.mp
  show c.toInt = d.toInt
  have e' : c.toInt8.toInt32.toInt = d.toInt8.toInt32.toInt := e
  omega
theorem obytes_inj : ∀ {cs ds : List Int32}, OLat cs → OLat ds → cs.map obyte = ds.map obyte → cs = ds
  | [], [], _, _, _ => rfl
  | [], _ :: _, _, _, h => by cases h
  | _ :: _, [], _, _, h => by cases h
  | c :: cs, d :: ds, hc, hd, h => by
    simp only [List.map_cons, List.cons.injEq] at h
    rw [obyte_inj (hc c (by simp)) (hd d (by simp)) h.1, obytes_inj (fun x hx => hc x (by simp [hx])) (fun x hx => hd x (by simp [hx])) h.2]
theorem och_get {cs : List Int32} {i : Nat} {c : Int32} (h : cs[i]? = some c) : (och cs)[i]? = some (.int c) := by simp [h]
theorem och_inj {us ws : List Int32} (h : och us = och ws) : us = ws := by
  have : us.map (fun c => Value.int c) = ws.map fun c => Value.int c := h
  exact (List.map_inj_right (fun a b e => Value.int.inj e)).mp this
theorem o_nar_char {c : Int32} (h : ¬ c < 0 ∧ ¬ (65535 : Int32) < c) : nar .char c = c := by
  obtain ⟨q1, q2, q3⟩ := c_i2c c
  obtain ⟨c1, c2⟩ := h
  rw [Int32.lt_iff_toInt_lt] at c1 c2
  have z0 : (0 : Int32).toInt = 0 := rfl
  have z1 : (65535 : Int32).toInt = 65535 := rfl
  rw [z0] at c1; rw [z1] at c2
  apply Int32.toInt_inj.mp
  show c.toUInt32.toUInt16.toUInt32.toInt32.toInt = c.toInt
  omega
/-- a mask of eight bits, as a char -/
theorem o_mask8 (y : Int32) : ¬ (y &&& (255 : Int32)).toUInt32.toUInt16.toUInt32.toInt32 < 0 ∧ ¬ (255 : Int32) < (y &&& (255 : Int32)).toUInt32.toUInt16.toUInt32.toInt32 := by
  obtain ⟨q1, q2, q3⟩ := c_i2c (y &&& (255 : Int32))
  have q4 := c_and y 255 (by decide)
  have z0 : (0 : Int32).toInt = 0 := rfl
  have z1 : (255 : Int32).toInt = 255 := rfl
  rw [z1] at q4
  rw [Int32.lt_iff_toInt_lt, Int32.lt_iff_toInt_lt, z0, z1]
  omega
theorem o_c16 {c : Int32} (h : ¬ c < 0 ∧ ¬ (255 : Int32) < c) : ¬ c < 0 ∧ ¬ (65535 : Int32) < c := by
  obtain ⟨h1, h2⟩ := h
  refine ⟨h1, fun q => h2 ?_⟩
  rw [Int32.lt_iff_toInt_lt] at q ⊢
  have z1 : (65535 : Int32).toInt = 65535 := rfl
  have z2 : (255 : Int32).toInt = 255 := rfl
  omega
theorem OObj.uniq {Z : State} {h : Heap} {a : Addr} {C O nm d : String} {fs gs : List (String × String × String × Value)} {v w : Value} (F : OObj Z h a C fs) (G : OObj Z h a C gs) (i j : Nat) (hi : fs[i]? = some (O, nm, d, v)) (hj : gs[j]? = some (O, nm, d, w)) : v = w := Classical.byContradiction fun q => (F.fld i hi).ne (G.fld j hj) q rfl
theorem OArr.uniq {Z : State} {h : Heap} {a : Addr} {ty : FieldType} {vs ws : List Value} (F : OArr Z h a ty vs) (G : OArr Z h a ty ws) : vs = ws := by
  obtain ⟨c, A, e, -⟩ := F
  have q := G.size A.1
  rw [e] at q
  simpa using q
theorem OStr.uniq {Z : State} {h : Heap} {a b b' : Addr} {us ws : List Int32} (F : OStr Z h a b (och us)) (G : OStr Z h a b' (och ws)) : us = ws := by
  have e := Value.ref.inj (F.1.uniq G.1 0 0 rfl rfl)
  subst e
  exact och_inj (F.2.uniq G.2)
theorem OObj.neArr {Z : State} {h : Heap} {a b : Addr} {C : String} {a0 : Array Value} {fs : List (String × String × String × Value)} {ty : FieldType} {vs : List Value} {k : Nat} (F : OObj Z h a C fs) (wi : (Jvm.Cond.instantiable C k).before a0 Z = true) (G : OArr Z h b ty vs) : a ≠ b := by
  obtain ⟨c, A, -⟩ := G
  exact ne_arr F.1 wi A
theorem OObj.neObj {Z : State} {h : Heap} {a b : Addr} {C C' : String} {fs gs : List (String × String × String × Value)} (F : OObj Z h a C fs) (G : OObj Z h b C' gs) (hn : C ≠ C') : a ≠ b := ne_exa F.1 G.1 hn
/-- a String reference that may be null -/
def OSv (Z : State) (h : Heap) (v : Value) (o : Option (List Int32)) : Prop := (v = .null ∧ o = none) ∨ ∃ (a b : Addr) (us : List Int32), v = .ref a ∧ o = some us ∧ OStr Z h a b (och us)
theorem OSv.isRef {Z : State} {h : Heap} {v : Value} {o : Option (List Int32)} (F : OSv Z h v o) : v.isRef = true := by
  rcases F with ⟨rfl, -⟩ | ⟨a, b, us, rfl, -⟩ <;> rfl
theorem OSv.cat {Z : State} {h : Heap} {v : Value} {o : Option (List Int32)} (F : OSv Z h v o) : v.category = 1 := by
  rcases F with ⟨rfl, -⟩ | ⟨a, b, us, rfl, -⟩ <;> rfl
theorem OSv.keep0 {Z : State} {h h' : Heap} {v : Value} {o : Option (List Int32)} (F : OSv Z h v o) (K : Keep h h' []) : OSv Z h' v o := by
  rcases F with F | ⟨a, b, us, e1, e2, F⟩
  · exact Or.inl F
  · exact Or.inr ⟨a, b, us, e1, e2, F.keep K nin0 nin0⟩
theorem OSv.keep1 {Z : State} {h h' : Heap} {v : Value} {o : Option (List Int32)} {c : Addr} {C : String} {a0 : Array Value} {fs : List (String × String × String × Value)} {k : Nat} (F : OSv Z h v o) (G : OObj Z h c C fs) (wi : (Jvm.Cond.instantiable C k).before a0 Z = true) (hC : C ≠ "java/lang/String") (K : Keep h h' [c]) : OSv Z h' v o := by
  rcases F with F | ⟨a, b, us, e1, e2, F⟩
  · exact Or.inl F
  · exact Or.inr ⟨a, b, us, e1, e2, F.keep K (ninS (Ne.symm (G.neObj F.1 hC)) nin0) (ninS (Ne.symm (G.neArr wi F.2)) nin0)⟩
theorem o_fitsRef {v : Value} {C : String} (h : v.isRef = true) : fits (.object C) v = true := by cases v <;> first | rfl | cases h
theorem o_store {l : Array Slot} {i : Nat} {v : Value} {o : Slot} {l' : Array Slot} (hold : l[i]? = some o) (ho : One o) (hv : v.category = 1) (e : l.setIfInBounds i (.val v) = l') : storeLocals l i v = some l' := e ▸ XS.store1 hold ho hv
/-- C is no K: C's superclass is the root; K is a class of objects -/
theorem o_ns1 {Z : State} {a0 : Array Value} {O C K : String} {n : Nat} (w0 : (Jvm.Cond.noSuperclass O).before a0 Z = true) (w : (Jvm.Cond.superclass C O).before a0 Z = true) (wi : (Jvm.Cond.instantiable K n).before a0 Z = true) (h1 : O ≠ K) (h2 : C ≠ K) : ∃ c t, Z.vm.findClass C = some c ∧ Z.vm.findClass K = some t ∧ Z.vm.assignable c t = false := by
  obtain ⟨c0, k0, a1, a2, a3, -, -⟩ := Cond.noSuperclass_spec w0
  obtain ⟨t, kt, g1, g2, g3, g4, -, -⟩ := Cond.instantiable_spec wi
  obtain ⟨c, b0⟩ := found_sup w
  obtain ⟨p, k, kp, b1, b2, b3, b4, b5, -, b7⟩ := Cond.superclass_spec b0 w
  cases b1.symm.trans a1
  have ne0 := ids_ne a1 g1 h1
  have ne1 := ids_ne b0 g1 h2
  have gI : kt.isInterface = false := by
    cases q : kt.isInterface
    · rfl
    · rw [q] at g4; cases g4
  have sub0 : ∀ fuel, Z.vm.isSubclassAux fuel c0 t = false := fun fuel => by
    cases fuel with
    | zero => rfl
    | succ f => simp [Vm.isSubclassAux, ne0, a2, a3]
  have sub : ∀ fuel, Z.vm.isSubclassAux fuel c t = false := fun fuel => by
    cases fuel with
    | zero => rfl
    | succ f => simp [Vm.isSubclassAux, ne1, b2, b4, sub0]
  refine ⟨c, t, b0, g1, ?_⟩
  show Z.vm.assignableAux (255 + 1) c t = false
  simp [Vm.assignableAux, ne1, b2, g2, b5, g3, gI, Vm.isSubclass, sub]
theorem o_nar_byte (c : Int32) : nar .byte (obyte c) = obyte c := by simp [nar, obyte]
theorem OObj.one {Z : State} {h : Heap} {a : Addr} {C O nm d : String} {v : Value} (E : Exa Z h a C) (F : Fld Z h a O nm d v) : OObj Z h a C [(O, nm, d, v)] := by
  refine ⟨E, fun f hf => ?_, fun i j f g hij hi hj => ?_⟩
  · rw [List.mem_singleton.mp hf]; exact F
  · have h1 := (List.getElem?_eq_some_iff.mp hi).1
    have h2 := (List.getElem?_eq_some_iff.mp hj).1
    simp at h1 h2; omega
theorem OObj.zero {Z : State} {h : Heap} {a : Addr} {C : String} (E : Exa Z h a C) : OObj Z h a C [] := ⟨E, fun f hf => (nomatch hf), fun i j f g hij hi hj => by simp at hi⟩
theorem OObj.ext {Z : State} {h h' : Heap} {a : Addr} {C : String} {fs : List (String × String × String × Value)} (F : OObj Z h a C fs) (E : Ext h h') : OObj Z h' a C fs := ⟨F.1.ext E, fun f hf => (F.2.1 f hf).ext E, F.2.2⟩
/-! from the case's words to facts at the start -/
section OStart
variable {Z : State} {args : Array Value} {t F : Term} {a : Addr} {cl : Cell} {ty : FieldType} {n : Int32} {vs : List Value}
theorem o_len (et : t.eval args Z none [] Z = some (.ref a)) (A : Arr Z Z.heap a cl ty) (h : (Jvm.Cond.eq (.length t) (.int n)).value args Z none Z [] = some true) : cl.slots.size < 2 ^ 31 ∧ cl.slots.size.toInt32 = n := by
  have e := eqv_i (Term.int_eval n) h
  have ha := A.fin (Vm.Alike.refl _)
  by_cases q : cl.slots.size < 2 ^ 31
  · rw [len_f et ha q] at e
    exact ⟨q, Value.int.inj (Option.some.inj e)⟩
  · simp [Term.eval, et, ha] at e
    omega
theorem o_fnull {C nm d : String} (et : t.eval args Z none [] Z = some (.ref a)) (h : (Jvm.Cond.eq (.field t C nm d) .null).value args Z none Z [] = some true) : Fld Z Z.heap a C nm d .null := Fld.start ((fld_at et).symm.trans (null_v h))
theorem o_eqr {X : Term} {y : Addr} (hF : F.eval args Z none [] Z = some (.ref y)) (h : (Jvm.Cond.eq X F).value args Z none Z [] = some true) : X.eval args Z none [] Z = some (.ref y) := by
  obtain ⟨x, y', e1, e2, k1, k2⟩ := cmp_v (Or.inl h)
  cases hF.symm.trans e2
  simp only [Cond.value, e1, hF] at h
  cases x <;> simp_all
theorem o_fexa {C nm d : String} {b : Addr} (et : t.eval args Z none [] Z = some (.ref a)) (eb : (Term.field t C nm d).eval args Z none [] Z = some (.ref b)) : Fld Z Z.heap a C nm d (.ref b) := Fld.start ((fld_at et).symm.trans eb)
theorem o_fint {C nm d : String} (et : t.eval args Z none [] Z = some (.ref a)) (h : (Jvm.Cond.eq (.field t C nm d) (.int n)).value args Z none Z [] = some true) : Fld Z Z.heap a C nm d (.int n) := Fld.start ((fld_at et).symm.trans (eqv_i (Term.int_eval n) h))
theorem o_flong {C nm d : String} {x : Int64} (et : t.eval args Z none [] Z = some (.ref a)) (h : (Jvm.Cond.eq (.field t C nm d) (.long x)).value args Z none Z [] = some true) : Fld Z Z.heap a C nm d (.long x) := Fld.start ((fld_at et).symm.trans (eqv_l (long_at x) h))
theorem o_slot {j : Int32} {v : Value} (et : t.eval args Z none [] Z = some (.ref a)) (A : Arr Z Z.heap a cl ty) (hj : ¬ j < 0) (e : (Term.elem t (.int j)).eval args Z none [] Z = some v) : cl.slots[j.toNatClampNeg]? = some v := (elem_f et (Term.int_eval j) (A.fin (Vm.Alike.refl _)) hj).symm.trans e
theorem OArr.start (hf : Fit Z) (A : Arr Z Z.heap a cl ty) (hl : cl.slots.size < 2 ^ 31 ∧ cl.slots.size.toInt32 = n) (hz : ¬ n < 0) (hn : n.toNatClampNeg = vs.length) (H : HasL cl 0 vs) : OArr Z Z.heap a ty vs := OArr.ofArv (dv := .null) (Arv.start hf A hl.1 hl.2 hz hn H) hn.symm
theorem OArr.ext {h h' : Heap} (F : OArr Z h a ty vs) (E : Ext h h') : OArr Z h' a ty vs := by obtain ⟨c, A, r⟩ := F; exact ⟨c, A.ext E, r⟩
theorem OObj.two {h : Heap} {C O nm d O' nm' d' : String} {a0 : Array Value} {v w : Value} {ty ty' : FieldType} (E : Exa Z h a C) (F : Fld Z h a O nm d v) (G : Fld Z h a O' nm' d' w) (L : Laid Z a0 C O nm d) (L' : Laid Z a0 C O' nm' d') (hn : nm ≠ nm') (ht : parseFieldDescriptor d = some ty) (ht' : parseFieldDescriptor d' = some ty') : OObj Z h a C [(O, nm, d, v), (O', nm', d', w)] := by
  have s1 := slot_ne L L' hn ht ht'
  refine ⟨E, fun f hf => ?_, fun i j f g hij hi hj => ?_⟩
  · rcases List.mem_cons.mp hf with rfl | hf
    · exact F
    · rw [List.mem_singleton.mp hf]; exact G
  · match i, j, hi, hj with
    | 0, 0, _, _ => exact absurd rfl hij
    | 1, 1, _, _ => exact absurd rfl hij
    | 0, 1, hi, hj => cases hi; cases hj; exact s1
    | 1, 0, hi, hj => cases hi; cases hj; exact s1.symm
end OStart
section OClone
variable {p : Program} {l : Launch} {e : Env} {R : Room} {s : State} {m : MethodId} {args : Array Value} {below : List Frame} {meth : Method} {c : Code} {T T' : State} {cells slots : Nat} {Z : State} {a0 : Array Value} {EL : List (String × Nat)} {n0 : Nat} {W0 : List Addr} {own : String} {h h' : Heap} {Ow : List Addr} {Pq : Outcome → State → Prop} {pc pc' : Nat} {L : Array Slot} {S : List Value}
theorem o_clone (P : OPn p l e R s m args below meth c Z a0 EL n0 W0 own T h Ow cells slots) {ad : String} {index cap W : Nat} {a : Addr} {ty : FieldType} {vs : List Value} (w1 : (Jvm.Cond.methodLink own index ⟨ad, "clone", "()Ljava/lang/Object;"⟩).before a0 Z = true) (w2 : (Jvm.Cond.sameMethod ad "java/lang/Object" "clone" "()Ljava/lang/Object;").before a0 Z = true) (w3 : (Jvm.Cond.native ⟨"java/lang/Object", "clone", "()Ljava/lang/Object;"⟩).before a0 Z = true) (w4 : (Jvm.Cond.instanceMethod ⟨"java/lang/Object", "clone", "()Ljava/lang/Object;"⟩).before a0 Z = true) (w5 : (Jvm.Cond.selects ad ⟨ad, "clone", "()Ljava/lang/Object;"⟩ ⟨"java/lang/Object", "clone", "()Ljava/lang/Object;"⟩).before a0 Z = true) (w6 : (Jvm.Cond.castable ad "java/lang/Cloneable").before a0 Z = true)
    (A : OArr Z h a ty vs) (E : Exa Z h a ad) (hml : L.size = c.maxLocals) (hd : decode c.code pc = .ok (.invokevirtual index, 3)) (hp : pc + 3 = pc') (hf : 1 ≤ R.frames) (hW : (S.map fun v => v.category).sum ≤ W) (hl : W + 14 ≤ R.locals) (hcap : vs.length ≤ cap) (hc : cells + 1 ≤ R.cells) (hs : slots + cap ≤ R.slots)
    (k : ∀ T' h' b, OPn p l e R s m args below meth c Z a0 EL n0 W0 own T' h' (b :: Ow) (cells + 1) (slots + cap) → Keep h h' [] → h.size ≤ b → OArr Z h' b ty vs → Exa Z h' b ad → OG p e below m Pq T' pc' L (.ref b :: S)) : OG p e below m Pq T pc L (.ref a :: S) := by
  subst hp
  obtain ⟨cl, Ar, e1, e2, e3⟩ := A
  have FC : FitC Z cl := fitC_of Ar fun i hi v hv => e3 v (by rw [e1] at hv; exact List.mem_of_getElem? (by simpa using hv))
  refine P.grow (G := fun h' b => OArr Z h' b ty vs ∧ Exa Z h' b ad) (fun locs X hZ hown eT hx => ?_) fun T' h' b P' K hb q => k T' h' b P' K hb q.1 q.2
  obtain ⟨T', h', X', e', E', A', B', st⟩ := cloneA X hx hZ hown w1 w2 w3 w4 w5 w6 eT Ar E FC (g := mkF m pc L (.ref a :: S)) rfl hml rfl hd hf (by show 2 * 0 + _ ≤ _; omega) hl (by rw [e1]; simpa using hcap) hc hs
  exact ⟨T', h', X', e', E', A'.lt, ⟨⟨_, A', e1, e2, e3⟩, B'⟩, st⟩
end OClone
section OwnLayer7
variable {p : Program} {l : Launch} {e : Env} {R : Room} {s : State} {m : MethodId} {args : Array Value} {below : List Frame} {meth : Method} {c : Code} {T T' : State} {cells slots cells' slots' : Nat} {Z : State} {a0 : Array Value} {EL : List (String × Nat)} {n0 : Nat} {W0 : List Addr} {own : String} {h h' : Heap} {Ow Ow' : List Addr} {Pq : Outcome → State → Prop} {pc pc' : Nat} {L L' : Array Slot} {S S' : List Value}
theorem o_pop2L (P : OPn p l e R s m args below meth c Z a0 EL n0 W0 own T h Ow cells slots) {x : Int64} (hd : decode c.code pc = .ok (.pop2, 1)) (hp : pc + 1 = pc') (k : OG p e below m Pq T pc' L S) : OG p e below m Pq T pc L (.long x :: S) := by
  subst hp
  have hx := P.ex; have X := P.here
  refine OG.st (fun t q => ?_) k
  have hm : (mkF m pc L (.long x :: S)).method = m := rfl
  have hd' : decode c.code (mkF m pc L (.long x :: S)).pc = .ok (.pop2, 1) := hd
  have X' : At T (mkF m pc L (.long x :: S)).method c below := X
  have e1 : (mkF m pc L (.long x :: S)).stack = .long x :: S := rfl
  have hc : (Value.long x).category = 2 := rfl
  jvm_step X' [hx, hd', Op.pop2.wp_sem, e1, hc]
  exact q
theorem o_tsIn (P : OPn p l e R s m args below meth c Z a0 EL n0 W0 own T h Ow cells slots) {k0 : Int32} {df low high : Int} {offs : Array Int} {len : Nat} (hd : decode c.code pc = .ok (.tableswitch df low high offs, len)) (hin : ¬ (k0.toInt < low ∨ k0.toInt > high)) {off : Int} (ho : offs[(k0.toInt - low).toNat]? = some off) (h0 : 0 ≤ (pc : Int) + off) (hp : ((pc : Int) + off).toNat = pc') (k : OG p e below m Pq T pc' L S) : OG p e below m Pq T pc L (.int k0 :: S) := by
  subst hp
  obtain ⟨locs, X, hx, -⟩ := P
  exact OG.st (fun t q => X.tableswitchIn hx (g := mkF m pc L (.int k0 :: S)) rfl rfl hd hin ho h0 t q) k
theorem o_tsOut (P : OPn p l e R s m args below meth c Z a0 EL n0 W0 own T h Ow cells slots) {k0 : Int32} {df low high : Int} {offs : Array Int} {len : Nat} (hd : decode c.code pc = .ok (.tableswitch df low high offs, len)) (hin : k0.toInt < low ∨ k0.toInt > high) (h0 : 0 ≤ (pc : Int) + df) (hp : ((pc : Int) + df).toNat = pc') (k : OG p e below m Pq T pc' L S) : OG p e below m Pq T pc L (.int k0 :: S) := by
  subst hp
  obtain ⟨locs, X, hx, -⟩ := P
  exact OG.st (fun t q => X.tableswitchOut hx (g := mkF m pc L (.int k0 :: S)) rfl rfl hd hin h0 t q) k
/-- C's Class object is made, and it is a -/
def OMir (Z : State) (C : String) (a : Addr) : Prop := ∃ (cC : ClassId) (kC : Class), Z.vm.findClass C = some cC ∧ Z.vm.classes[cC]? = some kC ∧ kC.mirror = some a
theorem OMir.eval {C : String} {a : Addr} {U : State} {as' : Array Value} (H : OMir Z C a) (hZ : Z.Warmed39 U.vm) : (Term.mirror C).eval as' U none [] U = some (.ref a) := by
  obtain ⟨cC, kC, h1, h2, h3⟩ := H
  obtain ⟨k', g1, g2⟩ := hZ.alike.2.2 _ _ h2
  have g3 : k'.mirror = some a := by first | (rw [g2]; exact h3) | (rw [g2.1]; exact h3) | (have := congrArg Class.mirror g2; simpa [h3] using this)
  have g4 : U.vm.findClass C = some cC := (hZ.alike.findClass C _).trans h1
  simp [Term.eval, g4, g1, g3]
theorem o_ldcMir (P : OPn p l e R s m args below meth c Z a0 EL n0 W0 own T h Ow cells slots) {C : String} {index : Nat} {a : Addr} (H : OMir Z C a) (w : (Jvm.Cond.classLink own index C).before a0 Z = true) (hd : decode c.code pc = .ok (.ldc index, 2)) (hp : pc + 2 = pc') (k : ∀ T', OPn p l e R s m args below meth c Z a0 EL n0 W0 own T' h Ow cells slots → OG p e below m Pq T' pc' L (.ref a :: S)) : OG p e below m Pq T pc L S := by
  subst hp
  refine P.tab (fun locs X hZ hown eT hx => ?_) k
  obtain ⟨vm', X', st⟩ := X.ldcMirror hx hown (mvT hZ w) (H.eval hZ) (g := mkF m pc L S) rfl hd
  exact ⟨_, X', eT, st⟩
theorem o_getCls (P : OPn p l e R s m args below meth c Z a0 EL n0 W0 own T h Ow cells slots) {C : String} {index W : Nat} {a b : Addr} (H : OMir Z C a) (E : Exa Z h b C) (w1 : (Jvm.Cond.methodLink own index Jvm.Stand.gcN).before a0 Z = true) (w2 : (Jvm.Cond.declares Jvm.Stand.gcN).before a0 Z = true) (hnf : ∀ U : State, Z.Warmed39 U.vm → NotFace U Jvm.Stand.gcN) (w3 : (Jvm.Cond.selects C Jvm.Stand.gcN Jvm.Stand.gcN).before a0 Z = true) (w4 : (Jvm.Cond.instanceMethod Jvm.Stand.gcN).before a0 Z = true) (w5 : (Jvm.Cond.native Jvm.Stand.gcN).before a0 Z = true) (hml : L.size = c.maxLocals) (hf : 1 ≤ R.frames) (hW : (S.map fun v => v.category).sum ≤ W) (hl : W + 14 ≤ R.locals) (hd : decode c.code pc = .ok (.invokevirtual index, 3)) (hp : pc + 3 = pc') (k : ∀ T', OPn p l e R s m args below meth c Z a0 EL n0 W0 own T' h Ow cells slots → OG p e below m Pq T' pc' L (.ref a :: S)) : OG p e below m Pq T pc L (.ref b :: S) := by
  subst hp
  refine P.tab (fun locs X hZ hown eT hx => ?_) k
  obtain ⟨cC, kC, h1, h2, h3⟩ := id H
  obtain ⟨cell, k0, e1, e2, e3, e4, -⟩ := E
  cases h1.symm.trans e2
  obtain ⟨k', g1, g2⟩ := hZ.alike.2.2 _ _ h2
  have g3 : k'.mirror = some a := by first | (rw [g2]; exact h3) | (rw [g2.1]; exact h3) | (have := congrArg Class.mirror g2; simpa [h3] using this)
  obtain ⟨vm', X', st⟩ := X.getClassOf hx hown (mvT hZ w1) (mvT hZ w2) (hnf _ hZ) (mvT hZ w3) (mvT hZ w4) (mvT hZ w5) ((hZ.alike.findClass C _).trans h1) (b := b) ⟨cell, by rw [eT]; exact e1, rfl, e4⟩ g1 g3 (g := mkF m pc L (.ref b :: S)) rfl hml (rest := S) rfl hd hf (by show 2 * 0 + _ + (nativeFrameWords "java/lang/Object" "getClass" 1 + 11) ≤ _; rw [show nativeFrameWords "java/lang/Object" "getClass" 1 = 3 from by decide]; omega)
  exact ⟨_, X', eT, st⟩
/-- an array of the class N (of C's objects) that takes every C -/
def OAr (Z : State) (h : Heap) (a : Addr) (C N : String) : Prop := Exa Z h a N ∧ ∃ cell : Cell, h[a]? = some cell ∧ Ovr Z cell.cls C
theorem o_anewarrE (P : OPn p l e R s m args below meth c Z a0 EL n0 W0 own T h Ow cells slots) {C N : String} {index : Nat} {n : Int32} {cap : Nat} (w1 : (Jvm.Cond.classLink own index C).before a0 Z = true) (w2 : (Jvm.Cond.arrayOver (.object C)).before a0 Z = true) (hN : "[" ++ (FieldType.object C).toString = N) (hd : decode c.code pc = .ok (.anewarray index, 3)) (hn : ¬ n < 0) (hcap : n.toNatClampNeg ≤ cap) (hb : cap * 8 ≤ 536870912) (hp : pc + 3 = pc') (hc : cells + 1 ≤ R.cells) (hl : slots + cap ≤ R.slots)
    (k : ∀ T' h' b, OPn p l e R s m args below meth c Z a0 EL n0 W0 own T' h' (b :: Ow) (cells + 1) (slots + cap) → Keep h h' [] → h.size ≤ b → OArr Z h' b (.object C) (List.replicate n.toNatClampNeg .null) → OAr Z h' b C N → OG p e below m Pq T' pc' L (.ref b :: S)) : OG p e below m Pq T pc L (.int n :: S) := by
  subst hp
  refine P.grow (G := fun h' b => OArr Z h' b (.object C) (List.replicate n.toNatClampNeg .null) ∧ OAr Z h' b C N) (fun locs X hZ hown eT hx => ?_) fun T' h' b P' K hb' q => k T' h' b P' K hb' q.1 q.2
  have w2' : (Jvm.Cond.arrayOver (.object C)).before args (s.setVm T.vm) = true := Cond.arrayOver_alike hZ.alike w2
  obtain ⟨vm₁, cA, kA, comp, -, h1, h2, h3, h4, X', st⟩ := X.anewarrayRefK hx hown (mv hZ w1) w2' (g := mkF m pc L (.int n :: S)) rfl hd rfl hn (by omega) hc (by omega)
  subst eT
  rw [hZ.alike.findClass] at h1
  obtain ⟨kZ, z1, -⟩ := Vm.findClass_spec h1
  obtain ⟨k', z2, z3⟩ := hZ.alike.2.2 _ _ z1
  cases h2.symm.trans z2
  have hk : kZ.kind = .array comp (.object C) := by rw [← h3, z3]
  have at' : (T.heap.push { cls := cA, slots := Array.replicate n.toNatClampNeg .null, vm := .none })[T.heap.size]? = some { cls := cA, slots := Array.replicate n.toNatClampNeg .null, vm := .none } := by simp
  refine ⟨_, _, X'.more (Nat.le_refl _) (by omega), rfl, ext_of fun a q => Array.getElem?_push_lt q |>.trans (Array.getElem?_eq_getElem q).symm, by show T.heap.size < (T.heap.push _).size; simp, ⟨⟨_, ⟨at', ⟨by simp, kZ, z1, comp, hk⟩, by simp⟩, by simp, by simpa using (back32 hn).2, fun v hv => ?_⟩, ⟨_, kZ, at', hN ▸ h1, z1, rfl, fun q => by rw [hk] at q; cases q⟩, _, at', kZ, comp, z1, hk, by rw [← hZ.alike.findClass]; exact h4⟩, st⟩
  rw [List.eq_of_mem_replicate hv]; rfl
theorem OAr.sto {a y : Addr} {C N : String} {ty : FieldType} {vs : List Value} (A : OArr Z h a ty vs) (O : OAr Z h a C N) (I : Ins Z h y C true) : Sto Z h a (.ref y) := by
  obtain ⟨cl, Ar, -⟩ := A
  obtain ⟨-, cell, h1, h2⟩ := O
  cases h1.symm.trans Ar.1
  exact Sto.of Ar h2 I
theorem OAr.keep {a : Addr} {C N : String} {ws : List Addr} (O : OAr Z h a C N) (K : Keep h h' ws) : OAr Z h' a C N := by
  obtain ⟨E, cell, h1, h2⟩ := O
  obtain ⟨c2, g1, g2, -⟩ := K.2.2 _ _ h1
  exact ⟨E.keep K, c2, g1, by rw [g2]; exact h2⟩
theorem OAr.wr {a b : Addr} {C N : String} {sl : Nat} {v : Value} (O : OAr Z h a C N) (W : Wr h h' b sl v) : OAr Z h' a C N := by
  obtain ⟨E, cell, h1, h2⟩ := O
  refine ⟨Exa.wr W E, ?_⟩
  obtain ⟨c2, g1, g2, -⟩ := (Keep.of_wr W).2.2 _ _ h1
  exact ⟨c2, g1, by rw [g2]; exact h2⟩
/-- a step that rewrites one own array -/
theorem OPn.wrA (P : OPn p l e R s m args below meth c Z a0 EL n0 W0 own T h Ow cells slots) {b : Addr} {G : Heap → Prop} (hb : b ∈ Ow) (f : ∀ locs, Stand p l e R (s.setVm T.vm) m args below meth c T locs cells slots → Z.Warmed39 (s.setVm T.vm).vm → (s.setVm T.vm).vm.findClass own = some m.cls → T.heap = h → p.tables.exec = Jvm.exec → Fr n0 locs → Old Z n0 h → n0 ≤ b → ∃ T' h' L2, Stand p l e R (s.setVm T.vm) m args below meth c T' L2 cells slots ∧ T'.heap = h' ∧ Fr n0 L2 ∧ Keep h h' [b] ∧ G h' ∧ ∀ target, Steps p.tables e below (T'.setTop (mkF m pc' L' S')) target → Steps p.tables e below (T.setTop (mkF m pc L S)) target)
    (k : ∀ T' h', OPn p l e R s m args below meth c Z a0 EL n0 W0 own T' h' Ow cells slots → Keep h h' [b] → G h' → OG p e below m Pq T' pc' L' S') : OG p e below m Pq T pc L S := by
  obtain ⟨locs, X, hx, hlk, hS, hZ, hown, eT, N, hEL, C, O, K, W⟩ := P
  obtain ⟨q1, q2, q3, q4⟩ := W b hb
  obtain ⟨T', h', L2, X', e', N', Kb, g, st⟩ := f locs X hZ hown eT hx N O q1
  have hs : ∀ x ∈ [b], Safe Z EL T.vm h x := fun x hx => by rw [List.mem_singleton.mp hx]; exact q3
  refine OG.st st (k T' h' (OPn.fin hx hlk hS hZ hown hEL X' e' Kb.1 N' (C.trans (CHr.keep Kb hs C.1)) (O.keep Kb fun x hx => by rw [List.mem_singleton.mp hx]; exact q1) (K.trans Kb fun x hx => by rw [List.mem_singleton.mp hx]; exact q4) fun x hx => ?_) Kb g)
  obtain ⟨r1, r2, r3, r4⟩ := W x hx
  exact ⟨r1, Nat.lt_of_lt_of_le r2 Kb.1, Safe.keep Kb hs C.1 r3, r4⟩
theorem o_lenI {n : Nat} (q : n < 2147483648) : ¬ (n.toInt32 < 0) ∧ n.toInt32.toNatClampNeg = n := by
  have e1 : n.toInt32.toInt = n := len_toInt (by simpa using q)
  refine ⟨?_, by simp only [Int32.toNatClampNeg, e1]; rfl⟩
  rw [Int32.lt_iff_toInt_lt, e1]; show ¬ (n : Int) < 0; omega
/-- System.arraycopy into an own array -/
theorem o_cpA (P : OPn p l e R s m args below meth c Z a0 EL n0 W0 own T h Ow cells slots) {index W : Nat} {a b : Addr} {ty ty' : FieldType} {vs vd us : List Value} {sp dp nn : Int32} (w1 : (Jvm.Cond.methodLink own index Jvm.Stand.acN).before a0 Z = true) (w2 : (Jvm.Cond.native Jvm.Stand.acN).before a0 Z = true) (w3 : (Jvm.Cond.static Jvm.Stand.acN).before a0 Z = true) (w4 : (Jvm.Cond.initialized "java/lang/System").before a0 Z = true) (A : OArr Z h a ty vs) (B : OArr Z h b ty' vd) (hb : b ∈ Ow) (hty : (ty = ty' ∧ refKind ty = false) ∨ (refKind ty = true ∧ refKind ty' = true ∧ StoL Z h b us)) (h1 : ¬ sp < 0) (h2 : ¬ dp < 0) (h3 : ¬ nn < 0) (h4 : sp.toNatClampNeg + nn.toNatClampNeg ≤ vs.length) (h5 : dp.toNatClampNeg + nn.toNatClampNeg ≤ vd.length) (hus : us = (vs.drop sp.toNatClampNeg).take nn.toNatClampNeg)
    (hml : L.size = c.maxLocals) (hf : 1 ≤ R.frames) (hW : (S.map fun v => v.category).sum ≤ W) (hl : W + (nativeFrameWords "java/lang/System" "arraycopy" 5 + 11) ≤ R.locals) (hd : decode c.code pc = .ok (.invokestatic index, 3)) (hp : pc + 3 = pc')
    (k : ∀ T' h', OPn p l e R s m args below meth c Z a0 EL n0 W0 own T' h' Ow cells slots → Keep h h' [b] → OArr Z h' b ty' (vd.take dp.toNatClampNeg ++ us ++ vd.drop (dp.toNatClampNeg + nn.toNatClampNeg)) → OG p e below m Pq T' pc' L S) : OG p e below m Pq T pc L (.int nn :: .int dp :: .ref b :: .int sp :: .ref a :: S) := by
  subst hp
  have la := A.len; have lb := B.len
  have za : ¬ (vs.length.toInt32 < 0) ∧ vs.length.toInt32.toNatClampNeg = vs.length := o_lenI la
  have zb : ¬ (vd.length.toInt32 < 0) ∧ vd.length.toInt32.toNatClampNeg = vd.length := o_lenI lb
  obtain ⟨ka, A'⟩ := A.toArv (dv := .null) za.1 za.2
  obtain ⟨kb, B'⟩ := B.toArv (dv := .null) zb.1 zb.2
  have hus' : us = (List.range nn.toNatClampNeg).map fun i => vs.getD (sp.toNatClampNeg + i) .null := by
    rw [hus]; apply List.ext_getElem?; intro i
    by_cases q : i < nn.toNatClampNeg
    · have q2 : sp.toNatClampNeg + i < vs.length := by omega
      simp [List.getElem?_take_of_lt q, List.getElem?_drop, q, List.getD_eq_getElem?_getD, List.getElem?_eq_getElem q2]
    · rw [List.getElem?_eq_none (by simp; omega), List.getElem?_eq_none (by simp; omega)]
  refine P.wrA hb (fun locs X hZ hown eT hx N O ge => ?_) fun T' h' P' K B2 => k T' h' P' K B2
  obtain ⟨T', h', L2, X', e', N', K', B2, st⟩ := cpA X hx hZ hown w1 w2 w3 w4 eT A' B' hty h1 h2 h3 (by rw [za.2]; exact h4) (by rw [zb.2]; exact h5) hus' h5 N ge (g := mkF m pc L (.int nn :: .int dp :: .ref b :: .int sp :: .ref a :: S)) rfl hml rfl hd hf (by show 2 * 0 + _ ≤ _; omega) hl
  refine ⟨T', h', L2, X', e', N', K', OArr.ofArv B2 ?_, st⟩
  rw [zb.2, hus]; simp; omega
/-- an array that a callee has made is owned -/
theorem OPn.moreA (P : OPn p l e R s m args below meth c Z a0 EL n0 W0 own T h Ow cells slots) {x : Addr} {ty : FieldType} {vs : List Value} (A : OArr Z h x ty vs) (ht : ty ≠ .byte) (h1 : n0 ≤ x) (h2 : s.heap.size ≤ x) : OPn p l e R s m args below meth c Z a0 EL n0 W0 own T h (x :: Ow) cells slots := by
  have lt := A.lt
  obtain ⟨cl, Ar, -⟩ := A
  exact P.more ⟨h1, lt, Safe.arr P.warm.alike Ar ht⟩ h2
theorem OPn.moreO (P : OPn p l e R s m args below meth c Z a0 EL n0 W0 own T h Ow cells slots) {x : Addr} {C : String} (E : Exa Z h x C) (g1 : C ≠ "java/lang/String") (g2 : C ≠ "[B") (h1 : n0 ≤ x) (h2 : s.heap.size ≤ x) : OPn p l e R s m args below meth c Z a0 EL n0 W0 own T h (x :: Ow) cells slots :=
  P.more ⟨h1, E.lt, Safe.exa P.warm.alike E g1 g2⟩ h2
theorem o_callP (P : OPn p l e R s m args below meth c Z a0 EL n0 W0 own T h Ow cells slots) {y : MethodName} {bytes : ByteArray} {maxL : Nat} {ret : Option FieldType} {rm : Room} {as' : Array Value} {Sf : List Addr} {Q : Option Value → Vm → Heap → Prop} {index W : Nat} {a : Addr} {Cr : String} (w1 : (Jvm.Cond.methodLink own index y).before a0 Z = true) (w6 : (Jvm.Cond.instanceMethod y).before a0 Z = true) (w5 : (Jvm.Cond.selects y.cls y y).before a0 Z = true) (w7 : (Jvm.Cond.privateMethod y).before a0 Z = true) (w3 : (Jvm.Cond.initialized y.cls).before a0 Z = true) (w4 : (Jvm.Cond.code y bytes maxL ret).before a0 Z = true) (hy : y.cls ≠ "java/lang/invoke/MethodHandle" ∧ y.cls ≠ "java/lang/invoke/VarHandle") (Er : Exa Z h a Cr) (hM : OCt l Z a0 EL n0 y bytes maxL ret rm [] as' h Sf Q) (hsf : ∀ x ∈ Sf, x ∈ Ow) (hml : L.size = c.maxLocals) (hf : rm.frames + 1 ≤ R.frames) (hl : W + (maxL + 11) + rm.locals ≤ R.locals) {argsL rest : List Value} (hlen : ∀ sig, parseMethodDescriptor y.desc = some sig → argsL.length = sig.parameters.length) (hst : S = argsL.reverse ++ .ref a :: rest) (has : (.ref a :: argsL).toArray = as') (hW : (rest.map fun v => v.category).sum ≤ W) (hd : decode c.code pc = .ok (.invokevirtual index, 3)) (hp : pc + 3 = pc') (hc : cells + rm.cells ≤ R.cells) (hs : slots + rm.slots ≤ R.slots)
    (k : ∀ T' h' v, OPn p l e R s m args below meth c Z a0 EL n0 W0 own T' h' Ow (cells + rm.cells) (slots + rm.slots) → Keep h h' Sf → Q v T'.vm h' → OG p e below m Pq T' pc' L (v.toList ++ rest)) : OG p e below m Pq T pc L S := by
  subst hp
  obtain ⟨locs, X, hx, hlk, hS, hZ, hown, eT, N, hEL, C, O, K, W'⟩ := P
  have hb := OCt.back (p := p) (e := e) (below := below) (s := s) (args := args) (T := T) (len := 3) (W := W) (R := R) O hEL (fun x hx => ⟨(W' x (hsf x hx)).1, (W' x (hsf x hx)).2.1, (W' x (hsf x hx)).2.2.1⟩) hM hZ w4 w3 hf hl C.1
  obtain ⟨cl, kc, e1, e2, e3, e4, -⟩ := Er
  obtain ⟨v, vm₁, B, hW1, X', hSi, hle, hq, st⟩ := X.privateBackS hx (y := y) hown (mvT (s := s.setVm T.vm) hZ w1) (mvT (s := s.setVm T.vm) hZ w6) (mvT (s := s.setVm T.vm) hZ w5) (Cond.privateMethod_at (mvP (args := args) (s := s.setVm T.vm) hZ w7)) (mvT (s := s.setVm T.vm) hZ w4) hy hb (g := mkF m pc L S) rfl hml (Steps.refl _) (a := a) (cell := cl) (by rw [eT]; exact e1) (fun q r => by rw [r] at e4; cases e4) (argsL := argsL) (rest := rest) hlen hst (by show 2 * 0 + _ ≤ _; omega) hd (fun _ _ => ⟨has, eT, hc, hs⟩)
  obtain ⟨P', K', q⟩ := OPn.behind (y := y) hx hlk hS hZ hown eT N hEL C O K W' hsf X' hSi hle hq
  exact OG.st (fun t r => st.trans r) (k _ _ v P' K' q)
theorem o_callQ (P : OPn p l e R s m args below meth c Z a0 EL n0 W0 own T h Ow cells slots) {y : MethodName} {bytes : ByteArray} {maxL : Nat} {ret : Option FieldType} {rm : Room} {as' : Array Value} {Sf : List Addr} {Q : Option Value → Vm → Heap → Prop} {index W : Nat} {a : Addr} {Cr : String} (w1 : (Jvm.Cond.methodLink own index y).before a0 Z = true) (w6 : (Jvm.Cond.instanceMethod y).before a0 Z = true) {kk : Nat} (w5 : (Jvm.Cond.instantiable y.cls kk).before a0 Z = true) (w7 : (Jvm.Cond.privateMethod y).before a0 Z = true) (w3 : (Jvm.Cond.initialized y.cls).before a0 Z = true) (w4 : (Jvm.Cond.code y bytes maxL ret).before a0 Z = true) (hy : y.cls ≠ "java/lang/invoke/MethodHandle" ∧ y.cls ≠ "java/lang/invoke/VarHandle") (Er : Exa Z h a Cr) (hM : OCt l Z a0 EL n0 y bytes maxL ret rm [] as' h Sf Q) (hsf : ∀ x ∈ Sf, x ∈ Ow) (hml : L.size = c.maxLocals) (hf : rm.frames + 1 ≤ R.frames) (hl : W + (maxL + 11) + rm.locals ≤ R.locals) {argsL rest : List Value} (hlen : ∀ sig, parseMethodDescriptor y.desc = some sig → argsL.length = sig.parameters.length) (hst : S = argsL.reverse ++ .ref a :: rest) (has : (.ref a :: argsL).toArray = as') (hW : (rest.map fun v => v.category).sum ≤ W) (hd : decode c.code pc = .ok (.invokevirtual index, 3)) (hp : pc + 3 = pc') (hc : cells + rm.cells ≤ R.cells) (hs : slots + rm.slots ≤ R.slots)
    (k : ∀ T' h' v, OPn p l e R s m args below meth c Z a0 EL n0 W0 own T' h' Ow (cells + rm.cells) (slots + rm.slots) → Keep h h' Sf → Q v T'.vm h' → OG p e below m Pq T' pc' L (v.toList ++ rest)) : OG p e below m Pq T pc L S := by
  subst hp
  obtain ⟨locs, X, hx, hlk, hS, hZ, hown, eT, N, hEL, C, O, K, W'⟩ := P
  have hb := OCt.back (p := p) (e := e) (below := below) (s := s) (args := args) (T := T) (len := 3) (W := W) (R := R) O hEL (fun x hx => ⟨(W' x (hsf x hx)).1, (W' x (hsf x hx)).2.1, (W' x (hsf x hx)).2.2.1⟩) hM hZ w4 w3 hf hl C.1
  obtain ⟨cl, kc, e1, e2, e3, e4, -⟩ := Er
  have hinst := mvT (args := args) (s := s.setVm T.vm) hZ w6
  obtain ⟨mk, methM, hnamed, hmethM, hstM, habM⟩ := Cond.instanceMethod_spec hinst
  obtain ⟨methM', cM, hmethM', -, -, -, -, -, -, hsigM⟩ := Cond.code_spec hnamed (mvT (args := args) (s := s.setVm T.vm) hZ w4)
  cases hmethM.symm.trans hmethM'
  obtain ⟨t0, kt, g1, g2, g3, g4, -, -⟩ := Cond.instantiable_spec (mvT (args := args) (s := s.setVm T.vm) hZ w5)
  have hcl : (s.setVm T.vm).vm.findClass y.cls = some mk.cls := findClass_of_methodNamed hnamed
  cases hcl.symm.trans g1
  have gI : kt.isInterface = false := by
    cases q : kt.isInterface
    · rfl
    · rw [q] at g4; cases g4
  have hpr := Cond.privateMethod_at (mvP (args := args) (s := s.setVm T.vm) hZ w7)
  have hselP : selectMethod e.platform (s.setVm T.vm).vm cl.cls mk = .method mk := selectMethod_private hmethM (hpr mk methM hnamed hmethM)
  obtain ⟨vm₁, X₁, hstep₁⟩ := X.invokevirtual hx hown (mvT (s := s.setVm T.vm) hZ w1) hnamed hmethM hstM g2 gI hy (a := a) (cell := cl) (by rw [eT]; exact e1) (fun q r => by rw [r] at e4; cases e4) hselP hmethM habM g2 gI (g := mkF m pc L S) rfl (argsL := argsL) (rest := rest) (hlen _ hsigM) hst hd
  obtain ⟨v, B, X', hSi, hle, hq, hst2⟩ := hb m meth c ⟨T.setVm vm₁, locs, cells, slots⟩ { mkF m pc L S with stack := rest } (.invokevirtual index) mk (.ref a :: argsL).toArray X₁ rfl hml hd (by show 2 * 0 + (rest.map fun v => v.category).sum ≤ W; omega) (X₁.named hnamed) ⟨has, eT, hc, hs⟩
  have st : Steps p.tables e below (T.setTop (mkF m pc L S)) (B.U.setTop { mkF m pc L S with pc := pc + 3, stack := v.toList ++ rest }) := hstep₁ _ fun acts => by rw [doInvoke_state]; exact hst2
  obtain ⟨P', K', q⟩ := OPn.behind (y := y) hx hlk hS hZ hown eT N hEL C O K W' hsf X' hSi hle hq
  exact OG.st (fun t r => st.trans r) (k _ _ v P' K' q)
theorem o_ldcWI (P : OPn p l e R s m args below meth c Z a0 EL n0 W0 own T h Ow cells slots) {index : Nat} {v : Int32} (w : (Jvm.Cond.constant own index v).before a0 Z = true) (hd : decode c.code pc = .ok (.ldc_w index, 3)) (hp : pc + 3 = pc') (k : OG p e below m Pq T pc' L (.int v :: S)) : OG p e below m Pq T pc L S := by
  subst hp
  obtain ⟨locs, X, hx, hlk, hS, hZ, hown, eT, r⟩ := P
  have hwc : (Jvm.Cond.constant own index v).before args (s.setVm T.vm) = true := mvT (s := s.setVm T.vm) hZ w
  have hown' : (s.setVm T.vm).vm.findClass own = some m.cls := hown
  obtain ⟨kc, cf, bytes, hk, hcf, hcp, hbb⟩ := Cond.constant_spec hown' hwc
  obtain ⟨k', hk', he⟩ := X.warmed.alike.2.2 _ _ hk
  refine OG.st (fun t q => ?_) k
  have X' : At T (mkF m pc L S).method c below := X.here
  have hd' : decode c.code (mkF m pc L S).pc = .ok (.ldc_w index, 3) := hd
  jvm_step X' [hx, hd', Op.ldc_w.wp_int (s := T) (f := mkF m pc L S) X.here.top hk' (by rw [he]; exact hcf) hcp, hbb]
  exact q
end OwnLayer7
theorem o_ns3 {Z : State} {a0 : Array Value} {O C1 C2 C K : String} {n : Nat} (w0 : (Jvm.Cond.noSuperclass O).before a0 Z = true) (w1 : (Jvm.Cond.superclass C1 O).before a0 Z = true) (w2 : (Jvm.Cond.superclass C2 C1).before a0 Z = true) (w : (Jvm.Cond.superclass C C2).before a0 Z = true) (wi : (Jvm.Cond.instantiable K n).before a0 Z = true) (h1 : O ≠ K) (h2 : C1 ≠ K) (h3 : C2 ≠ K) (h4 : C ≠ K) : ∃ c t, Z.vm.findClass C = some c ∧ Z.vm.findClass K = some t ∧ Z.vm.assignable c t = false := by
  obtain ⟨c0, k0, a1, a2, a3, -, -⟩ := Cond.noSuperclass_spec w0
  obtain ⟨t, kt, g1, g2, g3, g4, -, -⟩ := Cond.instantiable_spec wi
  obtain ⟨d1, u0⟩ := found_sup w1
  obtain ⟨d2, v0⟩ := found_sup w2
  obtain ⟨c, b0⟩ := found_sup w
  obtain ⟨p1, k1, kp1, u1, u2, u3, u4, u5, -, u7⟩ := Cond.superclass_spec u0 w1
  obtain ⟨p2, k2, kp2, v1, v2, v3, v4, v5, -, v7⟩ := Cond.superclass_spec v0 w2
  obtain ⟨p, k, kp, b1, b2, b3, b4, b5, -, b7⟩ := Cond.superclass_spec b0 w
  cases u1.symm.trans a1
  cases v1.symm.trans u0
  cases b1.symm.trans v0
  have ne0 := ids_ne a1 g1 h1
  have ne1 := ids_ne u0 g1 h2
  have ne2 := ids_ne v0 g1 h3
  have ne3 := ids_ne b0 g1 h4
  have gI : kt.isInterface = false := by
    cases q : kt.isInterface
    · rfl
    · rw [q] at g4; cases g4
  have sub0 : ∀ fuel, Z.vm.isSubclassAux fuel c0 t = false := fun fuel => by
    cases fuel with
    | zero => rfl
    | succ f => simp [Vm.isSubclassAux, ne0, a2, a3]
  have sub1 : ∀ fuel, Z.vm.isSubclassAux fuel d1 t = false := fun fuel => by
    cases fuel with
    | zero => rfl
    | succ f => simp [Vm.isSubclassAux, ne1, u2, u4, sub0]
  have sub2 : ∀ fuel, Z.vm.isSubclassAux fuel d2 t = false := fun fuel => by
    cases fuel with
    | zero => rfl
    | succ f => simp [Vm.isSubclassAux, ne2, v2, v4, sub1]
  have sub : ∀ fuel, Z.vm.isSubclassAux fuel c t = false := fun fuel => by
    cases fuel with
    | zero => rfl
    | succ f => simp [Vm.isSubclassAux, ne3, b2, b4, sub2]
  refine ⟨c, t, b0, g1, ?_⟩
  show Z.vm.assignableAux (255 + 1) c t = false
  simp [Vm.assignableAux, ne3, b2, g2, b5, g3, gI, Vm.isSubclass, sub]
theorem ow {Z : State} {a0 : Array Value} {d : Jvm.Cond} (hw : ∀ d ∈ tables_1, d.before a0 Z = true) (k : Nat) (h : tables_1[k]? = some d) : d.before a0 Z = true := hw d (List.mem_of_getElem? h)
theorem pd_0 : parseMethodDescriptor "()V" = some ⟨[], none⟩ := by decide +kernel
theorem pd_1 : parseMethodDescriptor "(I)V" = some ⟨[.int], none⟩ := by decide +kernel
theorem pd_2 : parseMethodDescriptor "(J)V" = some ⟨[.long], none⟩ := by decide +kernel
theorem pd_3 : parseMethodDescriptor "(Lcom/example/centile/centile/function/Keys;)V" = some ⟨[(.object "com/example/centile/centile/function/Keys")], none⟩ := by decide +kernel
theorem pd_4 : parseMethodDescriptor "(I)I" = some ⟨[.int], some .int⟩ := by decide +kernel
theorem pd_5 : parseMethodDescriptor "([JI)V" = some ⟨[(.array .long), .int], none⟩ := by decide +kernel
theorem pd_6 : parseMethodDescriptor "(I)Z" = some ⟨[.int], some .boolean⟩ := by decide +kernel
theorem pd_7 : parseMethodDescriptor "(J)I" = some ⟨[.long], some .int⟩ := by decide +kernel
theorem pd_8 : parseMethodDescriptor "(III)V" = some ⟨[.int, .int, .int], none⟩ := by decide +kernel
theorem pd_9 : parseMethodDescriptor "([JII)V" = some ⟨[(.array .long), .int, .int], none⟩ := by decide +kernel
theorem pd_10 : parseMethodDescriptor "(Ljava/util/DualPivotQuicksort$Sorter;[JIII)V" = some ⟨[(.object "java/util/DualPivotQuicksort$Sorter"), (.array .long), .int, .int, .int], none⟩ := by decide +kernel
theorem pd_11 : parseMethodDescriptor "([JIII)V" = some ⟨[(.array .long), .int, .int, .int], none⟩ := by decide +kernel
theorem pd_12 : parseMethodDescriptor "(II)V" = some ⟨[.int, .int], none⟩ := by decide +kernel
theorem pd_13 : parseMethodDescriptor "(I)J" = some ⟨[.int], some .long⟩ := by decide +kernel
theorem pd_14 : parseMethodDescriptor "(ILcom/example/centile/centile/function/Order;)J" = some ⟨[.int, (.object "com/example/centile/centile/function/Order")], some .long⟩ := by decide +kernel
theorem pd_15 : parseMethodDescriptor "(II)I" = some ⟨[.int, .int], some .int⟩ := by decide +kernel
theorem pd_16 : parseMethodDescriptor "([JI)[J" = some ⟨[(.array .long), .int], some (.array .long)⟩ := by decide +kernel
theorem pd_17 : parseMethodDescriptor "()I" = some ⟨[], some .int⟩ := by decide +kernel
theorem pd_18 : parseMethodDescriptor "(JJ)J" = some ⟨[.long, .long], some .long⟩ := by decide +kernel
def ole (a b : Int64) : Bool := decide (a.toInt ≤ b.toInt)
def OSd (l : List Int64) : Prop := l.Pairwise (fun a b => a.toInt ≤ b.toInt)
def osort (l : List Int64) : List Int64 := l.mergeSort ole
def og (l : List Int64) (i : Nat) : Int64 := (osort l).getD i 0
theorem osort_sd (l : List Int64) : OSd (osort l) := by
  have h := List.pairwise_mergeSort (le := ole) (fun a b c h1 h2 => by simp [ole] at *; omega) (fun a b => by simp [ole]; omega) l
  exact h.imp (fun h => by simpa [ole] using h)
theorem osort_eq {l ys : List Int64} (p : ys.Perm l) (s : OSd ys) : ys = osort l :=
  List.Perm.eq_of_pairwise (le := fun a b : Int64 => a.toInt ≤ b.toInt) (fun a b _ _ h1 h2 => Int64.toInt_inj.mp (by omega)) s (osort_sd l) (p.trans (List.mergeSort_perm l ole).symm)
theorem osort_len (l : List Int64) : (osort l).length = l.length := (List.mergeSort_perm l ole).length_eq
theorem osort_mem {l : List Int64} {x : Int64} (h : x ∈ osort l) : x ∈ l := (List.mergeSort_perm l ole).subset h
theorem og_zero {l : List Int64} {mm : Int64} (hm : mm ∈ l) (h : ∀ x ∈ l, mm.toInt ≤ x.toInt) : og l 0 = mm := by
  have pm := List.mergeSort_perm l ole
  have sd := osort_sd l
  unfold og
  cases h1 : osort l with
  | nil => have := pm.symm.subset hm; rw [show List.mergeSort l ole = osort l from rfl, h1] at this; cases this
  | cons y r =>
    show y = mm
    rw [h1] at sd
    have hy : y ∈ l := osort_mem (by rw [h1]; exact List.mem_cons_self)
    have hm' : mm ∈ y :: r := by rw [← h1]; exact pm.symm.subset hm
    have q1 := h y hy
    rcases List.mem_cons.mp hm' with e | hr
    · exact e.symm
    · have q2 := (List.pairwise_cons.mp sd).1 mm hr
      exact Int64.toInt_inj.mp (by omega)
def olong (l : List Int64) : List Value := l.map Value.long
theorem ol_len (l : List Int64) : (olong l).length = l.length := by simp [olong]
theorem ol_get {A B : List Int64} {y : Int64} {tl : List Value} {i : Nat} (hi : i = A.length) : (olong (A ++ y :: B) ++ tl)[i]? = some (.long y) := by
  subst hi
  rw [List.getElem?_append_left (by simp [olong])]
  simp [olong]
theorem ol_lt {A B : List Int64} {y : Int64} {tl : List Value} {i : Nat} (hi : i = A.length) : i < (olong (A ++ y :: B) ++ tl).length := by
  subst hi; simp [olong]; try omega
theorem ol_set {A B : List Int64} {y v : Int64} {tl : List Value} {i : Nat} (hi : i = A.length) : (olong (A ++ y :: B) ++ tl).set i (.long v) = olong (A ++ v :: B) ++ tl := by
  subst hi
  rw [List.set_append_left _ _ (by simp [olong])]
  simp [olong]
theorem oi_pred (i : Nat) : (i + 1).toInt32 + (-1 : Int32) = i.toInt32 := by
  rw [← oi_succ, Int32.add_assoc]; simp
theorem oi_predS (i : Nat) : (i + 1).toInt32 - (1 : Int32) = i.toInt32 := by
  rw [← oi_succ, Int32.add_sub_cancel]
theorem osd_snoc {A : List Int64} {z x : Int64} (h : OSd (A ++ [z])) (hx : z.toInt ≤ x.toInt) : OSd (A ++ [z] ++ [x]) := by
  have h' := List.pairwise_append.mp h
  refine List.pairwise_append.mpr ⟨h, List.pairwise_singleton _ _, fun a ha b hb => ?_⟩
  rw [List.mem_singleton.mp hb]
  rcases List.mem_append.mp ha with q | q
  · have := h'.2.2 a q z (List.mem_singleton.mpr rfl); omega
  · rw [List.mem_singleton.mp q]; exact hx
theorem osd_mid {A B : List Int64} {x : Int64} (h : OSd (A ++ B)) (h1 : ∀ a ∈ A, a.toInt ≤ x.toInt) (h2 : ∀ b ∈ B, x.toInt < b.toInt) : OSd (A ++ x :: B) := by
  have h' := List.pairwise_append.mp h
  refine List.pairwise_append.mpr ⟨h'.1, List.pairwise_cons.mpr ⟨fun b hb => by have := h2 b hb; omega, h'.2.1⟩, fun a ha b hb => ?_⟩
  rcases List.mem_cons.mp hb with rfl | hb
  · exact h1 a ha
  · exact h'.2.2 a ha b hb
theorem osd_last {A B : List Int64} {y : Int64} (h : OSd (A ++ [y] ++ B)) : ∀ a ∈ A ++ [y], a.toInt ≤ y.toInt := fun a ha => by
  have h' := (List.pairwise_append.mp h).1
  rcases List.mem_append.mp ha with q | q
  · exact (List.pairwise_append.mp h').2.2 a q y (List.mem_singleton.mpr rfl)
  · rw [List.mem_singleton.mp q]; exact Int.le_refl _
theorem o64_lt {a b : Int64} : a < b ↔ a.toInt < b.toInt := Int64.lt_iff_toInt_lt
def omin (a b : Int64) : Int64 := if b < a then b else a
theorem omin_or (a b : Int64) : (omin a b = a ∨ omin a b = b) ∧ (omin a b).toInt ≤ a.toInt ∧ (omin a b).toInt ≤ b.toInt := by
  unfold omin
  split
  · rename_i h; rw [o64_lt] at h; exact ⟨Or.inr rfl, by omega, Int.le_refl _⟩
  · rename_i h; rw [o64_lt] at h; exact ⟨Or.inl rfl, Int.le_refl _, by omega⟩
theorem own_lst16 : ∀ {l : List Int64}, l.length = 16 → l = [l.getD 0 0, l.getD 1 0, l.getD 2 0, l.getD 3 0, l.getD 4 0, l.getD 5 0, l.getD 6 0, l.getD 7 0, l.getD 8 0, l.getD 9 0, l.getD 10 0, l.getD 11 0, l.getD 12 0, l.getD 13 0, l.getD 14 0, l.getD 15 0]
  | [c0, c1, c2, c3, c4, c5, c6, c7, c8, c9, c10, c11, c12, c13, c14, c15], _ => rfl
theorem own_lst17 : ∀ {l : List Int64}, l.length = 17 → l = [l.getD 0 0, l.getD 1 0, l.getD 2 0, l.getD 3 0, l.getD 4 0, l.getD 5 0, l.getD 6 0, l.getD 7 0, l.getD 8 0, l.getD 9 0, l.getD 10 0, l.getD 11 0, l.getD 12 0, l.getD 13 0, l.getD 14 0, l.getD 15 0, l.getD 16 0]
  | [c0, c1, c2, c3, c4, c5, c6, c7, c8, c9, c10, c11, c12, c13, c14, c15, c16], _ => rfl
theorem dso_0 : decode jdk_2529_method_15_code 0 = .ok (.iload_n 1, 1) := by decide +kernel
theorem dso_1 : decode jdk_2529_method_15_code 1 = .ok (.istore 4, 2) := by decide +kernel
theorem dso_3 : decode jdk_2529_method_15_code 3 = .ok (.iinc 4 1, 3) := by decide +kernel
theorem dso_6 : decode jdk_2529_method_15_code 6 = .ok (.iload 4, 2) := by decide +kernel
theorem dso_8 : decode jdk_2529_method_15_code 8 = .ok (.iload_n 2, 1) := by decide +kernel
theorem dso_9 : decode jdk_2529_method_15_code 9 = .ok (.if_icmp .ge 60, 3) := by decide +kernel
theorem dso_12 : decode jdk_2529_method_15_code 12 = .ok (.aload_n 0, 1) := by decide +kernel
theorem dso_13 : decode jdk_2529_method_15_code 13 = .ok (.iload 4, 2) := by decide +kernel
theorem dso_15 : decode jdk_2529_method_15_code 15 = .ok (.dup, 1) := by decide +kernel
theorem dso_16 : decode jdk_2529_method_15_code 16 = .ok (.istore_n 3, 1) := by decide +kernel
theorem dso_17 : decode jdk_2529_method_15_code 17 = .ok (.laload, 1) := by decide +kernel
theorem dso_18 : decode jdk_2529_method_15_code 18 = .ok (.lstore 5, 2) := by decide +kernel
theorem dso_20 : decode jdk_2529_method_15_code 20 = .ok (.lload 5, 2) := by decide +kernel
theorem dso_22 : decode jdk_2529_method_15_code 22 = .ok (.aload_n 0, 1) := by decide +kernel
theorem dso_23 : decode jdk_2529_method_15_code 23 = .ok (.iload_n 3, 1) := by decide +kernel
theorem dso_24 : decode jdk_2529_method_15_code 24 = .ok (.iconst 1, 1) := by decide +kernel
theorem dso_25 : decode jdk_2529_method_15_code 25 = .ok (.isub, 1) := by decide +kernel
theorem dso_26 : decode jdk_2529_method_15_code 26 = .ok (.laload, 1) := by decide +kernel
theorem dso_27 : decode jdk_2529_method_15_code 27 = .ok (.lcmp, 1) := by decide +kernel
theorem dso_28 : decode jdk_2529_method_15_code 28 = .ok (.ifCond .ge 38, 3) := by decide +kernel
theorem dso_31 : decode jdk_2529_method_15_code 31 = .ok (.iinc 3 (-1), 3) := by decide +kernel
theorem dso_34 : decode jdk_2529_method_15_code 34 = .ok (.iload_n 3, 1) := by decide +kernel
theorem dso_35 : decode jdk_2529_method_15_code 35 = .ok (.iload_n 1, 1) := by decide +kernel
theorem dso_36 : decode jdk_2529_method_15_code 36 = .ok (.if_icmp .lt 23, 3) := by decide +kernel
theorem dso_39 : decode jdk_2529_method_15_code 39 = .ok (.lload 5, 2) := by decide +kernel
theorem dso_41 : decode jdk_2529_method_15_code 41 = .ok (.aload_n 0, 1) := by decide +kernel
theorem dso_42 : decode jdk_2529_method_15_code 42 = .ok (.iload_n 3, 1) := by decide +kernel
theorem dso_43 : decode jdk_2529_method_15_code 43 = .ok (.laload, 1) := by decide +kernel
theorem dso_44 : decode jdk_2529_method_15_code 44 = .ok (.lcmp, 1) := by decide +kernel
theorem dso_45 : decode jdk_2529_method_15_code 45 = .ok (.ifCond .ge 14, 3) := by decide +kernel
theorem dso_48 : decode jdk_2529_method_15_code 48 = .ok (.aload_n 0, 1) := by decide +kernel
theorem dso_49 : decode jdk_2529_method_15_code 49 = .ok (.iload_n 3, 1) := by decide +kernel
theorem dso_50 : decode jdk_2529_method_15_code 50 = .ok (.iconst 1, 1) := by decide +kernel
theorem dso_51 : decode jdk_2529_method_15_code 51 = .ok (.iadd, 1) := by decide +kernel
theorem dso_52 : decode jdk_2529_method_15_code 52 = .ok (.aload_n 0, 1) := by decide +kernel
theorem dso_53 : decode jdk_2529_method_15_code 53 = .ok (.iload_n 3, 1) := by decide +kernel
theorem dso_54 : decode jdk_2529_method_15_code 54 = .ok (.laload, 1) := by decide +kernel
theorem dso_55 : decode jdk_2529_method_15_code 55 = .ok (.lastore, 1) := by decide +kernel
theorem dso_56 : decode jdk_2529_method_15_code 56 = .ok (.goto (-25), 3) := by decide +kernel
theorem dso_59 : decode jdk_2529_method_15_code 59 = .ok (.aload_n 0, 1) := by decide +kernel
theorem dso_60 : decode jdk_2529_method_15_code 60 = .ok (.iload_n 3, 1) := by decide +kernel
theorem dso_61 : decode jdk_2529_method_15_code 61 = .ok (.iconst 1, 1) := by decide +kernel
theorem dso_62 : decode jdk_2529_method_15_code 62 = .ok (.iadd, 1) := by decide +kernel
theorem dso_63 : decode jdk_2529_method_15_code 63 = .ok (.lload 5, 2) := by decide +kernel
theorem dso_65 : decode jdk_2529_method_15_code 65 = .ok (.lastore, 1) := by decide +kernel
theorem dso_66 : decode jdk_2529_method_15_code 66 = .ok (.goto (-63), 3) := by decide +kernel
theorem dso_69 : decode jdk_2529_method_15_code 69 = .ok (.return_, 1) := by decide +kernel
theorem pn_DQ : plainName "java/util/DualPivotQuicksort" = true := by first | (simp [plainName, overriddenIn]; done) | decide +kernel
theorem ef_so (x0 : Addr) (x1 : Int32) (x2 : Int32) (m : MethodId) : entryFrame m #[(.ref x0), (.int x1), (.int x2)] 7 = mkF m 0 #[.val (.ref x0), .val (.int x1), .val (.int x2), .unset, .unset, .unset, .unset] [] := by first | (simp [entryFrame, mkF, argsToLocals, o_catR, o_catN, o_catI, o_catJ, o_catD]; done) | rfl
set_option maxRecDepth 65536 in
set_option maxHeartbeats 40000000 in
theorem ct_isort (l : Launch) (Z : State) (a0 : Array Value) (hw : ∀ d ∈ tables_1, d.before a0 Z = true) (EL : List (String × Nat)) (n0 : Nat) (ka : Addr) (xs : List Int64) (tl : List Value) (n : Int32) (hne : xs ≠ []) (hlx : xs.length < 2147483648) (hn : n = xs.length.toInt32) (h0 : Heap) (A_ka : OArr Z h0 ka .long (olong xs ++ tl)) :
    OCt l Z a0 EL n0 (⟨"java/util/DualPivotQuicksort", "insertionSort", "([JII)V"⟩ : MethodName) jdk_2529_method_15_code 7 none ({ frames := 0, cells := 0, slots := 0, locals := 0 } : Room) [] #[(.ref ka), (.int (0 : Int32)), (.int n)] h0 [ka] (fun w vm h => w = none ∧ OArr Z h ka .long (olong (osort xs) ++ tl)) := by
  refine OCt.body (plainFor_of_name pn_DQ) (ef_so ka ((0 : Int32)) n) ?_
  intro p e s m below meth c T hby hml hret hnm hsh P
  have inner : ∀ (k : Nat) (A B R : List Int64) (hole x : Int64) (T : State) (h : Heap) (ii : Int32), A.length = k → (A ++ hole :: (B ++ R)).length < 2147483648 → OSd (A ++ B) → (∀ b ∈ B, x.toInt < b.toInt) → OArr Z h ka .long (olong (A ++ hole :: (B ++ R)) ++ tl) → OPn p l e ({ frames := 0, cells := 0, slots := 0, locals := 0 } : Room) s m #[.ref ka, .int 0, .int n] below meth c Z a0 EL n0 [ka] "java/util/DualPivotQuicksort" T h [ka] 0 0 → (∀ (T' : State) (h' : Heap) (j' : Int32) (zs : List Int64), zs.Perm (A ++ x :: B) → OSd zs → OArr Z h' ka .long (olong (zs ++ R) ++ tl) → OPn p l e ({ frames := 0, cells := 0, slots := 0, locals := 0 } : Room) s m #[.ref ka, .int 0, .int n] below meth c Z a0 EL n0 [ka] "java/util/DualPivotQuicksort" T' h' [ka] 0 0 → OG p e below m (OFq Z EL n0 s [ka] ({ frames := 0, cells := 0, slots := 0, locals := 0 } : Room) (fun w vm h => w = none ∧ OArr Z h ka .long (olong (osort xs) ++ tl))) T' 3 #[.val (.ref ka), .val (.int 0), .val (.int n), .val (.int j'), .val (.int ii), .val (.long x), .second] []) → OG p e below m (OFq Z EL n0 s [ka] ({ frames := 0, cells := 0, slots := 0, locals := 0 } : Room) (fun w vm h => w = none ∧ OArr Z h ka .long (olong (osort xs) ++ tl))) T 31 #[.val (.ref ka), .val (.int 0), .val (.int n), .val (.int A.length.toInt32), .val (.int ii), .val (.long x), .second] [] := by
    clear P T
    intro k
    induction k with
    | zero =>
        intro A B R hole x T h ii hA hlen hs hbb A_ka P kk
        obtain rfl : A = [] := List.length_eq_zero_iff.mp hA
        show OG p e below m (OFq Z EL n0 s [ka] ({ frames := 0, cells := 0, slots := 0, locals := 0 } : Room) (fun w vm h => w = none ∧ OArr Z h ka .long (olong (osort xs) ++ tl))) T 31 #[.val (.ref ka), .val (.int 0), .val (.int n), .val (.int (0 : Int32)), .val (.int ii), .val (.long x), .second] []
        refine o_iinc P (-1 : Int32) (hb hby dso_31) rfl rfl (L' := #[.val (.ref ka), .val (.int (0 : Int32)), .val (.int n), .val (.int (-1 : Int32)), .val (.int ii), .val (.long x), .second]) rfl (pc' := 34) rfl ?_
        refine o_iloadN P (hb hby dso_34) rfl (pc' := 35) rfl ?_
        refine o_iloadN P (hb hby dso_35) rfl (pc' := 36) rfl ?_
        refine o_icmp_lt P (hb hby dso_36) (by decide) (pc' := 59) (by decide) (pcf := 39) rfl (fun _ => ?_) (fun q => absurd (by decide) q)
        refine o_aloadN P (hb hby dso_59) rfl rfl (pc' := 60) rfl ?_
        refine o_iloadN P (hb hby dso_60) rfl (pc' := 61) rfl ?_
        refine o_iconst P (1 : Int32) (hb hby dso_61) rfl (pc' := 62) rfl ?_
        refine o_iadd P (hb hby dso_62) (pc' := 63) rfl ?_
        show OG p e below m _ T 63 #[.val (.ref ka), .val (.int (0 : Int32)), .val (.int n), .val (.int (-1 : Int32)), .val (.int ii), .val (.long x), .second] [(.int (0 : Int32)), (.ref ka)]
        refine o_lload P (hb hby dso_63) rfl (pc' := 65) rfl ?_
        refine o_lastore P (v := (.long x)) A_ka (List.Mem.head _) (by decide) (ol_lt (A := []) rfl) rfl (hb hby dso_65) (pc' := 66) rfl ?_
        clear P; clear A_ka; intro T h1 P W1 A_ka
        clear W1
        replace A_ka : OArr Z h1 ka .long (olong ([] ++ x :: (B ++ R)) ++ tl) := A_ka.eq (ol_set (A := []) rfl)
        refine o_goto P (hb hby dso_66) (by decide) (pc' := 3) (by decide) ?_
        refine kk _ _ _ ([] ++ x :: B) (List.Perm.refl _) (osd_mid hs (fun a ha => nomatch ha) hbb) ?_ P
        rw [List.append_assoc]; exact A_ka
    | succ k ih =>
        intro A B R hole x T h ii hA hlen hs hbb A_ka P kk
        obtain ⟨A, y, rfl⟩ : ∃ A' y, A = A' ++ [y] := by
          rcases List.eq_nil_or_concat A with q | ⟨L, b, q⟩
          · rw [q] at hA; cases hA
          · exact ⟨L, b, by simpa using q⟩
        have hAk : A.length = k := by simpa using hA
        have hlt : A.length + 1 < 2147483648 := by simp at hlen; omega
        rw [show (A ++ [y]).length.toInt32 = (A.length + 1).toInt32 by simp]
        refine o_iinc P (-1 : Int32) (hb hby dso_31) rfl rfl (L' := #[.val (.ref ka), .val (.int (0 : Int32)), .val (.int n), .val (.int ((A.length + 1).toInt32 + (-1 : Int32))), .val (.int ii), .val (.long x), .second]) rfl (pc' := 34) rfl ?_
        rw [oi_pred]
        refine o_iloadN P (hb hby dso_34) rfl (pc' := 35) rfl ?_
        refine o_iloadN P (hb hby dso_35) rfl (pc' := 36) rfl ?_
        refine o_icmp_lt P (hb hby dso_36) (by decide) (pc' := 59) (by decide) (pcf := 39) rfl (fun q => absurd q (oi_nn (by omega))) (fun _ => ?_)
        refine o_lload P (hb hby dso_39) rfl (pc' := 41) rfl ?_
        refine o_aloadN P (hb hby dso_41) rfl rfl (pc' := 42) rfl ?_
        refine o_iloadN P (hb hby dso_42) rfl (pc' := 43) rfl ?_
        refine o_laload P (v := (.long y)) A_ka (oi_nn (by omega)) (by rw [oi_nat (by omega)]; have q := ol_get (A := A) (B := hole :: (B ++ R)) (y := y) (tl := tl) rfl; simpa using q) (hb hby dso_43) (pc' := 44) rfl ?_
        refine o_lcmp P (hb hby dso_44) (pc' := 45) rfl ?_
        refine o_if_ge P (hb hby dso_45) (by decide) (pc' := 59) (by decide) (pcf := 48) rfl (fun hq => ?_) (fun hq => ?_)
        · refine o_aloadN P (hb hby dso_59) rfl rfl (pc' := 60) rfl ?_
          refine o_iloadN P (hb hby dso_60) rfl (pc' := 61) rfl ?_
          refine o_iconst P (1 : Int32) (hb hby dso_61) rfl (pc' := 62) rfl ?_
          refine o_iadd P (hb hby dso_62) (pc' := 63) rfl ?_
          rw [oi_succ]
          refine o_lload P (hb hby dso_63) rfl (pc' := 65) rfl ?_
          refine o_lastore P (v := (.long x)) A_ka (List.Mem.head _) (oi_nn (by omega)) (by rw [oi_nat (by omega)]; exact ol_lt (by simp)) rfl (hb hby dso_65) (pc' := 66) rfl ?_
          clear P; clear A_ka; intro T h1 P W1 A_ka
          clear W1
          replace A_ka : OArr Z h1 ka .long (olong ((A ++ [y]) ++ x :: (B ++ R)) ++ tl) := A_ka.eq (by rw [oi_nat (by omega)]; exact ol_set (by simp))
          refine o_goto P (hb hby dso_66) (by decide) (pc' := 3) (by decide) ?_
          have hyx : y.toInt ≤ x.toInt := by
            have q := fun z : x < y => hq ((lw_lt x y).mpr z)
            have q2 : ¬ x.toInt < y.toInt := fun z => q (o64_lt.mpr z)
            omega
          refine kk _ _ _ ((A ++ [y]) ++ x :: B) (List.Perm.refl _) (osd_mid hs (fun a ha => Int.le_trans (osd_last hs a ha) hyx) hbb) ?_ P
          rw [List.append_assoc (A ++ [y])]; exact A_ka
        · refine o_aloadN P (hb hby dso_48) rfl rfl (pc' := 49) rfl ?_
          refine o_iloadN P (hb hby dso_49) rfl (pc' := 50) rfl ?_
          refine o_iconst P (1 : Int32) (hb hby dso_50) rfl (pc' := 51) rfl ?_
          refine o_iadd P (hb hby dso_51) (pc' := 52) rfl ?_
          rw [oi_succ]
          refine o_aloadN P (hb hby dso_52) rfl rfl (pc' := 53) rfl ?_
          refine o_iloadN P (hb hby dso_53) rfl (pc' := 54) rfl ?_
          refine o_laload P (v := (.long y)) A_ka (oi_nn (by omega)) (by rw [oi_nat (by omega)]; have q := ol_get (A := A) (B := hole :: (B ++ R)) (y := y) (tl := tl) rfl; simpa using q) (hb hby dso_54) (pc' := 55) rfl ?_
          refine o_lastore P (v := (.long y)) A_ka (List.Mem.head _) (oi_nn (by omega)) (by rw [oi_nat (by omega)]; exact ol_lt (by simp)) rfl (hb hby dso_55) (pc' := 56) rfl ?_
          clear P; clear A_ka; intro T h1 P W1 A_ka
          clear W1
          replace A_ka : OArr Z h1 ka .long (olong ((A ++ [y]) ++ y :: (B ++ R)) ++ tl) := A_ka.eq (by rw [oi_nat (by omega)]; exact ol_set (by simp))
          refine o_goto P (hb hby dso_56) (by decide) (pc' := 31) (by decide) ?_
          have hxy : x.toInt < y.toInt := o64_lt.mp ((lw_lt x y).mp hq)
          have eA : (A ++ [y]) ++ y :: (B ++ R) = A ++ y :: ((y :: B) ++ R) := by simp
          rw [eA] at A_ka
          refine ih A (y :: B) R y x _ _ ii hAk (by simp at hlen ⊢; omega) (by rw [show A ++ y :: B = A ++ [y] ++ B by simp]; exact hs) (fun b hb' => ?_) A_ka P (fun T' h' j' zs hp hsd hA' hP => kk T' h' j' zs (hp.trans ?_) hsd hA' hP)
          · rcases List.mem_cons.mp hb' with rfl | q
            · exact hxy
            · exact hbb b q
          · rw [show A ++ [y] ++ x :: B = A ++ ([y] ++ x :: B) by simp]; exact List.Perm.append_left A (List.Perm.swap y x B)
  have outer : ∀ (Rr A : List Int64) (z : Int64) (T : State) (h : Heap) (Lc : Array Slot), OSd (A ++ [z]) → ((A ++ [z]) ++ Rr).Perm xs → OArr Z h ka .long (olong ((A ++ [z]) ++ Rr) ++ tl) → OPn p l e ({ frames := 0, cells := 0, slots := 0, locals := 0 } : Room) s m #[.ref ka, .int 0, .int n] below meth c Z a0 EL n0 [ka] "java/util/DualPivotQuicksort" T h [ka] 0 0 → (Lc = #[.val (.ref ka), .val (.int 0), .val (.int n), .unset, .val (.int A.length.toInt32), .unset, .unset] ∨ ∃ (j : Int32) (x : Int64), Lc = #[.val (.ref ka), .val (.int 0), .val (.int n), .val (.int j), .val (.int A.length.toInt32), .val (.long x), .second]) → OG p e below m (OFq Z EL n0 s [ka] ({ frames := 0, cells := 0, slots := 0, locals := 0 } : Room) (fun w vm h => w = none ∧ OArr Z h ka .long (olong (osort xs) ++ tl))) T 3 Lc [] := by
    clear P T
    intro Rr
    induction Rr with
    | nil =>
        intro A z T h Lc hs hp A_ka P hL
        have hN : A.length + 1 = xs.length := by have := hp.length_eq; simpa using this
        have heq : A ++ [z] = osort xs := osort_eq (by simpa using hp) hs
        rw [List.append_nil, heq] at A_ka
        rcases hL with rfl | ⟨j, x0, rfl⟩
        · refine o_iinc P (1 : Int32) (hb hby dso_3) rfl rfl (L' := #[.val (.ref ka), .val (.int (0 : Int32)), .val (.int n), .unset, .val (.int (A.length.toInt32 + (1 : Int32))), .unset, .unset]) rfl (pc' := 6) rfl ?_
          rw [oi_succ]
          refine o_iload P (hb hby dso_6) rfl (pc' := 8) rfl ?_
          refine o_iloadN P (hb hby dso_8) rfl (pc' := 9) rfl ?_
          refine o_icmp_ge P (hb hby dso_9) (by decide) (pc' := 69) (by decide) (pcf := 12) rfl (fun _ => ?_) (fun q => absurd q (fun q => by rw [hN, hn] at q; exact Int32.lt_irrefl q))
          exact o_ret0 P hret (hb hby dso_69) (by decide) (by decide) ⟨rfl, A_ka⟩
        · refine o_iinc P (1 : Int32) (hb hby dso_3) rfl rfl (L' := #[.val (.ref ka), .val (.int (0 : Int32)), .val (.int n), .val (.int j), .val (.int (A.length.toInt32 + (1 : Int32))), .val (.long x0), .second]) rfl (pc' := 6) rfl ?_
          rw [oi_succ]
          refine o_iload P (hb hby dso_6) rfl (pc' := 8) rfl ?_
          refine o_iloadN P (hb hby dso_8) rfl (pc' := 9) rfl ?_
          refine o_icmp_ge P (hb hby dso_9) (by decide) (pc' := 69) (by decide) (pcf := 12) rfl (fun _ => ?_) (fun q => absurd q (fun q => by rw [hN, hn] at q; exact Int32.lt_irrefl q))
          exact o_ret0 P hret (hb hby dso_69) (by decide) (by decide) ⟨rfl, A_ka⟩
    | cons x R ih =>
        intro A z T h Lc hs hp A_ka P hL
        have hN : A.length + 1 + (R.length + 1) = xs.length := by have := hp.length_eq; simp at this; omega
        have go20 : ∀ T, OPn p l e ({ frames := 0, cells := 0, slots := 0, locals := 0 } : Room) s m #[.ref ka, .int 0, .int n] below meth c Z a0 EL n0 [ka] "java/util/DualPivotQuicksort" T h [ka] 0 0 → OG p e below m (OFq Z EL n0 s [ka] ({ frames := 0, cells := 0, slots := 0, locals := 0 } : Room) (fun w vm h => w = none ∧ OArr Z h ka .long (olong (osort xs) ++ tl))) T 20 #[.val (.ref ka), .val (.int 0), .val (.int n), .val (.int (A.length + 1).toInt32), .val (.int (A.length + 1).toInt32), .val (.long x), .second] [] := by
          clear P T
          intro T P
          refine o_lload P (hb hby dso_20) rfl (pc' := 22) rfl ?_
          refine o_aloadN P (hb hby dso_22) rfl rfl (pc' := 23) rfl ?_
          refine o_iloadN P (hb hby dso_23) rfl (pc' := 24) rfl ?_
          refine o_iconst P (1 : Int32) (hb hby dso_24) rfl (pc' := 25) rfl ?_
          refine o_isub P (hb hby dso_25) (pc' := 26) rfl ?_
          rw [oi_predS]
          refine o_laload P (v := (.long z)) A_ka (oi_nn (by omega)) (by rw [oi_nat (by omega)]; have q := ol_get (A := A) (B := x :: R) (y := z) (tl := tl) rfl; simpa using q) (hb hby dso_26) (pc' := 27) rfl ?_
          refine o_lcmp P (hb hby dso_27) (pc' := 28) rfl ?_
          refine o_if_ge P (hb hby dso_28) (by decide) (pc' := 66) (by decide) (pcf := 31) rfl (fun hq => ?_) (fun hq => ?_)
          · refine o_goto P (hb hby dso_66) (by decide) (pc' := 3) (by decide) ?_
            have hzx : z.toInt ≤ x.toInt := by
              have q := fun u : x < z => hq ((lw_lt x z).mpr u)
              have q2 : ¬ x.toInt < z.toInt := fun u => q (o64_lt.mpr u)
              omega
            refine ih (A ++ [z]) x _ _ _ (osd_snoc hs hzx) (by simpa using hp) (by rw [show A ++ [z] ++ [x] ++ R = A ++ [z] ++ x :: R by simp]; exact A_ka) P (Or.inr ⟨(A.length + 1).toInt32, x, by rw [show (A ++ [z]).length = A.length + 1 by simp]⟩)
          · have hi := inner (A.length + 1) (A ++ [z]) [] R x x T h (A.length + 1).toInt32 (by simp) (by simp; omega) (by simpa using hs) (fun b hb => nomatch hb) A_ka P
            rw [show (A ++ [z]).length = A.length + 1 by simp] at hi
            refine hi (fun T' h' j' zs hpz hsz hA' hP => ?_)
            obtain ⟨A2, z2, rfl⟩ : ∃ A2 z2, zs = A2 ++ [z2] := by
              rcases List.eq_nil_or_concat zs with q | ⟨L2, b2, q⟩
              · rw [q] at hpz; have := hpz.length_eq; simp at this
              · exact ⟨L2, b2, by simpa using q⟩
            have hl2 : A2.length = A.length + 1 := by have := hpz.length_eq; simp at this; omega
            refine ih A2 z2 _ _ _ hsz ?_ hA' hP (Or.inr ⟨j', x, by rw [hl2]⟩)
            exact (List.Perm.append_right R hpz).trans (by simpa using hp)
        rcases hL with rfl | ⟨j, x0, rfl⟩
        · refine o_iinc P (1 : Int32) (hb hby dso_3) rfl rfl (L' := #[.val (.ref ka), .val (.int (0 : Int32)), .val (.int n), .unset, .val (.int (A.length.toInt32 + (1 : Int32))), .unset, .unset]) rfl (pc' := 6) rfl ?_
          rw [oi_succ]
          refine o_iload P (hb hby dso_6) rfl (pc' := 8) rfl ?_
          refine o_iloadN P (hb hby dso_8) rfl (pc' := 9) rfl ?_
          refine o_icmp_ge P (hb hby dso_9) (by decide) (pc' := 69) (by decide) (pcf := 12) rfl (fun q => absurd (by rw [hn]; exact (oi_lt (by omega) (by omega)).mpr (by omega)) q) (fun _ => ?_)
          refine o_aloadN P (hb hby dso_12) rfl rfl (pc' := 13) rfl ?_
          refine o_iload P (hb hby dso_13) rfl (pc' := 15) rfl ?_
          refine o_dup P (hb hby dso_15) rfl (pc' := 16) rfl ?_
          refine o_istoreN P (hb hby dso_16) (L' := #[.val (.ref ka), .val (.int (0 : Int32)), .val (.int n), .val (.int (A.length + 1).toInt32), .val (.int (A.length + 1).toInt32), .unset, .unset]) rfl (pc' := 17) rfl ?_
          refine o_laload P (v := (.long x)) A_ka (oi_nn (by omega)) (by rw [oi_nat (by omega)]; exact ol_get (by simp)) (hb hby dso_17) (pc' := 18) rfl ?_
          refine o_lstore P (hb hby dso_18) (L' := #[.val (.ref ka), .val (.int (0 : Int32)), .val (.int n), .val (.int (A.length + 1).toInt32), .val (.int (A.length + 1).toInt32), .val (.long x), .second]) rfl (pc' := 20) rfl ?_
          exact go20 T P
        · refine o_iinc P (1 : Int32) (hb hby dso_3) rfl rfl (L' := #[.val (.ref ka), .val (.int (0 : Int32)), .val (.int n), .val (.int j), .val (.int (A.length.toInt32 + (1 : Int32))), .val (.long x0), .second]) rfl (pc' := 6) rfl ?_
          rw [oi_succ]
          refine o_iload P (hb hby dso_6) rfl (pc' := 8) rfl ?_
          refine o_iloadN P (hb hby dso_8) rfl (pc' := 9) rfl ?_
          refine o_icmp_ge P (hb hby dso_9) (by decide) (pc' := 69) (by decide) (pcf := 12) rfl (fun q => absurd (by rw [hn]; exact (oi_lt (by omega) (by omega)).mpr (by omega)) q) (fun _ => ?_)
          refine o_aloadN P (hb hby dso_12) rfl rfl (pc' := 13) rfl ?_
          refine o_iload P (hb hby dso_13) rfl (pc' := 15) rfl ?_
          refine o_dup P (hb hby dso_15) rfl (pc' := 16) rfl ?_
          refine o_istoreN P (hb hby dso_16) (L' := #[.val (.ref ka), .val (.int (0 : Int32)), .val (.int n), .val (.int (A.length + 1).toInt32), .val (.int (A.length + 1).toInt32), .val (.long x0), .second]) rfl (pc' := 17) rfl ?_
          refine o_laload P (v := (.long x)) A_ka (oi_nn (by omega)) (by rw [oi_nat (by omega)]; exact ol_get (by simp)) (hb hby dso_17) (pc' := 18) rfl ?_
          refine o_lstore P (hb hby dso_18) (L' := #[.val (.ref ka), .val (.int (0 : Int32)), .val (.int n), .val (.int (A.length + 1).toInt32), .val (.int (A.length + 1).toInt32), .val (.long x), .second]) rfl (pc' := 20) rfl ?_
          exact go20 T P
  obtain ⟨z, R, rfl⟩ : ∃ z R, xs = z :: R := by
    cases xs with
    | nil => exact absurd rfl hne
    | cons z R => exact ⟨z, R, rfl⟩
  refine o_iloadN P (hb hby dso_0) rfl (pc' := 1) rfl ?_
  refine o_istore P (hb hby dso_1) (L' := #[.val (.ref ka), .val (.int (0 : Int32)), .val (.int n), .unset, .val (.int (0 : Int32)), .unset, .unset]) rfl (pc' := 3) rfl ?_
  exact outer R [] z T h0 _ (List.pairwise_singleton _ _) (List.Perm.refl _) A_ka P (Or.inl rfl)
theorem dmj_0 : decode jdk_29_method_70_code 0 = .ok (.lload_n 0, 1) := by decide +kernel
theorem dmj_1 : decode jdk_29_method_70_code 1 = .ok (.lload_n 2, 1) := by decide +kernel
theorem dmj_2 : decode jdk_29_method_70_code 2 = .ok (.lcmp, 1) := by decide +kernel
theorem dmj_3 : decode jdk_29_method_70_code 3 = .ok (.ifCond .gt 7, 3) := by decide +kernel
theorem dmj_6 : decode jdk_29_method_70_code 6 = .ok (.lload_n 0, 1) := by decide +kernel
theorem dmj_7 : decode jdk_29_method_70_code 7 = .ok (.goto 4, 3) := by decide +kernel
theorem dmj_10 : decode jdk_29_method_70_code 10 = .ok (.lload_n 2, 1) := by decide +kernel
theorem dmj_11 : decode jdk_29_method_70_code 11 = .ok (.lreturn, 1) := by decide +kernel
theorem ef_mj (x0 : Int64) (x1 : Int64) (m : MethodId) : entryFrame m #[(.long x0), (.long x1)] 4 = mkF m 0 #[.val (.long x0), .second, .val (.long x1), .second] [] := by first | (simp [entryFrame, mkF, argsToLocals, o_catR, o_catN, o_catI, o_catJ, o_catD]; done) | rfl
set_option maxRecDepth 65536 in
set_option maxHeartbeats 40000000 in
theorem ct_minJ (l : Launch) (Z : State) (a0 : Array Value) (hw : ∀ d ∈ tables_1, d.before a0 Z = true) (EL : List (String × Nat)) (n0 : Nat) (a b : Int64) (h0 : Heap) :
    OCt l Z a0 EL n0 (⟨"java/lang/Math", "min", "(JJ)J"⟩ : MethodName) jdk_29_method_70_code 4 (some .long) ({ frames := 0, cells := 0, slots := 0, locals := 0 } : Room) [] #[(.long a), (.long b)] h0 [] (fun w vm h => w = some (.long (omin a b)) ∧ h = h0) := by
  refine OCt.body (Jvm.Free.JP.mathPlain rfl (by decide +kernel)) (ef_mj a b) ?_
  intro p e s m below meth c T hby hml hret hnm hsh P
  refine o_lloadN P (hb hby dmj_0) rfl (pc' := 1) rfl ?_
  refine o_lloadN P (hb hby dmj_1) rfl (pc' := 2) rfl ?_
  refine o_lcmp P (hb hby dmj_2) (pc' := 3) rfl ?_
  refine o_if_gt P (hb hby dmj_3) (by decide) (pc' := 10) (by decide) (pcf := 6) rfl (fun hq => ?_) (fun hq => ?_)
  · refine o_lloadN P (hb hby dmj_10) rfl (pc' := 11) rfl ?_
    exact o_retL P hret (hb hby dmj_11) (by decide) (by decide) ⟨by rw [omin, if_pos ((lw_gt _ _).mp hq)], rfl⟩
  · refine o_lloadN P (hb hby dmj_6) rfl (pc' := 7) rfl ?_
    refine o_goto P (hb hby dmj_7) (by decide) (pc' := 11) (by decide) ?_
    exact o_retL P hret (hb hby dmj_11) (by decide) (by decide) ⟨by rw [omin, if_neg fun z => hq ((lw_gt _ _).mpr z)], rfl⟩
theorem de1_0 : decode prog_11_method_1_code 0 = .ok (.aload_n 0, 1) := by decide +kernel
theorem de1_1 : decode prog_11_method_1_code 1 = .ok (.invokespecial 3, 3) := by decide +kernel
theorem de1_4 : decode prog_11_method_1_code 4 = .ok (.aload_n 0, 1) := by decide +kernel
theorem de1_5 : decode prog_11_method_1_code 5 = .ok (.bipush 16, 2) := by decide +kernel
theorem de1_7 : decode prog_11_method_1_code 7 = .ok (.newarray .long, 2) := by decide +kernel
theorem de1_9 : decode prog_11_method_1_code 9 = .ok (.putfield 9, 3) := by decide +kernel
theorem de1_12 : decode prog_11_method_1_code 12 = .ok (.return_, 1) := by decide +kernel
theorem ef_ct_e2 (x0 : Addr) (m : MethodId) : entryFrame m #[(.ref x0)] 1 = mkF m 0 #[.val (.ref x0)] [] := by first | (simp [entryFrame, mkF, argsToLocals, o_catR, o_catN, o_catI, o_catJ, o_catD]; done) | rfl
theorem pn_e0 : plainName "com/example/centile/centile/function/Keys" = true := by first | (simp [plainName, overriddenIn]; done) | decide +kernel
set_option maxRecDepth 65536 in
set_option maxHeartbeats 40000000 in
theorem ct_e2 (l : Launch) (Z : State) (a0 : Array Value) (hw : ∀ d ∈ tables_1, d.before a0 Z = true) (EL : List (String × Nat)) (n0 : Nat) (p0 : Addr)  (had : Sta Z Z.heap "java/util/BitSet" "$assertionsDisabled" "Z" (.int 1)) (od : Addr) (hod : Sta Z Z.heap "com/example/centile/centile/function/Order" "ASCENDING" "Lcom/example/centile/centile/function/Order;" (.ref od)) (h0 : Heap) (F_p0 : OObj Z h0 p0 "com/example/centile/centile/function/Keys" [("com/example/centile/centile/function/Keys", "keys", "[J", .null), ("com/example/centile/centile/function/Keys", "size", "I", (.int (0 : Int32))), ("com/example/centile/centile/function/Keys", "selection", "Lcom/example/centile/centile/function/Selection;", .null)])  :
    OCt l Z a0 EL n0 (⟨"com/example/centile/centile/function/Keys", "<init>", "()V"⟩ : MethodName) prog_11_method_1_code 1 none ({ frames := 1, cells := 1, slots := 16, locals := 12 } : Room) [] #[(.ref p0)] h0 [p0] (fun w vm h => ∃ n0 : Addr, w = none ∧ h0.size ≤ n0 ∧ OObj Z h p0 "com/example/centile/centile/function/Keys" [("com/example/centile/centile/function/Keys", "keys", "[J", (.ref n0)), ("com/example/centile/centile/function/Keys", "size", "I", (.int (0 : Int32))), ("com/example/centile/centile/function/Keys", "selection", "Lcom/example/centile/centile/function/Selection;", .null)] ∧ OArr Z h n0 .long [(.long (0 : Int64)), (.long (0 : Int64)), (.long (0 : Int64)), (.long (0 : Int64)), (.long (0 : Int64)), (.long (0 : Int64)), (.long (0 : Int64)), (.long (0 : Int64)), (.long (0 : Int64)), (.long (0 : Int64)), (.long (0 : Int64)), (.long (0 : Int64)), (.long (0 : Int64)), (.long (0 : Int64)), (.long (0 : Int64)), (.long (0 : Int64))] ∧ True) := by
  refine OCt.body (plainFor_of_name pn_e0) (ef_ct_e2 p0) ?_
  intro p e s m below meth c T hby hml hret hnm hsh P
  refine o_aloadN P (hb hby de1_0) rfl rfl (pc' := 1) rfl ?_
  refine o_initO P (W := 0) (ow hw 6 rfl) (ow hw 7 rfl) (ow hw 8 rfl) (by rw [hml]; rfl) (by decide) (Nat.le_of_eq rfl) (by decide) (hb hby de1_1) (pc' := 4) rfl ?_
  clear P; intro T P
  refine o_aloadN P (hb hby de1_4) rfl rfl (pc' := 5) rfl ?_
  refine o_bipush P (16 : Int32) (hb hby de1_5) rfl (pc' := 7) rfl ?_
  have hz_b1 := P.keep0.1
  refine o_newarr P (cap := 16) (ow hw 9 rfl) (hb hby de1_7) (by decide) (by decide) (by decide) (pc' := 9) rfl (by decide) (by decide) ?_
  clear P; intro T h1 b1 P K1 hb_b1 A_b1
  have sz_b1 := Nat.le_trans hz_b1 hb_b1
  clear hz_b1
  have ne_p0_b1 : p0 ≠ b1 := Nat.ne_of_lt (Nat.lt_of_lt_of_le F_p0.lt hb_b1)
  replace F_p0 := F_p0.keep K1 nin0
  clear K1
  replace A_b1 : OArr Z h1 b1 .long [(.long 0), (.long 0), (.long 0), (.long 0), (.long 0), (.long 0), (.long 0), (.long 0), (.long 0), (.long 0), (.long 0), (.long 0), (.long 0), (.long 0), (.long 0), (.long 0)] := A_b1
  refine o_putF P (v' := (.ref b1)) (ty := (.array .long)) (ow hw 10 rfl) Via.refl (F_p0.fld 0 rfl) F_p0.exa (Or.inl (ow hw 11 rfl)) (ow hw 1 rfl) (by decide) rfl rfl (List.Mem.tail _ (List.Mem.head _)) (hb hby de1_9) (pc' := 12) rfl ?_
  clear P; intro T h2 P W2
  replace A_b1 := A_b1.oth W2 (Ne.symm ne_p0_b1)
  replace F_p0 : OObj Z h2 p0 "com/example/centile/centile/function/Keys" [("com/example/centile/centile/function/Keys", "keys", "[J", (.ref b1)), ("com/example/centile/centile/function/Keys", "size", "I", (.int (0 : Int32))), ("com/example/centile/centile/function/Keys", "selection", "Lcom/example/centile/centile/function/Selection;", .null)] := F_p0.put 0 rfl W2
  clear W2
  exact o_ret0 P hret (hb hby de1_12) (by decide) (by decide) ⟨b1, rfl, hsh ▸ sz_b1, F_p0, A_b1, trivial⟩
theorem de3_0 : decode prog_11_method_4_code 0 = .ok (.aload_n 0, 1) := by decide +kernel
theorem de3_1 : decode prog_11_method_4_code 1 = .ok (.iconst 1, 1) := by decide +kernel
theorem de3_2 : decode prog_11_method_4_code 2 = .ok (.invokevirtual 19, 3) := by decide +kernel
theorem de3_5 : decode prog_11_method_4_code 5 = .ok (.aload_n 0, 1) := by decide +kernel
theorem de3_6 : decode prog_11_method_4_code 6 = .ok (.getfield 9, 3) := by decide +kernel
theorem de3_9 : decode prog_11_method_4_code 9 = .ok (.aload_n 0, 1) := by decide +kernel
theorem de3_10 : decode prog_11_method_4_code 10 = .ok (.dup, 1) := by decide +kernel
theorem de3_11 : decode prog_11_method_4_code 11 = .ok (.getfield 15, 3) := by decide +kernel
theorem de3_14 : decode prog_11_method_4_code 14 = .ok (.dup_x1, 1) := by decide +kernel
theorem de3_15 : decode prog_11_method_4_code 15 = .ok (.iconst 1, 1) := by decide +kernel
theorem de3_16 : decode prog_11_method_4_code 16 = .ok (.iadd, 1) := by decide +kernel
theorem de3_17 : decode prog_11_method_4_code 17 = .ok (.putfield 15, 3) := by decide +kernel
theorem de3_20 : decode prog_11_method_4_code 20 = .ok (.lload_n 1, 1) := by decide +kernel
theorem de3_21 : decode prog_11_method_4_code 21 = .ok (.lastore, 1) := by decide +kernel
theorem de3_22 : decode prog_11_method_4_code 22 = .ok (.aload_n 0, 1) := by decide +kernel
theorem de3_23 : decode prog_11_method_4_code 23 = .ok (.aconst_null, 1) := by decide +kernel
theorem de3_24 : decode prog_11_method_4_code 24 = .ok (.putfield 23, 3) := by decide +kernel
theorem de3_27 : decode prog_11_method_4_code 27 = .ok (.return_, 1) := by decide +kernel
theorem de4_0 : decode prog_11_method_7_code 0 = .ok (.iload_n 1, 1) := by decide +kernel
theorem de4_1 : decode prog_11_method_7_code 1 = .ok (.ldc 48, 2) := by decide +kernel
theorem de4_3 : decode prog_11_method_7_code 3 = .ok (.aload_n 0, 1) := by decide +kernel
theorem de4_4 : decode prog_11_method_7_code 4 = .ok (.getfield 15, 3) := by decide +kernel
theorem de4_7 : decode prog_11_method_7_code 7 = .ok (.isub, 1) := by decide +kernel
theorem de4_8 : decode prog_11_method_7_code 8 = .ok (.if_icmp .le 13, 3) := by decide +kernel
theorem de4_11 : decode prog_11_method_7_code 11 = .ok (.new 49, 3) := by decide +kernel
theorem de4_14 : decode prog_11_method_7_code 14 = .ok (.dup, 1) := by decide +kernel
theorem de4_15 : decode prog_11_method_7_code 15 = .ok (.ldc 51, 2) := by decide +kernel
theorem de4_17 : decode prog_11_method_7_code 17 = .ok (.invokespecial 53, 3) := by decide +kernel
theorem de4_20 : decode prog_11_method_7_code 20 = .ok (.athrow, 1) := by decide +kernel
theorem de4_21 : decode prog_11_method_7_code 21 = .ok (.aload_n 0, 1) := by decide +kernel
theorem de4_22 : decode prog_11_method_7_code 22 = .ok (.getfield 15, 3) := by decide +kernel
theorem de4_25 : decode prog_11_method_7_code 25 = .ok (.iload_n 1, 1) := by decide +kernel
theorem de4_26 : decode prog_11_method_7_code 26 = .ok (.iadd, 1) := by decide +kernel
theorem de4_27 : decode prog_11_method_7_code 27 = .ok (.istore_n 2, 1) := by decide +kernel
theorem de4_28 : decode prog_11_method_7_code 28 = .ok (.iload_n 2, 1) := by decide +kernel
theorem de4_29 : decode prog_11_method_7_code 29 = .ok (.aload_n 0, 1) := by decide +kernel
theorem de4_30 : decode prog_11_method_7_code 30 = .ok (.getfield 9, 3) := by decide +kernel
theorem de4_33 : decode prog_11_method_7_code 33 = .ok (.arraylength, 1) := by decide +kernel
theorem de4_34 : decode prog_11_method_7_code 34 = .ok (.if_icmp .le 42, 3) := by decide +kernel
theorem de4_37 : decode prog_11_method_7_code 37 = .ok (.aload_n 0, 1) := by decide +kernel
theorem de4_38 : decode prog_11_method_7_code 38 = .ok (.getfield 9, 3) := by decide +kernel
theorem de4_41 : decode prog_11_method_7_code 41 = .ok (.arraylength, 1) := by decide +kernel
theorem de4_42 : decode prog_11_method_7_code 42 = .ok (.ldc 56, 2) := by decide +kernel
theorem de4_44 : decode prog_11_method_7_code 44 = .ok (.if_icmp .le 8, 3) := by decide +kernel
theorem de4_47 : decode prog_11_method_7_code 47 = .ok (.ldc 48, 2) := by decide +kernel
theorem de4_49 : decode prog_11_method_7_code 49 = .ok (.goto 10, 3) := by decide +kernel
theorem de4_52 : decode prog_11_method_7_code 52 = .ok (.aload_n 0, 1) := by decide +kernel
theorem de4_53 : decode prog_11_method_7_code 53 = .ok (.getfield 9, 3) := by decide +kernel
theorem de4_56 : decode prog_11_method_7_code 56 = .ok (.arraylength, 1) := by decide +kernel
theorem de4_57 : decode prog_11_method_7_code 57 = .ok (.iconst 2, 1) := by decide +kernel
theorem de4_58 : decode prog_11_method_7_code 58 = .ok (.imul, 1) := by decide +kernel
theorem de4_59 : decode prog_11_method_7_code 59 = .ok (.istore_n 3, 1) := by decide +kernel
theorem de4_60 : decode prog_11_method_7_code 60 = .ok (.aload_n 0, 1) := by decide +kernel
theorem de4_61 : decode prog_11_method_7_code 61 = .ok (.aload_n 0, 1) := by decide +kernel
theorem de4_62 : decode prog_11_method_7_code 62 = .ok (.getfield 9, 3) := by decide +kernel
theorem de4_65 : decode prog_11_method_7_code 65 = .ok (.iload_n 2, 1) := by decide +kernel
theorem de4_66 : decode prog_11_method_7_code 66 = .ok (.iload_n 3, 1) := by decide +kernel
theorem de4_67 : decode prog_11_method_7_code 67 = .ok (.invokestatic 57, 3) := by decide +kernel
theorem de4_70 : decode prog_11_method_7_code 70 = .ok (.invokestatic 63, 3) := by decide +kernel
theorem de4_73 : decode prog_11_method_7_code 73 = .ok (.putfield 9, 3) := by decide +kernel
theorem de4_76 : decode prog_11_method_7_code 76 = .ok (.return_, 1) := by decide +kernel
theorem ef_ct_e5 (x0 : Addr) (x1 : Int32) (m : MethodId) : entryFrame m #[(.ref x0), (.int x1)] 4 = mkF m 0 #[.val (.ref x0), .val (.int x1), .unset, .unset] [] := by first | (simp [entryFrame, mkF, argsToLocals, o_catR, o_catN, o_catI, o_catJ, o_catD]; done) | rfl
set_option maxRecDepth 65536 in
set_option maxHeartbeats 40000000 in
theorem ct_e5 (l : Launch) (Z : State) (a0 : Array Value) (hw : ∀ d ∈ tables_1, d.before a0 Z = true) (EL : List (String × Nat)) (n0 : Nat) (p0 : Addr) (p1 : Addr)  (had : Sta Z Z.heap "java/util/BitSet" "$assertionsDisabled" "Z" (.int 1)) (od : Addr) (hod : Sta Z Z.heap "com/example/centile/centile/function/Order" "ASCENDING" "Lcom/example/centile/centile/function/Order;" (.ref od)) (h0 : Heap) (F_p0 : OObj Z h0 p0 "com/example/centile/centile/function/Keys" [("com/example/centile/centile/function/Keys", "keys", "[J", (.ref p1)), ("com/example/centile/centile/function/Keys", "size", "I", (.int (0 : Int32))), ("com/example/centile/centile/function/Keys", "selection", "Lcom/example/centile/centile/function/Selection;", .null)]) (A_p1 : OArr Z h0 p1 .long [(.long (0 : Int64)), (.long (0 : Int64)), (.long (0 : Int64)), (.long (0 : Int64)), (.long (0 : Int64)), (.long (0 : Int64)), (.long (0 : Int64)), (.long (0 : Int64)), (.long (0 : Int64)), (.long (0 : Int64)), (.long (0 : Int64)), (.long (0 : Int64)), (.long (0 : Int64)), (.long (0 : Int64)), (.long (0 : Int64)), (.long (0 : Int64))]) (ne_p0_p1 : p0 ≠ p1) :
    OCt l Z a0 EL n0 (⟨"com/example/centile/centile/function/Keys", "ensureRoom", "(I)V"⟩ : MethodName) prog_11_method_7_code 4 none ({ frames := 0, cells := 0, slots := 0, locals := 0 } : Room) [] #[(.ref p0), (.int (1 : Int32))] h0 [] (fun w vm h => w = none ∧ h = h0) := by
  refine OCt.body (plainFor_of_name pn_e0) (ef_ct_e5 p0 ((1 : Int32))) ?_
  intro p e s m below meth c T hby hml hret hnm hsh P
  refine o_iloadN P (hb hby de4_0) rfl (pc' := 1) rfl ?_
  refine o_ldcI P (ow hw 21 rfl) (hb hby de4_1) (pc' := 3) rfl ?_
  refine o_aloadN P (hb hby de4_3) rfl rfl (pc' := 4) rfl ?_
  refine o_getF P (ow hw 22 rfl) Via.refl (F_p0.fld 1 rfl) (hb hby de4_4) (pc' := 7) rfl ?_
  clear P; intro T P
  refine o_isub P (hb hby de4_7) (pc' := 8) rfl ?_
  show OG p e below m _ T 8 #[.val (.ref p0), .val (.int (1 : Int32)), .unset, .unset] [(.int (2147483639 : Int32)), (.int (1 : Int32))]
  refine o_icmp_le P (hb hby de4_8) (by decide) (pc' := 21) (by decide) (pcf := 11) rfl (fun _ => ?_) (fun q => absurd q (by decide))
  refine o_aloadN P (hb hby de4_21) rfl rfl (pc' := 22) rfl ?_
  refine o_getF P (ow hw 22 rfl) Via.refl (F_p0.fld 1 rfl) (hb hby de4_22) (pc' := 25) rfl ?_
  clear P; intro T P
  refine o_iloadN P (hb hby de4_25) rfl (pc' := 26) rfl ?_
  refine o_iadd P (hb hby de4_26) (pc' := 27) rfl ?_
  show OG p e below m _ T 27 #[.val (.ref p0), .val (.int (1 : Int32)), .unset, .unset] [(.int (1 : Int32))]
  refine o_istoreN P (hb hby de4_27) (L' := #[.val (.ref p0), .val (.int (1 : Int32)), .val (.int (1 : Int32)), .unset]) rfl (pc' := 28) rfl ?_
  refine o_iloadN P (hb hby de4_28) rfl (pc' := 29) rfl ?_
  refine o_aloadN P (hb hby de4_29) rfl rfl (pc' := 30) rfl ?_
  refine o_getF P (ow hw 10 rfl) Via.refl (F_p0.fld 0 rfl) (hb hby de4_30) (pc' := 33) rfl ?_
  clear P; intro T P
  refine o_arrlen P A_p1 (hb hby de4_33) (n := (16 : Int32)) rfl (pc' := 34) rfl ?_
  refine o_icmp_le P (hb hby de4_34) (by decide) (pc' := 76) (by decide) (pcf := 37) rfl (fun _ => ?_) (fun q => absurd q (by decide))
  exact o_ret0 P hret (hb hby de4_76) (by decide) (by decide) ⟨rfl, rfl⟩
theorem ef_ct_e6 (x0 : Addr) (x1 : Int64) (m : MethodId) : entryFrame m #[(.ref x0), (.long x1)] 3 = mkF m 0 #[.val (.ref x0), .val (.long x1), .second] [] := by first | (simp [entryFrame, mkF, argsToLocals, o_catR, o_catN, o_catI, o_catJ, o_catD]; done) | rfl
set_option maxRecDepth 65536 in
set_option maxHeartbeats 40000000 in
theorem ct_e6 (l : Launch) (Z : State) (a0 : Array Value) (hw : ∀ d ∈ tables_1, d.before a0 Z = true) (EL : List (String × Nat)) (n0 : Nat) (p0 : Addr) (p1 : Addr) (x0 : Int64) (had : Sta Z Z.heap "java/util/BitSet" "$assertionsDisabled" "Z" (.int 1)) (od : Addr) (hod : Sta Z Z.heap "com/example/centile/centile/function/Order" "ASCENDING" "Lcom/example/centile/centile/function/Order;" (.ref od)) (h0 : Heap) (F_p0 : OObj Z h0 p0 "com/example/centile/centile/function/Keys" [("com/example/centile/centile/function/Keys", "keys", "[J", (.ref p1)), ("com/example/centile/centile/function/Keys", "size", "I", (.int (0 : Int32))), ("com/example/centile/centile/function/Keys", "selection", "Lcom/example/centile/centile/function/Selection;", .null)]) (A_p1 : OArr Z h0 p1 .long [(.long (0 : Int64)), (.long (0 : Int64)), (.long (0 : Int64)), (.long (0 : Int64)), (.long (0 : Int64)), (.long (0 : Int64)), (.long (0 : Int64)), (.long (0 : Int64)), (.long (0 : Int64)), (.long (0 : Int64)), (.long (0 : Int64)), (.long (0 : Int64)), (.long (0 : Int64)), (.long (0 : Int64)), (.long (0 : Int64)), (.long (0 : Int64))]) (ne_p0_p1 : p0 ≠ p1) :
    OCt l Z a0 EL n0 (⟨"com/example/centile/centile/function/Keys", "add", "(J)V"⟩ : MethodName) prog_11_method_4_code 3 none ({ frames := 1, cells := 0, slots := 0, locals := 15 } : Room) [] #[(.ref p0), (.long x0)] h0 [p0, p1] (fun w vm h => w = none ∧ OObj Z h p0 "com/example/centile/centile/function/Keys" [("com/example/centile/centile/function/Keys", "keys", "[J", (.ref p1)), ("com/example/centile/centile/function/Keys", "size", "I", (.int (1 : Int32))), ("com/example/centile/centile/function/Keys", "selection", "Lcom/example/centile/centile/function/Selection;", .null)] ∧ OArr Z h p1 .long [(.long x0), (.long (0 : Int64)), (.long (0 : Int64)), (.long (0 : Int64)), (.long (0 : Int64)), (.long (0 : Int64)), (.long (0 : Int64)), (.long (0 : Int64)), (.long (0 : Int64)), (.long (0 : Int64)), (.long (0 : Int64)), (.long (0 : Int64)), (.long (0 : Int64)), (.long (0 : Int64)), (.long (0 : Int64)), (.long (0 : Int64))] ∧ True) := by
  refine OCt.body (plainFor_of_name pn_e0) (ef_ct_e6 p0 x0) ?_
  intro p e s m below meth c T hby hml hret hnm hsh P
  refine o_aloadN P (hb hby de3_0) rfl rfl (pc' := 1) rfl ?_
  refine o_iconst P (1 : Int32) (hb hby de3_1) rfl (pc' := 2) rfl ?_
  refine o_callQ P (W := 0) (a := p0) (ow hw 17 rfl) (ow hw 18 rfl) (ow hw 1 rfl) (ow hw 19 rfl) (ow hw 2 rfl) (ow hw 20 rfl) (by decide) F_p0.exa (ct_e5 l Z a0 hw EL n0 p0 p1  had od hod h0 F_p0 A_p1 ne_p0_p1) o_sf0 (by rw [hml]; rfl) (by decide) (by decide) (argsL := [(.int (1 : Int32))]) (rest := []) (lenOf pd_1 rfl) rfl rfl (Nat.le_of_eq rfl) (hb hby de3_2) (pc' := 5) rfl (by decide) (by decide) ?_
  clear P; intro T h2 v2 P K2 q2
  obtain ⟨rfl, rfl⟩ := q2; clear K2
  show OG p e below m _ T 5 #[.val (.ref p0), .val (.long x0), .second] []
  refine o_aloadN P (hb hby de3_5) rfl rfl (pc' := 6) rfl ?_
  refine o_getF P (ow hw 10 rfl) Via.refl (F_p0.fld 0 rfl) (hb hby de3_6) (pc' := 9) rfl ?_
  clear P; intro T P
  refine o_aloadN P (hb hby de3_9) rfl rfl (pc' := 10) rfl ?_
  refine o_dup P (hb hby de3_10) rfl (pc' := 11) rfl ?_
  refine o_getF P (ow hw 22 rfl) Via.refl (F_p0.fld 1 rfl) (hb hby de3_11) (pc' := 14) rfl ?_
  clear P; intro T P
  refine o_dupX1 P (hb hby de3_14) rfl rfl (pc' := 15) rfl ?_
  refine o_iconst P (1 : Int32) (hb hby de3_15) rfl (pc' := 16) rfl ?_
  refine o_iadd P (hb hby de3_16) (pc' := 17) rfl ?_
  show OG p e below m _ T 17 #[.val (.ref p0), .val (.long x0), .second] [(.int (1 : Int32)), (.ref p0), (.int (0 : Int32)), (.ref p1)]
  refine o_putF P (v' := (.int (1 : Int32))) (ty := .int) (ow hw 22 rfl) Via.refl (F_p0.fld 1 rfl) F_p0.exa (Or.inl (ow hw 23 rfl)) (ow hw 1 rfl) (by decide) rfl rfl (List.Mem.head _) (hb hby de3_17) (pc' := 20) rfl ?_
  clear P; intro T h3 P W3
  replace A_p1 := A_p1.oth W3 (Ne.symm ne_p0_p1)
  replace F_p0 : OObj Z h3 p0 "com/example/centile/centile/function/Keys" [("com/example/centile/centile/function/Keys", "keys", "[J", (.ref p1)), ("com/example/centile/centile/function/Keys", "size", "I", (.int (1 : Int32))), ("com/example/centile/centile/function/Keys", "selection", "Lcom/example/centile/centile/function/Selection;", .null)] := F_p0.put 1 rfl W3
  clear W3
  refine o_lloadN P (hb hby de3_20) rfl (pc' := 21) rfl ?_
  refine o_lastore P (v := (.long x0)) A_p1 (List.Mem.tail _ (List.Mem.head _)) (by decide) (of_decide_eq_true rfl) rfl (hb hby de3_21) (pc' := 22) rfl ?_
  clear P; clear A_p1; intro T h4 P W4 A_p1
  replace F_p0 := F_p0.oth W4 ne_p0_p1
  clear W4
  replace A_p1 : OArr Z h4 p1 .long [(.long x0), (.long (0 : Int64)), (.long (0 : Int64)), (.long (0 : Int64)), (.long (0 : Int64)), (.long (0 : Int64)), (.long (0 : Int64)), (.long (0 : Int64)), (.long (0 : Int64)), (.long (0 : Int64)), (.long (0 : Int64)), (.long (0 : Int64)), (.long (0 : Int64)), (.long (0 : Int64)), (.long (0 : Int64)), (.long (0 : Int64))] := A_p1
  refine o_aloadN P (hb hby de3_22) rfl rfl (pc' := 23) rfl ?_
  refine o_aconstNull P (hb hby de3_23) (pc' := 24) rfl ?_
  refine o_putF P (v' := .null) (ty := (.object "com/example/centile/centile/function/Selection")) (ow hw 24 rfl) Via.refl (F_p0.fld 2 rfl) F_p0.exa (Or.inl (ow hw 25 rfl)) (ow hw 1 rfl) (by decide) rfl rfl (List.Mem.head _) (hb hby de3_24) (pc' := 27) rfl ?_
  clear P; intro T h5 P W5
  replace A_p1 := A_p1.oth W5 (Ne.symm ne_p0_p1)
  replace F_p0 : OObj Z h5 p0 "com/example/centile/centile/function/Keys" [("com/example/centile/centile/function/Keys", "keys", "[J", (.ref p1)), ("com/example/centile/centile/function/Keys", "size", "I", (.int (1 : Int32))), ("com/example/centile/centile/function/Keys", "selection", "Lcom/example/centile/centile/function/Selection;", .null)] := F_p0.put 2 rfl W5
  clear W5
  exact o_ret0 P hret (hb hby de3_27) (by decide) (by decide) ⟨rfl, F_p0, A_p1, trivial⟩
theorem ef_ct_e7 (x0 : Addr) (x1 : Int32) (m : MethodId) : entryFrame m #[(.ref x0), (.int x1)] 4 = mkF m 0 #[.val (.ref x0), .val (.int x1), .unset, .unset] [] := by first | (simp [entryFrame, mkF, argsToLocals, o_catR, o_catN, o_catI, o_catJ, o_catD]; done) | rfl
set_option maxRecDepth 65536 in
set_option maxHeartbeats 40000000 in
theorem ct_e7 (l : Launch) (Z : State) (a0 : Array Value) (hw : ∀ d ∈ tables_1, d.before a0 Z = true) (EL : List (String × Nat)) (n0 : Nat) (p0 : Addr) (p1 : Addr) (x0 : Int64) (had : Sta Z Z.heap "java/util/BitSet" "$assertionsDisabled" "Z" (.int 1)) (od : Addr) (hod : Sta Z Z.heap "com/example/centile/centile/function/Order" "ASCENDING" "Lcom/example/centile/centile/function/Order;" (.ref od)) (h0 : Heap) (F_p0 : OObj Z h0 p0 "com/example/centile/centile/function/Keys" [("com/example/centile/centile/function/Keys", "keys", "[J", (.ref p1)), ("com/example/centile/centile/function/Keys", "size", "I", (.int (1 : Int32))), ("com/example/centile/centile/function/Keys", "selection", "Lcom/example/centile/centile/function/Selection;", .null)]) (A_p1 : OArr Z h0 p1 .long [(.long x0), (.long (0 : Int64)), (.long (0 : Int64)), (.long (0 : Int64)), (.long (0 : Int64)), (.long (0 : Int64)), (.long (0 : Int64)), (.long (0 : Int64)), (.long (0 : Int64)), (.long (0 : Int64)), (.long (0 : Int64)), (.long (0 : Int64)), (.long (0 : Int64)), (.long (0 : Int64)), (.long (0 : Int64)), (.long (0 : Int64))]) (ne_p0_p1 : p0 ≠ p1) :
    OCt l Z a0 EL n0 (⟨"com/example/centile/centile/function/Keys", "ensureRoom", "(I)V"⟩ : MethodName) prog_11_method_7_code 4 none ({ frames := 0, cells := 0, slots := 0, locals := 0 } : Room) [] #[(.ref p0), (.int (1 : Int32))] h0 [] (fun w vm h => w = none ∧ h = h0) := by
  refine OCt.body (plainFor_of_name pn_e0) (ef_ct_e7 p0 ((1 : Int32))) ?_
  intro p e s m below meth c T hby hml hret hnm hsh P
  refine o_iloadN P (hb hby de4_0) rfl (pc' := 1) rfl ?_
  refine o_ldcI P (ow hw 21 rfl) (hb hby de4_1) (pc' := 3) rfl ?_
  refine o_aloadN P (hb hby de4_3) rfl rfl (pc' := 4) rfl ?_
  refine o_getF P (ow hw 22 rfl) Via.refl (F_p0.fld 1 rfl) (hb hby de4_4) (pc' := 7) rfl ?_
  clear P; intro T P
  refine o_isub P (hb hby de4_7) (pc' := 8) rfl ?_
  show OG p e below m _ T 8 #[.val (.ref p0), .val (.int (1 : Int32)), .unset, .unset] [(.int (2147483638 : Int32)), (.int (1 : Int32))]
  refine o_icmp_le P (hb hby de4_8) (by decide) (pc' := 21) (by decide) (pcf := 11) rfl (fun _ => ?_) (fun q => absurd q (by decide))
  refine o_aloadN P (hb hby de4_21) rfl rfl (pc' := 22) rfl ?_
  refine o_getF P (ow hw 22 rfl) Via.refl (F_p0.fld 1 rfl) (hb hby de4_22) (pc' := 25) rfl ?_
  clear P; intro T P
  refine o_iloadN P (hb hby de4_25) rfl (pc' := 26) rfl ?_
  refine o_iadd P (hb hby de4_26) (pc' := 27) rfl ?_
  show OG p e below m _ T 27 #[.val (.ref p0), .val (.int (1 : Int32)), .unset, .unset] [(.int (2 : Int32))]
  refine o_istoreN P (hb hby de4_27) (L' := #[.val (.ref p0), .val (.int (1 : Int32)), .val (.int (2 : Int32)), .unset]) rfl (pc' := 28) rfl ?_
  refine o_iloadN P (hb hby de4_28) rfl (pc' := 29) rfl ?_
  refine o_aloadN P (hb hby de4_29) rfl rfl (pc' := 30) rfl ?_
  refine o_getF P (ow hw 10 rfl) Via.refl (F_p0.fld 0 rfl) (hb hby de4_30) (pc' := 33) rfl ?_
  clear P; intro T P
  refine o_arrlen P A_p1 (hb hby de4_33) (n := (16 : Int32)) rfl (pc' := 34) rfl ?_
  refine o_icmp_le P (hb hby de4_34) (by decide) (pc' := 76) (by decide) (pcf := 37) rfl (fun _ => ?_) (fun q => absurd q (by decide))
  exact o_ret0 P hret (hb hby de4_76) (by decide) (by decide) ⟨rfl, rfl⟩
theorem ef_ct_e8 (x0 : Addr) (x1 : Int64) (m : MethodId) : entryFrame m #[(.ref x0), (.long x1)] 3 = mkF m 0 #[.val (.ref x0), .val (.long x1), .second] [] := by first | (simp [entryFrame, mkF, argsToLocals, o_catR, o_catN, o_catI, o_catJ, o_catD]; done) | rfl
set_option maxRecDepth 65536 in
set_option maxHeartbeats 40000000 in
theorem ct_e8 (l : Launch) (Z : State) (a0 : Array Value) (hw : ∀ d ∈ tables_1, d.before a0 Z = true) (EL : List (String × Nat)) (n0 : Nat) (p0 : Addr) (p1 : Addr) (x0 : Int64) (x1 : Int64) (had : Sta Z Z.heap "java/util/BitSet" "$assertionsDisabled" "Z" (.int 1)) (od : Addr) (hod : Sta Z Z.heap "com/example/centile/centile/function/Order" "ASCENDING" "Lcom/example/centile/centile/function/Order;" (.ref od)) (h0 : Heap) (F_p0 : OObj Z h0 p0 "com/example/centile/centile/function/Keys" [("com/example/centile/centile/function/Keys", "keys", "[J", (.ref p1)), ("com/example/centile/centile/function/Keys", "size", "I", (.int (1 : Int32))), ("com/example/centile/centile/function/Keys", "selection", "Lcom/example/centile/centile/function/Selection;", .null)]) (A_p1 : OArr Z h0 p1 .long [(.long x1), (.long (0 : Int64)), (.long (0 : Int64)), (.long (0 : Int64)), (.long (0 : Int64)), (.long (0 : Int64)), (.long (0 : Int64)), (.long (0 : Int64)), (.long (0 : Int64)), (.long (0 : Int64)), (.long (0 : Int64)), (.long (0 : Int64)), (.long (0 : Int64)), (.long (0 : Int64)), (.long (0 : Int64)), (.long (0 : Int64))]) (ne_p0_p1 : p0 ≠ p1) :
    OCt l Z a0 EL n0 (⟨"com/example/centile/centile/function/Keys", "add", "(J)V"⟩ : MethodName) prog_11_method_4_code 3 none ({ frames := 1, cells := 0, slots := 0, locals := 15 } : Room) [] #[(.ref p0), (.long x0)] h0 [p0, p1] (fun w vm h => w = none ∧ OObj Z h p0 "com/example/centile/centile/function/Keys" [("com/example/centile/centile/function/Keys", "keys", "[J", (.ref p1)), ("com/example/centile/centile/function/Keys", "size", "I", (.int (2 : Int32))), ("com/example/centile/centile/function/Keys", "selection", "Lcom/example/centile/centile/function/Selection;", .null)] ∧ OArr Z h p1 .long [(.long x1), (.long x0), (.long (0 : Int64)), (.long (0 : Int64)), (.long (0 : Int64)), (.long (0 : Int64)), (.long (0 : Int64)), (.long (0 : Int64)), (.long (0 : Int64)), (.long (0 : Int64)), (.long (0 : Int64)), (.long (0 : Int64)), (.long (0 : Int64)), (.long (0 : Int64)), (.long (0 : Int64)), (.long (0 : Int64))] ∧ True) := by
  refine OCt.body (plainFor_of_name pn_e0) (ef_ct_e8 p0 x0) ?_
  intro p e s m below meth c T hby hml hret hnm hsh P
  refine o_aloadN P (hb hby de3_0) rfl rfl (pc' := 1) rfl ?_
  refine o_iconst P (1 : Int32) (hb hby de3_1) rfl (pc' := 2) rfl ?_
  refine o_callQ P (W := 0) (a := p0) (ow hw 17 rfl) (ow hw 18 rfl) (ow hw 1 rfl) (ow hw 19 rfl) (ow hw 2 rfl) (ow hw 20 rfl) (by decide) F_p0.exa (ct_e7 l Z a0 hw EL n0 p0 p1 x1 had od hod h0 F_p0 A_p1 ne_p0_p1) o_sf0 (by rw [hml]; rfl) (by decide) (by decide) (argsL := [(.int (1 : Int32))]) (rest := []) (lenOf pd_1 rfl) rfl rfl (Nat.le_of_eq rfl) (hb hby de3_2) (pc' := 5) rfl (by decide) (by decide) ?_
  clear P; intro T h2 v2 P K2 q2
  obtain ⟨rfl, rfl⟩ := q2; clear K2
  show OG p e below m _ T 5 #[.val (.ref p0), .val (.long x0), .second] []
  refine o_aloadN P (hb hby de3_5) rfl rfl (pc' := 6) rfl ?_
  refine o_getF P (ow hw 10 rfl) Via.refl (F_p0.fld 0 rfl) (hb hby de3_6) (pc' := 9) rfl ?_
  clear P; intro T P
  refine o_aloadN P (hb hby de3_9) rfl rfl (pc' := 10) rfl ?_
  refine o_dup P (hb hby de3_10) rfl (pc' := 11) rfl ?_
  refine o_getF P (ow hw 22 rfl) Via.refl (F_p0.fld 1 rfl) (hb hby de3_11) (pc' := 14) rfl ?_
  clear P; intro T P
  refine o_dupX1 P (hb hby de3_14) rfl rfl (pc' := 15) rfl ?_
  refine o_iconst P (1 : Int32) (hb hby de3_15) rfl (pc' := 16) rfl ?_
  refine o_iadd P (hb hby de3_16) (pc' := 17) rfl ?_
  show OG p e below m _ T 17 #[.val (.ref p0), .val (.long x0), .second] [(.int (2 : Int32)), (.ref p0), (.int (1 : Int32)), (.ref p1)]
  refine o_putF P (v' := (.int (2 : Int32))) (ty := .int) (ow hw 22 rfl) Via.refl (F_p0.fld 1 rfl) F_p0.exa (Or.inl (ow hw 23 rfl)) (ow hw 1 rfl) (by decide) rfl rfl (List.Mem.head _) (hb hby de3_17) (pc' := 20) rfl ?_
  clear P; intro T h3 P W3
  replace A_p1 := A_p1.oth W3 (Ne.symm ne_p0_p1)
  replace F_p0 : OObj Z h3 p0 "com/example/centile/centile/function/Keys" [("com/example/centile/centile/function/Keys", "keys", "[J", (.ref p1)), ("com/example/centile/centile/function/Keys", "size", "I", (.int (2 : Int32))), ("com/example/centile/centile/function/Keys", "selection", "Lcom/example/centile/centile/function/Selection;", .null)] := F_p0.put 1 rfl W3
  clear W3
  refine o_lloadN P (hb hby de3_20) rfl (pc' := 21) rfl ?_
  refine o_lastore P (v := (.long x0)) A_p1 (List.Mem.tail _ (List.Mem.head _)) (by decide) (of_decide_eq_true rfl) rfl (hb hby de3_21) (pc' := 22) rfl ?_
  clear P; clear A_p1; intro T h4 P W4 A_p1
  replace F_p0 := F_p0.oth W4 ne_p0_p1
  clear W4
  replace A_p1 : OArr Z h4 p1 .long [(.long x1), (.long x0), (.long (0 : Int64)), (.long (0 : Int64)), (.long (0 : Int64)), (.long (0 : Int64)), (.long (0 : Int64)), (.long (0 : Int64)), (.long (0 : Int64)), (.long (0 : Int64)), (.long (0 : Int64)), (.long (0 : Int64)), (.long (0 : Int64)), (.long (0 : Int64)), (.long (0 : Int64)), (.long (0 : Int64))] := A_p1
  refine o_aloadN P (hb hby de3_22) rfl rfl (pc' := 23) rfl ?_
  refine o_aconstNull P (hb hby de3_23) (pc' := 24) rfl ?_
  refine o_putF P (v' := .null) (ty := (.object "com/example/centile/centile/function/Selection")) (ow hw 24 rfl) Via.refl (F_p0.fld 2 rfl) F_p0.exa (Or.inl (ow hw 25 rfl)) (ow hw 1 rfl) (by decide) rfl rfl (List.Mem.head _) (hb hby de3_24) (pc' := 27) rfl ?_
  clear P; intro T h5 P W5
  replace A_p1 := A_p1.oth W5 (Ne.symm ne_p0_p1)
  replace F_p0 : OObj Z h5 p0 "com/example/centile/centile/function/Keys" [("com/example/centile/centile/function/Keys", "keys", "[J", (.ref p1)), ("com/example/centile/centile/function/Keys", "size", "I", (.int (2 : Int32))), ("com/example/centile/centile/function/Keys", "selection", "Lcom/example/centile/centile/function/Selection;", .null)] := F_p0.put 2 rfl W5
  clear W5
  exact o_ret0 P hret (hb hby de3_27) (by decide) (by decide) ⟨rfl, F_p0, A_p1, trivial⟩
theorem de9_0 : decode prog_11_method_5_code 0 = .ok (.aload_n 1, 1) := by decide +kernel
theorem de9_1 : decode prog_11_method_5_code 1 = .ok (.getfield 15, 3) := by decide +kernel
theorem de9_4 : decode prog_11_method_5_code 4 = .ok (.istore_n 2, 1) := by decide +kernel
theorem de9_5 : decode prog_11_method_5_code 5 = .ok (.iload_n 2, 1) := by decide +kernel
theorem de9_6 : decode prog_11_method_5_code 6 = .ok (.ifCond .le 40, 3) := by decide +kernel
theorem de9_9 : decode prog_11_method_5_code 9 = .ok (.aload_n 0, 1) := by decide +kernel
theorem de9_10 : decode prog_11_method_5_code 10 = .ok (.iload_n 2, 1) := by decide +kernel
theorem de9_11 : decode prog_11_method_5_code 11 = .ok (.invokevirtual 19, 3) := by decide +kernel
theorem de9_14 : decode prog_11_method_5_code 14 = .ok (.aload_n 1, 1) := by decide +kernel
theorem de9_15 : decode prog_11_method_5_code 15 = .ok (.getfield 9, 3) := by decide +kernel
theorem de9_18 : decode prog_11_method_5_code 18 = .ok (.iconst 0, 1) := by decide +kernel
theorem de9_19 : decode prog_11_method_5_code 19 = .ok (.aload_n 0, 1) := by decide +kernel
theorem de9_20 : decode prog_11_method_5_code 20 = .ok (.getfield 9, 3) := by decide +kernel
theorem de9_23 : decode prog_11_method_5_code 23 = .ok (.aload_n 0, 1) := by decide +kernel
theorem de9_24 : decode prog_11_method_5_code 24 = .ok (.getfield 15, 3) := by decide +kernel
theorem de9_27 : decode prog_11_method_5_code 27 = .ok (.iload_n 2, 1) := by decide +kernel
theorem de9_28 : decode prog_11_method_5_code 28 = .ok (.invokestatic 27, 3) := by decide +kernel
theorem de9_31 : decode prog_11_method_5_code 31 = .ok (.aload_n 0, 1) := by decide +kernel
theorem de9_32 : decode prog_11_method_5_code 32 = .ok (.dup, 1) := by decide +kernel
theorem de9_33 : decode prog_11_method_5_code 33 = .ok (.getfield 15, 3) := by decide +kernel
theorem de9_36 : decode prog_11_method_5_code 36 = .ok (.iload_n 2, 1) := by decide +kernel
theorem de9_37 : decode prog_11_method_5_code 37 = .ok (.iadd, 1) := by decide +kernel
theorem de9_38 : decode prog_11_method_5_code 38 = .ok (.putfield 15, 3) := by decide +kernel
theorem de9_41 : decode prog_11_method_5_code 41 = .ok (.aload_n 0, 1) := by decide +kernel
theorem de9_42 : decode prog_11_method_5_code 42 = .ok (.aconst_null, 1) := by decide +kernel
theorem de9_43 : decode prog_11_method_5_code 43 = .ok (.putfield 23, 3) := by decide +kernel
theorem de9_46 : decode prog_11_method_5_code 46 = .ok (.return_, 1) := by decide +kernel
theorem ef_ct_e10 (x0 : Addr) (x1 : Int32) (m : MethodId) : entryFrame m #[(.ref x0), (.int x1)] 4 = mkF m 0 #[.val (.ref x0), .val (.int x1), .unset, .unset] [] := by first | (simp [entryFrame, mkF, argsToLocals, o_catR, o_catN, o_catI, o_catJ, o_catD]; done) | rfl
set_option maxRecDepth 65536 in
set_option maxHeartbeats 40000000 in
theorem ct_e10 (l : Launch) (Z : State) (a0 : Array Value) (hw : ∀ d ∈ tables_1, d.before a0 Z = true) (EL : List (String × Nat)) (n0 : Nat) (p0 : Addr) (p1 : Addr) (x0 : Int64) (x1 : Int64) (had : Sta Z Z.heap "java/util/BitSet" "$assertionsDisabled" "Z" (.int 1)) (od : Addr) (hod : Sta Z Z.heap "com/example/centile/centile/function/Order" "ASCENDING" "Lcom/example/centile/centile/function/Order;" (.ref od)) (h0 : Heap) (F_p0 : OObj Z h0 p0 "com/example/centile/centile/function/Keys" [("com/example/centile/centile/function/Keys", "keys", "[J", (.ref p1)), ("com/example/centile/centile/function/Keys", "size", "I", (.int (2 : Int32))), ("com/example/centile/centile/function/Keys", "selection", "Lcom/example/centile/centile/function/Selection;", .null)]) (A_p1 : OArr Z h0 p1 .long [(.long x0), (.long x1), (.long (0 : Int64)), (.long (0 : Int64)), (.long (0 : Int64)), (.long (0 : Int64)), (.long (0 : Int64)), (.long (0 : Int64)), (.long (0 : Int64)), (.long (0 : Int64)), (.long (0 : Int64)), (.long (0 : Int64)), (.long (0 : Int64)), (.long (0 : Int64)), (.long (0 : Int64)), (.long (0 : Int64))]) (ne_p0_p1 : p0 ≠ p1) :
    OCt l Z a0 EL n0 (⟨"com/example/centile/centile/function/Keys", "ensureRoom", "(I)V"⟩ : MethodName) prog_11_method_7_code 4 none ({ frames := 0, cells := 0, slots := 0, locals := 0 } : Room) [] #[(.ref p0), (.int (2 : Int32))] h0 [] (fun w vm h => w = none ∧ h = h0) := by
  refine OCt.body (plainFor_of_name pn_e0) (ef_ct_e10 p0 ((2 : Int32))) ?_
  intro p e s m below meth c T hby hml hret hnm hsh P
  refine o_iloadN P (hb hby de4_0) rfl (pc' := 1) rfl ?_
  refine o_ldcI P (ow hw 21 rfl) (hb hby de4_1) (pc' := 3) rfl ?_
  refine o_aloadN P (hb hby de4_3) rfl rfl (pc' := 4) rfl ?_
  refine o_getF P (ow hw 22 rfl) Via.refl (F_p0.fld 1 rfl) (hb hby de4_4) (pc' := 7) rfl ?_
  clear P; intro T P
  refine o_isub P (hb hby de4_7) (pc' := 8) rfl ?_
  show OG p e below m _ T 8 #[.val (.ref p0), .val (.int (2 : Int32)), .unset, .unset] [(.int (2147483637 : Int32)), (.int (2 : Int32))]
  refine o_icmp_le P (hb hby de4_8) (by decide) (pc' := 21) (by decide) (pcf := 11) rfl (fun _ => ?_) (fun q => absurd q (by decide))
  refine o_aloadN P (hb hby de4_21) rfl rfl (pc' := 22) rfl ?_
  refine o_getF P (ow hw 22 rfl) Via.refl (F_p0.fld 1 rfl) (hb hby de4_22) (pc' := 25) rfl ?_
  clear P; intro T P
  refine o_iloadN P (hb hby de4_25) rfl (pc' := 26) rfl ?_
  refine o_iadd P (hb hby de4_26) (pc' := 27) rfl ?_
  show OG p e below m _ T 27 #[.val (.ref p0), .val (.int (2 : Int32)), .unset, .unset] [(.int (4 : Int32))]
  refine o_istoreN P (hb hby de4_27) (L' := #[.val (.ref p0), .val (.int (2 : Int32)), .val (.int (4 : Int32)), .unset]) rfl (pc' := 28) rfl ?_
  refine o_iloadN P (hb hby de4_28) rfl (pc' := 29) rfl ?_
  refine o_aloadN P (hb hby de4_29) rfl rfl (pc' := 30) rfl ?_
  refine o_getF P (ow hw 10 rfl) Via.refl (F_p0.fld 0 rfl) (hb hby de4_30) (pc' := 33) rfl ?_
  clear P; intro T P
  refine o_arrlen P A_p1 (hb hby de4_33) (n := (16 : Int32)) rfl (pc' := 34) rfl ?_
  refine o_icmp_le P (hb hby de4_34) (by decide) (pc' := 76) (by decide) (pcf := 37) rfl (fun _ => ?_) (fun q => absurd q (by decide))
  exact o_ret0 P hret (hb hby de4_76) (by decide) (by decide) ⟨rfl, rfl⟩
theorem ef_ct_e11 (x0 : Addr) (x1 : Addr) (m : MethodId) : entryFrame m #[(.ref x0), (.ref x1)] 3 = mkF m 0 #[.val (.ref x0), .val (.ref x1), .unset] [] := by first | (simp [entryFrame, mkF, argsToLocals, o_catR, o_catN, o_catI, o_catJ, o_catD]; done) | rfl
set_option maxRecDepth 65536 in
set_option maxHeartbeats 40000000 in
theorem ct_e11 (l : Launch) (Z : State) (a0 : Array Value) (hw : ∀ d ∈ tables_1, d.before a0 Z = true) (EL : List (String × Nat)) (n0 : Nat) (p0 : Addr) (p1 : Addr) (x0 : Int64) (x1 : Int64) (had : Sta Z Z.heap "java/util/BitSet" "$assertionsDisabled" "Z" (.int 1)) (od : Addr) (hod : Sta Z Z.heap "com/example/centile/centile/function/Order" "ASCENDING" "Lcom/example/centile/centile/function/Order;" (.ref od)) (h0 : Heap) (F_p0 : OObj Z h0 p0 "com/example/centile/centile/function/Keys" [("com/example/centile/centile/function/Keys", "keys", "[J", (.ref p1)), ("com/example/centile/centile/function/Keys", "size", "I", (.int (2 : Int32))), ("com/example/centile/centile/function/Keys", "selection", "Lcom/example/centile/centile/function/Selection;", .null)]) (A_p1 : OArr Z h0 p1 .long [(.long x0), (.long x1), (.long (0 : Int64)), (.long (0 : Int64)), (.long (0 : Int64)), (.long (0 : Int64)), (.long (0 : Int64)), (.long (0 : Int64)), (.long (0 : Int64)), (.long (0 : Int64)), (.long (0 : Int64)), (.long (0 : Int64)), (.long (0 : Int64)), (.long (0 : Int64)), (.long (0 : Int64)), (.long (0 : Int64))]) (ne_p0_p1 : p0 ≠ p1) :
    OCt l Z a0 EL n0 (⟨"com/example/centile/centile/function/Keys", "addAll", "(Lcom/example/centile/centile/function/Keys;)V"⟩ : MethodName) prog_11_method_5_code 3 none ({ frames := 1, cells := 0, slots := 0, locals := 24 } : Room) [] #[(.ref p0), (.ref p0)] h0 [p0, p1] (fun w vm h => w = none ∧ OObj Z h p0 "com/example/centile/centile/function/Keys" [("com/example/centile/centile/function/Keys", "keys", "[J", (.ref p1)), ("com/example/centile/centile/function/Keys", "size", "I", (.int (4 : Int32))), ("com/example/centile/centile/function/Keys", "selection", "Lcom/example/centile/centile/function/Selection;", .null)] ∧ OArr Z h p1 .long [(.long x0), (.long x1), (.long x0), (.long x1), (.long (0 : Int64)), (.long (0 : Int64)), (.long (0 : Int64)), (.long (0 : Int64)), (.long (0 : Int64)), (.long (0 : Int64)), (.long (0 : Int64)), (.long (0 : Int64)), (.long (0 : Int64)), (.long (0 : Int64)), (.long (0 : Int64)), (.long (0 : Int64))] ∧ True) := by
  refine OCt.body (plainFor_of_name pn_e0) (ef_ct_e11 p0 p0) ?_
  intro p e s m below meth c T hby hml hret hnm hsh P
  refine o_aloadN P (hb hby de9_0) rfl rfl (pc' := 1) rfl ?_
  refine o_getF P (ow hw 22 rfl) Via.refl (F_p0.fld 1 rfl) (hb hby de9_1) (pc' := 4) rfl ?_
  clear P; intro T P
  refine o_istoreN P (hb hby de9_4) (L' := #[.val (.ref p0), .val (.ref p0), .val (.int (2 : Int32))]) rfl (pc' := 5) rfl ?_
  refine o_iloadN P (hb hby de9_5) rfl (pc' := 6) rfl ?_
  refine o_if_le P (hb hby de9_6) (by decide) (pc' := 46) (by decide) (pcf := 9) rfl (fun q => absurd (by decide) q) (fun _ => ?_)
  refine o_aloadN P (hb hby de9_9) rfl rfl (pc' := 10) rfl ?_
  refine o_iloadN P (hb hby de9_10) rfl (pc' := 11) rfl ?_
  refine o_callQ P (W := 0) (a := p0) (ow hw 17 rfl) (ow hw 18 rfl) (ow hw 1 rfl) (ow hw 19 rfl) (ow hw 2 rfl) (ow hw 20 rfl) (by decide) F_p0.exa (ct_e10 l Z a0 hw EL n0 p0 p1 x0 x1 had od hod h0 F_p0 A_p1 ne_p0_p1) o_sf0 (by rw [hml]; rfl) (by decide) (by decide) (argsL := [(.int (2 : Int32))]) (rest := []) (lenOf pd_1 rfl) rfl rfl (Nat.le_of_eq rfl) (hb hby de9_11) (pc' := 14) rfl (by decide) (by decide) ?_
  clear P; intro T h2 v2 P K2 q2
  obtain ⟨rfl, rfl⟩ := q2; clear K2
  show OG p e below m _ T 14 #[.val (.ref p0), .val (.ref p0), .val (.int (2 : Int32))] []
  refine o_aloadN P (hb hby de9_14) rfl rfl (pc' := 15) rfl ?_
  refine o_getF P (ow hw 10 rfl) Via.refl (F_p0.fld 0 rfl) (hb hby de9_15) (pc' := 18) rfl ?_
  clear P; intro T P
  refine o_iconst P (0 : Int32) (hb hby de9_18) rfl (pc' := 19) rfl ?_
  refine o_aloadN P (hb hby de9_19) rfl rfl (pc' := 20) rfl ?_
  refine o_getF P (ow hw 10 rfl) Via.refl (F_p0.fld 0 rfl) (hb hby de9_20) (pc' := 23) rfl ?_
  clear P; intro T P
  refine o_aloadN P (hb hby de9_23) rfl rfl (pc' := 24) rfl ?_
  refine o_getF P (ow hw 22 rfl) Via.refl (F_p0.fld 1 rfl) (hb hby de9_24) (pc' := 27) rfl ?_
  clear P; intro T P
  refine o_iloadN P (hb hby de9_27) rfl (pc' := 28) rfl ?_
  refine o_cpA P (W := 0) (us := [(.long x0), (.long x1)]) (ow hw 31 rfl) (ow hw 34 rfl) (ow hw 32 rfl) (ow hw 33 rfl) A_p1 A_p1 (List.Mem.tail _ (List.Mem.head _)) (Or.inl ⟨rfl, rfl⟩) (by decide) (by decide) (by decide) (of_decide_eq_true rfl) (of_decide_eq_true rfl) rfl (by rw [hml]; rfl) (by decide) (Nat.le_of_eq rfl) (by decide) (hb hby de9_28) (pc' := 31) rfl ?_
  clear P; intro T h3 P K3 A'
  replace F_p0 := F_p0.keep K3 (ninS ne_p0_p1 nin0)
  clear A_p1; have A_p1 : OArr Z h3 p1 .long [(.long x0), (.long x1), (.long x0), (.long x1), (.long (0 : Int64)), (.long (0 : Int64)), (.long (0 : Int64)), (.long (0 : Int64)), (.long (0 : Int64)), (.long (0 : Int64)), (.long (0 : Int64)), (.long (0 : Int64)), (.long (0 : Int64)), (.long (0 : Int64)), (.long (0 : Int64)), (.long (0 : Int64))] := A'; clear A' K3
  refine o_aloadN P (hb hby de9_31) rfl rfl (pc' := 32) rfl ?_
  refine o_dup P (hb hby de9_32) rfl (pc' := 33) rfl ?_
  refine o_getF P (ow hw 22 rfl) Via.refl (F_p0.fld 1 rfl) (hb hby de9_33) (pc' := 36) rfl ?_
  clear P; intro T P
  refine o_iloadN P (hb hby de9_36) rfl (pc' := 37) rfl ?_
  refine o_iadd P (hb hby de9_37) (pc' := 38) rfl ?_
  show OG p e below m _ T 38 #[.val (.ref p0), .val (.ref p0), .val (.int (2 : Int32))] [(.int (4 : Int32)), (.ref p0)]
  refine o_putF P (v' := (.int (4 : Int32))) (ty := .int) (ow hw 22 rfl) Via.refl (F_p0.fld 1 rfl) F_p0.exa (Or.inl (ow hw 23 rfl)) (ow hw 1 rfl) (by decide) rfl rfl (List.Mem.head _) (hb hby de9_38) (pc' := 41) rfl ?_
  clear P; intro T h4 P W4
  replace A_p1 := A_p1.oth W4 (Ne.symm ne_p0_p1)
  replace F_p0 : OObj Z h4 p0 "com/example/centile/centile/function/Keys" [("com/example/centile/centile/function/Keys", "keys", "[J", (.ref p1)), ("com/example/centile/centile/function/Keys", "size", "I", (.int (4 : Int32))), ("com/example/centile/centile/function/Keys", "selection", "Lcom/example/centile/centile/function/Selection;", .null)] := F_p0.put 1 rfl W4
  clear W4
  refine o_aloadN P (hb hby de9_41) rfl rfl (pc' := 42) rfl ?_
  refine o_aconstNull P (hb hby de9_42) (pc' := 43) rfl ?_
  refine o_putF P (v' := .null) (ty := (.object "com/example/centile/centile/function/Selection")) (ow hw 24 rfl) Via.refl (F_p0.fld 2 rfl) F_p0.exa (Or.inl (ow hw 25 rfl)) (ow hw 1 rfl) (by decide) rfl rfl (List.Mem.head _) (hb hby de9_43) (pc' := 46) rfl ?_
  clear P; intro T h5 P W5
  replace A_p1 := A_p1.oth W5 (Ne.symm ne_p0_p1)
  replace F_p0 : OObj Z h5 p0 "com/example/centile/centile/function/Keys" [("com/example/centile/centile/function/Keys", "keys", "[J", (.ref p1)), ("com/example/centile/centile/function/Keys", "size", "I", (.int (4 : Int32))), ("com/example/centile/centile/function/Keys", "selection", "Lcom/example/centile/centile/function/Selection;", .null)] := F_p0.put 2 rfl W5
  clear W5
  exact o_ret0 P hret (hb hby de9_46) (by decide) (by decide) ⟨rfl, F_p0, A_p1, trivial⟩
theorem ef_ct_e12 (x0 : Addr) (x1 : Int32) (m : MethodId) : entryFrame m #[(.ref x0), (.int x1)] 4 = mkF m 0 #[.val (.ref x0), .val (.int x1), .unset, .unset] [] := by first | (simp [entryFrame, mkF, argsToLocals, o_catR, o_catN, o_catI, o_catJ, o_catD]; done) | rfl
set_option maxRecDepth 65536 in
set_option maxHeartbeats 40000000 in
theorem ct_e12 (l : Launch) (Z : State) (a0 : Array Value) (hw : ∀ d ∈ tables_1, d.before a0 Z = true) (EL : List (String × Nat)) (n0 : Nat) (p0 : Addr) (p1 : Addr) (x0 : Int64) (x1 : Int64) (had : Sta Z Z.heap "java/util/BitSet" "$assertionsDisabled" "Z" (.int 1)) (od : Addr) (hod : Sta Z Z.heap "com/example/centile/centile/function/Order" "ASCENDING" "Lcom/example/centile/centile/function/Order;" (.ref od)) (h0 : Heap) (F_p0 : OObj Z h0 p0 "com/example/centile/centile/function/Keys" [("com/example/centile/centile/function/Keys", "keys", "[J", (.ref p1)), ("com/example/centile/centile/function/Keys", "size", "I", (.int (4 : Int32))), ("com/example/centile/centile/function/Keys", "selection", "Lcom/example/centile/centile/function/Selection;", .null)]) (A_p1 : OArr Z h0 p1 .long [(.long x0), (.long x1), (.long x0), (.long x1), (.long (0 : Int64)), (.long (0 : Int64)), (.long (0 : Int64)), (.long (0 : Int64)), (.long (0 : Int64)), (.long (0 : Int64)), (.long (0 : Int64)), (.long (0 : Int64)), (.long (0 : Int64)), (.long (0 : Int64)), (.long (0 : Int64)), (.long (0 : Int64))]) (ne_p0_p1 : p0 ≠ p1) :
    OCt l Z a0 EL n0 (⟨"com/example/centile/centile/function/Keys", "ensureRoom", "(I)V"⟩ : MethodName) prog_11_method_7_code 4 none ({ frames := 0, cells := 0, slots := 0, locals := 0 } : Room) [] #[(.ref p0), (.int (4 : Int32))] h0 [] (fun w vm h => w = none ∧ h = h0) := by
  refine OCt.body (plainFor_of_name pn_e0) (ef_ct_e12 p0 ((4 : Int32))) ?_
  intro p e s m below meth c T hby hml hret hnm hsh P
  refine o_iloadN P (hb hby de4_0) rfl (pc' := 1) rfl ?_
  refine o_ldcI P (ow hw 21 rfl) (hb hby de4_1) (pc' := 3) rfl ?_
  refine o_aloadN P (hb hby de4_3) rfl rfl (pc' := 4) rfl ?_
  refine o_getF P (ow hw 22 rfl) Via.refl (F_p0.fld 1 rfl) (hb hby de4_4) (pc' := 7) rfl ?_
  clear P; intro T P
  refine o_isub P (hb hby de4_7) (pc' := 8) rfl ?_
  show OG p e below m _ T 8 #[.val (.ref p0), .val (.int (4 : Int32)), .unset, .unset] [(.int (2147483635 : Int32)), (.int (4 : Int32))]
  refine o_icmp_le P (hb hby de4_8) (by decide) (pc' := 21) (by decide) (pcf := 11) rfl (fun _ => ?_) (fun q => absurd q (by decide))
  refine o_aloadN P (hb hby de4_21) rfl rfl (pc' := 22) rfl ?_
  refine o_getF P (ow hw 22 rfl) Via.refl (F_p0.fld 1 rfl) (hb hby de4_22) (pc' := 25) rfl ?_
  clear P; intro T P
  refine o_iloadN P (hb hby de4_25) rfl (pc' := 26) rfl ?_
  refine o_iadd P (hb hby de4_26) (pc' := 27) rfl ?_
  show OG p e below m _ T 27 #[.val (.ref p0), .val (.int (4 : Int32)), .unset, .unset] [(.int (8 : Int32))]
  refine o_istoreN P (hb hby de4_27) (L' := #[.val (.ref p0), .val (.int (4 : Int32)), .val (.int (8 : Int32)), .unset]) rfl (pc' := 28) rfl ?_
  refine o_iloadN P (hb hby de4_28) rfl (pc' := 29) rfl ?_
  refine o_aloadN P (hb hby de4_29) rfl rfl (pc' := 30) rfl ?_
  refine o_getF P (ow hw 10 rfl) Via.refl (F_p0.fld 0 rfl) (hb hby de4_30) (pc' := 33) rfl ?_
  clear P; intro T P
  refine o_arrlen P A_p1 (hb hby de4_33) (n := (16 : Int32)) rfl (pc' := 34) rfl ?_
  refine o_icmp_le P (hb hby de4_34) (by decide) (pc' := 76) (by decide) (pcf := 37) rfl (fun _ => ?_) (fun q => absurd q (by decide))
  exact o_ret0 P hret (hb hby de4_76) (by decide) (by decide) ⟨rfl, rfl⟩
theorem ef_ct_e13 (x0 : Addr) (x1 : Addr) (m : MethodId) : entryFrame m #[(.ref x0), (.ref x1)] 3 = mkF m 0 #[.val (.ref x0), .val (.ref x1), .unset] [] := by first | (simp [entryFrame, mkF, argsToLocals, o_catR, o_catN, o_catI, o_catJ, o_catD]; done) | rfl
set_option maxRecDepth 65536 in
set_option maxHeartbeats 40000000 in
theorem ct_e13 (l : Launch) (Z : State) (a0 : Array Value) (hw : ∀ d ∈ tables_1, d.before a0 Z = true) (EL : List (String × Nat)) (n0 : Nat) (p0 : Addr) (p1 : Addr) (x0 : Int64) (x1 : Int64) (had : Sta Z Z.heap "java/util/BitSet" "$assertionsDisabled" "Z" (.int 1)) (od : Addr) (hod : Sta Z Z.heap "com/example/centile/centile/function/Order" "ASCENDING" "Lcom/example/centile/centile/function/Order;" (.ref od)) (h0 : Heap) (F_p0 : OObj Z h0 p0 "com/example/centile/centile/function/Keys" [("com/example/centile/centile/function/Keys", "keys", "[J", (.ref p1)), ("com/example/centile/centile/function/Keys", "size", "I", (.int (4 : Int32))), ("com/example/centile/centile/function/Keys", "selection", "Lcom/example/centile/centile/function/Selection;", .null)]) (A_p1 : OArr Z h0 p1 .long [(.long x0), (.long x1), (.long x0), (.long x1), (.long (0 : Int64)), (.long (0 : Int64)), (.long (0 : Int64)), (.long (0 : Int64)), (.long (0 : Int64)), (.long (0 : Int64)), (.long (0 : Int64)), (.long (0 : Int64)), (.long (0 : Int64)), (.long (0 : Int64)), (.long (0 : Int64)), (.long (0 : Int64))]) (ne_p0_p1 : p0 ≠ p1) :
    OCt l Z a0 EL n0 (⟨"com/example/centile/centile/function/Keys", "addAll", "(Lcom/example/centile/centile/function/Keys;)V"⟩ : MethodName) prog_11_method_5_code 3 none ({ frames := 1, cells := 0, slots := 0, locals := 24 } : Room) [] #[(.ref p0), (.ref p0)] h0 [p0, p1] (fun w vm h => w = none ∧ OObj Z h p0 "com/example/centile/centile/function/Keys" [("com/example/centile/centile/function/Keys", "keys", "[J", (.ref p1)), ("com/example/centile/centile/function/Keys", "size", "I", (.int (8 : Int32))), ("com/example/centile/centile/function/Keys", "selection", "Lcom/example/centile/centile/function/Selection;", .null)] ∧ OArr Z h p1 .long [(.long x0), (.long x1), (.long x0), (.long x1), (.long x0), (.long x1), (.long x0), (.long x1), (.long (0 : Int64)), (.long (0 : Int64)), (.long (0 : Int64)), (.long (0 : Int64)), (.long (0 : Int64)), (.long (0 : Int64)), (.long (0 : Int64)), (.long (0 : Int64))] ∧ True) := by
  refine OCt.body (plainFor_of_name pn_e0) (ef_ct_e13 p0 p0) ?_
  intro p e s m below meth c T hby hml hret hnm hsh P
  refine o_aloadN P (hb hby de9_0) rfl rfl (pc' := 1) rfl ?_
  refine o_getF P (ow hw 22 rfl) Via.refl (F_p0.fld 1 rfl) (hb hby de9_1) (pc' := 4) rfl ?_
  clear P; intro T P
  refine o_istoreN P (hb hby de9_4) (L' := #[.val (.ref p0), .val (.ref p0), .val (.int (4 : Int32))]) rfl (pc' := 5) rfl ?_
  refine o_iloadN P (hb hby de9_5) rfl (pc' := 6) rfl ?_
  refine o_if_le P (hb hby de9_6) (by decide) (pc' := 46) (by decide) (pcf := 9) rfl (fun q => absurd (by decide) q) (fun _ => ?_)
  refine o_aloadN P (hb hby de9_9) rfl rfl (pc' := 10) rfl ?_
  refine o_iloadN P (hb hby de9_10) rfl (pc' := 11) rfl ?_
  refine o_callQ P (W := 0) (a := p0) (ow hw 17 rfl) (ow hw 18 rfl) (ow hw 1 rfl) (ow hw 19 rfl) (ow hw 2 rfl) (ow hw 20 rfl) (by decide) F_p0.exa (ct_e12 l Z a0 hw EL n0 p0 p1 x0 x1 had od hod h0 F_p0 A_p1 ne_p0_p1) o_sf0 (by rw [hml]; rfl) (by decide) (by decide) (argsL := [(.int (4 : Int32))]) (rest := []) (lenOf pd_1 rfl) rfl rfl (Nat.le_of_eq rfl) (hb hby de9_11) (pc' := 14) rfl (by decide) (by decide) ?_
  clear P; intro T h2 v2 P K2 q2
  obtain ⟨rfl, rfl⟩ := q2; clear K2
  show OG p e below m _ T 14 #[.val (.ref p0), .val (.ref p0), .val (.int (4 : Int32))] []
  refine o_aloadN P (hb hby de9_14) rfl rfl (pc' := 15) rfl ?_
  refine o_getF P (ow hw 10 rfl) Via.refl (F_p0.fld 0 rfl) (hb hby de9_15) (pc' := 18) rfl ?_
  clear P; intro T P
  refine o_iconst P (0 : Int32) (hb hby de9_18) rfl (pc' := 19) rfl ?_
  refine o_aloadN P (hb hby de9_19) rfl rfl (pc' := 20) rfl ?_
  refine o_getF P (ow hw 10 rfl) Via.refl (F_p0.fld 0 rfl) (hb hby de9_20) (pc' := 23) rfl ?_
  clear P; intro T P
  refine o_aloadN P (hb hby de9_23) rfl rfl (pc' := 24) rfl ?_
  refine o_getF P (ow hw 22 rfl) Via.refl (F_p0.fld 1 rfl) (hb hby de9_24) (pc' := 27) rfl ?_
  clear P; intro T P
  refine o_iloadN P (hb hby de9_27) rfl (pc' := 28) rfl ?_
  refine o_cpA P (W := 0) (us := [(.long x0), (.long x1), (.long x0), (.long x1)]) (ow hw 31 rfl) (ow hw 34 rfl) (ow hw 32 rfl) (ow hw 33 rfl) A_p1 A_p1 (List.Mem.tail _ (List.Mem.head _)) (Or.inl ⟨rfl, rfl⟩) (by decide) (by decide) (by decide) (of_decide_eq_true rfl) (of_decide_eq_true rfl) rfl (by rw [hml]; rfl) (by decide) (Nat.le_of_eq rfl) (by decide) (hb hby de9_28) (pc' := 31) rfl ?_
  clear P; intro T h3 P K3 A'
  replace F_p0 := F_p0.keep K3 (ninS ne_p0_p1 nin0)
  clear A_p1; have A_p1 : OArr Z h3 p1 .long [(.long x0), (.long x1), (.long x0), (.long x1), (.long x0), (.long x1), (.long x0), (.long x1), (.long (0 : Int64)), (.long (0 : Int64)), (.long (0 : Int64)), (.long (0 : Int64)), (.long (0 : Int64)), (.long (0 : Int64)), (.long (0 : Int64)), (.long (0 : Int64))] := A'; clear A' K3
  refine o_aloadN P (hb hby de9_31) rfl rfl (pc' := 32) rfl ?_
  refine o_dup P (hb hby de9_32) rfl (pc' := 33) rfl ?_
  refine o_getF P (ow hw 22 rfl) Via.refl (F_p0.fld 1 rfl) (hb hby de9_33) (pc' := 36) rfl ?_
  clear P; intro T P
  refine o_iloadN P (hb hby de9_36) rfl (pc' := 37) rfl ?_
  refine o_iadd P (hb hby de9_37) (pc' := 38) rfl ?_
  show OG p e below m _ T 38 #[.val (.ref p0), .val (.ref p0), .val (.int (4 : Int32))] [(.int (8 : Int32)), (.ref p0)]
  refine o_putF P (v' := (.int (8 : Int32))) (ty := .int) (ow hw 22 rfl) Via.refl (F_p0.fld 1 rfl) F_p0.exa (Or.inl (ow hw 23 rfl)) (ow hw 1 rfl) (by decide) rfl rfl (List.Mem.head _) (hb hby de9_38) (pc' := 41) rfl ?_
  clear P; intro T h4 P W4
  replace A_p1 := A_p1.oth W4 (Ne.symm ne_p0_p1)
  replace F_p0 : OObj Z h4 p0 "com/example/centile/centile/function/Keys" [("com/example/centile/centile/function/Keys", "keys", "[J", (.ref p1)), ("com/example/centile/centile/function/Keys", "size", "I", (.int (8 : Int32))), ("com/example/centile/centile/function/Keys", "selection", "Lcom/example/centile/centile/function/Selection;", .null)] := F_p0.put 1 rfl W4
  clear W4
  refine o_aloadN P (hb hby de9_41) rfl rfl (pc' := 42) rfl ?_
  refine o_aconstNull P (hb hby de9_42) (pc' := 43) rfl ?_
  refine o_putF P (v' := .null) (ty := (.object "com/example/centile/centile/function/Selection")) (ow hw 24 rfl) Via.refl (F_p0.fld 2 rfl) F_p0.exa (Or.inl (ow hw 25 rfl)) (ow hw 1 rfl) (by decide) rfl rfl (List.Mem.head _) (hb hby de9_43) (pc' := 46) rfl ?_
  clear P; intro T h5 P W5
  replace A_p1 := A_p1.oth W5 (Ne.symm ne_p0_p1)
  replace F_p0 : OObj Z h5 p0 "com/example/centile/centile/function/Keys" [("com/example/centile/centile/function/Keys", "keys", "[J", (.ref p1)), ("com/example/centile/centile/function/Keys", "size", "I", (.int (8 : Int32))), ("com/example/centile/centile/function/Keys", "selection", "Lcom/example/centile/centile/function/Selection;", .null)] := F_p0.put 2 rfl W5
  clear W5
  exact o_ret0 P hret (hb hby de9_46) (by decide) (by decide) ⟨rfl, F_p0, A_p1, trivial⟩
theorem ef_ct_e14 (x0 : Addr) (x1 : Int32) (m : MethodId) : entryFrame m #[(.ref x0), (.int x1)] 4 = mkF m 0 #[.val (.ref x0), .val (.int x1), .unset, .unset] [] := by first | (simp [entryFrame, mkF, argsToLocals, o_catR, o_catN, o_catI, o_catJ, o_catD]; done) | rfl
set_option maxRecDepth 65536 in
set_option maxHeartbeats 40000000 in
theorem ct_e14 (l : Launch) (Z : State) (a0 : Array Value) (hw : ∀ d ∈ tables_1, d.before a0 Z = true) (EL : List (String × Nat)) (n0 : Nat) (p0 : Addr) (p1 : Addr) (x0 : Int64) (x1 : Int64) (had : Sta Z Z.heap "java/util/BitSet" "$assertionsDisabled" "Z" (.int 1)) (od : Addr) (hod : Sta Z Z.heap "com/example/centile/centile/function/Order" "ASCENDING" "Lcom/example/centile/centile/function/Order;" (.ref od)) (h0 : Heap) (F_p0 : OObj Z h0 p0 "com/example/centile/centile/function/Keys" [("com/example/centile/centile/function/Keys", "keys", "[J", (.ref p1)), ("com/example/centile/centile/function/Keys", "size", "I", (.int (8 : Int32))), ("com/example/centile/centile/function/Keys", "selection", "Lcom/example/centile/centile/function/Selection;", .null)]) (A_p1 : OArr Z h0 p1 .long [(.long x0), (.long x1), (.long x0), (.long x1), (.long x0), (.long x1), (.long x0), (.long x1), (.long (0 : Int64)), (.long (0 : Int64)), (.long (0 : Int64)), (.long (0 : Int64)), (.long (0 : Int64)), (.long (0 : Int64)), (.long (0 : Int64)), (.long (0 : Int64))]) (ne_p0_p1 : p0 ≠ p1) :
    OCt l Z a0 EL n0 (⟨"com/example/centile/centile/function/Keys", "ensureRoom", "(I)V"⟩ : MethodName) prog_11_method_7_code 4 none ({ frames := 0, cells := 0, slots := 0, locals := 0 } : Room) [] #[(.ref p0), (.int (8 : Int32))] h0 [] (fun w vm h => w = none ∧ h = h0) := by
  refine OCt.body (plainFor_of_name pn_e0) (ef_ct_e14 p0 ((8 : Int32))) ?_
  intro p e s m below meth c T hby hml hret hnm hsh P
  refine o_iloadN P (hb hby de4_0) rfl (pc' := 1) rfl ?_
  refine o_ldcI P (ow hw 21 rfl) (hb hby de4_1) (pc' := 3) rfl ?_
  refine o_aloadN P (hb hby de4_3) rfl rfl (pc' := 4) rfl ?_
  refine o_getF P (ow hw 22 rfl) Via.refl (F_p0.fld 1 rfl) (hb hby de4_4) (pc' := 7) rfl ?_
  clear P; intro T P
  refine o_isub P (hb hby de4_7) (pc' := 8) rfl ?_
  show OG p e below m _ T 8 #[.val (.ref p0), .val (.int (8 : Int32)), .unset, .unset] [(.int (2147483631 : Int32)), (.int (8 : Int32))]
  refine o_icmp_le P (hb hby de4_8) (by decide) (pc' := 21) (by decide) (pcf := 11) rfl (fun _ => ?_) (fun q => absurd q (by decide))
  refine o_aloadN P (hb hby de4_21) rfl rfl (pc' := 22) rfl ?_
  refine o_getF P (ow hw 22 rfl) Via.refl (F_p0.fld 1 rfl) (hb hby de4_22) (pc' := 25) rfl ?_
  clear P; intro T P
  refine o_iloadN P (hb hby de4_25) rfl (pc' := 26) rfl ?_
  refine o_iadd P (hb hby de4_26) (pc' := 27) rfl ?_
  show OG p e below m _ T 27 #[.val (.ref p0), .val (.int (8 : Int32)), .unset, .unset] [(.int (16 : Int32))]
  refine o_istoreN P (hb hby de4_27) (L' := #[.val (.ref p0), .val (.int (8 : Int32)), .val (.int (16 : Int32)), .unset]) rfl (pc' := 28) rfl ?_
  refine o_iloadN P (hb hby de4_28) rfl (pc' := 29) rfl ?_
  refine o_aloadN P (hb hby de4_29) rfl rfl (pc' := 30) rfl ?_
  refine o_getF P (ow hw 10 rfl) Via.refl (F_p0.fld 0 rfl) (hb hby de4_30) (pc' := 33) rfl ?_
  clear P; intro T P
  refine o_arrlen P A_p1 (hb hby de4_33) (n := (16 : Int32)) rfl (pc' := 34) rfl ?_
  refine o_icmp_le P (hb hby de4_34) (by decide) (pc' := 76) (by decide) (pcf := 37) rfl (fun _ => ?_) (fun q => absurd q (by decide))
  exact o_ret0 P hret (hb hby de4_76) (by decide) (by decide) ⟨rfl, rfl⟩
theorem ef_ct_e15 (x0 : Addr) (x1 : Addr) (m : MethodId) : entryFrame m #[(.ref x0), (.ref x1)] 3 = mkF m 0 #[.val (.ref x0), .val (.ref x1), .unset] [] := by first | (simp [entryFrame, mkF, argsToLocals, o_catR, o_catN, o_catI, o_catJ, o_catD]; done) | rfl
set_option maxRecDepth 65536 in
set_option maxHeartbeats 40000000 in
theorem ct_e15 (l : Launch) (Z : State) (a0 : Array Value) (hw : ∀ d ∈ tables_1, d.before a0 Z = true) (EL : List (String × Nat)) (n0 : Nat) (p0 : Addr) (p1 : Addr) (x0 : Int64) (x1 : Int64) (had : Sta Z Z.heap "java/util/BitSet" "$assertionsDisabled" "Z" (.int 1)) (od : Addr) (hod : Sta Z Z.heap "com/example/centile/centile/function/Order" "ASCENDING" "Lcom/example/centile/centile/function/Order;" (.ref od)) (h0 : Heap) (F_p0 : OObj Z h0 p0 "com/example/centile/centile/function/Keys" [("com/example/centile/centile/function/Keys", "keys", "[J", (.ref p1)), ("com/example/centile/centile/function/Keys", "size", "I", (.int (8 : Int32))), ("com/example/centile/centile/function/Keys", "selection", "Lcom/example/centile/centile/function/Selection;", .null)]) (A_p1 : OArr Z h0 p1 .long [(.long x0), (.long x1), (.long x0), (.long x1), (.long x0), (.long x1), (.long x0), (.long x1), (.long (0 : Int64)), (.long (0 : Int64)), (.long (0 : Int64)), (.long (0 : Int64)), (.long (0 : Int64)), (.long (0 : Int64)), (.long (0 : Int64)), (.long (0 : Int64))]) (ne_p0_p1 : p0 ≠ p1) :
    OCt l Z a0 EL n0 (⟨"com/example/centile/centile/function/Keys", "addAll", "(Lcom/example/centile/centile/function/Keys;)V"⟩ : MethodName) prog_11_method_5_code 3 none ({ frames := 1, cells := 0, slots := 0, locals := 24 } : Room) [] #[(.ref p0), (.ref p0)] h0 [p0, p1] (fun w vm h => w = none ∧ OObj Z h p0 "com/example/centile/centile/function/Keys" [("com/example/centile/centile/function/Keys", "keys", "[J", (.ref p1)), ("com/example/centile/centile/function/Keys", "size", "I", (.int (16 : Int32))), ("com/example/centile/centile/function/Keys", "selection", "Lcom/example/centile/centile/function/Selection;", .null)] ∧ OArr Z h p1 .long [(.long x0), (.long x1), (.long x0), (.long x1), (.long x0), (.long x1), (.long x0), (.long x1), (.long x0), (.long x1), (.long x0), (.long x1), (.long x0), (.long x1), (.long x0), (.long x1)] ∧ True) := by
  refine OCt.body (plainFor_of_name pn_e0) (ef_ct_e15 p0 p0) ?_
  intro p e s m below meth c T hby hml hret hnm hsh P
  refine o_aloadN P (hb hby de9_0) rfl rfl (pc' := 1) rfl ?_
  refine o_getF P (ow hw 22 rfl) Via.refl (F_p0.fld 1 rfl) (hb hby de9_1) (pc' := 4) rfl ?_
  clear P; intro T P
  refine o_istoreN P (hb hby de9_4) (L' := #[.val (.ref p0), .val (.ref p0), .val (.int (8 : Int32))]) rfl (pc' := 5) rfl ?_
  refine o_iloadN P (hb hby de9_5) rfl (pc' := 6) rfl ?_
  refine o_if_le P (hb hby de9_6) (by decide) (pc' := 46) (by decide) (pcf := 9) rfl (fun q => absurd (by decide) q) (fun _ => ?_)
  refine o_aloadN P (hb hby de9_9) rfl rfl (pc' := 10) rfl ?_
  refine o_iloadN P (hb hby de9_10) rfl (pc' := 11) rfl ?_
  refine o_callQ P (W := 0) (a := p0) (ow hw 17 rfl) (ow hw 18 rfl) (ow hw 1 rfl) (ow hw 19 rfl) (ow hw 2 rfl) (ow hw 20 rfl) (by decide) F_p0.exa (ct_e14 l Z a0 hw EL n0 p0 p1 x0 x1 had od hod h0 F_p0 A_p1 ne_p0_p1) o_sf0 (by rw [hml]; rfl) (by decide) (by decide) (argsL := [(.int (8 : Int32))]) (rest := []) (lenOf pd_1 rfl) rfl rfl (Nat.le_of_eq rfl) (hb hby de9_11) (pc' := 14) rfl (by decide) (by decide) ?_
  clear P; intro T h2 v2 P K2 q2
  obtain ⟨rfl, rfl⟩ := q2; clear K2
  show OG p e below m _ T 14 #[.val (.ref p0), .val (.ref p0), .val (.int (8 : Int32))] []
  refine o_aloadN P (hb hby de9_14) rfl rfl (pc' := 15) rfl ?_
  refine o_getF P (ow hw 10 rfl) Via.refl (F_p0.fld 0 rfl) (hb hby de9_15) (pc' := 18) rfl ?_
  clear P; intro T P
  refine o_iconst P (0 : Int32) (hb hby de9_18) rfl (pc' := 19) rfl ?_
  refine o_aloadN P (hb hby de9_19) rfl rfl (pc' := 20) rfl ?_
  refine o_getF P (ow hw 10 rfl) Via.refl (F_p0.fld 0 rfl) (hb hby de9_20) (pc' := 23) rfl ?_
  clear P; intro T P
  refine o_aloadN P (hb hby de9_23) rfl rfl (pc' := 24) rfl ?_
  refine o_getF P (ow hw 22 rfl) Via.refl (F_p0.fld 1 rfl) (hb hby de9_24) (pc' := 27) rfl ?_
  clear P; intro T P
  refine o_iloadN P (hb hby de9_27) rfl (pc' := 28) rfl ?_
  refine o_cpA P (W := 0) (us := [(.long x0), (.long x1), (.long x0), (.long x1), (.long x0), (.long x1), (.long x0), (.long x1)]) (ow hw 31 rfl) (ow hw 34 rfl) (ow hw 32 rfl) (ow hw 33 rfl) A_p1 A_p1 (List.Mem.tail _ (List.Mem.head _)) (Or.inl ⟨rfl, rfl⟩) (by decide) (by decide) (by decide) (of_decide_eq_true rfl) (of_decide_eq_true rfl) rfl (by rw [hml]; rfl) (by decide) (Nat.le_of_eq rfl) (by decide) (hb hby de9_28) (pc' := 31) rfl ?_
  clear P; intro T h3 P K3 A'
  replace F_p0 := F_p0.keep K3 (ninS ne_p0_p1 nin0)
  clear A_p1; have A_p1 : OArr Z h3 p1 .long [(.long x0), (.long x1), (.long x0), (.long x1), (.long x0), (.long x1), (.long x0), (.long x1), (.long x0), (.long x1), (.long x0), (.long x1), (.long x0), (.long x1), (.long x0), (.long x1)] := A'; clear A' K3
  refine o_aloadN P (hb hby de9_31) rfl rfl (pc' := 32) rfl ?_
  refine o_dup P (hb hby de9_32) rfl (pc' := 33) rfl ?_
  refine o_getF P (ow hw 22 rfl) Via.refl (F_p0.fld 1 rfl) (hb hby de9_33) (pc' := 36) rfl ?_
  clear P; intro T P
  refine o_iloadN P (hb hby de9_36) rfl (pc' := 37) rfl ?_
  refine o_iadd P (hb hby de9_37) (pc' := 38) rfl ?_
  show OG p e below m _ T 38 #[.val (.ref p0), .val (.ref p0), .val (.int (8 : Int32))] [(.int (16 : Int32)), (.ref p0)]
  refine o_putF P (v' := (.int (16 : Int32))) (ty := .int) (ow hw 22 rfl) Via.refl (F_p0.fld 1 rfl) F_p0.exa (Or.inl (ow hw 23 rfl)) (ow hw 1 rfl) (by decide) rfl rfl (List.Mem.head _) (hb hby de9_38) (pc' := 41) rfl ?_
  clear P; intro T h4 P W4
  replace A_p1 := A_p1.oth W4 (Ne.symm ne_p0_p1)
  replace F_p0 : OObj Z h4 p0 "com/example/centile/centile/function/Keys" [("com/example/centile/centile/function/Keys", "keys", "[J", (.ref p1)), ("com/example/centile/centile/function/Keys", "size", "I", (.int (16 : Int32))), ("com/example/centile/centile/function/Keys", "selection", "Lcom/example/centile/centile/function/Selection;", .null)] := F_p0.put 1 rfl W4
  clear W4
  refine o_aloadN P (hb hby de9_41) rfl rfl (pc' := 42) rfl ?_
  refine o_aconstNull P (hb hby de9_42) (pc' := 43) rfl ?_
  refine o_putF P (v' := .null) (ty := (.object "com/example/centile/centile/function/Selection")) (ow hw 24 rfl) Via.refl (F_p0.fld 2 rfl) F_p0.exa (Or.inl (ow hw 25 rfl)) (ow hw 1 rfl) (by decide) rfl rfl (List.Mem.head _) (hb hby de9_43) (pc' := 46) rfl ?_
  clear P; intro T h5 P W5
  replace A_p1 := A_p1.oth W5 (Ne.symm ne_p0_p1)
  replace F_p0 : OObj Z h5 p0 "com/example/centile/centile/function/Keys" [("com/example/centile/centile/function/Keys", "keys", "[J", (.ref p1)), ("com/example/centile/centile/function/Keys", "size", "I", (.int (16 : Int32))), ("com/example/centile/centile/function/Keys", "selection", "Lcom/example/centile/centile/function/Selection;", .null)] := F_p0.put 2 rfl W5
  clear W5
  exact o_ret0 P hret (hb hby de9_46) (by decide) (by decide) ⟨rfl, F_p0, A_p1, trivial⟩
theorem de16_0 : decode prog_11_method_6_code 0 = .ok (.aload_n 0, 1) := by decide +kernel
theorem de16_1 : decode prog_11_method_6_code 1 = .ok (.getfield 23, 3) := by decide +kernel
theorem de16_4 : decode prog_11_method_6_code 4 = .ok (.ifnonnull 22, 3) := by decide +kernel
theorem de16_7 : decode prog_11_method_6_code 7 = .ok (.aload_n 0, 1) := by decide +kernel
theorem de16_8 : decode prog_11_method_6_code 8 = .ok (.new 33, 3) := by decide +kernel
theorem de16_11 : decode prog_11_method_6_code 11 = .ok (.dup, 1) := by decide +kernel
theorem de16_12 : decode prog_11_method_6_code 12 = .ok (.aload_n 0, 1) := by decide +kernel
theorem de16_13 : decode prog_11_method_6_code 13 = .ok (.getfield 9, 3) := by decide +kernel
theorem de16_16 : decode prog_11_method_6_code 16 = .ok (.aload_n 0, 1) := by decide +kernel
theorem de16_17 : decode prog_11_method_6_code 17 = .ok (.getfield 15, 3) := by decide +kernel
theorem de16_20 : decode prog_11_method_6_code 20 = .ok (.invokespecial 35, 3) := by decide +kernel
theorem de16_23 : decode prog_11_method_6_code 23 = .ok (.putfield 23, 3) := by decide +kernel
theorem de16_26 : decode prog_11_method_6_code 26 = .ok (.aload_n 2, 1) := by decide +kernel
theorem de16_27 : decode prog_11_method_6_code 27 = .ok (.getstatic 38, 3) := by decide +kernel
theorem de16_30 : decode prog_11_method_6_code 30 = .ok (.if_acmp .ne 9, 3) := by decide +kernel
theorem de16_33 : decode prog_11_method_6_code 33 = .ok (.iload_n 1, 1) := by decide +kernel
theorem de16_34 : decode prog_11_method_6_code 34 = .ok (.iconst 1, 1) := by decide +kernel
theorem de16_35 : decode prog_11_method_6_code 35 = .ok (.isub, 1) := by decide +kernel
theorem de16_36 : decode prog_11_method_6_code 36 = .ok (.goto 9, 3) := by decide +kernel
theorem de16_39 : decode prog_11_method_6_code 39 = .ok (.aload_n 0, 1) := by decide +kernel
theorem de16_40 : decode prog_11_method_6_code 40 = .ok (.getfield 15, 3) := by decide +kernel
theorem de16_43 : decode prog_11_method_6_code 43 = .ok (.iload_n 1, 1) := by decide +kernel
theorem de16_44 : decode prog_11_method_6_code 44 = .ok (.isub, 1) := by decide +kernel
theorem de16_45 : decode prog_11_method_6_code 45 = .ok (.istore_n 3, 1) := by decide +kernel
theorem de16_46 : decode prog_11_method_6_code 46 = .ok (.aload_n 0, 1) := by decide +kernel
theorem de16_47 : decode prog_11_method_6_code 47 = .ok (.getfield 23, 3) := by decide +kernel
theorem de16_50 : decode prog_11_method_6_code 50 = .ok (.iload_n 3, 1) := by decide +kernel
theorem de16_51 : decode prog_11_method_6_code 51 = .ok (.invokevirtual 44, 3) := by decide +kernel
theorem de16_54 : decode prog_11_method_6_code 54 = .ok (.lreturn, 1) := by decide +kernel
theorem de17_0 : decode prog_15_method_1_code 0 = .ok (.aload_n 0, 1) := by decide +kernel
theorem de17_1 : decode prog_15_method_1_code 1 = .ok (.invokespecial 1, 3) := by decide +kernel
theorem de17_4 : decode prog_15_method_1_code 4 = .ok (.aload_n 0, 1) := by decide +kernel
theorem de17_5 : decode prog_15_method_1_code 5 = .ok (.aload_n 1, 1) := by decide +kernel
theorem de17_6 : decode prog_15_method_1_code 6 = .ok (.putfield 7, 3) := by decide +kernel
theorem de17_9 : decode prog_15_method_1_code 9 = .ok (.aload_n 0, 1) := by decide +kernel
theorem de17_10 : decode prog_15_method_1_code 10 = .ok (.new 13, 3) := by decide +kernel
theorem de17_13 : decode prog_15_method_1_code 13 = .ok (.dup, 1) := by decide +kernel
theorem de17_14 : decode prog_15_method_1_code 14 = .ok (.iload_n 2, 1) := by decide +kernel
theorem de17_15 : decode prog_15_method_1_code 15 = .ok (.iconst 1, 1) := by decide +kernel
theorem de17_16 : decode prog_15_method_1_code 16 = .ok (.iadd, 1) := by decide +kernel
theorem de17_17 : decode prog_15_method_1_code 17 = .ok (.invokespecial 15, 3) := by decide +kernel
theorem de17_20 : decode prog_15_method_1_code 20 = .ok (.putfield 18, 3) := by decide +kernel
theorem de17_23 : decode prog_15_method_1_code 23 = .ok (.aload_n 0, 1) := by decide +kernel
theorem de17_24 : decode prog_15_method_1_code 24 = .ok (.getfield 18, 3) := by decide +kernel
theorem de17_27 : decode prog_15_method_1_code 27 = .ok (.iconst 0, 1) := by decide +kernel
theorem de17_28 : decode prog_15_method_1_code 28 = .ok (.invokevirtual 22, 3) := by decide +kernel
theorem de17_31 : decode prog_15_method_1_code 31 = .ok (.aload_n 0, 1) := by decide +kernel
theorem de17_32 : decode prog_15_method_1_code 32 = .ok (.getfield 18, 3) := by decide +kernel
theorem de17_35 : decode prog_15_method_1_code 35 = .ok (.iload_n 2, 1) := by decide +kernel
theorem de17_36 : decode prog_15_method_1_code 36 = .ok (.invokevirtual 22, 3) := by decide +kernel
theorem de17_39 : decode prog_15_method_1_code 39 = .ok (.return_, 1) := by decide +kernel
theorem de18_0 : decode jdk_92_method_5_code 0 = .ok (.aload_n 0, 1) := by decide +kernel
theorem de18_1 : decode jdk_92_method_5_code 1 = .ok (.invokespecial 21, 3) := by decide +kernel
theorem de18_4 : decode jdk_92_method_5_code 4 = .ok (.aload_n 0, 1) := by decide +kernel
theorem de18_5 : decode jdk_92_method_5_code 5 = .ok (.iconst 0, 1) := by decide +kernel
theorem de18_6 : decode jdk_92_method_5_code 6 = .ok (.putfield 7, 3) := by decide +kernel
theorem de18_9 : decode jdk_92_method_5_code 9 = .ok (.aload_n 0, 1) := by decide +kernel
theorem de18_10 : decode jdk_92_method_5_code 10 = .ok (.iconst 0, 1) := by decide +kernel
theorem de18_11 : decode jdk_92_method_5_code 11 = .ok (.putfield 24, 3) := by decide +kernel
theorem de18_14 : decode jdk_92_method_5_code 14 = .ok (.iload_n 1, 1) := by decide +kernel
theorem de18_15 : decode jdk_92_method_5_code 15 = .ok (.ifCond .ge 30, 3) := by decide +kernel
theorem de18_18 : decode jdk_92_method_5_code 18 = .ok (.new 31, 3) := by decide +kernel
theorem de18_21 : decode jdk_92_method_5_code 21 = .ok (.dup, 1) := by decide +kernel
theorem de18_22 : decode jdk_92_method_5_code 22 = .ok (.new 33, 3) := by decide +kernel
theorem de18_25 : decode jdk_92_method_5_code 25 = .ok (.dup, 1) := by decide +kernel
theorem de18_26 : decode jdk_92_method_5_code 26 = .ok (.invokespecial 35, 3) := by decide +kernel
theorem de18_29 : decode jdk_92_method_5_code 29 = .ok (.ldc 36, 2) := by decide +kernel
theorem de18_31 : decode jdk_92_method_5_code 31 = .ok (.invokevirtual 38, 3) := by decide +kernel
theorem de18_34 : decode jdk_92_method_5_code 34 = .ok (.iload_n 1, 1) := by decide +kernel
theorem de18_35 : decode jdk_92_method_5_code 35 = .ok (.invokevirtual 42, 3) := by decide +kernel
theorem de18_38 : decode jdk_92_method_5_code 38 = .ok (.invokevirtual 45, 3) := by decide +kernel
theorem de18_41 : decode jdk_92_method_5_code 41 = .ok (.invokespecial 49, 3) := by decide +kernel
theorem de18_44 : decode jdk_92_method_5_code 44 = .ok (.athrow, 1) := by decide +kernel
theorem de18_45 : decode jdk_92_method_5_code 45 = .ok (.aload_n 0, 1) := by decide +kernel
theorem de18_46 : decode jdk_92_method_5_code 46 = .ok (.iload_n 1, 1) := by decide +kernel
theorem de18_47 : decode jdk_92_method_5_code 47 = .ok (.invokevirtual 27, 3) := by decide +kernel
theorem de18_50 : decode jdk_92_method_5_code 50 = .ok (.aload_n 0, 1) := by decide +kernel
theorem de18_51 : decode jdk_92_method_5_code 51 = .ok (.iconst 1, 1) := by decide +kernel
theorem de18_52 : decode jdk_92_method_5_code 52 = .ok (.putfield 24, 3) := by decide +kernel
theorem de18_55 : decode jdk_92_method_5_code 55 = .ok (.return_, 1) := by decide +kernel
theorem de19_0 : decode jdk_92_method_6_code 0 = .ok (.aload_n 0, 1) := by decide +kernel
theorem de19_1 : decode jdk_92_method_6_code 1 = .ok (.iload_n 1, 1) := by decide +kernel
theorem de19_2 : decode jdk_92_method_6_code 2 = .ok (.iconst 1, 1) := by decide +kernel
theorem de19_3 : decode jdk_92_method_6_code 3 = .ok (.isub, 1) := by decide +kernel
theorem de19_4 : decode jdk_92_method_6_code 4 = .ok (.invokestatic 52, 3) := by decide +kernel
theorem de19_7 : decode jdk_92_method_6_code 7 = .ok (.iconst 1, 1) := by decide +kernel
theorem de19_8 : decode jdk_92_method_6_code 8 = .ok (.iadd, 1) := by decide +kernel
theorem de19_9 : decode jdk_92_method_6_code 9 = .ok (.newarray .long, 2) := by decide +kernel
theorem de19_11 : decode jdk_92_method_6_code 11 = .ok (.putfield 11, 3) := by decide +kernel
theorem de19_14 : decode jdk_92_method_6_code 14 = .ok (.return_, 1) := by decide +kernel
theorem de20_0 : decode jdk_92_method_1_code 0 = .ok (.iload_n 0, 1) := by decide +kernel
theorem de20_1 : decode jdk_92_method_1_code 1 = .ok (.bipush 6, 2) := by decide +kernel
theorem de20_3 : decode jdk_92_method_1_code 3 = .ok (.ishr, 1) := by decide +kernel
theorem de20_4 : decode jdk_92_method_1_code 4 = .ok (.ireturn, 1) := by decide +kernel
theorem ef_ct_e21 (x0 : Int32) (m : MethodId) : entryFrame m #[(.int x0)] 1 = mkF m 0 #[.val (.int x0)] [] := by first | (simp [entryFrame, mkF, argsToLocals, o_catR, o_catN, o_catI, o_catJ, o_catD]; done) | rfl
theorem pn_e1 : plainName "java/util/BitSet" = true := by first | (simp [plainName, overriddenIn]; done) | decide +kernel
set_option maxRecDepth 65536 in
set_option maxHeartbeats 40000000 in
theorem ct_e21 (l : Launch) (Z : State) (a0 : Array Value) (hw : ∀ d ∈ tables_1, d.before a0 Z = true) (EL : List (String × Nat)) (n0 : Nat)   (had : Sta Z Z.heap "java/util/BitSet" "$assertionsDisabled" "Z" (.int 1)) (od : Addr) (hod : Sta Z Z.heap "com/example/centile/centile/function/Order" "ASCENDING" "Lcom/example/centile/centile/function/Order;" (.ref od)) (h0 : Heap)   :
    OCt l Z a0 EL n0 (⟨"java/util/BitSet", "wordIndex", "(I)I"⟩ : MethodName) jdk_92_method_1_code 1 (some .int) ({ frames := 0, cells := 0, slots := 0, locals := 0 } : Room) [] #[(.int (16 : Int32))] h0 [] (fun w vm h => w = some (.int (0 : Int32)) ∧ h = h0) := by
  refine OCt.body (plainFor_of_name pn_e1) (ef_ct_e21 ((16 : Int32))) ?_
  intro p e s m below meth c T hby hml hret hnm hsh P
  refine o_iloadN P (hb hby de20_0) rfl (pc' := 1) rfl ?_
  refine o_bipush P (6 : Int32) (hb hby de20_1) rfl (pc' := 3) rfl ?_
  refine o_ishr P (hb hby de20_3) (pc' := 4) rfl ?_
  show OG p e below m _ T 4 #[.val (.int (16 : Int32))] [(.int (0 : Int32))]
  exact o_retI P hret (by simp) rfl (hb hby de20_4) (by decide) (by decide) ⟨rfl, rfl⟩
theorem ef_ct_e22 (x0 : Addr) (x1 : Int32) (m : MethodId) : entryFrame m #[(.ref x0), (.int x1)] 2 = mkF m 0 #[.val (.ref x0), .val (.int x1)] [] := by first | (simp [entryFrame, mkF, argsToLocals, o_catR, o_catN, o_catI, o_catJ, o_catD]; done) | rfl
set_option maxRecDepth 65536 in
set_option maxHeartbeats 40000000 in
theorem ct_e22 (l : Launch) (Z : State) (a0 : Array Value) (hw : ∀ d ∈ tables_1, d.before a0 Z = true) (EL : List (String × Nat)) (n0 : Nat) (p0 : Addr)  (had : Sta Z Z.heap "java/util/BitSet" "$assertionsDisabled" "Z" (.int 1)) (od : Addr) (hod : Sta Z Z.heap "com/example/centile/centile/function/Order" "ASCENDING" "Lcom/example/centile/centile/function/Order;" (.ref od)) (h0 : Heap) (F_p0 : OObj Z h0 p0 "java/util/BitSet" [("java/util/BitSet", "wordsInUse", "I", (.int (0 : Int32))), ("java/util/BitSet", "sizeIsSticky", "Z", (.int (0 : Int32))), ("java/util/BitSet", "words", "[J", .null)])  :
    OCt l Z a0 EL n0 (⟨"java/util/BitSet", "initWords", "(I)V"⟩ : MethodName) jdk_92_method_6_code 2 none ({ frames := 1, cells := 1, slots := 1, locals := 13 } : Room) [] #[(.ref p0), (.int (17 : Int32))] h0 [p0] (fun w vm h => ∃ n0 : Addr, w = none ∧ h0.size ≤ n0 ∧ OObj Z h p0 "java/util/BitSet" [("java/util/BitSet", "wordsInUse", "I", (.int (0 : Int32))), ("java/util/BitSet", "sizeIsSticky", "Z", (.int (0 : Int32))), ("java/util/BitSet", "words", "[J", (.ref n0))] ∧ OArr Z h n0 .long [(.long (0 : Int64))] ∧ True) := by
  refine OCt.body (plainFor_of_name pn_e1) (ef_ct_e22 p0 ((17 : Int32))) ?_
  intro p e s m below meth c T hby hml hret hnm hsh P
  refine o_aloadN P (hb hby de19_0) rfl rfl (pc' := 1) rfl ?_
  refine o_iloadN P (hb hby de19_1) rfl (pc' := 2) rfl ?_
  refine o_iconst P (1 : Int32) (hb hby de19_2) rfl (pc' := 3) rfl ?_
  refine o_isub P (hb hby de19_3) (pc' := 4) rfl ?_
  show OG p e below m _ T 4 #[.val (.ref p0), .val (.int (17 : Int32))] [(.int (16 : Int32)), (.ref p0)]
  refine o_callS P (W := 1) (ow hw 68 rfl) (ow hw 69 rfl) (ow hw 54 rfl) (ow hw 70 rfl) (by decide) (ct_e21 l Z a0 hw EL n0   had od hod h0  ) o_sf0 (by rw [hml]; rfl) (by decide) (by decide) (argsL := [(.int (16 : Int32))]) (rest := [(.ref p0)]) (lenOf pd_4 rfl) rfl rfl (Nat.le_of_eq rfl) (hb hby de19_4) (pc' := 7) rfl (by decide) (by decide) ?_
  clear P; intro T h2 v2 P K2 q2
  obtain ⟨rfl, rfl⟩ := q2; clear K2
  show OG p e below m _ T 7 #[.val (.ref p0), .val (.int (17 : Int32))] [(.int (0 : Int32)), (.ref p0)]
  refine o_iconst P (1 : Int32) (hb hby de19_7) rfl (pc' := 8) rfl ?_
  refine o_iadd P (hb hby de19_8) (pc' := 9) rfl ?_
  show OG p e below m _ T 9 #[.val (.ref p0), .val (.int (17 : Int32))] [(.int (1 : Int32)), (.ref p0)]
  have hz_b3 := P.keep0.1
  refine o_newarr P (cap := 1) (ow hw 9 rfl) (hb hby de19_9) (by decide) (by decide) (by decide) (pc' := 11) rfl (by decide) (by decide) ?_
  clear P; intro T h3 b3 P K3 hb_b3 A_b3
  have sz_b3 := Nat.le_trans hz_b3 hb_b3
  clear hz_b3
  have ne_p0_b3 : p0 ≠ b3 := Nat.ne_of_lt (Nat.lt_of_lt_of_le F_p0.lt hb_b3)
  replace F_p0 := F_p0.keep K3 nin0
  clear K3
  replace A_b3 : OArr Z h3 b3 .long [(.long 0)] := A_b3
  refine o_putF P (v' := (.ref b3)) (ty := (.array .long)) (ow hw 71 rfl) Via.refl (F_p0.fld 2 rfl) F_p0.exa (Or.inl (ow hw 72 rfl)) (ow hw 53 rfl) (by decide) rfl rfl (List.Mem.tail _ (List.Mem.head _)) (hb hby de19_11) (pc' := 14) rfl ?_
  clear P; intro T h4 P W4
  replace A_b3 := A_b3.oth W4 (Ne.symm ne_p0_b3)
  replace F_p0 : OObj Z h4 p0 "java/util/BitSet" [("java/util/BitSet", "wordsInUse", "I", (.int (0 : Int32))), ("java/util/BitSet", "sizeIsSticky", "Z", (.int (0 : Int32))), ("java/util/BitSet", "words", "[J", (.ref b3))] := F_p0.put 2 rfl W4
  clear W4
  exact o_ret0 P hret (hb hby de19_14) (by decide) (by decide) ⟨b3, rfl, hsh ▸ sz_b3, F_p0, A_b3, trivial⟩
theorem ef_ct_e23 (x0 : Addr) (x1 : Int32) (m : MethodId) : entryFrame m #[(.ref x0), (.int x1)] 2 = mkF m 0 #[.val (.ref x0), .val (.int x1)] [] := by first | (simp [entryFrame, mkF, argsToLocals, o_catR, o_catN, o_catI, o_catJ, o_catD]; done) | rfl
set_option maxRecDepth 65536 in
set_option maxHeartbeats 40000000 in
theorem ct_e23 (l : Launch) (Z : State) (a0 : Array Value) (hw : ∀ d ∈ tables_1, d.before a0 Z = true) (EL : List (String × Nat)) (n0 : Nat) (p0 : Addr)  (had : Sta Z Z.heap "java/util/BitSet" "$assertionsDisabled" "Z" (.int 1)) (od : Addr) (hod : Sta Z Z.heap "com/example/centile/centile/function/Order" "ASCENDING" "Lcom/example/centile/centile/function/Order;" (.ref od)) (h0 : Heap) (F_p0 : OObj Z h0 p0 "java/util/BitSet" [("java/util/BitSet", "wordsInUse", "I", (.int (0 : Int32))), ("java/util/BitSet", "sizeIsSticky", "Z", (.int (0 : Int32))), ("java/util/BitSet", "words", "[J", .null)])  :
    OCt l Z a0 EL n0 (⟨"java/util/BitSet", "<init>", "(I)V"⟩ : MethodName) jdk_92_method_5_code 2 none ({ frames := 2, cells := 1, slots := 1, locals := 26 } : Room) [] #[(.ref p0), (.int (17 : Int32))] h0 [p0] (fun w vm h => ∃ n0 : Addr, w = none ∧ h0.size ≤ n0 ∧ OObj Z h p0 "java/util/BitSet" [("java/util/BitSet", "wordsInUse", "I", (.int (0 : Int32))), ("java/util/BitSet", "sizeIsSticky", "Z", (.int (1 : Int32))), ("java/util/BitSet", "words", "[J", (.ref n0))] ∧ OArr Z h n0 .long [(.long (0 : Int64))] ∧ True) := by
  refine OCt.body (plainFor_of_name pn_e1) (ef_ct_e23 p0 ((17 : Int32))) ?_
  intro p e s m below meth c T hby hml hret hnm hsh P
  refine o_aloadN P (hb hby de18_0) rfl rfl (pc' := 1) rfl ?_
  refine o_initO P (W := 0) (ow hw 58 rfl) (ow hw 7 rfl) (ow hw 8 rfl) (by rw [hml]; rfl) (by decide) (Nat.le_of_eq rfl) (by decide) (hb hby de18_1) (pc' := 4) rfl ?_
  clear P; intro T P
  refine o_aloadN P (hb hby de18_4) rfl rfl (pc' := 5) rfl ?_
  refine o_iconst P (0 : Int32) (hb hby de18_5) rfl (pc' := 6) rfl ?_
  refine o_putF P (v' := (.int (0 : Int32))) (ty := .int) (ow hw 59 rfl) Via.refl (F_p0.fld 0 rfl) F_p0.exa (Or.inl (ow hw 60 rfl)) (ow hw 53 rfl) (by decide) rfl rfl (List.Mem.head _) (hb hby de18_6) (pc' := 9) rfl ?_
  clear P; intro T h1 P W1
  replace F_p0 : OObj Z h1 p0 "java/util/BitSet" [("java/util/BitSet", "wordsInUse", "I", (.int (0 : Int32))), ("java/util/BitSet", "sizeIsSticky", "Z", (.int (0 : Int32))), ("java/util/BitSet", "words", "[J", .null)] := F_p0.put 0 rfl W1
  clear W1
  refine o_aloadN P (hb hby de18_9) rfl rfl (pc' := 10) rfl ?_
  refine o_iconst P (0 : Int32) (hb hby de18_10) rfl (pc' := 11) rfl ?_
  refine o_putF P (v' := (.int (0 : Int32))) (ty := .boolean) (ow hw 61 rfl) Via.refl (F_p0.fld 1 rfl) F_p0.exa (Or.inl (ow hw 62 rfl)) (ow hw 53 rfl) (by decide) rfl rfl (List.Mem.head _) (hb hby de18_11) (pc' := 14) rfl ?_
  clear P; intro T h2 P W2
  replace F_p0 : OObj Z h2 p0 "java/util/BitSet" [("java/util/BitSet", "wordsInUse", "I", (.int (0 : Int32))), ("java/util/BitSet", "sizeIsSticky", "Z", (.int (0 : Int32))), ("java/util/BitSet", "words", "[J", .null)] := F_p0.put 1 rfl W2
  clear W2
  refine o_iloadN P (hb hby de18_14) rfl (pc' := 15) rfl ?_
  refine o_if_ge P (hb hby de18_15) (by decide) (pc' := 45) (by decide) (pcf := 18) rfl (fun _ => ?_) (fun q => absurd q (by decide))
  refine o_aloadN P (hb hby de18_45) rfl rfl (pc' := 46) rfl ?_
  refine o_iloadN P (hb hby de18_46) rfl (pc' := 47) rfl ?_
  have hn_3 := P.n0le; have hk_3 := P.keep0.1
  refine o_callP P (W := 0) (a := p0) (ow hw 63 rfl) (ow hw 64 rfl) (ow hw 66 rfl) (ow hw 65 rfl) (ow hw 54 rfl) (ow hw 67 rfl) (by decide) F_p0.exa (ct_e22 l Z a0 hw EL n0 p0  had od hod h2 F_p0 ) (o_sfS (List.Mem.head _) o_sf0) (by rw [hml]; rfl) (by decide) (by decide) (argsL := [(.int (17 : Int32))]) (rest := []) (lenOf pd_1 rfl) rfl rfl (Nat.le_of_eq rfl) (hb hby de18_47) (pc' := 50) rfl (by decide) (by decide) ?_
  clear P; intro T h4 v4 P K4 q4
  obtain ⟨n0_3, rfl, g_n0_3, Q_p0, Q_n0_3, -⟩ := q4
  have ne_p0_n0_3 : p0 ≠ n0_3 := Nat.ne_of_lt (Nat.lt_of_lt_of_le F_p0.lt g_n0_3)
  have sz_n0_3 := Nat.le_trans hk_3 g_n0_3
  clear F_p0
  have F_p0 := Q_p0; clear Q_p0
  have A_n0_3 := Q_n0_3; clear Q_n0_3
  replace P := P.moreA A_n0_3 (fun q => by cases q) (Nat.le_trans hn_3 g_n0_3) sz_n0_3
  clear K4 hn_3 hk_3
  show OG p e below m _ T 50 #[.val (.ref p0), .val (.int (17 : Int32))] []
  refine o_aloadN P (hb hby de18_50) rfl rfl (pc' := 51) rfl ?_
  refine o_iconst P (1 : Int32) (hb hby de18_51) rfl (pc' := 52) rfl ?_
  refine o_putF P (v' := (.int (1 : Int32))) (ty := .boolean) (ow hw 61 rfl) Via.refl (F_p0.fld 1 rfl) F_p0.exa (Or.inl (ow hw 62 rfl)) (ow hw 53 rfl) (by decide) rfl rfl (List.Mem.tail _ (List.Mem.head _)) (hb hby de18_52) (pc' := 55) rfl ?_
  clear P; intro T h5 P W5
  replace A_n0_3 := A_n0_3.oth W5 (Ne.symm ne_p0_n0_3)
  replace F_p0 : OObj Z h5 p0 "java/util/BitSet" [("java/util/BitSet", "wordsInUse", "I", (.int (0 : Int32))), ("java/util/BitSet", "sizeIsSticky", "Z", (.int (1 : Int32))), ("java/util/BitSet", "words", "[J", (.ref n0_3))] := F_p0.put 1 rfl W5
  clear W5
  exact o_ret0 P hret (hb hby de18_55) (by decide) (by decide) ⟨n0_3, rfl, hsh ▸ sz_n0_3, F_p0, A_n0_3, trivial⟩
theorem de24_0 : decode jdk_92_method_19_code 0 = .ok (.iload_n 1, 1) := by decide +kernel
theorem de24_1 : decode jdk_92_method_19_code 1 = .ok (.ifCond .ge 30, 3) := by decide +kernel
theorem de24_4 : decode jdk_92_method_19_code 4 = .ok (.new 142, 3) := by decide +kernel
theorem de24_7 : decode jdk_92_method_19_code 7 = .ok (.dup, 1) := by decide +kernel
theorem de24_8 : decode jdk_92_method_19_code 8 = .ok (.new 33, 3) := by decide +kernel
theorem de24_11 : decode jdk_92_method_19_code 11 = .ok (.dup, 1) := by decide +kernel
theorem de24_12 : decode jdk_92_method_19_code 12 = .ok (.invokespecial 35, 3) := by decide +kernel
theorem de24_15 : decode jdk_92_method_19_code 15 = .ok (.ldc 153, 2) := by decide +kernel
theorem de24_17 : decode jdk_92_method_19_code 17 = .ok (.invokevirtual 38, 3) := by decide +kernel
theorem de24_20 : decode jdk_92_method_19_code 20 = .ok (.iload_n 1, 1) := by decide +kernel
theorem de24_21 : decode jdk_92_method_19_code 21 = .ok (.invokevirtual 42, 3) := by decide +kernel
theorem de24_24 : decode jdk_92_method_19_code 24 = .ok (.invokevirtual 45, 3) := by decide +kernel
theorem de24_27 : decode jdk_92_method_19_code 27 = .ok (.invokespecial 146, 3) := by decide +kernel
theorem de24_30 : decode jdk_92_method_19_code 30 = .ok (.athrow, 1) := by decide +kernel
theorem de24_31 : decode jdk_92_method_19_code 31 = .ok (.iload_n 1, 1) := by decide +kernel
theorem de24_32 : decode jdk_92_method_19_code 32 = .ok (.invokestatic 52, 3) := by decide +kernel
theorem de24_35 : decode jdk_92_method_19_code 35 = .ok (.istore_n 2, 1) := by decide +kernel
theorem de24_36 : decode jdk_92_method_19_code 36 = .ok (.aload_n 0, 1) := by decide +kernel
theorem de24_37 : decode jdk_92_method_19_code 37 = .ok (.iload_n 2, 1) := by decide +kernel
theorem de24_38 : decode jdk_92_method_19_code 38 = .ok (.invokevirtual 155, 3) := by decide +kernel
theorem de24_41 : decode jdk_92_method_19_code 41 = .ok (.aload_n 0, 1) := by decide +kernel
theorem de24_42 : decode jdk_92_method_19_code 42 = .ok (.getfield 11, 3) := by decide +kernel
theorem de24_45 : decode jdk_92_method_19_code 45 = .ok (.iload_n 2, 1) := by decide +kernel
theorem de24_46 : decode jdk_92_method_19_code 46 = .ok (.dup2, 1) := by decide +kernel
theorem de24_47 : decode jdk_92_method_19_code 47 = .ok (.laload, 1) := by decide +kernel
theorem de24_48 : decode jdk_92_method_19_code 48 = .ok (.lconst 1, 1) := by decide +kernel
theorem de24_49 : decode jdk_92_method_19_code 49 = .ok (.iload_n 1, 1) := by decide +kernel
theorem de24_50 : decode jdk_92_method_19_code 50 = .ok (.lshl, 1) := by decide +kernel
theorem de24_51 : decode jdk_92_method_19_code 51 = .ok (.lor, 1) := by decide +kernel
theorem de24_52 : decode jdk_92_method_19_code 52 = .ok (.lastore, 1) := by decide +kernel
theorem de24_53 : decode jdk_92_method_19_code 53 = .ok (.aload_n 0, 1) := by decide +kernel
theorem de24_54 : decode jdk_92_method_19_code 54 = .ok (.invokevirtual 56, 3) := by decide +kernel
theorem de24_57 : decode jdk_92_method_19_code 57 = .ok (.return_, 1) := by decide +kernel
theorem ef_ct_e25 (x0 : Int32) (m : MethodId) : entryFrame m #[(.int x0)] 1 = mkF m 0 #[.val (.int x0)] [] := by first | (simp [entryFrame, mkF, argsToLocals, o_catR, o_catN, o_catI, o_catJ, o_catD]; done) | rfl
set_option maxRecDepth 65536 in
set_option maxHeartbeats 40000000 in
theorem ct_e25 (l : Launch) (Z : State) (a0 : Array Value) (hw : ∀ d ∈ tables_1, d.before a0 Z = true) (EL : List (String × Nat)) (n0 : Nat)   (had : Sta Z Z.heap "java/util/BitSet" "$assertionsDisabled" "Z" (.int 1)) (od : Addr) (hod : Sta Z Z.heap "com/example/centile/centile/function/Order" "ASCENDING" "Lcom/example/centile/centile/function/Order;" (.ref od)) (h0 : Heap)   :
    OCt l Z a0 EL n0 (⟨"java/util/BitSet", "wordIndex", "(I)I"⟩ : MethodName) jdk_92_method_1_code 1 (some .int) ({ frames := 0, cells := 0, slots := 0, locals := 0 } : Room) [] #[(.int (0 : Int32))] h0 [] (fun w vm h => w = some (.int (0 : Int32)) ∧ h = h0) := by
  refine OCt.body (plainFor_of_name pn_e1) (ef_ct_e25 ((0 : Int32))) ?_
  intro p e s m below meth c T hby hml hret hnm hsh P
  refine o_iloadN P (hb hby de20_0) rfl (pc' := 1) rfl ?_
  refine o_bipush P (6 : Int32) (hb hby de20_1) rfl (pc' := 3) rfl ?_
  refine o_ishr P (hb hby de20_3) (pc' := 4) rfl ?_
  show OG p e below m _ T 4 #[.val (.int (0 : Int32))] [(.int (0 : Int32))]
  exact o_retI P hret (by simp) rfl (hb hby de20_4) (by decide) (by decide) ⟨rfl, rfl⟩
theorem de26_0 : decode jdk_92_method_15_code 0 = .ok (.iload_n 1, 1) := by decide +kernel
theorem de26_1 : decode jdk_92_method_15_code 1 = .ok (.iconst 1, 1) := by decide +kernel
theorem de26_2 : decode jdk_92_method_15_code 2 = .ok (.iadd, 1) := by decide +kernel
theorem de26_3 : decode jdk_92_method_15_code 3 = .ok (.istore_n 2, 1) := by decide +kernel
theorem de26_4 : decode jdk_92_method_15_code 4 = .ok (.aload_n 0, 1) := by decide +kernel
theorem de26_5 : decode jdk_92_method_15_code 5 = .ok (.getfield 7, 3) := by decide +kernel
theorem de26_8 : decode jdk_92_method_15_code 8 = .ok (.iload_n 2, 1) := by decide +kernel
theorem de26_9 : decode jdk_92_method_15_code 9 = .ok (.if_icmp .ge 13, 3) := by decide +kernel
theorem de26_12 : decode jdk_92_method_15_code 12 = .ok (.aload_n 0, 1) := by decide +kernel
theorem de26_13 : decode jdk_92_method_15_code 13 = .ok (.iload_n 2, 1) := by decide +kernel
theorem de26_14 : decode jdk_92_method_15_code 14 = .ok (.invokevirtual 139, 3) := by decide +kernel
theorem de26_17 : decode jdk_92_method_15_code 17 = .ok (.aload_n 0, 1) := by decide +kernel
theorem de26_18 : decode jdk_92_method_15_code 18 = .ok (.iload_n 2, 1) := by decide +kernel
theorem de26_19 : decode jdk_92_method_15_code 19 = .ok (.putfield 7, 3) := by decide +kernel
theorem de26_22 : decode jdk_92_method_15_code 22 = .ok (.return_, 1) := by decide +kernel
theorem de27_0 : decode jdk_92_method_14_code 0 = .ok (.aload_n 0, 1) := by decide +kernel
theorem de27_1 : decode jdk_92_method_14_code 1 = .ok (.getfield 11, 3) := by decide +kernel
theorem de27_4 : decode jdk_92_method_14_code 4 = .ok (.arraylength, 1) := by decide +kernel
theorem de27_5 : decode jdk_92_method_14_code 5 = .ok (.iload_n 1, 1) := by decide +kernel
theorem de27_6 : decode jdk_92_method_14_code 6 = .ok (.if_icmp .ge 32, 3) := by decide +kernel
theorem de27_9 : decode jdk_92_method_14_code 9 = .ok (.iconst 2, 1) := by decide +kernel
theorem de27_10 : decode jdk_92_method_14_code 10 = .ok (.aload_n 0, 1) := by decide +kernel
theorem de27_11 : decode jdk_92_method_14_code 11 = .ok (.getfield 11, 3) := by decide +kernel
theorem de27_14 : decode jdk_92_method_14_code 14 = .ok (.arraylength, 1) := by decide +kernel
theorem de27_15 : decode jdk_92_method_14_code 15 = .ok (.imul, 1) := by decide +kernel
theorem de27_16 : decode jdk_92_method_14_code 16 = .ok (.iload_n 1, 1) := by decide +kernel
theorem de27_17 : decode jdk_92_method_14_code 17 = .ok (.invokestatic 133, 3) := by decide +kernel
theorem de27_20 : decode jdk_92_method_14_code 20 = .ok (.istore_n 2, 1) := by decide +kernel
theorem de27_21 : decode jdk_92_method_14_code 21 = .ok (.aload_n 0, 1) := by decide +kernel
theorem de27_22 : decode jdk_92_method_14_code 22 = .ok (.aload_n 0, 1) := by decide +kernel
theorem de27_23 : decode jdk_92_method_14_code 23 = .ok (.getfield 11, 3) := by decide +kernel
theorem de27_26 : decode jdk_92_method_14_code 26 = .ok (.iload_n 2, 1) := by decide +kernel
theorem de27_27 : decode jdk_92_method_14_code 27 = .ok (.invokestatic 59, 3) := by decide +kernel
theorem de27_30 : decode jdk_92_method_14_code 30 = .ok (.putfield 11, 3) := by decide +kernel
theorem de27_33 : decode jdk_92_method_14_code 33 = .ok (.aload_n 0, 1) := by decide +kernel
theorem de27_34 : decode jdk_92_method_14_code 34 = .ok (.iconst 0, 1) := by decide +kernel
theorem de27_35 : decode jdk_92_method_14_code 35 = .ok (.putfield 24, 3) := by decide +kernel
theorem de27_38 : decode jdk_92_method_14_code 38 = .ok (.return_, 1) := by decide +kernel
theorem ef_ct_e28 (x0 : Addr) (x1 : Int32) (m : MethodId) : entryFrame m #[(.ref x0), (.int x1)] 3 = mkF m 0 #[.val (.ref x0), .val (.int x1), .unset] [] := by first | (simp [entryFrame, mkF, argsToLocals, o_catR, o_catN, o_catI, o_catJ, o_catD]; done) | rfl
set_option maxRecDepth 65536 in
set_option maxHeartbeats 40000000 in
theorem ct_e28 (l : Launch) (Z : State) (a0 : Array Value) (hw : ∀ d ∈ tables_1, d.before a0 Z = true) (EL : List (String × Nat)) (n0 : Nat) (p0 : Addr) (p1 : Addr)  (had : Sta Z Z.heap "java/util/BitSet" "$assertionsDisabled" "Z" (.int 1)) (od : Addr) (hod : Sta Z Z.heap "com/example/centile/centile/function/Order" "ASCENDING" "Lcom/example/centile/centile/function/Order;" (.ref od)) (h0 : Heap) (F_p0 : OObj Z h0 p0 "java/util/BitSet" [("java/util/BitSet", "wordsInUse", "I", (.int (0 : Int32))), ("java/util/BitSet", "sizeIsSticky", "Z", (.int (1 : Int32))), ("java/util/BitSet", "words", "[J", (.ref p1))]) (A_p1 : OArr Z h0 p1 .long [(.long (0 : Int64))]) (ne_p0_p1 : p0 ≠ p1) :
    OCt l Z a0 EL n0 (⟨"java/util/BitSet", "ensureCapacity", "(I)V"⟩ : MethodName) jdk_92_method_14_code 3 none ({ frames := 0, cells := 0, slots := 0, locals := 0 } : Room) [] #[(.ref p0), (.int (1 : Int32))] h0 [] (fun w vm h => w = none ∧ h = h0) := by
  refine OCt.body (plainFor_of_name pn_e1) (ef_ct_e28 p0 ((1 : Int32))) ?_
  intro p e s m below meth c T hby hml hret hnm hsh P
  refine o_aloadN P (hb hby de27_0) rfl rfl (pc' := 1) rfl ?_
  refine o_getF P (ow hw 71 rfl) Via.refl (F_p0.fld 2 rfl) (hb hby de27_1) (pc' := 4) rfl ?_
  clear P; intro T P
  refine o_arrlen P A_p1 (hb hby de27_4) (n := (1 : Int32)) rfl (pc' := 5) rfl ?_
  refine o_iloadN P (hb hby de27_5) rfl (pc' := 6) rfl ?_
  refine o_icmp_ge P (hb hby de27_6) (by decide) (pc' := 38) (by decide) (pcf := 9) rfl (fun _ => ?_) (fun q => absurd q (by decide))
  exact o_ret0 P hret (hb hby de27_38) (by decide) (by decide) ⟨rfl, rfl⟩
theorem ef_ct_e29 (x0 : Addr) (x1 : Int32) (m : MethodId) : entryFrame m #[(.ref x0), (.int x1)] 3 = mkF m 0 #[.val (.ref x0), .val (.int x1), .unset] [] := by first | (simp [entryFrame, mkF, argsToLocals, o_catR, o_catN, o_catI, o_catJ, o_catD]; done) | rfl
set_option maxRecDepth 65536 in
set_option maxHeartbeats 40000000 in
theorem ct_e29 (l : Launch) (Z : State) (a0 : Array Value) (hw : ∀ d ∈ tables_1, d.before a0 Z = true) (EL : List (String × Nat)) (n0 : Nat) (p0 : Addr) (p1 : Addr)  (had : Sta Z Z.heap "java/util/BitSet" "$assertionsDisabled" "Z" (.int 1)) (od : Addr) (hod : Sta Z Z.heap "com/example/centile/centile/function/Order" "ASCENDING" "Lcom/example/centile/centile/function/Order;" (.ref od)) (h0 : Heap) (F_p0 : OObj Z h0 p0 "java/util/BitSet" [("java/util/BitSet", "wordsInUse", "I", (.int (0 : Int32))), ("java/util/BitSet", "sizeIsSticky", "Z", (.int (1 : Int32))), ("java/util/BitSet", "words", "[J", (.ref p1))]) (A_p1 : OArr Z h0 p1 .long [(.long (0 : Int64))]) (ne_p0_p1 : p0 ≠ p1) :
    OCt l Z a0 EL n0 (⟨"java/util/BitSet", "expandTo", "(I)V"⟩ : MethodName) jdk_92_method_15_code 3 none ({ frames := 1, cells := 0, slots := 0, locals := 14 } : Room) [] #[(.ref p0), (.int (0 : Int32))] h0 [p0] (fun w vm h => w = none ∧ OObj Z h p0 "java/util/BitSet" [("java/util/BitSet", "wordsInUse", "I", (.int (1 : Int32))), ("java/util/BitSet", "sizeIsSticky", "Z", (.int (1 : Int32))), ("java/util/BitSet", "words", "[J", (.ref p1))] ∧ True) := by
  refine OCt.body (plainFor_of_name pn_e1) (ef_ct_e29 p0 ((0 : Int32))) ?_
  intro p e s m below meth c T hby hml hret hnm hsh P
  refine o_iloadN P (hb hby de26_0) rfl (pc' := 1) rfl ?_
  refine o_iconst P (1 : Int32) (hb hby de26_1) rfl (pc' := 2) rfl ?_
  refine o_iadd P (hb hby de26_2) (pc' := 3) rfl ?_
  show OG p e below m _ T 3 #[.val (.ref p0), .val (.int (0 : Int32)), .unset] [(.int (1 : Int32))]
  refine o_istoreN P (hb hby de26_3) (L' := #[.val (.ref p0), .val (.int (0 : Int32)), .val (.int (1 : Int32))]) rfl (pc' := 4) rfl ?_
  refine o_aloadN P (hb hby de26_4) rfl rfl (pc' := 5) rfl ?_
  refine o_getF P (ow hw 59 rfl) Via.refl (F_p0.fld 0 rfl) (hb hby de26_5) (pc' := 8) rfl ?_
  clear P; intro T P
  refine o_iloadN P (hb hby de26_8) rfl (pc' := 9) rfl ?_
  refine o_icmp_ge P (hb hby de26_9) (by decide) (pc' := 22) (by decide) (pcf := 12) rfl (fun q => absurd (by decide) q) (fun _ => ?_)
  refine o_aloadN P (hb hby de26_12) rfl rfl (pc' := 13) rfl ?_
  refine o_iloadN P (hb hby de26_13) rfl (pc' := 14) rfl ?_
  refine o_callP P (W := 0) (a := p0) (ow hw 85 rfl) (ow hw 86 rfl) (ow hw 88 rfl) (ow hw 87 rfl) (ow hw 54 rfl) (ow hw 89 rfl) (by decide) F_p0.exa (ct_e28 l Z a0 hw EL n0 p0 p1  had od hod h0 F_p0 A_p1 ne_p0_p1) o_sf0 (by rw [hml]; rfl) (by decide) (by decide) (argsL := [(.int (1 : Int32))]) (rest := []) (lenOf pd_1 rfl) rfl rfl (Nat.le_of_eq rfl) (hb hby de26_14) (pc' := 17) rfl (by decide) (by decide) ?_
  clear P; intro T h2 v2 P K2 q2
  obtain ⟨rfl, rfl⟩ := q2; clear K2
  show OG p e below m _ T 17 #[.val (.ref p0), .val (.int (0 : Int32)), .val (.int (1 : Int32))] []
  refine o_aloadN P (hb hby de26_17) rfl rfl (pc' := 18) rfl ?_
  refine o_iloadN P (hb hby de26_18) rfl (pc' := 19) rfl ?_
  refine o_putF P (v' := (.int (1 : Int32))) (ty := .int) (ow hw 59 rfl) Via.refl (F_p0.fld 0 rfl) F_p0.exa (Or.inl (ow hw 60 rfl)) (ow hw 53 rfl) (by decide) rfl rfl (List.Mem.head _) (hb hby de26_19) (pc' := 22) rfl ?_
  clear P; intro T h3 P W3
  replace A_p1 := A_p1.oth W3 (Ne.symm ne_p0_p1)
  replace F_p0 : OObj Z h3 p0 "java/util/BitSet" [("java/util/BitSet", "wordsInUse", "I", (.int (1 : Int32))), ("java/util/BitSet", "sizeIsSticky", "Z", (.int (1 : Int32))), ("java/util/BitSet", "words", "[J", (.ref p1))] := F_p0.put 0 rfl W3
  clear W3
  exact o_ret0 P hret (hb hby de26_22) (by decide) (by decide) ⟨rfl, F_p0, trivial⟩
theorem de30_0 : decode jdk_92_method_2_code 0 = .ok (.getstatic 3, 3) := by decide +kernel
theorem de30_3 : decode jdk_92_method_2_code 3 = .ok (.ifCond .ne 34, 3) := by decide +kernel
theorem de30_6 : decode jdk_92_method_2_code 6 = .ok (.aload_n 0, 1) := by decide +kernel
theorem de30_7 : decode jdk_92_method_2_code 7 = .ok (.getfield 7, 3) := by decide +kernel
theorem de30_10 : decode jdk_92_method_2_code 10 = .ok (.ifCond .eq 27, 3) := by decide +kernel
theorem de30_13 : decode jdk_92_method_2_code 13 = .ok (.aload_n 0, 1) := by decide +kernel
theorem de30_14 : decode jdk_92_method_2_code 14 = .ok (.getfield 11, 3) := by decide +kernel
theorem de30_17 : decode jdk_92_method_2_code 17 = .ok (.aload_n 0, 1) := by decide +kernel
theorem de30_18 : decode jdk_92_method_2_code 18 = .ok (.getfield 7, 3) := by decide +kernel
theorem de30_21 : decode jdk_92_method_2_code 21 = .ok (.iconst 1, 1) := by decide +kernel
theorem de30_22 : decode jdk_92_method_2_code 22 = .ok (.isub, 1) := by decide +kernel
theorem de30_23 : decode jdk_92_method_2_code 23 = .ok (.laload, 1) := by decide +kernel
theorem de30_24 : decode jdk_92_method_2_code 24 = .ok (.lconst 0, 1) := by decide +kernel
theorem de30_25 : decode jdk_92_method_2_code 25 = .ok (.lcmp, 1) := by decide +kernel
theorem de30_26 : decode jdk_92_method_2_code 26 = .ok (.ifCond .ne 11, 3) := by decide +kernel
theorem de30_29 : decode jdk_92_method_2_code 29 = .ok (.new 15, 3) := by decide +kernel
theorem de30_32 : decode jdk_92_method_2_code 32 = .ok (.dup, 1) := by decide +kernel
theorem de30_33 : decode jdk_92_method_2_code 33 = .ok (.invokespecial 17, 3) := by decide +kernel
theorem de30_36 : decode jdk_92_method_2_code 36 = .ok (.athrow, 1) := by decide +kernel
theorem de30_37 : decode jdk_92_method_2_code 37 = .ok (.getstatic 3, 3) := by decide +kernel
theorem de30_40 : decode jdk_92_method_2_code 40 = .ok (.ifCond .ne 30, 3) := by decide +kernel
theorem de30_43 : decode jdk_92_method_2_code 43 = .ok (.aload_n 0, 1) := by decide +kernel
theorem de30_44 : decode jdk_92_method_2_code 44 = .ok (.getfield 7, 3) := by decide +kernel
theorem de30_47 : decode jdk_92_method_2_code 47 = .ok (.ifCond .lt 15, 3) := by decide +kernel
theorem de30_50 : decode jdk_92_method_2_code 50 = .ok (.aload_n 0, 1) := by decide +kernel
theorem de30_51 : decode jdk_92_method_2_code 51 = .ok (.getfield 7, 3) := by decide +kernel
theorem de30_54 : decode jdk_92_method_2_code 54 = .ok (.aload_n 0, 1) := by decide +kernel
theorem de30_55 : decode jdk_92_method_2_code 55 = .ok (.getfield 11, 3) := by decide +kernel
theorem de30_58 : decode jdk_92_method_2_code 58 = .ok (.arraylength, 1) := by decide +kernel
theorem de30_59 : decode jdk_92_method_2_code 59 = .ok (.if_icmp .le 11, 3) := by decide +kernel
theorem de30_62 : decode jdk_92_method_2_code 62 = .ok (.new 15, 3) := by decide +kernel
theorem de30_65 : decode jdk_92_method_2_code 65 = .ok (.dup, 1) := by decide +kernel
theorem de30_66 : decode jdk_92_method_2_code 66 = .ok (.invokespecial 17, 3) := by decide +kernel
theorem de30_69 : decode jdk_92_method_2_code 69 = .ok (.athrow, 1) := by decide +kernel
theorem de30_70 : decode jdk_92_method_2_code 70 = .ok (.getstatic 3, 3) := by decide +kernel
theorem de30_73 : decode jdk_92_method_2_code 73 = .ok (.ifCond .ne 37, 3) := by decide +kernel
theorem de30_76 : decode jdk_92_method_2_code 76 = .ok (.aload_n 0, 1) := by decide +kernel
theorem de30_77 : decode jdk_92_method_2_code 77 = .ok (.getfield 7, 3) := by decide +kernel
theorem de30_80 : decode jdk_92_method_2_code 80 = .ok (.aload_n 0, 1) := by decide +kernel
theorem de30_81 : decode jdk_92_method_2_code 81 = .ok (.getfield 11, 3) := by decide +kernel
theorem de30_84 : decode jdk_92_method_2_code 84 = .ok (.arraylength, 1) := by decide +kernel
theorem de30_85 : decode jdk_92_method_2_code 85 = .ok (.if_icmp .eq 25, 3) := by decide +kernel
theorem de30_88 : decode jdk_92_method_2_code 88 = .ok (.aload_n 0, 1) := by decide +kernel
theorem de30_89 : decode jdk_92_method_2_code 89 = .ok (.getfield 11, 3) := by decide +kernel
theorem de30_92 : decode jdk_92_method_2_code 92 = .ok (.aload_n 0, 1) := by decide +kernel
theorem de30_93 : decode jdk_92_method_2_code 93 = .ok (.getfield 7, 3) := by decide +kernel
theorem de30_96 : decode jdk_92_method_2_code 96 = .ok (.laload, 1) := by decide +kernel
theorem de30_97 : decode jdk_92_method_2_code 97 = .ok (.lconst 0, 1) := by decide +kernel
theorem de30_98 : decode jdk_92_method_2_code 98 = .ok (.lcmp, 1) := by decide +kernel
theorem de30_99 : decode jdk_92_method_2_code 99 = .ok (.ifCond .eq 11, 3) := by decide +kernel
theorem de30_102 : decode jdk_92_method_2_code 102 = .ok (.new 15, 3) := by decide +kernel
theorem de30_105 : decode jdk_92_method_2_code 105 = .ok (.dup, 1) := by decide +kernel
theorem de30_106 : decode jdk_92_method_2_code 106 = .ok (.invokespecial 17, 3) := by decide +kernel
theorem de30_109 : decode jdk_92_method_2_code 109 = .ok (.athrow, 1) := by decide +kernel
theorem de30_110 : decode jdk_92_method_2_code 110 = .ok (.return_, 1) := by decide +kernel
theorem ef_ct_e31 (x0 : Addr) (m : MethodId) : entryFrame m #[(.ref x0)] 1 = mkF m 0 #[.val (.ref x0)] [] := by first | (simp [entryFrame, mkF, argsToLocals, o_catR, o_catN, o_catI, o_catJ, o_catD]; done) | rfl
set_option maxRecDepth 65536 in
set_option maxHeartbeats 40000000 in
theorem ct_e31 (l : Launch) (Z : State) (a0 : Array Value) (hw : ∀ d ∈ tables_1, d.before a0 Z = true) (EL : List (String × Nat)) (n0 : Nat) (p0 : Addr) (p1 : Addr)  (had : Sta Z Z.heap "java/util/BitSet" "$assertionsDisabled" "Z" (.int 1)) (od : Addr) (hod : Sta Z Z.heap "com/example/centile/centile/function/Order" "ASCENDING" "Lcom/example/centile/centile/function/Order;" (.ref od)) (h0 : Heap) (F_p0 : OObj Z h0 p0 "java/util/BitSet" [("java/util/BitSet", "wordsInUse", "I", (.int (1 : Int32))), ("java/util/BitSet", "sizeIsSticky", "Z", (.int (1 : Int32))), ("java/util/BitSet", "words", "[J", (.ref p1))]) (A_p1 : OArr Z h0 p1 .long [(.long (1 : Int64))]) (ne_p0_p1 : p0 ≠ p1) :
    OCt l Z a0 EL n0 (⟨"java/util/BitSet", "checkInvariants", "()V"⟩ : MethodName) jdk_92_method_2_code 1 none ({ frames := 0, cells := 0, slots := 0, locals := 0 } : Room) [] #[(.ref p0)] h0 [] (fun w vm h => w = none ∧ h = h0) := by
  refine OCt.body (plainFor_of_name pn_e1) (ef_ct_e31 p0) ?_
  intro p e s m below meth c T hby hml hret hnm hsh P
  refine o_getS P (ow hw 95 rfl) Via.refl had (hb hby de30_0) (pc' := 3) rfl ?_
  clear P; intro T P
  refine o_if_ne P (hb hby de30_3) (by decide) (pc' := 37) (by decide) (pcf := 6) rfl (fun _ => ?_) (fun q => absurd q (by decide))
  refine o_getS P (ow hw 95 rfl) Via.refl had (hb hby de30_37) (pc' := 40) rfl ?_
  clear P; intro T P
  refine o_if_ne P (hb hby de30_40) (by decide) (pc' := 70) (by decide) (pcf := 43) rfl (fun _ => ?_) (fun q => absurd q (by decide))
  refine o_getS P (ow hw 95 rfl) Via.refl had (hb hby de30_70) (pc' := 73) rfl ?_
  clear P; intro T P
  refine o_if_ne P (hb hby de30_73) (by decide) (pc' := 110) (by decide) (pcf := 76) rfl (fun _ => ?_) (fun q => absurd q (by decide))
  exact o_ret0 P hret (hb hby de30_110) (by decide) (by decide) ⟨rfl, rfl⟩
theorem ef_ct_e32 (x0 : Addr) (x1 : Int32) (m : MethodId) : entryFrame m #[(.ref x0), (.int x1)] 3 = mkF m 0 #[.val (.ref x0), .val (.int x1), .unset] [] := by first | (simp [entryFrame, mkF, argsToLocals, o_catR, o_catN, o_catI, o_catJ, o_catD]; done) | rfl
set_option maxRecDepth 65536 in
set_option maxHeartbeats 40000000 in
theorem ct_e32 (l : Launch) (Z : State) (a0 : Array Value) (hw : ∀ d ∈ tables_1, d.before a0 Z = true) (EL : List (String × Nat)) (n0 : Nat) (p0 : Addr) (p1 : Addr)  (had : Sta Z Z.heap "java/util/BitSet" "$assertionsDisabled" "Z" (.int 1)) (od : Addr) (hod : Sta Z Z.heap "com/example/centile/centile/function/Order" "ASCENDING" "Lcom/example/centile/centile/function/Order;" (.ref od)) (h0 : Heap) (F_p0 : OObj Z h0 p0 "java/util/BitSet" [("java/util/BitSet", "wordsInUse", "I", (.int (0 : Int32))), ("java/util/BitSet", "sizeIsSticky", "Z", (.int (1 : Int32))), ("java/util/BitSet", "words", "[J", (.ref p1))]) (A_p1 : OArr Z h0 p1 .long [(.long (0 : Int64))]) (ne_p0_p1 : p0 ≠ p1) :
    OCt l Z a0 EL n0 (⟨"java/util/BitSet", "set", "(I)V"⟩ : MethodName) jdk_92_method_19_code 3 none ({ frames := 2, cells := 0, slots := 0, locals := 28 } : Room) [] #[(.ref p0), (.int (0 : Int32))] h0 [p0, p1] (fun w vm h => w = none ∧ OObj Z h p0 "java/util/BitSet" [("java/util/BitSet", "wordsInUse", "I", (.int (1 : Int32))), ("java/util/BitSet", "sizeIsSticky", "Z", (.int (1 : Int32))), ("java/util/BitSet", "words", "[J", (.ref p1))] ∧ OArr Z h p1 .long [(.long (1 : Int64))] ∧ True) := by
  refine OCt.body (plainFor_of_name pn_e1) (ef_ct_e32 p0 ((0 : Int32))) ?_
  intro p e s m below meth c T hby hml hret hnm hsh P
  refine o_iloadN P (hb hby de24_0) rfl (pc' := 1) rfl ?_
  refine o_if_ge P (hb hby de24_1) (by decide) (pc' := 31) (by decide) (pcf := 4) rfl (fun _ => ?_) (fun q => absurd q (by decide))
  refine o_iloadN P (hb hby de24_31) rfl (pc' := 32) rfl ?_
  refine o_callS P (W := 0) (ow hw 68 rfl) (ow hw 69 rfl) (ow hw 54 rfl) (ow hw 70 rfl) (by decide) (ct_e25 l Z a0 hw EL n0   had od hod h0  ) o_sf0 (by rw [hml]; rfl) (by decide) (by decide) (argsL := [(.int (0 : Int32))]) (rest := []) (lenOf pd_4 rfl) rfl rfl (Nat.le_of_eq rfl) (hb hby de24_32) (pc' := 35) rfl (by decide) (by decide) ?_
  clear P; intro T h2 v2 P K2 q2
  obtain ⟨rfl, rfl⟩ := q2; clear K2
  show OG p e below m _ T 35 #[.val (.ref p0), .val (.int (0 : Int32)), .unset] [(.int (0 : Int32))]
  refine o_istoreN P (hb hby de24_35) (L' := #[.val (.ref p0), .val (.int (0 : Int32)), .val (.int (0 : Int32))]) rfl (pc' := 36) rfl ?_
  refine o_aloadN P (hb hby de24_36) rfl rfl (pc' := 37) rfl ?_
  refine o_iloadN P (hb hby de24_37) rfl (pc' := 38) rfl ?_
  have hn_3 := P.n0le; have hk_3 := P.keep0.1
  refine o_callP P (W := 0) (a := p0) (ow hw 80 rfl) (ow hw 81 rfl) (ow hw 83 rfl) (ow hw 82 rfl) (ow hw 54 rfl) (ow hw 84 rfl) (by decide) F_p0.exa (ct_e29 l Z a0 hw EL n0 p0 p1  had od hod h2 F_p0 A_p1 ne_p0_p1) (o_sfS (List.Mem.head _) o_sf0) (by rw [hml]; rfl) (by decide) (by decide) (argsL := [(.int (0 : Int32))]) (rest := []) (lenOf pd_1 rfl) rfl rfl (Nat.le_of_eq rfl) (hb hby de24_38) (pc' := 41) rfl (by decide) (by decide) ?_
  clear P; intro T h4 v4 P K4 q4
  obtain ⟨rfl, Q_p0, -⟩ := q4
  replace A_p1 := A_p1.keep K4 (ninS (Ne.symm ne_p0_p1) nin0)
  clear F_p0
  have F_p0 := Q_p0; clear Q_p0
  clear K4 hn_3 hk_3
  show OG p e below m _ T 41 #[.val (.ref p0), .val (.int (0 : Int32)), .val (.int (0 : Int32))] []
  refine o_aloadN P (hb hby de24_41) rfl rfl (pc' := 42) rfl ?_
  refine o_getF P (ow hw 71 rfl) Via.refl (F_p0.fld 2 rfl) (hb hby de24_42) (pc' := 45) rfl ?_
  clear P; intro T P
  refine o_iloadN P (hb hby de24_45) rfl (pc' := 46) rfl ?_
  refine o_dup2 P (hb hby de24_46) rfl rfl (pc' := 47) rfl ?_
  refine o_laload P (v := (.long (0 : Int64))) A_p1 (by decide) rfl (hb hby de24_47) (pc' := 48) rfl ?_
  refine o_lconst P (1 : Int64) (hb hby de24_48) rfl (pc' := 49) rfl ?_
  refine o_iloadN P (hb hby de24_49) rfl (pc' := 50) rfl ?_
  refine o_lshl P (hb hby de24_50) (pc' := 51) rfl ?_
  show OG p e below m _ T 51 #[.val (.ref p0), .val (.int (0 : Int32)), .val (.int (0 : Int32))] [(.long (1 : Int64)), (.long (0 : Int64)), (.int (0 : Int32)), (.ref p1)]
  refine o_lor P (hb hby de24_51) (pc' := 52) rfl ?_
  show OG p e below m _ T 52 #[.val (.ref p0), .val (.int (0 : Int32)), .val (.int (0 : Int32))] [(.long (1 : Int64)), (.int (0 : Int32)), (.ref p1)]
  refine o_lastore P (v := (.long (1 : Int64))) A_p1 (List.Mem.tail _ (List.Mem.head _)) (by decide) (of_decide_eq_true rfl) rfl (hb hby de24_52) (pc' := 53) rfl ?_
  clear P; clear A_p1; intro T h5 P W5 A_p1
  replace F_p0 := F_p0.oth W5 ne_p0_p1
  clear W5
  replace A_p1 : OArr Z h5 p1 .long [(.long (1 : Int64))] := A_p1
  refine o_aloadN P (hb hby de24_53) rfl rfl (pc' := 54) rfl ?_
  refine o_callP P (W := 0) (a := p0) (ow hw 90 rfl) (ow hw 91 rfl) (ow hw 93 rfl) (ow hw 92 rfl) (ow hw 54 rfl) (ow hw 94 rfl) (by decide) F_p0.exa (ct_e31 l Z a0 hw EL n0 p0 p1  had od hod h5 F_p0 A_p1 ne_p0_p1) o_sf0 (by rw [hml]; rfl) (by decide) (by decide) (argsL := []) (rest := []) (lenOf pd_0 rfl) rfl rfl (Nat.le_of_eq rfl) (hb hby de24_54) (pc' := 57) rfl (by decide) (by decide) ?_
  clear P; intro T h7 v7 P K7 q7
  obtain ⟨rfl, rfl⟩ := q7; clear K7
  show OG p e below m _ T 57 #[.val (.ref p0), .val (.int (0 : Int32)), .val (.int (0 : Int32))] []
  exact o_ret0 P hret (hb hby de24_57) (by decide) (by decide) ⟨rfl, F_p0, A_p1, trivial⟩
theorem ef_ct_e33 (x0 : Addr) (x1 : Int32) (m : MethodId) : entryFrame m #[(.ref x0), (.int x1)] 3 = mkF m 0 #[.val (.ref x0), .val (.int x1), .unset] [] := by first | (simp [entryFrame, mkF, argsToLocals, o_catR, o_catN, o_catI, o_catJ, o_catD]; done) | rfl
set_option maxRecDepth 65536 in
set_option maxHeartbeats 40000000 in
theorem ct_e33 (l : Launch) (Z : State) (a0 : Array Value) (hw : ∀ d ∈ tables_1, d.before a0 Z = true) (EL : List (String × Nat)) (n0 : Nat) (p0 : Addr) (p1 : Addr)  (had : Sta Z Z.heap "java/util/BitSet" "$assertionsDisabled" "Z" (.int 1)) (od : Addr) (hod : Sta Z Z.heap "com/example/centile/centile/function/Order" "ASCENDING" "Lcom/example/centile/centile/function/Order;" (.ref od)) (h0 : Heap) (F_p0 : OObj Z h0 p0 "java/util/BitSet" [("java/util/BitSet", "wordsInUse", "I", (.int (1 : Int32))), ("java/util/BitSet", "sizeIsSticky", "Z", (.int (1 : Int32))), ("java/util/BitSet", "words", "[J", (.ref p1))]) (A_p1 : OArr Z h0 p1 .long [(.long (1 : Int64))]) (ne_p0_p1 : p0 ≠ p1) :
    OCt l Z a0 EL n0 (⟨"java/util/BitSet", "expandTo", "(I)V"⟩ : MethodName) jdk_92_method_15_code 3 none ({ frames := 0, cells := 0, slots := 0, locals := 0 } : Room) [] #[(.ref p0), (.int (0 : Int32))] h0 [] (fun w vm h => w = none ∧ h = h0) := by
  refine OCt.body (plainFor_of_name pn_e1) (ef_ct_e33 p0 ((0 : Int32))) ?_
  intro p e s m below meth c T hby hml hret hnm hsh P
  refine o_iloadN P (hb hby de26_0) rfl (pc' := 1) rfl ?_
  refine o_iconst P (1 : Int32) (hb hby de26_1) rfl (pc' := 2) rfl ?_
  refine o_iadd P (hb hby de26_2) (pc' := 3) rfl ?_
  show OG p e below m _ T 3 #[.val (.ref p0), .val (.int (0 : Int32)), .unset] [(.int (1 : Int32))]
  refine o_istoreN P (hb hby de26_3) (L' := #[.val (.ref p0), .val (.int (0 : Int32)), .val (.int (1 : Int32))]) rfl (pc' := 4) rfl ?_
  refine o_aloadN P (hb hby de26_4) rfl rfl (pc' := 5) rfl ?_
  refine o_getF P (ow hw 59 rfl) Via.refl (F_p0.fld 0 rfl) (hb hby de26_5) (pc' := 8) rfl ?_
  clear P; intro T P
  refine o_iloadN P (hb hby de26_8) rfl (pc' := 9) rfl ?_
  refine o_icmp_ge P (hb hby de26_9) (by decide) (pc' := 22) (by decide) (pcf := 12) rfl (fun _ => ?_) (fun q => absurd q (by decide))
  exact o_ret0 P hret (hb hby de26_22) (by decide) (by decide) ⟨rfl, rfl⟩
theorem ef_ct_e34 (x0 : Addr) (m : MethodId) : entryFrame m #[(.ref x0)] 1 = mkF m 0 #[.val (.ref x0)] [] := by first | (simp [entryFrame, mkF, argsToLocals, o_catR, o_catN, o_catI, o_catJ, o_catD]; done) | rfl
set_option maxRecDepth 65536 in
set_option maxHeartbeats 40000000 in
theorem ct_e34 (l : Launch) (Z : State) (a0 : Array Value) (hw : ∀ d ∈ tables_1, d.before a0 Z = true) (EL : List (String × Nat)) (n0 : Nat) (p0 : Addr) (p1 : Addr)  (had : Sta Z Z.heap "java/util/BitSet" "$assertionsDisabled" "Z" (.int 1)) (od : Addr) (hod : Sta Z Z.heap "com/example/centile/centile/function/Order" "ASCENDING" "Lcom/example/centile/centile/function/Order;" (.ref od)) (h0 : Heap) (F_p0 : OObj Z h0 p0 "java/util/BitSet" [("java/util/BitSet", "wordsInUse", "I", (.int (1 : Int32))), ("java/util/BitSet", "sizeIsSticky", "Z", (.int (1 : Int32))), ("java/util/BitSet", "words", "[J", (.ref p1))]) (A_p1 : OArr Z h0 p1 .long [(.long (65537 : Int64))]) (ne_p0_p1 : p0 ≠ p1) :
    OCt l Z a0 EL n0 (⟨"java/util/BitSet", "checkInvariants", "()V"⟩ : MethodName) jdk_92_method_2_code 1 none ({ frames := 0, cells := 0, slots := 0, locals := 0 } : Room) [] #[(.ref p0)] h0 [] (fun w vm h => w = none ∧ h = h0) := by
  refine OCt.body (plainFor_of_name pn_e1) (ef_ct_e34 p0) ?_
  intro p e s m below meth c T hby hml hret hnm hsh P
  refine o_getS P (ow hw 95 rfl) Via.refl had (hb hby de30_0) (pc' := 3) rfl ?_
  clear P; intro T P
  refine o_if_ne P (hb hby de30_3) (by decide) (pc' := 37) (by decide) (pcf := 6) rfl (fun _ => ?_) (fun q => absurd q (by decide))
  refine o_getS P (ow hw 95 rfl) Via.refl had (hb hby de30_37) (pc' := 40) rfl ?_
  clear P; intro T P
  refine o_if_ne P (hb hby de30_40) (by decide) (pc' := 70) (by decide) (pcf := 43) rfl (fun _ => ?_) (fun q => absurd q (by decide))
  refine o_getS P (ow hw 95 rfl) Via.refl had (hb hby de30_70) (pc' := 73) rfl ?_
  clear P; intro T P
  refine o_if_ne P (hb hby de30_73) (by decide) (pc' := 110) (by decide) (pcf := 76) rfl (fun _ => ?_) (fun q => absurd q (by decide))
  exact o_ret0 P hret (hb hby de30_110) (by decide) (by decide) ⟨rfl, rfl⟩
theorem ef_ct_e35 (x0 : Addr) (x1 : Int32) (m : MethodId) : entryFrame m #[(.ref x0), (.int x1)] 3 = mkF m 0 #[.val (.ref x0), .val (.int x1), .unset] [] := by first | (simp [entryFrame, mkF, argsToLocals, o_catR, o_catN, o_catI, o_catJ, o_catD]; done) | rfl
set_option maxRecDepth 65536 in
set_option maxHeartbeats 40000000 in
theorem ct_e35 (l : Launch) (Z : State) (a0 : Array Value) (hw : ∀ d ∈ tables_1, d.before a0 Z = true) (EL : List (String × Nat)) (n0 : Nat) (p0 : Addr) (p1 : Addr)  (had : Sta Z Z.heap "java/util/BitSet" "$assertionsDisabled" "Z" (.int 1)) (od : Addr) (hod : Sta Z Z.heap "com/example/centile/centile/function/Order" "ASCENDING" "Lcom/example/centile/centile/function/Order;" (.ref od)) (h0 : Heap) (F_p0 : OObj Z h0 p0 "java/util/BitSet" [("java/util/BitSet", "wordsInUse", "I", (.int (1 : Int32))), ("java/util/BitSet", "sizeIsSticky", "Z", (.int (1 : Int32))), ("java/util/BitSet", "words", "[J", (.ref p1))]) (A_p1 : OArr Z h0 p1 .long [(.long (1 : Int64))]) (ne_p0_p1 : p0 ≠ p1) :
    OCt l Z a0 EL n0 (⟨"java/util/BitSet", "set", "(I)V"⟩ : MethodName) jdk_92_method_19_code 3 none ({ frames := 1, cells := 0, slots := 0, locals := 14 } : Room) [] #[(.ref p0), (.int (16 : Int32))] h0 [p1] (fun w vm h => w = none ∧ OArr Z h p1 .long [(.long (65537 : Int64))] ∧ True) := by
  refine OCt.body (plainFor_of_name pn_e1) (ef_ct_e35 p0 ((16 : Int32))) ?_
  intro p e s m below meth c T hby hml hret hnm hsh P
  refine o_iloadN P (hb hby de24_0) rfl (pc' := 1) rfl ?_
  refine o_if_ge P (hb hby de24_1) (by decide) (pc' := 31) (by decide) (pcf := 4) rfl (fun _ => ?_) (fun q => absurd q (by decide))
  refine o_iloadN P (hb hby de24_31) rfl (pc' := 32) rfl ?_
  refine o_callS P (W := 0) (ow hw 68 rfl) (ow hw 69 rfl) (ow hw 54 rfl) (ow hw 70 rfl) (by decide) (ct_e21 l Z a0 hw EL n0   had od hod h0  ) o_sf0 (by rw [hml]; rfl) (by decide) (by decide) (argsL := [(.int (16 : Int32))]) (rest := []) (lenOf pd_4 rfl) rfl rfl (Nat.le_of_eq rfl) (hb hby de24_32) (pc' := 35) rfl (by decide) (by decide) ?_
  clear P; intro T h2 v2 P K2 q2
  obtain ⟨rfl, rfl⟩ := q2; clear K2
  show OG p e below m _ T 35 #[.val (.ref p0), .val (.int (16 : Int32)), .unset] [(.int (0 : Int32))]
  refine o_istoreN P (hb hby de24_35) (L' := #[.val (.ref p0), .val (.int (16 : Int32)), .val (.int (0 : Int32))]) rfl (pc' := 36) rfl ?_
  refine o_aloadN P (hb hby de24_36) rfl rfl (pc' := 37) rfl ?_
  refine o_iloadN P (hb hby de24_37) rfl (pc' := 38) rfl ?_
  refine o_callP P (W := 0) (a := p0) (ow hw 80 rfl) (ow hw 81 rfl) (ow hw 83 rfl) (ow hw 82 rfl) (ow hw 54 rfl) (ow hw 84 rfl) (by decide) F_p0.exa (ct_e33 l Z a0 hw EL n0 p0 p1  had od hod h2 F_p0 A_p1 ne_p0_p1) o_sf0 (by rw [hml]; rfl) (by decide) (by decide) (argsL := [(.int (0 : Int32))]) (rest := []) (lenOf pd_1 rfl) rfl rfl (Nat.le_of_eq rfl) (hb hby de24_38) (pc' := 41) rfl (by decide) (by decide) ?_
  clear P; intro T h4 v4 P K4 q4
  obtain ⟨rfl, rfl⟩ := q4; clear K4
  show OG p e below m _ T 41 #[.val (.ref p0), .val (.int (16 : Int32)), .val (.int (0 : Int32))] []
  refine o_aloadN P (hb hby de24_41) rfl rfl (pc' := 42) rfl ?_
  refine o_getF P (ow hw 71 rfl) Via.refl (F_p0.fld 2 rfl) (hb hby de24_42) (pc' := 45) rfl ?_
  clear P; intro T P
  refine o_iloadN P (hb hby de24_45) rfl (pc' := 46) rfl ?_
  refine o_dup2 P (hb hby de24_46) rfl rfl (pc' := 47) rfl ?_
  refine o_laload P (v := (.long (1 : Int64))) A_p1 (by decide) rfl (hb hby de24_47) (pc' := 48) rfl ?_
  refine o_lconst P (1 : Int64) (hb hby de24_48) rfl (pc' := 49) rfl ?_
  refine o_iloadN P (hb hby de24_49) rfl (pc' := 50) rfl ?_
  refine o_lshl P (hb hby de24_50) (pc' := 51) rfl ?_
  show OG p e below m _ T 51 #[.val (.ref p0), .val (.int (16 : Int32)), .val (.int (0 : Int32))] [(.long (65536 : Int64)), (.long (1 : Int64)), (.int (0 : Int32)), (.ref p1)]
  refine o_lor P (hb hby de24_51) (pc' := 52) rfl ?_
  show OG p e below m _ T 52 #[.val (.ref p0), .val (.int (16 : Int32)), .val (.int (0 : Int32))] [(.long (65537 : Int64)), (.int (0 : Int32)), (.ref p1)]
  refine o_lastore P (v := (.long (65537 : Int64))) A_p1 (List.Mem.head _) (by decide) (of_decide_eq_true rfl) rfl (hb hby de24_52) (pc' := 53) rfl ?_
  clear P; clear A_p1; intro T h5 P W5 A_p1
  replace F_p0 := F_p0.oth W5 ne_p0_p1
  clear W5
  replace A_p1 : OArr Z h5 p1 .long [(.long (65537 : Int64))] := A_p1
  refine o_aloadN P (hb hby de24_53) rfl rfl (pc' := 54) rfl ?_
  refine o_callP P (W := 0) (a := p0) (ow hw 90 rfl) (ow hw 91 rfl) (ow hw 93 rfl) (ow hw 92 rfl) (ow hw 54 rfl) (ow hw 94 rfl) (by decide) F_p0.exa (ct_e34 l Z a0 hw EL n0 p0 p1  had od hod h5 F_p0 A_p1 ne_p0_p1) o_sf0 (by rw [hml]; rfl) (by decide) (by decide) (argsL := []) (rest := []) (lenOf pd_0 rfl) rfl rfl (Nat.le_of_eq rfl) (hb hby de24_54) (pc' := 57) rfl (by decide) (by decide) ?_
  clear P; intro T h7 v7 P K7 q7
  obtain ⟨rfl, rfl⟩ := q7; clear K7
  show OG p e below m _ T 57 #[.val (.ref p0), .val (.int (16 : Int32)), .val (.int (0 : Int32))] []
  exact o_ret0 P hret (hb hby de24_57) (by decide) (by decide) ⟨rfl, A_p1, trivial⟩
theorem ef_ct_e36 (x0 : Addr) (x1 : Addr) (x2 : Int32) (m : MethodId) : entryFrame m #[(.ref x0), (.ref x1), (.int x2)] 3 = mkF m 0 #[.val (.ref x0), .val (.ref x1), .val (.int x2)] [] := by first | (simp [entryFrame, mkF, argsToLocals, o_catR, o_catN, o_catI, o_catJ, o_catD]; done) | rfl
theorem pn_e2 : plainName "com/example/centile/centile/function/Selection" = true := by first | (simp [plainName, overriddenIn]; done) | decide +kernel
set_option maxRecDepth 65536 in
set_option maxHeartbeats 40000000 in
theorem ct_e36 (l : Launch) (Z : State) (a0 : Array Value) (hw : ∀ d ∈ tables_1, d.before a0 Z = true) (EL : List (String × Nat)) (n0 : Nat) (p0 : Addr) (p1 : Addr) (x0 : Int64) (x1 : Int64) (had : Sta Z Z.heap "java/util/BitSet" "$assertionsDisabled" "Z" (.int 1)) (od : Addr) (hod : Sta Z Z.heap "com/example/centile/centile/function/Order" "ASCENDING" "Lcom/example/centile/centile/function/Order;" (.ref od)) (h0 : Heap) (F_p0 : OObj Z h0 p0 "com/example/centile/centile/function/Selection" [("com/example/centile/centile/function/Selection", "values", "[J", .null), ("com/example/centile/centile/function/Selection", "cuts", "Ljava/util/BitSet;", .null)]) (A_p1 : OArr Z h0 p1 .long [(.long x0), (.long x1), (.long x0), (.long x1), (.long x0), (.long x1), (.long x0), (.long x1), (.long x0), (.long x1), (.long x0), (.long x1), (.long x0), (.long x1), (.long x0), (.long x1)]) (ne_p0_p1 : p0 ≠ p1) :
    OCt l Z a0 EL n0 (⟨"com/example/centile/centile/function/Selection", "<init>", "([JI)V"⟩ : MethodName) prog_15_method_1_code 3 none ({ frames := 3, cells := 2, slots := 4, locals := 42 } : Room) [] #[(.ref p0), (.ref p1), (.int (16 : Int32))] h0 [p0] (fun w vm h => ∃ n0 n1 : Addr, w = none ∧ h0.size ≤ n0 ∧ h0.size ≤ n1 ∧ n0 ≠ n1 ∧ OObj Z h p0 "com/example/centile/centile/function/Selection" [("com/example/centile/centile/function/Selection", "values", "[J", (.ref p1)), ("com/example/centile/centile/function/Selection", "cuts", "Ljava/util/BitSet;", (.ref n0))] ∧ OObj Z h n0 "java/util/BitSet" [("java/util/BitSet", "wordsInUse", "I", (.int (1 : Int32))), ("java/util/BitSet", "sizeIsSticky", "Z", (.int (1 : Int32))), ("java/util/BitSet", "words", "[J", (.ref n1))] ∧ OArr Z h n1 .long [(.long (65537 : Int64))] ∧ True) := by
  refine OCt.body (plainFor_of_name pn_e2) (ef_ct_e36 p0 p1 ((16 : Int32))) ?_
  intro p e s m below meth c T hby hml hret hnm hsh P
  refine o_aloadN P (hb hby de17_0) rfl rfl (pc' := 1) rfl ?_
  refine o_initO P (W := 0) (ow hw 49 rfl) (ow hw 7 rfl) (ow hw 8 rfl) (by rw [hml]; rfl) (by decide) (Nat.le_of_eq rfl) (by decide) (hb hby de17_1) (pc' := 4) rfl ?_
  clear P; intro T P
  refine o_aloadN P (hb hby de17_4) rfl rfl (pc' := 5) rfl ?_
  refine o_aloadN P (hb hby de17_5) rfl rfl (pc' := 6) rfl ?_
  refine o_putF P (v' := (.ref p1)) (ty := (.array .long)) (ow hw 50 rfl) Via.refl (F_p0.fld 0 rfl) F_p0.exa (Or.inr ⟨(ow hw 51 rfl), rfl, hnm⟩) (ow hw 44 rfl) (by decide) rfl rfl (List.Mem.head _) (hb hby de17_6) (pc' := 9) rfl ?_
  clear P; intro T h1 P W1
  replace A_p1 := A_p1.oth W1 (Ne.symm ne_p0_p1)
  replace F_p0 : OObj Z h1 p0 "com/example/centile/centile/function/Selection" [("com/example/centile/centile/function/Selection", "values", "[J", (.ref p1)), ("com/example/centile/centile/function/Selection", "cuts", "Ljava/util/BitSet;", .null)] := F_p0.put 0 rfl W1
  clear W1
  refine o_aloadN P (hb hby de17_9) rfl rfl (pc' := 10) rfl ?_
  have hz_b2 := P.keep0.1
  refine o_new P [("java/util/BitSet", "wordsInUse", "I", (.int (0 : Int32))), ("java/util/BitSet", "sizeIsSticky", "Z", (.int (0 : Int32))), ("java/util/BitSet", "words", "[J", .null)] (ow hw 52 rfl) (ow hw 53 rfl) (ow hw 54 rfl) (OLd.cons (Or.inl (ow hw 60 rfl)) (ty := .int) (by decide) rfl (OLd.cons (Or.inl (ow hw 62 rfl)) (ty := .boolean) (by decide) rfl (OLd.cons (Or.inl (ow hw 72 rfl)) (ty := (.array .long)) (by decide) rfl OLd.nil))) (by decide +kernel) (hb hby de17_10) (pc' := 13) rfl (by decide) (by decide) ?_
  clear P; intro T h2 b2 P K2 hb_b2 F_b2
  have sz_b2 := Nat.le_trans hz_b2 hb_b2
  clear hz_b2
  have ne_p0_b2 : p0 ≠ b2 := Nat.ne_of_lt (Nat.lt_of_lt_of_le F_p0.lt hb_b2)
  have ne_p1_b2 : p1 ≠ b2 := Nat.ne_of_lt (Nat.lt_of_lt_of_le A_p1.lt hb_b2)
  replace F_p0 := F_p0.keep K2 nin0
  replace A_p1 := A_p1.keep K2 nin0
  clear K2
  refine o_dup P (hb hby de17_13) rfl (pc' := 14) rfl ?_
  refine o_iloadN P (hb hby de17_14) rfl (pc' := 15) rfl ?_
  refine o_iconst P (1 : Int32) (hb hby de17_15) rfl (pc' := 16) rfl ?_
  refine o_iadd P (hb hby de17_16) (pc' := 17) rfl ?_
  show OG p e below m _ T 17 #[.val (.ref p0), .val (.ref p1), .val (.int (16 : Int32))] [(.int (17 : Int32)), (.ref b2), (.ref b2), (.ref p0)]
  have hn_3 := P.n0le; have hk_3 := P.keep0.1
  refine o_callI P (W := 2) (a := b2) rfl (ow hw 55 rfl) (ow hw 56 rfl) (ow hw 54 rfl) (ow hw 57 rfl) (by decide) (ct_e23 l Z a0 hw EL n0 b2  had od hod h2 F_b2 ) (o_sfS (List.Mem.head _) o_sf0) (by rw [hml]; rfl) (by decide) (by decide) (argsL := [(.int (17 : Int32))]) (rest := [(.ref b2), (.ref p0)]) (lenOf pd_1 rfl) rfl rfl (Nat.le_of_eq rfl) (hb hby de17_17) (pc' := 20) rfl (by decide) (by decide) ?_
  clear P; intro T h4 v4 P K4 q4
  obtain ⟨n0_3, rfl, g_n0_3, Q_b2, Q_n0_3, -⟩ := q4
  have ne_p0_n0_3 : p0 ≠ n0_3 := Nat.ne_of_lt (Nat.lt_of_lt_of_le F_p0.lt g_n0_3)
  have ne_b2_n0_3 : b2 ≠ n0_3 := Nat.ne_of_lt (Nat.lt_of_lt_of_le F_b2.lt g_n0_3)
  have ne_p1_n0_3 : p1 ≠ n0_3 := Nat.ne_of_lt (Nat.lt_of_lt_of_le A_p1.lt g_n0_3)
  have sz_n0_3 := Nat.le_trans hk_3 g_n0_3
  replace F_p0 := F_p0.keep K4 (ninS ne_p0_b2 nin0)
  replace A_p1 := A_p1.keep K4 (ninS ne_p1_b2 nin0)
  clear F_b2
  have F_b2 := Q_b2; clear Q_b2
  have A_n0_3 := Q_n0_3; clear Q_n0_3
  replace P := P.moreA A_n0_3 (fun q => by cases q) (Nat.le_trans hn_3 g_n0_3) sz_n0_3
  clear K4 hn_3 hk_3
  show OG p e below m _ T 20 #[.val (.ref p0), .val (.ref p1), .val (.int (16 : Int32))] [(.ref b2), (.ref p0)]
  refine o_putF P (v' := (.ref b2)) (ty := (.object "java/util/BitSet")) (ow hw 73 rfl) Via.refl (F_p0.fld 1 rfl) F_p0.exa (Or.inr ⟨(ow hw 74 rfl), rfl, hnm⟩) (ow hw 44 rfl) (by decide) rfl rfl (List.Mem.tail _ (List.Mem.tail _ (List.Mem.head _))) (hb hby de17_20) (pc' := 23) rfl ?_
  clear P; intro T h5 P W5
  replace F_b2 := F_b2.oth W5 (Ne.symm ne_p0_b2)
  replace A_p1 := A_p1.oth W5 (Ne.symm ne_p0_p1)
  replace A_n0_3 := A_n0_3.oth W5 (Ne.symm ne_p0_n0_3)
  replace F_p0 : OObj Z h5 p0 "com/example/centile/centile/function/Selection" [("com/example/centile/centile/function/Selection", "values", "[J", (.ref p1)), ("com/example/centile/centile/function/Selection", "cuts", "Ljava/util/BitSet;", (.ref b2))] := F_p0.put 1 rfl W5
  clear W5
  refine o_aloadN P (hb hby de17_23) rfl rfl (pc' := 24) rfl ?_
  refine o_getF P (ow hw 73 rfl) Via.refl (F_p0.fld 1 rfl) (hb hby de17_24) (pc' := 27) rfl ?_
  clear P; intro T P
  refine o_iconst P (0 : Int32) (hb hby de17_27) rfl (pc' := 28) rfl ?_
  have hn_6 := P.n0le; have hk_6 := P.keep0.1
  refine o_callV P (W := 0) (x := (⟨"java/util/BitSet", "set", "(I)V"⟩ : MethodName)) (y := (⟨"java/util/BitSet", "set", "(I)V"⟩ : MethodName)) (a := b2) (ow hw 75 rfl) (ow hw 76 rfl) (o_nfSel (y := (⟨"java/util/BitSet", "set", "(I)V"⟩ : MethodName)) rfl (ow hw 78 rfl)) (ow hw 78 rfl) (ow hw 77 rfl) (ow hw 54 rfl) (ow hw 79 rfl) (by decide) F_b2.exa (ct_e32 l Z a0 hw EL n0 b2 n0_3  had od hod h5 F_b2 A_n0_3 ne_b2_n0_3) (o_sfS (List.Mem.tail _ (List.Mem.head _)) (o_sfS (List.Mem.head _) o_sf0)) (by rw [hml]; rfl) (by decide) (by decide) (argsL := [(.int (0 : Int32))]) (rest := []) (lenOf pd_1 rfl) rfl rfl (Nat.le_of_eq rfl) (hb hby de17_28) (pc' := 31) rfl (by decide) (by decide) ?_
  clear P; intro T h7 v7 P K7 q7
  obtain ⟨rfl, Q_b2, Q_n0_3, -⟩ := q7
  replace F_p0 := F_p0.keep K7 (ninS ne_p0_b2 (ninS ne_p0_n0_3 nin0))
  replace A_p1 := A_p1.keep K7 (ninS ne_p1_b2 (ninS ne_p1_n0_3 nin0))
  clear F_b2
  have F_b2 := Q_b2; clear Q_b2
  clear A_n0_3
  have A_n0_3 := Q_n0_3; clear Q_n0_3
  clear K7 hn_6 hk_6
  show OG p e below m _ T 31 #[.val (.ref p0), .val (.ref p1), .val (.int (16 : Int32))] []
  refine o_aloadN P (hb hby de17_31) rfl rfl (pc' := 32) rfl ?_
  refine o_getF P (ow hw 73 rfl) Via.refl (F_p0.fld 1 rfl) (hb hby de17_32) (pc' := 35) rfl ?_
  clear P; intro T P
  refine o_iloadN P (hb hby de17_35) rfl (pc' := 36) rfl ?_
  have hn_8 := P.n0le; have hk_8 := P.keep0.1
  refine o_callV P (W := 0) (x := (⟨"java/util/BitSet", "set", "(I)V"⟩ : MethodName)) (y := (⟨"java/util/BitSet", "set", "(I)V"⟩ : MethodName)) (a := b2) (ow hw 75 rfl) (ow hw 76 rfl) (o_nfSel (y := (⟨"java/util/BitSet", "set", "(I)V"⟩ : MethodName)) rfl (ow hw 78 rfl)) (ow hw 78 rfl) (ow hw 77 rfl) (ow hw 54 rfl) (ow hw 79 rfl) (by decide) F_b2.exa (ct_e35 l Z a0 hw EL n0 b2 n0_3  had od hod h7 F_b2 A_n0_3 ne_b2_n0_3) (o_sfS (List.Mem.head _) o_sf0) (by rw [hml]; rfl) (by decide) (by decide) (argsL := [(.int (16 : Int32))]) (rest := []) (lenOf pd_1 rfl) rfl rfl (Nat.le_of_eq rfl) (hb hby de17_36) (pc' := 39) rfl (by decide) (by decide) ?_
  clear P; intro T h9 v9 P K9 q9
  obtain ⟨rfl, Q_n0_3, -⟩ := q9
  replace F_p0 := F_p0.keep K9 (ninS ne_p0_n0_3 nin0)
  replace F_b2 := F_b2.keep K9 (ninS ne_b2_n0_3 nin0)
  replace A_p1 := A_p1.keep K9 (ninS ne_p1_n0_3 nin0)
  clear A_n0_3
  have A_n0_3 := Q_n0_3; clear Q_n0_3
  clear K9 hn_8 hk_8
  show OG p e below m _ T 39 #[.val (.ref p0), .val (.ref p1), .val (.int (16 : Int32))] []
  exact o_ret0 P hret (hb hby de17_39) (by decide) (by decide) ⟨b2, n0_3, rfl, hsh ▸ sz_b2, hsh ▸ sz_n0_3, ne_b2_n0_3, F_p0, F_b2, A_n0_3, trivial⟩
theorem de37_0 : decode prog_15_method_2_code 0 = .ok (.aload_n 0, 1) := by decide +kernel
theorem de37_1 : decode prog_15_method_2_code 1 = .ok (.iload_n 1, 1) := by decide +kernel
theorem de37_2 : decode prog_15_method_2_code 2 = .ok (.invokevirtual 25, 3) := by decide +kernel
theorem de37_5 : decode prog_15_method_2_code 5 = .ok (.aload_n 0, 1) := by decide +kernel
theorem de37_6 : decode prog_15_method_2_code 6 = .ok (.getfield 7, 3) := by decide +kernel
theorem de37_9 : decode prog_15_method_2_code 9 = .ok (.iload_n 1, 1) := by decide +kernel
theorem de37_10 : decode prog_15_method_2_code 10 = .ok (.laload, 1) := by decide +kernel
theorem de37_11 : decode prog_15_method_2_code 11 = .ok (.lreturn, 1) := by decide +kernel
theorem de38_0 : decode prog_15_method_3_code 0 = .ok (.aload_n 0, 1) := by decide +kernel
theorem de38_1 : decode prog_15_method_3_code 1 = .ok (.getfield 18, 3) := by decide +kernel
theorem de38_4 : decode prog_15_method_3_code 4 = .ok (.iload_n 1, 1) := by decide +kernel
theorem de38_5 : decode prog_15_method_3_code 5 = .ok (.invokevirtual 28, 3) := by decide +kernel
theorem de38_8 : decode prog_15_method_3_code 8 = .ok (.ifCond .eq 17, 3) := by decide +kernel
theorem de38_11 : decode prog_15_method_3_code 11 = .ok (.aload_n 0, 1) := by decide +kernel
theorem de38_12 : decode prog_15_method_3_code 12 = .ok (.getfield 18, 3) := by decide +kernel
theorem de38_15 : decode prog_15_method_3_code 15 = .ok (.iload_n 1, 1) := by decide +kernel
theorem de38_16 : decode prog_15_method_3_code 16 = .ok (.iconst 1, 1) := by decide +kernel
theorem de38_17 : decode prog_15_method_3_code 17 = .ok (.iadd, 1) := by decide +kernel
theorem de38_18 : decode prog_15_method_3_code 18 = .ok (.invokevirtual 28, 3) := by decide +kernel
theorem de38_21 : decode prog_15_method_3_code 21 = .ok (.ifCond .eq 4, 3) := by decide +kernel
theorem de38_24 : decode prog_15_method_3_code 24 = .ok (.return_, 1) := by decide +kernel
theorem de38_25 : decode prog_15_method_3_code 25 = .ok (.aload_n 0, 1) := by decide +kernel
theorem de38_26 : decode prog_15_method_3_code 26 = .ok (.getfield 18, 3) := by decide +kernel
theorem de38_29 : decode prog_15_method_3_code 29 = .ok (.iload_n 1, 1) := by decide +kernel
theorem de38_30 : decode prog_15_method_3_code 30 = .ok (.invokevirtual 32, 3) := by decide +kernel
theorem de38_33 : decode prog_15_method_3_code 33 = .ok (.istore_n 2, 1) := by decide +kernel
theorem de38_34 : decode prog_15_method_3_code 34 = .ok (.aload_n 0, 1) := by decide +kernel
theorem de38_35 : decode prog_15_method_3_code 35 = .ok (.getfield 18, 3) := by decide +kernel
theorem de38_38 : decode prog_15_method_3_code 38 = .ok (.iload_n 1, 1) := by decide +kernel
theorem de38_39 : decode prog_15_method_3_code 39 = .ok (.iconst 1, 1) := by decide +kernel
theorem de38_40 : decode prog_15_method_3_code 40 = .ok (.iadd, 1) := by decide +kernel
theorem de38_41 : decode prog_15_method_3_code 41 = .ok (.invokevirtual 36, 3) := by decide +kernel
theorem de38_44 : decode prog_15_method_3_code 44 = .ok (.istore_n 3, 1) := by decide +kernel
theorem de38_45 : decode prog_15_method_3_code 45 = .ok (.iconst 0, 1) := by decide +kernel
theorem de38_46 : decode prog_15_method_3_code 46 = .ok (.istore 4, 2) := by decide +kernel
theorem de38_48 : decode prog_15_method_3_code 48 = .ok (.iload_n 3, 1) := by decide +kernel
theorem de38_49 : decode prog_15_method_3_code 49 = .ok (.iload_n 2, 1) := by decide +kernel
theorem de38_50 : decode prog_15_method_3_code 50 = .ok (.isub, 1) := by decide +kernel
theorem de38_51 : decode prog_15_method_3_code 51 = .ok (.sipush 256, 3) := by decide +kernel
theorem de38_54 : decode prog_15_method_3_code 54 = .ok (.if_icmp .le 249, 3) := by decide +kernel
theorem de38_57 : decode prog_15_method_3_code 57 = .ok (.iload 4, 2) := by decide +kernel
theorem de38_59 : decode prog_15_method_3_code 59 = .ok (.iconst 3, 1) := by decide +kernel
theorem de38_60 : decode prog_15_method_3_code 60 = .ok (.if_icmp .ge 243, 3) := by decide +kernel
theorem de38_63 : decode prog_15_method_3_code 63 = .ok (.iload_n 1, 1) := by decide +kernel
theorem de38_64 : decode prog_15_method_3_code 64 = .ok (.iload_n 2, 1) := by decide +kernel
theorem de38_65 : decode prog_15_method_3_code 65 = .ok (.if_icmp .eq 10, 3) := by decide +kernel
theorem de38_68 : decode prog_15_method_3_code 68 = .ok (.iload_n 1, 1) := by decide +kernel
theorem de38_69 : decode prog_15_method_3_code 69 = .ok (.iload_n 3, 1) := by decide +kernel
theorem de38_70 : decode prog_15_method_3_code 70 = .ok (.iconst 1, 1) := by decide +kernel
theorem de38_71 : decode prog_15_method_3_code 71 = .ok (.isub, 1) := by decide +kernel
theorem de38_72 : decode prog_15_method_3_code 72 = .ok (.if_icmp .ne 29, 3) := by decide +kernel
theorem de38_75 : decode prog_15_method_3_code 75 = .ok (.aload_n 0, 1) := by decide +kernel
theorem de38_76 : decode prog_15_method_3_code 76 = .ok (.iload_n 2, 1) := by decide +kernel
theorem de38_77 : decode prog_15_method_3_code 77 = .ok (.iload_n 3, 1) := by decide +kernel
theorem de38_78 : decode prog_15_method_3_code 78 = .ok (.iload_n 1, 1) := by decide +kernel
theorem de38_79 : decode prog_15_method_3_code 79 = .ok (.invokevirtual 39, 3) := by decide +kernel
theorem de38_82 : decode prog_15_method_3_code 82 = .ok (.aload_n 0, 1) := by decide +kernel
theorem de38_83 : decode prog_15_method_3_code 83 = .ok (.getfield 18, 3) := by decide +kernel
theorem de38_86 : decode prog_15_method_3_code 86 = .ok (.iload_n 1, 1) := by decide +kernel
theorem de38_87 : decode prog_15_method_3_code 87 = .ok (.invokevirtual 22, 3) := by decide +kernel
theorem de38_90 : decode prog_15_method_3_code 90 = .ok (.aload_n 0, 1) := by decide +kernel
theorem de38_91 : decode prog_15_method_3_code 91 = .ok (.getfield 18, 3) := by decide +kernel
theorem de38_94 : decode prog_15_method_3_code 94 = .ok (.iload_n 1, 1) := by decide +kernel
theorem de38_95 : decode prog_15_method_3_code 95 = .ok (.iconst 1, 1) := by decide +kernel
theorem de38_96 : decode prog_15_method_3_code 96 = .ok (.iadd, 1) := by decide +kernel
theorem de38_97 : decode prog_15_method_3_code 97 = .ok (.invokevirtual 22, 3) := by decide +kernel
theorem de38_100 : decode prog_15_method_3_code 100 = .ok (.return_, 1) := by decide +kernel
theorem de38_101 : decode prog_15_method_3_code 101 = .ok (.iload_n 3, 1) := by decide +kernel
theorem de38_102 : decode prog_15_method_3_code 102 = .ok (.iload_n 2, 1) := by decide +kernel
theorem de38_103 : decode prog_15_method_3_code 103 = .ok (.isub, 1) := by decide +kernel
theorem de38_104 : decode prog_15_method_3_code 104 = .ok (.istore 5, 2) := by decide +kernel
theorem de38_106 : decode prog_15_method_3_code 106 = .ok (.iload_n 1, 1) := by decide +kernel
theorem de38_107 : decode prog_15_method_3_code 107 = .ok (.iload_n 2, 1) := by decide +kernel
theorem de38_108 : decode prog_15_method_3_code 108 = .ok (.isub, 1) := by decide +kernel
theorem de38_109 : decode prog_15_method_3_code 109 = .ok (.iload 5, 2) := by decide +kernel
theorem de38_111 : decode prog_15_method_3_code 111 = .ok (.iconst 2, 1) := by decide +kernel
theorem de38_112 : decode prog_15_method_3_code 112 = .ok (.idiv, 1) := by decide +kernel
theorem de38_113 : decode prog_15_method_3_code 113 = .ok (.if_icmp .ge 7, 3) := by decide +kernel
theorem de38_116 : decode prog_15_method_3_code 116 = .ok (.iconst 1, 1) := by decide +kernel
theorem de38_117 : decode prog_15_method_3_code 117 = .ok (.goto 4, 3) := by decide +kernel
theorem de38_120 : decode prog_15_method_3_code 120 = .ok (.iconst 0, 1) := by decide +kernel
theorem de38_121 : decode prog_15_method_3_code 121 = .ok (.istore 6, 2) := by decide +kernel
theorem de38_123 : decode prog_15_method_3_code 123 = .ok (.aload_n 0, 1) := by decide +kernel
theorem de38_124 : decode prog_15_method_3_code 124 = .ok (.iload_n 2, 1) := by decide +kernel
theorem de38_125 : decode prog_15_method_3_code 125 = .ok (.iload_n 3, 1) := by decide +kernel
theorem de38_126 : decode prog_15_method_3_code 126 = .ok (.iload_n 1, 1) := by decide +kernel
theorem de38_127 : decode prog_15_method_3_code 127 = .ok (.iload 6, 2) := by decide +kernel
theorem de38_129 : decode prog_15_method_3_code 129 = .ok (.invokevirtual 43, 3) := by decide +kernel
theorem de38_132 : decode prog_15_method_3_code 132 = .ok (.lstore 7, 2) := by decide +kernel
theorem de38_134 : decode prog_15_method_3_code 134 = .ok (.iload 6, 2) := by decide +kernel
theorem de38_136 : decode prog_15_method_3_code 136 = .ok (.ifCond .eq 14, 3) := by decide +kernel
theorem de38_139 : decode prog_15_method_3_code 139 = .ok (.aload_n 0, 1) := by decide +kernel
theorem de38_140 : decode prog_15_method_3_code 140 = .ok (.iload_n 2, 1) := by decide +kernel
theorem de38_141 : decode prog_15_method_3_code 141 = .ok (.iload_n 3, 1) := by decide +kernel
theorem de38_142 : decode prog_15_method_3_code 142 = .ok (.lload 7, 2) := by decide +kernel
theorem de38_144 : decode prog_15_method_3_code 144 = .ok (.invokevirtual 47, 3) := by decide +kernel
theorem de38_147 : decode prog_15_method_3_code 147 = .ok (.goto 11, 3) := by decide +kernel
theorem de38_150 : decode prog_15_method_3_code 150 = .ok (.aload_n 0, 1) := by decide +kernel
theorem de38_151 : decode prog_15_method_3_code 151 = .ok (.iload_n 2, 1) := by decide +kernel
theorem de38_152 : decode prog_15_method_3_code 152 = .ok (.iload_n 3, 1) := by decide +kernel
theorem de38_153 : decode prog_15_method_3_code 153 = .ok (.lload 7, 2) := by decide +kernel
theorem de38_155 : decode prog_15_method_3_code 155 = .ok (.invokevirtual 51, 3) := by decide +kernel
theorem de38_158 : decode prog_15_method_3_code 158 = .ok (.istore 9, 2) := by decide +kernel
theorem de38_160 : decode prog_15_method_3_code 160 = .ok (.aload_n 0, 1) := by decide +kernel
theorem de38_161 : decode prog_15_method_3_code 161 = .ok (.getfield 18, 3) := by decide +kernel
theorem de38_164 : decode prog_15_method_3_code 164 = .ok (.iload 9, 2) := by decide +kernel
theorem de38_166 : decode prog_15_method_3_code 166 = .ok (.invokevirtual 22, 3) := by decide +kernel
theorem de38_169 : decode prog_15_method_3_code 169 = .ok (.iload 6, 2) := by decide +kernel
theorem de38_171 : decode prog_15_method_3_code 171 = .ok (.iload_n 1, 1) := by decide +kernel
theorem de38_172 : decode prog_15_method_3_code 172 = .ok (.iload 9, 2) := by decide +kernel
theorem de38_174 : decode prog_15_method_3_code 174 = .ok (.if_icmp .ge 7, 3) := by decide +kernel
theorem de38_177 : decode prog_15_method_3_code 177 = .ok (.iconst 1, 1) := by decide +kernel
theorem de38_178 : decode prog_15_method_3_code 178 = .ok (.goto 4, 3) := by decide +kernel
theorem de38_181 : decode prog_15_method_3_code 181 = .ok (.iconst 0, 1) := by decide +kernel
theorem de38_182 : decode prog_15_method_3_code 182 = .ok (.if_icmp .ne 20, 3) := by decide +kernel
theorem de38_185 : decode prog_15_method_3_code 185 = .ok (.iload 6, 2) := by decide +kernel
theorem de38_187 : decode prog_15_method_3_code 187 = .ok (.ifCond .eq 9, 3) := by decide +kernel
theorem de38_190 : decode prog_15_method_3_code 190 = .ok (.iload 9, 2) := by decide +kernel
theorem de38_192 : decode prog_15_method_3_code 192 = .ok (.istore_n 3, 1) := by decide +kernel
theorem de38_193 : decode prog_15_method_3_code 193 = .ok (.goto 92, 3) := by decide +kernel
theorem de38_196 : decode prog_15_method_3_code 196 = .ok (.iload 9, 2) := by decide +kernel
theorem de38_198 : decode prog_15_method_3_code 198 = .ok (.istore_n 2, 1) := by decide +kernel
theorem de38_199 : decode prog_15_method_3_code 199 = .ok (.goto 86, 3) := by decide +kernel
theorem de38_202 : decode prog_15_method_3_code 202 = .ok (.iload 6, 2) := by decide +kernel
theorem de38_204 : decode prog_15_method_3_code 204 = .ok (.ifCond .eq 8, 3) := by decide +kernel
theorem de38_207 : decode prog_15_method_3_code 207 = .ok (.iload 9, 2) := by decide +kernel
theorem de38_209 : decode prog_15_method_3_code 209 = .ok (.goto 12, 3) := by decide +kernel
theorem de38_212 : decode prog_15_method_3_code 212 = .ok (.aload_n 0, 1) := by decide +kernel
theorem de38_213 : decode prog_15_method_3_code 213 = .ok (.iload_n 2, 1) := by decide +kernel
theorem de38_214 : decode prog_15_method_3_code 214 = .ok (.iload 9, 2) := by decide +kernel
theorem de38_216 : decode prog_15_method_3_code 216 = .ok (.lload 7, 2) := by decide +kernel
theorem de38_218 : decode prog_15_method_3_code 218 = .ok (.invokevirtual 47, 3) := by decide +kernel
theorem de38_221 : decode prog_15_method_3_code 221 = .ok (.istore 10, 2) := by decide +kernel
theorem de38_223 : decode prog_15_method_3_code 223 = .ok (.iload 6, 2) := by decide +kernel
theorem de38_225 : decode prog_15_method_3_code 225 = .ok (.ifCond .eq 15, 3) := by decide +kernel
theorem de38_228 : decode prog_15_method_3_code 228 = .ok (.aload_n 0, 1) := by decide +kernel
theorem de38_229 : decode prog_15_method_3_code 229 = .ok (.iload 9, 2) := by decide +kernel
theorem de38_231 : decode prog_15_method_3_code 231 = .ok (.iload_n 3, 1) := by decide +kernel
theorem de38_232 : decode prog_15_method_3_code 232 = .ok (.lload 7, 2) := by decide +kernel
theorem de38_234 : decode prog_15_method_3_code 234 = .ok (.invokevirtual 51, 3) := by decide +kernel
theorem de38_237 : decode prog_15_method_3_code 237 = .ok (.goto 5, 3) := by decide +kernel
theorem de38_240 : decode prog_15_method_3_code 240 = .ok (.iload 9, 2) := by decide +kernel
theorem de38_242 : decode prog_15_method_3_code 242 = .ok (.istore 11, 2) := by decide +kernel
theorem de38_244 : decode prog_15_method_3_code 244 = .ok (.aload_n 0, 1) := by decide +kernel
theorem de38_245 : decode prog_15_method_3_code 245 = .ok (.getfield 18, 3) := by decide +kernel
theorem de38_248 : decode prog_15_method_3_code 248 = .ok (.iload 10, 2) := by decide +kernel
theorem de38_250 : decode prog_15_method_3_code 250 = .ok (.iload 11, 2) := by decide +kernel
theorem de38_252 : decode prog_15_method_3_code 252 = .ok (.iconst 1, 1) := by decide +kernel
theorem de38_253 : decode prog_15_method_3_code 253 = .ok (.iadd, 1) := by decide +kernel
theorem de38_254 : decode prog_15_method_3_code 254 = .ok (.invokevirtual 54, 3) := by decide +kernel
theorem de38_257 : decode prog_15_method_3_code 257 = .ok (.iload_n 1, 1) := by decide +kernel
theorem de38_258 : decode prog_15_method_3_code 258 = .ok (.iload 10, 2) := by decide +kernel
theorem de38_260 : decode prog_15_method_3_code 260 = .ok (.if_icmp .lt 10, 3) := by decide +kernel
theorem de38_263 : decode prog_15_method_3_code 263 = .ok (.iload_n 1, 1) := by decide +kernel
theorem de38_264 : decode prog_15_method_3_code 264 = .ok (.iload 11, 2) := by decide +kernel
theorem de38_266 : decode prog_15_method_3_code 266 = .ok (.if_icmp .ge 4, 3) := by decide +kernel
theorem de38_269 : decode prog_15_method_3_code 269 = .ok (.return_, 1) := by decide +kernel
theorem de38_270 : decode prog_15_method_3_code 270 = .ok (.iload_n 1, 1) := by decide +kernel
theorem de38_271 : decode prog_15_method_3_code 271 = .ok (.iload 10, 2) := by decide +kernel
theorem de38_273 : decode prog_15_method_3_code 273 = .ok (.if_icmp .ge 9, 3) := by decide +kernel
theorem de38_276 : decode prog_15_method_3_code 276 = .ok (.iload 10, 2) := by decide +kernel
theorem de38_278 : decode prog_15_method_3_code 278 = .ok (.istore_n 3, 1) := by decide +kernel
theorem de38_279 : decode prog_15_method_3_code 279 = .ok (.goto 6, 3) := by decide +kernel
theorem de38_282 : decode prog_15_method_3_code 282 = .ok (.iload 11, 2) := by decide +kernel
theorem de38_284 : decode prog_15_method_3_code 284 = .ok (.istore_n 2, 1) := by decide +kernel
theorem de38_285 : decode prog_15_method_3_code 285 = .ok (.iload_n 3, 1) := by decide +kernel
theorem de38_286 : decode prog_15_method_3_code 286 = .ok (.iload_n 2, 1) := by decide +kernel
theorem de38_287 : decode prog_15_method_3_code 287 = .ok (.isub, 1) := by decide +kernel
theorem de38_288 : decode prog_15_method_3_code 288 = .ok (.iload 5, 2) := by decide +kernel
theorem de38_290 : decode prog_15_method_3_code 290 = .ok (.iconst 4, 1) := by decide +kernel
theorem de38_291 : decode prog_15_method_3_code 291 = .ok (.idiv, 1) := by decide +kernel
theorem de38_292 : decode prog_15_method_3_code 292 = .ok (.iconst 3, 1) := by decide +kernel
theorem de38_293 : decode prog_15_method_3_code 293 = .ok (.imul, 1) := by decide +kernel
theorem de38_294 : decode prog_15_method_3_code 294 = .ok (.if_icmp .le 6, 3) := by decide +kernel
theorem de38_297 : decode prog_15_method_3_code 297 = .ok (.iinc 4 1, 3) := by decide +kernel
theorem de38_300 : decode prog_15_method_3_code 300 = .ok (.goto (-252), 3) := by decide +kernel
theorem de38_303 : decode prog_15_method_3_code 303 = .ok (.aload_n 0, 1) := by decide +kernel
theorem de38_304 : decode prog_15_method_3_code 304 = .ok (.getfield 7, 3) := by decide +kernel
theorem de38_307 : decode prog_15_method_3_code 307 = .ok (.iload_n 2, 1) := by decide +kernel
theorem de38_308 : decode prog_15_method_3_code 308 = .ok (.iload_n 3, 1) := by decide +kernel
theorem de38_309 : decode prog_15_method_3_code 309 = .ok (.invokestatic 57, 3) := by decide +kernel
theorem de38_312 : decode prog_15_method_3_code 312 = .ok (.aload_n 0, 1) := by decide +kernel
theorem de38_313 : decode prog_15_method_3_code 313 = .ok (.getfield 18, 3) := by decide +kernel
theorem de38_316 : decode prog_15_method_3_code 316 = .ok (.iload_n 2, 1) := by decide +kernel
theorem de38_317 : decode prog_15_method_3_code 317 = .ok (.iload_n 3, 1) := by decide +kernel
theorem de38_318 : decode prog_15_method_3_code 318 = .ok (.iconst 1, 1) := by decide +kernel
theorem de38_319 : decode prog_15_method_3_code 319 = .ok (.iadd, 1) := by decide +kernel
theorem de38_320 : decode prog_15_method_3_code 320 = .ok (.invokevirtual 54, 3) := by decide +kernel
theorem de38_323 : decode prog_15_method_3_code 323 = .ok (.return_, 1) := by decide +kernel
theorem de39_0 : decode jdk_92_method_26_code 0 = .ok (.iload_n 1, 1) := by decide +kernel
theorem de39_1 : decode jdk_92_method_26_code 1 = .ok (.ifCond .ge 30, 3) := by decide +kernel
theorem de39_4 : decode jdk_92_method_26_code 4 = .ok (.new 142, 3) := by decide +kernel
theorem de39_7 : decode jdk_92_method_26_code 7 = .ok (.dup, 1) := by decide +kernel
theorem de39_8 : decode jdk_92_method_26_code 8 = .ok (.new 33, 3) := by decide +kernel
theorem de39_11 : decode jdk_92_method_26_code 11 = .ok (.dup, 1) := by decide +kernel
theorem de39_12 : decode jdk_92_method_26_code 12 = .ok (.invokespecial 35, 3) := by decide +kernel
theorem de39_15 : decode jdk_92_method_26_code 15 = .ok (.ldc 153, 2) := by decide +kernel
theorem de39_17 : decode jdk_92_method_26_code 17 = .ok (.invokevirtual 38, 3) := by decide +kernel
theorem de39_20 : decode jdk_92_method_26_code 20 = .ok (.iload_n 1, 1) := by decide +kernel
theorem de39_21 : decode jdk_92_method_26_code 21 = .ok (.invokevirtual 42, 3) := by decide +kernel
theorem de39_24 : decode jdk_92_method_26_code 24 = .ok (.invokevirtual 45, 3) := by decide +kernel
theorem de39_27 : decode jdk_92_method_26_code 27 = .ok (.invokespecial 146, 3) := by decide +kernel
theorem de39_30 : decode jdk_92_method_26_code 30 = .ok (.athrow, 1) := by decide +kernel
theorem de39_31 : decode jdk_92_method_26_code 31 = .ok (.aload_n 0, 1) := by decide +kernel
theorem de39_32 : decode jdk_92_method_26_code 32 = .ok (.invokevirtual 56, 3) := by decide +kernel
theorem de39_35 : decode jdk_92_method_26_code 35 = .ok (.iload_n 1, 1) := by decide +kernel
theorem de39_36 : decode jdk_92_method_26_code 36 = .ok (.invokestatic 52, 3) := by decide +kernel
theorem de39_39 : decode jdk_92_method_26_code 39 = .ok (.istore_n 2, 1) := by decide +kernel
theorem de39_40 : decode jdk_92_method_26_code 40 = .ok (.iload_n 2, 1) := by decide +kernel
theorem de39_41 : decode jdk_92_method_26_code 41 = .ok (.aload_n 0, 1) := by decide +kernel
theorem de39_42 : decode jdk_92_method_26_code 42 = .ok (.getfield 7, 3) := by decide +kernel
theorem de39_45 : decode jdk_92_method_26_code 45 = .ok (.if_icmp .ge 22, 3) := by decide +kernel
theorem de39_48 : decode jdk_92_method_26_code 48 = .ok (.aload_n 0, 1) := by decide +kernel
theorem de39_49 : decode jdk_92_method_26_code 49 = .ok (.getfield 11, 3) := by decide +kernel
theorem de39_52 : decode jdk_92_method_26_code 52 = .ok (.iload_n 2, 1) := by decide +kernel
theorem de39_53 : decode jdk_92_method_26_code 53 = .ok (.laload, 1) := by decide +kernel
theorem de39_54 : decode jdk_92_method_26_code 54 = .ok (.lconst 1, 1) := by decide +kernel
theorem de39_55 : decode jdk_92_method_26_code 55 = .ok (.iload_n 1, 1) := by decide +kernel
theorem de39_56 : decode jdk_92_method_26_code 56 = .ok (.lshl, 1) := by decide +kernel
theorem de39_57 : decode jdk_92_method_26_code 57 = .ok (.land, 1) := by decide +kernel
theorem de39_58 : decode jdk_92_method_26_code 58 = .ok (.lconst 0, 1) := by decide +kernel
theorem de39_59 : decode jdk_92_method_26_code 59 = .ok (.lcmp, 1) := by decide +kernel
theorem de39_60 : decode jdk_92_method_26_code 60 = .ok (.ifCond .eq 7, 3) := by decide +kernel
theorem de39_63 : decode jdk_92_method_26_code 63 = .ok (.iconst 1, 1) := by decide +kernel
theorem de39_64 : decode jdk_92_method_26_code 64 = .ok (.goto 4, 3) := by decide +kernel
theorem de39_67 : decode jdk_92_method_26_code 67 = .ok (.iconst 0, 1) := by decide +kernel
theorem de39_68 : decode jdk_92_method_26_code 68 = .ok (.ireturn, 1) := by decide +kernel
theorem ef_ct_e40 (x0 : Addr) (x1 : Int32) (m : MethodId) : entryFrame m #[(.ref x0), (.int x1)] 3 = mkF m 0 #[.val (.ref x0), .val (.int x1), .unset] [] := by first | (simp [entryFrame, mkF, argsToLocals, o_catR, o_catN, o_catI, o_catJ, o_catD]; done) | rfl
set_option maxRecDepth 65536 in
set_option maxHeartbeats 40000000 in
theorem ct_e40 (l : Launch) (Z : State) (a0 : Array Value) (hw : ∀ d ∈ tables_1, d.before a0 Z = true) (EL : List (String × Nat)) (n0 : Nat) (p0 : Addr) (p1 : Addr)  (had : Sta Z Z.heap "java/util/BitSet" "$assertionsDisabled" "Z" (.int 1)) (od : Addr) (hod : Sta Z Z.heap "com/example/centile/centile/function/Order" "ASCENDING" "Lcom/example/centile/centile/function/Order;" (.ref od)) (h0 : Heap) (F_p0 : OObj Z h0 p0 "java/util/BitSet" [("java/util/BitSet", "wordsInUse", "I", (.int (1 : Int32))), ("java/util/BitSet", "sizeIsSticky", "Z", (.int (1 : Int32))), ("java/util/BitSet", "words", "[J", (.ref p1))]) (A_p1 : OArr Z h0 p1 .long [(.long (65537 : Int64))]) (ne_p0_p1 : p0 ≠ p1) :
    OCt l Z a0 EL n0 (⟨"java/util/BitSet", "get", "(I)Z"⟩ : MethodName) jdk_92_method_26_code 3 (some .boolean) ({ frames := 1, cells := 0, slots := 0, locals := 12 } : Room) [] #[(.ref p0), (.int (0 : Int32))] h0 [] (fun w vm h => w = some (.int (1 : Int32)) ∧ h = h0) := by
  refine OCt.body (plainFor_of_name pn_e1) (ef_ct_e40 p0 ((0 : Int32))) ?_
  intro p e s m below meth c T hby hml hret hnm hsh P
  refine o_iloadN P (hb hby de39_0) rfl (pc' := 1) rfl ?_
  refine o_if_ge P (hb hby de39_1) (by decide) (pc' := 31) (by decide) (pcf := 4) rfl (fun _ => ?_) (fun q => absurd q (by decide))
  refine o_aloadN P (hb hby de39_31) rfl rfl (pc' := 32) rfl ?_
  refine o_callP P (W := 0) (a := p0) (ow hw 90 rfl) (ow hw 91 rfl) (ow hw 93 rfl) (ow hw 92 rfl) (ow hw 54 rfl) (ow hw 94 rfl) (by decide) F_p0.exa (ct_e34 l Z a0 hw EL n0 p0 p1  had od hod h0 F_p0 A_p1 ne_p0_p1) o_sf0 (by rw [hml]; rfl) (by decide) (by decide) (argsL := []) (rest := []) (lenOf pd_0 rfl) rfl rfl (Nat.le_of_eq rfl) (hb hby de39_32) (pc' := 35) rfl (by decide) (by decide) ?_
  clear P; intro T h2 v2 P K2 q2
  obtain ⟨rfl, rfl⟩ := q2; clear K2
  show OG p e below m _ T 35 #[.val (.ref p0), .val (.int (0 : Int32)), .unset] []
  refine o_iloadN P (hb hby de39_35) rfl (pc' := 36) rfl ?_
  refine o_callS P (W := 0) (ow hw 68 rfl) (ow hw 69 rfl) (ow hw 54 rfl) (ow hw 70 rfl) (by decide) (ct_e25 l Z a0 hw EL n0   had od hod h2  ) o_sf0 (by rw [hml]; rfl) (by decide) (by decide) (argsL := [(.int (0 : Int32))]) (rest := []) (lenOf pd_4 rfl) rfl rfl (Nat.le_of_eq rfl) (hb hby de39_36) (pc' := 39) rfl (by decide) (by decide) ?_
  clear P; intro T h4 v4 P K4 q4
  obtain ⟨rfl, rfl⟩ := q4; clear K4
  show OG p e below m _ T 39 #[.val (.ref p0), .val (.int (0 : Int32)), .unset] [(.int (0 : Int32))]
  refine o_istoreN P (hb hby de39_39) (L' := #[.val (.ref p0), .val (.int (0 : Int32)), .val (.int (0 : Int32))]) rfl (pc' := 40) rfl ?_
  refine o_iloadN P (hb hby de39_40) rfl (pc' := 41) rfl ?_
  refine o_aloadN P (hb hby de39_41) rfl rfl (pc' := 42) rfl ?_
  refine o_getF P (ow hw 59 rfl) Via.refl (F_p0.fld 0 rfl) (hb hby de39_42) (pc' := 45) rfl ?_
  clear P; intro T P
  refine o_icmp_ge P (hb hby de39_45) (by decide) (pc' := 67) (by decide) (pcf := 48) rfl (fun q => absurd (by decide) q) (fun _ => ?_)
  refine o_aloadN P (hb hby de39_48) rfl rfl (pc' := 49) rfl ?_
  refine o_getF P (ow hw 71 rfl) Via.refl (F_p0.fld 2 rfl) (hb hby de39_49) (pc' := 52) rfl ?_
  clear P; intro T P
  refine o_iloadN P (hb hby de39_52) rfl (pc' := 53) rfl ?_
  refine o_laload P (v := (.long (65537 : Int64))) A_p1 (by decide) rfl (hb hby de39_53) (pc' := 54) rfl ?_
  refine o_lconst P (1 : Int64) (hb hby de39_54) rfl (pc' := 55) rfl ?_
  refine o_iloadN P (hb hby de39_55) rfl (pc' := 56) rfl ?_
  refine o_lshl P (hb hby de39_56) (pc' := 57) rfl ?_
  show OG p e below m _ T 57 #[.val (.ref p0), .val (.int (0 : Int32)), .val (.int (0 : Int32))] [(.long (1 : Int64)), (.long (65537 : Int64))]
  refine o_land P (hb hby de39_57) (pc' := 58) rfl ?_
  show OG p e below m _ T 58 #[.val (.ref p0), .val (.int (0 : Int32)), .val (.int (0 : Int32))] [(.long (1 : Int64))]
  refine o_lconst P (0 : Int64) (hb hby de39_58) rfl (pc' := 59) rfl ?_
  refine o_lcmp P (hb hby de39_59) (pc' := 60) rfl ?_
  show OG p e below m _ T 60 #[.val (.ref p0), .val (.int (0 : Int32)), .val (.int (0 : Int32))] [(.int (1 : Int32))]
  refine o_if_eq P (hb hby de39_60) (by decide) (pc' := 67) (by decide) (pcf := 63) rfl (fun q => absurd q (by decide)) (fun _ => ?_)
  refine o_iconst P (1 : Int32) (hb hby de39_63) rfl (pc' := 64) rfl ?_
  refine o_goto P (hb hby de39_64) (by decide) (pc' := 68) (by decide) ?_
  exact o_retI P hret (by simp) rfl (hb hby de39_68) (by decide) (by decide) ⟨rfl, rfl⟩
theorem ef_ct_e41 (x0 : Int32) (m : MethodId) : entryFrame m #[(.int x0)] 1 = mkF m 0 #[.val (.int x0)] [] := by first | (simp [entryFrame, mkF, argsToLocals, o_catR, o_catN, o_catI, o_catJ, o_catD]; done) | rfl
set_option maxRecDepth 65536 in
set_option maxHeartbeats 40000000 in
theorem ct_e41 (l : Launch) (Z : State) (a0 : Array Value) (hw : ∀ d ∈ tables_1, d.before a0 Z = true) (EL : List (String × Nat)) (n0 : Nat)   (had : Sta Z Z.heap "java/util/BitSet" "$assertionsDisabled" "Z" (.int 1)) (od : Addr) (hod : Sta Z Z.heap "com/example/centile/centile/function/Order" "ASCENDING" "Lcom/example/centile/centile/function/Order;" (.ref od)) (h0 : Heap)   :
    OCt l Z a0 EL n0 (⟨"java/util/BitSet", "wordIndex", "(I)I"⟩ : MethodName) jdk_92_method_1_code 1 (some .int) ({ frames := 0, cells := 0, slots := 0, locals := 0 } : Room) [] #[(.int (1 : Int32))] h0 [] (fun w vm h => w = some (.int (0 : Int32)) ∧ h = h0) := by
  refine OCt.body (plainFor_of_name pn_e1) (ef_ct_e41 ((1 : Int32))) ?_
  intro p e s m below meth c T hby hml hret hnm hsh P
  refine o_iloadN P (hb hby de20_0) rfl (pc' := 1) rfl ?_
  refine o_bipush P (6 : Int32) (hb hby de20_1) rfl (pc' := 3) rfl ?_
  refine o_ishr P (hb hby de20_3) (pc' := 4) rfl ?_
  show OG p e below m _ T 4 #[.val (.int (1 : Int32))] [(.int (0 : Int32))]
  exact o_retI P hret (by simp) rfl (hb hby de20_4) (by decide) (by decide) ⟨rfl, rfl⟩
theorem ef_ct_e42 (x0 : Addr) (x1 : Int32) (m : MethodId) : entryFrame m #[(.ref x0), (.int x1)] 3 = mkF m 0 #[.val (.ref x0), .val (.int x1), .unset] [] := by first | (simp [entryFrame, mkF, argsToLocals, o_catR, o_catN, o_catI, o_catJ, o_catD]; done) | rfl
set_option maxRecDepth 65536 in
set_option maxHeartbeats 40000000 in
theorem ct_e42 (l : Launch) (Z : State) (a0 : Array Value) (hw : ∀ d ∈ tables_1, d.before a0 Z = true) (EL : List (String × Nat)) (n0 : Nat) (p0 : Addr) (p1 : Addr)  (had : Sta Z Z.heap "java/util/BitSet" "$assertionsDisabled" "Z" (.int 1)) (od : Addr) (hod : Sta Z Z.heap "com/example/centile/centile/function/Order" "ASCENDING" "Lcom/example/centile/centile/function/Order;" (.ref od)) (h0 : Heap) (F_p0 : OObj Z h0 p0 "java/util/BitSet" [("java/util/BitSet", "wordsInUse", "I", (.int (1 : Int32))), ("java/util/BitSet", "sizeIsSticky", "Z", (.int (1 : Int32))), ("java/util/BitSet", "words", "[J", (.ref p1))]) (A_p1 : OArr Z h0 p1 .long [(.long (65537 : Int64))]) (ne_p0_p1 : p0 ≠ p1) :
    OCt l Z a0 EL n0 (⟨"java/util/BitSet", "get", "(I)Z"⟩ : MethodName) jdk_92_method_26_code 3 (some .boolean) ({ frames := 1, cells := 0, slots := 0, locals := 12 } : Room) [] #[(.ref p0), (.int (1 : Int32))] h0 [] (fun w vm h => w = some (.int (0 : Int32)) ∧ h = h0) := by
  refine OCt.body (plainFor_of_name pn_e1) (ef_ct_e42 p0 ((1 : Int32))) ?_
  intro p e s m below meth c T hby hml hret hnm hsh P
  refine o_iloadN P (hb hby de39_0) rfl (pc' := 1) rfl ?_
  refine o_if_ge P (hb hby de39_1) (by decide) (pc' := 31) (by decide) (pcf := 4) rfl (fun _ => ?_) (fun q => absurd q (by decide))
  refine o_aloadN P (hb hby de39_31) rfl rfl (pc' := 32) rfl ?_
  refine o_callP P (W := 0) (a := p0) (ow hw 90 rfl) (ow hw 91 rfl) (ow hw 93 rfl) (ow hw 92 rfl) (ow hw 54 rfl) (ow hw 94 rfl) (by decide) F_p0.exa (ct_e34 l Z a0 hw EL n0 p0 p1  had od hod h0 F_p0 A_p1 ne_p0_p1) o_sf0 (by rw [hml]; rfl) (by decide) (by decide) (argsL := []) (rest := []) (lenOf pd_0 rfl) rfl rfl (Nat.le_of_eq rfl) (hb hby de39_32) (pc' := 35) rfl (by decide) (by decide) ?_
  clear P; intro T h2 v2 P K2 q2
  obtain ⟨rfl, rfl⟩ := q2; clear K2
  show OG p e below m _ T 35 #[.val (.ref p0), .val (.int (1 : Int32)), .unset] []
  refine o_iloadN P (hb hby de39_35) rfl (pc' := 36) rfl ?_
  refine o_callS P (W := 0) (ow hw 68 rfl) (ow hw 69 rfl) (ow hw 54 rfl) (ow hw 70 rfl) (by decide) (ct_e41 l Z a0 hw EL n0   had od hod h2  ) o_sf0 (by rw [hml]; rfl) (by decide) (by decide) (argsL := [(.int (1 : Int32))]) (rest := []) (lenOf pd_4 rfl) rfl rfl (Nat.le_of_eq rfl) (hb hby de39_36) (pc' := 39) rfl (by decide) (by decide) ?_
  clear P; intro T h4 v4 P K4 q4
  obtain ⟨rfl, rfl⟩ := q4; clear K4
  show OG p e below m _ T 39 #[.val (.ref p0), .val (.int (1 : Int32)), .unset] [(.int (0 : Int32))]
  refine o_istoreN P (hb hby de39_39) (L' := #[.val (.ref p0), .val (.int (1 : Int32)), .val (.int (0 : Int32))]) rfl (pc' := 40) rfl ?_
  refine o_iloadN P (hb hby de39_40) rfl (pc' := 41) rfl ?_
  refine o_aloadN P (hb hby de39_41) rfl rfl (pc' := 42) rfl ?_
  refine o_getF P (ow hw 59 rfl) Via.refl (F_p0.fld 0 rfl) (hb hby de39_42) (pc' := 45) rfl ?_
  clear P; intro T P
  refine o_icmp_ge P (hb hby de39_45) (by decide) (pc' := 67) (by decide) (pcf := 48) rfl (fun q => absurd (by decide) q) (fun _ => ?_)
  refine o_aloadN P (hb hby de39_48) rfl rfl (pc' := 49) rfl ?_
  refine o_getF P (ow hw 71 rfl) Via.refl (F_p0.fld 2 rfl) (hb hby de39_49) (pc' := 52) rfl ?_
  clear P; intro T P
  refine o_iloadN P (hb hby de39_52) rfl (pc' := 53) rfl ?_
  refine o_laload P (v := (.long (65537 : Int64))) A_p1 (by decide) rfl (hb hby de39_53) (pc' := 54) rfl ?_
  refine o_lconst P (1 : Int64) (hb hby de39_54) rfl (pc' := 55) rfl ?_
  refine o_iloadN P (hb hby de39_55) rfl (pc' := 56) rfl ?_
  refine o_lshl P (hb hby de39_56) (pc' := 57) rfl ?_
  show OG p e below m _ T 57 #[.val (.ref p0), .val (.int (1 : Int32)), .val (.int (0 : Int32))] [(.long (2 : Int64)), (.long (65537 : Int64))]
  refine o_land P (hb hby de39_57) (pc' := 58) rfl ?_
  show OG p e below m _ T 58 #[.val (.ref p0), .val (.int (1 : Int32)), .val (.int (0 : Int32))] [(.long (0 : Int64))]
  refine o_lconst P (0 : Int64) (hb hby de39_58) rfl (pc' := 59) rfl ?_
  refine o_lcmp P (hb hby de39_59) (pc' := 60) rfl ?_
  show OG p e below m _ T 60 #[.val (.ref p0), .val (.int (1 : Int32)), .val (.int (0 : Int32))] [(.int (0 : Int32))]
  refine o_if_eq P (hb hby de39_60) (by decide) (pc' := 67) (by decide) (pcf := 63) rfl (fun _ => ?_) (fun q => absurd (by decide) q)
  refine o_iconst P (0 : Int32) (hb hby de39_67) rfl (pc' := 68) rfl ?_
  exact o_retI P hret (by simp) rfl (hb hby de39_68) (by decide) (by decide) ⟨rfl, rfl⟩
theorem de43_0 : decode jdk_92_method_30_code 0 = .ok (.iload_n 1, 1) := by decide +kernel
theorem de43_1 : decode jdk_92_method_30_code 1 = .ok (.ifCond .ge 37, 3) := by decide +kernel
theorem de43_4 : decode jdk_92_method_30_code 4 = .ok (.iload_n 1, 1) := by decide +kernel
theorem de43_5 : decode jdk_92_method_30_code 5 = .ok (.iconst (-1), 1) := by decide +kernel
theorem de43_6 : decode jdk_92_method_30_code 6 = .ok (.if_icmp .ne 5, 3) := by decide +kernel
theorem de43_9 : decode jdk_92_method_30_code 9 = .ok (.iconst (-1), 1) := by decide +kernel
theorem de43_10 : decode jdk_92_method_30_code 10 = .ok (.ireturn, 1) := by decide +kernel
theorem de43_11 : decode jdk_92_method_30_code 11 = .ok (.new 142, 3) := by decide +kernel
theorem de43_14 : decode jdk_92_method_30_code 14 = .ok (.dup, 1) := by decide +kernel
theorem de43_15 : decode jdk_92_method_30_code 15 = .ok (.new 33, 3) := by decide +kernel
theorem de43_18 : decode jdk_92_method_30_code 18 = .ok (.dup, 1) := by decide +kernel
theorem de43_19 : decode jdk_92_method_30_code 19 = .ok (.invokespecial 35, 3) := by decide +kernel
theorem de43_22 : decode jdk_92_method_30_code 22 = .ok (.ldc 188, 2) := by decide +kernel
theorem de43_24 : decode jdk_92_method_30_code 24 = .ok (.invokevirtual 38, 3) := by decide +kernel
theorem de43_27 : decode jdk_92_method_30_code 27 = .ok (.iload_n 1, 1) := by decide +kernel
theorem de43_28 : decode jdk_92_method_30_code 28 = .ok (.invokevirtual 42, 3) := by decide +kernel
theorem de43_31 : decode jdk_92_method_30_code 31 = .ok (.invokevirtual 45, 3) := by decide +kernel
theorem de43_34 : decode jdk_92_method_30_code 34 = .ok (.invokespecial 146, 3) := by decide +kernel
theorem de43_37 : decode jdk_92_method_30_code 37 = .ok (.athrow, 1) := by decide +kernel
theorem de43_38 : decode jdk_92_method_30_code 38 = .ok (.aload_n 0, 1) := by decide +kernel
theorem de43_39 : decode jdk_92_method_30_code 39 = .ok (.invokevirtual 56, 3) := by decide +kernel
theorem de43_42 : decode jdk_92_method_30_code 42 = .ok (.iload_n 1, 1) := by decide +kernel
theorem de43_43 : decode jdk_92_method_30_code 43 = .ok (.invokestatic 52, 3) := by decide +kernel
theorem de43_46 : decode jdk_92_method_30_code 46 = .ok (.istore_n 2, 1) := by decide +kernel
theorem de43_47 : decode jdk_92_method_30_code 47 = .ok (.iload_n 2, 1) := by decide +kernel
theorem de43_48 : decode jdk_92_method_30_code 48 = .ok (.aload_n 0, 1) := by decide +kernel
theorem de43_49 : decode jdk_92_method_30_code 49 = .ok (.getfield 7, 3) := by decide +kernel
theorem de43_52 : decode jdk_92_method_30_code 52 = .ok (.if_icmp .lt 10, 3) := by decide +kernel
theorem de43_55 : decode jdk_92_method_30_code 55 = .ok (.aload_n 0, 1) := by decide +kernel
theorem de43_56 : decode jdk_92_method_30_code 56 = .ok (.invokevirtual 177, 3) := by decide +kernel
theorem de43_59 : decode jdk_92_method_30_code 59 = .ok (.iconst 1, 1) := by decide +kernel
theorem de43_60 : decode jdk_92_method_30_code 60 = .ok (.isub, 1) := by decide +kernel
theorem de43_61 : decode jdk_92_method_30_code 61 = .ok (.ireturn, 1) := by decide +kernel
theorem de43_62 : decode jdk_92_method_30_code 62 = .ok (.aload_n 0, 1) := by decide +kernel
theorem de43_63 : decode jdk_92_method_30_code 63 = .ok (.getfield 11, 3) := by decide +kernel
theorem de43_66 : decode jdk_92_method_30_code 66 = .ok (.iload_n 2, 1) := by decide +kernel
theorem de43_67 : decode jdk_92_method_30_code 67 = .ok (.laload, 1) := by decide +kernel
theorem de43_68 : decode jdk_92_method_30_code 68 = .ok (.ldc2_w 165, 3) := by decide +kernel
theorem de43_71 : decode jdk_92_method_30_code 71 = .ok (.iload_n 1, 1) := by decide +kernel
theorem de43_72 : decode jdk_92_method_30_code 72 = .ok (.iconst 1, 1) := by decide +kernel
theorem de43_73 : decode jdk_92_method_30_code 73 = .ok (.iadd, 1) := by decide +kernel
theorem de43_74 : decode jdk_92_method_30_code 74 = .ok (.ineg, 1) := by decide +kernel
theorem de43_75 : decode jdk_92_method_30_code 75 = .ok (.lushr, 1) := by decide +kernel
theorem de43_76 : decode jdk_92_method_30_code 76 = .ok (.land, 1) := by decide +kernel
theorem de43_77 : decode jdk_92_method_30_code 77 = .ok (.lstore_n 3, 1) := by decide +kernel
theorem de43_78 : decode jdk_92_method_30_code 78 = .ok (.lload_n 3, 1) := by decide +kernel
theorem de43_79 : decode jdk_92_method_30_code 79 = .ok (.lconst 0, 1) := by decide +kernel
theorem de43_80 : decode jdk_92_method_30_code 80 = .ok (.lcmp, 1) := by decide +kernel
theorem de43_81 : decode jdk_92_method_30_code 81 = .ok (.ifCond .eq 17, 3) := by decide +kernel
theorem de43_84 : decode jdk_92_method_30_code 84 = .ok (.iload_n 2, 1) := by decide +kernel
theorem de43_85 : decode jdk_92_method_30_code 85 = .ok (.iconst 1, 1) := by decide +kernel
theorem de43_86 : decode jdk_92_method_30_code 86 = .ok (.iadd, 1) := by decide +kernel
theorem de43_87 : decode jdk_92_method_30_code 87 = .ok (.bipush 64, 2) := by decide +kernel
theorem de43_89 : decode jdk_92_method_30_code 89 = .ok (.imul, 1) := by decide +kernel
theorem de43_90 : decode jdk_92_method_30_code 90 = .ok (.iconst 1, 1) := by decide +kernel
theorem de43_91 : decode jdk_92_method_30_code 91 = .ok (.isub, 1) := by decide +kernel
theorem de43_92 : decode jdk_92_method_30_code 92 = .ok (.lload_n 3, 1) := by decide +kernel
theorem de43_93 : decode jdk_92_method_30_code 93 = .ok (.invokestatic 190, 3) := by decide +kernel
theorem de43_96 : decode jdk_92_method_30_code 96 = .ok (.isub, 1) := by decide +kernel
theorem de43_97 : decode jdk_92_method_30_code 97 = .ok (.ireturn, 1) := by decide +kernel
theorem de43_98 : decode jdk_92_method_30_code 98 = .ok (.iload_n 2, 1) := by decide +kernel
theorem de43_99 : decode jdk_92_method_30_code 99 = .ok (.iinc 2 (-1), 3) := by decide +kernel
theorem de43_102 : decode jdk_92_method_30_code 102 = .ok (.ifCond .ne 5, 3) := by decide +kernel
theorem de43_105 : decode jdk_92_method_30_code 105 = .ok (.iconst (-1), 1) := by decide +kernel
theorem de43_106 : decode jdk_92_method_30_code 106 = .ok (.ireturn, 1) := by decide +kernel
theorem de43_107 : decode jdk_92_method_30_code 107 = .ok (.aload_n 0, 1) := by decide +kernel
theorem de43_108 : decode jdk_92_method_30_code 108 = .ok (.getfield 11, 3) := by decide +kernel
theorem de43_111 : decode jdk_92_method_30_code 111 = .ok (.iload_n 2, 1) := by decide +kernel
theorem de43_112 : decode jdk_92_method_30_code 112 = .ok (.laload, 1) := by decide +kernel
theorem de43_113 : decode jdk_92_method_30_code 113 = .ok (.lstore_n 3, 1) := by decide +kernel
theorem de43_114 : decode jdk_92_method_30_code 114 = .ok (.goto (-36), 3) := by decide +kernel
theorem de44_0 : decode jdk_35_method_48_code 0 = .ok (.lload_n 0, 1) := by decide +kernel
theorem de44_1 : decode jdk_35_method_48_code 1 = .ok (.bipush 32, 2) := by decide +kernel
theorem de44_3 : decode jdk_35_method_48_code 3 = .ok (.lushr, 1) := by decide +kernel
theorem de44_4 : decode jdk_35_method_48_code 4 = .ok (.l2i, 1) := by decide +kernel
theorem de44_5 : decode jdk_35_method_48_code 5 = .ok (.istore_n 2, 1) := by decide +kernel
theorem de44_6 : decode jdk_35_method_48_code 6 = .ok (.iload_n 2, 1) := by decide +kernel
theorem de44_7 : decode jdk_35_method_48_code 7 = .ok (.ifCond .ne 14, 3) := by decide +kernel
theorem de44_10 : decode jdk_35_method_48_code 10 = .ok (.bipush 32, 2) := by decide +kernel
theorem de44_12 : decode jdk_35_method_48_code 12 = .ok (.lload_n 0, 1) := by decide +kernel
theorem de44_13 : decode jdk_35_method_48_code 13 = .ok (.l2i, 1) := by decide +kernel
theorem de44_14 : decode jdk_35_method_48_code 14 = .ok (.invokestatic 308, 3) := by decide +kernel
theorem de44_17 : decode jdk_35_method_48_code 17 = .ok (.iadd, 1) := by decide +kernel
theorem de44_18 : decode jdk_35_method_48_code 18 = .ok (.goto 7, 3) := by decide +kernel
theorem de44_21 : decode jdk_35_method_48_code 21 = .ok (.iload_n 2, 1) := by decide +kernel
theorem de44_22 : decode jdk_35_method_48_code 22 = .ok (.invokestatic 308, 3) := by decide +kernel
theorem de44_25 : decode jdk_35_method_48_code 25 = .ok (.ireturn, 1) := by decide +kernel
theorem de45_0 : decode jdk_33_method_47_code 0 = .ok (.iload_n 0, 1) := by decide +kernel
theorem de45_1 : decode jdk_33_method_47_code 1 = .ok (.ifCond .gt 14, 3) := by decide +kernel
theorem de45_4 : decode jdk_33_method_47_code 4 = .ok (.iload_n 0, 1) := by decide +kernel
theorem de45_5 : decode jdk_33_method_47_code 5 = .ok (.ifCond .ne 8, 3) := by decide +kernel
theorem de45_8 : decode jdk_33_method_47_code 8 = .ok (.bipush 32, 2) := by decide +kernel
theorem de45_10 : decode jdk_33_method_47_code 10 = .ok (.goto 4, 3) := by decide +kernel
theorem de45_13 : decode jdk_33_method_47_code 13 = .ok (.iconst 0, 1) := by decide +kernel
theorem de45_14 : decode jdk_33_method_47_code 14 = .ok (.ireturn, 1) := by decide +kernel
theorem de45_15 : decode jdk_33_method_47_code 15 = .ok (.bipush 31, 2) := by decide +kernel
theorem de45_17 : decode jdk_33_method_47_code 17 = .ok (.istore_n 1, 1) := by decide +kernel
theorem de45_18 : decode jdk_33_method_47_code 18 = .ok (.iload_n 0, 1) := by decide +kernel
theorem de45_19 : decode jdk_33_method_47_code 19 = .ok (.ldc_w 264, 3) := by decide +kernel
theorem de45_22 : decode jdk_33_method_47_code 22 = .ok (.if_icmp .lt 11, 3) := by decide +kernel
theorem de45_25 : decode jdk_33_method_47_code 25 = .ok (.iinc 1 (-16), 3) := by decide +kernel
theorem de45_28 : decode jdk_33_method_47_code 28 = .ok (.iload_n 0, 1) := by decide +kernel
theorem de45_29 : decode jdk_33_method_47_code 29 = .ok (.bipush 16, 2) := by decide +kernel
theorem de45_31 : decode jdk_33_method_47_code 31 = .ok (.iushr, 1) := by decide +kernel
theorem de45_32 : decode jdk_33_method_47_code 32 = .ok (.istore_n 0, 1) := by decide +kernel
theorem de45_33 : decode jdk_33_method_47_code 33 = .ok (.iload_n 0, 1) := by decide +kernel
theorem de45_34 : decode jdk_33_method_47_code 34 = .ok (.sipush 256, 3) := by decide +kernel
theorem de45_37 : decode jdk_33_method_47_code 37 = .ok (.if_icmp .lt 11, 3) := by decide +kernel
theorem de45_40 : decode jdk_33_method_47_code 40 = .ok (.iinc 1 (-8), 3) := by decide +kernel
theorem de45_43 : decode jdk_33_method_47_code 43 = .ok (.iload_n 0, 1) := by decide +kernel
theorem de45_44 : decode jdk_33_method_47_code 44 = .ok (.bipush 8, 2) := by decide +kernel
theorem de45_46 : decode jdk_33_method_47_code 46 = .ok (.iushr, 1) := by decide +kernel
theorem de45_47 : decode jdk_33_method_47_code 47 = .ok (.istore_n 0, 1) := by decide +kernel
theorem de45_48 : decode jdk_33_method_47_code 48 = .ok (.iload_n 0, 1) := by decide +kernel
theorem de45_49 : decode jdk_33_method_47_code 49 = .ok (.bipush 16, 2) := by decide +kernel
theorem de45_51 : decode jdk_33_method_47_code 51 = .ok (.if_icmp .lt 10, 3) := by decide +kernel
theorem de45_54 : decode jdk_33_method_47_code 54 = .ok (.iinc 1 (-4), 3) := by decide +kernel
theorem de45_57 : decode jdk_33_method_47_code 57 = .ok (.iload_n 0, 1) := by decide +kernel
theorem de45_58 : decode jdk_33_method_47_code 58 = .ok (.iconst 4, 1) := by decide +kernel
theorem de45_59 : decode jdk_33_method_47_code 59 = .ok (.iushr, 1) := by decide +kernel
theorem de45_60 : decode jdk_33_method_47_code 60 = .ok (.istore_n 0, 1) := by decide +kernel
theorem de45_61 : decode jdk_33_method_47_code 61 = .ok (.iload_n 0, 1) := by decide +kernel
theorem de45_62 : decode jdk_33_method_47_code 62 = .ok (.iconst 4, 1) := by decide +kernel
theorem de45_63 : decode jdk_33_method_47_code 63 = .ok (.if_icmp .lt 10, 3) := by decide +kernel
theorem de45_66 : decode jdk_33_method_47_code 66 = .ok (.iinc 1 (-2), 3) := by decide +kernel
theorem de45_69 : decode jdk_33_method_47_code 69 = .ok (.iload_n 0, 1) := by decide +kernel
theorem de45_70 : decode jdk_33_method_47_code 70 = .ok (.iconst 2, 1) := by decide +kernel
theorem de45_71 : decode jdk_33_method_47_code 71 = .ok (.iushr, 1) := by decide +kernel
theorem de45_72 : decode jdk_33_method_47_code 72 = .ok (.istore_n 0, 1) := by decide +kernel
theorem de45_73 : decode jdk_33_method_47_code 73 = .ok (.iload_n 1, 1) := by decide +kernel
theorem de45_74 : decode jdk_33_method_47_code 74 = .ok (.iload_n 0, 1) := by decide +kernel
theorem de45_75 : decode jdk_33_method_47_code 75 = .ok (.iconst 1, 1) := by decide +kernel
theorem de45_76 : decode jdk_33_method_47_code 76 = .ok (.iushr, 1) := by decide +kernel
theorem de45_77 : decode jdk_33_method_47_code 77 = .ok (.isub, 1) := by decide +kernel
theorem de45_78 : decode jdk_33_method_47_code 78 = .ok (.ireturn, 1) := by decide +kernel
theorem ef_ct_e46 (x0 : Int32) (m : MethodId) : entryFrame m #[(.int x0)] 2 = mkF m 0 #[.val (.int x0), .unset] [] := by first | (simp [entryFrame, mkF, argsToLocals, o_catR, o_catN, o_catI, o_catJ, o_catD]; done) | rfl
theorem pn_e3 : plainName "java/lang/Integer" = true := by first | (simp [plainName, overriddenIn]; done) | decide +kernel
set_option maxRecDepth 65536 in
set_option maxHeartbeats 40000000 in
theorem ct_e46 (l : Launch) (Z : State) (a0 : Array Value) (hw : ∀ d ∈ tables_1, d.before a0 Z = true) (EL : List (String × Nat)) (n0 : Nat)   (had : Sta Z Z.heap "java/util/BitSet" "$assertionsDisabled" "Z" (.int 1)) (od : Addr) (hod : Sta Z Z.heap "com/example/centile/centile/function/Order" "ASCENDING" "Lcom/example/centile/centile/function/Order;" (.ref od)) (h0 : Heap)   :
    OCt l Z a0 EL n0 (⟨"java/lang/Integer", "numberOfLeadingZeros", "(I)I"⟩ : MethodName) jdk_33_method_47_code 2 (some .int) ({ frames := 0, cells := 0, slots := 0, locals := 0 } : Room) [] #[(.int (1 : Int32))] h0 [] (fun w vm h => w = some (.int (31 : Int32)) ∧ h = h0) := by
  refine OCt.body (plainFor_of_name pn_e3) (ef_ct_e46 ((1 : Int32))) ?_
  intro p e s m below meth c T hby hml hret hnm hsh P
  refine o_iloadN P (hb hby de45_0) rfl (pc' := 1) rfl ?_
  refine o_if_gt P (hb hby de45_1) (by decide) (pc' := 15) (by decide) (pcf := 4) rfl (fun _ => ?_) (fun q => absurd (by decide) q)
  refine o_bipush P (31 : Int32) (hb hby de45_15) rfl (pc' := 17) rfl ?_
  refine o_istoreN P (hb hby de45_17) (L' := #[.val (.int (1 : Int32)), .val (.int (31 : Int32))]) rfl (pc' := 18) rfl ?_
  refine o_iloadN P (hb hby de45_18) rfl (pc' := 19) rfl ?_
  refine o_ldcWI P (ow hw 125 rfl) (hb hby de45_19) (pc' := 22) rfl ?_
  refine o_icmp_lt P (hb hby de45_22) (by decide) (pc' := 33) (by decide) (pcf := 25) rfl (fun _ => ?_) (fun q => absurd (by decide) q)
  refine o_iloadN P (hb hby de45_33) rfl (pc' := 34) rfl ?_
  refine o_sipush P (256 : Int32) (hb hby de45_34) rfl (pc' := 37) rfl ?_
  refine o_icmp_lt P (hb hby de45_37) (by decide) (pc' := 48) (by decide) (pcf := 40) rfl (fun _ => ?_) (fun q => absurd (by decide) q)
  refine o_iloadN P (hb hby de45_48) rfl (pc' := 49) rfl ?_
  refine o_bipush P (16 : Int32) (hb hby de45_49) rfl (pc' := 51) rfl ?_
  refine o_icmp_lt P (hb hby de45_51) (by decide) (pc' := 61) (by decide) (pcf := 54) rfl (fun _ => ?_) (fun q => absurd (by decide) q)
  refine o_iloadN P (hb hby de45_61) rfl (pc' := 62) rfl ?_
  refine o_iconst P (4 : Int32) (hb hby de45_62) rfl (pc' := 63) rfl ?_
  refine o_icmp_lt P (hb hby de45_63) (by decide) (pc' := 73) (by decide) (pcf := 66) rfl (fun _ => ?_) (fun q => absurd (by decide) q)
  refine o_iloadN P (hb hby de45_73) rfl (pc' := 74) rfl ?_
  refine o_iloadN P (hb hby de45_74) rfl (pc' := 75) rfl ?_
  refine o_iconst P (1 : Int32) (hb hby de45_75) rfl (pc' := 76) rfl ?_
  refine o_iushr P (hb hby de45_76) (pc' := 77) rfl ?_
  show OG p e below m _ T 77 #[.val (.int (1 : Int32)), .val (.int (31 : Int32))] [(.int (0 : Int32)), (.int (31 : Int32))]
  refine o_isub P (hb hby de45_77) (pc' := 78) rfl ?_
  show OG p e below m _ T 78 #[.val (.int (1 : Int32)), .val (.int (31 : Int32))] [(.int (31 : Int32))]
  exact o_retI P hret (by simp) rfl (hb hby de45_78) (by decide) (by decide) ⟨rfl, rfl⟩
theorem ef_ct_e47 (x0 : Int64) (m : MethodId) : entryFrame m #[(.long x0)] 3 = mkF m 0 #[.val (.long x0), .second, .unset] [] := by first | (simp [entryFrame, mkF, argsToLocals, o_catR, o_catN, o_catI, o_catJ, o_catD]; done) | rfl
theorem pn_e4 : plainName "java/lang/Long" = true := by first | (simp [plainName, overriddenIn]; done) | decide +kernel
set_option maxRecDepth 65536 in
set_option maxHeartbeats 40000000 in
theorem ct_e47 (l : Launch) (Z : State) (a0 : Array Value) (hw : ∀ d ∈ tables_1, d.before a0 Z = true) (EL : List (String × Nat)) (n0 : Nat)   (had : Sta Z Z.heap "java/util/BitSet" "$assertionsDisabled" "Z" (.int 1)) (od : Addr) (hod : Sta Z Z.heap "com/example/centile/centile/function/Order" "ASCENDING" "Lcom/example/centile/centile/function/Order;" (.ref od)) (h0 : Heap)   :
    OCt l Z a0 EL n0 (⟨"java/lang/Long", "numberOfLeadingZeros", "(J)I"⟩ : MethodName) jdk_35_method_48_code 3 (some .int) ({ frames := 1, cells := 0, slots := 0, locals := 14 } : Room) [] #[(.long (1 : Int64))] h0 [] (fun w vm h => w = some (.int (63 : Int32)) ∧ h = h0) := by
  refine OCt.body (plainFor_of_name pn_e4) (ef_ct_e47 ((1 : Int64))) ?_
  intro p e s m below meth c T hby hml hret hnm hsh P
  refine o_lloadN P (hb hby de44_0) rfl (pc' := 1) rfl ?_
  refine o_bipush P (32 : Int32) (hb hby de44_1) rfl (pc' := 3) rfl ?_
  refine o_lushr P (hb hby de44_3) (pc' := 4) rfl ?_
  show OG p e below m _ T 4 #[.val (.long (1 : Int64)), .second, .unset] [(.long (0 : Int64))]
  refine o_l2i P (hb hby de44_4) (pc' := 5) rfl ?_
  show OG p e below m _ T 5 #[.val (.long (1 : Int64)), .second, .unset] [(.int (0 : Int32))]
  refine o_istoreN P (hb hby de44_5) (L' := #[.val (.long (1 : Int64)), .second, .val (.int (0 : Int32))]) rfl (pc' := 6) rfl ?_
  refine o_iloadN P (hb hby de44_6) rfl (pc' := 7) rfl ?_
  refine o_if_ne P (hb hby de44_7) (by decide) (pc' := 21) (by decide) (pcf := 10) rfl (fun q => absurd (by decide) q) (fun _ => ?_)
  refine o_bipush P (32 : Int32) (hb hby de44_10) rfl (pc' := 12) rfl ?_
  refine o_lloadN P (hb hby de44_12) rfl (pc' := 13) rfl ?_
  refine o_l2i P (hb hby de44_13) (pc' := 14) rfl ?_
  show OG p e below m _ T 14 #[.val (.long (1 : Int64)), .second, .val (.int (0 : Int32))] [(.int (1 : Int32)), (.int (32 : Int32))]
  refine o_callS P (W := 1) (ow hw 121 rfl) (ow hw 122 rfl) (ow hw 123 rfl) (ow hw 124 rfl) (by decide) (ct_e46 l Z a0 hw EL n0   had od hod h0  ) o_sf0 (by rw [hml]; rfl) (by decide) (by decide) (argsL := [(.int (1 : Int32))]) (rest := [(.int (32 : Int32))]) (lenOf pd_4 rfl) rfl rfl (Nat.le_of_eq rfl) (hb hby de44_14) (pc' := 17) rfl (by decide) (by decide) ?_
  clear P; intro T h2 v2 P K2 q2
  obtain ⟨rfl, rfl⟩ := q2; clear K2
  show OG p e below m _ T 17 #[.val (.long (1 : Int64)), .second, .val (.int (0 : Int32))] [(.int (31 : Int32)), (.int (32 : Int32))]
  refine o_iadd P (hb hby de44_17) (pc' := 18) rfl ?_
  show OG p e below m _ T 18 #[.val (.long (1 : Int64)), .second, .val (.int (0 : Int32))] [(.int (63 : Int32))]
  refine o_goto P (hb hby de44_18) (by decide) (pc' := 25) (by decide) ?_
  exact o_retI P hret (by simp) rfl (hb hby de44_25) (by decide) (by decide) ⟨rfl, rfl⟩
theorem ef_ct_e48 (x0 : Addr) (x1 : Int32) (m : MethodId) : entryFrame m #[(.ref x0), (.int x1)] 5 = mkF m 0 #[.val (.ref x0), .val (.int x1), .unset, .unset, .unset] [] := by first | (simp [entryFrame, mkF, argsToLocals, o_catR, o_catN, o_catI, o_catJ, o_catD]; done) | rfl
set_option maxRecDepth 65536 in
set_option maxHeartbeats 40000000 in
theorem ct_e48 (l : Launch) (Z : State) (a0 : Array Value) (hw : ∀ d ∈ tables_1, d.before a0 Z = true) (EL : List (String × Nat)) (n0 : Nat) (p0 : Addr) (p1 : Addr)  (had : Sta Z Z.heap "java/util/BitSet" "$assertionsDisabled" "Z" (.int 1)) (od : Addr) (hod : Sta Z Z.heap "com/example/centile/centile/function/Order" "ASCENDING" "Lcom/example/centile/centile/function/Order;" (.ref od)) (h0 : Heap) (F_p0 : OObj Z h0 p0 "java/util/BitSet" [("java/util/BitSet", "wordsInUse", "I", (.int (1 : Int32))), ("java/util/BitSet", "sizeIsSticky", "Z", (.int (1 : Int32))), ("java/util/BitSet", "words", "[J", (.ref p1))]) (A_p1 : OArr Z h0 p1 .long [(.long (65537 : Int64))]) (ne_p0_p1 : p0 ≠ p1) :
    OCt l Z a0 EL n0 (⟨"java/util/BitSet", "previousSetBit", "(I)I"⟩ : MethodName) jdk_92_method_30_code 5 (some .int) ({ frames := 2, cells := 0, slots := 0, locals := 29 } : Room) [] #[(.ref p0), (.int (0 : Int32))] h0 [] (fun w vm h => w = some (.int (0 : Int32)) ∧ h = h0) := by
  refine OCt.body (plainFor_of_name pn_e1) (ef_ct_e48 p0 ((0 : Int32))) ?_
  intro p e s m below meth c T hby hml hret hnm hsh P
  refine o_iloadN P (hb hby de43_0) rfl (pc' := 1) rfl ?_
  refine o_if_ge P (hb hby de43_1) (by decide) (pc' := 38) (by decide) (pcf := 4) rfl (fun _ => ?_) (fun q => absurd q (by decide))
  refine o_aloadN P (hb hby de43_38) rfl rfl (pc' := 39) rfl ?_
  refine o_callP P (W := 0) (a := p0) (ow hw 90 rfl) (ow hw 91 rfl) (ow hw 93 rfl) (ow hw 92 rfl) (ow hw 54 rfl) (ow hw 94 rfl) (by decide) F_p0.exa (ct_e34 l Z a0 hw EL n0 p0 p1  had od hod h0 F_p0 A_p1 ne_p0_p1) o_sf0 (by rw [hml]; rfl) (by decide) (by decide) (argsL := []) (rest := []) (lenOf pd_0 rfl) rfl rfl (Nat.le_of_eq rfl) (hb hby de43_39) (pc' := 42) rfl (by decide) (by decide) ?_
  clear P; intro T h2 v2 P K2 q2
  obtain ⟨rfl, rfl⟩ := q2; clear K2
  show OG p e below m _ T 42 #[.val (.ref p0), .val (.int (0 : Int32)), .unset, .unset, .unset] []
  refine o_iloadN P (hb hby de43_42) rfl (pc' := 43) rfl ?_
  refine o_callS P (W := 0) (ow hw 68 rfl) (ow hw 69 rfl) (ow hw 54 rfl) (ow hw 70 rfl) (by decide) (ct_e25 l Z a0 hw EL n0   had od hod h2  ) o_sf0 (by rw [hml]; rfl) (by decide) (by decide) (argsL := [(.int (0 : Int32))]) (rest := []) (lenOf pd_4 rfl) rfl rfl (Nat.le_of_eq rfl) (hb hby de43_43) (pc' := 46) rfl (by decide) (by decide) ?_
  clear P; intro T h4 v4 P K4 q4
  obtain ⟨rfl, rfl⟩ := q4; clear K4
  show OG p e below m _ T 46 #[.val (.ref p0), .val (.int (0 : Int32)), .unset, .unset, .unset] [(.int (0 : Int32))]
  refine o_istoreN P (hb hby de43_46) (L' := #[.val (.ref p0), .val (.int (0 : Int32)), .val (.int (0 : Int32)), .unset, .unset]) rfl (pc' := 47) rfl ?_
  refine o_iloadN P (hb hby de43_47) rfl (pc' := 48) rfl ?_
  refine o_aloadN P (hb hby de43_48) rfl rfl (pc' := 49) rfl ?_
  refine o_getF P (ow hw 59 rfl) Via.refl (F_p0.fld 0 rfl) (hb hby de43_49) (pc' := 52) rfl ?_
  clear P; intro T P
  refine o_icmp_lt P (hb hby de43_52) (by decide) (pc' := 62) (by decide) (pcf := 55) rfl (fun _ => ?_) (fun q => absurd (by decide) q)
  refine o_aloadN P (hb hby de43_62) rfl rfl (pc' := 63) rfl ?_
  refine o_getF P (ow hw 71 rfl) Via.refl (F_p0.fld 2 rfl) (hb hby de43_63) (pc' := 66) rfl ?_
  clear P; intro T P
  refine o_iloadN P (hb hby de43_66) rfl (pc' := 67) rfl ?_
  refine o_laload P (v := (.long (65537 : Int64))) A_p1 (by decide) rfl (hb hby de43_67) (pc' := 68) rfl ?_
  refine o_ldc2L P (ow hw 116 rfl) (hb hby de43_68) (pc' := 71) rfl ?_
  refine o_iloadN P (hb hby de43_71) rfl (pc' := 72) rfl ?_
  refine o_iconst P (1 : Int32) (hb hby de43_72) rfl (pc' := 73) rfl ?_
  refine o_iadd P (hb hby de43_73) (pc' := 74) rfl ?_
  show OG p e below m _ T 74 #[.val (.ref p0), .val (.int (0 : Int32)), .val (.int (0 : Int32)), .unset, .unset] [(.int (1 : Int32)), (.long (-1 : Int64)), (.long (65537 : Int64))]
  refine o_ineg P (hb hby de43_74) (pc' := 75) rfl ?_
  show OG p e below m _ T 75 #[.val (.ref p0), .val (.int (0 : Int32)), .val (.int (0 : Int32)), .unset, .unset] [(.int (-1 : Int32)), (.long (-1 : Int64)), (.long (65537 : Int64))]
  refine o_lushr P (hb hby de43_75) (pc' := 76) rfl ?_
  show OG p e below m _ T 76 #[.val (.ref p0), .val (.int (0 : Int32)), .val (.int (0 : Int32)), .unset, .unset] [(.long (1 : Int64)), (.long (65537 : Int64))]
  refine o_land P (hb hby de43_76) (pc' := 77) rfl ?_
  show OG p e below m _ T 77 #[.val (.ref p0), .val (.int (0 : Int32)), .val (.int (0 : Int32)), .unset, .unset] [(.long (1 : Int64))]
  refine o_lstoreN P (hb hby de43_77) (L' := #[.val (.ref p0), .val (.int (0 : Int32)), .val (.int (0 : Int32)), .val (.long (1 : Int64)), .second]) rfl (pc' := 78) rfl ?_
  refine o_lloadN P (hb hby de43_78) rfl (pc' := 79) rfl ?_
  refine o_lconst P (0 : Int64) (hb hby de43_79) rfl (pc' := 80) rfl ?_
  refine o_lcmp P (hb hby de43_80) (pc' := 81) rfl ?_
  show OG p e below m _ T 81 #[.val (.ref p0), .val (.int (0 : Int32)), .val (.int (0 : Int32)), .val (.long (1 : Int64)), .second] [(.int (1 : Int32))]
  refine o_if_eq P (hb hby de43_81) (by decide) (pc' := 98) (by decide) (pcf := 84) rfl (fun q => absurd q (by decide)) (fun _ => ?_)
  refine o_iloadN P (hb hby de43_84) rfl (pc' := 85) rfl ?_
  refine o_iconst P (1 : Int32) (hb hby de43_85) rfl (pc' := 86) rfl ?_
  refine o_iadd P (hb hby de43_86) (pc' := 87) rfl ?_
  show OG p e below m _ T 87 #[.val (.ref p0), .val (.int (0 : Int32)), .val (.int (0 : Int32)), .val (.long (1 : Int64)), .second] [(.int (1 : Int32))]
  refine o_bipush P (64 : Int32) (hb hby de43_87) rfl (pc' := 89) rfl ?_
  refine o_imul P (hb hby de43_89) (pc' := 90) rfl ?_
  show OG p e below m _ T 90 #[.val (.ref p0), .val (.int (0 : Int32)), .val (.int (0 : Int32)), .val (.long (1 : Int64)), .second] [(.int (64 : Int32))]
  refine o_iconst P (1 : Int32) (hb hby de43_90) rfl (pc' := 91) rfl ?_
  refine o_isub P (hb hby de43_91) (pc' := 92) rfl ?_
  show OG p e below m _ T 92 #[.val (.ref p0), .val (.int (0 : Int32)), .val (.int (0 : Int32)), .val (.long (1 : Int64)), .second] [(.int (63 : Int32))]
  refine o_lloadN P (hb hby de43_92) rfl (pc' := 93) rfl ?_
  refine o_callS P (W := 1) (ow hw 117 rfl) (ow hw 118 rfl) (ow hw 119 rfl) (ow hw 120 rfl) (by decide) (ct_e47 l Z a0 hw EL n0   had od hod h4  ) o_sf0 (by rw [hml]; rfl) (by decide) (by decide) (argsL := [(.long (1 : Int64))]) (rest := [(.int (63 : Int32))]) (lenOf pd_7 rfl) rfl rfl (Nat.le_of_eq rfl) (hb hby de43_93) (pc' := 96) rfl (by decide) (by decide) ?_
  clear P; intro T h6 v6 P K6 q6
  obtain ⟨rfl, rfl⟩ := q6; clear K6
  show OG p e below m _ T 96 #[.val (.ref p0), .val (.int (0 : Int32)), .val (.int (0 : Int32)), .val (.long (1 : Int64)), .second] [(.int (63 : Int32)), (.int (63 : Int32))]
  refine o_isub P (hb hby de43_96) (pc' := 97) rfl ?_
  show OG p e below m _ T 97 #[.val (.ref p0), .val (.int (0 : Int32)), .val (.int (0 : Int32)), .val (.long (1 : Int64)), .second] [(.int (0 : Int32))]
  exact o_retI P hret (by simp) rfl (hb hby de43_97) (by decide) (by decide) ⟨rfl, rfl⟩
theorem de49_0 : decode jdk_92_method_28_code 0 = .ok (.iload_n 1, 1) := by decide +kernel
theorem de49_1 : decode jdk_92_method_28_code 1 = .ok (.ifCond .ge 30, 3) := by decide +kernel
theorem de49_4 : decode jdk_92_method_28_code 4 = .ok (.new 142, 3) := by decide +kernel
theorem de49_7 : decode jdk_92_method_28_code 7 = .ok (.dup, 1) := by decide +kernel
theorem de49_8 : decode jdk_92_method_28_code 8 = .ok (.new 33, 3) := by decide +kernel
theorem de49_11 : decode jdk_92_method_28_code 11 = .ok (.dup, 1) := by decide +kernel
theorem de49_12 : decode jdk_92_method_28_code 12 = .ok (.invokespecial 35, 3) := by decide +kernel
theorem de49_15 : decode jdk_92_method_28_code 15 = .ok (.ldc 144, 2) := by decide +kernel
theorem de49_17 : decode jdk_92_method_28_code 17 = .ok (.invokevirtual 38, 3) := by decide +kernel
theorem de49_20 : decode jdk_92_method_28_code 20 = .ok (.iload_n 1, 1) := by decide +kernel
theorem de49_21 : decode jdk_92_method_28_code 21 = .ok (.invokevirtual 42, 3) := by decide +kernel
theorem de49_24 : decode jdk_92_method_28_code 24 = .ok (.invokevirtual 45, 3) := by decide +kernel
theorem de49_27 : decode jdk_92_method_28_code 27 = .ok (.invokespecial 146, 3) := by decide +kernel
theorem de49_30 : decode jdk_92_method_28_code 30 = .ok (.athrow, 1) := by decide +kernel
theorem de49_31 : decode jdk_92_method_28_code 31 = .ok (.aload_n 0, 1) := by decide +kernel
theorem de49_32 : decode jdk_92_method_28_code 32 = .ok (.invokevirtual 56, 3) := by decide +kernel
theorem de49_35 : decode jdk_92_method_28_code 35 = .ok (.iload_n 1, 1) := by decide +kernel
theorem de49_36 : decode jdk_92_method_28_code 36 = .ok (.invokestatic 52, 3) := by decide +kernel
theorem de49_39 : decode jdk_92_method_28_code 39 = .ok (.istore_n 2, 1) := by decide +kernel
theorem de49_40 : decode jdk_92_method_28_code 40 = .ok (.iload_n 2, 1) := by decide +kernel
theorem de49_41 : decode jdk_92_method_28_code 41 = .ok (.aload_n 0, 1) := by decide +kernel
theorem de49_42 : decode jdk_92_method_28_code 42 = .ok (.getfield 7, 3) := by decide +kernel
theorem de49_45 : decode jdk_92_method_28_code 45 = .ok (.if_icmp .lt 5, 3) := by decide +kernel
theorem de49_48 : decode jdk_92_method_28_code 48 = .ok (.iconst (-1), 1) := by decide +kernel
theorem de49_49 : decode jdk_92_method_28_code 49 = .ok (.ireturn, 1) := by decide +kernel
theorem de49_50 : decode jdk_92_method_28_code 50 = .ok (.aload_n 0, 1) := by decide +kernel
theorem de49_51 : decode jdk_92_method_28_code 51 = .ok (.getfield 11, 3) := by decide +kernel
theorem de49_54 : decode jdk_92_method_28_code 54 = .ok (.iload_n 2, 1) := by decide +kernel
theorem de49_55 : decode jdk_92_method_28_code 55 = .ok (.laload, 1) := by decide +kernel
theorem de49_56 : decode jdk_92_method_28_code 56 = .ok (.ldc2_w 165, 3) := by decide +kernel
theorem de49_59 : decode jdk_92_method_28_code 59 = .ok (.iload_n 1, 1) := by decide +kernel
theorem de49_60 : decode jdk_92_method_28_code 60 = .ok (.lshl, 1) := by decide +kernel
theorem de49_61 : decode jdk_92_method_28_code 61 = .ok (.land, 1) := by decide +kernel
theorem de49_62 : decode jdk_92_method_28_code 62 = .ok (.lstore_n 3, 1) := by decide +kernel
theorem de49_63 : decode jdk_92_method_28_code 63 = .ok (.lload_n 3, 1) := by decide +kernel
theorem de49_64 : decode jdk_92_method_28_code 64 = .ok (.lconst 0, 1) := by decide +kernel
theorem de49_65 : decode jdk_92_method_28_code 65 = .ok (.lcmp, 1) := by decide +kernel
theorem de49_66 : decode jdk_92_method_28_code 66 = .ok (.ifCond .eq 13, 3) := by decide +kernel
theorem de49_69 : decode jdk_92_method_28_code 69 = .ok (.iload_n 2, 1) := by decide +kernel
theorem de49_70 : decode jdk_92_method_28_code 70 = .ok (.bipush 64, 2) := by decide +kernel
theorem de49_72 : decode jdk_92_method_28_code 72 = .ok (.imul, 1) := by decide +kernel
theorem de49_73 : decode jdk_92_method_28_code 73 = .ok (.lload_n 3, 1) := by decide +kernel
theorem de49_74 : decode jdk_92_method_28_code 74 = .ok (.invokestatic 182, 3) := by decide +kernel
theorem de49_77 : decode jdk_92_method_28_code 77 = .ok (.iadd, 1) := by decide +kernel
theorem de49_78 : decode jdk_92_method_28_code 78 = .ok (.ireturn, 1) := by decide +kernel
theorem de49_79 : decode jdk_92_method_28_code 79 = .ok (.iinc 2 1, 3) := by decide +kernel
theorem de49_82 : decode jdk_92_method_28_code 82 = .ok (.iload_n 2, 1) := by decide +kernel
theorem de49_83 : decode jdk_92_method_28_code 83 = .ok (.aload_n 0, 1) := by decide +kernel
theorem de49_84 : decode jdk_92_method_28_code 84 = .ok (.getfield 7, 3) := by decide +kernel
theorem de49_87 : decode jdk_92_method_28_code 87 = .ok (.if_icmp .ne 5, 3) := by decide +kernel
theorem de49_90 : decode jdk_92_method_28_code 90 = .ok (.iconst (-1), 1) := by decide +kernel
theorem de49_91 : decode jdk_92_method_28_code 91 = .ok (.ireturn, 1) := by decide +kernel
theorem de49_92 : decode jdk_92_method_28_code 92 = .ok (.aload_n 0, 1) := by decide +kernel
theorem de49_93 : decode jdk_92_method_28_code 93 = .ok (.getfield 11, 3) := by decide +kernel
theorem de49_96 : decode jdk_92_method_28_code 96 = .ok (.iload_n 2, 1) := by decide +kernel
theorem de49_97 : decode jdk_92_method_28_code 97 = .ok (.laload, 1) := by decide +kernel
theorem de49_98 : decode jdk_92_method_28_code 98 = .ok (.lstore_n 3, 1) := by decide +kernel
theorem de49_99 : decode jdk_92_method_28_code 99 = .ok (.goto (-36), 3) := by decide +kernel
theorem de50_0 : decode jdk_35_method_49_code 0 = .ok (.lload_n 0, 1) := by decide +kernel
theorem de50_1 : decode jdk_35_method_49_code 1 = .ok (.l2i, 1) := by decide +kernel
theorem de50_2 : decode jdk_35_method_49_code 2 = .ok (.istore_n 2, 1) := by decide +kernel
theorem de50_3 : decode jdk_35_method_49_code 3 = .ok (.iload_n 2, 1) := by decide +kernel
theorem de50_4 : decode jdk_35_method_49_code 4 = .ok (.ifCond .ne 17, 3) := by decide +kernel
theorem de50_7 : decode jdk_35_method_49_code 7 = .ok (.bipush 32, 2) := by decide +kernel
theorem de50_9 : decode jdk_35_method_49_code 9 = .ok (.lload_n 0, 1) := by decide +kernel
theorem de50_10 : decode jdk_35_method_49_code 10 = .ok (.bipush 32, 2) := by decide +kernel
theorem de50_12 : decode jdk_35_method_49_code 12 = .ok (.lushr, 1) := by decide +kernel
theorem de50_13 : decode jdk_35_method_49_code 13 = .ok (.l2i, 1) := by decide +kernel
theorem de50_14 : decode jdk_35_method_49_code 14 = .ok (.invokestatic 311, 3) := by decide +kernel
theorem de50_17 : decode jdk_35_method_49_code 17 = .ok (.iadd, 1) := by decide +kernel
theorem de50_18 : decode jdk_35_method_49_code 18 = .ok (.goto 7, 3) := by decide +kernel
theorem de50_21 : decode jdk_35_method_49_code 21 = .ok (.iload_n 2, 1) := by decide +kernel
theorem de50_22 : decode jdk_35_method_49_code 22 = .ok (.invokestatic 311, 3) := by decide +kernel
theorem de50_25 : decode jdk_35_method_49_code 25 = .ok (.ireturn, 1) := by decide +kernel
theorem de51_0 : decode jdk_33_method_48_code 0 = .ok (.iload_n 0, 1) := by decide +kernel
theorem de51_1 : decode jdk_33_method_48_code 1 = .ok (.iconst (-1), 1) := by decide +kernel
theorem de51_2 : decode jdk_33_method_48_code 2 = .ok (.ixor, 1) := by decide +kernel
theorem de51_3 : decode jdk_33_method_48_code 3 = .ok (.iload_n 0, 1) := by decide +kernel
theorem de51_4 : decode jdk_33_method_48_code 4 = .ok (.iconst 1, 1) := by decide +kernel
theorem de51_5 : decode jdk_33_method_48_code 5 = .ok (.isub, 1) := by decide +kernel
theorem de51_6 : decode jdk_33_method_48_code 6 = .ok (.iand, 1) := by decide +kernel
theorem de51_7 : decode jdk_33_method_48_code 7 = .ok (.istore_n 0, 1) := by decide +kernel
theorem de51_8 : decode jdk_33_method_48_code 8 = .ok (.iload_n 0, 1) := by decide +kernel
theorem de51_9 : decode jdk_33_method_48_code 9 = .ok (.ifCond .gt 8, 3) := by decide +kernel
theorem de51_12 : decode jdk_33_method_48_code 12 = .ok (.iload_n 0, 1) := by decide +kernel
theorem de51_13 : decode jdk_33_method_48_code 13 = .ok (.bipush 32, 2) := by decide +kernel
theorem de51_15 : decode jdk_33_method_48_code 15 = .ok (.iand, 1) := by decide +kernel
theorem de51_16 : decode jdk_33_method_48_code 16 = .ok (.ireturn, 1) := by decide +kernel
theorem de51_17 : decode jdk_33_method_48_code 17 = .ok (.iconst 1, 1) := by decide +kernel
theorem de51_18 : decode jdk_33_method_48_code 18 = .ok (.istore_n 1, 1) := by decide +kernel
theorem de51_19 : decode jdk_33_method_48_code 19 = .ok (.iload_n 0, 1) := by decide +kernel
theorem de51_20 : decode jdk_33_method_48_code 20 = .ok (.ldc_w 264, 3) := by decide +kernel
theorem de51_23 : decode jdk_33_method_48_code 23 = .ok (.if_icmp .le 11, 3) := by decide +kernel
theorem de51_26 : decode jdk_33_method_48_code 26 = .ok (.iinc 1 16, 3) := by decide +kernel
theorem de51_29 : decode jdk_33_method_48_code 29 = .ok (.iload_n 0, 1) := by decide +kernel
theorem de51_30 : decode jdk_33_method_48_code 30 = .ok (.bipush 16, 2) := by decide +kernel
theorem de51_32 : decode jdk_33_method_48_code 32 = .ok (.iushr, 1) := by decide +kernel
theorem de51_33 : decode jdk_33_method_48_code 33 = .ok (.istore_n 0, 1) := by decide +kernel
theorem de51_34 : decode jdk_33_method_48_code 34 = .ok (.iload_n 0, 1) := by decide +kernel
theorem de51_35 : decode jdk_33_method_48_code 35 = .ok (.sipush 256, 3) := by decide +kernel
theorem de51_38 : decode jdk_33_method_48_code 38 = .ok (.if_icmp .le 11, 3) := by decide +kernel
theorem de51_41 : decode jdk_33_method_48_code 41 = .ok (.iinc 1 8, 3) := by decide +kernel
theorem de51_44 : decode jdk_33_method_48_code 44 = .ok (.iload_n 0, 1) := by decide +kernel
theorem de51_45 : decode jdk_33_method_48_code 45 = .ok (.bipush 8, 2) := by decide +kernel
theorem de51_47 : decode jdk_33_method_48_code 47 = .ok (.iushr, 1) := by decide +kernel
theorem de51_48 : decode jdk_33_method_48_code 48 = .ok (.istore_n 0, 1) := by decide +kernel
theorem de51_49 : decode jdk_33_method_48_code 49 = .ok (.iload_n 0, 1) := by decide +kernel
theorem de51_50 : decode jdk_33_method_48_code 50 = .ok (.bipush 16, 2) := by decide +kernel
theorem de51_52 : decode jdk_33_method_48_code 52 = .ok (.if_icmp .le 10, 3) := by decide +kernel
theorem de51_55 : decode jdk_33_method_48_code 55 = .ok (.iinc 1 4, 3) := by decide +kernel
theorem de51_58 : decode jdk_33_method_48_code 58 = .ok (.iload_n 0, 1) := by decide +kernel
theorem de51_59 : decode jdk_33_method_48_code 59 = .ok (.iconst 4, 1) := by decide +kernel
theorem de51_60 : decode jdk_33_method_48_code 60 = .ok (.iushr, 1) := by decide +kernel
theorem de51_61 : decode jdk_33_method_48_code 61 = .ok (.istore_n 0, 1) := by decide +kernel
theorem de51_62 : decode jdk_33_method_48_code 62 = .ok (.iload_n 0, 1) := by decide +kernel
theorem de51_63 : decode jdk_33_method_48_code 63 = .ok (.iconst 4, 1) := by decide +kernel
theorem de51_64 : decode jdk_33_method_48_code 64 = .ok (.if_icmp .le 10, 3) := by decide +kernel
theorem de51_67 : decode jdk_33_method_48_code 67 = .ok (.iinc 1 2, 3) := by decide +kernel
theorem de51_70 : decode jdk_33_method_48_code 70 = .ok (.iload_n 0, 1) := by decide +kernel
theorem de51_71 : decode jdk_33_method_48_code 71 = .ok (.iconst 2, 1) := by decide +kernel
theorem de51_72 : decode jdk_33_method_48_code 72 = .ok (.iushr, 1) := by decide +kernel
theorem de51_73 : decode jdk_33_method_48_code 73 = .ok (.istore_n 0, 1) := by decide +kernel
theorem de51_74 : decode jdk_33_method_48_code 74 = .ok (.iload_n 1, 1) := by decide +kernel
theorem de51_75 : decode jdk_33_method_48_code 75 = .ok (.iload_n 0, 1) := by decide +kernel
theorem de51_76 : decode jdk_33_method_48_code 76 = .ok (.iconst 1, 1) := by decide +kernel
theorem de51_77 : decode jdk_33_method_48_code 77 = .ok (.iushr, 1) := by decide +kernel
theorem de51_78 : decode jdk_33_method_48_code 78 = .ok (.iadd, 1) := by decide +kernel
theorem de51_79 : decode jdk_33_method_48_code 79 = .ok (.ireturn, 1) := by decide +kernel
theorem ef_ct_e52 (x0 : Int32) (m : MethodId) : entryFrame m #[(.int x0)] 2 = mkF m 0 #[.val (.int x0), .unset] [] := by first | (simp [entryFrame, mkF, argsToLocals, o_catR, o_catN, o_catI, o_catJ, o_catD]; done) | rfl
set_option maxRecDepth 65536 in
set_option maxHeartbeats 40000000 in
theorem ct_e52 (l : Launch) (Z : State) (a0 : Array Value) (hw : ∀ d ∈ tables_1, d.before a0 Z = true) (EL : List (String × Nat)) (n0 : Nat)   (had : Sta Z Z.heap "java/util/BitSet" "$assertionsDisabled" "Z" (.int 1)) (od : Addr) (hod : Sta Z Z.heap "com/example/centile/centile/function/Order" "ASCENDING" "Lcom/example/centile/centile/function/Order;" (.ref od)) (h0 : Heap)   :
    OCt l Z a0 EL n0 (⟨"java/lang/Integer", "numberOfTrailingZeros", "(I)I"⟩ : MethodName) jdk_33_method_48_code 2 (some .int) ({ frames := 0, cells := 0, slots := 0, locals := 0 } : Room) [] #[(.int (65536 : Int32))] h0 [] (fun w vm h => w = some (.int (16 : Int32)) ∧ h = h0) := by
  refine OCt.body (plainFor_of_name pn_e3) (ef_ct_e52 ((65536 : Int32))) ?_
  intro p e s m below meth c T hby hml hret hnm hsh P
  refine o_iloadN P (hb hby de51_0) rfl (pc' := 1) rfl ?_
  refine o_iconst P (-1 : Int32) (hb hby de51_1) rfl (pc' := 2) rfl ?_
  refine o_ixor P (hb hby de51_2) (pc' := 3) rfl ?_
  show OG p e below m _ T 3 #[.val (.int (65536 : Int32)), .unset] [(.int (-65537 : Int32))]
  refine o_iloadN P (hb hby de51_3) rfl (pc' := 4) rfl ?_
  refine o_iconst P (1 : Int32) (hb hby de51_4) rfl (pc' := 5) rfl ?_
  refine o_isub P (hb hby de51_5) (pc' := 6) rfl ?_
  show OG p e below m _ T 6 #[.val (.int (65536 : Int32)), .unset] [(.int (65535 : Int32)), (.int (-65537 : Int32))]
  refine o_iand P (hb hby de51_6) (pc' := 7) rfl ?_
  show OG p e below m _ T 7 #[.val (.int (65536 : Int32)), .unset] [(.int (65535 : Int32))]
  refine o_istoreN P (hb hby de51_7) (L' := #[.val (.int (65535 : Int32)), .unset]) rfl (pc' := 8) rfl ?_
  refine o_iloadN P (hb hby de51_8) rfl (pc' := 9) rfl ?_
  refine o_if_gt P (hb hby de51_9) (by decide) (pc' := 17) (by decide) (pcf := 12) rfl (fun _ => ?_) (fun q => absurd (by decide) q)
  refine o_iconst P (1 : Int32) (hb hby de51_17) rfl (pc' := 18) rfl ?_
  refine o_istoreN P (hb hby de51_18) (L' := #[.val (.int (65535 : Int32)), .val (.int (1 : Int32))]) rfl (pc' := 19) rfl ?_
  refine o_iloadN P (hb hby de51_19) rfl (pc' := 20) rfl ?_
  refine o_ldcWI P (ow hw 125 rfl) (hb hby de51_20) (pc' := 23) rfl ?_
  refine o_icmp_le P (hb hby de51_23) (by decide) (pc' := 34) (by decide) (pcf := 26) rfl (fun _ => ?_) (fun q => absurd q (by decide))
  refine o_iloadN P (hb hby de51_34) rfl (pc' := 35) rfl ?_
  refine o_sipush P (256 : Int32) (hb hby de51_35) rfl (pc' := 38) rfl ?_
  refine o_icmp_le P (hb hby de51_38) (by decide) (pc' := 49) (by decide) (pcf := 41) rfl (fun q => absurd (by decide) q) (fun _ => ?_)
  refine o_iinc P (8 : Int32) (hb hby de51_41) rfl rfl (L' := #[.val (.int (65535 : Int32)), .val (.int (9 : Int32))]) rfl (pc' := 44) rfl ?_
  refine o_iloadN P (hb hby de51_44) rfl (pc' := 45) rfl ?_
  refine o_bipush P (8 : Int32) (hb hby de51_45) rfl (pc' := 47) rfl ?_
  refine o_iushr P (hb hby de51_47) (pc' := 48) rfl ?_
  show OG p e below m _ T 48 #[.val (.int (65535 : Int32)), .val (.int (9 : Int32))] [(.int (255 : Int32))]
  refine o_istoreN P (hb hby de51_48) (L' := #[.val (.int (255 : Int32)), .val (.int (9 : Int32))]) rfl (pc' := 49) rfl ?_
  refine o_iloadN P (hb hby de51_49) rfl (pc' := 50) rfl ?_
  refine o_bipush P (16 : Int32) (hb hby de51_50) rfl (pc' := 52) rfl ?_
  refine o_icmp_le P (hb hby de51_52) (by decide) (pc' := 62) (by decide) (pcf := 55) rfl (fun q => absurd (by decide) q) (fun _ => ?_)
  refine o_iinc P (4 : Int32) (hb hby de51_55) rfl rfl (L' := #[.val (.int (255 : Int32)), .val (.int (13 : Int32))]) rfl (pc' := 58) rfl ?_
  refine o_iloadN P (hb hby de51_58) rfl (pc' := 59) rfl ?_
  refine o_iconst P (4 : Int32) (hb hby de51_59) rfl (pc' := 60) rfl ?_
  refine o_iushr P (hb hby de51_60) (pc' := 61) rfl ?_
  show OG p e below m _ T 61 #[.val (.int (255 : Int32)), .val (.int (13 : Int32))] [(.int (15 : Int32))]
  refine o_istoreN P (hb hby de51_61) (L' := #[.val (.int (15 : Int32)), .val (.int (13 : Int32))]) rfl (pc' := 62) rfl ?_
  refine o_iloadN P (hb hby de51_62) rfl (pc' := 63) rfl ?_
  refine o_iconst P (4 : Int32) (hb hby de51_63) rfl (pc' := 64) rfl ?_
  refine o_icmp_le P (hb hby de51_64) (by decide) (pc' := 74) (by decide) (pcf := 67) rfl (fun q => absurd (by decide) q) (fun _ => ?_)
  refine o_iinc P (2 : Int32) (hb hby de51_67) rfl rfl (L' := #[.val (.int (15 : Int32)), .val (.int (15 : Int32))]) rfl (pc' := 70) rfl ?_
  refine o_iloadN P (hb hby de51_70) rfl (pc' := 71) rfl ?_
  refine o_iconst P (2 : Int32) (hb hby de51_71) rfl (pc' := 72) rfl ?_
  refine o_iushr P (hb hby de51_72) (pc' := 73) rfl ?_
  show OG p e below m _ T 73 #[.val (.int (15 : Int32)), .val (.int (15 : Int32))] [(.int (3 : Int32))]
  refine o_istoreN P (hb hby de51_73) (L' := #[.val (.int (3 : Int32)), .val (.int (15 : Int32))]) rfl (pc' := 74) rfl ?_
  refine o_iloadN P (hb hby de51_74) rfl (pc' := 75) rfl ?_
  refine o_iloadN P (hb hby de51_75) rfl (pc' := 76) rfl ?_
  refine o_iconst P (1 : Int32) (hb hby de51_76) rfl (pc' := 77) rfl ?_
  refine o_iushr P (hb hby de51_77) (pc' := 78) rfl ?_
  show OG p e below m _ T 78 #[.val (.int (3 : Int32)), .val (.int (15 : Int32))] [(.int (1 : Int32)), (.int (15 : Int32))]
  refine o_iadd P (hb hby de51_78) (pc' := 79) rfl ?_
  show OG p e below m _ T 79 #[.val (.int (3 : Int32)), .val (.int (15 : Int32))] [(.int (16 : Int32))]
  exact o_retI P hret (by simp) rfl (hb hby de51_79) (by decide) (by decide) ⟨rfl, rfl⟩
theorem ef_ct_e53 (x0 : Int64) (m : MethodId) : entryFrame m #[(.long x0)] 3 = mkF m 0 #[.val (.long x0), .second, .unset] [] := by first | (simp [entryFrame, mkF, argsToLocals, o_catR, o_catN, o_catI, o_catJ, o_catD]; done) | rfl
set_option maxRecDepth 65536 in
set_option maxHeartbeats 40000000 in
theorem ct_e53 (l : Launch) (Z : State) (a0 : Array Value) (hw : ∀ d ∈ tables_1, d.before a0 Z = true) (EL : List (String × Nat)) (n0 : Nat)   (had : Sta Z Z.heap "java/util/BitSet" "$assertionsDisabled" "Z" (.int 1)) (od : Addr) (hod : Sta Z Z.heap "com/example/centile/centile/function/Order" "ASCENDING" "Lcom/example/centile/centile/function/Order;" (.ref od)) (h0 : Heap)   :
    OCt l Z a0 EL n0 (⟨"java/lang/Long", "numberOfTrailingZeros", "(J)I"⟩ : MethodName) jdk_35_method_49_code 3 (some .int) ({ frames := 1, cells := 0, slots := 0, locals := 13 } : Room) [] #[(.long (65536 : Int64))] h0 [] (fun w vm h => w = some (.int (16 : Int32)) ∧ h = h0) := by
  refine OCt.body (plainFor_of_name pn_e4) (ef_ct_e53 ((65536 : Int64))) ?_
  intro p e s m below meth c T hby hml hret hnm hsh P
  refine o_lloadN P (hb hby de50_0) rfl (pc' := 1) rfl ?_
  refine o_l2i P (hb hby de50_1) (pc' := 2) rfl ?_
  show OG p e below m _ T 2 #[.val (.long (65536 : Int64)), .second, .unset] [(.int (65536 : Int32))]
  refine o_istoreN P (hb hby de50_2) (L' := #[.val (.long (65536 : Int64)), .second, .val (.int (65536 : Int32))]) rfl (pc' := 3) rfl ?_
  refine o_iloadN P (hb hby de50_3) rfl (pc' := 4) rfl ?_
  refine o_if_ne P (hb hby de50_4) (by decide) (pc' := 21) (by decide) (pcf := 7) rfl (fun _ => ?_) (fun q => absurd q (by decide))
  refine o_iloadN P (hb hby de50_21) rfl (pc' := 22) rfl ?_
  refine o_callS P (W := 0) (ow hw 134 rfl) (ow hw 135 rfl) (ow hw 123 rfl) (ow hw 136 rfl) (by decide) (ct_e52 l Z a0 hw EL n0   had od hod h0  ) o_sf0 (by rw [hml]; rfl) (by decide) (by decide) (argsL := [(.int (65536 : Int32))]) (rest := []) (lenOf pd_4 rfl) rfl rfl (Nat.le_of_eq rfl) (hb hby de50_22) (pc' := 25) rfl (by decide) (by decide) ?_
  clear P; intro T h2 v2 P K2 q2
  obtain ⟨rfl, rfl⟩ := q2; clear K2
  show OG p e below m _ T 25 #[.val (.long (65536 : Int64)), .second, .val (.int (65536 : Int32))] [(.int (16 : Int32))]
  exact o_retI P hret (by simp) rfl (hb hby de50_25) (by decide) (by decide) ⟨rfl, rfl⟩
theorem ef_ct_e54 (x0 : Addr) (x1 : Int32) (m : MethodId) : entryFrame m #[(.ref x0), (.int x1)] 5 = mkF m 0 #[.val (.ref x0), .val (.int x1), .unset, .unset, .unset] [] := by first | (simp [entryFrame, mkF, argsToLocals, o_catR, o_catN, o_catI, o_catJ, o_catD]; done) | rfl
set_option maxRecDepth 65536 in
set_option maxHeartbeats 40000000 in
theorem ct_e54 (l : Launch) (Z : State) (a0 : Array Value) (hw : ∀ d ∈ tables_1, d.before a0 Z = true) (EL : List (String × Nat)) (n0 : Nat) (p0 : Addr) (p1 : Addr)  (had : Sta Z Z.heap "java/util/BitSet" "$assertionsDisabled" "Z" (.int 1)) (od : Addr) (hod : Sta Z Z.heap "com/example/centile/centile/function/Order" "ASCENDING" "Lcom/example/centile/centile/function/Order;" (.ref od)) (h0 : Heap) (F_p0 : OObj Z h0 p0 "java/util/BitSet" [("java/util/BitSet", "wordsInUse", "I", (.int (1 : Int32))), ("java/util/BitSet", "sizeIsSticky", "Z", (.int (1 : Int32))), ("java/util/BitSet", "words", "[J", (.ref p1))]) (A_p1 : OArr Z h0 p1 .long [(.long (65537 : Int64))]) (ne_p0_p1 : p0 ≠ p1) :
    OCt l Z a0 EL n0 (⟨"java/util/BitSet", "nextSetBit", "(I)I"⟩ : MethodName) jdk_92_method_28_code 5 (some .int) ({ frames := 2, cells := 0, slots := 0, locals := 28 } : Room) [] #[(.ref p0), (.int (1 : Int32))] h0 [] (fun w vm h => w = some (.int (16 : Int32)) ∧ h = h0) := by
  refine OCt.body (plainFor_of_name pn_e1) (ef_ct_e54 p0 ((1 : Int32))) ?_
  intro p e s m below meth c T hby hml hret hnm hsh P
  refine o_iloadN P (hb hby de49_0) rfl (pc' := 1) rfl ?_
  refine o_if_ge P (hb hby de49_1) (by decide) (pc' := 31) (by decide) (pcf := 4) rfl (fun _ => ?_) (fun q => absurd q (by decide))
  refine o_aloadN P (hb hby de49_31) rfl rfl (pc' := 32) rfl ?_
  refine o_callP P (W := 0) (a := p0) (ow hw 90 rfl) (ow hw 91 rfl) (ow hw 93 rfl) (ow hw 92 rfl) (ow hw 54 rfl) (ow hw 94 rfl) (by decide) F_p0.exa (ct_e34 l Z a0 hw EL n0 p0 p1  had od hod h0 F_p0 A_p1 ne_p0_p1) o_sf0 (by rw [hml]; rfl) (by decide) (by decide) (argsL := []) (rest := []) (lenOf pd_0 rfl) rfl rfl (Nat.le_of_eq rfl) (hb hby de49_32) (pc' := 35) rfl (by decide) (by decide) ?_
  clear P; intro T h2 v2 P K2 q2
  obtain ⟨rfl, rfl⟩ := q2; clear K2
  show OG p e below m _ T 35 #[.val (.ref p0), .val (.int (1 : Int32)), .unset, .unset, .unset] []
  refine o_iloadN P (hb hby de49_35) rfl (pc' := 36) rfl ?_
  refine o_callS P (W := 0) (ow hw 68 rfl) (ow hw 69 rfl) (ow hw 54 rfl) (ow hw 70 rfl) (by decide) (ct_e41 l Z a0 hw EL n0   had od hod h2  ) o_sf0 (by rw [hml]; rfl) (by decide) (by decide) (argsL := [(.int (1 : Int32))]) (rest := []) (lenOf pd_4 rfl) rfl rfl (Nat.le_of_eq rfl) (hb hby de49_36) (pc' := 39) rfl (by decide) (by decide) ?_
  clear P; intro T h4 v4 P K4 q4
  obtain ⟨rfl, rfl⟩ := q4; clear K4
  show OG p e below m _ T 39 #[.val (.ref p0), .val (.int (1 : Int32)), .unset, .unset, .unset] [(.int (0 : Int32))]
  refine o_istoreN P (hb hby de49_39) (L' := #[.val (.ref p0), .val (.int (1 : Int32)), .val (.int (0 : Int32)), .unset, .unset]) rfl (pc' := 40) rfl ?_
  refine o_iloadN P (hb hby de49_40) rfl (pc' := 41) rfl ?_
  refine o_aloadN P (hb hby de49_41) rfl rfl (pc' := 42) rfl ?_
  refine o_getF P (ow hw 59 rfl) Via.refl (F_p0.fld 0 rfl) (hb hby de49_42) (pc' := 45) rfl ?_
  clear P; intro T P
  refine o_icmp_lt P (hb hby de49_45) (by decide) (pc' := 50) (by decide) (pcf := 48) rfl (fun _ => ?_) (fun q => absurd (by decide) q)
  refine o_aloadN P (hb hby de49_50) rfl rfl (pc' := 51) rfl ?_
  refine o_getF P (ow hw 71 rfl) Via.refl (F_p0.fld 2 rfl) (hb hby de49_51) (pc' := 54) rfl ?_
  clear P; intro T P
  refine o_iloadN P (hb hby de49_54) rfl (pc' := 55) rfl ?_
  refine o_laload P (v := (.long (65537 : Int64))) A_p1 (by decide) rfl (hb hby de49_55) (pc' := 56) rfl ?_
  refine o_ldc2L P (ow hw 116 rfl) (hb hby de49_56) (pc' := 59) rfl ?_
  refine o_iloadN P (hb hby de49_59) rfl (pc' := 60) rfl ?_
  refine o_lshl P (hb hby de49_60) (pc' := 61) rfl ?_
  show OG p e below m _ T 61 #[.val (.ref p0), .val (.int (1 : Int32)), .val (.int (0 : Int32)), .unset, .unset] [(.long (-2 : Int64)), (.long (65537 : Int64))]
  refine o_land P (hb hby de49_61) (pc' := 62) rfl ?_
  show OG p e below m _ T 62 #[.val (.ref p0), .val (.int (1 : Int32)), .val (.int (0 : Int32)), .unset, .unset] [(.long (65536 : Int64))]
  refine o_lstoreN P (hb hby de49_62) (L' := #[.val (.ref p0), .val (.int (1 : Int32)), .val (.int (0 : Int32)), .val (.long (65536 : Int64)), .second]) rfl (pc' := 63) rfl ?_
  refine o_lloadN P (hb hby de49_63) rfl (pc' := 64) rfl ?_
  refine o_lconst P (0 : Int64) (hb hby de49_64) rfl (pc' := 65) rfl ?_
  refine o_lcmp P (hb hby de49_65) (pc' := 66) rfl ?_
  show OG p e below m _ T 66 #[.val (.ref p0), .val (.int (1 : Int32)), .val (.int (0 : Int32)), .val (.long (65536 : Int64)), .second] [(.int (1 : Int32))]
  refine o_if_eq P (hb hby de49_66) (by decide) (pc' := 79) (by decide) (pcf := 69) rfl (fun q => absurd q (by decide)) (fun _ => ?_)
  refine o_iloadN P (hb hby de49_69) rfl (pc' := 70) rfl ?_
  refine o_bipush P (64 : Int32) (hb hby de49_70) rfl (pc' := 72) rfl ?_
  refine o_imul P (hb hby de49_72) (pc' := 73) rfl ?_
  show OG p e below m _ T 73 #[.val (.ref p0), .val (.int (1 : Int32)), .val (.int (0 : Int32)), .val (.long (65536 : Int64)), .second] [(.int (0 : Int32))]
  refine o_lloadN P (hb hby de49_73) rfl (pc' := 74) rfl ?_
  refine o_callS P (W := 1) (ow hw 131 rfl) (ow hw 132 rfl) (ow hw 119 rfl) (ow hw 133 rfl) (by decide) (ct_e53 l Z a0 hw EL n0   had od hod h4  ) o_sf0 (by rw [hml]; rfl) (by decide) (by decide) (argsL := [(.long (65536 : Int64))]) (rest := [(.int (0 : Int32))]) (lenOf pd_7 rfl) rfl rfl (Nat.le_of_eq rfl) (hb hby de49_74) (pc' := 77) rfl (by decide) (by decide) ?_
  clear P; intro T h6 v6 P K6 q6
  obtain ⟨rfl, rfl⟩ := q6; clear K6
  show OG p e below m _ T 77 #[.val (.ref p0), .val (.int (1 : Int32)), .val (.int (0 : Int32)), .val (.long (65536 : Int64)), .second] [(.int (16 : Int32)), (.int (0 : Int32))]
  refine o_iadd P (hb hby de49_77) (pc' := 78) rfl ?_
  show OG p e below m _ T 78 #[.val (.ref p0), .val (.int (1 : Int32)), .val (.int (0 : Int32)), .val (.long (65536 : Int64)), .second] [(.int (16 : Int32))]
  exact o_retI P hret (by simp) rfl (hb hby de49_78) (by decide) (by decide) ⟨rfl, rfl⟩
theorem de55_0 : decode jdk_65_method_5_code 0 = .ok (.aload_n 0, 1) := by decide +kernel
theorem de55_1 : decode jdk_65_method_5_code 1 = .ok (.arraylength, 1) := by decide +kernel
theorem de55_2 : decode jdk_65_method_5_code 2 = .ok (.iload_n 1, 1) := by decide +kernel
theorem de55_3 : decode jdk_65_method_5_code 3 = .ok (.iload_n 2, 1) := by decide +kernel
theorem de55_4 : decode jdk_65_method_5_code 4 = .ok (.invokestatic 13, 3) := by decide +kernel
theorem de55_7 : decode jdk_65_method_5_code 7 = .ok (.aload_n 0, 1) := by decide +kernel
theorem de55_8 : decode jdk_65_method_5_code 8 = .ok (.iconst 0, 1) := by decide +kernel
theorem de55_9 : decode jdk_65_method_5_code 9 = .ok (.iload_n 1, 1) := by decide +kernel
theorem de55_10 : decode jdk_65_method_5_code 10 = .ok (.iload_n 2, 1) := by decide +kernel
theorem de55_11 : decode jdk_65_method_5_code 11 = .ok (.invokestatic 19, 3) := by decide +kernel
theorem de55_14 : decode jdk_65_method_5_code 14 = .ok (.return_, 1) := by decide +kernel
theorem de56_0 : decode jdk_65_method_30_code 0 = .ok (.iload_n 1, 1) := by decide +kernel
theorem de56_1 : decode jdk_65_method_30_code 1 = .ok (.iload_n 2, 1) := by decide +kernel
theorem de56_2 : decode jdk_65_method_30_code 2 = .ok (.if_icmp .le 44, 3) := by decide +kernel
theorem de56_5 : decode jdk_65_method_30_code 5 = .ok (.new 43, 3) := by decide +kernel
theorem de56_8 : decode jdk_65_method_30_code 8 = .ok (.dup, 1) := by decide +kernel
theorem de56_9 : decode jdk_65_method_30_code 9 = .ok (.new 45, 3) := by decide +kernel
theorem de56_12 : decode jdk_65_method_30_code 12 = .ok (.dup, 1) := by decide +kernel
theorem de56_13 : decode jdk_65_method_30_code 13 = .ok (.invokespecial 47, 3) := by decide +kernel
theorem de56_16 : decode jdk_65_method_30_code 16 = .ok (.ldc 48, 2) := by decide +kernel
theorem de56_18 : decode jdk_65_method_30_code 18 = .ok (.invokevirtual 50, 3) := by decide +kernel
theorem de56_21 : decode jdk_65_method_30_code 21 = .ok (.iload_n 1, 1) := by decide +kernel
theorem de56_22 : decode jdk_65_method_30_code 22 = .ok (.invokevirtual 54, 3) := by decide +kernel
theorem de56_25 : decode jdk_65_method_30_code 25 = .ok (.ldc 57, 2) := by decide +kernel
theorem de56_27 : decode jdk_65_method_30_code 27 = .ok (.invokevirtual 50, 3) := by decide +kernel
theorem de56_30 : decode jdk_65_method_30_code 30 = .ok (.iload_n 2, 1) := by decide +kernel
theorem de56_31 : decode jdk_65_method_30_code 31 = .ok (.invokevirtual 54, 3) := by decide +kernel
theorem de56_34 : decode jdk_65_method_30_code 34 = .ok (.ldc 59, 2) := by decide +kernel
theorem de56_36 : decode jdk_65_method_30_code 36 = .ok (.invokevirtual 50, 3) := by decide +kernel
theorem de56_39 : decode jdk_65_method_30_code 39 = .ok (.invokevirtual 61, 3) := by decide +kernel
theorem de56_42 : decode jdk_65_method_30_code 42 = .ok (.invokespecial 65, 3) := by decide +kernel
theorem de56_45 : decode jdk_65_method_30_code 45 = .ok (.athrow, 1) := by decide +kernel
theorem de56_46 : decode jdk_65_method_30_code 46 = .ok (.iload_n 1, 1) := by decide +kernel
theorem de56_47 : decode jdk_65_method_30_code 47 = .ok (.ifCond .ge 12, 3) := by decide +kernel
theorem de56_50 : decode jdk_65_method_30_code 50 = .ok (.new 68, 3) := by decide +kernel
theorem de56_53 : decode jdk_65_method_30_code 53 = .ok (.dup, 1) := by decide +kernel
theorem de56_54 : decode jdk_65_method_30_code 54 = .ok (.iload_n 1, 1) := by decide +kernel
theorem de56_55 : decode jdk_65_method_30_code 55 = .ok (.invokespecial 70, 3) := by decide +kernel
theorem de56_58 : decode jdk_65_method_30_code 58 = .ok (.athrow, 1) := by decide +kernel
theorem de56_59 : decode jdk_65_method_30_code 59 = .ok (.iload_n 2, 1) := by decide +kernel
theorem de56_60 : decode jdk_65_method_30_code 60 = .ok (.iload_n 0, 1) := by decide +kernel
theorem de56_61 : decode jdk_65_method_30_code 61 = .ok (.if_icmp .le 12, 3) := by decide +kernel
theorem de56_64 : decode jdk_65_method_30_code 64 = .ok (.new 68, 3) := by decide +kernel
theorem de56_67 : decode jdk_65_method_30_code 67 = .ok (.dup, 1) := by decide +kernel
theorem de56_68 : decode jdk_65_method_30_code 68 = .ok (.iload_n 2, 1) := by decide +kernel
theorem de56_69 : decode jdk_65_method_30_code 69 = .ok (.invokespecial 70, 3) := by decide +kernel
theorem de56_72 : decode jdk_65_method_30_code 72 = .ok (.athrow, 1) := by decide +kernel
theorem de56_73 : decode jdk_65_method_30_code 73 = .ok (.return_, 1) := by decide +kernel
theorem ef_ct_e57 (x0 : Int32) (x1 : Int32) (x2 : Int32) (m : MethodId) : entryFrame m #[(.int x0), (.int x1), (.int x2)] 3 = mkF m 0 #[.val (.int x0), .val (.int x1), .val (.int x2)] [] := by first | (simp [entryFrame, mkF, argsToLocals, o_catR, o_catN, o_catI, o_catJ, o_catD]; done) | rfl
theorem pn_e5 : plainName "java/util/Arrays" = true := by first | (simp [plainName, overriddenIn]; done) | decide +kernel
set_option maxRecDepth 65536 in
set_option maxHeartbeats 40000000 in
theorem ct_e57 (l : Launch) (Z : State) (a0 : Array Value) (hw : ∀ d ∈ tables_1, d.before a0 Z = true) (EL : List (String × Nat)) (n0 : Nat)   (had : Sta Z Z.heap "java/util/BitSet" "$assertionsDisabled" "Z" (.int 1)) (od : Addr) (hod : Sta Z Z.heap "com/example/centile/centile/function/Order" "ASCENDING" "Lcom/example/centile/centile/function/Order;" (.ref od)) (h0 : Heap)   :
    OCt l Z a0 EL n0 (⟨"java/util/Arrays", "rangeCheck", "(III)V"⟩ : MethodName) jdk_65_method_30_code 3 none ({ frames := 0, cells := 0, slots := 0, locals := 0 } : Room) [] #[(.int (16 : Int32)), (.int (0 : Int32)), (.int (16 : Int32))] h0 [] (fun w vm h => w = none ∧ h = h0) := by
  refine OCt.body (plainFor_of_name pn_e5) (ef_ct_e57 ((16 : Int32)) ((0 : Int32)) ((16 : Int32))) ?_
  intro p e s m below meth c T hby hml hret hnm hsh P
  refine o_iloadN P (hb hby de56_0) rfl (pc' := 1) rfl ?_
  refine o_iloadN P (hb hby de56_1) rfl (pc' := 2) rfl ?_
  refine o_icmp_le P (hb hby de56_2) (by decide) (pc' := 46) (by decide) (pcf := 5) rfl (fun _ => ?_) (fun q => absurd q (by decide))
  refine o_iloadN P (hb hby de56_46) rfl (pc' := 47) rfl ?_
  refine o_if_ge P (hb hby de56_47) (by decide) (pc' := 59) (by decide) (pcf := 50) rfl (fun _ => ?_) (fun q => absurd q (by decide))
  refine o_iloadN P (hb hby de56_59) rfl (pc' := 60) rfl ?_
  refine o_iloadN P (hb hby de56_60) rfl (pc' := 61) rfl ?_
  refine o_icmp_le P (hb hby de56_61) (by decide) (pc' := 73) (by decide) (pcf := 64) rfl (fun _ => ?_) (fun q => absurd q (by decide))
  exact o_ret0 P hret (hb hby de56_73) (by decide) (by decide) ⟨rfl, rfl⟩
theorem de58_0 : decode jdk_2529_method_12_code 0 = .ok (.iload_n 3, 1) := by decide +kernel
theorem de58_1 : decode jdk_2529_method_12_code 1 = .ok (.iload_n 2, 1) := by decide +kernel
theorem de58_2 : decode jdk_2529_method_12_code 2 = .ok (.isub, 1) := by decide +kernel
theorem de58_3 : decode jdk_2529_method_12_code 3 = .ok (.istore 4, 2) := by decide +kernel
theorem de58_5 : decode jdk_2529_method_12_code 5 = .ok (.iload_n 1, 1) := by decide +kernel
theorem de58_6 : decode jdk_2529_method_12_code 6 = .ok (.iconst 1, 1) := by decide +kernel
theorem de58_7 : decode jdk_2529_method_12_code 7 = .ok (.if_icmp .le 61, 3) := by decide +kernel
theorem de58_10 : decode jdk_2529_method_12_code 10 = .ok (.iload 4, 2) := by decide +kernel
theorem de58_12 : decode jdk_2529_method_12_code 12 = .ok (.sipush 4096, 3) := by decide +kernel
theorem de58_15 : decode jdk_2529_method_12_code 15 = .ok (.if_icmp .le 53, 3) := by decide +kernel
theorem de58_18 : decode jdk_2529_method_12_code 18 = .ok (.iload_n 1, 1) := by decide +kernel
theorem de58_19 : decode jdk_2529_method_12_code 19 = .ok (.iload 4, 2) := by decide +kernel
theorem de58_21 : decode jdk_2529_method_12_code 21 = .ok (.bipush 12, 2) := by decide +kernel
theorem de58_23 : decode jdk_2529_method_12_code 23 = .ok (.ishr, 1) := by decide +kernel
theorem de58_24 : decode jdk_2529_method_12_code 24 = .ok (.invokestatic 13, 3) := by decide +kernel
theorem de58_27 : decode jdk_2529_method_12_code 27 = .ok (.istore 5, 2) := by decide +kernel
theorem de58_29 : decode jdk_2529_method_12_code 29 = .ok (.iload 5, 2) := by decide +kernel
theorem de58_31 : decode jdk_2529_method_12_code 31 = .ok (.ifCond .ne 7, 3) := by decide +kernel
theorem de58_34 : decode jdk_2529_method_12_code 34 = .ok (.aconst_null, 1) := by decide +kernel
theorem de58_35 : decode jdk_2529_method_12_code 35 = .ok (.goto 7, 3) := by decide +kernel
theorem de58_38 : decode jdk_2529_method_12_code 38 = .ok (.iload 4, 2) := by decide +kernel
theorem de58_40 : decode jdk_2529_method_12_code 40 = .ok (.newarray .long, 2) := by decide +kernel
theorem de58_42 : decode jdk_2529_method_12_code 42 = .ok (.astore 6, 2) := by decide +kernel
theorem de58_44 : decode jdk_2529_method_12_code 44 = .ok (.new 17, 3) := by decide +kernel
theorem de58_47 : decode jdk_2529_method_12_code 47 = .ok (.dup, 1) := by decide +kernel
theorem de58_48 : decode jdk_2529_method_12_code 48 = .ok (.aconst_null, 1) := by decide +kernel
theorem de58_49 : decode jdk_2529_method_12_code 49 = .ok (.aload_n 0, 1) := by decide +kernel
theorem de58_50 : decode jdk_2529_method_12_code 50 = .ok (.aload 6, 2) := by decide +kernel
theorem de58_52 : decode jdk_2529_method_12_code 52 = .ok (.iload_n 2, 1) := by decide +kernel
theorem de58_53 : decode jdk_2529_method_12_code 53 = .ok (.iload 4, 2) := by decide +kernel
theorem de58_55 : decode jdk_2529_method_12_code 55 = .ok (.iload_n 2, 1) := by decide +kernel
theorem de58_56 : decode jdk_2529_method_12_code 56 = .ok (.iload 5, 2) := by decide +kernel
theorem de58_58 : decode jdk_2529_method_12_code 58 = .ok (.invokespecial 19, 3) := by decide +kernel
theorem de58_61 : decode jdk_2529_method_12_code 61 = .ok (.invokevirtual 22, 3) := by decide +kernel
theorem de58_64 : decode jdk_2529_method_12_code 64 = .ok (.pop, 1) := by decide +kernel
theorem de58_65 : decode jdk_2529_method_12_code 65 = .ok (.goto 11, 3) := by decide +kernel
theorem de58_68 : decode jdk_2529_method_12_code 68 = .ok (.aconst_null, 1) := by decide +kernel
theorem de58_69 : decode jdk_2529_method_12_code 69 = .ok (.aload_n 0, 1) := by decide +kernel
theorem de58_70 : decode jdk_2529_method_12_code 70 = .ok (.iconst 0, 1) := by decide +kernel
theorem de58_71 : decode jdk_2529_method_12_code 71 = .ok (.iload_n 2, 1) := by decide +kernel
theorem de58_72 : decode jdk_2529_method_12_code 72 = .ok (.iload_n 3, 1) := by decide +kernel
theorem de58_73 : decode jdk_2529_method_12_code 73 = .ok (.invokestatic 99, 3) := by decide +kernel
theorem de58_76 : decode jdk_2529_method_12_code 76 = .ok (.return_, 1) := by decide +kernel
theorem de59_0 : decode jdk_2529_method_13_code 0 = .ok (.iload 4, 2) := by decide +kernel
theorem de59_2 : decode jdk_2529_method_13_code 2 = .ok (.iconst 1, 1) := by decide +kernel
theorem de59_3 : decode jdk_2529_method_13_code 3 = .ok (.isub, 1) := by decide +kernel
theorem de59_4 : decode jdk_2529_method_13_code 4 = .ok (.istore 5, 2) := by decide +kernel
theorem de59_6 : decode jdk_2529_method_13_code 6 = .ok (.iload 4, 2) := by decide +kernel
theorem de59_8 : decode jdk_2529_method_13_code 8 = .ok (.iload_n 3, 1) := by decide +kernel
theorem de59_9 : decode jdk_2529_method_13_code 9 = .ok (.isub, 1) := by decide +kernel
theorem de59_10 : decode jdk_2529_method_13_code 10 = .ok (.istore 6, 2) := by decide +kernel
theorem de59_12 : decode jdk_2529_method_13_code 12 = .ok (.iload 6, 2) := by decide +kernel
theorem de59_14 : decode jdk_2529_method_13_code 14 = .ok (.bipush 65, 2) := by decide +kernel
theorem de59_16 : decode jdk_2529_method_13_code 16 = .ok (.iload_n 2, 1) := by decide +kernel
theorem de59_17 : decode jdk_2529_method_13_code 17 = .ok (.iadd, 1) := by decide +kernel
theorem de59_18 : decode jdk_2529_method_13_code 18 = .ok (.if_icmp .ge 28, 3) := by decide +kernel
theorem de59_21 : decode jdk_2529_method_13_code 21 = .ok (.iload_n 2, 1) := by decide +kernel
theorem de59_22 : decode jdk_2529_method_13_code 22 = .ok (.iconst 1, 1) := by decide +kernel
theorem de59_23 : decode jdk_2529_method_13_code 23 = .ok (.iand, 1) := by decide +kernel
theorem de59_24 : decode jdk_2529_method_13_code 24 = .ok (.ifCond .le 22, 3) := by decide +kernel
theorem de59_27 : decode jdk_2529_method_13_code 27 = .ok (.aload_n 1, 1) := by decide +kernel
theorem de59_28 : decode jdk_2529_method_13_code 28 = .ok (.iload_n 3, 1) := by decide +kernel
theorem de59_29 : decode jdk_2529_method_13_code 29 = .ok (.iload 4, 2) := by decide +kernel
theorem de59_31 : decode jdk_2529_method_13_code 31 = .ok (.iconst 3, 1) := by decide +kernel
theorem de59_32 : decode jdk_2529_method_13_code 32 = .ok (.iload 6, 2) := by decide +kernel
theorem de59_34 : decode jdk_2529_method_13_code 34 = .ok (.iconst 5, 1) := by decide +kernel
theorem de59_35 : decode jdk_2529_method_13_code 35 = .ok (.ishr, 1) := by decide +kernel
theorem de59_36 : decode jdk_2529_method_13_code 36 = .ok (.iconst 3, 1) := by decide +kernel
theorem de59_37 : decode jdk_2529_method_13_code 37 = .ok (.ishl, 1) := by decide +kernel
theorem de59_38 : decode jdk_2529_method_13_code 38 = .ok (.imul, 1) := by decide +kernel
theorem de59_39 : decode jdk_2529_method_13_code 39 = .ok (.isub, 1) := by decide +kernel
theorem de59_40 : decode jdk_2529_method_13_code 40 = .ok (.iload 4, 2) := by decide +kernel
theorem de59_42 : decode jdk_2529_method_13_code 42 = .ok (.invokestatic 102, 3) := by decide +kernel
theorem de59_45 : decode jdk_2529_method_13_code 45 = .ok (.return_, 1) := by decide +kernel
theorem de59_46 : decode jdk_2529_method_13_code 46 = .ok (.iload 6, 2) := by decide +kernel
theorem de59_48 : decode jdk_2529_method_13_code 48 = .ok (.bipush 44, 2) := by decide +kernel
theorem de59_50 : decode jdk_2529_method_13_code 50 = .ok (.if_icmp .ge 11, 3) := by decide +kernel
theorem de59_53 : decode jdk_2529_method_13_code 53 = .ok (.aload_n 1, 1) := by decide +kernel
theorem de59_54 : decode jdk_2529_method_13_code 54 = .ok (.iload_n 3, 1) := by decide +kernel
theorem de59_55 : decode jdk_2529_method_13_code 55 = .ok (.iload 4, 2) := by decide +kernel
theorem de59_57 : decode jdk_2529_method_13_code 57 = .ok (.invokestatic 105, 3) := by decide +kernel
theorem de59_60 : decode jdk_2529_method_13_code 60 = .ok (.return_, 1) := by decide +kernel
theorem de59_61 : decode jdk_2529_method_13_code 61 = .ok (.iload_n 2, 1) := by decide +kernel
theorem de59_62 : decode jdk_2529_method_13_code 62 = .ok (.ifCond .eq 17, 3) := by decide +kernel
theorem de59_65 : decode jdk_2529_method_13_code 65 = .ok (.iload 6, 2) := by decide +kernel
theorem de59_67 : decode jdk_2529_method_13_code 67 = .ok (.sipush 4096, 3) := by decide +kernel
theorem de59_70 : decode jdk_2529_method_13_code 70 = .ok (.if_icmp .le 21, 3) := by decide +kernel
theorem de59_73 : decode jdk_2529_method_13_code 73 = .ok (.iload_n 2, 1) := by decide +kernel
theorem de59_74 : decode jdk_2529_method_13_code 74 = .ok (.iconst 1, 1) := by decide +kernel
theorem de59_75 : decode jdk_2529_method_13_code 75 = .ok (.iand, 1) := by decide +kernel
theorem de59_76 : decode jdk_2529_method_13_code 76 = .ok (.ifCond .le 15, 3) := by decide +kernel
theorem de59_79 : decode jdk_2529_method_13_code 79 = .ok (.aload_n 0, 1) := by decide +kernel
theorem de59_80 : decode jdk_2529_method_13_code 80 = .ok (.aload_n 1, 1) := by decide +kernel
theorem de59_81 : decode jdk_2529_method_13_code 81 = .ok (.iload_n 3, 1) := by decide +kernel
theorem de59_82 : decode jdk_2529_method_13_code 82 = .ok (.iload 6, 2) := by decide +kernel
theorem de59_84 : decode jdk_2529_method_13_code 84 = .ok (.invokestatic 108, 3) := by decide +kernel
theorem de59_87 : decode jdk_2529_method_13_code 87 = .ok (.ifCond .eq 4, 3) := by decide +kernel
theorem de59_90 : decode jdk_2529_method_13_code 90 = .ok (.return_, 1) := by decide +kernel
theorem de59_91 : decode jdk_2529_method_13_code 91 = .ok (.iinc 2 6, 3) := by decide +kernel
theorem de59_94 : decode jdk_2529_method_13_code 94 = .ok (.iload_n 2, 1) := by decide +kernel
theorem de59_95 : decode jdk_2529_method_13_code 95 = .ok (.sipush 384, 3) := by decide +kernel
theorem de59_98 : decode jdk_2529_method_13_code 98 = .ok (.if_icmp .le 11, 3) := by decide +kernel
theorem de59_101 : decode jdk_2529_method_13_code 101 = .ok (.aload_n 1, 1) := by decide +kernel
theorem de59_102 : decode jdk_2529_method_13_code 102 = .ok (.iload_n 3, 1) := by decide +kernel
theorem de59_103 : decode jdk_2529_method_13_code 103 = .ok (.iload 4, 2) := by decide +kernel
theorem de59_105 : decode jdk_2529_method_13_code 105 = .ok (.invokestatic 111, 3) := by decide +kernel
theorem de59_108 : decode jdk_2529_method_13_code 108 = .ok (.return_, 1) := by decide +kernel
theorem de59_109 : decode jdk_2529_method_13_code 109 = .ok (.iload 6, 2) := by decide +kernel
theorem de59_111 : decode jdk_2529_method_13_code 111 = .ok (.iconst 3, 1) := by decide +kernel
theorem de59_112 : decode jdk_2529_method_13_code 112 = .ok (.ishr, 1) := by decide +kernel
theorem de59_113 : decode jdk_2529_method_13_code 113 = .ok (.iconst 3, 1) := by decide +kernel
theorem de59_114 : decode jdk_2529_method_13_code 114 = .ok (.imul, 1) := by decide +kernel
theorem de59_115 : decode jdk_2529_method_13_code 115 = .ok (.iconst 3, 1) := by decide +kernel
theorem de59_116 : decode jdk_2529_method_13_code 116 = .ok (.iadd, 1) := by decide +kernel
theorem de59_117 : decode jdk_2529_method_13_code 117 = .ok (.istore 7, 2) := by decide +kernel
theorem de59_119 : decode jdk_2529_method_13_code 119 = .ok (.iload_n 3, 1) := by decide +kernel
theorem de59_120 : decode jdk_2529_method_13_code 120 = .ok (.iload 7, 2) := by decide +kernel
theorem de59_122 : decode jdk_2529_method_13_code 122 = .ok (.iadd, 1) := by decide +kernel
theorem de59_123 : decode jdk_2529_method_13_code 123 = .ok (.istore 8, 2) := by decide +kernel
theorem de59_125 : decode jdk_2529_method_13_code 125 = .ok (.iload 5, 2) := by decide +kernel
theorem de59_127 : decode jdk_2529_method_13_code 127 = .ok (.iload 7, 2) := by decide +kernel
theorem de59_129 : decode jdk_2529_method_13_code 129 = .ok (.isub, 1) := by decide +kernel
theorem de59_130 : decode jdk_2529_method_13_code 130 = .ok (.istore 9, 2) := by decide +kernel
theorem de59_132 : decode jdk_2529_method_13_code 132 = .ok (.iload 8, 2) := by decide +kernel
theorem de59_134 : decode jdk_2529_method_13_code 134 = .ok (.iload 9, 2) := by decide +kernel
theorem de59_136 : decode jdk_2529_method_13_code 136 = .ok (.iadd, 1) := by decide +kernel
theorem de59_137 : decode jdk_2529_method_13_code 137 = .ok (.iconst 1, 1) := by decide +kernel
theorem de59_138 : decode jdk_2529_method_13_code 138 = .ok (.iushr, 1) := by decide +kernel
theorem de59_139 : decode jdk_2529_method_13_code 139 = .ok (.istore 10, 2) := by decide +kernel
theorem de59_141 : decode jdk_2529_method_13_code 141 = .ok (.iload 8, 2) := by decide +kernel
theorem de59_143 : decode jdk_2529_method_13_code 143 = .ok (.iload 10, 2) := by decide +kernel
theorem de59_145 : decode jdk_2529_method_13_code 145 = .ok (.iadd, 1) := by decide +kernel
theorem de59_146 : decode jdk_2529_method_13_code 146 = .ok (.iconst 1, 1) := by decide +kernel
theorem de59_147 : decode jdk_2529_method_13_code 147 = .ok (.iushr, 1) := by decide +kernel
theorem de59_148 : decode jdk_2529_method_13_code 148 = .ok (.istore 11, 2) := by decide +kernel
theorem de59_150 : decode jdk_2529_method_13_code 150 = .ok (.iload 10, 2) := by decide +kernel
theorem de59_152 : decode jdk_2529_method_13_code 152 = .ok (.iload 9, 2) := by decide +kernel
theorem de59_154 : decode jdk_2529_method_13_code 154 = .ok (.iadd, 1) := by decide +kernel
theorem de59_155 : decode jdk_2529_method_13_code 155 = .ok (.iconst 1, 1) := by decide +kernel
theorem de59_156 : decode jdk_2529_method_13_code 156 = .ok (.iushr, 1) := by decide +kernel
theorem de59_157 : decode jdk_2529_method_13_code 157 = .ok (.istore 12, 2) := by decide +kernel
theorem de59_159 : decode jdk_2529_method_13_code 159 = .ok (.aload_n 1, 1) := by decide +kernel
theorem de59_160 : decode jdk_2529_method_13_code 160 = .ok (.iload 10, 2) := by decide +kernel
theorem de59_162 : decode jdk_2529_method_13_code 162 = .ok (.laload, 1) := by decide +kernel
theorem de59_163 : decode jdk_2529_method_13_code 163 = .ok (.lstore 13, 2) := by decide +kernel
theorem de59_165 : decode jdk_2529_method_13_code 165 = .ok (.aload_n 1, 1) := by decide +kernel
theorem de59_166 : decode jdk_2529_method_13_code 166 = .ok (.iload 9, 2) := by decide +kernel
theorem de59_168 : decode jdk_2529_method_13_code 168 = .ok (.laload, 1) := by decide +kernel
theorem de59_169 : decode jdk_2529_method_13_code 169 = .ok (.aload_n 1, 1) := by decide +kernel
theorem de59_170 : decode jdk_2529_method_13_code 170 = .ok (.iload 11, 2) := by decide +kernel
theorem de59_172 : decode jdk_2529_method_13_code 172 = .ok (.laload, 1) := by decide +kernel
theorem de59_173 : decode jdk_2529_method_13_code 173 = .ok (.lcmp, 1) := by decide +kernel
theorem de59_174 : decode jdk_2529_method_13_code 174 = .ok (.ifCond .ge 23, 3) := by decide +kernel
theorem de59_177 : decode jdk_2529_method_13_code 177 = .ok (.aload_n 1, 1) := by decide +kernel
theorem de59_178 : decode jdk_2529_method_13_code 178 = .ok (.iload 9, 2) := by decide +kernel
theorem de59_180 : decode jdk_2529_method_13_code 180 = .ok (.laload, 1) := by decide +kernel
theorem de59_181 : decode jdk_2529_method_13_code 181 = .ok (.lstore 15, 2) := by decide +kernel
theorem de59_183 : decode jdk_2529_method_13_code 183 = .ok (.aload_n 1, 1) := by decide +kernel
theorem de59_184 : decode jdk_2529_method_13_code 184 = .ok (.iload 9, 2) := by decide +kernel
theorem de59_186 : decode jdk_2529_method_13_code 186 = .ok (.aload_n 1, 1) := by decide +kernel
theorem de59_187 : decode jdk_2529_method_13_code 187 = .ok (.iload 11, 2) := by decide +kernel
theorem de59_189 : decode jdk_2529_method_13_code 189 = .ok (.laload, 1) := by decide +kernel
theorem de59_190 : decode jdk_2529_method_13_code 190 = .ok (.lastore, 1) := by decide +kernel
theorem de59_191 : decode jdk_2529_method_13_code 191 = .ok (.aload_n 1, 1) := by decide +kernel
theorem de59_192 : decode jdk_2529_method_13_code 192 = .ok (.iload 11, 2) := by decide +kernel
theorem de59_194 : decode jdk_2529_method_13_code 194 = .ok (.lload 15, 2) := by decide +kernel
theorem de59_196 : decode jdk_2529_method_13_code 196 = .ok (.lastore, 1) := by decide +kernel
theorem de59_197 : decode jdk_2529_method_13_code 197 = .ok (.aload_n 1, 1) := by decide +kernel
theorem de59_198 : decode jdk_2529_method_13_code 198 = .ok (.iload 12, 2) := by decide +kernel
theorem de59_200 : decode jdk_2529_method_13_code 200 = .ok (.laload, 1) := by decide +kernel
theorem de59_201 : decode jdk_2529_method_13_code 201 = .ok (.aload_n 1, 1) := by decide +kernel
theorem de59_202 : decode jdk_2529_method_13_code 202 = .ok (.iload 8, 2) := by decide +kernel
theorem de59_204 : decode jdk_2529_method_13_code 204 = .ok (.laload, 1) := by decide +kernel
theorem de59_205 : decode jdk_2529_method_13_code 205 = .ok (.lcmp, 1) := by decide +kernel
theorem de59_206 : decode jdk_2529_method_13_code 206 = .ok (.ifCond .ge 23, 3) := by decide +kernel
theorem de59_209 : decode jdk_2529_method_13_code 209 = .ok (.aload_n 1, 1) := by decide +kernel
theorem de59_210 : decode jdk_2529_method_13_code 210 = .ok (.iload 12, 2) := by decide +kernel
theorem de59_212 : decode jdk_2529_method_13_code 212 = .ok (.laload, 1) := by decide +kernel
theorem de59_213 : decode jdk_2529_method_13_code 213 = .ok (.lstore 15, 2) := by decide +kernel
theorem de59_215 : decode jdk_2529_method_13_code 215 = .ok (.aload_n 1, 1) := by decide +kernel
theorem de59_216 : decode jdk_2529_method_13_code 216 = .ok (.iload 12, 2) := by decide +kernel
theorem de59_218 : decode jdk_2529_method_13_code 218 = .ok (.aload_n 1, 1) := by decide +kernel
theorem de59_219 : decode jdk_2529_method_13_code 219 = .ok (.iload 8, 2) := by decide +kernel
theorem de59_221 : decode jdk_2529_method_13_code 221 = .ok (.laload, 1) := by decide +kernel
theorem de59_222 : decode jdk_2529_method_13_code 222 = .ok (.lastore, 1) := by decide +kernel
theorem de59_223 : decode jdk_2529_method_13_code 223 = .ok (.aload_n 1, 1) := by decide +kernel
theorem de59_224 : decode jdk_2529_method_13_code 224 = .ok (.iload 8, 2) := by decide +kernel
theorem de59_226 : decode jdk_2529_method_13_code 226 = .ok (.lload 15, 2) := by decide +kernel
theorem de59_228 : decode jdk_2529_method_13_code 228 = .ok (.lastore, 1) := by decide +kernel
theorem de59_229 : decode jdk_2529_method_13_code 229 = .ok (.aload_n 1, 1) := by decide +kernel
theorem de59_230 : decode jdk_2529_method_13_code 230 = .ok (.iload 9, 2) := by decide +kernel
theorem de59_232 : decode jdk_2529_method_13_code 232 = .ok (.laload, 1) := by decide +kernel
theorem de59_233 : decode jdk_2529_method_13_code 233 = .ok (.aload_n 1, 1) := by decide +kernel
theorem de59_234 : decode jdk_2529_method_13_code 234 = .ok (.iload 12, 2) := by decide +kernel
theorem de59_236 : decode jdk_2529_method_13_code 236 = .ok (.laload, 1) := by decide +kernel
theorem de59_237 : decode jdk_2529_method_13_code 237 = .ok (.lcmp, 1) := by decide +kernel
theorem de59_238 : decode jdk_2529_method_13_code 238 = .ok (.ifCond .ge 23, 3) := by decide +kernel
theorem de59_241 : decode jdk_2529_method_13_code 241 = .ok (.aload_n 1, 1) := by decide +kernel
theorem de59_242 : decode jdk_2529_method_13_code 242 = .ok (.iload 9, 2) := by decide +kernel
theorem de59_244 : decode jdk_2529_method_13_code 244 = .ok (.laload, 1) := by decide +kernel
theorem de59_245 : decode jdk_2529_method_13_code 245 = .ok (.lstore 15, 2) := by decide +kernel
theorem de59_247 : decode jdk_2529_method_13_code 247 = .ok (.aload_n 1, 1) := by decide +kernel
theorem de59_248 : decode jdk_2529_method_13_code 248 = .ok (.iload 9, 2) := by decide +kernel
theorem de59_250 : decode jdk_2529_method_13_code 250 = .ok (.aload_n 1, 1) := by decide +kernel
theorem de59_251 : decode jdk_2529_method_13_code 251 = .ok (.iload 12, 2) := by decide +kernel
theorem de59_253 : decode jdk_2529_method_13_code 253 = .ok (.laload, 1) := by decide +kernel
theorem de59_254 : decode jdk_2529_method_13_code 254 = .ok (.lastore, 1) := by decide +kernel
theorem de59_255 : decode jdk_2529_method_13_code 255 = .ok (.aload_n 1, 1) := by decide +kernel
theorem de59_256 : decode jdk_2529_method_13_code 256 = .ok (.iload 12, 2) := by decide +kernel
theorem de59_258 : decode jdk_2529_method_13_code 258 = .ok (.lload 15, 2) := by decide +kernel
theorem de59_260 : decode jdk_2529_method_13_code 260 = .ok (.lastore, 1) := by decide +kernel
theorem de59_261 : decode jdk_2529_method_13_code 261 = .ok (.aload_n 1, 1) := by decide +kernel
theorem de59_262 : decode jdk_2529_method_13_code 262 = .ok (.iload 11, 2) := by decide +kernel
theorem de59_264 : decode jdk_2529_method_13_code 264 = .ok (.laload, 1) := by decide +kernel
theorem de59_265 : decode jdk_2529_method_13_code 265 = .ok (.aload_n 1, 1) := by decide +kernel
theorem de59_266 : decode jdk_2529_method_13_code 266 = .ok (.iload 8, 2) := by decide +kernel
theorem de59_268 : decode jdk_2529_method_13_code 268 = .ok (.laload, 1) := by decide +kernel
theorem de59_269 : decode jdk_2529_method_13_code 269 = .ok (.lcmp, 1) := by decide +kernel
theorem de59_270 : decode jdk_2529_method_13_code 270 = .ok (.ifCond .ge 23, 3) := by decide +kernel
theorem de59_273 : decode jdk_2529_method_13_code 273 = .ok (.aload_n 1, 1) := by decide +kernel
theorem de59_274 : decode jdk_2529_method_13_code 274 = .ok (.iload 11, 2) := by decide +kernel
theorem de59_276 : decode jdk_2529_method_13_code 276 = .ok (.laload, 1) := by decide +kernel
theorem de59_277 : decode jdk_2529_method_13_code 277 = .ok (.lstore 15, 2) := by decide +kernel
theorem de59_279 : decode jdk_2529_method_13_code 279 = .ok (.aload_n 1, 1) := by decide +kernel
theorem de59_280 : decode jdk_2529_method_13_code 280 = .ok (.iload 11, 2) := by decide +kernel
theorem de59_282 : decode jdk_2529_method_13_code 282 = .ok (.aload_n 1, 1) := by decide +kernel
theorem de59_283 : decode jdk_2529_method_13_code 283 = .ok (.iload 8, 2) := by decide +kernel
theorem de59_285 : decode jdk_2529_method_13_code 285 = .ok (.laload, 1) := by decide +kernel
theorem de59_286 : decode jdk_2529_method_13_code 286 = .ok (.lastore, 1) := by decide +kernel
theorem de59_287 : decode jdk_2529_method_13_code 287 = .ok (.aload_n 1, 1) := by decide +kernel
theorem de59_288 : decode jdk_2529_method_13_code 288 = .ok (.iload 8, 2) := by decide +kernel
theorem de59_290 : decode jdk_2529_method_13_code 290 = .ok (.lload 15, 2) := by decide +kernel
theorem de59_292 : decode jdk_2529_method_13_code 292 = .ok (.lastore, 1) := by decide +kernel
theorem de59_293 : decode jdk_2529_method_13_code 293 = .ok (.aload_n 1, 1) := by decide +kernel
theorem de59_294 : decode jdk_2529_method_13_code 294 = .ok (.iload 12, 2) := by decide +kernel
theorem de59_296 : decode jdk_2529_method_13_code 296 = .ok (.laload, 1) := by decide +kernel
theorem de59_297 : decode jdk_2529_method_13_code 297 = .ok (.aload_n 1, 1) := by decide +kernel
theorem de59_298 : decode jdk_2529_method_13_code 298 = .ok (.iload 11, 2) := by decide +kernel
theorem de59_300 : decode jdk_2529_method_13_code 300 = .ok (.laload, 1) := by decide +kernel
theorem de59_301 : decode jdk_2529_method_13_code 301 = .ok (.lcmp, 1) := by decide +kernel
theorem de59_302 : decode jdk_2529_method_13_code 302 = .ok (.ifCond .ge 23, 3) := by decide +kernel
theorem de59_305 : decode jdk_2529_method_13_code 305 = .ok (.aload_n 1, 1) := by decide +kernel
theorem de59_306 : decode jdk_2529_method_13_code 306 = .ok (.iload 12, 2) := by decide +kernel
theorem de59_308 : decode jdk_2529_method_13_code 308 = .ok (.laload, 1) := by decide +kernel
theorem de59_309 : decode jdk_2529_method_13_code 309 = .ok (.lstore 15, 2) := by decide +kernel
theorem de59_311 : decode jdk_2529_method_13_code 311 = .ok (.aload_n 1, 1) := by decide +kernel
theorem de59_312 : decode jdk_2529_method_13_code 312 = .ok (.iload 12, 2) := by decide +kernel
theorem de59_314 : decode jdk_2529_method_13_code 314 = .ok (.aload_n 1, 1) := by decide +kernel
theorem de59_315 : decode jdk_2529_method_13_code 315 = .ok (.iload 11, 2) := by decide +kernel
theorem de59_317 : decode jdk_2529_method_13_code 317 = .ok (.laload, 1) := by decide +kernel
theorem de59_318 : decode jdk_2529_method_13_code 318 = .ok (.lastore, 1) := by decide +kernel
theorem de59_319 : decode jdk_2529_method_13_code 319 = .ok (.aload_n 1, 1) := by decide +kernel
theorem de59_320 : decode jdk_2529_method_13_code 320 = .ok (.iload 11, 2) := by decide +kernel
theorem de59_322 : decode jdk_2529_method_13_code 322 = .ok (.lload 15, 2) := by decide +kernel
theorem de59_324 : decode jdk_2529_method_13_code 324 = .ok (.lastore, 1) := by decide +kernel
theorem de59_325 : decode jdk_2529_method_13_code 325 = .ok (.lload 13, 2) := by decide +kernel
theorem de59_327 : decode jdk_2529_method_13_code 327 = .ok (.aload_n 1, 1) := by decide +kernel
theorem de59_328 : decode jdk_2529_method_13_code 328 = .ok (.iload 11, 2) := by decide +kernel
theorem de59_330 : decode jdk_2529_method_13_code 330 = .ok (.laload, 1) := by decide +kernel
theorem de59_331 : decode jdk_2529_method_13_code 331 = .ok (.lcmp, 1) := by decide +kernel
theorem de59_332 : decode jdk_2529_method_13_code 332 = .ok (.ifCond .ge 55, 3) := by decide +kernel
theorem de59_335 : decode jdk_2529_method_13_code 335 = .ok (.lload 13, 2) := by decide +kernel
theorem de59_337 : decode jdk_2529_method_13_code 337 = .ok (.aload_n 1, 1) := by decide +kernel
theorem de59_338 : decode jdk_2529_method_13_code 338 = .ok (.iload 8, 2) := by decide +kernel
theorem de59_340 : decode jdk_2529_method_13_code 340 = .ok (.laload, 1) := by decide +kernel
theorem de59_341 : decode jdk_2529_method_13_code 341 = .ok (.lcmp, 1) := by decide +kernel
theorem de59_342 : decode jdk_2529_method_13_code 342 = .ok (.ifCond .ge 28, 3) := by decide +kernel
theorem de59_345 : decode jdk_2529_method_13_code 345 = .ok (.aload_n 1, 1) := by decide +kernel
theorem de59_346 : decode jdk_2529_method_13_code 346 = .ok (.iload 10, 2) := by decide +kernel
theorem de59_348 : decode jdk_2529_method_13_code 348 = .ok (.aload_n 1, 1) := by decide +kernel
theorem de59_349 : decode jdk_2529_method_13_code 349 = .ok (.iload 11, 2) := by decide +kernel
theorem de59_351 : decode jdk_2529_method_13_code 351 = .ok (.laload, 1) := by decide +kernel
theorem de59_352 : decode jdk_2529_method_13_code 352 = .ok (.lastore, 1) := by decide +kernel
theorem de59_353 : decode jdk_2529_method_13_code 353 = .ok (.aload_n 1, 1) := by decide +kernel
theorem de59_354 : decode jdk_2529_method_13_code 354 = .ok (.iload 11, 2) := by decide +kernel
theorem de59_356 : decode jdk_2529_method_13_code 356 = .ok (.aload_n 1, 1) := by decide +kernel
theorem de59_357 : decode jdk_2529_method_13_code 357 = .ok (.iload 8, 2) := by decide +kernel
theorem de59_359 : decode jdk_2529_method_13_code 359 = .ok (.laload, 1) := by decide +kernel
theorem de59_360 : decode jdk_2529_method_13_code 360 = .ok (.lastore, 1) := by decide +kernel
theorem de59_361 : decode jdk_2529_method_13_code 361 = .ok (.aload_n 1, 1) := by decide +kernel
theorem de59_362 : decode jdk_2529_method_13_code 362 = .ok (.iload 8, 2) := by decide +kernel
theorem de59_364 : decode jdk_2529_method_13_code 364 = .ok (.lload 13, 2) := by decide +kernel
theorem de59_366 : decode jdk_2529_method_13_code 366 = .ok (.lastore, 1) := by decide +kernel
theorem de59_367 : decode jdk_2529_method_13_code 367 = .ok (.goto 79, 3) := by decide +kernel
theorem de59_370 : decode jdk_2529_method_13_code 370 = .ok (.aload_n 1, 1) := by decide +kernel
theorem de59_371 : decode jdk_2529_method_13_code 371 = .ok (.iload 10, 2) := by decide +kernel
theorem de59_373 : decode jdk_2529_method_13_code 373 = .ok (.aload_n 1, 1) := by decide +kernel
theorem de59_374 : decode jdk_2529_method_13_code 374 = .ok (.iload 11, 2) := by decide +kernel
theorem de59_376 : decode jdk_2529_method_13_code 376 = .ok (.laload, 1) := by decide +kernel
theorem de59_377 : decode jdk_2529_method_13_code 377 = .ok (.lastore, 1) := by decide +kernel
theorem de59_378 : decode jdk_2529_method_13_code 378 = .ok (.aload_n 1, 1) := by decide +kernel
theorem de59_379 : decode jdk_2529_method_13_code 379 = .ok (.iload 11, 2) := by decide +kernel
theorem de59_381 : decode jdk_2529_method_13_code 381 = .ok (.lload 13, 2) := by decide +kernel
theorem de59_383 : decode jdk_2529_method_13_code 383 = .ok (.lastore, 1) := by decide +kernel
theorem de59_384 : decode jdk_2529_method_13_code 384 = .ok (.goto 62, 3) := by decide +kernel
theorem de59_387 : decode jdk_2529_method_13_code 387 = .ok (.lload 13, 2) := by decide +kernel
theorem de59_389 : decode jdk_2529_method_13_code 389 = .ok (.aload_n 1, 1) := by decide +kernel
theorem de59_390 : decode jdk_2529_method_13_code 390 = .ok (.iload 12, 2) := by decide +kernel
theorem de59_392 : decode jdk_2529_method_13_code 392 = .ok (.laload, 1) := by decide +kernel
theorem de59_393 : decode jdk_2529_method_13_code 393 = .ok (.lcmp, 1) := by decide +kernel
theorem de59_394 : decode jdk_2529_method_13_code 394 = .ok (.ifCond .le 52, 3) := by decide +kernel
theorem de59_397 : decode jdk_2529_method_13_code 397 = .ok (.lload 13, 2) := by decide +kernel
theorem de59_399 : decode jdk_2529_method_13_code 399 = .ok (.aload_n 1, 1) := by decide +kernel
theorem de59_400 : decode jdk_2529_method_13_code 400 = .ok (.iload 9, 2) := by decide +kernel
theorem de59_402 : decode jdk_2529_method_13_code 402 = .ok (.laload, 1) := by decide +kernel
theorem de59_403 : decode jdk_2529_method_13_code 403 = .ok (.lcmp, 1) := by decide +kernel
theorem de59_404 : decode jdk_2529_method_13_code 404 = .ok (.ifCond .le 28, 3) := by decide +kernel
theorem de59_407 : decode jdk_2529_method_13_code 407 = .ok (.aload_n 1, 1) := by decide +kernel
theorem de59_408 : decode jdk_2529_method_13_code 408 = .ok (.iload 10, 2) := by decide +kernel
theorem de59_410 : decode jdk_2529_method_13_code 410 = .ok (.aload_n 1, 1) := by decide +kernel
theorem de59_411 : decode jdk_2529_method_13_code 411 = .ok (.iload 12, 2) := by decide +kernel
theorem de59_413 : decode jdk_2529_method_13_code 413 = .ok (.laload, 1) := by decide +kernel
theorem de59_414 : decode jdk_2529_method_13_code 414 = .ok (.lastore, 1) := by decide +kernel
theorem de59_415 : decode jdk_2529_method_13_code 415 = .ok (.aload_n 1, 1) := by decide +kernel
theorem de59_416 : decode jdk_2529_method_13_code 416 = .ok (.iload 12, 2) := by decide +kernel
theorem de59_418 : decode jdk_2529_method_13_code 418 = .ok (.aload_n 1, 1) := by decide +kernel
theorem de59_419 : decode jdk_2529_method_13_code 419 = .ok (.iload 9, 2) := by decide +kernel
theorem de59_421 : decode jdk_2529_method_13_code 421 = .ok (.laload, 1) := by decide +kernel
theorem de59_422 : decode jdk_2529_method_13_code 422 = .ok (.lastore, 1) := by decide +kernel
theorem de59_423 : decode jdk_2529_method_13_code 423 = .ok (.aload_n 1, 1) := by decide +kernel
theorem de59_424 : decode jdk_2529_method_13_code 424 = .ok (.iload 9, 2) := by decide +kernel
theorem de59_426 : decode jdk_2529_method_13_code 426 = .ok (.lload 13, 2) := by decide +kernel
theorem de59_428 : decode jdk_2529_method_13_code 428 = .ok (.lastore, 1) := by decide +kernel
theorem de59_429 : decode jdk_2529_method_13_code 429 = .ok (.goto 17, 3) := by decide +kernel
theorem de59_432 : decode jdk_2529_method_13_code 432 = .ok (.aload_n 1, 1) := by decide +kernel
theorem de59_433 : decode jdk_2529_method_13_code 433 = .ok (.iload 10, 2) := by decide +kernel
theorem de59_435 : decode jdk_2529_method_13_code 435 = .ok (.aload_n 1, 1) := by decide +kernel
theorem de59_436 : decode jdk_2529_method_13_code 436 = .ok (.iload 12, 2) := by decide +kernel
theorem de59_438 : decode jdk_2529_method_13_code 438 = .ok (.laload, 1) := by decide +kernel
theorem de59_439 : decode jdk_2529_method_13_code 439 = .ok (.lastore, 1) := by decide +kernel
theorem de59_440 : decode jdk_2529_method_13_code 440 = .ok (.aload_n 1, 1) := by decide +kernel
theorem de59_441 : decode jdk_2529_method_13_code 441 = .ok (.iload 12, 2) := by decide +kernel
theorem de59_443 : decode jdk_2529_method_13_code 443 = .ok (.lload 13, 2) := by decide +kernel
theorem de59_445 : decode jdk_2529_method_13_code 445 = .ok (.lastore, 1) := by decide +kernel
theorem de59_446 : decode jdk_2529_method_13_code 446 = .ok (.iload_n 3, 1) := by decide +kernel
theorem de59_447 : decode jdk_2529_method_13_code 447 = .ok (.istore 15, 2) := by decide +kernel
theorem de59_449 : decode jdk_2529_method_13_code 449 = .ok (.iload 5, 2) := by decide +kernel
theorem de59_451 : decode jdk_2529_method_13_code 451 = .ok (.istore 16, 2) := by decide +kernel
theorem de59_453 : decode jdk_2529_method_13_code 453 = .ok (.aload_n 1, 1) := by decide +kernel
theorem de59_454 : decode jdk_2529_method_13_code 454 = .ok (.iload 8, 2) := by decide +kernel
theorem de59_456 : decode jdk_2529_method_13_code 456 = .ok (.laload, 1) := by decide +kernel
theorem de59_457 : decode jdk_2529_method_13_code 457 = .ok (.aload_n 1, 1) := by decide +kernel
theorem de59_458 : decode jdk_2529_method_13_code 458 = .ok (.iload 11, 2) := by decide +kernel
theorem de59_460 : decode jdk_2529_method_13_code 460 = .ok (.laload, 1) := by decide +kernel
theorem de59_461 : decode jdk_2529_method_13_code 461 = .ok (.lcmp, 1) := by decide +kernel
theorem de59_462 : decode jdk_2529_method_13_code 462 = .ok (.ifCond .ge 333, 3) := by decide +kernel
theorem de59_465 : decode jdk_2529_method_13_code 465 = .ok (.aload_n 1, 1) := by decide +kernel
theorem de59_466 : decode jdk_2529_method_13_code 466 = .ok (.iload 11, 2) := by decide +kernel
theorem de59_468 : decode jdk_2529_method_13_code 468 = .ok (.laload, 1) := by decide +kernel
theorem de59_469 : decode jdk_2529_method_13_code 469 = .ok (.aload_n 1, 1) := by decide +kernel
theorem de59_470 : decode jdk_2529_method_13_code 470 = .ok (.iload 10, 2) := by decide +kernel
theorem de59_472 : decode jdk_2529_method_13_code 472 = .ok (.laload, 1) := by decide +kernel
theorem de59_473 : decode jdk_2529_method_13_code 473 = .ok (.lcmp, 1) := by decide +kernel
theorem de59_474 : decode jdk_2529_method_13_code 474 = .ok (.ifCond .ge 321, 3) := by decide +kernel
theorem de59_477 : decode jdk_2529_method_13_code 477 = .ok (.aload_n 1, 1) := by decide +kernel
theorem de59_478 : decode jdk_2529_method_13_code 478 = .ok (.iload 10, 2) := by decide +kernel
theorem de59_480 : decode jdk_2529_method_13_code 480 = .ok (.laload, 1) := by decide +kernel
theorem de59_481 : decode jdk_2529_method_13_code 481 = .ok (.aload_n 1, 1) := by decide +kernel
theorem de59_482 : decode jdk_2529_method_13_code 482 = .ok (.iload 12, 2) := by decide +kernel
theorem de59_484 : decode jdk_2529_method_13_code 484 = .ok (.laload, 1) := by decide +kernel
theorem de59_485 : decode jdk_2529_method_13_code 485 = .ok (.lcmp, 1) := by decide +kernel
theorem de59_486 : decode jdk_2529_method_13_code 486 = .ok (.ifCond .ge 309, 3) := by decide +kernel
theorem de59_489 : decode jdk_2529_method_13_code 489 = .ok (.aload_n 1, 1) := by decide +kernel
theorem de59_490 : decode jdk_2529_method_13_code 490 = .ok (.iload 12, 2) := by decide +kernel
theorem de59_492 : decode jdk_2529_method_13_code 492 = .ok (.laload, 1) := by decide +kernel
theorem de59_493 : decode jdk_2529_method_13_code 493 = .ok (.aload_n 1, 1) := by decide +kernel
theorem de59_494 : decode jdk_2529_method_13_code 494 = .ok (.iload 9, 2) := by decide +kernel
theorem de59_496 : decode jdk_2529_method_13_code 496 = .ok (.laload, 1) := by decide +kernel
theorem de59_497 : decode jdk_2529_method_13_code 497 = .ok (.lcmp, 1) := by decide +kernel
theorem de59_498 : decode jdk_2529_method_13_code 498 = .ok (.ifCond .ge 297, 3) := by decide +kernel
theorem de59_501 : decode jdk_2529_method_13_code 501 = .ok (.aload_n 1, 1) := by decide +kernel
theorem de59_502 : decode jdk_2529_method_13_code 502 = .ok (.iload 8, 2) := by decide +kernel
theorem de59_504 : decode jdk_2529_method_13_code 504 = .ok (.laload, 1) := by decide +kernel
theorem de59_505 : decode jdk_2529_method_13_code 505 = .ok (.lstore 17, 2) := by decide +kernel
theorem de59_507 : decode jdk_2529_method_13_code 507 = .ok (.aload_n 1, 1) := by decide +kernel
theorem de59_508 : decode jdk_2529_method_13_code 508 = .ok (.iload 9, 2) := by decide +kernel
theorem de59_510 : decode jdk_2529_method_13_code 510 = .ok (.laload, 1) := by decide +kernel
theorem de59_511 : decode jdk_2529_method_13_code 511 = .ok (.lstore 19, 2) := by decide +kernel
theorem de59_513 : decode jdk_2529_method_13_code 513 = .ok (.aload_n 1, 1) := by decide +kernel
theorem de59_514 : decode jdk_2529_method_13_code 514 = .ok (.iload 8, 2) := by decide +kernel
theorem de59_516 : decode jdk_2529_method_13_code 516 = .ok (.aload_n 1, 1) := by decide +kernel
theorem de59_517 : decode jdk_2529_method_13_code 517 = .ok (.iload 15, 2) := by decide +kernel
theorem de59_519 : decode jdk_2529_method_13_code 519 = .ok (.laload, 1) := by decide +kernel
theorem de59_520 : decode jdk_2529_method_13_code 520 = .ok (.lastore, 1) := by decide +kernel
theorem de59_521 : decode jdk_2529_method_13_code 521 = .ok (.aload_n 1, 1) := by decide +kernel
theorem de59_522 : decode jdk_2529_method_13_code 522 = .ok (.iload 9, 2) := by decide +kernel
theorem de59_524 : decode jdk_2529_method_13_code 524 = .ok (.aload_n 1, 1) := by decide +kernel
theorem de59_525 : decode jdk_2529_method_13_code 525 = .ok (.iload 16, 2) := by decide +kernel
theorem de59_527 : decode jdk_2529_method_13_code 527 = .ok (.laload, 1) := by decide +kernel
theorem de59_528 : decode jdk_2529_method_13_code 528 = .ok (.lastore, 1) := by decide +kernel
theorem de59_529 : decode jdk_2529_method_13_code 529 = .ok (.aload_n 1, 1) := by decide +kernel
theorem de59_530 : decode jdk_2529_method_13_code 530 = .ok (.iinc 15 1, 3) := by decide +kernel
theorem de59_533 : decode jdk_2529_method_13_code 533 = .ok (.iload 15, 2) := by decide +kernel
theorem de59_535 : decode jdk_2529_method_13_code 535 = .ok (.laload, 1) := by decide +kernel
theorem de59_536 : decode jdk_2529_method_13_code 536 = .ok (.lload 17, 2) := by decide +kernel
theorem de59_538 : decode jdk_2529_method_13_code 538 = .ok (.lcmp, 1) := by decide +kernel
theorem de59_539 : decode jdk_2529_method_13_code 539 = .ok (.ifCond .ge 6, 3) := by decide +kernel
theorem de59_542 : decode jdk_2529_method_13_code 542 = .ok (.goto (-13), 3) := by decide +kernel
theorem de59_545 : decode jdk_2529_method_13_code 545 = .ok (.aload_n 1, 1) := by decide +kernel
theorem de59_546 : decode jdk_2529_method_13_code 546 = .ok (.iinc 16 (-1), 3) := by decide +kernel
theorem de59_549 : decode jdk_2529_method_13_code 549 = .ok (.iload 16, 2) := by decide +kernel
theorem de59_551 : decode jdk_2529_method_13_code 551 = .ok (.laload, 1) := by decide +kernel
theorem de59_552 : decode jdk_2529_method_13_code 552 = .ok (.lload 19, 2) := by decide +kernel
theorem de59_554 : decode jdk_2529_method_13_code 554 = .ok (.lcmp, 1) := by decide +kernel
theorem de59_555 : decode jdk_2529_method_13_code 555 = .ok (.ifCond .le 6, 3) := by decide +kernel
theorem de59_558 : decode jdk_2529_method_13_code 558 = .ok (.goto (-13), 3) := by decide +kernel
theorem de59_561 : decode jdk_2529_method_13_code 561 = .ok (.iinc 15 (-1), 3) := by decide +kernel
theorem de59_564 : decode jdk_2529_method_13_code 564 = .ok (.iload 15, 2) := by decide +kernel
theorem de59_566 : decode jdk_2529_method_13_code 566 = .ok (.istore 21, 2) := by decide +kernel
theorem de59_568 : decode jdk_2529_method_13_code 568 = .ok (.iinc 16 1, 3) := by decide +kernel
theorem de59_571 : decode jdk_2529_method_13_code 571 = .ok (.iload 16, 2) := by decide +kernel
theorem de59_573 : decode jdk_2529_method_13_code 573 = .ok (.istore 22, 2) := by decide +kernel
theorem de59_575 : decode jdk_2529_method_13_code 575 = .ok (.iinc 22 (-1), 3) := by decide +kernel
theorem de59_578 : decode jdk_2529_method_13_code 578 = .ok (.iload 22, 2) := by decide +kernel
theorem de59_580 : decode jdk_2529_method_13_code 580 = .ok (.iload 15, 2) := by decide +kernel
theorem de59_582 : decode jdk_2529_method_13_code 582 = .ok (.if_icmp .le 114, 3) := by decide +kernel
theorem de59_585 : decode jdk_2529_method_13_code 585 = .ok (.aload_n 1, 1) := by decide +kernel
theorem de59_586 : decode jdk_2529_method_13_code 586 = .ok (.iload 22, 2) := by decide +kernel
theorem de59_588 : decode jdk_2529_method_13_code 588 = .ok (.laload, 1) := by decide +kernel
theorem de59_589 : decode jdk_2529_method_13_code 589 = .ok (.lstore 23, 2) := by decide +kernel
theorem de59_591 : decode jdk_2529_method_13_code 591 = .ok (.lload 23, 2) := by decide +kernel
theorem de59_593 : decode jdk_2529_method_13_code 593 = .ok (.lload 17, 2) := by decide +kernel
theorem de59_595 : decode jdk_2529_method_13_code 595 = .ok (.lcmp, 1) := by decide +kernel
theorem de59_596 : decode jdk_2529_method_13_code 596 = .ok (.ifCond .ge 72, 3) := by decide +kernel
theorem de59_599 : decode jdk_2529_method_13_code 599 = .ok (.iload 15, 2) := by decide +kernel
theorem de59_601 : decode jdk_2529_method_13_code 601 = .ok (.iload 22, 2) := by decide +kernel
theorem de59_603 : decode jdk_2529_method_13_code 603 = .ok (.if_icmp .ge 90, 3) := by decide +kernel
theorem de59_606 : decode jdk_2529_method_13_code 606 = .ok (.aload_n 1, 1) := by decide +kernel
theorem de59_607 : decode jdk_2529_method_13_code 607 = .ok (.iinc 15 1, 3) := by decide +kernel
theorem de59_610 : decode jdk_2529_method_13_code 610 = .ok (.iload 15, 2) := by decide +kernel
theorem de59_612 : decode jdk_2529_method_13_code 612 = .ok (.laload, 1) := by decide +kernel
theorem de59_613 : decode jdk_2529_method_13_code 613 = .ok (.lload 17, 2) := by decide +kernel
theorem de59_615 : decode jdk_2529_method_13_code 615 = .ok (.lcmp, 1) := by decide +kernel
theorem de59_616 : decode jdk_2529_method_13_code 616 = .ok (.ifCond .lt (-17), 3) := by decide +kernel
theorem de59_619 : decode jdk_2529_method_13_code 619 = .ok (.aload_n 1, 1) := by decide +kernel
theorem de59_620 : decode jdk_2529_method_13_code 620 = .ok (.iload 15, 2) := by decide +kernel
theorem de59_622 : decode jdk_2529_method_13_code 622 = .ok (.laload, 1) := by decide +kernel
theorem de59_623 : decode jdk_2529_method_13_code 623 = .ok (.lload 19, 2) := by decide +kernel
theorem de59_625 : decode jdk_2529_method_13_code 625 = .ok (.lcmp, 1) := by decide +kernel
theorem de59_626 : decode jdk_2529_method_13_code 626 = .ok (.ifCond .le 25, 3) := by decide +kernel
theorem de59_629 : decode jdk_2529_method_13_code 629 = .ok (.aload_n 1, 1) := by decide +kernel
theorem de59_630 : decode jdk_2529_method_13_code 630 = .ok (.iload 22, 2) := by decide +kernel
theorem de59_632 : decode jdk_2529_method_13_code 632 = .ok (.aload_n 1, 1) := by decide +kernel
theorem de59_633 : decode jdk_2529_method_13_code 633 = .ok (.iinc 16 (-1), 3) := by decide +kernel
theorem de59_636 : decode jdk_2529_method_13_code 636 = .ok (.iload 16, 2) := by decide +kernel
theorem de59_638 : decode jdk_2529_method_13_code 638 = .ok (.laload, 1) := by decide +kernel
theorem de59_639 : decode jdk_2529_method_13_code 639 = .ok (.lastore, 1) := by decide +kernel
theorem de59_640 : decode jdk_2529_method_13_code 640 = .ok (.aload_n 1, 1) := by decide +kernel
theorem de59_641 : decode jdk_2529_method_13_code 641 = .ok (.iload 16, 2) := by decide +kernel
theorem de59_643 : decode jdk_2529_method_13_code 643 = .ok (.aload_n 1, 1) := by decide +kernel
theorem de59_644 : decode jdk_2529_method_13_code 644 = .ok (.iload 15, 2) := by decide +kernel
theorem de59_646 : decode jdk_2529_method_13_code 646 = .ok (.laload, 1) := by decide +kernel
theorem de59_647 : decode jdk_2529_method_13_code 647 = .ok (.lastore, 1) := by decide +kernel
theorem de59_648 : decode jdk_2529_method_13_code 648 = .ok (.goto 11, 3) := by decide +kernel
theorem de59_651 : decode jdk_2529_method_13_code 651 = .ok (.aload_n 1, 1) := by decide +kernel
theorem de59_652 : decode jdk_2529_method_13_code 652 = .ok (.iload 22, 2) := by decide +kernel
theorem de59_654 : decode jdk_2529_method_13_code 654 = .ok (.aload_n 1, 1) := by decide +kernel
theorem de59_655 : decode jdk_2529_method_13_code 655 = .ok (.iload 15, 2) := by decide +kernel
theorem de59_657 : decode jdk_2529_method_13_code 657 = .ok (.laload, 1) := by decide +kernel
theorem de59_658 : decode jdk_2529_method_13_code 658 = .ok (.lastore, 1) := by decide +kernel
theorem de59_659 : decode jdk_2529_method_13_code 659 = .ok (.aload_n 1, 1) := by decide +kernel
theorem de59_660 : decode jdk_2529_method_13_code 660 = .ok (.iload 15, 2) := by decide +kernel
theorem de59_662 : decode jdk_2529_method_13_code 662 = .ok (.lload 23, 2) := by decide +kernel
theorem de59_664 : decode jdk_2529_method_13_code 664 = .ok (.lastore, 1) := by decide +kernel
theorem de59_665 : decode jdk_2529_method_13_code 665 = .ok (.goto 28, 3) := by decide +kernel
theorem de59_668 : decode jdk_2529_method_13_code 668 = .ok (.lload 23, 2) := by decide +kernel
theorem de59_670 : decode jdk_2529_method_13_code 670 = .ok (.lload 19, 2) := by decide +kernel
theorem de59_672 : decode jdk_2529_method_13_code 672 = .ok (.lcmp, 1) := by decide +kernel
theorem de59_673 : decode jdk_2529_method_13_code 673 = .ok (.ifCond .le 20, 3) := by decide +kernel
theorem de59_676 : decode jdk_2529_method_13_code 676 = .ok (.aload_n 1, 1) := by decide +kernel
theorem de59_677 : decode jdk_2529_method_13_code 677 = .ok (.iload 22, 2) := by decide +kernel
theorem de59_679 : decode jdk_2529_method_13_code 679 = .ok (.aload_n 1, 1) := by decide +kernel
theorem de59_680 : decode jdk_2529_method_13_code 680 = .ok (.iinc 16 (-1), 3) := by decide +kernel
theorem de59_683 : decode jdk_2529_method_13_code 683 = .ok (.iload 16, 2) := by decide +kernel
theorem de59_685 : decode jdk_2529_method_13_code 685 = .ok (.laload, 1) := by decide +kernel
theorem de59_686 : decode jdk_2529_method_13_code 686 = .ok (.lastore, 1) := by decide +kernel
theorem de59_687 : decode jdk_2529_method_13_code 687 = .ok (.aload_n 1, 1) := by decide +kernel
theorem de59_688 : decode jdk_2529_method_13_code 688 = .ok (.iload 16, 2) := by decide +kernel
theorem de59_690 : decode jdk_2529_method_13_code 690 = .ok (.lload 23, 2) := by decide +kernel
theorem de59_692 : decode jdk_2529_method_13_code 692 = .ok (.lastore, 1) := by decide +kernel
theorem de59_693 : decode jdk_2529_method_13_code 693 = .ok (.goto (-118), 3) := by decide +kernel
theorem de59_696 : decode jdk_2529_method_13_code 696 = .ok (.aload_n 1, 1) := by decide +kernel
theorem de59_697 : decode jdk_2529_method_13_code 697 = .ok (.iload_n 3, 1) := by decide +kernel
theorem de59_698 : decode jdk_2529_method_13_code 698 = .ok (.aload_n 1, 1) := by decide +kernel
theorem de59_699 : decode jdk_2529_method_13_code 699 = .ok (.iload 15, 2) := by decide +kernel
theorem de59_701 : decode jdk_2529_method_13_code 701 = .ok (.laload, 1) := by decide +kernel
theorem de59_702 : decode jdk_2529_method_13_code 702 = .ok (.lastore, 1) := by decide +kernel
theorem de59_703 : decode jdk_2529_method_13_code 703 = .ok (.aload_n 1, 1) := by decide +kernel
theorem de59_704 : decode jdk_2529_method_13_code 704 = .ok (.iload 15, 2) := by decide +kernel
theorem de59_706 : decode jdk_2529_method_13_code 706 = .ok (.lload 17, 2) := by decide +kernel
theorem de59_708 : decode jdk_2529_method_13_code 708 = .ok (.lastore, 1) := by decide +kernel
theorem de59_709 : decode jdk_2529_method_13_code 709 = .ok (.aload_n 1, 1) := by decide +kernel
theorem de59_710 : decode jdk_2529_method_13_code 710 = .ok (.iload 5, 2) := by decide +kernel
theorem de59_712 : decode jdk_2529_method_13_code 712 = .ok (.aload_n 1, 1) := by decide +kernel
theorem de59_713 : decode jdk_2529_method_13_code 713 = .ok (.iload 16, 2) := by decide +kernel
theorem de59_715 : decode jdk_2529_method_13_code 715 = .ok (.laload, 1) := by decide +kernel
theorem de59_716 : decode jdk_2529_method_13_code 716 = .ok (.lastore, 1) := by decide +kernel
theorem de59_717 : decode jdk_2529_method_13_code 717 = .ok (.aload_n 1, 1) := by decide +kernel
theorem de59_718 : decode jdk_2529_method_13_code 718 = .ok (.iload 16, 2) := by decide +kernel
theorem de59_720 : decode jdk_2529_method_13_code 720 = .ok (.lload 19, 2) := by decide +kernel
theorem de59_722 : decode jdk_2529_method_13_code 722 = .ok (.lastore, 1) := by decide +kernel
theorem de59_723 : decode jdk_2529_method_13_code 723 = .ok (.iload 6, 2) := by decide +kernel
theorem de59_725 : decode jdk_2529_method_13_code 725 = .ok (.sipush 4096, 3) := by decide +kernel
theorem de59_728 : decode jdk_2529_method_13_code 728 = .ok (.if_icmp .le 36, 3) := by decide +kernel
theorem de59_731 : decode jdk_2529_method_13_code 731 = .ok (.aload_n 0, 1) := by decide +kernel
theorem de59_732 : decode jdk_2529_method_13_code 732 = .ok (.ifnull 32, 3) := by decide +kernel
theorem de59_735 : decode jdk_2529_method_13_code 735 = .ok (.aload_n 0, 1) := by decide +kernel
theorem de59_736 : decode jdk_2529_method_13_code 736 = .ok (.iload_n 2, 1) := by decide +kernel
theorem de59_737 : decode jdk_2529_method_13_code 737 = .ok (.iconst 1, 1) := by decide +kernel
theorem de59_738 : decode jdk_2529_method_13_code 738 = .ok (.ior, 1) := by decide +kernel
theorem de59_739 : decode jdk_2529_method_13_code 739 = .ok (.iload 15, 2) := by decide +kernel
theorem de59_741 : decode jdk_2529_method_13_code 741 = .ok (.iconst 1, 1) := by decide +kernel
theorem de59_742 : decode jdk_2529_method_13_code 742 = .ok (.iadd, 1) := by decide +kernel
theorem de59_743 : decode jdk_2529_method_13_code 743 = .ok (.iload 16, 2) := by decide +kernel
theorem de59_745 : decode jdk_2529_method_13_code 745 = .ok (.invokevirtual 45, 3) := by decide +kernel
theorem de59_748 : decode jdk_2529_method_13_code 748 = .ok (.aload_n 0, 1) := by decide +kernel
theorem de59_749 : decode jdk_2529_method_13_code 749 = .ok (.iload_n 2, 1) := by decide +kernel
theorem de59_750 : decode jdk_2529_method_13_code 750 = .ok (.iconst 1, 1) := by decide +kernel
theorem de59_751 : decode jdk_2529_method_13_code 751 = .ok (.ior, 1) := by decide +kernel
theorem de59_752 : decode jdk_2529_method_13_code 752 = .ok (.iload 16, 2) := by decide +kernel
theorem de59_754 : decode jdk_2529_method_13_code 754 = .ok (.iconst 1, 1) := by decide +kernel
theorem de59_755 : decode jdk_2529_method_13_code 755 = .ok (.iadd, 1) := by decide +kernel
theorem de59_756 : decode jdk_2529_method_13_code 756 = .ok (.iload 4, 2) := by decide +kernel
theorem de59_758 : decode jdk_2529_method_13_code 758 = .ok (.invokevirtual 45, 3) := by decide +kernel
theorem de59_761 : decode jdk_2529_method_13_code 761 = .ok (.goto 31, 3) := by decide +kernel
theorem de59_764 : decode jdk_2529_method_13_code 764 = .ok (.aload_n 0, 1) := by decide +kernel
theorem de59_765 : decode jdk_2529_method_13_code 765 = .ok (.aload_n 1, 1) := by decide +kernel
theorem de59_766 : decode jdk_2529_method_13_code 766 = .ok (.iload_n 2, 1) := by decide +kernel
theorem de59_767 : decode jdk_2529_method_13_code 767 = .ok (.iconst 1, 1) := by decide +kernel
theorem de59_768 : decode jdk_2529_method_13_code 768 = .ok (.ior, 1) := by decide +kernel
theorem de59_769 : decode jdk_2529_method_13_code 769 = .ok (.iload 15, 2) := by decide +kernel
theorem de59_771 : decode jdk_2529_method_13_code 771 = .ok (.iconst 1, 1) := by decide +kernel
theorem de59_772 : decode jdk_2529_method_13_code 772 = .ok (.iadd, 1) := by decide +kernel
theorem de59_773 : decode jdk_2529_method_13_code 773 = .ok (.iload 16, 2) := by decide +kernel
theorem de59_775 : decode jdk_2529_method_13_code 775 = .ok (.invokestatic 99, 3) := by decide +kernel
theorem de59_778 : decode jdk_2529_method_13_code 778 = .ok (.aload_n 0, 1) := by decide +kernel
theorem de59_779 : decode jdk_2529_method_13_code 779 = .ok (.aload_n 1, 1) := by decide +kernel
theorem de59_780 : decode jdk_2529_method_13_code 780 = .ok (.iload_n 2, 1) := by decide +kernel
theorem de59_781 : decode jdk_2529_method_13_code 781 = .ok (.iconst 1, 1) := by decide +kernel
theorem de59_782 : decode jdk_2529_method_13_code 782 = .ok (.ior, 1) := by decide +kernel
theorem de59_783 : decode jdk_2529_method_13_code 783 = .ok (.iload 16, 2) := by decide +kernel
theorem de59_785 : decode jdk_2529_method_13_code 785 = .ok (.iconst 1, 1) := by decide +kernel
theorem de59_786 : decode jdk_2529_method_13_code 786 = .ok (.iadd, 1) := by decide +kernel
theorem de59_787 : decode jdk_2529_method_13_code 787 = .ok (.iload 4, 2) := by decide +kernel
theorem de59_789 : decode jdk_2529_method_13_code 789 = .ok (.invokestatic 99, 3) := by decide +kernel
theorem de59_792 : decode jdk_2529_method_13_code 792 = .ok (.goto 171, 3) := by decide +kernel
theorem de59_795 : decode jdk_2529_method_13_code 795 = .ok (.aload_n 1, 1) := by decide +kernel
theorem de59_796 : decode jdk_2529_method_13_code 796 = .ok (.iload 10, 2) := by decide +kernel
theorem de59_798 : decode jdk_2529_method_13_code 798 = .ok (.laload, 1) := by decide +kernel
theorem de59_799 : decode jdk_2529_method_13_code 799 = .ok (.lstore 17, 2) := by decide +kernel
theorem de59_801 : decode jdk_2529_method_13_code 801 = .ok (.aload_n 1, 1) := by decide +kernel
theorem de59_802 : decode jdk_2529_method_13_code 802 = .ok (.iload 10, 2) := by decide +kernel
theorem de59_804 : decode jdk_2529_method_13_code 804 = .ok (.aload_n 1, 1) := by decide +kernel
theorem de59_805 : decode jdk_2529_method_13_code 805 = .ok (.iload 15, 2) := by decide +kernel
theorem de59_807 : decode jdk_2529_method_13_code 807 = .ok (.laload, 1) := by decide +kernel
theorem de59_808 : decode jdk_2529_method_13_code 808 = .ok (.lastore, 1) := by decide +kernel
theorem de59_809 : decode jdk_2529_method_13_code 809 = .ok (.iinc 16 1, 3) := by decide +kernel
theorem de59_812 : decode jdk_2529_method_13_code 812 = .ok (.iload 16, 2) := by decide +kernel
theorem de59_814 : decode jdk_2529_method_13_code 814 = .ok (.istore 19, 2) := by decide +kernel
theorem de59_816 : decode jdk_2529_method_13_code 816 = .ok (.iinc 19 (-1), 3) := by decide +kernel
theorem de59_819 : decode jdk_2529_method_13_code 819 = .ok (.iload 19, 2) := by decide +kernel
theorem de59_821 : decode jdk_2529_method_13_code 821 = .ok (.iload 15, 2) := by decide +kernel
theorem de59_823 : decode jdk_2529_method_13_code 823 = .ok (.if_icmp .le 89, 3) := by decide +kernel
theorem de59_826 : decode jdk_2529_method_13_code 826 = .ok (.aload_n 1, 1) := by decide +kernel
theorem de59_827 : decode jdk_2529_method_13_code 827 = .ok (.iload 19, 2) := by decide +kernel
theorem de59_829 : decode jdk_2529_method_13_code 829 = .ok (.laload, 1) := by decide +kernel
theorem de59_830 : decode jdk_2529_method_13_code 830 = .ok (.lstore 20, 2) := by decide +kernel
theorem de59_832 : decode jdk_2529_method_13_code 832 = .ok (.lload 20, 2) := by decide +kernel
theorem de59_834 : decode jdk_2529_method_13_code 834 = .ok (.lload 17, 2) := by decide +kernel
theorem de59_836 : decode jdk_2529_method_13_code 836 = .ok (.lcmp, 1) := by decide +kernel
theorem de59_837 : decode jdk_2529_method_13_code 837 = .ok (.ifCond .eq 72, 3) := by decide +kernel
theorem de59_840 : decode jdk_2529_method_13_code 840 = .ok (.aload_n 1, 1) := by decide +kernel
theorem de59_841 : decode jdk_2529_method_13_code 841 = .ok (.iload 19, 2) := by decide +kernel
theorem de59_843 : decode jdk_2529_method_13_code 843 = .ok (.lload 17, 2) := by decide +kernel
theorem de59_845 : decode jdk_2529_method_13_code 845 = .ok (.lastore, 1) := by decide +kernel
theorem de59_846 : decode jdk_2529_method_13_code 846 = .ok (.lload 20, 2) := by decide +kernel
theorem de59_848 : decode jdk_2529_method_13_code 848 = .ok (.lload 17, 2) := by decide +kernel
theorem de59_850 : decode jdk_2529_method_13_code 850 = .ok (.lcmp, 1) := by decide +kernel
theorem de59_851 : decode jdk_2529_method_13_code 851 = .ok (.ifCond .ge 49, 3) := by decide +kernel
theorem de59_854 : decode jdk_2529_method_13_code 854 = .ok (.aload_n 1, 1) := by decide +kernel
theorem de59_855 : decode jdk_2529_method_13_code 855 = .ok (.iinc 15 1, 3) := by decide +kernel
theorem de59_858 : decode jdk_2529_method_13_code 858 = .ok (.iload 15, 2) := by decide +kernel
theorem de59_860 : decode jdk_2529_method_13_code 860 = .ok (.laload, 1) := by decide +kernel
theorem de59_861 : decode jdk_2529_method_13_code 861 = .ok (.lload 17, 2) := by decide +kernel
theorem de59_863 : decode jdk_2529_method_13_code 863 = .ok (.lcmp, 1) := by decide +kernel
theorem de59_864 : decode jdk_2529_method_13_code 864 = .ok (.ifCond .ge 6, 3) := by decide +kernel
theorem de59_867 : decode jdk_2529_method_13_code 867 = .ok (.goto (-13), 3) := by decide +kernel
theorem de59_870 : decode jdk_2529_method_13_code 870 = .ok (.aload_n 1, 1) := by decide +kernel
theorem de59_871 : decode jdk_2529_method_13_code 871 = .ok (.iload 15, 2) := by decide +kernel
theorem de59_873 : decode jdk_2529_method_13_code 873 = .ok (.laload, 1) := by decide +kernel
theorem de59_874 : decode jdk_2529_method_13_code 874 = .ok (.lload 17, 2) := by decide +kernel
theorem de59_876 : decode jdk_2529_method_13_code 876 = .ok (.lcmp, 1) := by decide +kernel
theorem de59_877 : decode jdk_2529_method_13_code 877 = .ok (.ifCond .le 14, 3) := by decide +kernel
theorem de59_880 : decode jdk_2529_method_13_code 880 = .ok (.aload_n 1, 1) := by decide +kernel
theorem de59_881 : decode jdk_2529_method_13_code 881 = .ok (.iinc 16 (-1), 3) := by decide +kernel
theorem de59_884 : decode jdk_2529_method_13_code 884 = .ok (.iload 16, 2) := by decide +kernel
theorem de59_886 : decode jdk_2529_method_13_code 886 = .ok (.aload_n 1, 1) := by decide +kernel
theorem de59_887 : decode jdk_2529_method_13_code 887 = .ok (.iload 15, 2) := by decide +kernel
theorem de59_889 : decode jdk_2529_method_13_code 889 = .ok (.laload, 1) := by decide +kernel
theorem de59_890 : decode jdk_2529_method_13_code 890 = .ok (.lastore, 1) := by decide +kernel
theorem de59_891 : decode jdk_2529_method_13_code 891 = .ok (.aload_n 1, 1) := by decide +kernel
theorem de59_892 : decode jdk_2529_method_13_code 892 = .ok (.iload 15, 2) := by decide +kernel
theorem de59_894 : decode jdk_2529_method_13_code 894 = .ok (.lload 20, 2) := by decide +kernel
theorem de59_896 : decode jdk_2529_method_13_code 896 = .ok (.lastore, 1) := by decide +kernel
theorem de59_897 : decode jdk_2529_method_13_code 897 = .ok (.goto 12, 3) := by decide +kernel
theorem de59_900 : decode jdk_2529_method_13_code 900 = .ok (.aload_n 1, 1) := by decide +kernel
theorem de59_901 : decode jdk_2529_method_13_code 901 = .ok (.iinc 16 (-1), 3) := by decide +kernel
theorem de59_904 : decode jdk_2529_method_13_code 904 = .ok (.iload 16, 2) := by decide +kernel
theorem de59_906 : decode jdk_2529_method_13_code 906 = .ok (.lload 20, 2) := by decide +kernel
theorem de59_908 : decode jdk_2529_method_13_code 908 = .ok (.lastore, 1) := by decide +kernel
theorem de59_909 : decode jdk_2529_method_13_code 909 = .ok (.goto (-93), 3) := by decide +kernel
theorem de59_912 : decode jdk_2529_method_13_code 912 = .ok (.aload_n 1, 1) := by decide +kernel
theorem de59_913 : decode jdk_2529_method_13_code 913 = .ok (.iload_n 3, 1) := by decide +kernel
theorem de59_914 : decode jdk_2529_method_13_code 914 = .ok (.aload_n 1, 1) := by decide +kernel
theorem de59_915 : decode jdk_2529_method_13_code 915 = .ok (.iload 15, 2) := by decide +kernel
theorem de59_917 : decode jdk_2529_method_13_code 917 = .ok (.laload, 1) := by decide +kernel
theorem de59_918 : decode jdk_2529_method_13_code 918 = .ok (.lastore, 1) := by decide +kernel
theorem de59_919 : decode jdk_2529_method_13_code 919 = .ok (.aload_n 1, 1) := by decide +kernel
theorem de59_920 : decode jdk_2529_method_13_code 920 = .ok (.iload 15, 2) := by decide +kernel
theorem de59_922 : decode jdk_2529_method_13_code 922 = .ok (.lload 17, 2) := by decide +kernel
theorem de59_924 : decode jdk_2529_method_13_code 924 = .ok (.lastore, 1) := by decide +kernel
theorem de59_925 : decode jdk_2529_method_13_code 925 = .ok (.iload 6, 2) := by decide +kernel
theorem de59_927 : decode jdk_2529_method_13_code 927 = .ok (.sipush 4096, 3) := by decide +kernel
theorem de59_930 : decode jdk_2529_method_13_code 930 = .ok (.if_icmp .le 21, 3) := by decide +kernel
theorem de59_933 : decode jdk_2529_method_13_code 933 = .ok (.aload_n 0, 1) := by decide +kernel
theorem de59_934 : decode jdk_2529_method_13_code 934 = .ok (.ifnull 17, 3) := by decide +kernel
theorem de59_937 : decode jdk_2529_method_13_code 937 = .ok (.aload_n 0, 1) := by decide +kernel
theorem de59_938 : decode jdk_2529_method_13_code 938 = .ok (.iload_n 2, 1) := by decide +kernel
theorem de59_939 : decode jdk_2529_method_13_code 939 = .ok (.iconst 1, 1) := by decide +kernel
theorem de59_940 : decode jdk_2529_method_13_code 940 = .ok (.ior, 1) := by decide +kernel
theorem de59_941 : decode jdk_2529_method_13_code 941 = .ok (.iload 16, 2) := by decide +kernel
theorem de59_943 : decode jdk_2529_method_13_code 943 = .ok (.iload 4, 2) := by decide +kernel
theorem de59_945 : decode jdk_2529_method_13_code 945 = .ok (.invokevirtual 45, 3) := by decide +kernel
theorem de59_948 : decode jdk_2529_method_13_code 948 = .ok (.goto 15, 3) := by decide +kernel
theorem de59_951 : decode jdk_2529_method_13_code 951 = .ok (.aload_n 0, 1) := by decide +kernel
theorem de59_952 : decode jdk_2529_method_13_code 952 = .ok (.aload_n 1, 1) := by decide +kernel
theorem de59_953 : decode jdk_2529_method_13_code 953 = .ok (.iload_n 2, 1) := by decide +kernel
theorem de59_954 : decode jdk_2529_method_13_code 954 = .ok (.iconst 1, 1) := by decide +kernel
theorem de59_955 : decode jdk_2529_method_13_code 955 = .ok (.ior, 1) := by decide +kernel
theorem de59_956 : decode jdk_2529_method_13_code 956 = .ok (.iload 16, 2) := by decide +kernel
theorem de59_958 : decode jdk_2529_method_13_code 958 = .ok (.iload 4, 2) := by decide +kernel
theorem de59_960 : decode jdk_2529_method_13_code 960 = .ok (.invokestatic 99, 3) := by decide +kernel
theorem de59_963 : decode jdk_2529_method_13_code 963 = .ok (.iload 15, 2) := by decide +kernel
theorem de59_965 : decode jdk_2529_method_13_code 965 = .ok (.istore 4, 2) := by decide +kernel
theorem de59_967 : decode jdk_2529_method_13_code 967 = .ok (.goto (-967), 3) := by decide +kernel
theorem ef_ct_e60 (x1 : Addr) (x2 : Int32) (x3 : Int32) (x4 : Int32) (m : MethodId) : entryFrame m #[.null, (.ref x1), (.int x2), (.int x3), (.int x4)] 25 = mkF m 0 #[.val .null, .val (.ref x1), .val (.int x2), .val (.int x3), .val (.int x4), .unset, .unset, .unset, .unset, .unset, .unset, .unset, .unset, .unset, .unset, .unset, .unset, .unset, .unset, .unset, .unset, .unset, .unset, .unset, .unset] [] := by first | (simp [entryFrame, mkF, argsToLocals, o_catR, o_catN, o_catI, o_catJ, o_catD]; done) | rfl
theorem pn_e6 : plainName "java/util/DualPivotQuicksort" = true := by first | (simp [plainName, overriddenIn]; done) | decide +kernel
set_option maxRecDepth 65536 in
set_option maxHeartbeats 40000000 in
theorem ct_e60 (l : Launch) (Z : State) (a0 : Array Value) (hw : ∀ d ∈ tables_1, d.before a0 Z = true) (EL : List (String × Nat)) (n0 : Nat) (p0 : Addr) (x0 : Int64) (x1 : Int64) (had : Sta Z Z.heap "java/util/BitSet" "$assertionsDisabled" "Z" (.int 1)) (od : Addr) (hod : Sta Z Z.heap "com/example/centile/centile/function/Order" "ASCENDING" "Lcom/example/centile/centile/function/Order;" (.ref od)) (h0 : Heap) (A_p0 : OArr Z h0 p0 .long [(.long x0), (.long x1), (.long x0), (.long x1), (.long x0), (.long x1), (.long x0), (.long x1), (.long x0), (.long x1), (.long x0), (.long x1), (.long x0), (.long x1), (.long x0), (.long x1)])  :
    OCt l Z a0 EL n0 (⟨"java/util/DualPivotQuicksort", "sort", "(Ljava/util/DualPivotQuicksort$Sorter;[JIII)V"⟩ : MethodName) jdk_2529_method_13_code 25 none ({ frames := 1, cells := 0, slots := 0, locals := 18 } : Room) [] #[.null, (.ref p0), (.int (0 : Int32)), (.int (0 : Int32)), (.int (16 : Int32))] h0 [p0] (fun w vm h => w = none ∧ OArr Z h p0 .long [(.long (og [x0, x1, x0, x1, x0, x1, x0, x1, x0, x1, x0, x1, x0, x1, x0, x1] 0)), (.long (og [x0, x1, x0, x1, x0, x1, x0, x1, x0, x1, x0, x1, x0, x1, x0, x1] 1)), (.long (og [x0, x1, x0, x1, x0, x1, x0, x1, x0, x1, x0, x1, x0, x1, x0, x1] 2)), (.long (og [x0, x1, x0, x1, x0, x1, x0, x1, x0, x1, x0, x1, x0, x1, x0, x1] 3)), (.long (og [x0, x1, x0, x1, x0, x1, x0, x1, x0, x1, x0, x1, x0, x1, x0, x1] 4)), (.long (og [x0, x1, x0, x1, x0, x1, x0, x1, x0, x1, x0, x1, x0, x1, x0, x1] 5)), (.long (og [x0, x1, x0, x1, x0, x1, x0, x1, x0, x1, x0, x1, x0, x1, x0, x1] 6)), (.long (og [x0, x1, x0, x1, x0, x1, x0, x1, x0, x1, x0, x1, x0, x1, x0, x1] 7)), (.long (og [x0, x1, x0, x1, x0, x1, x0, x1, x0, x1, x0, x1, x0, x1, x0, x1] 8)), (.long (og [x0, x1, x0, x1, x0, x1, x0, x1, x0, x1, x0, x1, x0, x1, x0, x1] 9)), (.long (og [x0, x1, x0, x1, x0, x1, x0, x1, x0, x1, x0, x1, x0, x1, x0, x1] 10)), (.long (og [x0, x1, x0, x1, x0, x1, x0, x1, x0, x1, x0, x1, x0, x1, x0, x1] 11)), (.long (og [x0, x1, x0, x1, x0, x1, x0, x1, x0, x1, x0, x1, x0, x1, x0, x1] 12)), (.long (og [x0, x1, x0, x1, x0, x1, x0, x1, x0, x1, x0, x1, x0, x1, x0, x1] 13)), (.long (og [x0, x1, x0, x1, x0, x1, x0, x1, x0, x1, x0, x1, x0, x1, x0, x1] 14)), (.long (og [x0, x1, x0, x1, x0, x1, x0, x1, x0, x1, x0, x1, x0, x1, x0, x1] 15))] ∧ True) := by
  refine OCt.body (plainFor_of_name pn_e6) (ef_ct_e60 p0 ((0 : Int32)) ((0 : Int32)) ((16 : Int32))) ?_
  intro p e s m below meth c T hby hml hret hnm hsh P
  refine o_iload P (hb hby de59_0) rfl (pc' := 2) rfl ?_
  refine o_iconst P (1 : Int32) (hb hby de59_2) rfl (pc' := 3) rfl ?_
  refine o_isub P (hb hby de59_3) (pc' := 4) rfl ?_
  show OG p e below m _ T 4 #[.val .null, .val (.ref p0), .val (.int (0 : Int32)), .val (.int (0 : Int32)), .val (.int (16 : Int32)), .unset, .unset, .unset, .unset, .unset, .unset, .unset, .unset, .unset, .unset, .unset, .unset, .unset, .unset, .unset, .unset, .unset, .unset, .unset, .unset] [(.int (15 : Int32))]
  refine o_istore P (hb hby de59_4) (L' := #[.val .null, .val (.ref p0), .val (.int (0 : Int32)), .val (.int (0 : Int32)), .val (.int (16 : Int32)), .val (.int (15 : Int32)), .unset, .unset, .unset, .unset, .unset, .unset, .unset, .unset, .unset, .unset, .unset, .unset, .unset, .unset, .unset, .unset, .unset, .unset, .unset]) rfl (pc' := 6) rfl ?_
  refine o_iload P (hb hby de59_6) rfl (pc' := 8) rfl ?_
  refine o_iloadN P (hb hby de59_8) rfl (pc' := 9) rfl ?_
  refine o_isub P (hb hby de59_9) (pc' := 10) rfl ?_
  show OG p e below m _ T 10 #[.val .null, .val (.ref p0), .val (.int (0 : Int32)), .val (.int (0 : Int32)), .val (.int (16 : Int32)), .val (.int (15 : Int32)), .unset, .unset, .unset, .unset, .unset, .unset, .unset, .unset, .unset, .unset, .unset, .unset, .unset, .unset, .unset, .unset, .unset, .unset, .unset] [(.int (16 : Int32))]
  refine o_istore P (hb hby de59_10) (L' := #[.val .null, .val (.ref p0), .val (.int (0 : Int32)), .val (.int (0 : Int32)), .val (.int (16 : Int32)), .val (.int (15 : Int32)), .val (.int (16 : Int32)), .unset, .unset, .unset, .unset, .unset, .unset, .unset, .unset, .unset, .unset, .unset, .unset, .unset, .unset, .unset, .unset, .unset, .unset]) rfl (pc' := 12) rfl ?_
  refine o_iload P (hb hby de59_12) rfl (pc' := 14) rfl ?_
  refine o_bipush P (65 : Int32) (hb hby de59_14) rfl (pc' := 16) rfl ?_
  refine o_iloadN P (hb hby de59_16) rfl (pc' := 17) rfl ?_
  refine o_iadd P (hb hby de59_17) (pc' := 18) rfl ?_
  show OG p e below m _ T 18 #[.val .null, .val (.ref p0), .val (.int (0 : Int32)), .val (.int (0 : Int32)), .val (.int (16 : Int32)), .val (.int (15 : Int32)), .val (.int (16 : Int32)), .unset, .unset, .unset, .unset, .unset, .unset, .unset, .unset, .unset, .unset, .unset, .unset, .unset, .unset, .unset, .unset, .unset, .unset] [(.int (65 : Int32)), (.int (16 : Int32))]
  refine o_icmp_ge P (hb hby de59_18) (by decide) (pc' := 46) (by decide) (pcf := 21) rfl (fun q => absurd (by decide) q) (fun _ => ?_)
  refine o_iloadN P (hb hby de59_21) rfl (pc' := 22) rfl ?_
  refine o_iconst P (1 : Int32) (hb hby de59_22) rfl (pc' := 23) rfl ?_
  refine o_iand P (hb hby de59_23) (pc' := 24) rfl ?_
  show OG p e below m _ T 24 #[.val .null, .val (.ref p0), .val (.int (0 : Int32)), .val (.int (0 : Int32)), .val (.int (16 : Int32)), .val (.int (15 : Int32)), .val (.int (16 : Int32)), .unset, .unset, .unset, .unset, .unset, .unset, .unset, .unset, .unset, .unset, .unset, .unset, .unset, .unset, .unset, .unset, .unset, .unset] [(.int (0 : Int32))]
  refine o_if_le P (hb hby de59_24) (by decide) (pc' := 46) (by decide) (pcf := 27) rfl (fun _ => ?_) (fun q => absurd q (by decide))
  refine o_iload P (hb hby de59_46) rfl (pc' := 48) rfl ?_
  refine o_bipush P (44 : Int32) (hb hby de59_48) rfl (pc' := 50) rfl ?_
  refine o_icmp_ge P (hb hby de59_50) (by decide) (pc' := 61) (by decide) (pcf := 53) rfl (fun q => absurd (by decide) q) (fun _ => ?_)
  refine o_aloadN P (hb hby de59_53) rfl rfl (pc' := 54) rfl ?_
  refine o_iloadN P (hb hby de59_54) rfl (pc' := 55) rfl ?_
  refine o_iload P (hb hby de59_55) rfl (pc' := 57) rfl ?_
  refine o_callS P (W := 0) (ow hw 151 rfl) (ow hw 152 rfl) (ow hw 146 rfl) (ow hw 153 rfl) (by decide) (ct_isort l Z a0 hw EL n0 p0 [x0, x1, x0, x1, x0, x1, x0, x1, x0, x1, x0, x1, x0, x1, x0, x1] [] (16 : Int32) (by simp) (of_decide_eq_true rfl) rfl h0 A_p0) (o_sfS (List.Mem.head _) o_sf0) (by rw [hml]; rfl) (by decide) (by decide) (argsL := [(.ref p0), (.int (0 : Int32)), (.int (16 : Int32))]) (rest := []) (lenOf pd_9 rfl) rfl rfl (Nat.le_of_eq rfl) (hb hby de59_57) (pc' := 60) rfl (by decide) (by decide) ?_
  clear P; intro T h1 v1 P K1 q1
  obtain ⟨rfl, A'⟩ := q1
  clear A_p0; have A_p0 : OArr Z h1 p0 .long [(.long (og [x0, x1, x0, x1, x0, x1, x0, x1, x0, x1, x0, x1, x0, x1, x0, x1] 0)), (.long (og [x0, x1, x0, x1, x0, x1, x0, x1, x0, x1, x0, x1, x0, x1, x0, x1] 1)), (.long (og [x0, x1, x0, x1, x0, x1, x0, x1, x0, x1, x0, x1, x0, x1, x0, x1] 2)), (.long (og [x0, x1, x0, x1, x0, x1, x0, x1, x0, x1, x0, x1, x0, x1, x0, x1] 3)), (.long (og [x0, x1, x0, x1, x0, x1, x0, x1, x0, x1, x0, x1, x0, x1, x0, x1] 4)), (.long (og [x0, x1, x0, x1, x0, x1, x0, x1, x0, x1, x0, x1, x0, x1, x0, x1] 5)), (.long (og [x0, x1, x0, x1, x0, x1, x0, x1, x0, x1, x0, x1, x0, x1, x0, x1] 6)), (.long (og [x0, x1, x0, x1, x0, x1, x0, x1, x0, x1, x0, x1, x0, x1, x0, x1] 7)), (.long (og [x0, x1, x0, x1, x0, x1, x0, x1, x0, x1, x0, x1, x0, x1, x0, x1] 8)), (.long (og [x0, x1, x0, x1, x0, x1, x0, x1, x0, x1, x0, x1, x0, x1, x0, x1] 9)), (.long (og [x0, x1, x0, x1, x0, x1, x0, x1, x0, x1, x0, x1, x0, x1, x0, x1] 10)), (.long (og [x0, x1, x0, x1, x0, x1, x0, x1, x0, x1, x0, x1, x0, x1, x0, x1] 11)), (.long (og [x0, x1, x0, x1, x0, x1, x0, x1, x0, x1, x0, x1, x0, x1, x0, x1] 12)), (.long (og [x0, x1, x0, x1, x0, x1, x0, x1, x0, x1, x0, x1, x0, x1, x0, x1] 13)), (.long (og [x0, x1, x0, x1, x0, x1, x0, x1, x0, x1, x0, x1, x0, x1, x0, x1] 14)), (.long (og [x0, x1, x0, x1, x0, x1, x0, x1, x0, x1, x0, x1, x0, x1, x0, x1] 15))] := A'.eq (by rw [own_lst16 (l := osort [x0, x1, x0, x1, x0, x1, x0, x1, x0, x1, x0, x1, x0, x1, x0, x1]) (osort_len [x0, x1, x0, x1, x0, x1, x0, x1, x0, x1, x0, x1, x0, x1, x0, x1])]; rfl); clear A' K1
  show OG p e below m _ T 60 #[.val .null, .val (.ref p0), .val (.int (0 : Int32)), .val (.int (0 : Int32)), .val (.int (16 : Int32)), .val (.int (15 : Int32)), .val (.int (16 : Int32)), .unset, .unset, .unset, .unset, .unset, .unset, .unset, .unset, .unset, .unset, .unset, .unset, .unset, .unset, .unset, .unset, .unset, .unset] []
  exact o_ret0 P hret (hb hby de59_60) (by decide) (by decide) ⟨rfl, A_p0, trivial⟩
theorem ef_ct_e61 (x0 : Addr) (x1 : Int32) (x2 : Int32) (x3 : Int32) (m : MethodId) : entryFrame m #[(.ref x0), (.int x1), (.int x2), (.int x3)] 7 = mkF m 0 #[.val (.ref x0), .val (.int x1), .val (.int x2), .val (.int x3), .unset, .unset, .unset] [] := by first | (simp [entryFrame, mkF, argsToLocals, o_catR, o_catN, o_catI, o_catJ, o_catD]; done) | rfl
set_option maxRecDepth 65536 in
set_option maxHeartbeats 40000000 in
theorem ct_e61 (l : Launch) (Z : State) (a0 : Array Value) (hw : ∀ d ∈ tables_1, d.before a0 Z = true) (EL : List (String × Nat)) (n0 : Nat) (p0 : Addr) (x0 : Int64) (x1 : Int64) (had : Sta Z Z.heap "java/util/BitSet" "$assertionsDisabled" "Z" (.int 1)) (od : Addr) (hod : Sta Z Z.heap "com/example/centile/centile/function/Order" "ASCENDING" "Lcom/example/centile/centile/function/Order;" (.ref od)) (h0 : Heap) (A_p0 : OArr Z h0 p0 .long [(.long x0), (.long x1), (.long x0), (.long x1), (.long x0), (.long x1), (.long x0), (.long x1), (.long x0), (.long x1), (.long x0), (.long x1), (.long x0), (.long x1), (.long x0), (.long x1)])  :
    OCt l Z a0 EL n0 (⟨"java/util/DualPivotQuicksort", "sort", "([JIII)V"⟩ : MethodName) jdk_2529_method_12_code 7 none ({ frames := 2, cells := 0, slots := 0, locals := 54 } : Room) [] #[(.ref p0), (.int (0 : Int32)), (.int (0 : Int32)), (.int (16 : Int32))] h0 [p0] (fun w vm h => w = none ∧ OArr Z h p0 .long [(.long (og [x0, x1, x0, x1, x0, x1, x0, x1, x0, x1, x0, x1, x0, x1, x0, x1] 0)), (.long (og [x0, x1, x0, x1, x0, x1, x0, x1, x0, x1, x0, x1, x0, x1, x0, x1] 1)), (.long (og [x0, x1, x0, x1, x0, x1, x0, x1, x0, x1, x0, x1, x0, x1, x0, x1] 2)), (.long (og [x0, x1, x0, x1, x0, x1, x0, x1, x0, x1, x0, x1, x0, x1, x0, x1] 3)), (.long (og [x0, x1, x0, x1, x0, x1, x0, x1, x0, x1, x0, x1, x0, x1, x0, x1] 4)), (.long (og [x0, x1, x0, x1, x0, x1, x0, x1, x0, x1, x0, x1, x0, x1, x0, x1] 5)), (.long (og [x0, x1, x0, x1, x0, x1, x0, x1, x0, x1, x0, x1, x0, x1, x0, x1] 6)), (.long (og [x0, x1, x0, x1, x0, x1, x0, x1, x0, x1, x0, x1, x0, x1, x0, x1] 7)), (.long (og [x0, x1, x0, x1, x0, x1, x0, x1, x0, x1, x0, x1, x0, x1, x0, x1] 8)), (.long (og [x0, x1, x0, x1, x0, x1, x0, x1, x0, x1, x0, x1, x0, x1, x0, x1] 9)), (.long (og [x0, x1, x0, x1, x0, x1, x0, x1, x0, x1, x0, x1, x0, x1, x0, x1] 10)), (.long (og [x0, x1, x0, x1, x0, x1, x0, x1, x0, x1, x0, x1, x0, x1, x0, x1] 11)), (.long (og [x0, x1, x0, x1, x0, x1, x0, x1, x0, x1, x0, x1, x0, x1, x0, x1] 12)), (.long (og [x0, x1, x0, x1, x0, x1, x0, x1, x0, x1, x0, x1, x0, x1, x0, x1] 13)), (.long (og [x0, x1, x0, x1, x0, x1, x0, x1, x0, x1, x0, x1, x0, x1, x0, x1] 14)), (.long (og [x0, x1, x0, x1, x0, x1, x0, x1, x0, x1, x0, x1, x0, x1, x0, x1] 15))] ∧ True) := by
  refine OCt.body (plainFor_of_name pn_e6) (ef_ct_e61 p0 ((0 : Int32)) ((0 : Int32)) ((16 : Int32))) ?_
  intro p e s m below meth c T hby hml hret hnm hsh P
  refine o_iloadN P (hb hby de58_0) rfl (pc' := 1) rfl ?_
  refine o_iloadN P (hb hby de58_1) rfl (pc' := 2) rfl ?_
  refine o_isub P (hb hby de58_2) (pc' := 3) rfl ?_
  show OG p e below m _ T 3 #[.val (.ref p0), .val (.int (0 : Int32)), .val (.int (0 : Int32)), .val (.int (16 : Int32)), .unset, .unset, .unset] [(.int (16 : Int32))]
  refine o_istore P (hb hby de58_3) (L' := #[.val (.ref p0), .val (.int (0 : Int32)), .val (.int (0 : Int32)), .val (.int (16 : Int32)), .val (.int (16 : Int32)), .unset, .unset]) rfl (pc' := 5) rfl ?_
  refine o_iloadN P (hb hby de58_5) rfl (pc' := 6) rfl ?_
  refine o_iconst P (1 : Int32) (hb hby de58_6) rfl (pc' := 7) rfl ?_
  refine o_icmp_le P (hb hby de58_7) (by decide) (pc' := 68) (by decide) (pcf := 10) rfl (fun _ => ?_) (fun q => absurd q (by decide))
  refine o_aconstNull P (hb hby de58_68) (pc' := 69) rfl ?_
  refine o_aloadN P (hb hby de58_69) rfl rfl (pc' := 70) rfl ?_
  refine o_iconst P (0 : Int32) (hb hby de58_70) rfl (pc' := 71) rfl ?_
  refine o_iloadN P (hb hby de58_71) rfl (pc' := 72) rfl ?_
  refine o_iloadN P (hb hby de58_72) rfl (pc' := 73) rfl ?_
  have hn_1 := P.n0le; have hk_1 := P.keep0.1
  refine o_callS P (W := 0) (ow hw 148 rfl) (ow hw 149 rfl) (ow hw 146 rfl) (ow hw 150 rfl) (by decide) (ct_e60 l Z a0 hw EL n0 p0 x0 x1 had od hod h0 A_p0 ) (o_sfS (List.Mem.head _) o_sf0) (by rw [hml]; rfl) (by decide) (by decide) (argsL := [.null, (.ref p0), (.int (0 : Int32)), (.int (0 : Int32)), (.int (16 : Int32))]) (rest := []) (lenOf pd_10 rfl) rfl rfl (Nat.le_of_eq rfl) (hb hby de58_73) (pc' := 76) rfl (by decide) (by decide) ?_
  clear P; intro T h2 v2 P K2 q2
  obtain ⟨rfl, Q_p0, -⟩ := q2
  clear A_p0
  have A_p0 := Q_p0; clear Q_p0
  clear K2 hn_1 hk_1
  show OG p e below m _ T 76 #[.val (.ref p0), .val (.int (0 : Int32)), .val (.int (0 : Int32)), .val (.int (16 : Int32)), .val (.int (16 : Int32)), .unset, .unset] []
  exact o_ret0 P hret (hb hby de58_76) (by decide) (by decide) ⟨rfl, A_p0, trivial⟩
theorem ef_ct_e62 (x0 : Addr) (x1 : Int32) (x2 : Int32) (m : MethodId) : entryFrame m #[(.ref x0), (.int x1), (.int x2)] 3 = mkF m 0 #[.val (.ref x0), .val (.int x1), .val (.int x2)] [] := by first | (simp [entryFrame, mkF, argsToLocals, o_catR, o_catN, o_catI, o_catJ, o_catD]; done) | rfl
set_option maxRecDepth 65536 in
set_option maxHeartbeats 40000000 in
theorem ct_e62 (l : Launch) (Z : State) (a0 : Array Value) (hw : ∀ d ∈ tables_1, d.before a0 Z = true) (EL : List (String × Nat)) (n0 : Nat) (p0 : Addr) (x0 : Int64) (x1 : Int64) (had : Sta Z Z.heap "java/util/BitSet" "$assertionsDisabled" "Z" (.int 1)) (od : Addr) (hod : Sta Z Z.heap "com/example/centile/centile/function/Order" "ASCENDING" "Lcom/example/centile/centile/function/Order;" (.ref od)) (h0 : Heap) (A_p0 : OArr Z h0 p0 .long [(.long x0), (.long x1), (.long x0), (.long x1), (.long x0), (.long x1), (.long x0), (.long x1), (.long x0), (.long x1), (.long x0), (.long x1), (.long x0), (.long x1), (.long x0), (.long x1)])  :
    OCt l Z a0 EL n0 (⟨"java/util/Arrays", "sort", "([JII)V"⟩ : MethodName) jdk_65_method_5_code 3 none ({ frames := 3, cells := 0, slots := 0, locals := 72 } : Room) [] #[(.ref p0), (.int (0 : Int32)), (.int (16 : Int32))] h0 [p0] (fun w vm h => w = none ∧ OArr Z h p0 .long [(.long (og [x0, x1, x0, x1, x0, x1, x0, x1, x0, x1, x0, x1, x0, x1, x0, x1] 0)), (.long (og [x0, x1, x0, x1, x0, x1, x0, x1, x0, x1, x0, x1, x0, x1, x0, x1] 1)), (.long (og [x0, x1, x0, x1, x0, x1, x0, x1, x0, x1, x0, x1, x0, x1, x0, x1] 2)), (.long (og [x0, x1, x0, x1, x0, x1, x0, x1, x0, x1, x0, x1, x0, x1, x0, x1] 3)), (.long (og [x0, x1, x0, x1, x0, x1, x0, x1, x0, x1, x0, x1, x0, x1, x0, x1] 4)), (.long (og [x0, x1, x0, x1, x0, x1, x0, x1, x0, x1, x0, x1, x0, x1, x0, x1] 5)), (.long (og [x0, x1, x0, x1, x0, x1, x0, x1, x0, x1, x0, x1, x0, x1, x0, x1] 6)), (.long (og [x0, x1, x0, x1, x0, x1, x0, x1, x0, x1, x0, x1, x0, x1, x0, x1] 7)), (.long (og [x0, x1, x0, x1, x0, x1, x0, x1, x0, x1, x0, x1, x0, x1, x0, x1] 8)), (.long (og [x0, x1, x0, x1, x0, x1, x0, x1, x0, x1, x0, x1, x0, x1, x0, x1] 9)), (.long (og [x0, x1, x0, x1, x0, x1, x0, x1, x0, x1, x0, x1, x0, x1, x0, x1] 10)), (.long (og [x0, x1, x0, x1, x0, x1, x0, x1, x0, x1, x0, x1, x0, x1, x0, x1] 11)), (.long (og [x0, x1, x0, x1, x0, x1, x0, x1, x0, x1, x0, x1, x0, x1, x0, x1] 12)), (.long (og [x0, x1, x0, x1, x0, x1, x0, x1, x0, x1, x0, x1, x0, x1, x0, x1] 13)), (.long (og [x0, x1, x0, x1, x0, x1, x0, x1, x0, x1, x0, x1, x0, x1, x0, x1] 14)), (.long (og [x0, x1, x0, x1, x0, x1, x0, x1, x0, x1, x0, x1, x0, x1, x0, x1] 15))] ∧ True) := by
  refine OCt.body (plainFor_of_name pn_e5) (ef_ct_e62 p0 ((0 : Int32)) ((16 : Int32))) ?_
  intro p e s m below meth c T hby hml hret hnm hsh P
  refine o_aloadN P (hb hby de55_0) rfl rfl (pc' := 1) rfl ?_
  refine o_arrlen P A_p0 (hb hby de55_1) (n := (16 : Int32)) rfl (pc' := 2) rfl ?_
  refine o_iloadN P (hb hby de55_2) rfl (pc' := 3) rfl ?_
  refine o_iloadN P (hb hby de55_3) rfl (pc' := 4) rfl ?_
  refine o_callS P (W := 0) (ow hw 141 rfl) (ow hw 142 rfl) (ow hw 139 rfl) (ow hw 143 rfl) (by decide) (ct_e57 l Z a0 hw EL n0   had od hod h0  ) o_sf0 (by rw [hml]; rfl) (by decide) (by decide) (argsL := [(.int (16 : Int32)), (.int (0 : Int32)), (.int (16 : Int32))]) (rest := []) (lenOf pd_8 rfl) rfl rfl (Nat.le_of_eq rfl) (hb hby de55_4) (pc' := 7) rfl (by decide) (by decide) ?_
  clear P; intro T h2 v2 P K2 q2
  obtain ⟨rfl, rfl⟩ := q2; clear K2
  show OG p e below m _ T 7 #[.val (.ref p0), .val (.int (0 : Int32)), .val (.int (16 : Int32))] []
  refine o_aloadN P (hb hby de55_7) rfl rfl (pc' := 8) rfl ?_
  refine o_iconst P (0 : Int32) (hb hby de55_8) rfl (pc' := 9) rfl ?_
  refine o_iloadN P (hb hby de55_9) rfl (pc' := 10) rfl ?_
  refine o_iloadN P (hb hby de55_10) rfl (pc' := 11) rfl ?_
  have hn_3 := P.n0le; have hk_3 := P.keep0.1
  refine o_callS P (W := 0) (ow hw 144 rfl) (ow hw 145 rfl) (ow hw 146 rfl) (ow hw 147 rfl) (by decide) (ct_e61 l Z a0 hw EL n0 p0 x0 x1 had od hod h2 A_p0 ) (o_sfS (List.Mem.head _) o_sf0) (by rw [hml]; rfl) (by decide) (by decide) (argsL := [(.ref p0), (.int (0 : Int32)), (.int (0 : Int32)), (.int (16 : Int32))]) (rest := []) (lenOf pd_11 rfl) rfl rfl (Nat.le_of_eq rfl) (hb hby de55_11) (pc' := 14) rfl (by decide) (by decide) ?_
  clear P; intro T h4 v4 P K4 q4
  obtain ⟨rfl, Q_p0, -⟩ := q4
  clear A_p0
  have A_p0 := Q_p0; clear Q_p0
  clear K4 hn_3 hk_3
  show OG p e below m _ T 14 #[.val (.ref p0), .val (.int (0 : Int32)), .val (.int (16 : Int32))] []
  exact o_ret0 P hret (hb hby de55_14) (by decide) (by decide) ⟨rfl, A_p0, trivial⟩
theorem de63_0 : decode jdk_92_method_21_code 0 = .ok (.iload_n 1, 1) := by decide +kernel
theorem de63_1 : decode jdk_92_method_21_code 1 = .ok (.iload_n 2, 1) := by decide +kernel
theorem de63_2 : decode jdk_92_method_21_code 2 = .ok (.invokestatic 161, 3) := by decide +kernel
theorem de63_5 : decode jdk_92_method_21_code 5 = .ok (.iload_n 1, 1) := by decide +kernel
theorem de63_6 : decode jdk_92_method_21_code 6 = .ok (.iload_n 2, 1) := by decide +kernel
theorem de63_7 : decode jdk_92_method_21_code 7 = .ok (.if_icmp .ne 4, 3) := by decide +kernel
theorem de63_10 : decode jdk_92_method_21_code 10 = .ok (.return_, 1) := by decide +kernel
theorem de63_11 : decode jdk_92_method_21_code 11 = .ok (.iload_n 1, 1) := by decide +kernel
theorem de63_12 : decode jdk_92_method_21_code 12 = .ok (.invokestatic 52, 3) := by decide +kernel
theorem de63_15 : decode jdk_92_method_21_code 15 = .ok (.istore_n 3, 1) := by decide +kernel
theorem de63_16 : decode jdk_92_method_21_code 16 = .ok (.iload_n 2, 1) := by decide +kernel
theorem de63_17 : decode jdk_92_method_21_code 17 = .ok (.iconst 1, 1) := by decide +kernel
theorem de63_18 : decode jdk_92_method_21_code 18 = .ok (.isub, 1) := by decide +kernel
theorem de63_19 : decode jdk_92_method_21_code 19 = .ok (.invokestatic 52, 3) := by decide +kernel
theorem de63_22 : decode jdk_92_method_21_code 22 = .ok (.istore 4, 2) := by decide +kernel
theorem de63_24 : decode jdk_92_method_21_code 24 = .ok (.aload_n 0, 1) := by decide +kernel
theorem de63_25 : decode jdk_92_method_21_code 25 = .ok (.iload 4, 2) := by decide +kernel
theorem de63_27 : decode jdk_92_method_21_code 27 = .ok (.invokevirtual 155, 3) := by decide +kernel
theorem de63_30 : decode jdk_92_method_21_code 30 = .ok (.ldc2_w 165, 3) := by decide +kernel
theorem de63_33 : decode jdk_92_method_21_code 33 = .ok (.iload_n 1, 1) := by decide +kernel
theorem de63_34 : decode jdk_92_method_21_code 34 = .ok (.lshl, 1) := by decide +kernel
theorem de63_35 : decode jdk_92_method_21_code 35 = .ok (.lstore 5, 2) := by decide +kernel
theorem de63_37 : decode jdk_92_method_21_code 37 = .ok (.ldc2_w 165, 3) := by decide +kernel
theorem de63_40 : decode jdk_92_method_21_code 40 = .ok (.iload_n 2, 1) := by decide +kernel
theorem de63_41 : decode jdk_92_method_21_code 41 = .ok (.ineg, 1) := by decide +kernel
theorem de63_42 : decode jdk_92_method_21_code 42 = .ok (.lushr, 1) := by decide +kernel
theorem de63_43 : decode jdk_92_method_21_code 43 = .ok (.lstore 7, 2) := by decide +kernel
theorem de63_45 : decode jdk_92_method_21_code 45 = .ok (.iload_n 3, 1) := by decide +kernel
theorem de63_46 : decode jdk_92_method_21_code 46 = .ok (.iload 4, 2) := by decide +kernel
theorem de63_48 : decode jdk_92_method_21_code 48 = .ok (.if_icmp .ne 20, 3) := by decide +kernel
theorem de63_51 : decode jdk_92_method_21_code 51 = .ok (.aload_n 0, 1) := by decide +kernel
theorem de63_52 : decode jdk_92_method_21_code 52 = .ok (.getfield 11, 3) := by decide +kernel
theorem de63_55 : decode jdk_92_method_21_code 55 = .ok (.iload_n 3, 1) := by decide +kernel
theorem de63_56 : decode jdk_92_method_21_code 56 = .ok (.dup2, 1) := by decide +kernel
theorem de63_57 : decode jdk_92_method_21_code 57 = .ok (.laload, 1) := by decide +kernel
theorem de63_58 : decode jdk_92_method_21_code 58 = .ok (.lload 5, 2) := by decide +kernel
theorem de63_60 : decode jdk_92_method_21_code 60 = .ok (.lload 7, 2) := by decide +kernel
theorem de63_62 : decode jdk_92_method_21_code 62 = .ok (.land, 1) := by decide +kernel
theorem de63_63 : decode jdk_92_method_21_code 63 = .ok (.lor, 1) := by decide +kernel
theorem de63_64 : decode jdk_92_method_21_code 64 = .ok (.lastore, 1) := by decide +kernel
theorem de63_65 : decode jdk_92_method_21_code 65 = .ok (.goto 54, 3) := by decide +kernel
theorem de63_68 : decode jdk_92_method_21_code 68 = .ok (.aload_n 0, 1) := by decide +kernel
theorem de63_69 : decode jdk_92_method_21_code 69 = .ok (.getfield 11, 3) := by decide +kernel
theorem de63_72 : decode jdk_92_method_21_code 72 = .ok (.iload_n 3, 1) := by decide +kernel
theorem de63_73 : decode jdk_92_method_21_code 73 = .ok (.dup2, 1) := by decide +kernel
theorem de63_74 : decode jdk_92_method_21_code 74 = .ok (.laload, 1) := by decide +kernel
theorem de63_75 : decode jdk_92_method_21_code 75 = .ok (.lload 5, 2) := by decide +kernel
theorem de63_77 : decode jdk_92_method_21_code 77 = .ok (.lor, 1) := by decide +kernel
theorem de63_78 : decode jdk_92_method_21_code 78 = .ok (.lastore, 1) := by decide +kernel
theorem de63_79 : decode jdk_92_method_21_code 79 = .ok (.iload_n 3, 1) := by decide +kernel
theorem de63_80 : decode jdk_92_method_21_code 80 = .ok (.iconst 1, 1) := by decide +kernel
theorem de63_81 : decode jdk_92_method_21_code 81 = .ok (.iadd, 1) := by decide +kernel
theorem de63_82 : decode jdk_92_method_21_code 82 = .ok (.istore 9, 2) := by decide +kernel
theorem de63_84 : decode jdk_92_method_21_code 84 = .ok (.iload 9, 2) := by decide +kernel
theorem de63_86 : decode jdk_92_method_21_code 86 = .ok (.iload 4, 2) := by decide +kernel
theorem de63_88 : decode jdk_92_method_21_code 88 = .ok (.if_icmp .ge 19, 3) := by decide +kernel
theorem de63_91 : decode jdk_92_method_21_code 91 = .ok (.aload_n 0, 1) := by decide +kernel
theorem de63_92 : decode jdk_92_method_21_code 92 = .ok (.getfield 11, 3) := by decide +kernel
theorem de63_95 : decode jdk_92_method_21_code 95 = .ok (.iload 9, 2) := by decide +kernel
theorem de63_97 : decode jdk_92_method_21_code 97 = .ok (.ldc2_w 165, 3) := by decide +kernel
theorem de63_100 : decode jdk_92_method_21_code 100 = .ok (.lastore, 1) := by decide +kernel
theorem de63_101 : decode jdk_92_method_21_code 101 = .ok (.iinc 9 1, 3) := by decide +kernel
theorem de63_104 : decode jdk_92_method_21_code 104 = .ok (.goto (-20), 3) := by decide +kernel
theorem de63_107 : decode jdk_92_method_21_code 107 = .ok (.aload_n 0, 1) := by decide +kernel
theorem de63_108 : decode jdk_92_method_21_code 108 = .ok (.getfield 11, 3) := by decide +kernel
theorem de63_111 : decode jdk_92_method_21_code 111 = .ok (.iload 4, 2) := by decide +kernel
theorem de63_113 : decode jdk_92_method_21_code 113 = .ok (.dup2, 1) := by decide +kernel
theorem de63_114 : decode jdk_92_method_21_code 114 = .ok (.laload, 1) := by decide +kernel
theorem de63_115 : decode jdk_92_method_21_code 115 = .ok (.lload 7, 2) := by decide +kernel
theorem de63_117 : decode jdk_92_method_21_code 117 = .ok (.lor, 1) := by decide +kernel
theorem de63_118 : decode jdk_92_method_21_code 118 = .ok (.lastore, 1) := by decide +kernel
theorem de63_119 : decode jdk_92_method_21_code 119 = .ok (.aload_n 0, 1) := by decide +kernel
theorem de63_120 : decode jdk_92_method_21_code 120 = .ok (.invokevirtual 56, 3) := by decide +kernel
theorem de63_123 : decode jdk_92_method_21_code 123 = .ok (.return_, 1) := by decide +kernel
theorem de64_0 : decode jdk_92_method_16_code 0 = .ok (.iload_n 0, 1) := by decide +kernel
theorem de64_1 : decode jdk_92_method_16_code 1 = .ok (.ifCond .ge 30, 3) := by decide +kernel
theorem de64_4 : decode jdk_92_method_16_code 4 = .ok (.new 142, 3) := by decide +kernel
theorem de64_7 : decode jdk_92_method_16_code 7 = .ok (.dup, 1) := by decide +kernel
theorem de64_8 : decode jdk_92_method_16_code 8 = .ok (.new 33, 3) := by decide +kernel
theorem de64_11 : decode jdk_92_method_16_code 11 = .ok (.dup, 1) := by decide +kernel
theorem de64_12 : decode jdk_92_method_16_code 12 = .ok (.invokespecial 35, 3) := by decide +kernel
theorem de64_15 : decode jdk_92_method_16_code 15 = .ok (.ldc 144, 2) := by decide +kernel
theorem de64_17 : decode jdk_92_method_16_code 17 = .ok (.invokevirtual 38, 3) := by decide +kernel
theorem de64_20 : decode jdk_92_method_16_code 20 = .ok (.iload_n 0, 1) := by decide +kernel
theorem de64_21 : decode jdk_92_method_16_code 21 = .ok (.invokevirtual 42, 3) := by decide +kernel
theorem de64_24 : decode jdk_92_method_16_code 24 = .ok (.invokevirtual 45, 3) := by decide +kernel
theorem de64_27 : decode jdk_92_method_16_code 27 = .ok (.invokespecial 146, 3) := by decide +kernel
theorem de64_30 : decode jdk_92_method_16_code 30 = .ok (.athrow, 1) := by decide +kernel
theorem de64_31 : decode jdk_92_method_16_code 31 = .ok (.iload_n 1, 1) := by decide +kernel
theorem de64_32 : decode jdk_92_method_16_code 32 = .ok (.ifCond .ge 30, 3) := by decide +kernel
theorem de64_35 : decode jdk_92_method_16_code 35 = .ok (.new 142, 3) := by decide +kernel
theorem de64_38 : decode jdk_92_method_16_code 38 = .ok (.dup, 1) := by decide +kernel
theorem de64_39 : decode jdk_92_method_16_code 39 = .ok (.new 33, 3) := by decide +kernel
theorem de64_42 : decode jdk_92_method_16_code 42 = .ok (.dup, 1) := by decide +kernel
theorem de64_43 : decode jdk_92_method_16_code 43 = .ok (.invokespecial 35, 3) := by decide +kernel
theorem de64_46 : decode jdk_92_method_16_code 46 = .ok (.ldc 147, 2) := by decide +kernel
theorem de64_48 : decode jdk_92_method_16_code 48 = .ok (.invokevirtual 38, 3) := by decide +kernel
theorem de64_51 : decode jdk_92_method_16_code 51 = .ok (.iload_n 1, 1) := by decide +kernel
theorem de64_52 : decode jdk_92_method_16_code 52 = .ok (.invokevirtual 42, 3) := by decide +kernel
theorem de64_55 : decode jdk_92_method_16_code 55 = .ok (.invokevirtual 45, 3) := by decide +kernel
theorem de64_58 : decode jdk_92_method_16_code 58 = .ok (.invokespecial 146, 3) := by decide +kernel
theorem de64_61 : decode jdk_92_method_16_code 61 = .ok (.athrow, 1) := by decide +kernel
theorem de64_62 : decode jdk_92_method_16_code 62 = .ok (.iload_n 0, 1) := by decide +kernel
theorem de64_63 : decode jdk_92_method_16_code 63 = .ok (.iload_n 1, 1) := by decide +kernel
theorem de64_64 : decode jdk_92_method_16_code 64 = .ok (.if_icmp .le 39, 3) := by decide +kernel
theorem de64_67 : decode jdk_92_method_16_code 67 = .ok (.new 142, 3) := by decide +kernel
theorem de64_70 : decode jdk_92_method_16_code 70 = .ok (.dup, 1) := by decide +kernel
theorem de64_71 : decode jdk_92_method_16_code 71 = .ok (.new 33, 3) := by decide +kernel
theorem de64_74 : decode jdk_92_method_16_code 74 = .ok (.dup, 1) := by decide +kernel
theorem de64_75 : decode jdk_92_method_16_code 75 = .ok (.invokespecial 35, 3) := by decide +kernel
theorem de64_78 : decode jdk_92_method_16_code 78 = .ok (.ldc 149, 2) := by decide +kernel
theorem de64_80 : decode jdk_92_method_16_code 80 = .ok (.invokevirtual 38, 3) := by decide +kernel
theorem de64_83 : decode jdk_92_method_16_code 83 = .ok (.iload_n 0, 1) := by decide +kernel
theorem de64_84 : decode jdk_92_method_16_code 84 = .ok (.invokevirtual 42, 3) := by decide +kernel
theorem de64_87 : decode jdk_92_method_16_code 87 = .ok (.ldc 151, 2) := by decide +kernel
theorem de64_89 : decode jdk_92_method_16_code 89 = .ok (.invokevirtual 38, 3) := by decide +kernel
theorem de64_92 : decode jdk_92_method_16_code 92 = .ok (.iload_n 1, 1) := by decide +kernel
theorem de64_93 : decode jdk_92_method_16_code 93 = .ok (.invokevirtual 42, 3) := by decide +kernel
theorem de64_96 : decode jdk_92_method_16_code 96 = .ok (.invokevirtual 45, 3) := by decide +kernel
theorem de64_99 : decode jdk_92_method_16_code 99 = .ok (.invokespecial 146, 3) := by decide +kernel
theorem de64_102 : decode jdk_92_method_16_code 102 = .ok (.athrow, 1) := by decide +kernel
theorem de64_103 : decode jdk_92_method_16_code 103 = .ok (.return_, 1) := by decide +kernel
theorem ef_ct_e65 (x0 : Int32) (x1 : Int32) (m : MethodId) : entryFrame m #[(.int x0), (.int x1)] 2 = mkF m 0 #[.val (.int x0), .val (.int x1)] [] := by first | (simp [entryFrame, mkF, argsToLocals, o_catR, o_catN, o_catI, o_catJ, o_catD]; done) | rfl
set_option maxRecDepth 65536 in
set_option maxHeartbeats 40000000 in
theorem ct_e65 (l : Launch) (Z : State) (a0 : Array Value) (hw : ∀ d ∈ tables_1, d.before a0 Z = true) (EL : List (String × Nat)) (n0 : Nat)   (had : Sta Z Z.heap "java/util/BitSet" "$assertionsDisabled" "Z" (.int 1)) (od : Addr) (hod : Sta Z Z.heap "com/example/centile/centile/function/Order" "ASCENDING" "Lcom/example/centile/centile/function/Order;" (.ref od)) (h0 : Heap)   :
    OCt l Z a0 EL n0 (⟨"java/util/BitSet", "checkRange", "(II)V"⟩ : MethodName) jdk_92_method_16_code 2 none ({ frames := 0, cells := 0, slots := 0, locals := 0 } : Room) [] #[(.int (0 : Int32)), (.int (17 : Int32))] h0 [] (fun w vm h => w = none ∧ h = h0) := by
  refine OCt.body (plainFor_of_name pn_e1) (ef_ct_e65 ((0 : Int32)) ((17 : Int32))) ?_
  intro p e s m below meth c T hby hml hret hnm hsh P
  refine o_iloadN P (hb hby de64_0) rfl (pc' := 1) rfl ?_
  refine o_if_ge P (hb hby de64_1) (by decide) (pc' := 31) (by decide) (pcf := 4) rfl (fun _ => ?_) (fun q => absurd q (by decide))
  refine o_iloadN P (hb hby de64_31) rfl (pc' := 32) rfl ?_
  refine o_if_ge P (hb hby de64_32) (by decide) (pc' := 62) (by decide) (pcf := 35) rfl (fun _ => ?_) (fun q => absurd q (by decide))
  refine o_iloadN P (hb hby de64_62) rfl (pc' := 63) rfl ?_
  refine o_iloadN P (hb hby de64_63) rfl (pc' := 64) rfl ?_
  refine o_icmp_le P (hb hby de64_64) (by decide) (pc' := 103) (by decide) (pcf := 67) rfl (fun _ => ?_) (fun q => absurd q (by decide))
  exact o_ret0 P hret (hb hby de64_103) (by decide) (by decide) ⟨rfl, rfl⟩
theorem ef_ct_e66 (x0 : Addr) (x1 : Int32) (m : MethodId) : entryFrame m #[(.ref x0), (.int x1)] 3 = mkF m 0 #[.val (.ref x0), .val (.int x1), .unset] [] := by first | (simp [entryFrame, mkF, argsToLocals, o_catR, o_catN, o_catI, o_catJ, o_catD]; done) | rfl
set_option maxRecDepth 65536 in
set_option maxHeartbeats 40000000 in
theorem ct_e66 (l : Launch) (Z : State) (a0 : Array Value) (hw : ∀ d ∈ tables_1, d.before a0 Z = true) (EL : List (String × Nat)) (n0 : Nat) (p0 : Addr) (p1 : Addr)  (had : Sta Z Z.heap "java/util/BitSet" "$assertionsDisabled" "Z" (.int 1)) (od : Addr) (hod : Sta Z Z.heap "com/example/centile/centile/function/Order" "ASCENDING" "Lcom/example/centile/centile/function/Order;" (.ref od)) (h0 : Heap) (F_p0 : OObj Z h0 p0 "java/util/BitSet" [("java/util/BitSet", "wordsInUse", "I", (.int (1 : Int32))), ("java/util/BitSet", "sizeIsSticky", "Z", (.int (1 : Int32))), ("java/util/BitSet", "words", "[J", (.ref p1))]) (A_p1 : OArr Z h0 p1 .long [(.long (65537 : Int64))]) (ne_p0_p1 : p0 ≠ p1) :
    OCt l Z a0 EL n0 (⟨"java/util/BitSet", "expandTo", "(I)V"⟩ : MethodName) jdk_92_method_15_code 3 none ({ frames := 0, cells := 0, slots := 0, locals := 0 } : Room) [] #[(.ref p0), (.int (0 : Int32))] h0 [] (fun w vm h => w = none ∧ h = h0) := by
  refine OCt.body (plainFor_of_name pn_e1) (ef_ct_e66 p0 ((0 : Int32))) ?_
  intro p e s m below meth c T hby hml hret hnm hsh P
  refine o_iloadN P (hb hby de26_0) rfl (pc' := 1) rfl ?_
  refine o_iconst P (1 : Int32) (hb hby de26_1) rfl (pc' := 2) rfl ?_
  refine o_iadd P (hb hby de26_2) (pc' := 3) rfl ?_
  show OG p e below m _ T 3 #[.val (.ref p0), .val (.int (0 : Int32)), .unset] [(.int (1 : Int32))]
  refine o_istoreN P (hb hby de26_3) (L' := #[.val (.ref p0), .val (.int (0 : Int32)), .val (.int (1 : Int32))]) rfl (pc' := 4) rfl ?_
  refine o_aloadN P (hb hby de26_4) rfl rfl (pc' := 5) rfl ?_
  refine o_getF P (ow hw 59 rfl) Via.refl (F_p0.fld 0 rfl) (hb hby de26_5) (pc' := 8) rfl ?_
  clear P; intro T P
  refine o_iloadN P (hb hby de26_8) rfl (pc' := 9) rfl ?_
  refine o_icmp_ge P (hb hby de26_9) (by decide) (pc' := 22) (by decide) (pcf := 12) rfl (fun _ => ?_) (fun q => absurd q (by decide))
  exact o_ret0 P hret (hb hby de26_22) (by decide) (by decide) ⟨rfl, rfl⟩
theorem ef_ct_e67 (x0 : Addr) (m : MethodId) : entryFrame m #[(.ref x0)] 1 = mkF m 0 #[.val (.ref x0)] [] := by first | (simp [entryFrame, mkF, argsToLocals, o_catR, o_catN, o_catI, o_catJ, o_catD]; done) | rfl
set_option maxRecDepth 65536 in
set_option maxHeartbeats 40000000 in
theorem ct_e67 (l : Launch) (Z : State) (a0 : Array Value) (hw : ∀ d ∈ tables_1, d.before a0 Z = true) (EL : List (String × Nat)) (n0 : Nat) (p0 : Addr) (p1 : Addr)  (had : Sta Z Z.heap "java/util/BitSet" "$assertionsDisabled" "Z" (.int 1)) (od : Addr) (hod : Sta Z Z.heap "com/example/centile/centile/function/Order" "ASCENDING" "Lcom/example/centile/centile/function/Order;" (.ref od)) (h0 : Heap) (F_p0 : OObj Z h0 p0 "java/util/BitSet" [("java/util/BitSet", "wordsInUse", "I", (.int (1 : Int32))), ("java/util/BitSet", "sizeIsSticky", "Z", (.int (1 : Int32))), ("java/util/BitSet", "words", "[J", (.ref p1))]) (A_p1 : OArr Z h0 p1 .long [(.long (131071 : Int64))]) (ne_p0_p1 : p0 ≠ p1) :
    OCt l Z a0 EL n0 (⟨"java/util/BitSet", "checkInvariants", "()V"⟩ : MethodName) jdk_92_method_2_code 1 none ({ frames := 0, cells := 0, slots := 0, locals := 0 } : Room) [] #[(.ref p0)] h0 [] (fun w vm h => w = none ∧ h = h0) := by
  refine OCt.body (plainFor_of_name pn_e1) (ef_ct_e67 p0) ?_
  intro p e s m below meth c T hby hml hret hnm hsh P
  refine o_getS P (ow hw 95 rfl) Via.refl had (hb hby de30_0) (pc' := 3) rfl ?_
  clear P; intro T P
  refine o_if_ne P (hb hby de30_3) (by decide) (pc' := 37) (by decide) (pcf := 6) rfl (fun _ => ?_) (fun q => absurd q (by decide))
  refine o_getS P (ow hw 95 rfl) Via.refl had (hb hby de30_37) (pc' := 40) rfl ?_
  clear P; intro T P
  refine o_if_ne P (hb hby de30_40) (by decide) (pc' := 70) (by decide) (pcf := 43) rfl (fun _ => ?_) (fun q => absurd q (by decide))
  refine o_getS P (ow hw 95 rfl) Via.refl had (hb hby de30_70) (pc' := 73) rfl ?_
  clear P; intro T P
  refine o_if_ne P (hb hby de30_73) (by decide) (pc' := 110) (by decide) (pcf := 76) rfl (fun _ => ?_) (fun q => absurd q (by decide))
  exact o_ret0 P hret (hb hby de30_110) (by decide) (by decide) ⟨rfl, rfl⟩
theorem ef_ct_e68 (x0 : Addr) (x1 : Int32) (x2 : Int32) (m : MethodId) : entryFrame m #[(.ref x0), (.int x1), (.int x2)] 10 = mkF m 0 #[.val (.ref x0), .val (.int x1), .val (.int x2), .unset, .unset, .unset, .unset, .unset, .unset, .unset] [] := by first | (simp [entryFrame, mkF, argsToLocals, o_catR, o_catN, o_catI, o_catJ, o_catD]; done) | rfl
set_option maxRecDepth 65536 in
set_option maxHeartbeats 40000000 in
theorem ct_e68 (l : Launch) (Z : State) (a0 : Array Value) (hw : ∀ d ∈ tables_1, d.before a0 Z = true) (EL : List (String × Nat)) (n0 : Nat) (p0 : Addr) (p1 : Addr)  (had : Sta Z Z.heap "java/util/BitSet" "$assertionsDisabled" "Z" (.int 1)) (od : Addr) (hod : Sta Z Z.heap "com/example/centile/centile/function/Order" "ASCENDING" "Lcom/example/centile/centile/function/Order;" (.ref od)) (h0 : Heap) (F_p0 : OObj Z h0 p0 "java/util/BitSet" [("java/util/BitSet", "wordsInUse", "I", (.int (1 : Int32))), ("java/util/BitSet", "sizeIsSticky", "Z", (.int (1 : Int32))), ("java/util/BitSet", "words", "[J", (.ref p1))]) (A_p1 : OArr Z h0 p1 .long [(.long (65537 : Int64))]) (ne_p0_p1 : p0 ≠ p1) :
    OCt l Z a0 EL n0 (⟨"java/util/BitSet", "set", "(II)V"⟩ : MethodName) jdk_92_method_21_code 10 none ({ frames := 1, cells := 0, slots := 0, locals := 14 } : Room) [] #[(.ref p0), (.int (0 : Int32)), (.int (17 : Int32))] h0 [p1] (fun w vm h => w = none ∧ OArr Z h p1 .long [(.long (131071 : Int64))] ∧ True) := by
  refine OCt.body (plainFor_of_name pn_e1) (ef_ct_e68 p0 ((0 : Int32)) ((17 : Int32))) ?_
  intro p e s m below meth c T hby hml hret hnm hsh P
  refine o_iloadN P (hb hby de63_0) rfl (pc' := 1) rfl ?_
  refine o_iloadN P (hb hby de63_1) rfl (pc' := 2) rfl ?_
  refine o_callS P (W := 0) (ow hw 159 rfl) (ow hw 160 rfl) (ow hw 54 rfl) (ow hw 161 rfl) (by decide) (ct_e65 l Z a0 hw EL n0   had od hod h0  ) o_sf0 (by rw [hml]; rfl) (by decide) (by decide) (argsL := [(.int (0 : Int32)), (.int (17 : Int32))]) (rest := []) (lenOf pd_12 rfl) rfl rfl (Nat.le_of_eq rfl) (hb hby de63_2) (pc' := 5) rfl (by decide) (by decide) ?_
  clear P; intro T h2 v2 P K2 q2
  obtain ⟨rfl, rfl⟩ := q2; clear K2
  show OG p e below m _ T 5 #[.val (.ref p0), .val (.int (0 : Int32)), .val (.int (17 : Int32)), .unset, .unset, .unset, .unset, .unset, .unset, .unset] []
  refine o_iloadN P (hb hby de63_5) rfl (pc' := 6) rfl ?_
  refine o_iloadN P (hb hby de63_6) rfl (pc' := 7) rfl ?_
  refine o_icmp_ne P (hb hby de63_7) (by decide) (pc' := 11) (by decide) (pcf := 10) rfl (fun _ => ?_) (fun q => absurd q (by decide))
  refine o_iloadN P (hb hby de63_11) rfl (pc' := 12) rfl ?_
  refine o_callS P (W := 0) (ow hw 68 rfl) (ow hw 69 rfl) (ow hw 54 rfl) (ow hw 70 rfl) (by decide) (ct_e25 l Z a0 hw EL n0   had od hod h2  ) o_sf0 (by rw [hml]; rfl) (by decide) (by decide) (argsL := [(.int (0 : Int32))]) (rest := []) (lenOf pd_4 rfl) rfl rfl (Nat.le_of_eq rfl) (hb hby de63_12) (pc' := 15) rfl (by decide) (by decide) ?_
  clear P; intro T h4 v4 P K4 q4
  obtain ⟨rfl, rfl⟩ := q4; clear K4
  show OG p e below m _ T 15 #[.val (.ref p0), .val (.int (0 : Int32)), .val (.int (17 : Int32)), .unset, .unset, .unset, .unset, .unset, .unset, .unset] [(.int (0 : Int32))]
  refine o_istoreN P (hb hby de63_15) (L' := #[.val (.ref p0), .val (.int (0 : Int32)), .val (.int (17 : Int32)), .val (.int (0 : Int32)), .unset, .unset, .unset, .unset, .unset, .unset]) rfl (pc' := 16) rfl ?_
  refine o_iloadN P (hb hby de63_16) rfl (pc' := 17) rfl ?_
  refine o_iconst P (1 : Int32) (hb hby de63_17) rfl (pc' := 18) rfl ?_
  refine o_isub P (hb hby de63_18) (pc' := 19) rfl ?_
  show OG p e below m _ T 19 #[.val (.ref p0), .val (.int (0 : Int32)), .val (.int (17 : Int32)), .val (.int (0 : Int32)), .unset, .unset, .unset, .unset, .unset, .unset] [(.int (16 : Int32))]
  refine o_callS P (W := 0) (ow hw 68 rfl) (ow hw 69 rfl) (ow hw 54 rfl) (ow hw 70 rfl) (by decide) (ct_e21 l Z a0 hw EL n0   had od hod h4  ) o_sf0 (by rw [hml]; rfl) (by decide) (by decide) (argsL := [(.int (16 : Int32))]) (rest := []) (lenOf pd_4 rfl) rfl rfl (Nat.le_of_eq rfl) (hb hby de63_19) (pc' := 22) rfl (by decide) (by decide) ?_
  clear P; intro T h6 v6 P K6 q6
  obtain ⟨rfl, rfl⟩ := q6; clear K6
  show OG p e below m _ T 22 #[.val (.ref p0), .val (.int (0 : Int32)), .val (.int (17 : Int32)), .val (.int (0 : Int32)), .unset, .unset, .unset, .unset, .unset, .unset] [(.int (0 : Int32))]
  refine o_istore P (hb hby de63_22) (L' := #[.val (.ref p0), .val (.int (0 : Int32)), .val (.int (17 : Int32)), .val (.int (0 : Int32)), .val (.int (0 : Int32)), .unset, .unset, .unset, .unset, .unset]) rfl (pc' := 24) rfl ?_
  refine o_aloadN P (hb hby de63_24) rfl rfl (pc' := 25) rfl ?_
  refine o_iload P (hb hby de63_25) rfl (pc' := 27) rfl ?_
  refine o_callP P (W := 0) (a := p0) (ow hw 80 rfl) (ow hw 81 rfl) (ow hw 83 rfl) (ow hw 82 rfl) (ow hw 54 rfl) (ow hw 84 rfl) (by decide) F_p0.exa (ct_e66 l Z a0 hw EL n0 p0 p1  had od hod h6 F_p0 A_p1 ne_p0_p1) o_sf0 (by rw [hml]; rfl) (by decide) (by decide) (argsL := [(.int (0 : Int32))]) (rest := []) (lenOf pd_1 rfl) rfl rfl (Nat.le_of_eq rfl) (hb hby de63_27) (pc' := 30) rfl (by decide) (by decide) ?_
  clear P; intro T h8 v8 P K8 q8
  obtain ⟨rfl, rfl⟩ := q8; clear K8
  show OG p e below m _ T 30 #[.val (.ref p0), .val (.int (0 : Int32)), .val (.int (17 : Int32)), .val (.int (0 : Int32)), .val (.int (0 : Int32)), .unset, .unset, .unset, .unset, .unset] []
  refine o_ldc2L P (ow hw 116 rfl) (hb hby de63_30) (pc' := 33) rfl ?_
  refine o_iloadN P (hb hby de63_33) rfl (pc' := 34) rfl ?_
  refine o_lshl P (hb hby de63_34) (pc' := 35) rfl ?_
  show OG p e below m _ T 35 #[.val (.ref p0), .val (.int (0 : Int32)), .val (.int (17 : Int32)), .val (.int (0 : Int32)), .val (.int (0 : Int32)), .unset, .unset, .unset, .unset, .unset] [(.long (-1 : Int64))]
  refine o_lstore P (hb hby de63_35) (L' := #[.val (.ref p0), .val (.int (0 : Int32)), .val (.int (17 : Int32)), .val (.int (0 : Int32)), .val (.int (0 : Int32)), .val (.long (-1 : Int64)), .second, .unset, .unset, .unset]) rfl (pc' := 37) rfl ?_
  refine o_ldc2L P (ow hw 116 rfl) (hb hby de63_37) (pc' := 40) rfl ?_
  refine o_iloadN P (hb hby de63_40) rfl (pc' := 41) rfl ?_
  refine o_ineg P (hb hby de63_41) (pc' := 42) rfl ?_
  show OG p e below m _ T 42 #[.val (.ref p0), .val (.int (0 : Int32)), .val (.int (17 : Int32)), .val (.int (0 : Int32)), .val (.int (0 : Int32)), .val (.long (-1 : Int64)), .second, .unset, .unset, .unset] [(.int (-17 : Int32)), (.long (-1 : Int64))]
  refine o_lushr P (hb hby de63_42) (pc' := 43) rfl ?_
  show OG p e below m _ T 43 #[.val (.ref p0), .val (.int (0 : Int32)), .val (.int (17 : Int32)), .val (.int (0 : Int32)), .val (.int (0 : Int32)), .val (.long (-1 : Int64)), .second, .unset, .unset, .unset] [(.long (131071 : Int64))]
  refine o_lstore P (hb hby de63_43) (L' := #[.val (.ref p0), .val (.int (0 : Int32)), .val (.int (17 : Int32)), .val (.int (0 : Int32)), .val (.int (0 : Int32)), .val (.long (-1 : Int64)), .second, .val (.long (131071 : Int64)), .second, .unset]) rfl (pc' := 45) rfl ?_
  refine o_iloadN P (hb hby de63_45) rfl (pc' := 46) rfl ?_
  refine o_iload P (hb hby de63_46) rfl (pc' := 48) rfl ?_
  refine o_icmp_ne P (hb hby de63_48) (by decide) (pc' := 68) (by decide) (pcf := 51) rfl (fun q => absurd (by decide) q) (fun _ => ?_)
  refine o_aloadN P (hb hby de63_51) rfl rfl (pc' := 52) rfl ?_
  refine o_getF P (ow hw 71 rfl) Via.refl (F_p0.fld 2 rfl) (hb hby de63_52) (pc' := 55) rfl ?_
  clear P; intro T P
  refine o_iloadN P (hb hby de63_55) rfl (pc' := 56) rfl ?_
  refine o_dup2 P (hb hby de63_56) rfl rfl (pc' := 57) rfl ?_
  refine o_laload P (v := (.long (65537 : Int64))) A_p1 (by decide) rfl (hb hby de63_57) (pc' := 58) rfl ?_
  refine o_lload P (hb hby de63_58) rfl (pc' := 60) rfl ?_
  refine o_lload P (hb hby de63_60) rfl (pc' := 62) rfl ?_
  refine o_land P (hb hby de63_62) (pc' := 63) rfl ?_
  show OG p e below m _ T 63 #[.val (.ref p0), .val (.int (0 : Int32)), .val (.int (17 : Int32)), .val (.int (0 : Int32)), .val (.int (0 : Int32)), .val (.long (-1 : Int64)), .second, .val (.long (131071 : Int64)), .second, .unset] [(.long (131071 : Int64)), (.long (65537 : Int64)), (.int (0 : Int32)), (.ref p1)]
  refine o_lor P (hb hby de63_63) (pc' := 64) rfl ?_
  show OG p e below m _ T 64 #[.val (.ref p0), .val (.int (0 : Int32)), .val (.int (17 : Int32)), .val (.int (0 : Int32)), .val (.int (0 : Int32)), .val (.long (-1 : Int64)), .second, .val (.long (131071 : Int64)), .second, .unset] [(.long (131071 : Int64)), (.int (0 : Int32)), (.ref p1)]
  refine o_lastore P (v := (.long (131071 : Int64))) A_p1 (List.Mem.head _) (by decide) (of_decide_eq_true rfl) rfl (hb hby de63_64) (pc' := 65) rfl ?_
  clear P; clear A_p1; intro T h9 P W9 A_p1
  replace F_p0 := F_p0.oth W9 ne_p0_p1
  clear W9
  replace A_p1 : OArr Z h9 p1 .long [(.long (131071 : Int64))] := A_p1
  refine o_goto P (hb hby de63_65) (by decide) (pc' := 119) (by decide) ?_
  refine o_aloadN P (hb hby de63_119) rfl rfl (pc' := 120) rfl ?_
  refine o_callP P (W := 0) (a := p0) (ow hw 90 rfl) (ow hw 91 rfl) (ow hw 93 rfl) (ow hw 92 rfl) (ow hw 54 rfl) (ow hw 94 rfl) (by decide) F_p0.exa (ct_e67 l Z a0 hw EL n0 p0 p1  had od hod h9 F_p0 A_p1 ne_p0_p1) o_sf0 (by rw [hml]; rfl) (by decide) (by decide) (argsL := []) (rest := []) (lenOf pd_0 rfl) rfl rfl (Nat.le_of_eq rfl) (hb hby de63_120) (pc' := 123) rfl (by decide) (by decide) ?_
  clear P; intro T h11 v11 P K11 q11
  obtain ⟨rfl, rfl⟩ := q11; clear K11
  show OG p e below m _ T 123 #[.val (.ref p0), .val (.int (0 : Int32)), .val (.int (17 : Int32)), .val (.int (0 : Int32)), .val (.int (0 : Int32)), .val (.long (-1 : Int64)), .second, .val (.long (131071 : Int64)), .second, .unset] []
  exact o_ret0 P hret (hb hby de63_123) (by decide) (by decide) ⟨rfl, A_p1, trivial⟩
theorem ef_ct_e69 (x0 : Addr) (x1 : Int32) (m : MethodId) : entryFrame m #[(.ref x0), (.int x1)] 12 = mkF m 0 #[.val (.ref x0), .val (.int x1), .unset, .unset, .unset, .unset, .unset, .unset, .unset, .unset, .unset, .unset] [] := by first | (simp [entryFrame, mkF, argsToLocals, o_catR, o_catN, o_catI, o_catJ, o_catD]; done) | rfl
set_option maxRecDepth 65536 in
set_option maxHeartbeats 40000000 in
theorem ct_e69 (l : Launch) (Z : State) (a0 : Array Value) (hw : ∀ d ∈ tables_1, d.before a0 Z = true) (EL : List (String × Nat)) (n0 : Nat) (p0 : Addr) (p1 : Addr) (p2 : Addr) (p3 : Addr) (x0 : Int64) (x1 : Int64) (had : Sta Z Z.heap "java/util/BitSet" "$assertionsDisabled" "Z" (.int 1)) (od : Addr) (hod : Sta Z Z.heap "com/example/centile/centile/function/Order" "ASCENDING" "Lcom/example/centile/centile/function/Order;" (.ref od)) (h0 : Heap) (F_p0 : OObj Z h0 p0 "com/example/centile/centile/function/Selection" [("com/example/centile/centile/function/Selection", "values", "[J", (.ref p1)), ("com/example/centile/centile/function/Selection", "cuts", "Ljava/util/BitSet;", (.ref p2))]) (A_p1 : OArr Z h0 p1 .long [(.long x0), (.long x1), (.long x0), (.long x1), (.long x0), (.long x1), (.long x0), (.long x1), (.long x0), (.long x1), (.long x0), (.long x1), (.long x0), (.long x1), (.long x0), (.long x1)]) (F_p2 : OObj Z h0 p2 "java/util/BitSet" [("java/util/BitSet", "wordsInUse", "I", (.int (1 : Int32))), ("java/util/BitSet", "sizeIsSticky", "Z", (.int (1 : Int32))), ("java/util/BitSet", "words", "[J", (.ref p3))]) (A_p3 : OArr Z h0 p3 .long [(.long (65537 : Int64))]) (ne_p0_p1 : p0 ≠ p1) (ne_p0_p2 : p0 ≠ p2) (ne_p0_p3 : p0 ≠ p3) (ne_p1_p2 : p1 ≠ p2) (ne_p1_p3 : p1 ≠ p3) (ne_p2_p3 : p2 ≠ p3) :
    OCt l Z a0 EL n0 (⟨"com/example/centile/centile/function/Selection", "settle", "(I)V"⟩ : MethodName) prog_15_method_3_code 12 none ({ frames := 4, cells := 0, slots := 0, locals := 86 } : Room) [] #[(.ref p0), (.int (0 : Int32))] h0 [p1, p3] (fun w vm h => w = none ∧ OArr Z h p1 .long [(.long (og [x0, x1, x0, x1, x0, x1, x0, x1, x0, x1, x0, x1, x0, x1, x0, x1] 0)), (.long (og [x0, x1, x0, x1, x0, x1, x0, x1, x0, x1, x0, x1, x0, x1, x0, x1] 1)), (.long (og [x0, x1, x0, x1, x0, x1, x0, x1, x0, x1, x0, x1, x0, x1, x0, x1] 2)), (.long (og [x0, x1, x0, x1, x0, x1, x0, x1, x0, x1, x0, x1, x0, x1, x0, x1] 3)), (.long (og [x0, x1, x0, x1, x0, x1, x0, x1, x0, x1, x0, x1, x0, x1, x0, x1] 4)), (.long (og [x0, x1, x0, x1, x0, x1, x0, x1, x0, x1, x0, x1, x0, x1, x0, x1] 5)), (.long (og [x0, x1, x0, x1, x0, x1, x0, x1, x0, x1, x0, x1, x0, x1, x0, x1] 6)), (.long (og [x0, x1, x0, x1, x0, x1, x0, x1, x0, x1, x0, x1, x0, x1, x0, x1] 7)), (.long (og [x0, x1, x0, x1, x0, x1, x0, x1, x0, x1, x0, x1, x0, x1, x0, x1] 8)), (.long (og [x0, x1, x0, x1, x0, x1, x0, x1, x0, x1, x0, x1, x0, x1, x0, x1] 9)), (.long (og [x0, x1, x0, x1, x0, x1, x0, x1, x0, x1, x0, x1, x0, x1, x0, x1] 10)), (.long (og [x0, x1, x0, x1, x0, x1, x0, x1, x0, x1, x0, x1, x0, x1, x0, x1] 11)), (.long (og [x0, x1, x0, x1, x0, x1, x0, x1, x0, x1, x0, x1, x0, x1, x0, x1] 12)), (.long (og [x0, x1, x0, x1, x0, x1, x0, x1, x0, x1, x0, x1, x0, x1, x0, x1] 13)), (.long (og [x0, x1, x0, x1, x0, x1, x0, x1, x0, x1, x0, x1, x0, x1, x0, x1] 14)), (.long (og [x0, x1, x0, x1, x0, x1, x0, x1, x0, x1, x0, x1, x0, x1, x0, x1] 15))] ∧ OArr Z h p3 .long [(.long (131071 : Int64))] ∧ True) := by
  refine OCt.body (plainFor_of_name pn_e2) (ef_ct_e69 p0 ((0 : Int32))) ?_
  intro p e s m below meth c T hby hml hret hnm hsh P
  refine o_aloadN P (hb hby de38_0) rfl rfl (pc' := 1) rfl ?_
  refine o_getF P (ow hw 73 rfl) Via.refl (F_p0.fld 1 rfl) (hb hby de38_1) (pc' := 4) rfl ?_
  clear P; intro T P
  refine o_iloadN P (hb hby de38_4) rfl (pc' := 5) rfl ?_
  refine o_callV P (W := 0) (x := (⟨"java/util/BitSet", "get", "(I)Z"⟩ : MethodName)) (y := (⟨"java/util/BitSet", "get", "(I)Z"⟩ : MethodName)) (a := p2) (ow hw 106 rfl) (ow hw 107 rfl) (o_nfSel (y := (⟨"java/util/BitSet", "get", "(I)Z"⟩ : MethodName)) rfl (ow hw 109 rfl)) (ow hw 109 rfl) (ow hw 108 rfl) (ow hw 54 rfl) (ow hw 110 rfl) (by decide) F_p2.exa (ct_e40 l Z a0 hw EL n0 p2 p3  had od hod h0 F_p2 A_p3 ne_p2_p3) o_sf0 (by rw [hml]; rfl) (by decide) (by decide) (argsL := [(.int (0 : Int32))]) (rest := []) (lenOf pd_6 rfl) rfl rfl (Nat.le_of_eq rfl) (hb hby de38_5) (pc' := 8) rfl (by decide) (by decide) ?_
  clear P; intro T h2 v2 P K2 q2
  obtain ⟨rfl, rfl⟩ := q2; clear K2
  show OG p e below m _ T 8 #[.val (.ref p0), .val (.int (0 : Int32)), .unset, .unset, .unset, .unset, .unset, .unset, .unset, .unset, .unset, .unset] [(.int (1 : Int32))]
  refine o_if_eq P (hb hby de38_8) (by decide) (pc' := 25) (by decide) (pcf := 11) rfl (fun q => absurd q (by decide)) (fun _ => ?_)
  refine o_aloadN P (hb hby de38_11) rfl rfl (pc' := 12) rfl ?_
  refine o_getF P (ow hw 73 rfl) Via.refl (F_p0.fld 1 rfl) (hb hby de38_12) (pc' := 15) rfl ?_
  clear P; intro T P
  refine o_iloadN P (hb hby de38_15) rfl (pc' := 16) rfl ?_
  refine o_iconst P (1 : Int32) (hb hby de38_16) rfl (pc' := 17) rfl ?_
  refine o_iadd P (hb hby de38_17) (pc' := 18) rfl ?_
  show OG p e below m _ T 18 #[.val (.ref p0), .val (.int (0 : Int32)), .unset, .unset, .unset, .unset, .unset, .unset, .unset, .unset, .unset, .unset] [(.int (1 : Int32)), (.ref p2)]
  refine o_callV P (W := 0) (x := (⟨"java/util/BitSet", "get", "(I)Z"⟩ : MethodName)) (y := (⟨"java/util/BitSet", "get", "(I)Z"⟩ : MethodName)) (a := p2) (ow hw 106 rfl) (ow hw 107 rfl) (o_nfSel (y := (⟨"java/util/BitSet", "get", "(I)Z"⟩ : MethodName)) rfl (ow hw 109 rfl)) (ow hw 109 rfl) (ow hw 108 rfl) (ow hw 54 rfl) (ow hw 110 rfl) (by decide) F_p2.exa (ct_e42 l Z a0 hw EL n0 p2 p3  had od hod h2 F_p2 A_p3 ne_p2_p3) o_sf0 (by rw [hml]; rfl) (by decide) (by decide) (argsL := [(.int (1 : Int32))]) (rest := []) (lenOf pd_6 rfl) rfl rfl (Nat.le_of_eq rfl) (hb hby de38_18) (pc' := 21) rfl (by decide) (by decide) ?_
  clear P; intro T h4 v4 P K4 q4
  obtain ⟨rfl, rfl⟩ := q4; clear K4
  show OG p e below m _ T 21 #[.val (.ref p0), .val (.int (0 : Int32)), .unset, .unset, .unset, .unset, .unset, .unset, .unset, .unset, .unset, .unset] [(.int (0 : Int32))]
  refine o_if_eq P (hb hby de38_21) (by decide) (pc' := 25) (by decide) (pcf := 24) rfl (fun _ => ?_) (fun q => absurd (by decide) q)
  refine o_aloadN P (hb hby de38_25) rfl rfl (pc' := 26) rfl ?_
  refine o_getF P (ow hw 73 rfl) Via.refl (F_p0.fld 1 rfl) (hb hby de38_26) (pc' := 29) rfl ?_
  clear P; intro T P
  refine o_iloadN P (hb hby de38_29) rfl (pc' := 30) rfl ?_
  refine o_callV P (W := 0) (x := (⟨"java/util/BitSet", "previousSetBit", "(I)I"⟩ : MethodName)) (y := (⟨"java/util/BitSet", "previousSetBit", "(I)I"⟩ : MethodName)) (a := p2) (ow hw 111 rfl) (ow hw 112 rfl) (o_nfSel (y := (⟨"java/util/BitSet", "previousSetBit", "(I)I"⟩ : MethodName)) rfl (ow hw 114 rfl)) (ow hw 114 rfl) (ow hw 113 rfl) (ow hw 54 rfl) (ow hw 115 rfl) (by decide) F_p2.exa (ct_e48 l Z a0 hw EL n0 p2 p3  had od hod h4 F_p2 A_p3 ne_p2_p3) o_sf0 (by rw [hml]; rfl) (by decide) (by decide) (argsL := [(.int (0 : Int32))]) (rest := []) (lenOf pd_4 rfl) rfl rfl (Nat.le_of_eq rfl) (hb hby de38_30) (pc' := 33) rfl (by decide) (by decide) ?_
  clear P; intro T h6 v6 P K6 q6
  obtain ⟨rfl, rfl⟩ := q6; clear K6
  show OG p e below m _ T 33 #[.val (.ref p0), .val (.int (0 : Int32)), .unset, .unset, .unset, .unset, .unset, .unset, .unset, .unset, .unset, .unset] [(.int (0 : Int32))]
  refine o_istoreN P (hb hby de38_33) (L' := #[.val (.ref p0), .val (.int (0 : Int32)), .val (.int (0 : Int32)), .unset, .unset, .unset, .unset, .unset, .unset, .unset, .unset, .unset]) rfl (pc' := 34) rfl ?_
  refine o_aloadN P (hb hby de38_34) rfl rfl (pc' := 35) rfl ?_
  refine o_getF P (ow hw 73 rfl) Via.refl (F_p0.fld 1 rfl) (hb hby de38_35) (pc' := 38) rfl ?_
  clear P; intro T P
  refine o_iloadN P (hb hby de38_38) rfl (pc' := 39) rfl ?_
  refine o_iconst P (1 : Int32) (hb hby de38_39) rfl (pc' := 40) rfl ?_
  refine o_iadd P (hb hby de38_40) (pc' := 41) rfl ?_
  show OG p e below m _ T 41 #[.val (.ref p0), .val (.int (0 : Int32)), .val (.int (0 : Int32)), .unset, .unset, .unset, .unset, .unset, .unset, .unset, .unset, .unset] [(.int (1 : Int32)), (.ref p2)]
  refine o_callV P (W := 0) (x := (⟨"java/util/BitSet", "nextSetBit", "(I)I"⟩ : MethodName)) (y := (⟨"java/util/BitSet", "nextSetBit", "(I)I"⟩ : MethodName)) (a := p2) (ow hw 126 rfl) (ow hw 127 rfl) (o_nfSel (y := (⟨"java/util/BitSet", "nextSetBit", "(I)I"⟩ : MethodName)) rfl (ow hw 129 rfl)) (ow hw 129 rfl) (ow hw 128 rfl) (ow hw 54 rfl) (ow hw 130 rfl) (by decide) F_p2.exa (ct_e54 l Z a0 hw EL n0 p2 p3  had od hod h6 F_p2 A_p3 ne_p2_p3) o_sf0 (by rw [hml]; rfl) (by decide) (by decide) (argsL := [(.int (1 : Int32))]) (rest := []) (lenOf pd_4 rfl) rfl rfl (Nat.le_of_eq rfl) (hb hby de38_41) (pc' := 44) rfl (by decide) (by decide) ?_
  clear P; intro T h8 v8 P K8 q8
  obtain ⟨rfl, rfl⟩ := q8; clear K8
  show OG p e below m _ T 44 #[.val (.ref p0), .val (.int (0 : Int32)), .val (.int (0 : Int32)), .unset, .unset, .unset, .unset, .unset, .unset, .unset, .unset, .unset] [(.int (16 : Int32))]
  refine o_istoreN P (hb hby de38_44) (L' := #[.val (.ref p0), .val (.int (0 : Int32)), .val (.int (0 : Int32)), .val (.int (16 : Int32)), .unset, .unset, .unset, .unset, .unset, .unset, .unset, .unset]) rfl (pc' := 45) rfl ?_
  refine o_iconst P (0 : Int32) (hb hby de38_45) rfl (pc' := 46) rfl ?_
  refine o_istore P (hb hby de38_46) (L' := #[.val (.ref p0), .val (.int (0 : Int32)), .val (.int (0 : Int32)), .val (.int (16 : Int32)), .val (.int (0 : Int32)), .unset, .unset, .unset, .unset, .unset, .unset, .unset]) rfl (pc' := 48) rfl ?_
  refine o_iloadN P (hb hby de38_48) rfl (pc' := 49) rfl ?_
  refine o_iloadN P (hb hby de38_49) rfl (pc' := 50) rfl ?_
  refine o_isub P (hb hby de38_50) (pc' := 51) rfl ?_
  show OG p e below m _ T 51 #[.val (.ref p0), .val (.int (0 : Int32)), .val (.int (0 : Int32)), .val (.int (16 : Int32)), .val (.int (0 : Int32)), .unset, .unset, .unset, .unset, .unset, .unset, .unset] [(.int (16 : Int32))]
  refine o_sipush P (256 : Int32) (hb hby de38_51) rfl (pc' := 54) rfl ?_
  refine o_icmp_le P (hb hby de38_54) (by decide) (pc' := 303) (by decide) (pcf := 57) rfl (fun _ => ?_) (fun q => absurd q (by decide))
  refine o_aloadN P (hb hby de38_303) rfl rfl (pc' := 304) rfl ?_
  refine o_getF P (ow hw 50 rfl) Via.refl (F_p0.fld 0 rfl) (hb hby de38_304) (pc' := 307) rfl ?_
  clear P; intro T P
  refine o_iloadN P (hb hby de38_307) rfl (pc' := 308) rfl ?_
  refine o_iloadN P (hb hby de38_308) rfl (pc' := 309) rfl ?_
  have hn_9 := P.n0le; have hk_9 := P.keep0.1
  refine o_callS P (W := 0) (ow hw 137 rfl) (ow hw 138 rfl) (ow hw 139 rfl) (ow hw 140 rfl) (by decide) (ct_e62 l Z a0 hw EL n0 p1 x0 x1 had od hod h8 A_p1 ) (o_sfS (List.Mem.head _) o_sf0) (by rw [hml]; rfl) (by decide) (by decide) (argsL := [(.ref p1), (.int (0 : Int32)), (.int (16 : Int32))]) (rest := []) (lenOf pd_9 rfl) rfl rfl (Nat.le_of_eq rfl) (hb hby de38_309) (pc' := 312) rfl (by decide) (by decide) ?_
  clear P; intro T h10 v10 P K10 q10
  obtain ⟨rfl, Q_p1, -⟩ := q10
  replace F_p0 := F_p0.keep K10 (ninS ne_p0_p1 nin0)
  replace F_p2 := F_p2.keep K10 (ninS (Ne.symm ne_p1_p2) nin0)
  replace A_p3 := A_p3.keep K10 (ninS (Ne.symm ne_p1_p3) nin0)
  clear A_p1
  have A_p1 := Q_p1; clear Q_p1
  clear K10 hn_9 hk_9
  show OG p e below m _ T 312 #[.val (.ref p0), .val (.int (0 : Int32)), .val (.int (0 : Int32)), .val (.int (16 : Int32)), .val (.int (0 : Int32)), .unset, .unset, .unset, .unset, .unset, .unset, .unset] []
  refine o_aloadN P (hb hby de38_312) rfl rfl (pc' := 313) rfl ?_
  refine o_getF P (ow hw 73 rfl) Via.refl (F_p0.fld 1 rfl) (hb hby de38_313) (pc' := 316) rfl ?_
  clear P; intro T P
  refine o_iloadN P (hb hby de38_316) rfl (pc' := 317) rfl ?_
  refine o_iloadN P (hb hby de38_317) rfl (pc' := 318) rfl ?_
  refine o_iconst P (1 : Int32) (hb hby de38_318) rfl (pc' := 319) rfl ?_
  refine o_iadd P (hb hby de38_319) (pc' := 320) rfl ?_
  show OG p e below m _ T 320 #[.val (.ref p0), .val (.int (0 : Int32)), .val (.int (0 : Int32)), .val (.int (16 : Int32)), .val (.int (0 : Int32)), .unset, .unset, .unset, .unset, .unset, .unset, .unset] [(.int (17 : Int32)), (.int (0 : Int32)), (.ref p2)]
  have hn_11 := P.n0le; have hk_11 := P.keep0.1
  refine o_callV P (W := 0) (x := (⟨"java/util/BitSet", "set", "(II)V"⟩ : MethodName)) (y := (⟨"java/util/BitSet", "set", "(II)V"⟩ : MethodName)) (a := p2) (ow hw 154 rfl) (ow hw 155 rfl) (o_nfSel (y := (⟨"java/util/BitSet", "set", "(II)V"⟩ : MethodName)) rfl (ow hw 157 rfl)) (ow hw 157 rfl) (ow hw 156 rfl) (ow hw 54 rfl) (ow hw 158 rfl) (by decide) F_p2.exa (ct_e68 l Z a0 hw EL n0 p2 p3  had od hod h10 F_p2 A_p3 ne_p2_p3) (o_sfS (List.Mem.tail _ (List.Mem.head _)) o_sf0) (by rw [hml]; rfl) (by decide) (by decide) (argsL := [(.int (0 : Int32)), (.int (17 : Int32))]) (rest := []) (lenOf pd_12 rfl) rfl rfl (Nat.le_of_eq rfl) (hb hby de38_320) (pc' := 323) rfl (by decide) (by decide) ?_
  clear P; intro T h12 v12 P K12 q12
  obtain ⟨rfl, Q_p3, -⟩ := q12
  replace F_p0 := F_p0.keep K12 (ninS ne_p0_p3 nin0)
  replace F_p2 := F_p2.keep K12 (ninS ne_p2_p3 nin0)
  replace A_p1 := A_p1.keep K12 (ninS ne_p1_p3 nin0)
  clear A_p3
  have A_p3 := Q_p3; clear Q_p3
  clear K12 hn_11 hk_11
  show OG p e below m _ T 323 #[.val (.ref p0), .val (.int (0 : Int32)), .val (.int (0 : Int32)), .val (.int (16 : Int32)), .val (.int (0 : Int32)), .unset, .unset, .unset, .unset, .unset, .unset, .unset] []
  exact o_ret0 P hret (hb hby de38_323) (by decide) (by decide) ⟨rfl, A_p1, A_p3, trivial⟩
theorem ef_ct_e70 (x0 : Addr) (x1 : Int32) (m : MethodId) : entryFrame m #[(.ref x0), (.int x1)] 2 = mkF m 0 #[.val (.ref x0), .val (.int x1)] [] := by first | (simp [entryFrame, mkF, argsToLocals, o_catR, o_catN, o_catI, o_catJ, o_catD]; done) | rfl
set_option maxRecDepth 65536 in
set_option maxHeartbeats 40000000 in
theorem ct_e70 (l : Launch) (Z : State) (a0 : Array Value) (hw : ∀ d ∈ tables_1, d.before a0 Z = true) (EL : List (String × Nat)) (n0 : Nat) (p0 : Addr) (p1 : Addr) (p2 : Addr) (p3 : Addr) (x0 : Int64) (x1 : Int64) (had : Sta Z Z.heap "java/util/BitSet" "$assertionsDisabled" "Z" (.int 1)) (od : Addr) (hod : Sta Z Z.heap "com/example/centile/centile/function/Order" "ASCENDING" "Lcom/example/centile/centile/function/Order;" (.ref od)) (h0 : Heap) (F_p0 : OObj Z h0 p0 "com/example/centile/centile/function/Selection" [("com/example/centile/centile/function/Selection", "values", "[J", (.ref p1)), ("com/example/centile/centile/function/Selection", "cuts", "Ljava/util/BitSet;", (.ref p2))]) (A_p1 : OArr Z h0 p1 .long [(.long x0), (.long x1), (.long x0), (.long x1), (.long x0), (.long x1), (.long x0), (.long x1), (.long x0), (.long x1), (.long x0), (.long x1), (.long x0), (.long x1), (.long x0), (.long x1)]) (F_p2 : OObj Z h0 p2 "java/util/BitSet" [("java/util/BitSet", "wordsInUse", "I", (.int (1 : Int32))), ("java/util/BitSet", "sizeIsSticky", "Z", (.int (1 : Int32))), ("java/util/BitSet", "words", "[J", (.ref p3))]) (A_p3 : OArr Z h0 p3 .long [(.long (65537 : Int64))]) (ne_p0_p1 : p0 ≠ p1) (ne_p0_p2 : p0 ≠ p2) (ne_p0_p3 : p0 ≠ p3) (ne_p1_p2 : p1 ≠ p2) (ne_p1_p3 : p1 ≠ p3) (ne_p2_p3 : p2 ≠ p3) :
    OCt l Z a0 EL n0 (⟨"com/example/centile/centile/function/Selection", "valueAt", "(I)J"⟩ : MethodName) prog_15_method_2_code 2 (some .long) ({ frames := 5, cells := 0, slots := 0, locals := 109 } : Room) [] #[(.ref p0), (.int (0 : Int32))] h0 [p1, p3] (fun w vm h => w = some (.long (og [x0, x1, x0, x1, x0, x1, x0, x1, x0, x1, x0, x1, x0, x1, x0, x1] 0)) ∧ OArr Z h p1 .long [(.long (og [x0, x1, x0, x1, x0, x1, x0, x1, x0, x1, x0, x1, x0, x1, x0, x1] 0)), (.long (og [x0, x1, x0, x1, x0, x1, x0, x1, x0, x1, x0, x1, x0, x1, x0, x1] 1)), (.long (og [x0, x1, x0, x1, x0, x1, x0, x1, x0, x1, x0, x1, x0, x1, x0, x1] 2)), (.long (og [x0, x1, x0, x1, x0, x1, x0, x1, x0, x1, x0, x1, x0, x1, x0, x1] 3)), (.long (og [x0, x1, x0, x1, x0, x1, x0, x1, x0, x1, x0, x1, x0, x1, x0, x1] 4)), (.long (og [x0, x1, x0, x1, x0, x1, x0, x1, x0, x1, x0, x1, x0, x1, x0, x1] 5)), (.long (og [x0, x1, x0, x1, x0, x1, x0, x1, x0, x1, x0, x1, x0, x1, x0, x1] 6)), (.long (og [x0, x1, x0, x1, x0, x1, x0, x1, x0, x1, x0, x1, x0, x1, x0, x1] 7)), (.long (og [x0, x1, x0, x1, x0, x1, x0, x1, x0, x1, x0, x1, x0, x1, x0, x1] 8)), (.long (og [x0, x1, x0, x1, x0, x1, x0, x1, x0, x1, x0, x1, x0, x1, x0, x1] 9)), (.long (og [x0, x1, x0, x1, x0, x1, x0, x1, x0, x1, x0, x1, x0, x1, x0, x1] 10)), (.long (og [x0, x1, x0, x1, x0, x1, x0, x1, x0, x1, x0, x1, x0, x1, x0, x1] 11)), (.long (og [x0, x1, x0, x1, x0, x1, x0, x1, x0, x1, x0, x1, x0, x1, x0, x1] 12)), (.long (og [x0, x1, x0, x1, x0, x1, x0, x1, x0, x1, x0, x1, x0, x1, x0, x1] 13)), (.long (og [x0, x1, x0, x1, x0, x1, x0, x1, x0, x1, x0, x1, x0, x1, x0, x1] 14)), (.long (og [x0, x1, x0, x1, x0, x1, x0, x1, x0, x1, x0, x1, x0, x1, x0, x1] 15))] ∧ OArr Z h p3 .long [(.long (131071 : Int64))] ∧ True) := by
  refine OCt.body (plainFor_of_name pn_e2) (ef_ct_e70 p0 ((0 : Int32))) ?_
  intro p e s m below meth c T hby hml hret hnm hsh P
  refine o_aloadN P (hb hby de37_0) rfl rfl (pc' := 1) rfl ?_
  refine o_iloadN P (hb hby de37_1) rfl (pc' := 2) rfl ?_
  have hn_1 := P.n0le; have hk_1 := P.keep0.1
  refine o_callQ P (W := 0) (a := p0) (ow hw 102 rfl) (ow hw 103 rfl) (ow hw 44 rfl) (ow hw 104 rfl) (ow hw 45 rfl) (ow hw 105 rfl) (by decide) F_p0.exa (ct_e69 l Z a0 hw EL n0 p0 p1 p2 p3 x0 x1 had od hod h0 F_p0 A_p1 F_p2 A_p3 ne_p0_p1 ne_p0_p2 ne_p0_p3 ne_p1_p2 ne_p1_p3 ne_p2_p3) (o_sfS (List.Mem.head _) (o_sfS (List.Mem.tail _ (List.Mem.head _)) o_sf0)) (by rw [hml]; rfl) (by decide) (by decide) (argsL := [(.int (0 : Int32))]) (rest := []) (lenOf pd_1 rfl) rfl rfl (Nat.le_of_eq rfl) (hb hby de37_2) (pc' := 5) rfl (by decide) (by decide) ?_
  clear P; intro T h2 v2 P K2 q2
  obtain ⟨rfl, Q_p1, Q_p3, -⟩ := q2
  replace F_p0 := F_p0.keep K2 (ninS ne_p0_p1 (ninS ne_p0_p3 nin0))
  replace F_p2 := F_p2.keep K2 (ninS (Ne.symm ne_p1_p2) (ninS ne_p2_p3 nin0))
  clear A_p1
  have A_p1 := Q_p1; clear Q_p1
  clear A_p3
  have A_p3 := Q_p3; clear Q_p3
  clear K2 hn_1 hk_1
  show OG p e below m _ T 5 #[.val (.ref p0), .val (.int (0 : Int32))] []
  refine o_aloadN P (hb hby de37_5) rfl rfl (pc' := 6) rfl ?_
  refine o_getF P (ow hw 50 rfl) Via.refl (F_p0.fld 0 rfl) (hb hby de37_6) (pc' := 9) rfl ?_
  clear P; intro T P
  refine o_iloadN P (hb hby de37_9) rfl (pc' := 10) rfl ?_
  refine o_laload P (v := (.long (og [x0, x1, x0, x1, x0, x1, x0, x1, x0, x1, x0, x1, x0, x1, x0, x1] 0))) A_p1 (by decide) rfl (hb hby de37_10) (pc' := 11) rfl ?_
  exact o_retL P hret (hb hby de37_11) (by decide) (by decide) ⟨rfl, A_p1, A_p3, trivial⟩
theorem ef_ct_e71 (x0 : Addr) (x1 : Int32) (x2 : Addr) (m : MethodId) : entryFrame m #[(.ref x0), (.int x1), (.ref x2)] 4 = mkF m 0 #[.val (.ref x0), .val (.int x1), .val (.ref x2), .unset] [] := by first | (simp [entryFrame, mkF, argsToLocals, o_catR, o_catN, o_catI, o_catJ, o_catD]; done) | rfl
set_option maxRecDepth 65536 in
set_option maxHeartbeats 40000000 in
theorem ct_e71 (l : Launch) (Z : State) (a0 : Array Value) (hw : ∀ d ∈ tables_1, d.before a0 Z = true) (EL : List (String × Nat)) (n0 : Nat) (p0 : Addr) (p1 : Addr) (x0 : Int64) (x1 : Int64) (had : Sta Z Z.heap "java/util/BitSet" "$assertionsDisabled" "Z" (.int 1)) (od : Addr) (hod : Sta Z Z.heap "com/example/centile/centile/function/Order" "ASCENDING" "Lcom/example/centile/centile/function/Order;" (.ref od)) (h0 : Heap) (F_p0 : OObj Z h0 p0 "com/example/centile/centile/function/Keys" [("com/example/centile/centile/function/Keys", "keys", "[J", (.ref p1)), ("com/example/centile/centile/function/Keys", "size", "I", (.int (16 : Int32))), ("com/example/centile/centile/function/Keys", "selection", "Lcom/example/centile/centile/function/Selection;", .null)]) (A_p1 : OArr Z h0 p1 .long [(.long x0), (.long x1), (.long x0), (.long x1), (.long x0), (.long x1), (.long x0), (.long x1), (.long x0), (.long x1), (.long x0), (.long x1), (.long x0), (.long x1), (.long x0), (.long x1)]) (ne_p0_p1 : p0 ≠ p1) :
    OCt l Z a0 EL n0 (⟨"com/example/centile/centile/function/Keys", "at", "(ILcom/example/centile/centile/function/Order;)J"⟩ : MethodName) prog_11_method_6_code 4 (some .long) ({ frames := 6, cells := 3, slots := 6, locals := 122 } : Room) [] #[(.ref p0), (.int (1 : Int32)), (.ref od)] h0 [p0, p1] (fun w vm h => ∃ n0 n1 n2 : Addr, w = some (.long (og [x0, x1, x0, x1, x0, x1, x0, x1, x0, x1, x0, x1, x0, x1, x0, x1] 0)) ∧ h0.size ≤ n0 ∧ h0.size ≤ n1 ∧ h0.size ≤ n2 ∧ n0 ≠ n1 ∧ n0 ≠ n2 ∧ n1 ≠ n2 ∧ OObj Z h p0 "com/example/centile/centile/function/Keys" [("com/example/centile/centile/function/Keys", "keys", "[J", (.ref p1)), ("com/example/centile/centile/function/Keys", "size", "I", (.int (16 : Int32))), ("com/example/centile/centile/function/Keys", "selection", "Lcom/example/centile/centile/function/Selection;", (.ref n0))] ∧ OArr Z h p1 .long [(.long (og [x0, x1, x0, x1, x0, x1, x0, x1, x0, x1, x0, x1, x0, x1, x0, x1] 0)), (.long (og [x0, x1, x0, x1, x0, x1, x0, x1, x0, x1, x0, x1, x0, x1, x0, x1] 1)), (.long (og [x0, x1, x0, x1, x0, x1, x0, x1, x0, x1, x0, x1, x0, x1, x0, x1] 2)), (.long (og [x0, x1, x0, x1, x0, x1, x0, x1, x0, x1, x0, x1, x0, x1, x0, x1] 3)), (.long (og [x0, x1, x0, x1, x0, x1, x0, x1, x0, x1, x0, x1, x0, x1, x0, x1] 4)), (.long (og [x0, x1, x0, x1, x0, x1, x0, x1, x0, x1, x0, x1, x0, x1, x0, x1] 5)), (.long (og [x0, x1, x0, x1, x0, x1, x0, x1, x0, x1, x0, x1, x0, x1, x0, x1] 6)), (.long (og [x0, x1, x0, x1, x0, x1, x0, x1, x0, x1, x0, x1, x0, x1, x0, x1] 7)), (.long (og [x0, x1, x0, x1, x0, x1, x0, x1, x0, x1, x0, x1, x0, x1, x0, x1] 8)), (.long (og [x0, x1, x0, x1, x0, x1, x0, x1, x0, x1, x0, x1, x0, x1, x0, x1] 9)), (.long (og [x0, x1, x0, x1, x0, x1, x0, x1, x0, x1, x0, x1, x0, x1, x0, x1] 10)), (.long (og [x0, x1, x0, x1, x0, x1, x0, x1, x0, x1, x0, x1, x0, x1, x0, x1] 11)), (.long (og [x0, x1, x0, x1, x0, x1, x0, x1, x0, x1, x0, x1, x0, x1, x0, x1] 12)), (.long (og [x0, x1, x0, x1, x0, x1, x0, x1, x0, x1, x0, x1, x0, x1, x0, x1] 13)), (.long (og [x0, x1, x0, x1, x0, x1, x0, x1, x0, x1, x0, x1, x0, x1, x0, x1] 14)), (.long (og [x0, x1, x0, x1, x0, x1, x0, x1, x0, x1, x0, x1, x0, x1, x0, x1] 15))] ∧ OObj Z h n0 "com/example/centile/centile/function/Selection" [("com/example/centile/centile/function/Selection", "values", "[J", (.ref p1)), ("com/example/centile/centile/function/Selection", "cuts", "Ljava/util/BitSet;", (.ref n1))] ∧ OObj Z h n1 "java/util/BitSet" [("java/util/BitSet", "wordsInUse", "I", (.int (1 : Int32))), ("java/util/BitSet", "sizeIsSticky", "Z", (.int (1 : Int32))), ("java/util/BitSet", "words", "[J", (.ref n2))] ∧ OArr Z h n2 .long [(.long (131071 : Int64))] ∧ True) := by
  refine OCt.body (plainFor_of_name pn_e0) (ef_ct_e71 p0 ((1 : Int32)) od) ?_
  intro p e s m below meth c T hby hml hret hnm hsh P
  refine o_aloadN P (hb hby de16_0) rfl rfl (pc' := 1) rfl ?_
  refine o_getF P (ow hw 24 rfl) Via.refl (F_p0.fld 2 rfl) (hb hby de16_1) (pc' := 4) rfl ?_
  clear P; intro T P
  refine o_ifnonnullN P (hb hby de16_4) (pc' := 7) rfl ?_
  refine o_aloadN P (hb hby de16_7) rfl rfl (pc' := 8) rfl ?_
  have hz_b1 := P.keep0.1
  refine o_new P [("com/example/centile/centile/function/Selection", "values", "[J", .null), ("com/example/centile/centile/function/Selection", "cuts", "Ljava/util/BitSet;", .null)] (ow hw 43 rfl) (ow hw 44 rfl) (ow hw 45 rfl) (OLd.cons (Or.inr (ow hw 51 rfl)) (ty := (.array .long)) (by decide) rfl (OLd.cons (Or.inr (ow hw 74 rfl)) (ty := (.object "java/util/BitSet")) (by decide) rfl OLd.nil)) (by decide +kernel) (hb hby de16_8) (pc' := 11) rfl (by decide) (by decide) ?_
  clear P; intro T h1 b1 P K1 hb_b1 F_b1
  have sz_b1 := Nat.le_trans hz_b1 hb_b1
  clear hz_b1
  have ne_p0_b1 : p0 ≠ b1 := Nat.ne_of_lt (Nat.lt_of_lt_of_le F_p0.lt hb_b1)
  have ne_p1_b1 : p1 ≠ b1 := Nat.ne_of_lt (Nat.lt_of_lt_of_le A_p1.lt hb_b1)
  replace F_p0 := F_p0.keep K1 nin0
  replace A_p1 := A_p1.keep K1 nin0
  clear K1
  refine o_dup P (hb hby de16_11) rfl (pc' := 12) rfl ?_
  refine o_aloadN P (hb hby de16_12) rfl rfl (pc' := 13) rfl ?_
  refine o_getF P (ow hw 10 rfl) Via.refl (F_p0.fld 0 rfl) (hb hby de16_13) (pc' := 16) rfl ?_
  clear P; intro T P
  refine o_aloadN P (hb hby de16_16) rfl rfl (pc' := 17) rfl ?_
  refine o_getF P (ow hw 22 rfl) Via.refl (F_p0.fld 1 rfl) (hb hby de16_17) (pc' := 20) rfl ?_
  clear P; intro T P
  have hn_2 := P.n0le; have hk_2 := P.keep0.1
  refine o_callI P (W := 2) (a := b1) rfl (ow hw 46 rfl) (ow hw 47 rfl) (ow hw 45 rfl) (ow hw 48 rfl) (by decide) (ct_e36 l Z a0 hw EL n0 b1 p1 x0 x1 had od hod h1 F_b1 A_p1 (Ne.symm ne_p1_b1)) (o_sfS (List.Mem.head _) o_sf0) (by rw [hml]; rfl) (by decide) (by decide) (argsL := [(.ref p1), (.int (16 : Int32))]) (rest := [(.ref b1), (.ref p0)]) (lenOf pd_5 rfl) rfl rfl (Nat.le_of_eq rfl) (hb hby de16_20) (pc' := 23) rfl (by decide) (by decide) ?_
  clear P; intro T h3 v3 P K3 q3
  obtain ⟨n0_2, n1_2, rfl, g_n0_2, g_n1_2, ne_n0_2_n1_2, Q_b1, Q_n0_2, Q_n1_2, -⟩ := q3
  have ne_p0_n0_2 : p0 ≠ n0_2 := Nat.ne_of_lt (Nat.lt_of_lt_of_le F_p0.lt g_n0_2)
  have ne_b1_n0_2 : b1 ≠ n0_2 := Nat.ne_of_lt (Nat.lt_of_lt_of_le F_b1.lt g_n0_2)
  have ne_p1_n0_2 : p1 ≠ n0_2 := Nat.ne_of_lt (Nat.lt_of_lt_of_le A_p1.lt g_n0_2)
  have sz_n0_2 := Nat.le_trans hk_2 g_n0_2
  have ne_p0_n1_2 : p0 ≠ n1_2 := Nat.ne_of_lt (Nat.lt_of_lt_of_le F_p0.lt g_n1_2)
  have ne_b1_n1_2 : b1 ≠ n1_2 := Nat.ne_of_lt (Nat.lt_of_lt_of_le F_b1.lt g_n1_2)
  have ne_p1_n1_2 : p1 ≠ n1_2 := Nat.ne_of_lt (Nat.lt_of_lt_of_le A_p1.lt g_n1_2)
  have sz_n1_2 := Nat.le_trans hk_2 g_n1_2
  replace F_p0 := F_p0.keep K3 (ninS ne_p0_b1 nin0)
  replace A_p1 := A_p1.keep K3 (ninS ne_p1_b1 nin0)
  clear F_b1
  have F_b1 := Q_b1; clear Q_b1
  have F_n0_2 := Q_n0_2; clear Q_n0_2
  have A_n1_2 := Q_n1_2; clear Q_n1_2
  replace P := P.moreO F_n0_2.exa (by decide) (by decide) (Nat.le_trans hn_2 g_n0_2) sz_n0_2
  replace P := P.moreA A_n1_2 (fun q => by cases q) (Nat.le_trans hn_2 g_n1_2) sz_n1_2
  clear K3 hn_2 hk_2
  show OG p e below m _ T 23 #[.val (.ref p0), .val (.int (1 : Int32)), .val (.ref od), .unset] [(.ref b1), (.ref p0)]
  refine o_putF P (v' := (.ref b1)) (ty := (.object "com/example/centile/centile/function/Selection")) (ow hw 24 rfl) Via.refl (F_p0.fld 2 rfl) F_p0.exa (Or.inl (ow hw 25 rfl)) (ow hw 1 rfl) (by decide) rfl rfl (List.Mem.tail _ (List.Mem.tail _ (List.Mem.tail _ (List.Mem.head _)))) (hb hby de16_23) (pc' := 26) rfl ?_
  clear P; intro T h4 P W4
  replace F_b1 := F_b1.oth W4 (Ne.symm ne_p0_b1)
  replace F_n0_2 := F_n0_2.oth W4 (Ne.symm ne_p0_n0_2)
  replace A_p1 := A_p1.oth W4 (Ne.symm ne_p0_p1)
  replace A_n1_2 := A_n1_2.oth W4 (Ne.symm ne_p0_n1_2)
  replace F_p0 : OObj Z h4 p0 "com/example/centile/centile/function/Keys" [("com/example/centile/centile/function/Keys", "keys", "[J", (.ref p1)), ("com/example/centile/centile/function/Keys", "size", "I", (.int (16 : Int32))), ("com/example/centile/centile/function/Keys", "selection", "Lcom/example/centile/centile/function/Selection;", (.ref b1))] := F_p0.put 2 rfl W4
  clear W4
  refine o_aloadN P (hb hby de16_26) rfl rfl (pc' := 27) rfl ?_
  refine o_getS P (ow hw 96 rfl) Via.refl hod (hb hby de16_27) (pc' := 30) rfl ?_
  clear P; intro T P
  refine o_acmp P true (hb hby de16_30) rfl rfl (decide_eq_true rfl) (by decide) (pc' := 33) rfl ?_
  refine o_iloadN P (hb hby de16_33) rfl (pc' := 34) rfl ?_
  refine o_iconst P (1 : Int32) (hb hby de16_34) rfl (pc' := 35) rfl ?_
  refine o_isub P (hb hby de16_35) (pc' := 36) rfl ?_
  show OG p e below m _ T 36 #[.val (.ref p0), .val (.int (1 : Int32)), .val (.ref od), .unset] [(.int (0 : Int32))]
  refine o_goto P (hb hby de16_36) (by decide) (pc' := 45) (by decide) ?_
  refine o_istoreN P (hb hby de16_45) (L' := #[.val (.ref p0), .val (.int (1 : Int32)), .val (.ref od), .val (.int (0 : Int32))]) rfl (pc' := 46) rfl ?_
  refine o_aloadN P (hb hby de16_46) rfl rfl (pc' := 47) rfl ?_
  refine o_getF P (ow hw 24 rfl) Via.refl (F_p0.fld 2 rfl) (hb hby de16_47) (pc' := 50) rfl ?_
  clear P; intro T P
  refine o_iloadN P (hb hby de16_50) rfl (pc' := 51) rfl ?_
  have hn_5 := P.n0le; have hk_5 := P.keep0.1
  refine o_callV P (W := 0) (x := (⟨"com/example/centile/centile/function/Selection", "valueAt", "(I)J"⟩ : MethodName)) (y := (⟨"com/example/centile/centile/function/Selection", "valueAt", "(I)J"⟩ : MethodName)) (a := b1) (ow hw 97 rfl) (ow hw 98 rfl) (o_nfSel (y := (⟨"com/example/centile/centile/function/Selection", "valueAt", "(I)J"⟩ : MethodName)) rfl (ow hw 100 rfl)) (ow hw 100 rfl) (ow hw 99 rfl) (ow hw 45 rfl) (ow hw 101 rfl) (by decide) F_b1.exa (ct_e70 l Z a0 hw EL n0 b1 p1 n0_2 n1_2 x0 x1 had od hod h4 F_b1 A_p1 F_n0_2 A_n1_2 (Ne.symm ne_p1_b1) ne_b1_n0_2 ne_b1_n1_2 ne_p1_n0_2 ne_p1_n1_2 ne_n0_2_n1_2) (o_sfS (List.Mem.tail _ (List.Mem.tail _ (List.Mem.tail _ (List.Mem.tail _ (List.Mem.head _))))) (o_sfS (List.Mem.head _) o_sf0)) (by rw [hml]; rfl) (by decide) (by decide) (argsL := [(.int (0 : Int32))]) (rest := []) (lenOf pd_13 rfl) rfl rfl (Nat.le_of_eq rfl) (hb hby de16_51) (pc' := 54) rfl (by decide) (by decide) ?_
  clear P; intro T h6 v6 P K6 q6
  obtain ⟨rfl, Q_p1, Q_n1_2, -⟩ := q6
  replace F_p0 := F_p0.keep K6 (ninS ne_p0_p1 (ninS ne_p0_n1_2 nin0))
  replace F_b1 := F_b1.keep K6 (ninS (Ne.symm ne_p1_b1) (ninS ne_b1_n1_2 nin0))
  replace F_n0_2 := F_n0_2.keep K6 (ninS (Ne.symm ne_p1_n0_2) (ninS ne_n0_2_n1_2 nin0))
  clear A_p1
  have A_p1 := Q_p1; clear Q_p1
  clear A_n1_2
  have A_n1_2 := Q_n1_2; clear Q_n1_2
  clear K6 hn_5 hk_5
  show OG p e below m _ T 54 #[.val (.ref p0), .val (.int (1 : Int32)), .val (.ref od), .val (.int (0 : Int32))] [(.long (og [x0, x1, x0, x1, x0, x1, x0, x1, x0, x1, x0, x1, x0, x1, x0, x1] 0))]
  exact o_retL P hret (hb hby de16_54) (by decide) (by decide) ⟨b1, n0_2, n1_2, rfl, hsh ▸ sz_b1, hsh ▸ sz_n0_2, hsh ▸ sz_n1_2, ne_b1_n0_2, ne_b1_n1_2, ne_n0_2_n1_2, F_p0, A_p1, F_b1, F_n0_2, A_n1_2, trivial⟩
theorem de72_0 : decode jdk_29_method_65_code 0 = .ok (.iload_n 0, 1) := by decide +kernel
theorem de72_1 : decode jdk_29_method_65_code 1 = .ok (.iload_n 1, 1) := by decide +kernel
theorem de72_2 : decode jdk_29_method_65_code 2 = .ok (.if_icmp .lt 7, 3) := by decide +kernel
theorem de72_5 : decode jdk_29_method_65_code 5 = .ok (.iload_n 0, 1) := by decide +kernel
theorem de72_6 : decode jdk_29_method_65_code 6 = .ok (.goto 4, 3) := by decide +kernel
theorem de72_9 : decode jdk_29_method_65_code 9 = .ok (.iload_n 1, 1) := by decide +kernel
theorem de72_10 : decode jdk_29_method_65_code 10 = .ok (.ireturn, 1) := by decide +kernel
theorem ef_ct_e73 (x0 : Int32) (x1 : Int32) (m : MethodId) : entryFrame m #[(.int x0), (.int x1)] 2 = mkF m 0 #[.val (.int x0), .val (.int x1)] [] := by first | (simp [entryFrame, mkF, argsToLocals, o_catR, o_catN, o_catI, o_catJ, o_catD]; done) | rfl
set_option maxRecDepth 65536 in
set_option maxHeartbeats 40000000 in
theorem ct_e73 (l : Launch) (Z : State) (a0 : Array Value) (hw : ∀ d ∈ tables_1, d.before a0 Z = true) (EL : List (String × Nat)) (n0 : Nat)   (had : Sta Z Z.heap "java/util/BitSet" "$assertionsDisabled" "Z" (.int 1)) (od : Addr) (hod : Sta Z Z.heap "com/example/centile/centile/function/Order" "ASCENDING" "Lcom/example/centile/centile/function/Order;" (.ref od)) (h0 : Heap)   :
    OCt l Z a0 EL n0 (⟨"java/lang/Math", "max", "(II)I"⟩ : MethodName) jdk_29_method_65_code 2 (some .int) ({ frames := 0, cells := 0, slots := 0, locals := 0 } : Room) [] #[(.int (17 : Int32)), (.int (32 : Int32))] h0 [] (fun w vm h => w = some (.int (32 : Int32)) ∧ h = h0) := by
  refine OCt.body (Jvm.Free.JP.mathPlain rfl (by decide +kernel)) (ef_ct_e73 ((17 : Int32)) ((32 : Int32))) ?_
  intro p e s m below meth c T hby hml hret hnm hsh P
  refine o_iloadN P (hb hby de72_0) rfl (pc' := 1) rfl ?_
  refine o_iloadN P (hb hby de72_1) rfl (pc' := 2) rfl ?_
  refine o_icmp_lt P (hb hby de72_2) (by decide) (pc' := 9) (by decide) (pcf := 5) rfl (fun _ => ?_) (fun q => absurd (by decide) q)
  refine o_iloadN P (hb hby de72_9) rfl (pc' := 10) rfl ?_
  exact o_retI P hret (by simp) rfl (hb hby de72_10) (by decide) (by decide) ⟨rfl, rfl⟩
theorem de74_0 : decode jdk_65_method_124_code 0 = .ok (.iload_n 1, 1) := by decide +kernel
theorem de74_1 : decode jdk_65_method_124_code 1 = .ok (.aload_n 0, 1) := by decide +kernel
theorem de74_2 : decode jdk_65_method_124_code 2 = .ok (.arraylength, 1) := by decide +kernel
theorem de74_3 : decode jdk_65_method_124_code 3 = .ok (.if_icmp .ne 11, 3) := by decide +kernel
theorem de74_6 : decode jdk_65_method_124_code 6 = .ok (.aload_n 0, 1) := by decide +kernel
theorem de74_7 : decode jdk_65_method_124_code 7 = .ok (.invokevirtual 319, 3) := by decide +kernel
theorem de74_10 : decode jdk_65_method_124_code 10 = .ok (.checkcast 320, 3) := by decide +kernel
theorem de74_13 : decode jdk_65_method_124_code 13 = .ok (.areturn, 1) := by decide +kernel
theorem de74_14 : decode jdk_65_method_124_code 14 = .ok (.iload_n 1, 1) := by decide +kernel
theorem de74_15 : decode jdk_65_method_124_code 15 = .ok (.newarray .long, 2) := by decide +kernel
theorem de74_17 : decode jdk_65_method_124_code 17 = .ok (.astore_n 2, 1) := by decide +kernel
theorem de74_18 : decode jdk_65_method_124_code 18 = .ok (.aload_n 0, 1) := by decide +kernel
theorem de74_19 : decode jdk_65_method_124_code 19 = .ok (.iconst 0, 1) := by decide +kernel
theorem de74_20 : decode jdk_65_method_124_code 20 = .ok (.aload_n 2, 1) := by decide +kernel
theorem de74_21 : decode jdk_65_method_124_code 21 = .ok (.iconst 0, 1) := by decide +kernel
theorem de74_22 : decode jdk_65_method_124_code 22 = .ok (.aload_n 0, 1) := by decide +kernel
theorem de74_23 : decode jdk_65_method_124_code 23 = .ok (.arraylength, 1) := by decide +kernel
theorem de74_24 : decode jdk_65_method_124_code 24 = .ok (.iload_n 1, 1) := by decide +kernel
theorem de74_25 : decode jdk_65_method_124_code 25 = .ok (.invokestatic 304, 3) := by decide +kernel
theorem de74_28 : decode jdk_65_method_124_code 28 = .ok (.invokestatic 150, 3) := by decide +kernel
theorem de74_31 : decode jdk_65_method_124_code 31 = .ok (.aload_n 2, 1) := by decide +kernel
theorem de74_32 : decode jdk_65_method_124_code 32 = .ok (.areturn, 1) := by decide +kernel
theorem de75_0 : decode jdk_29_method_69_code 0 = .ok (.iload_n 0, 1) := by decide +kernel
theorem de75_1 : decode jdk_29_method_69_code 1 = .ok (.iload_n 1, 1) := by decide +kernel
theorem de75_2 : decode jdk_29_method_69_code 2 = .ok (.if_icmp .gt 7, 3) := by decide +kernel
theorem de75_5 : decode jdk_29_method_69_code 5 = .ok (.iload_n 0, 1) := by decide +kernel
theorem de75_6 : decode jdk_29_method_69_code 6 = .ok (.goto 4, 3) := by decide +kernel
theorem de75_9 : decode jdk_29_method_69_code 9 = .ok (.iload_n 1, 1) := by decide +kernel
theorem de75_10 : decode jdk_29_method_69_code 10 = .ok (.ireturn, 1) := by decide +kernel
theorem ef_ct_e76 (x0 : Int32) (x1 : Int32) (m : MethodId) : entryFrame m #[(.int x0), (.int x1)] 2 = mkF m 0 #[.val (.int x0), .val (.int x1)] [] := by first | (simp [entryFrame, mkF, argsToLocals, o_catR, o_catN, o_catI, o_catJ, o_catD]; done) | rfl
set_option maxRecDepth 65536 in
set_option maxHeartbeats 40000000 in
theorem ct_e76 (l : Launch) (Z : State) (a0 : Array Value) (hw : ∀ d ∈ tables_1, d.before a0 Z = true) (EL : List (String × Nat)) (n0 : Nat)   (had : Sta Z Z.heap "java/util/BitSet" "$assertionsDisabled" "Z" (.int 1)) (od : Addr) (hod : Sta Z Z.heap "com/example/centile/centile/function/Order" "ASCENDING" "Lcom/example/centile/centile/function/Order;" (.ref od)) (h0 : Heap)   :
    OCt l Z a0 EL n0 (⟨"java/lang/Math", "min", "(II)I"⟩ : MethodName) jdk_29_method_69_code 2 (some .int) ({ frames := 0, cells := 0, slots := 0, locals := 0 } : Room) [] #[(.int (16 : Int32)), (.int (32 : Int32))] h0 [] (fun w vm h => w = some (.int (16 : Int32)) ∧ h = h0) := by
  refine OCt.body (Jvm.Free.JP.mathPlain rfl (by decide +kernel)) (ef_ct_e76 ((16 : Int32)) ((32 : Int32))) ?_
  intro p e s m below meth c T hby hml hret hnm hsh P
  refine o_iloadN P (hb hby de75_0) rfl (pc' := 1) rfl ?_
  refine o_iloadN P (hb hby de75_1) rfl (pc' := 2) rfl ?_
  refine o_icmp_gt P (hb hby de75_2) (by decide) (pc' := 9) (by decide) (pcf := 5) rfl (fun q => absurd q (by decide)) (fun _ => ?_)
  refine o_iloadN P (hb hby de75_5) rfl (pc' := 6) rfl ?_
  refine o_goto P (hb hby de75_6) (by decide) (pc' := 10) (by decide) ?_
  exact o_retI P hret (by simp) rfl (hb hby de75_10) (by decide) (by decide) ⟨rfl, rfl⟩
theorem ef_ct_e77 (x0 : Addr) (x1 : Int32) (m : MethodId) : entryFrame m #[(.ref x0), (.int x1)] 3 = mkF m 0 #[.val (.ref x0), .val (.int x1), .unset] [] := by first | (simp [entryFrame, mkF, argsToLocals, o_catR, o_catN, o_catI, o_catJ, o_catD]; done) | rfl
set_option maxRecDepth 65536 in
set_option maxHeartbeats 40000000 in
theorem ct_e77 (l : Launch) (Z : State) (a0 : Array Value) (hw : ∀ d ∈ tables_1, d.before a0 Z = true) (EL : List (String × Nat)) (n0 : Nat) (p0 : Addr) (x0 : Int64) (x1 : Int64) (x2 : Int64) (x3 : Int64) (x4 : Int64) (x5 : Int64) (x6 : Int64) (x7 : Int64) (x8 : Int64) (x9 : Int64) (x10 : Int64) (x11 : Int64) (x12 : Int64) (x13 : Int64) (x14 : Int64) (x15 : Int64) (had : Sta Z Z.heap "java/util/BitSet" "$assertionsDisabled" "Z" (.int 1)) (od : Addr) (hod : Sta Z Z.heap "com/example/centile/centile/function/Order" "ASCENDING" "Lcom/example/centile/centile/function/Order;" (.ref od)) (h0 : Heap) (A_p0 : OArr Z h0 p0 .long [(.long x0), (.long x1), (.long x2), (.long x3), (.long x4), (.long x5), (.long x6), (.long x7), (.long x8), (.long x9), (.long x10), (.long x11), (.long x12), (.long x13), (.long x14), (.long x15)])  :
    OCt l Z a0 EL n0 (⟨"java/util/Arrays", "copyOf", "([JI)[J"⟩ : MethodName) jdk_65_method_124_code 3 (some (.array .long)) ({ frames := 1, cells := 1, slots := 32, locals := 24 } : Room) [] #[(.ref p0), (.int (32 : Int32))] h0 [] (fun w vm h => ∃ n0 : Addr, w = some (.ref n0) ∧ h0.size ≤ n0 ∧ OArr Z h n0 .long [(.long x0), (.long x1), (.long x2), (.long x3), (.long x4), (.long x5), (.long x6), (.long x7), (.long x8), (.long x9), (.long x10), (.long x11), (.long x12), (.long x13), (.long x14), (.long x15), (.long (0 : Int64)), (.long (0 : Int64)), (.long (0 : Int64)), (.long (0 : Int64)), (.long (0 : Int64)), (.long (0 : Int64)), (.long (0 : Int64)), (.long (0 : Int64)), (.long (0 : Int64)), (.long (0 : Int64)), (.long (0 : Int64)), (.long (0 : Int64)), (.long (0 : Int64)), (.long (0 : Int64)), (.long (0 : Int64)), (.long (0 : Int64))] ∧ True) := by
  refine OCt.body (plainFor_of_name pn_e5) (ef_ct_e77 p0 ((32 : Int32))) ?_
  intro p e s m below meth c T hby hml hret hnm hsh P
  refine o_iloadN P (hb hby de74_0) rfl (pc' := 1) rfl ?_
  refine o_aloadN P (hb hby de74_1) rfl rfl (pc' := 2) rfl ?_
  refine o_arrlen P A_p0 (hb hby de74_2) (n := (16 : Int32)) rfl (pc' := 3) rfl ?_
  refine o_icmp_ne P (hb hby de74_3) (by decide) (pc' := 14) (by decide) (pcf := 6) rfl (fun _ => ?_) (fun q => absurd q (by decide))
  refine o_iloadN P (hb hby de74_14) rfl (pc' := 15) rfl ?_
  have hz_b1 := P.keep0.1
  refine o_newarr P (cap := 32) (ow hw 9 rfl) (hb hby de74_15) (by decide) (by decide) (by decide) (pc' := 17) rfl (by decide) (by decide) ?_
  clear P; intro T h1 b1 P K1 hb_b1 A_b1
  have sz_b1 := Nat.le_trans hz_b1 hb_b1
  clear hz_b1
  have ne_p0_b1 : p0 ≠ b1 := Nat.ne_of_lt (Nat.lt_of_lt_of_le A_p0.lt hb_b1)
  replace A_p0 := A_p0.keep K1 nin0
  clear K1
  replace A_b1 : OArr Z h1 b1 .long [(.long 0), (.long 0), (.long 0), (.long 0), (.long 0), (.long 0), (.long 0), (.long 0), (.long 0), (.long 0), (.long 0), (.long 0), (.long 0), (.long 0), (.long 0), (.long 0), (.long 0), (.long 0), (.long 0), (.long 0), (.long 0), (.long 0), (.long 0), (.long 0), (.long 0), (.long 0), (.long 0), (.long 0), (.long 0), (.long 0), (.long 0), (.long 0)] := A_b1
  refine o_astoreN P (hb hby de74_17) rfl (L' := #[.val (.ref p0), .val (.int (32 : Int32)), .val (.ref b1)]) rfl (pc' := 18) rfl ?_
  refine o_aloadN P (hb hby de74_18) rfl rfl (pc' := 19) rfl ?_
  refine o_iconst P (0 : Int32) (hb hby de74_19) rfl (pc' := 20) rfl ?_
  refine o_aloadN P (hb hby de74_20) rfl rfl (pc' := 21) rfl ?_
  refine o_iconst P (0 : Int32) (hb hby de74_21) rfl (pc' := 22) rfl ?_
  refine o_aloadN P (hb hby de74_22) rfl rfl (pc' := 23) rfl ?_
  refine o_arrlen P A_p0 (hb hby de74_23) (n := (16 : Int32)) rfl (pc' := 24) rfl ?_
  refine o_iloadN P (hb hby de74_24) rfl (pc' := 25) rfl ?_
  refine o_callS P (W := 4) (ow hw 170 rfl) (ow hw 171 rfl) (ow hw 165 rfl) (ow hw 172 rfl) (by decide) (ct_e76 l Z a0 hw EL n0   had od hod h1  ) o_sf0 (by rw [hml]; rfl) (by decide) (by decide) (argsL := [(.int (16 : Int32)), (.int (32 : Int32))]) (rest := [(.int (0 : Int32)), (.ref b1), (.int (0 : Int32)), (.ref p0)]) (lenOf pd_15 rfl) rfl rfl (Nat.le_of_eq rfl) (hb hby de74_25) (pc' := 28) rfl (by decide) (by decide) ?_
  clear P; intro T h3 v3 P K3 q3
  obtain ⟨rfl, rfl⟩ := q3; clear K3
  show OG p e below m _ T 28 #[.val (.ref p0), .val (.int (32 : Int32)), .val (.ref b1)] [(.int (16 : Int32)), (.int (0 : Int32)), (.ref b1), (.int (0 : Int32)), (.ref p0)]
  refine o_cpA P (W := 0) (us := [(.long x0), (.long x1), (.long x2), (.long x3), (.long x4), (.long x5), (.long x6), (.long x7), (.long x8), (.long x9), (.long x10), (.long x11), (.long x12), (.long x13), (.long x14), (.long x15)]) (ow hw 173 rfl) (ow hw 34 rfl) (ow hw 32 rfl) (ow hw 33 rfl) A_p0 A_b1 (List.Mem.head _) (Or.inl ⟨rfl, rfl⟩) (by decide) (by decide) (by decide) (of_decide_eq_true rfl) (of_decide_eq_true rfl) rfl (by rw [hml]; rfl) (by decide) (Nat.le_of_eq rfl) (by decide) (hb hby de74_28) (pc' := 31) rfl ?_
  clear P; intro T h4 P K4 A'
  replace A_p0 := A_p0.keep K4 (ninS ne_p0_b1 nin0)
  clear A_b1; have A_b1 : OArr Z h4 b1 .long [(.long x0), (.long x1), (.long x2), (.long x3), (.long x4), (.long x5), (.long x6), (.long x7), (.long x8), (.long x9), (.long x10), (.long x11), (.long x12), (.long x13), (.long x14), (.long x15), (.long (0 : Int64)), (.long (0 : Int64)), (.long (0 : Int64)), (.long (0 : Int64)), (.long (0 : Int64)), (.long (0 : Int64)), (.long (0 : Int64)), (.long (0 : Int64)), (.long (0 : Int64)), (.long (0 : Int64)), (.long (0 : Int64)), (.long (0 : Int64)), (.long (0 : Int64)), (.long (0 : Int64)), (.long (0 : Int64)), (.long (0 : Int64))] := A'; clear A' K4
  refine o_aloadN P (hb hby de74_31) rfl rfl (pc' := 32) rfl ?_
  exact o_retA P hret rfl rfl rfl (hb hby de74_32) (by decide) (by decide) ⟨b1, rfl, hsh ▸ sz_b1, A_b1, trivial⟩
theorem ef_ct_e78 (x0 : Addr) (x1 : Int32) (m : MethodId) : entryFrame m #[(.ref x0), (.int x1)] 4 = mkF m 0 #[.val (.ref x0), .val (.int x1), .unset, .unset] [] := by first | (simp [entryFrame, mkF, argsToLocals, o_catR, o_catN, o_catI, o_catJ, o_catD]; done) | rfl
set_option maxRecDepth 65536 in
set_option maxHeartbeats 40000000 in
theorem ct_e78 (l : Launch) (Z : State) (a0 : Array Value) (hw : ∀ d ∈ tables_1, d.before a0 Z = true) (EL : List (String × Nat)) (n0 : Nat) (p0 : Addr) (p1 : Addr) (p2 : Addr) (x0 : Int64) (x1 : Int64) (x2 : Int64) (x3 : Int64) (x4 : Int64) (x5 : Int64) (x6 : Int64) (x7 : Int64) (x8 : Int64) (x9 : Int64) (x10 : Int64) (x11 : Int64) (x12 : Int64) (x13 : Int64) (x14 : Int64) (x15 : Int64) (had : Sta Z Z.heap "java/util/BitSet" "$assertionsDisabled" "Z" (.int 1)) (od : Addr) (hod : Sta Z Z.heap "com/example/centile/centile/function/Order" "ASCENDING" "Lcom/example/centile/centile/function/Order;" (.ref od)) (h0 : Heap) (F_p0 : OObj Z h0 p0 "com/example/centile/centile/function/Keys" [("com/example/centile/centile/function/Keys", "keys", "[J", (.ref p1)), ("com/example/centile/centile/function/Keys", "size", "I", (.int (16 : Int32))), ("com/example/centile/centile/function/Keys", "selection", "Lcom/example/centile/centile/function/Selection;", (.ref p2))]) (A_p1 : OArr Z h0 p1 .long [(.long x0), (.long x1), (.long x2), (.long x3), (.long x4), (.long x5), (.long x6), (.long x7), (.long x8), (.long x9), (.long x10), (.long x11), (.long x12), (.long x13), (.long x14), (.long x15)]) (ne_p0_p1 : p0 ≠ p1) :
    OCt l Z a0 EL n0 (⟨"com/example/centile/centile/function/Keys", "ensureRoom", "(I)V"⟩ : MethodName) prog_11_method_7_code 4 none ({ frames := 2, cells := 1, slots := 32, locals := 39 } : Room) [] #[(.ref p0), (.int (1 : Int32))] h0 [p0] (fun w vm h => ∃ n0 : Addr, w = none ∧ h0.size ≤ n0 ∧ OObj Z h p0 "com/example/centile/centile/function/Keys" [("com/example/centile/centile/function/Keys", "keys", "[J", (.ref n0)), ("com/example/centile/centile/function/Keys", "size", "I", (.int (16 : Int32))), ("com/example/centile/centile/function/Keys", "selection", "Lcom/example/centile/centile/function/Selection;", (.ref p2))] ∧ OArr Z h n0 .long [(.long x0), (.long x1), (.long x2), (.long x3), (.long x4), (.long x5), (.long x6), (.long x7), (.long x8), (.long x9), (.long x10), (.long x11), (.long x12), (.long x13), (.long x14), (.long x15), (.long (0 : Int64)), (.long (0 : Int64)), (.long (0 : Int64)), (.long (0 : Int64)), (.long (0 : Int64)), (.long (0 : Int64)), (.long (0 : Int64)), (.long (0 : Int64)), (.long (0 : Int64)), (.long (0 : Int64)), (.long (0 : Int64)), (.long (0 : Int64)), (.long (0 : Int64)), (.long (0 : Int64)), (.long (0 : Int64)), (.long (0 : Int64))] ∧ True) := by
  refine OCt.body (plainFor_of_name pn_e0) (ef_ct_e78 p0 ((1 : Int32))) ?_
  intro p e s m below meth c T hby hml hret hnm hsh P
  refine o_iloadN P (hb hby de4_0) rfl (pc' := 1) rfl ?_
  refine o_ldcI P (ow hw 21 rfl) (hb hby de4_1) (pc' := 3) rfl ?_
  refine o_aloadN P (hb hby de4_3) rfl rfl (pc' := 4) rfl ?_
  refine o_getF P (ow hw 22 rfl) Via.refl (F_p0.fld 1 rfl) (hb hby de4_4) (pc' := 7) rfl ?_
  clear P; intro T P
  refine o_isub P (hb hby de4_7) (pc' := 8) rfl ?_
  show OG p e below m _ T 8 #[.val (.ref p0), .val (.int (1 : Int32)), .unset, .unset] [(.int (2147483623 : Int32)), (.int (1 : Int32))]
  refine o_icmp_le P (hb hby de4_8) (by decide) (pc' := 21) (by decide) (pcf := 11) rfl (fun _ => ?_) (fun q => absurd q (by decide))
  refine o_aloadN P (hb hby de4_21) rfl rfl (pc' := 22) rfl ?_
  refine o_getF P (ow hw 22 rfl) Via.refl (F_p0.fld 1 rfl) (hb hby de4_22) (pc' := 25) rfl ?_
  clear P; intro T P
  refine o_iloadN P (hb hby de4_25) rfl (pc' := 26) rfl ?_
  refine o_iadd P (hb hby de4_26) (pc' := 27) rfl ?_
  show OG p e below m _ T 27 #[.val (.ref p0), .val (.int (1 : Int32)), .unset, .unset] [(.int (17 : Int32))]
  refine o_istoreN P (hb hby de4_27) (L' := #[.val (.ref p0), .val (.int (1 : Int32)), .val (.int (17 : Int32)), .unset]) rfl (pc' := 28) rfl ?_
  refine o_iloadN P (hb hby de4_28) rfl (pc' := 29) rfl ?_
  refine o_aloadN P (hb hby de4_29) rfl rfl (pc' := 30) rfl ?_
  refine o_getF P (ow hw 10 rfl) Via.refl (F_p0.fld 0 rfl) (hb hby de4_30) (pc' := 33) rfl ?_
  clear P; intro T P
  refine o_arrlen P A_p1 (hb hby de4_33) (n := (16 : Int32)) rfl (pc' := 34) rfl ?_
  refine o_icmp_le P (hb hby de4_34) (by decide) (pc' := 76) (by decide) (pcf := 37) rfl (fun q => absurd (by decide) q) (fun _ => ?_)
  refine o_aloadN P (hb hby de4_37) rfl rfl (pc' := 38) rfl ?_
  refine o_getF P (ow hw 10 rfl) Via.refl (F_p0.fld 0 rfl) (hb hby de4_38) (pc' := 41) rfl ?_
  clear P; intro T P
  refine o_arrlen P A_p1 (hb hby de4_41) (n := (16 : Int32)) rfl (pc' := 42) rfl ?_
  refine o_ldcI P (ow hw 162 rfl) (hb hby de4_42) (pc' := 44) rfl ?_
  refine o_icmp_le P (hb hby de4_44) (by decide) (pc' := 52) (by decide) (pcf := 47) rfl (fun _ => ?_) (fun q => absurd q (by decide))
  refine o_aloadN P (hb hby de4_52) rfl rfl (pc' := 53) rfl ?_
  refine o_getF P (ow hw 10 rfl) Via.refl (F_p0.fld 0 rfl) (hb hby de4_53) (pc' := 56) rfl ?_
  clear P; intro T P
  refine o_arrlen P A_p1 (hb hby de4_56) (n := (16 : Int32)) rfl (pc' := 57) rfl ?_
  refine o_iconst P (2 : Int32) (hb hby de4_57) rfl (pc' := 58) rfl ?_
  refine o_imul P (hb hby de4_58) (pc' := 59) rfl ?_
  show OG p e below m _ T 59 #[.val (.ref p0), .val (.int (1 : Int32)), .val (.int (17 : Int32)), .unset] [(.int (32 : Int32))]
  refine o_istoreN P (hb hby de4_59) (L' := #[.val (.ref p0), .val (.int (1 : Int32)), .val (.int (17 : Int32)), .val (.int (32 : Int32))]) rfl (pc' := 60) rfl ?_
  refine o_aloadN P (hb hby de4_60) rfl rfl (pc' := 61) rfl ?_
  refine o_aloadN P (hb hby de4_61) rfl rfl (pc' := 62) rfl ?_
  refine o_getF P (ow hw 10 rfl) Via.refl (F_p0.fld 0 rfl) (hb hby de4_62) (pc' := 65) rfl ?_
  clear P; intro T P
  refine o_iloadN P (hb hby de4_65) rfl (pc' := 66) rfl ?_
  refine o_iloadN P (hb hby de4_66) rfl (pc' := 67) rfl ?_
  refine o_callS P (W := 2) (ow hw 163 rfl) (ow hw 164 rfl) (ow hw 165 rfl) (ow hw 166 rfl) (by decide) (ct_e73 l Z a0 hw EL n0   had od hod h0  ) o_sf0 (by rw [hml]; rfl) (by decide) (by decide) (argsL := [(.int (17 : Int32)), (.int (32 : Int32))]) (rest := [(.ref p1), (.ref p0)]) (lenOf pd_15 rfl) rfl rfl (Nat.le_of_eq rfl) (hb hby de4_67) (pc' := 70) rfl (by decide) (by decide) ?_
  clear P; intro T h2 v2 P K2 q2
  obtain ⟨rfl, rfl⟩ := q2; clear K2
  show OG p e below m _ T 70 #[.val (.ref p0), .val (.int (1 : Int32)), .val (.int (17 : Int32)), .val (.int (32 : Int32))] [(.int (32 : Int32)), (.ref p1), (.ref p0)]
  have hn_3 := P.n0le; have hk_3 := P.keep0.1
  refine o_callS P (W := 1) (ow hw 167 rfl) (ow hw 168 rfl) (ow hw 139 rfl) (ow hw 169 rfl) (by decide) (ct_e77 l Z a0 hw EL n0 p1 x0 x1 x2 x3 x4 x5 x6 x7 x8 x9 x10 x11 x12 x13 x14 x15 had od hod h2 A_p1 ) o_sf0 (by rw [hml]; rfl) (by decide) (by decide) (argsL := [(.ref p1), (.int (32 : Int32))]) (rest := [(.ref p0)]) (lenOf pd_16 rfl) rfl rfl (Nat.le_of_eq rfl) (hb hby de4_70) (pc' := 73) rfl (by decide) (by decide) ?_
  clear P; intro T h4 v4 P K4 q4
  obtain ⟨n0_3, rfl, g_n0_3, Q_n0_3, -⟩ := q4
  have ne_p0_n0_3 : p0 ≠ n0_3 := Nat.ne_of_lt (Nat.lt_of_lt_of_le F_p0.lt g_n0_3)
  have ne_p1_n0_3 : p1 ≠ n0_3 := Nat.ne_of_lt (Nat.lt_of_lt_of_le A_p1.lt g_n0_3)
  have sz_n0_3 := Nat.le_trans hk_3 g_n0_3
  replace F_p0 := F_p0.keep K4 nin0
  replace A_p1 := A_p1.keep K4 nin0
  have A_n0_3 := Q_n0_3; clear Q_n0_3
  replace P := P.moreA A_n0_3 (fun q => by cases q) (Nat.le_trans hn_3 g_n0_3) sz_n0_3
  clear K4 hn_3 hk_3
  show OG p e below m _ T 73 #[.val (.ref p0), .val (.int (1 : Int32)), .val (.int (17 : Int32)), .val (.int (32 : Int32))] [(.ref n0_3), (.ref p0)]
  refine o_putF P (v' := (.ref n0_3)) (ty := (.array .long)) (ow hw 10 rfl) Via.refl (F_p0.fld 0 rfl) F_p0.exa (Or.inl (ow hw 11 rfl)) (ow hw 1 rfl) (by decide) rfl rfl (List.Mem.tail _ (List.Mem.head _)) (hb hby de4_73) (pc' := 76) rfl ?_
  clear P; intro T h5 P W5
  replace A_p1 := A_p1.oth W5 (Ne.symm ne_p0_p1)
  replace A_n0_3 := A_n0_3.oth W5 (Ne.symm ne_p0_n0_3)
  replace F_p0 : OObj Z h5 p0 "com/example/centile/centile/function/Keys" [("com/example/centile/centile/function/Keys", "keys", "[J", (.ref n0_3)), ("com/example/centile/centile/function/Keys", "size", "I", (.int (16 : Int32))), ("com/example/centile/centile/function/Keys", "selection", "Lcom/example/centile/centile/function/Selection;", (.ref p2))] := F_p0.put 0 rfl W5
  clear W5
  exact o_ret0 P hret (hb hby de4_76) (by decide) (by decide) ⟨n0_3, rfl, hsh ▸ sz_n0_3, F_p0, A_n0_3, trivial⟩
theorem ef_ct_e79 (x0 : Addr) (x1 : Int64) (m : MethodId) : entryFrame m #[(.ref x0), (.long x1)] 3 = mkF m 0 #[.val (.ref x0), .val (.long x1), .second] [] := by first | (simp [entryFrame, mkF, argsToLocals, o_catR, o_catN, o_catI, o_catJ, o_catD]; done) | rfl
set_option maxRecDepth 65536 in
set_option maxHeartbeats 40000000 in
theorem ct_e79 (l : Launch) (Z : State) (a0 : Array Value) (hw : ∀ d ∈ tables_1, d.before a0 Z = true) (EL : List (String × Nat)) (n0 : Nat) (p0 : Addr) (p1 : Addr) (p2 : Addr) (x0 : Int64) (x1 : Int64) (x2 : Int64) (x3 : Int64) (x4 : Int64) (x5 : Int64) (x6 : Int64) (x7 : Int64) (x8 : Int64) (x9 : Int64) (x10 : Int64) (x11 : Int64) (x12 : Int64) (x13 : Int64) (x14 : Int64) (x15 : Int64) (x16 : Int64) (had : Sta Z Z.heap "java/util/BitSet" "$assertionsDisabled" "Z" (.int 1)) (od : Addr) (hod : Sta Z Z.heap "com/example/centile/centile/function/Order" "ASCENDING" "Lcom/example/centile/centile/function/Order;" (.ref od)) (h0 : Heap) (F_p0 : OObj Z h0 p0 "com/example/centile/centile/function/Keys" [("com/example/centile/centile/function/Keys", "keys", "[J", (.ref p1)), ("com/example/centile/centile/function/Keys", "size", "I", (.int (16 : Int32))), ("com/example/centile/centile/function/Keys", "selection", "Lcom/example/centile/centile/function/Selection;", (.ref p2))]) (A_p1 : OArr Z h0 p1 .long [(.long x1), (.long x2), (.long x3), (.long x4), (.long x5), (.long x6), (.long x7), (.long x8), (.long x9), (.long x10), (.long x11), (.long x12), (.long x13), (.long x14), (.long x15), (.long x16)]) (ne_p0_p1 : p0 ≠ p1) :
    OCt l Z a0 EL n0 (⟨"com/example/centile/centile/function/Keys", "add", "(J)V"⟩ : MethodName) prog_11_method_4_code 3 none ({ frames := 3, cells := 1, slots := 32, locals := 54 } : Room) [] #[(.ref p0), (.long x0)] h0 [p0] (fun w vm h => ∃ n0 : Addr, w = none ∧ h0.size ≤ n0 ∧ OObj Z h p0 "com/example/centile/centile/function/Keys" [("com/example/centile/centile/function/Keys", "keys", "[J", (.ref n0)), ("com/example/centile/centile/function/Keys", "size", "I", (.int (17 : Int32))), ("com/example/centile/centile/function/Keys", "selection", "Lcom/example/centile/centile/function/Selection;", .null)] ∧ OArr Z h n0 .long [(.long x1), (.long x2), (.long x3), (.long x4), (.long x5), (.long x6), (.long x7), (.long x8), (.long x9), (.long x10), (.long x11), (.long x12), (.long x13), (.long x14), (.long x15), (.long x16), (.long x0), (.long (0 : Int64)), (.long (0 : Int64)), (.long (0 : Int64)), (.long (0 : Int64)), (.long (0 : Int64)), (.long (0 : Int64)), (.long (0 : Int64)), (.long (0 : Int64)), (.long (0 : Int64)), (.long (0 : Int64)), (.long (0 : Int64)), (.long (0 : Int64)), (.long (0 : Int64)), (.long (0 : Int64)), (.long (0 : Int64))] ∧ True) := by
  refine OCt.body (plainFor_of_name pn_e0) (ef_ct_e79 p0 x0) ?_
  intro p e s m below meth c T hby hml hret hnm hsh P
  refine o_aloadN P (hb hby de3_0) rfl rfl (pc' := 1) rfl ?_
  refine o_iconst P (1 : Int32) (hb hby de3_1) rfl (pc' := 2) rfl ?_
  have hn_1 := P.n0le; have hk_1 := P.keep0.1
  refine o_callQ P (W := 0) (a := p0) (ow hw 17 rfl) (ow hw 18 rfl) (ow hw 1 rfl) (ow hw 19 rfl) (ow hw 2 rfl) (ow hw 20 rfl) (by decide) F_p0.exa (ct_e78 l Z a0 hw EL n0 p0 p1 p2 x1 x2 x3 x4 x5 x6 x7 x8 x9 x10 x11 x12 x13 x14 x15 x16 had od hod h0 F_p0 A_p1 ne_p0_p1) (o_sfS (List.Mem.head _) o_sf0) (by rw [hml]; rfl) (by decide) (by decide) (argsL := [(.int (1 : Int32))]) (rest := []) (lenOf pd_1 rfl) rfl rfl (Nat.le_of_eq rfl) (hb hby de3_2) (pc' := 5) rfl (by decide) (by decide) ?_
  clear P; intro T h2 v2 P K2 q2
  obtain ⟨n0_1, rfl, g_n0_1, Q_p0, Q_n0_1, -⟩ := q2
  have ne_p0_n0_1 : p0 ≠ n0_1 := Nat.ne_of_lt (Nat.lt_of_lt_of_le F_p0.lt g_n0_1)
  have ne_p1_n0_1 : p1 ≠ n0_1 := Nat.ne_of_lt (Nat.lt_of_lt_of_le A_p1.lt g_n0_1)
  have sz_n0_1 := Nat.le_trans hk_1 g_n0_1
  replace A_p1 := A_p1.keep K2 (ninS (Ne.symm ne_p0_p1) nin0)
  clear F_p0
  have F_p0 := Q_p0; clear Q_p0
  have A_n0_1 := Q_n0_1; clear Q_n0_1
  replace P := P.moreA A_n0_1 (fun q => by cases q) (Nat.le_trans hn_1 g_n0_1) sz_n0_1
  clear K2 hn_1 hk_1
  show OG p e below m _ T 5 #[.val (.ref p0), .val (.long x0), .second] []
  refine o_aloadN P (hb hby de3_5) rfl rfl (pc' := 6) rfl ?_
  refine o_getF P (ow hw 10 rfl) Via.refl (F_p0.fld 0 rfl) (hb hby de3_6) (pc' := 9) rfl ?_
  clear P; intro T P
  refine o_aloadN P (hb hby de3_9) rfl rfl (pc' := 10) rfl ?_
  refine o_dup P (hb hby de3_10) rfl (pc' := 11) rfl ?_
  refine o_getF P (ow hw 22 rfl) Via.refl (F_p0.fld 1 rfl) (hb hby de3_11) (pc' := 14) rfl ?_
  clear P; intro T P
  refine o_dupX1 P (hb hby de3_14) rfl rfl (pc' := 15) rfl ?_
  refine o_iconst P (1 : Int32) (hb hby de3_15) rfl (pc' := 16) rfl ?_
  refine o_iadd P (hb hby de3_16) (pc' := 17) rfl ?_
  show OG p e below m _ T 17 #[.val (.ref p0), .val (.long x0), .second] [(.int (17 : Int32)), (.ref p0), (.int (16 : Int32)), (.ref n0_1)]
  refine o_putF P (v' := (.int (17 : Int32))) (ty := .int) (ow hw 22 rfl) Via.refl (F_p0.fld 1 rfl) F_p0.exa (Or.inl (ow hw 23 rfl)) (ow hw 1 rfl) (by decide) rfl rfl (List.Mem.tail _ (List.Mem.head _)) (hb hby de3_17) (pc' := 20) rfl ?_
  clear P; intro T h3 P W3
  replace A_p1 := A_p1.oth W3 (Ne.symm ne_p0_p1)
  replace A_n0_1 := A_n0_1.oth W3 (Ne.symm ne_p0_n0_1)
  replace F_p0 : OObj Z h3 p0 "com/example/centile/centile/function/Keys" [("com/example/centile/centile/function/Keys", "keys", "[J", (.ref n0_1)), ("com/example/centile/centile/function/Keys", "size", "I", (.int (17 : Int32))), ("com/example/centile/centile/function/Keys", "selection", "Lcom/example/centile/centile/function/Selection;", (.ref p2))] := F_p0.put 1 rfl W3
  clear W3
  refine o_lloadN P (hb hby de3_20) rfl (pc' := 21) rfl ?_
  refine o_lastore P (v := (.long x0)) A_n0_1 (List.Mem.head _) (by decide) (of_decide_eq_true rfl) rfl (hb hby de3_21) (pc' := 22) rfl ?_
  clear P; clear A_n0_1; intro T h4 P W4 A_n0_1
  replace F_p0 := F_p0.oth W4 ne_p0_n0_1
  replace A_p1 := A_p1.oth W4 ne_p1_n0_1
  clear W4
  replace A_n0_1 : OArr Z h4 n0_1 .long [(.long x1), (.long x2), (.long x3), (.long x4), (.long x5), (.long x6), (.long x7), (.long x8), (.long x9), (.long x10), (.long x11), (.long x12), (.long x13), (.long x14), (.long x15), (.long x16), (.long x0), (.long (0 : Int64)), (.long (0 : Int64)), (.long (0 : Int64)), (.long (0 : Int64)), (.long (0 : Int64)), (.long (0 : Int64)), (.long (0 : Int64)), (.long (0 : Int64)), (.long (0 : Int64)), (.long (0 : Int64)), (.long (0 : Int64)), (.long (0 : Int64)), (.long (0 : Int64)), (.long (0 : Int64)), (.long (0 : Int64))] := A_n0_1
  refine o_aloadN P (hb hby de3_22) rfl rfl (pc' := 23) rfl ?_
  refine o_aconstNull P (hb hby de3_23) (pc' := 24) rfl ?_
  refine o_putF P (v' := .null) (ty := (.object "com/example/centile/centile/function/Selection")) (ow hw 24 rfl) Via.refl (F_p0.fld 2 rfl) F_p0.exa (Or.inl (ow hw 25 rfl)) (ow hw 1 rfl) (by decide) rfl rfl (List.Mem.tail _ (List.Mem.head _)) (hb hby de3_24) (pc' := 27) rfl ?_
  clear P; intro T h5 P W5
  replace A_p1 := A_p1.oth W5 (Ne.symm ne_p0_p1)
  replace A_n0_1 := A_n0_1.oth W5 (Ne.symm ne_p0_n0_1)
  replace F_p0 : OObj Z h5 p0 "com/example/centile/centile/function/Keys" [("com/example/centile/centile/function/Keys", "keys", "[J", (.ref n0_1)), ("com/example/centile/centile/function/Keys", "size", "I", (.int (17 : Int32))), ("com/example/centile/centile/function/Keys", "selection", "Lcom/example/centile/centile/function/Selection;", .null)] := F_p0.put 2 rfl W5
  clear W5
  exact o_ret0 P hret (hb hby de3_27) (by decide) (by decide) ⟨n0_1, rfl, hsh ▸ sz_n0_1, F_p0, A_n0_1, trivial⟩
theorem de80_0 : decode prog_11_method_2_code 0 = .ok (.aload_n 0, 1) := by decide +kernel
theorem de80_1 : decode prog_11_method_2_code 1 = .ok (.getfield 15, 3) := by decide +kernel
theorem de80_4 : decode prog_11_method_2_code 4 = .ok (.ireturn, 1) := by decide +kernel
theorem ef_ct_e81 (x0 : Addr) (m : MethodId) : entryFrame m #[(.ref x0)] 1 = mkF m 0 #[.val (.ref x0)] [] := by first | (simp [entryFrame, mkF, argsToLocals, o_catR, o_catN, o_catI, o_catJ, o_catD]; done) | rfl
set_option maxRecDepth 65536 in
set_option maxHeartbeats 40000000 in
theorem ct_e81 (l : Launch) (Z : State) (a0 : Array Value) (hw : ∀ d ∈ tables_1, d.before a0 Z = true) (EL : List (String × Nat)) (n0 : Nat) (p0 : Addr) (p1 : Addr) (x0 : Int64) (x1 : Int64) (x2 : Int64) (x3 : Int64) (x4 : Int64) (x5 : Int64) (x6 : Int64) (x7 : Int64) (x8 : Int64) (x9 : Int64) (x10 : Int64) (x11 : Int64) (x12 : Int64) (x13 : Int64) (x14 : Int64) (x15 : Int64) (x16 : Int64) (had : Sta Z Z.heap "java/util/BitSet" "$assertionsDisabled" "Z" (.int 1)) (od : Addr) (hod : Sta Z Z.heap "com/example/centile/centile/function/Order" "ASCENDING" "Lcom/example/centile/centile/function/Order;" (.ref od)) (h0 : Heap) (F_p0 : OObj Z h0 p0 "com/example/centile/centile/function/Keys" [("com/example/centile/centile/function/Keys", "keys", "[J", (.ref p1)), ("com/example/centile/centile/function/Keys", "size", "I", (.int (17 : Int32))), ("com/example/centile/centile/function/Keys", "selection", "Lcom/example/centile/centile/function/Selection;", .null)]) (A_p1 : OArr Z h0 p1 .long [(.long x0), (.long x1), (.long x2), (.long x3), (.long x4), (.long x5), (.long x6), (.long x7), (.long x8), (.long x9), (.long x10), (.long x11), (.long x12), (.long x13), (.long x14), (.long x15), (.long x16), (.long (0 : Int64)), (.long (0 : Int64)), (.long (0 : Int64)), (.long (0 : Int64)), (.long (0 : Int64)), (.long (0 : Int64)), (.long (0 : Int64)), (.long (0 : Int64)), (.long (0 : Int64)), (.long (0 : Int64)), (.long (0 : Int64)), (.long (0 : Int64)), (.long (0 : Int64)), (.long (0 : Int64)), (.long (0 : Int64))]) (ne_p0_p1 : p0 ≠ p1) :
    OCt l Z a0 EL n0 (⟨"com/example/centile/centile/function/Keys", "size", "()I"⟩ : MethodName) prog_11_method_2_code 1 (some .int) ({ frames := 0, cells := 0, slots := 0, locals := 0 } : Room) [] #[(.ref p0)] h0 [] (fun w vm h => w = some (.int (17 : Int32)) ∧ h = h0) := by
  refine OCt.body (plainFor_of_name pn_e0) (ef_ct_e81 p0) ?_
  intro p e s m below meth c T hby hml hret hnm hsh P
  refine o_aloadN P (hb hby de80_0) rfl rfl (pc' := 1) rfl ?_
  refine o_getF P (ow hw 22 rfl) Via.refl (F_p0.fld 1 rfl) (hb hby de80_1) (pc' := 4) rfl ?_
  clear P; intro T P
  exact o_retI P hret (by simp) rfl (hb hby de80_4) (by decide) (by decide) ⟨rfl, rfl⟩
theorem de82_0 : decode prog_11_method_3_code 0 = .ok (.aload_n 0, 1) := by decide +kernel
theorem de82_1 : decode prog_11_method_3_code 1 = .ok (.getfield 9, 3) := by decide +kernel
theorem de82_4 : decode prog_11_method_3_code 4 = .ok (.iload_n 1, 1) := by decide +kernel
theorem de82_5 : decode prog_11_method_3_code 5 = .ok (.laload, 1) := by decide +kernel
theorem de82_6 : decode prog_11_method_3_code 6 = .ok (.lreturn, 1) := by decide +kernel
theorem ef_ct_e83 (x0 : Addr) (x1 : Int32) (m : MethodId) : entryFrame m #[(.ref x0), (.int x1)] 2 = mkF m 0 #[.val (.ref x0), .val (.int x1)] [] := by first | (simp [entryFrame, mkF, argsToLocals, o_catR, o_catN, o_catI, o_catJ, o_catD]; done) | rfl
set_option maxRecDepth 65536 in
set_option maxHeartbeats 40000000 in
theorem ct_e83 (l : Launch) (Z : State) (a0 : Array Value) (hw : ∀ d ∈ tables_1, d.before a0 Z = true) (EL : List (String × Nat)) (n0 : Nat) (p0 : Addr) (p1 : Addr) (x0 : Int64) (x1 : Int64) (x2 : Int64) (x3 : Int64) (x4 : Int64) (x5 : Int64) (x6 : Int64) (x7 : Int64) (x8 : Int64) (x9 : Int64) (x10 : Int64) (x11 : Int64) (x12 : Int64) (x13 : Int64) (x14 : Int64) (x15 : Int64) (x16 : Int64) (had : Sta Z Z.heap "java/util/BitSet" "$assertionsDisabled" "Z" (.int 1)) (od : Addr) (hod : Sta Z Z.heap "com/example/centile/centile/function/Order" "ASCENDING" "Lcom/example/centile/centile/function/Order;" (.ref od)) (h0 : Heap) (F_p0 : OObj Z h0 p0 "com/example/centile/centile/function/Keys" [("com/example/centile/centile/function/Keys", "keys", "[J", (.ref p1)), ("com/example/centile/centile/function/Keys", "size", "I", (.int (17 : Int32))), ("com/example/centile/centile/function/Keys", "selection", "Lcom/example/centile/centile/function/Selection;", .null)]) (A_p1 : OArr Z h0 p1 .long [(.long x0), (.long x1), (.long x2), (.long x3), (.long x4), (.long x5), (.long x6), (.long x7), (.long x8), (.long x9), (.long x10), (.long x11), (.long x12), (.long x13), (.long x14), (.long x15), (.long x16), (.long (0 : Int64)), (.long (0 : Int64)), (.long (0 : Int64)), (.long (0 : Int64)), (.long (0 : Int64)), (.long (0 : Int64)), (.long (0 : Int64)), (.long (0 : Int64)), (.long (0 : Int64)), (.long (0 : Int64)), (.long (0 : Int64)), (.long (0 : Int64)), (.long (0 : Int64)), (.long (0 : Int64)), (.long (0 : Int64))]) (ne_p0_p1 : p0 ≠ p1) :
    OCt l Z a0 EL n0 (⟨"com/example/centile/centile/function/Keys", "get", "(I)J"⟩ : MethodName) prog_11_method_3_code 2 (some .long) ({ frames := 0, cells := 0, slots := 0, locals := 0 } : Room) [] #[(.ref p0), (.int (16 : Int32))] h0 [] (fun w vm h => w = some (.long x16) ∧ h = h0) := by
  refine OCt.body (plainFor_of_name pn_e0) (ef_ct_e83 p0 ((16 : Int32))) ?_
  intro p e s m below meth c T hby hml hret hnm hsh P
  refine o_aloadN P (hb hby de82_0) rfl rfl (pc' := 1) rfl ?_
  refine o_getF P (ow hw 10 rfl) Via.refl (F_p0.fld 0 rfl) (hb hby de82_1) (pc' := 4) rfl ?_
  clear P; intro T P
  refine o_iloadN P (hb hby de82_4) rfl (pc' := 5) rfl ?_
  refine o_laload P (v := (.long x16)) A_p1 (by decide) rfl (hb hby de82_5) (pc' := 6) rfl ?_
  exact o_retL P hret (hb hby de82_6) (by decide) (by decide) ⟨rfl, rfl⟩
theorem ef_ct_e84 (x0 : Int32) (m : MethodId) : entryFrame m #[(.int x0)] 1 = mkF m 0 #[.val (.int x0)] [] := by first | (simp [entryFrame, mkF, argsToLocals, o_catR, o_catN, o_catI, o_catJ, o_catD]; done) | rfl
set_option maxRecDepth 65536 in
set_option maxHeartbeats 40000000 in
theorem ct_e84 (l : Launch) (Z : State) (a0 : Array Value) (hw : ∀ d ∈ tables_1, d.before a0 Z = true) (EL : List (String × Nat)) (n0 : Nat)   (had : Sta Z Z.heap "java/util/BitSet" "$assertionsDisabled" "Z" (.int 1)) (od : Addr) (hod : Sta Z Z.heap "com/example/centile/centile/function/Order" "ASCENDING" "Lcom/example/centile/centile/function/Order;" (.ref od)) (h0 : Heap)   :
    OCt l Z a0 EL n0 (⟨"java/util/BitSet", "wordIndex", "(I)I"⟩ : MethodName) jdk_92_method_1_code 1 (some .int) ({ frames := 0, cells := 0, slots := 0, locals := 0 } : Room) [] #[(.int (17 : Int32))] h0 [] (fun w vm h => w = some (.int (0 : Int32)) ∧ h = h0) := by
  refine OCt.body (plainFor_of_name pn_e1) (ef_ct_e84 ((17 : Int32))) ?_
  intro p e s m below meth c T hby hml hret hnm hsh P
  refine o_iloadN P (hb hby de20_0) rfl (pc' := 1) rfl ?_
  refine o_bipush P (6 : Int32) (hb hby de20_1) rfl (pc' := 3) rfl ?_
  refine o_ishr P (hb hby de20_3) (pc' := 4) rfl ?_
  show OG p e below m _ T 4 #[.val (.int (17 : Int32))] [(.int (0 : Int32))]
  exact o_retI P hret (by simp) rfl (hb hby de20_4) (by decide) (by decide) ⟨rfl, rfl⟩
theorem ef_ct_e85 (x0 : Addr) (x1 : Int32) (m : MethodId) : entryFrame m #[(.ref x0), (.int x1)] 2 = mkF m 0 #[.val (.ref x0), .val (.int x1)] [] := by first | (simp [entryFrame, mkF, argsToLocals, o_catR, o_catN, o_catI, o_catJ, o_catD]; done) | rfl
set_option maxRecDepth 65536 in
set_option maxHeartbeats 40000000 in
theorem ct_e85 (l : Launch) (Z : State) (a0 : Array Value) (hw : ∀ d ∈ tables_1, d.before a0 Z = true) (EL : List (String × Nat)) (n0 : Nat) (p0 : Addr)  (had : Sta Z Z.heap "java/util/BitSet" "$assertionsDisabled" "Z" (.int 1)) (od : Addr) (hod : Sta Z Z.heap "com/example/centile/centile/function/Order" "ASCENDING" "Lcom/example/centile/centile/function/Order;" (.ref od)) (h0 : Heap) (F_p0 : OObj Z h0 p0 "java/util/BitSet" [("java/util/BitSet", "wordsInUse", "I", (.int (0 : Int32))), ("java/util/BitSet", "sizeIsSticky", "Z", (.int (0 : Int32))), ("java/util/BitSet", "words", "[J", .null)])  :
    OCt l Z a0 EL n0 (⟨"java/util/BitSet", "initWords", "(I)V"⟩ : MethodName) jdk_92_method_6_code 2 none ({ frames := 1, cells := 1, slots := 1, locals := 13 } : Room) [] #[(.ref p0), (.int (18 : Int32))] h0 [p0] (fun w vm h => ∃ n0 : Addr, w = none ∧ h0.size ≤ n0 ∧ OObj Z h p0 "java/util/BitSet" [("java/util/BitSet", "wordsInUse", "I", (.int (0 : Int32))), ("java/util/BitSet", "sizeIsSticky", "Z", (.int (0 : Int32))), ("java/util/BitSet", "words", "[J", (.ref n0))] ∧ OArr Z h n0 .long [(.long (0 : Int64))] ∧ True) := by
  refine OCt.body (plainFor_of_name pn_e1) (ef_ct_e85 p0 ((18 : Int32))) ?_
  intro p e s m below meth c T hby hml hret hnm hsh P
  refine o_aloadN P (hb hby de19_0) rfl rfl (pc' := 1) rfl ?_
  refine o_iloadN P (hb hby de19_1) rfl (pc' := 2) rfl ?_
  refine o_iconst P (1 : Int32) (hb hby de19_2) rfl (pc' := 3) rfl ?_
  refine o_isub P (hb hby de19_3) (pc' := 4) rfl ?_
  show OG p e below m _ T 4 #[.val (.ref p0), .val (.int (18 : Int32))] [(.int (17 : Int32)), (.ref p0)]
  refine o_callS P (W := 1) (ow hw 68 rfl) (ow hw 69 rfl) (ow hw 54 rfl) (ow hw 70 rfl) (by decide) (ct_e84 l Z a0 hw EL n0   had od hod h0  ) o_sf0 (by rw [hml]; rfl) (by decide) (by decide) (argsL := [(.int (17 : Int32))]) (rest := [(.ref p0)]) (lenOf pd_4 rfl) rfl rfl (Nat.le_of_eq rfl) (hb hby de19_4) (pc' := 7) rfl (by decide) (by decide) ?_
  clear P; intro T h2 v2 P K2 q2
  obtain ⟨rfl, rfl⟩ := q2; clear K2
  show OG p e below m _ T 7 #[.val (.ref p0), .val (.int (18 : Int32))] [(.int (0 : Int32)), (.ref p0)]
  refine o_iconst P (1 : Int32) (hb hby de19_7) rfl (pc' := 8) rfl ?_
  refine o_iadd P (hb hby de19_8) (pc' := 9) rfl ?_
  show OG p e below m _ T 9 #[.val (.ref p0), .val (.int (18 : Int32))] [(.int (1 : Int32)), (.ref p0)]
  have hz_b3 := P.keep0.1
  refine o_newarr P (cap := 1) (ow hw 9 rfl) (hb hby de19_9) (by decide) (by decide) (by decide) (pc' := 11) rfl (by decide) (by decide) ?_
  clear P; intro T h3 b3 P K3 hb_b3 A_b3
  have sz_b3 := Nat.le_trans hz_b3 hb_b3
  clear hz_b3
  have ne_p0_b3 : p0 ≠ b3 := Nat.ne_of_lt (Nat.lt_of_lt_of_le F_p0.lt hb_b3)
  replace F_p0 := F_p0.keep K3 nin0
  clear K3
  replace A_b3 : OArr Z h3 b3 .long [(.long 0)] := A_b3
  refine o_putF P (v' := (.ref b3)) (ty := (.array .long)) (ow hw 71 rfl) Via.refl (F_p0.fld 2 rfl) F_p0.exa (Or.inl (ow hw 72 rfl)) (ow hw 53 rfl) (by decide) rfl rfl (List.Mem.tail _ (List.Mem.head _)) (hb hby de19_11) (pc' := 14) rfl ?_
  clear P; intro T h4 P W4
  replace A_b3 := A_b3.oth W4 (Ne.symm ne_p0_b3)
  replace F_p0 : OObj Z h4 p0 "java/util/BitSet" [("java/util/BitSet", "wordsInUse", "I", (.int (0 : Int32))), ("java/util/BitSet", "sizeIsSticky", "Z", (.int (0 : Int32))), ("java/util/BitSet", "words", "[J", (.ref b3))] := F_p0.put 2 rfl W4
  clear W4
  exact o_ret0 P hret (hb hby de19_14) (by decide) (by decide) ⟨b3, rfl, hsh ▸ sz_b3, F_p0, A_b3, trivial⟩
theorem ef_ct_e86 (x0 : Addr) (x1 : Int32) (m : MethodId) : entryFrame m #[(.ref x0), (.int x1)] 2 = mkF m 0 #[.val (.ref x0), .val (.int x1)] [] := by first | (simp [entryFrame, mkF, argsToLocals, o_catR, o_catN, o_catI, o_catJ, o_catD]; done) | rfl
set_option maxRecDepth 65536 in
set_option maxHeartbeats 40000000 in
theorem ct_e86 (l : Launch) (Z : State) (a0 : Array Value) (hw : ∀ d ∈ tables_1, d.before a0 Z = true) (EL : List (String × Nat)) (n0 : Nat) (p0 : Addr)  (had : Sta Z Z.heap "java/util/BitSet" "$assertionsDisabled" "Z" (.int 1)) (od : Addr) (hod : Sta Z Z.heap "com/example/centile/centile/function/Order" "ASCENDING" "Lcom/example/centile/centile/function/Order;" (.ref od)) (h0 : Heap) (F_p0 : OObj Z h0 p0 "java/util/BitSet" [("java/util/BitSet", "wordsInUse", "I", (.int (0 : Int32))), ("java/util/BitSet", "sizeIsSticky", "Z", (.int (0 : Int32))), ("java/util/BitSet", "words", "[J", .null)])  :
    OCt l Z a0 EL n0 (⟨"java/util/BitSet", "<init>", "(I)V"⟩ : MethodName) jdk_92_method_5_code 2 none ({ frames := 2, cells := 1, slots := 1, locals := 26 } : Room) [] #[(.ref p0), (.int (18 : Int32))] h0 [p0] (fun w vm h => ∃ n0 : Addr, w = none ∧ h0.size ≤ n0 ∧ OObj Z h p0 "java/util/BitSet" [("java/util/BitSet", "wordsInUse", "I", (.int (0 : Int32))), ("java/util/BitSet", "sizeIsSticky", "Z", (.int (1 : Int32))), ("java/util/BitSet", "words", "[J", (.ref n0))] ∧ OArr Z h n0 .long [(.long (0 : Int64))] ∧ True) := by
  refine OCt.body (plainFor_of_name pn_e1) (ef_ct_e86 p0 ((18 : Int32))) ?_
  intro p e s m below meth c T hby hml hret hnm hsh P
  refine o_aloadN P (hb hby de18_0) rfl rfl (pc' := 1) rfl ?_
  refine o_initO P (W := 0) (ow hw 58 rfl) (ow hw 7 rfl) (ow hw 8 rfl) (by rw [hml]; rfl) (by decide) (Nat.le_of_eq rfl) (by decide) (hb hby de18_1) (pc' := 4) rfl ?_
  clear P; intro T P
  refine o_aloadN P (hb hby de18_4) rfl rfl (pc' := 5) rfl ?_
  refine o_iconst P (0 : Int32) (hb hby de18_5) rfl (pc' := 6) rfl ?_
  refine o_putF P (v' := (.int (0 : Int32))) (ty := .int) (ow hw 59 rfl) Via.refl (F_p0.fld 0 rfl) F_p0.exa (Or.inl (ow hw 60 rfl)) (ow hw 53 rfl) (by decide) rfl rfl (List.Mem.head _) (hb hby de18_6) (pc' := 9) rfl ?_
  clear P; intro T h1 P W1
  replace F_p0 : OObj Z h1 p0 "java/util/BitSet" [("java/util/BitSet", "wordsInUse", "I", (.int (0 : Int32))), ("java/util/BitSet", "sizeIsSticky", "Z", (.int (0 : Int32))), ("java/util/BitSet", "words", "[J", .null)] := F_p0.put 0 rfl W1
  clear W1
  refine o_aloadN P (hb hby de18_9) rfl rfl (pc' := 10) rfl ?_
  refine o_iconst P (0 : Int32) (hb hby de18_10) rfl (pc' := 11) rfl ?_
  refine o_putF P (v' := (.int (0 : Int32))) (ty := .boolean) (ow hw 61 rfl) Via.refl (F_p0.fld 1 rfl) F_p0.exa (Or.inl (ow hw 62 rfl)) (ow hw 53 rfl) (by decide) rfl rfl (List.Mem.head _) (hb hby de18_11) (pc' := 14) rfl ?_
  clear P; intro T h2 P W2
  replace F_p0 : OObj Z h2 p0 "java/util/BitSet" [("java/util/BitSet", "wordsInUse", "I", (.int (0 : Int32))), ("java/util/BitSet", "sizeIsSticky", "Z", (.int (0 : Int32))), ("java/util/BitSet", "words", "[J", .null)] := F_p0.put 1 rfl W2
  clear W2
  refine o_iloadN P (hb hby de18_14) rfl (pc' := 15) rfl ?_
  refine o_if_ge P (hb hby de18_15) (by decide) (pc' := 45) (by decide) (pcf := 18) rfl (fun _ => ?_) (fun q => absurd q (by decide))
  refine o_aloadN P (hb hby de18_45) rfl rfl (pc' := 46) rfl ?_
  refine o_iloadN P (hb hby de18_46) rfl (pc' := 47) rfl ?_
  have hn_3 := P.n0le; have hk_3 := P.keep0.1
  refine o_callP P (W := 0) (a := p0) (ow hw 63 rfl) (ow hw 64 rfl) (ow hw 66 rfl) (ow hw 65 rfl) (ow hw 54 rfl) (ow hw 67 rfl) (by decide) F_p0.exa (ct_e85 l Z a0 hw EL n0 p0  had od hod h2 F_p0 ) (o_sfS (List.Mem.head _) o_sf0) (by rw [hml]; rfl) (by decide) (by decide) (argsL := [(.int (18 : Int32))]) (rest := []) (lenOf pd_1 rfl) rfl rfl (Nat.le_of_eq rfl) (hb hby de18_47) (pc' := 50) rfl (by decide) (by decide) ?_
  clear P; intro T h4 v4 P K4 q4
  obtain ⟨n0_3, rfl, g_n0_3, Q_p0, Q_n0_3, -⟩ := q4
  have ne_p0_n0_3 : p0 ≠ n0_3 := Nat.ne_of_lt (Nat.lt_of_lt_of_le F_p0.lt g_n0_3)
  have sz_n0_3 := Nat.le_trans hk_3 g_n0_3
  clear F_p0
  have F_p0 := Q_p0; clear Q_p0
  have A_n0_3 := Q_n0_3; clear Q_n0_3
  replace P := P.moreA A_n0_3 (fun q => by cases q) (Nat.le_trans hn_3 g_n0_3) sz_n0_3
  clear K4 hn_3 hk_3
  show OG p e below m _ T 50 #[.val (.ref p0), .val (.int (18 : Int32))] []
  refine o_aloadN P (hb hby de18_50) rfl rfl (pc' := 51) rfl ?_
  refine o_iconst P (1 : Int32) (hb hby de18_51) rfl (pc' := 52) rfl ?_
  refine o_putF P (v' := (.int (1 : Int32))) (ty := .boolean) (ow hw 61 rfl) Via.refl (F_p0.fld 1 rfl) F_p0.exa (Or.inl (ow hw 62 rfl)) (ow hw 53 rfl) (by decide) rfl rfl (List.Mem.tail _ (List.Mem.head _)) (hb hby de18_52) (pc' := 55) rfl ?_
  clear P; intro T h5 P W5
  replace A_n0_3 := A_n0_3.oth W5 (Ne.symm ne_p0_n0_3)
  replace F_p0 : OObj Z h5 p0 "java/util/BitSet" [("java/util/BitSet", "wordsInUse", "I", (.int (0 : Int32))), ("java/util/BitSet", "sizeIsSticky", "Z", (.int (1 : Int32))), ("java/util/BitSet", "words", "[J", (.ref n0_3))] := F_p0.put 1 rfl W5
  clear W5
  exact o_ret0 P hret (hb hby de18_55) (by decide) (by decide) ⟨n0_3, rfl, hsh ▸ sz_n0_3, F_p0, A_n0_3, trivial⟩
theorem ef_ct_e87 (x0 : Addr) (m : MethodId) : entryFrame m #[(.ref x0)] 1 = mkF m 0 #[.val (.ref x0)] [] := by first | (simp [entryFrame, mkF, argsToLocals, o_catR, o_catN, o_catI, o_catJ, o_catD]; done) | rfl
set_option maxRecDepth 65536 in
set_option maxHeartbeats 40000000 in
theorem ct_e87 (l : Launch) (Z : State) (a0 : Array Value) (hw : ∀ d ∈ tables_1, d.before a0 Z = true) (EL : List (String × Nat)) (n0 : Nat) (p0 : Addr) (p1 : Addr)  (had : Sta Z Z.heap "java/util/BitSet" "$assertionsDisabled" "Z" (.int 1)) (od : Addr) (hod : Sta Z Z.heap "com/example/centile/centile/function/Order" "ASCENDING" "Lcom/example/centile/centile/function/Order;" (.ref od)) (h0 : Heap) (F_p0 : OObj Z h0 p0 "java/util/BitSet" [("java/util/BitSet", "wordsInUse", "I", (.int (1 : Int32))), ("java/util/BitSet", "sizeIsSticky", "Z", (.int (1 : Int32))), ("java/util/BitSet", "words", "[J", (.ref p1))]) (A_p1 : OArr Z h0 p1 .long [(.long (131073 : Int64))]) (ne_p0_p1 : p0 ≠ p1) :
    OCt l Z a0 EL n0 (⟨"java/util/BitSet", "checkInvariants", "()V"⟩ : MethodName) jdk_92_method_2_code 1 none ({ frames := 0, cells := 0, slots := 0, locals := 0 } : Room) [] #[(.ref p0)] h0 [] (fun w vm h => w = none ∧ h = h0) := by
  refine OCt.body (plainFor_of_name pn_e1) (ef_ct_e87 p0) ?_
  intro p e s m below meth c T hby hml hret hnm hsh P
  refine o_getS P (ow hw 95 rfl) Via.refl had (hb hby de30_0) (pc' := 3) rfl ?_
  clear P; intro T P
  refine o_if_ne P (hb hby de30_3) (by decide) (pc' := 37) (by decide) (pcf := 6) rfl (fun _ => ?_) (fun q => absurd q (by decide))
  refine o_getS P (ow hw 95 rfl) Via.refl had (hb hby de30_37) (pc' := 40) rfl ?_
  clear P; intro T P
  refine o_if_ne P (hb hby de30_40) (by decide) (pc' := 70) (by decide) (pcf := 43) rfl (fun _ => ?_) (fun q => absurd q (by decide))
  refine o_getS P (ow hw 95 rfl) Via.refl had (hb hby de30_70) (pc' := 73) rfl ?_
  clear P; intro T P
  refine o_if_ne P (hb hby de30_73) (by decide) (pc' := 110) (by decide) (pcf := 76) rfl (fun _ => ?_) (fun q => absurd q (by decide))
  exact o_ret0 P hret (hb hby de30_110) (by decide) (by decide) ⟨rfl, rfl⟩
theorem ef_ct_e88 (x0 : Addr) (x1 : Int32) (m : MethodId) : entryFrame m #[(.ref x0), (.int x1)] 3 = mkF m 0 #[.val (.ref x0), .val (.int x1), .unset] [] := by first | (simp [entryFrame, mkF, argsToLocals, o_catR, o_catN, o_catI, o_catJ, o_catD]; done) | rfl
set_option maxRecDepth 65536 in
set_option maxHeartbeats 40000000 in
theorem ct_e88 (l : Launch) (Z : State) (a0 : Array Value) (hw : ∀ d ∈ tables_1, d.before a0 Z = true) (EL : List (String × Nat)) (n0 : Nat) (p0 : Addr) (p1 : Addr)  (had : Sta Z Z.heap "java/util/BitSet" "$assertionsDisabled" "Z" (.int 1)) (od : Addr) (hod : Sta Z Z.heap "com/example/centile/centile/function/Order" "ASCENDING" "Lcom/example/centile/centile/function/Order;" (.ref od)) (h0 : Heap) (F_p0 : OObj Z h0 p0 "java/util/BitSet" [("java/util/BitSet", "wordsInUse", "I", (.int (1 : Int32))), ("java/util/BitSet", "sizeIsSticky", "Z", (.int (1 : Int32))), ("java/util/BitSet", "words", "[J", (.ref p1))]) (A_p1 : OArr Z h0 p1 .long [(.long (1 : Int64))]) (ne_p0_p1 : p0 ≠ p1) :
    OCt l Z a0 EL n0 (⟨"java/util/BitSet", "set", "(I)V"⟩ : MethodName) jdk_92_method_19_code 3 none ({ frames := 1, cells := 0, slots := 0, locals := 14 } : Room) [] #[(.ref p0), (.int (17 : Int32))] h0 [p1] (fun w vm h => w = none ∧ OArr Z h p1 .long [(.long (131073 : Int64))] ∧ True) := by
  refine OCt.body (plainFor_of_name pn_e1) (ef_ct_e88 p0 ((17 : Int32))) ?_
  intro p e s m below meth c T hby hml hret hnm hsh P
  refine o_iloadN P (hb hby de24_0) rfl (pc' := 1) rfl ?_
  refine o_if_ge P (hb hby de24_1) (by decide) (pc' := 31) (by decide) (pcf := 4) rfl (fun _ => ?_) (fun q => absurd q (by decide))
  refine o_iloadN P (hb hby de24_31) rfl (pc' := 32) rfl ?_
  refine o_callS P (W := 0) (ow hw 68 rfl) (ow hw 69 rfl) (ow hw 54 rfl) (ow hw 70 rfl) (by decide) (ct_e84 l Z a0 hw EL n0   had od hod h0  ) o_sf0 (by rw [hml]; rfl) (by decide) (by decide) (argsL := [(.int (17 : Int32))]) (rest := []) (lenOf pd_4 rfl) rfl rfl (Nat.le_of_eq rfl) (hb hby de24_32) (pc' := 35) rfl (by decide) (by decide) ?_
  clear P; intro T h2 v2 P K2 q2
  obtain ⟨rfl, rfl⟩ := q2; clear K2
  show OG p e below m _ T 35 #[.val (.ref p0), .val (.int (17 : Int32)), .unset] [(.int (0 : Int32))]
  refine o_istoreN P (hb hby de24_35) (L' := #[.val (.ref p0), .val (.int (17 : Int32)), .val (.int (0 : Int32))]) rfl (pc' := 36) rfl ?_
  refine o_aloadN P (hb hby de24_36) rfl rfl (pc' := 37) rfl ?_
  refine o_iloadN P (hb hby de24_37) rfl (pc' := 38) rfl ?_
  refine o_callP P (W := 0) (a := p0) (ow hw 80 rfl) (ow hw 81 rfl) (ow hw 83 rfl) (ow hw 82 rfl) (ow hw 54 rfl) (ow hw 84 rfl) (by decide) F_p0.exa (ct_e33 l Z a0 hw EL n0 p0 p1  had od hod h2 F_p0 A_p1 ne_p0_p1) o_sf0 (by rw [hml]; rfl) (by decide) (by decide) (argsL := [(.int (0 : Int32))]) (rest := []) (lenOf pd_1 rfl) rfl rfl (Nat.le_of_eq rfl) (hb hby de24_38) (pc' := 41) rfl (by decide) (by decide) ?_
  clear P; intro T h4 v4 P K4 q4
  obtain ⟨rfl, rfl⟩ := q4; clear K4
  show OG p e below m _ T 41 #[.val (.ref p0), .val (.int (17 : Int32)), .val (.int (0 : Int32))] []
  refine o_aloadN P (hb hby de24_41) rfl rfl (pc' := 42) rfl ?_
  refine o_getF P (ow hw 71 rfl) Via.refl (F_p0.fld 2 rfl) (hb hby de24_42) (pc' := 45) rfl ?_
  clear P; intro T P
  refine o_iloadN P (hb hby de24_45) rfl (pc' := 46) rfl ?_
  refine o_dup2 P (hb hby de24_46) rfl rfl (pc' := 47) rfl ?_
  refine o_laload P (v := (.long (1 : Int64))) A_p1 (by decide) rfl (hb hby de24_47) (pc' := 48) rfl ?_
  refine o_lconst P (1 : Int64) (hb hby de24_48) rfl (pc' := 49) rfl ?_
  refine o_iloadN P (hb hby de24_49) rfl (pc' := 50) rfl ?_
  refine o_lshl P (hb hby de24_50) (pc' := 51) rfl ?_
  show OG p e below m _ T 51 #[.val (.ref p0), .val (.int (17 : Int32)), .val (.int (0 : Int32))] [(.long (131072 : Int64)), (.long (1 : Int64)), (.int (0 : Int32)), (.ref p1)]
  refine o_lor P (hb hby de24_51) (pc' := 52) rfl ?_
  show OG p e below m _ T 52 #[.val (.ref p0), .val (.int (17 : Int32)), .val (.int (0 : Int32))] [(.long (131073 : Int64)), (.int (0 : Int32)), (.ref p1)]
  refine o_lastore P (v := (.long (131073 : Int64))) A_p1 (List.Mem.head _) (by decide) (of_decide_eq_true rfl) rfl (hb hby de24_52) (pc' := 53) rfl ?_
  clear P; clear A_p1; intro T h5 P W5 A_p1
  replace F_p0 := F_p0.oth W5 ne_p0_p1
  clear W5
  replace A_p1 : OArr Z h5 p1 .long [(.long (131073 : Int64))] := A_p1
  refine o_aloadN P (hb hby de24_53) rfl rfl (pc' := 54) rfl ?_
  refine o_callP P (W := 0) (a := p0) (ow hw 90 rfl) (ow hw 91 rfl) (ow hw 93 rfl) (ow hw 92 rfl) (ow hw 54 rfl) (ow hw 94 rfl) (by decide) F_p0.exa (ct_e87 l Z a0 hw EL n0 p0 p1  had od hod h5 F_p0 A_p1 ne_p0_p1) o_sf0 (by rw [hml]; rfl) (by decide) (by decide) (argsL := []) (rest := []) (lenOf pd_0 rfl) rfl rfl (Nat.le_of_eq rfl) (hb hby de24_54) (pc' := 57) rfl (by decide) (by decide) ?_
  clear P; intro T h7 v7 P K7 q7
  obtain ⟨rfl, rfl⟩ := q7; clear K7
  show OG p e below m _ T 57 #[.val (.ref p0), .val (.int (17 : Int32)), .val (.int (0 : Int32))] []
  exact o_ret0 P hret (hb hby de24_57) (by decide) (by decide) ⟨rfl, A_p1, trivial⟩
theorem ef_ct_e89 (x0 : Addr) (x1 : Addr) (x2 : Int32) (m : MethodId) : entryFrame m #[(.ref x0), (.ref x1), (.int x2)] 3 = mkF m 0 #[.val (.ref x0), .val (.ref x1), .val (.int x2)] [] := by first | (simp [entryFrame, mkF, argsToLocals, o_catR, o_catN, o_catI, o_catJ, o_catD]; done) | rfl
set_option maxRecDepth 65536 in
set_option maxHeartbeats 40000000 in
theorem ct_e89 (l : Launch) (Z : State) (a0 : Array Value) (hw : ∀ d ∈ tables_1, d.before a0 Z = true) (EL : List (String × Nat)) (n0 : Nat) (p0 : Addr) (p1 : Addr) (x0 : Int64) (x1 : Int64) (x2 : Int64) (x3 : Int64) (x4 : Int64) (x5 : Int64) (x6 : Int64) (x7 : Int64) (x8 : Int64) (x9 : Int64) (x10 : Int64) (x11 : Int64) (x12 : Int64) (x13 : Int64) (x14 : Int64) (x15 : Int64) (x16 : Int64) (had : Sta Z Z.heap "java/util/BitSet" "$assertionsDisabled" "Z" (.int 1)) (od : Addr) (hod : Sta Z Z.heap "com/example/centile/centile/function/Order" "ASCENDING" "Lcom/example/centile/centile/function/Order;" (.ref od)) (h0 : Heap) (F_p0 : OObj Z h0 p0 "com/example/centile/centile/function/Selection" [("com/example/centile/centile/function/Selection", "values", "[J", .null), ("com/example/centile/centile/function/Selection", "cuts", "Ljava/util/BitSet;", .null)]) (A_p1 : OArr Z h0 p1 .long [(.long x0), (.long x1), (.long x2), (.long x3), (.long x4), (.long x5), (.long x6), (.long x7), (.long x8), (.long x9), (.long x10), (.long x11), (.long x12), (.long x13), (.long x14), (.long x15), (.long x16), (.long (0 : Int64)), (.long (0 : Int64)), (.long (0 : Int64)), (.long (0 : Int64)), (.long (0 : Int64)), (.long (0 : Int64)), (.long (0 : Int64)), (.long (0 : Int64)), (.long (0 : Int64)), (.long (0 : Int64)), (.long (0 : Int64)), (.long (0 : Int64)), (.long (0 : Int64)), (.long (0 : Int64)), (.long (0 : Int64))]) (ne_p0_p1 : p0 ≠ p1) :
    OCt l Z a0 EL n0 (⟨"com/example/centile/centile/function/Selection", "<init>", "([JI)V"⟩ : MethodName) prog_15_method_1_code 3 none ({ frames := 3, cells := 2, slots := 4, locals := 42 } : Room) [] #[(.ref p0), (.ref p1), (.int (17 : Int32))] h0 [p0] (fun w vm h => ∃ n0 n1 : Addr, w = none ∧ h0.size ≤ n0 ∧ h0.size ≤ n1 ∧ n0 ≠ n1 ∧ OObj Z h p0 "com/example/centile/centile/function/Selection" [("com/example/centile/centile/function/Selection", "values", "[J", (.ref p1)), ("com/example/centile/centile/function/Selection", "cuts", "Ljava/util/BitSet;", (.ref n0))] ∧ OObj Z h n0 "java/util/BitSet" [("java/util/BitSet", "wordsInUse", "I", (.int (1 : Int32))), ("java/util/BitSet", "sizeIsSticky", "Z", (.int (1 : Int32))), ("java/util/BitSet", "words", "[J", (.ref n1))] ∧ OArr Z h n1 .long [(.long (131073 : Int64))] ∧ True) := by
  refine OCt.body (plainFor_of_name pn_e2) (ef_ct_e89 p0 p1 ((17 : Int32))) ?_
  intro p e s m below meth c T hby hml hret hnm hsh P
  refine o_aloadN P (hb hby de17_0) rfl rfl (pc' := 1) rfl ?_
  refine o_initO P (W := 0) (ow hw 49 rfl) (ow hw 7 rfl) (ow hw 8 rfl) (by rw [hml]; rfl) (by decide) (Nat.le_of_eq rfl) (by decide) (hb hby de17_1) (pc' := 4) rfl ?_
  clear P; intro T P
  refine o_aloadN P (hb hby de17_4) rfl rfl (pc' := 5) rfl ?_
  refine o_aloadN P (hb hby de17_5) rfl rfl (pc' := 6) rfl ?_
  refine o_putF P (v' := (.ref p1)) (ty := (.array .long)) (ow hw 50 rfl) Via.refl (F_p0.fld 0 rfl) F_p0.exa (Or.inr ⟨(ow hw 51 rfl), rfl, hnm⟩) (ow hw 44 rfl) (by decide) rfl rfl (List.Mem.head _) (hb hby de17_6) (pc' := 9) rfl ?_
  clear P; intro T h1 P W1
  replace A_p1 := A_p1.oth W1 (Ne.symm ne_p0_p1)
  replace F_p0 : OObj Z h1 p0 "com/example/centile/centile/function/Selection" [("com/example/centile/centile/function/Selection", "values", "[J", (.ref p1)), ("com/example/centile/centile/function/Selection", "cuts", "Ljava/util/BitSet;", .null)] := F_p0.put 0 rfl W1
  clear W1
  refine o_aloadN P (hb hby de17_9) rfl rfl (pc' := 10) rfl ?_
  have hz_b2 := P.keep0.1
  refine o_new P [("java/util/BitSet", "wordsInUse", "I", (.int (0 : Int32))), ("java/util/BitSet", "sizeIsSticky", "Z", (.int (0 : Int32))), ("java/util/BitSet", "words", "[J", .null)] (ow hw 52 rfl) (ow hw 53 rfl) (ow hw 54 rfl) (OLd.cons (Or.inl (ow hw 60 rfl)) (ty := .int) (by decide) rfl (OLd.cons (Or.inl (ow hw 62 rfl)) (ty := .boolean) (by decide) rfl (OLd.cons (Or.inl (ow hw 72 rfl)) (ty := (.array .long)) (by decide) rfl OLd.nil))) (by decide +kernel) (hb hby de17_10) (pc' := 13) rfl (by decide) (by decide) ?_
  clear P; intro T h2 b2 P K2 hb_b2 F_b2
  have sz_b2 := Nat.le_trans hz_b2 hb_b2
  clear hz_b2
  have ne_p0_b2 : p0 ≠ b2 := Nat.ne_of_lt (Nat.lt_of_lt_of_le F_p0.lt hb_b2)
  have ne_p1_b2 : p1 ≠ b2 := Nat.ne_of_lt (Nat.lt_of_lt_of_le A_p1.lt hb_b2)
  replace F_p0 := F_p0.keep K2 nin0
  replace A_p1 := A_p1.keep K2 nin0
  clear K2
  refine o_dup P (hb hby de17_13) rfl (pc' := 14) rfl ?_
  refine o_iloadN P (hb hby de17_14) rfl (pc' := 15) rfl ?_
  refine o_iconst P (1 : Int32) (hb hby de17_15) rfl (pc' := 16) rfl ?_
  refine o_iadd P (hb hby de17_16) (pc' := 17) rfl ?_
  show OG p e below m _ T 17 #[.val (.ref p0), .val (.ref p1), .val (.int (17 : Int32))] [(.int (18 : Int32)), (.ref b2), (.ref b2), (.ref p0)]
  have hn_3 := P.n0le; have hk_3 := P.keep0.1
  refine o_callI P (W := 2) (a := b2) rfl (ow hw 55 rfl) (ow hw 56 rfl) (ow hw 54 rfl) (ow hw 57 rfl) (by decide) (ct_e86 l Z a0 hw EL n0 b2  had od hod h2 F_b2 ) (o_sfS (List.Mem.head _) o_sf0) (by rw [hml]; rfl) (by decide) (by decide) (argsL := [(.int (18 : Int32))]) (rest := [(.ref b2), (.ref p0)]) (lenOf pd_1 rfl) rfl rfl (Nat.le_of_eq rfl) (hb hby de17_17) (pc' := 20) rfl (by decide) (by decide) ?_
  clear P; intro T h4 v4 P K4 q4
  obtain ⟨n0_3, rfl, g_n0_3, Q_b2, Q_n0_3, -⟩ := q4
  have ne_p0_n0_3 : p0 ≠ n0_3 := Nat.ne_of_lt (Nat.lt_of_lt_of_le F_p0.lt g_n0_3)
  have ne_b2_n0_3 : b2 ≠ n0_3 := Nat.ne_of_lt (Nat.lt_of_lt_of_le F_b2.lt g_n0_3)
  have ne_p1_n0_3 : p1 ≠ n0_3 := Nat.ne_of_lt (Nat.lt_of_lt_of_le A_p1.lt g_n0_3)
  have sz_n0_3 := Nat.le_trans hk_3 g_n0_3
  replace F_p0 := F_p0.keep K4 (ninS ne_p0_b2 nin0)
  replace A_p1 := A_p1.keep K4 (ninS ne_p1_b2 nin0)
  clear F_b2
  have F_b2 := Q_b2; clear Q_b2
  have A_n0_3 := Q_n0_3; clear Q_n0_3
  replace P := P.moreA A_n0_3 (fun q => by cases q) (Nat.le_trans hn_3 g_n0_3) sz_n0_3
  clear K4 hn_3 hk_3
  show OG p e below m _ T 20 #[.val (.ref p0), .val (.ref p1), .val (.int (17 : Int32))] [(.ref b2), (.ref p0)]
  refine o_putF P (v' := (.ref b2)) (ty := (.object "java/util/BitSet")) (ow hw 73 rfl) Via.refl (F_p0.fld 1 rfl) F_p0.exa (Or.inr ⟨(ow hw 74 rfl), rfl, hnm⟩) (ow hw 44 rfl) (by decide) rfl rfl (List.Mem.tail _ (List.Mem.tail _ (List.Mem.head _))) (hb hby de17_20) (pc' := 23) rfl ?_
  clear P; intro T h5 P W5
  replace F_b2 := F_b2.oth W5 (Ne.symm ne_p0_b2)
  replace A_p1 := A_p1.oth W5 (Ne.symm ne_p0_p1)
  replace A_n0_3 := A_n0_3.oth W5 (Ne.symm ne_p0_n0_3)
  replace F_p0 : OObj Z h5 p0 "com/example/centile/centile/function/Selection" [("com/example/centile/centile/function/Selection", "values", "[J", (.ref p1)), ("com/example/centile/centile/function/Selection", "cuts", "Ljava/util/BitSet;", (.ref b2))] := F_p0.put 1 rfl W5
  clear W5
  refine o_aloadN P (hb hby de17_23) rfl rfl (pc' := 24) rfl ?_
  refine o_getF P (ow hw 73 rfl) Via.refl (F_p0.fld 1 rfl) (hb hby de17_24) (pc' := 27) rfl ?_
  clear P; intro T P
  refine o_iconst P (0 : Int32) (hb hby de17_27) rfl (pc' := 28) rfl ?_
  have hn_6 := P.n0le; have hk_6 := P.keep0.1
  refine o_callV P (W := 0) (x := (⟨"java/util/BitSet", "set", "(I)V"⟩ : MethodName)) (y := (⟨"java/util/BitSet", "set", "(I)V"⟩ : MethodName)) (a := b2) (ow hw 75 rfl) (ow hw 76 rfl) (o_nfSel (y := (⟨"java/util/BitSet", "set", "(I)V"⟩ : MethodName)) rfl (ow hw 78 rfl)) (ow hw 78 rfl) (ow hw 77 rfl) (ow hw 54 rfl) (ow hw 79 rfl) (by decide) F_b2.exa (ct_e32 l Z a0 hw EL n0 b2 n0_3  had od hod h5 F_b2 A_n0_3 ne_b2_n0_3) (o_sfS (List.Mem.tail _ (List.Mem.head _)) (o_sfS (List.Mem.head _) o_sf0)) (by rw [hml]; rfl) (by decide) (by decide) (argsL := [(.int (0 : Int32))]) (rest := []) (lenOf pd_1 rfl) rfl rfl (Nat.le_of_eq rfl) (hb hby de17_28) (pc' := 31) rfl (by decide) (by decide) ?_
  clear P; intro T h7 v7 P K7 q7
  obtain ⟨rfl, Q_b2, Q_n0_3, -⟩ := q7
  replace F_p0 := F_p0.keep K7 (ninS ne_p0_b2 (ninS ne_p0_n0_3 nin0))
  replace A_p1 := A_p1.keep K7 (ninS ne_p1_b2 (ninS ne_p1_n0_3 nin0))
  clear F_b2
  have F_b2 := Q_b2; clear Q_b2
  clear A_n0_3
  have A_n0_3 := Q_n0_3; clear Q_n0_3
  clear K7 hn_6 hk_6
  show OG p e below m _ T 31 #[.val (.ref p0), .val (.ref p1), .val (.int (17 : Int32))] []
  refine o_aloadN P (hb hby de17_31) rfl rfl (pc' := 32) rfl ?_
  refine o_getF P (ow hw 73 rfl) Via.refl (F_p0.fld 1 rfl) (hb hby de17_32) (pc' := 35) rfl ?_
  clear P; intro T P
  refine o_iloadN P (hb hby de17_35) rfl (pc' := 36) rfl ?_
  have hn_8 := P.n0le; have hk_8 := P.keep0.1
  refine o_callV P (W := 0) (x := (⟨"java/util/BitSet", "set", "(I)V"⟩ : MethodName)) (y := (⟨"java/util/BitSet", "set", "(I)V"⟩ : MethodName)) (a := b2) (ow hw 75 rfl) (ow hw 76 rfl) (o_nfSel (y := (⟨"java/util/BitSet", "set", "(I)V"⟩ : MethodName)) rfl (ow hw 78 rfl)) (ow hw 78 rfl) (ow hw 77 rfl) (ow hw 54 rfl) (ow hw 79 rfl) (by decide) F_b2.exa (ct_e88 l Z a0 hw EL n0 b2 n0_3  had od hod h7 F_b2 A_n0_3 ne_b2_n0_3) (o_sfS (List.Mem.head _) o_sf0) (by rw [hml]; rfl) (by decide) (by decide) (argsL := [(.int (17 : Int32))]) (rest := []) (lenOf pd_1 rfl) rfl rfl (Nat.le_of_eq rfl) (hb hby de17_36) (pc' := 39) rfl (by decide) (by decide) ?_
  clear P; intro T h9 v9 P K9 q9
  obtain ⟨rfl, Q_n0_3, -⟩ := q9
  replace F_p0 := F_p0.keep K9 (ninS ne_p0_n0_3 nin0)
  replace F_b2 := F_b2.keep K9 (ninS ne_b2_n0_3 nin0)
  replace A_p1 := A_p1.keep K9 (ninS ne_p1_n0_3 nin0)
  clear A_n0_3
  have A_n0_3 := Q_n0_3; clear Q_n0_3
  clear K9 hn_8 hk_8
  show OG p e below m _ T 39 #[.val (.ref p0), .val (.ref p1), .val (.int (17 : Int32))] []
  exact o_ret0 P hret (hb hby de17_39) (by decide) (by decide) ⟨b2, n0_3, rfl, hsh ▸ sz_b2, hsh ▸ sz_n0_3, ne_b2_n0_3, F_p0, F_b2, A_n0_3, trivial⟩
theorem ef_ct_e90 (x0 : Addr) (x1 : Int32) (m : MethodId) : entryFrame m #[(.ref x0), (.int x1)] 3 = mkF m 0 #[.val (.ref x0), .val (.int x1), .unset] [] := by first | (simp [entryFrame, mkF, argsToLocals, o_catR, o_catN, o_catI, o_catJ, o_catD]; done) | rfl
set_option maxRecDepth 65536 in
set_option maxHeartbeats 40000000 in
theorem ct_e90 (l : Launch) (Z : State) (a0 : Array Value) (hw : ∀ d ∈ tables_1, d.before a0 Z = true) (EL : List (String × Nat)) (n0 : Nat) (p0 : Addr) (p1 : Addr)  (had : Sta Z Z.heap "java/util/BitSet" "$assertionsDisabled" "Z" (.int 1)) (od : Addr) (hod : Sta Z Z.heap "com/example/centile/centile/function/Order" "ASCENDING" "Lcom/example/centile/centile/function/Order;" (.ref od)) (h0 : Heap) (F_p0 : OObj Z h0 p0 "java/util/BitSet" [("java/util/BitSet", "wordsInUse", "I", (.int (1 : Int32))), ("java/util/BitSet", "sizeIsSticky", "Z", (.int (1 : Int32))), ("java/util/BitSet", "words", "[J", (.ref p1))]) (A_p1 : OArr Z h0 p1 .long [(.long (131073 : Int64))]) (ne_p0_p1 : p0 ≠ p1) :
    OCt l Z a0 EL n0 (⟨"java/util/BitSet", "get", "(I)Z"⟩ : MethodName) jdk_92_method_26_code 3 (some .boolean) ({ frames := 1, cells := 0, slots := 0, locals := 12 } : Room) [] #[(.ref p0), (.int (0 : Int32))] h0 [] (fun w vm h => w = some (.int (1 : Int32)) ∧ h = h0) := by
  refine OCt.body (plainFor_of_name pn_e1) (ef_ct_e90 p0 ((0 : Int32))) ?_
  intro p e s m below meth c T hby hml hret hnm hsh P
  refine o_iloadN P (hb hby de39_0) rfl (pc' := 1) rfl ?_
  refine o_if_ge P (hb hby de39_1) (by decide) (pc' := 31) (by decide) (pcf := 4) rfl (fun _ => ?_) (fun q => absurd q (by decide))
  refine o_aloadN P (hb hby de39_31) rfl rfl (pc' := 32) rfl ?_
  refine o_callP P (W := 0) (a := p0) (ow hw 90 rfl) (ow hw 91 rfl) (ow hw 93 rfl) (ow hw 92 rfl) (ow hw 54 rfl) (ow hw 94 rfl) (by decide) F_p0.exa (ct_e87 l Z a0 hw EL n0 p0 p1  had od hod h0 F_p0 A_p1 ne_p0_p1) o_sf0 (by rw [hml]; rfl) (by decide) (by decide) (argsL := []) (rest := []) (lenOf pd_0 rfl) rfl rfl (Nat.le_of_eq rfl) (hb hby de39_32) (pc' := 35) rfl (by decide) (by decide) ?_
  clear P; intro T h2 v2 P K2 q2
  obtain ⟨rfl, rfl⟩ := q2; clear K2
  show OG p e below m _ T 35 #[.val (.ref p0), .val (.int (0 : Int32)), .unset] []
  refine o_iloadN P (hb hby de39_35) rfl (pc' := 36) rfl ?_
  refine o_callS P (W := 0) (ow hw 68 rfl) (ow hw 69 rfl) (ow hw 54 rfl) (ow hw 70 rfl) (by decide) (ct_e25 l Z a0 hw EL n0   had od hod h2  ) o_sf0 (by rw [hml]; rfl) (by decide) (by decide) (argsL := [(.int (0 : Int32))]) (rest := []) (lenOf pd_4 rfl) rfl rfl (Nat.le_of_eq rfl) (hb hby de39_36) (pc' := 39) rfl (by decide) (by decide) ?_
  clear P; intro T h4 v4 P K4 q4
  obtain ⟨rfl, rfl⟩ := q4; clear K4
  show OG p e below m _ T 39 #[.val (.ref p0), .val (.int (0 : Int32)), .unset] [(.int (0 : Int32))]
  refine o_istoreN P (hb hby de39_39) (L' := #[.val (.ref p0), .val (.int (0 : Int32)), .val (.int (0 : Int32))]) rfl (pc' := 40) rfl ?_
  refine o_iloadN P (hb hby de39_40) rfl (pc' := 41) rfl ?_
  refine o_aloadN P (hb hby de39_41) rfl rfl (pc' := 42) rfl ?_
  refine o_getF P (ow hw 59 rfl) Via.refl (F_p0.fld 0 rfl) (hb hby de39_42) (pc' := 45) rfl ?_
  clear P; intro T P
  refine o_icmp_ge P (hb hby de39_45) (by decide) (pc' := 67) (by decide) (pcf := 48) rfl (fun q => absurd (by decide) q) (fun _ => ?_)
  refine o_aloadN P (hb hby de39_48) rfl rfl (pc' := 49) rfl ?_
  refine o_getF P (ow hw 71 rfl) Via.refl (F_p0.fld 2 rfl) (hb hby de39_49) (pc' := 52) rfl ?_
  clear P; intro T P
  refine o_iloadN P (hb hby de39_52) rfl (pc' := 53) rfl ?_
  refine o_laload P (v := (.long (131073 : Int64))) A_p1 (by decide) rfl (hb hby de39_53) (pc' := 54) rfl ?_
  refine o_lconst P (1 : Int64) (hb hby de39_54) rfl (pc' := 55) rfl ?_
  refine o_iloadN P (hb hby de39_55) rfl (pc' := 56) rfl ?_
  refine o_lshl P (hb hby de39_56) (pc' := 57) rfl ?_
  show OG p e below m _ T 57 #[.val (.ref p0), .val (.int (0 : Int32)), .val (.int (0 : Int32))] [(.long (1 : Int64)), (.long (131073 : Int64))]
  refine o_land P (hb hby de39_57) (pc' := 58) rfl ?_
  show OG p e below m _ T 58 #[.val (.ref p0), .val (.int (0 : Int32)), .val (.int (0 : Int32))] [(.long (1 : Int64))]
  refine o_lconst P (0 : Int64) (hb hby de39_58) rfl (pc' := 59) rfl ?_
  refine o_lcmp P (hb hby de39_59) (pc' := 60) rfl ?_
  show OG p e below m _ T 60 #[.val (.ref p0), .val (.int (0 : Int32)), .val (.int (0 : Int32))] [(.int (1 : Int32))]
  refine o_if_eq P (hb hby de39_60) (by decide) (pc' := 67) (by decide) (pcf := 63) rfl (fun q => absurd q (by decide)) (fun _ => ?_)
  refine o_iconst P (1 : Int32) (hb hby de39_63) rfl (pc' := 64) rfl ?_
  refine o_goto P (hb hby de39_64) (by decide) (pc' := 68) (by decide) ?_
  exact o_retI P hret (by simp) rfl (hb hby de39_68) (by decide) (by decide) ⟨rfl, rfl⟩
theorem ef_ct_e91 (x0 : Addr) (x1 : Int32) (m : MethodId) : entryFrame m #[(.ref x0), (.int x1)] 3 = mkF m 0 #[.val (.ref x0), .val (.int x1), .unset] [] := by first | (simp [entryFrame, mkF, argsToLocals, o_catR, o_catN, o_catI, o_catJ, o_catD]; done) | rfl
set_option maxRecDepth 65536 in
set_option maxHeartbeats 40000000 in
theorem ct_e91 (l : Launch) (Z : State) (a0 : Array Value) (hw : ∀ d ∈ tables_1, d.before a0 Z = true) (EL : List (String × Nat)) (n0 : Nat) (p0 : Addr) (p1 : Addr)  (had : Sta Z Z.heap "java/util/BitSet" "$assertionsDisabled" "Z" (.int 1)) (od : Addr) (hod : Sta Z Z.heap "com/example/centile/centile/function/Order" "ASCENDING" "Lcom/example/centile/centile/function/Order;" (.ref od)) (h0 : Heap) (F_p0 : OObj Z h0 p0 "java/util/BitSet" [("java/util/BitSet", "wordsInUse", "I", (.int (1 : Int32))), ("java/util/BitSet", "sizeIsSticky", "Z", (.int (1 : Int32))), ("java/util/BitSet", "words", "[J", (.ref p1))]) (A_p1 : OArr Z h0 p1 .long [(.long (131073 : Int64))]) (ne_p0_p1 : p0 ≠ p1) :
    OCt l Z a0 EL n0 (⟨"java/util/BitSet", "get", "(I)Z"⟩ : MethodName) jdk_92_method_26_code 3 (some .boolean) ({ frames := 1, cells := 0, slots := 0, locals := 12 } : Room) [] #[(.ref p0), (.int (1 : Int32))] h0 [] (fun w vm h => w = some (.int (0 : Int32)) ∧ h = h0) := by
  refine OCt.body (plainFor_of_name pn_e1) (ef_ct_e91 p0 ((1 : Int32))) ?_
  intro p e s m below meth c T hby hml hret hnm hsh P
  refine o_iloadN P (hb hby de39_0) rfl (pc' := 1) rfl ?_
  refine o_if_ge P (hb hby de39_1) (by decide) (pc' := 31) (by decide) (pcf := 4) rfl (fun _ => ?_) (fun q => absurd q (by decide))
  refine o_aloadN P (hb hby de39_31) rfl rfl (pc' := 32) rfl ?_
  refine o_callP P (W := 0) (a := p0) (ow hw 90 rfl) (ow hw 91 rfl) (ow hw 93 rfl) (ow hw 92 rfl) (ow hw 54 rfl) (ow hw 94 rfl) (by decide) F_p0.exa (ct_e87 l Z a0 hw EL n0 p0 p1  had od hod h0 F_p0 A_p1 ne_p0_p1) o_sf0 (by rw [hml]; rfl) (by decide) (by decide) (argsL := []) (rest := []) (lenOf pd_0 rfl) rfl rfl (Nat.le_of_eq rfl) (hb hby de39_32) (pc' := 35) rfl (by decide) (by decide) ?_
  clear P; intro T h2 v2 P K2 q2
  obtain ⟨rfl, rfl⟩ := q2; clear K2
  show OG p e below m _ T 35 #[.val (.ref p0), .val (.int (1 : Int32)), .unset] []
  refine o_iloadN P (hb hby de39_35) rfl (pc' := 36) rfl ?_
  refine o_callS P (W := 0) (ow hw 68 rfl) (ow hw 69 rfl) (ow hw 54 rfl) (ow hw 70 rfl) (by decide) (ct_e41 l Z a0 hw EL n0   had od hod h2  ) o_sf0 (by rw [hml]; rfl) (by decide) (by decide) (argsL := [(.int (1 : Int32))]) (rest := []) (lenOf pd_4 rfl) rfl rfl (Nat.le_of_eq rfl) (hb hby de39_36) (pc' := 39) rfl (by decide) (by decide) ?_
  clear P; intro T h4 v4 P K4 q4
  obtain ⟨rfl, rfl⟩ := q4; clear K4
  show OG p e below m _ T 39 #[.val (.ref p0), .val (.int (1 : Int32)), .unset] [(.int (0 : Int32))]
  refine o_istoreN P (hb hby de39_39) (L' := #[.val (.ref p0), .val (.int (1 : Int32)), .val (.int (0 : Int32))]) rfl (pc' := 40) rfl ?_
  refine o_iloadN P (hb hby de39_40) rfl (pc' := 41) rfl ?_
  refine o_aloadN P (hb hby de39_41) rfl rfl (pc' := 42) rfl ?_
  refine o_getF P (ow hw 59 rfl) Via.refl (F_p0.fld 0 rfl) (hb hby de39_42) (pc' := 45) rfl ?_
  clear P; intro T P
  refine o_icmp_ge P (hb hby de39_45) (by decide) (pc' := 67) (by decide) (pcf := 48) rfl (fun q => absurd (by decide) q) (fun _ => ?_)
  refine o_aloadN P (hb hby de39_48) rfl rfl (pc' := 49) rfl ?_
  refine o_getF P (ow hw 71 rfl) Via.refl (F_p0.fld 2 rfl) (hb hby de39_49) (pc' := 52) rfl ?_
  clear P; intro T P
  refine o_iloadN P (hb hby de39_52) rfl (pc' := 53) rfl ?_
  refine o_laload P (v := (.long (131073 : Int64))) A_p1 (by decide) rfl (hb hby de39_53) (pc' := 54) rfl ?_
  refine o_lconst P (1 : Int64) (hb hby de39_54) rfl (pc' := 55) rfl ?_
  refine o_iloadN P (hb hby de39_55) rfl (pc' := 56) rfl ?_
  refine o_lshl P (hb hby de39_56) (pc' := 57) rfl ?_
  show OG p e below m _ T 57 #[.val (.ref p0), .val (.int (1 : Int32)), .val (.int (0 : Int32))] [(.long (2 : Int64)), (.long (131073 : Int64))]
  refine o_land P (hb hby de39_57) (pc' := 58) rfl ?_
  show OG p e below m _ T 58 #[.val (.ref p0), .val (.int (1 : Int32)), .val (.int (0 : Int32))] [(.long (0 : Int64))]
  refine o_lconst P (0 : Int64) (hb hby de39_58) rfl (pc' := 59) rfl ?_
  refine o_lcmp P (hb hby de39_59) (pc' := 60) rfl ?_
  show OG p e below m _ T 60 #[.val (.ref p0), .val (.int (1 : Int32)), .val (.int (0 : Int32))] [(.int (0 : Int32))]
  refine o_if_eq P (hb hby de39_60) (by decide) (pc' := 67) (by decide) (pcf := 63) rfl (fun _ => ?_) (fun q => absurd (by decide) q)
  refine o_iconst P (0 : Int32) (hb hby de39_67) rfl (pc' := 68) rfl ?_
  exact o_retI P hret (by simp) rfl (hb hby de39_68) (by decide) (by decide) ⟨rfl, rfl⟩
theorem ef_ct_e92 (x0 : Addr) (x1 : Int32) (m : MethodId) : entryFrame m #[(.ref x0), (.int x1)] 5 = mkF m 0 #[.val (.ref x0), .val (.int x1), .unset, .unset, .unset] [] := by first | (simp [entryFrame, mkF, argsToLocals, o_catR, o_catN, o_catI, o_catJ, o_catD]; done) | rfl
set_option maxRecDepth 65536 in
set_option maxHeartbeats 40000000 in
theorem ct_e92 (l : Launch) (Z : State) (a0 : Array Value) (hw : ∀ d ∈ tables_1, d.before a0 Z = true) (EL : List (String × Nat)) (n0 : Nat) (p0 : Addr) (p1 : Addr)  (had : Sta Z Z.heap "java/util/BitSet" "$assertionsDisabled" "Z" (.int 1)) (od : Addr) (hod : Sta Z Z.heap "com/example/centile/centile/function/Order" "ASCENDING" "Lcom/example/centile/centile/function/Order;" (.ref od)) (h0 : Heap) (F_p0 : OObj Z h0 p0 "java/util/BitSet" [("java/util/BitSet", "wordsInUse", "I", (.int (1 : Int32))), ("java/util/BitSet", "sizeIsSticky", "Z", (.int (1 : Int32))), ("java/util/BitSet", "words", "[J", (.ref p1))]) (A_p1 : OArr Z h0 p1 .long [(.long (131073 : Int64))]) (ne_p0_p1 : p0 ≠ p1) :
    OCt l Z a0 EL n0 (⟨"java/util/BitSet", "previousSetBit", "(I)I"⟩ : MethodName) jdk_92_method_30_code 5 (some .int) ({ frames := 2, cells := 0, slots := 0, locals := 29 } : Room) [] #[(.ref p0), (.int (0 : Int32))] h0 [] (fun w vm h => w = some (.int (0 : Int32)) ∧ h = h0) := by
  refine OCt.body (plainFor_of_name pn_e1) (ef_ct_e92 p0 ((0 : Int32))) ?_
  intro p e s m below meth c T hby hml hret hnm hsh P
  refine o_iloadN P (hb hby de43_0) rfl (pc' := 1) rfl ?_
  refine o_if_ge P (hb hby de43_1) (by decide) (pc' := 38) (by decide) (pcf := 4) rfl (fun _ => ?_) (fun q => absurd q (by decide))
  refine o_aloadN P (hb hby de43_38) rfl rfl (pc' := 39) rfl ?_
  refine o_callP P (W := 0) (a := p0) (ow hw 90 rfl) (ow hw 91 rfl) (ow hw 93 rfl) (ow hw 92 rfl) (ow hw 54 rfl) (ow hw 94 rfl) (by decide) F_p0.exa (ct_e87 l Z a0 hw EL n0 p0 p1  had od hod h0 F_p0 A_p1 ne_p0_p1) o_sf0 (by rw [hml]; rfl) (by decide) (by decide) (argsL := []) (rest := []) (lenOf pd_0 rfl) rfl rfl (Nat.le_of_eq rfl) (hb hby de43_39) (pc' := 42) rfl (by decide) (by decide) ?_
  clear P; intro T h2 v2 P K2 q2
  obtain ⟨rfl, rfl⟩ := q2; clear K2
  show OG p e below m _ T 42 #[.val (.ref p0), .val (.int (0 : Int32)), .unset, .unset, .unset] []
  refine o_iloadN P (hb hby de43_42) rfl (pc' := 43) rfl ?_
  refine o_callS P (W := 0) (ow hw 68 rfl) (ow hw 69 rfl) (ow hw 54 rfl) (ow hw 70 rfl) (by decide) (ct_e25 l Z a0 hw EL n0   had od hod h2  ) o_sf0 (by rw [hml]; rfl) (by decide) (by decide) (argsL := [(.int (0 : Int32))]) (rest := []) (lenOf pd_4 rfl) rfl rfl (Nat.le_of_eq rfl) (hb hby de43_43) (pc' := 46) rfl (by decide) (by decide) ?_
  clear P; intro T h4 v4 P K4 q4
  obtain ⟨rfl, rfl⟩ := q4; clear K4
  show OG p e below m _ T 46 #[.val (.ref p0), .val (.int (0 : Int32)), .unset, .unset, .unset] [(.int (0 : Int32))]
  refine o_istoreN P (hb hby de43_46) (L' := #[.val (.ref p0), .val (.int (0 : Int32)), .val (.int (0 : Int32)), .unset, .unset]) rfl (pc' := 47) rfl ?_
  refine o_iloadN P (hb hby de43_47) rfl (pc' := 48) rfl ?_
  refine o_aloadN P (hb hby de43_48) rfl rfl (pc' := 49) rfl ?_
  refine o_getF P (ow hw 59 rfl) Via.refl (F_p0.fld 0 rfl) (hb hby de43_49) (pc' := 52) rfl ?_
  clear P; intro T P
  refine o_icmp_lt P (hb hby de43_52) (by decide) (pc' := 62) (by decide) (pcf := 55) rfl (fun _ => ?_) (fun q => absurd (by decide) q)
  refine o_aloadN P (hb hby de43_62) rfl rfl (pc' := 63) rfl ?_
  refine o_getF P (ow hw 71 rfl) Via.refl (F_p0.fld 2 rfl) (hb hby de43_63) (pc' := 66) rfl ?_
  clear P; intro T P
  refine o_iloadN P (hb hby de43_66) rfl (pc' := 67) rfl ?_
  refine o_laload P (v := (.long (131073 : Int64))) A_p1 (by decide) rfl (hb hby de43_67) (pc' := 68) rfl ?_
  refine o_ldc2L P (ow hw 116 rfl) (hb hby de43_68) (pc' := 71) rfl ?_
  refine o_iloadN P (hb hby de43_71) rfl (pc' := 72) rfl ?_
  refine o_iconst P (1 : Int32) (hb hby de43_72) rfl (pc' := 73) rfl ?_
  refine o_iadd P (hb hby de43_73) (pc' := 74) rfl ?_
  show OG p e below m _ T 74 #[.val (.ref p0), .val (.int (0 : Int32)), .val (.int (0 : Int32)), .unset, .unset] [(.int (1 : Int32)), (.long (-1 : Int64)), (.long (131073 : Int64))]
  refine o_ineg P (hb hby de43_74) (pc' := 75) rfl ?_
  show OG p e below m _ T 75 #[.val (.ref p0), .val (.int (0 : Int32)), .val (.int (0 : Int32)), .unset, .unset] [(.int (-1 : Int32)), (.long (-1 : Int64)), (.long (131073 : Int64))]
  refine o_lushr P (hb hby de43_75) (pc' := 76) rfl ?_
  show OG p e below m _ T 76 #[.val (.ref p0), .val (.int (0 : Int32)), .val (.int (0 : Int32)), .unset, .unset] [(.long (1 : Int64)), (.long (131073 : Int64))]
  refine o_land P (hb hby de43_76) (pc' := 77) rfl ?_
  show OG p e below m _ T 77 #[.val (.ref p0), .val (.int (0 : Int32)), .val (.int (0 : Int32)), .unset, .unset] [(.long (1 : Int64))]
  refine o_lstoreN P (hb hby de43_77) (L' := #[.val (.ref p0), .val (.int (0 : Int32)), .val (.int (0 : Int32)), .val (.long (1 : Int64)), .second]) rfl (pc' := 78) rfl ?_
  refine o_lloadN P (hb hby de43_78) rfl (pc' := 79) rfl ?_
  refine o_lconst P (0 : Int64) (hb hby de43_79) rfl (pc' := 80) rfl ?_
  refine o_lcmp P (hb hby de43_80) (pc' := 81) rfl ?_
  show OG p e below m _ T 81 #[.val (.ref p0), .val (.int (0 : Int32)), .val (.int (0 : Int32)), .val (.long (1 : Int64)), .second] [(.int (1 : Int32))]
  refine o_if_eq P (hb hby de43_81) (by decide) (pc' := 98) (by decide) (pcf := 84) rfl (fun q => absurd q (by decide)) (fun _ => ?_)
  refine o_iloadN P (hb hby de43_84) rfl (pc' := 85) rfl ?_
  refine o_iconst P (1 : Int32) (hb hby de43_85) rfl (pc' := 86) rfl ?_
  refine o_iadd P (hb hby de43_86) (pc' := 87) rfl ?_
  show OG p e below m _ T 87 #[.val (.ref p0), .val (.int (0 : Int32)), .val (.int (0 : Int32)), .val (.long (1 : Int64)), .second] [(.int (1 : Int32))]
  refine o_bipush P (64 : Int32) (hb hby de43_87) rfl (pc' := 89) rfl ?_
  refine o_imul P (hb hby de43_89) (pc' := 90) rfl ?_
  show OG p e below m _ T 90 #[.val (.ref p0), .val (.int (0 : Int32)), .val (.int (0 : Int32)), .val (.long (1 : Int64)), .second] [(.int (64 : Int32))]
  refine o_iconst P (1 : Int32) (hb hby de43_90) rfl (pc' := 91) rfl ?_
  refine o_isub P (hb hby de43_91) (pc' := 92) rfl ?_
  show OG p e below m _ T 92 #[.val (.ref p0), .val (.int (0 : Int32)), .val (.int (0 : Int32)), .val (.long (1 : Int64)), .second] [(.int (63 : Int32))]
  refine o_lloadN P (hb hby de43_92) rfl (pc' := 93) rfl ?_
  refine o_callS P (W := 1) (ow hw 117 rfl) (ow hw 118 rfl) (ow hw 119 rfl) (ow hw 120 rfl) (by decide) (ct_e47 l Z a0 hw EL n0   had od hod h4  ) o_sf0 (by rw [hml]; rfl) (by decide) (by decide) (argsL := [(.long (1 : Int64))]) (rest := [(.int (63 : Int32))]) (lenOf pd_7 rfl) rfl rfl (Nat.le_of_eq rfl) (hb hby de43_93) (pc' := 96) rfl (by decide) (by decide) ?_
  clear P; intro T h6 v6 P K6 q6
  obtain ⟨rfl, rfl⟩ := q6; clear K6
  show OG p e below m _ T 96 #[.val (.ref p0), .val (.int (0 : Int32)), .val (.int (0 : Int32)), .val (.long (1 : Int64)), .second] [(.int (63 : Int32)), (.int (63 : Int32))]
  refine o_isub P (hb hby de43_96) (pc' := 97) rfl ?_
  show OG p e below m _ T 97 #[.val (.ref p0), .val (.int (0 : Int32)), .val (.int (0 : Int32)), .val (.long (1 : Int64)), .second] [(.int (0 : Int32))]
  exact o_retI P hret (by simp) rfl (hb hby de43_97) (by decide) (by decide) ⟨rfl, rfl⟩
theorem ef_ct_e93 (x0 : Int32) (m : MethodId) : entryFrame m #[(.int x0)] 2 = mkF m 0 #[.val (.int x0), .unset] [] := by first | (simp [entryFrame, mkF, argsToLocals, o_catR, o_catN, o_catI, o_catJ, o_catD]; done) | rfl
set_option maxRecDepth 65536 in
set_option maxHeartbeats 40000000 in
theorem ct_e93 (l : Launch) (Z : State) (a0 : Array Value) (hw : ∀ d ∈ tables_1, d.before a0 Z = true) (EL : List (String × Nat)) (n0 : Nat)   (had : Sta Z Z.heap "java/util/BitSet" "$assertionsDisabled" "Z" (.int 1)) (od : Addr) (hod : Sta Z Z.heap "com/example/centile/centile/function/Order" "ASCENDING" "Lcom/example/centile/centile/function/Order;" (.ref od)) (h0 : Heap)   :
    OCt l Z a0 EL n0 (⟨"java/lang/Integer", "numberOfTrailingZeros", "(I)I"⟩ : MethodName) jdk_33_method_48_code 2 (some .int) ({ frames := 0, cells := 0, slots := 0, locals := 0 } : Room) [] #[(.int (131072 : Int32))] h0 [] (fun w vm h => w = some (.int (17 : Int32)) ∧ h = h0) := by
  refine OCt.body (plainFor_of_name pn_e3) (ef_ct_e93 ((131072 : Int32))) ?_
  intro p e s m below meth c T hby hml hret hnm hsh P
  refine o_iloadN P (hb hby de51_0) rfl (pc' := 1) rfl ?_
  refine o_iconst P (-1 : Int32) (hb hby de51_1) rfl (pc' := 2) rfl ?_
  refine o_ixor P (hb hby de51_2) (pc' := 3) rfl ?_
  show OG p e below m _ T 3 #[.val (.int (131072 : Int32)), .unset] [(.int (-131073 : Int32))]
  refine o_iloadN P (hb hby de51_3) rfl (pc' := 4) rfl ?_
  refine o_iconst P (1 : Int32) (hb hby de51_4) rfl (pc' := 5) rfl ?_
  refine o_isub P (hb hby de51_5) (pc' := 6) rfl ?_
  show OG p e below m _ T 6 #[.val (.int (131072 : Int32)), .unset] [(.int (131071 : Int32)), (.int (-131073 : Int32))]
  refine o_iand P (hb hby de51_6) (pc' := 7) rfl ?_
  show OG p e below m _ T 7 #[.val (.int (131072 : Int32)), .unset] [(.int (131071 : Int32))]
  refine o_istoreN P (hb hby de51_7) (L' := #[.val (.int (131071 : Int32)), .unset]) rfl (pc' := 8) rfl ?_
  refine o_iloadN P (hb hby de51_8) rfl (pc' := 9) rfl ?_
  refine o_if_gt P (hb hby de51_9) (by decide) (pc' := 17) (by decide) (pcf := 12) rfl (fun _ => ?_) (fun q => absurd (by decide) q)
  refine o_iconst P (1 : Int32) (hb hby de51_17) rfl (pc' := 18) rfl ?_
  refine o_istoreN P (hb hby de51_18) (L' := #[.val (.int (131071 : Int32)), .val (.int (1 : Int32))]) rfl (pc' := 19) rfl ?_
  refine o_iloadN P (hb hby de51_19) rfl (pc' := 20) rfl ?_
  refine o_ldcWI P (ow hw 125 rfl) (hb hby de51_20) (pc' := 23) rfl ?_
  refine o_icmp_le P (hb hby de51_23) (by decide) (pc' := 34) (by decide) (pcf := 26) rfl (fun q => absurd (by decide) q) (fun _ => ?_)
  refine o_iinc P (16 : Int32) (hb hby de51_26) rfl rfl (L' := #[.val (.int (131071 : Int32)), .val (.int (17 : Int32))]) rfl (pc' := 29) rfl ?_
  refine o_iloadN P (hb hby de51_29) rfl (pc' := 30) rfl ?_
  refine o_bipush P (16 : Int32) (hb hby de51_30) rfl (pc' := 32) rfl ?_
  refine o_iushr P (hb hby de51_32) (pc' := 33) rfl ?_
  show OG p e below m _ T 33 #[.val (.int (131071 : Int32)), .val (.int (17 : Int32))] [(.int (1 : Int32))]
  refine o_istoreN P (hb hby de51_33) (L' := #[.val (.int (1 : Int32)), .val (.int (17 : Int32))]) rfl (pc' := 34) rfl ?_
  refine o_iloadN P (hb hby de51_34) rfl (pc' := 35) rfl ?_
  refine o_sipush P (256 : Int32) (hb hby de51_35) rfl (pc' := 38) rfl ?_
  refine o_icmp_le P (hb hby de51_38) (by decide) (pc' := 49) (by decide) (pcf := 41) rfl (fun _ => ?_) (fun q => absurd q (by decide))
  refine o_iloadN P (hb hby de51_49) rfl (pc' := 50) rfl ?_
  refine o_bipush P (16 : Int32) (hb hby de51_50) rfl (pc' := 52) rfl ?_
  refine o_icmp_le P (hb hby de51_52) (by decide) (pc' := 62) (by decide) (pcf := 55) rfl (fun _ => ?_) (fun q => absurd q (by decide))
  refine o_iloadN P (hb hby de51_62) rfl (pc' := 63) rfl ?_
  refine o_iconst P (4 : Int32) (hb hby de51_63) rfl (pc' := 64) rfl ?_
  refine o_icmp_le P (hb hby de51_64) (by decide) (pc' := 74) (by decide) (pcf := 67) rfl (fun _ => ?_) (fun q => absurd q (by decide))
  refine o_iloadN P (hb hby de51_74) rfl (pc' := 75) rfl ?_
  refine o_iloadN P (hb hby de51_75) rfl (pc' := 76) rfl ?_
  refine o_iconst P (1 : Int32) (hb hby de51_76) rfl (pc' := 77) rfl ?_
  refine o_iushr P (hb hby de51_77) (pc' := 78) rfl ?_
  show OG p e below m _ T 78 #[.val (.int (1 : Int32)), .val (.int (17 : Int32))] [(.int (0 : Int32)), (.int (17 : Int32))]
  refine o_iadd P (hb hby de51_78) (pc' := 79) rfl ?_
  show OG p e below m _ T 79 #[.val (.int (1 : Int32)), .val (.int (17 : Int32))] [(.int (17 : Int32))]
  exact o_retI P hret (by simp) rfl (hb hby de51_79) (by decide) (by decide) ⟨rfl, rfl⟩
theorem ef_ct_e94 (x0 : Int64) (m : MethodId) : entryFrame m #[(.long x0)] 3 = mkF m 0 #[.val (.long x0), .second, .unset] [] := by first | (simp [entryFrame, mkF, argsToLocals, o_catR, o_catN, o_catI, o_catJ, o_catD]; done) | rfl
set_option maxRecDepth 65536 in
set_option maxHeartbeats 40000000 in
theorem ct_e94 (l : Launch) (Z : State) (a0 : Array Value) (hw : ∀ d ∈ tables_1, d.before a0 Z = true) (EL : List (String × Nat)) (n0 : Nat)   (had : Sta Z Z.heap "java/util/BitSet" "$assertionsDisabled" "Z" (.int 1)) (od : Addr) (hod : Sta Z Z.heap "com/example/centile/centile/function/Order" "ASCENDING" "Lcom/example/centile/centile/function/Order;" (.ref od)) (h0 : Heap)   :
    OCt l Z a0 EL n0 (⟨"java/lang/Long", "numberOfTrailingZeros", "(J)I"⟩ : MethodName) jdk_35_method_49_code 3 (some .int) ({ frames := 1, cells := 0, slots := 0, locals := 13 } : Room) [] #[(.long (131072 : Int64))] h0 [] (fun w vm h => w = some (.int (17 : Int32)) ∧ h = h0) := by
  refine OCt.body (plainFor_of_name pn_e4) (ef_ct_e94 ((131072 : Int64))) ?_
  intro p e s m below meth c T hby hml hret hnm hsh P
  refine o_lloadN P (hb hby de50_0) rfl (pc' := 1) rfl ?_
  refine o_l2i P (hb hby de50_1) (pc' := 2) rfl ?_
  show OG p e below m _ T 2 #[.val (.long (131072 : Int64)), .second, .unset] [(.int (131072 : Int32))]
  refine o_istoreN P (hb hby de50_2) (L' := #[.val (.long (131072 : Int64)), .second, .val (.int (131072 : Int32))]) rfl (pc' := 3) rfl ?_
  refine o_iloadN P (hb hby de50_3) rfl (pc' := 4) rfl ?_
  refine o_if_ne P (hb hby de50_4) (by decide) (pc' := 21) (by decide) (pcf := 7) rfl (fun _ => ?_) (fun q => absurd q (by decide))
  refine o_iloadN P (hb hby de50_21) rfl (pc' := 22) rfl ?_
  refine o_callS P (W := 0) (ow hw 134 rfl) (ow hw 135 rfl) (ow hw 123 rfl) (ow hw 136 rfl) (by decide) (ct_e93 l Z a0 hw EL n0   had od hod h0  ) o_sf0 (by rw [hml]; rfl) (by decide) (by decide) (argsL := [(.int (131072 : Int32))]) (rest := []) (lenOf pd_4 rfl) rfl rfl (Nat.le_of_eq rfl) (hb hby de50_22) (pc' := 25) rfl (by decide) (by decide) ?_
  clear P; intro T h2 v2 P K2 q2
  obtain ⟨rfl, rfl⟩ := q2; clear K2
  show OG p e below m _ T 25 #[.val (.long (131072 : Int64)), .second, .val (.int (131072 : Int32))] [(.int (17 : Int32))]
  exact o_retI P hret (by simp) rfl (hb hby de50_25) (by decide) (by decide) ⟨rfl, rfl⟩
theorem ef_ct_e95 (x0 : Addr) (x1 : Int32) (m : MethodId) : entryFrame m #[(.ref x0), (.int x1)] 5 = mkF m 0 #[.val (.ref x0), .val (.int x1), .unset, .unset, .unset] [] := by first | (simp [entryFrame, mkF, argsToLocals, o_catR, o_catN, o_catI, o_catJ, o_catD]; done) | rfl
set_option maxRecDepth 65536 in
set_option maxHeartbeats 40000000 in
theorem ct_e95 (l : Launch) (Z : State) (a0 : Array Value) (hw : ∀ d ∈ tables_1, d.before a0 Z = true) (EL : List (String × Nat)) (n0 : Nat) (p0 : Addr) (p1 : Addr)  (had : Sta Z Z.heap "java/util/BitSet" "$assertionsDisabled" "Z" (.int 1)) (od : Addr) (hod : Sta Z Z.heap "com/example/centile/centile/function/Order" "ASCENDING" "Lcom/example/centile/centile/function/Order;" (.ref od)) (h0 : Heap) (F_p0 : OObj Z h0 p0 "java/util/BitSet" [("java/util/BitSet", "wordsInUse", "I", (.int (1 : Int32))), ("java/util/BitSet", "sizeIsSticky", "Z", (.int (1 : Int32))), ("java/util/BitSet", "words", "[J", (.ref p1))]) (A_p1 : OArr Z h0 p1 .long [(.long (131073 : Int64))]) (ne_p0_p1 : p0 ≠ p1) :
    OCt l Z a0 EL n0 (⟨"java/util/BitSet", "nextSetBit", "(I)I"⟩ : MethodName) jdk_92_method_28_code 5 (some .int) ({ frames := 2, cells := 0, slots := 0, locals := 28 } : Room) [] #[(.ref p0), (.int (1 : Int32))] h0 [] (fun w vm h => w = some (.int (17 : Int32)) ∧ h = h0) := by
  refine OCt.body (plainFor_of_name pn_e1) (ef_ct_e95 p0 ((1 : Int32))) ?_
  intro p e s m below meth c T hby hml hret hnm hsh P
  refine o_iloadN P (hb hby de49_0) rfl (pc' := 1) rfl ?_
  refine o_if_ge P (hb hby de49_1) (by decide) (pc' := 31) (by decide) (pcf := 4) rfl (fun _ => ?_) (fun q => absurd q (by decide))
  refine o_aloadN P (hb hby de49_31) rfl rfl (pc' := 32) rfl ?_
  refine o_callP P (W := 0) (a := p0) (ow hw 90 rfl) (ow hw 91 rfl) (ow hw 93 rfl) (ow hw 92 rfl) (ow hw 54 rfl) (ow hw 94 rfl) (by decide) F_p0.exa (ct_e87 l Z a0 hw EL n0 p0 p1  had od hod h0 F_p0 A_p1 ne_p0_p1) o_sf0 (by rw [hml]; rfl) (by decide) (by decide) (argsL := []) (rest := []) (lenOf pd_0 rfl) rfl rfl (Nat.le_of_eq rfl) (hb hby de49_32) (pc' := 35) rfl (by decide) (by decide) ?_
  clear P; intro T h2 v2 P K2 q2
  obtain ⟨rfl, rfl⟩ := q2; clear K2
  show OG p e below m _ T 35 #[.val (.ref p0), .val (.int (1 : Int32)), .unset, .unset, .unset] []
  refine o_iloadN P (hb hby de49_35) rfl (pc' := 36) rfl ?_
  refine o_callS P (W := 0) (ow hw 68 rfl) (ow hw 69 rfl) (ow hw 54 rfl) (ow hw 70 rfl) (by decide) (ct_e41 l Z a0 hw EL n0   had od hod h2  ) o_sf0 (by rw [hml]; rfl) (by decide) (by decide) (argsL := [(.int (1 : Int32))]) (rest := []) (lenOf pd_4 rfl) rfl rfl (Nat.le_of_eq rfl) (hb hby de49_36) (pc' := 39) rfl (by decide) (by decide) ?_
  clear P; intro T h4 v4 P K4 q4
  obtain ⟨rfl, rfl⟩ := q4; clear K4
  show OG p e below m _ T 39 #[.val (.ref p0), .val (.int (1 : Int32)), .unset, .unset, .unset] [(.int (0 : Int32))]
  refine o_istoreN P (hb hby de49_39) (L' := #[.val (.ref p0), .val (.int (1 : Int32)), .val (.int (0 : Int32)), .unset, .unset]) rfl (pc' := 40) rfl ?_
  refine o_iloadN P (hb hby de49_40) rfl (pc' := 41) rfl ?_
  refine o_aloadN P (hb hby de49_41) rfl rfl (pc' := 42) rfl ?_
  refine o_getF P (ow hw 59 rfl) Via.refl (F_p0.fld 0 rfl) (hb hby de49_42) (pc' := 45) rfl ?_
  clear P; intro T P
  refine o_icmp_lt P (hb hby de49_45) (by decide) (pc' := 50) (by decide) (pcf := 48) rfl (fun _ => ?_) (fun q => absurd (by decide) q)
  refine o_aloadN P (hb hby de49_50) rfl rfl (pc' := 51) rfl ?_
  refine o_getF P (ow hw 71 rfl) Via.refl (F_p0.fld 2 rfl) (hb hby de49_51) (pc' := 54) rfl ?_
  clear P; intro T P
  refine o_iloadN P (hb hby de49_54) rfl (pc' := 55) rfl ?_
  refine o_laload P (v := (.long (131073 : Int64))) A_p1 (by decide) rfl (hb hby de49_55) (pc' := 56) rfl ?_
  refine o_ldc2L P (ow hw 116 rfl) (hb hby de49_56) (pc' := 59) rfl ?_
  refine o_iloadN P (hb hby de49_59) rfl (pc' := 60) rfl ?_
  refine o_lshl P (hb hby de49_60) (pc' := 61) rfl ?_
  show OG p e below m _ T 61 #[.val (.ref p0), .val (.int (1 : Int32)), .val (.int (0 : Int32)), .unset, .unset] [(.long (-2 : Int64)), (.long (131073 : Int64))]
  refine o_land P (hb hby de49_61) (pc' := 62) rfl ?_
  show OG p e below m _ T 62 #[.val (.ref p0), .val (.int (1 : Int32)), .val (.int (0 : Int32)), .unset, .unset] [(.long (131072 : Int64))]
  refine o_lstoreN P (hb hby de49_62) (L' := #[.val (.ref p0), .val (.int (1 : Int32)), .val (.int (0 : Int32)), .val (.long (131072 : Int64)), .second]) rfl (pc' := 63) rfl ?_
  refine o_lloadN P (hb hby de49_63) rfl (pc' := 64) rfl ?_
  refine o_lconst P (0 : Int64) (hb hby de49_64) rfl (pc' := 65) rfl ?_
  refine o_lcmp P (hb hby de49_65) (pc' := 66) rfl ?_
  show OG p e below m _ T 66 #[.val (.ref p0), .val (.int (1 : Int32)), .val (.int (0 : Int32)), .val (.long (131072 : Int64)), .second] [(.int (1 : Int32))]
  refine o_if_eq P (hb hby de49_66) (by decide) (pc' := 79) (by decide) (pcf := 69) rfl (fun q => absurd q (by decide)) (fun _ => ?_)
  refine o_iloadN P (hb hby de49_69) rfl (pc' := 70) rfl ?_
  refine o_bipush P (64 : Int32) (hb hby de49_70) rfl (pc' := 72) rfl ?_
  refine o_imul P (hb hby de49_72) (pc' := 73) rfl ?_
  show OG p e below m _ T 73 #[.val (.ref p0), .val (.int (1 : Int32)), .val (.int (0 : Int32)), .val (.long (131072 : Int64)), .second] [(.int (0 : Int32))]
  refine o_lloadN P (hb hby de49_73) rfl (pc' := 74) rfl ?_
  refine o_callS P (W := 1) (ow hw 131 rfl) (ow hw 132 rfl) (ow hw 119 rfl) (ow hw 133 rfl) (by decide) (ct_e94 l Z a0 hw EL n0   had od hod h4  ) o_sf0 (by rw [hml]; rfl) (by decide) (by decide) (argsL := [(.long (131072 : Int64))]) (rest := [(.int (0 : Int32))]) (lenOf pd_7 rfl) rfl rfl (Nat.le_of_eq rfl) (hb hby de49_74) (pc' := 77) rfl (by decide) (by decide) ?_
  clear P; intro T h6 v6 P K6 q6
  obtain ⟨rfl, rfl⟩ := q6; clear K6
  show OG p e below m _ T 77 #[.val (.ref p0), .val (.int (1 : Int32)), .val (.int (0 : Int32)), .val (.long (131072 : Int64)), .second] [(.int (17 : Int32)), (.int (0 : Int32))]
  refine o_iadd P (hb hby de49_77) (pc' := 78) rfl ?_
  show OG p e below m _ T 78 #[.val (.ref p0), .val (.int (1 : Int32)), .val (.int (0 : Int32)), .val (.long (131072 : Int64)), .second] [(.int (17 : Int32))]
  exact o_retI P hret (by simp) rfl (hb hby de49_78) (by decide) (by decide) ⟨rfl, rfl⟩
theorem ef_ct_e96 (x0 : Int32) (x1 : Int32) (x2 : Int32) (m : MethodId) : entryFrame m #[(.int x0), (.int x1), (.int x2)] 3 = mkF m 0 #[.val (.int x0), .val (.int x1), .val (.int x2)] [] := by first | (simp [entryFrame, mkF, argsToLocals, o_catR, o_catN, o_catI, o_catJ, o_catD]; done) | rfl
set_option maxRecDepth 65536 in
set_option maxHeartbeats 40000000 in
theorem ct_e96 (l : Launch) (Z : State) (a0 : Array Value) (hw : ∀ d ∈ tables_1, d.before a0 Z = true) (EL : List (String × Nat)) (n0 : Nat)   (had : Sta Z Z.heap "java/util/BitSet" "$assertionsDisabled" "Z" (.int 1)) (od : Addr) (hod : Sta Z Z.heap "com/example/centile/centile/function/Order" "ASCENDING" "Lcom/example/centile/centile/function/Order;" (.ref od)) (h0 : Heap)   :
    OCt l Z a0 EL n0 (⟨"java/util/Arrays", "rangeCheck", "(III)V"⟩ : MethodName) jdk_65_method_30_code 3 none ({ frames := 0, cells := 0, slots := 0, locals := 0 } : Room) [] #[(.int (32 : Int32)), (.int (0 : Int32)), (.int (17 : Int32))] h0 [] (fun w vm h => w = none ∧ h = h0) := by
  refine OCt.body (plainFor_of_name pn_e5) (ef_ct_e96 ((32 : Int32)) ((0 : Int32)) ((17 : Int32))) ?_
  intro p e s m below meth c T hby hml hret hnm hsh P
  refine o_iloadN P (hb hby de56_0) rfl (pc' := 1) rfl ?_
  refine o_iloadN P (hb hby de56_1) rfl (pc' := 2) rfl ?_
  refine o_icmp_le P (hb hby de56_2) (by decide) (pc' := 46) (by decide) (pcf := 5) rfl (fun _ => ?_) (fun q => absurd q (by decide))
  refine o_iloadN P (hb hby de56_46) rfl (pc' := 47) rfl ?_
  refine o_if_ge P (hb hby de56_47) (by decide) (pc' := 59) (by decide) (pcf := 50) rfl (fun _ => ?_) (fun q => absurd q (by decide))
  refine o_iloadN P (hb hby de56_59) rfl (pc' := 60) rfl ?_
  refine o_iloadN P (hb hby de56_60) rfl (pc' := 61) rfl ?_
  refine o_icmp_le P (hb hby de56_61) (by decide) (pc' := 73) (by decide) (pcf := 64) rfl (fun _ => ?_) (fun q => absurd q (by decide))
  exact o_ret0 P hret (hb hby de56_73) (by decide) (by decide) ⟨rfl, rfl⟩
theorem ef_ct_e97 (x1 : Addr) (x2 : Int32) (x3 : Int32) (x4 : Int32) (m : MethodId) : entryFrame m #[.null, (.ref x1), (.int x2), (.int x3), (.int x4)] 25 = mkF m 0 #[.val .null, .val (.ref x1), .val (.int x2), .val (.int x3), .val (.int x4), .unset, .unset, .unset, .unset, .unset, .unset, .unset, .unset, .unset, .unset, .unset, .unset, .unset, .unset, .unset, .unset, .unset, .unset, .unset, .unset] [] := by first | (simp [entryFrame, mkF, argsToLocals, o_catR, o_catN, o_catI, o_catJ, o_catD]; done) | rfl
set_option maxRecDepth 65536 in
set_option maxHeartbeats 40000000 in
theorem ct_e97 (l : Launch) (Z : State) (a0 : Array Value) (hw : ∀ d ∈ tables_1, d.before a0 Z = true) (EL : List (String × Nat)) (n0 : Nat) (p0 : Addr) (x0 : Int64) (x1 : Int64) (x2 : Int64) (x3 : Int64) (x4 : Int64) (x5 : Int64) (x6 : Int64) (x7 : Int64) (x8 : Int64) (x9 : Int64) (x10 : Int64) (x11 : Int64) (x12 : Int64) (x13 : Int64) (x14 : Int64) (x15 : Int64) (x16 : Int64) (had : Sta Z Z.heap "java/util/BitSet" "$assertionsDisabled" "Z" (.int 1)) (od : Addr) (hod : Sta Z Z.heap "com/example/centile/centile/function/Order" "ASCENDING" "Lcom/example/centile/centile/function/Order;" (.ref od)) (h0 : Heap) (A_p0 : OArr Z h0 p0 .long [(.long x0), (.long x1), (.long x2), (.long x3), (.long x4), (.long x5), (.long x6), (.long x7), (.long x8), (.long x9), (.long x10), (.long x11), (.long x12), (.long x13), (.long x14), (.long x15), (.long x16), (.long (0 : Int64)), (.long (0 : Int64)), (.long (0 : Int64)), (.long (0 : Int64)), (.long (0 : Int64)), (.long (0 : Int64)), (.long (0 : Int64)), (.long (0 : Int64)), (.long (0 : Int64)), (.long (0 : Int64)), (.long (0 : Int64)), (.long (0 : Int64)), (.long (0 : Int64)), (.long (0 : Int64)), (.long (0 : Int64))])  :
    OCt l Z a0 EL n0 (⟨"java/util/DualPivotQuicksort", "sort", "(Ljava/util/DualPivotQuicksort$Sorter;[JIII)V"⟩ : MethodName) jdk_2529_method_13_code 25 none ({ frames := 1, cells := 0, slots := 0, locals := 18 } : Room) [] #[.null, (.ref p0), (.int (0 : Int32)), (.int (0 : Int32)), (.int (17 : Int32))] h0 [p0] (fun w vm h => w = none ∧ OArr Z h p0 .long [(.long (og [x0, x1, x2, x3, x4, x5, x6, x7, x8, x9, x10, x11, x12, x13, x14, x15, x16] 0)), (.long (og [x0, x1, x2, x3, x4, x5, x6, x7, x8, x9, x10, x11, x12, x13, x14, x15, x16] 1)), (.long (og [x0, x1, x2, x3, x4, x5, x6, x7, x8, x9, x10, x11, x12, x13, x14, x15, x16] 2)), (.long (og [x0, x1, x2, x3, x4, x5, x6, x7, x8, x9, x10, x11, x12, x13, x14, x15, x16] 3)), (.long (og [x0, x1, x2, x3, x4, x5, x6, x7, x8, x9, x10, x11, x12, x13, x14, x15, x16] 4)), (.long (og [x0, x1, x2, x3, x4, x5, x6, x7, x8, x9, x10, x11, x12, x13, x14, x15, x16] 5)), (.long (og [x0, x1, x2, x3, x4, x5, x6, x7, x8, x9, x10, x11, x12, x13, x14, x15, x16] 6)), (.long (og [x0, x1, x2, x3, x4, x5, x6, x7, x8, x9, x10, x11, x12, x13, x14, x15, x16] 7)), (.long (og [x0, x1, x2, x3, x4, x5, x6, x7, x8, x9, x10, x11, x12, x13, x14, x15, x16] 8)), (.long (og [x0, x1, x2, x3, x4, x5, x6, x7, x8, x9, x10, x11, x12, x13, x14, x15, x16] 9)), (.long (og [x0, x1, x2, x3, x4, x5, x6, x7, x8, x9, x10, x11, x12, x13, x14, x15, x16] 10)), (.long (og [x0, x1, x2, x3, x4, x5, x6, x7, x8, x9, x10, x11, x12, x13, x14, x15, x16] 11)), (.long (og [x0, x1, x2, x3, x4, x5, x6, x7, x8, x9, x10, x11, x12, x13, x14, x15, x16] 12)), (.long (og [x0, x1, x2, x3, x4, x5, x6, x7, x8, x9, x10, x11, x12, x13, x14, x15, x16] 13)), (.long (og [x0, x1, x2, x3, x4, x5, x6, x7, x8, x9, x10, x11, x12, x13, x14, x15, x16] 14)), (.long (og [x0, x1, x2, x3, x4, x5, x6, x7, x8, x9, x10, x11, x12, x13, x14, x15, x16] 15)), (.long (og [x0, x1, x2, x3, x4, x5, x6, x7, x8, x9, x10, x11, x12, x13, x14, x15, x16] 16)), (.long (0 : Int64)), (.long (0 : Int64)), (.long (0 : Int64)), (.long (0 : Int64)), (.long (0 : Int64)), (.long (0 : Int64)), (.long (0 : Int64)), (.long (0 : Int64)), (.long (0 : Int64)), (.long (0 : Int64)), (.long (0 : Int64)), (.long (0 : Int64)), (.long (0 : Int64)), (.long (0 : Int64)), (.long (0 : Int64))] ∧ True) := by
  refine OCt.body (plainFor_of_name pn_e6) (ef_ct_e97 p0 ((0 : Int32)) ((0 : Int32)) ((17 : Int32))) ?_
  intro p e s m below meth c T hby hml hret hnm hsh P
  refine o_iload P (hb hby de59_0) rfl (pc' := 2) rfl ?_
  refine o_iconst P (1 : Int32) (hb hby de59_2) rfl (pc' := 3) rfl ?_
  refine o_isub P (hb hby de59_3) (pc' := 4) rfl ?_
  show OG p e below m _ T 4 #[.val .null, .val (.ref p0), .val (.int (0 : Int32)), .val (.int (0 : Int32)), .val (.int (17 : Int32)), .unset, .unset, .unset, .unset, .unset, .unset, .unset, .unset, .unset, .unset, .unset, .unset, .unset, .unset, .unset, .unset, .unset, .unset, .unset, .unset] [(.int (16 : Int32))]
  refine o_istore P (hb hby de59_4) (L' := #[.val .null, .val (.ref p0), .val (.int (0 : Int32)), .val (.int (0 : Int32)), .val (.int (17 : Int32)), .val (.int (16 : Int32)), .unset, .unset, .unset, .unset, .unset, .unset, .unset, .unset, .unset, .unset, .unset, .unset, .unset, .unset, .unset, .unset, .unset, .unset, .unset]) rfl (pc' := 6) rfl ?_
  refine o_iload P (hb hby de59_6) rfl (pc' := 8) rfl ?_
  refine o_iloadN P (hb hby de59_8) rfl (pc' := 9) rfl ?_
  refine o_isub P (hb hby de59_9) (pc' := 10) rfl ?_
  show OG p e below m _ T 10 #[.val .null, .val (.ref p0), .val (.int (0 : Int32)), .val (.int (0 : Int32)), .val (.int (17 : Int32)), .val (.int (16 : Int32)), .unset, .unset, .unset, .unset, .unset, .unset, .unset, .unset, .unset, .unset, .unset, .unset, .unset, .unset, .unset, .unset, .unset, .unset, .unset] [(.int (17 : Int32))]
  refine o_istore P (hb hby de59_10) (L' := #[.val .null, .val (.ref p0), .val (.int (0 : Int32)), .val (.int (0 : Int32)), .val (.int (17 : Int32)), .val (.int (16 : Int32)), .val (.int (17 : Int32)), .unset, .unset, .unset, .unset, .unset, .unset, .unset, .unset, .unset, .unset, .unset, .unset, .unset, .unset, .unset, .unset, .unset, .unset]) rfl (pc' := 12) rfl ?_
  refine o_iload P (hb hby de59_12) rfl (pc' := 14) rfl ?_
  refine o_bipush P (65 : Int32) (hb hby de59_14) rfl (pc' := 16) rfl ?_
  refine o_iloadN P (hb hby de59_16) rfl (pc' := 17) rfl ?_
  refine o_iadd P (hb hby de59_17) (pc' := 18) rfl ?_
  show OG p e below m _ T 18 #[.val .null, .val (.ref p0), .val (.int (0 : Int32)), .val (.int (0 : Int32)), .val (.int (17 : Int32)), .val (.int (16 : Int32)), .val (.int (17 : Int32)), .unset, .unset, .unset, .unset, .unset, .unset, .unset, .unset, .unset, .unset, .unset, .unset, .unset, .unset, .unset, .unset, .unset, .unset] [(.int (65 : Int32)), (.int (17 : Int32))]
  refine o_icmp_ge P (hb hby de59_18) (by decide) (pc' := 46) (by decide) (pcf := 21) rfl (fun q => absurd (by decide) q) (fun _ => ?_)
  refine o_iloadN P (hb hby de59_21) rfl (pc' := 22) rfl ?_
  refine o_iconst P (1 : Int32) (hb hby de59_22) rfl (pc' := 23) rfl ?_
  refine o_iand P (hb hby de59_23) (pc' := 24) rfl ?_
  show OG p e below m _ T 24 #[.val .null, .val (.ref p0), .val (.int (0 : Int32)), .val (.int (0 : Int32)), .val (.int (17 : Int32)), .val (.int (16 : Int32)), .val (.int (17 : Int32)), .unset, .unset, .unset, .unset, .unset, .unset, .unset, .unset, .unset, .unset, .unset, .unset, .unset, .unset, .unset, .unset, .unset, .unset] [(.int (0 : Int32))]
  refine o_if_le P (hb hby de59_24) (by decide) (pc' := 46) (by decide) (pcf := 27) rfl (fun _ => ?_) (fun q => absurd q (by decide))
  refine o_iload P (hb hby de59_46) rfl (pc' := 48) rfl ?_
  refine o_bipush P (44 : Int32) (hb hby de59_48) rfl (pc' := 50) rfl ?_
  refine o_icmp_ge P (hb hby de59_50) (by decide) (pc' := 61) (by decide) (pcf := 53) rfl (fun q => absurd (by decide) q) (fun _ => ?_)
  refine o_aloadN P (hb hby de59_53) rfl rfl (pc' := 54) rfl ?_
  refine o_iloadN P (hb hby de59_54) rfl (pc' := 55) rfl ?_
  refine o_iload P (hb hby de59_55) rfl (pc' := 57) rfl ?_
  refine o_callS P (W := 0) (ow hw 151 rfl) (ow hw 152 rfl) (ow hw 146 rfl) (ow hw 153 rfl) (by decide) (ct_isort l Z a0 hw EL n0 p0 [x0, x1, x2, x3, x4, x5, x6, x7, x8, x9, x10, x11, x12, x13, x14, x15, x16] [(.long (0 : Int64)), (.long (0 : Int64)), (.long (0 : Int64)), (.long (0 : Int64)), (.long (0 : Int64)), (.long (0 : Int64)), (.long (0 : Int64)), (.long (0 : Int64)), (.long (0 : Int64)), (.long (0 : Int64)), (.long (0 : Int64)), (.long (0 : Int64)), (.long (0 : Int64)), (.long (0 : Int64)), (.long (0 : Int64))] (17 : Int32) (by simp) (of_decide_eq_true rfl) rfl h0 A_p0) (o_sfS (List.Mem.head _) o_sf0) (by rw [hml]; rfl) (by decide) (by decide) (argsL := [(.ref p0), (.int (0 : Int32)), (.int (17 : Int32))]) (rest := []) (lenOf pd_9 rfl) rfl rfl (Nat.le_of_eq rfl) (hb hby de59_57) (pc' := 60) rfl (by decide) (by decide) ?_
  clear P; intro T h1 v1 P K1 q1
  obtain ⟨rfl, A'⟩ := q1
  clear A_p0; have A_p0 : OArr Z h1 p0 .long [(.long (og [x0, x1, x2, x3, x4, x5, x6, x7, x8, x9, x10, x11, x12, x13, x14, x15, x16] 0)), (.long (og [x0, x1, x2, x3, x4, x5, x6, x7, x8, x9, x10, x11, x12, x13, x14, x15, x16] 1)), (.long (og [x0, x1, x2, x3, x4, x5, x6, x7, x8, x9, x10, x11, x12, x13, x14, x15, x16] 2)), (.long (og [x0, x1, x2, x3, x4, x5, x6, x7, x8, x9, x10, x11, x12, x13, x14, x15, x16] 3)), (.long (og [x0, x1, x2, x3, x4, x5, x6, x7, x8, x9, x10, x11, x12, x13, x14, x15, x16] 4)), (.long (og [x0, x1, x2, x3, x4, x5, x6, x7, x8, x9, x10, x11, x12, x13, x14, x15, x16] 5)), (.long (og [x0, x1, x2, x3, x4, x5, x6, x7, x8, x9, x10, x11, x12, x13, x14, x15, x16] 6)), (.long (og [x0, x1, x2, x3, x4, x5, x6, x7, x8, x9, x10, x11, x12, x13, x14, x15, x16] 7)), (.long (og [x0, x1, x2, x3, x4, x5, x6, x7, x8, x9, x10, x11, x12, x13, x14, x15, x16] 8)), (.long (og [x0, x1, x2, x3, x4, x5, x6, x7, x8, x9, x10, x11, x12, x13, x14, x15, x16] 9)), (.long (og [x0, x1, x2, x3, x4, x5, x6, x7, x8, x9, x10, x11, x12, x13, x14, x15, x16] 10)), (.long (og [x0, x1, x2, x3, x4, x5, x6, x7, x8, x9, x10, x11, x12, x13, x14, x15, x16] 11)), (.long (og [x0, x1, x2, x3, x4, x5, x6, x7, x8, x9, x10, x11, x12, x13, x14, x15, x16] 12)), (.long (og [x0, x1, x2, x3, x4, x5, x6, x7, x8, x9, x10, x11, x12, x13, x14, x15, x16] 13)), (.long (og [x0, x1, x2, x3, x4, x5, x6, x7, x8, x9, x10, x11, x12, x13, x14, x15, x16] 14)), (.long (og [x0, x1, x2, x3, x4, x5, x6, x7, x8, x9, x10, x11, x12, x13, x14, x15, x16] 15)), (.long (og [x0, x1, x2, x3, x4, x5, x6, x7, x8, x9, x10, x11, x12, x13, x14, x15, x16] 16)), (.long (0 : Int64)), (.long (0 : Int64)), (.long (0 : Int64)), (.long (0 : Int64)), (.long (0 : Int64)), (.long (0 : Int64)), (.long (0 : Int64)), (.long (0 : Int64)), (.long (0 : Int64)), (.long (0 : Int64)), (.long (0 : Int64)), (.long (0 : Int64)), (.long (0 : Int64)), (.long (0 : Int64)), (.long (0 : Int64))] := A'.eq (by rw [own_lst17 (l := osort [x0, x1, x2, x3, x4, x5, x6, x7, x8, x9, x10, x11, x12, x13, x14, x15, x16]) (osort_len [x0, x1, x2, x3, x4, x5, x6, x7, x8, x9, x10, x11, x12, x13, x14, x15, x16])]; rfl); clear A' K1
  show OG p e below m _ T 60 #[.val .null, .val (.ref p0), .val (.int (0 : Int32)), .val (.int (0 : Int32)), .val (.int (17 : Int32)), .val (.int (16 : Int32)), .val (.int (17 : Int32)), .unset, .unset, .unset, .unset, .unset, .unset, .unset, .unset, .unset, .unset, .unset, .unset, .unset, .unset, .unset, .unset, .unset, .unset] []
  exact o_ret0 P hret (hb hby de59_60) (by decide) (by decide) ⟨rfl, A_p0, trivial⟩
theorem ef_ct_e98 (x0 : Addr) (x1 : Int32) (x2 : Int32) (x3 : Int32) (m : MethodId) : entryFrame m #[(.ref x0), (.int x1), (.int x2), (.int x3)] 7 = mkF m 0 #[.val (.ref x0), .val (.int x1), .val (.int x2), .val (.int x3), .unset, .unset, .unset] [] := by first | (simp [entryFrame, mkF, argsToLocals, o_catR, o_catN, o_catI, o_catJ, o_catD]; done) | rfl
set_option maxRecDepth 65536 in
set_option maxHeartbeats 40000000 in
theorem ct_e98 (l : Launch) (Z : State) (a0 : Array Value) (hw : ∀ d ∈ tables_1, d.before a0 Z = true) (EL : List (String × Nat)) (n0 : Nat) (p0 : Addr) (x0 : Int64) (x1 : Int64) (x2 : Int64) (x3 : Int64) (x4 : Int64) (x5 : Int64) (x6 : Int64) (x7 : Int64) (x8 : Int64) (x9 : Int64) (x10 : Int64) (x11 : Int64) (x12 : Int64) (x13 : Int64) (x14 : Int64) (x15 : Int64) (x16 : Int64) (had : Sta Z Z.heap "java/util/BitSet" "$assertionsDisabled" "Z" (.int 1)) (od : Addr) (hod : Sta Z Z.heap "com/example/centile/centile/function/Order" "ASCENDING" "Lcom/example/centile/centile/function/Order;" (.ref od)) (h0 : Heap) (A_p0 : OArr Z h0 p0 .long [(.long x0), (.long x1), (.long x2), (.long x3), (.long x4), (.long x5), (.long x6), (.long x7), (.long x8), (.long x9), (.long x10), (.long x11), (.long x12), (.long x13), (.long x14), (.long x15), (.long x16), (.long (0 : Int64)), (.long (0 : Int64)), (.long (0 : Int64)), (.long (0 : Int64)), (.long (0 : Int64)), (.long (0 : Int64)), (.long (0 : Int64)), (.long (0 : Int64)), (.long (0 : Int64)), (.long (0 : Int64)), (.long (0 : Int64)), (.long (0 : Int64)), (.long (0 : Int64)), (.long (0 : Int64)), (.long (0 : Int64))])  :
    OCt l Z a0 EL n0 (⟨"java/util/DualPivotQuicksort", "sort", "([JIII)V"⟩ : MethodName) jdk_2529_method_12_code 7 none ({ frames := 2, cells := 0, slots := 0, locals := 54 } : Room) [] #[(.ref p0), (.int (0 : Int32)), (.int (0 : Int32)), (.int (17 : Int32))] h0 [p0] (fun w vm h => w = none ∧ OArr Z h p0 .long [(.long (og [x0, x1, x2, x3, x4, x5, x6, x7, x8, x9, x10, x11, x12, x13, x14, x15, x16] 0)), (.long (og [x0, x1, x2, x3, x4, x5, x6, x7, x8, x9, x10, x11, x12, x13, x14, x15, x16] 1)), (.long (og [x0, x1, x2, x3, x4, x5, x6, x7, x8, x9, x10, x11, x12, x13, x14, x15, x16] 2)), (.long (og [x0, x1, x2, x3, x4, x5, x6, x7, x8, x9, x10, x11, x12, x13, x14, x15, x16] 3)), (.long (og [x0, x1, x2, x3, x4, x5, x6, x7, x8, x9, x10, x11, x12, x13, x14, x15, x16] 4)), (.long (og [x0, x1, x2, x3, x4, x5, x6, x7, x8, x9, x10, x11, x12, x13, x14, x15, x16] 5)), (.long (og [x0, x1, x2, x3, x4, x5, x6, x7, x8, x9, x10, x11, x12, x13, x14, x15, x16] 6)), (.long (og [x0, x1, x2, x3, x4, x5, x6, x7, x8, x9, x10, x11, x12, x13, x14, x15, x16] 7)), (.long (og [x0, x1, x2, x3, x4, x5, x6, x7, x8, x9, x10, x11, x12, x13, x14, x15, x16] 8)), (.long (og [x0, x1, x2, x3, x4, x5, x6, x7, x8, x9, x10, x11, x12, x13, x14, x15, x16] 9)), (.long (og [x0, x1, x2, x3, x4, x5, x6, x7, x8, x9, x10, x11, x12, x13, x14, x15, x16] 10)), (.long (og [x0, x1, x2, x3, x4, x5, x6, x7, x8, x9, x10, x11, x12, x13, x14, x15, x16] 11)), (.long (og [x0, x1, x2, x3, x4, x5, x6, x7, x8, x9, x10, x11, x12, x13, x14, x15, x16] 12)), (.long (og [x0, x1, x2, x3, x4, x5, x6, x7, x8, x9, x10, x11, x12, x13, x14, x15, x16] 13)), (.long (og [x0, x1, x2, x3, x4, x5, x6, x7, x8, x9, x10, x11, x12, x13, x14, x15, x16] 14)), (.long (og [x0, x1, x2, x3, x4, x5, x6, x7, x8, x9, x10, x11, x12, x13, x14, x15, x16] 15)), (.long (og [x0, x1, x2, x3, x4, x5, x6, x7, x8, x9, x10, x11, x12, x13, x14, x15, x16] 16)), (.long (0 : Int64)), (.long (0 : Int64)), (.long (0 : Int64)), (.long (0 : Int64)), (.long (0 : Int64)), (.long (0 : Int64)), (.long (0 : Int64)), (.long (0 : Int64)), (.long (0 : Int64)), (.long (0 : Int64)), (.long (0 : Int64)), (.long (0 : Int64)), (.long (0 : Int64)), (.long (0 : Int64)), (.long (0 : Int64))] ∧ True) := by
  refine OCt.body (plainFor_of_name pn_e6) (ef_ct_e98 p0 ((0 : Int32)) ((0 : Int32)) ((17 : Int32))) ?_
  intro p e s m below meth c T hby hml hret hnm hsh P
  refine o_iloadN P (hb hby de58_0) rfl (pc' := 1) rfl ?_
  refine o_iloadN P (hb hby de58_1) rfl (pc' := 2) rfl ?_
  refine o_isub P (hb hby de58_2) (pc' := 3) rfl ?_
  show OG p e below m _ T 3 #[.val (.ref p0), .val (.int (0 : Int32)), .val (.int (0 : Int32)), .val (.int (17 : Int32)), .unset, .unset, .unset] [(.int (17 : Int32))]
  refine o_istore P (hb hby de58_3) (L' := #[.val (.ref p0), .val (.int (0 : Int32)), .val (.int (0 : Int32)), .val (.int (17 : Int32)), .val (.int (17 : Int32)), .unset, .unset]) rfl (pc' := 5) rfl ?_
  refine o_iloadN P (hb hby de58_5) rfl (pc' := 6) rfl ?_
  refine o_iconst P (1 : Int32) (hb hby de58_6) rfl (pc' := 7) rfl ?_
  refine o_icmp_le P (hb hby de58_7) (by decide) (pc' := 68) (by decide) (pcf := 10) rfl (fun _ => ?_) (fun q => absurd q (by decide))
  refine o_aconstNull P (hb hby de58_68) (pc' := 69) rfl ?_
  refine o_aloadN P (hb hby de58_69) rfl rfl (pc' := 70) rfl ?_
  refine o_iconst P (0 : Int32) (hb hby de58_70) rfl (pc' := 71) rfl ?_
  refine o_iloadN P (hb hby de58_71) rfl (pc' := 72) rfl ?_
  refine o_iloadN P (hb hby de58_72) rfl (pc' := 73) rfl ?_
  have hn_1 := P.n0le; have hk_1 := P.keep0.1
  refine o_callS P (W := 0) (ow hw 148 rfl) (ow hw 149 rfl) (ow hw 146 rfl) (ow hw 150 rfl) (by decide) (ct_e97 l Z a0 hw EL n0 p0 x0 x1 x2 x3 x4 x5 x6 x7 x8 x9 x10 x11 x12 x13 x14 x15 x16 had od hod h0 A_p0 ) (o_sfS (List.Mem.head _) o_sf0) (by rw [hml]; rfl) (by decide) (by decide) (argsL := [.null, (.ref p0), (.int (0 : Int32)), (.int (0 : Int32)), (.int (17 : Int32))]) (rest := []) (lenOf pd_10 rfl) rfl rfl (Nat.le_of_eq rfl) (hb hby de58_73) (pc' := 76) rfl (by decide) (by decide) ?_
  clear P; intro T h2 v2 P K2 q2
  obtain ⟨rfl, Q_p0, -⟩ := q2
  clear A_p0
  have A_p0 := Q_p0; clear Q_p0
  clear K2 hn_1 hk_1
  show OG p e below m _ T 76 #[.val (.ref p0), .val (.int (0 : Int32)), .val (.int (0 : Int32)), .val (.int (17 : Int32)), .val (.int (17 : Int32)), .unset, .unset] []
  exact o_ret0 P hret (hb hby de58_76) (by decide) (by decide) ⟨rfl, A_p0, trivial⟩
theorem ef_ct_e99 (x0 : Addr) (x1 : Int32) (x2 : Int32) (m : MethodId) : entryFrame m #[(.ref x0), (.int x1), (.int x2)] 3 = mkF m 0 #[.val (.ref x0), .val (.int x1), .val (.int x2)] [] := by first | (simp [entryFrame, mkF, argsToLocals, o_catR, o_catN, o_catI, o_catJ, o_catD]; done) | rfl
set_option maxRecDepth 65536 in
set_option maxHeartbeats 40000000 in
theorem ct_e99 (l : Launch) (Z : State) (a0 : Array Value) (hw : ∀ d ∈ tables_1, d.before a0 Z = true) (EL : List (String × Nat)) (n0 : Nat) (p0 : Addr) (x0 : Int64) (x1 : Int64) (x2 : Int64) (x3 : Int64) (x4 : Int64) (x5 : Int64) (x6 : Int64) (x7 : Int64) (x8 : Int64) (x9 : Int64) (x10 : Int64) (x11 : Int64) (x12 : Int64) (x13 : Int64) (x14 : Int64) (x15 : Int64) (x16 : Int64) (had : Sta Z Z.heap "java/util/BitSet" "$assertionsDisabled" "Z" (.int 1)) (od : Addr) (hod : Sta Z Z.heap "com/example/centile/centile/function/Order" "ASCENDING" "Lcom/example/centile/centile/function/Order;" (.ref od)) (h0 : Heap) (A_p0 : OArr Z h0 p0 .long [(.long x0), (.long x1), (.long x2), (.long x3), (.long x4), (.long x5), (.long x6), (.long x7), (.long x8), (.long x9), (.long x10), (.long x11), (.long x12), (.long x13), (.long x14), (.long x15), (.long x16), (.long (0 : Int64)), (.long (0 : Int64)), (.long (0 : Int64)), (.long (0 : Int64)), (.long (0 : Int64)), (.long (0 : Int64)), (.long (0 : Int64)), (.long (0 : Int64)), (.long (0 : Int64)), (.long (0 : Int64)), (.long (0 : Int64)), (.long (0 : Int64)), (.long (0 : Int64)), (.long (0 : Int64)), (.long (0 : Int64))])  :
    OCt l Z a0 EL n0 (⟨"java/util/Arrays", "sort", "([JII)V"⟩ : MethodName) jdk_65_method_5_code 3 none ({ frames := 3, cells := 0, slots := 0, locals := 72 } : Room) [] #[(.ref p0), (.int (0 : Int32)), (.int (17 : Int32))] h0 [p0] (fun w vm h => w = none ∧ OArr Z h p0 .long [(.long (og [x0, x1, x2, x3, x4, x5, x6, x7, x8, x9, x10, x11, x12, x13, x14, x15, x16] 0)), (.long (og [x0, x1, x2, x3, x4, x5, x6, x7, x8, x9, x10, x11, x12, x13, x14, x15, x16] 1)), (.long (og [x0, x1, x2, x3, x4, x5, x6, x7, x8, x9, x10, x11, x12, x13, x14, x15, x16] 2)), (.long (og [x0, x1, x2, x3, x4, x5, x6, x7, x8, x9, x10, x11, x12, x13, x14, x15, x16] 3)), (.long (og [x0, x1, x2, x3, x4, x5, x6, x7, x8, x9, x10, x11, x12, x13, x14, x15, x16] 4)), (.long (og [x0, x1, x2, x3, x4, x5, x6, x7, x8, x9, x10, x11, x12, x13, x14, x15, x16] 5)), (.long (og [x0, x1, x2, x3, x4, x5, x6, x7, x8, x9, x10, x11, x12, x13, x14, x15, x16] 6)), (.long (og [x0, x1, x2, x3, x4, x5, x6, x7, x8, x9, x10, x11, x12, x13, x14, x15, x16] 7)), (.long (og [x0, x1, x2, x3, x4, x5, x6, x7, x8, x9, x10, x11, x12, x13, x14, x15, x16] 8)), (.long (og [x0, x1, x2, x3, x4, x5, x6, x7, x8, x9, x10, x11, x12, x13, x14, x15, x16] 9)), (.long (og [x0, x1, x2, x3, x4, x5, x6, x7, x8, x9, x10, x11, x12, x13, x14, x15, x16] 10)), (.long (og [x0, x1, x2, x3, x4, x5, x6, x7, x8, x9, x10, x11, x12, x13, x14, x15, x16] 11)), (.long (og [x0, x1, x2, x3, x4, x5, x6, x7, x8, x9, x10, x11, x12, x13, x14, x15, x16] 12)), (.long (og [x0, x1, x2, x3, x4, x5, x6, x7, x8, x9, x10, x11, x12, x13, x14, x15, x16] 13)), (.long (og [x0, x1, x2, x3, x4, x5, x6, x7, x8, x9, x10, x11, x12, x13, x14, x15, x16] 14)), (.long (og [x0, x1, x2, x3, x4, x5, x6, x7, x8, x9, x10, x11, x12, x13, x14, x15, x16] 15)), (.long (og [x0, x1, x2, x3, x4, x5, x6, x7, x8, x9, x10, x11, x12, x13, x14, x15, x16] 16)), (.long (0 : Int64)), (.long (0 : Int64)), (.long (0 : Int64)), (.long (0 : Int64)), (.long (0 : Int64)), (.long (0 : Int64)), (.long (0 : Int64)), (.long (0 : Int64)), (.long (0 : Int64)), (.long (0 : Int64)), (.long (0 : Int64)), (.long (0 : Int64)), (.long (0 : Int64)), (.long (0 : Int64)), (.long (0 : Int64))] ∧ True) := by
  refine OCt.body (plainFor_of_name pn_e5) (ef_ct_e99 p0 ((0 : Int32)) ((17 : Int32))) ?_
  intro p e s m below meth c T hby hml hret hnm hsh P
  refine o_aloadN P (hb hby de55_0) rfl rfl (pc' := 1) rfl ?_
  refine o_arrlen P A_p0 (hb hby de55_1) (n := (32 : Int32)) rfl (pc' := 2) rfl ?_
  refine o_iloadN P (hb hby de55_2) rfl (pc' := 3) rfl ?_
  refine o_iloadN P (hb hby de55_3) rfl (pc' := 4) rfl ?_
  refine o_callS P (W := 0) (ow hw 141 rfl) (ow hw 142 rfl) (ow hw 139 rfl) (ow hw 143 rfl) (by decide) (ct_e96 l Z a0 hw EL n0   had od hod h0  ) o_sf0 (by rw [hml]; rfl) (by decide) (by decide) (argsL := [(.int (32 : Int32)), (.int (0 : Int32)), (.int (17 : Int32))]) (rest := []) (lenOf pd_8 rfl) rfl rfl (Nat.le_of_eq rfl) (hb hby de55_4) (pc' := 7) rfl (by decide) (by decide) ?_
  clear P; intro T h2 v2 P K2 q2
  obtain ⟨rfl, rfl⟩ := q2; clear K2
  show OG p e below m _ T 7 #[.val (.ref p0), .val (.int (0 : Int32)), .val (.int (17 : Int32))] []
  refine o_aloadN P (hb hby de55_7) rfl rfl (pc' := 8) rfl ?_
  refine o_iconst P (0 : Int32) (hb hby de55_8) rfl (pc' := 9) rfl ?_
  refine o_iloadN P (hb hby de55_9) rfl (pc' := 10) rfl ?_
  refine o_iloadN P (hb hby de55_10) rfl (pc' := 11) rfl ?_
  have hn_3 := P.n0le; have hk_3 := P.keep0.1
  refine o_callS P (W := 0) (ow hw 144 rfl) (ow hw 145 rfl) (ow hw 146 rfl) (ow hw 147 rfl) (by decide) (ct_e98 l Z a0 hw EL n0 p0 x0 x1 x2 x3 x4 x5 x6 x7 x8 x9 x10 x11 x12 x13 x14 x15 x16 had od hod h2 A_p0 ) (o_sfS (List.Mem.head _) o_sf0) (by rw [hml]; rfl) (by decide) (by decide) (argsL := [(.ref p0), (.int (0 : Int32)), (.int (0 : Int32)), (.int (17 : Int32))]) (rest := []) (lenOf pd_11 rfl) rfl rfl (Nat.le_of_eq rfl) (hb hby de55_11) (pc' := 14) rfl (by decide) (by decide) ?_
  clear P; intro T h4 v4 P K4 q4
  obtain ⟨rfl, Q_p0, -⟩ := q4
  clear A_p0
  have A_p0 := Q_p0; clear Q_p0
  clear K4 hn_3 hk_3
  show OG p e below m _ T 14 #[.val (.ref p0), .val (.int (0 : Int32)), .val (.int (17 : Int32))] []
  exact o_ret0 P hret (hb hby de55_14) (by decide) (by decide) ⟨rfl, A_p0, trivial⟩
theorem ef_ct_e100 (x0 : Int32) (x1 : Int32) (m : MethodId) : entryFrame m #[(.int x0), (.int x1)] 2 = mkF m 0 #[.val (.int x0), .val (.int x1)] [] := by first | (simp [entryFrame, mkF, argsToLocals, o_catR, o_catN, o_catI, o_catJ, o_catD]; done) | rfl
set_option maxRecDepth 65536 in
set_option maxHeartbeats 40000000 in
theorem ct_e100 (l : Launch) (Z : State) (a0 : Array Value) (hw : ∀ d ∈ tables_1, d.before a0 Z = true) (EL : List (String × Nat)) (n0 : Nat)   (had : Sta Z Z.heap "java/util/BitSet" "$assertionsDisabled" "Z" (.int 1)) (od : Addr) (hod : Sta Z Z.heap "com/example/centile/centile/function/Order" "ASCENDING" "Lcom/example/centile/centile/function/Order;" (.ref od)) (h0 : Heap)   :
    OCt l Z a0 EL n0 (⟨"java/util/BitSet", "checkRange", "(II)V"⟩ : MethodName) jdk_92_method_16_code 2 none ({ frames := 0, cells := 0, slots := 0, locals := 0 } : Room) [] #[(.int (0 : Int32)), (.int (18 : Int32))] h0 [] (fun w vm h => w = none ∧ h = h0) := by
  refine OCt.body (plainFor_of_name pn_e1) (ef_ct_e100 ((0 : Int32)) ((18 : Int32))) ?_
  intro p e s m below meth c T hby hml hret hnm hsh P
  refine o_iloadN P (hb hby de64_0) rfl (pc' := 1) rfl ?_
  refine o_if_ge P (hb hby de64_1) (by decide) (pc' := 31) (by decide) (pcf := 4) rfl (fun _ => ?_) (fun q => absurd q (by decide))
  refine o_iloadN P (hb hby de64_31) rfl (pc' := 32) rfl ?_
  refine o_if_ge P (hb hby de64_32) (by decide) (pc' := 62) (by decide) (pcf := 35) rfl (fun _ => ?_) (fun q => absurd q (by decide))
  refine o_iloadN P (hb hby de64_62) rfl (pc' := 63) rfl ?_
  refine o_iloadN P (hb hby de64_63) rfl (pc' := 64) rfl ?_
  refine o_icmp_le P (hb hby de64_64) (by decide) (pc' := 103) (by decide) (pcf := 67) rfl (fun _ => ?_) (fun q => absurd q (by decide))
  exact o_ret0 P hret (hb hby de64_103) (by decide) (by decide) ⟨rfl, rfl⟩
theorem ef_ct_e101 (x0 : Addr) (x1 : Int32) (m : MethodId) : entryFrame m #[(.ref x0), (.int x1)] 3 = mkF m 0 #[.val (.ref x0), .val (.int x1), .unset] [] := by first | (simp [entryFrame, mkF, argsToLocals, o_catR, o_catN, o_catI, o_catJ, o_catD]; done) | rfl
set_option maxRecDepth 65536 in
set_option maxHeartbeats 40000000 in
theorem ct_e101 (l : Launch) (Z : State) (a0 : Array Value) (hw : ∀ d ∈ tables_1, d.before a0 Z = true) (EL : List (String × Nat)) (n0 : Nat) (p0 : Addr) (p1 : Addr)  (had : Sta Z Z.heap "java/util/BitSet" "$assertionsDisabled" "Z" (.int 1)) (od : Addr) (hod : Sta Z Z.heap "com/example/centile/centile/function/Order" "ASCENDING" "Lcom/example/centile/centile/function/Order;" (.ref od)) (h0 : Heap) (F_p0 : OObj Z h0 p0 "java/util/BitSet" [("java/util/BitSet", "wordsInUse", "I", (.int (1 : Int32))), ("java/util/BitSet", "sizeIsSticky", "Z", (.int (1 : Int32))), ("java/util/BitSet", "words", "[J", (.ref p1))]) (A_p1 : OArr Z h0 p1 .long [(.long (131073 : Int64))]) (ne_p0_p1 : p0 ≠ p1) :
    OCt l Z a0 EL n0 (⟨"java/util/BitSet", "expandTo", "(I)V"⟩ : MethodName) jdk_92_method_15_code 3 none ({ frames := 0, cells := 0, slots := 0, locals := 0 } : Room) [] #[(.ref p0), (.int (0 : Int32))] h0 [] (fun w vm h => w = none ∧ h = h0) := by
  refine OCt.body (plainFor_of_name pn_e1) (ef_ct_e101 p0 ((0 : Int32))) ?_
  intro p e s m below meth c T hby hml hret hnm hsh P
  refine o_iloadN P (hb hby de26_0) rfl (pc' := 1) rfl ?_
  refine o_iconst P (1 : Int32) (hb hby de26_1) rfl (pc' := 2) rfl ?_
  refine o_iadd P (hb hby de26_2) (pc' := 3) rfl ?_
  show OG p e below m _ T 3 #[.val (.ref p0), .val (.int (0 : Int32)), .unset] [(.int (1 : Int32))]
  refine o_istoreN P (hb hby de26_3) (L' := #[.val (.ref p0), .val (.int (0 : Int32)), .val (.int (1 : Int32))]) rfl (pc' := 4) rfl ?_
  refine o_aloadN P (hb hby de26_4) rfl rfl (pc' := 5) rfl ?_
  refine o_getF P (ow hw 59 rfl) Via.refl (F_p0.fld 0 rfl) (hb hby de26_5) (pc' := 8) rfl ?_
  clear P; intro T P
  refine o_iloadN P (hb hby de26_8) rfl (pc' := 9) rfl ?_
  refine o_icmp_ge P (hb hby de26_9) (by decide) (pc' := 22) (by decide) (pcf := 12) rfl (fun _ => ?_) (fun q => absurd q (by decide))
  exact o_ret0 P hret (hb hby de26_22) (by decide) (by decide) ⟨rfl, rfl⟩
theorem ef_ct_e102 (x0 : Addr) (m : MethodId) : entryFrame m #[(.ref x0)] 1 = mkF m 0 #[.val (.ref x0)] [] := by first | (simp [entryFrame, mkF, argsToLocals, o_catR, o_catN, o_catI, o_catJ, o_catD]; done) | rfl
set_option maxRecDepth 65536 in
set_option maxHeartbeats 40000000 in
theorem ct_e102 (l : Launch) (Z : State) (a0 : Array Value) (hw : ∀ d ∈ tables_1, d.before a0 Z = true) (EL : List (String × Nat)) (n0 : Nat) (p0 : Addr) (p1 : Addr)  (had : Sta Z Z.heap "java/util/BitSet" "$assertionsDisabled" "Z" (.int 1)) (od : Addr) (hod : Sta Z Z.heap "com/example/centile/centile/function/Order" "ASCENDING" "Lcom/example/centile/centile/function/Order;" (.ref od)) (h0 : Heap) (F_p0 : OObj Z h0 p0 "java/util/BitSet" [("java/util/BitSet", "wordsInUse", "I", (.int (1 : Int32))), ("java/util/BitSet", "sizeIsSticky", "Z", (.int (1 : Int32))), ("java/util/BitSet", "words", "[J", (.ref p1))]) (A_p1 : OArr Z h0 p1 .long [(.long (262143 : Int64))]) (ne_p0_p1 : p0 ≠ p1) :
    OCt l Z a0 EL n0 (⟨"java/util/BitSet", "checkInvariants", "()V"⟩ : MethodName) jdk_92_method_2_code 1 none ({ frames := 0, cells := 0, slots := 0, locals := 0 } : Room) [] #[(.ref p0)] h0 [] (fun w vm h => w = none ∧ h = h0) := by
  refine OCt.body (plainFor_of_name pn_e1) (ef_ct_e102 p0) ?_
  intro p e s m below meth c T hby hml hret hnm hsh P
  refine o_getS P (ow hw 95 rfl) Via.refl had (hb hby de30_0) (pc' := 3) rfl ?_
  clear P; intro T P
  refine o_if_ne P (hb hby de30_3) (by decide) (pc' := 37) (by decide) (pcf := 6) rfl (fun _ => ?_) (fun q => absurd q (by decide))
  refine o_getS P (ow hw 95 rfl) Via.refl had (hb hby de30_37) (pc' := 40) rfl ?_
  clear P; intro T P
  refine o_if_ne P (hb hby de30_40) (by decide) (pc' := 70) (by decide) (pcf := 43) rfl (fun _ => ?_) (fun q => absurd q (by decide))
  refine o_getS P (ow hw 95 rfl) Via.refl had (hb hby de30_70) (pc' := 73) rfl ?_
  clear P; intro T P
  refine o_if_ne P (hb hby de30_73) (by decide) (pc' := 110) (by decide) (pcf := 76) rfl (fun _ => ?_) (fun q => absurd q (by decide))
  exact o_ret0 P hret (hb hby de30_110) (by decide) (by decide) ⟨rfl, rfl⟩
theorem ef_ct_e103 (x0 : Addr) (x1 : Int32) (x2 : Int32) (m : MethodId) : entryFrame m #[(.ref x0), (.int x1), (.int x2)] 10 = mkF m 0 #[.val (.ref x0), .val (.int x1), .val (.int x2), .unset, .unset, .unset, .unset, .unset, .unset, .unset] [] := by first | (simp [entryFrame, mkF, argsToLocals, o_catR, o_catN, o_catI, o_catJ, o_catD]; done) | rfl
set_option maxRecDepth 65536 in
set_option maxHeartbeats 40000000 in
theorem ct_e103 (l : Launch) (Z : State) (a0 : Array Value) (hw : ∀ d ∈ tables_1, d.before a0 Z = true) (EL : List (String × Nat)) (n0 : Nat) (p0 : Addr) (p1 : Addr)  (had : Sta Z Z.heap "java/util/BitSet" "$assertionsDisabled" "Z" (.int 1)) (od : Addr) (hod : Sta Z Z.heap "com/example/centile/centile/function/Order" "ASCENDING" "Lcom/example/centile/centile/function/Order;" (.ref od)) (h0 : Heap) (F_p0 : OObj Z h0 p0 "java/util/BitSet" [("java/util/BitSet", "wordsInUse", "I", (.int (1 : Int32))), ("java/util/BitSet", "sizeIsSticky", "Z", (.int (1 : Int32))), ("java/util/BitSet", "words", "[J", (.ref p1))]) (A_p1 : OArr Z h0 p1 .long [(.long (131073 : Int64))]) (ne_p0_p1 : p0 ≠ p1) :
    OCt l Z a0 EL n0 (⟨"java/util/BitSet", "set", "(II)V"⟩ : MethodName) jdk_92_method_21_code 10 none ({ frames := 1, cells := 0, slots := 0, locals := 14 } : Room) [] #[(.ref p0), (.int (0 : Int32)), (.int (18 : Int32))] h0 [p1] (fun w vm h => w = none ∧ OArr Z h p1 .long [(.long (262143 : Int64))] ∧ True) := by
  refine OCt.body (plainFor_of_name pn_e1) (ef_ct_e103 p0 ((0 : Int32)) ((18 : Int32))) ?_
  intro p e s m below meth c T hby hml hret hnm hsh P
  refine o_iloadN P (hb hby de63_0) rfl (pc' := 1) rfl ?_
  refine o_iloadN P (hb hby de63_1) rfl (pc' := 2) rfl ?_
  refine o_callS P (W := 0) (ow hw 159 rfl) (ow hw 160 rfl) (ow hw 54 rfl) (ow hw 161 rfl) (by decide) (ct_e100 l Z a0 hw EL n0   had od hod h0  ) o_sf0 (by rw [hml]; rfl) (by decide) (by decide) (argsL := [(.int (0 : Int32)), (.int (18 : Int32))]) (rest := []) (lenOf pd_12 rfl) rfl rfl (Nat.le_of_eq rfl) (hb hby de63_2) (pc' := 5) rfl (by decide) (by decide) ?_
  clear P; intro T h2 v2 P K2 q2
  obtain ⟨rfl, rfl⟩ := q2; clear K2
  show OG p e below m _ T 5 #[.val (.ref p0), .val (.int (0 : Int32)), .val (.int (18 : Int32)), .unset, .unset, .unset, .unset, .unset, .unset, .unset] []
  refine o_iloadN P (hb hby de63_5) rfl (pc' := 6) rfl ?_
  refine o_iloadN P (hb hby de63_6) rfl (pc' := 7) rfl ?_
  refine o_icmp_ne P (hb hby de63_7) (by decide) (pc' := 11) (by decide) (pcf := 10) rfl (fun _ => ?_) (fun q => absurd q (by decide))
  refine o_iloadN P (hb hby de63_11) rfl (pc' := 12) rfl ?_
  refine o_callS P (W := 0) (ow hw 68 rfl) (ow hw 69 rfl) (ow hw 54 rfl) (ow hw 70 rfl) (by decide) (ct_e25 l Z a0 hw EL n0   had od hod h2  ) o_sf0 (by rw [hml]; rfl) (by decide) (by decide) (argsL := [(.int (0 : Int32))]) (rest := []) (lenOf pd_4 rfl) rfl rfl (Nat.le_of_eq rfl) (hb hby de63_12) (pc' := 15) rfl (by decide) (by decide) ?_
  clear P; intro T h4 v4 P K4 q4
  obtain ⟨rfl, rfl⟩ := q4; clear K4
  show OG p e below m _ T 15 #[.val (.ref p0), .val (.int (0 : Int32)), .val (.int (18 : Int32)), .unset, .unset, .unset, .unset, .unset, .unset, .unset] [(.int (0 : Int32))]
  refine o_istoreN P (hb hby de63_15) (L' := #[.val (.ref p0), .val (.int (0 : Int32)), .val (.int (18 : Int32)), .val (.int (0 : Int32)), .unset, .unset, .unset, .unset, .unset, .unset]) rfl (pc' := 16) rfl ?_
  refine o_iloadN P (hb hby de63_16) rfl (pc' := 17) rfl ?_
  refine o_iconst P (1 : Int32) (hb hby de63_17) rfl (pc' := 18) rfl ?_
  refine o_isub P (hb hby de63_18) (pc' := 19) rfl ?_
  show OG p e below m _ T 19 #[.val (.ref p0), .val (.int (0 : Int32)), .val (.int (18 : Int32)), .val (.int (0 : Int32)), .unset, .unset, .unset, .unset, .unset, .unset] [(.int (17 : Int32))]
  refine o_callS P (W := 0) (ow hw 68 rfl) (ow hw 69 rfl) (ow hw 54 rfl) (ow hw 70 rfl) (by decide) (ct_e84 l Z a0 hw EL n0   had od hod h4  ) o_sf0 (by rw [hml]; rfl) (by decide) (by decide) (argsL := [(.int (17 : Int32))]) (rest := []) (lenOf pd_4 rfl) rfl rfl (Nat.le_of_eq rfl) (hb hby de63_19) (pc' := 22) rfl (by decide) (by decide) ?_
  clear P; intro T h6 v6 P K6 q6
  obtain ⟨rfl, rfl⟩ := q6; clear K6
  show OG p e below m _ T 22 #[.val (.ref p0), .val (.int (0 : Int32)), .val (.int (18 : Int32)), .val (.int (0 : Int32)), .unset, .unset, .unset, .unset, .unset, .unset] [(.int (0 : Int32))]
  refine o_istore P (hb hby de63_22) (L' := #[.val (.ref p0), .val (.int (0 : Int32)), .val (.int (18 : Int32)), .val (.int (0 : Int32)), .val (.int (0 : Int32)), .unset, .unset, .unset, .unset, .unset]) rfl (pc' := 24) rfl ?_
  refine o_aloadN P (hb hby de63_24) rfl rfl (pc' := 25) rfl ?_
  refine o_iload P (hb hby de63_25) rfl (pc' := 27) rfl ?_
  refine o_callP P (W := 0) (a := p0) (ow hw 80 rfl) (ow hw 81 rfl) (ow hw 83 rfl) (ow hw 82 rfl) (ow hw 54 rfl) (ow hw 84 rfl) (by decide) F_p0.exa (ct_e101 l Z a0 hw EL n0 p0 p1  had od hod h6 F_p0 A_p1 ne_p0_p1) o_sf0 (by rw [hml]; rfl) (by decide) (by decide) (argsL := [(.int (0 : Int32))]) (rest := []) (lenOf pd_1 rfl) rfl rfl (Nat.le_of_eq rfl) (hb hby de63_27) (pc' := 30) rfl (by decide) (by decide) ?_
  clear P; intro T h8 v8 P K8 q8
  obtain ⟨rfl, rfl⟩ := q8; clear K8
  show OG p e below m _ T 30 #[.val (.ref p0), .val (.int (0 : Int32)), .val (.int (18 : Int32)), .val (.int (0 : Int32)), .val (.int (0 : Int32)), .unset, .unset, .unset, .unset, .unset] []
  refine o_ldc2L P (ow hw 116 rfl) (hb hby de63_30) (pc' := 33) rfl ?_
  refine o_iloadN P (hb hby de63_33) rfl (pc' := 34) rfl ?_
  refine o_lshl P (hb hby de63_34) (pc' := 35) rfl ?_
  show OG p e below m _ T 35 #[.val (.ref p0), .val (.int (0 : Int32)), .val (.int (18 : Int32)), .val (.int (0 : Int32)), .val (.int (0 : Int32)), .unset, .unset, .unset, .unset, .unset] [(.long (-1 : Int64))]
  refine o_lstore P (hb hby de63_35) (L' := #[.val (.ref p0), .val (.int (0 : Int32)), .val (.int (18 : Int32)), .val (.int (0 : Int32)), .val (.int (0 : Int32)), .val (.long (-1 : Int64)), .second, .unset, .unset, .unset]) rfl (pc' := 37) rfl ?_
  refine o_ldc2L P (ow hw 116 rfl) (hb hby de63_37) (pc' := 40) rfl ?_
  refine o_iloadN P (hb hby de63_40) rfl (pc' := 41) rfl ?_
  refine o_ineg P (hb hby de63_41) (pc' := 42) rfl ?_
  show OG p e below m _ T 42 #[.val (.ref p0), .val (.int (0 : Int32)), .val (.int (18 : Int32)), .val (.int (0 : Int32)), .val (.int (0 : Int32)), .val (.long (-1 : Int64)), .second, .unset, .unset, .unset] [(.int (-18 : Int32)), (.long (-1 : Int64))]
  refine o_lushr P (hb hby de63_42) (pc' := 43) rfl ?_
  show OG p e below m _ T 43 #[.val (.ref p0), .val (.int (0 : Int32)), .val (.int (18 : Int32)), .val (.int (0 : Int32)), .val (.int (0 : Int32)), .val (.long (-1 : Int64)), .second, .unset, .unset, .unset] [(.long (262143 : Int64))]
  refine o_lstore P (hb hby de63_43) (L' := #[.val (.ref p0), .val (.int (0 : Int32)), .val (.int (18 : Int32)), .val (.int (0 : Int32)), .val (.int (0 : Int32)), .val (.long (-1 : Int64)), .second, .val (.long (262143 : Int64)), .second, .unset]) rfl (pc' := 45) rfl ?_
  refine o_iloadN P (hb hby de63_45) rfl (pc' := 46) rfl ?_
  refine o_iload P (hb hby de63_46) rfl (pc' := 48) rfl ?_
  refine o_icmp_ne P (hb hby de63_48) (by decide) (pc' := 68) (by decide) (pcf := 51) rfl (fun q => absurd (by decide) q) (fun _ => ?_)
  refine o_aloadN P (hb hby de63_51) rfl rfl (pc' := 52) rfl ?_
  refine o_getF P (ow hw 71 rfl) Via.refl (F_p0.fld 2 rfl) (hb hby de63_52) (pc' := 55) rfl ?_
  clear P; intro T P
  refine o_iloadN P (hb hby de63_55) rfl (pc' := 56) rfl ?_
  refine o_dup2 P (hb hby de63_56) rfl rfl (pc' := 57) rfl ?_
  refine o_laload P (v := (.long (131073 : Int64))) A_p1 (by decide) rfl (hb hby de63_57) (pc' := 58) rfl ?_
  refine o_lload P (hb hby de63_58) rfl (pc' := 60) rfl ?_
  refine o_lload P (hb hby de63_60) rfl (pc' := 62) rfl ?_
  refine o_land P (hb hby de63_62) (pc' := 63) rfl ?_
  show OG p e below m _ T 63 #[.val (.ref p0), .val (.int (0 : Int32)), .val (.int (18 : Int32)), .val (.int (0 : Int32)), .val (.int (0 : Int32)), .val (.long (-1 : Int64)), .second, .val (.long (262143 : Int64)), .second, .unset] [(.long (262143 : Int64)), (.long (131073 : Int64)), (.int (0 : Int32)), (.ref p1)]
  refine o_lor P (hb hby de63_63) (pc' := 64) rfl ?_
  show OG p e below m _ T 64 #[.val (.ref p0), .val (.int (0 : Int32)), .val (.int (18 : Int32)), .val (.int (0 : Int32)), .val (.int (0 : Int32)), .val (.long (-1 : Int64)), .second, .val (.long (262143 : Int64)), .second, .unset] [(.long (262143 : Int64)), (.int (0 : Int32)), (.ref p1)]
  refine o_lastore P (v := (.long (262143 : Int64))) A_p1 (List.Mem.head _) (by decide) (of_decide_eq_true rfl) rfl (hb hby de63_64) (pc' := 65) rfl ?_
  clear P; clear A_p1; intro T h9 P W9 A_p1
  replace F_p0 := F_p0.oth W9 ne_p0_p1
  clear W9
  replace A_p1 : OArr Z h9 p1 .long [(.long (262143 : Int64))] := A_p1
  refine o_goto P (hb hby de63_65) (by decide) (pc' := 119) (by decide) ?_
  refine o_aloadN P (hb hby de63_119) rfl rfl (pc' := 120) rfl ?_
  refine o_callP P (W := 0) (a := p0) (ow hw 90 rfl) (ow hw 91 rfl) (ow hw 93 rfl) (ow hw 92 rfl) (ow hw 54 rfl) (ow hw 94 rfl) (by decide) F_p0.exa (ct_e102 l Z a0 hw EL n0 p0 p1  had od hod h9 F_p0 A_p1 ne_p0_p1) o_sf0 (by rw [hml]; rfl) (by decide) (by decide) (argsL := []) (rest := []) (lenOf pd_0 rfl) rfl rfl (Nat.le_of_eq rfl) (hb hby de63_120) (pc' := 123) rfl (by decide) (by decide) ?_
  clear P; intro T h11 v11 P K11 q11
  obtain ⟨rfl, rfl⟩ := q11; clear K11
  show OG p e below m _ T 123 #[.val (.ref p0), .val (.int (0 : Int32)), .val (.int (18 : Int32)), .val (.int (0 : Int32)), .val (.int (0 : Int32)), .val (.long (-1 : Int64)), .second, .val (.long (262143 : Int64)), .second, .unset] []
  exact o_ret0 P hret (hb hby de63_123) (by decide) (by decide) ⟨rfl, A_p1, trivial⟩
theorem ef_ct_e104 (x0 : Addr) (x1 : Int32) (m : MethodId) : entryFrame m #[(.ref x0), (.int x1)] 12 = mkF m 0 #[.val (.ref x0), .val (.int x1), .unset, .unset, .unset, .unset, .unset, .unset, .unset, .unset, .unset, .unset] [] := by first | (simp [entryFrame, mkF, argsToLocals, o_catR, o_catN, o_catI, o_catJ, o_catD]; done) | rfl
set_option maxRecDepth 65536 in
set_option maxHeartbeats 40000000 in
theorem ct_e104 (l : Launch) (Z : State) (a0 : Array Value) (hw : ∀ d ∈ tables_1, d.before a0 Z = true) (EL : List (String × Nat)) (n0 : Nat) (p0 : Addr) (p1 : Addr) (p2 : Addr) (p3 : Addr) (x0 : Int64) (x1 : Int64) (x2 : Int64) (x3 : Int64) (x4 : Int64) (x5 : Int64) (x6 : Int64) (x7 : Int64) (x8 : Int64) (x9 : Int64) (x10 : Int64) (x11 : Int64) (x12 : Int64) (x13 : Int64) (x14 : Int64) (x15 : Int64) (x16 : Int64) (had : Sta Z Z.heap "java/util/BitSet" "$assertionsDisabled" "Z" (.int 1)) (od : Addr) (hod : Sta Z Z.heap "com/example/centile/centile/function/Order" "ASCENDING" "Lcom/example/centile/centile/function/Order;" (.ref od)) (h0 : Heap) (F_p0 : OObj Z h0 p0 "com/example/centile/centile/function/Selection" [("com/example/centile/centile/function/Selection", "values", "[J", (.ref p1)), ("com/example/centile/centile/function/Selection", "cuts", "Ljava/util/BitSet;", (.ref p2))]) (A_p1 : OArr Z h0 p1 .long [(.long x0), (.long x1), (.long x2), (.long x3), (.long x4), (.long x5), (.long x6), (.long x7), (.long x8), (.long x9), (.long x10), (.long x11), (.long x12), (.long x13), (.long x14), (.long x15), (.long x16), (.long (0 : Int64)), (.long (0 : Int64)), (.long (0 : Int64)), (.long (0 : Int64)), (.long (0 : Int64)), (.long (0 : Int64)), (.long (0 : Int64)), (.long (0 : Int64)), (.long (0 : Int64)), (.long (0 : Int64)), (.long (0 : Int64)), (.long (0 : Int64)), (.long (0 : Int64)), (.long (0 : Int64)), (.long (0 : Int64))]) (F_p2 : OObj Z h0 p2 "java/util/BitSet" [("java/util/BitSet", "wordsInUse", "I", (.int (1 : Int32))), ("java/util/BitSet", "sizeIsSticky", "Z", (.int (1 : Int32))), ("java/util/BitSet", "words", "[J", (.ref p3))]) (A_p3 : OArr Z h0 p3 .long [(.long (131073 : Int64))]) (ne_p0_p1 : p0 ≠ p1) (ne_p0_p2 : p0 ≠ p2) (ne_p0_p3 : p0 ≠ p3) (ne_p1_p2 : p1 ≠ p2) (ne_p1_p3 : p1 ≠ p3) (ne_p2_p3 : p2 ≠ p3) :
    OCt l Z a0 EL n0 (⟨"com/example/centile/centile/function/Selection", "settle", "(I)V"⟩ : MethodName) prog_15_method_3_code 12 none ({ frames := 4, cells := 0, slots := 0, locals := 86 } : Room) [] #[(.ref p0), (.int (0 : Int32))] h0 [p1, p3] (fun w vm h => w = none ∧ OArr Z h p1 .long [(.long (og [x0, x1, x2, x3, x4, x5, x6, x7, x8, x9, x10, x11, x12, x13, x14, x15, x16] 0)), (.long (og [x0, x1, x2, x3, x4, x5, x6, x7, x8, x9, x10, x11, x12, x13, x14, x15, x16] 1)), (.long (og [x0, x1, x2, x3, x4, x5, x6, x7, x8, x9, x10, x11, x12, x13, x14, x15, x16] 2)), (.long (og [x0, x1, x2, x3, x4, x5, x6, x7, x8, x9, x10, x11, x12, x13, x14, x15, x16] 3)), (.long (og [x0, x1, x2, x3, x4, x5, x6, x7, x8, x9, x10, x11, x12, x13, x14, x15, x16] 4)), (.long (og [x0, x1, x2, x3, x4, x5, x6, x7, x8, x9, x10, x11, x12, x13, x14, x15, x16] 5)), (.long (og [x0, x1, x2, x3, x4, x5, x6, x7, x8, x9, x10, x11, x12, x13, x14, x15, x16] 6)), (.long (og [x0, x1, x2, x3, x4, x5, x6, x7, x8, x9, x10, x11, x12, x13, x14, x15, x16] 7)), (.long (og [x0, x1, x2, x3, x4, x5, x6, x7, x8, x9, x10, x11, x12, x13, x14, x15, x16] 8)), (.long (og [x0, x1, x2, x3, x4, x5, x6, x7, x8, x9, x10, x11, x12, x13, x14, x15, x16] 9)), (.long (og [x0, x1, x2, x3, x4, x5, x6, x7, x8, x9, x10, x11, x12, x13, x14, x15, x16] 10)), (.long (og [x0, x1, x2, x3, x4, x5, x6, x7, x8, x9, x10, x11, x12, x13, x14, x15, x16] 11)), (.long (og [x0, x1, x2, x3, x4, x5, x6, x7, x8, x9, x10, x11, x12, x13, x14, x15, x16] 12)), (.long (og [x0, x1, x2, x3, x4, x5, x6, x7, x8, x9, x10, x11, x12, x13, x14, x15, x16] 13)), (.long (og [x0, x1, x2, x3, x4, x5, x6, x7, x8, x9, x10, x11, x12, x13, x14, x15, x16] 14)), (.long (og [x0, x1, x2, x3, x4, x5, x6, x7, x8, x9, x10, x11, x12, x13, x14, x15, x16] 15)), (.long (og [x0, x1, x2, x3, x4, x5, x6, x7, x8, x9, x10, x11, x12, x13, x14, x15, x16] 16)), (.long (0 : Int64)), (.long (0 : Int64)), (.long (0 : Int64)), (.long (0 : Int64)), (.long (0 : Int64)), (.long (0 : Int64)), (.long (0 : Int64)), (.long (0 : Int64)), (.long (0 : Int64)), (.long (0 : Int64)), (.long (0 : Int64)), (.long (0 : Int64)), (.long (0 : Int64)), (.long (0 : Int64)), (.long (0 : Int64))] ∧ OArr Z h p3 .long [(.long (262143 : Int64))] ∧ True) := by
  refine OCt.body (plainFor_of_name pn_e2) (ef_ct_e104 p0 ((0 : Int32))) ?_
  intro p e s m below meth c T hby hml hret hnm hsh P
  refine o_aloadN P (hb hby de38_0) rfl rfl (pc' := 1) rfl ?_
  refine o_getF P (ow hw 73 rfl) Via.refl (F_p0.fld 1 rfl) (hb hby de38_1) (pc' := 4) rfl ?_
  clear P; intro T P
  refine o_iloadN P (hb hby de38_4) rfl (pc' := 5) rfl ?_
  refine o_callV P (W := 0) (x := (⟨"java/util/BitSet", "get", "(I)Z"⟩ : MethodName)) (y := (⟨"java/util/BitSet", "get", "(I)Z"⟩ : MethodName)) (a := p2) (ow hw 106 rfl) (ow hw 107 rfl) (o_nfSel (y := (⟨"java/util/BitSet", "get", "(I)Z"⟩ : MethodName)) rfl (ow hw 109 rfl)) (ow hw 109 rfl) (ow hw 108 rfl) (ow hw 54 rfl) (ow hw 110 rfl) (by decide) F_p2.exa (ct_e90 l Z a0 hw EL n0 p2 p3  had od hod h0 F_p2 A_p3 ne_p2_p3) o_sf0 (by rw [hml]; rfl) (by decide) (by decide) (argsL := [(.int (0 : Int32))]) (rest := []) (lenOf pd_6 rfl) rfl rfl (Nat.le_of_eq rfl) (hb hby de38_5) (pc' := 8) rfl (by decide) (by decide) ?_
  clear P; intro T h2 v2 P K2 q2
  obtain ⟨rfl, rfl⟩ := q2; clear K2
  show OG p e below m _ T 8 #[.val (.ref p0), .val (.int (0 : Int32)), .unset, .unset, .unset, .unset, .unset, .unset, .unset, .unset, .unset, .unset] [(.int (1 : Int32))]
  refine o_if_eq P (hb hby de38_8) (by decide) (pc' := 25) (by decide) (pcf := 11) rfl (fun q => absurd q (by decide)) (fun _ => ?_)
  refine o_aloadN P (hb hby de38_11) rfl rfl (pc' := 12) rfl ?_
  refine o_getF P (ow hw 73 rfl) Via.refl (F_p0.fld 1 rfl) (hb hby de38_12) (pc' := 15) rfl ?_
  clear P; intro T P
  refine o_iloadN P (hb hby de38_15) rfl (pc' := 16) rfl ?_
  refine o_iconst P (1 : Int32) (hb hby de38_16) rfl (pc' := 17) rfl ?_
  refine o_iadd P (hb hby de38_17) (pc' := 18) rfl ?_
  show OG p e below m _ T 18 #[.val (.ref p0), .val (.int (0 : Int32)), .unset, .unset, .unset, .unset, .unset, .unset, .unset, .unset, .unset, .unset] [(.int (1 : Int32)), (.ref p2)]
  refine o_callV P (W := 0) (x := (⟨"java/util/BitSet", "get", "(I)Z"⟩ : MethodName)) (y := (⟨"java/util/BitSet", "get", "(I)Z"⟩ : MethodName)) (a := p2) (ow hw 106 rfl) (ow hw 107 rfl) (o_nfSel (y := (⟨"java/util/BitSet", "get", "(I)Z"⟩ : MethodName)) rfl (ow hw 109 rfl)) (ow hw 109 rfl) (ow hw 108 rfl) (ow hw 54 rfl) (ow hw 110 rfl) (by decide) F_p2.exa (ct_e91 l Z a0 hw EL n0 p2 p3  had od hod h2 F_p2 A_p3 ne_p2_p3) o_sf0 (by rw [hml]; rfl) (by decide) (by decide) (argsL := [(.int (1 : Int32))]) (rest := []) (lenOf pd_6 rfl) rfl rfl (Nat.le_of_eq rfl) (hb hby de38_18) (pc' := 21) rfl (by decide) (by decide) ?_
  clear P; intro T h4 v4 P K4 q4
  obtain ⟨rfl, rfl⟩ := q4; clear K4
  show OG p e below m _ T 21 #[.val (.ref p0), .val (.int (0 : Int32)), .unset, .unset, .unset, .unset, .unset, .unset, .unset, .unset, .unset, .unset] [(.int (0 : Int32))]
  refine o_if_eq P (hb hby de38_21) (by decide) (pc' := 25) (by decide) (pcf := 24) rfl (fun _ => ?_) (fun q => absurd (by decide) q)
  refine o_aloadN P (hb hby de38_25) rfl rfl (pc' := 26) rfl ?_
  refine o_getF P (ow hw 73 rfl) Via.refl (F_p0.fld 1 rfl) (hb hby de38_26) (pc' := 29) rfl ?_
  clear P; intro T P
  refine o_iloadN P (hb hby de38_29) rfl (pc' := 30) rfl ?_
  refine o_callV P (W := 0) (x := (⟨"java/util/BitSet", "previousSetBit", "(I)I"⟩ : MethodName)) (y := (⟨"java/util/BitSet", "previousSetBit", "(I)I"⟩ : MethodName)) (a := p2) (ow hw 111 rfl) (ow hw 112 rfl) (o_nfSel (y := (⟨"java/util/BitSet", "previousSetBit", "(I)I"⟩ : MethodName)) rfl (ow hw 114 rfl)) (ow hw 114 rfl) (ow hw 113 rfl) (ow hw 54 rfl) (ow hw 115 rfl) (by decide) F_p2.exa (ct_e92 l Z a0 hw EL n0 p2 p3  had od hod h4 F_p2 A_p3 ne_p2_p3) o_sf0 (by rw [hml]; rfl) (by decide) (by decide) (argsL := [(.int (0 : Int32))]) (rest := []) (lenOf pd_4 rfl) rfl rfl (Nat.le_of_eq rfl) (hb hby de38_30) (pc' := 33) rfl (by decide) (by decide) ?_
  clear P; intro T h6 v6 P K6 q6
  obtain ⟨rfl, rfl⟩ := q6; clear K6
  show OG p e below m _ T 33 #[.val (.ref p0), .val (.int (0 : Int32)), .unset, .unset, .unset, .unset, .unset, .unset, .unset, .unset, .unset, .unset] [(.int (0 : Int32))]
  refine o_istoreN P (hb hby de38_33) (L' := #[.val (.ref p0), .val (.int (0 : Int32)), .val (.int (0 : Int32)), .unset, .unset, .unset, .unset, .unset, .unset, .unset, .unset, .unset]) rfl (pc' := 34) rfl ?_
  refine o_aloadN P (hb hby de38_34) rfl rfl (pc' := 35) rfl ?_
  refine o_getF P (ow hw 73 rfl) Via.refl (F_p0.fld 1 rfl) (hb hby de38_35) (pc' := 38) rfl ?_
  clear P; intro T P
  refine o_iloadN P (hb hby de38_38) rfl (pc' := 39) rfl ?_
  refine o_iconst P (1 : Int32) (hb hby de38_39) rfl (pc' := 40) rfl ?_
  refine o_iadd P (hb hby de38_40) (pc' := 41) rfl ?_
  show OG p e below m _ T 41 #[.val (.ref p0), .val (.int (0 : Int32)), .val (.int (0 : Int32)), .unset, .unset, .unset, .unset, .unset, .unset, .unset, .unset, .unset] [(.int (1 : Int32)), (.ref p2)]
  refine o_callV P (W := 0) (x := (⟨"java/util/BitSet", "nextSetBit", "(I)I"⟩ : MethodName)) (y := (⟨"java/util/BitSet", "nextSetBit", "(I)I"⟩ : MethodName)) (a := p2) (ow hw 126 rfl) (ow hw 127 rfl) (o_nfSel (y := (⟨"java/util/BitSet", "nextSetBit", "(I)I"⟩ : MethodName)) rfl (ow hw 129 rfl)) (ow hw 129 rfl) (ow hw 128 rfl) (ow hw 54 rfl) (ow hw 130 rfl) (by decide) F_p2.exa (ct_e95 l Z a0 hw EL n0 p2 p3  had od hod h6 F_p2 A_p3 ne_p2_p3) o_sf0 (by rw [hml]; rfl) (by decide) (by decide) (argsL := [(.int (1 : Int32))]) (rest := []) (lenOf pd_4 rfl) rfl rfl (Nat.le_of_eq rfl) (hb hby de38_41) (pc' := 44) rfl (by decide) (by decide) ?_
  clear P; intro T h8 v8 P K8 q8
  obtain ⟨rfl, rfl⟩ := q8; clear K8
  show OG p e below m _ T 44 #[.val (.ref p0), .val (.int (0 : Int32)), .val (.int (0 : Int32)), .unset, .unset, .unset, .unset, .unset, .unset, .unset, .unset, .unset] [(.int (17 : Int32))]
  refine o_istoreN P (hb hby de38_44) (L' := #[.val (.ref p0), .val (.int (0 : Int32)), .val (.int (0 : Int32)), .val (.int (17 : Int32)), .unset, .unset, .unset, .unset, .unset, .unset, .unset, .unset]) rfl (pc' := 45) rfl ?_
  refine o_iconst P (0 : Int32) (hb hby de38_45) rfl (pc' := 46) rfl ?_
  refine o_istore P (hb hby de38_46) (L' := #[.val (.ref p0), .val (.int (0 : Int32)), .val (.int (0 : Int32)), .val (.int (17 : Int32)), .val (.int (0 : Int32)), .unset, .unset, .unset, .unset, .unset, .unset, .unset]) rfl (pc' := 48) rfl ?_
  refine o_iloadN P (hb hby de38_48) rfl (pc' := 49) rfl ?_
  refine o_iloadN P (hb hby de38_49) rfl (pc' := 50) rfl ?_
  refine o_isub P (hb hby de38_50) (pc' := 51) rfl ?_
  show OG p e below m _ T 51 #[.val (.ref p0), .val (.int (0 : Int32)), .val (.int (0 : Int32)), .val (.int (17 : Int32)), .val (.int (0 : Int32)), .unset, .unset, .unset, .unset, .unset, .unset, .unset] [(.int (17 : Int32))]
  refine o_sipush P (256 : Int32) (hb hby de38_51) rfl (pc' := 54) rfl ?_
  refine o_icmp_le P (hb hby de38_54) (by decide) (pc' := 303) (by decide) (pcf := 57) rfl (fun _ => ?_) (fun q => absurd q (by decide))
  refine o_aloadN P (hb hby de38_303) rfl rfl (pc' := 304) rfl ?_
  refine o_getF P (ow hw 50 rfl) Via.refl (F_p0.fld 0 rfl) (hb hby de38_304) (pc' := 307) rfl ?_
  clear P; intro T P
  refine o_iloadN P (hb hby de38_307) rfl (pc' := 308) rfl ?_
  refine o_iloadN P (hb hby de38_308) rfl (pc' := 309) rfl ?_
  have hn_9 := P.n0le; have hk_9 := P.keep0.1
  refine o_callS P (W := 0) (ow hw 137 rfl) (ow hw 138 rfl) (ow hw 139 rfl) (ow hw 140 rfl) (by decide) (ct_e99 l Z a0 hw EL n0 p1 x0 x1 x2 x3 x4 x5 x6 x7 x8 x9 x10 x11 x12 x13 x14 x15 x16 had od hod h8 A_p1 ) (o_sfS (List.Mem.head _) o_sf0) (by rw [hml]; rfl) (by decide) (by decide) (argsL := [(.ref p1), (.int (0 : Int32)), (.int (17 : Int32))]) (rest := []) (lenOf pd_9 rfl) rfl rfl (Nat.le_of_eq rfl) (hb hby de38_309) (pc' := 312) rfl (by decide) (by decide) ?_
  clear P; intro T h10 v10 P K10 q10
  obtain ⟨rfl, Q_p1, -⟩ := q10
  replace F_p0 := F_p0.keep K10 (ninS ne_p0_p1 nin0)
  replace F_p2 := F_p2.keep K10 (ninS (Ne.symm ne_p1_p2) nin0)
  replace A_p3 := A_p3.keep K10 (ninS (Ne.symm ne_p1_p3) nin0)
  clear A_p1
  have A_p1 := Q_p1; clear Q_p1
  clear K10 hn_9 hk_9
  show OG p e below m _ T 312 #[.val (.ref p0), .val (.int (0 : Int32)), .val (.int (0 : Int32)), .val (.int (17 : Int32)), .val (.int (0 : Int32)), .unset, .unset, .unset, .unset, .unset, .unset, .unset] []
  refine o_aloadN P (hb hby de38_312) rfl rfl (pc' := 313) rfl ?_
  refine o_getF P (ow hw 73 rfl) Via.refl (F_p0.fld 1 rfl) (hb hby de38_313) (pc' := 316) rfl ?_
  clear P; intro T P
  refine o_iloadN P (hb hby de38_316) rfl (pc' := 317) rfl ?_
  refine o_iloadN P (hb hby de38_317) rfl (pc' := 318) rfl ?_
  refine o_iconst P (1 : Int32) (hb hby de38_318) rfl (pc' := 319) rfl ?_
  refine o_iadd P (hb hby de38_319) (pc' := 320) rfl ?_
  show OG p e below m _ T 320 #[.val (.ref p0), .val (.int (0 : Int32)), .val (.int (0 : Int32)), .val (.int (17 : Int32)), .val (.int (0 : Int32)), .unset, .unset, .unset, .unset, .unset, .unset, .unset] [(.int (18 : Int32)), (.int (0 : Int32)), (.ref p2)]
  have hn_11 := P.n0le; have hk_11 := P.keep0.1
  refine o_callV P (W := 0) (x := (⟨"java/util/BitSet", "set", "(II)V"⟩ : MethodName)) (y := (⟨"java/util/BitSet", "set", "(II)V"⟩ : MethodName)) (a := p2) (ow hw 154 rfl) (ow hw 155 rfl) (o_nfSel (y := (⟨"java/util/BitSet", "set", "(II)V"⟩ : MethodName)) rfl (ow hw 157 rfl)) (ow hw 157 rfl) (ow hw 156 rfl) (ow hw 54 rfl) (ow hw 158 rfl) (by decide) F_p2.exa (ct_e103 l Z a0 hw EL n0 p2 p3  had od hod h10 F_p2 A_p3 ne_p2_p3) (o_sfS (List.Mem.tail _ (List.Mem.head _)) o_sf0) (by rw [hml]; rfl) (by decide) (by decide) (argsL := [(.int (0 : Int32)), (.int (18 : Int32))]) (rest := []) (lenOf pd_12 rfl) rfl rfl (Nat.le_of_eq rfl) (hb hby de38_320) (pc' := 323) rfl (by decide) (by decide) ?_
  clear P; intro T h12 v12 P K12 q12
  obtain ⟨rfl, Q_p3, -⟩ := q12
  replace F_p0 := F_p0.keep K12 (ninS ne_p0_p3 nin0)
  replace F_p2 := F_p2.keep K12 (ninS ne_p2_p3 nin0)
  replace A_p1 := A_p1.keep K12 (ninS ne_p1_p3 nin0)
  clear A_p3
  have A_p3 := Q_p3; clear Q_p3
  clear K12 hn_11 hk_11
  show OG p e below m _ T 323 #[.val (.ref p0), .val (.int (0 : Int32)), .val (.int (0 : Int32)), .val (.int (17 : Int32)), .val (.int (0 : Int32)), .unset, .unset, .unset, .unset, .unset, .unset, .unset] []
  exact o_ret0 P hret (hb hby de38_323) (by decide) (by decide) ⟨rfl, A_p1, A_p3, trivial⟩
theorem ef_ct_e105 (x0 : Addr) (x1 : Int32) (m : MethodId) : entryFrame m #[(.ref x0), (.int x1)] 2 = mkF m 0 #[.val (.ref x0), .val (.int x1)] [] := by first | (simp [entryFrame, mkF, argsToLocals, o_catR, o_catN, o_catI, o_catJ, o_catD]; done) | rfl
set_option maxRecDepth 65536 in
set_option maxHeartbeats 40000000 in
theorem ct_e105 (l : Launch) (Z : State) (a0 : Array Value) (hw : ∀ d ∈ tables_1, d.before a0 Z = true) (EL : List (String × Nat)) (n0 : Nat) (p0 : Addr) (p1 : Addr) (p2 : Addr) (p3 : Addr) (x0 : Int64) (x1 : Int64) (x2 : Int64) (x3 : Int64) (x4 : Int64) (x5 : Int64) (x6 : Int64) (x7 : Int64) (x8 : Int64) (x9 : Int64) (x10 : Int64) (x11 : Int64) (x12 : Int64) (x13 : Int64) (x14 : Int64) (x15 : Int64) (x16 : Int64) (had : Sta Z Z.heap "java/util/BitSet" "$assertionsDisabled" "Z" (.int 1)) (od : Addr) (hod : Sta Z Z.heap "com/example/centile/centile/function/Order" "ASCENDING" "Lcom/example/centile/centile/function/Order;" (.ref od)) (h0 : Heap) (F_p0 : OObj Z h0 p0 "com/example/centile/centile/function/Selection" [("com/example/centile/centile/function/Selection", "values", "[J", (.ref p1)), ("com/example/centile/centile/function/Selection", "cuts", "Ljava/util/BitSet;", (.ref p2))]) (A_p1 : OArr Z h0 p1 .long [(.long x0), (.long x1), (.long x2), (.long x3), (.long x4), (.long x5), (.long x6), (.long x7), (.long x8), (.long x9), (.long x10), (.long x11), (.long x12), (.long x13), (.long x14), (.long x15), (.long x16), (.long (0 : Int64)), (.long (0 : Int64)), (.long (0 : Int64)), (.long (0 : Int64)), (.long (0 : Int64)), (.long (0 : Int64)), (.long (0 : Int64)), (.long (0 : Int64)), (.long (0 : Int64)), (.long (0 : Int64)), (.long (0 : Int64)), (.long (0 : Int64)), (.long (0 : Int64)), (.long (0 : Int64)), (.long (0 : Int64))]) (F_p2 : OObj Z h0 p2 "java/util/BitSet" [("java/util/BitSet", "wordsInUse", "I", (.int (1 : Int32))), ("java/util/BitSet", "sizeIsSticky", "Z", (.int (1 : Int32))), ("java/util/BitSet", "words", "[J", (.ref p3))]) (A_p3 : OArr Z h0 p3 .long [(.long (131073 : Int64))]) (ne_p0_p1 : p0 ≠ p1) (ne_p0_p2 : p0 ≠ p2) (ne_p0_p3 : p0 ≠ p3) (ne_p1_p2 : p1 ≠ p2) (ne_p1_p3 : p1 ≠ p3) (ne_p2_p3 : p2 ≠ p3) :
    OCt l Z a0 EL n0 (⟨"com/example/centile/centile/function/Selection", "valueAt", "(I)J"⟩ : MethodName) prog_15_method_2_code 2 (some .long) ({ frames := 5, cells := 0, slots := 0, locals := 109 } : Room) [] #[(.ref p0), (.int (0 : Int32))] h0 [p1, p3] (fun w vm h => w = some (.long (og [x0, x1, x2, x3, x4, x5, x6, x7, x8, x9, x10, x11, x12, x13, x14, x15, x16] 0)) ∧ OArr Z h p1 .long [(.long (og [x0, x1, x2, x3, x4, x5, x6, x7, x8, x9, x10, x11, x12, x13, x14, x15, x16] 0)), (.long (og [x0, x1, x2, x3, x4, x5, x6, x7, x8, x9, x10, x11, x12, x13, x14, x15, x16] 1)), (.long (og [x0, x1, x2, x3, x4, x5, x6, x7, x8, x9, x10, x11, x12, x13, x14, x15, x16] 2)), (.long (og [x0, x1, x2, x3, x4, x5, x6, x7, x8, x9, x10, x11, x12, x13, x14, x15, x16] 3)), (.long (og [x0, x1, x2, x3, x4, x5, x6, x7, x8, x9, x10, x11, x12, x13, x14, x15, x16] 4)), (.long (og [x0, x1, x2, x3, x4, x5, x6, x7, x8, x9, x10, x11, x12, x13, x14, x15, x16] 5)), (.long (og [x0, x1, x2, x3, x4, x5, x6, x7, x8, x9, x10, x11, x12, x13, x14, x15, x16] 6)), (.long (og [x0, x1, x2, x3, x4, x5, x6, x7, x8, x9, x10, x11, x12, x13, x14, x15, x16] 7)), (.long (og [x0, x1, x2, x3, x4, x5, x6, x7, x8, x9, x10, x11, x12, x13, x14, x15, x16] 8)), (.long (og [x0, x1, x2, x3, x4, x5, x6, x7, x8, x9, x10, x11, x12, x13, x14, x15, x16] 9)), (.long (og [x0, x1, x2, x3, x4, x5, x6, x7, x8, x9, x10, x11, x12, x13, x14, x15, x16] 10)), (.long (og [x0, x1, x2, x3, x4, x5, x6, x7, x8, x9, x10, x11, x12, x13, x14, x15, x16] 11)), (.long (og [x0, x1, x2, x3, x4, x5, x6, x7, x8, x9, x10, x11, x12, x13, x14, x15, x16] 12)), (.long (og [x0, x1, x2, x3, x4, x5, x6, x7, x8, x9, x10, x11, x12, x13, x14, x15, x16] 13)), (.long (og [x0, x1, x2, x3, x4, x5, x6, x7, x8, x9, x10, x11, x12, x13, x14, x15, x16] 14)), (.long (og [x0, x1, x2, x3, x4, x5, x6, x7, x8, x9, x10, x11, x12, x13, x14, x15, x16] 15)), (.long (og [x0, x1, x2, x3, x4, x5, x6, x7, x8, x9, x10, x11, x12, x13, x14, x15, x16] 16)), (.long (0 : Int64)), (.long (0 : Int64)), (.long (0 : Int64)), (.long (0 : Int64)), (.long (0 : Int64)), (.long (0 : Int64)), (.long (0 : Int64)), (.long (0 : Int64)), (.long (0 : Int64)), (.long (0 : Int64)), (.long (0 : Int64)), (.long (0 : Int64)), (.long (0 : Int64)), (.long (0 : Int64)), (.long (0 : Int64))] ∧ OArr Z h p3 .long [(.long (262143 : Int64))] ∧ True) := by
  refine OCt.body (plainFor_of_name pn_e2) (ef_ct_e105 p0 ((0 : Int32))) ?_
  intro p e s m below meth c T hby hml hret hnm hsh P
  refine o_aloadN P (hb hby de37_0) rfl rfl (pc' := 1) rfl ?_
  refine o_iloadN P (hb hby de37_1) rfl (pc' := 2) rfl ?_
  have hn_1 := P.n0le; have hk_1 := P.keep0.1
  refine o_callQ P (W := 0) (a := p0) (ow hw 102 rfl) (ow hw 103 rfl) (ow hw 44 rfl) (ow hw 104 rfl) (ow hw 45 rfl) (ow hw 105 rfl) (by decide) F_p0.exa (ct_e104 l Z a0 hw EL n0 p0 p1 p2 p3 x0 x1 x2 x3 x4 x5 x6 x7 x8 x9 x10 x11 x12 x13 x14 x15 x16 had od hod h0 F_p0 A_p1 F_p2 A_p3 ne_p0_p1 ne_p0_p2 ne_p0_p3 ne_p1_p2 ne_p1_p3 ne_p2_p3) (o_sfS (List.Mem.head _) (o_sfS (List.Mem.tail _ (List.Mem.head _)) o_sf0)) (by rw [hml]; rfl) (by decide) (by decide) (argsL := [(.int (0 : Int32))]) (rest := []) (lenOf pd_1 rfl) rfl rfl (Nat.le_of_eq rfl) (hb hby de37_2) (pc' := 5) rfl (by decide) (by decide) ?_
  clear P; intro T h2 v2 P K2 q2
  obtain ⟨rfl, Q_p1, Q_p3, -⟩ := q2
  replace F_p0 := F_p0.keep K2 (ninS ne_p0_p1 (ninS ne_p0_p3 nin0))
  replace F_p2 := F_p2.keep K2 (ninS (Ne.symm ne_p1_p2) (ninS ne_p2_p3 nin0))
  clear A_p1
  have A_p1 := Q_p1; clear Q_p1
  clear A_p3
  have A_p3 := Q_p3; clear Q_p3
  clear K2 hn_1 hk_1
  show OG p e below m _ T 5 #[.val (.ref p0), .val (.int (0 : Int32))] []
  refine o_aloadN P (hb hby de37_5) rfl rfl (pc' := 6) rfl ?_
  refine o_getF P (ow hw 50 rfl) Via.refl (F_p0.fld 0 rfl) (hb hby de37_6) (pc' := 9) rfl ?_
  clear P; intro T P
  refine o_iloadN P (hb hby de37_9) rfl (pc' := 10) rfl ?_
  refine o_laload P (v := (.long (og [x0, x1, x2, x3, x4, x5, x6, x7, x8, x9, x10, x11, x12, x13, x14, x15, x16] 0))) A_p1 (by decide) rfl (hb hby de37_10) (pc' := 11) rfl ?_
  exact o_retL P hret (hb hby de37_11) (by decide) (by decide) ⟨rfl, A_p1, A_p3, trivial⟩
theorem ef_ct_e106 (x0 : Addr) (x1 : Int32) (x2 : Addr) (m : MethodId) : entryFrame m #[(.ref x0), (.int x1), (.ref x2)] 4 = mkF m 0 #[.val (.ref x0), .val (.int x1), .val (.ref x2), .unset] [] := by first | (simp [entryFrame, mkF, argsToLocals, o_catR, o_catN, o_catI, o_catJ, o_catD]; done) | rfl
set_option maxRecDepth 65536 in
set_option maxHeartbeats 40000000 in
theorem ct_e106 (l : Launch) (Z : State) (a0 : Array Value) (hw : ∀ d ∈ tables_1, d.before a0 Z = true) (EL : List (String × Nat)) (n0 : Nat) (p0 : Addr) (p1 : Addr) (x0 : Int64) (x1 : Int64) (x2 : Int64) (x3 : Int64) (x4 : Int64) (x5 : Int64) (x6 : Int64) (x7 : Int64) (x8 : Int64) (x9 : Int64) (x10 : Int64) (x11 : Int64) (x12 : Int64) (x13 : Int64) (x14 : Int64) (x15 : Int64) (x16 : Int64) (had : Sta Z Z.heap "java/util/BitSet" "$assertionsDisabled" "Z" (.int 1)) (od : Addr) (hod : Sta Z Z.heap "com/example/centile/centile/function/Order" "ASCENDING" "Lcom/example/centile/centile/function/Order;" (.ref od)) (h0 : Heap) (F_p0 : OObj Z h0 p0 "com/example/centile/centile/function/Keys" [("com/example/centile/centile/function/Keys", "keys", "[J", (.ref p1)), ("com/example/centile/centile/function/Keys", "size", "I", (.int (17 : Int32))), ("com/example/centile/centile/function/Keys", "selection", "Lcom/example/centile/centile/function/Selection;", .null)]) (A_p1 : OArr Z h0 p1 .long [(.long x0), (.long x1), (.long x2), (.long x3), (.long x4), (.long x5), (.long x6), (.long x7), (.long x8), (.long x9), (.long x10), (.long x11), (.long x12), (.long x13), (.long x14), (.long x15), (.long x16), (.long (0 : Int64)), (.long (0 : Int64)), (.long (0 : Int64)), (.long (0 : Int64)), (.long (0 : Int64)), (.long (0 : Int64)), (.long (0 : Int64)), (.long (0 : Int64)), (.long (0 : Int64)), (.long (0 : Int64)), (.long (0 : Int64)), (.long (0 : Int64)), (.long (0 : Int64)), (.long (0 : Int64)), (.long (0 : Int64))]) (ne_p0_p1 : p0 ≠ p1) :
    OCt l Z a0 EL n0 (⟨"com/example/centile/centile/function/Keys", "at", "(ILcom/example/centile/centile/function/Order;)J"⟩ : MethodName) prog_11_method_6_code 4 (some .long) ({ frames := 6, cells := 3, slots := 6, locals := 122 } : Room) [] #[(.ref p0), (.int (1 : Int32)), (.ref od)] h0 [p0, p1] (fun w vm h => ∃ n0 n1 n2 : Addr, w = some (.long (og [x0, x1, x2, x3, x4, x5, x6, x7, x8, x9, x10, x11, x12, x13, x14, x15, x16] 0)) ∧ h0.size ≤ n0 ∧ h0.size ≤ n1 ∧ h0.size ≤ n2 ∧ n0 ≠ n1 ∧ n0 ≠ n2 ∧ n1 ≠ n2 ∧ OObj Z h p0 "com/example/centile/centile/function/Keys" [("com/example/centile/centile/function/Keys", "keys", "[J", (.ref p1)), ("com/example/centile/centile/function/Keys", "size", "I", (.int (17 : Int32))), ("com/example/centile/centile/function/Keys", "selection", "Lcom/example/centile/centile/function/Selection;", (.ref n0))] ∧ OArr Z h p1 .long [(.long (og [x0, x1, x2, x3, x4, x5, x6, x7, x8, x9, x10, x11, x12, x13, x14, x15, x16] 0)), (.long (og [x0, x1, x2, x3, x4, x5, x6, x7, x8, x9, x10, x11, x12, x13, x14, x15, x16] 1)), (.long (og [x0, x1, x2, x3, x4, x5, x6, x7, x8, x9, x10, x11, x12, x13, x14, x15, x16] 2)), (.long (og [x0, x1, x2, x3, x4, x5, x6, x7, x8, x9, x10, x11, x12, x13, x14, x15, x16] 3)), (.long (og [x0, x1, x2, x3, x4, x5, x6, x7, x8, x9, x10, x11, x12, x13, x14, x15, x16] 4)), (.long (og [x0, x1, x2, x3, x4, x5, x6, x7, x8, x9, x10, x11, x12, x13, x14, x15, x16] 5)), (.long (og [x0, x1, x2, x3, x4, x5, x6, x7, x8, x9, x10, x11, x12, x13, x14, x15, x16] 6)), (.long (og [x0, x1, x2, x3, x4, x5, x6, x7, x8, x9, x10, x11, x12, x13, x14, x15, x16] 7)), (.long (og [x0, x1, x2, x3, x4, x5, x6, x7, x8, x9, x10, x11, x12, x13, x14, x15, x16] 8)), (.long (og [x0, x1, x2, x3, x4, x5, x6, x7, x8, x9, x10, x11, x12, x13, x14, x15, x16] 9)), (.long (og [x0, x1, x2, x3, x4, x5, x6, x7, x8, x9, x10, x11, x12, x13, x14, x15, x16] 10)), (.long (og [x0, x1, x2, x3, x4, x5, x6, x7, x8, x9, x10, x11, x12, x13, x14, x15, x16] 11)), (.long (og [x0, x1, x2, x3, x4, x5, x6, x7, x8, x9, x10, x11, x12, x13, x14, x15, x16] 12)), (.long (og [x0, x1, x2, x3, x4, x5, x6, x7, x8, x9, x10, x11, x12, x13, x14, x15, x16] 13)), (.long (og [x0, x1, x2, x3, x4, x5, x6, x7, x8, x9, x10, x11, x12, x13, x14, x15, x16] 14)), (.long (og [x0, x1, x2, x3, x4, x5, x6, x7, x8, x9, x10, x11, x12, x13, x14, x15, x16] 15)), (.long (og [x0, x1, x2, x3, x4, x5, x6, x7, x8, x9, x10, x11, x12, x13, x14, x15, x16] 16)), (.long (0 : Int64)), (.long (0 : Int64)), (.long (0 : Int64)), (.long (0 : Int64)), (.long (0 : Int64)), (.long (0 : Int64)), (.long (0 : Int64)), (.long (0 : Int64)), (.long (0 : Int64)), (.long (0 : Int64)), (.long (0 : Int64)), (.long (0 : Int64)), (.long (0 : Int64)), (.long (0 : Int64)), (.long (0 : Int64))] ∧ OObj Z h n0 "com/example/centile/centile/function/Selection" [("com/example/centile/centile/function/Selection", "values", "[J", (.ref p1)), ("com/example/centile/centile/function/Selection", "cuts", "Ljava/util/BitSet;", (.ref n1))] ∧ OObj Z h n1 "java/util/BitSet" [("java/util/BitSet", "wordsInUse", "I", (.int (1 : Int32))), ("java/util/BitSet", "sizeIsSticky", "Z", (.int (1 : Int32))), ("java/util/BitSet", "words", "[J", (.ref n2))] ∧ OArr Z h n2 .long [(.long (262143 : Int64))] ∧ True) := by
  refine OCt.body (plainFor_of_name pn_e0) (ef_ct_e106 p0 ((1 : Int32)) od) ?_
  intro p e s m below meth c T hby hml hret hnm hsh P
  refine o_aloadN P (hb hby de16_0) rfl rfl (pc' := 1) rfl ?_
  refine o_getF P (ow hw 24 rfl) Via.refl (F_p0.fld 2 rfl) (hb hby de16_1) (pc' := 4) rfl ?_
  clear P; intro T P
  refine o_ifnonnullN P (hb hby de16_4) (pc' := 7) rfl ?_
  refine o_aloadN P (hb hby de16_7) rfl rfl (pc' := 8) rfl ?_
  have hz_b1 := P.keep0.1
  refine o_new P [("com/example/centile/centile/function/Selection", "values", "[J", .null), ("com/example/centile/centile/function/Selection", "cuts", "Ljava/util/BitSet;", .null)] (ow hw 43 rfl) (ow hw 44 rfl) (ow hw 45 rfl) (OLd.cons (Or.inr (ow hw 51 rfl)) (ty := (.array .long)) (by decide) rfl (OLd.cons (Or.inr (ow hw 74 rfl)) (ty := (.object "java/util/BitSet")) (by decide) rfl OLd.nil)) (by decide +kernel) (hb hby de16_8) (pc' := 11) rfl (by decide) (by decide) ?_
  clear P; intro T h1 b1 P K1 hb_b1 F_b1
  have sz_b1 := Nat.le_trans hz_b1 hb_b1
  clear hz_b1
  have ne_p0_b1 : p0 ≠ b1 := Nat.ne_of_lt (Nat.lt_of_lt_of_le F_p0.lt hb_b1)
  have ne_p1_b1 : p1 ≠ b1 := Nat.ne_of_lt (Nat.lt_of_lt_of_le A_p1.lt hb_b1)
  replace F_p0 := F_p0.keep K1 nin0
  replace A_p1 := A_p1.keep K1 nin0
  clear K1
  refine o_dup P (hb hby de16_11) rfl (pc' := 12) rfl ?_
  refine o_aloadN P (hb hby de16_12) rfl rfl (pc' := 13) rfl ?_
  refine o_getF P (ow hw 10 rfl) Via.refl (F_p0.fld 0 rfl) (hb hby de16_13) (pc' := 16) rfl ?_
  clear P; intro T P
  refine o_aloadN P (hb hby de16_16) rfl rfl (pc' := 17) rfl ?_
  refine o_getF P (ow hw 22 rfl) Via.refl (F_p0.fld 1 rfl) (hb hby de16_17) (pc' := 20) rfl ?_
  clear P; intro T P
  have hn_2 := P.n0le; have hk_2 := P.keep0.1
  refine o_callI P (W := 2) (a := b1) rfl (ow hw 46 rfl) (ow hw 47 rfl) (ow hw 45 rfl) (ow hw 48 rfl) (by decide) (ct_e89 l Z a0 hw EL n0 b1 p1 x0 x1 x2 x3 x4 x5 x6 x7 x8 x9 x10 x11 x12 x13 x14 x15 x16 had od hod h1 F_b1 A_p1 (Ne.symm ne_p1_b1)) (o_sfS (List.Mem.head _) o_sf0) (by rw [hml]; rfl) (by decide) (by decide) (argsL := [(.ref p1), (.int (17 : Int32))]) (rest := [(.ref b1), (.ref p0)]) (lenOf pd_5 rfl) rfl rfl (Nat.le_of_eq rfl) (hb hby de16_20) (pc' := 23) rfl (by decide) (by decide) ?_
  clear P; intro T h3 v3 P K3 q3
  obtain ⟨n0_2, n1_2, rfl, g_n0_2, g_n1_2, ne_n0_2_n1_2, Q_b1, Q_n0_2, Q_n1_2, -⟩ := q3
  have ne_p0_n0_2 : p0 ≠ n0_2 := Nat.ne_of_lt (Nat.lt_of_lt_of_le F_p0.lt g_n0_2)
  have ne_b1_n0_2 : b1 ≠ n0_2 := Nat.ne_of_lt (Nat.lt_of_lt_of_le F_b1.lt g_n0_2)
  have ne_p1_n0_2 : p1 ≠ n0_2 := Nat.ne_of_lt (Nat.lt_of_lt_of_le A_p1.lt g_n0_2)
  have sz_n0_2 := Nat.le_trans hk_2 g_n0_2
  have ne_p0_n1_2 : p0 ≠ n1_2 := Nat.ne_of_lt (Nat.lt_of_lt_of_le F_p0.lt g_n1_2)
  have ne_b1_n1_2 : b1 ≠ n1_2 := Nat.ne_of_lt (Nat.lt_of_lt_of_le F_b1.lt g_n1_2)
  have ne_p1_n1_2 : p1 ≠ n1_2 := Nat.ne_of_lt (Nat.lt_of_lt_of_le A_p1.lt g_n1_2)
  have sz_n1_2 := Nat.le_trans hk_2 g_n1_2
  replace F_p0 := F_p0.keep K3 (ninS ne_p0_b1 nin0)
  replace A_p1 := A_p1.keep K3 (ninS ne_p1_b1 nin0)
  clear F_b1
  have F_b1 := Q_b1; clear Q_b1
  have F_n0_2 := Q_n0_2; clear Q_n0_2
  have A_n1_2 := Q_n1_2; clear Q_n1_2
  replace P := P.moreO F_n0_2.exa (by decide) (by decide) (Nat.le_trans hn_2 g_n0_2) sz_n0_2
  replace P := P.moreA A_n1_2 (fun q => by cases q) (Nat.le_trans hn_2 g_n1_2) sz_n1_2
  clear K3 hn_2 hk_2
  show OG p e below m _ T 23 #[.val (.ref p0), .val (.int (1 : Int32)), .val (.ref od), .unset] [(.ref b1), (.ref p0)]
  refine o_putF P (v' := (.ref b1)) (ty := (.object "com/example/centile/centile/function/Selection")) (ow hw 24 rfl) Via.refl (F_p0.fld 2 rfl) F_p0.exa (Or.inl (ow hw 25 rfl)) (ow hw 1 rfl) (by decide) rfl rfl (List.Mem.tail _ (List.Mem.tail _ (List.Mem.tail _ (List.Mem.head _)))) (hb hby de16_23) (pc' := 26) rfl ?_
  clear P; intro T h4 P W4
  replace F_b1 := F_b1.oth W4 (Ne.symm ne_p0_b1)
  replace F_n0_2 := F_n0_2.oth W4 (Ne.symm ne_p0_n0_2)
  replace A_p1 := A_p1.oth W4 (Ne.symm ne_p0_p1)
  replace A_n1_2 := A_n1_2.oth W4 (Ne.symm ne_p0_n1_2)
  replace F_p0 : OObj Z h4 p0 "com/example/centile/centile/function/Keys" [("com/example/centile/centile/function/Keys", "keys", "[J", (.ref p1)), ("com/example/centile/centile/function/Keys", "size", "I", (.int (17 : Int32))), ("com/example/centile/centile/function/Keys", "selection", "Lcom/example/centile/centile/function/Selection;", (.ref b1))] := F_p0.put 2 rfl W4
  clear W4
  refine o_aloadN P (hb hby de16_26) rfl rfl (pc' := 27) rfl ?_
  refine o_getS P (ow hw 96 rfl) Via.refl hod (hb hby de16_27) (pc' := 30) rfl ?_
  clear P; intro T P
  refine o_acmp P true (hb hby de16_30) rfl rfl (decide_eq_true rfl) (by decide) (pc' := 33) rfl ?_
  refine o_iloadN P (hb hby de16_33) rfl (pc' := 34) rfl ?_
  refine o_iconst P (1 : Int32) (hb hby de16_34) rfl (pc' := 35) rfl ?_
  refine o_isub P (hb hby de16_35) (pc' := 36) rfl ?_
  show OG p e below m _ T 36 #[.val (.ref p0), .val (.int (1 : Int32)), .val (.ref od), .unset] [(.int (0 : Int32))]
  refine o_goto P (hb hby de16_36) (by decide) (pc' := 45) (by decide) ?_
  refine o_istoreN P (hb hby de16_45) (L' := #[.val (.ref p0), .val (.int (1 : Int32)), .val (.ref od), .val (.int (0 : Int32))]) rfl (pc' := 46) rfl ?_
  refine o_aloadN P (hb hby de16_46) rfl rfl (pc' := 47) rfl ?_
  refine o_getF P (ow hw 24 rfl) Via.refl (F_p0.fld 2 rfl) (hb hby de16_47) (pc' := 50) rfl ?_
  clear P; intro T P
  refine o_iloadN P (hb hby de16_50) rfl (pc' := 51) rfl ?_
  have hn_5 := P.n0le; have hk_5 := P.keep0.1
  refine o_callV P (W := 0) (x := (⟨"com/example/centile/centile/function/Selection", "valueAt", "(I)J"⟩ : MethodName)) (y := (⟨"com/example/centile/centile/function/Selection", "valueAt", "(I)J"⟩ : MethodName)) (a := b1) (ow hw 97 rfl) (ow hw 98 rfl) (o_nfSel (y := (⟨"com/example/centile/centile/function/Selection", "valueAt", "(I)J"⟩ : MethodName)) rfl (ow hw 100 rfl)) (ow hw 100 rfl) (ow hw 99 rfl) (ow hw 45 rfl) (ow hw 101 rfl) (by decide) F_b1.exa (ct_e105 l Z a0 hw EL n0 b1 p1 n0_2 n1_2 x0 x1 x2 x3 x4 x5 x6 x7 x8 x9 x10 x11 x12 x13 x14 x15 x16 had od hod h4 F_b1 A_p1 F_n0_2 A_n1_2 (Ne.symm ne_p1_b1) ne_b1_n0_2 ne_b1_n1_2 ne_p1_n0_2 ne_p1_n1_2 ne_n0_2_n1_2) (o_sfS (List.Mem.tail _ (List.Mem.tail _ (List.Mem.tail _ (List.Mem.tail _ (List.Mem.head _))))) (o_sfS (List.Mem.head _) o_sf0)) (by rw [hml]; rfl) (by decide) (by decide) (argsL := [(.int (0 : Int32))]) (rest := []) (lenOf pd_13 rfl) rfl rfl (Nat.le_of_eq rfl) (hb hby de16_51) (pc' := 54) rfl (by decide) (by decide) ?_
  clear P; intro T h6 v6 P K6 q6
  obtain ⟨rfl, Q_p1, Q_n1_2, -⟩ := q6
  replace F_p0 := F_p0.keep K6 (ninS ne_p0_p1 (ninS ne_p0_n1_2 nin0))
  replace F_b1 := F_b1.keep K6 (ninS (Ne.symm ne_p1_b1) (ninS ne_b1_n1_2 nin0))
  replace F_n0_2 := F_n0_2.keep K6 (ninS (Ne.symm ne_p1_n0_2) (ninS ne_n0_2_n1_2 nin0))
  clear A_p1
  have A_p1 := Q_p1; clear Q_p1
  clear A_n1_2
  have A_n1_2 := Q_n1_2; clear Q_n1_2
  clear K6 hn_5 hk_5
  show OG p e below m _ T 54 #[.val (.ref p0), .val (.int (1 : Int32)), .val (.ref od), .val (.int (0 : Int32))] [(.long (og [x0, x1, x2, x3, x4, x5, x6, x7, x8, x9, x10, x11, x12, x13, x14, x15, x16] 0))]
  exact o_retL P hret (hb hby de16_54) (by decide) (by decide) ⟨b1, n0_2, n1_2, rfl, hsh ▸ sz_b1, hsh ▸ sz_n0_2, hsh ▸ sz_n1_2, ne_b1_n0_2, ne_b1_n1_2, ne_n0_2_n1_2, F_p0, A_p1, F_b1, F_n0_2, A_n1_2, trivial⟩
theorem own_ab {i0 i1 x : Int64} (h : x ∈ [i0, i1, i0, i1, i0, i1, i0, i1, i0, i1, i0, i1, i0, i1, i0, i1]) : x = i0 ∨ x = i1 := by simpa [or_comm, or_assoc, or_left_comm] using h
theorem own_first {i0 i1 y0 y1 y2 y3 y4 y5 y6 y7 y8 y9 y10 y11 y12 y13 y14 y15 : Int64} (hys : osort [i0, i1, i0, i1, i0, i1, i0, i1, i0, i1, i0, i1, i0, i1, i0, i1] = [y0, y1, y2, y3, y4, y5, y6, y7, y8, y9, y10, y11, y12, y13, y14, y15]) : y0 = omin i0 i1 := by
  have o := omin_or i0 i1
  have q := og_zero (l := [i0, i1, i0, i1, i0, i1, i0, i1, i0, i1, i0, i1, i0, i1, i0, i1]) (mm := omin i0 i1) (by rcases o.1 with e | e <;> rw [e] <;> simp) (fun x hx => by rcases own_ab hx with rfl | rfl; exact o.2.1; exact o.2.2)
  unfold og at q; rw [hys] at q; exact q
theorem own_second {i0 i1 i2 y0 y1 y2 y3 y4 y5 y6 y7 y8 y9 y10 y11 y12 y13 y14 y15 : Int64} (hys : osort [i0, i1, i0, i1, i0, i1, i0, i1, i0, i1, i0, i1, i0, i1, i0, i1] = [y0, y1, y2, y3, y4, y5, y6, y7, y8, y9, y10, y11, y12, y13, y14, y15]) : og [y0, y1, y2, y3, y4, y5, y6, y7, y8, y9, y10, y11, y12, y13, y14, y15, i2] 0 = omin (omin i0 i1) i2 := by
  have e1 := own_first hys
  have o := omin_or i0 i1
  have o2 := omin_or (omin i0 i1) i2
  refine og_zero ?_ (fun x hx => ?_)
  · rcases o2.1 with e | e
    · rw [e, ← e1]; simp
    · rw [e]; simp
  · have hx' : x ∈ ([y0, y1, y2, y3, y4, y5, y6, y7, y8, y9, y10, y11, y12, y13, y14, y15] : List Int64) ∨ x = i2 := by
      rw [show [y0, y1, y2, y3, y4, y5, y6, y7, y8, y9, y10, y11, y12, y13, y14, y15, i2] = [y0, y1, y2, y3, y4, y5, y6, y7, y8, y9, y10, y11, y12, y13, y14, y15] ++ [i2] from rfl] at hx
      rcases List.mem_append.mp hx with q | q
      · exact Or.inl q
      · exact Or.inr (List.mem_singleton.mp q)
    rcases hx' with q | rfl
    · rw [← hys] at q
      rcases own_ab (osort_mem q) with rfl | rfl
      · omega
      · omega
    · exact o2.2.2
theorem pn_LW : plainName "com/example/centile/centile/function/KeysAddPinLaw" = true := by first | (simp [plainName, overriddenIn]; done) | decide +kernel
theorem ef_0 (x0 : Int64) (x1 : Int64) (x2 : Int64) (m : MethodId) : entryFrame m #[(.long x0), (.long x1), (.long x2)] maxLocals = mkF m 0 #[.val (.long x0), .second, .val (.long x1), .second, .val (.long x2), .second, .unset, .unset, .unset, .unset, .unset, .unset, .unset, .unset, .unset, .unset] [] := by first | (simp [entryFrame, mkF, argsToLocals, o_catR, o_catN, o_catI, o_catJ, o_catD, maxLocals]; done) | rfl
set_option maxRecDepth 65536 in
set_option maxHeartbeats 40000000 in
theorem law51 {p : Program} {e : Env} {s : State} {m : MethodId} {args : Array Value} {below : List Frame} {meth : Method} {c : Code} {T : State} {n0 : Nat} {h0 : Heap} {Ow : List Addr} (l : Launch) (Z : State) (a0 : Array Value) (hw : ∀ d ∈ tables_1, d.before a0 Z = true) (EL : List (String × Nat)) (hby : c.code = code) (hml : c.maxLocals = maxLocals) (hret : meth.sig.returnType = ret) (i0 i1 i2 : Int64) (y0 y1 y2 y3 y4 y5 y6 y7 y8 y9 y10 y11 y12 y13 y14 y15 : Int64) (hys : osort [i0, i1, i0, i1, i0, i1, i0, i1, i0, i1, i0, i1, i0, i1, i0, i1] = [y0, y1, y2, y3, y4, y5, y6, y7, y8, y9, y10, y11, y12, y13, y14, y15]) (had : Sta Z Z.heap "java/util/BitSet" "$assertionsDisabled" "Z" (.int 1)) (od : Addr) (hod : Sta Z Z.heap "com/example/centile/centile/function/Order" "ASCENDING" "Lcom/example/centile/centile/function/Order;" (.ref od)) (k ka sel : Addr) (F_k : OObj Z h0 k "com/example/centile/centile/function/Keys" [("com/example/centile/centile/function/Keys", "keys", "[J", (.ref ka)), ("com/example/centile/centile/function/Keys", "size", "I", (.int (16 : Int32))), ("com/example/centile/centile/function/Keys", "selection", "Lcom/example/centile/centile/function/Selection;", (.ref sel))]) (A_ka : OArr Z h0 ka .long [(.long y0), (.long y1), (.long y2), (.long y3), (.long y4), (.long y5), (.long y6), (.long y7), (.long y8), (.long y9), (.long y10), (.long y11), (.long y12), (.long y13), (.long y14), (.long y15)]) (ne_k_ka : k ≠ ka) (hk : k ∈ Ow) (hka : ka ∈ Ow) (P : OPn p l e room_1 s m args below meth c Z a0 EL n0 [] "com/example/centile/centile/function/KeysAddPinLaw" T h0 Ow 5 25) :
    OG p e below m (OFq Z EL n0 s [] room_1 (fun w vm h => w = some (.int 1))) T 51 #[.val (.long i0), .second, .val (.long i1), .second, .val (.long i2), .second, .val (.ref k), .unset, .unset, .unset, .unset, .unset, .unset, .unset, .unset, .unset] [(.long y0)] := by
  replace P := P.less (Ow' := [k, ka]) (fun x hx => by rcases List.mem_cons.mp hx with rfl | hx; exact hk; rw [List.mem_singleton.mp hx]; exact hka)
  refine o_lstore P (hb hby at_51) (L' := #[.val (.long i0), .second, .val (.long i1), .second, .val (.long i2), .second, .val (.ref k), .val (.long y0), .second, .unset, .unset, .unset, .unset, .unset, .unset, .unset]) rfl (pc' := 53) rfl ?_
  refine o_aload P (hb hby at_53) rfl rfl (pc' := 55) rfl ?_
  refine o_lload P (hb hby at_55) rfl (pc' := 57) rfl ?_
  have hn_1 := P.n0le; have hk_1 := P.keep0.1
  refine o_callV P (W := 0) (x := (⟨"com/example/centile/centile/function/Keys", "add", "(J)V"⟩ : MethodName)) (y := (⟨"com/example/centile/centile/function/Keys", "add", "(J)V"⟩ : MethodName)) (a := k) (ow hw 12 rfl) (ow hw 13 rfl) (o_nfSel (y := (⟨"com/example/centile/centile/function/Keys", "add", "(J)V"⟩ : MethodName)) rfl (ow hw 15 rfl)) (ow hw 15 rfl) (ow hw 14 rfl) (ow hw 2 rfl) (ow hw 16 rfl) (by decide) F_k.exa (ct_e79 l Z a0 hw EL n0 k ka sel i2 y0 y1 y2 y3 y4 y5 y6 y7 y8 y9 y10 y11 y12 y13 y14 y15 had od hod h0 F_k A_ka ne_k_ka) (o_sfS (List.Mem.head _) o_sf0) (by rw [hml]; rfl) (by decide) (by decide) (argsL := [(.long i2)]) (rest := []) (lenOf pd_2 rfl) rfl rfl (Nat.le_of_eq rfl) (hb hby at_57) (pc' := 60) rfl (by decide) (by decide) ?_
  clear P; intro T h2 v2 P K2 q2
  obtain ⟨n0_1, rfl, g_n0_1, Q_k, Q_n0_1, -⟩ := q2
  have ne_k_n0_1 : k ≠ n0_1 := Nat.ne_of_lt (Nat.lt_of_lt_of_le F_k.lt g_n0_1)
  have ne_ka_n0_1 : ka ≠ n0_1 := Nat.ne_of_lt (Nat.lt_of_lt_of_le A_ka.lt g_n0_1)
  have sz_n0_1 := Nat.le_trans hk_1 g_n0_1
  replace A_ka := A_ka.keep K2 (ninS (Ne.symm ne_k_ka) nin0)
  clear F_k
  have F_k := Q_k; clear Q_k
  have A_n0_1 := Q_n0_1; clear Q_n0_1
  replace P := P.moreA A_n0_1 (fun q => by cases q) (Nat.le_trans hn_1 g_n0_1) sz_n0_1
  clear K2 hn_1 hk_1
  show OG p e below m _ T 60 #[.val (.long i0), .second, .val (.long i1), .second, .val (.long i2), .second, .val (.ref k), .val (.long y0), .second, .unset, .unset, .unset, .unset, .unset, .unset, .unset] []
  refine o_aload P (hb hby at_60) rfl rfl (pc' := 62) rfl ?_
  refine o_callV P (W := 0) (x := (⟨"com/example/centile/centile/function/Keys", "size", "()I"⟩ : MethodName)) (y := (⟨"com/example/centile/centile/function/Keys", "size", "()I"⟩ : MethodName)) (a := k) (ow hw 174 rfl) (ow hw 175 rfl) (o_nfSel (y := (⟨"com/example/centile/centile/function/Keys", "size", "()I"⟩ : MethodName)) rfl (ow hw 177 rfl)) (ow hw 177 rfl) (ow hw 176 rfl) (ow hw 2 rfl) (ow hw 178 rfl) (by decide) F_k.exa (ct_e81 l Z a0 hw EL n0 k n0_1 y0 y1 y2 y3 y4 y5 y6 y7 y8 y9 y10 y11 y12 y13 y14 y15 i2 had od hod h2 F_k A_n0_1 ne_k_n0_1) o_sf0 (by rw [hml]; rfl) (by decide) (by decide) (argsL := []) (rest := []) (lenOf pd_17 rfl) rfl rfl (Nat.le_of_eq rfl) (hb hby at_62) (pc' := 65) rfl (by decide) (by decide) ?_
  clear P; intro T h4 v4 P K4 q4
  obtain ⟨rfl, rfl⟩ := q4; clear K4
  show OG p e below m _ T 65 #[.val (.long i0), .second, .val (.long i1), .second, .val (.long i2), .second, .val (.ref k), .val (.long y0), .second, .unset, .unset, .unset, .unset, .unset, .unset, .unset] [(.int (17 : Int32))]
  refine o_istore P (hb hby at_65) (L' := #[.val (.long i0), .second, .val (.long i1), .second, .val (.long i2), .second, .val (.ref k), .val (.long y0), .second, .val (.int (17 : Int32)), .unset, .unset, .unset, .unset, .unset, .unset]) rfl (pc' := 67) rfl ?_
  refine o_aload P (hb hby at_67) rfl rfl (pc' := 69) rfl ?_
  refine o_bipush P (16 : Int32) (hb hby at_69) rfl (pc' := 71) rfl ?_
  refine o_callV P (W := 0) (x := (⟨"com/example/centile/centile/function/Keys", "get", "(I)J"⟩ : MethodName)) (y := (⟨"com/example/centile/centile/function/Keys", "get", "(I)J"⟩ : MethodName)) (a := k) (ow hw 179 rfl) (ow hw 180 rfl) (o_nfSel (y := (⟨"com/example/centile/centile/function/Keys", "get", "(I)J"⟩ : MethodName)) rfl (ow hw 182 rfl)) (ow hw 182 rfl) (ow hw 181 rfl) (ow hw 2 rfl) (ow hw 183 rfl) (by decide) F_k.exa (ct_e83 l Z a0 hw EL n0 k n0_1 y0 y1 y2 y3 y4 y5 y6 y7 y8 y9 y10 y11 y12 y13 y14 y15 i2 had od hod h4 F_k A_n0_1 ne_k_n0_1) o_sf0 (by rw [hml]; rfl) (by decide) (by decide) (argsL := [(.int (16 : Int32))]) (rest := []) (lenOf pd_13 rfl) rfl rfl (Nat.le_of_eq rfl) (hb hby at_71) (pc' := 74) rfl (by decide) (by decide) ?_
  clear P; intro T h6 v6 P K6 q6
  obtain ⟨rfl, rfl⟩ := q6; clear K6
  show OG p e below m _ T 74 #[.val (.long i0), .second, .val (.long i1), .second, .val (.long i2), .second, .val (.ref k), .val (.long y0), .second, .val (.int (17 : Int32)), .unset, .unset, .unset, .unset, .unset, .unset] [(.long i2)]
  refine o_lstore P (hb hby at_74) (L' := #[.val (.long i0), .second, .val (.long i1), .second, .val (.long i2), .second, .val (.ref k), .val (.long y0), .second, .val (.int (17 : Int32)), .val (.long i2), .second, .unset, .unset, .unset, .unset]) rfl (pc' := 76) rfl ?_
  refine o_aload P (hb hby at_76) rfl rfl (pc' := 78) rfl ?_
  refine o_iconst P (1 : Int32) (hb hby at_78) rfl (pc' := 79) rfl ?_
  refine o_getS P (ow hw 35 rfl) Via.refl hod (hb hby at_79) (pc' := 82) rfl ?_
  clear P; intro T P
  have hn_7 := P.n0le; have hk_7 := P.keep0.1
  refine o_callV P (W := 0) (x := (⟨"com/example/centile/centile/function/Keys", "at", "(ILcom/example/centile/centile/function/Order;)J"⟩ : MethodName)) (y := (⟨"com/example/centile/centile/function/Keys", "at", "(ILcom/example/centile/centile/function/Order;)J"⟩ : MethodName)) (a := k) (ow hw 38 rfl) (ow hw 39 rfl) (o_nfSel (y := (⟨"com/example/centile/centile/function/Keys", "at", "(ILcom/example/centile/centile/function/Order;)J"⟩ : MethodName)) rfl (ow hw 41 rfl)) (ow hw 41 rfl) (ow hw 40 rfl) (ow hw 2 rfl) (ow hw 42 rfl) (by decide) F_k.exa (ct_e106 l Z a0 hw EL n0 k n0_1 y0 y1 y2 y3 y4 y5 y6 y7 y8 y9 y10 y11 y12 y13 y14 y15 i2 had od hod h6 F_k A_n0_1 ne_k_n0_1) (o_sfS (List.Mem.tail _ (List.Mem.head _)) (o_sfS (List.Mem.head _) o_sf0)) (by rw [hml]; rfl) (by decide) (by decide) (argsL := [(.int (1 : Int32)), (.ref od)]) (rest := []) (lenOf pd_14 rfl) rfl rfl (Nat.le_of_eq rfl) (hb hby at_82) (pc' := 85) rfl (by decide) (by decide) ?_
  clear P; intro T h8 v8 P K8 q8
  obtain ⟨n0_7, n1_7, n2_7, rfl, g_n0_7, g_n1_7, g_n2_7, ne_n0_7_n1_7, ne_n0_7_n2_7, ne_n1_7_n2_7, Q_k, Q_n0_1, Q_n0_7, Q_n1_7, Q_n2_7, -⟩ := q8
  have ne_k_n0_7 : k ≠ n0_7 := Nat.ne_of_lt (Nat.lt_of_lt_of_le F_k.lt g_n0_7)
  have ne_ka_n0_7 : ka ≠ n0_7 := Nat.ne_of_lt (Nat.lt_of_lt_of_le A_ka.lt g_n0_7)
  have ne_n0_1_n0_7 : n0_1 ≠ n0_7 := Nat.ne_of_lt (Nat.lt_of_lt_of_le A_n0_1.lt g_n0_7)
  have sz_n0_7 := Nat.le_trans hk_7 g_n0_7
  have ne_k_n1_7 : k ≠ n1_7 := Nat.ne_of_lt (Nat.lt_of_lt_of_le F_k.lt g_n1_7)
  have ne_ka_n1_7 : ka ≠ n1_7 := Nat.ne_of_lt (Nat.lt_of_lt_of_le A_ka.lt g_n1_7)
  have ne_n0_1_n1_7 : n0_1 ≠ n1_7 := Nat.ne_of_lt (Nat.lt_of_lt_of_le A_n0_1.lt g_n1_7)
  have sz_n1_7 := Nat.le_trans hk_7 g_n1_7
  have ne_k_n2_7 : k ≠ n2_7 := Nat.ne_of_lt (Nat.lt_of_lt_of_le F_k.lt g_n2_7)
  have ne_ka_n2_7 : ka ≠ n2_7 := Nat.ne_of_lt (Nat.lt_of_lt_of_le A_ka.lt g_n2_7)
  have ne_n0_1_n2_7 : n0_1 ≠ n2_7 := Nat.ne_of_lt (Nat.lt_of_lt_of_le A_n0_1.lt g_n2_7)
  have sz_n2_7 := Nat.le_trans hk_7 g_n2_7
  replace A_ka := A_ka.keep K8 (ninS (Ne.symm ne_k_ka) (ninS ne_ka_n0_1 nin0))
  clear F_k
  have F_k := Q_k; clear Q_k
  clear A_n0_1
  have A_n0_1 := Q_n0_1; clear Q_n0_1
  have F_n0_7 := Q_n0_7; clear Q_n0_7
  have F_n1_7 := Q_n1_7; clear Q_n1_7
  have A_n2_7 := Q_n2_7; clear Q_n2_7
  replace P := P.moreO F_n0_7.exa (by decide) (by decide) (Nat.le_trans hn_7 g_n0_7) sz_n0_7
  replace P := P.moreO F_n1_7.exa (by decide) (by decide) (Nat.le_trans hn_7 g_n1_7) sz_n1_7
  replace P := P.moreA A_n2_7 (fun q => by cases q) (Nat.le_trans hn_7 g_n2_7) sz_n2_7
  clear K8 hn_7 hk_7
  show OG p e below m _ T 85 #[.val (.long i0), .second, .val (.long i1), .second, .val (.long i2), .second, .val (.ref k), .val (.long y0), .second, .val (.int (17 : Int32)), .val (.long i2), .second, .unset, .unset, .unset, .unset] [(.long (og [y0, y1, y2, y3, y4, y5, y6, y7, y8, y9, y10, y11, y12, y13, y14, y15, i2] 0))]
  refine o_lstore P (hb hby at_85) (L' := #[.val (.long i0), .second, .val (.long i1), .second, .val (.long i2), .second, .val (.ref k), .val (.long y0), .second, .val (.int (17 : Int32)), .val (.long i2), .second, .val (.long (og [y0, y1, y2, y3, y4, y5, y6, y7, y8, y9, y10, y11, y12, y13, y14, y15, i2] 0)), .second, .unset, .unset]) rfl (pc' := 87) rfl ?_
  refine o_lloadN P (hb hby at_87) rfl (pc' := 88) rfl ?_
  refine o_lloadN P (hb hby at_88) rfl (pc' := 89) rfl ?_
  refine o_callS P (W := 0) (ow hw 184 rfl) (ow hw 185 rfl) (ow hw 165 rfl) (ow hw 186 rfl) (by decide) (ct_minJ l Z a0 hw EL n0 i0 i1 h8) o_sf0 (by rw [hml]; rfl) (by decide) (by decide) (argsL := [(.long i0), (.long i1)]) (rest := []) (lenOf pd_18 rfl) rfl rfl (Nat.le_of_eq rfl) (hb hby at_89) (pc' := 92) rfl (by decide) (by decide) ?_
  clear P; intro T h9 v9 P K9 q9
  obtain ⟨rfl, rfl⟩ := q9; clear K9
  show OG p e below m _ T 92 #[.val (.long i0), .second, .val (.long i1), .second, .val (.long i2), .second, .val (.ref k), .val (.long y0), .second, .val (.int (17 : Int32)), .val (.long i2), .second, .val (.long (og [y0, y1, y2, y3, y4, y5, y6, y7, y8, y9, y10, y11, y12, y13, y14, y15, i2] 0)), .second, .unset, .unset] [(.long (omin i0 i1))]
  refine o_lstore P (hb hby at_92) (L' := #[.val (.long i0), .second, .val (.long i1), .second, .val (.long i2), .second, .val (.ref k), .val (.long y0), .second, .val (.int (17 : Int32)), .val (.long i2), .second, .val (.long (og [y0, y1, y2, y3, y4, y5, y6, y7, y8, y9, y10, y11, y12, y13, y14, y15, i2] 0)), .second, .val (.long (omin i0 i1)), .second]) rfl (pc' := 94) rfl ?_
  refine o_lload P (hb hby at_94) rfl (pc' := 96) rfl ?_
  refine o_lload P (hb hby at_96) rfl (pc' := 98) rfl ?_
  refine o_lcmp P (hb hby at_98) (pc' := 99) rfl ?_
  have e1 := own_first hys
  refine o_if_ne P (hb hby at_99) (by decide) (pc' := 134) (by decide) (pcf := 102) rfl (fun q => absurd ((lw_eq _ _).mpr e1) q) (fun _ => ?_)
  refine o_iload P (hb hby at_102) rfl (pc' := 104) rfl ?_
  refine o_bipush P (17 : Int32) (hb hby at_104) rfl (pc' := 106) rfl ?_
  refine o_icmp_ne P (hb hby at_106) (by decide) (pc' := 134) (by decide) (pcf := 109) rfl (fun q => absurd (by decide) q) (fun _ => ?_)
  refine o_lload P (hb hby at_109) rfl (pc' := 111) rfl ?_
  refine o_lload P (hb hby at_111) rfl (pc' := 113) rfl ?_
  refine o_lcmp P (hb hby at_113) (pc' := 114) rfl ?_
  refine o_if_ne P (hb hby at_114) (by decide) (pc' := 134) (by decide) (pcf := 117) rfl (fun q => absurd ((lw_eq _ _).mpr rfl) q) (fun _ => ?_)
  refine o_lload P (hb hby at_117) rfl (pc' := 119) rfl ?_
  refine o_lload P (hb hby at_119) rfl (pc' := 121) rfl ?_
  refine o_lload P (hb hby at_121) rfl (pc' := 123) rfl ?_
  refine o_callS P (W := 2) (ow hw 184 rfl) (ow hw 185 rfl) (ow hw 165 rfl) (ow hw 186 rfl) (by decide) (ct_minJ l Z a0 hw EL n0 ((omin i0 i1)) i2 h9) o_sf0 (by rw [hml]; rfl) (by decide) (by decide) (argsL := [(.long (omin i0 i1)), (.long i2)]) (rest := [(.long (og [y0, y1, y2, y3, y4, y5, y6, y7, y8, y9, y10, y11, y12, y13, y14, y15, i2] 0))]) (lenOf pd_18 rfl) rfl rfl (Nat.le_of_eq rfl) (hb hby at_123) (pc' := 126) rfl (by decide) (by decide) ?_
  clear P; intro T h10 v10 P K10 q10
  obtain ⟨rfl, rfl⟩ := q10; clear K10
  show OG p e below m _ T 126 #[.val (.long i0), .second, .val (.long i1), .second, .val (.long i2), .second, .val (.ref k), .val (.long y0), .second, .val (.int (17 : Int32)), .val (.long i2), .second, .val (.long (og [y0, y1, y2, y3, y4, y5, y6, y7, y8, y9, y10, y11, y12, y13, y14, y15, i2] 0)), .second, .val (.long (omin i0 i1)), .second] [(.long (omin ((omin i0 i1)) i2)), (.long (og [y0, y1, y2, y3, y4, y5, y6, y7, y8, y9, y10, y11, y12, y13, y14, y15, i2] 0))]
  refine o_lcmp P (hb hby at_126) (pc' := 127) rfl ?_
  refine o_if_ne P (hb hby at_127) (by decide) (pc' := 134) (by decide) (pcf := 130) rfl (fun q => absurd ((lw_eq _ _).mpr (own_second hys)) q) (fun _ => ?_)
  refine o_iconst P (1 : Int32) (hb hby at_130) rfl (pc' := 131) rfl ?_
  refine o_goto P (hb hby at_131) (by decide) (pc' := 135) (by decide) ?_
  exact o_retI P hret (by simp) rfl (hb hby at_135) (by decide) (by decide) rfl
set_option maxRecDepth 65536 in
set_option maxHeartbeats 40000000 in
theorem rm0 (l : Launch) (Z : State) (a0 : Array Value) (hw : ∀ d ∈ tables_1, d.before a0 Z = true) (EL : List (String × Nat)) (n0 : Nat) (i0 i1 i2 : Int64) (had : Sta Z Z.heap "java/util/BitSet" "$assertionsDisabled" "Z" (.int 1)) (od : Addr) (hod : Sta Z Z.heap "com/example/centile/centile/function/Order" "ASCENDING" "Lcom/example/centile/centile/function/Order;" (.ref od)) (h0 : Heap) :
    OCt l Z a0 EL n0 x code maxLocals ret room_1 tables_1 #[(.long i0), (.long i1), (.long i2)] h0 [] (fun w vm h => w = some (.int 1)) := by
  refine OCt.body (plainFor_of_name pn_LW) (ef_0 i0 i1 i2) ?_
  intro p e s m below meth c T hby hml hret hnm hsh P
  have hz_b1 := P.keep0.1
  refine o_new P [("com/example/centile/centile/function/Keys", "keys", "[J", .null), ("com/example/centile/centile/function/Keys", "size", "I", (.int (0 : Int32))), ("com/example/centile/centile/function/Keys", "selection", "Lcom/example/centile/centile/function/Selection;", .null)] (ow hw 0 rfl) (ow hw 1 rfl) (ow hw 2 rfl) (OLd.cons (Or.inl (ow hw 11 rfl)) (ty := (.array .long)) (by decide) rfl (OLd.cons (Or.inl (ow hw 23 rfl)) (ty := .int) (by decide) rfl (OLd.cons (Or.inl (ow hw 25 rfl)) (ty := (.object "com/example/centile/centile/function/Selection")) (by decide) rfl OLd.nil))) (by decide +kernel) (hb hby at_0) (pc' := 3) rfl (by decide) (by decide) ?_
  clear P; intro T h1 b1 P K1 hb_b1 F_b1
  have sz_b1 := Nat.le_trans hz_b1 hb_b1
  clear hz_b1
  clear K1
  refine o_dup P (hb hby at_3) rfl (pc' := 4) rfl ?_
  have hn_2 := P.n0le; have hk_2 := P.keep0.1
  refine o_callI P (W := 1) (a := b1) rfl (ow hw 3 rfl) (ow hw 4 rfl) (ow hw 2 rfl) (ow hw 5 rfl) (by decide) (ct_e2 l Z a0 hw EL n0 b1  had od hod h1 F_b1 ) (o_sfS (List.Mem.head _) o_sf0) (by rw [hml]; rfl) (by decide) (by decide) (argsL := []) (rest := [(.ref b1)]) (lenOf pd_0 rfl) rfl rfl (Nat.le_of_eq rfl) (hb hby at_4) (pc' := 7) rfl (by decide) (by decide) ?_
  clear P; intro T h3 v3 P K3 q3
  obtain ⟨n0_2, rfl, g_n0_2, Q_b1, Q_n0_2, -⟩ := q3
  have ne_b1_n0_2 : b1 ≠ n0_2 := Nat.ne_of_lt (Nat.lt_of_lt_of_le F_b1.lt g_n0_2)
  have sz_n0_2 := Nat.le_trans hk_2 g_n0_2
  clear F_b1
  have F_b1 := Q_b1; clear Q_b1
  have A_n0_2 := Q_n0_2; clear Q_n0_2
  replace P := P.moreA A_n0_2 (fun q => by cases q) (Nat.le_trans hn_2 g_n0_2) sz_n0_2
  clear K3 hn_2 hk_2
  show OG p e below m _ T 7 #[.val (.long i0), .second, .val (.long i1), .second, .val (.long i2), .second, .unset, .unset, .unset, .unset, .unset, .unset, .unset, .unset, .unset, .unset] [(.ref b1)]
  refine o_astore P (hb hby at_7) rfl (L' := #[.val (.long i0), .second, .val (.long i1), .second, .val (.long i2), .second, .val (.ref b1), .unset, .unset, .unset, .unset, .unset, .unset, .unset, .unset, .unset]) rfl (pc' := 9) rfl ?_
  refine o_aload P (hb hby at_9) rfl rfl (pc' := 11) rfl ?_
  refine o_lloadN P (hb hby at_11) rfl (pc' := 12) rfl ?_
  have hn_4 := P.n0le; have hk_4 := P.keep0.1
  refine o_callV P (W := 0) (x := (⟨"com/example/centile/centile/function/Keys", "add", "(J)V"⟩ : MethodName)) (y := (⟨"com/example/centile/centile/function/Keys", "add", "(J)V"⟩ : MethodName)) (a := b1) (ow hw 12 rfl) (ow hw 13 rfl) (o_nfSel (y := (⟨"com/example/centile/centile/function/Keys", "add", "(J)V"⟩ : MethodName)) rfl (ow hw 15 rfl)) (ow hw 15 rfl) (ow hw 14 rfl) (ow hw 2 rfl) (ow hw 16 rfl) (by decide) F_b1.exa (ct_e6 l Z a0 hw EL n0 b1 n0_2 i0 had od hod h3 F_b1 A_n0_2 ne_b1_n0_2) (o_sfS (List.Mem.tail _ (List.Mem.head _)) (o_sfS (List.Mem.head _) o_sf0)) (by rw [hml]; rfl) (by decide) (by decide) (argsL := [(.long i0)]) (rest := []) (lenOf pd_2 rfl) rfl rfl (Nat.le_of_eq rfl) (hb hby at_12) (pc' := 15) rfl (by decide) (by decide) ?_
  clear P; intro T h5 v5 P K5 q5
  obtain ⟨rfl, Q_b1, Q_n0_2, -⟩ := q5
  clear F_b1
  have F_b1 := Q_b1; clear Q_b1
  clear A_n0_2
  have A_n0_2 := Q_n0_2; clear Q_n0_2
  clear K5 hn_4 hk_4
  show OG p e below m _ T 15 #[.val (.long i0), .second, .val (.long i1), .second, .val (.long i2), .second, .val (.ref b1), .unset, .unset, .unset, .unset, .unset, .unset, .unset, .unset, .unset] []
  refine o_aload P (hb hby at_15) rfl rfl (pc' := 17) rfl ?_
  refine o_lloadN P (hb hby at_17) rfl (pc' := 18) rfl ?_
  have hn_6 := P.n0le; have hk_6 := P.keep0.1
  refine o_callV P (W := 0) (x := (⟨"com/example/centile/centile/function/Keys", "add", "(J)V"⟩ : MethodName)) (y := (⟨"com/example/centile/centile/function/Keys", "add", "(J)V"⟩ : MethodName)) (a := b1) (ow hw 12 rfl) (ow hw 13 rfl) (o_nfSel (y := (⟨"com/example/centile/centile/function/Keys", "add", "(J)V"⟩ : MethodName)) rfl (ow hw 15 rfl)) (ow hw 15 rfl) (ow hw 14 rfl) (ow hw 2 rfl) (ow hw 16 rfl) (by decide) F_b1.exa (ct_e8 l Z a0 hw EL n0 b1 n0_2 i1 i0 had od hod h5 F_b1 A_n0_2 ne_b1_n0_2) (o_sfS (List.Mem.tail _ (List.Mem.head _)) (o_sfS (List.Mem.head _) o_sf0)) (by rw [hml]; rfl) (by decide) (by decide) (argsL := [(.long i1)]) (rest := []) (lenOf pd_2 rfl) rfl rfl (Nat.le_of_eq rfl) (hb hby at_18) (pc' := 21) rfl (by decide) (by decide) ?_
  clear P; intro T h7 v7 P K7 q7
  obtain ⟨rfl, Q_b1, Q_n0_2, -⟩ := q7
  clear F_b1
  have F_b1 := Q_b1; clear Q_b1
  clear A_n0_2
  have A_n0_2 := Q_n0_2; clear Q_n0_2
  clear K7 hn_6 hk_6
  show OG p e below m _ T 21 #[.val (.long i0), .second, .val (.long i1), .second, .val (.long i2), .second, .val (.ref b1), .unset, .unset, .unset, .unset, .unset, .unset, .unset, .unset, .unset] []
  refine o_aload P (hb hby at_21) rfl rfl (pc' := 23) rfl ?_
  refine o_aload P (hb hby at_23) rfl rfl (pc' := 25) rfl ?_
  have hn_8 := P.n0le; have hk_8 := P.keep0.1
  refine o_callV P (W := 0) (x := (⟨"com/example/centile/centile/function/Keys", "addAll", "(Lcom/example/centile/centile/function/Keys;)V"⟩ : MethodName)) (y := (⟨"com/example/centile/centile/function/Keys", "addAll", "(Lcom/example/centile/centile/function/Keys;)V"⟩ : MethodName)) (a := b1) (ow hw 26 rfl) (ow hw 27 rfl) (o_nfSel (y := (⟨"com/example/centile/centile/function/Keys", "addAll", "(Lcom/example/centile/centile/function/Keys;)V"⟩ : MethodName)) rfl (ow hw 29 rfl)) (ow hw 29 rfl) (ow hw 28 rfl) (ow hw 2 rfl) (ow hw 30 rfl) (by decide) F_b1.exa (ct_e11 l Z a0 hw EL n0 b1 n0_2 i0 i1 had od hod h7 F_b1 A_n0_2 ne_b1_n0_2) (o_sfS (List.Mem.tail _ (List.Mem.head _)) (o_sfS (List.Mem.head _) o_sf0)) (by rw [hml]; rfl) (by decide) (by decide) (argsL := [(.ref b1)]) (rest := []) (lenOf pd_3 rfl) rfl rfl (Nat.le_of_eq rfl) (hb hby at_25) (pc' := 28) rfl (by decide) (by decide) ?_
  clear P; intro T h9 v9 P K9 q9
  obtain ⟨rfl, Q_b1, Q_n0_2, -⟩ := q9
  clear F_b1
  have F_b1 := Q_b1; clear Q_b1
  clear A_n0_2
  have A_n0_2 := Q_n0_2; clear Q_n0_2
  clear K9 hn_8 hk_8
  show OG p e below m _ T 28 #[.val (.long i0), .second, .val (.long i1), .second, .val (.long i2), .second, .val (.ref b1), .unset, .unset, .unset, .unset, .unset, .unset, .unset, .unset, .unset] []
  refine o_aload P (hb hby at_28) rfl rfl (pc' := 30) rfl ?_
  refine o_aload P (hb hby at_30) rfl rfl (pc' := 32) rfl ?_
  have hn_10 := P.n0le; have hk_10 := P.keep0.1
  refine o_callV P (W := 0) (x := (⟨"com/example/centile/centile/function/Keys", "addAll", "(Lcom/example/centile/centile/function/Keys;)V"⟩ : MethodName)) (y := (⟨"com/example/centile/centile/function/Keys", "addAll", "(Lcom/example/centile/centile/function/Keys;)V"⟩ : MethodName)) (a := b1) (ow hw 26 rfl) (ow hw 27 rfl) (o_nfSel (y := (⟨"com/example/centile/centile/function/Keys", "addAll", "(Lcom/example/centile/centile/function/Keys;)V"⟩ : MethodName)) rfl (ow hw 29 rfl)) (ow hw 29 rfl) (ow hw 28 rfl) (ow hw 2 rfl) (ow hw 30 rfl) (by decide) F_b1.exa (ct_e13 l Z a0 hw EL n0 b1 n0_2 i0 i1 had od hod h9 F_b1 A_n0_2 ne_b1_n0_2) (o_sfS (List.Mem.tail _ (List.Mem.head _)) (o_sfS (List.Mem.head _) o_sf0)) (by rw [hml]; rfl) (by decide) (by decide) (argsL := [(.ref b1)]) (rest := []) (lenOf pd_3 rfl) rfl rfl (Nat.le_of_eq rfl) (hb hby at_32) (pc' := 35) rfl (by decide) (by decide) ?_
  clear P; intro T h11 v11 P K11 q11
  obtain ⟨rfl, Q_b1, Q_n0_2, -⟩ := q11
  clear F_b1
  have F_b1 := Q_b1; clear Q_b1
  clear A_n0_2
  have A_n0_2 := Q_n0_2; clear Q_n0_2
  clear K11 hn_10 hk_10
  show OG p e below m _ T 35 #[.val (.long i0), .second, .val (.long i1), .second, .val (.long i2), .second, .val (.ref b1), .unset, .unset, .unset, .unset, .unset, .unset, .unset, .unset, .unset] []
  refine o_aload P (hb hby at_35) rfl rfl (pc' := 37) rfl ?_
  refine o_aload P (hb hby at_37) rfl rfl (pc' := 39) rfl ?_
  have hn_12 := P.n0le; have hk_12 := P.keep0.1
  refine o_callV P (W := 0) (x := (⟨"com/example/centile/centile/function/Keys", "addAll", "(Lcom/example/centile/centile/function/Keys;)V"⟩ : MethodName)) (y := (⟨"com/example/centile/centile/function/Keys", "addAll", "(Lcom/example/centile/centile/function/Keys;)V"⟩ : MethodName)) (a := b1) (ow hw 26 rfl) (ow hw 27 rfl) (o_nfSel (y := (⟨"com/example/centile/centile/function/Keys", "addAll", "(Lcom/example/centile/centile/function/Keys;)V"⟩ : MethodName)) rfl (ow hw 29 rfl)) (ow hw 29 rfl) (ow hw 28 rfl) (ow hw 2 rfl) (ow hw 30 rfl) (by decide) F_b1.exa (ct_e15 l Z a0 hw EL n0 b1 n0_2 i0 i1 had od hod h11 F_b1 A_n0_2 ne_b1_n0_2) (o_sfS (List.Mem.tail _ (List.Mem.head _)) (o_sfS (List.Mem.head _) o_sf0)) (by rw [hml]; rfl) (by decide) (by decide) (argsL := [(.ref b1)]) (rest := []) (lenOf pd_3 rfl) rfl rfl (Nat.le_of_eq rfl) (hb hby at_39) (pc' := 42) rfl (by decide) (by decide) ?_
  clear P; intro T h13 v13 P K13 q13
  obtain ⟨rfl, Q_b1, Q_n0_2, -⟩ := q13
  clear F_b1
  have F_b1 := Q_b1; clear Q_b1
  clear A_n0_2
  have A_n0_2 := Q_n0_2; clear Q_n0_2
  clear K13 hn_12 hk_12
  show OG p e below m _ T 42 #[.val (.long i0), .second, .val (.long i1), .second, .val (.long i2), .second, .val (.ref b1), .unset, .unset, .unset, .unset, .unset, .unset, .unset, .unset, .unset] []
  refine o_aload P (hb hby at_42) rfl rfl (pc' := 44) rfl ?_
  refine o_iconst P (1 : Int32) (hb hby at_44) rfl (pc' := 45) rfl ?_
  refine o_getS P (ow hw 35 rfl) Via.refl hod (hb hby at_45) (pc' := 48) rfl ?_
  clear P; intro T P
  have hn_14 := P.n0le; have hk_14 := P.keep0.1
  refine o_callV P (W := 0) (x := (⟨"com/example/centile/centile/function/Keys", "at", "(ILcom/example/centile/centile/function/Order;)J"⟩ : MethodName)) (y := (⟨"com/example/centile/centile/function/Keys", "at", "(ILcom/example/centile/centile/function/Order;)J"⟩ : MethodName)) (a := b1) (ow hw 38 rfl) (ow hw 39 rfl) (o_nfSel (y := (⟨"com/example/centile/centile/function/Keys", "at", "(ILcom/example/centile/centile/function/Order;)J"⟩ : MethodName)) rfl (ow hw 41 rfl)) (ow hw 41 rfl) (ow hw 40 rfl) (ow hw 2 rfl) (ow hw 42 rfl) (by decide) F_b1.exa (ct_e71 l Z a0 hw EL n0 b1 n0_2 i0 i1 had od hod h13 F_b1 A_n0_2 ne_b1_n0_2) (o_sfS (List.Mem.tail _ (List.Mem.head _)) (o_sfS (List.Mem.head _) o_sf0)) (by rw [hml]; rfl) (by decide) (by decide) (argsL := [(.int (1 : Int32)), (.ref od)]) (rest := []) (lenOf pd_14 rfl) rfl rfl (Nat.le_of_eq rfl) (hb hby at_48) (pc' := 51) rfl (by decide) (by decide) ?_
  clear P; intro T h15 v15 P K15 q15
  obtain ⟨n0_14, n1_14, n2_14, rfl, g_n0_14, g_n1_14, g_n2_14, ne_n0_14_n1_14, ne_n0_14_n2_14, ne_n1_14_n2_14, Q_b1, Q_n0_2, Q_n0_14, Q_n1_14, Q_n2_14, -⟩ := q15
  have ne_b1_n0_14 : b1 ≠ n0_14 := Nat.ne_of_lt (Nat.lt_of_lt_of_le F_b1.lt g_n0_14)
  have ne_n0_2_n0_14 : n0_2 ≠ n0_14 := Nat.ne_of_lt (Nat.lt_of_lt_of_le A_n0_2.lt g_n0_14)
  have sz_n0_14 := Nat.le_trans hk_14 g_n0_14
  have ne_b1_n1_14 : b1 ≠ n1_14 := Nat.ne_of_lt (Nat.lt_of_lt_of_le F_b1.lt g_n1_14)
  have ne_n0_2_n1_14 : n0_2 ≠ n1_14 := Nat.ne_of_lt (Nat.lt_of_lt_of_le A_n0_2.lt g_n1_14)
  have sz_n1_14 := Nat.le_trans hk_14 g_n1_14
  have ne_b1_n2_14 : b1 ≠ n2_14 := Nat.ne_of_lt (Nat.lt_of_lt_of_le F_b1.lt g_n2_14)
  have ne_n0_2_n2_14 : n0_2 ≠ n2_14 := Nat.ne_of_lt (Nat.lt_of_lt_of_le A_n0_2.lt g_n2_14)
  have sz_n2_14 := Nat.le_trans hk_14 g_n2_14
  clear F_b1
  have F_b1 := Q_b1; clear Q_b1
  clear A_n0_2
  have A_n0_2 := Q_n0_2; clear Q_n0_2
  have F_n0_14 := Q_n0_14; clear Q_n0_14
  have F_n1_14 := Q_n1_14; clear Q_n1_14
  have A_n2_14 := Q_n2_14; clear Q_n2_14
  replace P := P.moreO F_n0_14.exa (by decide) (by decide) (Nat.le_trans hn_14 g_n0_14) sz_n0_14
  replace P := P.moreO F_n1_14.exa (by decide) (by decide) (Nat.le_trans hn_14 g_n1_14) sz_n1_14
  replace P := P.moreA A_n2_14 (fun q => by cases q) (Nat.le_trans hn_14 g_n2_14) sz_n2_14
  clear K15 hn_14 hk_14
  show OG p e below m _ T 51 #[.val (.long i0), .second, .val (.long i1), .second, .val (.long i2), .second, .val (.ref b1), .unset, .unset, .unset, .unset, .unset, .unset, .unset, .unset, .unset] [(.long (og [i0, i1, i0, i1, i0, i1, i0, i1, i0, i1, i0, i1, i0, i1, i0, i1] 0))]
  have hys : osort [i0, i1, i0, i1, i0, i1, i0, i1, i0, i1, i0, i1, i0, i1, i0, i1] = [og [i0, i1, i0, i1, i0, i1, i0, i1, i0, i1, i0, i1, i0, i1, i0, i1] 0, og [i0, i1, i0, i1, i0, i1, i0, i1, i0, i1, i0, i1, i0, i1, i0, i1] 1, og [i0, i1, i0, i1, i0, i1, i0, i1, i0, i1, i0, i1, i0, i1, i0, i1] 2, og [i0, i1, i0, i1, i0, i1, i0, i1, i0, i1, i0, i1, i0, i1, i0, i1] 3, og [i0, i1, i0, i1, i0, i1, i0, i1, i0, i1, i0, i1, i0, i1, i0, i1] 4, og [i0, i1, i0, i1, i0, i1, i0, i1, i0, i1, i0, i1, i0, i1, i0, i1] 5, og [i0, i1, i0, i1, i0, i1, i0, i1, i0, i1, i0, i1, i0, i1, i0, i1] 6, og [i0, i1, i0, i1, i0, i1, i0, i1, i0, i1, i0, i1, i0, i1, i0, i1] 7, og [i0, i1, i0, i1, i0, i1, i0, i1, i0, i1, i0, i1, i0, i1, i0, i1] 8, og [i0, i1, i0, i1, i0, i1, i0, i1, i0, i1, i0, i1, i0, i1, i0, i1] 9, og [i0, i1, i0, i1, i0, i1, i0, i1, i0, i1, i0, i1, i0, i1, i0, i1] 10, og [i0, i1, i0, i1, i0, i1, i0, i1, i0, i1, i0, i1, i0, i1, i0, i1] 11, og [i0, i1, i0, i1, i0, i1, i0, i1, i0, i1, i0, i1, i0, i1, i0, i1] 12, og [i0, i1, i0, i1, i0, i1, i0, i1, i0, i1, i0, i1, i0, i1, i0, i1] 13, og [i0, i1, i0, i1, i0, i1, i0, i1, i0, i1, i0, i1, i0, i1, i0, i1] 14, og [i0, i1, i0, i1, i0, i1, i0, i1, i0, i1, i0, i1, i0, i1, i0, i1] 15] := own_lst16 (osort_len [i0, i1, i0, i1, i0, i1, i0, i1, i0, i1, i0, i1, i0, i1, i0, i1])
  exact law51 l Z a0 hw EL hby hml hret i0 i1 i2 (og [i0, i1, i0, i1, i0, i1, i0, i1, i0, i1, i0, i1, i0, i1, i0, i1] 0) (og [i0, i1, i0, i1, i0, i1, i0, i1, i0, i1, i0, i1, i0, i1, i0, i1] 1) (og [i0, i1, i0, i1, i0, i1, i0, i1, i0, i1, i0, i1, i0, i1, i0, i1] 2) (og [i0, i1, i0, i1, i0, i1, i0, i1, i0, i1, i0, i1, i0, i1, i0, i1] 3) (og [i0, i1, i0, i1, i0, i1, i0, i1, i0, i1, i0, i1, i0, i1, i0, i1] 4) (og [i0, i1, i0, i1, i0, i1, i0, i1, i0, i1, i0, i1, i0, i1, i0, i1] 5) (og [i0, i1, i0, i1, i0, i1, i0, i1, i0, i1, i0, i1, i0, i1, i0, i1] 6) (og [i0, i1, i0, i1, i0, i1, i0, i1, i0, i1, i0, i1, i0, i1, i0, i1] 7) (og [i0, i1, i0, i1, i0, i1, i0, i1, i0, i1, i0, i1, i0, i1, i0, i1] 8) (og [i0, i1, i0, i1, i0, i1, i0, i1, i0, i1, i0, i1, i0, i1, i0, i1] 9) (og [i0, i1, i0, i1, i0, i1, i0, i1, i0, i1, i0, i1, i0, i1, i0, i1] 10) (og [i0, i1, i0, i1, i0, i1, i0, i1, i0, i1, i0, i1, i0, i1, i0, i1] 11) (og [i0, i1, i0, i1, i0, i1, i0, i1, i0, i1, i0, i1, i0, i1, i0, i1] 12) (og [i0, i1, i0, i1, i0, i1, i0, i1, i0, i1, i0, i1, i0, i1, i0, i1] 13) (og [i0, i1, i0, i1, i0, i1, i0, i1, i0, i1, i0, i1, i0, i1, i0, i1] 14) (og [i0, i1, i0, i1, i0, i1, i0, i1, i0, i1, i0, i1, i0, i1, i0, i1] 15) hys had od hod b1 n0_2 n0_14 F_b1 A_n0_2 ne_b1_n0_2 (List.Mem.tail _ (List.Mem.tail _ (List.Mem.tail _ (List.Mem.tail _ (List.Mem.head _))))) (List.Mem.tail _ (List.Mem.tail _ (List.Mem.tail _ (List.Mem.head _)))) (P.mono (by decide) (by decide))
set_option maxRecDepth 65536 in
set_option maxHeartbeats 40000000 in
theorem comes_1 {Post : Tables → Env → Array Value → State → Outcome → State → Prop} (hpost : ∀ tb e args s v u, (limb_1_1.after args s (.returned v) u = true ∧ limb_1_2.after args s (.returned v) u = true ∧ True) → FrameEnd s (.returned v) u (Jvm.fieldLocs frame_1_writes args s ++ Jvm.arrayLocs frame_1_arrays args s ++ Jvm.staticLocs frame_1_statics s) 32 192 → Post tb e args s (.returned v) u) :
    ArmFor flags0 classFile x code maxLocals ret World_1 tables_1 room_1 Calls_1 rest_1 Pre_1 Post := by
  intro l hfl _ _ p e ha hc hk s m args below hf hA hF happ hP
  obtain ⟨hcalls, hrest, hpre⟩ := hP
  obtain ⟨-, -, -, hnamed, -, -, -, hat⟩ := (Spec.applies_iff hf).mp happ
  obtain ⟨hg, hn⟩ := and_e (Cond.before_iff.mp (show (Jvm.Cond.and given_1 narrow_1).before args s = true from hpre))
  obtain ⟨g0, hg⟩ := and_e hg
  obtain ⟨gv0, hg⟩ := and_e hg
  obtain ⟨gv1, hg⟩ := and_e hg
  have gv2 := hg
  obtain ⟨w0, w1, w2, rfl⟩ : ∃ w0 w1 w2 : Value, args = #[w0, w1, w2] := by
    have hs : args.size = 3 := by simpa [Cond.value, given_1] using g0
    obtain ⟨L⟩ := args
    match L, hs with
    | [w0, w1, w2], _ => exact ⟨w0, w1, w2, rfl⟩
  have hw := fun d (hd : d ∈ tables_1) => atoms_spec (ws := Jvm.Cond.code x code maxLocals ret :: tables_1) hat d (List.mem_cons_of_mem _ hd)
  have hfit : Fit s := fun {y c} hc i hi => by
    obtain ⟨ha, rfl⟩ := Array.getElem?_eq_some_iff.mp hc
    have q := List.all_eq_true.mp ((Array.all_eq_true_iff_forall_mem.mp hF) _ (Array.getElem_mem ha)) i (List.mem_range.mpr hi)
    simpa [Array.getElem?_eq_getElem hi] using q
  obtain ⟨hsets, hown0⟩ := atoms_of _ (rest_1_c_eq ▸ (show rest_1_c.before _ s = true from hrest))
  obtain ⟨i0, ei0⟩ := isL_v gv0
  obtain rfl : w0 = (.long i0) := Option.some.inj ei0
  obtain ⟨i1, ei1⟩ := isL_v gv1
  obtain rfl : w1 = (.long i1) := Option.some.inj ei1
  obtain ⟨i2, ei2⟩ := isL_v gv2
  obtain rfl : w2 = (.long i2) := Option.some.inj ei2
  have hEW : EW s #[.long i0, .long i1, .long i2] [] := EW.nil
  have hCH : CHv s [] s.vm s.heap := fun p hp => nomatch hp
  have had : Sta s s.heap "java/util/BitSet" "$assertionsDisabled" "Z" (.int 1) := Sta.start (eqv_i (Term.int_eval 1) (Cond.before_iff.mp (hsets _ (List.mem_of_getElem? (i := 2) rfl)))) (Or.inl (hsets _ (List.mem_of_getElem? (i := 1) rfl)))
  obtain ⟨od, eod⟩ := exa_v hn
  have hod : Sta s s.heap "com/example/centile/centile/function/Order" "ASCENDING" "Lcom/example/centile/centile/function/Order;" (.ref od) := Sta.start eod (Or.inr ⟨(ow hw 36 rfl), (ow hw 37 rfl)⟩)
  obtain ⟨n, o, h1, h2, h3, v, L, rfl, ⟨rfl, K, N⟩, hC, hH, hq⟩ := rm0 l s _ hw [] s.heap.size i0 i1 i2 had od hod s.heap (Old.start s) hEW (fun _ q => nomatch q) p e ha hc hk s m _ below hf ((Spec.applies_iff_loose hf).mp happ).1 ⟨rfl, State.Warmed39.refl s, rfl, hCH, fun _ q => nomatch q⟩ trivial
  refine ⟨n, _, h1, h2, h3, hpost _ _ _ _ _ _ ⟨Cond.after_iff.mpr rfl, Cond.after_iff.mpr (eq_i res_at (Term.int_eval (1)) rfl), trivial⟩ ⟨hq.1, hH rfl, (hq.2.2.2.sift fun y hy => Or.inr (N y hy)).mono (by decide) (by decide)⟩⟩
theorem main_1_1 : Claimed_1_1 := comes_1 fun _ _ _ _ _ _ h hF => ⟨h.1, hF⟩
theorem main_1_2 : Claimed_1_2 := comes_1 fun _ _ _ _ _ _ h hF => ⟨h.2.1, hF⟩
end Jvm.Pilot.@@N@@
namespace Jvm.Pilot.@@N@@
open Jvm Jvm.ClassFile Sem Op Lib Jvm.Free Jvm.Stand Jvm.Pilot.@@N@@.Jvm.D
/-! MADE BY PROGRAM (witnessworld.py) out of the Statement's table words and the real class files: 25 classes; the members and pool entries that the words name. The judged class is class 1, her method 1. -/
namespace start1
open Jvm.ClassFile
def u (s : String) : CpInfo := .utf8 (stringToUtf16 s)
/-- a pool by its gaps: so many unusable entries, then the entry; so many at the end -/
def gap : Nat → List CpInfo → List CpInfo
  | 0, r => r
  | n + 1, r => .unusable :: gap n r
def poolList (es : List (Nat × CpInfo)) (last : Nat) : List CpInfo := es.foldr (fun e r => gap e.1 (e.2 :: r)) (gap last [])
def pool (es : List (Nat × CpInfo)) (last : Nat) : Array CpInfo := ⟨poolList es last⟩
def fileOf (pool : Array CpInfo) (this : Nat) (attrs : Array Attribute := #[]) (ms : Array MethodInfo := #[]) (fl : Nat := 33) (sup : Nat := 0) (ifs : Array Nat := #[]) (fds : Array FieldInfo := #[]) : ClassFile where
  minorVersion := 0
  majorVersion := 65
  constantPool := pool
  accessFlags := fl
  thisClass := this
  superClass := sup
  interfaces := ifs
  fields := fds
  methods := ms
  attributes := attrs
def plain (name : String) (sup : Option ClassId) : Class where
  name := name
  kind := .ordinary
  loader := none
  accessFlags := 33
  super := sup
  interfaces := #[]
  cf := none
  fields := #[]
  methods := #[]
  instanceTypes := #[]
  staticTypes := #[]
  resolved := #[]
  callSites := []
  init := .initialized
  statics := none
  mirror := none

def pool0 : Array CpInfo := pool [(5, u "<init>"), (0, u "()V"), (1, .class_ 10), (1, u "java/lang/Object")] 113

def k0c0 : Code := { maxStack := 0, maxLocals := 1, code := object_method_1_code, exceptionTable := #[], attributes := #[] }
def k0m0 : Method := { name := "<init>", desc := "()V", sig := { parameters := [], returnType := none }, accessFlags := 1, code := some k0c0 }
/-- java/lang/Object -/
def k0 : Class := { plain "java/lang/Object" none with
  accessFlags := 33
  interfaces := #[]
  cf := some (fileOf pool0 8 #[] #[{ accessFlags := 1, nameIndex := 5, descriptorIndex := 6, attributes := #[] }] 33 0 #[] #[])
  fields := #[]
  methods := #[k0m0]
  instanceTypes := #[]
  staticTypes := #[]
  resolved := Array.replicate 124 none
  statics := none }

def pool1 : Array CpInfo := pool [(2, .class_ 4), (0, .nameAndType 5 6), (0, u "java/lang/Object"), (0, u "<init>"), (0, u "()V"), (0, .class_ 8), (0, u "com/example/centile/centile/function/Keys"), (0, .methodref 7 3), (0, .methodref 7 11), (0, .nameAndType 12 13), (0, u "add"), (0, u "(J)V"), (0, .methodref 7 15), (0, .nameAndType 16 17), (0, u "addAll"), (0, u "(Lcom/example/centile/centile/function/Keys;)V"), (0, .fieldref 19 20), (0, .class_ 21), (0, .nameAndType 22 23), (0, u "com/example/centile/centile/function/Order"), (0, u "ASCENDING"), (0, u "Lcom/example/centile/centile/function/Order;"), (0, .methodref 7 25), (0, .nameAndType 26 27), (0, u "at"), (0, u "(ILcom/example/centile/centile/function/Order;)J"), (0, .methodref 7 29), (0, .nameAndType 30 31), (0, u "size"), (0, u "()I"), (0, .methodref 7 33), (0, .nameAndType 34 35), (0, u "get"), (0, u "(I)J"), (0, .methodref 37 38), (0, .class_ 39), (0, .nameAndType 40 41), (0, u "java/lang/Math"), (0, u "min"), (0, u "(JJ)J"), (0, .class_ 43), (0, u "com/example/centile/centile/function/KeysAddPinLaw"), (2, u "law"), (0, u "(JJJ)Z")] 3

def k1m0 : Method := { name := "<init>", desc := "()V", sig := { parameters := [], returnType := none }, accessFlags := 1, code := none }
def k1c1 : Code := { maxStack := 6, maxLocals := 16, code := code, exceptionTable := #[], attributes := #[] }
def k1m1 : Method := { name := "law", desc := "(JJJ)Z", sig := { parameters := [.long, .long, .long], returnType := some .boolean }, accessFlags := 9, code := some k1c1 }
/-- com/example/centile/centile/function/KeysAddPinLaw -/
def k1 : Class := { plain "com/example/centile/centile/function/KeysAddPinLaw" (some 0) with
  accessFlags := 49
  interfaces := #[]
  cf := some (fileOf pool1 42 #[] #[{ accessFlags := 1, nameIndex := 5, descriptorIndex := 6, attributes := #[] }, { accessFlags := 9, nameIndex := 46, descriptorIndex := 47, attributes := #[] }] 49 2 #[] #[])
  fields := #[]
  methods := #[k1m0, k1m1]
  instanceTypes := #[]
  staticTypes := #[]
  resolved := Array.replicate 51 none
  statics := none }

def pool2 : Array CpInfo := pool [(3, .methodref 4 5), (0, .class_ 6), (0, .nameAndType 7 8), (0, u "java/lang/Object"), (0, u "<init>"), (0, u "()V"), (0, .fieldref 10 11), (0, .class_ 12), (0, .nameAndType 13 14), (0, u "com/example/centile/centile/function/Keys"), (0, u "keys"), (0, u "[J"), (0, .fieldref 10 16), (0, .nameAndType 17 18), (0, u "size"), (0, u "I"), (0, .methodref 10 20), (0, .nameAndType 21 22), (0, u "ensureRoom"), (0, u "(I)V"), (0, .fieldref 10 24), (0, .nameAndType 25 26), (0, u "selection"), (0, u "Lcom/example/centile/centile/function/Selection;"), (0, .methodref 28 29), (0, .class_ 30), (0, .nameAndType 31 32), (0, u "java/lang/System"), (0, u "arraycopy"), (0, u "(Ljava/lang/Object;ILjava/lang/Object;II)V"), (0, .class_ 34), (0, u "com/example/centile/centile/function/Selection"), (0, .methodref 33 36), (0, .nameAndType 7 37), (0, u "([JI)V"), (0, .fieldref 39 40), (0, .class_ 41), (0, .nameAndType 42 43), (0, u "com/example/centile/centile/function/Order"), (0, u "ASCENDING"), (0, u "Lcom/example/centile/centile/function/Order;"), (0, .methodref 33 45), (0, .nameAndType 46 47), (0, u "valueAt"), (0, u "(I)J"), (0, .integer 2147483639), (7, .integer 1073741819), (0, .methodref 58 59), (0, .class_ 60), (0, .nameAndType 61 62), (0, u "java/lang/Math"), (0, u "max"), (0, u "(II)I"), (0, .methodref 64 65), (0, .class_ 66), (0, .nameAndType 67 68), (0, u "java/util/Arrays"), (0, u "copyOf"), (0, u "([JI)[J"), (0, u "MAX_KEYS"), (3, u "()I"), (0, u "get"), (0, u "add"), (0, u "(J)V"), (0, u "addAll"), (0, u "(Lcom/example/centile/centile/function/Keys;)V"), (1, u "at"), (0, u "(ILcom/example/centile/centile/function/Order;)J")] 2

def k2c0 : Code := { maxStack := 2, maxLocals := 1, code := prog_11_method_1_code, exceptionTable := #[], attributes := #[] }
def k2m0 : Method := { name := "<init>", desc := "()V", sig := { parameters := [], returnType := none }, accessFlags := 0, code := some k2c0 }
def k2c1 : Code := { maxStack := 1, maxLocals := 1, code := prog_11_method_2_code, exceptionTable := #[], attributes := #[] }
def k2m1 : Method := { name := "size", desc := "()I", sig := { parameters := [], returnType := some .int }, accessFlags := 0, code := some k2c1 }
def k2c2 : Code := { maxStack := 2, maxLocals := 2, code := prog_11_method_3_code, exceptionTable := #[], attributes := #[] }
def k2m2 : Method := { name := "get", desc := "(I)J", sig := { parameters := [.int], returnType := some .long }, accessFlags := 0, code := some k2c2 }
def k2c3 : Code := { maxStack := 5, maxLocals := 3, code := prog_11_method_4_code, exceptionTable := #[], attributes := #[] }
def k2m3 : Method := { name := "add", desc := "(J)V", sig := { parameters := [.long], returnType := none }, accessFlags := 0, code := some k2c3 }
def k2c4 : Code := { maxStack := 5, maxLocals := 3, code := prog_11_method_5_code, exceptionTable := #[], attributes := #[] }
def k2m4 : Method := { name := "addAll", desc := "(Lcom/example/centile/centile/function/Keys;)V", sig := { parameters := [(.object "com/example/centile/centile/function/Keys")], returnType := none }, accessFlags := 0, code := some k2c4 }
def k2c5 : Code := { maxStack := 5, maxLocals := 4, code := prog_11_method_6_code, exceptionTable := #[], attributes := #[] }
def k2m5 : Method := { name := "at", desc := "(ILcom/example/centile/centile/function/Order;)J", sig := { parameters := [.int, (.object "com/example/centile/centile/function/Order")], returnType := some .long }, accessFlags := 0, code := some k2c5 }
def k2c6 : Code := { maxStack := 4, maxLocals := 4, code := prog_11_method_7_code, exceptionTable := #[], attributes := #[] }
def k2m6 : Method := { name := "ensureRoom", desc := "(I)V", sig := { parameters := [.int], returnType := none }, accessFlags := 2, code := some k2c6 }
/-- com/example/centile/centile/function/Keys -/
def k2 : Class := { plain "com/example/centile/centile/function/Keys" (some 0) with
  accessFlags := 48
  interfaces := #[]
  cf := some (fileOf pool2 10 #[] #[{ accessFlags := 0, nameIndex := 7, descriptorIndex := 8, attributes := #[] }, { accessFlags := 0, nameIndex := 17, descriptorIndex := 73, attributes := #[] }, { accessFlags := 0, nameIndex := 74, descriptorIndex := 47, attributes := #[] }, { accessFlags := 0, nameIndex := 75, descriptorIndex := 76, attributes := #[] }, { accessFlags := 0, nameIndex := 77, descriptorIndex := 78, attributes := #[] }, { accessFlags := 0, nameIndex := 80, descriptorIndex := 81, attributes := #[] }, { accessFlags := 2, nameIndex := 21, descriptorIndex := 22, attributes := #[] }] 48 4 #[] #[{ accessFlags := 26, nameIndex := 69, descriptorIndex := 18, attributes := #[] }, { accessFlags := 2, nameIndex := 13, descriptorIndex := 14, attributes := #[] }, { accessFlags := 2, nameIndex := 17, descriptorIndex := 18, attributes := #[] }, { accessFlags := 2, nameIndex := 25, descriptorIndex := 26, attributes := #[] }])
  fields := #[{ name := "MAX_KEYS", type := .int, accessFlags := 26, slot := 0, constantValue := 0 }, { name := "keys", type := (.array .long), accessFlags := 2, slot := 0, constantValue := 0 }, { name := "size", type := .int, accessFlags := 2, slot := 1, constantValue := 0 }, { name := "selection", type := (.object "com/example/centile/centile/function/Selection"), accessFlags := 2, slot := 2, constantValue := 0 }]
  methods := #[k2m0, k2m1, k2m2, k2m3, k2m4, k2m5, k2m6]
  instanceTypes := #[(.array .long), .int, (.object "com/example/centile/centile/function/Selection")]
  staticTypes := #[.int]
  resolved := Array.replicate 84 none
  statics := none }

def pool3 : Array CpInfo := pool [(2, .class_ 4), (1, u "java/lang/Object"), (0, u "<init>"), (0, u "()V"), (1, .class_ 10), (1, u "java/lang/System"), (0, u "allowSecurityManager"), (0, u "I"), (16, u "cons"), (0, u "Ljava/io/Console;"), (77, .class_ 110), (1, u "java/lang/System$CallersHolder"), (43, u "initialErrStream"), (0, u "Ljava/io/PrintStream;"), (19, u "security"), (0, u "Ljava/lang/SecurityManager;"), (31, .class_ 209), (0, u "java/lang/System$1"), (7, u "props"), (0, u "Ljava/util/Properties;"), (2, u "lineSeparator"), (0, u "Ljava/lang/String;"), (96, .class_ 321), (1, u "java/lang/System$LoggerFinder"), (5, .class_ 328), (0, u "java/lang/System$Logger"), (67, u "err"), (2, u "out"), (91, u "notSupportedJnuEncoding"), (15, u "in"), (17, u "initialIn"), (0, u "Ljava/io/InputStream;"), (35, u "bootLayer"), (0, u "Ljava/lang/ModuleLayer;"), (99, .class_ 664), (0, u "java/lang/System$2"), (9, u "NEVER"), (2, u "MAYBE"), (49, u "arraycopy"), (0, u "(Ljava/lang/Object;ILjava/lang/Object;II)V"), (72, .class_ 802), (0, u "java/lang/System$Logger$Level")] 31

def k3m0 : Method := { name := "<init>", desc := "()V", sig := { parameters := [], returnType := none }, accessFlags := 2, code := none }
def k3m1 : Method := { name := "arraycopy", desc := "(Ljava/lang/Object;ILjava/lang/Object;II)V", sig := { parameters := [(.object "java/lang/Object"), .int, (.object "java/lang/Object"), .int, .int], returnType := none }, accessFlags := 265, code := none }
/-- java/lang/System -/
def k3 : Class := { plain "java/lang/System" (some 0) with
  accessFlags := 49
  interfaces := #[]
  cf := some (fileOf pool3 8 #[.nestMembers #[319, 327, 801, 108, 663, 208]] #[{ accessFlags := 2, nameIndex := 5, descriptorIndex := 6, attributes := #[] }, { accessFlags := 265, nameIndex := 727, descriptorIndex := 728, attributes := #[] }] 49 2 #[] #[{ accessFlags := 25, nameIndex := 507, descriptorIndex := 526, attributes := #[] }, { accessFlags := 25, nameIndex := 399, descriptorIndex := 155, attributes := #[] }, { accessFlags := 25, nameIndex := 396, descriptorIndex := 155, attributes := #[] }, { accessFlags := 10, nameIndex := 525, descriptorIndex := 526, attributes := #[] }, { accessFlags := 26, nameIndex := 674, descriptorIndex := 12, attributes := #[] }, { accessFlags := 26, nameIndex := 677, descriptorIndex := 12, attributes := #[] }, { accessFlags := 10, nameIndex := 11, descriptorIndex := 12, attributes := #[] }, { accessFlags := 74, nameIndex := 175, descriptorIndex := 176, attributes := #[] }, { accessFlags := 10, nameIndex := 491, descriptorIndex := 222, attributes := #[] }, { accessFlags := 74, nameIndex := 29, descriptorIndex := 30, attributes := #[] }, { accessFlags := 74, nameIndex := 154, descriptorIndex := 155, attributes := #[] }, { accessFlags := 10, nameIndex := 217, descriptorIndex := 218, attributes := #[] }, { accessFlags := 10, nameIndex := 221, descriptorIndex := 222, attributes := #[] }, { accessFlags := 8, nameIndex := 562, descriptorIndex := 563, attributes := #[] }])
  fields := #[{ name := "in", type := (.object "java/io/InputStream"), accessFlags := 25, slot := 0, constantValue := 0 }, { name := "out", type := (.object "java/io/PrintStream"), accessFlags := 25, slot := 1, constantValue := 0 }, { name := "err", type := (.object "java/io/PrintStream"), accessFlags := 25, slot := 2, constantValue := 0 }, { name := "initialIn", type := (.object "java/io/InputStream"), accessFlags := 10, slot := 3, constantValue := 0 }, { name := "NEVER", type := .int, accessFlags := 26, slot := 4, constantValue := 0 }, { name := "MAYBE", type := .int, accessFlags := 26, slot := 5, constantValue := 0 }, { name := "allowSecurityManager", type := .int, accessFlags := 10, slot := 6, constantValue := 0 }, { name := "security", type := (.object "java/lang/SecurityManager"), accessFlags := 74, slot := 7, constantValue := 0 }, { name := "notSupportedJnuEncoding", type := (.object "java/lang/String"), accessFlags := 10, slot := 8, constantValue := 0 }, { name := "cons", type := (.object "java/io/Console"), accessFlags := 74, slot := 9, constantValue := 0 }, { name := "initialErrStream", type := (.object "java/io/PrintStream"), accessFlags := 74, slot := 10, constantValue := 0 }, { name := "props", type := (.object "java/util/Properties"), accessFlags := 10, slot := 11, constantValue := 0 }, { name := "lineSeparator", type := (.object "java/lang/String"), accessFlags := 10, slot := 12, constantValue := 0 }, { name := "bootLayer", type := (.object "java/lang/ModuleLayer"), accessFlags := 8, slot := 13, constantValue := 0 }]
  methods := #[k3m0, k3m1]
  instanceTypes := #[]
  staticTypes := #[(.object "java/io/InputStream"), (.object "java/io/PrintStream"), (.object "java/io/PrintStream"), (.object "java/io/InputStream"), .int, .int, .int, (.object "java/lang/SecurityManager"), (.object "java/lang/String"), (.object "java/io/Console"), (.object "java/io/PrintStream"), (.object "java/util/Properties"), (.object "java/lang/String"), (.object "java/lang/ModuleLayer")]
  resolved := Array.replicate 834 none
  statics := none }

def pool4 : Array CpInfo := pool [(1, .class_ 2), (0, u "java/lang/constant/Constable"), (0, .class_ 4), (0, u "java/lang/Object")] 6

/-- java/lang/constant/Constable -/
def k4 : Class := { plain "java/lang/constant/Constable" (some 0) with
  accessFlags := 1537
  interfaces := #[]
  cf := some (fileOf pool4 1 #[] #[] 1537 3 #[] #[])
  fields := #[]
  methods := #[]
  instanceTypes := #[]
  staticTypes := #[]
  resolved := Array.replicate 11 none
  statics := none }

def pool5 : Array CpInfo := pool [(1, .class_ 2), (0, u "java/lang/Comparable"), (0, .class_ 4), (0, u "java/lang/Object")] 7

/-- java/lang/Comparable -/
def k5 : Class := { plain "java/lang/Comparable" (some 0) with
  accessFlags := 1537
  interfaces := #[]
  cf := some (fileOf pool5 1 #[] #[] 1537 3 #[] #[])
  fields := #[]
  methods := #[]
  instanceTypes := #[]
  staticTypes := #[]
  resolved := Array.replicate 12 none
  statics := none }

def pool6 : Array CpInfo := pool [(1, .class_ 2), (0, u "java/io/Serializable"), (0, .class_ 4), (0, u "java/lang/Object")] 2

/-- java/io/Serializable -/
def k6 : Class := { plain "java/io/Serializable" (some 0) with
  accessFlags := 1537
  interfaces := #[]
  cf := some (fileOf pool6 1 #[] #[] 1537 3 #[] #[])
  fields := #[]
  methods := #[]
  instanceTypes := #[]
  staticTypes := #[]
  resolved := Array.replicate 7 none
  statics := none }

def pool7 : Array CpInfo := pool [(2, .class_ 4), (1, u "java/lang/Enum"), (0, u "name"), (0, u "Ljava/lang/String;"), (2, u "ordinal"), (0, u "I"), (1, .class_ 14), (1, u "java/lang/Object"), (4, u "hash"), (86, .class_ 108), (1, u "java/lang/Enum$EnumDesc"), (2, .class_ 112), (0, u "java/lang/constant/Constable"), (0, .class_ 114), (0, u "java/lang/Comparable"), (0, .class_ 116), (0, u "java/io/Serializable")] 87

/-- java/lang/Enum -/
def k7 : Class := { plain "java/lang/Enum" (some 0) with
  accessFlags := 1057
  interfaces := #[4, 5, 6]
  cf := some (fileOf pool7 2 #[.nestMembers #[106]] #[] 1057 12 #[111, 113, 115] #[{ accessFlags := 18, nameIndex := 5, descriptorIndex := 6, attributes := #[] }, { accessFlags := 18, nameIndex := 9, descriptorIndex := 10, attributes := #[] }, { accessFlags := 2, nameIndex := 19, descriptorIndex := 10, attributes := #[] }])
  fields := #[{ name := "name", type := (.object "java/lang/String"), accessFlags := 18, slot := 0, constantValue := 0 }, { name := "ordinal", type := .int, accessFlags := 18, slot := 1, constantValue := 0 }, { name := "hash", type := .int, accessFlags := 2, slot := 2, constantValue := 0 }]
  methods := #[]
  instanceTypes := #[(.object "java/lang/String"), .int, .int]
  staticTypes := #[]
  resolved := Array.replicate 204 none
  statics := none }

def pool8 : Array CpInfo := pool [(1, .class_ 2), (0, u "com/example/centile/centile/function/Order"), (2, u "ASCENDING"), (0, u "Lcom/example/centile/centile/function/Order;"), (2, u "DESCENDING"), (2, u "$VALUES"), (0, u "[Lcom/example/centile/centile/function/Order;"), (6, .class_ 22), (1, u "java/lang/Enum")] 24

/-- com/example/centile/centile/function/Order -/
def k8 : Class := { plain "com/example/centile/centile/function/Order" (some 7) with
  accessFlags := 16433
  interfaces := #[]
  cf := some (fileOf pool8 1 #[] #[] 16433 20 #[] #[{ accessFlags := 16409, nameIndex := 5, descriptorIndex := 6, attributes := #[] }, { accessFlags := 16409, nameIndex := 9, descriptorIndex := 6, attributes := #[] }, { accessFlags := 4122, nameIndex := 12, descriptorIndex := 13, attributes := #[] }])
  fields := #[{ name := "ASCENDING", type := (.object "com/example/centile/centile/function/Order"), accessFlags := 16409, slot := 0, constantValue := 0 }, { name := "DESCENDING", type := (.object "com/example/centile/centile/function/Order"), accessFlags := 16409, slot := 1, constantValue := 0 }, { name := "$VALUES", type := (.array (.object "com/example/centile/centile/function/Order")), accessFlags := 4122, slot := 2, constantValue := 0 }]
  methods := #[]
  instanceTypes := #[(.object "java/lang/String"), .int, .int]
  staticTypes := #[(.object "com/example/centile/centile/function/Order"), (.object "com/example/centile/centile/function/Order"), (.array (.object "com/example/centile/centile/function/Order"))]
  resolved := Array.replicate 47 none
  statics := some 0 }

def pool9 : Array CpInfo := pool [(1, .methodref 2 3), (0, .class_ 4), (0, .nameAndType 5 6), (0, u "java/lang/Object"), (0, u "<init>"), (0, u "()V"), (0, .fieldref 8 9), (0, .class_ 10), (0, .nameAndType 11 12), (0, u "com/example/centile/centile/function/Selection"), (0, u "values"), (0, u "[J"), (0, .class_ 14), (0, u "java/util/BitSet"), (0, .methodref 13 16), (0, .nameAndType 5 17), (0, u "(I)V"), (0, .fieldref 8 19), (0, .nameAndType 20 21), (0, u "cuts"), (0, u "Ljava/util/BitSet;"), (0, .methodref 13 23), (0, .nameAndType 24 17), (0, u "set"), (0, .methodref 8 26), (0, .nameAndType 27 17), (0, u "settle"), (0, .methodref 13 29), (0, .nameAndType 30 31), (0, u "get"), (0, u "(I)Z"), (0, .methodref 13 33), (0, .nameAndType 34 35), (0, u "previousSetBit"), (0, u "(I)I"), (0, .methodref 13 37), (0, .nameAndType 38 35), (0, u "nextSetBit"), (15, .methodref 13 55), (0, .nameAndType 24 56), (0, u "(II)V"), (0, .methodref 58 59), (0, .class_ 60), (0, .nameAndType 61 62), (0, u "java/util/Arrays"), (0, u "sort"), (0, u "([JII)V"), (26, u "SORT_LENGTH"), (0, u "I"), (2, u "MAX_SAMPLE"), (1, u "PIVOT_MARGIN"), (0, u "D"), (0, u "MAX_POOR_PARTITIONS"), (1, u "([JI)V"), (2, u "valueAt"), (0, u "(I)J")] 4

def k9c0 : Code := { maxStack := 5, maxLocals := 3, code := prog_15_method_1_code, exceptionTable := #[], attributes := #[] }
def k9m0 : Method := { name := "<init>", desc := "([JI)V", sig := { parameters := [(.array .long), .int], returnType := none }, accessFlags := 0, code := some k9c0 }
def k9c1 : Code := { maxStack := 2, maxLocals := 2, code := prog_15_method_2_code, exceptionTable := #[], attributes := #[] }
def k9m1 : Method := { name := "valueAt", desc := "(I)J", sig := { parameters := [.int], returnType := some .long }, accessFlags := 0, code := some k9c1 }
def k9c2 : Code := { maxStack := 5, maxLocals := 12, code := prog_15_method_3_code, exceptionTable := #[], attributes := #[] }
def k9m2 : Method := { name := "settle", desc := "(I)V", sig := { parameters := [.int], returnType := none }, accessFlags := 2, code := some k9c2 }
/-- com/example/centile/centile/function/Selection -/
def k9 : Class := { plain "com/example/centile/centile/function/Selection" (some 0) with
  accessFlags := 48
  interfaces := #[]
  cf := some (fileOf pool9 8 #[] #[{ accessFlags := 0, nameIndex := 5, descriptorIndex := 99, attributes := #[] }, { accessFlags := 0, nameIndex := 102, descriptorIndex := 103, attributes := #[] }, { accessFlags := 2, nameIndex := 27, descriptorIndex := 17, attributes := #[] }] 48 2 #[] #[{ accessFlags := 26, nameIndex := 89, descriptorIndex := 90, attributes := #[] }, { accessFlags := 26, nameIndex := 93, descriptorIndex := 90, attributes := #[] }, { accessFlags := 26, nameIndex := 95, descriptorIndex := 96, attributes := #[] }, { accessFlags := 26, nameIndex := 97, descriptorIndex := 90, attributes := #[] }, { accessFlags := 18, nameIndex := 11, descriptorIndex := 12, attributes := #[] }, { accessFlags := 18, nameIndex := 20, descriptorIndex := 21, attributes := #[] }])
  fields := #[{ name := "SORT_LENGTH", type := .int, accessFlags := 26, slot := 0, constantValue := 0 }, { name := "MAX_SAMPLE", type := .int, accessFlags := 26, slot := 1, constantValue := 0 }, { name := "PIVOT_MARGIN", type := .double, accessFlags := 26, slot := 2, constantValue := 0 }, { name := "MAX_POOR_PARTITIONS", type := .int, accessFlags := 26, slot := 3, constantValue := 0 }, { name := "values", type := (.array .long), accessFlags := 18, slot := 0, constantValue := 0 }, { name := "cuts", type := (.object "java/util/BitSet"), accessFlags := 18, slot := 1, constantValue := 0 }]
  methods := #[k9m0, k9m1, k9m2]
  instanceTypes := #[(.array .long), (.object "java/util/BitSet")]
  staticTypes := #[.int, .int, .double, .int]
  resolved := Array.replicate 108 none
  statics := none }

def pool10 : Array CpInfo := pool [(1, .class_ 2), (0, u "java/lang/Cloneable"), (0, .class_ 4), (0, u "java/lang/Object")] 2

/-- java/lang/Cloneable -/
def k10 : Class := { plain "java/lang/Cloneable" (some 0) with
  accessFlags := 1537
  interfaces := #[]
  cf := some (fileOf pool10 1 #[] #[] 1537 3 #[] #[])
  fields := #[]
  methods := #[]
  instanceTypes := #[]
  staticTypes := #[]
  resolved := Array.replicate 7 none
  statics := none }

def pool11 : Array CpInfo := pool [(1, .class_ 2), (0, u "java/util/BitSet"), (0, .fieldref 1 4), (0, .nameAndType 5 6), (0, u "$assertionsDisabled"), (0, u "Z"), (0, .fieldref 1 8), (0, .nameAndType 9 10), (0, u "wordsInUse"), (0, u "I"), (0, .fieldref 1 12), (0, .nameAndType 13 14), (0, u "words"), (0, u "[J"), (3, .nameAndType 19 20), (0, u "<init>"), (0, u "()V"), (0, .methodref 22 18), (0, .class_ 23), (0, u "java/lang/Object"), (0, .fieldref 1 25), (0, .nameAndType 26 6), (0, u "sizeIsSticky"), (0, .methodref 1 28), (0, .nameAndType 29 30), (0, u "initWords"), (0, u "(I)V"), (21, .methodref 1 53), (0, .nameAndType 54 55), (0, u "wordIndex"), (0, u "(I)I"), (0, .methodref 1 57), (0, .nameAndType 58 20), (0, u "checkInvariants"), (21, u "get"), (58, .methodref 1 140), (0, .nameAndType 141 30), (0, u "ensureCapacity"), (13, .methodref 1 156), (0, .nameAndType 157 30), (0, u "expandTo"), (3, .methodref 1 162), (0, .nameAndType 163 164), (0, u "checkRange"), (0, u "(II)V"), (0, .long 18446744073709551615), (3, u "set"), (12, .methodref 183 184), (0, .class_ 185), (0, .nameAndType 186 187), (0, u "java/lang/Long"), (0, u "numberOfTrailingZeros"), (0, u "(J)I"), (2, .methodref 183 191), (0, .nameAndType 192 187), (0, u "numberOfLeadingZeros"), (70, u "nextSetBit"), (5, .class_ 270), (0, u "java/util/BitSet$1BitSetSpliterator"), (22, u "serialPersistentFields"), (0, u "[Ljava/io/ObjectStreamField;"), (0, .class_ 296), (0, u "java/lang/Cloneable"), (0, .class_ 298), (0, u "java/io/Serializable"), (0, u "ADDRESS_BITS_PER_WORD"), (2, u "BITS_PER_WORD"), (1, u "BIT_INDEX_MASK"), (1, u "WORD_MASK"), (0, u "J"), (0, u "serialVersionUID"), (42, u "(I)Z"), (7, u "previousSetBit")] 57

def k11c0 : Code := { maxStack := 2, maxLocals := 1, code := jdk_92_method_1_code, exceptionTable := #[], attributes := #[] }
def k11m0 : Method := { name := "wordIndex", desc := "(I)I", sig := { parameters := [.int], returnType := some .int }, accessFlags := 10, code := some k11c0 }
def k11c1 : Code := { maxStack := 4, maxLocals := 1, code := jdk_92_method_2_code, exceptionTable := #[], attributes := #[] }
def k11m1 : Method := { name := "checkInvariants", desc := "()V", sig := { parameters := [], returnType := none }, accessFlags := 2, code := some k11c1 }
def k11m2 : Method := { name := "<init>", desc := "()V", sig := { parameters := [], returnType := none }, accessFlags := 1, code := none }
def k11c3 : Code := { maxStack := 4, maxLocals := 2, code := jdk_92_method_5_code, exceptionTable := #[], attributes := #[] }
def k11m3 : Method := { name := "<init>", desc := "(I)V", sig := { parameters := [.int], returnType := none }, accessFlags := 1, code := some k11c3 }
def k11c4 : Code := { maxStack := 3, maxLocals := 2, code := jdk_92_method_6_code, exceptionTable := #[], attributes := #[] }
def k11m4 : Method := { name := "initWords", desc := "(I)V", sig := { parameters := [.int], returnType := none }, accessFlags := 2, code := some k11c4 }
def k11c5 : Code := { maxStack := 3, maxLocals := 3, code := jdk_92_method_14_code, exceptionTable := #[], attributes := #[] }
def k11m5 : Method := { name := "ensureCapacity", desc := "(I)V", sig := { parameters := [.int], returnType := none }, accessFlags := 2, code := some k11c5 }
def k11c6 : Code := { maxStack := 2, maxLocals := 3, code := jdk_92_method_15_code, exceptionTable := #[], attributes := #[] }
def k11m6 : Method := { name := "expandTo", desc := "(I)V", sig := { parameters := [.int], returnType := none }, accessFlags := 2, code := some k11c6 }
def k11c7 : Code := { maxStack := 4, maxLocals := 2, code := jdk_92_method_16_code, exceptionTable := #[], attributes := #[] }
def k11m7 : Method := { name := "checkRange", desc := "(II)V", sig := { parameters := [.int, .int], returnType := none }, accessFlags := 10, code := some k11c7 }
def k11c8 : Code := { maxStack := 7, maxLocals := 3, code := jdk_92_method_19_code, exceptionTable := #[], attributes := #[] }
def k11m8 : Method := { name := "set", desc := "(I)V", sig := { parameters := [.int], returnType := none }, accessFlags := 1, code := some k11c8 }
def k11c9 : Code := { maxStack := 8, maxLocals := 10, code := jdk_92_method_21_code, exceptionTable := #[], attributes := #[] }
def k11m9 : Method := { name := "set", desc := "(II)V", sig := { parameters := [.int, .int], returnType := none }, accessFlags := 1, code := some k11c9 }
def k11c10 : Code := { maxStack := 5, maxLocals := 3, code := jdk_92_method_26_code, exceptionTable := #[], attributes := #[] }
def k11m10 : Method := { name := "get", desc := "(I)Z", sig := { parameters := [.int], returnType := some .boolean }, accessFlags := 1, code := some k11c10 }
def k11c11 : Code := { maxStack := 5, maxLocals := 5, code := jdk_92_method_28_code, exceptionTable := #[], attributes := #[] }
def k11m11 : Method := { name := "nextSetBit", desc := "(I)I", sig := { parameters := [.int], returnType := some .int }, accessFlags := 1, code := some k11c11 }
def k11c12 : Code := { maxStack := 6, maxLocals := 5, code := jdk_92_method_30_code, exceptionTable := #[], attributes := #[] }
def k11m12 : Method := { name := "previousSetBit", desc := "(I)I", sig := { parameters := [.int], returnType := some .int }, accessFlags := 1, code := some k11c12 }
/-- java/util/BitSet -/
def k11 : Class := { plain "java/util/BitSet" (some 0) with
  accessFlags := 33
  interfaces := #[10, 6]
  cf := some (fileOf pool11 1 #[.nestMembers #[269]] #[{ accessFlags := 10, nameIndex := 54, descriptorIndex := 55, attributes := #[] }, { accessFlags := 2, nameIndex := 58, descriptorIndex := 20, attributes := #[] }, { accessFlags := 1, nameIndex := 19, descriptorIndex := 20, attributes := #[] }, { accessFlags := 1, nameIndex := 19, descriptorIndex := 30, attributes := #[] }, { accessFlags := 2, nameIndex := 29, descriptorIndex := 30, attributes := #[] }, { accessFlags := 2, nameIndex := 141, descriptorIndex := 30, attributes := #[] }, { accessFlags := 2, nameIndex := 157, descriptorIndex := 30, attributes := #[] }, { accessFlags := 10, nameIndex := 163, descriptorIndex := 164, attributes := #[] }, { accessFlags := 1, nameIndex := 169, descriptorIndex := 30, attributes := #[] }, { accessFlags := 1, nameIndex := 169, descriptorIndex := 164, attributes := #[] }, { accessFlags := 1, nameIndex := 80, descriptorIndex := 351, attributes := #[] }, { accessFlags := 1, nameIndex := 263, descriptorIndex := 55, attributes := #[] }, { accessFlags := 1, nameIndex := 359, descriptorIndex := 55, attributes := #[] }] 33 22 #[295, 297] #[{ accessFlags := 26, nameIndex := 299, descriptorIndex := 10, attributes := #[] }, { accessFlags := 26, nameIndex := 302, descriptorIndex := 10, attributes := #[] }, { accessFlags := 26, nameIndex := 304, descriptorIndex := 10, attributes := #[] }, { accessFlags := 26, nameIndex := 306, descriptorIndex := 307, attributes := #[] }, { accessFlags := 26, nameIndex := 293, descriptorIndex := 294, attributes := #[] }, { accessFlags := 2, nameIndex := 13, descriptorIndex := 14, attributes := #[] }, { accessFlags := 130, nameIndex := 9, descriptorIndex := 10, attributes := #[] }, { accessFlags := 130, nameIndex := 26, descriptorIndex := 6, attributes := #[] }, { accessFlags := 26, nameIndex := 308, descriptorIndex := 307, attributes := #[] }, { accessFlags := 4120, nameIndex := 5, descriptorIndex := 6, attributes := #[] }])
  fields := #[{ name := "ADDRESS_BITS_PER_WORD", type := .int, accessFlags := 26, slot := 0, constantValue := 0 }, { name := "BITS_PER_WORD", type := .int, accessFlags := 26, slot := 1, constantValue := 0 }, { name := "BIT_INDEX_MASK", type := .int, accessFlags := 26, slot := 2, constantValue := 0 }, { name := "WORD_MASK", type := .long, accessFlags := 26, slot := 3, constantValue := 0 }, { name := "serialPersistentFields", type := (.array (.object "java/io/ObjectStreamField")), accessFlags := 26, slot := 4, constantValue := 0 }, { name := "words", type := (.array .long), accessFlags := 2, slot := 0, constantValue := 0 }, { name := "wordsInUse", type := .int, accessFlags := 130, slot := 1, constantValue := 0 }, { name := "sizeIsSticky", type := .boolean, accessFlags := 130, slot := 2, constantValue := 0 }, { name := "serialVersionUID", type := .long, accessFlags := 26, slot := 5, constantValue := 0 }, { name := "$assertionsDisabled", type := .boolean, accessFlags := 4120, slot := 6, constantValue := 0 }]
  methods := #[k11m0, k11m1, k11m2, k11m3, k11m4, k11m5, k11m6, k11m7, k11m8, k11m9, k11m10, k11m11, k11m12]
  instanceTypes := #[(.array .long), .int, .boolean]
  staticTypes := #[.int, .int, .int, .long, (.array (.object "java/io/ObjectStreamField")), .long, .boolean]
  resolved := Array.replicate 417 none
  statics := some 1 }

def pool12 : Array CpInfo := pool [(2, .class_ 4), (1, u "java/lang/Object"), (0, u "<init>"), (0, u "()V"), (1, .class_ 10), (1, u "java/lang/Number"), (2, .class_ 14), (0, u "java/io/Serializable"), (0, u "serialVersionUID"), (0, u "J")] 20

def k12m0 : Method := { name := "<init>", desc := "()V", sig := { parameters := [], returnType := none }, accessFlags := 1, code := none }
/-- java/lang/Number -/
def k12 : Class := { plain "java/lang/Number" (some 0) with
  accessFlags := 1057
  interfaces := #[6]
  cf := some (fileOf pool12 8 #[] #[{ accessFlags := 1, nameIndex := 5, descriptorIndex := 6, attributes := #[] }] 1057 2 #[13] #[{ accessFlags := 26, nameIndex := 15, descriptorIndex := 16, attributes := #[] }])
  fields := #[{ name := "serialVersionUID", type := .long, accessFlags := 26, slot := 0, constantValue := 0 }]
  methods := #[k12m0]
  instanceTypes := #[]
  staticTypes := #[.long]
  resolved := Array.replicate 37 none
  statics := none }

def pool13 : Array CpInfo := pool [(1, .class_ 2), (0, u "java/lang/constant/ConstantDesc"), (0, .class_ 4), (0, u "java/lang/Object")] 32

/-- java/lang/constant/ConstantDesc -/
def k13 : Class := { plain "java/lang/constant/ConstantDesc" (some 0) with
  accessFlags := 1537
  interfaces := #[]
  cf := some (fileOf pool13 1 #[] #[] 1537 3 #[] #[])
  fields := #[]
  methods := #[]
  instanceTypes := #[]
  staticTypes := #[]
  resolved := Array.replicate 37 none
  statics := none }

def pool14 : Array CpInfo := pool [(1, .class_ 2), (0, u "java/lang/Long"), (15, .class_ 20), (1, u "java/lang/Integer"), (79, u "numberOfLeadingZeros"), (0, u "(J)I"), (133, .class_ 237), (1, u "java/lang/Long$LongCache"), (33, .class_ 272), (0, u "java/lang/Number"), (2, u "value"), (0, u "J"), (31, .methodref 18 309), (0, .nameAndType 100 310), (0, u "(I)I"), (0, .methodref 18 312), (0, .nameAndType 313 310), (0, u "numberOfTrailingZeros"), (47, u "TYPE"), (0, u "Ljava/lang/Class;"), (0, .class_ 364), (0, u "java/lang/Comparable"), (0, .class_ 366), (0, u "java/lang/constant/Constable"), (0, .class_ 368), (0, u "java/lang/constant/ConstantDesc"), (0, u "MIN_VALUE"), (1, u "MAX_VALUE"), (4, u "SIZE"), (0, u "I"), (1, u "BYTES"), (1, u "serialVersionUID")] 142

def k14c0 : Code := { maxStack := 3, maxLocals := 3, code := jdk_35_method_48_code, exceptionTable := #[], attributes := #[] }
def k14m0 : Method := { name := "numberOfLeadingZeros", desc := "(J)I", sig := { parameters := [.long], returnType := some .int }, accessFlags := 9, code := some k14c0 }
def k14c1 : Code := { maxStack := 4, maxLocals := 3, code := jdk_35_method_49_code, exceptionTable := #[], attributes := #[] }
def k14m1 : Method := { name := "numberOfTrailingZeros", desc := "(J)I", sig := { parameters := [.long], returnType := some .int }, accessFlags := 9, code := some k14c1 }
/-- java/lang/Long -/
def k14 : Class := { plain "java/lang/Long" (some 12) with
  accessFlags := 49
  interfaces := #[5, 4, 13]
  cf := some (fileOf pool14 1 #[.nestMembers #[235]] #[{ accessFlags := 9, nameIndex := 100, descriptorIndex := 101, attributes := #[] }, { accessFlags := 9, nameIndex := 313, descriptorIndex := 101, attributes := #[] }] 49 271 #[363, 365, 367] #[{ accessFlags := 25, nameIndex := 369, descriptorIndex := 276, attributes := #[] }, { accessFlags := 25, nameIndex := 371, descriptorIndex := 276, attributes := #[] }, { accessFlags := 25, nameIndex := 361, descriptorIndex := 362, attributes := #[] }, { accessFlags := 18, nameIndex := 275, descriptorIndex := 276, attributes := #[] }, { accessFlags := 25, nameIndex := 376, descriptorIndex := 377, attributes := #[] }, { accessFlags := 25, nameIndex := 379, descriptorIndex := 377, attributes := #[] }, { accessFlags := 26, nameIndex := 381, descriptorIndex := 276, attributes := #[] }])
  fields := #[{ name := "MIN_VALUE", type := .long, accessFlags := 25, slot := 0, constantValue := 0 }, { name := "MAX_VALUE", type := .long, accessFlags := 25, slot := 1, constantValue := 0 }, { name := "TYPE", type := (.object "java/lang/Class"), accessFlags := 25, slot := 2, constantValue := 0 }, { name := "value", type := .long, accessFlags := 18, slot := 0, constantValue := 0 }, { name := "SIZE", type := .int, accessFlags := 25, slot := 3, constantValue := 0 }, { name := "BYTES", type := .int, accessFlags := 25, slot := 4, constantValue := 0 }, { name := "serialVersionUID", type := .long, accessFlags := 26, slot := 5, constantValue := 0 }]
  methods := #[k14m0, k14m1]
  instanceTypes := #[.long]
  staticTypes := #[.long, .long, (.object "java/lang/Class"), .int, .int, .long]
  resolved := Array.replicate 524 none
  statics := none }

def pool15 : Array CpInfo := pool [(1, .class_ 2), (0, u "java/lang/Integer"), (16, u "digits"), (0, u "[C"), (32, u "numberOfLeadingZeros"), (0, u "(I)I"), (30, u "DigitOnes"), (0, u "[B"), (2, u "DigitTens"), (99, .class_ 190), (0, u "java/lang/Integer$IntegerCache"), (3, u "I"), (8, .class_ 204), (0, u "java/lang/Number"), (2, u "value"), (56, .integer 65536), (37, u "TYPE"), (0, u "Ljava/lang/Class;"), (0, .class_ 305), (0, u "java/lang/Comparable"), (0, .class_ 307), (0, u "java/lang/constant/Constable"), (0, .class_ 309), (0, u "java/lang/constant/ConstantDesc"), (0, u "MIN_VALUE"), (1, u "MAX_VALUE"), (3, u "SIZE"), (1, u "BYTES"), (1, u "serialVersionUID"), (0, u "J"), (84, u "numberOfTrailingZeros")] 46

def k15c0 : Code := { maxStack := 3, maxLocals := 2, code := jdk_33_method_47_code, exceptionTable := #[], attributes := #[] }
def k15m0 : Method := { name := "numberOfLeadingZeros", desc := "(I)I", sig := { parameters := [.int], returnType := some .int }, accessFlags := 9, code := some k15c0 }
def k15c1 : Code := { maxStack := 3, maxLocals := 2, code := jdk_33_method_48_code, exceptionTable := #[], attributes := #[] }
def k15m1 : Method := { name := "numberOfTrailingZeros", desc := "(I)I", sig := { parameters := [.int], returnType := some .int }, accessFlags := 9, code := some k15c1 }
/-- java/lang/Integer -/
def k15 : Class := { plain "java/lang/Integer" (some 12) with
  accessFlags := 49
  interfaces := #[5, 4, 13]
  cf := some (fileOf pool15 1 #[.nestMembers #[189]] #[{ accessFlags := 9, nameIndex := 53, descriptorIndex := 54, attributes := #[] }, { accessFlags := 9, nameIndex := 406, descriptorIndex := 54, attributes := #[] }] 49 203 #[304, 306, 308] #[{ accessFlags := 25, nameIndex := 310, descriptorIndex := 194, attributes := #[] }, { accessFlags := 25, nameIndex := 312, descriptorIndex := 194, attributes := #[] }, { accessFlags := 25, nameIndex := 302, descriptorIndex := 303, attributes := #[] }, { accessFlags := 24, nameIndex := 19, descriptorIndex := 20, attributes := #[] }, { accessFlags := 24, nameIndex := 89, descriptorIndex := 86, attributes := #[] }, { accessFlags := 24, nameIndex := 85, descriptorIndex := 86, attributes := #[] }, { accessFlags := 18, nameIndex := 207, descriptorIndex := 194, attributes := #[] }, { accessFlags := 25, nameIndex := 316, descriptorIndex := 194, attributes := #[] }, { accessFlags := 25, nameIndex := 318, descriptorIndex := 194, attributes := #[] }, { accessFlags := 26, nameIndex := 320, descriptorIndex := 321, attributes := #[] }])
  fields := #[{ name := "MIN_VALUE", type := .int, accessFlags := 25, slot := 0, constantValue := 0 }, { name := "MAX_VALUE", type := .int, accessFlags := 25, slot := 1, constantValue := 0 }, { name := "TYPE", type := (.object "java/lang/Class"), accessFlags := 25, slot := 2, constantValue := 0 }, { name := "digits", type := (.array .char), accessFlags := 24, slot := 3, constantValue := 0 }, { name := "DigitTens", type := (.array .byte), accessFlags := 24, slot := 4, constantValue := 0 }, { name := "DigitOnes", type := (.array .byte), accessFlags := 24, slot := 5, constantValue := 0 }, { name := "value", type := .int, accessFlags := 18, slot := 0, constantValue := 0 }, { name := "SIZE", type := .int, accessFlags := 25, slot := 6, constantValue := 0 }, { name := "BYTES", type := .int, accessFlags := 25, slot := 7, constantValue := 0 }, { name := "serialVersionUID", type := .long, accessFlags := 26, slot := 8, constantValue := 0 }]
  methods := #[k15m0, k15m1]
  instanceTypes := #[.int]
  staticTypes := #[.int, .int, (.object "java/lang/Class"), (.array .char), (.array .byte), (.array .byte), .int, .int, .long]
  resolved := Array.replicate 453 none
  statics := none }

def pool16 : Array CpInfo := pool [(2, .class_ 4), (1, u "java/lang/Object"), (0, u "<init>"), (0, u "()V"), (1, .class_ 10), (1, u "java/util/DualPivotQuicksort"), (0, u "sort"), (1, .methodref 14 15), (0, .class_ 16), (0, .nameAndType 17 18), (0, u "java/util/Arrays"), (0, u "rangeCheck"), (0, u "(III)V"), (0, .methodref 8 20), (0, .nameAndType 11 21), (0, u "([JIII)V"), (52, .class_ 76), (1, u "java/util/Arrays$NaturalOrder"), (36, .class_ 115), (1, u "java/util/Arrays$LegacyMergeSort"), (1, u "Z"), (32, .methodref 151 152), (0, .class_ 153), (0, .nameAndType 154 155), (0, u "java/lang/System"), (0, u "arraycopy"), (0, u "(Ljava/lang/Object;ILjava/lang/Object;II)V"), (146, u "copyOf"), (1, .methodref 305 306), (0, .class_ 307), (0, .nameAndType 308 309), (0, u "java/lang/Math"), (0, u "min"), (0, u "(II)I"), (65, .class_ 376), (0, u "java/util/Arrays$ArrayList"), (68, u "$assertionsDisabled"), (269, u "MIN_ARRAY_SORT_GRAN"), (0, u "I"), (2, u "INSERTIONSORT_THRESHOLD"), (12, u "([JII)V"), (139, u "([JI)[J"), (102, .class_ 976), (0, u "java/util/Arrays$ArrayItr")] 52

def k16m0 : Method := { name := "<init>", desc := "()V", sig := { parameters := [], returnType := none }, accessFlags := 2, code := none }
def k16c1 : Code := { maxStack := 4, maxLocals := 3, code := jdk_65_method_5_code, exceptionTable := #[], attributes := #[] }
def k16m1 : Method := { name := "sort", desc := "([JII)V", sig := { parameters := [(.array .long), .int, .int], returnType := none }, accessFlags := 9, code := some k16c1 }
def k16c2 : Code := { maxStack := 4, maxLocals := 3, code := jdk_65_method_30_code, exceptionTable := #[], attributes := #[] }
def k16m2 : Method := { name := "rangeCheck", desc := "(III)V", sig := { parameters := [.int, .int, .int], returnType := none }, accessFlags := 8, code := some k16c2 }
def k16c3 : Code := { maxStack := 6, maxLocals := 3, code := jdk_65_method_124_code, exceptionTable := #[], attributes := #[] }
def k16m3 : Method := { name := "copyOf", desc := "([JI)[J", sig := { parameters := [(.array .long), .int], returnType := some (.array .long) }, accessFlags := 9, code := some k16c3 }
/-- java/util/Arrays -/
def k16 : Class := { plain "java/util/Arrays" (some 0) with
  accessFlags := 49
  interfaces := #[]
  cf := some (fileOf pool16 14 #[.nestMembers #[975, 375, 113, 74]] #[{ accessFlags := 2, nameIndex := 5, descriptorIndex := 6, attributes := #[] }, { accessFlags := 9, nameIndex := 11, descriptorIndex := 732, attributes := #[] }, { accessFlags := 8, nameIndex := 17, descriptorIndex := 18, attributes := #[] }, { accessFlags := 9, nameIndex := 302, descriptorIndex := 872, attributes := #[] }] 49 2 #[] #[{ accessFlags := 26, nameIndex := 715, descriptorIndex := 716, attributes := #[] }, { accessFlags := 26, nameIndex := 719, descriptorIndex := 716, attributes := #[] }, { accessFlags := 4120, nameIndex := 445, descriptorIndex := 117, attributes := #[] }])
  fields := #[{ name := "MIN_ARRAY_SORT_GRAN", type := .int, accessFlags := 26, slot := 0, constantValue := 0 }, { name := "INSERTIONSORT_THRESHOLD", type := .int, accessFlags := 26, slot := 1, constantValue := 0 }, { name := "$assertionsDisabled", type := .boolean, accessFlags := 4120, slot := 2, constantValue := 0 }]
  methods := #[k16m0, k16m1, k16m2, k16m3]
  instanceTypes := #[]
  staticTypes := #[.int, .int, .boolean]
  resolved := Array.replicate 1029 none
  statics := none }

def pool17 : Array CpInfo := pool [(1, .class_ 2), (0, u "java/util/DualPivotQuicksort"), (5, .class_ 10), (1, u "java/lang/Object"), (0, u "<init>"), (0, u "()V"), (4, .class_ 18), (0, u "java/util/DualPivotQuicksort$Sorter"), (9, u "sort"), (7, u "insertionSort"), (31, u "I"), (4, .class_ 74), (0, u "java/util/DualPivotQuicksort$RunMerger"), (10, .class_ 86), (0, u "java/util/DualPivotQuicksort$Merger"), (12, .methodref 1 100), (0, .nameAndType 28 101), (0, u "(Ljava/util/DualPivotQuicksort$Sorter;[JIII)V"), (2, u "([JIII)V"), (0, .methodref 1 106), (0, .nameAndType 36 107), (0, u "([JII)V"), (106, u "MAX_MIXED_INSERTION_SORT_SIZE"), (2, u "MAX_INSERTION_SORT_SIZE"), (1, u "MIN_PARALLEL_SORT_SIZE"), (1, u "MIN_TRY_MERGE_SIZE"), (0, u "MIN_FIRST_RUN_SIZE"), (1, u "MIN_FIRST_RUNS_FACTOR"), (1, u "MAX_RUN_CAPACITY"), (1, u "MIN_RUN_COUNT"), (1, u "MIN_PARALLEL_MERGE_PARTS_SIZE"), (0, u "MIN_BYTE_COUNTING_SORT_SIZE"), (1, u "MIN_SHORT_OR_CHAR_COUNTING_SORT_SIZE"), (1, u "DELTA"), (1, u "MAX_RECURSION_DEPTH"), (1, u "NUM_BYTE_VALUES"), (1, u "MAX_BYTE_INDEX"), (0, u "NUM_CHAR_VALUES"), (0, u "NUM_SHORT_VALUES"), (0, u "MAX_SHORT_INDEX")] 86

def k17m0 : Method := { name := "<init>", desc := "()V", sig := { parameters := [], returnType := none }, accessFlags := 2, code := none }
def k17c1 : Code := { maxStack := 9, maxLocals := 7, code := jdk_2529_method_12_code, exceptionTable := #[], attributes := #[] }
def k17m1 : Method := { name := "sort", desc := "([JIII)V", sig := { parameters := [(.array .long), .int, .int, .int], returnType := none }, accessFlags := 8, code := some k17c1 }
def k17c2 : Code := { maxStack := 6, maxLocals := 25, code := jdk_2529_method_13_code, exceptionTable := #[], attributes := #[] }
def k17m2 : Method := { name := "sort", desc := "(Ljava/util/DualPivotQuicksort$Sorter;[JIII)V", sig := { parameters := [(.object "java/util/DualPivotQuicksort$Sorter"), (.array .long), .int, .int, .int], returnType := none }, accessFlags := 8, code := some k17c2 }
def k17c3 : Code := { maxStack := 5, maxLocals := 7, code := jdk_2529_method_15_code, exceptionTable := #[], attributes := #[] }
def k17m3 : Method := { name := "insertionSort", desc := "([JII)V", sig := { parameters := [(.array .long), .int, .int], returnType := none }, accessFlags := 10, code := some k17c3 }
/-- java/util/DualPivotQuicksort -/
def k17 : Class := { plain "java/util/DualPivotQuicksort" (some 0) with
  accessFlags := 48
  interfaces := #[]
  cf := some (fileOf pool17 1 #[.nestMembers #[73, 85, 17]] #[{ accessFlags := 2, nameIndex := 11, descriptorIndex := 12, attributes := #[] }, { accessFlags := 8, nameIndex := 28, descriptorIndex := 104, attributes := #[] }, { accessFlags := 8, nameIndex := 28, descriptorIndex := 101, attributes := #[] }, { accessFlags := 10, nameIndex := 36, descriptorIndex := 107, attributes := #[] }] 48 8 #[] #[{ accessFlags := 26, nameIndex := 214, descriptorIndex := 68, attributes := #[] }, { accessFlags := 26, nameIndex := 217, descriptorIndex := 68, attributes := #[] }, { accessFlags := 26, nameIndex := 219, descriptorIndex := 68, attributes := #[] }, { accessFlags := 26, nameIndex := 221, descriptorIndex := 68, attributes := #[] }, { accessFlags := 26, nameIndex := 222, descriptorIndex := 68, attributes := #[] }, { accessFlags := 26, nameIndex := 224, descriptorIndex := 68, attributes := #[] }, { accessFlags := 26, nameIndex := 226, descriptorIndex := 68, attributes := #[] }, { accessFlags := 26, nameIndex := 228, descriptorIndex := 68, attributes := #[] }, { accessFlags := 26, nameIndex := 230, descriptorIndex := 68, attributes := #[] }, { accessFlags := 26, nameIndex := 231, descriptorIndex := 68, attributes := #[] }, { accessFlags := 26, nameIndex := 233, descriptorIndex := 68, attributes := #[] }, { accessFlags := 26, nameIndex := 235, descriptorIndex := 68, attributes := #[] }, { accessFlags := 26, nameIndex := 237, descriptorIndex := 68, attributes := #[] }, { accessFlags := 26, nameIndex := 239, descriptorIndex := 68, attributes := #[] }, { accessFlags := 26, nameIndex := 241, descriptorIndex := 68, attributes := #[] }, { accessFlags := 26, nameIndex := 242, descriptorIndex := 68, attributes := #[] }, { accessFlags := 26, nameIndex := 243, descriptorIndex := 68, attributes := #[] }, { accessFlags := 26, nameIndex := 244, descriptorIndex := 68, attributes := #[] }])
  fields := #[{ name := "MAX_MIXED_INSERTION_SORT_SIZE", type := .int, accessFlags := 26, slot := 0, constantValue := 0 }, { name := "MAX_INSERTION_SORT_SIZE", type := .int, accessFlags := 26, slot := 1, constantValue := 0 }, { name := "MIN_PARALLEL_SORT_SIZE", type := .int, accessFlags := 26, slot := 2, constantValue := 0 }, { name := "MIN_TRY_MERGE_SIZE", type := .int, accessFlags := 26, slot := 3, constantValue := 0 }, { name := "MIN_FIRST_RUN_SIZE", type := .int, accessFlags := 26, slot := 4, constantValue := 0 }, { name := "MIN_FIRST_RUNS_FACTOR", type := .int, accessFlags := 26, slot := 5, constantValue := 0 }, { name := "MAX_RUN_CAPACITY", type := .int, accessFlags := 26, slot := 6, constantValue := 0 }, { name := "MIN_RUN_COUNT", type := .int, accessFlags := 26, slot := 7, constantValue := 0 }, { name := "MIN_PARALLEL_MERGE_PARTS_SIZE", type := .int, accessFlags := 26, slot := 8, constantValue := 0 }, { name := "MIN_BYTE_COUNTING_SORT_SIZE", type := .int, accessFlags := 26, slot := 9, constantValue := 0 }, { name := "MIN_SHORT_OR_CHAR_COUNTING_SORT_SIZE", type := .int, accessFlags := 26, slot := 10, constantValue := 0 }, { name := "DELTA", type := .int, accessFlags := 26, slot := 11, constantValue := 0 }, { name := "MAX_RECURSION_DEPTH", type := .int, accessFlags := 26, slot := 12, constantValue := 0 }, { name := "NUM_BYTE_VALUES", type := .int, accessFlags := 26, slot := 13, constantValue := 0 }, { name := "MAX_BYTE_INDEX", type := .int, accessFlags := 26, slot := 14, constantValue := 0 }, { name := "NUM_CHAR_VALUES", type := .int, accessFlags := 26, slot := 15, constantValue := 0 }, { name := "NUM_SHORT_VALUES", type := .int, accessFlags := 26, slot := 16, constantValue := 0 }, { name := "MAX_SHORT_INDEX", type := .int, accessFlags := 26, slot := 17, constantValue := 0 }]
  methods := #[k17m0, k17m1, k17m2, k17m3]
  instanceTypes := #[]
  staticTypes := #[.int, .int, .int, .int, .int, .int, .int, .int, .int, .int, .int, .int, .int, .int, .int, .int, .int, .int]
  resolved := Array.replicate 331 none
  statics := none }

def pool18 : Array CpInfo := pool [(1, .class_ 2), (0, u "java/lang/Math"), (1, .class_ 6), (1, u "java/lang/Object"), (0, u "<init>"), (0, u "()V"), (89, .class_ 100), (1, u "java/lang/Math$RandomNumberGeneratorHolder"), (20, u "(JJ)J"), (50, u "negativeZeroFloatBits"), (0, u "J"), (2, u "negativeZeroDoubleBits"), (21, u "max"), (2, u "min"), (43, u "$assertionsDisabled"), (0, u "Z"), (88, u "(II)I"), (2, u "twoToTheDoubleScaleDown"), (0, u "D"), (4, u "twoToTheDoubleScaleUp"), (9, u "E"), (3, u "PI"), (2, u "TAU"), (2, u "DEGREES_TO_RADIANS"), (0, u "RADIANS_TO_DEGREES")] 94

def k18m0 : Method := { name := "<init>", desc := "()V", sig := { parameters := [], returnType := none }, accessFlags := 2, code := none }
def k18c1 : Code := { maxStack := 2, maxLocals := 2, code := jdk_29_method_65_code, exceptionTable := #[], attributes := #[] }
def k18m1 : Method := { name := "max", desc := "(II)I", sig := { parameters := [.int, .int], returnType := some .int }, accessFlags := 9, code := some k18c1 }
def k18c2 : Code := { maxStack := 2, maxLocals := 2, code := jdk_29_method_69_code, exceptionTable := #[], attributes := #[] }
def k18m2 : Method := { name := "min", desc := "(II)I", sig := { parameters := [.int, .int], returnType := some .int }, accessFlags := 9, code := some k18c2 }
def k18c3 : Code := { maxStack := 4, maxLocals := 4, code := jdk_29_method_70_code, exceptionTable := #[], attributes := #[] }
def k18m3 : Method := { name := "min", desc := "(JJ)J", sig := { parameters := [.long, .long], returnType := some .long }, accessFlags := 9, code := some k18c3 }
/-- java/lang/Math -/
def k18 : Class := { plain "java/lang/Math" (some 0) with
  accessFlags := 49
  interfaces := #[]
  cf := some (fileOf pool18 1 #[.nestMembers #[98]] #[{ accessFlags := 2, nameIndex := 7, descriptorIndex := 8, attributes := #[] }, { accessFlags := 9, nameIndex := 198, descriptorIndex := 335, attributes := #[] }, { accessFlags := 9, nameIndex := 201, descriptorIndex := 335, attributes := #[] }, { accessFlags := 9, nameIndex := 201, descriptorIndex := 121, attributes := #[] }] 49 4 #[] #[{ accessFlags := 25, nameIndex := 354, descriptorIndex := 339, attributes := #[] }, { accessFlags := 25, nameIndex := 358, descriptorIndex := 339, attributes := #[] }, { accessFlags := 25, nameIndex := 361, descriptorIndex := 339, attributes := #[] }, { accessFlags := 26, nameIndex := 364, descriptorIndex := 339, attributes := #[] }, { accessFlags := 26, nameIndex := 365, descriptorIndex := 339, attributes := #[] }, { accessFlags := 26, nameIndex := 172, descriptorIndex := 173, attributes := #[] }, { accessFlags := 26, nameIndex := 176, descriptorIndex := 173, attributes := #[] }, { accessFlags := 8, nameIndex := 344, descriptorIndex := 339, attributes := #[] }, { accessFlags := 8, nameIndex := 338, descriptorIndex := 339, attributes := #[] }, { accessFlags := 4120, nameIndex := 245, descriptorIndex := 246, attributes := #[] }])
  fields := #[{ name := "E", type := .double, accessFlags := 25, slot := 0, constantValue := 0 }, { name := "PI", type := .double, accessFlags := 25, slot := 1, constantValue := 0 }, { name := "TAU", type := .double, accessFlags := 25, slot := 2, constantValue := 0 }, { name := "DEGREES_TO_RADIANS", type := .double, accessFlags := 26, slot := 3, constantValue := 0 }, { name := "RADIANS_TO_DEGREES", type := .double, accessFlags := 26, slot := 4, constantValue := 0 }, { name := "negativeZeroFloatBits", type := .long, accessFlags := 26, slot := 5, constantValue := 0 }, { name := "negativeZeroDoubleBits", type := .long, accessFlags := 26, slot := 6, constantValue := 0 }, { name := "twoToTheDoubleScaleUp", type := .double, accessFlags := 8, slot := 7, constantValue := 0 }, { name := "twoToTheDoubleScaleDown", type := .double, accessFlags := 8, slot := 8, constantValue := 0 }, { name := "$assertionsDisabled", type := .boolean, accessFlags := 4120, slot := 9, constantValue := 0 }]
  methods := #[k18m0, k18m1, k18m2, k18m3]
  instanceTypes := #[]
  staticTypes := #[.double, .double, .double, .double, .double, .long, .long, .double, .double, .boolean]
  resolved := Array.replicate 460 none
  statics := none }

/-- the primitive byte -/
def k19 : Class := { plain "byte" none with kind := .primitive 'B', accessFlags := 0x411 }
/-- [B -/
def k20 : Class := { plain "[B" (some 0) with kind := .array 19 .byte, interfaces := #[10, 6], accessFlags := 1041 }

/-- the primitive int -/
def k21 : Class := { plain "int" none with kind := .primitive 'I', accessFlags := 0x411 }
/-- [I -/
def k22 : Class := { plain "[I" (some 0) with kind := .array 21 .int, interfaces := #[10, 6], accessFlags := 1041 }

/-- the primitive long -/
def k23 : Class := { plain "long" none with kind := .primitive 'J', accessFlags := 0x411 }
/-- [J -/
def k24 : Class := { plain "[J" (some 0) with kind := .array 23 .long, interfaces := #[10, 6], accessFlags := 1041 }

def heap : Heap := #[{ cls := 8, slots := #[.ref 2, .null, .null], vm := .statics 8 },
  { cls := 11, slots := #[.int 0, .int 0, .int 0, .long 0, .null, .long 0, .int 1], vm := .statics 11 },
  { cls := 8, slots := #[.null, .int 0, .int 0], vm := .none }]
def classes : Array Class := #[k0, k1, k2, k3, k4, k5, k6, k7, k8, k9, k10, k11, k12, k13, k14, k15, k16, k17, k18, k19, k20, k21, k22, k23, k24]
def interned : List (Array UInt16 × Addr) := []
def slotsUsed : Nat := 13
def theMethod : MethodId := ⟨1, 1⟩
def args0 : Array Value := #[.long 5, .long 6, .long 7]
def aboutOver (below : List Frame) : State where
  vm := { classes := classes, interned := interned.toArray }
  heap := heap
  slotsUsed := slotsUsed
  threads := #[{ frames := .invoking theMethod args0 :: below }]
def below0 : List Frame := [.native { method := ⟨0, 0⟩, args := #[] }]
def about1 : State := aboutOver below0
def p0 : Program := .bare "" "" ""
def e0 : Env := launch0.env 0 0 0
theorem w_frames : about1.frames = Frame.invoking theMethod args0 :: below0 := rfl
set_option maxRecDepth 65536 in
theorem w_args : argsFit about1.vm theMethod args0 = true := by decide +kernel
set_option maxRecDepth 65536 in
theorem w_heap : heapFits about1 = true := by decide +kernel
set_option maxRecDepth 65536 in
theorem w_runnable : about1.curStatus? = some .runnable := by decide +kernel
set_option maxRecDepth 65536 in
theorem w_alone : about1.alone = true := by decide +kernel
set_option maxRecDepth 65536 in
theorem w_named : about1.methodNamed? x = some theMethod := by decide +kernel
set_option maxRecDepth 65536 in
theorem w_hears : about1.hears theMethod below0 = true := by decide +kernel
set_option maxRecDepth 65536 in
theorem w_ripe : about1.ripe theMethod args0 below0 = true := by decide +kernel
theorem w_running : about1.status = .running := rfl
set_option maxRecDepth 65536 in
theorem w_room : about1.hasRoom e0.platform room_1 = true :=
  launch0.hasRoom_least _ room_1 (by decide +kernel) (by decide +kernel) (by decide +kernel) (by decide +kernel) (by decide +kernel) (by decide +kernel)
theorem allAtoms_all (ts : List Jvm.Cond) (a : Array Jvm.Value) (st : Jvm.State) : (allAtoms ts).before a st = ts.all (fun c => c.before a st) := by
  induction ts with
  | nil => rfl
  | cons c t ih =>
    show (Jvm.Cond.and c (allAtoms t)).before a st = _
    rw [Jvm.Cond.before_and, ih, List.all_cons]
def words1 : List Jvm.Cond := Jvm.Cond.code x code maxLocals ret :: tables_1
/-- a 'code' word, met by the world's own term for the bytes: nothing is compared byte by byte -/
theorem code_word {y : MethodName} {bytes : ByteArray} {mx : Nat} {rt : Option FieldType} {a : Array Value} {s : State} {m : MethodId} {meth : Method} {c : Code} (h1 : s.methodNamed? y = some m) (h2 : s.vm.method? m = some meth) (h3 : meth.code = some c) (h4 : c.code = bytes)
    (h5 : (c.maxLocals == mx && c.exceptionTable.isEmpty && decide (c.maxStack ≤ mostOperands) && decide (meth.sig.returnType = rt) && !meth.locks && decide (parseMethodDescriptor y.desc = some meth.sig)) = true) : (Jvm.Cond.code y bytes mx rt).before a s = true := by
  simp only [Bool.and_eq_true, beq_iff_eq, Bool.not_eq_true', decide_eq_true_eq] at h5
  obtain ⟨⟨⟨⟨⟨g1, g2⟩, g3⟩, g4⟩, g5⟩, g6⟩ := h5
  simp [Cond.before, Cond.holds, Cond.value, h1, h2, h3, h4, g1, g2, g3, g4, g5, g6]
def isCode : Jvm.Cond → Bool
  | .code _ _ _ _ => true
  | _ => false
theorem all_split {L : List Jvm.Cond} {P : Jvm.Cond → Bool} (h1 : L.all (fun c => isCode c || P c) = true) (h2 : ∀ c ∈ L.filter isCode, P c = true) : L.all P = true := by
  refine List.all_eq_true.mpr fun c hc => ?_
  have h := List.all_eq_true.mp h1 c hc
  rcases Bool.eq_false_or_eq_true (isCode c) with hi | hi
  · exact h2 c (List.mem_filter.mpr ⟨hc, hi⟩)
  · simpa [hi] using h
set_option maxRecDepth 65536 in
theorem w_c0 : (Jvm.Cond.code x code maxLocals ret).before args0 about1 = true := code_word (m := ⟨1, 1⟩) (meth := k1m1) (c := k1c1) (by decide +kernel) rfl rfl rfl (by decide +kernel)
set_option maxRecDepth 65536 in
theorem w_c1 : (Jvm.Cond.code ({ cls := "com/example/centile/centile/function/Keys", name := "<init>", desc := "()V" } : Jvm.MethodName) prog_11_method_1_code (1 : Nat) (Option.none : Option Jvm.ClassFile.FieldType)).before args0 about1 = true := code_word (m := ⟨2, 0⟩) (meth := k2m0) (c := k2c0) (by decide +kernel) rfl rfl rfl (by decide +kernel)
set_option maxRecDepth 65536 in
theorem w_c2 : (Jvm.Cond.code ({ cls := "java/lang/Object", name := "<init>", desc := "()V" } : Jvm.MethodName) object_method_1_code (1 : Nat) (Option.none : Option Jvm.ClassFile.FieldType)).before args0 about1 = true := code_word (m := ⟨0, 0⟩) (meth := k0m0) (c := k0c0) (by decide +kernel) rfl rfl rfl (by decide +kernel)
set_option maxRecDepth 65536 in
theorem w_c3 : (Jvm.Cond.code ({ cls := "com/example/centile/centile/function/Keys", name := "add", desc := "(J)V" } : Jvm.MethodName) prog_11_method_4_code (3 : Nat) (Option.none : Option Jvm.ClassFile.FieldType)).before args0 about1 = true := code_word (m := ⟨2, 3⟩) (meth := k2m3) (c := k2c3) (by decide +kernel) rfl rfl rfl (by decide +kernel)
set_option maxRecDepth 65536 in
theorem w_c4 : (Jvm.Cond.code ({ cls := "com/example/centile/centile/function/Keys", name := "ensureRoom", desc := "(I)V" } : Jvm.MethodName) prog_11_method_7_code (4 : Nat) (Option.none : Option Jvm.ClassFile.FieldType)).before args0 about1 = true := code_word (m := ⟨2, 6⟩) (meth := k2m6) (c := k2c6) (by decide +kernel) rfl rfl rfl (by decide +kernel)
set_option maxRecDepth 65536 in
theorem w_c5 : (Jvm.Cond.code ({ cls := "com/example/centile/centile/function/Keys", name := "addAll", desc := "(Lcom/example/centile/centile/function/Keys;)V" } : Jvm.MethodName) prog_11_method_5_code (3 : Nat) (Option.none : Option Jvm.ClassFile.FieldType)).before args0 about1 = true := code_word (m := ⟨2, 4⟩) (meth := k2m4) (c := k2c4) (by decide +kernel) rfl rfl rfl (by decide +kernel)
set_option maxRecDepth 65536 in
theorem w_c6 : (Jvm.Cond.code ({ cls := "com/example/centile/centile/function/Keys", name := "at", desc := "(ILcom/example/centile/centile/function/Order;)J" } : Jvm.MethodName) prog_11_method_6_code (4 : Nat) (Option.some Jvm.ClassFile.FieldType.long)).before args0 about1 = true := code_word (m := ⟨2, 5⟩) (meth := k2m5) (c := k2c5) (by decide +kernel) rfl rfl rfl (by decide +kernel)
set_option maxRecDepth 65536 in
theorem w_c7 : (Jvm.Cond.code ({ cls := "com/example/centile/centile/function/Selection", name := "<init>", desc := "([JI)V" } : Jvm.MethodName) prog_15_method_1_code (3 : Nat) (Option.none : Option Jvm.ClassFile.FieldType)).before args0 about1 = true := code_word (m := ⟨9, 0⟩) (meth := k9m0) (c := k9c0) (by decide +kernel) rfl rfl rfl (by decide +kernel)
set_option maxRecDepth 65536 in
theorem w_c8 : (Jvm.Cond.code ({ cls := "java/util/BitSet", name := "<init>", desc := "(I)V" } : Jvm.MethodName) jdk_92_method_5_code (2 : Nat) (Option.none : Option Jvm.ClassFile.FieldType)).before args0 about1 = true := code_word (m := ⟨11, 3⟩) (meth := k11m3) (c := k11c3) (by decide +kernel) rfl rfl rfl (by decide +kernel)
set_option maxRecDepth 65536 in
theorem w_c9 : (Jvm.Cond.code ({ cls := "java/util/BitSet", name := "initWords", desc := "(I)V" } : Jvm.MethodName) jdk_92_method_6_code (2 : Nat) (Option.none : Option Jvm.ClassFile.FieldType)).before args0 about1 = true := code_word (m := ⟨11, 4⟩) (meth := k11m4) (c := k11c4) (by decide +kernel) rfl rfl rfl (by decide +kernel)
set_option maxRecDepth 65536 in
theorem w_c10 : (Jvm.Cond.code ({ cls := "java/util/BitSet", name := "wordIndex", desc := "(I)I" } : Jvm.MethodName) jdk_92_method_1_code (1 : Nat) (Option.some Jvm.ClassFile.FieldType.int)).before args0 about1 = true := code_word (m := ⟨11, 0⟩) (meth := k11m0) (c := k11c0) (by decide +kernel) rfl rfl rfl (by decide +kernel)
set_option maxRecDepth 65536 in
theorem w_c11 : (Jvm.Cond.code ({ cls := "java/util/BitSet", name := "set", desc := "(I)V" } : Jvm.MethodName) jdk_92_method_19_code (3 : Nat) (Option.none : Option Jvm.ClassFile.FieldType)).before args0 about1 = true := code_word (m := ⟨11, 8⟩) (meth := k11m8) (c := k11c8) (by decide +kernel) rfl rfl rfl (by decide +kernel)
set_option maxRecDepth 65536 in
theorem w_c12 : (Jvm.Cond.code ({ cls := "java/util/BitSet", name := "expandTo", desc := "(I)V" } : Jvm.MethodName) jdk_92_method_15_code (3 : Nat) (Option.none : Option Jvm.ClassFile.FieldType)).before args0 about1 = true := code_word (m := ⟨11, 6⟩) (meth := k11m6) (c := k11c6) (by decide +kernel) rfl rfl rfl (by decide +kernel)
set_option maxRecDepth 65536 in
theorem w_c13 : (Jvm.Cond.code ({ cls := "java/util/BitSet", name := "ensureCapacity", desc := "(I)V" } : Jvm.MethodName) jdk_92_method_14_code (3 : Nat) (Option.none : Option Jvm.ClassFile.FieldType)).before args0 about1 = true := code_word (m := ⟨11, 5⟩) (meth := k11m5) (c := k11c5) (by decide +kernel) rfl rfl rfl (by decide +kernel)
set_option maxRecDepth 65536 in
theorem w_c14 : (Jvm.Cond.code ({ cls := "java/util/BitSet", name := "checkInvariants", desc := "()V" } : Jvm.MethodName) jdk_92_method_2_code (1 : Nat) (Option.none : Option Jvm.ClassFile.FieldType)).before args0 about1 = true := code_word (m := ⟨11, 1⟩) (meth := k11m1) (c := k11c1) (by decide +kernel) rfl rfl rfl (by decide +kernel)
set_option maxRecDepth 65536 in
theorem w_c15 : (Jvm.Cond.code ({ cls := "com/example/centile/centile/function/Selection", name := "valueAt", desc := "(I)J" } : Jvm.MethodName) prog_15_method_2_code (2 : Nat) (Option.some Jvm.ClassFile.FieldType.long)).before args0 about1 = true := code_word (m := ⟨9, 1⟩) (meth := k9m1) (c := k9c1) (by decide +kernel) rfl rfl rfl (by decide +kernel)
set_option maxRecDepth 65536 in
theorem w_c16 : (Jvm.Cond.code ({ cls := "com/example/centile/centile/function/Selection", name := "settle", desc := "(I)V" } : Jvm.MethodName) prog_15_method_3_code (12 : Nat) (Option.none : Option Jvm.ClassFile.FieldType)).before args0 about1 = true := code_word (m := ⟨9, 2⟩) (meth := k9m2) (c := k9c2) (by decide +kernel) rfl rfl rfl (by decide +kernel)
set_option maxRecDepth 65536 in
theorem w_c17 : (Jvm.Cond.code ({ cls := "java/util/BitSet", name := "get", desc := "(I)Z" } : Jvm.MethodName) jdk_92_method_26_code (3 : Nat) (Option.some Jvm.ClassFile.FieldType.boolean)).before args0 about1 = true := code_word (m := ⟨11, 10⟩) (meth := k11m10) (c := k11c10) (by decide +kernel) rfl rfl rfl (by decide +kernel)
set_option maxRecDepth 65536 in
theorem w_c18 : (Jvm.Cond.code ({ cls := "java/util/BitSet", name := "previousSetBit", desc := "(I)I" } : Jvm.MethodName) jdk_92_method_30_code (5 : Nat) (Option.some Jvm.ClassFile.FieldType.int)).before args0 about1 = true := code_word (m := ⟨11, 12⟩) (meth := k11m12) (c := k11c12) (by decide +kernel) rfl rfl rfl (by decide +kernel)
set_option maxRecDepth 65536 in
theorem w_c19 : (Jvm.Cond.code ({ cls := "java/lang/Long", name := "numberOfLeadingZeros", desc := "(J)I" } : Jvm.MethodName) jdk_35_method_48_code (3 : Nat) (Option.some Jvm.ClassFile.FieldType.int)).before args0 about1 = true := code_word (m := ⟨14, 0⟩) (meth := k14m0) (c := k14c0) (by decide +kernel) rfl rfl rfl (by decide +kernel)
set_option maxRecDepth 65536 in
theorem w_c20 : (Jvm.Cond.code ({ cls := "java/lang/Integer", name := "numberOfLeadingZeros", desc := "(I)I" } : Jvm.MethodName) jdk_33_method_47_code (2 : Nat) (Option.some Jvm.ClassFile.FieldType.int)).before args0 about1 = true := code_word (m := ⟨15, 0⟩) (meth := k15m0) (c := k15c0) (by decide +kernel) rfl rfl rfl (by decide +kernel)
set_option maxRecDepth 65536 in
theorem w_c21 : (Jvm.Cond.code ({ cls := "java/util/BitSet", name := "nextSetBit", desc := "(I)I" } : Jvm.MethodName) jdk_92_method_28_code (5 : Nat) (Option.some Jvm.ClassFile.FieldType.int)).before args0 about1 = true := code_word (m := ⟨11, 11⟩) (meth := k11m11) (c := k11c11) (by decide +kernel) rfl rfl rfl (by decide +kernel)
set_option maxRecDepth 65536 in
theorem w_c22 : (Jvm.Cond.code ({ cls := "java/lang/Long", name := "numberOfTrailingZeros", desc := "(J)I" } : Jvm.MethodName) jdk_35_method_49_code (3 : Nat) (Option.some Jvm.ClassFile.FieldType.int)).before args0 about1 = true := code_word (m := ⟨14, 1⟩) (meth := k14m1) (c := k14c1) (by decide +kernel) rfl rfl rfl (by decide +kernel)
set_option maxRecDepth 65536 in
theorem w_c23 : (Jvm.Cond.code ({ cls := "java/lang/Integer", name := "numberOfTrailingZeros", desc := "(I)I" } : Jvm.MethodName) jdk_33_method_48_code (2 : Nat) (Option.some Jvm.ClassFile.FieldType.int)).before args0 about1 = true := code_word (m := ⟨15, 1⟩) (meth := k15m1) (c := k15c1) (by decide +kernel) rfl rfl rfl (by decide +kernel)
set_option maxRecDepth 65536 in
theorem w_c24 : (Jvm.Cond.code ({ cls := "java/util/Arrays", name := "sort", desc := "([JII)V" } : Jvm.MethodName) jdk_65_method_5_code (3 : Nat) (Option.none : Option Jvm.ClassFile.FieldType)).before args0 about1 = true := code_word (m := ⟨16, 1⟩) (meth := k16m1) (c := k16c1) (by decide +kernel) rfl rfl rfl (by decide +kernel)
set_option maxRecDepth 65536 in
theorem w_c25 : (Jvm.Cond.code ({ cls := "java/util/Arrays", name := "rangeCheck", desc := "(III)V" } : Jvm.MethodName) jdk_65_method_30_code (3 : Nat) (Option.none : Option Jvm.ClassFile.FieldType)).before args0 about1 = true := code_word (m := ⟨16, 2⟩) (meth := k16m2) (c := k16c2) (by decide +kernel) rfl rfl rfl (by decide +kernel)
set_option maxRecDepth 65536 in
theorem w_c26 : (Jvm.Cond.code ({ cls := "java/util/DualPivotQuicksort", name := "sort", desc := "([JIII)V" } : Jvm.MethodName) jdk_2529_method_12_code (7 : Nat) (Option.none : Option Jvm.ClassFile.FieldType)).before args0 about1 = true := code_word (m := ⟨17, 1⟩) (meth := k17m1) (c := k17c1) (by decide +kernel) rfl rfl rfl (by decide +kernel)
set_option maxRecDepth 65536 in
theorem w_c27 : (Jvm.Cond.code ({ cls := "java/util/DualPivotQuicksort", name := "sort", desc := "(Ljava/util/DualPivotQuicksort$Sorter;[JIII)V" } : Jvm.MethodName) jdk_2529_method_13_code (25 : Nat) (Option.none : Option Jvm.ClassFile.FieldType)).before args0 about1 = true := code_word (m := ⟨17, 2⟩) (meth := k17m2) (c := k17c2) (by decide +kernel) rfl rfl rfl (by decide +kernel)
set_option maxRecDepth 65536 in
theorem w_c28 : (Jvm.Cond.code ({ cls := "java/util/DualPivotQuicksort", name := "insertionSort", desc := "([JII)V" } : Jvm.MethodName) jdk_2529_method_15_code (7 : Nat) (Option.none : Option Jvm.ClassFile.FieldType)).before args0 about1 = true := code_word (m := ⟨17, 3⟩) (meth := k17m3) (c := k17c3) (by decide +kernel) rfl rfl rfl (by decide +kernel)
set_option maxRecDepth 65536 in
theorem w_c29 : (Jvm.Cond.code ({ cls := "java/util/BitSet", name := "set", desc := "(II)V" } : Jvm.MethodName) jdk_92_method_21_code (10 : Nat) (Option.none : Option Jvm.ClassFile.FieldType)).before args0 about1 = true := code_word (m := ⟨11, 9⟩) (meth := k11m9) (c := k11c9) (by decide +kernel) rfl rfl rfl (by decide +kernel)
set_option maxRecDepth 65536 in
theorem w_c30 : (Jvm.Cond.code ({ cls := "java/util/BitSet", name := "checkRange", desc := "(II)V" } : Jvm.MethodName) jdk_92_method_16_code (2 : Nat) (Option.none : Option Jvm.ClassFile.FieldType)).before args0 about1 = true := code_word (m := ⟨11, 7⟩) (meth := k11m7) (c := k11c7) (by decide +kernel) rfl rfl rfl (by decide +kernel)
set_option maxRecDepth 65536 in
theorem w_c31 : (Jvm.Cond.code ({ cls := "java/lang/Math", name := "max", desc := "(II)I" } : Jvm.MethodName) jdk_29_method_65_code (2 : Nat) (Option.some Jvm.ClassFile.FieldType.int)).before args0 about1 = true := code_word (m := ⟨18, 1⟩) (meth := k18m1) (c := k18c1) (by decide +kernel) rfl rfl rfl (by decide +kernel)
set_option maxRecDepth 65536 in
theorem w_c32 : (Jvm.Cond.code ({ cls := "java/util/Arrays", name := "copyOf", desc := "([JI)[J" } : Jvm.MethodName) jdk_65_method_124_code (3 : Nat) (Option.some (Jvm.ClassFile.FieldType.array Jvm.ClassFile.FieldType.long))).before args0 about1 = true := code_word (m := ⟨16, 3⟩) (meth := k16m3) (c := k16c3) (by decide +kernel) rfl rfl rfl (by decide +kernel)
set_option maxRecDepth 65536 in
theorem w_c33 : (Jvm.Cond.code ({ cls := "java/lang/Math", name := "min", desc := "(II)I" } : Jvm.MethodName) jdk_29_method_69_code (2 : Nat) (Option.some Jvm.ClassFile.FieldType.int)).before args0 about1 = true := code_word (m := ⟨18, 2⟩) (meth := k18m2) (c := k18c2) (by decide +kernel) rfl rfl rfl (by decide +kernel)
set_option maxRecDepth 65536 in
theorem w_c34 : (Jvm.Cond.code ({ cls := "com/example/centile/centile/function/Keys", name := "size", desc := "()I" } : Jvm.MethodName) prog_11_method_2_code (1 : Nat) (Option.some Jvm.ClassFile.FieldType.int)).before args0 about1 = true := code_word (m := ⟨2, 1⟩) (meth := k2m1) (c := k2c1) (by decide +kernel) rfl rfl rfl (by decide +kernel)
set_option maxRecDepth 65536 in
theorem w_c35 : (Jvm.Cond.code ({ cls := "com/example/centile/centile/function/Keys", name := "get", desc := "(I)J" } : Jvm.MethodName) prog_11_method_3_code (2 : Nat) (Option.some Jvm.ClassFile.FieldType.long)).before args0 about1 = true := code_word (m := ⟨2, 2⟩) (meth := k2m2) (c := k2c2) (by decide +kernel) rfl rfl rfl (by decide +kernel)
set_option maxRecDepth 65536 in
theorem w_c36 : (Jvm.Cond.code ({ cls := "java/lang/Math", name := "min", desc := "(JJ)J" } : Jvm.MethodName) jdk_29_method_70_code (4 : Nat) (Option.some Jvm.ClassFile.FieldType.long)).before args0 about1 = true := code_word (m := ⟨18, 3⟩) (meth := k18m3) (c := k18c3) (by decide +kernel) rfl rfl rfl (by decide +kernel)
def codes1 : List Jvm.Cond := [Jvm.Cond.code x code maxLocals ret, Jvm.Cond.code ({ cls := "com/example/centile/centile/function/Keys", name := "<init>", desc := "()V" } : Jvm.MethodName) prog_11_method_1_code (1 : Nat) (Option.none : Option Jvm.ClassFile.FieldType), Jvm.Cond.code ({ cls := "java/lang/Object", name := "<init>", desc := "()V" } : Jvm.MethodName) object_method_1_code (1 : Nat) (Option.none : Option Jvm.ClassFile.FieldType), Jvm.Cond.code ({ cls := "com/example/centile/centile/function/Keys", name := "add", desc := "(J)V" } : Jvm.MethodName) prog_11_method_4_code (3 : Nat) (Option.none : Option Jvm.ClassFile.FieldType), Jvm.Cond.code ({ cls := "com/example/centile/centile/function/Keys", name := "ensureRoom", desc := "(I)V" } : Jvm.MethodName) prog_11_method_7_code (4 : Nat) (Option.none : Option Jvm.ClassFile.FieldType), Jvm.Cond.code ({ cls := "com/example/centile/centile/function/Keys", name := "addAll", desc := "(Lcom/example/centile/centile/function/Keys;)V" } : Jvm.MethodName) prog_11_method_5_code (3 : Nat) (Option.none : Option Jvm.ClassFile.FieldType), Jvm.Cond.code ({ cls := "com/example/centile/centile/function/Keys", name := "at", desc := "(ILcom/example/centile/centile/function/Order;)J" } : Jvm.MethodName) prog_11_method_6_code (4 : Nat) (Option.some Jvm.ClassFile.FieldType.long), Jvm.Cond.code ({ cls := "com/example/centile/centile/function/Selection", name := "<init>", desc := "([JI)V" } : Jvm.MethodName) prog_15_method_1_code (3 : Nat) (Option.none : Option Jvm.ClassFile.FieldType), Jvm.Cond.code ({ cls := "java/util/BitSet", name := "<init>", desc := "(I)V" } : Jvm.MethodName) jdk_92_method_5_code (2 : Nat) (Option.none : Option Jvm.ClassFile.FieldType), Jvm.Cond.code ({ cls := "java/util/BitSet", name := "initWords", desc := "(I)V" } : Jvm.MethodName) jdk_92_method_6_code (2 : Nat) (Option.none : Option Jvm.ClassFile.FieldType), Jvm.Cond.code ({ cls := "java/util/BitSet", name := "wordIndex", desc := "(I)I" } : Jvm.MethodName) jdk_92_method_1_code (1 : Nat) (Option.some Jvm.ClassFile.FieldType.int), Jvm.Cond.code ({ cls := "java/util/BitSet", name := "set", desc := "(I)V" } : Jvm.MethodName) jdk_92_method_19_code (3 : Nat) (Option.none : Option Jvm.ClassFile.FieldType), Jvm.Cond.code ({ cls := "java/util/BitSet", name := "expandTo", desc := "(I)V" } : Jvm.MethodName) jdk_92_method_15_code (3 : Nat) (Option.none : Option Jvm.ClassFile.FieldType), Jvm.Cond.code ({ cls := "java/util/BitSet", name := "ensureCapacity", desc := "(I)V" } : Jvm.MethodName) jdk_92_method_14_code (3 : Nat) (Option.none : Option Jvm.ClassFile.FieldType), Jvm.Cond.code ({ cls := "java/util/BitSet", name := "checkInvariants", desc := "()V" } : Jvm.MethodName) jdk_92_method_2_code (1 : Nat) (Option.none : Option Jvm.ClassFile.FieldType), Jvm.Cond.code ({ cls := "com/example/centile/centile/function/Selection", name := "valueAt", desc := "(I)J" } : Jvm.MethodName) prog_15_method_2_code (2 : Nat) (Option.some Jvm.ClassFile.FieldType.long), Jvm.Cond.code ({ cls := "com/example/centile/centile/function/Selection", name := "settle", desc := "(I)V" } : Jvm.MethodName) prog_15_method_3_code (12 : Nat) (Option.none : Option Jvm.ClassFile.FieldType), Jvm.Cond.code ({ cls := "java/util/BitSet", name := "get", desc := "(I)Z" } : Jvm.MethodName) jdk_92_method_26_code (3 : Nat) (Option.some Jvm.ClassFile.FieldType.boolean), Jvm.Cond.code ({ cls := "java/util/BitSet", name := "previousSetBit", desc := "(I)I" } : Jvm.MethodName) jdk_92_method_30_code (5 : Nat) (Option.some Jvm.ClassFile.FieldType.int), Jvm.Cond.code ({ cls := "java/lang/Long", name := "numberOfLeadingZeros", desc := "(J)I" } : Jvm.MethodName) jdk_35_method_48_code (3 : Nat) (Option.some Jvm.ClassFile.FieldType.int), Jvm.Cond.code ({ cls := "java/lang/Integer", name := "numberOfLeadingZeros", desc := "(I)I" } : Jvm.MethodName) jdk_33_method_47_code (2 : Nat) (Option.some Jvm.ClassFile.FieldType.int), Jvm.Cond.code ({ cls := "java/util/BitSet", name := "nextSetBit", desc := "(I)I" } : Jvm.MethodName) jdk_92_method_28_code (5 : Nat) (Option.some Jvm.ClassFile.FieldType.int), Jvm.Cond.code ({ cls := "java/lang/Long", name := "numberOfTrailingZeros", desc := "(J)I" } : Jvm.MethodName) jdk_35_method_49_code (3 : Nat) (Option.some Jvm.ClassFile.FieldType.int), Jvm.Cond.code ({ cls := "java/lang/Integer", name := "numberOfTrailingZeros", desc := "(I)I" } : Jvm.MethodName) jdk_33_method_48_code (2 : Nat) (Option.some Jvm.ClassFile.FieldType.int), Jvm.Cond.code ({ cls := "java/util/Arrays", name := "sort", desc := "([JII)V" } : Jvm.MethodName) jdk_65_method_5_code (3 : Nat) (Option.none : Option Jvm.ClassFile.FieldType), Jvm.Cond.code ({ cls := "java/util/Arrays", name := "rangeCheck", desc := "(III)V" } : Jvm.MethodName) jdk_65_method_30_code (3 : Nat) (Option.none : Option Jvm.ClassFile.FieldType), Jvm.Cond.code ({ cls := "java/util/DualPivotQuicksort", name := "sort", desc := "([JIII)V" } : Jvm.MethodName) jdk_2529_method_12_code (7 : Nat) (Option.none : Option Jvm.ClassFile.FieldType), Jvm.Cond.code ({ cls := "java/util/DualPivotQuicksort", name := "sort", desc := "(Ljava/util/DualPivotQuicksort$Sorter;[JIII)V" } : Jvm.MethodName) jdk_2529_method_13_code (25 : Nat) (Option.none : Option Jvm.ClassFile.FieldType), Jvm.Cond.code ({ cls := "java/util/DualPivotQuicksort", name := "insertionSort", desc := "([JII)V" } : Jvm.MethodName) jdk_2529_method_15_code (7 : Nat) (Option.none : Option Jvm.ClassFile.FieldType), Jvm.Cond.code ({ cls := "java/util/BitSet", name := "set", desc := "(II)V" } : Jvm.MethodName) jdk_92_method_21_code (10 : Nat) (Option.none : Option Jvm.ClassFile.FieldType), Jvm.Cond.code ({ cls := "java/util/BitSet", name := "checkRange", desc := "(II)V" } : Jvm.MethodName) jdk_92_method_16_code (2 : Nat) (Option.none : Option Jvm.ClassFile.FieldType), Jvm.Cond.code ({ cls := "java/lang/Math", name := "max", desc := "(II)I" } : Jvm.MethodName) jdk_29_method_65_code (2 : Nat) (Option.some Jvm.ClassFile.FieldType.int), Jvm.Cond.code ({ cls := "java/util/Arrays", name := "copyOf", desc := "([JI)[J" } : Jvm.MethodName) jdk_65_method_124_code (3 : Nat) (Option.some (Jvm.ClassFile.FieldType.array Jvm.ClassFile.FieldType.long)), Jvm.Cond.code ({ cls := "java/lang/Math", name := "min", desc := "(II)I" } : Jvm.MethodName) jdk_29_method_69_code (2 : Nat) (Option.some Jvm.ClassFile.FieldType.int), Jvm.Cond.code ({ cls := "com/example/centile/centile/function/Keys", name := "size", desc := "()I" } : Jvm.MethodName) prog_11_method_2_code (1 : Nat) (Option.some Jvm.ClassFile.FieldType.int), Jvm.Cond.code ({ cls := "com/example/centile/centile/function/Keys", name := "get", desc := "(I)J" } : Jvm.MethodName) prog_11_method_3_code (2 : Nat) (Option.some Jvm.ClassFile.FieldType.long), Jvm.Cond.code ({ cls := "java/lang/Math", name := "min", desc := "(JJ)J" } : Jvm.MethodName) jdk_29_method_70_code (4 : Nat) (Option.some Jvm.ClassFile.FieldType.long)]
set_option maxRecDepth 65536 in
theorem codes_eq : words1.filter isCode = codes1 := rfl
theorem w_codes : ∀ c ∈ words1.filter isCode, c.before args0 about1 = true := by
  rw [codes_eq]
  intro c hc
  simp only [codes1, List.mem_cons, List.not_mem_nil, or_false] at hc
  rcases hc with rfl | rfl | rfl | rfl | rfl | rfl | rfl | rfl | rfl | rfl | rfl | rfl | rfl | rfl | rfl | rfl | rfl | rfl | rfl | rfl | rfl | rfl | rfl | rfl | rfl | rfl | rfl | rfl | rfl | rfl | rfl | rfl | rfl | rfl | rfl | rfl | rfl
  · exact w_c0
  · exact w_c1
  · exact w_c2
  · exact w_c3
  · exact w_c4
  · exact w_c5
  · exact w_c6
  · exact w_c7
  · exact w_c8
  · exact w_c9
  · exact w_c10
  · exact w_c11
  · exact w_c12
  · exact w_c13
  · exact w_c14
  · exact w_c15
  · exact w_c16
  · exact w_c17
  · exact w_c18
  · exact w_c19
  · exact w_c20
  · exact w_c21
  · exact w_c22
  · exact w_c23
  · exact w_c24
  · exact w_c25
  · exact w_c26
  · exact w_c27
  · exact w_c28
  · exact w_c29
  · exact w_c30
  · exact w_c31
  · exact w_c32
  · exact w_c33
  · exact w_c34
  · exact w_c35
  · exact w_c36
set_option maxRecDepth 65536 in
theorem w_t1 : (words1.take 24).all (fun c => isCode c || c.before args0 about1) = true := by decide +kernel
set_option maxRecDepth 65536 in
theorem w_t2 : ((words1.drop 24).take 24).all (fun c => isCode c || c.before args0 about1) = true := by decide +kernel
set_option maxRecDepth 65536 in
theorem w_t3 : (((words1.drop 24).drop 24).take 24).all (fun c => isCode c || c.before args0 about1) = true := by decide +kernel
set_option maxRecDepth 65536 in
theorem w_t4 : ((((words1.drop 24).drop 24).drop 24).take 24).all (fun c => isCode c || c.before args0 about1) = true := by decide +kernel
set_option maxRecDepth 65536 in
theorem w_t5 : (((((words1.drop 24).drop 24).drop 24).drop 24).take 24).all (fun c => isCode c || c.before args0 about1) = true := by decide +kernel
set_option maxRecDepth 65536 in
theorem w_t6 : ((((((words1.drop 24).drop 24).drop 24).drop 24).drop 24).take 24).all (fun c => isCode c || c.before args0 about1) = true := by decide +kernel
set_option maxRecDepth 65536 in
theorem w_t7 : (((((((words1.drop 24).drop 24).drop 24).drop 24).drop 24).drop 24).take 24).all (fun c => isCode c || c.before args0 about1) = true := by decide +kernel
set_option maxRecDepth 65536 in
theorem w_t8 : (((((((words1.drop 24).drop 24).drop 24).drop 24).drop 24).drop 24).drop 24).all (fun c => isCode c || c.before args0 about1) = true := by decide +kernel
theorem w_tables : (allAtoms (Jvm.Cond.code x code maxLocals ret :: tables_1)).before args0 about1 = true := by
  rw [allAtoms_all]
  show words1.all (fun c => c.before args0 about1) = true
  refine all_split ?_ w_codes
  rw [← List.take_append_drop 24 words1, List.all_append, w_t1, ← List.take_append_drop 24 (words1.drop 24), List.all_append, w_t2, ← List.take_append_drop 24 ((words1.drop 24).drop 24), List.all_append, w_t3, ← List.take_append_drop 24 (((words1.drop 24).drop 24).drop 24), List.all_append, w_t4, ← List.take_append_drop 24 ((((words1.drop 24).drop 24).drop 24).drop 24), List.all_append, w_t5, ← List.take_append_drop 24 (((((words1.drop 24).drop 24).drop 24).drop 24).drop 24), List.all_append, w_t6, ← List.take_append_drop 24 ((((((words1.drop 24).drop 24).drop 24).drop 24).drop 24).drop 24), List.all_append, w_t7, w_t8]
  rfl
set_option maxRecDepth 65536 in
theorem w_rest : rest_1_c.before args0 about1 = true := by decide +kernel
set_option maxRecDepth 65536 in
theorem w_case : (Jvm.Cond.and given_1 narrow_1).before args0 about1 = true := by decide +kernel
theorem w_applies : (headSpec (Jvm.Cond.code x code maxLocals ret :: tables_1) room_1).applies x e0.platform about1 = true :=
  (Spec.applies_iff w_frames).mpr ⟨w_running, w_runnable, w_alone, w_named, w_hears, w_ripe, w_room, w_tables⟩
theorem atStart : AtStart classFile x code maxLocals ret World_1 tables_1 room_1 Calls_1 rest_1 Pre_1 launch0 p0 e0 about1 theMethod args0 below0 :=
  ⟨lists_1, trivial, launch0.admits_env _ _ _, launch0.least_env, fairChoices_fair.cas, fairChoices_fair.clock, w_frames, w_args, w_heap, w_applies, trivial, w_rest, w_case⟩
end start1
theorem witness_1 : WitnessClaimed_1 := ⟨start1.p0, start1.e0, start1.about1, start1.theMethod, start1.args0, start1.below0, start1.atStart⟩
end Jvm.Pilot.@@N@@
