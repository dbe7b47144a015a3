import JvmDerived
import JvmDerived.Pilot.@@N@@Statement
import JvmDerived.Pilot.@@N@@Code
set_option linter.unusedVariables false
set_option linter.unusedSimpArgs false
namespace Jvm.Pilot.@@N@@
open Jvm Jvm.ClassFile Sem Op Lib Jvm.Free Jvm.Stand Jvm.LawKit Jvm.RoadKit Bundle Jvm.Pilot.@@N@@.Jvm.D
section OwnLayer
variable {p : Program} {l : Launch} {e : Env} {R : Room} {s : State} {m : MethodId} {args : Array Value} {below : List Frame} {meth : Method} {c : Code} {T T' : State} {cells slots cells' slots' : Nat} {Z : State} {a0 : Array Value} {EL : List (String × Nat)} {n0 : Nat} {W0 : List Addr} {own : String} {h h' : Heap} {Ow Ow' : List Addr} {Pq : Outcome → State → Prop} {pc pc' : Nat} {L L' : Array Slot} {S S' : List Value}
/-- the run goes on from here to an end that Pq allows -/
def OG (p : Program) (e : Env) (below : List Frame) (m : MethodId) (Pq : Outcome → State → Prop) (T : State) (pc : Nat) (L : Array Slot) (S : List Value) : Prop :=
  ∃ t o, Steps p.tables e below (T.setTop (mkF m pc L S)) t ∧ t.status = .running ∧ Ended t below o ∧ Pq o t
theorem OG.st (st : ∀ t, Steps p.tables e below (T'.setTop (mkF m pc' L' S')) t → Steps p.tables e below (T.setTop (mkF m pc L S)) t) (k : OG p e below m Pq T' pc' L' S') : OG p e below m Pq T pc L S := by
  obtain ⟨t, o, h1, r⟩ := k
  exact ⟨t, o, st t h1, r⟩
/-- an address that this walk may write -/
def OOwn (Z : State) (EL : List (String × Nat)) (n0 : Nat) (W0 : List Addr) (hs : Nat) (vm : Vm) (h : Heap) (x : Addr) : Prop := n0 ≤ x ∧ x < h.size ∧ Safe Z EL vm h x ∧ (x ∈ W0 ∨ hs ≤ x)
/-- the tables since the invocation's start: warmed; with no constant of EL nothing is interned -/
def OSn (EL : List (String × Nat)) (s : State) (vm : Vm) (n : Nat) : Prop := s.Since vm n ∧ (EL = [] → s.WarmedH vm)
theorem OSn.of {vm : Vm} (q : s.WarmedH vm) (n : Nat) : OSn EL s vm n := ⟨q.since n, fun _ => q⟩
theorem OSn.trans {vm₁ vm₂ : Vm} {n₁ n₂ : Nat} (h₁ : OSn EL s vm₁ n₁) (h₂ : OSn EL (s.setVm vm₁) vm₂ n₂) (hn : n₁ ≤ n₂) : OSn EL s vm₂ n₂ := ⟨h₁.1.trans h₂.1 hn, fun e => State.WarmedH.trans (t := s.setVm vm₁) (h₁.2 e) (h₂.2 e)⟩
/-- where the walk stands -/
def OPn (p : Program) (l : Launch) (e : Env) (R : Room) (s : State) (m : MethodId) (args : Array Value) (below : List Frame) (meth : Method) (c : Code) (Z : State) (a0 : Array Value) (EL : List (String × Nat)) (n0 : Nat) (W0 : List Addr) (own : String) (T : State) (h : Heap) (Ow : List Addr) (cells slots : Nat) : Prop :=
  ∃ locs : List Loc, Stand p l e R (s.setVm T.vm) m args below meth c T locs cells slots ∧ p.tables.exec = Jvm.exec ∧ meth.locks = false ∧ OSn EL s T.vm h.size ∧ Z.Warmed39 T.vm ∧ T.vm.findClass own = some m.cls ∧ T.heap = h ∧ Fr n0 locs ∧ EW Z a0 EL ∧ CHr Z EL s.vm s.heap T.vm h ∧ Old Z n0 h ∧ Keep s.heap h W0 ∧ ∀ x ∈ Ow, OOwn Z EL n0 W0 s.heap.size T.vm h x
theorem OPn.here (P : OPn p l e R s m args below meth c Z a0 EL n0 W0 own T h Ow cells slots) : At T m c below := by obtain ⟨_, X, -⟩ := P; exact X.here
theorem OPn.ex (P : OPn p l e R s m args below meth c Z a0 EL n0 W0 own T h Ow cells slots) : p.tables.exec = Jvm.exec := by obtain ⟨_, _, hx, -⟩ := P; exact hx
theorem OPn.old (P : OPn p l e R s m args below meth c Z a0 EL n0 W0 own T h Ow cells slots) : Old Z n0 h := by obtain ⟨_, _, _, _, _, _, _, _, _, _, _, O, -⟩ := P; exact O
theorem OPn.keep0 (P : OPn p l e R s m args below meth c Z a0 EL n0 W0 own T h Ow cells slots) : Keep s.heap h W0 := by obtain ⟨_, _, _, _, _, _, _, _, _, _, _, _, K, -⟩ := P; exact K
theorem OPn.warm (P : OPn p l e R s m args below meth c Z a0 EL n0 W0 own T h Ow cells slots) : Z.Warmed39 T.vm := by obtain ⟨_, _, _, _, _, hZ, -⟩ := P; exact hZ
theorem OPn.n0le (P : OPn p l e R s m args below meth c Z a0 EL n0 W0 own T h Ow cells slots) : n0 ≤ h.size := by have O := P.old; rw [← O.1]; exact O.2.1
theorem OPn.mono (P : OPn p l e R s m args below meth c Z a0 EL n0 W0 own T h Ow cells slots) (hc : cells ≤ cells') (hs : slots ≤ slots') : OPn p l e R s m args below meth c Z a0 EL n0 W0 own T h Ow cells' slots' := by
  obtain ⟨locs, X, r⟩ := P
  exact ⟨locs, X.mono hc hs, r⟩
theorem OPn.less (P : OPn p l e R s m args below meth c Z a0 EL n0 W0 own T h Ow cells slots) (q : ∀ x ∈ Ow', x ∈ Ow) : OPn p l e R s m args below meth c Z a0 EL n0 W0 own T h Ow' cells slots := by
  obtain ⟨locs, X, h1, h2, h3, h4, h5, h6, h7, h8, h9, h10, h11, W⟩ := P
  exact ⟨locs, X, h1, h2, h3, h4, h5, h6, h7, h8, h9, h10, h11, fun x hx => W x (q x hx)⟩
theorem OPn.more (P : OPn p l e R s m args below meth c Z a0 EL n0 W0 own T h Ow cells slots) {x : Addr} (q : n0 ≤ x ∧ x < h.size ∧ Safe Z EL T.vm h x) (r : s.heap.size ≤ x) : OPn p l e R s m args below meth c Z a0 EL n0 W0 own T h (x :: Ow) cells slots := by
  obtain ⟨locs, X, h1, h2, h3, h4, h5, h6, h7, h8, h9, h10, h11, W⟩ := P
  exact ⟨locs, X, h1, h2, h3, h4, h5, h6, h7, h8, h9, h10, h11, fun y hy => (List.mem_cons.mp hy).elim (fun u => u ▸ ⟨q.1, q.2.1, q.2.2, Or.inr r⟩) (W y)⟩
theorem OPn.fin {locs' : List Loc} (hx : p.tables.exec = Jvm.exec) (hlk : meth.locks = false) (hS : OSn EL s T.vm h.size) (hZ : Z.Warmed39 T.vm) (hown : T.vm.findClass own = some m.cls) (hEL : EW Z a0 EL) (X' : Stand p l e R (s.setVm T.vm) m args below meth c T' locs' cells' slots') (eT' : T'.heap = h') (hle : h.size ≤ h'.size) (N' : Fr n0 locs') (C' : CHr Z EL s.vm s.heap T.vm h') (O' : Old Z n0 h') (K' : Keep s.heap h' W0) (W' : ∀ x ∈ Ow', OOwn Z EL n0 W0 s.heap.size T.vm h' x) :
    OPn p l e R s m args below meth c Z a0 EL n0 W0 own T' h' Ow' cells' slots' := by
  have A : CHr Z EL T.vm h' T'.vm h' := CHv.at X' hZ hEL C'.1
  refine ⟨locs', X'.retabled X'.warmed.wide, hx, hlk, hS.trans (OSn.of X'.warmed _) hle, State.Warmed39.trans (t := s.setVm T.vm) hZ X'.warmed.wide, ?_, eT', N', hEL, C'.trans A, O', K', fun x hx => ?_⟩
  · exact (X'.warmed.alike.findClass own _).trans hown
  · obtain ⟨q1, q2, q3, q4⟩ := W' x hx
    exact ⟨q1, q2, A.safe q2 q3, q4⟩
/-- a step that moves the tables alone -/
theorem OPn.tab (P : OPn p l e R s m args below meth c Z a0 EL n0 W0 own T h Ow cells slots) (f : ∀ locs, Stand p l e R (s.setVm T.vm) m args below meth c T locs cells slots → Z.Warmed39 (s.setVm T.vm).vm → (s.setVm T.vm).vm.findClass own = some m.cls → T.heap = h → p.tables.exec = Jvm.exec → ∃ T', Stand p l e R (s.setVm T.vm) m args below meth c T' locs cells slots ∧ T'.heap = h ∧ ∀ target, Steps p.tables e below (T'.setTop (mkF m pc' L' S')) target → Steps p.tables e below (T.setTop (mkF m pc L S)) target)
    (k : ∀ T', OPn p l e R s m args below meth c Z a0 EL n0 W0 own T' h Ow cells slots → OG p e below m Pq T' pc' L' S') : OG p e below m Pq T pc L S := by
  obtain ⟨locs, X, hx, hlk, hS, hZ, hown, eT, N, hEL, C, O, K, W⟩ := P
  obtain ⟨T', X', e', st⟩ := f locs X hZ hown eT hx
  exact OG.st st (k T' (OPn.fin hx hlk hS hZ hown hEL X' e' (Nat.le_refl _) N C O K W))
/-- a step that makes one cell -/
theorem OPn.grow (P : OPn p l e R s m args below meth c Z a0 EL n0 W0 own T h Ow cells slots) {G : Heap → Addr → Prop} (f : ∀ locs, Stand p l e R (s.setVm T.vm) m args below meth c T locs cells slots → Z.Warmed39 (s.setVm T.vm).vm → (s.setVm T.vm).vm.findClass own = some m.cls → T.heap = h → p.tables.exec = Jvm.exec → ∃ T' h', Stand p l e R (s.setVm T.vm) m args below meth c T' locs cells' slots' ∧ T'.heap = h' ∧ Ext h h' ∧ h.size < h'.size ∧ G h' h.size ∧ ∀ target, Steps p.tables e below (T'.setTop (mkF m pc' L' (.ref h.size :: S'))) target → Steps p.tables e below (T.setTop (mkF m pc L S)) target)
    (k : ∀ T' h' b, OPn p l e R s m args below meth c Z a0 EL n0 W0 own T' h' (b :: Ow) cells' slots' → Keep h h' [] → h.size ≤ b → G h' b → OG p e below m Pq T' pc' L' (.ref b :: S')) : OG p e below m Pq T pc L S := by
  have hn := P.n0le
  obtain ⟨locs, X, hx, hlk, hS, hZ, hown, eT, N, hEL, C, O, K, W⟩ := P
  obtain ⟨T', h', X', e', E, hlt, g, st⟩ := f locs X hZ hown eT hx
  refine OG.st st (k T' h' h.size (OPn.fin hx hlk hS hZ hown hEL X' e' E.1 N (C.trans (CHr.ext E C.1)) (O.ext E) (K.ext E) fun x hx => ?_) ((Keep.refl h []).ext E) (Nat.le_refl _) g)
  rcases List.mem_cons.mp hx with rfl | hx
  · exact ⟨hn, hlt, Safe.ext E C.1 (Safe.new (Nat.le_refl _)), Or.inr K.1⟩
  · obtain ⟨q1, q2, q3, q4⟩ := W x hx
    exact ⟨q1, Nat.lt_of_lt_of_le q2 E.1, Safe.ext E C.1 q3, q4⟩
/-- a step that writes one place of an own cell -/
theorem OPn.wr (P : OPn p l e R s m args below meth c Z a0 EL n0 W0 own T h Ow cells slots) {a : Addr} {sl : Nat} {v : Value} (ha : a ∈ Ow) (f : ∀ locs, Stand p l e R (s.setVm T.vm) m args below meth c T locs cells slots → Z.Warmed39 (s.setVm T.vm).vm → (s.setVm T.vm).vm.findClass own = some m.cls → T.heap = h → p.tables.exec = Jvm.exec → ∃ T' h', Stand p l e R (s.setVm T.vm) m args below meth c T' (locs ++ [⟨a, sl⟩]) cells slots ∧ T'.heap = h' ∧ Wr h h' a sl v ∧ ∀ target, Steps p.tables e below (T'.setTop (mkF m pc' L' S')) target → Steps p.tables e below (T.setTop (mkF m pc L S)) target)
    (k : ∀ T' h', OPn p l e R s m args below meth c Z a0 EL n0 W0 own T' h' Ow cells slots → Wr h h' a sl v → OG p e below m Pq T' pc' L' S') : OG p e below m Pq T pc L S := by
  obtain ⟨locs, X, hx, hlk, hS, hZ, hown, eT, N, hEL, C, O, K, W⟩ := P
  obtain ⟨T', h', X', e', Wq, st⟩ := f locs X hZ hown eT hx
  obtain ⟨q1, q2, q3, q4⟩ := W a ha
  refine OG.st st (k T' h' (OPn.fin hx hlk hS hZ hown hEL X' e' (Nat.le_of_eq Wq.size.symm) (Fr.snoc X' N q1) (C.trans (CHr.wr Wq q3 C.1)) (O.wr Wq q1) (K.wr Wq q4) fun x hx => ?_) Wq)
  obtain ⟨r1, r2, r3, r4⟩ := W x hx
  exact ⟨r1, by rw [Wq.size]; exact r2, Safe.wr Wq q3 C.1 r3, r4⟩
/-! the end of a walk -/
def OFq (Z : State) (EL : List (String × Nat)) (n0 : Nat) (s : State) (W0 : List Addr) (R : Room) (Q : Option Value → Vm → Heap → Prop) (o : Outcome) (t : State) : Prop :=
  ∃ v L, o = .returned v ∧ (Q v t.vm t.heap ∧ Keep s.heap t.heap W0 ∧ Fr n0 L) ∧ CHr Z EL s.vm s.heap t.vm t.heap ∧ (EL = [] → s.WarmedH t.vm) ∧ ReturnedEndW s o t L R.cells R.slots
theorem OPn.ret {Q : Option Value → Vm → Heap → Prop} (P : OPn p l e R s m args below meth c Z a0 EL n0 W0 own T h Ow cells slots) {v : Option Value} (hv : meth.sig.returnType = none → v = none) (hc : cells ≤ R.cells) (hs : slots ≤ R.slots) (q : Q v T.vm h)
    (st : ∀ locs, Stand p l e R (s.setVm T.vm) m args below meth c T locs cells slots → p.tables.exec = Jvm.exec → ∀ fs, (∀ (f : JFrame) (acts : List Action), f.method = m → f.locked = none → f.entered = [] → (doReturn e (T.setTop f) acts v).1 = T.setFrames fs) → Steps p.tables e below (T.setTop (mkF m pc L S)) (T.setFrames fs)) : OG p e below m (OFq Z EL n0 s W0 R Q) T pc L S := by
  obtain ⟨locs, X, hx, hlk, hS, hZ, hown, eT, N, hEL, C, O, K, W⟩ := P
  subst eT
  obtain ⟨fs, h1, h2, h3, h4, h5, h6, h7⟩ := X.leaveW hS.1 (Nat.le_refl _) hv hlk
  exact ⟨_, _, st locs X hx fs h1, h2, h3, v, locs, rfl, ⟨q, K, N⟩, C, hS.2, h4, h5, h6, h7.mono hc hs⟩
theorem o_ret0 {Q : Option Value → Vm → Heap → Prop} (P : OPn p l e R s m args below meth c Z a0 EL n0 W0 own T h Ow cells slots) (hret : meth.sig.returnType = none) (hd : decode c.code pc = .ok (.return_, 1)) (hc : cells ≤ R.cells) (hs : slots ≤ R.slots) (q : Q none T.vm h) : OG p e below m (OFq Z EL n0 s W0 R Q) T pc L [] :=
  P.ret (fun _ => rfl) hc hs q fun locs X hx fs hr => X.returnOut hx hret hd hr
theorem o_retI {Q : Option Value → Vm → Heap → Prop} (P : OPn p l e R s m args below meth c Z a0 EL n0 W0 own T h Ow cells slots) {t : FieldType} {z : Int32} (hret : meth.sig.returnType = some t) (ht : t = .int ∨ t = .boolean ∨ t = .byte ∨ t = .char ∨ t = .short) (hn : narrow t (.int z) = .int z) (hd : decode c.code pc = .ok (.ireturn, 1)) (hc : cells ≤ R.cells) (hs : slots ≤ R.slots) (q : Q (some (.int z)) T.vm h) : OG p e below m (OFq Z EL n0 s W0 R Q) T pc L (.int z :: S) :=
  P.ret (fun h => by rw [hret] at h; cases h) hc hs q fun locs X hx fs hr => retOut X hx hret hn (Or.inl ⟨rfl, ht, z, rfl⟩) hd hr
theorem o_retL {Q : Option Value → Vm → Heap → Prop} (P : OPn p l e R s m args below meth c Z a0 EL n0 W0 own T h Ow cells slots) {z : Int64} (hret : meth.sig.returnType = some .long) (hd : decode c.code pc = .ok (.lreturn, 1)) (hc : cells ≤ R.cells) (hs : slots ≤ R.slots) (q : Q (some (.long z)) T.vm h) : OG p e below m (OFq Z EL n0 s W0 R Q) T pc L (.long z :: S) :=
  P.ret (fun h => by rw [hret] at h; cases h) hc hs q fun locs X hx fs hr => retOut X hx hret rfl (Or.inr (Or.inl ⟨rfl, rfl, z, rfl⟩)) hd hr
theorem o_retD {Q : Option Value → Vm → Heap → Prop} (P : OPn p l e R s m args below meth c Z a0 EL n0 W0 own T h Ow cells slots) {z : UInt64} (hret : meth.sig.returnType = some .double) (hd : decode c.code pc = .ok (.dreturn, 1)) (hc : cells ≤ R.cells) (hs : slots ≤ R.slots) (q : Q (some (.double z)) T.vm h) : OG p e below m (OFq Z EL n0 s W0 R Q) T pc L (.double z :: S) :=
  P.ret (fun h => by rw [hret] at h; cases h) hc hs q fun locs X hx fs hr => retOut X hx hret rfl (Or.inr (Or.inr (Or.inl ⟨rfl, rfl, z, rfl⟩))) hd hr
theorem o_retA {Q : Option Value → Vm → Heap → Prop} (P : OPn p l e R s m args below meth c Z a0 EL n0 W0 own T h Ow cells slots) {t : FieldType} {w : Value} (hret : meth.sig.returnType = some t) (ht : t.isReference = true) (hw : w.isRef = true) (hn : narrow t w = w) (hd : decode c.code pc = .ok (.areturn, 1)) (hc : cells ≤ R.cells) (hs : slots ≤ R.slots) (q : Q (some w) T.vm h) : OG p e below m (OFq Z EL n0 s W0 R Q) T pc L (w :: S) :=
  P.ret (fun h => by rw [hret] at h; cases h) hc hs q fun locs X hx fs hr => retOut X hx hret hn (Or.inr (Or.inr (Or.inr (Or.inr ⟨rfl, ht, hw⟩)))) hd hr
/-! a contract -/
def OCt (l : Launch) (Z : State) (a0 : Array Value) (EL : List (String × Nat)) (n0 : Nat) (y : MethodName) (bytes : ByteArray) (maxL : Nat) (ret : Option FieldType) (rm : Room) (ws : List Jvm.Cond) (as' : Array Value) (h : Heap) (Sf : List Addr) (Q : Option Value → Vm → Heap → Prop) : Prop :=
  Old Z n0 h → EW Z a0 EL → (∀ x ∈ Sf, n0 ≤ x ∧ x < h.size) →
  MetFree l y (head1 (Jvm.Cond.code y bytes maxL ret :: ws) rm) (fun a U => a = as' ∧ Z.Warmed39 U.vm ∧ U.heap = h ∧ CHv Z EL U.vm h ∧ ∀ x ∈ Sf, Safe Z EL U.vm h x) (fun _ _ _ _ _ => True) (fun _ U o U' => OFq Z EL n0 U Sf rm Q o U')
theorem OCt.body {y : MethodName} {bytes : ByteArray} {maxL : Nat} {ret : Option FieldType} {rm : Room} {ws : List Jvm.Cond} {as' : Array Value} {Sf : List Addr} {Q : Option Value → Vm → Heap → Prop} {L0 : Array Slot} (hpl : plainFor y = true) (hef : ∀ m, entryFrame m as' maxL = mkF m 0 L0 [])
    (k : ∀ p e s m below meth c T, c.code = bytes → c.maxLocals = maxL → meth.sig.returnType = ret → meth.name = y.name → s.heap = h → OPn p l e rm s m as' below meth c Z a0 EL n0 Sf y.cls T h Sf 0 0 → OG p e below m (OFq Z EL n0 s Sf rm Q) T 0 L0 []) : OCt l Z a0 EL n0 y bytes maxL ret rm ws as' h Sf Q := by
  intro hO hEL hSf
  refine MetFree.of_bodySF hpl hisR ?_
  intro p e s m args below meth c s₁ Bd hml0 hP _
  obtain ⟨rfl, hZ, rfl, hC, hS⟩ := hP
  have X0 : Stand p l e rm s m args below meth c s₁ [] 0 0 := Stand.of_body Bd
  have ev : s₁.vm = s.vm := by rw [Bd.state]; rfl
  have eh : s₁.heap = s.heap := by rw [Bd.state]; rfl
  rw [hef m]
  refine k p e s m below meth c s₁ Bd.bytes hml0 Bd.returns (name_of_methodNamed Bd.named Bd.method).1 rfl ⟨[], X0.retabled X0.warmed.wide, Bd.exec, Bd.notSynchronized, OSn.of X0.warmed _, by rw [ev]; exact hZ, by rw [ev]; exact findClass_of_methodNamed Bd.named, eh, Fr.nil n0, hEL, by rw [ev]; exact CHr.refl hC, hO, Keep.refl _ _, fun x hx => ⟨(hSf x hx).1, (hSf x hx).2, by rw [ev]; exact hS x hx, Or.inl hx⟩⟩
/-! a call by a contract -/
theorem OCt.back {y : MethodName} {bytes : ByteArray} {maxL : Nat} {ret : Option FieldType} {rm : Room} {as' : Array Value} {Sf : List Addr} {Q : Option Value → Vm → Heap → Prop} {len W : Nat} (hO : Old Z n0 h) (hEL : EW Z a0 EL) (hSf : ∀ x ∈ Sf, n0 ≤ x ∧ x < h.size ∧ Safe Z EL T.vm h x) (hM : OCt l Z a0 EL n0 y bytes maxL ret rm [] as' h Sf Q)
    (hZ : Z.Warmed39 T.vm) (wc : (Jvm.Cond.code y bytes maxL ret).before a0 Z = true) (wz : (Jvm.Cond.initialized y.cls).before a0 Z = true) (hf : rm.frames + 1 ≤ R.frames) (hl : W + (maxL + 11) + rm.locals ≤ R.locals) (H : CHv Z EL T.vm h) :
    BackS l R p e below (s.setVm T.vm) args y len W (fun A a => a = as' ∧ A.U.heap = h ∧ A.cells + rm.cells ≤ R.cells ∧ A.slots + rm.slots ≤ R.slots)
      (fun A _ v B => ∃ L, Q v B.U.vm B.U.heap ∧ Keep h B.U.heap Sf ∧ Fr n0 L ∧ B.locs = A.locs ++ L ∧ B.cells = A.cells + rm.cells ∧ B.slots = A.slots + rm.slots ∧ CHr Z EL T.vm h B.U.vm B.U.heap ∧ (EL = [] → (s.setVm T.vm).WarmedH B.U.vm)) :=
  BackS.of_freeW (bytes := bytes) (maxL := maxL) (ret := ret) (E := fun _ first o t L k n => k = rm.cells ∧ n = rm.slots ∧ (∃ v, o = .returned v ∧ Q v t.vm t.heap ∧ Keep first.heap t.heap Sf ∧ Fr n0 L) ∧ CHr Z EL first.vm first.heap t.vm t.heap ∧ (EL = [] → first.WarmedH t.vm)) (hM hO hEL fun x hx => ⟨(hSf x hx).1, (hSf x hx).2.1⟩) hf hl
    (fun m meth c A a Y hp => have hU : Z.Warmed39 A.U.vm := wtrans (s := s.setVm T.vm) hZ Y.warmed
      ⟨by show (Jvm.Cond.and _ .tt).before a A.U = true; rw [Cond.before_and, mv hU wc]; rfl, mv hU wc, mv hU wz, hp.2.2.1, hp.2.2.2⟩)
    (fun m meth c A a g mk Y hp => ⟨hp.1, wtrans (s := s.setVm T.vm) hZ Y.warmed, hp.2.1, (CHv.at Y hZ hEL H).1, fun x hx => (CHv.at Y hZ hEL H).safe (hSf x hx).2.1 (hSf x hx).2.2⟩) (fun _ _ _ _ _ _ _ _ _ => trivial)
    (fun _ _ _ _ ⟨v, L, h1, ⟨h2, h3, h4⟩, h5, h5', h6⟩ => ⟨L, _, _, h6, rfl, rfl, ⟨v, h1, h2, h3, h4⟩, h5, h5'⟩)
    (fun m meth c A a g mk v t L k n Y hp _ _ ⟨e1, e2, ⟨v', e3, e4, e5, e6⟩, e7, e8⟩ => by
      cases e3; subst e1 e2
      have eh : (A.U.calling g mk a).heap = h := hp.2.1
      rw [eh] at e5 e7
      exact ⟨L, e4, e5, e6, rfl, rfl, rfl, (CHv.at Y hZ hEL H).trans e7, fun q => State.WarmedH.trans (t := A.U) Y.warmed (e8 q)⟩)
/-- behind a call: what every kind of call has in common -/
theorem OPn.behind {y : MethodName} {rm : Room} {Sf : List Addr} {Q : Option Value → Vm → Heap → Prop} {locs : List Loc} {v : Option Value} {B : Pt}
    (hx : p.tables.exec = Jvm.exec) (hlk : meth.locks = false) (hS : OSn EL s T.vm h.size) (hZ : Z.Warmed39 T.vm) (hown : T.vm.findClass own = some m.cls) (eT : T.heap = h) (N : Fr n0 locs) (hEL : EW Z a0 EL) (C : CHr Z EL s.vm s.heap T.vm h) (O : Old Z n0 h) (K : Keep s.heap h W0) (W : ∀ x ∈ Ow, OOwn Z EL n0 W0 s.heap.size T.vm h x) (hsf : ∀ x ∈ Sf, x ∈ Ow)
    (X' : Stand p l e R ((s.setVm T.vm).setVm B.U.vm) m args below meth c B.U B.locs B.cells B.slots) (hS' : (s.setVm T.vm).Since B.U.vm B.U.heap.size) (hle : T.heap.size ≤ B.U.heap.size)
    (hq : ∃ L, Q v B.U.vm B.U.heap ∧ Keep h B.U.heap Sf ∧ Fr n0 L ∧ B.locs = locs ++ L ∧ B.cells = cells + rm.cells ∧ B.slots = slots + rm.slots ∧ CHr Z EL T.vm h B.U.vm B.U.heap ∧ (EL = [] → (s.setVm T.vm).WarmedH B.U.vm)) :
    OPn p l e R s m args below meth c Z a0 EL n0 W0 own B.U B.U.heap Ow (cells + rm.cells) (slots + rm.slots) ∧ Keep h B.U.heap Sf ∧ Q v B.U.vm B.U.heap := by
  subst eT
  obtain ⟨Lc, q, Kq, Nq, e1, e2, e3, Cq, hH⟩ := hq
  rw [e1, e2, e3] at X'
  have hal := hS'.1.alike
  refine ⟨⟨locs ++ Lc, X', hx, hlk, hS.trans ⟨hS', hH⟩ hle, State.Warmed39.trans (t := s.setVm T.vm) hZ hS'.1, (hal.findClass own _).trans hown, rfl, N.app Nq, hEL, C.trans Cq, O.keep Kq fun x hx => (W x (hsf x hx)).1, K.trans Kq fun x hx => (W x (hsf x hx)).2.2.2, fun x hx => ?_⟩, Kq, q⟩
  obtain ⟨r1, r2, r3, r4⟩ := W x hx
  exact ⟨r1, Nat.lt_of_lt_of_le r2 hle, Cq.safe r2 r3, r4⟩
theorem o_iload (P : OPn p l e R s m args below meth c Z a0 EL n0 W0 own T h Ow cells slots) {k0 : Nat} {v : Int32} (hd : decode c.code pc = .ok (.iload k0, 2)) (hl : L[k0]? = some (.val (.int v))) (hp : pc + 2 = pc') (k : OG p e below m Pq T pc' L (.int v :: S)) : OG p e below m Pq T pc L S := by
  subst hp; exact OG.st (fun t q => XS.iload P.here P.ex rfl hd hl q) k
theorem o_iloadN (P : OPn p l e R s m args below meth c Z a0 EL n0 W0 own T h Ow cells slots) {k0 : Fin 4} {v : Int32} (hd : decode c.code pc = .ok (.iload_n k0, 1)) (hl : L[k0.val]? = some (.val (.int v))) (hp : pc + 1 = pc') (k : OG p e below m Pq T pc' L (.int v :: S)) : OG p e below m Pq T pc L S := by
  subst hp; exact OG.st (fun t q => XS.iloadN P.here P.ex rfl hd hl q) k
theorem o_istore (P : OPn p l e R s m args below meth c Z a0 EL n0 W0 own T h Ow cells slots) {k0 : Nat} {v : Int32} (hd : decode c.code pc = .ok (.istore k0, 2)) (hl : storeLocals L k0 (.int v) = some L') (hp : pc + 2 = pc') (k : OG p e below m Pq T pc' L' S) : OG p e below m Pq T pc L (.int v :: S) := by
  subst hp; exact OG.st (fun t q => XS.istore P.here P.ex rfl hd rfl hl q) k
theorem o_istoreN (P : OPn p l e R s m args below meth c Z a0 EL n0 W0 own T h Ow cells slots) {k0 : Fin 4} {v : Int32} (hd : decode c.code pc = .ok (.istore_n k0, 1)) (hl : storeLocals L k0.val (.int v) = some L') (hp : pc + 1 = pc') (k : OG p e below m Pq T pc' L' S) : OG p e below m Pq T pc L (.int v :: S) := by
  subst hp; exact OG.st (fun t q => XS.istoreN P.here P.ex rfl hd rfl hl q) k
theorem o_lload (P : OPn p l e R s m args below meth c Z a0 EL n0 W0 own T h Ow cells slots) {k0 : Nat} {v : Int64} (hd : decode c.code pc = .ok (.lload k0, 2)) (hl : L[k0]? = some (.val (.long v))) (hp : pc + 2 = pc') (k : OG p e below m Pq T pc' L (.long v :: S)) : OG p e below m Pq T pc L S := by
  subst hp; exact OG.st (fun t q => XS.lload P.here P.ex rfl hd hl q) k
theorem o_lloadN (P : OPn p l e R s m args below meth c Z a0 EL n0 W0 own T h Ow cells slots) {k0 : Fin 4} {v : Int64} (hd : decode c.code pc = .ok (.lload_n k0, 1)) (hl : L[k0.val]? = some (.val (.long v))) (hp : pc + 1 = pc') (k : OG p e below m Pq T pc' L (.long v :: S)) : OG p e below m Pq T pc L S := by
  subst hp; exact OG.st (fun t q => XS.lloadN P.here P.ex rfl hd hl q) k
theorem o_lstore (P : OPn p l e R s m args below meth c Z a0 EL n0 W0 own T h Ow cells slots) {k0 : Nat} {v : Int64} (hd : decode c.code pc = .ok (.lstore k0, 2)) (hl : storeLocals L k0 (.long v) = some L') (hp : pc + 2 = pc') (k : OG p e below m Pq T pc' L' S) : OG p e below m Pq T pc L (.long v :: S) := by
  subst hp; exact OG.st (fun t q => XS.lstore P.here P.ex rfl hd rfl hl q) k
theorem o_lstoreN (P : OPn p l e R s m args below meth c Z a0 EL n0 W0 own T h Ow cells slots) {k0 : Fin 4} {v : Int64} (hd : decode c.code pc = .ok (.lstore_n k0, 1)) (hl : storeLocals L k0.val (.long v) = some L') (hp : pc + 1 = pc') (k : OG p e below m Pq T pc' L' S) : OG p e below m Pq T pc L (.long v :: S) := by
  subst hp; exact OG.st (fun t q => XS.lstoreN P.here P.ex rfl hd rfl hl q) k
theorem o_dload (P : OPn p l e R s m args below meth c Z a0 EL n0 W0 own T h Ow cells slots) {k0 : Nat} {v : UInt64} (hd : decode c.code pc = .ok (.dload k0, 2)) (hl : L[k0]? = some (.val (.double v))) (hp : pc + 2 = pc') (k : OG p e below m Pq T pc' L (.double v :: S)) : OG p e below m Pq T pc L S := by
  subst hp; exact OG.st (fun t q => XS.dload P.here P.ex rfl hd hl q) k
theorem o_dloadN (P : OPn p l e R s m args below meth c Z a0 EL n0 W0 own T h Ow cells slots) {k0 : Fin 4} {v : UInt64} (hd : decode c.code pc = .ok (.dload_n k0, 1)) (hl : L[k0.val]? = some (.val (.double v))) (hp : pc + 1 = pc') (k : OG p e below m Pq T pc' L (.double v :: S)) : OG p e below m Pq T pc L S := by
  subst hp; exact OG.st (fun t q => XS.dloadN P.here P.ex rfl hd hl q) k
theorem o_dstore (P : OPn p l e R s m args below meth c Z a0 EL n0 W0 own T h Ow cells slots) {k0 : Nat} {v : UInt64} (hd : decode c.code pc = .ok (.dstore k0, 2)) (hl : storeLocals L k0 (.double v) = some L') (hp : pc + 2 = pc') (k : OG p e below m Pq T pc' L' S) : OG p e below m Pq T pc L (.double v :: S) := by
  subst hp; exact OG.st (fun t q => XS.dstore P.here P.ex rfl hd rfl hl q) k
theorem o_dstoreN (P : OPn p l e R s m args below meth c Z a0 EL n0 W0 own T h Ow cells slots) {k0 : Fin 4} {v : UInt64} (hd : decode c.code pc = .ok (.dstore_n k0, 1)) (hl : storeLocals L k0.val (.double v) = some L') (hp : pc + 1 = pc') (k : OG p e below m Pq T pc' L' S) : OG p e below m Pq T pc L (.double v :: S) := by
  subst hp; exact OG.st (fun t q => XS.dstoreN P.here P.ex rfl hd rfl hl q) k
theorem o_aload (P : OPn p l e R s m args below meth c Z a0 EL n0 W0 own T h Ow cells slots) {k0 : Nat} {v : Value} (hd : decode c.code pc = .ok (.aload k0, 2)) (hl : L[k0]? = some (.val v)) (hv : v.isRef = true) (hp : pc + 2 = pc') (k : OG p e below m Pq T pc' L (v :: S)) : OG p e below m Pq T pc L S := by
  subst hp; exact OG.st (fun t q => XS.aload P.here P.ex rfl hd hl hv q) k
theorem o_aloadN (P : OPn p l e R s m args below meth c Z a0 EL n0 W0 own T h Ow cells slots) {k0 : Fin 4} {v : Value} (hd : decode c.code pc = .ok (.aload_n k0, 1)) (hl : L[k0.val]? = some (.val v)) (hv : v.isRef = true) (hp : pc + 1 = pc') (k : OG p e below m Pq T pc' L (v :: S)) : OG p e below m Pq T pc L S := by
  subst hp; exact OG.st (fun t q => XS.aloadN P.here P.ex rfl hd hl hv q) k
theorem o_astore (P : OPn p l e R s m args below meth c Z a0 EL n0 W0 own T h Ow cells slots) {k0 : Nat} {v : Value} (hd : decode c.code pc = .ok (.astore k0, 2)) (hv : v.isRef = true) (hl : storeLocals L k0 v = some L') (hp : pc + 2 = pc') (k : OG p e below m Pq T pc' L' S) : OG p e below m Pq T pc L (v :: S) := by
  subst hp; exact OG.st (fun t q => XS.astore P.here P.ex rfl hd rfl hv hl q) k
theorem o_astoreN (P : OPn p l e R s m args below meth c Z a0 EL n0 W0 own T h Ow cells slots) {k0 : Fin 4} {v : Value} (hd : decode c.code pc = .ok (.astore_n k0, 1)) (hv : v.isRef = true) (hl : storeLocals L k0.val v = some L') (hp : pc + 1 = pc') (k : OG p e below m Pq T pc' L' S) : OG p e below m Pq T pc L (v :: S) := by
  subst hp; exact OG.st (fun t q => XS.astoreN P.here P.ex rfl hd rfl hv hl q) k
theorem o_iconst (P : OPn p l e R s m args below meth c Z a0 EL n0 W0 own T h Ow cells slots) {i : Int} (v : Int32) (hd : decode c.code pc = .ok (.iconst i, 1)) (hv : Int32.ofInt i = v) (hp : pc + 1 = pc') (k : OG p e below m Pq T pc' L (.int v :: S)) : OG p e below m Pq T pc L S := by
  subst hp; exact OG.st (fun t q => XS.iconst P.here P.ex rfl hd (hv ▸ q)) k
theorem o_bipush (P : OPn p l e R s m args below meth c Z a0 EL n0 W0 own T h Ow cells slots) {i : Int} (v : Int32) (hd : decode c.code pc = .ok (.bipush i, 2)) (hv : (Int8.ofInt i).toInt32 = v) (hp : pc + 2 = pc') (k : OG p e below m Pq T pc' L (.int v :: S)) : OG p e below m Pq T pc L S := by
  subst hp; exact OG.st (fun t q => XS.bipush P.here P.ex rfl hd (hv ▸ q)) k
theorem o_sipush (P : OPn p l e R s m args below meth c Z a0 EL n0 W0 own T h Ow cells slots) {i : Int} (v : Int32) (hd : decode c.code pc = .ok (.sipush i, 3)) (hv : (Int16.ofInt i).toInt32 = v) (hp : pc + 3 = pc') (k : OG p e below m Pq T pc' L (.int v :: S)) : OG p e below m Pq T pc L S := by
  subst hp; exact OG.st (fun t q => XS.sipush P.here P.ex rfl hd (hv ▸ q)) k
theorem o_lconst (P : OPn p l e R s m args below meth c Z a0 EL n0 W0 own T h Ow cells slots) {i : Fin 2} (v : Int64) (hd : decode c.code pc = .ok (.lconst i, 1)) (hv : Int64.ofNat i = v) (hp : pc + 1 = pc') (k : OG p e below m Pq T pc' L (.long v :: S)) : OG p e below m Pq T pc L S := by
  subst hp; exact OG.st (fun t q => XS.lconst P.here P.ex rfl hd (hv ▸ q)) k
theorem o_dconst0 (P : OPn p l e R s m args below meth c Z a0 EL n0 W0 own T h Ow cells slots) {v : UInt64} (hd : decode c.code pc = .ok (.dconst 0, 1)) (hv : FP.dconst0 = v) (hp : pc + 1 = pc') (k : OG p e below m Pq T pc' L (.double v :: S)) : OG p e below m Pq T pc L S := by
  subst hp; exact OG.st (fun t q => XS.dconst0 P.here P.ex rfl hd hv q) k
theorem o_dconst1 (P : OPn p l e R s m args below meth c Z a0 EL n0 W0 own T h Ow cells slots) {v : UInt64} (hd : decode c.code pc = .ok (.dconst 1, 1)) (hv : FP.dconst1 = v) (hp : pc + 1 = pc') (k : OG p e below m Pq T pc' L (.double v :: S)) : OG p e below m Pq T pc L S := by
  subst hp; exact OG.st (fun t q => XS.dconst1 P.here P.ex rfl hd hv q) k
theorem o_aconstNull (P : OPn p l e R s m args below meth c Z a0 EL n0 W0 own T h Ow cells slots)  (hd : decode c.code pc = .ok (.aconst_null, 1)) (hp : pc + 1 = pc') (k : OG p e below m Pq T pc' L (.null :: S)) : OG p e below m Pq T pc L S := by
  subst hp; exact OG.st (fun t q => XS.aconstNull P.here P.ex rfl hd q) k
theorem o_iadd (P : OPn p l e R s m args below meth c Z a0 EL n0 W0 own T h Ow cells slots) {x y : Int32} (hd : decode c.code pc = .ok (.iadd, 1)) (hp : pc + 1 = pc') (k : OG p e below m Pq T pc' L (.int (x + y) :: S)) : OG p e below m Pq T pc L (.int y :: .int x :: S) := by
  subst hp; exact OG.st (fun t q => XS.iadd P.here P.ex rfl hd rfl q) k
theorem o_ladd (P : OPn p l e R s m args below meth c Z a0 EL n0 W0 own T h Ow cells slots) {x y : Int64} (hd : decode c.code pc = .ok (.ladd, 1)) (hp : pc + 1 = pc') (k : OG p e below m Pq T pc' L (.long (x + y) :: S)) : OG p e below m Pq T pc L (.long y :: .long x :: S) := by
  subst hp; exact OG.st (fun t q => XS.ladd P.here P.ex rfl hd rfl q) k
theorem o_isub (P : OPn p l e R s m args below meth c Z a0 EL n0 W0 own T h Ow cells slots) {x y : Int32} (hd : decode c.code pc = .ok (.isub, 1)) (hp : pc + 1 = pc') (k : OG p e below m Pq T pc' L (.int (x - y) :: S)) : OG p e below m Pq T pc L (.int y :: .int x :: S) := by
  subst hp; exact OG.st (fun t q => XS.isub P.here P.ex rfl hd rfl q) k
theorem o_lsub (P : OPn p l e R s m args below meth c Z a0 EL n0 W0 own T h Ow cells slots) {x y : Int64} (hd : decode c.code pc = .ok (.lsub, 1)) (hp : pc + 1 = pc') (k : OG p e below m Pq T pc' L (.long (x - y) :: S)) : OG p e below m Pq T pc L (.long y :: .long x :: S) := by
  subst hp; exact OG.st (fun t q => XS.lsub P.here P.ex rfl hd rfl q) k
theorem o_imul (P : OPn p l e R s m args below meth c Z a0 EL n0 W0 own T h Ow cells slots) {x y : Int32} (hd : decode c.code pc = .ok (.imul, 1)) (hp : pc + 1 = pc') (k : OG p e below m Pq T pc' L (.int (x * y) :: S)) : OG p e below m Pq T pc L (.int y :: .int x :: S) := by
  subst hp; exact OG.st (fun t q => XS.imul P.here P.ex rfl hd rfl q) k
theorem o_lmul (P : OPn p l e R s m args below meth c Z a0 EL n0 W0 own T h Ow cells slots) {x y : Int64} (hd : decode c.code pc = .ok (.lmul, 1)) (hp : pc + 1 = pc') (k : OG p e below m Pq T pc' L (.long (x * y) :: S)) : OG p e below m Pq T pc L (.long y :: .long x :: S) := by
  subst hp; exact OG.st (fun t q => XS.lmul P.here P.ex rfl hd rfl q) k
theorem o_iand (P : OPn p l e R s m args below meth c Z a0 EL n0 W0 own T h Ow cells slots) {x y : Int32} (hd : decode c.code pc = .ok (.iand, 1)) (hp : pc + 1 = pc') (k : OG p e below m Pq T pc' L (.int (x &&& y) :: S)) : OG p e below m Pq T pc L (.int y :: .int x :: S) := by
  subst hp; exact OG.st (fun t q => XS.iand P.here P.ex rfl hd rfl q) k
theorem o_land (P : OPn p l e R s m args below meth c Z a0 EL n0 W0 own T h Ow cells slots) {x y : Int64} (hd : decode c.code pc = .ok (.land, 1)) (hp : pc + 1 = pc') (k : OG p e below m Pq T pc' L (.long (x &&& y) :: S)) : OG p e below m Pq T pc L (.long y :: .long x :: S) := by
  subst hp; exact OG.st (fun t q => XS.land P.here P.ex rfl hd rfl q) k
theorem o_ior (P : OPn p l e R s m args below meth c Z a0 EL n0 W0 own T h Ow cells slots) {x y : Int32} (hd : decode c.code pc = .ok (.ior, 1)) (hp : pc + 1 = pc') (k : OG p e below m Pq T pc' L (.int (x ||| y) :: S)) : OG p e below m Pq T pc L (.int y :: .int x :: S) := by
  subst hp; exact OG.st (fun t q => XS.ior P.here P.ex rfl hd rfl q) k
theorem o_lor (P : OPn p l e R s m args below meth c Z a0 EL n0 W0 own T h Ow cells slots) {x y : Int64} (hd : decode c.code pc = .ok (.lor, 1)) (hp : pc + 1 = pc') (k : OG p e below m Pq T pc' L (.long (x ||| y) :: S)) : OG p e below m Pq T pc L (.long y :: .long x :: S) := by
  subst hp; exact OG.st (fun t q => XS.lor P.here P.ex rfl hd rfl q) k
theorem o_ixor (P : OPn p l e R s m args below meth c Z a0 EL n0 W0 own T h Ow cells slots) {x y : Int32} (hd : decode c.code pc = .ok (.ixor, 1)) (hp : pc + 1 = pc') (k : OG p e below m Pq T pc' L (.int (x ^^^ y) :: S)) : OG p e below m Pq T pc L (.int y :: .int x :: S) := by
  subst hp; exact OG.st (fun t q => XS.ixor P.here P.ex rfl hd rfl q) k
theorem o_lxor (P : OPn p l e R s m args below meth c Z a0 EL n0 W0 own T h Ow cells slots) {x y : Int64} (hd : decode c.code pc = .ok (.lxor, 1)) (hp : pc + 1 = pc') (k : OG p e below m Pq T pc' L (.long (x ^^^ y) :: S)) : OG p e below m Pq T pc L (.long y :: .long x :: S) := by
  subst hp; exact OG.st (fun t q => XS.lxor P.here P.ex rfl hd rfl q) k
theorem o_idiv (P : OPn p l e R s m args below meth c Z a0 EL n0 W0 own T h Ow cells slots) {x y : Int32} (hd : decode c.code pc = .ok (.idiv, 1)) (hy : y ≠ 0) (hp : pc + 1 = pc') (k : OG p e below m Pq T pc' L (.int (x / y) :: S)) : OG p e below m Pq T pc L (.int y :: .int x :: S) := by
  subst hp; exact OG.st (fun t q => XS.idiv P.here P.ex rfl hd rfl hy q) k
theorem o_ldiv (P : OPn p l e R s m args below meth c Z a0 EL n0 W0 own T h Ow cells slots) {x y : Int64} (hd : decode c.code pc = .ok (.ldiv, 1)) (hy : y ≠ 0) (hp : pc + 1 = pc') (k : OG p e below m Pq T pc' L (.long (x / y) :: S)) : OG p e below m Pq T pc L (.long y :: .long x :: S) := by
  subst hp; exact OG.st (fun t q => XS.ldiv P.here P.ex rfl hd rfl hy q) k
theorem o_irem (P : OPn p l e R s m args below meth c Z a0 EL n0 W0 own T h Ow cells slots) {x y : Int32} (hd : decode c.code pc = .ok (.irem, 1)) (hy : y ≠ 0) (hp : pc + 1 = pc') (k : OG p e below m Pq T pc' L (.int (x % y) :: S)) : OG p e below m Pq T pc L (.int y :: .int x :: S) := by
  subst hp; exact OG.st (fun t q => XS.irem P.here P.ex rfl hd rfl hy (by rw [irem_eq_mod]; exact q)) k
theorem o_lrem (P : OPn p l e R s m args below meth c Z a0 EL n0 W0 own T h Ow cells slots) {x y : Int64} (hd : decode c.code pc = .ok (.lrem, 1)) (hy : y ≠ 0) (hp : pc + 1 = pc') (k : OG p e below m Pq T pc' L (.long (x % y) :: S)) : OG p e below m Pq T pc L (.long y :: .long x :: S) := by
  subst hp; exact OG.st (fun t q => XS.lrem P.here P.ex rfl hd rfl hy (by rw [lrem_mod]; exact q)) k
theorem o_ineg (P : OPn p l e R s m args below meth c Z a0 EL n0 W0 own T h Ow cells slots) {x : Int32} (hd : decode c.code pc = .ok (.ineg, 1)) (hp : pc + 1 = pc') (k : OG p e below m Pq T pc' L (.int (-x) :: S)) : OG p e below m Pq T pc L (.int x :: S) := by
  subst hp; exact OG.st (fun t q => XS.ineg P.here P.ex rfl hd rfl q) k
theorem o_lneg (P : OPn p l e R s m args below meth c Z a0 EL n0 W0 own T h Ow cells slots) {x : Int64} (hd : decode c.code pc = .ok (.lneg, 1)) (hp : pc + 1 = pc') (k : OG p e below m Pq T pc' L (.long (-x) :: S)) : OG p e below m Pq T pc L (.long x :: S) := by
  subst hp; exact OG.st (fun t q => XS.lneg P.here P.ex rfl hd rfl q) k
theorem o_ishl (P : OPn p l e R s m args below meth c Z a0 EL n0 W0 own T h Ow cells slots) {x y : Int32} (hd : decode c.code pc = .ok (.ishl, 1)) (hp : pc + 1 = pc') (k : OG p e below m Pq T pc' L (.int (x <<< (y &&& 31)) :: S)) : OG p e below m Pq T pc L (.int y :: .int x :: S) := by
  subst hp; exact OG.st (fun t q => XS.ishl P.here P.ex rfl hd rfl q) k
theorem o_ishr (P : OPn p l e R s m args below meth c Z a0 EL n0 W0 own T h Ow cells slots) {x y : Int32} (hd : decode c.code pc = .ok (.ishr, 1)) (hp : pc + 1 = pc') (k : OG p e below m Pq T pc' L (.int (x >>> (y &&& 31)) :: S)) : OG p e below m Pq T pc L (.int y :: .int x :: S) := by
  subst hp; exact OG.st (fun t q => XS.ishr P.here P.ex rfl hd rfl q) k
theorem o_iushr (P : OPn p l e R s m args below meth c Z a0 EL n0 W0 own T h Ow cells slots) {x y : Int32} (hd : decode c.code pc = .ok (.iushr, 1)) (hp : pc + 1 = pc') (k : OG p e below m Pq T pc' L (.int ((x.toUInt32 >>> (y &&& 31).toUInt32).toInt32) :: S)) : OG p e below m Pq T pc L (.int y :: .int x :: S) := by
  subst hp; exact OG.st (fun t q => XS.iushr P.here P.ex rfl hd rfl q) k
theorem o_lshl (P : OPn p l e R s m args below meth c Z a0 EL n0 W0 own T h Ow cells slots) {x : Int64} {y : Int32} (hd : decode c.code pc = .ok (.lshl, 1)) (hp : pc + 1 = pc') (k : OG p e below m Pq T pc' L (.long (x <<< (y &&& 0x3f).toInt64) :: S)) : OG p e below m Pq T pc L (.int y :: .long x :: S) := by
  subst hp; exact OG.st (fun t q => XS.lshl P.here P.ex rfl hd rfl q) k
theorem o_lshr (P : OPn p l e R s m args below meth c Z a0 EL n0 W0 own T h Ow cells slots) {x : Int64} {y : Int32} (hd : decode c.code pc = .ok (.lshr, 1)) (hp : pc + 1 = pc') (k : OG p e below m Pq T pc' L (.long (x >>> (y &&& 0x3f).toInt64) :: S)) : OG p e below m Pq T pc L (.int y :: .long x :: S) := by
  subst hp; exact OG.st (fun t q => XS.lshr P.here P.ex rfl hd rfl q) k
theorem o_lushr (P : OPn p l e R s m args below meth c Z a0 EL n0 W0 own T h Ow cells slots) {x : Int64} {y : Int32} (hd : decode c.code pc = .ok (.lushr, 1)) (hp : pc + 1 = pc') (k : OG p e below m Pq T pc' L (.long ((x.toUInt64 >>> (y &&& 0x3f).toInt64.toUInt64).toInt64) :: S)) : OG p e below m Pq T pc L (.int y :: .long x :: S) := by
  subst hp; exact OG.st (fun t q => XS.lushr P.here P.ex rfl hd rfl q) k
theorem o_i2l (P : OPn p l e R s m args below meth c Z a0 EL n0 W0 own T h Ow cells slots) {x : Int32} (hd : decode c.code pc = .ok (.i2l, 1)) (hp : pc + 1 = pc') (k : OG p e below m Pq T pc' L (.long (x.toInt64) :: S)) : OG p e below m Pq T pc L (.int x :: S) := by
  subst hp; exact OG.st (fun t q => XS.i2l P.here P.ex rfl hd rfl q) k
theorem o_l2i (P : OPn p l e R s m args below meth c Z a0 EL n0 W0 own T h Ow cells slots) {x : Int64} (hd : decode c.code pc = .ok (.l2i, 1)) (hp : pc + 1 = pc') (k : OG p e below m Pq T pc' L (.int (x.toInt32) :: S)) : OG p e below m Pq T pc L (.long x :: S) := by
  subst hp; exact OG.st (fun t q => XS.l2i P.here P.ex rfl hd rfl q) k
theorem o_i2b (P : OPn p l e R s m args below meth c Z a0 EL n0 W0 own T h Ow cells slots) {x : Int32} (hd : decode c.code pc = .ok (.i2b, 1)) (hp : pc + 1 = pc') (k : OG p e below m Pq T pc' L (.int (x.toInt8.toInt32) :: S)) : OG p e below m Pq T pc L (.int x :: S) := by
  subst hp; exact OG.st (fun t q => XS.i2b P.here P.ex rfl hd rfl q) k
theorem o_i2s (P : OPn p l e R s m args below meth c Z a0 EL n0 W0 own T h Ow cells slots) {x : Int32} (hd : decode c.code pc = .ok (.i2s, 1)) (hp : pc + 1 = pc') (k : OG p e below m Pq T pc' L (.int (x.toInt16.toInt32) :: S)) : OG p e below m Pq T pc L (.int x :: S) := by
  subst hp; exact OG.st (fun t q => XS.i2s P.here P.ex rfl hd rfl q) k
theorem o_i2c (P : OPn p l e R s m args below meth c Z a0 EL n0 W0 own T h Ow cells slots) {x : Int32} (hd : decode c.code pc = .ok (.i2c, 1)) (hp : pc + 1 = pc') (k : OG p e below m Pq T pc' L (.int (x.toUInt32.toUInt16.toUInt32.toInt32) :: S)) : OG p e below m Pq T pc L (.int x :: S) := by
  subst hp; exact OG.st (fun t q => XS.i2c P.here P.ex rfl hd rfl q) k
theorem o_lcmp (P : OPn p l e R s m args below meth c Z a0 EL n0 W0 own T h Ow cells slots) {x y : Int64} (hd : decode c.code pc = .ok (.lcmp, 1)) (hp : pc + 1 = pc') (k : OG p e below m Pq T pc' L (.int (lcmpW x y) :: S)) : OG p e below m Pq T pc L (.long y :: .long x :: S) := by
  subst hp; exact OG.st (fun t q => XS.lcmp P.here P.ex rfl hd rfl q) k
theorem o_i2d (P : OPn p l e R s m args below meth c Z a0 EL n0 W0 own T h Ow cells slots) {x : Int32} {v : UInt64} (hd : decode c.code pc = .ok (.i2d, 1)) (hv : FP.i2d x = v) (hp : pc + 1 = pc') (k : OG p e below m Pq T pc' L (.double v :: S)) : OG p e below m Pq T pc L (.int x :: S) := by
  subst hp; exact OG.st (fun t q => XS.i2dS P.here P.ex rfl hd rfl hv q) k
theorem o_dadd (P : OPn p l e R s m args below meth c Z a0 EL n0 W0 own T h Ow cells slots) {x y v : UInt64} (hd : decode c.code pc = .ok (.dadd, 1)) (hn : Jvm.Free.Fl.NoNaN64 (FP.dadd x y)) (hv : FP.dadd x y = v) (hp : pc + 1 = pc') (k : OG p e below m Pq T pc' L (.double v :: S)) : OG p e below m Pq T pc L (.double y :: .double x :: S) := by
  subst hp; exact OG.st (fun t q => XS.daddS P.here P.ex rfl hd rfl hn hv q) k
theorem o_dmul (P : OPn p l e R s m args below meth c Z a0 EL n0 W0 own T h Ow cells slots) {x y v : UInt64} (hd : decode c.code pc = .ok (.dmul, 1)) (hn : Jvm.Free.Fl.NoNaN64 (FP.dmul x y)) (hv : FP.dmul x y = v) (hp : pc + 1 = pc') (k : OG p e below m Pq T pc' L (.double v :: S)) : OG p e below m Pq T pc L (.double y :: .double x :: S) := by
  subst hp; exact OG.st (fun t q => XS.dmulS P.here P.ex rfl hd rfl hn hv q) k
theorem o_ddiv (P : OPn p l e R s m args below meth c Z a0 EL n0 W0 own T h Ow cells slots) {x y v : UInt64} (hd : decode c.code pc = .ok (.ddiv, 1)) (hn : Jvm.Free.Fl.NoNaN64 (FP.ddiv x y)) (hv : FP.ddiv x y = v) (hp : pc + 1 = pc') (k : OG p e below m Pq T pc' L (.double v :: S)) : OG p e below m Pq T pc L (.double y :: .double x :: S) := by
  subst hp; exact OG.st (fun t q => XS.ddivS P.here P.ex rfl hd rfl hn hv q) k
theorem o_dcmp (P : OPn p l e R s m args below meth c Z a0 EL n0 W0 own T h Ow cells slots) {o : CmpOp} {x y : UInt64} {v : Int32} (hd : decode c.code pc = .ok (.dcmp o, 1)) (hv : cmpValue (FP.dcmp x y) o = v) (hp : pc + 1 = pc') (k : OG p e below m Pq T pc' L (.int v :: S)) : OG p e below m Pq T pc L (.double y :: .double x :: S) := by
  subst hp; exact OG.st (fun t q => XS.dcmpS P.here P.ex rfl hd rfl hv q) k
theorem o_dup (P : OPn p l e R s m args below meth c Z a0 EL n0 W0 own T h Ow cells slots) {x : Value} (hd : decode c.code pc = .ok (.dup, 1)) (hc : x.category = 1) (hp : pc + 1 = pc') (k : OG p e below m Pq T pc' L (x :: x :: S)) : OG p e below m Pq T pc L (x :: S) := by
  subst hp; exact OG.st (fun t q => XS.dup P.here P.ex rfl hd rfl hc q) k
theorem o_pop (P : OPn p l e R s m args below meth c Z a0 EL n0 W0 own T h Ow cells slots) {x : Value} (hd : decode c.code pc = .ok (.pop, 1)) (hc : x.category = 1) (hp : pc + 1 = pc') (k : OG p e below m Pq T pc' L S) : OG p e below m Pq T pc L (x :: S) := by
  subst hp; exact OG.st (fun t q => XS.pop P.here P.ex rfl hd rfl hc q) k
theorem o_swap (P : OPn p l e R s m args below meth c Z a0 EL n0 W0 own T h Ow cells slots) {x y : Value} (hd : decode c.code pc = .ok (.swap, 1)) (hc : x.category = 1) (hc2 : y.category = 1) (hp : pc + 1 = pc') (k : OG p e below m Pq T pc' L (y :: x :: S)) : OG p e below m Pq T pc L (x :: y :: S) := by
  subst hp; exact OG.st (fun t q => XS.swap P.here P.ex rfl hd rfl hc hc2 q) k
theorem o_dupX1 (P : OPn p l e R s m args below meth c Z a0 EL n0 W0 own T h Ow cells slots) {x y : Value} (hd : decode c.code pc = .ok (.dup_x1, 1)) (hc : x.category = 1) (hc2 : y.category = 1) (hp : pc + 1 = pc') (k : OG p e below m Pq T pc' L (x :: y :: x :: S)) : OG p e below m Pq T pc L (x :: y :: S) := by
  subst hp; exact OG.st (fun t q => XS.dupX1 P.here P.ex rfl hd rfl hc hc2 q) k
theorem o_dup2 (P : OPn p l e R s m args below meth c Z a0 EL n0 W0 own T h Ow cells slots) {x y : Value} (hd : decode c.code pc = .ok (.dup2, 1)) (hc : x.category = 1) (hc2 : y.category = 1) (hp : pc + 1 = pc') (k : OG p e below m Pq T pc' L (x :: y :: x :: y :: S)) : OG p e below m Pq T pc L (x :: y :: S) := by
  subst hp; exact OG.st (fun t q => Jvm.Free.XT.dup2 P.here P.ex rfl hd rfl hc hc2 q) k
theorem o_dup2L (P : OPn p l e R s m args below meth c Z a0 EL n0 W0 own T h Ow cells slots) {x : Int64} (hd : decode c.code pc = .ok (.dup2, 1)) (hp : pc + 1 = pc') (k : OG p e below m Pq T pc' L (.long x :: .long x :: S)) : OG p e below m Pq T pc L (.long x :: S) := by
  subst hp; exact OG.st (fun t q => Jvm.Free.XT.dup2L P.here P.ex rfl hd rfl q) k
theorem o_iinc (P : OPn p l e R s m args below meth c Z a0 EL n0 W0 own T h Ow cells slots) {k0 : Nat} {i : Int} {x : Int32} (v : Int32) (hd : decode c.code pc = .ok (.iinc k0 i, 3)) (hv : Int32.ofInt i = v) (hl : L[k0]? = some (.val (.int x))) (hl' : storeLocals L k0 (.int (x + v)) = some L') (hp : pc + 3 = pc') (k : OG p e below m Pq T pc' L' S) : OG p e below m Pq T pc L S := by
  subst hp; exact OG.st (fun t q => XS.iinc P.here P.ex rfl hd hl (hv ▸ hl') q) k
theorem o_goto (P : OPn p l e R s m args below meth c Z a0 EL n0 W0 own T h Ow cells slots) {o : Int} (hd : decode c.code pc = .ok (.goto o, 3)) (ho : 0 ≤ (pc : Int) + o) (hp : ((pc : Int) + o).toNat = pc') (k : OG p e below m Pq T pc' L S) : OG p e below m Pq T pc L S :=
  OG.st (fun t q => XS.goto P.here P.ex rfl rfl hd ho hp q) k
theorem o_icmp_lt (P : OPn p l e R s m args below meth c Z a0 EL n0 W0 own T h Ow cells slots) {o : Int} {x y : Int32} {pcf : Nat} (hd : decode c.code pc = .ok (.if_icmp .lt o, 3)) (ho : 0 ≤ (pc : Int) + o) (hp : ((pc : Int) + o).toNat = pc') (hq : pc + 3 = pcf) (k1 : x < y → OG p e below m Pq T pc' L S) (k2 : ¬ x < y → OG p e below m Pq T pcf L S) : OG p e below m Pq T pc L (.int y :: .int x :: S) := by
  by_cases q : x < y
  · exact OG.st (fun t r => XS.icmpYes P.here P.ex rfl rfl hd rfl (tlt q).1 ho hp r) (k1 q)
  · subst hq; exact OG.st (fun t r => XS.icmpNo P.here P.ex rfl hd rfl (flt q).1 r) (k2 q)
theorem o_if_lt (P : OPn p l e R s m args below meth c Z a0 EL n0 W0 own T h Ow cells slots) {o : Int} {x : Int32} {pcf : Nat} (hd : decode c.code pc = .ok (.ifCond .lt o, 3)) (ho : 0 ≤ (pc : Int) + o) (hp : ((pc : Int) + o).toNat = pc') (hq : pc + 3 = pcf) (k1 : x < (0 : Int32) → OG p e below m Pq T pc' L S) (k2 : ¬ x < (0 : Int32) → OG p e below m Pq T pcf L S) : OG p e below m Pq T pc L (.int x :: S) := by
  by_cases q : x < (0 : Int32)
  · exact OG.st (fun t r => XS.ifYes P.here P.ex rfl rfl hd rfl ((if0 _ _).trans (tlt q).1) ho hp r) (k1 q)
  · subst hq; exact OG.st (fun t r => XS.ifNo P.here P.ex rfl hd rfl ((if0 _ _).trans (flt q).1) r) (k2 q)
theorem o_icmp_ge (P : OPn p l e R s m args below meth c Z a0 EL n0 W0 own T h Ow cells slots) {o : Int} {x y : Int32} {pcf : Nat} (hd : decode c.code pc = .ok (.if_icmp .ge o, 3)) (ho : 0 ≤ (pc : Int) + o) (hp : ((pc : Int) + o).toNat = pc') (hq : pc + 3 = pcf) (k1 : ¬ x < y → OG p e below m Pq T pc' L S) (k2 : x < y → OG p e below m Pq T pcf L S) : OG p e below m Pq T pc L (.int y :: .int x :: S) := by
  by_cases q : x < y
  · subst hq; exact OG.st (fun t r => XS.icmpNo P.here P.ex rfl hd rfl (tlt q).2.1 r) (k2 q)
  · exact OG.st (fun t r => XS.icmpYes P.here P.ex rfl rfl hd rfl (flt q).2.1 ho hp r) (k1 q)
theorem o_if_ge (P : OPn p l e R s m args below meth c Z a0 EL n0 W0 own T h Ow cells slots) {o : Int} {x : Int32} {pcf : Nat} (hd : decode c.code pc = .ok (.ifCond .ge o, 3)) (ho : 0 ≤ (pc : Int) + o) (hp : ((pc : Int) + o).toNat = pc') (hq : pc + 3 = pcf) (k1 : ¬ x < (0 : Int32) → OG p e below m Pq T pc' L S) (k2 : x < (0 : Int32) → OG p e below m Pq T pcf L S) : OG p e below m Pq T pc L (.int x :: S) := by
  by_cases q : x < (0 : Int32)
  · subst hq; exact OG.st (fun t r => XS.ifNo P.here P.ex rfl hd rfl ((if0 _ _).trans (tlt q).2.1) r) (k2 q)
  · exact OG.st (fun t r => XS.ifYes P.here P.ex rfl rfl hd rfl ((if0 _ _).trans (flt q).2.1) ho hp r) (k1 q)
theorem o_icmp_gt (P : OPn p l e R s m args below meth c Z a0 EL n0 W0 own T h Ow cells slots) {o : Int} {x y : Int32} {pcf : Nat} (hd : decode c.code pc = .ok (.if_icmp .gt o, 3)) (ho : 0 ≤ (pc : Int) + o) (hp : ((pc : Int) + o).toNat = pc') (hq : pc + 3 = pcf) (k1 : y < x → OG p e below m Pq T pc' L S) (k2 : ¬ y < x → OG p e below m Pq T pcf L S) : OG p e below m Pq T pc L (.int y :: .int x :: S) := by
  by_cases q : y < x
  · exact OG.st (fun t r => XS.icmpYes P.here P.ex rfl rfl hd rfl (tlt q).2.2.1 ho hp r) (k1 q)
  · subst hq; exact OG.st (fun t r => XS.icmpNo P.here P.ex rfl hd rfl (flt q).2.2.1 r) (k2 q)
theorem o_if_gt (P : OPn p l e R s m args below meth c Z a0 EL n0 W0 own T h Ow cells slots) {o : Int} {x : Int32} {pcf : Nat} (hd : decode c.code pc = .ok (.ifCond .gt o, 3)) (ho : 0 ≤ (pc : Int) + o) (hp : ((pc : Int) + o).toNat = pc') (hq : pc + 3 = pcf) (k1 : (0 : Int32) < x → OG p e below m Pq T pc' L S) (k2 : ¬ (0 : Int32) < x → OG p e below m Pq T pcf L S) : OG p e below m Pq T pc L (.int x :: S) := by
  by_cases q : (0 : Int32) < x
  · exact OG.st (fun t r => XS.ifYes P.here P.ex rfl rfl hd rfl ((if0 _ _).trans (tlt q).2.2.1) ho hp r) (k1 q)
  · subst hq; exact OG.st (fun t r => XS.ifNo P.here P.ex rfl hd rfl ((if0 _ _).trans (flt q).2.2.1) r) (k2 q)
theorem o_icmp_le (P : OPn p l e R s m args below meth c Z a0 EL n0 W0 own T h Ow cells slots) {o : Int} {x y : Int32} {pcf : Nat} (hd : decode c.code pc = .ok (.if_icmp .le o, 3)) (ho : 0 ≤ (pc : Int) + o) (hp : ((pc : Int) + o).toNat = pc') (hq : pc + 3 = pcf) (k1 : ¬ y < x → OG p e below m Pq T pc' L S) (k2 : y < x → OG p e below m Pq T pcf L S) : OG p e below m Pq T pc L (.int y :: .int x :: S) := by
  by_cases q : y < x
  · subst hq; exact OG.st (fun t r => XS.icmpNo P.here P.ex rfl hd rfl (tlt q).2.2.2 r) (k2 q)
  · exact OG.st (fun t r => XS.icmpYes P.here P.ex rfl rfl hd rfl (flt q).2.2.2 ho hp r) (k1 q)
theorem o_if_le (P : OPn p l e R s m args below meth c Z a0 EL n0 W0 own T h Ow cells slots) {o : Int} {x : Int32} {pcf : Nat} (hd : decode c.code pc = .ok (.ifCond .le o, 3)) (ho : 0 ≤ (pc : Int) + o) (hp : ((pc : Int) + o).toNat = pc') (hq : pc + 3 = pcf) (k1 : ¬ (0 : Int32) < x → OG p e below m Pq T pc' L S) (k2 : (0 : Int32) < x → OG p e below m Pq T pcf L S) : OG p e below m Pq T pc L (.int x :: S) := by
  by_cases q : (0 : Int32) < x
  · subst hq; exact OG.st (fun t r => XS.ifNo P.here P.ex rfl hd rfl ((if0 _ _).trans (tlt q).2.2.2) r) (k2 q)
  · exact OG.st (fun t r => XS.ifYes P.here P.ex rfl rfl hd rfl ((if0 _ _).trans (flt q).2.2.2) ho hp r) (k1 q)
theorem o_icmp_eq (P : OPn p l e R s m args below meth c Z a0 EL n0 W0 own T h Ow cells slots) {o : Int} {x y : Int32} {pcf : Nat} (hd : decode c.code pc = .ok (.if_icmp .eq o, 3)) (ho : 0 ≤ (pc : Int) + o) (hp : ((pc : Int) + o).toNat = pc') (hq : pc + 3 = pcf) (k1 : x = y → OG p e below m Pq T pc' L S) (k2 : ¬ x = y → OG p e below m Pq T pcf L S) : OG p e below m Pq T pc L (.int y :: .int x :: S) := by
  by_cases q : x = y
  · exact OG.st (fun t r => XS.icmpYes P.here P.ex rfl rfl hd rfl (teq q).1 ho hp r) (k1 q)
  · subst hq; exact OG.st (fun t r => XS.icmpNo P.here P.ex rfl hd rfl (feq q).1 r) (k2 q)
theorem o_if_eq (P : OPn p l e R s m args below meth c Z a0 EL n0 W0 own T h Ow cells slots) {o : Int} {x : Int32} {pcf : Nat} (hd : decode c.code pc = .ok (.ifCond .eq o, 3)) (ho : 0 ≤ (pc : Int) + o) (hp : ((pc : Int) + o).toNat = pc') (hq : pc + 3 = pcf) (k1 : x = (0 : Int32) → OG p e below m Pq T pc' L S) (k2 : ¬ x = (0 : Int32) → OG p e below m Pq T pcf L S) : OG p e below m Pq T pc L (.int x :: S) := by
  by_cases q : x = (0 : Int32)
  · exact OG.st (fun t r => XS.ifYes P.here P.ex rfl rfl hd rfl ((if0 _ _).trans (teq q).1) ho hp r) (k1 q)
  · subst hq; exact OG.st (fun t r => XS.ifNo P.here P.ex rfl hd rfl ((if0 _ _).trans (feq q).1) r) (k2 q)
theorem o_icmp_ne (P : OPn p l e R s m args below meth c Z a0 EL n0 W0 own T h Ow cells slots) {o : Int} {x y : Int32} {pcf : Nat} (hd : decode c.code pc = .ok (.if_icmp .ne o, 3)) (ho : 0 ≤ (pc : Int) + o) (hp : ((pc : Int) + o).toNat = pc') (hq : pc + 3 = pcf) (k1 : ¬ x = y → OG p e below m Pq T pc' L S) (k2 : x = y → OG p e below m Pq T pcf L S) : OG p e below m Pq T pc L (.int y :: .int x :: S) := by
  by_cases q : x = y
  · subst hq; exact OG.st (fun t r => XS.icmpNo P.here P.ex rfl hd rfl (teq q).2 r) (k2 q)
  · exact OG.st (fun t r => XS.icmpYes P.here P.ex rfl rfl hd rfl (feq q).2 ho hp r) (k1 q)
theorem o_if_ne (P : OPn p l e R s m args below meth c Z a0 EL n0 W0 own T h Ow cells slots) {o : Int} {x : Int32} {pcf : Nat} (hd : decode c.code pc = .ok (.ifCond .ne o, 3)) (ho : 0 ≤ (pc : Int) + o) (hp : ((pc : Int) + o).toNat = pc') (hq : pc + 3 = pcf) (k1 : ¬ x = (0 : Int32) → OG p e below m Pq T pc' L S) (k2 : x = (0 : Int32) → OG p e below m Pq T pcf L S) : OG p e below m Pq T pc L (.int x :: S) := by
  by_cases q : x = (0 : Int32)
  · subst hq; exact OG.st (fun t r => XS.ifNo P.here P.ex rfl hd rfl ((if0 _ _).trans (teq q).2) r) (k2 q)
  · exact OG.st (fun t r => XS.ifYes P.here P.ex rfl rfl hd rfl ((if0 _ _).trans (feq q).2) ho hp r) (k1 q)
theorem o_ifnullY (P : OPn p l e R s m args below meth c Z a0 EL n0 W0 own T h Ow cells slots) {o : Int} (hd : decode c.code pc = .ok (.ifnull o, 3)) (ho : 0 ≤ (pc : Int) + o) (hp : ((pc : Int) + o).toNat = pc') (k : OG p e below m Pq T pc' L S) : OG p e below m Pq T pc L (.null :: S) :=
  OG.st (fun t q => XS.ifnullYes P.here P.ex rfl rfl hd rfl ho hp q) k
theorem o_ifnullN (P : OPn p l e R s m args below meth c Z a0 EL n0 W0 own T h Ow cells slots) {o : Int} {b : Addr} (hd : decode c.code pc = .ok (.ifnull o, 3)) (hp : pc + 3 = pc') (k : OG p e below m Pq T pc' L S) : OG p e below m Pq T pc L (.ref b :: S) := by
  subst hp; exact OG.st (fun t q => XS.ifnullNo P.here P.ex rfl hd rfl q) k
theorem o_ifnonnullY (P : OPn p l e R s m args below meth c Z a0 EL n0 W0 own T h Ow cells slots) {o : Int} {b : Addr} (hd : decode c.code pc = .ok (.ifnonnull o, 3)) (ho : 0 ≤ (pc : Int) + o) (hp : ((pc : Int) + o).toNat = pc') (k : OG p e below m Pq T pc' L S) : OG p e below m Pq T pc L (.ref b :: S) :=
  OG.st (fun t q => XS.ifnonnullYes P.here P.ex rfl rfl hd rfl ho hp q) k
theorem o_ifnonnullN (P : OPn p l e R s m args below meth c Z a0 EL n0 W0 own T h Ow cells slots) {o : Int} (hd : decode c.code pc = .ok (.ifnonnull o, 3)) (hp : pc + 3 = pc') (k : OG p e below m Pq T pc' L S) : OG p e below m Pq T pc L (.null :: S) := by
  subst hp; exact OG.st (fun t q => XS.ifnonnullNo P.here P.ex rfl hd rfl q) k
theorem o_acmp (P : OPn p l e R s m args below meth c Z a0 EL n0 W0 own T h Ow cells slots) {cd : ACond} {o : Int} {x y : Value} (same : Bool) (hd : decode c.code pc = .ok (.if_acmp cd o, 3)) (h1 : x.isRef = true) (h2 : y.isRef = true) (hq : decide (x = y) = same) (ho : 0 ≤ (pc : Int) + o) (hp : pc' = if acV cd same = true then ((pc : Int) + o).toNat else pc + 3) (k : OG p e below m Pq T pc' L S) : OG p e below m Pq T pc L (y :: x :: S) := by
  obtain ⟨locs, X, hx, -⟩ := P
  exact OG.st (fun t q => Jvm.RoadKit.acmp X hx rfl h1 h2 rfl hd rfl hq ho hp q) k
/-! objects: class and fields, one fact -/
def OObj (Z : State) (h : Heap) (a : Addr) (C : String) (fs : List (String × String × String × Value)) : Prop :=
  Exa Z h a C ∧ (∀ f ∈ fs, Fld Z h a f.1 f.2.1 f.2.2.1 f.2.2.2) ∧ ∀ (i j : Nat) (f g : String × String × String × Value), i ≠ j → fs[i]? = some f → fs[j]? = some g → Jvm.RoadKit.slotOf Z f.1 f.2.1 f.2.2.1 ≠ Jvm.RoadKit.slotOf Z g.1 g.2.1 g.2.2.1
section OObjs
variable {a b : Addr} {C O nm d : String} {fs : List (String × String × String × Value)} {u v w : Value} {ws : List Addr} {sl : Nat}
theorem OObj.exa (F : OObj Z h a C fs) : Exa Z h a C := F.1
theorem OObj.lt (F : OObj Z h a C fs) : a < h.size := F.1.lt
theorem OObj.keep (F : OObj Z h a C fs) (K : Keep h h' ws) (q : a ∉ ws) : OObj Z h' a C fs := ⟨F.1.keep K, fun f hf => (F.2.1 f hf).keep K q, F.2.2⟩
theorem OObj.oth (F : OObj Z h a C fs) (W : Wr h h' b sl v) (q : a ≠ b) : OObj Z h' a C fs := ⟨F.1.wr W, fun f hf => (F.2.1 f hf).other W (Or.inl q), F.2.2⟩
theorem OObj.fld (F : OObj Z h a C fs) (i : Nat) (hi : fs[i]? = some (O, nm, d, v)) : Fld Z h a O nm d v := F.2.1 _ (List.mem_of_getElem? hi)
theorem OObj.put (F : OObj Z h a C fs) (i : Nat) (hi : fs[i]? = some (O, nm, d, u)) (W : Wr h h' a (Jvm.RoadKit.slotOf Z O nm d) v) : OObj Z h' a C (fs.set i (O, nm, d, v)) := by
  have key : ∀ (j : Nat) (f : String × String × String × Value), (fs.set i (O, nm, d, v))[j]? = some f → (j = i ∧ f = (O, nm, d, v)) ∨ (j ≠ i ∧ fs[j]? = some f) := by
    intro j f hj
    by_cases e : j = i
    · subst e
      have hlt : j < fs.length := (List.getElem?_eq_some_iff.mp hi).1
      rw [List.getElem?_set_self hlt] at hj
      exact Or.inl ⟨rfl, (Option.some.inj hj).symm⟩
    · rw [List.getElem?_set_ne (fun q => e q.symm)] at hj
      exact Or.inr ⟨e, hj⟩
  refine ⟨F.1.wr W, fun f hf => ?_, fun j k f g hjk hj hk => ?_⟩
  · obtain ⟨j, hj⟩ := List.getElem?_of_mem hf
    rcases key j f hj with ⟨rfl, rfl⟩ | ⟨hne, hj'⟩
    · exact (F.fld j hi).same W
    · exact (F.2.1 f (List.mem_of_getElem? hj')).other W (Or.inr (F.2.2 j i f (O, nm, d, u) hne hj' hi))
  · rcases key j f hj with ⟨rfl, rfl⟩ | ⟨hne, hj'⟩ <;> rcases key k g hk with ⟨rfl, rfl⟩ | ⟨hne', hk'⟩
    · exact absurd rfl hjk
    · exact F.2.2 j k (O, nm, d, u) g hjk hi hk'
    · exact F.2.2 j k f (O, nm, d, u) hjk hj' hi
    · exact F.2.2 j k f g hjk hj' hk'
theorem OObj.new (E : Exa Z h a C) (D : ∀ {O nm d : String} {ty : FieldType}, Laid Z a0 C O nm d → parseFieldDescriptor d = some ty → Fld Z h a O nm d (defaultValue ty)) (hL : ∀ f ∈ fs, Laid Z a0 C f.1 f.2.1 f.2.2.1 ∧ ∃ ty, parseFieldDescriptor f.2.2.1 = some ty ∧ defaultValue ty = f.2.2.2) (nd : (fs.map fun f => f.2.1).Nodup) : OObj Z h a C fs := by
  refine ⟨E, fun f hf => ?_, fun i j f g hij hi hj => ?_⟩
  · obtain ⟨L, ty, h1, h2⟩ := hL f hf
    rw [← h2]; exact D L h1
  · obtain ⟨L1, t1, p1, -⟩ := hL f (List.mem_of_getElem? hi)
    obtain ⟨L2, t2, p2, -⟩ := hL g (List.mem_of_getElem? hj)
    refine slot_ne L1 L2 (fun e => hij ?_) p1 p2
    have hi' : (fs.map fun f => f.2.1)[i]? = some f.2.1 := by rw [List.getElem?_map, hi]; rfl
    have hj' : (fs.map fun f => f.2.1)[j]? = some f.2.1 := by rw [List.getElem?_map, hj, e]; rfl
    obtain ⟨li, ei⟩ := List.getElem?_eq_some_iff.mp hi'
    obtain ⟨lj, ej⟩ := List.getElem?_eq_some_iff.mp hj'
    have np := List.pairwise_iff_getElem.mp nd
    rcases Nat.lt_trichotomy i j with q | q | q
    · exact absurd (ei.trans ej.symm) (np i j li lj q)
    · exact q
    · exact absurd (ej.trans ei.symm) (np j i lj li q)
end OObjs
/-- every field of the list is laid, with its first value -/
def OLd (Z : State) (a0 : Array Value) (C : String) (fs : List (String × String × String × Value)) : Prop := ∀ f ∈ fs, Laid Z a0 C f.1 f.2.1 f.2.2.1 ∧ ∃ ty, parseFieldDescriptor f.2.2.1 = some ty ∧ defaultValue ty = f.2.2.2
theorem OLd.nil {C : String} : OLd Z a0 C [] := fun _ q => nomatch q
theorem OLd.cons {C O nm d : String} {v : Value} {ty : FieldType} {fs : List (String × String × String × Value)} (L : Laid Z a0 C O nm d) (h1 : parseFieldDescriptor d = some ty) (h2 : defaultValue ty = v) (r : OLd Z a0 C fs) : OLd Z a0 C ((O, nm, d, v) :: fs) := fun f hf => by
  rcases List.mem_cons.mp hf with rfl | hf
  · exact ⟨L, ty, h1, h2⟩
  · exact r f hf
/-! arrays: the whole content, one fact -/
def OArr (Z : State) (h : Heap) (a : Addr) (ty : FieldType) (vs : List Value) : Prop :=
  ∃ c : Cell, Arr Z h a c ty ∧ c.slots = vs.toArray ∧ vs.length < 2147483648 ∧ ∀ v ∈ vs, fits ty v = true
section OArrs
variable {a b : Addr} {ty : FieldType} {vs : List Value} {u v w : Value} {ws : List Addr} {sl : Nat} {j z : Int32} {k : ClassId} {dv : Value}
theorem OArr.eq {vs' : List Value} (F : OArr Z h a ty vs) (e : vs = vs') : OArr Z h a ty vs' := e ▸ F
theorem OArr.lt (F : OArr Z h a ty vs) : a < h.size := by obtain ⟨c, A, -⟩ := F; exact A.lt
theorem OArr.len (F : OArr Z h a ty vs) : vs.length < 2147483648 := by obtain ⟨c, -, -, q, -⟩ := F; exact q
theorem OArr.keep (F : OArr Z h a ty vs) (K : Keep h h' ws) (q : a ∉ ws) : OArr Z h' a ty vs := by obtain ⟨c, A, r⟩ := F; exact ⟨c, ⟨K.2.1 a c A.1 q, A.2⟩, r⟩
theorem OArr.oth (F : OArr Z h a ty vs) (W : Wr h h' b sl v) (q : a ≠ b) : OArr Z h' a ty vs := by obtain ⟨c, A, r⟩ := F; exact ⟨c, A.other W q, r⟩
theorem OArr.set (F : OArr Z h a ty vs) (W : Wr h h' a sl v) (hv : fits ty v = true) : OArr Z h' a ty (vs.set sl v) := by
  obtain ⟨c, A, e, n, q⟩ := F
  refine ⟨c.setSlot sl v, A.same W, by simp [Cell.setSlot, e], by rw [List.length_set]; exact n, fun x hx => ?_⟩
  rcases List.mem_or_eq_of_mem_set hx with hx | rfl
  · exact q x hx
  · exact hv
theorem OArr.ofArv (F : Arv Z h a k ty z vs dv) (hl : vs.length = z.toNatClampNeg) : OArr Z h a ty vs := by
  obtain ⟨c, A, -, S, q, H, G⟩ := F
  refine ⟨c, A, ?_, by rw [hl]; exact (back32 q).2, fun v hv => ?_⟩
  · apply Array.ext_getElem?
    intro i
    by_cases hi : i < c.slots.size
    · rw [H i hi]
      have hi' : i < vs.length := by rw [hl, ← S]; exact hi
      simp [hi']
    · rw [Array.getElem?_eq_none (by omega)]
      have hi' : ¬ i < vs.length := by rw [hl, ← S]; exact hi
      simp; omega
  · obtain ⟨i, hi⟩ := List.getElem?_of_mem hv
    obtain ⟨hi1, hi2⟩ := List.getElem?_eq_some_iff.mp hi
    have := G i (by rw [S, ← hl]; exact hi1)
    simpa [hi1, hi2] using this
theorem OArr.toArv (F : OArr Z h a ty vs) (hz : ¬ z < 0) (hl : z.toNatClampNeg = vs.length) : ∃ k, Arv Z h a k ty z vs dv := by
  obtain ⟨c, A, e, n, q⟩ := F
  refine ⟨c.cls, c, A, rfl, by rw [e, hl]; simp, hz, fun i hi => ?_, fun i hi => ?_⟩
  · rw [e] at hi ⊢
    have hi' : i < vs.length := by simpa using hi
    simp [hi']
  · rw [e] at hi
    have hi' : i < vs.length := by simpa using hi
    have := q vs[i] (List.getElem_mem hi')
    simpa [hi'] using this
theorem OArr.size (F : OArr Z h a ty vs) {c : Cell} (hc : h[a]? = some c) : c.slots = vs.toArray := by
  obtain ⟨c', A, e, -⟩ := F
  cases hc.symm.trans A.1
  exact e
/-- inside -/
theorem o_in (hj : ¬ j < 0) (hl : j.toNatClampNeg < vs.length) : ¬ (j < 0 ∨ vs.toArray.size ≤ j.toNatClampNeg) := fun q => q.elim hj fun r => by simp at r; omega
end OArrs
/-! fields -/
theorem o_getF (P : OPn p l e R s m args below meth c Z a0 EL n0 W0 own T h Ow cells slots) {R0 O n d : String} {index : Nat} {a : Addr} {v : Value} (w : (Jvm.Cond.fieldLink own index R0 n d).before a0 Z = true) (via : Via Z R0 O n d) (F : Fld Z h a O n d v) (hd : decode c.code pc = .ok (.getfield index, 3)) (hp : pc + 3 = pc')
    (k : ∀ T', OPn p l e R s m args below meth c Z a0 EL n0 W0 own T' h Ow cells slots → OG p e below m Pq T' pc' L (v :: S)) : OG p e below m Pq T pc L (.ref a :: S) := by
  subst hp
  exact P.tab (fun locs X hZ hown eT hx => getF (host := "") X hx hZ hown (Or.inl w) via eT F (g := mkF m pc L (.ref a :: S)) rfl rfl hd) k
theorem o_getFN (P : OPn p l e R s m args below meth c Z a0 EL n0 W0 own T h Ow cells slots) {R0 O n d host : String} {index : Nat} {a : Addr} {v : Value} (w : (Jvm.Cond.fieldLinkNest own index R0 n d host).before a0 Z = true) (via : Via Z R0 O n d) (F : Fld Z h a O n d v) (hd : decode c.code pc = .ok (.getfield index, 3)) (hp : pc + 3 = pc')
    (k : ∀ T', OPn p l e R s m args below meth c Z a0 EL n0 W0 own T' h Ow cells slots → OG p e below m Pq T' pc' L (v :: S)) : OG p e below m Pq T pc L (.ref a :: S) := by
  subst hp
  exact P.tab (fun locs X hZ hown eT hx => getF (host := host) X hx hZ hown (Or.inr w) via eT F (g := mkF m pc L (.ref a :: S)) rfl rfl hd) k
theorem o_getS (P : OPn p l e R s m args below meth c Z a0 EL n0 W0 own T h Ow cells slots) {R0 O n d : String} {index : Nat} {v : Value} (w : (Jvm.Cond.fieldLink own index R0 n d).before a0 Z = true) (via : Via Z R0 O n d) (F : Sta Z Z.heap O n d v) (hd : decode c.code pc = .ok (.getstatic index, 3)) (hp : pc + 3 = pc')
    (k : ∀ T', OPn p l e R s m args below meth c Z a0 EL n0 W0 own T' h Ow cells slots → OG p e below m Pq T' pc' L (v :: S)) : OG p e below m Pq T pc L S := by
  subst hp
  have O := P.old
  exact P.tab (fun locs X hZ hown eT hx => getS2 (host := "") X hx hZ hown (Or.inl w) via eT (F.ext O.2) (g := mkF m pc L S) rfl hd) k
theorem o_getSN (P : OPn p l e R s m args below meth c Z a0 EL n0 W0 own T h Ow cells slots) {R0 O n d host : String} {index : Nat} {v : Value} (w : (Jvm.Cond.fieldLinkNest own index R0 n d host).before a0 Z = true) (via : Via Z R0 O n d) (F : Sta Z Z.heap O n d v) (hd : decode c.code pc = .ok (.getstatic index, 3)) (hp : pc + 3 = pc')
    (k : ∀ T', OPn p l e R s m args below meth c Z a0 EL n0 W0 own T' h Ow cells slots → OG p e below m Pq T' pc' L (v :: S)) : OG p e below m Pq T pc L S := by
  subst hp
  have O := P.old
  exact P.tab (fun locs X hZ hown eT hx => getS2 (host := host) X hx hZ hown (Or.inr w) via eT (F.ext O.2) (g := mkF m pc L S) rfl hd) k
theorem o_putF (P : OPn p l e R s m args below meth c Z a0 EL n0 W0 own T h Ow cells slots) {R0 O n d C : String} {index kk : Nat} {a : Addr} {v v' old : Value} {ty : FieldType} (w : (Jvm.Cond.fieldLink own index R0 n d).before a0 Z = true) (via : Via Z R0 O n d) (F : Fld Z h a O n d old) (E : Exa Z h a C) (Lw : (Jvm.Cond.lays C O n d).before a0 Z = true ∨ ((Jvm.Cond.laysFinal C O n d).before a0 Z = true ∧ own = O ∧ meth.name = "<init>")) (wi : (Jvm.Cond.instantiable C kk).before a0 Z = true) (hty : parseFieldDescriptor d = some ty) (hn : narrow ty v = v') (hf : fits ty v' = true) (ha : a ∈ Ow) (hd : decode c.code pc = .ok (.putfield index, 3)) (hp : pc + 3 = pc')
    (k : ∀ T' h', OPn p l e R s m args below meth c Z a0 EL n0 W0 own T' h' Ow cells slots → Wr h h' a (Jvm.RoadKit.slotOf Z O n d) v' → OG p e below m Pq T' pc' L S) : OG p e below m Pq T pc L (v :: .ref a :: S) := by
  subst hp
  exact P.wr ha (fun locs X hZ hown eT hx => putFN X hx hZ hown w via eT F E Lw wi hty hn hf (g := mkF m pc L (v :: .ref a :: S)) rfl rfl hd) k
/-! new objects and arrays -/
theorem o_new (P : OPn p l e R s m args below meth c Z a0 EL n0 W0 own T h Ow cells slots) {C : String} {index n : Nat} (fs : List (String × String × String × Value)) (w : (Jvm.Cond.classLink own index C).before a0 Z = true) (wi : (Jvm.Cond.instantiable C n).before a0 Z = true) (wz : (Jvm.Cond.initialized C).before a0 Z = true) (hL : OLd Z a0 C fs) (nd : (fs.map fun f => f.2.1).Nodup) (hd : decode c.code pc = .ok (.new index, 3)) (hp : pc + 3 = pc') (hc : cells + 1 ≤ R.cells) (hl : slots + n ≤ R.slots)
    (k : ∀ T' h' b, OPn p l e R s m args below meth c Z a0 EL n0 W0 own T' h' (b :: Ow) (cells + 1) (slots + n) → Keep h h' [] → h.size ≤ b → OObj Z h' b C fs → OG p e below m Pq T' pc' L (.ref b :: S)) : OG p e below m Pq T pc L S := by
  subst hp
  refine P.grow (G := fun h' b => OObj Z h' b C fs) (fun locs X hZ hown eT hx => ?_) k
  obtain ⟨T', h', X', e', E', A', D', -, st⟩ := newO X hx hZ hown w wi wz eT (g := mkF m pc L S) rfl hd hc hl
  exact ⟨T', h', X', e', E', A'.lt, OObj.new A' D' hL nd, st⟩
theorem o_newarr (P : OPn p l e R s m args below meth c Z a0 EL n0 W0 own T h Ow cells slots) {aty : ArrayType} {n : Int32} {cap : Nat} (w : (Jvm.Cond.arrayClass (newarray.typeOf aty)).before a0 Z = true) (hd : decode c.code pc = .ok (.newarray aty, 2)) (hn : ¬ n < 0) (hcap : n.toNatClampNeg ≤ cap) (hb : cap * 8 ≤ 536870912) (hp : pc + 2 = pc') (hc : cells + 1 ≤ R.cells) (hl : slots + cap ≤ R.slots)
    (k : ∀ T' h' b, OPn p l e R s m args below meth c Z a0 EL n0 W0 own T' h' (b :: Ow) (cells + 1) (slots + cap) → Keep h h' [] → h.size ≤ b → OArr Z h' b (newarray.typeOf aty) (List.replicate n.toNatClampNeg (defaultValue (newarray.typeOf aty))) → OG p e below m Pq T' pc' L (.ref b :: S)) : OG p e below m Pq T pc L (.int n :: S) := by
  subst hp
  refine P.grow (G := fun h' b => OArr Z h' b (newarray.typeOf aty) (List.replicate n.toNatClampNeg (defaultValue (newarray.typeOf aty)))) (fun locs X hZ hown eT hx => ?_) k
  obtain ⟨T', h', cA, X', e', E', A', st⟩ := newP X hx hZ w eT (g := mkF m pc L (.int n :: S)) rfl hd rfl hn hcap hb hc hl
  refine ⟨T', h', X', e', E', A'.lt, ⟨_, A', by simp [newA], by simpa using (back32 hn).2, fun v hv => ?_⟩, st⟩
  rw [List.eq_of_mem_replicate hv]; cases (newarray.typeOf aty) <;> rfl
theorem o_anewarr (P : OPn p l e R s m args below meth c Z a0 EL n0 W0 own T h Ow cells slots) {C : String} {index : Nat} {n : Int32} {cap : Nat} (w1 : (Jvm.Cond.classLink own index C).before a0 Z = true) (w2 : (Jvm.Cond.arrayOver (.object C)).before a0 Z = true) (hd : decode c.code pc = .ok (.anewarray index, 3)) (hn : ¬ n < 0) (hcap : n.toNatClampNeg ≤ cap) (hb : cap * 8 ≤ 536870912) (hp : pc + 3 = pc') (hc : cells + 1 ≤ R.cells) (hl : slots + cap ≤ R.slots)
    (k : ∀ T' h' b, OPn p l e R s m args below meth c Z a0 EL n0 W0 own T' h' (b :: Ow) (cells + 1) (slots + cap) → Keep h h' [] → h.size ≤ b → OArr Z h' b (.object C) (List.replicate n.toNatClampNeg .null) → (∃ cell : Cell, h'[b]? = some cell ∧ Ovr Z cell.cls C) → OG p e below m Pq T' pc' L (.ref b :: S)) : OG p e below m Pq T pc L (.int n :: S) := by
  subst hp
  refine P.grow (G := fun h' b => OArr Z h' b (.object C) (List.replicate n.toNatClampNeg .null) ∧ ∃ cell : Cell, h'[b]? = some cell ∧ Ovr Z cell.cls C) (fun locs X hZ hown eT hx => ?_) fun T' h' b P' K hb' q => k T' h' b P' K hb' q.1 q.2
  obtain ⟨T', h', cA, X', e', E', A', O', st⟩ := newR X hx hZ hown w1 w2 eT (g := mkF m pc L (.int n :: S)) rfl hd rfl hn hcap hb hc hl
  refine ⟨T', h', X', e', E', A'.lt, ⟨⟨_, A', by simp [newA, defaultValue], by simpa using (back32 hn).2, fun v hv => ?_⟩, _, A'.1, O'⟩, st⟩
  rw [List.eq_of_mem_replicate hv]; rfl
/-! components -/
theorem o_arrlen (P : OPn p l e R s m args below meth c Z a0 EL n0 W0 own T h Ow cells slots) {a : Addr} {ty : FieldType} {vs : List Value} {n : Int32} (A : OArr Z h a ty vs) (hd : decode c.code pc = .ok (.arraylength, 1)) (hn : vs.length.toInt32 = n) (hp : pc + 1 = pc') (k : OG p e below m Pq T pc' L (.int n :: S)) : OG p e below m Pq T pc L (.ref a :: S) := by
  subst hp hn
  obtain ⟨locs, X, hx, hlk, hS, hZ, hown, eT, r⟩ := P
  obtain ⟨cl, Ar, e1, -⟩ := A
  have st := X.arraylength hx (by rw [eT]; exact Ar.1) (State.isArrayOf_alike hZ.alike Ar.2.1) (g := mkF m pc L (.ref a :: S)) rfl rfl hd
  rw [e1] at st
  exact OG.st (fun t q => st t (by simpa using q)) k
theorem o_iaload (P : OPn p l e R s m args below meth c Z a0 EL n0 W0 own T h Ow cells slots) {a : Addr} {vs : List Value} {j : Int32} {v : Value} (A : OArr Z h a .int vs) (hj : ¬ j < 0) (hv : vs[j.toNatClampNeg]? = some v) (hd : decode c.code pc = .ok (.iaload, 1)) (hp : pc + 1 = pc') (k : OG p e below m Pq T pc' L (v :: S)) : OG p e below m Pq T pc L (.int j :: .ref a :: S) := by
  subst hp
  obtain ⟨locs, X, hx, hlk, hS, hZ, hown, eT, r⟩ := P
  obtain ⟨cl, Ar, e1, -⟩ := A
  have hlt : j.toNatClampNeg < vs.length := (List.getElem?_eq_some_iff.mp hv).1
  exact OG.st (fun t q => X.iaload hx (by rw [eT]; exact Ar.1) (State.isArrayOf_alike hZ.alike Ar.2.1) Ar.2.2 (by rw [e1]; exact o_in hj hlt) (by rw [e1]; simpa using hv) (g := mkF m pc L (.int j :: .ref a :: S)) rfl rfl hd t q) k
theorem o_laload (P : OPn p l e R s m args below meth c Z a0 EL n0 W0 own T h Ow cells slots) {a : Addr} {vs : List Value} {j : Int32} {v : Value} (A : OArr Z h a .long vs) (hj : ¬ j < 0) (hv : vs[j.toNatClampNeg]? = some v) (hd : decode c.code pc = .ok (.laload, 1)) (hp : pc + 1 = pc') (k : OG p e below m Pq T pc' L (v :: S)) : OG p e below m Pq T pc L (.int j :: .ref a :: S) := by
  subst hp
  obtain ⟨locs, X, hx, hlk, hS, hZ, hown, eT, r⟩ := P
  obtain ⟨cl, Ar, e1, -⟩ := A
  have hlt : j.toNatClampNeg < vs.length := (List.getElem?_eq_some_iff.mp hv).1
  exact OG.st (fun t q => X.laload hx (by rw [eT]; exact Ar.1) (State.isArrayOf_alike hZ.alike Ar.2.1) Ar.2.2 (by rw [e1]; exact o_in hj hlt) (by rw [e1]; simpa using hv) (g := mkF m pc L (.int j :: .ref a :: S)) rfl rfl hd t q) k
theorem o_caload (P : OPn p l e R s m args below meth c Z a0 EL n0 W0 own T h Ow cells slots) {a : Addr} {vs : List Value} {j : Int32} {v : Value} (A : OArr Z h a .char vs) (hj : ¬ j < 0) (hv : vs[j.toNatClampNeg]? = some v) (hd : decode c.code pc = .ok (.caload, 1)) (hp : pc + 1 = pc') (k : OG p e below m Pq T pc' L (v :: S)) : OG p e below m Pq T pc L (.int j :: .ref a :: S) := by
  subst hp
  obtain ⟨locs, X, hx, hlk, hS, hZ, hown, eT, r⟩ := P
  obtain ⟨cl, Ar, e1, -⟩ := A
  have hlt : j.toNatClampNeg < vs.length := (List.getElem?_eq_some_iff.mp hv).1
  exact OG.st (fun t q => X.caload hx (by rw [eT]; exact Ar.1) (State.isArrayOf_alike hZ.alike Ar.2.1) Ar.2.2 (by rw [e1]; exact o_in hj hlt) (by rw [e1]; simpa using hv) (g := mkF m pc L (.int j :: .ref a :: S)) rfl rfl hd t q) k
theorem o_baload (P : OPn p l e R s m args below meth c Z a0 EL n0 W0 own T h Ow cells slots) {a : Addr} {vs : List Value} {j : Int32} {v : Value} (A : OArr Z h a .byte vs) (hj : ¬ j < 0) (hv : vs[j.toNatClampNeg]? = some v) (hd : decode c.code pc = .ok (.baload, 1)) (hp : pc + 1 = pc') (k : OG p e below m Pq T pc' L (v :: S)) : OG p e below m Pq T pc L (.int j :: .ref a :: S) := by
  subst hp
  obtain ⟨locs, X, hx, hlk, hS, hZ, hown, eT, r⟩ := P
  obtain ⟨cl, Ar, e1, -⟩ := A
  have hlt : j.toNatClampNeg < vs.length := (List.getElem?_eq_some_iff.mp hv).1
  exact OG.st (fun t q => X.baloadBytes hx (by rw [eT]; exact Ar.1) (State.isArrayOf_alike hZ.alike Ar.2.1) Ar.2.2 (by rw [e1]; exact o_in hj hlt) (by rw [e1]; simpa using hv) (g := mkF m pc L (.int j :: .ref a :: S)) rfl rfl hd t q) k
theorem o_zaload (P : OPn p l e R s m args below meth c Z a0 EL n0 W0 own T h Ow cells slots) {a : Addr} {vs : List Value} {j : Int32} {v : Value} (A : OArr Z h a .boolean vs) (hj : ¬ j < 0) (hv : vs[j.toNatClampNeg]? = some v) (hd : decode c.code pc = .ok (.baload, 1)) (hp : pc + 1 = pc') (k : OG p e below m Pq T pc' L (v :: S)) : OG p e below m Pq T pc L (.int j :: .ref a :: S) := by
  subst hp
  obtain ⟨locs, X, hx, hlk, hS, hZ, hown, eT, r⟩ := P
  obtain ⟨cl, Ar, e1, -⟩ := A
  have hlt : j.toNatClampNeg < vs.length := (List.getElem?_eq_some_iff.mp hv).1
  exact OG.st (fun t q => X.baloadBooleans hx (by rw [eT]; exact Ar.1) (State.isArrayOf_alike hZ.alike Ar.2.1) Ar.2.2 (by rw [e1]; exact o_in hj hlt) (by rw [e1]; simpa using hv) (g := mkF m pc L (.int j :: .ref a :: S)) rfl rfl hd t q) k
theorem o_daload (P : OPn p l e R s m args below meth c Z a0 EL n0 W0 own T h Ow cells slots) {a : Addr} {vs : List Value} {j : Int32} {v : Value} (A : OArr Z h a .double vs) (hj : ¬ j < 0) (hv : vs[j.toNatClampNeg]? = some v) (hd : decode c.code pc = .ok (.daload, 1)) (hp : pc + 1 = pc') (k : OG p e below m Pq T pc' L (v :: S)) : OG p e below m Pq T pc L (.int j :: .ref a :: S) := by
  subst hp
  obtain ⟨locs, X, hx, hlk, hS, hZ, hown, eT, r⟩ := P
  obtain ⟨cl, Ar, e1, -⟩ := A
  have hlt : j.toNatClampNeg < vs.length := (List.getElem?_eq_some_iff.mp hv).1
  exact OG.st (fun t q => X.daload hx (by rw [eT]; exact Ar.1) (State.isArrayOf_alike hZ.alike Ar.2.1) Ar.2.2 (by rw [e1]; exact o_in hj hlt) (by rw [e1]; simpa using hv) (g := mkF m pc L (.int j :: .ref a :: S)) rfl rfl hd t q) k
theorem o_saload (P : OPn p l e R s m args below meth c Z a0 EL n0 W0 own T h Ow cells slots) {a : Addr} {vs : List Value} {j : Int32} {v : Value} (A : OArr Z h a .short vs) (hj : ¬ j < 0) (hv : vs[j.toNatClampNeg]? = some v) (hd : decode c.code pc = .ok (.saload, 1)) (hp : pc + 1 = pc') (k : OG p e below m Pq T pc' L (v :: S)) : OG p e below m Pq T pc L (.int j :: .ref a :: S) := by
  subst hp
  obtain ⟨locs, X, hx, hlk, hS, hZ, hown, eT, r⟩ := P
  obtain ⟨cl, Ar, e1, -⟩ := A
  have hlt : j.toNatClampNeg < vs.length := (List.getElem?_eq_some_iff.mp hv).1
  exact OG.st (fun t q => X.saload hx (by rw [eT]; exact Ar.1) (State.isArrayOf_alike hZ.alike Ar.2.1) Ar.2.2 (by rw [e1]; exact o_in hj hlt) (by rw [e1]; simpa using hv) (g := mkF m pc L (.int j :: .ref a :: S)) rfl rfl hd t q) k
theorem o_aaload (P : OPn p l e R s m args below meth c Z a0 EL n0 W0 own T h Ow cells slots) {a : Addr} {ty : FieldType} {vs : List Value} {j : Int32} {v : Value} (A : OArr Z h a ty vs) (hty : ty.isReference = true) (hj : ¬ j < 0) (hv : vs[j.toNatClampNeg]? = some v) (hd : decode c.code pc = .ok (.aaload, 1)) (hp : pc + 1 = pc') (k : OG p e below m Pq T pc' L (v :: S)) : OG p e below m Pq T pc L (.int j :: .ref a :: S) := by
  subst hp
  obtain ⟨locs, X, hx, hlk, hS, hZ, hown, eT, r⟩ := P
  obtain ⟨cl, Ar, e1, -⟩ := A
  have hlt : j.toNatClampNeg < vs.length := (List.getElem?_eq_some_iff.mp hv).1
  exact OG.st (fun t q => X.aaload hx (by rw [eT]; exact Ar.1) (State.isArrayOf_alike hZ.alike Ar.2.1) hty Ar.2.2 (by rw [e1]; exact o_in hj hlt) (by rw [e1]; simpa using hv) (g := mkF m pc L (.int j :: .ref a :: S)) rfl rfl hd t q) k
theorem o_iastore (P : OPn p l e R s m args below meth c Z a0 EL n0 W0 own T h Ow cells slots) {a : Addr} {vs : List Value} {j : Int32} {x : Int32} {v : Value} (A : OArr Z h a .int vs) (ha : a ∈ Ow) (hj : ¬ j < 0) (hlt : j.toNatClampNeg < vs.length) (hv : Value.int x = v) (hd : decode c.code pc = .ok (.iastore, 1)) (hp : pc + 1 = pc')
    (k : ∀ T' h', OPn p l e R s m args below meth c Z a0 EL n0 W0 own T' h' Ow cells slots → Wr h h' a j.toNatClampNeg v → OArr Z h' a .int (vs.set j.toNatClampNeg v) → OG p e below m Pq T' pc' L S) : OG p e below m Pq T pc L (.int x :: .int j :: .ref a :: S) := by
  subst hp hv
  obtain ⟨cl, Ar, e1, e2⟩ := id A
  exact P.wr ha (fun locs X hZ hown eT hx => stI X hx hZ eT Ar (by rw [e1]; exact o_in hj hlt) (g := mkF m pc L (.int x :: .int j :: .ref a :: S)) rfl rfl hd) fun T' h' P' W' => k T' h' P' W' (A.set W' rfl)
theorem o_lastore (P : OPn p l e R s m args below meth c Z a0 EL n0 W0 own T h Ow cells slots) {a : Addr} {vs : List Value} {j : Int32} {x : Int64} {v : Value} (A : OArr Z h a .long vs) (ha : a ∈ Ow) (hj : ¬ j < 0) (hlt : j.toNatClampNeg < vs.length) (hv : Value.long x = v) (hd : decode c.code pc = .ok (.lastore, 1)) (hp : pc + 1 = pc')
    (k : ∀ T' h', OPn p l e R s m args below meth c Z a0 EL n0 W0 own T' h' Ow cells slots → Wr h h' a j.toNatClampNeg v → OArr Z h' a .long (vs.set j.toNatClampNeg v) → OG p e below m Pq T' pc' L S) : OG p e below m Pq T pc L (.long x :: .int j :: .ref a :: S) := by
  subst hp hv
  obtain ⟨cl, Ar, e1, e2⟩ := id A
  exact P.wr ha (fun locs X hZ hown eT hx => stJ X hx hZ eT Ar (by rw [e1]; exact o_in hj hlt) (g := mkF m pc L (.long x :: .int j :: .ref a :: S)) rfl rfl hd) fun T' h' P' W' => k T' h' P' W' (A.set W' rfl)
theorem o_castore (P : OPn p l e R s m args below meth c Z a0 EL n0 W0 own T h Ow cells slots) {a : Addr} {vs : List Value} {j : Int32} {x : Int32} {v : Value} (A : OArr Z h a .char vs) (ha : a ∈ Ow) (hj : ¬ j < 0) (hlt : j.toNatClampNeg < vs.length) (hv : Value.int (nar .char x) = v) (hd : decode c.code pc = .ok (.castore, 1)) (hp : pc + 1 = pc')
    (k : ∀ T' h', OPn p l e R s m args below meth c Z a0 EL n0 W0 own T' h' Ow cells slots → Wr h h' a j.toNatClampNeg v → OArr Z h' a .char (vs.set j.toNatClampNeg v) → OG p e below m Pq T' pc' L S) : OG p e below m Pq T pc L (.int x :: .int j :: .ref a :: S) := by
  subst hp hv
  obtain ⟨cl, Ar, e1, e2⟩ := id A
  exact P.wr ha (fun locs X hZ hown eT hx => stC X hx hZ eT Ar (by rw [e1]; exact o_in hj hlt) (g := mkF m pc L (.int x :: .int j :: .ref a :: S)) rfl rfl hd) fun T' h' P' W' => k T' h' P' W' (A.set W' (fits_nar_char _))
theorem o_bastore (P : OPn p l e R s m args below meth c Z a0 EL n0 W0 own T h Ow cells slots) {a : Addr} {vs : List Value} {j : Int32} {x : Int32} {v : Value} (A : OArr Z h a .byte vs) (ha : a ∈ Ow) (hj : ¬ j < 0) (hlt : j.toNatClampNeg < vs.length) (hv : Value.int (nar .byte x) = v) (hd : decode c.code pc = .ok (.bastore, 1)) (hp : pc + 1 = pc')
    (k : ∀ T' h', OPn p l e R s m args below meth c Z a0 EL n0 W0 own T' h' Ow cells slots → Wr h h' a j.toNatClampNeg v → OArr Z h' a .byte (vs.set j.toNatClampNeg v) → OG p e below m Pq T' pc' L S) : OG p e below m Pq T pc L (.int x :: .int j :: .ref a :: S) := by
  subst hp hv
  obtain ⟨cl, Ar, e1, e2⟩ := id A
  exact P.wr ha (fun locs X hZ hown eT hx => stB X hx hZ eT Ar (by rw [e1]; exact o_in hj hlt) (g := mkF m pc L (.int x :: .int j :: .ref a :: S)) rfl rfl hd) fun T' h' P' W' => k T' h' P' W' (A.set W' (fits_nar_byte _))
theorem o_zastore (P : OPn p l e R s m args below meth c Z a0 EL n0 W0 own T h Ow cells slots) {a : Addr} {vs : List Value} {j : Int32} {x : Int32} {v : Value} (A : OArr Z h a .boolean vs) (ha : a ∈ Ow) (hj : ¬ j < 0) (hlt : j.toNatClampNeg < vs.length) (hv : Value.int (nar .boolean x) = v) (hd : decode c.code pc = .ok (.bastore, 1)) (hp : pc + 1 = pc')
    (k : ∀ T' h', OPn p l e R s m args below meth c Z a0 EL n0 W0 own T' h' Ow cells slots → Wr h h' a j.toNatClampNeg v → OArr Z h' a .boolean (vs.set j.toNatClampNeg v) → OG p e below m Pq T' pc' L S) : OG p e below m Pq T pc L (.int x :: .int j :: .ref a :: S) := by
  subst hp hv
  obtain ⟨cl, Ar, e1, e2⟩ := id A
  exact P.wr ha (fun locs X hZ hown eT hx => stZ X hx hZ eT Ar (by rw [e1]; exact o_in hj hlt) (g := mkF m pc L (.int x :: .int j :: .ref a :: S)) rfl rfl hd) fun T' h' P' W' => k T' h' P' W' (A.set W' (fits_nar_bool _))
theorem o_dastore (P : OPn p l e R s m args below meth c Z a0 EL n0 W0 own T h Ow cells slots) {a : Addr} {vs : List Value} {j : Int32} {x : UInt64} {v : Value} (A : OArr Z h a .double vs) (ha : a ∈ Ow) (hj : ¬ j < 0) (hlt : j.toNatClampNeg < vs.length) (hv : Value.double x = v) (hd : decode c.code pc = .ok (.dastore, 1)) (hp : pc + 1 = pc')
    (k : ∀ T' h', OPn p l e R s m args below meth c Z a0 EL n0 W0 own T' h' Ow cells slots → Wr h h' a j.toNatClampNeg v → OArr Z h' a .double (vs.set j.toNatClampNeg v) → OG p e below m Pq T' pc' L S) : OG p e below m Pq T pc L (.double x :: .int j :: .ref a :: S) := by
  subst hp hv
  obtain ⟨cl, Ar, e1, e2⟩ := id A
  exact P.wr ha (fun locs X hZ hown eT hx => stD X hx hZ eT Ar (by rw [e1]; exact o_in hj hlt) (g := mkF m pc L (.double x :: .int j :: .ref a :: S)) rfl rfl hd) fun T' h' P' W' => k T' h' P' W' (A.set W' rfl)
theorem o_aastore (P : OPn p l e R s m args below meth c Z a0 EL n0 W0 own T h Ow cells slots) {a : Addr} {ty : FieldType} {vs : List Value} {j : Int32} {v : Value} (A : OArr Z h a ty vs) (ha : a ∈ Ow) (hty : ty.isReference = true) (F : Sto Z h a v) (hfit : fits ty v = true) (hj : ¬ j < 0) (hlt : j.toNatClampNeg < vs.length) (hd : decode c.code pc = .ok (.aastore, 1)) (hp : pc + 1 = pc')
    (k : ∀ T' h', OPn p l e R s m args below meth c Z a0 EL n0 W0 own T' h' Ow cells slots → Wr h h' a j.toNatClampNeg v → OArr Z h' a ty (vs.set j.toNatClampNeg v) → OG p e below m Pq T' pc' L S) : OG p e below m Pq T pc L (v :: .int j :: .ref a :: S) := by
  subst hp
  obtain ⟨cl, Ar, e1, e2⟩ := id A
  exact P.wr ha (fun locs X hZ hown eT hx => stR X hx hZ eT Ar (by rw [e1]; exact o_in hj hlt) hty F (g := mkF m pc L (v :: .int j :: .ref a :: S)) rfl rfl hd) fun T' h' P' W' => k T' h' P' W' (A.set W' hfit)
theorem o_cast (P : OPn p l e R s m args below meth c Z a0 EL n0 W0 own T h Ow cells slots) {K : String} {index : Nat} {a : Addr} (w : (Jvm.Cond.classLink own index K).before a0 Z = true) (F : Ins Z h a K true) (hd : decode c.code pc = .ok (.checkcast index, 3)) (hp : pc + 3 = pc') (k : ∀ T', OPn p l e R s m args below meth c Z a0 EL n0 W0 own T' h Ow cells slots → OG p e below m Pq T' pc' L (.ref a :: S)) : OG p e below m Pq T pc L (.ref a :: S) := by
  subst hp
  exact P.tab (fun locs X hZ hown eT hx => castY X hx hZ hown w eT F (g := mkF m pc L (.ref a :: S)) rfl rfl hd) k
theorem o_instY (P : OPn p l e R s m args below meth c Z a0 EL n0 W0 own T h Ow cells slots) {K : String} {index : Nat} {a : Addr} (w : (Jvm.Cond.classLink own index K).before a0 Z = true) (F : Ins Z h a K true) (hd : decode c.code pc = .ok (.instanceof index, 3)) (hp : pc + 3 = pc') (k : ∀ T', OPn p l e R s m args below meth c Z a0 EL n0 W0 own T' h Ow cells slots → OG p e below m Pq T' pc' L (.int 1 :: S)) : OG p e below m Pq T pc L (.ref a :: S) := by
  subst hp
  exact P.tab (fun locs X hZ hown eT hx => instY X hx hZ hown w eT F (g := mkF m pc L (.ref a :: S)) rfl rfl hd) k
theorem o_instN (P : OPn p l e R s m args below meth c Z a0 EL n0 W0 own T h Ow cells slots) {K C : String} {index : Nat} {a : Addr} (w : (Jvm.Cond.classLink own index K).before a0 Z = true) (E : Exa Z h a C) (F : ∃ c t, Z.vm.findClass C = some c ∧ Z.vm.findClass K = some t ∧ Z.vm.assignable c t = false) (hd : decode c.code pc = .ok (.instanceof index, 3)) (hp : pc + 3 = pc') (k : ∀ T', OPn p l e R s m args below meth c Z a0 EL n0 W0 own T' h Ow cells slots → OG p e below m Pq T' pc' L (.int 0 :: S)) : OG p e below m Pq T pc L (.ref a :: S) := by
  subst hp
  exact P.tab (fun locs X hZ hown eT hx => instNo X hx hZ hown w eT E F (g := mkF m pc L (.ref a :: S)) rfl rfl hd) k
theorem o_castNull (P : OPn p l e R s m args below meth c Z a0 EL n0 W0 own T h Ow cells slots) {index : Nat} (hd : decode c.code pc = .ok (.checkcast index, 3)) (hp : pc + 3 = pc') (k : OG p e below m Pq T pc' L (.null :: S)) : OG p e below m Pq T pc L (.null :: S) := by
  subst hp
  obtain ⟨locs, X, hx, -⟩ := P
  exact OG.st (fun t q => X.checkcastNull hx (g := mkF m pc L (.null :: S)) rfl rfl hd t q) k
theorem o_instNull (P : OPn p l e R s m args below meth c Z a0 EL n0 W0 own T h Ow cells slots) {index : Nat} (hd : decode c.code pc = .ok (.instanceof index, 3)) (hp : pc + 3 = pc') (k : OG p e below m Pq T pc' L (.int 0 :: S)) : OG p e below m Pq T pc L (.null :: S) := by
  subst hp
  obtain ⟨locs, X, hx, -⟩ := P
  exact OG.st (fun t q => X.instanceofNull hx (g := mkF m pc L (.null :: S)) rfl rfl hd t q) k
theorem o_ldcI (P : OPn p l e R s m args below meth c Z a0 EL n0 W0 own T h Ow cells slots) {index : Nat} {v : Int32} (w : (Jvm.Cond.constant own index v).before a0 Z = true) (hd : decode c.code pc = .ok (.ldc index, 2)) (hp : pc + 2 = pc') (k : OG p e below m Pq T pc' L (.int v :: S)) : OG p e below m Pq T pc L S := by
  subst hp
  obtain ⟨locs, X, hx, hlk, hS, hZ, hown, eT, r⟩ := P
  exact OG.st (fun t q => X.ldcInt hx hown (mvT (s := s.setVm T.vm) hZ w) (g := mkF m pc L S) rfl hd t q) k
theorem o_ldc2L (P : OPn p l e R s m args below meth c Z a0 EL n0 W0 own T h Ow cells slots) {index : Nat} {v : Int64} (w : (Jvm.Cond.constantLong own index v).before a0 Z = true) (hd : decode c.code pc = .ok (.ldc2_w index, 3)) (hp : pc + 3 = pc') (k : OG p e below m Pq T pc' L (.long v :: S)) : OG p e below m Pq T pc L S := by
  subst hp
  obtain ⟨locs, X, hx, hlk, hS, hZ, hown, eT, r⟩ := P
  exact OG.st (fun t q => X.ldc2Long hx hown (mvT (s := s.setVm T.vm) hZ w) (g := mkF m pc L S) rfl hd t q) k
/-- what is known of a String of known bytes (Latin-1) -/
def OStr (Z : State) (h : Heap) (a b : Addr) (vs : List Value) : Prop := OObj Z h a "java/lang/String" [("java/lang/String", "value", "[B", .ref b), ("java/lang/String", "coder", "B", .int 0)] ∧ OArr Z h b .byte vs
theorem OStr.keep {a b : Addr} {vs : List Value} {ws : List Addr} (F : OStr Z h a b vs) (K : Keep h h' ws) (q : a ∉ ws) (r : b ∉ ws) : OStr Z h' a b vs := ⟨F.1.keep K q, F.2.keep K r⟩
theorem o_ldcS (P : OPn p l e R s m args below meth c Z a0 EL n0 W0 own T h Ow cells slots) {index : Nat} {text : String} {vs : List Value} {n : Nat} (w : (Jvm.Cond.stringLink own index text).before a0 Z = true) (wS : ∀ a ∈ Bundle.stringAtoms, a.before a0 Z = true) (hmem : (own, index) ∈ EL)
    (lv : Laid Z a0 "java/lang/String" "java/lang/String" "value" "[B") (lc : Laid Z a0 "java/lang/String" "java/lang/String" "coder" "B")
    (ht : (∀ c ∈ text.toList, c.toNat < 256) ∧ text.toList.map (fun c => Value.int (Jvm.Lit.byteI c.toNat.toUInt16)) = vs) (z : Int32) (hz : ¬ z < 0) (hl : z.toNatClampNeg = vs.length) (hd : decode c.code pc = .ok (.ldc index, 2)) (hp : pc + 2 = pc') (hn : 4 * text.toList.length ≤ n) (hbig : n ≤ 536870912) (hc : cells + 2 ≤ R.cells) (hs : slots + (n + 4) ≤ R.slots)
    (k : ∀ T' h' a b, OPn p l e R s m args below meth c Z a0 EL n0 W0 own T' h' Ow (cells + 2) (slots + (n + 4)) → Keep h h' [] → OStr Z h' a b vs → (∀ x ∈ Ow, x ≠ a ∧ x ≠ b) → OG p e below m Pq T' pc' L (.ref a :: S)) : OG p e below m Pq T pc L S := by
  subst hp
  obtain ⟨locs, X, hx, hlk, hS, hZ, hown, eT, N, hEL, C, O, K, W⟩ := P
  obtain ⟨a, T', h', k1, b, kk, X', e', E', hS', hk', hZ', hown', E1, F1, F2, A1, -, -, C', -, hne, st⟩ := ldcCH X hx hZ hown w wS eT hS.1 (Nat.le_refl _) hEL hmem C.1 ht hz hl (g := mkF m pc L S) rfl hd hn hbig hc hs
  have W' : ∀ x ∈ Ow, OOwn Z EL n0 W0 s.heap.size T'.vm h' x := fun x hx => by
    obtain ⟨q1, q2, q3, q4⟩ := W x hx
    exact ⟨q1, Nat.lt_of_lt_of_le q2 E'.1, C'.safe q2 q3, q4⟩
  have hS2 : OSn EL s T'.vm h'.size := ⟨⟨hS'.1, hS'.2.mono hk'⟩, fun e => by rw [e] at hmem; cases hmem⟩
  refine OG.st st (k T' h' a b ⟨locs, X', hx, hlk, hS2, hZ', hown', e', N, hEL, C.trans C', O.ext E', K.ext E', W'⟩ ((Keep.refl h []).ext E') ⟨⟨E1, fun f hf => ?_, fun i j f g hij hi hj => ?_⟩, OArr.ofArv A1 (by rw [hl])⟩ fun x hx => hne x (W' x hx).2.2.1)
  · rcases List.mem_cons.mp hf with rfl | hf
    · exact F2
    · rcases List.mem_cons.mp hf with rfl | hf
      · exact F1
      · cases hf
  · have s1 := slot_ne lv lc (t := .array .byte) (t' := .byte) (by decide) (by decide) (by decide)
    match i, j, hi, hj with
    | 0, 0, _, _ => exact absurd rfl hij
    | 1, 1, _, _ => exact absurd rfl hij
    | 0, 1, hi, hj => cases hi; cases hj; exact s1
    | 1, 0, hi, hj => cases hi; cases hj; exact s1.symm
theorem o_mvMN {Z s : State} {a0 args : Array Value} {own host : String} {y : MethodName} {index : Nat} (hZ : Z.Warmed39 s.vm) (w : (Jvm.Cond.methodLinkNest own index y host).before a0 Z = true) : (Jvm.Cond.methodLinkNest own index y host).before args s = true := (Cond.methodLinkNest_wide hZ w :)
theorem o_mvF {Z s : State} {a0 args : Array Value} {x : MethodName} (hZ : Z.Warmed39 s.vm) (w2 : (Jvm.Cond.declares x).before a0 Z = true) (w : (Jvm.Cond.interfaceMethod x.cls x.cls x.name x.desc).before a0 Z = true) (hy : x.cls ≠ "java/lang/invoke/MethodHandle" ∧ x.cls ≠ "java/lang/invoke/VarHandle") : (Jvm.Cond.interfaceMethod x.cls x.cls x.name x.desc).before args s = true := by
  obtain ⟨r0, r, hn, -⟩ := Cond.declares_spec w2
  have q := Cond.interfaceMethod_setVm (args := a0) (s := Z) (vm' := s.vm) hZ.alike (ref := x.cls) (name := x.name) (desc := x.desc) hn hy
  exact (q.trans w :)
theorem o_callS (P : OPn p l e R s m args below meth c Z a0 EL n0 W0 own T h Ow cells slots) {y : MethodName} {bytes : ByteArray} {maxL : Nat} {ret : Option FieldType} {rm : Room} {as' : Array Value} {Sf : List Addr} {Q : Option Value → Vm → Heap → Prop} {index W : Nat} (w1 : (Jvm.Cond.methodLink own index y).before a0 Z = true) (w2 : (Jvm.Cond.static y).before a0 Z = true) (w3 : (Jvm.Cond.initialized y.cls).before a0 Z = true) (w4 : (Jvm.Cond.code y bytes maxL ret).before a0 Z = true) (hy : y.cls ≠ "java/lang/invoke/MethodHandle" ∧ y.cls ≠ "java/lang/invoke/VarHandle") (hM : OCt l Z a0 EL n0 y bytes maxL ret rm [] as' h Sf Q) (hsf : ∀ x ∈ Sf, x ∈ Ow) (hml : L.size = c.maxLocals) (hf : rm.frames + 1 ≤ R.frames) (hl : W + (maxL + 11) + rm.locals ≤ R.locals) {argsL rest : List Value} (hlen : ∀ sig, parseMethodDescriptor y.desc = some sig → argsL.length = sig.parameters.length) (hst : S = argsL.reverse ++ rest) (has : argsL.toArray = as') (hW : (rest.map fun v => v.category).sum ≤ W) (hd : decode c.code pc = .ok (.invokestatic index, 3)) (hp : pc + 3 = pc') (hc : cells + rm.cells ≤ R.cells) (hs : slots + rm.slots ≤ R.slots)
    (k : ∀ T' h' v, OPn p l e R s m args below meth c Z a0 EL n0 W0 own T' h' Ow (cells + rm.cells) (slots + rm.slots) → Keep h h' Sf → Q v T'.vm h' → OG p e below m Pq T' pc' L (v.toList ++ rest)) : OG p e below m Pq T pc L S := by
  subst hp
  obtain ⟨locs, X, hx, hlk, hS, hZ, hown, eT, N, hEL, C, O, K, W'⟩ := P
  have hb := OCt.back (p := p) (e := e) (below := below) (s := s) (args := args) (T := T) (len := 3) (W := W) (R := R) O hEL (fun x hx => ⟨(W' x (hsf x hx)).1, (W' x (hsf x hx)).2.1, (W' x (hsf x hx)).2.2.1⟩) hM hZ w4 w3 hf hl C.1
  obtain ⟨v, vm₁, B, hW1, X', hSi, hle, hq, st⟩ := callSS X hx (y := y) hown (mvT (s := s.setVm T.vm) hZ w1) (mvT (s := s.setVm T.vm) hZ w2) (mvT (s := s.setVm T.vm) hZ w3) (mvT (s := s.setVm T.vm) hZ w4) hy hb (g := mkF m pc L S) rfl hml (argsL := argsL) (rest := rest) hlen hst (by show 2 * 0 + _ ≤ _; omega) hd (fun _ _ => ⟨has, eT, hc, hs⟩)
  obtain ⟨P', K', q⟩ := OPn.behind (y := y) hx hlk hS hZ hown eT N hEL C O K W' hsf X' hSi hle hq
  exact OG.st (fun t r => st.trans r) (k _ _ v P' K' q)
theorem o_callI (P : OPn p l e R s m args below meth c Z a0 EL n0 W0 own T h Ow cells slots) {y : MethodName} {bytes : ByteArray} {maxL : Nat} {rm : Room} {as' : Array Value} {Sf : List Addr} {Q : Option Value → Vm → Heap → Prop} {index W : Nat} {a : Addr} (hy1 : y.name = "<init>") (w1 : (Jvm.Cond.methodLink own index y).before a0 Z = true) (w2 : (Jvm.Cond.instanceMethod y).before a0 Z = true) (w3 : (Jvm.Cond.initialized y.cls).before a0 Z = true) (w4 : (Jvm.Cond.code y bytes maxL none).before a0 Z = true) (hy : y.cls ≠ "java/lang/invoke/MethodHandle" ∧ y.cls ≠ "java/lang/invoke/VarHandle") (hM : OCt l Z a0 EL n0 y bytes maxL none rm [] as' h Sf Q) (hsf : ∀ x ∈ Sf, x ∈ Ow) (hml : L.size = c.maxLocals) (hf : rm.frames + 1 ≤ R.frames) (hl : W + (maxL + 11) + rm.locals ≤ R.locals) {argsL rest : List Value} (hlen : ∀ sig, parseMethodDescriptor y.desc = some sig → argsL.length = sig.parameters.length) (hst : S = argsL.reverse ++ .ref a :: rest) (has : (.ref a :: argsL).toArray = as') (hW : (rest.map fun v => v.category).sum ≤ W) (hd : decode c.code pc = .ok (.invokespecial index, 3)) (hp : pc + 3 = pc') (hc : cells + rm.cells ≤ R.cells) (hs : slots + rm.slots ≤ R.slots)
    (k : ∀ T' h' v, OPn p l e R s m args below meth c Z a0 EL n0 W0 own T' h' Ow (cells + rm.cells) (slots + rm.slots) → Keep h h' Sf → Q v T'.vm h' → OG p e below m Pq T' pc' L (v.toList ++ rest)) : OG p e below m Pq T pc L S := by
  subst hp
  obtain ⟨locs, X, hx, hlk, hS, hZ, hown, eT, N, hEL, C, O, K, W'⟩ := P
  have hb := OCt.back (p := p) (e := e) (below := below) (s := s) (args := args) (T := T) (len := 3) (W := W) (R := R) O hEL (fun x hx => ⟨(W' x (hsf x hx)).1, (W' x (hsf x hx)).2.1, (W' x (hsf x hx)).2.2.1⟩) hM hZ w4 w3 hf hl C.1
  obtain ⟨v, vm₁, B, hW1, X', hSi, hle, hq, st⟩ := X.specialBackS hx (y := y) hy1 hown (mvT (s := s.setVm T.vm) hZ w1) (mvT (s := s.setVm T.vm) hZ w2) (mvT (s := s.setVm T.vm) hZ w4) hy hb (g := mkF m pc L S) rfl hml (Steps.refl _) (a := a) (argsL := argsL) (rest := rest) hlen hst (by show 2 * 0 + _ ≤ _; omega) hd (fun _ _ => ⟨has, eT, hc, hs⟩)
  obtain ⟨P', K', q⟩ := OPn.behind (y := y) hx hlk hS hZ hown eT N hEL C O K W' hsf X' hSi hle hq
  exact OG.st (fun t r => st.trans r) (k _ _ v P' K' q)
theorem o_callIN (P : OPn p l e R s m args below meth c Z a0 EL n0 W0 own T h Ow cells slots) {y : MethodName} {bytes : ByteArray} {maxL : Nat} {rm : Room} {as' : Array Value} {Sf : List Addr} {Q : Option Value → Vm → Heap → Prop} {index W : Nat} {a : Addr} {host : String} (hy1 : y.name = "<init>") (w1 : (Jvm.Cond.methodLinkNest own index y host).before a0 Z = true) (w2 : (Jvm.Cond.instanceMethod y).before a0 Z = true) (w3 : (Jvm.Cond.initialized y.cls).before a0 Z = true) (w4 : (Jvm.Cond.code y bytes maxL none).before a0 Z = true) (hy : y.cls ≠ "java/lang/invoke/MethodHandle" ∧ y.cls ≠ "java/lang/invoke/VarHandle") (hM : OCt l Z a0 EL n0 y bytes maxL none rm [] as' h Sf Q) (hsf : ∀ x ∈ Sf, x ∈ Ow) (hml : L.size = c.maxLocals) (hf : rm.frames + 1 ≤ R.frames) (hl : W + (maxL + 11) + rm.locals ≤ R.locals) {argsL rest : List Value} (hlen : ∀ sig, parseMethodDescriptor y.desc = some sig → argsL.length = sig.parameters.length) (hst : S = argsL.reverse ++ .ref a :: rest) (has : (.ref a :: argsL).toArray = as') (hW : (rest.map fun v => v.category).sum ≤ W) (hd : decode c.code pc = .ok (.invokespecial index, 3)) (hp : pc + 3 = pc') (hc : cells + rm.cells ≤ R.cells) (hs : slots + rm.slots ≤ R.slots)
    (k : ∀ T' h' v, OPn p l e R s m args below meth c Z a0 EL n0 W0 own T' h' Ow (cells + rm.cells) (slots + rm.slots) → Keep h h' Sf → Q v T'.vm h' → OG p e below m Pq T' pc' L (v.toList ++ rest)) : OG p e below m Pq T pc L S := by
  subst hp
  obtain ⟨locs, X, hx, hlk, hS, hZ, hown, eT, N, hEL, C, O, K, W'⟩ := P
  have hb := OCt.back (p := p) (e := e) (below := below) (s := s) (args := args) (T := T) (len := 3) (W := W) (R := R) O hEL (fun x hx => ⟨(W' x (hsf x hx)).1, (W' x (hsf x hx)).2.1, (W' x (hsf x hx)).2.2.1⟩) hM hZ w4 w3 hf hl C.1
  obtain ⟨v, vm₁, B, hW1, X', hSi, hle, hq, st⟩ := X.specialBackNestS hx (y := y) hy1 hown (o_mvMN (s := s.setVm T.vm) hZ w1) (mvT (s := s.setVm T.vm) hZ w2) (mvT (s := s.setVm T.vm) hZ w4) hy hb (g := mkF m pc L S) rfl hml (Steps.refl _) (a := a) (argsL := argsL) (rest := rest) hlen hst (by show 2 * 0 + _ ≤ _; omega) hd (fun _ _ => ⟨has, eT, hc, hs⟩)
  obtain ⟨P', K', q⟩ := OPn.behind (y := y) hx hlk hS hZ hown eT N hEL C O K W' hsf X' hSi hle hq
  exact OG.st (fun t r => st.trans r) (k _ _ v P' K' q)
theorem o_callV (P : OPn p l e R s m args below meth c Z a0 EL n0 W0 own T h Ow cells slots) {y : MethodName} {bytes : ByteArray} {maxL : Nat} {ret : Option FieldType} {rm : Room} {as' : Array Value} {Sf : List Addr} {Q : Option Value → Vm → Heap → Prop} {index W : Nat} {x : MethodName} {a : Addr} {Cr : String} (w1 : (Jvm.Cond.methodLink own index x).before a0 Z = true) (w2 : (Jvm.Cond.declares x).before a0 Z = true) (nf : ∀ U : State, Z.Warmed39 U.vm → NotFace U x) (w5 : (Jvm.Cond.selects Cr x y).before a0 Z = true) (w6 : (Jvm.Cond.instanceMethod y).before a0 Z = true) (w3 : (Jvm.Cond.initialized y.cls).before a0 Z = true) (w4 : (Jvm.Cond.code y bytes maxL ret).before a0 Z = true) (hy : x.cls ≠ "java/lang/invoke/MethodHandle" ∧ x.cls ≠ "java/lang/invoke/VarHandle") (Er : Exa Z h a Cr) (hM : OCt l Z a0 EL n0 y bytes maxL ret rm [] as' h Sf Q) (hsf : ∀ x ∈ Sf, x ∈ Ow) (hml : L.size = c.maxLocals) (hf : rm.frames + 1 ≤ R.frames) (hl : W + (maxL + 11) + rm.locals ≤ R.locals) {argsL rest : List Value} (hlen : ∀ sig, parseMethodDescriptor x.desc = some sig → argsL.length = sig.parameters.length) (hst : S = argsL.reverse ++ .ref a :: rest) (has : (.ref a :: argsL).toArray = as') (hW : (rest.map fun v => v.category).sum ≤ W) (hd : decode c.code pc = .ok (.invokevirtual index, 3)) (hp : pc + 3 = pc') (hc : cells + rm.cells ≤ R.cells) (hs : slots + rm.slots ≤ R.slots)
    (k : ∀ T' h' v, OPn p l e R s m args below meth c Z a0 EL n0 W0 own T' h' Ow (cells + rm.cells) (slots + rm.slots) → Keep h h' Sf → Q v T'.vm h' → OG p e below m Pq T' pc' L (v.toList ++ rest)) : OG p e below m Pq T pc L S := by
  subst hp
  obtain ⟨locs, X, hx, hlk, hS, hZ, hown, eT, N, hEL, C, O, K, W'⟩ := P
  have hb := OCt.back (p := p) (e := e) (below := below) (s := s) (args := args) (T := T) (len := 3) (W := W) (R := R) O hEL (fun x hx => ⟨(W' x (hsf x hx)).1, (W' x (hsf x hx)).2.1, (W' x (hsf x hx)).2.2.1⟩) hM hZ w4 w3 hf hl C.1
  obtain ⟨cB, kB, q1, q2, q3⟩ := isOf (s := s.setVm T.vm) hZ eT Er
  obtain ⟨v, vm₁, B, hW1, X', hSi, hle, hq, st⟩ := X.virtualBackS hx (y := x) (z := y) hown (mvT (s := s.setVm T.vm) hZ w1) (mvT (s := s.setVm T.vm) hZ w2) (nf (s.setVm T.vm) hZ) (mvT (s := s.setVm T.vm) hZ w5) (mvT (s := s.setVm T.vm) hZ w6) hy hb q1 q3 (g := mkF m pc L S) rfl hml (Steps.refl _) (argsL := argsL) (rest := rest) hlen hst (by show 2 * 0 + _ ≤ _; omega) hd (fun _ _ => ⟨has, eT, hc, hs⟩)
  obtain ⟨P', K', q⟩ := OPn.behind (y := y) hx hlk hS hZ hown eT N hEL C O K W' hsf X' hSi hle hq
  exact OG.st (fun t r => st.trans r) (k _ _ v P' K' q)
theorem o_callF (P : OPn p l e R s m args below meth c Z a0 EL n0 W0 own T h Ow cells slots) {y : MethodName} {bytes : ByteArray} {maxL : Nat} {ret : Option FieldType} {rm : Room} {as' : Array Value} {Sf : List Addr} {Q : Option Value → Vm → Heap → Prop} {index W : Nat} {x : MethodName} {a : Addr} {Cr : String} {count : Nat} (w1 : (Jvm.Cond.methodLink own index x).before a0 Z = true) (w2 : (Jvm.Cond.declares x).before a0 Z = true) (w7 : (Jvm.Cond.interfaceMethod x.cls x.cls x.name x.desc).before a0 Z = true) (w5 : (Jvm.Cond.selects Cr x y).before a0 Z = true) (w6 : (Jvm.Cond.instanceMethod y).before a0 Z = true) (w8 : (Jvm.Cond.publicMethod y).before a0 Z = true) (w9 : (Jvm.Cond.unhidden Cr x.name x.desc).before a0 Z = true) (w10 : (Jvm.Cond.castable Cr x.cls).before a0 Z = true) (w3 : (Jvm.Cond.initialized y.cls).before a0 Z = true) (w4 : (Jvm.Cond.code y bytes maxL ret).before a0 Z = true) (hy : x.cls ≠ "java/lang/invoke/MethodHandle" ∧ x.cls ≠ "java/lang/invoke/VarHandle") (Er : Exa Z h a Cr) (hM : OCt l Z a0 EL n0 y bytes maxL ret rm [] as' h Sf Q) (hsf : ∀ x ∈ Sf, x ∈ Ow) (hml : L.size = c.maxLocals) (hf : rm.frames + 1 ≤ R.frames) (hl : W + (maxL + 11) + rm.locals ≤ R.locals) {argsL rest : List Value} (hlen : ∀ sig, parseMethodDescriptor x.desc = some sig → argsL.length = sig.parameters.length) (hst : S = argsL.reverse ++ .ref a :: rest) (has : (.ref a :: argsL).toArray = as') (hW : (rest.map fun v => v.category).sum ≤ W) (hd : decode c.code pc = .ok (.invokeinterface index count, 5)) (hp : pc + 5 = pc') (hc : cells + rm.cells ≤ R.cells) (hs : slots + rm.slots ≤ R.slots)
    (k : ∀ T' h' v, OPn p l e R s m args below meth c Z a0 EL n0 W0 own T' h' Ow (cells + rm.cells) (slots + rm.slots) → Keep h h' Sf → Q v T'.vm h' → OG p e below m Pq T' pc' L (v.toList ++ rest)) : OG p e below m Pq T pc L S := by
  subst hp
  obtain ⟨locs, X, hx, hlk, hS, hZ, hown, eT, N, hEL, C, O, K, W'⟩ := P
  have hb := OCt.back (p := p) (e := e) (below := below) (s := s) (args := args) (T := T) (len := 5) (W := W) (R := R) O hEL (fun x hx => ⟨(W' x (hsf x hx)).1, (W' x (hsf x hx)).2.1, (W' x (hsf x hx)).2.2.1⟩) hM hZ w4 w3 hf hl C.1
  obtain ⟨cB, kB, q1, q2, q3⟩ := isOf (s := s.setVm T.vm) hZ eT Er
  obtain ⟨v, vm₁, B, hW1, X', hSi, hle, hq, st⟩ := X.interfaceBackS hx (xi := x) (y := y) hown (mvT (s := s.setVm T.vm) hZ w1) (mvT (s := s.setVm T.vm) hZ w2) (o_mvF (s := s.setVm T.vm) hZ w2 w7 hy) (mvT (s := s.setVm T.vm) hZ w5) (mvT (s := s.setVm T.vm) hZ w6) (mvT (s := s.setVm T.vm) hZ w8) (mvT (s := s.setVm T.vm) hZ w9) (mvT (s := s.setVm T.vm) hZ w10) hy hb q1 q2 q3 (g := mkF m pc L S) rfl hml (Steps.refl _) (argsL := argsL) (rest := rest) hlen hst (by show 2 * 0 + _ ≤ _; omega) hd (fun _ _ => ⟨has, eT, hc, hs⟩)
  obtain ⟨P', K', q⟩ := OPn.behind (y := y) hx hlk hS hZ hown eT N hEL C O K W' hsf X' hSi hle hq
  exact OG.st (fun t r => st.trans r) (k _ _ v P' K' q)
theorem o_initO (P : OPn p l e R s m args below meth c Z a0 EL n0 W0 own T h Ow cells slots) {index W : Nat} {a : Addr} (w1 : (Jvm.Cond.methodLink own index Lib.objectInit).before a0 Z = true) (w2 : (Jvm.Cond.instanceMethod Lib.objectInit).before a0 Z = true) (w3 : (Jvm.Cond.code Lib.objectInit ⟨#[0xb1]⟩ 1 none).before a0 Z = true) (hml : L.size = c.maxLocals) (hf : 1 ≤ R.frames) (hW : (S.map fun v => v.category).sum ≤ W) (hl : W + 12 ≤ R.locals) (hd : decode c.code pc = .ok (.invokespecial index, 3)) (hp : pc + 3 = pc') (k : ∀ T', OPn p l e R s m args below meth c Z a0 EL n0 W0 own T' h Ow cells slots → OG p e below m Pq T' pc' L S) : OG p e below m Pq T pc L (.ref a :: S) := by
  subst hp
  exact P.tab (fun locs X hZ hown eT hx => initO X hx hZ hown w1 w2 w3 eT (g := mkF m pc L (.ref a :: S)) rfl hml rfl hd hf (by show 2 * 0 + _ ≤ _; omega) hl) k
theorem o_nfSel {x y : MethodName} {Cr : String} (hxy : x.cls = y.cls) (w : (Jvm.Cond.selects Cr x x).before a0 Z = true) : ∀ U : State, Z.Warmed39 U.vm → NotFace U x := fun U hU => notFace_of_selects (args := #[]) (mvT (s := U) hU w)
theorem o_nfSup {x : MethodName} {K : String} (w : (Jvm.Cond.superclass x.cls K).before a0 Z = true) : ∀ U : State, Z.Warmed39 U.vm → NotFace U x := fun U hU => nf_super (args := #[]) (mvT (s := U) hU w)
theorem o_nfTop {x : MethodName} (w : (Jvm.Cond.noSuperclass x.cls).before a0 Z = true) : ∀ U : State, Z.Warmed39 U.vm → NotFace U x := fun U hU => nf_top (args := #[]) (mvT (s := U) hU w)
theorem o_sf0 : ∀ x ∈ ([] : List Addr), x ∈ Ow := fun _ q => nomatch q
theorem o_sfS {x : Addr} {Sf : List Addr} (h1 : x ∈ Ow) (h2 : ∀ y ∈ Sf, y ∈ Ow) : ∀ y ∈ x :: Sf, y ∈ Ow := fun y q => (List.mem_cons.mp q).elim (fun e => e ▸ h1) (h2 y)
end OwnLayer
theorem o_catR (a : Addr) : (Value.ref a).category = 1 := rfl
theorem o_catN : Value.null.category = 1 := rfl
theorem o_catI (x : Int32) : (Value.int x).category = 1 := rfl
theorem o_catJ (x : Int64) : (Value.long x).category = 2 := rfl
theorem o_catD (x : UInt64) : (Value.double x).category = 2 := rfl
/-! numbers as indices; bytes of chars -/
theorem oi_nat {i : Nat} (h : i < 2147483648) : i.toInt32.toNatClampNeg = i := Int32.toNatClampNeg_ofNat_of_lt h
theorem oi_int {i : Nat} (h : i < 2147483648) : i.toInt32.toInt = i := Int32.toInt_ofNat_of_lt h
theorem oi_nn {i : Nat} (h : i < 2147483648) : ¬ i.toInt32 < 0 := by
  rw [Int32.lt_iff_toInt_lt, oi_int h]; have : (0 : Int32).toInt = 0 := rfl; omega
theorem oi_succ (i : Nat) : i.toInt32 + (1 : Int32) = (i + 1).toInt32 := (Int32.ofNat_add i 1).symm
theorem oi_lt {i j : Nat} (hi : i < 2147483648) (hj : j < 2147483648) : i.toInt32 < j.toInt32 ↔ i < j := by
  rw [Int32.lt_iff_toInt_lt, oi_int hi, oi_int hj]; omega
theorem oi_eq {i j : Nat} (hi : i < 2147483648) (hj : j < 2147483648) : i.toInt32 = j.toInt32 ↔ i = j := by
  constructor
  · intro h
    have := congrArg Int32.toInt h
    rw [oi_int hi, oi_int hj] at this; omega
  · rintro rfl; rfl
abbrev och (cs : List Int32) : List Value := cs.map fun c => .int c
abbrev obyte (c : Int32) : Int32 := c.toInt8.toInt32
/-- Latin-1 chars -/
def OLat (cs : List Int32) : Prop := ∀ c ∈ cs, ¬ c < 0 ∧ ¬ (255 : Int32) < c
theorem OLat.nil : OLat [] := fun _ q => nomatch q
theorem OLat.cons {c : Int32} {cs : List Int32} (h : ¬ c < 0 ∧ ¬ (255 : Int32) < c) (r : OLat cs) : OLat (c :: cs) := fun x hx => (List.mem_cons.mp hx).elim (fun e => e ▸ h) (r x)
theorem obyte_inj {c d : Int32} (hc : ¬ c < 0 ∧ ¬ (255 : Int32) < c) (hd : ¬ d < 0 ∧ ¬ (255 : Int32) < d) (h : obyte c = obyte d) : c = d := by
  have e := congrArg Int32.toInt h
  have q1 := c_i2b c; have q2 := c_i2b d
  obtain ⟨c1, c2⟩ := hc; obtain ⟨d1, d2⟩ := hd
  rw [Int32.lt_iff_toInt_lt] at c1 c2 d1 d2
  have z0 : (0 : Int32).toInt = 0 := rfl
  have z1 : (255 : Int32).toInt = 255 := rfl
  rw [z0] at c1 d1; rw [z1] at c2 d2
  apply Int32.toInt_inj.mp
  show c.toInt = d.toInt
  have e' : c.toInt8.toInt32.toInt = d.toInt8.toInt32.toInt := e
  omega
theorem obytes_inj : ∀ {cs ds : List Int32}, OLat cs → OLat ds → cs.map obyte = ds.map obyte → cs = ds
  | [], [], _, _, _ => rfl
  | [], _ :: _, _, _, h => by cases h
  | _ :: _, [], _, _, h => by cases h
  | c :: cs, d :: ds, hc, hd, h => by
    simp only [List.map_cons, List.cons.injEq] at h
    rw [obyte_inj (hc c (by simp)) (hd d (by simp)) h.1, obytes_inj (fun x hx => hc x (by simp [hx])) (fun x hx => hd x (by simp [hx])) h.2]
theorem och_get {cs : List Int32} {i : Nat} {c : Int32} (h : cs[i]? = some c) : (och cs)[i]? = some (.int c) := by simp [h]
theorem och_inj {us ws : List Int32} (h : och us = och ws) : us = ws := by
  have : us.map (fun c => Value.int c) = ws.map fun c => Value.int c := h
  exact (List.map_inj_right (fun a b e => Value.int.inj e)).mp this
theorem o_nar_char {c : Int32} (h : ¬ c < 0 ∧ ¬ (65535 : Int32) < c) : nar .char c = c := by
  obtain ⟨q1, q2, q3⟩ := c_i2c c
  obtain ⟨c1, c2⟩ := h
  rw [Int32.lt_iff_toInt_lt] at c1 c2
  have z0 : (0 : Int32).toInt = 0 := rfl
  have z1 : (65535 : Int32).toInt = 65535 := rfl
  rw [z0] at c1; rw [z1] at c2
  apply Int32.toInt_inj.mp
  show c.toUInt32.toUInt16.toUInt32.toInt32.toInt = c.toInt
  omega
/-- a mask of eight bits, as a char -/
theorem o_mask8 (y : Int32) : ¬ (y &&& (255 : Int32)).toUInt32.toUInt16.toUInt32.toInt32 < 0 ∧ ¬ (255 : Int32) < (y &&& (255 : Int32)).toUInt32.toUInt16.toUInt32.toInt32 := by
  obtain ⟨q1, q2, q3⟩ := c_i2c (y &&& (255 : Int32))
  have q4 := c_and y 255 (by decide)
  have z0 : (0 : Int32).toInt = 0 := rfl
  have z1 : (255 : Int32).toInt = 255 := rfl
  rw [z1] at q4
  rw [Int32.lt_iff_toInt_lt, Int32.lt_iff_toInt_lt, z0, z1]
  omega
theorem o_c16 {c : Int32} (h : ¬ c < 0 ∧ ¬ (255 : Int32) < c) : ¬ c < 0 ∧ ¬ (65535 : Int32) < c := by
  obtain ⟨h1, h2⟩ := h
  refine ⟨h1, fun q => h2 ?_⟩
  rw [Int32.lt_iff_toInt_lt] at q ⊢
  have z1 : (65535 : Int32).toInt = 65535 := rfl
  have z2 : (255 : Int32).toInt = 255 := rfl
  omega
theorem OObj.uniq {Z : State} {h : Heap} {a : Addr} {C O nm d : String} {fs gs : List (String × String × String × Value)} {v w : Value} (F : OObj Z h a C fs) (G : OObj Z h a C gs) (i j : Nat) (hi : fs[i]? = some (O, nm, d, v)) (hj : gs[j]? = some (O, nm, d, w)) : v = w := Classical.byContradiction fun q => (F.fld i hi).ne (G.fld j hj) q rfl
theorem OArr.uniq {Z : State} {h : Heap} {a : Addr} {ty : FieldType} {vs ws : List Value} (F : OArr Z h a ty vs) (G : OArr Z h a ty ws) : vs = ws := by
  obtain ⟨c, A, e, -⟩ := F
  have q := G.size A.1
  rw [e] at q
  simpa using q
theorem OStr.uniq {Z : State} {h : Heap} {a b b' : Addr} {us ws : List Int32} (F : OStr Z h a b (och us)) (G : OStr Z h a b' (och ws)) : us = ws := by
  have e := Value.ref.inj (F.1.uniq G.1 0 0 rfl rfl)
  subst e
  exact och_inj (F.2.uniq G.2)
theorem OObj.neArr {Z : State} {h : Heap} {a b : Addr} {C : String} {a0 : Array Value} {fs : List (String × String × String × Value)} {ty : FieldType} {vs : List Value} {k : Nat} (F : OObj Z h a C fs) (wi : (Jvm.Cond.instantiable C k).before a0 Z = true) (G : OArr Z h b ty vs) : a ≠ b := by
  obtain ⟨c, A, -⟩ := G
  exact ne_arr F.1 wi A
theorem OObj.neObj {Z : State} {h : Heap} {a b : Addr} {C C' : String} {fs gs : List (String × String × String × Value)} (F : OObj Z h a C fs) (G : OObj Z h b C' gs) (hn : C ≠ C') : a ≠ b := ne_exa F.1 G.1 hn
/-- a String reference that may be null -/
def OSv (Z : State) (h : Heap) (v : Value) (o : Option (List Int32)) : Prop := (v = .null ∧ o = none) ∨ ∃ (a b : Addr) (us : List Int32), v = .ref a ∧ o = some us ∧ OStr Z h a b (och us)
theorem OSv.isRef {Z : State} {h : Heap} {v : Value} {o : Option (List Int32)} (F : OSv Z h v o) : v.isRef = true := by
  rcases F with ⟨rfl, -⟩ | ⟨a, b, us, rfl, -⟩ <;> rfl
theorem OSv.cat {Z : State} {h : Heap} {v : Value} {o : Option (List Int32)} (F : OSv Z h v o) : v.category = 1 := by
  rcases F with ⟨rfl, -⟩ | ⟨a, b, us, rfl, -⟩ <;> rfl
theorem OSv.keep0 {Z : State} {h h' : Heap} {v : Value} {o : Option (List Int32)} (F : OSv Z h v o) (K : Keep h h' []) : OSv Z h' v o := by
  rcases F with F | ⟨a, b, us, e1, e2, F⟩
  · exact Or.inl F
  · exact Or.inr ⟨a, b, us, e1, e2, F.keep K nin0 nin0⟩
theorem OSv.keep1 {Z : State} {h h' : Heap} {v : Value} {o : Option (List Int32)} {c : Addr} {C : String} {a0 : Array Value} {fs : List (String × String × String × Value)} {k : Nat} (F : OSv Z h v o) (G : OObj Z h c C fs) (wi : (Jvm.Cond.instantiable C k).before a0 Z = true) (hC : C ≠ "java/lang/String") (K : Keep h h' [c]) : OSv Z h' v o := by
  rcases F with F | ⟨a, b, us, e1, e2, F⟩
  · exact Or.inl F
  · exact Or.inr ⟨a, b, us, e1, e2, F.keep K (ninS (Ne.symm (G.neObj F.1 hC)) nin0) (ninS (Ne.symm (G.neArr wi F.2)) nin0)⟩
theorem o_fitsRef {v : Value} {C : String} (h : v.isRef = true) : fits (.object C) v = true := by cases v <;> first | rfl | cases h
theorem o_store {l : Array Slot} {i : Nat} {v : Value} {o : Slot} {l' : Array Slot} (hold : l[i]? = some o) (ho : One o) (hv : v.category = 1) (e : l.setIfInBounds i (.val v) = l') : storeLocals l i v = some l' := e ▸ XS.store1 hold ho hv
/-- C is no K: C's superclass is the root; K is a class of objects -/
theorem o_ns1 {Z : State} {a0 : Array Value} {O C K : String} {n : Nat} (w0 : (Jvm.Cond.noSuperclass O).before a0 Z = true) (w : (Jvm.Cond.superclass C O).before a0 Z = true) (wi : (Jvm.Cond.instantiable K n).before a0 Z = true) (h1 : O ≠ K) (h2 : C ≠ K) : ∃ c t, Z.vm.findClass C = some c ∧ Z.vm.findClass K = some t ∧ Z.vm.assignable c t = false := by
  obtain ⟨c0, k0, a1, a2, a3, -, -⟩ := Cond.noSuperclass_spec w0
  obtain ⟨t, kt, g1, g2, g3, g4, -, -⟩ := Cond.instantiable_spec wi
  obtain ⟨c, b0⟩ := found_sup w
  obtain ⟨p, k, kp, b1, b2, b3, b4, b5, -, b7⟩ := Cond.superclass_spec b0 w
  cases b1.symm.trans a1
  have ne0 := ids_ne a1 g1 h1
  have ne1 := ids_ne b0 g1 h2
  have gI : kt.isInterface = false := by
    cases q : kt.isInterface
    · rfl
    · rw [q] at g4; cases g4
  have sub0 : ∀ fuel, Z.vm.isSubclassAux fuel c0 t = false := fun fuel => by
    cases fuel with
    | zero => rfl
    | succ f => simp [Vm.isSubclassAux, ne0, a2, a3]
  have sub : ∀ fuel, Z.vm.isSubclassAux fuel c t = false := fun fuel => by
    cases fuel with
    | zero => rfl
    | succ f => simp [Vm.isSubclassAux, ne1, b2, b4, sub0]
  refine ⟨c, t, b0, g1, ?_⟩
  show Z.vm.assignableAux (255 + 1) c t = false
  simp [Vm.assignableAux, ne1, b2, g2, b5, g3, gI, Vm.isSubclass, sub]
theorem o_nar_byte (c : Int32) : nar .byte (obyte c) = obyte c := by simp [nar, obyte]
theorem OObj.one {Z : State} {h : Heap} {a : Addr} {C O nm d : String} {v : Value} (E : Exa Z h a C) (F : Fld Z h a O nm d v) : OObj Z h a C [(O, nm, d, v)] := by
  refine ⟨E, fun f hf => ?_, fun i j f g hij hi hj => ?_⟩
  · rw [List.mem_singleton.mp hf]; exact F
  · have h1 := (List.getElem?_eq_some_iff.mp hi).1
    have h2 := (List.getElem?_eq_some_iff.mp hj).1
    simp at h1 h2; omega
theorem OObj.zero {Z : State} {h : Heap} {a : Addr} {C : String} (E : Exa Z h a C) : OObj Z h a C [] := ⟨E, fun f hf => (nomatch hf), fun i j f g hij hi hj => by simp at hi⟩
theorem OObj.ext {Z : State} {h h' : Heap} {a : Addr} {C : String} {fs : List (String × String × String × Value)} (F : OObj Z h a C fs) (E : Ext h h') : OObj Z h' a C fs := ⟨F.1.ext E, fun f hf => (F.2.1 f hf).ext E, F.2.2⟩
/-! from the case's words to facts at the start -/
section OStart
variable {Z : State} {args : Array Value} {t F : Term} {a : Addr} {cl : Cell} {ty : FieldType} {n : Int32} {vs : List Value}
theorem o_len (et : t.eval args Z none [] Z = some (.ref a)) (A : Arr Z Z.heap a cl ty) (h : (Jvm.Cond.eq (.length t) (.int n)).value args Z none Z [] = some true) : cl.slots.size < 2 ^ 31 ∧ cl.slots.size.toInt32 = n := by
  have e := eqv_i (Term.int_eval n) h
  have ha := A.fin (Vm.Alike.refl _)
  by_cases q : cl.slots.size < 2 ^ 31
  · rw [len_f et ha q] at e
    exact ⟨q, Value.int.inj (Option.some.inj e)⟩
  · simp [Term.eval, et, ha] at e
    omega
theorem o_fnull {C nm d : String} (et : t.eval args Z none [] Z = some (.ref a)) (h : (Jvm.Cond.eq (.field t C nm d) .null).value args Z none Z [] = some true) : Fld Z Z.heap a C nm d .null := Fld.start ((fld_at et).symm.trans (null_v h))
theorem o_eqr {X : Term} {y : Addr} (hF : F.eval args Z none [] Z = some (.ref y)) (h : (Jvm.Cond.eq X F).value args Z none Z [] = some true) : X.eval args Z none [] Z = some (.ref y) := by
  obtain ⟨x, y', e1, e2, k1, k2⟩ := cmp_v (Or.inl h)
  cases hF.symm.trans e2
  simp only [Cond.value, e1, hF] at h
  cases x <;> simp_all
theorem o_fexa {C nm d : String} {b : Addr} (et : t.eval args Z none [] Z = some (.ref a)) (eb : (Term.field t C nm d).eval args Z none [] Z = some (.ref b)) : Fld Z Z.heap a C nm d (.ref b) := Fld.start ((fld_at et).symm.trans eb)
theorem o_fint {C nm d : String} (et : t.eval args Z none [] Z = some (.ref a)) (h : (Jvm.Cond.eq (.field t C nm d) (.int n)).value args Z none Z [] = some true) : Fld Z Z.heap a C nm d (.int n) := Fld.start ((fld_at et).symm.trans (eqv_i (Term.int_eval n) h))
theorem o_flong {C nm d : String} {x : Int64} (et : t.eval args Z none [] Z = some (.ref a)) (h : (Jvm.Cond.eq (.field t C nm d) (.long x)).value args Z none Z [] = some true) : Fld Z Z.heap a C nm d (.long x) := Fld.start ((fld_at et).symm.trans (eqv_l (long_at x) h))
theorem o_slot {j : Int32} {v : Value} (et : t.eval args Z none [] Z = some (.ref a)) (A : Arr Z Z.heap a cl ty) (hj : ¬ j < 0) (e : (Term.elem t (.int j)).eval args Z none [] Z = some v) : cl.slots[j.toNatClampNeg]? = some v := (elem_f et (Term.int_eval j) (A.fin (Vm.Alike.refl _)) hj).symm.trans e
theorem OArr.start (hf : Fit Z) (A : Arr Z Z.heap a cl ty) (hl : cl.slots.size < 2 ^ 31 ∧ cl.slots.size.toInt32 = n) (hz : ¬ n < 0) (hn : n.toNatClampNeg = vs.length) (H : HasL cl 0 vs) : OArr Z Z.heap a ty vs := OArr.ofArv (dv := .null) (Arv.start hf A hl.1 hl.2 hz hn H) hn.symm
theorem OArr.ext {h h' : Heap} (F : OArr Z h a ty vs) (E : Ext h h') : OArr Z h' a ty vs := by obtain ⟨c, A, r⟩ := F; exact ⟨c, A.ext E, r⟩
theorem OObj.two {h : Heap} {C O nm d O' nm' d' : String} {a0 : Array Value} {v w : Value} {ty ty' : FieldType} (E : Exa Z h a C) (F : Fld Z h a O nm d v) (G : Fld Z h a O' nm' d' w) (L : Laid Z a0 C O nm d) (L' : Laid Z a0 C O' nm' d') (hn : nm ≠ nm') (ht : parseFieldDescriptor d = some ty) (ht' : parseFieldDescriptor d' = some ty') : OObj Z h a C [(O, nm, d, v), (O', nm', d', w)] := by
  have s1 := slot_ne L L' hn ht ht'
  refine ⟨E, fun f hf => ?_, fun i j f g hij hi hj => ?_⟩
  · rcases List.mem_cons.mp hf with rfl | hf
    · exact F
    · rw [List.mem_singleton.mp hf]; exact G
  · match i, j, hi, hj with
    | 0, 0, _, _ => exact absurd rfl hij
    | 1, 1, _, _ => exact absurd rfl hij
    | 0, 1, hi, hj => cases hi; cases hj; exact s1
    | 1, 0, hi, hj => cases hi; cases hj; exact s1.symm
end OStart
section OClone
variable {p : Program} {l : Launch} {e : Env} {R : Room} {s : State} {m : MethodId} {args : Array Value} {below : List Frame} {meth : Method} {c : Code} {T T' : State} {cells slots : Nat} {Z : State} {a0 : Array Value} {EL : List (String × Nat)} {n0 : Nat} {W0 : List Addr} {own : String} {h h' : Heap} {Ow : List Addr} {Pq : Outcome → State → Prop} {pc pc' : Nat} {L : Array Slot} {S : List Value}
theorem o_clone (P : OPn p l e R s m args below meth c Z a0 EL n0 W0 own T h Ow cells slots) {ad : String} {index cap W : Nat} {a : Addr} {ty : FieldType} {vs : List Value} (w1 : (Jvm.Cond.methodLink own index ⟨ad, "clone", "()Ljava/lang/Object;"⟩).before a0 Z = true) (w2 : (Jvm.Cond.sameMethod ad "java/lang/Object" "clone" "()Ljava/lang/Object;").before a0 Z = true) (w3 : (Jvm.Cond.native ⟨"java/lang/Object", "clone", "()Ljava/lang/Object;"⟩).before a0 Z = true) (w4 : (Jvm.Cond.instanceMethod ⟨"java/lang/Object", "clone", "()Ljava/lang/Object;"⟩).before a0 Z = true) (w5 : (Jvm.Cond.selects ad ⟨ad, "clone", "()Ljava/lang/Object;"⟩ ⟨"java/lang/Object", "clone", "()Ljava/lang/Object;"⟩).before a0 Z = true) (w6 : (Jvm.Cond.castable ad "java/lang/Cloneable").before a0 Z = true)
    (A : OArr Z h a ty vs) (E : Exa Z h a ad) (hml : L.size = c.maxLocals) (hd : decode c.code pc = .ok (.invokevirtual index, 3)) (hp : pc + 3 = pc') (hf : 1 ≤ R.frames) (hW : (S.map fun v => v.category).sum ≤ W) (hl : W + 14 ≤ R.locals) (hcap : vs.length ≤ cap) (hc : cells + 1 ≤ R.cells) (hs : slots + cap ≤ R.slots)
    (k : ∀ T' h' b, OPn p l e R s m args below meth c Z a0 EL n0 W0 own T' h' (b :: Ow) (cells + 1) (slots + cap) → Keep h h' [] → h.size ≤ b → OArr Z h' b ty vs → Exa Z h' b ad → OG p e below m Pq T' pc' L (.ref b :: S)) : OG p e below m Pq T pc L (.ref a :: S) := by
  subst hp
  obtain ⟨cl, Ar, e1, e2, e3⟩ := A
  have FC : FitC Z cl := fitC_of Ar fun i hi v hv => e3 v (by rw [e1] at hv; exact List.mem_of_getElem? (by simpa using hv))
  refine P.grow (G := fun h' b => OArr Z h' b ty vs ∧ Exa Z h' b ad) (fun locs X hZ hown eT hx => ?_) fun T' h' b P' K hb q => k T' h' b P' K hb q.1 q.2
  obtain ⟨T', h', X', e', E', A', B', st⟩ := cloneA X hx hZ hown w1 w2 w3 w4 w5 w6 eT Ar E FC (g := mkF m pc L (.ref a :: S)) rfl hml rfl hd hf (by show 2 * 0 + _ ≤ _; omega) hl (by rw [e1]; simpa using hcap) hc hs
  exact ⟨T', h', X', e', E', A'.lt, ⟨⟨_, A', e1, e2, e3⟩, B'⟩, st⟩
end OClone
theorem ow {Z : State} {a0 : Array Value} {d : Jvm.Cond} (hw : ∀ d ∈ tables_1, d.before a0 Z = true) (k : Nat) (h : tables_1[k]? = some d) : d.before a0 Z = true := hw d (List.mem_of_getElem? h)
theorem pd_0 : parseMethodDescriptor "([CI[BII)I" = some ⟨[(.array .char), .int, (.array .byte), .int, .int], some .int⟩ := by decide +kernel
theorem pd_1 : parseMethodDescriptor "([CII)[B" = some ⟨[(.array .char), .int, .int], some (.array .byte)⟩ := by decide +kernel
theorem pd_2 : parseMethodDescriptor "([BI)B" = some ⟨[(.array .byte), .int], some .byte⟩ := by decide +kernel
theorem pd_3 : parseMethodDescriptor "([CIILjava/lang/Void;)V" = some ⟨[(.array .char), .int, .int, (.object "java/lang/Void")], none⟩ := by decide +kernel
theorem pd_4 : parseMethodDescriptor "(C)Z" = some ⟨[.char], some .boolean⟩ := by decide +kernel
theorem pd_5 : parseMethodDescriptor "(C)[B" = some ⟨[.char], some (.array .byte)⟩ := by decide +kernel
theorem pd_6 : parseMethodDescriptor "([BB)V" = some ⟨[(.array .byte), .byte], none⟩ := by decide +kernel
theorem pd_7 : parseMethodDescriptor "()V" = some ⟨[], none⟩ := by decide +kernel
theorem pd_8 : parseMethodDescriptor "(J)V" = some ⟨[.long], none⟩ := by decide +kernel
theorem pd_9 : parseMethodDescriptor "(J)Z" = some ⟨[.long], some .boolean⟩ := by decide +kernel
theorem pd_10 : parseMethodDescriptor "(J)Ljava/lang/Long;" = some ⟨[.long], some (.object "java/lang/Long")⟩ := by decide +kernel
theorem pd_11 : parseMethodDescriptor "(Ljava/lang/String;Ljava/lang/String;Ljava/lang/Long;)V" = some ⟨[(.object "java/lang/String"), (.object "java/lang/String"), (.object "java/lang/Long")], none⟩ := by decide +kernel
theorem pd_12 : parseMethodDescriptor "(Ljava/lang/Object;)V" = some ⟨[(.object "java/lang/Object")], none⟩ := by decide +kernel
theorem pd_13 : parseMethodDescriptor "(Ljava/lang/Object;)Ljava/util/Optional;" = some ⟨[(.object "java/lang/Object")], some (.object "java/util/Optional")⟩ := by decide +kernel
theorem pd_14 : parseMethodDescriptor "()J" = some ⟨[], some .long⟩ := by decide +kernel
theorem pd_15 : parseMethodDescriptor "(J)Ljava/util/OptionalLong;" = some ⟨[.long], some (.object "java/util/OptionalLong")⟩ := by decide +kernel
theorem pd_16 : parseMethodDescriptor "(Ljava/lang/String;J)Lcom/example/patient_crawler/patientcrawler/Validators;" = some ⟨[(.object "java/lang/String"), .long], some (.object "com/example/patient_crawler/patientcrawler/Validators")⟩ := by decide +kernel
theorem pd_17 : parseMethodDescriptor "()Ljava/util/Optional;" = some ⟨[], some (.object "java/util/Optional")⟩ := by decide +kernel
theorem pd_18 : parseMethodDescriptor "(Ljava/lang/Object;)Ljava/lang/Object;" = some ⟨[(.object "java/lang/Object")], some (.object "java/lang/Object")⟩ := by decide +kernel
theorem pd_19 : parseMethodDescriptor "(Ljava/lang/Object;)Z" = some ⟨[(.object "java/lang/Object")], some .boolean⟩ := by decide +kernel
theorem pd_20 : parseMethodDescriptor "()Ljava/util/OptionalLong;" = some ⟨[], some (.object "java/util/OptionalLong")⟩ := by decide +kernel
theorem pd_21 : parseMethodDescriptor "()Z" = some ⟨[], some .boolean⟩ := by decide +kernel
theorem pd_22 : parseMethodDescriptor "([C)V" = some ⟨[(.array .char)], none⟩ := by decide +kernel
theorem pd_23 : parseMethodDescriptor "(C)Ljava/lang/String;" = some ⟨[.char], some (.object "java/lang/String")⟩ := by decide +kernel
theorem pn_S : plainName "java/lang/String" = true := by first | (simp [plainName, overriddenIn]; done) | decide +kernel
theorem pn_L1 : plainName "java/lang/StringLatin1" = true := by first | (simp [plainName, overriddenIn]; done) | decide +kernel
theorem pn_U16 : plainName "java/lang/StringUTF16" = true := by first | (simp [plainName, overriddenIn]; done) | decide +kernel
theorem dsl_0 : decode jdk_52_method_21_code 0 = .ok (.iconst 0, 1) := by decide +kernel
theorem dsl_1 : decode jdk_52_method_21_code 1 = .ok (.istore 5, 2) := by decide +kernel
theorem dsl_3 : decode jdk_52_method_21_code 3 = .ok (.iload 5, 2) := by decide +kernel
theorem dsl_5 : decode jdk_52_method_21_code 5 = .ok (.iload 4, 2) := by decide +kernel
theorem dsl_7 : decode jdk_52_method_21_code 7 = .ok (.if_icmp .ge 37, 3) := by decide +kernel
theorem dsl_10 : decode jdk_52_method_21_code 10 = .ok (.aload_n 0, 1) := by decide +kernel
theorem dsl_11 : decode jdk_52_method_21_code 11 = .ok (.iload_n 1, 1) := by decide +kernel
theorem dsl_12 : decode jdk_52_method_21_code 12 = .ok (.caload, 1) := by decide +kernel
theorem dsl_13 : decode jdk_52_method_21_code 13 = .ok (.istore 6, 2) := by decide +kernel
theorem dsl_15 : decode jdk_52_method_21_code 15 = .ok (.iload 6, 2) := by decide +kernel
theorem dsl_17 : decode jdk_52_method_21_code 17 = .ok (.sipush 255, 3) := by decide +kernel
theorem dsl_20 : decode jdk_52_method_21_code 20 = .ok (.if_icmp .le 6, 3) := by decide +kernel
theorem dsl_23 : decode jdk_52_method_21_code 23 = .ok (.iload 5, 2) := by decide +kernel
theorem dsl_25 : decode jdk_52_method_21_code 25 = .ok (.ireturn, 1) := by decide +kernel
theorem dsl_26 : decode jdk_52_method_21_code 26 = .ok (.aload_n 2, 1) := by decide +kernel
theorem dsl_27 : decode jdk_52_method_21_code 27 = .ok (.iload_n 3, 1) := by decide +kernel
theorem dsl_28 : decode jdk_52_method_21_code 28 = .ok (.iload 6, 2) := by decide +kernel
theorem dsl_30 : decode jdk_52_method_21_code 30 = .ok (.i2b, 1) := by decide +kernel
theorem dsl_31 : decode jdk_52_method_21_code 31 = .ok (.bastore, 1) := by decide +kernel
theorem dsl_32 : decode jdk_52_method_21_code 32 = .ok (.iinc 1 1, 3) := by decide +kernel
theorem dsl_35 : decode jdk_52_method_21_code 35 = .ok (.iinc 3 1, 3) := by decide +kernel
theorem dsl_38 : decode jdk_52_method_21_code 38 = .ok (.iinc 5 1, 3) := by decide +kernel
theorem dsl_41 : decode jdk_52_method_21_code 41 = .ok (.goto (-38), 3) := by decide +kernel
theorem dsl_44 : decode jdk_52_method_21_code 44 = .ok (.iload 4, 2) := by decide +kernel
theorem dsl_46 : decode jdk_52_method_21_code 46 = .ok (.ireturn, 1) := by decide +kernel
theorem ef_sl (x0 : Addr) (x1 : Int32) (x2 : Addr) (x3 : Int32) (x4 : Int32) (m : MethodId) : entryFrame m #[(.ref x0), (.int x1), (.ref x2), (.int x3), (.int x4)] 7 = mkF m 0 #[.val (.ref x0), .val (.int x1), .val (.ref x2), .val (.int x3), .val (.int x4), .unset, .unset] [] := by first | (simp [entryFrame, mkF, argsToLocals, o_catR, o_catN, o_catI, o_catJ, o_catD]; done) | rfl
theorem o_takeset {cs : List Int32} {i k : Nat} {c : Int32} (hik : i + (k + 1) = cs.length) (hc : cs[i]? = some c) : (och ((cs.take i).map obyte) ++ List.replicate (k + 1) (Value.int 0)).set i (.int (obyte c)) = och ((cs.take (i + 1)).map obyte) ++ List.replicate k (.int 0) := by
  have hl : (och ((cs.take i).map obyte)).length = i := by simp; omega
  rw [List.set_append_right _ _ (by rw [hl]; exact Nat.le_refl _), hl, Nat.sub_self, List.replicate_succ, List.set_cons_zero]
  obtain ⟨hi, e⟩ := List.getElem?_eq_some_iff.mp hc
  rw [List.take_succ_eq_append_getElem hi, e]
  simp
theorem o_takelen {cs : List Int32} {i k : Nat} (hik : i + (k + 1) = cs.length) : i < (och ((cs.take i).map obyte) ++ List.replicate (k + 1) (Value.int 0)).length := by simp; omega
set_option maxRecDepth 65536 in
set_option maxHeartbeats 40000000 in
theorem ct_cmprL (l : Launch) (Z : State) (a0 : Array Value) (hw : ∀ d ∈ tables_1, d.before a0 Z = true) (EL : List (String × Nat)) (n0 : Nat) (va d : Addr) (cs : List Int32) (h0 : Heap) (A_va : OArr Z h0 va .char (och cs)) (A_d : OArr Z h0 d .byte (List.replicate cs.length (.int 0))) (ne_va_d : va ≠ d) (hl : OLat cs) :
    OCt l Z a0 EL n0 (⟨"java/lang/StringUTF16", "compress", "([CI[BII)I"⟩ : MethodName) jdk_52_method_21_code 7 (some .int) ({ frames := 0, cells := 0, slots := 0, locals := 0 } : Room) [] #[(.ref va), (.int (0 : Int32)), (.ref d), (.int (0 : Int32)), (.int cs.length.toInt32)] h0 [d] (fun w vm h => w = some (.int cs.length.toInt32) ∧ OArr Z h d .byte (och (cs.map obyte))) := by
  refine OCt.body (plainFor_of_name pn_U16) (ef_sl va ((0 : Int32)) d ((0 : Int32)) (cs.length.toInt32)) ?_
  intro p e s m below meth c T hby hml hret hnm hsh P
  have hbig : cs.length < 2147483648 := by simpa using A_va.len
  have loop : ∀ (k i : Nat) (T : State) (h : Heap) (o : Slot), i + k = cs.length → One o → OPn p l e ({ frames := 0, cells := 0, slots := 0, locals := 0 } : Room) s m #[(.ref va), (.int (0 : Int32)), (.ref d), (.int (0 : Int32)), (.int cs.length.toInt32)] below meth c Z a0 EL n0 [d] "java/lang/StringUTF16" T h [d] 0 0 → OArr Z h va .char (och cs) → OArr Z h d .byte (och ((cs.take i).map obyte) ++ List.replicate k (.int 0)) → OG p e below m (OFq Z EL n0 s [d] ({ frames := 0, cells := 0, slots := 0, locals := 0 } : Room) (fun w vm h => w = some (.int cs.length.toInt32) ∧ OArr Z h d .byte (och (cs.map obyte)))) T 3 #[.val (.ref va), .val (.int i.toInt32), .val (.ref d), .val (.int i.toInt32), .val (.int cs.length.toInt32), .val (.int i.toInt32), o] [] := by
    clear P A_va A_d T
    intro k
    induction k with
    | zero =>
        intro i T h o hik ho P A_va A_d
        refine o_iload P (hb hby dsl_3) rfl (pc' := 5) rfl ?_
        refine o_iload P (hb hby dsl_5) rfl (pc' := 7) rfl ?_
        refine o_icmp_ge P (hb hby dsl_7) (by decide) (pc' := 44) (by decide) (pcf := 10) rfl (fun _ => ?_) (fun q => absurd q (fun q => by rw [oi_lt (by omega) hbig] at q; omega))
        refine o_iload P (hb hby dsl_44) rfl (pc' := 46) rfl ?_
        exact o_retI P hret (by simp) rfl (hb hby dsl_46) (by decide) (by decide) ⟨rfl, by rw [show i = cs.length by omega, List.take_length] at A_d; simpa using A_d⟩
    | succ k ih =>
        intro i T h o hik ho P A_va A_d
        obtain ⟨cc, hc⟩ : ∃ cc, cs[i]? = some cc := ⟨cs[i]'(by omega), List.getElem?_eq_getElem (by omega)⟩
        refine o_iload P (hb hby dsl_3) rfl (pc' := 5) rfl ?_
        refine o_iload P (hb hby dsl_5) rfl (pc' := 7) rfl ?_
        refine o_icmp_ge P (hb hby dsl_7) (by decide) (pc' := 44) (by decide) (pcf := 10) rfl (fun q => absurd ((oi_lt (by omega) hbig).mpr (by omega)) q) (fun _ => ?_)
        refine o_aloadN P (hb hby dsl_10) rfl rfl (pc' := 11) rfl ?_
        refine o_iloadN P (hb hby dsl_11) rfl (pc' := 12) rfl ?_
        refine o_caload P (v := (.int cc)) A_va (oi_nn (by omega)) (by rw [oi_nat (by omega)]; exact och_get hc) (hb hby dsl_12) (pc' := 13) rfl ?_
        refine o_istore P (hb hby dsl_13) (L' := #[.val (.ref va), .val (.int i.toInt32), .val (.ref d), .val (.int i.toInt32), .val (.int cs.length.toInt32), .val (.int i.toInt32), .val (.int cc)]) (o_store rfl ho rfl rfl) (pc' := 15) rfl ?_
        refine o_iload P (hb hby dsl_15) rfl (pc' := 17) rfl ?_
        refine o_sipush P (255 : Int32) (hb hby dsl_17) rfl (pc' := 20) rfl ?_
        refine o_icmp_le P (hb hby dsl_20) (by decide) (pc' := 26) (by decide) (pcf := 23) rfl (fun _ => ?_) (fun q => absurd q (hl cc (List.mem_of_getElem? hc)).2)
        refine o_aloadN P (hb hby dsl_26) rfl rfl (pc' := 27) rfl ?_
        refine o_iloadN P (hb hby dsl_27) rfl (pc' := 28) rfl ?_
        refine o_iload P (hb hby dsl_28) rfl (pc' := 30) rfl ?_
        refine o_i2b P (hb hby dsl_30) (pc' := 31) rfl ?_
        refine o_bastore P (v := (.int (obyte cc))) A_d (List.Mem.head _) (oi_nn (by omega)) (by rw [oi_nat (by omega)]; exact o_takelen hik) (congrArg Value.int (o_nar_byte cc)) (hb hby dsl_31) (pc' := 32) rfl ?_
        clear P; clear A_d; intro T h1 P W1 A_d
        replace A_va := A_va.oth W1 ne_va_d
        clear W1
        rw [oi_nat (by omega), o_takeset hik hc] at A_d
        refine o_iinc P (1 : Int32) (hb hby dsl_32) rfl rfl (L' := #[.val (.ref va), .val (.int (i.toInt32 + (1 : Int32))), .val (.ref d), .val (.int i.toInt32), .val (.int cs.length.toInt32), .val (.int i.toInt32), .val (.int cc)]) rfl (pc' := 35) rfl ?_
        refine o_iinc P (1 : Int32) (hb hby dsl_35) rfl rfl (L' := #[.val (.ref va), .val (.int (i.toInt32 + (1 : Int32))), .val (.ref d), .val (.int (i.toInt32 + (1 : Int32))), .val (.int cs.length.toInt32), .val (.int i.toInt32), .val (.int cc)]) rfl (pc' := 38) rfl ?_
        refine o_iinc P (1 : Int32) (hb hby dsl_38) rfl rfl (L' := #[.val (.ref va), .val (.int (i.toInt32 + (1 : Int32))), .val (.ref d), .val (.int (i.toInt32 + (1 : Int32))), .val (.int cs.length.toInt32), .val (.int (i.toInt32 + (1 : Int32))), .val (.int cc)]) rfl (pc' := 41) rfl ?_
        refine o_goto P (hb hby dsl_41) (by decide) (pc' := 3) (by decide) ?_
        rw [oi_succ i]
        exact ih (i + 1) T h1 _ (by omega) (One.val rfl) P A_va A_d
  refine o_iconst P (0 : Int32) (hb hby dsl_0) rfl (pc' := 1) rfl ?_
  refine o_istore P (hb hby dsl_1) (L' := #[.val (.ref va), .val (.int (0 : Int32)), .val (.ref d), .val (.int (0 : Int32)), .val (.int cs.length.toInt32), .val (.int (0 : Int32)), .unset]) rfl (pc' := 3) rfl ?_
  exact loop cs.length 0 T h0 _ (by omega) One.u P A_va (by simpa using A_d)
theorem dsk_0 : decode jdk_52_method_16_code 0 = .ok (.iload_n 2, 1) := by decide +kernel
theorem dsk_1 : decode jdk_52_method_16_code 1 = .ok (.newarray .byte, 2) := by decide +kernel
theorem dsk_3 : decode jdk_52_method_16_code 3 = .ok (.astore_n 3, 1) := by decide +kernel
theorem dsk_4 : decode jdk_52_method_16_code 4 = .ok (.aload_n 0, 1) := by decide +kernel
theorem dsk_5 : decode jdk_52_method_16_code 5 = .ok (.iload_n 1, 1) := by decide +kernel
theorem dsk_6 : decode jdk_52_method_16_code 6 = .ok (.aload_n 3, 1) := by decide +kernel
theorem dsk_7 : decode jdk_52_method_16_code 7 = .ok (.iconst 0, 1) := by decide +kernel
theorem dsk_8 : decode jdk_52_method_16_code 8 = .ok (.iload_n 2, 1) := by decide +kernel
theorem dsk_9 : decode jdk_52_method_16_code 9 = .ok (.invokestatic 115, 3) := by decide +kernel
theorem dsk_12 : decode jdk_52_method_16_code 12 = .ok (.istore 4, 2) := by decide +kernel
theorem dsk_14 : decode jdk_52_method_16_code 14 = .ok (.iload 4, 2) := by decide +kernel
theorem dsk_16 : decode jdk_52_method_16_code 16 = .ok (.iload_n 2, 1) := by decide +kernel
theorem dsk_17 : decode jdk_52_method_16_code 17 = .ok (.if_icmp .eq 40, 3) := by decide +kernel
theorem dsk_20 : decode jdk_52_method_16_code 20 = .ok (.aload_n 0, 1) := by decide +kernel
theorem dsk_21 : decode jdk_52_method_16_code 21 = .ok (.iload_n 1, 1) := by decide +kernel
theorem dsk_22 : decode jdk_52_method_16_code 22 = .ok (.iload_n 2, 1) := by decide +kernel
theorem dsk_23 : decode jdk_52_method_16_code 23 = .ok (.invokestatic 119, 3) := by decide +kernel
theorem dsk_26 : decode jdk_52_method_16_code 26 = .ok (.astore 5, 2) := by decide +kernel
theorem dsk_28 : decode jdk_52_method_16_code 28 = .ok (.aload 5, 2) := by decide +kernel
theorem dsk_30 : decode jdk_52_method_16_code 30 = .ok (.iload 4, 2) := by decide +kernel
theorem dsk_32 : decode jdk_52_method_16_code 32 = .ok (.invokestatic 71, 3) := by decide +kernel
theorem dsk_35 : decode jdk_52_method_16_code 35 = .ok (.sipush 255, 3) := by decide +kernel
theorem dsk_38 : decode jdk_52_method_16_code 38 = .ok (.if_icmp .gt 16, 3) := by decide +kernel
theorem dsk_41 : decode jdk_52_method_16_code 41 = .ok (.aload 5, 2) := by decide +kernel
theorem dsk_43 : decode jdk_52_method_16_code 43 = .ok (.iconst 0, 1) := by decide +kernel
theorem dsk_44 : decode jdk_52_method_16_code 44 = .ok (.aload_n 3, 1) := by decide +kernel
theorem dsk_45 : decode jdk_52_method_16_code 45 = .ok (.iconst 0, 1) := by decide +kernel
theorem dsk_46 : decode jdk_52_method_16_code 46 = .ok (.iload_n 2, 1) := by decide +kernel
theorem dsk_47 : decode jdk_52_method_16_code 47 = .ok (.invokestatic 123, 3) := by decide +kernel
theorem dsk_50 : decode jdk_52_method_16_code 50 = .ok (.iload_n 2, 1) := by decide +kernel
theorem dsk_51 : decode jdk_52_method_16_code 51 = .ok (.if_icmp .eq 6, 3) := by decide +kernel
theorem dsk_54 : decode jdk_52_method_16_code 54 = .ok (.aload 5, 2) := by decide +kernel
theorem dsk_56 : decode jdk_52_method_16_code 56 = .ok (.areturn, 1) := by decide +kernel
theorem dsk_57 : decode jdk_52_method_16_code 57 = .ok (.aload_n 3, 1) := by decide +kernel
theorem dsk_58 : decode jdk_52_method_16_code 58 = .ok (.areturn, 1) := by decide +kernel
theorem ef_sk (x0 : Addr) (x1 : Int32) (x2 : Int32) (m : MethodId) : entryFrame m #[(.ref x0), (.int x1), (.int x2)] 6 = mkF m 0 #[.val (.ref x0), .val (.int x1), .val (.int x2), .unset, .unset, .unset] [] := by first | (simp [entryFrame, mkF, argsToLocals, o_catR, o_catN, o_catI, o_catJ, o_catD]; done) | rfl
set_option maxRecDepth 65536 in
set_option maxHeartbeats 40000000 in
theorem ct_cmpr (l : Launch) (Z : State) (a0 : Array Value) (hw : ∀ d ∈ tables_1, d.before a0 Z = true) (EL : List (String × Nat)) (n0 : Nat) (va : Addr) (cs : List Int32) (h0 : Heap) (A_va : OArr Z h0 va .char (och cs)) (hl : OLat cs) (hcap : cs.length ≤ 8) :
    OCt l Z a0 EL n0 (⟨"java/lang/StringUTF16", "compress", "([CII)[B"⟩ : MethodName) jdk_52_method_16_code 6 (some (.array .byte)) ({ frames := 1, cells := 1, slots := 8, locals := 18 } : Room) [] #[(.ref va), (.int (0 : Int32)), (.int cs.length.toInt32)] h0 [] (fun w vm h => ∃ d : Addr, w = some (.ref d) ∧ h0.size ≤ d ∧ OArr Z h d .byte (och (cs.map obyte))) := by
  refine OCt.body (plainFor_of_name pn_U16) (ef_sk va ((0 : Int32)) (cs.length.toInt32)) ?_
  intro p e s m below meth c T hby hml hret hnm hsh P
  refine o_iloadN P (hb hby dsk_0) rfl (pc' := 1) rfl ?_
  have hz_d := P.keep0.1
  refine o_newarr P (cap := 8) (ow hw 16 rfl) (hb hby dsk_1) (oi_nn (by omega)) (by rw [oi_nat (by omega)]; exact hcap) (by decide) (pc' := 3) rfl (by decide) (by decide) ?_
  clear P; intro T h1 d P K1 hb_d A_d
  have sz_d := Nat.le_trans hz_d hb_d
  clear hz_d
  have ne_va_d : va ≠ d := Nat.ne_of_lt (Nat.lt_of_lt_of_le A_va.lt hb_d)
  replace A_va := A_va.keep K1 nin0
  clear K1
  replace A_d : OArr Z h1 d .byte (List.replicate cs.length (.int 0)) := by rw [oi_nat (by omega)] at A_d; exact A_d
  refine o_astoreN P (hb hby dsk_3) rfl (L' := #[.val (.ref va), .val (.int (0 : Int32)), .val (.int cs.length.toInt32), .val (.ref d), .unset, .unset]) rfl (pc' := 4) rfl ?_
  refine o_aloadN P (hb hby dsk_4) rfl rfl (pc' := 5) rfl ?_
  refine o_iloadN P (hb hby dsk_5) rfl (pc' := 6) rfl ?_
  refine o_aloadN P (hb hby dsk_6) rfl rfl (pc' := 7) rfl ?_
  refine o_iconst P (0 : Int32) (hb hby dsk_7) rfl (pc' := 8) rfl ?_
  refine o_iloadN P (hb hby dsk_8) rfl (pc' := 9) rfl ?_
  refine o_callS P (W := 0) (ow hw 153 rfl) (ow hw 154 rfl) (ow hw 151 rfl) (ow hw 155 rfl) (by decide) (ct_cmprL l Z a0 hw EL n0 va d cs h1 A_va A_d ne_va_d hl) (o_sfS (List.Mem.head _) o_sf0) (by rw [hml]; rfl) (by decide) (by decide) (argsL := [(.ref va), (.int (0 : Int32)), (.ref d), (.int (0 : Int32)), (.int cs.length.toInt32)]) (rest := []) (lenOf pd_0 rfl) rfl rfl (Nat.le_of_eq rfl) (hb hby dsk_9) (pc' := 12) rfl (by decide) (by decide) ?_
  clear P; intro T h2 v2 P K2 q2
  clear A_d; obtain ⟨rfl, A_d⟩ := q2
  replace A_va := A_va.keep K2 (ninS ne_va_d nin0)
  show OG p e below m _ T 12 #[.val (.ref va), .val (.int (0 : Int32)), .val (.int cs.length.toInt32), .val (.ref d), .unset, .unset] [(.int cs.length.toInt32)]
  refine o_istore P (hb hby dsk_12) (L' := #[.val (.ref va), .val (.int (0 : Int32)), .val (.int cs.length.toInt32), .val (.ref d), .val (.int cs.length.toInt32), .unset]) rfl (pc' := 14) rfl ?_
  refine o_iload P (hb hby dsk_14) rfl (pc' := 16) rfl ?_
  refine o_iloadN P (hb hby dsk_16) rfl (pc' := 17) rfl ?_
  refine o_icmp_eq P (hb hby dsk_17) (by decide) (pc' := 57) (by decide) (pcf := 20) rfl (fun _ => ?_) (fun q => absurd rfl q)
  refine o_aloadN P (hb hby dsk_57) rfl rfl (pc' := 58) rfl ?_
  exact o_retA P hret rfl rfl rfl (hb hby dsk_58) (by decide) (by decide) ⟨d, rfl, hsh ▸ sz_d, A_d⟩
theorem dsc_0 : decode jdk_52_method_15_code 0 = .ok (.iload_n 1, 1) := by decide +kernel
theorem dsc_1 : decode jdk_52_method_15_code 1 = .ok (.aload_n 0, 1) := by decide +kernel
theorem dsc_2 : decode jdk_52_method_15_code 2 = .ok (.arraylength, 1) := by decide +kernel
theorem dsc_3 : decode jdk_52_method_15_code 3 = .ok (.isub, 1) := by decide +kernel
theorem dsc_4 : decode jdk_52_method_15_code 4 = .ok (.bipush 31, 2) := by decide +kernel
theorem dsc_6 : decode jdk_52_method_15_code 6 = .ok (.iushr, 1) := by decide +kernel
theorem dsc_7 : decode jdk_52_method_15_code 7 = .ok (.i2b, 1) := by decide +kernel
theorem dsc_8 : decode jdk_52_method_15_code 8 = .ok (.ireturn, 1) := by decide +kernel
theorem ef_sc (x0 : Addr) (x1 : Int32) (m : MethodId) : entryFrame m #[(.ref x0), (.int x1)] 2 = mkF m 0 #[.val (.ref x0), .val (.int x1)] [] := by first | (simp [entryFrame, mkF, argsToLocals, o_catR, o_catN, o_catI, o_catJ, o_catD]; done) | rfl
set_option maxRecDepth 65536 in
set_option maxHeartbeats 40000000 in
theorem ct_coder (l : Launch) (Z : State) (a0 : Array Value) (hw : ∀ d ∈ tables_1, d.before a0 Z = true) (EL : List (String × Nat)) (n0 : Nat) (a : Addr) (n : Int32) (vs : List Value) (h0 : Heap) (A_a : OArr Z h0 a .byte vs) (hn : vs.length.toInt32 = n) :
    OCt l Z a0 EL n0 (⟨"java/lang/StringUTF16", "coderFromArrayLen", "([BI)B"⟩ : MethodName) jdk_52_method_15_code 2 (some .byte) ({ frames := 0, cells := 0, slots := 0, locals := 0 } : Room) [] #[(.ref a), (.int n)] h0 [] (fun w vm h => w = some (.int 0) ∧ h = h0) := by
  refine OCt.body (plainFor_of_name pn_U16) (ef_sc a n) ?_
  intro p e s m below meth c T hby hml hret hnm hsh P
  refine o_iloadN P (hb hby dsc_0) rfl (pc' := 1) rfl ?_
  refine o_aloadN P (hb hby dsc_1) rfl rfl (pc' := 2) rfl ?_
  refine o_arrlen P A_a (hb hby dsc_2) (n := n) hn (pc' := 3) rfl ?_
  refine o_isub P (hb hby dsc_3) (pc' := 4) rfl ?_
  refine o_bipush P (31 : Int32) (hb hby dsc_4) rfl (pc' := 6) rfl ?_
  refine o_iushr P (hb hby dsc_6) (pc' := 7) rfl ?_
  refine o_i2b P (hb hby dsc_7) (pc' := 8) rfl ?_
  rw [Int32.sub_self]
  show OG p e below m _ T 8 #[.val (.ref a), .val (.int n)] [(.int (0 : Int32))]
  exact o_retI P hret (by simp) rfl (hb hby dsc_8) (by decide) (by decide) ⟨rfl, rfl⟩
theorem own_wS {Z : State} {a0 : Array Value} (hw : ∀ d ∈ tables_1, d.before a0 Z = true) : ∀ a ∈ Bundle.stringAtoms, a.before a0 Z = true := fun a ha => by
  simp only [Bundle.stringAtoms, List.mem_cons, List.not_mem_nil, or_false] at ha
  rcases ha with rfl | rfl | rfl | rfl | rfl | rfl | rfl
  · exact (ow hw 4 rfl)
  · exact (ow hw 12 rfl)
  · exact (ow hw 16 rfl)
  · exact (ow hw 25 rfl)
  · exact (ow hw 27 rfl)
  · exact (ow hw 147 rfl)
  · exact (ow hw 148 rfl)
theorem dsi_0 : decode jdk_42_method_149_code 0 = .ok (.aload_n 0, 1) := by decide +kernel
theorem dsi_1 : decode jdk_42_method_149_code 1 = .ok (.invokespecial 1, 3) := by decide +kernel
theorem dsi_4 : decode jdk_42_method_149_code 4 = .ok (.iload_n 3, 1) := by decide +kernel
theorem dsi_5 : decode jdk_42_method_149_code 5 = .ok (.ifCond .ne 22, 3) := by decide +kernel
theorem dsi_8 : decode jdk_42_method_149_code 8 = .ok (.aload_n 0, 1) := by decide +kernel
theorem dsi_9 : decode jdk_42_method_149_code 9 = .ok (.ldc 7, 2) := by decide +kernel
theorem dsi_11 : decode jdk_42_method_149_code 11 = .ok (.getfield 9, 3) := by decide +kernel
theorem dsi_14 : decode jdk_42_method_149_code 14 = .ok (.putfield 9, 3) := by decide +kernel
theorem dsi_17 : decode jdk_42_method_149_code 17 = .ok (.aload_n 0, 1) := by decide +kernel
theorem dsi_18 : decode jdk_42_method_149_code 18 = .ok (.ldc 7, 2) := by decide +kernel
theorem dsi_20 : decode jdk_42_method_149_code 20 = .ok (.getfield 15, 3) := by decide +kernel
theorem dsi_23 : decode jdk_42_method_149_code 23 = .ok (.putfield 15, 3) := by decide +kernel
theorem dsi_26 : decode jdk_42_method_149_code 26 = .ok (.return_, 1) := by decide +kernel
theorem dsi_27 : decode jdk_42_method_149_code 27 = .ok (.getstatic 38, 3) := by decide +kernel
theorem dsi_30 : decode jdk_42_method_149_code 30 = .ok (.ifCond .eq 28, 3) := by decide +kernel
theorem dsi_33 : decode jdk_42_method_149_code 33 = .ok (.aload_n 1, 1) := by decide +kernel
theorem dsi_34 : decode jdk_42_method_149_code 34 = .ok (.iload_n 2, 1) := by decide +kernel
theorem dsi_35 : decode jdk_42_method_149_code 35 = .ok (.iload_n 3, 1) := by decide +kernel
theorem dsi_36 : decode jdk_42_method_149_code 36 = .ok (.invokestatic 177, 3) := by decide +kernel
theorem dsi_39 : decode jdk_42_method_149_code 39 = .ok (.astore 5, 2) := by decide +kernel
theorem dsi_41 : decode jdk_42_method_149_code 41 = .ok (.aload_n 0, 1) := by decide +kernel
theorem dsi_42 : decode jdk_42_method_149_code 42 = .ok (.aload 5, 2) := by decide +kernel
theorem dsi_44 : decode jdk_42_method_149_code 44 = .ok (.iload_n 3, 1) := by decide +kernel
theorem dsi_45 : decode jdk_42_method_149_code 45 = .ok (.invokestatic 47, 3) := by decide +kernel
theorem dsi_48 : decode jdk_42_method_149_code 48 = .ok (.putfield 15, 3) := by decide +kernel
theorem dsi_51 : decode jdk_42_method_149_code 51 = .ok (.aload_n 0, 1) := by decide +kernel
theorem dsi_52 : decode jdk_42_method_149_code 52 = .ok (.aload 5, 2) := by decide +kernel
theorem dsi_54 : decode jdk_42_method_149_code 54 = .ok (.putfield 9, 3) := by decide +kernel
theorem dsi_57 : decode jdk_42_method_149_code 57 = .ok (.return_, 1) := by decide +kernel
theorem dsi_58 : decode jdk_42_method_149_code 58 = .ok (.aload_n 0, 1) := by decide +kernel
theorem dsi_59 : decode jdk_42_method_149_code 59 = .ok (.iconst 1, 1) := by decide +kernel
theorem dsi_60 : decode jdk_42_method_149_code 60 = .ok (.putfield 15, 3) := by decide +kernel
theorem dsi_63 : decode jdk_42_method_149_code 63 = .ok (.aload_n 0, 1) := by decide +kernel
theorem dsi_64 : decode jdk_42_method_149_code 64 = .ok (.aload_n 1, 1) := by decide +kernel
theorem dsi_65 : decode jdk_42_method_149_code 65 = .ok (.iload_n 2, 1) := by decide +kernel
theorem dsi_66 : decode jdk_42_method_149_code 66 = .ok (.iload_n 3, 1) := by decide +kernel
theorem dsi_67 : decode jdk_42_method_149_code 67 = .ok (.invokestatic 180, 3) := by decide +kernel
theorem dsi_70 : decode jdk_42_method_149_code 70 = .ok (.putfield 9, 3) := by decide +kernel
theorem dsi_73 : decode jdk_42_method_149_code 73 = .ok (.return_, 1) := by decide +kernel
theorem ef_si (x0 : Addr) (x1 : Addr) (x2 : Int32) (x3 : Int32) (m : MethodId) : entryFrame m #[(.ref x0), (.ref x1), (.int x2), (.int x3), .null] 6 = mkF m 0 #[.val (.ref x0), .val (.ref x1), .val (.int x2), .val (.int x3), .val .null, .unset] [] := by first | (simp [entryFrame, mkF, argsToLocals, o_catR, o_catN, o_catI, o_catJ, o_catD]; done) | rfl
set_option maxRecDepth 65536 in
set_option maxHeartbeats 40000000 in
theorem ct_initV1 (l : Launch) (Z : State) (a0 : Array Value) (hw : ∀ d ∈ tables_1, d.before a0 Z = true) (EL : List (String × Nat)) (n0 : Nat) (st va : Addr) (cs : List Int32) (cv : Int32) (hcs : Sta Z Z.heap "java/lang/String" "COMPACT_STRINGS" "Z" (.int cv)) (hcv : ¬ cv = 0) (h0 : Heap) (F_st : OObj Z h0 st "java/lang/String" [("java/lang/String", "value", "[B", .null), ("java/lang/String", "coder", "B", (.int (0 : Int32)))]) (A_va : OArr Z h0 va .char (och cs)) (ne_st_va : st ≠ va) (hl : OLat cs) (hcap : cs.length ≤ 8) (hpos : 0 < cs.length) :
    OCt l Z a0 EL n0 (⟨"java/lang/String", "<init>", "([CIILjava/lang/Void;)V"⟩ : MethodName) jdk_42_method_149_code 6 none ({ frames := 2, cells := 4, slots := 8, locals := 35 } : Room) [] #[(.ref st), (.ref va), (.int (0 : Int32)), (.int cs.length.toInt32), .null] h0 [st] (fun w vm h => w = none ∧ ∃ b : Addr, OStr Z h st b (och (cs.map obyte))) := by
  refine OCt.body (plainFor_of_name pn_S) (ef_si st va ((0 : Int32)) (cs.length.toInt32)) ?_
  intro p e s m below meth c T hby hml hret hnm hsh P
  refine o_aloadN P (hb hby dsi_0) rfl rfl (pc' := 1) rfl ?_
  refine o_initO P (W := 0) (ow hw 21 rfl) (ow hw 22 rfl) (ow hw 23 rfl) (by rw [hml]; rfl) (by decide) (Nat.le_of_eq rfl) (by decide) (hb hby dsi_1) (pc' := 4) rfl ?_
  clear P; intro T P
  refine o_iloadN P (hb hby dsi_4) rfl (pc' := 5) rfl ?_
  refine o_if_ne P (hb hby dsi_5) (by decide) (pc' := 27) (by decide) (pcf := 8) rfl (fun _ => ?_) (fun q => absurd q (fun q => by rw [← show (0 : Nat).toInt32 = (0 : Int32) from rfl, oi_eq (by omega) (by omega)] at q; omega))
  refine o_getS P (ow hw 6 rfl) Via.refl hcs (hb hby dsi_27) (pc' := 30) rfl ?_
  clear P; intro T P
  refine o_if_eq P (hb hby dsi_30) (by decide) (pc' := 58) (by decide) (pcf := 33) rfl (fun q => absurd q hcv) (fun _ => ?_)
  refine o_aloadN P (hb hby dsi_33) rfl rfl (pc' := 34) rfl ?_
  refine o_iloadN P (hb hby dsi_34) rfl (pc' := 35) rfl ?_
  refine o_iloadN P (hb hby dsi_35) rfl (pc' := 36) rfl ?_
  refine o_callS P (W := 0) (ow hw 149 rfl) (ow hw 150 rfl) (ow hw 151 rfl) (ow hw 152 rfl) (by decide) (ct_cmpr l Z a0 hw EL n0 va cs h0 A_va hl hcap) o_sf0 (by rw [hml]; rfl) (by decide) (by decide) (argsL := [(.ref va), (.int (0 : Int32)), (.int cs.length.toInt32)]) (rest := []) (lenOf pd_1 rfl) rfl rfl (Nat.le_of_eq rfl) (hb hby dsi_36) (pc' := 39) rfl (by decide) (by decide) ?_
  clear P; intro T h1 v1 P K1 q1
  obtain ⟨d, rfl, g1, A_d⟩ := q1
  have ne_st_d : st ≠ d := Nat.ne_of_lt (Nat.lt_of_lt_of_le F_st.lt g1)
  have ne_va_d : va ≠ d := Nat.ne_of_lt (Nat.lt_of_lt_of_le A_va.lt g1)
  replace F_st := F_st.keep K1 nin0
  replace A_va := A_va.keep K1 nin0
  show OG p e below m _ T 39 #[.val (.ref st), .val (.ref va), .val (.int (0 : Int32)), .val (.int cs.length.toInt32), .val .null, .unset] [(.ref d)]
  refine o_astore P (hb hby dsi_39) rfl (L' := #[.val (.ref st), .val (.ref va), .val (.int (0 : Int32)), .val (.int cs.length.toInt32), .val .null, .val (.ref d)]) rfl (pc' := 41) rfl ?_
  refine o_aloadN P (hb hby dsi_41) rfl rfl (pc' := 42) rfl ?_
  refine o_aload P (hb hby dsi_42) rfl rfl (pc' := 44) rfl ?_
  refine o_iloadN P (hb hby dsi_44) rfl (pc' := 45) rfl ?_
  refine o_callS P (W := 1) (ow hw 156 rfl) (ow hw 157 rfl) (ow hw 151 rfl) (ow hw 158 rfl) (by decide) (ct_coder l Z a0 hw EL n0 d cs.length.toInt32 _ h1 A_d (by simp)) o_sf0 (by rw [hml]; rfl) (by decide) (by decide) (argsL := [(.ref d), (.int cs.length.toInt32)]) (rest := [(.ref st)]) (lenOf pd_2 rfl) rfl rfl (Nat.le_of_eq rfl) (hb hby dsi_45) (pc' := 48) rfl (by decide) (by decide) ?_
  clear P; intro T h2 v2 P K2 q2
  obtain ⟨rfl, rfl⟩ := q2; clear K2
  show OG p e below m _ T 48 #[.val (.ref st), .val (.ref va), .val (.int (0 : Int32)), .val (.int cs.length.toInt32), .val .null, .val (.ref d)] [(.int (0 : Int32)), (.ref st)]
  refine o_putF P (v' := (.int (0 : Int32))) (ty := .byte) (ow hw 26 rfl) Via.refl (F_st.fld 1 rfl) F_st.exa (Or.inr ⟨(ow hw 27 rfl), rfl, hnm⟩) (ow hw 12 rfl) (by decide) rfl rfl (List.Mem.head _) (hb hby dsi_48) (pc' := 51) rfl ?_
  clear P; intro T h3 P W3
  replace A_va := A_va.oth W3 (Ne.symm ne_st_va)
  replace A_d := A_d.oth W3 (Ne.symm ne_st_d)
  replace F_st : OObj Z h3 st "java/lang/String" [("java/lang/String", "value", "[B", .null), ("java/lang/String", "coder", "B", (.int (0 : Int32)))] := F_st.put 1 rfl W3
  clear W3
  refine o_aloadN P (hb hby dsi_51) rfl rfl (pc' := 52) rfl ?_
  refine o_aload P (hb hby dsi_52) rfl rfl (pc' := 54) rfl ?_
  refine o_putF P (v' := (.ref d)) (ty := (.array .byte)) (ow hw 24 rfl) Via.refl (F_st.fld 0 rfl) F_st.exa (Or.inr ⟨(ow hw 25 rfl), rfl, hnm⟩) (ow hw 12 rfl) (by decide) rfl rfl (List.Mem.head _) (hb hby dsi_54) (pc' := 57) rfl ?_
  clear P; intro T h4 P W4
  replace A_va := A_va.oth W4 (Ne.symm ne_st_va)
  replace A_d := A_d.oth W4 (Ne.symm ne_st_d)
  replace F_st : OObj Z h4 st "java/lang/String" [("java/lang/String", "value", "[B", (.ref d)), ("java/lang/String", "coder", "B", (.int (0 : Int32)))] := F_st.put 0 rfl W4
  clear W4
  exact o_ret0 P hret (hb hby dsi_57) (by decide) (by decide) ⟨rfl, d, F_st, A_d⟩
set_option maxRecDepth 65536 in
set_option maxHeartbeats 40000000 in
theorem ct_initV0 (l : Launch) (Z : State) (a0 : Array Value) (hw : ∀ d ∈ tables_1, d.before a0 Z = true) (EL : List (String × Nat)) (n0 : Nat) (st va : Addr) (h0 : Heap) (F_st : OObj Z h0 st "java/lang/String" [("java/lang/String", "value", "[B", .null), ("java/lang/String", "coder", "B", (.int (0 : Int32)))]) (hmem : ("java/lang/String", 7) ∈ EL) :
    OCt l Z a0 EL n0 (⟨"java/lang/String", "<init>", "([CIILjava/lang/Void;)V"⟩ : MethodName) jdk_42_method_149_code 6 none ({ frames := 1, cells := 4, slots := 8, locals := 12 } : Room) [] #[(.ref st), (.ref va), (.int (0 : Int32)), (.int (0 : Int32)), .null] h0 [st] (fun w vm h => w = none ∧ ∃ b : Addr, OStr Z h st b (och [])) := by
  refine OCt.body (plainFor_of_name pn_S) (ef_si st va (0 : Int32) (0 : Int32)) ?_
  intro p e s m below meth c T hby hml hret hnm hsh P
  refine o_aloadN P (hb hby dsi_0) rfl rfl (pc' := 1) rfl ?_
  refine o_initO P (W := 0) (ow hw 21 rfl) (ow hw 22 rfl) (ow hw 23 rfl) (by rw [hml]; rfl) (by decide) (Nat.le_of_eq rfl) (by decide) (hb hby dsi_1) (pc' := 4) rfl ?_
  clear P; intro T P
  refine o_iloadN P (hb hby dsi_4) rfl (pc' := 5) rfl ?_
  refine o_if_ne P (hb hby dsi_5) (by decide) (pc' := 27) (by decide) (pcf := 8) rfl (fun q => absurd (by decide) q) (fun _ => ?_)
  refine o_aloadN P (hb hby dsi_8) rfl rfl (pc' := 9) rfl ?_
  refine o_ldcS P (n := 0) (vs := []) (ow hw 146 rfl) (own_wS hw) hmem (Or.inr (ow hw 25 rfl)) (Or.inr (ow hw 27 rfl)) ⟨by simp, by simp⟩ (0 : Int32) (by decide) rfl (hb hby dsi_9) (pc' := 11) rfl (by simp) (by decide) (by decide) (by decide) ?_
  clear P; intro T h1 e1 f1 P K1 G_e1 hne
  have ne_st_e1 : st ≠ e1 := (hne st (List.Mem.head _)).1
  have ne_st_f1 : st ≠ f1 := (hne st (List.Mem.head _)).2
  clear hne
  replace F_st := F_st.keep K1 nin0
  clear K1
  obtain ⟨F_e1, A_f1⟩ := G_e1
  refine o_getF P (ow hw 24 rfl) Via.refl (F_e1.fld 0 rfl) (hb hby dsi_11) (pc' := 14) rfl ?_
  clear P; intro T P
  refine o_putF P (v' := (.ref f1)) (ty := (.array .byte)) (ow hw 24 rfl) Via.refl (F_st.fld 0 rfl) F_st.exa (Or.inr ⟨(ow hw 25 rfl), rfl, hnm⟩) (ow hw 12 rfl) (by decide) rfl rfl (List.Mem.head _) (hb hby dsi_14) (pc' := 17) rfl ?_
  clear P; intro T h2 P W2
  replace F_e1 := F_e1.oth W2 (Ne.symm ne_st_e1)
  replace A_f1 := A_f1.oth W2 (Ne.symm ne_st_f1)
  replace F_st : OObj Z h2 st "java/lang/String" [("java/lang/String", "value", "[B", (.ref f1)), ("java/lang/String", "coder", "B", (.int (0 : Int32)))] := F_st.put 0 rfl W2
  clear W2
  refine o_aloadN P (hb hby dsi_17) rfl rfl (pc' := 18) rfl ?_
  refine o_ldcS P (n := 0) (vs := []) (ow hw 146 rfl) (own_wS hw) hmem (Or.inr (ow hw 25 rfl)) (Or.inr (ow hw 27 rfl)) ⟨by simp, by simp⟩ (0 : Int32) (by decide) rfl (hb hby dsi_18) (pc' := 20) rfl (by simp) (by decide) (by decide) (by decide) ?_
  clear P; intro T h3 e2 f2 P K3 G_e2 hne
  have ne_st_e2 : st ≠ e2 := (hne st (List.Mem.head _)).1
  have ne_st_f2 : st ≠ f2 := (hne st (List.Mem.head _)).2
  clear hne
  replace F_st := F_st.keep K3 nin0
  replace A_f1 := A_f1.keep K3 nin0
  clear K3
  obtain ⟨F_e2, A_f2⟩ := G_e2
  refine o_getF P (ow hw 26 rfl) Via.refl (F_e2.fld 1 rfl) (hb hby dsi_20) (pc' := 23) rfl ?_
  clear P; intro T P
  refine o_putF P (v' := (.int (0 : Int32))) (ty := .byte) (ow hw 26 rfl) Via.refl (F_st.fld 1 rfl) F_st.exa (Or.inr ⟨(ow hw 27 rfl), rfl, hnm⟩) (ow hw 12 rfl) (by decide) rfl rfl (List.Mem.head _) (hb hby dsi_23) (pc' := 26) rfl ?_
  clear P; intro T h4 P W4
  replace F_e2 := F_e2.oth W4 (Ne.symm ne_st_e2)
  replace A_f1 := A_f1.oth W4 (Ne.symm ne_st_f1)
  replace A_f2 := A_f2.oth W4 (Ne.symm ne_st_f2)
  replace F_st : OObj Z h4 st "java/lang/String" [("java/lang/String", "value", "[B", (.ref f1)), ("java/lang/String", "coder", "B", (.int (0 : Int32)))] := F_st.put 1 rfl W4
  clear W4
  exact o_ret0 P hret (hb hby dsi_26) (by decide) (by decide) ⟨rfl, f1, F_st, A_f1⟩
theorem dsj_0 : decode jdk_42_method_3_code 0 = .ok (.aload_n 0, 1) := by decide +kernel
theorem dsj_1 : decode jdk_42_method_3_code 1 = .ok (.aload_n 1, 1) := by decide +kernel
theorem dsj_2 : decode jdk_42_method_3_code 2 = .ok (.iconst 0, 1) := by decide +kernel
theorem dsj_3 : decode jdk_42_method_3_code 3 = .ok (.aload_n 1, 1) := by decide +kernel
theorem dsj_4 : decode jdk_42_method_3_code 4 = .ok (.arraylength, 1) := by decide +kernel
theorem dsj_5 : decode jdk_42_method_3_code 5 = .ok (.aconst_null, 1) := by decide +kernel
theorem dsj_6 : decode jdk_42_method_3_code 6 = .ok (.invokespecial 27, 3) := by decide +kernel
theorem dsj_9 : decode jdk_42_method_3_code 9 = .ok (.return_, 1) := by decide +kernel
theorem ef_sj (x0 : Addr) (x1 : Addr) (m : MethodId) : entryFrame m #[(.ref x0), (.ref x1)] 2 = mkF m 0 #[.val (.ref x0), .val (.ref x1)] [] := by first | (simp [entryFrame, mkF, argsToLocals, o_catR, o_catN, o_catI, o_catJ, o_catD]; done) | rfl
set_option maxRecDepth 65536 in
set_option maxHeartbeats 40000000 in
theorem ct_init0 (l : Launch) (Z : State) (a0 : Array Value) (hw : ∀ d ∈ tables_1, d.before a0 Z = true) (EL : List (String × Nat)) (n0 : Nat) (st va : Addr) (h0 : Heap) (F_st : OObj Z h0 st "java/lang/String" [("java/lang/String", "value", "[B", .null), ("java/lang/String", "coder", "B", (.int (0 : Int32)))]) (A_va : OArr Z h0 va .char []) (ne_st_va : st ≠ va) (hmem : ("java/lang/String", 7) ∈ EL) :
    OCt l Z a0 EL n0 (⟨"java/lang/String", "<init>", "([C)V"⟩ : MethodName) jdk_42_method_3_code 2 none ({ frames := 2, cells := 4, slots := 8, locals := 29 } : Room) [] #[(.ref st), (.ref va)] h0 [st] (fun w vm h => w = none ∧ ∃ b : Addr, OStr Z h st b (och [])) := by
  refine OCt.body (plainFor_of_name pn_S) (ef_sj st va) ?_
  intro p e s m below meth c T hby hml hret hnm hsh P
  refine o_aloadN P (hb hby dsj_0) rfl rfl (pc' := 1) rfl ?_
  refine o_aloadN P (hb hby dsj_1) rfl rfl (pc' := 2) rfl ?_
  refine o_iconst P (0 : Int32) (hb hby dsj_2) rfl (pc' := 3) rfl ?_
  refine o_aloadN P (hb hby dsj_3) rfl rfl (pc' := 4) rfl ?_
  refine o_arrlen P A_va (hb hby dsj_4) (n := (0 : Int32)) rfl (pc' := 5) rfl ?_
  refine o_aconstNull P (hb hby dsj_5) (pc' := 6) rfl ?_
  refine o_callI P (W := 0) (a := st) rfl (ow hw 143 rfl) (ow hw 144 rfl) (ow hw 4 rfl) (ow hw 145 rfl) (by decide) (ct_initV0 l Z a0 hw EL n0 st va h0 F_st hmem) (o_sfS (List.Mem.head _) o_sf0) (by rw [hml]; rfl) (by decide) (by decide) (argsL := [(.ref va), (.int (0 : Int32)), (.int (0 : Int32)), .null]) (rest := []) (lenOf pd_3 rfl) rfl rfl (Nat.le_of_eq rfl) (hb hby dsj_6) (pc' := 9) rfl (by decide) (by decide) ?_
  clear P; intro T h1 v1 P K1 q1
  obtain ⟨rfl, b, G⟩ := q1
  show OG p e below m _ T 9 #[.val (.ref st), .val (.ref va)] []
  exact o_ret0 P hret (hb hby dsj_9) (by decide) (by decide) ⟨rfl, b, G⟩
set_option maxRecDepth 65536 in
set_option maxHeartbeats 40000000 in
theorem ct_init1 (l : Launch) (Z : State) (a0 : Array Value) (hw : ∀ d ∈ tables_1, d.before a0 Z = true) (EL : List (String × Nat)) (n0 : Nat) (st va : Addr) (cs : List Int32) (cv : Int32) (hcs : Sta Z Z.heap "java/lang/String" "COMPACT_STRINGS" "Z" (.int cv)) (hcv : ¬ cv = 0) (h0 : Heap) (F_st : OObj Z h0 st "java/lang/String" [("java/lang/String", "value", "[B", .null), ("java/lang/String", "coder", "B", (.int (0 : Int32)))]) (A_va : OArr Z h0 va .char (och cs)) (ne_st_va : st ≠ va) (hl : OLat cs) (hcap : cs.length ≤ 8) (hpos : 0 < cs.length) :
    OCt l Z a0 EL n0 (⟨"java/lang/String", "<init>", "([C)V"⟩ : MethodName) jdk_42_method_3_code 2 none ({ frames := 3, cells := 4, slots := 8, locals := 52 } : Room) [] #[(.ref st), (.ref va)] h0 [st] (fun w vm h => w = none ∧ ∃ b : Addr, OStr Z h st b (och (cs.map obyte))) := by
  refine OCt.body (plainFor_of_name pn_S) (ef_sj st va) ?_
  intro p e s m below meth c T hby hml hret hnm hsh P
  refine o_aloadN P (hb hby dsj_0) rfl rfl (pc' := 1) rfl ?_
  refine o_aloadN P (hb hby dsj_1) rfl rfl (pc' := 2) rfl ?_
  refine o_iconst P (0 : Int32) (hb hby dsj_2) rfl (pc' := 3) rfl ?_
  refine o_aloadN P (hb hby dsj_3) rfl rfl (pc' := 4) rfl ?_
  refine o_arrlen P A_va (hb hby dsj_4) (n := cs.length.toInt32) (by simp) (pc' := 5) rfl ?_
  refine o_aconstNull P (hb hby dsj_5) (pc' := 6) rfl ?_
  refine o_callI P (W := 0) (a := st) rfl (ow hw 143 rfl) (ow hw 144 rfl) (ow hw 4 rfl) (ow hw 145 rfl) (by decide) (ct_initV1 l Z a0 hw EL n0 st va cs cv hcs hcv h0 F_st A_va ne_st_va hl hcap hpos) (o_sfS (List.Mem.head _) o_sf0) (by rw [hml]; rfl) (by decide) (by decide) (argsL := [(.ref va), (.int (0 : Int32)), (.int cs.length.toInt32), .null]) (rest := []) (lenOf pd_3 rfl) rfl rfl (Nat.le_of_eq rfl) (hb hby dsj_6) (pc' := 9) rfl (by decide) (by decide) ?_
  clear P; intro T h1 v1 P K1 q1
  obtain ⟨rfl, b, G⟩ := q1
  show OG p e below m _ T 9 #[.val (.ref st), .val (.ref va)] []
  exact o_ret0 P hret (hb hby dsj_9) (by decide) (by decide) ⟨rfl, b, G⟩
theorem dsq_0 : decode jdk_42_method_66_code 0 = .ok (.aload_n 0, 1) := by decide +kernel
theorem dsq_1 : decode jdk_42_method_66_code 1 = .ok (.aload_n 1, 1) := by decide +kernel
theorem dsq_2 : decode jdk_42_method_66_code 2 = .ok (.if_acmp .ne 5, 3) := by decide +kernel
theorem dsq_5 : decode jdk_42_method_66_code 5 = .ok (.iconst 1, 1) := by decide +kernel
theorem dsq_6 : decode jdk_42_method_66_code 6 = .ok (.ireturn, 1) := by decide +kernel
theorem dsq_7 : decode jdk_42_method_66_code 7 = .ok (.aload_n 1, 1) := by decide +kernel
theorem dsq_8 : decode jdk_42_method_66_code 8 = .ok (.instanceof 10, 3) := by decide +kernel
theorem dsq_11 : decode jdk_42_method_66_code 11 = .ok (.ifCond .eq 43, 3) := by decide +kernel
theorem dsq_14 : decode jdk_42_method_66_code 14 = .ok (.aload_n 1, 1) := by decide +kernel
theorem dsq_15 : decode jdk_42_method_66_code 15 = .ok (.checkcast 10, 3) := by decide +kernel
theorem dsq_18 : decode jdk_42_method_66_code 18 = .ok (.astore_n 2, 1) := by decide +kernel
theorem dsq_19 : decode jdk_42_method_66_code 19 = .ok (.getstatic 38, 3) := by decide +kernel
theorem dsq_22 : decode jdk_42_method_66_code 22 = .ok (.ifCond .eq 14, 3) := by decide +kernel
theorem dsq_25 : decode jdk_42_method_66_code 25 = .ok (.aload_n 0, 1) := by decide +kernel
theorem dsq_26 : decode jdk_42_method_66_code 26 = .ok (.getfield 15, 3) := by decide +kernel
theorem dsq_29 : decode jdk_42_method_66_code 29 = .ok (.aload_n 2, 1) := by decide +kernel
theorem dsq_30 : decode jdk_42_method_66_code 30 = .ok (.getfield 15, 3) := by decide +kernel
theorem dsq_33 : decode jdk_42_method_66_code 33 = .ok (.if_icmp .ne 21, 3) := by decide +kernel
theorem dsq_36 : decode jdk_42_method_66_code 36 = .ok (.aload_n 0, 1) := by decide +kernel
theorem dsq_37 : decode jdk_42_method_66_code 37 = .ok (.getfield 9, 3) := by decide +kernel
theorem dsq_40 : decode jdk_42_method_66_code 40 = .ok (.aload_n 2, 1) := by decide +kernel
theorem dsq_41 : decode jdk_42_method_66_code 41 = .ok (.getfield 9, 3) := by decide +kernel
theorem dsq_44 : decode jdk_42_method_66_code 44 = .ok (.invokestatic 541, 3) := by decide +kernel
theorem dsq_47 : decode jdk_42_method_66_code 47 = .ok (.ifCond .eq 7, 3) := by decide +kernel
theorem dsq_50 : decode jdk_42_method_66_code 50 = .ok (.iconst 1, 1) := by decide +kernel
theorem dsq_51 : decode jdk_42_method_66_code 51 = .ok (.goto 4, 3) := by decide +kernel
theorem dsq_54 : decode jdk_42_method_66_code 54 = .ok (.iconst 0, 1) := by decide +kernel
theorem dsq_55 : decode jdk_42_method_66_code 55 = .ok (.ireturn, 1) := by decide +kernel
theorem ef_sq (x0 : Addr) (x1 : Addr) (m : MethodId) : entryFrame m #[(.ref x0), (.ref x1)] 3 = mkF m 0 #[.val (.ref x0), .val (.ref x1), .unset] [] := by first | (simp [entryFrame, mkF, argsToLocals, o_catR, o_catN, o_catI, o_catJ, o_catD]; done) | rfl
set_option maxRecDepth 65536 in
set_option maxHeartbeats 40000000 in
theorem ct_eqSame (l : Launch) (Z : State) (a0 : Array Value) (hw : ∀ d ∈ tables_1, d.before a0 Z = true) (EL : List (String × Nat)) (n0 : Nat) (a : Addr) (h0 : Heap) :
    OCt l Z a0 EL n0 (⟨"java/lang/String", "equals", "(Ljava/lang/Object;)Z"⟩ : MethodName) jdk_42_method_66_code 3 (some .boolean) ({ frames := 1, cells := 0, slots := 0, locals := 14 } : Room) [] #[(.ref a), (.ref a)] h0 [] (fun w vm h => w = some (.int 1) ∧ h = h0) := by
  refine OCt.body (plainFor_of_name pn_S) (ef_sq a a) ?_
  intro p e s m below meth c T hby hml hret hnm hsh P
  refine o_aloadN P (hb hby dsq_0) rfl rfl (pc' := 1) rfl ?_
  refine o_aloadN P (hb hby dsq_1) rfl rfl (pc' := 2) rfl ?_
  refine o_acmp P true (hb hby dsq_2) rfl rfl (decide_eq_true rfl) (by decide) (pc' := 5) rfl ?_
  refine o_iconst P (1 : Int32) (hb hby dsq_5) rfl (pc' := 6) rfl ?_
  exact o_retI P hret (by simp) rfl (hb hby dsq_6) (by decide) (by decide) ⟨rfl, rfl⟩
theorem ef_sqn (x0 : Addr) (m : MethodId) : entryFrame m #[(.ref x0), .null] 3 = mkF m 0 #[.val (.ref x0), .val .null, .unset] [] := by first | (simp [entryFrame, mkF, argsToLocals, o_catR, o_catN, o_catI, o_catJ, o_catD]; done) | rfl
set_option maxRecDepth 65536 in
set_option maxHeartbeats 40000000 in
theorem ct_eqNull (l : Launch) (Z : State) (a0 : Array Value) (hw : ∀ d ∈ tables_1, d.before a0 Z = true) (EL : List (String × Nat)) (n0 : Nat) (a : Addr) (h0 : Heap) :
    OCt l Z a0 EL n0 (⟨"java/lang/String", "equals", "(Ljava/lang/Object;)Z"⟩ : MethodName) jdk_42_method_66_code 3 (some .boolean) ({ frames := 1, cells := 0, slots := 0, locals := 14 } : Room) [] #[(.ref a), .null] h0 [] (fun w vm h => w = some (.int 0) ∧ h = h0) := by
  refine OCt.body (plainFor_of_name pn_S) (ef_sqn a) ?_
  intro p e s m below meth c T hby hml hret hnm hsh P
  refine o_aloadN P (hb hby dsq_0) rfl rfl (pc' := 1) rfl ?_
  refine o_aloadN P (hb hby dsq_1) rfl rfl (pc' := 2) rfl ?_
  refine o_acmp P false (hb hby dsq_2) rfl rfl (decide_eq_false nofun) (by decide) (pc' := 7) rfl ?_
  refine o_aloadN P (hb hby dsq_7) rfl rfl (pc' := 8) rfl ?_
  refine o_instNull P (hb hby dsq_8) (pc' := 11) rfl ?_
  refine o_if_eq P (hb hby dsq_11) (by decide) (pc' := 54) (by decide) (pcf := 14) rfl (fun _ => ?_) (fun q => absurd (by decide) q)
  refine o_iconst P (0 : Int32) (hb hby dsq_54) rfl (pc' := 55) rfl ?_
  exact o_retI P hret (by simp) rfl (hb hby dsq_55) (by decide) (by decide) ⟨rfl, rfl⟩
theorem dvc_0 : decode jdk_43_method_3_code 0 = .ok (.iload_n 0, 1) := by decide +kernel
theorem dvc_1 : decode jdk_43_method_3_code 1 = .ok (.sipush 255, 3) := by decide +kernel
theorem dvc_4 : decode jdk_43_method_3_code 4 = .ok (.if_icmp .gt 7, 3) := by decide +kernel
theorem dvc_7 : decode jdk_43_method_3_code 7 = .ok (.iconst 1, 1) := by decide +kernel
theorem dvc_8 : decode jdk_43_method_3_code 8 = .ok (.goto 4, 3) := by decide +kernel
theorem dvc_11 : decode jdk_43_method_3_code 11 = .ok (.iconst 0, 1) := by decide +kernel
theorem dvc_12 : decode jdk_43_method_3_code 12 = .ok (.ireturn, 1) := by decide +kernel
theorem ef_vc (x0 : Int32) (m : MethodId) : entryFrame m #[(.int x0)] 1 = mkF m 0 #[.val (.int x0)] [] := by first | (simp [entryFrame, mkF, argsToLocals, o_catR, o_catN, o_catI, o_catJ, o_catD]; done) | rfl
set_option maxRecDepth 65536 in
set_option maxHeartbeats 40000000 in
theorem ct_canE (l : Launch) (Z : State) (a0 : Array Value) (hw : ∀ d ∈ tables_1, d.before a0 Z = true) (EL : List (String × Nat)) (n0 : Nat) (cc0 : Int32) (hc : ¬ cc0 < 0 ∧ ¬ (255 : Int32) < cc0) (h0 : Heap) :
    OCt l Z a0 EL n0 (⟨"java/lang/StringLatin1", "canEncode", "(C)Z"⟩ : MethodName) jdk_43_method_3_code 1 (some .boolean) ({ frames := 0, cells := 0, slots := 0, locals := 0 } : Room) [] #[(.int cc0)] h0 [] (fun w vm h => w = some (.int 1) ∧ h = h0) := by
  refine OCt.body (plainFor_of_name pn_L1) (ef_vc cc0) ?_
  intro p e s m below meth c T hby hml hret hnm hsh P
  refine o_iloadN P (hb hby dvc_0) rfl (pc' := 1) rfl ?_
  refine o_sipush P (255 : Int32) (hb hby dvc_1) rfl (pc' := 4) rfl ?_
  refine o_icmp_gt P (hb hby dvc_4) (by decide) (pc' := 11) (by decide) (pcf := 7) rfl (fun q => absurd q hc.2) (fun _ => ?_)
  refine o_iconst P (1 : Int32) (hb hby dvc_7) rfl (pc' := 8) rfl ?_
  refine o_goto P (hb hby dvc_8) (by decide) (pc' := 12) (by decide) ?_
  exact o_retI P hret (by simp) rfl (hb hby dvc_12) (by decide) (by decide) ⟨rfl, rfl⟩
theorem dvb_0 : decode jdk_43_method_46_code 0 = .ok (.iconst 1, 1) := by decide +kernel
theorem dvb_1 : decode jdk_43_method_46_code 1 = .ok (.newarray .byte, 2) := by decide +kernel
theorem dvb_3 : decode jdk_43_method_46_code 3 = .ok (.dup, 1) := by decide +kernel
theorem dvb_4 : decode jdk_43_method_46_code 4 = .ok (.iconst 0, 1) := by decide +kernel
theorem dvb_5 : decode jdk_43_method_46_code 5 = .ok (.iload_n 0, 1) := by decide +kernel
theorem dvb_6 : decode jdk_43_method_46_code 6 = .ok (.i2b, 1) := by decide +kernel
theorem dvb_7 : decode jdk_43_method_46_code 7 = .ok (.bastore, 1) := by decide +kernel
theorem dvb_8 : decode jdk_43_method_46_code 8 = .ok (.areturn, 1) := by decide +kernel
theorem ef_vb (x0 : Int32) (m : MethodId) : entryFrame m #[(.int x0)] 1 = mkF m 0 #[.val (.int x0)] [] := by first | (simp [entryFrame, mkF, argsToLocals, o_catR, o_catN, o_catI, o_catJ, o_catD]; done) | rfl
set_option maxRecDepth 65536 in
set_option maxHeartbeats 40000000 in
theorem ct_toB (l : Launch) (Z : State) (a0 : Array Value) (hw : ∀ d ∈ tables_1, d.before a0 Z = true) (EL : List (String × Nat)) (n0 : Nat) (cc0 : Int32) (h0 : Heap) :
    OCt l Z a0 EL n0 (⟨"java/lang/StringLatin1", "toBytes", "(C)[B"⟩ : MethodName) jdk_43_method_46_code 1 (some (.array .byte)) ({ frames := 0, cells := 1, slots := 1, locals := 0 } : Room) [] #[(.int cc0)] h0 [] (fun w vm h => ∃ d : Addr, w = some (.ref d) ∧ h0.size ≤ d ∧ OArr Z h d .byte (och [obyte cc0])) := by
  refine OCt.body (plainFor_of_name pn_L1) (ef_vb cc0) ?_
  intro p e s m below meth c T hby hml hret hnm hsh P
  refine o_iconst P (1 : Int32) (hb hby dvb_0) rfl (pc' := 1) rfl ?_
  have hz_d := P.keep0.1
  refine o_newarr P (cap := 1) (ow hw 16 rfl) (hb hby dvb_1) (by decide) (by decide) (by decide) (pc' := 3) rfl (by decide) (by decide) ?_
  clear P; intro T h1 d P K1 hb_d A_d
  have sz_d := Nat.le_trans hz_d hb_d
  clear hz_d
  clear K1
  replace A_d : OArr Z h1 d .byte [(.int 0)] := A_d
  refine o_dup P (hb hby dvb_3) rfl (pc' := 4) rfl ?_
  refine o_iconst P (0 : Int32) (hb hby dvb_4) rfl (pc' := 5) rfl ?_
  refine o_iloadN P (hb hby dvb_5) rfl (pc' := 6) rfl ?_
  refine o_i2b P (hb hby dvb_6) (pc' := 7) rfl ?_
  refine o_bastore P (v := (.int (obyte cc0))) A_d (List.Mem.head _) (by decide) (of_decide_eq_true rfl) (congrArg Value.int (o_nar_byte cc0)) (hb hby dvb_7) (pc' := 8) rfl ?_
  clear P; clear A_d; intro T h2 P W2 A_d
  clear W2
  replace A_d : OArr Z h2 d .byte [(.int (obyte cc0))] := A_d
  exact o_retA P hret rfl rfl rfl (hb hby dvb_8) (by decide) (by decide) ⟨d, rfl, hsh ▸ sz_d, A_d⟩
theorem dvi_0 : decode jdk_42_method_151_code 0 = .ok (.aload_n 0, 1) := by decide +kernel
theorem dvi_1 : decode jdk_42_method_151_code 1 = .ok (.invokespecial 1, 3) := by decide +kernel
theorem dvi_4 : decode jdk_42_method_151_code 4 = .ok (.aload_n 0, 1) := by decide +kernel
theorem dvi_5 : decode jdk_42_method_151_code 5 = .ok (.aload_n 1, 1) := by decide +kernel
theorem dvi_6 : decode jdk_42_method_151_code 6 = .ok (.putfield 9, 3) := by decide +kernel
theorem dvi_9 : decode jdk_42_method_151_code 9 = .ok (.aload_n 0, 1) := by decide +kernel
theorem dvi_10 : decode jdk_42_method_151_code 10 = .ok (.iload_n 2, 1) := by decide +kernel
theorem dvi_11 : decode jdk_42_method_151_code 11 = .ok (.putfield 15, 3) := by decide +kernel
theorem dvi_14 : decode jdk_42_method_151_code 14 = .ok (.return_, 1) := by decide +kernel
theorem ef_vi (x0 : Addr) (x1 : Addr) (x2 : Int32) (m : MethodId) : entryFrame m #[(.ref x0), (.ref x1), (.int x2)] 3 = mkF m 0 #[.val (.ref x0), .val (.ref x1), .val (.int x2)] [] := by first | (simp [entryFrame, mkF, argsToLocals, o_catR, o_catN, o_catI, o_catJ, o_catD]; done) | rfl
set_option maxRecDepth 65536 in
set_option maxHeartbeats 40000000 in
theorem ct_initB (l : Launch) (Z : State) (a0 : Array Value) (hw : ∀ d ∈ tables_1, d.before a0 Z = true) (EL : List (String × Nat)) (n0 : Nat) (st d : Addr) (h0 : Heap) (F_st : OObj Z h0 st "java/lang/String" [("java/lang/String", "value", "[B", .null), ("java/lang/String", "coder", "B", (.int (0 : Int32)))]) :
    OCt l Z a0 EL n0 (⟨"java/lang/String", "<init>", "([BB)V"⟩ : MethodName) jdk_42_method_151_code 3 none ({ frames := 1, cells := 0, slots := 0, locals := 12 } : Room) [] #[(.ref st), (.ref d), (.int (0 : Int32))] h0 [st] (fun w vm h => w = none ∧ OObj Z h st "java/lang/String" [("java/lang/String", "value", "[B", (.ref d)), ("java/lang/String", "coder", "B", (.int (0 : Int32)))]) := by
  refine OCt.body (plainFor_of_name pn_S) (ef_vi st d ((0 : Int32))) ?_
  intro p e s m below meth c T hby hml hret hnm hsh P
  refine o_aloadN P (hb hby dvi_0) rfl rfl (pc' := 1) rfl ?_
  refine o_initO P (W := 0) (ow hw 21 rfl) (ow hw 22 rfl) (ow hw 23 rfl) (by rw [hml]; rfl) (by decide) (Nat.le_of_eq rfl) (by decide) (hb hby dvi_1) (pc' := 4) rfl ?_
  clear P; intro T P
  refine o_aloadN P (hb hby dvi_4) rfl rfl (pc' := 5) rfl ?_
  refine o_aloadN P (hb hby dvi_5) rfl rfl (pc' := 6) rfl ?_
  refine o_putF P (v' := (.ref d)) (ty := (.array .byte)) (ow hw 24 rfl) Via.refl (F_st.fld 0 rfl) F_st.exa (Or.inr ⟨(ow hw 25 rfl), rfl, hnm⟩) (ow hw 12 rfl) (by decide) rfl rfl (List.Mem.head _) (hb hby dvi_6) (pc' := 9) rfl ?_
  clear P; intro T h1 P W1
  replace F_st : OObj Z h1 st "java/lang/String" [("java/lang/String", "value", "[B", (.ref d)), ("java/lang/String", "coder", "B", (.int (0 : Int32)))] := F_st.put 0 rfl W1
  clear W1
  refine o_aloadN P (hb hby dvi_9) rfl rfl (pc' := 10) rfl ?_
  refine o_iloadN P (hb hby dvi_10) rfl (pc' := 11) rfl ?_
  refine o_putF P (v' := (.int (0 : Int32))) (ty := .byte) (ow hw 26 rfl) Via.refl (F_st.fld 1 rfl) F_st.exa (Or.inr ⟨(ow hw 27 rfl), rfl, hnm⟩) (ow hw 12 rfl) (by decide) rfl rfl (List.Mem.head _) (hb hby dvi_11) (pc' := 14) rfl ?_
  clear P; intro T h2 P W2
  replace F_st : OObj Z h2 st "java/lang/String" [("java/lang/String", "value", "[B", (.ref d)), ("java/lang/String", "coder", "B", (.int (0 : Int32)))] := F_st.put 1 rfl W2
  clear W2
  exact o_ret0 P hret (hb hby dvi_14) (by decide) (by decide) ⟨rfl, F_st⟩
theorem dvo_0 : decode jdk_42_method_139_code 0 = .ok (.getstatic 38, 3) := by decide +kernel
theorem dvo_3 : decode jdk_42_method_139_code 3 = .ok (.ifCond .eq 23, 3) := by decide +kernel
theorem dvo_6 : decode jdk_42_method_139_code 6 = .ok (.iload_n 0, 1) := by decide +kernel
theorem dvo_7 : decode jdk_42_method_139_code 7 = .ok (.invokestatic 1015, 3) := by decide +kernel
theorem dvo_10 : decode jdk_42_method_139_code 10 = .ok (.ifCond .eq 16, 3) := by decide +kernel
theorem dvo_13 : decode jdk_42_method_139_code 13 = .ok (.new 10, 3) := by decide +kernel
theorem dvo_16 : decode jdk_42_method_139_code 16 = .ok (.dup, 1) := by decide +kernel
theorem dvo_17 : decode jdk_42_method_139_code 17 = .ok (.iload_n 0, 1) := by decide +kernel
theorem dvo_18 : decode jdk_42_method_139_code 18 = .ok (.invokestatic 1018, 3) := by decide +kernel
theorem dvo_21 : decode jdk_42_method_139_code 21 = .ok (.iconst 0, 1) := by decide +kernel
theorem dvo_22 : decode jdk_42_method_139_code 22 = .ok (.invokespecial 209, 3) := by decide +kernel
theorem dvo_25 : decode jdk_42_method_139_code 25 = .ok (.areturn, 1) := by decide +kernel
theorem dvo_26 : decode jdk_42_method_139_code 26 = .ok (.new 10, 3) := by decide +kernel
theorem dvo_29 : decode jdk_42_method_139_code 29 = .ok (.dup, 1) := by decide +kernel
theorem dvo_30 : decode jdk_42_method_139_code 30 = .ok (.iload_n 0, 1) := by decide +kernel
theorem dvo_31 : decode jdk_42_method_139_code 31 = .ok (.invokestatic 1021, 3) := by decide +kernel
theorem dvo_34 : decode jdk_42_method_139_code 34 = .ok (.iconst 1, 1) := by decide +kernel
theorem dvo_35 : decode jdk_42_method_139_code 35 = .ok (.invokespecial 209, 3) := by decide +kernel
theorem dvo_38 : decode jdk_42_method_139_code 38 = .ok (.areturn, 1) := by decide +kernel
theorem ef_vo (x0 : Int32) (m : MethodId) : entryFrame m #[(.int x0)] 1 = mkF m 0 #[.val (.int x0)] [] := by first | (simp [entryFrame, mkF, argsToLocals, o_catR, o_catN, o_catI, o_catJ, o_catD]; done) | rfl
set_option maxRecDepth 65536 in
set_option maxHeartbeats 40000000 in
theorem ct_valC (l : Launch) (Z : State) (a0 : Array Value) (hw : ∀ d ∈ tables_1, d.before a0 Z = true) (EL : List (String × Nat)) (n0 : Nat) (cc0 : Int32) (hc : ¬ cc0 < 0 ∧ ¬ (255 : Int32) < cc0) (cv : Int32) (hcs : Sta Z Z.heap "java/lang/String" "COMPACT_STRINGS" "Z" (.int cv)) (hcv : ¬ cv = 0) (h0 : Heap) :
    OCt l Z a0 EL n0 (⟨"java/lang/String", "valueOf", "(C)Ljava/lang/String;"⟩ : MethodName) jdk_42_method_139_code 1 (some (.object "java/lang/String")) ({ frames := 2, cells := 2, slots := 5, locals := 30 } : Room) [] #[(.int cc0)] h0 [] (fun w vm h => ∃ st d : Addr, w = some (.ref st) ∧ h0.size ≤ st ∧ OStr Z h st d (och [obyte cc0])) := by
  refine OCt.body (plainFor_of_name pn_S) (ef_vo cc0) ?_
  intro p e s m below meth c T hby hml hret hnm hsh P
  refine o_getS P (ow hw 6 rfl) Via.refl hcs (hb hby dvo_0) (pc' := 3) rfl ?_
  clear P; intro T P
  refine o_if_eq P (hb hby dvo_3) (by decide) (pc' := 26) (by decide) (pcf := 6) rfl (fun q => absurd q hcv) (fun _ => ?_)
  refine o_iloadN P (hb hby dvo_6) rfl (pc' := 7) rfl ?_
  refine o_callS P (W := 0) (ow hw 7 rfl) (ow hw 8 rfl) (ow hw 9 rfl) (ow hw 10 rfl) (by decide) (ct_canE l Z a0 hw EL n0 cc0 hc h0) o_sf0 (by rw [hml]; rfl) (by decide) (by decide) (argsL := [(.int cc0)]) (rest := []) (lenOf pd_4 rfl) rfl rfl (Nat.le_of_eq rfl) (hb hby dvo_7) (pc' := 10) rfl (by decide) (by decide) ?_
  clear P; intro T h1 v1 P K1 q1
  obtain ⟨rfl, rfl⟩ := q1; clear K1
  show OG p e below m _ T 10 #[.val (.int cc0)] [(.int (1 : Int32))]
  refine o_if_eq P (hb hby dvo_10) (by decide) (pc' := 26) (by decide) (pcf := 13) rfl (fun q => absurd q (by decide)) (fun _ => ?_)
  have hz_st := P.keep0.1
  refine o_new P [("java/lang/String", "value", "[B", .null), ("java/lang/String", "coder", "B", (.int (0 : Int32)))] (ow hw 11 rfl) (ow hw 12 rfl) (ow hw 4 rfl) (OLd.cons (Or.inr (ow hw 25 rfl)) (ty := (.array .byte)) (by decide) rfl (OLd.cons (Or.inr (ow hw 27 rfl)) (ty := .byte) (by decide) rfl OLd.nil)) (by decide +kernel) (hb hby dvo_13) (pc' := 16) rfl (by decide) (by decide) ?_
  clear P; intro T h2 st P K2 hb_st F_st
  have sz_st := Nat.le_trans hz_st hb_st
  clear hz_st
  clear K2
  refine o_dup P (hb hby dvo_16) rfl (pc' := 17) rfl ?_
  refine o_iloadN P (hb hby dvo_17) rfl (pc' := 18) rfl ?_
  refine o_callS P (W := 2) (ow hw 13 rfl) (ow hw 14 rfl) (ow hw 9 rfl) (ow hw 15 rfl) (by decide) (ct_toB l Z a0 hw EL n0 cc0 h2) o_sf0 (by rw [hml]; rfl) (by decide) (by decide) (argsL := [(.int cc0)]) (rest := [(.ref st), (.ref st)]) (lenOf pd_5 rfl) rfl rfl (Nat.le_of_eq rfl) (hb hby dvo_18) (pc' := 21) rfl (by decide) (by decide) ?_
  clear P; intro T h3 v3 P K3 q3
  obtain ⟨d, rfl, g1, A_d⟩ := q3
  have ne_st_d : st ≠ d := Nat.ne_of_lt (Nat.lt_of_lt_of_le F_st.lt g1)
  replace F_st := F_st.keep K3 nin0
  show OG p e below m _ T 21 #[.val (.int cc0)] [(.ref d), (.ref st), (.ref st)]
  refine o_iconst P (0 : Int32) (hb hby dvo_21) rfl (pc' := 22) rfl ?_
  refine o_callI P (W := 1) (a := st) rfl (ow hw 17 rfl) (ow hw 18 rfl) (ow hw 4 rfl) (ow hw 20 rfl) (by decide) (ct_initB l Z a0 hw EL n0 st d h3 F_st) (o_sfS (List.Mem.head _) o_sf0) (by rw [hml]; rfl) (by decide) (by decide) (argsL := [(.ref d), (.int (0 : Int32))]) (rest := [(.ref st)]) (lenOf pd_6 rfl) rfl rfl (Nat.le_of_eq rfl) (hb hby dvo_22) (pc' := 25) rfl (by decide) (by decide) ?_
  clear P; intro T h4 v4 P K4 q4
  obtain ⟨rfl, F'⟩ := q4
  replace A_d := A_d.keep K4 (ninS (Ne.symm ne_st_d) nin0)
  show OG p e below m _ T 25 #[.val (.int cc0)] [(.ref st)]
  exact o_retA P hret rfl rfl rfl (hb hby dvo_25) (by decide) (by decide) ⟨st, d, rfl, hsh ▸ sz_st, F', A_d⟩
theorem pn_V : plainName "com/example/patient_crawler/patientcrawler/Validators" = true := by first | (simp [plainName, overriddenIn]; done) | decide +kernel
theorem pn_L : plainName "com/example/patient_crawler/patientcrawler/ValidatorsDatedPinLaw" = true := by first | (simp [plainName, overriddenIn]; done) | decide +kernel
theorem pn_G : plainName "java/lang/Long" = true := by first | (simp [plainName, overriddenIn]; done) | decide +kernel
theorem pn_N : plainName "java/lang/Number" = true := by first | (simp [plainName, overriddenIn]; done) | decide +kernel
theorem pn_O : plainName "java/util/Optional" = true := by first | (simp [plainName, overriddenIn]; done) | decide +kernel
theorem pn_OL : plainName "java/util/OptionalLong" = true := by first | (simp [plainName, overriddenIn]; done) | decide +kernel
theorem dim_0 : decode prog_37_method_10_code 0 = .ok (.lload_n 0, 1) := by decide +kernel
theorem dim_1 : decode prog_37_method_10_code 1 = .ok (.getstatic 127, 3) := by decide +kernel
theorem dim_4 : decode prog_37_method_10_code 4 = .ok (.lcmp, 1) := by decide +kernel
theorem dim_5 : decode prog_37_method_10_code 5 = .ok (.ifCond .lt 15, 3) := by decide +kernel
theorem dim_8 : decode prog_37_method_10_code 8 = .ok (.lload_n 0, 1) := by decide +kernel
theorem dim_9 : decode prog_37_method_10_code 9 = .ok (.getstatic 131, 3) := by decide +kernel
theorem dim_12 : decode prog_37_method_10_code 12 = .ok (.lcmp, 1) := by decide +kernel
theorem dim_13 : decode prog_37_method_10_code 13 = .ok (.ifCond .gt 7, 3) := by decide +kernel
theorem dim_16 : decode prog_37_method_10_code 16 = .ok (.iconst 1, 1) := by decide +kernel
theorem dim_17 : decode prog_37_method_10_code 17 = .ok (.goto 4, 3) := by decide +kernel
theorem dim_20 : decode prog_37_method_10_code 20 = .ok (.iconst 0, 1) := by decide +kernel
theorem dim_21 : decode prog_37_method_10_code 21 = .ok (.ireturn, 1) := by decide +kernel
theorem ef_im (x0 : Int64) (m : MethodId) : entryFrame m #[(.long x0)] 2 = mkF m 0 #[.val (.long x0), .second] [] := by first | (simp [entryFrame, mkF, argsToLocals, o_catR, o_catN, o_catI, o_catJ, o_catD]; done) | rfl
set_option maxRecDepth 65536 in
set_option maxHeartbeats 40000000 in
theorem ct_imf (l : Launch) (Z : State) (a0 : Array Value) (hw : ∀ d ∈ tables_1, d.before a0 Z = true) (EL : List (String × Nat)) (n0 : Nat) (x : Int64) (hfd : Sta Z Z.heap "com/example/patient_crawler/patientcrawler/Validators" "FIRST_DATE" "J" (.long (-62167219200 : Int64))) (hld : Sta Z Z.heap "com/example/patient_crawler/patientcrawler/Validators" "LAST_DATE" "J" (.long (253402300799 : Int64))) (hx1 : ¬ x < (-62167219200 : Int64)) (hx2 : ¬ (253402300799 : Int64) < x) (h0 : Heap) :
    OCt l Z a0 EL n0 (⟨"com/example/patient_crawler/patientcrawler/Validators", "imfFixdateNames", "(J)Z"⟩ : MethodName) prog_37_method_10_code 2 (some .boolean) ({ frames := 0, cells := 0, slots := 0, locals := 0 } : Room) [] #[(.long x)] h0 [] (fun w vm h => w = some (.int 1) ∧ h = h0) := by
  refine OCt.body (plainFor_of_name pn_V) (ef_im x) ?_
  intro p e s m below meth c T hby hml hret hnm hsh P
  refine o_lloadN P (hb hby dim_0) rfl (pc' := 1) rfl ?_
  refine o_getS P (ow hw 35 rfl) Via.refl hfd (hb hby dim_1) (pc' := 4) rfl ?_
  clear P; intro T P
  refine o_lcmp P (hb hby dim_4) (pc' := 5) rfl ?_
  refine o_if_lt P (hb hby dim_5) (by decide) (pc' := 20) (by decide) (pcf := 8) rfl (fun q => absurd q (fun q => hx1 ((lw_lt _ _).mp q))) (fun _ => ?_)
  refine o_lloadN P (hb hby dim_8) rfl (pc' := 9) rfl ?_
  refine o_getS P (ow hw 37 rfl) Via.refl hld (hb hby dim_9) (pc' := 12) rfl ?_
  clear P; intro T P
  refine o_lcmp P (hb hby dim_12) (pc' := 13) rfl ?_
  refine o_if_gt P (hb hby dim_13) (by decide) (pc' := 20) (by decide) (pcf := 16) rfl (fun q => absurd q (fun q => hx2 ((lw_gt _ _).mp q))) (fun _ => ?_)
  refine o_iconst P (1 : Int32) (hb hby dim_16) rfl (pc' := 17) rfl ?_
  refine o_goto P (hb hby dim_17) (by decide) (pc' := 21) (by decide) ?_
  exact o_retI P hret (by simp) rfl (hb hby dim_21) (by decide) (by decide) ⟨rfl, rfl⟩
theorem dnb_0 : decode jdk_18_method_1_code 0 = .ok (.aload_n 0, 1) := by decide +kernel
theorem dnb_1 : decode jdk_18_method_1_code 1 = .ok (.invokespecial 1, 3) := by decide +kernel
theorem dnb_4 : decode jdk_18_method_1_code 4 = .ok (.return_, 1) := by decide +kernel
theorem ef_nb (x0 : Addr) (m : MethodId) : entryFrame m #[(.ref x0)] 1 = mkF m 0 #[.val (.ref x0)] [] := by first | (simp [entryFrame, mkF, argsToLocals, o_catR, o_catN, o_catI, o_catJ, o_catD]; done) | rfl
set_option maxRecDepth 65536 in
set_option maxHeartbeats 40000000 in
theorem ct_num (l : Launch) (Z : State) (a0 : Array Value) (hw : ∀ d ∈ tables_1, d.before a0 Z = true) (EL : List (String × Nat)) (n0 : Nat) (a : Addr) (h0 : Heap) :
    OCt l Z a0 EL n0 (⟨"java/lang/Number", "<init>", "()V"⟩ : MethodName) jdk_18_method_1_code 1 none ({ frames := 1, cells := 0, slots := 0, locals := 12 } : Room) [] #[(.ref a)] h0 [] (fun w vm h => w = none ∧ h = h0) := by
  refine OCt.body (plainFor_of_name pn_N) (ef_nb a) ?_
  intro p e s m below meth c T hby hml hret hnm hsh P
  refine o_aloadN P (hb hby dnb_0) rfl rfl (pc' := 1) rfl ?_
  refine o_initO P (W := 0) (ow hw 137 rfl) (ow hw 22 rfl) (ow hw 23 rfl) (by rw [hml]; rfl) (by decide) (Nat.le_of_eq rfl) (by decide) (hb hby dnb_1) (pc' := 4) rfl ?_
  clear P; intro T P
  exact o_ret0 P hret (hb hby dnb_4) (by decide) (by decide) ⟨rfl, rfl⟩
theorem dgi_0 : decode jdk_35_method_26_code 0 = .ok (.aload_n 0, 1) := by decide +kernel
theorem dgi_1 : decode jdk_35_method_26_code 1 = .ok (.invokespecial 270, 3) := by decide +kernel
theorem dgi_4 : decode jdk_35_method_26_code 4 = .ok (.aload_n 0, 1) := by decide +kernel
theorem dgi_5 : decode jdk_35_method_26_code 5 = .ok (.lload_n 1, 1) := by decide +kernel
theorem dgi_6 : decode jdk_35_method_26_code 6 = .ok (.putfield 273, 3) := by decide +kernel
theorem dgi_9 : decode jdk_35_method_26_code 9 = .ok (.return_, 1) := by decide +kernel
theorem ef_gi (x0 : Addr) (x1 : Int64) (m : MethodId) : entryFrame m #[(.ref x0), (.long x1)] 3 = mkF m 0 #[.val (.ref x0), .val (.long x1), .second] [] := by first | (simp [entryFrame, mkF, argsToLocals, o_catR, o_catN, o_catI, o_catJ, o_catD]; done) | rfl
set_option maxRecDepth 65536 in
set_option maxHeartbeats 40000000 in
theorem ct_lini (l : Launch) (Z : State) (a0 : Array Value) (hw : ∀ d ∈ tables_1, d.before a0 Z = true) (EL : List (String × Nat)) (n0 : Nat) (a : Addr) (x : Int64) (h0 : Heap) (F_a : OObj Z h0 a "java/lang/Long" [("java/lang/Long", "value", "J", (.long (0 : Int64)))]) :
    OCt l Z a0 EL n0 (⟨"java/lang/Long", "<init>", "(J)V"⟩ : MethodName) jdk_35_method_26_code 3 none ({ frames := 2, cells := 0, slots := 0, locals := 24 } : Room) [] #[(.ref a), (.long x)] h0 [a] (fun w vm h => w = none ∧ OObj Z h a "java/lang/Long" [("java/lang/Long", "value", "J", (.long x))]) := by
  refine OCt.body (plainFor_of_name pn_G) (ef_gi a x) ?_
  intro p e s m below meth c T hby hml hret hnm hsh P
  refine o_aloadN P (hb hby dgi_0) rfl rfl (pc' := 1) rfl ?_
  refine o_callI P (W := 0) (a := a) rfl (ow hw 131 rfl) (ow hw 132 rfl) (ow hw 135 rfl) (ow hw 136 rfl) (by decide) (ct_num l Z a0 hw EL n0 a h0) o_sf0 (by rw [hml]; rfl) (by decide) (by decide) (argsL := []) (rest := []) (lenOf pd_7 rfl) rfl rfl (Nat.le_of_eq rfl) (hb hby dgi_1) (pc' := 4) rfl (by decide) (by decide) ?_
  clear P; intro T h1 v1 P K1 q1
  obtain ⟨rfl, rfl⟩ := q1; clear K1
  show OG p e below m _ T 4 #[.val (.ref a), .val (.long x), .second] []
  refine o_aloadN P (hb hby dgi_4) rfl rfl (pc' := 5) rfl ?_
  refine o_lloadN P (hb hby dgi_5) rfl (pc' := 6) rfl ?_
  refine o_putF P (v' := (.long x)) (ty := .long) (ow hw 98 rfl) Via.refl (F_a.fld 0 rfl) F_a.exa (Or.inr ⟨(ow hw 99 rfl), rfl, hnm⟩) (ow hw 126 rfl) (by decide) rfl rfl (List.Mem.head _) (hb hby dgi_6) (pc' := 9) rfl ?_
  clear P; intro T h2 P W2
  replace F_a : OObj Z h2 a "java/lang/Long" [("java/lang/Long", "value", "J", (.long x))] := F_a.put 0 rfl W2
  clear W2
  exact o_ret0 P hret (hb hby dgi_9) (by decide) (by decide) ⟨rfl, F_a⟩
theorem dgv_0 : decode jdk_35_method_24_code 0 = .ok (.sipush 128, 3) := by decide +kernel
theorem dgv_3 : decode jdk_35_method_24_code 3 = .ok (.istore_n 2, 1) := by decide +kernel
theorem dgv_4 : decode jdk_35_method_24_code 4 = .ok (.lload_n 0, 1) := by decide +kernel
theorem dgv_5 : decode jdk_35_method_24_code 5 = .ok (.ldc2_w 230, 3) := by decide +kernel
theorem dgv_8 : decode jdk_35_method_24_code 8 = .ok (.lcmp, 1) := by decide +kernel
theorem dgv_9 : decode jdk_35_method_24_code 9 = .ok (.ifCond .lt 22, 3) := by decide +kernel
theorem dgv_12 : decode jdk_35_method_24_code 12 = .ok (.lload_n 0, 1) := by decide +kernel
theorem dgv_13 : decode jdk_35_method_24_code 13 = .ok (.ldc2_w 232, 3) := by decide +kernel
theorem dgv_16 : decode jdk_35_method_24_code 16 = .ok (.lcmp, 1) := by decide +kernel
theorem dgv_17 : decode jdk_35_method_24_code 17 = .ok (.ifCond .gt 14, 3) := by decide +kernel
theorem dgv_20 : decode jdk_35_method_24_code 20 = .ok (.getstatic 234, 3) := by decide +kernel
theorem dgv_23 : decode jdk_35_method_24_code 23 = .ok (.lload_n 0, 1) := by decide +kernel
theorem dgv_24 : decode jdk_35_method_24_code 24 = .ok (.l2i, 1) := by decide +kernel
theorem dgv_25 : decode jdk_35_method_24_code 25 = .ok (.sipush 128, 3) := by decide +kernel
theorem dgv_28 : decode jdk_35_method_24_code 28 = .ok (.iadd, 1) := by decide +kernel
theorem dgv_29 : decode jdk_35_method_24_code 29 = .ok (.aaload, 1) := by decide +kernel
theorem dgv_30 : decode jdk_35_method_24_code 30 = .ok (.areturn, 1) := by decide +kernel
theorem dgv_31 : decode jdk_35_method_24_code 31 = .ok (.new 1, 3) := by decide +kernel
theorem dgv_34 : decode jdk_35_method_24_code 34 = .ok (.dup, 1) := by decide +kernel
theorem dgv_35 : decode jdk_35_method_24_code 35 = .ok (.lload_n 0, 1) := by decide +kernel
theorem dgv_36 : decode jdk_35_method_24_code 36 = .ok (.invokespecial 240, 3) := by decide +kernel
theorem dgv_39 : decode jdk_35_method_24_code 39 = .ok (.areturn, 1) := by decide +kernel
theorem ef_gv (x0 : Int64) (m : MethodId) : entryFrame m #[(.long x0)] 3 = mkF m 0 #[.val (.long x0), .second, .unset] [] := by first | (simp [entryFrame, mkF, argsToLocals, o_catR, o_catN, o_catI, o_catJ, o_catD]; done) | rfl
set_option maxRecDepth 65536 in
set_option maxHeartbeats 40000000 in
theorem ct_lval (l : Launch) (Z : State) (a0 : Array Value) (hw : ∀ d ∈ tables_1, d.before a0 Z = true) (EL : List (String × Nat)) (n0 : Nat) (x : Int64) (ca : Addr) (cc : Cell) (hca : Sta Z Z.heap "java/lang/Long$LongCache" "cache" "[Ljava/lang/Long;" (.ref ca)) (hbx : Bxs Z ca cc "java/lang/Long" "J" (256 : Int32) (fun j => .long (j - 128).toInt64)) (h0 : Heap) :
    OCt l Z a0 EL n0 (⟨"java/lang/Long", "valueOf", "(J)Ljava/lang/Long;"⟩ : MethodName) jdk_35_method_24_code 3 (some (.object "java/lang/Long")) ({ frames := 3, cells := 1, slots := 1, locals := 39 } : Room) [] #[(.long x)] h0 [] (fun w vm h => ∃ a : Addr, w = some (.ref a) ∧ OObj Z h a "java/lang/Long" [("java/lang/Long", "value", "J", (.long x))]) := by
  refine OCt.body (plainFor_of_name pn_G) (ef_gv x) ?_
  intro p e s m below meth c T hby hml hret hnm hsh P
  refine o_sipush P (128 : Int32) (hb hby dgv_0) rfl (pc' := 3) rfl ?_
  refine o_istoreN P (hb hby dgv_3) (L' := #[.val (.long x), .second, .val (.int (128 : Int32))]) rfl (pc' := 4) rfl ?_
  refine o_lloadN P (hb hby dgv_4) rfl (pc' := 5) rfl ?_
  refine o_ldc2L P (ow hw 45 rfl) (hb hby dgv_5) (pc' := 8) rfl ?_
  refine o_lcmp P (hb hby dgv_8) (pc' := 9) rfl ?_
  refine o_if_lt P (hb hby dgv_9) (by decide) (pc' := 31) (by decide) (pcf := 12) rfl (fun hl => ?_) (fun hl => ?_)
  · have hz_a := P.keep0.1
    refine o_new P [("java/lang/Long", "value", "J", (.long (0 : Int64)))] (ow hw 125 rfl) (ow hw 126 rfl) (ow hw 43 rfl) (OLd.cons (Or.inr (ow hw 99 rfl)) (ty := .long) (by decide) rfl OLd.nil) (by decide +kernel) (hb hby dgv_31) (pc' := 34) rfl (by decide) (by decide) ?_
    clear P; intro T h1 a P K1 hb_a F_a
    have sz_a := Nat.le_trans hz_a hb_a
    clear hz_a
    clear K1
    refine o_dup P (hb hby dgv_34) rfl (pc' := 35) rfl ?_
    refine o_lloadN P (hb hby dgv_35) rfl (pc' := 36) rfl ?_
    refine o_callI P (W := 1) (a := a) rfl (ow hw 127 rfl) (ow hw 128 rfl) (ow hw 43 rfl) (ow hw 130 rfl) (by decide) (ct_lini l Z a0 hw EL n0 a x h1 F_a) (o_sfS (List.Mem.head _) o_sf0) (by rw [hml]; rfl) (by decide) (by decide) (argsL := [(.long x)]) (rest := [(.ref a)]) (lenOf pd_8 rfl) rfl rfl (Nat.le_of_eq rfl) (hb hby dgv_36) (pc' := 39) rfl (by decide) (by decide) ?_
    clear P; intro T h2 v2 P K2 q2
    obtain ⟨rfl, F'⟩ := q2
    show OG p e below m _ T 39 #[.val (.long x), .second, .val (.int (128 : Int32))] [(.ref a)]
    exact o_retA P hret rfl rfl rfl (hb hby dgv_39) (by decide) (by decide) ⟨a, rfl, F'⟩
  · refine o_lloadN P (hb hby dgv_12) rfl (pc' := 13) rfl ?_
    refine o_ldc2L P (ow hw 46 rfl) (hb hby dgv_13) (pc' := 16) rfl ?_
    refine o_lcmp P (hb hby dgv_16) (pc' := 17) rfl ?_
    refine o_if_gt P (hb hby dgv_17) (by decide) (pc' := 31) (by decide) (pcf := 20) rfl (fun hg => ?_) (fun hg => ?_)
    · have hz_a := P.keep0.1
      refine o_new P [("java/lang/Long", "value", "J", (.long (0 : Int64)))] (ow hw 125 rfl) (ow hw 126 rfl) (ow hw 43 rfl) (OLd.cons (Or.inr (ow hw 99 rfl)) (ty := .long) (by decide) rfl OLd.nil) (by decide +kernel) (hb hby dgv_31) (pc' := 34) rfl (by decide) (by decide) ?_
      clear P; intro T h1 a P K1 hb_a F_a
      have sz_a := Nat.le_trans hz_a hb_a
      clear hz_a
      clear K1
      refine o_dup P (hb hby dgv_34) rfl (pc' := 35) rfl ?_
      refine o_lloadN P (hb hby dgv_35) rfl (pc' := 36) rfl ?_
      refine o_callI P (W := 1) (a := a) rfl (ow hw 127 rfl) (ow hw 128 rfl) (ow hw 43 rfl) (ow hw 130 rfl) (by decide) (ct_lini l Z a0 hw EL n0 a x h1 F_a) (o_sfS (List.Mem.head _) o_sf0) (by rw [hml]; rfl) (by decide) (by decide) (argsL := [(.long x)]) (rest := [(.ref a)]) (lenOf pd_8 rfl) rfl rfl (Nat.le_of_eq rfl) (hb hby dgv_36) (pc' := 39) rfl (by decide) (by decide) ?_
      clear P; intro T h2 v2 P K2 q2
      obtain ⟨rfl, F'⟩ := q2
      show OG p e below m _ T 39 #[.val (.long x), .second, .val (.int (128 : Int32))] [(.ref a)]
      exact o_retA P hret rfl rfl rfl (hb hby dgv_39) (by decide) (by decide) ⟨a, rfl, F'⟩
    · refine o_getS P (ow hw 47 rfl) Via.refl hca (hb hby dgv_20) (pc' := 23) rfl ?_
      clear P; intro T P
      refine o_lloadN P (hb hby dgv_23) rfl (pc' := 24) rfl ?_
      refine o_l2i P (hb hby dgv_24) (pc' := 25) rfl ?_
      refine o_sipush P (128 : Int32) (hb hby dgv_25) rfl (pc' := 28) rfl ?_
      refine o_iadd P (hb hby dgv_28) (pc' := 29) rfl ?_
      have hlo : -128 ≤ x.toInt := by have : ¬ x < (-128 : Int64) := fun q => hl ((lw_lt x (-128)).mpr q); rw [Int64.lt_iff_toInt_lt] at this; have z : (-128 : Int64).toInt = -128 := rfl; omega
      have hhi : x.toInt ≤ 127 := by have : ¬ (127 : Int64) < x := fun q => hg ((lw_gt x 127).mpr q); rw [Int64.lt_iff_toInt_lt] at this; have z : (127 : Int64).toInt = 127 := rfl; omega
      have hi0 : (((x.toInt32) + (128 : Int32))).toInt = x.toInt + 128 := by have := c_iadd (x.toInt32) 128; have := c_l2i x; have := rng32 (x.toInt32 + 128); have := rng32 x.toInt32; have z : (128 : Int32).toInt = 128 := rfl; omega
      have hin : ¬ (((x.toInt32) + (128 : Int32)) < 0 ∨ cc.slots.size ≤ (((x.toInt32) + (128 : Int32))).toNatClampNeg) := by
        rw [hbx.2.1, Int32.lt_iff_toInt_lt, show (256 : Int32).toNatClampNeg = 256 from rfl]; have z : (0 : Int32).toInt = 0 := rfl; simp only [Int32.toNatClampNeg]; omega
      obtain ⟨bx, hb1, hb2, hb3⟩ := hbx.2.2.2 _ hin
      have hO := P.old
      have hval : (((((x.toInt32) + (128 : Int32))) - 128).toInt64) = x := by
        apply Int64.toInt_inj.mp; rw [c_i2l]; have := c_isub (((x.toInt32) + (128 : Int32))) 128; have := rng32 ((((x.toInt32) + (128 : Int32))) - 128); have z : (128 : Int32).toInt = 128 := rfl; omega
      simp only [hval] at hb3
      refine OG.st (T' := T) (pc' := 30) (L' := #[.val (.long x), .second, .val (.int (128 : Int32))]) (S' := [.ref bx]) (fun t q => ?_) ?_
      · obtain ⟨locs, X, hx, hlk, hS, hZ, hown, eT, r⟩ := P
        have Ar := hbx.1.ext hO.2
        exact X.aaload hx (by rw [eT]; exact Ar.1) (State.isArrayOf_alike hZ.alike Ar.2.1) rfl Ar.2.2 hin hb1 (g := mkF m 29 #[.val (.long x), .second, .val (.int (128 : Int32))] [(.int ((x.toInt32) + (128 : Int32))), (.ref ca)]) rfl rfl (hb hby dgv_29) t q
      · exact o_retA P hret rfl rfl rfl (hb hby dgv_30) (by decide) (by decide) ⟨bx, rfl, (OObj.one hb2 hb3).ext hO.2⟩
theorem dvx_0 : decode prog_37_method_2_code 0 = .ok (.aload_n 0, 1) := by decide +kernel
theorem dvx_1 : decode prog_37_method_2_code 1 = .ok (.invokespecial 11, 3) := by decide +kernel
theorem dvx_4 : decode prog_37_method_2_code 4 = .ok (.aload_n 0, 1) := by decide +kernel
theorem dvx_5 : decode prog_37_method_2_code 5 = .ok (.aload_n 1, 1) := by decide +kernel
theorem dvx_6 : decode prog_37_method_2_code 6 = .ok (.putfield 16, 3) := by decide +kernel
theorem dvx_9 : decode prog_37_method_2_code 9 = .ok (.aload_n 0, 1) := by decide +kernel
theorem dvx_10 : decode prog_37_method_2_code 10 = .ok (.aload_n 2, 1) := by decide +kernel
theorem dvx_11 : decode prog_37_method_2_code 11 = .ok (.putfield 20, 3) := by decide +kernel
theorem dvx_14 : decode prog_37_method_2_code 14 = .ok (.aload_n 0, 1) := by decide +kernel
theorem dvx_15 : decode prog_37_method_2_code 15 = .ok (.aload_n 3, 1) := by decide +kernel
theorem dvx_16 : decode prog_37_method_2_code 16 = .ok (.putfield 23, 3) := by decide +kernel
theorem dvx_19 : decode prog_37_method_2_code 19 = .ok (.return_, 1) := by decide +kernel
theorem ef_vx (a : Addr) (v : Value) (hv : v.category = 1) (g : Addr) (m : MethodId) : entryFrame m #[.ref a, v, .null, .ref g] 4 = mkF m 0 #[.val (.ref a), .val v, .val .null, .val (.ref g)] [] := by first | (simp [entryFrame, mkF, argsToLocals, o_catR, o_catN, o_catI, o_catJ, o_catD, hv]; done) | rfl
set_option maxRecDepth 65536 in
set_option maxHeartbeats 40000000 in
theorem ct_vini (l : Launch) (Z : State) (a0 : Array Value) (hw : ∀ d ∈ tables_1, d.before a0 Z = true) (EL : List (String × Nat)) (n0 : Nat) (a : Addr) (v : Value) (g : Addr) (hv : v.isRef = true) (hvc : v.category = 1) (h0 : Heap) (F_a : OObj Z h0 a "com/example/patient_crawler/patientcrawler/Validators" [("com/example/patient_crawler/patientcrawler/Validators", "etag", "Ljava/lang/String;", .null), ("com/example/patient_crawler/patientcrawler/Validators", "lastModified", "Ljava/lang/String;", .null), ("com/example/patient_crawler/patientcrawler/Validators", "lastModifiedSecond", "Ljava/lang/Long;", .null)]) :
    OCt l Z a0 EL n0 (⟨"com/example/patient_crawler/patientcrawler/Validators", "<init>", "(Ljava/lang/String;Ljava/lang/String;Ljava/lang/Long;)V"⟩ : MethodName) prog_37_method_2_code 4 none ({ frames := 1, cells := 0, slots := 0, locals := 12 } : Room) [] #[(.ref a), v, .null, (.ref g)] h0 [a] (fun w vm h => w = none ∧ OObj Z h a "com/example/patient_crawler/patientcrawler/Validators" [("com/example/patient_crawler/patientcrawler/Validators", "etag", "Ljava/lang/String;", v), ("com/example/patient_crawler/patientcrawler/Validators", "lastModified", "Ljava/lang/String;", .null), ("com/example/patient_crawler/patientcrawler/Validators", "lastModifiedSecond", "Ljava/lang/Long;", (.ref g))]) := by
  refine OCt.body (plainFor_of_name pn_V) (ef_vx a v hvc g) ?_
  intro p e s m below meth c T hby hml hret hnm hsh P
  refine o_aloadN P (hb hby dvx_0) rfl rfl (pc' := 1) rfl ?_
  refine o_initO P (W := 0) (ow hw 52 rfl) (ow hw 22 rfl) (ow hw 23 rfl) (by rw [hml]; rfl) (by decide) (Nat.le_of_eq rfl) (by decide) (hb hby dvx_1) (pc' := 4) rfl ?_
  clear P; intro T P
  refine o_aloadN P (hb hby dvx_4) rfl rfl (pc' := 5) rfl ?_
  refine o_aloadN P (hb hby dvx_5) rfl hv (pc' := 6) rfl ?_
  refine o_putF P (v' := v) (ty := (.object "java/lang/String")) (ow hw 53 rfl) Via.refl (F_a.fld 0 rfl) F_a.exa (Or.inr ⟨(ow hw 54 rfl), rfl, hnm⟩) (ow hw 40 rfl) (by decide) rfl (o_fitsRef hv) (List.Mem.head _) (hb hby dvx_6) (pc' := 9) rfl ?_
  clear P; intro T h1 P W1
  replace F_a : OObj Z h1 a "com/example/patient_crawler/patientcrawler/Validators" [("com/example/patient_crawler/patientcrawler/Validators", "etag", "Ljava/lang/String;", v), ("com/example/patient_crawler/patientcrawler/Validators", "lastModified", "Ljava/lang/String;", .null), ("com/example/patient_crawler/patientcrawler/Validators", "lastModifiedSecond", "Ljava/lang/Long;", .null)] := F_a.put 0 rfl W1
  clear W1
  refine o_aloadN P (hb hby dvx_9) rfl rfl (pc' := 10) rfl ?_
  refine o_aloadN P (hb hby dvx_10) rfl rfl (pc' := 11) rfl ?_
  refine o_putF P (v' := .null) (ty := (.object "java/lang/String")) (ow hw 55 rfl) Via.refl (F_a.fld 1 rfl) F_a.exa (Or.inr ⟨(ow hw 56 rfl), rfl, hnm⟩) (ow hw 40 rfl) (by decide) rfl rfl (List.Mem.head _) (hb hby dvx_11) (pc' := 14) rfl ?_
  clear P; intro T h2 P W2
  replace F_a : OObj Z h2 a "com/example/patient_crawler/patientcrawler/Validators" [("com/example/patient_crawler/patientcrawler/Validators", "etag", "Ljava/lang/String;", v), ("com/example/patient_crawler/patientcrawler/Validators", "lastModified", "Ljava/lang/String;", .null), ("com/example/patient_crawler/patientcrawler/Validators", "lastModifiedSecond", "Ljava/lang/Long;", .null)] := F_a.put 1 rfl W2
  clear W2
  refine o_aloadN P (hb hby dvx_14) rfl rfl (pc' := 15) rfl ?_
  refine o_aloadN P (hb hby dvx_15) rfl rfl (pc' := 16) rfl ?_
  refine o_putF P (v' := (.ref g)) (ty := (.object "java/lang/Long")) (ow hw 57 rfl) Via.refl (F_a.fld 2 rfl) F_a.exa (Or.inr ⟨(ow hw 58 rfl), rfl, hnm⟩) (ow hw 40 rfl) (by decide) rfl rfl (List.Mem.head _) (hb hby dvx_16) (pc' := 19) rfl ?_
  clear P; intro T h3 P W3
  replace F_a : OObj Z h3 a "com/example/patient_crawler/patientcrawler/Validators" [("com/example/patient_crawler/patientcrawler/Validators", "etag", "Ljava/lang/String;", v), ("com/example/patient_crawler/patientcrawler/Validators", "lastModified", "Ljava/lang/String;", .null), ("com/example/patient_crawler/patientcrawler/Validators", "lastModifiedSecond", "Ljava/lang/Long;", (.ref g))] := F_a.put 2 rfl W3
  clear W3
  exact o_ret0 P hret (hb hby dvx_19) (by decide) (by decide) ⟨rfl, F_a⟩
theorem dda_0 : decode prog_37_method_4_code 0 = .ok (.lload_n 1, 1) := by decide +kernel
theorem dda_1 : decode prog_37_method_4_code 1 = .ok (.invokestatic 48, 3) := by decide +kernel
theorem dda_4 : decode prog_37_method_4_code 4 = .ok (.ifCond .ne 17, 3) := by decide +kernel
theorem dda_7 : decode prog_37_method_4_code 7 = .ok (.new 52, 3) := by decide +kernel
theorem dda_10 : decode prog_37_method_4_code 10 = .ok (.dup, 1) := by decide +kernel
theorem dda_11 : decode prog_37_method_4_code 11 = .ok (.lload_n 1, 1) := by decide +kernel
theorem dda_12 : decode prog_37_method_4_code 12 = .ok (.invokedynamic 54, 5) := by decide +kernel
theorem dda_17 : decode prog_37_method_4_code 17 = .ok (.invokespecial 58, 3) := by decide +kernel
theorem dda_20 : decode prog_37_method_4_code 20 = .ok (.athrow, 1) := by decide +kernel
theorem dda_21 : decode prog_37_method_4_code 21 = .ok (.new 2, 3) := by decide +kernel
theorem dda_24 : decode prog_37_method_4_code 24 = .ok (.dup, 1) := by decide +kernel
theorem dda_25 : decode prog_37_method_4_code 25 = .ok (.aload_n 0, 1) := by decide +kernel
theorem dda_26 : decode prog_37_method_4_code 26 = .ok (.aconst_null, 1) := by decide +kernel
theorem dda_27 : decode prog_37_method_4_code 27 = .ok (.lload_n 1, 1) := by decide +kernel
theorem dda_28 : decode prog_37_method_4_code 28 = .ok (.invokestatic 61, 3) := by decide +kernel
theorem dda_31 : decode prog_37_method_4_code 31 = .ok (.invokespecial 7, 3) := by decide +kernel
theorem dda_34 : decode prog_37_method_4_code 34 = .ok (.areturn, 1) := by decide +kernel
theorem ef_da (v : Value) (hv : v.category = 1) (x : Int64) (m : MethodId) : entryFrame m #[v, .long x] 3 = mkF m 0 #[.val v, .val (.long x), .second] [] := by first | (simp [entryFrame, mkF, argsToLocals, o_catR, o_catN, o_catI, o_catJ, o_catD, hv]; done) | rfl
set_option maxRecDepth 65536 in
set_option maxHeartbeats 40000000 in
theorem ct_dated (l : Launch) (Z : State) (a0 : Array Value) (hw : ∀ d ∈ tables_1, d.before a0 Z = true) (EL : List (String × Nat)) (n0 : Nat) (v : Value) (x : Int64) (hv : v.isRef = true) (hvc : v.category = 1) (hfd : Sta Z Z.heap "com/example/patient_crawler/patientcrawler/Validators" "FIRST_DATE" "J" (.long (-62167219200 : Int64))) (hld : Sta Z Z.heap "com/example/patient_crawler/patientcrawler/Validators" "LAST_DATE" "J" (.long (253402300799 : Int64))) (hx1 : ¬ x < (-62167219200 : Int64)) (hx2 : ¬ (253402300799 : Int64) < x) (ca : Addr) (cc : Cell) (hca : Sta Z Z.heap "java/lang/Long$LongCache" "cache" "[Ljava/lang/Long;" (.ref ca)) (hbx : Bxs Z ca cc "java/lang/Long" "J" (256 : Int32) (fun j => .long (j - 128).toInt64)) (h0 : Heap) :
    OCt l Z a0 EL n0 (⟨"com/example/patient_crawler/patientcrawler/Validators", "dated", "(Ljava/lang/String;J)Lcom/example/patient_crawler/patientcrawler/Validators;"⟩ : MethodName) prog_37_method_4_code 3 (some (.object "com/example/patient_crawler/patientcrawler/Validators")) ({ frames := 4, cells := 2, slots := 4, locals := 60 } : Room) [] #[v, (.long x)] h0 [] (fun w vm h => ∃ a g : Addr, w = some (.ref a) ∧ h0.size ≤ a ∧ OObj Z h a "com/example/patient_crawler/patientcrawler/Validators" [("com/example/patient_crawler/patientcrawler/Validators", "etag", "Ljava/lang/String;", v), ("com/example/patient_crawler/patientcrawler/Validators", "lastModified", "Ljava/lang/String;", .null), ("com/example/patient_crawler/patientcrawler/Validators", "lastModifiedSecond", "Ljava/lang/Long;", (.ref g))] ∧ OObj Z h g "java/lang/Long" [("java/lang/Long", "value", "J", (.long x))]) := by
  refine OCt.body (plainFor_of_name pn_V) (ef_da v hvc x) ?_
  intro p e s m below meth c T hby hml hret hnm hsh P
  refine o_lloadN P (hb hby dda_0) rfl (pc' := 1) rfl ?_
  refine o_callS P (W := 0) (ow hw 32 rfl) (ow hw 33 rfl) (ow hw 30 rfl) (ow hw 34 rfl) (by decide) (ct_imf l Z a0 hw EL n0 x hfd hld hx1 hx2 h0) o_sf0 (by rw [hml]; rfl) (by decide) (by decide) (argsL := [(.long x)]) (rest := []) (lenOf pd_9 rfl) rfl rfl (Nat.le_of_eq rfl) (hb hby dda_1) (pc' := 4) rfl (by decide) (by decide) ?_
  clear P; intro T h1 v1 P K1 q1
  obtain ⟨rfl, rfl⟩ := q1; clear K1
  show OG p e below m _ T 4 #[.val v, .val (.long x), .second] [(.int (1 : Int32))]
  refine o_if_ne P (hb hby dda_4) (by decide) (pc' := 21) (by decide) (pcf := 7) rfl (fun _ => ?_) (fun q => absurd q (by decide))
  have hz_a := P.keep0.1
  refine o_new P [("com/example/patient_crawler/patientcrawler/Validators", "etag", "Ljava/lang/String;", .null), ("com/example/patient_crawler/patientcrawler/Validators", "lastModified", "Ljava/lang/String;", .null), ("com/example/patient_crawler/patientcrawler/Validators", "lastModifiedSecond", "Ljava/lang/Long;", .null)] (ow hw 39 rfl) (ow hw 40 rfl) (ow hw 30 rfl) (OLd.cons (Or.inr (ow hw 54 rfl)) (ty := (.object "java/lang/String")) (by decide) rfl (OLd.cons (Or.inr (ow hw 56 rfl)) (ty := (.object "java/lang/String")) (by decide) rfl (OLd.cons (Or.inr (ow hw 58 rfl)) (ty := (.object "java/lang/Long")) (by decide) rfl OLd.nil))) (by decide +kernel) (hb hby dda_21) (pc' := 24) rfl (by decide) (by decide) ?_
  clear P; intro T h2 a P K2 hb_a F_a
  have sz_a := Nat.le_trans hz_a hb_a
  clear hz_a
  clear K2
  refine o_dup P (hb hby dda_24) rfl (pc' := 25) rfl ?_
  refine o_aloadN P (hb hby dda_25) rfl hv (pc' := 26) rfl ?_
  refine o_aconstNull P (hb hby dda_26) (pc' := 27) rfl ?_
  refine o_lloadN P (hb hby dda_27) rfl (pc' := 28) rfl ?_
  refine o_callS P (W := 4) (ow hw 41 rfl) (ow hw 42 rfl) (ow hw 43 rfl) (ow hw 44 rfl) (by decide) (ct_lval l Z a0 hw EL n0 x ca cc hca hbx h2) o_sf0 (by rw [hml]; rfl) (by decide) (by decide) (argsL := [(.long x)]) (rest := [.null, v, (.ref a), (.ref a)]) (lenOf pd_10 rfl) rfl rfl (by simp [hvc, o_catR, o_catN, o_catI, o_catJ, o_catD]) (hb hby dda_28) (pc' := 31) rfl (by decide) (by decide) ?_
  clear P; intro T h3 v3 P K3 q3
  obtain ⟨g, rfl, F_g⟩ := q3
  replace F_a := F_a.keep K3 nin0
  have ne_a_g : a ≠ g := F_a.neObj F_g (by decide)
  show OG p e below m _ T 31 #[.val v, .val (.long x), .second] [(.ref g), .null, v, (.ref a), (.ref a)]
  refine o_callI P (W := 1) (a := a) rfl (ow hw 49 rfl) (ow hw 50 rfl) (ow hw 30 rfl) (ow hw 51 rfl) (by decide) (ct_vini l Z a0 hw EL n0 a v g hv hvc h3 F_a) (o_sfS (List.Mem.head _) o_sf0) (by rw [hml]; rfl) (by decide) (by decide) (argsL := [v, .null, (.ref g)]) (rest := [(.ref a)]) (lenOf pd_11 rfl) rfl rfl (Nat.le_of_eq rfl) (hb hby dda_31) (pc' := 34) rfl (by decide) (by decide) ?_
  clear P; intro T h4 v4 P K4 q4
  obtain ⟨rfl, F'⟩ := q4
  replace F_g := F_g.keep K4 (ninS (Ne.symm ne_a_g) nin0)
  show OG p e below m _ T 34 #[.val v, .val (.long x), .second] [(.ref a)]
  exact o_retA P hret rfl rfl rfl (hb hby dda_34) (by decide) (by decide) ⟨a, g, rfl, hsh ▸ sz_a, F', F_g⟩
theorem doi_0 : decode jdk_32_method_2_code 0 = .ok (.aload_n 0, 1) := by decide +kernel
theorem doi_1 : decode jdk_32_method_2_code 1 = .ok (.invokespecial 7, 3) := by decide +kernel
theorem doi_4 : decode jdk_32_method_2_code 4 = .ok (.aload_n 0, 1) := by decide +kernel
theorem doi_5 : decode jdk_32_method_2_code 5 = .ok (.aload_n 1, 1) := by decide +kernel
theorem doi_6 : decode jdk_32_method_2_code 6 = .ok (.putfield 13, 3) := by decide +kernel
theorem doi_9 : decode jdk_32_method_2_code 9 = .ok (.return_, 1) := by decide +kernel
theorem ef_oi (x0 : Addr) (x1 : Addr) (m : MethodId) : entryFrame m #[(.ref x0), (.ref x1)] 2 = mkF m 0 #[.val (.ref x0), .val (.ref x1)] [] := by first | (simp [entryFrame, mkF, argsToLocals, o_catR, o_catN, o_catI, o_catJ, o_catD]; done) | rfl
set_option maxRecDepth 65536 in
set_option maxHeartbeats 40000000 in
theorem ct_oini (l : Launch) (Z : State) (a0 : Array Value) (hw : ∀ d ∈ tables_1, d.before a0 Z = true) (EL : List (String × Nat)) (n0 : Nat) (a t : Addr) (h0 : Heap) (F_a : OObj Z h0 a "java/util/Optional" [("java/util/Optional", "value", "Ljava/lang/Object;", .null)]) :
    OCt l Z a0 EL n0 (⟨"java/util/Optional", "<init>", "(Ljava/lang/Object;)V"⟩ : MethodName) jdk_32_method_2_code 2 none ({ frames := 1, cells := 0, slots := 0, locals := 12 } : Room) [] #[(.ref a), (.ref t)] h0 [a] (fun w vm h => w = none ∧ OObj Z h a "java/util/Optional" [("java/util/Optional", "value", "Ljava/lang/Object;", (.ref t))]) := by
  refine OCt.body (plainFor_of_name pn_O) (ef_oi a t) ?_
  intro p e s m below meth c T hby hml hret hnm hsh P
  refine o_aloadN P (hb hby doi_0) rfl rfl (pc' := 1) rfl ?_
  refine o_initO P (W := 0) (ow hw 74 rfl) (ow hw 22 rfl) (ow hw 23 rfl) (by rw [hml]; rfl) (by decide) (Nat.le_of_eq rfl) (by decide) (hb hby doi_1) (pc' := 4) rfl ?_
  clear P; intro T P
  refine o_aloadN P (hb hby doi_4) rfl rfl (pc' := 5) rfl ?_
  refine o_aloadN P (hb hby doi_5) rfl rfl (pc' := 6) rfl ?_
  refine o_putF P (v' := (.ref t)) (ty := (.object "java/lang/Object")) (ow hw 75 rfl) Via.refl (F_a.fld 0 rfl) F_a.exa (Or.inr ⟨(ow hw 76 rfl), rfl, hnm⟩) (ow hw 69 rfl) (by decide) rfl rfl (List.Mem.head _) (hb hby doi_6) (pc' := 9) rfl ?_
  clear P; intro T h1 P W1
  replace F_a : OObj Z h1 a "java/util/Optional" [("java/util/Optional", "value", "Ljava/lang/Object;", (.ref t))] := F_a.put 0 rfl W1
  clear W1
  exact o_ret0 P hret (hb hby doi_9) (by decide) (by decide) ⟨rfl, F_a⟩
theorem don_0 : decode jdk_32_method_4_code 0 = .ok (.aload_n 0, 1) := by decide +kernel
theorem don_1 : decode jdk_32_method_4_code 1 = .ok (.ifnonnull 9, 3) := by decide +kernel
theorem don_4 : decode jdk_32_method_4_code 4 = .ok (.getstatic 1, 3) := by decide +kernel
theorem don_7 : decode jdk_32_method_4_code 7 = .ok (.goto 11, 3) := by decide +kernel
theorem don_10 : decode jdk_32_method_4_code 10 = .ok (.new 2, 3) := by decide +kernel
theorem don_13 : decode jdk_32_method_4_code 13 = .ok (.dup, 1) := by decide +kernel
theorem don_14 : decode jdk_32_method_4_code 14 = .ok (.aload_n 0, 1) := by decide +kernel
theorem don_15 : decode jdk_32_method_4_code 15 = .ok (.invokespecial 23, 3) := by decide +kernel
theorem don_18 : decode jdk_32_method_4_code 18 = .ok (.areturn, 1) := by decide +kernel
theorem ef_on (x0 : Addr) (m : MethodId) : entryFrame m #[(.ref x0)] 1 = mkF m 0 #[.val (.ref x0)] [] := by first | (simp [entryFrame, mkF, argsToLocals, o_catR, o_catN, o_catI, o_catJ, o_catD]; done) | rfl
set_option maxRecDepth 65536 in
set_option maxHeartbeats 40000000 in
theorem ct_ofnR (l : Launch) (Z : State) (a0 : Array Value) (hw : ∀ d ∈ tables_1, d.before a0 Z = true) (EL : List (String × Nat)) (n0 : Nat) (t : Addr) (h0 : Heap) :
    OCt l Z a0 EL n0 (⟨"java/util/Optional", "ofNullable", "(Ljava/lang/Object;)Ljava/util/Optional;"⟩ : MethodName) jdk_32_method_4_code 1 (some (.object "java/util/Optional")) ({ frames := 2, cells := 1, slots := 1, locals := 26 } : Room) [] #[(.ref t)] h0 [] (fun w vm h => ∃ a : Addr, w = some (.ref a) ∧ OObj Z h a "java/util/Optional" [("java/util/Optional", "value", "Ljava/lang/Object;", (.ref t))]) := by
  refine OCt.body (plainFor_of_name pn_O) (ef_on t) ?_
  intro p e s m below meth c T hby hml hret hnm hsh P
  refine o_aloadN P (hb hby don_0) rfl rfl (pc' := 1) rfl ?_
  refine o_ifnonnullY P (hb hby don_1) (by decide) (pc' := 10) (by decide) ?_
  have hz_a := P.keep0.1
  refine o_new P [("java/util/Optional", "value", "Ljava/lang/Object;", .null)] (ow hw 68 rfl) (ow hw 69 rfl) (ow hw 66 rfl) (OLd.cons (Or.inr (ow hw 76 rfl)) (ty := (.object "java/lang/Object")) (by decide) rfl OLd.nil) (by decide +kernel) (hb hby don_10) (pc' := 13) rfl (by decide) (by decide) ?_
  clear P; intro T h1 a P K1 hb_a F_a
  have sz_a := Nat.le_trans hz_a hb_a
  clear hz_a
  clear K1
  refine o_dup P (hb hby don_13) rfl (pc' := 14) rfl ?_
  refine o_aloadN P (hb hby don_14) rfl rfl (pc' := 15) rfl ?_
  refine o_callI P (W := 1) (a := a) rfl (ow hw 70 rfl) (ow hw 71 rfl) (ow hw 66 rfl) (ow hw 73 rfl) (by decide) (ct_oini l Z a0 hw EL n0 a t h1 F_a) (o_sfS (List.Mem.head _) o_sf0) (by rw [hml]; rfl) (by decide) (by decide) (argsL := [(.ref t)]) (rest := [(.ref a)]) (lenOf pd_12 rfl) rfl rfl (Nat.le_of_eq rfl) (hb hby don_15) (pc' := 18) rfl (by decide) (by decide) ?_
  clear P; intro T h2 v2 P K2 q2
  obtain ⟨rfl, F'⟩ := q2
  show OG p e below m _ T 18 #[.val (.ref t)] [(.ref a)]
  exact o_retA P hret rfl rfl rfl (hb hby don_18) (by decide) (by decide) ⟨a, rfl, F'⟩
theorem ef_onN  (m : MethodId) : entryFrame m #[.null] 1 = mkF m 0 #[.val .null] [] := by first | (simp [entryFrame, mkF, argsToLocals, o_catR, o_catN, o_catI, o_catJ, o_catD]; done) | rfl
set_option maxRecDepth 65536 in
set_option maxHeartbeats 40000000 in
theorem ct_ofnN (l : Launch) (Z : State) (a0 : Array Value) (hw : ∀ d ∈ tables_1, d.before a0 Z = true) (EL : List (String × Nat)) (n0 : Nat) (em : Addr) (hem : Sta Z Z.heap "java/util/Optional" "EMPTY" "Ljava/util/Optional;" (.ref em)) (Fem : OObj Z Z.heap em "java/util/Optional" [("java/util/Optional", "value", "Ljava/lang/Object;", .null)]) (h0 : Heap) :
    OCt l Z a0 EL n0 (⟨"java/util/Optional", "ofNullable", "(Ljava/lang/Object;)Ljava/util/Optional;"⟩ : MethodName) jdk_32_method_4_code 1 (some (.object "java/util/Optional")) ({ frames := 2, cells := 1, slots := 1, locals := 26 } : Room) [] #[.null] h0 [] (fun w vm h => ∃ a : Addr, w = some (.ref a) ∧ OObj Z h a "java/util/Optional" [("java/util/Optional", "value", "Ljava/lang/Object;", .null)]) := by
  refine OCt.body (plainFor_of_name pn_O) (ef_onN ) ?_
  intro p e s m below meth c T hby hml hret hnm hsh P
  refine o_aloadN P (hb hby don_0) rfl rfl (pc' := 1) rfl ?_
  refine o_ifnonnullN P (hb hby don_1) (pc' := 4) rfl ?_
  refine o_getS P (ow hw 138 rfl) Via.refl hem (hb hby don_4) (pc' := 7) rfl ?_
  clear P; intro T P
  refine o_goto P (hb hby don_7) (by decide) (pc' := 18) (by decide) ?_
  exact o_retA P hret rfl rfl rfl (hb hby don_18) (by decide) (by decide) ⟨em, rfl, Fem.ext P.old.2⟩
theorem det_0 : decode prog_37_method_5_code 0 = .ok (.aload_n 0, 1) := by decide +kernel
theorem det_1 : decode prog_37_method_5_code 1 = .ok (.getfield 16, 3) := by decide +kernel
theorem det_4 : decode prog_37_method_5_code 4 = .ok (.invokestatic 67, 3) := by decide +kernel
theorem det_7 : decode prog_37_method_5_code 7 = .ok (.areturn, 1) := by decide +kernel
theorem ef_et (x0 : Addr) (m : MethodId) : entryFrame m #[(.ref x0)] 1 = mkF m 0 #[.val (.ref x0)] [] := by first | (simp [entryFrame, mkF, argsToLocals, o_catR, o_catN, o_catI, o_catJ, o_catD]; done) | rfl
set_option maxRecDepth 65536 in
set_option maxHeartbeats 40000000 in
theorem ct_etagR (l : Launch) (Z : State) (a0 : Array Value) (hw : ∀ d ∈ tables_1, d.before a0 Z = true) (EL : List (String × Nat)) (n0 : Nat) (a g : Addr) (t : Addr) (h0 : Heap) (F_a : OObj Z h0 a "com/example/patient_crawler/patientcrawler/Validators" [("com/example/patient_crawler/patientcrawler/Validators", "etag", "Ljava/lang/String;", (.ref t)), ("com/example/patient_crawler/patientcrawler/Validators", "lastModified", "Ljava/lang/String;", .null), ("com/example/patient_crawler/patientcrawler/Validators", "lastModifiedSecond", "Ljava/lang/Long;", (.ref g))]) :
    OCt l Z a0 EL n0 (⟨"com/example/patient_crawler/patientcrawler/Validators", "etag", "()Ljava/util/Optional;"⟩ : MethodName) prog_37_method_5_code 1 (some (.object "java/util/Optional")) ({ frames := 3, cells := 1, slots := 1, locals := 38 } : Room) [] #[(.ref a)] h0 [] (fun w vm h => ∃ a : Addr, w = some (.ref a) ∧ OObj Z h a "java/util/Optional" [("java/util/Optional", "value", "Ljava/lang/Object;", (.ref t))]) := by
  refine OCt.body (plainFor_of_name pn_V) (ef_et a) ?_
  intro p e s m below meth c T hby hml hret hnm hsh P
  refine o_aloadN P (hb hby det_0) rfl rfl (pc' := 1) rfl ?_
  refine o_getF P (ow hw 53 rfl) Via.refl (F_a.fld 0 rfl) (hb hby det_1) (pc' := 4) rfl ?_
  clear P; intro T P
  refine o_callS P (W := 0) (ow hw 64 rfl) (ow hw 65 rfl) (ow hw 66 rfl) (ow hw 67 rfl) (by decide) (ct_ofnR l Z a0 hw EL n0 t h0) o_sf0 (by rw [hml]; rfl) (by decide) (by decide) (argsL := [(.ref t)]) (rest := []) (lenOf pd_13 rfl) rfl rfl (Nat.le_of_eq rfl) (hb hby det_4) (pc' := 7) rfl (by decide) (by decide) ?_
  clear P; intro T h1 v1 P K1 q1
  obtain ⟨o, rfl, F_o⟩ := q1
  show OG p e below m _ T 7 #[.val (.ref a)] [(.ref o)]
  exact o_retA P hret rfl rfl rfl (hb hby det_7) (by decide) (by decide) ⟨o, rfl, F_o⟩
set_option maxRecDepth 65536 in
set_option maxHeartbeats 40000000 in
theorem ct_etagN (l : Launch) (Z : State) (a0 : Array Value) (hw : ∀ d ∈ tables_1, d.before a0 Z = true) (EL : List (String × Nat)) (n0 : Nat) (a g : Addr) (em : Addr) (hem : Sta Z Z.heap "java/util/Optional" "EMPTY" "Ljava/util/Optional;" (.ref em)) (Fem : OObj Z Z.heap em "java/util/Optional" [("java/util/Optional", "value", "Ljava/lang/Object;", .null)]) (h0 : Heap) (F_a : OObj Z h0 a "com/example/patient_crawler/patientcrawler/Validators" [("com/example/patient_crawler/patientcrawler/Validators", "etag", "Ljava/lang/String;", .null), ("com/example/patient_crawler/patientcrawler/Validators", "lastModified", "Ljava/lang/String;", .null), ("com/example/patient_crawler/patientcrawler/Validators", "lastModifiedSecond", "Ljava/lang/Long;", (.ref g))]) :
    OCt l Z a0 EL n0 (⟨"com/example/patient_crawler/patientcrawler/Validators", "etag", "()Ljava/util/Optional;"⟩ : MethodName) prog_37_method_5_code 1 (some (.object "java/util/Optional")) ({ frames := 3, cells := 1, slots := 1, locals := 38 } : Room) [] #[(.ref a)] h0 [] (fun w vm h => ∃ a : Addr, w = some (.ref a) ∧ OObj Z h a "java/util/Optional" [("java/util/Optional", "value", "Ljava/lang/Object;", .null)]) := by
  refine OCt.body (plainFor_of_name pn_V) (ef_et a) ?_
  intro p e s m below meth c T hby hml hret hnm hsh P
  refine o_aloadN P (hb hby det_0) rfl rfl (pc' := 1) rfl ?_
  refine o_getF P (ow hw 53 rfl) Via.refl (F_a.fld 0 rfl) (hb hby det_1) (pc' := 4) rfl ?_
  clear P; intro T P
  refine o_callS P (W := 0) (ow hw 64 rfl) (ow hw 65 rfl) (ow hw 66 rfl) (ow hw 67 rfl) (by decide) (ct_ofnN l Z a0 hw EL n0 em hem Fem h0) o_sf0 (by rw [hml]; rfl) (by decide) (by decide) (argsL := [.null]) (rest := []) (lenOf pd_13 rfl) rfl rfl (Nat.le_of_eq rfl) (hb hby det_4) (pc' := 7) rfl (by decide) (by decide) ?_
  clear P; intro T h1 v1 P K1 q1
  obtain ⟨o, rfl, F_o⟩ := q1
  show OG p e below m _ T 7 #[.val (.ref a)] [(.ref o)]
  exact o_retA P hret rfl rfl rfl (hb hby det_7) (by decide) (by decide) ⟨o, rfl, F_o⟩
theorem doe_0 : decode jdk_32_method_15_code 0 = .ok (.aload_n 0, 1) := by decide +kernel
theorem doe_1 : decode jdk_32_method_15_code 1 = .ok (.getfield 13, 3) := by decide +kernel
theorem doe_4 : decode jdk_32_method_15_code 4 = .ok (.ifnull 10, 3) := by decide +kernel
theorem doe_7 : decode jdk_32_method_15_code 7 = .ok (.aload_n 0, 1) := by decide +kernel
theorem doe_8 : decode jdk_32_method_15_code 8 = .ok (.getfield 13, 3) := by decide +kernel
theorem doe_11 : decode jdk_32_method_15_code 11 = .ok (.goto 4, 3) := by decide +kernel
theorem doe_14 : decode jdk_32_method_15_code 14 = .ok (.aload_n 1, 1) := by decide +kernel
theorem doe_15 : decode jdk_32_method_15_code 15 = .ok (.areturn, 1) := by decide +kernel
theorem ef_oe (x0 : Addr) (m : MethodId) : entryFrame m #[(.ref x0), .null] 2 = mkF m 0 #[.val (.ref x0), .val .null] [] := by first | (simp [entryFrame, mkF, argsToLocals, o_catR, o_catN, o_catI, o_catJ, o_catD]; done) | rfl
set_option maxRecDepth 65536 in
set_option maxHeartbeats 40000000 in
theorem ct_orER (l : Launch) (Z : State) (a0 : Array Value) (hw : ∀ d ∈ tables_1, d.before a0 Z = true) (EL : List (String × Nat)) (n0 : Nat) (o t : Addr) (h0 : Heap) (F_o : OObj Z h0 o "java/util/Optional" [("java/util/Optional", "value", "Ljava/lang/Object;", (.ref t))]) :
    OCt l Z a0 EL n0 (⟨"java/util/Optional", "orElse", "(Ljava/lang/Object;)Ljava/lang/Object;"⟩ : MethodName) jdk_32_method_15_code 2 (some (.object "java/lang/Object")) ({ frames := 0, cells := 0, slots := 0, locals := 0 } : Room) [] #[(.ref o), .null] h0 [] (fun w vm h => w = some (.ref t) ∧ h = h0) := by
  refine OCt.body (plainFor_of_name pn_O) (ef_oe o) ?_
  intro p e s m below meth c T hby hml hret hnm hsh P
  refine o_aloadN P (hb hby doe_0) rfl rfl (pc' := 1) rfl ?_
  refine o_getF P (ow hw 75 rfl) Via.refl (F_o.fld 0 rfl) (hb hby doe_1) (pc' := 4) rfl ?_
  clear P; intro T P
  refine o_ifnullN P (hb hby doe_4) (pc' := 7) rfl ?_
  refine o_aloadN P (hb hby doe_7) rfl rfl (pc' := 8) rfl ?_
  refine o_getF P (ow hw 75 rfl) Via.refl (F_o.fld 0 rfl) (hb hby doe_8) (pc' := 11) rfl ?_
  clear P; intro T P
  refine o_goto P (hb hby doe_11) (by decide) (pc' := 15) (by decide) ?_
  exact o_retA P hret rfl rfl rfl (hb hby doe_15) (by decide) (by decide) ⟨rfl, rfl⟩
set_option maxRecDepth 65536 in
set_option maxHeartbeats 40000000 in
theorem ct_orEN (l : Launch) (Z : State) (a0 : Array Value) (hw : ∀ d ∈ tables_1, d.before a0 Z = true) (EL : List (String × Nat)) (n0 : Nat) (o : Addr) (h0 : Heap) (F_o : OObj Z h0 o "java/util/Optional" [("java/util/Optional", "value", "Ljava/lang/Object;", .null)]) :
    OCt l Z a0 EL n0 (⟨"java/util/Optional", "orElse", "(Ljava/lang/Object;)Ljava/lang/Object;"⟩ : MethodName) jdk_32_method_15_code 2 (some (.object "java/lang/Object")) ({ frames := 0, cells := 0, slots := 0, locals := 0 } : Room) [] #[(.ref o), .null] h0 [] (fun w vm h => w = some .null ∧ h = h0) := by
  refine OCt.body (plainFor_of_name pn_O) (ef_oe o) ?_
  intro p e s m below meth c T hby hml hret hnm hsh P
  refine o_aloadN P (hb hby doe_0) rfl rfl (pc' := 1) rfl ?_
  refine o_getF P (ow hw 75 rfl) Via.refl (F_o.fld 0 rfl) (hb hby doe_1) (pc' := 4) rfl ?_
  clear P; intro T P
  refine o_ifnullY P (hb hby doe_4) (by decide) (pc' := 14) (by decide) ?_
  refine o_aloadN P (hb hby doe_14) rfl rfl (pc' := 15) rfl ?_
  exact o_retA P hret rfl rfl rfl (hb hby doe_15) (by decide) (by decide) ⟨rfl, rfl⟩
theorem dlv_0 : decode jdk_35_method_31_code 0 = .ok (.aload_n 0, 1) := by decide +kernel
theorem dlv_1 : decode jdk_35_method_31_code 1 = .ok (.getfield 273, 3) := by decide +kernel
theorem dlv_4 : decode jdk_35_method_31_code 4 = .ok (.lreturn, 1) := by decide +kernel
theorem ef_lv (x0 : Addr) (m : MethodId) : entryFrame m #[(.ref x0)] 1 = mkF m 0 #[.val (.ref x0)] [] := by first | (simp [entryFrame, mkF, argsToLocals, o_catR, o_catN, o_catI, o_catJ, o_catD]; done) | rfl
set_option maxRecDepth 65536 in
set_option maxHeartbeats 40000000 in
theorem ct_lv (l : Launch) (Z : State) (a0 : Array Value) (hw : ∀ d ∈ tables_1, d.before a0 Z = true) (EL : List (String × Nat)) (n0 : Nat) (g : Addr) (x : Int64) (h0 : Heap) (F_g : OObj Z h0 g "java/lang/Long" [("java/lang/Long", "value", "J", (.long x))]) :
    OCt l Z a0 EL n0 (⟨"java/lang/Long", "longValue", "()J"⟩ : MethodName) jdk_35_method_31_code 1 (some .long) ({ frames := 0, cells := 0, slots := 0, locals := 0 } : Room) [] #[(.ref g)] h0 [] (fun w vm h => w = some (.long x) ∧ h = h0) := by
  refine OCt.body (plainFor_of_name pn_G) (ef_lv g) ?_
  intro p e s m below meth c T hby hml hret hnm hsh P
  refine o_aloadN P (hb hby dlv_0) rfl rfl (pc' := 1) rfl ?_
  refine o_getF P (ow hw 98 rfl) Via.refl (F_g.fld 0 rfl) (hb hby dlv_1) (pc' := 4) rfl ?_
  clear P; intro T P
  exact o_retL P hret (hb hby dlv_4) (by decide) (by decide) ⟨rfl, rfl⟩
theorem dol_0 : decode jdk_2650_method_3_code 0 = .ok (.aload_n 0, 1) := by decide +kernel
theorem dol_1 : decode jdk_2650_method_3_code 1 = .ok (.invokespecial 1, 3) := by decide +kernel
theorem dol_4 : decode jdk_2650_method_3_code 4 = .ok (.aload_n 0, 1) := by decide +kernel
theorem dol_5 : decode jdk_2650_method_3_code 5 = .ok (.iconst 1, 1) := by decide +kernel
theorem dol_6 : decode jdk_2650_method_3_code 6 = .ok (.putfield 7, 3) := by decide +kernel
theorem dol_9 : decode jdk_2650_method_3_code 9 = .ok (.aload_n 0, 1) := by decide +kernel
theorem dol_10 : decode jdk_2650_method_3_code 10 = .ok (.lload_n 1, 1) := by decide +kernel
theorem dol_11 : decode jdk_2650_method_3_code 11 = .ok (.putfield 13, 3) := by decide +kernel
theorem dol_14 : decode jdk_2650_method_3_code 14 = .ok (.return_, 1) := by decide +kernel
theorem ef_ol (x0 : Addr) (x1 : Int64) (m : MethodId) : entryFrame m #[(.ref x0), (.long x1)] 3 = mkF m 0 #[.val (.ref x0), .val (.long x1), .second] [] := by first | (simp [entryFrame, mkF, argsToLocals, o_catR, o_catN, o_catI, o_catJ, o_catD]; done) | rfl
set_option maxRecDepth 65536 in
set_option maxHeartbeats 40000000 in
theorem ct_oli (l : Launch) (Z : State) (a0 : Array Value) (hw : ∀ d ∈ tables_1, d.before a0 Z = true) (EL : List (String × Nat)) (n0 : Nat) (a : Addr) (x : Int64) (h0 : Heap) (F_a : OObj Z h0 a "java/util/OptionalLong" [("java/util/OptionalLong", "isPresent", "Z", (.int (0 : Int32))), ("java/util/OptionalLong", "value", "J", (.long (0 : Int64)))]) :
    OCt l Z a0 EL n0 (⟨"java/util/OptionalLong", "<init>", "(J)V"⟩ : MethodName) jdk_2650_method_3_code 3 none ({ frames := 1, cells := 0, slots := 0, locals := 12 } : Room) [] #[(.ref a), (.long x)] h0 [a] (fun w vm h => w = none ∧ OObj Z h a "java/util/OptionalLong" [("java/util/OptionalLong", "isPresent", "Z", (.int (1 : Int32))), ("java/util/OptionalLong", "value", "J", (.long x))]) := by
  refine OCt.body (plainFor_of_name pn_OL) (ef_ol a x) ?_
  intro p e s m below meth c T hby hml hret hnm hsh P
  refine o_aloadN P (hb hby dol_0) rfl rfl (pc' := 1) rfl ?_
  refine o_initO P (W := 0) (ow hw 110 rfl) (ow hw 22 rfl) (ow hw 23 rfl) (by rw [hml]; rfl) (by decide) (Nat.le_of_eq rfl) (by decide) (hb hby dol_1) (pc' := 4) rfl ?_
  clear P; intro T P
  refine o_aloadN P (hb hby dol_4) rfl rfl (pc' := 5) rfl ?_
  refine o_iconst P (1 : Int32) (hb hby dol_5) rfl (pc' := 6) rfl ?_
  refine o_putF P (v' := (.int (1 : Int32))) (ty := .boolean) (ow hw 111 rfl) Via.refl (F_a.fld 0 rfl) F_a.exa (Or.inr ⟨(ow hw 112 rfl), rfl, hnm⟩) (ow hw 105 rfl) (by decide) rfl rfl (List.Mem.head _) (hb hby dol_6) (pc' := 9) rfl ?_
  clear P; intro T h1 P W1
  replace F_a : OObj Z h1 a "java/util/OptionalLong" [("java/util/OptionalLong", "isPresent", "Z", (.int (1 : Int32))), ("java/util/OptionalLong", "value", "J", (.long (0 : Int64)))] := F_a.put 0 rfl W1
  clear W1
  refine o_aloadN P (hb hby dol_9) rfl rfl (pc' := 10) rfl ?_
  refine o_lloadN P (hb hby dol_10) rfl (pc' := 11) rfl ?_
  refine o_putF P (v' := (.long x)) (ty := .long) (ow hw 113 rfl) Via.refl (F_a.fld 1 rfl) F_a.exa (Or.inr ⟨(ow hw 114 rfl), rfl, hnm⟩) (ow hw 105 rfl) (by decide) rfl rfl (List.Mem.head _) (hb hby dol_11) (pc' := 14) rfl ?_
  clear P; intro T h2 P W2
  replace F_a : OObj Z h2 a "java/util/OptionalLong" [("java/util/OptionalLong", "isPresent", "Z", (.int (1 : Int32))), ("java/util/OptionalLong", "value", "J", (.long x))] := F_a.put 1 rfl W2
  clear W2
  exact o_ret0 P hret (hb hby dol_14) (by decide) (by decide) ⟨rfl, F_a⟩
theorem doo_0 : decode jdk_2650_method_4_code 0 = .ok (.new 8, 3) := by decide +kernel
theorem doo_3 : decode jdk_2650_method_4_code 3 = .ok (.dup, 1) := by decide +kernel
theorem doo_4 : decode jdk_2650_method_4_code 4 = .ok (.lload_n 0, 1) := by decide +kernel
theorem doo_5 : decode jdk_2650_method_4_code 5 = .ok (.invokespecial 21, 3) := by decide +kernel
theorem doo_8 : decode jdk_2650_method_4_code 8 = .ok (.areturn, 1) := by decide +kernel
theorem ef_oo (x0 : Int64) (m : MethodId) : entryFrame m #[(.long x0)] 2 = mkF m 0 #[.val (.long x0), .second] [] := by first | (simp [entryFrame, mkF, argsToLocals, o_catR, o_catN, o_catI, o_catJ, o_catD]; done) | rfl
set_option maxRecDepth 65536 in
set_option maxHeartbeats 40000000 in
theorem ct_oof (l : Launch) (Z : State) (a0 : Array Value) (hw : ∀ d ∈ tables_1, d.before a0 Z = true) (EL : List (String × Nat)) (n0 : Nat) (x : Int64) (h0 : Heap) :
    OCt l Z a0 EL n0 (⟨"java/util/OptionalLong", "of", "(J)Ljava/util/OptionalLong;"⟩ : MethodName) jdk_2650_method_4_code 2 (some (.object "java/util/OptionalLong")) ({ frames := 2, cells := 1, slots := 2, locals := 27 } : Room) [] #[(.long x)] h0 [] (fun w vm h => ∃ a : Addr, w = some (.ref a) ∧ OObj Z h a "java/util/OptionalLong" [("java/util/OptionalLong", "isPresent", "Z", (.int (1 : Int32))), ("java/util/OptionalLong", "value", "J", (.long x))]) := by
  refine OCt.body (plainFor_of_name pn_OL) (ef_oo x) ?_
  intro p e s m below meth c T hby hml hret hnm hsh P
  have hz_a := P.keep0.1
  refine o_new P [("java/util/OptionalLong", "isPresent", "Z", (.int (0 : Int32))), ("java/util/OptionalLong", "value", "J", (.long (0 : Int64)))] (ow hw 104 rfl) (ow hw 105 rfl) (ow hw 102 rfl) (OLd.cons (Or.inr (ow hw 112 rfl)) (ty := .boolean) (by decide) rfl (OLd.cons (Or.inr (ow hw 114 rfl)) (ty := .long) (by decide) rfl OLd.nil)) (by decide +kernel) (hb hby doo_0) (pc' := 3) rfl (by decide) (by decide) ?_
  clear P; intro T h1 a P K1 hb_a F_a
  have sz_a := Nat.le_trans hz_a hb_a
  clear hz_a
  clear K1
  refine o_dup P (hb hby doo_3) rfl (pc' := 4) rfl ?_
  refine o_lloadN P (hb hby doo_4) rfl (pc' := 5) rfl ?_
  refine o_callI P (W := 1) (a := a) rfl (ow hw 106 rfl) (ow hw 107 rfl) (ow hw 102 rfl) (ow hw 109 rfl) (by decide) (ct_oli l Z a0 hw EL n0 a x h1 F_a) (o_sfS (List.Mem.head _) o_sf0) (by rw [hml]; rfl) (by decide) (by decide) (argsL := [(.long x)]) (rest := [(.ref a)]) (lenOf pd_8 rfl) rfl rfl (Nat.le_of_eq rfl) (hb hby doo_5) (pc' := 8) rfl (by decide) (by decide) ?_
  clear P; intro T h2 v2 P K2 q2
  obtain ⟨rfl, F'⟩ := q2
  show OG p e below m _ T 8 #[.val (.long x), .second] [(.ref a)]
  exact o_retA P hret rfl rfl rfl (hb hby doo_8) (by decide) (by decide) ⟨a, rfl, F'⟩
theorem dls_0 : decode prog_37_method_7_code 0 = .ok (.aload_n 0, 1) := by decide +kernel
theorem dls_1 : decode prog_37_method_7_code 1 = .ok (.getfield 23, 3) := by decide +kernel
theorem dls_4 : decode prog_37_method_7_code 4 = .ok (.ifnonnull 9, 3) := by decide +kernel
theorem dls_7 : decode prog_37_method_7_code 7 = .ok (.invokestatic 100, 3) := by decide +kernel
theorem dls_10 : decode prog_37_method_7_code 10 = .ok (.goto 13, 3) := by decide +kernel
theorem dls_13 : decode prog_37_method_7_code 13 = .ok (.aload_n 0, 1) := by decide +kernel
theorem dls_14 : decode prog_37_method_7_code 14 = .ok (.getfield 23, 3) := by decide +kernel
theorem dls_17 : decode prog_37_method_7_code 17 = .ok (.invokevirtual 75, 3) := by decide +kernel
theorem dls_20 : decode prog_37_method_7_code 20 = .ok (.invokestatic 106, 3) := by decide +kernel
theorem dls_23 : decode prog_37_method_7_code 23 = .ok (.areturn, 1) := by decide +kernel
theorem ef_ls (x0 : Addr) (m : MethodId) : entryFrame m #[(.ref x0)] 1 = mkF m 0 #[.val (.ref x0)] [] := by first | (simp [entryFrame, mkF, argsToLocals, o_catR, o_catN, o_catI, o_catJ, o_catD]; done) | rfl
set_option maxRecDepth 65536 in
set_option maxHeartbeats 40000000 in
theorem ct_lms (l : Launch) (Z : State) (a0 : Array Value) (hw : ∀ d ∈ tables_1, d.before a0 Z = true) (EL : List (String × Nat)) (n0 : Nat) (a g : Addr) (v : Value) (x : Int64) (h0 : Heap) (F_a : OObj Z h0 a "com/example/patient_crawler/patientcrawler/Validators" [("com/example/patient_crawler/patientcrawler/Validators", "etag", "Ljava/lang/String;", v), ("com/example/patient_crawler/patientcrawler/Validators", "lastModified", "Ljava/lang/String;", .null), ("com/example/patient_crawler/patientcrawler/Validators", "lastModifiedSecond", "Ljava/lang/Long;", (.ref g))]) (F_g : OObj Z h0 g "java/lang/Long" [("java/lang/Long", "value", "J", (.long x))]) :
    OCt l Z a0 EL n0 (⟨"com/example/patient_crawler/patientcrawler/Validators", "lastModifiedSecond", "()Ljava/util/OptionalLong;"⟩ : MethodName) prog_37_method_7_code 1 (some (.object "java/util/OptionalLong")) ({ frames := 3, cells := 1, slots := 2, locals := 40 } : Room) [] #[(.ref a)] h0 [] (fun w vm h => ∃ a : Addr, w = some (.ref a) ∧ OObj Z h a "java/util/OptionalLong" [("java/util/OptionalLong", "isPresent", "Z", (.int (1 : Int32))), ("java/util/OptionalLong", "value", "J", (.long x))]) := by
  refine OCt.body (plainFor_of_name pn_V) (ef_ls a) ?_
  intro p e s m below meth c T hby hml hret hnm hsh P
  refine o_aloadN P (hb hby dls_0) rfl rfl (pc' := 1) rfl ?_
  refine o_getF P (ow hw 57 rfl) Via.refl (F_a.fld 2 rfl) (hb hby dls_1) (pc' := 4) rfl ?_
  clear P; intro T P
  refine o_ifnonnullY P (hb hby dls_4) (by decide) (pc' := 13) (by decide) ?_
  refine o_aloadN P (hb hby dls_13) rfl rfl (pc' := 14) rfl ?_
  refine o_getF P (ow hw 57 rfl) Via.refl (F_a.fld 2 rfl) (hb hby dls_14) (pc' := 17) rfl ?_
  clear P; intro T P
  refine o_callV P (W := 0) (x := (⟨"java/lang/Long", "longValue", "()J"⟩ : MethodName)) (y := (⟨"java/lang/Long", "longValue", "()J"⟩ : MethodName)) (a := g) (ow hw 93 rfl) (ow hw 94 rfl) (o_nfSel (y := (⟨"java/lang/Long", "longValue", "()J"⟩ : MethodName)) rfl (ow hw 96 rfl)) (ow hw 96 rfl) (ow hw 95 rfl) (ow hw 43 rfl) (ow hw 97 rfl) (by decide) F_g.exa (ct_lv l Z a0 hw EL n0 g x h0 F_g) o_sf0 (by rw [hml]; rfl) (by decide) (by decide) (argsL := []) (rest := []) (lenOf pd_14 rfl) rfl rfl (Nat.le_of_eq rfl) (hb hby dls_17) (pc' := 20) rfl (by decide) (by decide) ?_
  clear P; intro T h1 v1 P K1 q1
  obtain ⟨rfl, rfl⟩ := q1; clear K1
  show OG p e below m _ T 20 #[.val (.ref a)] [(.long x)]
  refine o_callS P (W := 0) (ow hw 100 rfl) (ow hw 101 rfl) (ow hw 102 rfl) (ow hw 103 rfl) (by decide) (ct_oof l Z a0 hw EL n0 x h1) o_sf0 (by rw [hml]; rfl) (by decide) (by decide) (argsL := [(.long x)]) (rest := []) (lenOf pd_15 rfl) rfl rfl (Nat.le_of_eq rfl) (hb hby dls_20) (pc' := 23) rfl (by decide) (by decide) ?_
  clear P; intro T h2 v2 P K2 q2
  obtain ⟨o, rfl, F_o⟩ := q2
  show OG p e below m _ T 23 #[.val (.ref a)] [(.ref o)]
  exact o_retA P hret rfl rfl rfl (hb hby dls_23) (by decide) (by decide) ⟨o, rfl, F_o⟩
theorem dop_0 : decode jdk_2650_method_6_code 0 = .ok (.aload_n 0, 1) := by decide +kernel
theorem dop_1 : decode jdk_2650_method_6_code 1 = .ok (.getfield 7, 3) := by decide +kernel
theorem dop_4 : decode jdk_2650_method_6_code 4 = .ok (.ireturn, 1) := by decide +kernel
theorem ef_op (x0 : Addr) (m : MethodId) : entryFrame m #[(.ref x0)] 1 = mkF m 0 #[.val (.ref x0)] [] := by first | (simp [entryFrame, mkF, argsToLocals, o_catR, o_catN, o_catI, o_catJ, o_catD]; done) | rfl
set_option maxRecDepth 65536 in
set_option maxHeartbeats 40000000 in
theorem ct_isP (l : Launch) (Z : State) (a0 : Array Value) (hw : ∀ d ∈ tables_1, d.before a0 Z = true) (EL : List (String × Nat)) (n0 : Nat) (o : Addr) (x : Int64) (h0 : Heap) (F_o : OObj Z h0 o "java/util/OptionalLong" [("java/util/OptionalLong", "isPresent", "Z", (.int (1 : Int32))), ("java/util/OptionalLong", "value", "J", (.long x))]) :
    OCt l Z a0 EL n0 (⟨"java/util/OptionalLong", "isPresent", "()Z"⟩ : MethodName) jdk_2650_method_6_code 1 (some .boolean) ({ frames := 0, cells := 0, slots := 0, locals := 0 } : Room) [] #[(.ref o)] h0 [] (fun w vm h => w = some (.int 1) ∧ h = h0) := by
  refine OCt.body (plainFor_of_name pn_OL) (ef_op o) ?_
  intro p e s m below meth c T hby hml hret hnm hsh P
  refine o_aloadN P (hb hby dop_0) rfl rfl (pc' := 1) rfl ?_
  refine o_getF P (ow hw 111 rfl) Via.refl (F_o.fld 0 rfl) (hb hby dop_1) (pc' := 4) rfl ?_
  clear P; intro T P
  exact o_retI P hret (by simp) rfl (hb hby dop_4) (by decide) (by decide) ⟨rfl, rfl⟩
theorem dga_0 : decode jdk_2650_method_5_code 0 = .ok (.aload_n 0, 1) := by decide +kernel
theorem dga_1 : decode jdk_2650_method_5_code 1 = .ok (.getfield 7, 3) := by decide +kernel
theorem dga_4 : decode jdk_2650_method_5_code 4 = .ok (.ifCond .ne 13, 3) := by decide +kernel
theorem dga_7 : decode jdk_2650_method_5_code 7 = .ok (.new 24, 3) := by decide +kernel
theorem dga_10 : decode jdk_2650_method_5_code 10 = .ok (.dup, 1) := by decide +kernel
theorem dga_11 : decode jdk_2650_method_5_code 11 = .ok (.ldc 26, 2) := by decide +kernel
theorem dga_13 : decode jdk_2650_method_5_code 13 = .ok (.invokespecial 28, 3) := by decide +kernel
theorem dga_16 : decode jdk_2650_method_5_code 16 = .ok (.athrow, 1) := by decide +kernel
theorem dga_17 : decode jdk_2650_method_5_code 17 = .ok (.aload_n 0, 1) := by decide +kernel
theorem dga_18 : decode jdk_2650_method_5_code 18 = .ok (.getfield 13, 3) := by decide +kernel
theorem dga_21 : decode jdk_2650_method_5_code 21 = .ok (.lreturn, 1) := by decide +kernel
theorem ef_ga (x0 : Addr) (m : MethodId) : entryFrame m #[(.ref x0)] 1 = mkF m 0 #[.val (.ref x0)] [] := by first | (simp [entryFrame, mkF, argsToLocals, o_catR, o_catN, o_catI, o_catJ, o_catD]; done) | rfl
set_option maxRecDepth 65536 in
set_option maxHeartbeats 40000000 in
theorem ct_gAL (l : Launch) (Z : State) (a0 : Array Value) (hw : ∀ d ∈ tables_1, d.before a0 Z = true) (EL : List (String × Nat)) (n0 : Nat) (o : Addr) (x : Int64) (h0 : Heap) (F_o : OObj Z h0 o "java/util/OptionalLong" [("java/util/OptionalLong", "isPresent", "Z", (.int (1 : Int32))), ("java/util/OptionalLong", "value", "J", (.long x))]) :
    OCt l Z a0 EL n0 (⟨"java/util/OptionalLong", "getAsLong", "()J"⟩ : MethodName) jdk_2650_method_5_code 1 (some .long) ({ frames := 0, cells := 0, slots := 0, locals := 0 } : Room) [] #[(.ref o)] h0 [] (fun w vm h => w = some (.long x) ∧ h = h0) := by
  refine OCt.body (plainFor_of_name pn_OL) (ef_ga o) ?_
  intro p e s m below meth c T hby hml hret hnm hsh P
  refine o_aloadN P (hb hby dga_0) rfl rfl (pc' := 1) rfl ?_
  refine o_getF P (ow hw 111 rfl) Via.refl (F_o.fld 0 rfl) (hb hby dga_1) (pc' := 4) rfl ?_
  clear P; intro T P
  refine o_if_ne P (hb hby dga_4) (by decide) (pc' := 17) (by decide) (pcf := 7) rfl (fun _ => ?_) (fun q => absurd q (by decide))
  refine o_aloadN P (hb hby dga_17) rfl rfl (pc' := 18) rfl ?_
  refine o_getF P (ow hw 113 rfl) Via.refl (F_o.fld 1 rfl) (hb hby dga_18) (pc' := 21) rfl ?_
  clear P; intro T P
  exact o_retL P hret (hb hby dga_21) (by decide) (by decide) ⟨rfl, rfl⟩
set_option maxRecDepth 65536 in
set_option maxHeartbeats 40000000 in
theorem law146R {p : Program} {e : Env} {s : State} {m : MethodId} {args : Array Value} {below : List Frame} {meth : Method} {c : Code} {T : State} {n0 : Nat} {h0 : Heap} {Ow : List Addr} (l : Launch) (Z : State) (a0 : Array Value) (hw : ∀ d ∈ tables_1, d.before a0 Z = true) (EL : List (String × Nat)) (hby : c.code = code) (hml : c.maxLocals = maxLocals) (hret : meth.sig.returnType = ret) (i0 j4 j6 j8 x : Int64) (i1 i2 c0 c1 mm : Int32) (cv : Int32) (hcs : Sta Z Z.heap "java/lang/String" "COMPACT_STRINGS" "Z" (.int cv)) (hcv : ¬ cv = 0) (hfd : Sta Z Z.heap "com/example/patient_crawler/patientcrawler/Validators" "FIRST_DATE" "J" (.long (-62167219200 : Int64))) (hld : Sta Z Z.heap "com/example/patient_crawler/patientcrawler/Validators" "LAST_DATE" "J" (.long (253402300799 : Int64))) (ca : Addr) (cc : Cell) (hca : Sta Z Z.heap "java/lang/Long$LongCache" "cache" "[Ljava/lang/Long;" (.ref ca)) (hbx : Bxs Z ca cc "java/lang/Long" "J" (256 : Int32) (fun j => .long (j - 128).toInt64)) (em : Addr) (hem : Sta Z Z.heap "java/util/Optional" "EMPTY" "Ljava/util/Optional;" (.ref em)) (Fem : OObj Z Z.heap em "java/util/Optional" [("java/util/Optional", "value", "Ljava/lang/Object;", .null)]) (hx1 : ¬ x < (-62167219200 : Int64)) (hx2 : ¬ (253402300799 : Int64) < x)  (t : Addr) (F_t : OObj Z h0 t "java/lang/String" []) (P : OPn p l e room_1 s m args below meth c Z a0 EL n0 [] "com/example/patient_crawler/patientcrawler/ValidatorsDatedPinLaw" T h0 Ow 6 40) :
    OG p e below m (OFq Z EL n0 s [] room_1 (fun w vm h => w = some (.int 1))) T 146 #[.val (.long i0), .second, .val (.int i1), .val (.int i2), .val (.long j4), .second, .val (.long j6), .second, .val (.long j8), .second, .val (.long x), .second, .val (.int c0), .val (.int c1), .val (.ref t), .val (.int mm), .unset, .unset, .unset, .unset] [] := by
  refine o_aload P (hb hby at_146) rfl rfl (pc' := 148) rfl ?_
  refine o_lload P (hb hby at_148) rfl (pc' := 150) rfl ?_
  refine o_callS P (W := 0) (ow hw 28 rfl) (ow hw 29 rfl) (ow hw 30 rfl) (ow hw 31 rfl) (by decide) (ct_dated l Z a0 hw EL n0 (.ref t) x rfl rfl hfd hld hx1 hx2 ca cc hca hbx h0) o_sf0 (by rw [hml]; rfl) (by decide) (by decide) (argsL := [(.ref t), (.long x)]) (rest := []) (lenOf pd_16 rfl) rfl rfl (Nat.le_of_eq rfl) (hb hby at_150) (pc' := 153) rfl (by decide) (by decide) ?_
  clear P; intro T h1 v1 P K1 q1
  obtain ⟨a, g, rfl, g1, F_a, F_g⟩ := q1
  have ne_t_a : t ≠ a := Nat.ne_of_lt (Nat.lt_of_lt_of_le F_t.lt g1)
  replace F_t := F_t.keep K1 nin0
  show OG p e below m _ T 153 #[.val (.long i0), .second, .val (.int i1), .val (.int i2), .val (.long j4), .second, .val (.long j6), .second, .val (.long j8), .second, .val (.long x), .second, .val (.int c0), .val (.int c1), .val (.ref t), .val (.int mm), .unset, .unset, .unset, .unset] [(.ref a)]
  refine o_astore P (hb hby at_153) rfl (L' := #[.val (.long i0), .second, .val (.int i1), .val (.int i2), .val (.long j4), .second, .val (.long j6), .second, .val (.long j8), .second, .val (.long x), .second, .val (.int c0), .val (.int c1), .val (.ref t), .val (.int mm), .val (.ref a), .unset, .unset, .unset]) rfl (pc' := 155) rfl ?_
  refine o_aload P (hb hby at_155) rfl rfl (pc' := 157) rfl ?_
  refine o_callV P (W := 0) (x := (⟨"com/example/patient_crawler/patientcrawler/Validators", "etag", "()Ljava/util/Optional;"⟩ : MethodName)) (y := (⟨"com/example/patient_crawler/patientcrawler/Validators", "etag", "()Ljava/util/Optional;"⟩ : MethodName)) (a := a) (ow hw 59 rfl) (ow hw 60 rfl) (o_nfSel (y := (⟨"com/example/patient_crawler/patientcrawler/Validators", "etag", "()Ljava/util/Optional;"⟩ : MethodName)) rfl (ow hw 62 rfl)) (ow hw 62 rfl) (ow hw 61 rfl) (ow hw 30 rfl) (ow hw 63 rfl) (by decide) F_a.exa (ct_etagR l Z a0 hw EL n0 a g t h1 F_a) o_sf0 (by rw [hml]; rfl) (by decide) (by decide) (argsL := []) (rest := []) (lenOf pd_17 rfl) rfl rfl (Nat.le_of_eq rfl) (hb hby at_157) (pc' := 160) rfl (by decide) (by decide) ?_
  clear P; intro T h2 v2 P K2 q2
  obtain ⟨o, rfl, F_o⟩ := q2
  replace F_t := F_t.keep K2 nin0
  replace F_a := F_a.keep K2 nin0
  replace F_g := F_g.keep K2 nin0
  show OG p e below m _ T 160 #[.val (.long i0), .second, .val (.int i1), .val (.int i2), .val (.long j4), .second, .val (.long j6), .second, .val (.long j8), .second, .val (.long x), .second, .val (.int c0), .val (.int c1), .val (.ref t), .val (.int mm), .val (.ref a), .unset, .unset, .unset] [(.ref o)]
  refine o_aconstNull P (hb hby at_160) (pc' := 161) rfl ?_
  refine o_callV P (W := 0) (x := (⟨"java/util/Optional", "orElse", "(Ljava/lang/Object;)Ljava/lang/Object;"⟩ : MethodName)) (y := (⟨"java/util/Optional", "orElse", "(Ljava/lang/Object;)Ljava/lang/Object;"⟩ : MethodName)) (a := o) (ow hw 77 rfl) (ow hw 78 rfl) (o_nfSel (y := (⟨"java/util/Optional", "orElse", "(Ljava/lang/Object;)Ljava/lang/Object;"⟩ : MethodName)) rfl (ow hw 80 rfl)) (ow hw 80 rfl) (ow hw 79 rfl) (ow hw 66 rfl) (ow hw 81 rfl) (by decide) F_o.exa (ct_orER l Z a0 hw EL n0 o t h2 F_o) o_sf0 (by rw [hml]; rfl) (by decide) (by decide) (argsL := [.null]) (rest := []) (lenOf pd_18 rfl) rfl rfl (Nat.le_of_eq rfl) (hb hby at_161) (pc' := 164) rfl (by decide) (by decide) ?_
  clear P; intro T h3 v3 P K3 q3
  obtain ⟨rfl, rfl⟩ := q3; clear K3
  show OG p e below m _ T 164 #[.val (.long i0), .second, .val (.int i1), .val (.int i2), .val (.long j4), .second, .val (.long j6), .second, .val (.long j8), .second, .val (.long x), .second, .val (.int c0), .val (.int c1), .val (.ref t), .val (.int mm), .val (.ref a), .unset, .unset, .unset] [(.ref t)]
  refine o_cast P (ow hw 82 rfl) (Ins.self F_t.exa) (hb hby at_164) (pc' := 167) rfl ?_
  clear P; intro T P
  refine o_astore P (hb hby at_167) rfl (L' := #[.val (.long i0), .second, .val (.int i1), .val (.int i2), .val (.long j4), .second, .val (.long j6), .second, .val (.long j8), .second, .val (.long x), .second, .val (.int c0), .val (.int c1), .val (.ref t), .val (.int mm), .val (.ref a), .val (.ref t), .unset, .unset]) rfl (pc' := 169) rfl ?_
  refine o_aload P (hb hby at_169) rfl rfl (pc' := 171) rfl ?_
  refine o_ifnonnullY P (hb hby at_171) (by decide) (pc' := 187) (by decide) ?_
  refine o_aload P (hb hby at_187) rfl rfl (pc' := 189) rfl ?_
  refine o_aload P (hb hby at_189) rfl rfl (pc' := 191) rfl ?_
  refine o_callV P (W := 0) (x := (⟨"java/lang/String", "equals", "(Ljava/lang/Object;)Z"⟩ : MethodName)) (y := (⟨"java/lang/String", "equals", "(Ljava/lang/Object;)Z"⟩ : MethodName)) (a := t) (ow hw 83 rfl) (ow hw 84 rfl) (o_nfSel (y := (⟨"java/lang/String", "equals", "(Ljava/lang/Object;)Z"⟩ : MethodName)) rfl (ow hw 86 rfl)) (ow hw 86 rfl) (ow hw 85 rfl) (ow hw 4 rfl) (ow hw 87 rfl) (by decide) F_t.exa (ct_eqSame l Z a0 hw EL n0 t h3) o_sf0 (by rw [hml]; rfl) (by decide) (by decide) (argsL := [(.ref t)]) (rest := []) (lenOf pd_19 rfl) rfl rfl (Nat.le_of_eq rfl) (hb hby at_191) (pc' := 194) rfl (by decide) (by decide) ?_
  clear P; intro T h4 v4 P K4 q4
  obtain ⟨rfl, rfl⟩ := q4; clear K4
  show OG p e below m _ T 194 #[.val (.long i0), .second, .val (.int i1), .val (.int i2), .val (.long j4), .second, .val (.long j6), .second, .val (.long j8), .second, .val (.long x), .second, .val (.int c0), .val (.int c1), .val (.ref t), .val (.int mm), .val (.ref a), .val (.ref t), .unset, .unset] [(.int (1 : Int32))]
  refine o_istore P (hb hby at_194) (L' := #[.val (.long i0), .second, .val (.int i1), .val (.int i2), .val (.long j4), .second, .val (.long j6), .second, .val (.long j8), .second, .val (.long x), .second, .val (.int c0), .val (.int c1), .val (.ref t), .val (.int mm), .val (.ref a), .val (.ref t), .val (.int (1 : Int32)), .unset]) rfl (pc' := 196) rfl ?_
  refine o_aload P (hb hby at_196) rfl rfl (pc' := 198) rfl ?_
  refine o_callV P (W := 0) (x := (⟨"com/example/patient_crawler/patientcrawler/Validators", "lastModifiedSecond", "()Ljava/util/OptionalLong;"⟩ : MethodName)) (y := (⟨"com/example/patient_crawler/patientcrawler/Validators", "lastModifiedSecond", "()Ljava/util/OptionalLong;"⟩ : MethodName)) (a := a) (ow hw 88 rfl) (ow hw 89 rfl) (o_nfSel (y := (⟨"com/example/patient_crawler/patientcrawler/Validators", "lastModifiedSecond", "()Ljava/util/OptionalLong;"⟩ : MethodName)) rfl (ow hw 91 rfl)) (ow hw 91 rfl) (ow hw 90 rfl) (ow hw 30 rfl) (ow hw 92 rfl) (by decide) F_a.exa (ct_lms l Z a0 hw EL n0 a g (.ref t) x h4 F_a F_g) o_sf0 (by rw [hml]; rfl) (by decide) (by decide) (argsL := []) (rest := []) (lenOf pd_20 rfl) rfl rfl (Nat.le_of_eq rfl) (hb hby at_198) (pc' := 201) rfl (by decide) (by decide) ?_
  clear P; intro T h5 v5 P K5 q5
  obtain ⟨u, rfl, F_u⟩ := q5
  replace F_t := F_t.keep K5 nin0
  replace F_a := F_a.keep K5 nin0
  replace F_g := F_g.keep K5 nin0
  replace F_o := F_o.keep K5 nin0
  show OG p e below m _ T 201 #[.val (.long i0), .second, .val (.int i1), .val (.int i2), .val (.long j4), .second, .val (.long j6), .second, .val (.long j8), .second, .val (.long x), .second, .val (.int c0), .val (.int c1), .val (.ref t), .val (.int mm), .val (.ref a), .val (.ref t), .val (.int (1 : Int32)), .unset] [(.ref u)]
  refine o_astore P (hb hby at_201) rfl (L' := #[.val (.long i0), .second, .val (.int i1), .val (.int i2), .val (.long j4), .second, .val (.long j6), .second, .val (.long j8), .second, .val (.long x), .second, .val (.int c0), .val (.int c1), .val (.ref t), .val (.int mm), .val (.ref a), .val (.ref t), .val (.int (1 : Int32)), .val (.ref u)]) rfl (pc' := 203) rfl ?_
  refine o_iload P (hb hby at_203) rfl (pc' := 205) rfl ?_
  refine o_if_eq P (hb hby at_205) (by decide) (pc' := 231) (by decide) (pcf := 208) rfl (fun q => absurd q (by decide)) (fun _ => ?_)
  refine o_aload P (hb hby at_208) rfl rfl (pc' := 210) rfl ?_
  refine o_callV P (W := 0) (x := (⟨"java/util/OptionalLong", "isPresent", "()Z"⟩ : MethodName)) (y := (⟨"java/util/OptionalLong", "isPresent", "()Z"⟩ : MethodName)) (a := u) (ow hw 115 rfl) (ow hw 116 rfl) (o_nfSel (y := (⟨"java/util/OptionalLong", "isPresent", "()Z"⟩ : MethodName)) rfl (ow hw 118 rfl)) (ow hw 118 rfl) (ow hw 117 rfl) (ow hw 102 rfl) (ow hw 119 rfl) (by decide) F_u.exa (ct_isP l Z a0 hw EL n0 u x h5 F_u) o_sf0 (by rw [hml]; rfl) (by decide) (by decide) (argsL := []) (rest := []) (lenOf pd_21 rfl) rfl rfl (Nat.le_of_eq rfl) (hb hby at_210) (pc' := 213) rfl (by decide) (by decide) ?_
  clear P; intro T h6 v6 P K6 q6
  obtain ⟨rfl, rfl⟩ := q6; clear K6
  show OG p e below m _ T 213 #[.val (.long i0), .second, .val (.int i1), .val (.int i2), .val (.long j4), .second, .val (.long j6), .second, .val (.long j8), .second, .val (.long x), .second, .val (.int c0), .val (.int c1), .val (.ref t), .val (.int mm), .val (.ref a), .val (.ref t), .val (.int (1 : Int32)), .val (.ref u)] [(.int (1 : Int32))]
  refine o_if_eq P (hb hby at_213) (by decide) (pc' := 231) (by decide) (pcf := 216) rfl (fun q => absurd q (by decide)) (fun _ => ?_)
  refine o_aload P (hb hby at_216) rfl rfl (pc' := 218) rfl ?_
  refine o_callV P (W := 0) (x := (⟨"java/util/OptionalLong", "getAsLong", "()J"⟩ : MethodName)) (y := (⟨"java/util/OptionalLong", "getAsLong", "()J"⟩ : MethodName)) (a := u) (ow hw 120 rfl) (ow hw 121 rfl) (o_nfSel (y := (⟨"java/util/OptionalLong", "getAsLong", "()J"⟩ : MethodName)) rfl (ow hw 123 rfl)) (ow hw 123 rfl) (ow hw 122 rfl) (ow hw 102 rfl) (ow hw 124 rfl) (by decide) F_u.exa (ct_gAL l Z a0 hw EL n0 u x h6 F_u) o_sf0 (by rw [hml]; rfl) (by decide) (by decide) (argsL := []) (rest := []) (lenOf pd_14 rfl) rfl rfl (Nat.le_of_eq rfl) (hb hby at_218) (pc' := 221) rfl (by decide) (by decide) ?_
  clear P; intro T h7 v7 P K7 q7
  obtain ⟨rfl, rfl⟩ := q7; clear K7
  show OG p e below m _ T 221 #[.val (.long i0), .second, .val (.int i1), .val (.int i2), .val (.long j4), .second, .val (.long j6), .second, .val (.long j8), .second, .val (.long x), .second, .val (.int c0), .val (.int c1), .val (.ref t), .val (.int mm), .val (.ref a), .val (.ref t), .val (.int (1 : Int32)), .val (.ref u)] [(.long x)]
  refine o_lload P (hb hby at_221) rfl (pc' := 223) rfl ?_
  refine o_lcmp P (hb hby at_223) (pc' := 224) rfl ?_
  refine o_if_ne P (hb hby at_224) (by decide) (pc' := 231) (by decide) (pcf := 227) rfl (fun q => absurd ((lw_eq x x).mpr rfl) q) (fun _ => ?_)
  refine o_iconst P (1 : Int32) (hb hby at_227) rfl (pc' := 228) rfl ?_
  refine o_goto P (hb hby at_228) (by decide) (pc' := 232) (by decide) ?_
  exact o_retI P hret (by simp) rfl (hb hby at_232) (by decide) (by decide) rfl
set_option maxRecDepth 65536 in
set_option maxHeartbeats 40000000 in
theorem law146N {p : Program} {e : Env} {s : State} {m : MethodId} {args : Array Value} {below : List Frame} {meth : Method} {c : Code} {T : State} {n0 : Nat} {h0 : Heap} {Ow : List Addr} (l : Launch) (Z : State) (a0 : Array Value) (hw : ∀ d ∈ tables_1, d.before a0 Z = true) (EL : List (String × Nat)) (hby : c.code = code) (hml : c.maxLocals = maxLocals) (hret : meth.sig.returnType = ret) (i0 j4 j6 j8 x : Int64) (i1 i2 c0 c1 mm : Int32) (cv : Int32) (hcs : Sta Z Z.heap "java/lang/String" "COMPACT_STRINGS" "Z" (.int cv)) (hcv : ¬ cv = 0) (hfd : Sta Z Z.heap "com/example/patient_crawler/patientcrawler/Validators" "FIRST_DATE" "J" (.long (-62167219200 : Int64))) (hld : Sta Z Z.heap "com/example/patient_crawler/patientcrawler/Validators" "LAST_DATE" "J" (.long (253402300799 : Int64))) (ca : Addr) (cc : Cell) (hca : Sta Z Z.heap "java/lang/Long$LongCache" "cache" "[Ljava/lang/Long;" (.ref ca)) (hbx : Bxs Z ca cc "java/lang/Long" "J" (256 : Int32) (fun j => .long (j - 128).toInt64)) (em : Addr) (hem : Sta Z Z.heap "java/util/Optional" "EMPTY" "Ljava/util/Optional;" (.ref em)) (Fem : OObj Z Z.heap em "java/util/Optional" [("java/util/Optional", "value", "Ljava/lang/Object;", .null)]) (hx1 : ¬ x < (-62167219200 : Int64)) (hx2 : ¬ (253402300799 : Int64) < x)  (P : OPn p l e room_1 s m args below meth c Z a0 EL n0 [] "com/example/patient_crawler/patientcrawler/ValidatorsDatedPinLaw" T h0 Ow 6 40) :
    OG p e below m (OFq Z EL n0 s [] room_1 (fun w vm h => w = some (.int 1))) T 146 #[.val (.long i0), .second, .val (.int i1), .val (.int i2), .val (.long j4), .second, .val (.long j6), .second, .val (.long j8), .second, .val (.long x), .second, .val (.int c0), .val (.int c1), .val .null, .val (.int mm), .unset, .unset, .unset, .unset] [] := by
  refine o_aload P (hb hby at_146) rfl rfl (pc' := 148) rfl ?_
  refine o_lload P (hb hby at_148) rfl (pc' := 150) rfl ?_
  refine o_callS P (W := 0) (ow hw 28 rfl) (ow hw 29 rfl) (ow hw 30 rfl) (ow hw 31 rfl) (by decide) (ct_dated l Z a0 hw EL n0 .null x rfl rfl hfd hld hx1 hx2 ca cc hca hbx h0) o_sf0 (by rw [hml]; rfl) (by decide) (by decide) (argsL := [.null, (.long x)]) (rest := []) (lenOf pd_16 rfl) rfl rfl (Nat.le_of_eq rfl) (hb hby at_150) (pc' := 153) rfl (by decide) (by decide) ?_
  clear P; intro T h1 v1 P K1 q1
  obtain ⟨a, g, rfl, g1, F_a, F_g⟩ := q1
  show OG p e below m _ T 153 #[.val (.long i0), .second, .val (.int i1), .val (.int i2), .val (.long j4), .second, .val (.long j6), .second, .val (.long j8), .second, .val (.long x), .second, .val (.int c0), .val (.int c1), .val .null, .val (.int mm), .unset, .unset, .unset, .unset] [(.ref a)]
  refine o_astore P (hb hby at_153) rfl (L' := #[.val (.long i0), .second, .val (.int i1), .val (.int i2), .val (.long j4), .second, .val (.long j6), .second, .val (.long j8), .second, .val (.long x), .second, .val (.int c0), .val (.int c1), .val .null, .val (.int mm), .val (.ref a), .unset, .unset, .unset]) rfl (pc' := 155) rfl ?_
  refine o_aload P (hb hby at_155) rfl rfl (pc' := 157) rfl ?_
  refine o_callV P (W := 0) (x := (⟨"com/example/patient_crawler/patientcrawler/Validators", "etag", "()Ljava/util/Optional;"⟩ : MethodName)) (y := (⟨"com/example/patient_crawler/patientcrawler/Validators", "etag", "()Ljava/util/Optional;"⟩ : MethodName)) (a := a) (ow hw 59 rfl) (ow hw 60 rfl) (o_nfSel (y := (⟨"com/example/patient_crawler/patientcrawler/Validators", "etag", "()Ljava/util/Optional;"⟩ : MethodName)) rfl (ow hw 62 rfl)) (ow hw 62 rfl) (ow hw 61 rfl) (ow hw 30 rfl) (ow hw 63 rfl) (by decide) F_a.exa (ct_etagN l Z a0 hw EL n0 a g em hem Fem h1 F_a) o_sf0 (by rw [hml]; rfl) (by decide) (by decide) (argsL := []) (rest := []) (lenOf pd_17 rfl) rfl rfl (Nat.le_of_eq rfl) (hb hby at_157) (pc' := 160) rfl (by decide) (by decide) ?_
  clear P; intro T h2 v2 P K2 q2
  obtain ⟨o, rfl, F_o⟩ := q2
  replace F_a := F_a.keep K2 nin0
  replace F_g := F_g.keep K2 nin0
  show OG p e below m _ T 160 #[.val (.long i0), .second, .val (.int i1), .val (.int i2), .val (.long j4), .second, .val (.long j6), .second, .val (.long j8), .second, .val (.long x), .second, .val (.int c0), .val (.int c1), .val .null, .val (.int mm), .val (.ref a), .unset, .unset, .unset] [(.ref o)]
  refine o_aconstNull P (hb hby at_160) (pc' := 161) rfl ?_
  refine o_callV P (W := 0) (x := (⟨"java/util/Optional", "orElse", "(Ljava/lang/Object;)Ljava/lang/Object;"⟩ : MethodName)) (y := (⟨"java/util/Optional", "orElse", "(Ljava/lang/Object;)Ljava/lang/Object;"⟩ : MethodName)) (a := o) (ow hw 77 rfl) (ow hw 78 rfl) (o_nfSel (y := (⟨"java/util/Optional", "orElse", "(Ljava/lang/Object;)Ljava/lang/Object;"⟩ : MethodName)) rfl (ow hw 80 rfl)) (ow hw 80 rfl) (ow hw 79 rfl) (ow hw 66 rfl) (ow hw 81 rfl) (by decide) F_o.exa (ct_orEN l Z a0 hw EL n0 o h2 F_o) o_sf0 (by rw [hml]; rfl) (by decide) (by decide) (argsL := [.null]) (rest := []) (lenOf pd_18 rfl) rfl rfl (Nat.le_of_eq rfl) (hb hby at_161) (pc' := 164) rfl (by decide) (by decide) ?_
  clear P; intro T h3 v3 P K3 q3
  obtain ⟨rfl, rfl⟩ := q3; clear K3
  show OG p e below m _ T 164 #[.val (.long i0), .second, .val (.int i1), .val (.int i2), .val (.long j4), .second, .val (.long j6), .second, .val (.long j8), .second, .val (.long x), .second, .val (.int c0), .val (.int c1), .val .null, .val (.int mm), .val (.ref a), .unset, .unset, .unset] [.null]
  refine o_castNull P (hb hby at_164) (pc' := 167) rfl ?_
  refine o_astore P (hb hby at_167) rfl (L' := #[.val (.long i0), .second, .val (.int i1), .val (.int i2), .val (.long j4), .second, .val (.long j6), .second, .val (.long j8), .second, .val (.long x), .second, .val (.int c0), .val (.int c1), .val .null, .val (.int mm), .val (.ref a), .val .null, .unset, .unset]) rfl (pc' := 169) rfl ?_
  refine o_aload P (hb hby at_169) rfl rfl (pc' := 171) rfl ?_
  refine o_ifnonnullN P (hb hby at_171) (pc' := 174) rfl ?_
  refine o_aload P (hb hby at_174) rfl rfl (pc' := 176) rfl ?_
  refine o_ifnonnullN P (hb hby at_176) (pc' := 179) rfl ?_
  refine o_iconst P (1 : Int32) (hb hby at_179) rfl (pc' := 180) rfl ?_
  refine o_goto P (hb hby at_180) (by decide) (pc' := 194) (by decide) ?_
  refine o_istore P (hb hby at_194) (L' := #[.val (.long i0), .second, .val (.int i1), .val (.int i2), .val (.long j4), .second, .val (.long j6), .second, .val (.long j8), .second, .val (.long x), .second, .val (.int c0), .val (.int c1), .val .null, .val (.int mm), .val (.ref a), .val .null, .val (.int (1 : Int32)), .unset]) rfl (pc' := 196) rfl ?_
  refine o_aload P (hb hby at_196) rfl rfl (pc' := 198) rfl ?_
  refine o_callV P (W := 0) (x := (⟨"com/example/patient_crawler/patientcrawler/Validators", "lastModifiedSecond", "()Ljava/util/OptionalLong;"⟩ : MethodName)) (y := (⟨"com/example/patient_crawler/patientcrawler/Validators", "lastModifiedSecond", "()Ljava/util/OptionalLong;"⟩ : MethodName)) (a := a) (ow hw 88 rfl) (ow hw 89 rfl) (o_nfSel (y := (⟨"com/example/patient_crawler/patientcrawler/Validators", "lastModifiedSecond", "()Ljava/util/OptionalLong;"⟩ : MethodName)) rfl (ow hw 91 rfl)) (ow hw 91 rfl) (ow hw 90 rfl) (ow hw 30 rfl) (ow hw 92 rfl) (by decide) F_a.exa (ct_lms l Z a0 hw EL n0 a g .null x h3 F_a F_g) o_sf0 (by rw [hml]; rfl) (by decide) (by decide) (argsL := []) (rest := []) (lenOf pd_20 rfl) rfl rfl (Nat.le_of_eq rfl) (hb hby at_198) (pc' := 201) rfl (by decide) (by decide) ?_
  clear P; intro T h4 v4 P K4 q4
  obtain ⟨u, rfl, F_u⟩ := q4
  replace F_a := F_a.keep K4 nin0
  replace F_g := F_g.keep K4 nin0
  replace F_o := F_o.keep K4 nin0
  show OG p e below m _ T 201 #[.val (.long i0), .second, .val (.int i1), .val (.int i2), .val (.long j4), .second, .val (.long j6), .second, .val (.long j8), .second, .val (.long x), .second, .val (.int c0), .val (.int c1), .val .null, .val (.int mm), .val (.ref a), .val .null, .val (.int (1 : Int32)), .unset] [(.ref u)]
  refine o_astore P (hb hby at_201) rfl (L' := #[.val (.long i0), .second, .val (.int i1), .val (.int i2), .val (.long j4), .second, .val (.long j6), .second, .val (.long j8), .second, .val (.long x), .second, .val (.int c0), .val (.int c1), .val .null, .val (.int mm), .val (.ref a), .val .null, .val (.int (1 : Int32)), .val (.ref u)]) rfl (pc' := 203) rfl ?_
  refine o_iload P (hb hby at_203) rfl (pc' := 205) rfl ?_
  refine o_if_eq P (hb hby at_205) (by decide) (pc' := 231) (by decide) (pcf := 208) rfl (fun q => absurd q (by decide)) (fun _ => ?_)
  refine o_aload P (hb hby at_208) rfl rfl (pc' := 210) rfl ?_
  refine o_callV P (W := 0) (x := (⟨"java/util/OptionalLong", "isPresent", "()Z"⟩ : MethodName)) (y := (⟨"java/util/OptionalLong", "isPresent", "()Z"⟩ : MethodName)) (a := u) (ow hw 115 rfl) (ow hw 116 rfl) (o_nfSel (y := (⟨"java/util/OptionalLong", "isPresent", "()Z"⟩ : MethodName)) rfl (ow hw 118 rfl)) (ow hw 118 rfl) (ow hw 117 rfl) (ow hw 102 rfl) (ow hw 119 rfl) (by decide) F_u.exa (ct_isP l Z a0 hw EL n0 u x h4 F_u) o_sf0 (by rw [hml]; rfl) (by decide) (by decide) (argsL := []) (rest := []) (lenOf pd_21 rfl) rfl rfl (Nat.le_of_eq rfl) (hb hby at_210) (pc' := 213) rfl (by decide) (by decide) ?_
  clear P; intro T h5 v5 P K5 q5
  obtain ⟨rfl, rfl⟩ := q5; clear K5
  show OG p e below m _ T 213 #[.val (.long i0), .second, .val (.int i1), .val (.int i2), .val (.long j4), .second, .val (.long j6), .second, .val (.long j8), .second, .val (.long x), .second, .val (.int c0), .val (.int c1), .val .null, .val (.int mm), .val (.ref a), .val .null, .val (.int (1 : Int32)), .val (.ref u)] [(.int (1 : Int32))]
  refine o_if_eq P (hb hby at_213) (by decide) (pc' := 231) (by decide) (pcf := 216) rfl (fun q => absurd q (by decide)) (fun _ => ?_)
  refine o_aload P (hb hby at_216) rfl rfl (pc' := 218) rfl ?_
  refine o_callV P (W := 0) (x := (⟨"java/util/OptionalLong", "getAsLong", "()J"⟩ : MethodName)) (y := (⟨"java/util/OptionalLong", "getAsLong", "()J"⟩ : MethodName)) (a := u) (ow hw 120 rfl) (ow hw 121 rfl) (o_nfSel (y := (⟨"java/util/OptionalLong", "getAsLong", "()J"⟩ : MethodName)) rfl (ow hw 123 rfl)) (ow hw 123 rfl) (ow hw 122 rfl) (ow hw 102 rfl) (ow hw 124 rfl) (by decide) F_u.exa (ct_gAL l Z a0 hw EL n0 u x h5 F_u) o_sf0 (by rw [hml]; rfl) (by decide) (by decide) (argsL := []) (rest := []) (lenOf pd_14 rfl) rfl rfl (Nat.le_of_eq rfl) (hb hby at_218) (pc' := 221) rfl (by decide) (by decide) ?_
  clear P; intro T h6 v6 P K6 q6
  obtain ⟨rfl, rfl⟩ := q6; clear K6
  show OG p e below m _ T 221 #[.val (.long i0), .second, .val (.int i1), .val (.int i2), .val (.long j4), .second, .val (.long j6), .second, .val (.long j8), .second, .val (.long x), .second, .val (.int c0), .val (.int c1), .val .null, .val (.int mm), .val (.ref a), .val .null, .val (.int (1 : Int32)), .val (.ref u)] [(.long x)]
  refine o_lload P (hb hby at_221) rfl (pc' := 223) rfl ?_
  refine o_lcmp P (hb hby at_223) (pc' := 224) rfl ?_
  refine o_if_ne P (hb hby at_224) (by decide) (pc' := 231) (by decide) (pcf := 227) rfl (fun q => absurd ((lw_eq x x).mpr rfl) q) (fun _ => ?_)
  refine o_iconst P (1 : Int32) (hb hby at_227) rfl (pc' := 228) rfl ?_
  refine o_goto P (hb hby at_228) (by decide) (pc' := 232) (by decide) ?_
  exact o_retI P hret (by simp) rfl (hb hby at_232) (by decide) (by decide) rfl
set_option maxRecDepth 65536 in
set_option maxHeartbeats 40000000 in
theorem law52 {p : Program} {e : Env} {s : State} {m : MethodId} {args : Array Value} {below : List Frame} {meth : Method} {c : Code} {T : State} {n0 : Nat} {h0 : Heap} (l : Launch) (Z : State) (a0 : Array Value) (hw : ∀ d ∈ tables_1, d.before a0 Z = true) (EL : List (String × Nat)) (hby : c.code = code) (hml : c.maxLocals = maxLocals) (hret : meth.sig.returnType = ret) (i0 j4 j6 j8 x : Int64) (i1 i2 : Int32) (cv : Int32) (hcs : Sta Z Z.heap "java/lang/String" "COMPACT_STRINGS" "Z" (.int cv)) (hcv : ¬ cv = 0) (hfd : Sta Z Z.heap "com/example/patient_crawler/patientcrawler/Validators" "FIRST_DATE" "J" (.long (-62167219200 : Int64))) (hld : Sta Z Z.heap "com/example/patient_crawler/patientcrawler/Validators" "LAST_DATE" "J" (.long (253402300799 : Int64))) (ca : Addr) (cc : Cell) (hca : Sta Z Z.heap "java/lang/Long$LongCache" "cache" "[Ljava/lang/Long;" (.ref ca)) (hbx : Bxs Z ca cc "java/lang/Long" "J" (256 : Int32) (fun j => .long (j - 128).toInt64)) (em : Addr) (hem : Sta Z Z.heap "java/util/Optional" "EMPTY" "Ljava/util/Optional;" (.ref em)) (Fem : OObj Z Z.heap em "java/util/Optional" [("java/util/Optional", "value", "Ljava/lang/Object;", .null)]) (hx1 : ¬ x < (-62167219200 : Int64)) (hx2 : ¬ (253402300799 : Int64) < x) (hmem : ("java/lang/String", 7) ∈ EL) (P : OPn p l e room_1 s m args below meth c Z a0 EL n0 [] "com/example/patient_crawler/patientcrawler/ValidatorsDatedPinLaw" T h0 [] 0 0) :
    OG p e below m (OFq Z EL n0 s [] room_1 (fun w vm h => w = some (.int 1))) T 52 #[.val (.long i0), .second, .val (.int i1), .val (.int i2), .val (.long j4), .second, .val (.long j6), .second, .val (.long j8), .second, .val (.long x), .second, .unset, .unset, .unset, .unset, .unset, .unset, .unset, .unset] [] := by
  refine o_iloadN P (hb hby at_52) rfl (pc' := 53) rfl ?_
  refine o_sipush P (255 : Int32) (hb hby at_53) rfl (pc' := 56) rfl ?_
  refine o_iand P (hb hby at_56) (pc' := 57) rfl ?_
  refine o_i2c P (hb hby at_57) (pc' := 58) rfl ?_
  refine o_istore P (hb hby at_58) (L' := #[.val (.long i0), .second, .val (.int i1), .val (.int i2), .val (.long j4), .second, .val (.long j6), .second, .val (.long j8), .second, .val (.long x), .second, .val (.int ((i2 &&& (255 : Int32)).toUInt32.toUInt16.toUInt32.toInt32)), .unset, .unset, .unset, .unset, .unset, .unset, .unset]) rfl (pc' := 60) rfl ?_
  refine o_iloadN P (hb hby at_60) rfl (pc' := 61) rfl ?_
  refine o_bipush P (8 : Int32) (hb hby at_61) rfl (pc' := 63) rfl ?_
  refine o_iushr P (hb hby at_63) (pc' := 64) rfl ?_
  refine o_sipush P (255 : Int32) (hb hby at_64) rfl (pc' := 67) rfl ?_
  refine o_iand P (hb hby at_67) (pc' := 68) rfl ?_
  refine o_i2c P (hb hby at_68) (pc' := 69) rfl ?_
  refine o_istore P (hb hby at_69) (L' := #[.val (.long i0), .second, .val (.int i1), .val (.int i2), .val (.long j4), .second, .val (.long j6), .second, .val (.long j8), .second, .val (.long x), .second, .val (.int ((i2 &&& (255 : Int32)).toUInt32.toUInt16.toUInt32.toInt32)), .val (.int ((((i2.toUInt32 >>> ((8 : Int32) &&& 31).toUInt32).toInt32) &&& (255 : Int32)).toUInt32.toUInt16.toUInt32.toInt32)), .unset, .unset, .unset, .unset, .unset, .unset]) rfl (pc' := 71) rfl ?_
  refine o_iloadN P (hb hby at_71) rfl (pc' := 72) rfl ?_
  refine o_iconst P (3 : Int32) (hb hby at_72) rfl (pc' := 73) rfl ?_
  refine o_iand P (hb hby at_73) (pc' := 74) rfl ?_
  refine o_istore P (hb hby at_74) (L' := #[.val (.long i0), .second, .val (.int i1), .val (.int i2), .val (.long j4), .second, .val (.long j6), .second, .val (.long j8), .second, .val (.long x), .second, .val (.int ((i2 &&& (255 : Int32)).toUInt32.toUInt16.toUInt32.toInt32)), .val (.int ((((i2.toUInt32 >>> ((8 : Int32) &&& 31).toUInt32).toInt32) &&& (255 : Int32)).toUInt32.toUInt16.toUInt32.toInt32)), .unset, .val (.int (i1 &&& (3 : Int32))), .unset, .unset, .unset, .unset]) rfl (pc' := 76) rfl ?_
  refine o_iload P (hb hby at_76) rfl (pc' := 78) rfl ?_
  refine o_if_ne P (hb hby at_78) (by decide) (pc' := 87) (by decide) (pcf := 81) rfl (fun hm0 => ?_) (fun hm0 => ?_)
  · refine o_iload P (hb hby at_87) rfl (pc' := 89) rfl ?_
    refine o_iconst P (1 : Int32) (hb hby at_89) rfl (pc' := 90) rfl ?_
    refine o_icmp_ne P (hb hby at_90) (by decide) (pc' := 108) (by decide) (pcf := 93) rfl (fun hm1 => ?_) (fun hm1 => ?_)
    · refine o_iload P (hb hby at_108) rfl (pc' := 110) rfl ?_
      refine o_iconst P (2 : Int32) (hb hby at_110) rfl (pc' := 111) rfl ?_
      refine o_icmp_ne P (hb hby at_111) (by decide) (pc' := 124) (by decide) (pcf := 114) rfl (fun hm2 => ?_) (fun hm2 => ?_)
      · have hz_st := P.keep0.1
        refine o_new P [("java/lang/String", "value", "[B", .null), ("java/lang/String", "coder", "B", (.int (0 : Int32)))] (ow hw 82 rfl) (ow hw 12 rfl) (ow hw 4 rfl) (OLd.cons (Or.inr (ow hw 25 rfl)) (ty := (.array .byte)) (by decide) rfl (OLd.cons (Or.inr (ow hw 27 rfl)) (ty := .byte) (by decide) rfl OLd.nil)) (by decide +kernel) (hb hby at_124) (pc' := 127) rfl (by decide) (by decide) ?_
        clear P; intro T h1 st P K1 hb_st F_st
        have sz_st := Nat.le_trans hz_st hb_st
        clear hz_st
        clear K1
        refine o_dup P (hb hby at_127) rfl (pc' := 128) rfl ?_
        refine o_iconst P (2 : Int32) (hb hby at_128) rfl (pc' := 129) rfl ?_
        have hz_b2 := P.keep0.1
        refine o_newarr P (cap := 2) (ow hw 139 rfl) (hb hby at_129) (by decide) (by decide) (by decide) (pc' := 131) rfl (by decide) (by decide) ?_
        clear P; intro T h2 b2 P K2 hb_b2 A_b2
        have sz_b2 := Nat.le_trans hz_b2 hb_b2
        clear hz_b2
        have ne_st_b2 : st ≠ b2 := Nat.ne_of_lt (Nat.lt_of_lt_of_le F_st.lt hb_b2)
        replace F_st := F_st.keep K2 nin0
        clear K2
        replace A_b2 : OArr Z h2 b2 .char [(.int 0), (.int 0)] := A_b2
        refine o_dup P (hb hby at_131) rfl (pc' := 132) rfl ?_
        refine o_iconst P (0 : Int32) (hb hby at_132) rfl (pc' := 133) rfl ?_
        refine o_iload P (hb hby at_133) rfl (pc' := 135) rfl ?_
        refine o_castore P (v := (.int ((i2 &&& (255 : Int32)).toUInt32.toUInt16.toUInt32.toInt32))) A_b2 (List.Mem.head _) (by decide) (of_decide_eq_true rfl) (congrArg Value.int (o_nar_char (o_c16 (o_mask8 _)))) (hb hby at_135) (pc' := 136) rfl ?_
        clear P; clear A_b2; intro T h3 P W3 A_b2
        replace F_st := F_st.oth W3 ne_st_b2
        clear W3
        replace A_b2 : OArr Z h3 b2 .char [(.int ((i2 &&& (255 : Int32)).toUInt32.toUInt16.toUInt32.toInt32)), (.int 0)] := A_b2
        refine o_dup P (hb hby at_136) rfl (pc' := 137) rfl ?_
        refine o_iconst P (1 : Int32) (hb hby at_137) rfl (pc' := 138) rfl ?_
        refine o_iload P (hb hby at_138) rfl (pc' := 140) rfl ?_
        refine o_castore P (v := (.int ((((i2.toUInt32 >>> ((8 : Int32) &&& 31).toUInt32).toInt32) &&& (255 : Int32)).toUInt32.toUInt16.toUInt32.toInt32))) A_b2 (List.Mem.head _) (by decide) (of_decide_eq_true rfl) (congrArg Value.int (o_nar_char (o_c16 (o_mask8 _)))) (hb hby at_140) (pc' := 141) rfl ?_
        clear P; clear A_b2; intro T h4 P W4 A_b2
        replace F_st := F_st.oth W4 ne_st_b2
        clear W4
        replace A_b2 : OArr Z h4 b2 .char [(.int ((i2 &&& (255 : Int32)).toUInt32.toUInt16.toUInt32.toInt32)), (.int ((((i2.toUInt32 >>> ((8 : Int32) &&& 31).toUInt32).toInt32) &&& (255 : Int32)).toUInt32.toUInt16.toUInt32.toInt32))] := A_b2
        refine o_callI P (W := 1) (a := st) rfl (ow hw 140 rfl) (ow hw 141 rfl) (ow hw 4 rfl) (ow hw 142 rfl) (by decide) (ct_init1 l Z a0 hw EL n0 st b2 [((i2 &&& (255 : Int32)).toUInt32.toUInt16.toUInt32.toInt32), ((((i2.toUInt32 >>> ((8 : Int32) &&& 31).toUInt32).toInt32) &&& (255 : Int32)).toUInt32.toUInt16.toUInt32.toInt32)] cv hcs hcv h4 F_st A_b2 ne_st_b2 (OLat.cons (o_mask8 _) (OLat.cons (o_mask8 _) OLat.nil)) (of_decide_eq_true rfl) (of_decide_eq_true rfl)) (o_sfS (List.Mem.tail _ (List.Mem.head _)) o_sf0) (by rw [hml]; rfl) (by decide) (by decide) (argsL := [(.ref b2)]) (rest := [(.ref st)]) (lenOf pd_22 rfl) rfl rfl (Nat.le_of_eq rfl) (hb hby at_141) (pc' := 144) rfl (by decide) (by decide) ?_
        clear P; intro T h5 v5 P K5 q5
        obtain ⟨rfl, b, G⟩ := q5
        show OG p e below m _ T 144 #[.val (.long i0), .second, .val (.int i1), .val (.int i2), .val (.long j4), .second, .val (.long j6), .second, .val (.long j8), .second, .val (.long x), .second, .val (.int ((i2 &&& (255 : Int32)).toUInt32.toUInt16.toUInt32.toInt32)), .val (.int ((((i2.toUInt32 >>> ((8 : Int32) &&& 31).toUInt32).toInt32) &&& (255 : Int32)).toUInt32.toUInt16.toUInt32.toInt32)), .unset, .val (.int (i1 &&& (3 : Int32))), .unset, .unset, .unset, .unset] [(.ref st)]
        refine o_astore P (hb hby at_144) rfl (L' := #[.val (.long i0), .second, .val (.int i1), .val (.int i2), .val (.long j4), .second, .val (.long j6), .second, .val (.long j8), .second, .val (.long x), .second, .val (.int ((i2 &&& (255 : Int32)).toUInt32.toUInt16.toUInt32.toInt32)), .val (.int ((((i2.toUInt32 >>> ((8 : Int32) &&& 31).toUInt32).toInt32) &&& (255 : Int32)).toUInt32.toUInt16.toUInt32.toInt32)), .val (.ref st), .val (.int (i1 &&& (3 : Int32))), .unset, .unset, .unset, .unset]) rfl (pc' := 146) rfl ?_
        exact law146R l Z a0 hw EL hby hml hret i0 j4 j6 j8 x i1 i2 _ _ _ cv hcs hcv hfd hld ca cc hca hbx em hem Fem hx1 hx2 st (OObj.zero G.1.exa) (P.mono (by decide) (by decide))
      · refine o_iload P (hb hby at_114) rfl (pc' := 116) rfl ?_
        refine o_callS P (W := 0) (ow hw 2 rfl) (ow hw 3 rfl) (ow hw 4 rfl) (ow hw 5 rfl) (by decide) (ct_valC l Z a0 hw EL n0 ((i2 &&& (255 : Int32)).toUInt32.toUInt16.toUInt32.toInt32) (o_mask8 _) cv hcs hcv h0) o_sf0 (by rw [hml]; rfl) (by decide) (by decide) (argsL := [(.int ((i2 &&& (255 : Int32)).toUInt32.toUInt16.toUInt32.toInt32))]) (rest := []) (lenOf pd_23 rfl) rfl rfl (Nat.le_of_eq rfl) (hb hby at_116) (pc' := 119) rfl (by decide) (by decide) ?_
        clear P; intro T h1 v1 P K1 q1
        obtain ⟨st, d, rfl, g1, G⟩ := q1
        show OG p e below m _ T 119 #[.val (.long i0), .second, .val (.int i1), .val (.int i2), .val (.long j4), .second, .val (.long j6), .second, .val (.long j8), .second, .val (.long x), .second, .val (.int ((i2 &&& (255 : Int32)).toUInt32.toUInt16.toUInt32.toInt32)), .val (.int ((((i2.toUInt32 >>> ((8 : Int32) &&& 31).toUInt32).toInt32) &&& (255 : Int32)).toUInt32.toUInt16.toUInt32.toInt32)), .unset, .val (.int (i1 &&& (3 : Int32))), .unset, .unset, .unset, .unset] [(.ref st)]
        refine o_astore P (hb hby at_119) rfl (L' := #[.val (.long i0), .second, .val (.int i1), .val (.int i2), .val (.long j4), .second, .val (.long j6), .second, .val (.long j8), .second, .val (.long x), .second, .val (.int ((i2 &&& (255 : Int32)).toUInt32.toUInt16.toUInt32.toInt32)), .val (.int ((((i2.toUInt32 >>> ((8 : Int32) &&& 31).toUInt32).toInt32) &&& (255 : Int32)).toUInt32.toUInt16.toUInt32.toInt32)), .val (.ref st), .val (.int (i1 &&& (3 : Int32))), .unset, .unset, .unset, .unset]) rfl (pc' := 121) rfl ?_
        refine o_goto P (hb hby at_121) (by decide) (pc' := 146) (by decide) ?_
        exact law146R l Z a0 hw EL hby hml hret i0 j4 j6 j8 x i1 i2 _ _ _ cv hcs hcv hfd hld ca cc hca hbx em hem Fem hx1 hx2 st (OObj.zero G.1.exa) (P.mono (by decide) (by decide))
    · have hz_st := P.keep0.1
      refine o_new P [("java/lang/String", "value", "[B", .null), ("java/lang/String", "coder", "B", (.int (0 : Int32)))] (ow hw 82 rfl) (ow hw 12 rfl) (ow hw 4 rfl) (OLd.cons (Or.inr (ow hw 25 rfl)) (ty := (.array .byte)) (by decide) rfl (OLd.cons (Or.inr (ow hw 27 rfl)) (ty := .byte) (by decide) rfl OLd.nil)) (by decide +kernel) (hb hby at_93) (pc' := 96) rfl (by decide) (by decide) ?_
      clear P; intro T h1 st P K1 hb_st F_st
      have sz_st := Nat.le_trans hz_st hb_st
      clear hz_st
      clear K1
      refine o_dup P (hb hby at_96) rfl (pc' := 97) rfl ?_
      refine o_iconst P (0 : Int32) (hb hby at_97) rfl (pc' := 98) rfl ?_
      have hz_b2 := P.keep0.1
      refine o_newarr P (cap := 0) (ow hw 139 rfl) (hb hby at_98) (by decide) (by decide) (by decide) (pc' := 100) rfl (by decide) (by decide) ?_
      clear P; intro T h2 b2 P K2 hb_b2 A_b2
      have sz_b2 := Nat.le_trans hz_b2 hb_b2
      clear hz_b2
      have ne_st_b2 : st ≠ b2 := Nat.ne_of_lt (Nat.lt_of_lt_of_le F_st.lt hb_b2)
      replace F_st := F_st.keep K2 nin0
      clear K2
      replace A_b2 : OArr Z h2 b2 .char [] := A_b2
      refine o_callI P (W := 1) (a := st) rfl (ow hw 140 rfl) (ow hw 141 rfl) (ow hw 4 rfl) (ow hw 142 rfl) (by decide) (ct_init0 l Z a0 hw EL n0 st b2 h2 F_st A_b2 ne_st_b2 hmem) (o_sfS (List.Mem.tail _ (List.Mem.head _)) o_sf0) (by rw [hml]; rfl) (by decide) (by decide) (argsL := [(.ref b2)]) (rest := [(.ref st)]) (lenOf pd_22 rfl) rfl rfl (Nat.le_of_eq rfl) (hb hby at_100) (pc' := 103) rfl (by decide) (by decide) ?_
      clear P; intro T h3 v3 P K3 q3
      obtain ⟨rfl, b, G⟩ := q3
      show OG p e below m _ T 103 #[.val (.long i0), .second, .val (.int i1), .val (.int i2), .val (.long j4), .second, .val (.long j6), .second, .val (.long j8), .second, .val (.long x), .second, .val (.int ((i2 &&& (255 : Int32)).toUInt32.toUInt16.toUInt32.toInt32)), .val (.int ((((i2.toUInt32 >>> ((8 : Int32) &&& 31).toUInt32).toInt32) &&& (255 : Int32)).toUInt32.toUInt16.toUInt32.toInt32)), .unset, .val (.int (i1 &&& (3 : Int32))), .unset, .unset, .unset, .unset] [(.ref st)]
      refine o_astore P (hb hby at_103) rfl (L' := #[.val (.long i0), .second, .val (.int i1), .val (.int i2), .val (.long j4), .second, .val (.long j6), .second, .val (.long j8), .second, .val (.long x), .second, .val (.int ((i2 &&& (255 : Int32)).toUInt32.toUInt16.toUInt32.toInt32)), .val (.int ((((i2.toUInt32 >>> ((8 : Int32) &&& 31).toUInt32).toInt32) &&& (255 : Int32)).toUInt32.toUInt16.toUInt32.toInt32)), .val (.ref st), .val (.int (i1 &&& (3 : Int32))), .unset, .unset, .unset, .unset]) rfl (pc' := 105) rfl ?_
      refine o_goto P (hb hby at_105) (by decide) (pc' := 146) (by decide) ?_
      exact law146R l Z a0 hw EL hby hml hret i0 j4 j6 j8 x i1 i2 _ _ _ cv hcs hcv hfd hld ca cc hca hbx em hem Fem hx1 hx2 st (OObj.zero G.1.exa) (P.mono (by decide) (by decide))
  · refine o_aconstNull P (hb hby at_81) (pc' := 82) rfl ?_
    refine o_astore P (hb hby at_82) rfl (L' := #[.val (.long i0), .second, .val (.int i1), .val (.int i2), .val (.long j4), .second, .val (.long j6), .second, .val (.long j8), .second, .val (.long x), .second, .val (.int ((i2 &&& (255 : Int32)).toUInt32.toUInt16.toUInt32.toInt32)), .val (.int ((((i2.toUInt32 >>> ((8 : Int32) &&& 31).toUInt32).toInt32) &&& (255 : Int32)).toUInt32.toUInt16.toUInt32.toInt32)), .val .null, .val (.int (i1 &&& (3 : Int32))), .unset, .unset, .unset, .unset]) rfl (pc' := 84) rfl ?_
    refine o_goto P (hb hby at_84) (by decide) (pc' := 146) (by decide) ?_
    exact law146N l Z a0 hw EL hby hml hret i0 j4 j6 j8 x i1 i2 _ _ _ cv hcs hcv hfd hld ca cc hca hbx em hem Fem hx1 hx2 (P.mono (by decide) (by decide))
theorem ef_0 (x0 : Int64) (x1 : Int32) (x2 : Int32) (m : MethodId) : entryFrame m #[(.long x0), (.int x1), (.int x2)] maxLocals = mkF m 0 #[.val (.long x0), .second, .val (.int x1), .val (.int x2), .unset, .unset, .unset, .unset, .unset, .unset, .unset, .unset, .unset, .unset, .unset, .unset, .unset, .unset, .unset, .unset] [] := by first | (simp [entryFrame, mkF, argsToLocals, o_catR, o_catN, o_catI, o_catJ, o_catD, maxLocals]; done) | rfl
theorem own_mod (x : Int64) : ¬ ((-62167219200 : Int64) + ((x % 315569520000 + 315569520000) % 315569520000)) < (-62167219200 : Int64) ∧ ¬ (253402300799 : Int64) < ((-62167219200 : Int64) + ((x % 315569520000 + 315569520000) % 315569520000)) := by
  have r := rng64 x
  have zn : (315569520000 : Int64).toInt = 315569520000 := rfl
  have zf : (-62167219200 : Int64).toInt = -62167219200 := rfl
  have zl : (253402300799 : Int64).toInt = 253402300799 := rfl
  have e1 : (x % 315569520000).toInt = x.toInt.tmod 315569520000 := by rw [Int64.toInt_mod, zn]
  have b1 : -315569520000 < (x % 315569520000).toInt ∧ (x % 315569520000).toInt < 315569520000 := by
    rw [e1]; exact ⟨by have := Int.tmod_lt_of_pos (-x.toInt) (show (0 : Int) < 315569520000 by decide); rw [Int.neg_tmod] at this; omega, Int.tmod_lt_of_pos _ (by decide)⟩
  have e2 := c_ladd (x % 315569520000) 315569520000
  have r2 := rng64 (x % 315569520000 + 315569520000)
  rw [zn] at e2
  have e3 : (x % 315569520000 + 315569520000).toInt = (x % 315569520000).toInt + 315569520000 := by omega
  generalize hy : x % 315569520000 + 315569520000 = y at e3 r2 ⊢
  have e4 : (y % 315569520000).toInt = y.toInt.tmod 315569520000 := by rw [Int64.toInt_mod, zn]
  have b4 : 0 ≤ (y % 315569520000).toInt ∧ (y % 315569520000).toInt < 315569520000 := by
    rw [e4]; exact ⟨Int.tmod_nonneg _ (by omega), Int.tmod_lt_of_pos _ (by decide)⟩
  have e5 := c_ladd (-62167219200) (y % 315569520000)
  have r5 := rng64 ((-62167219200 : Int64) + y % 315569520000)
  rw [zf] at e5
  rw [Int64.lt_iff_toInt_lt, Int64.lt_iff_toInt_lt, zf, zl]
  omega
set_option maxRecDepth 65536 in
set_option maxHeartbeats 40000000 in
theorem rm0 (l : Launch) (Z : State) (a0 : Array Value) (hw : ∀ d ∈ tables_1, d.before a0 Z = true) (EL : List (String × Nat)) (n0 : Nat) (i0 : Int64) (i1 i2 : Int32) (cv : Int32) (hcs : Sta Z Z.heap "java/lang/String" "COMPACT_STRINGS" "Z" (.int cv)) (hcv : ¬ cv = 0) (hfd : Sta Z Z.heap "com/example/patient_crawler/patientcrawler/Validators" "FIRST_DATE" "J" (.long (-62167219200 : Int64))) (hld : Sta Z Z.heap "com/example/patient_crawler/patientcrawler/Validators" "LAST_DATE" "J" (.long (253402300799 : Int64))) (ca : Addr) (cc : Cell) (hca : Sta Z Z.heap "java/lang/Long$LongCache" "cache" "[Ljava/lang/Long;" (.ref ca)) (hbx : Bxs Z ca cc "java/lang/Long" "J" (256 : Int32) (fun j => .long (j - 128).toInt64)) (em : Addr) (hem : Sta Z Z.heap "java/util/Optional" "EMPTY" "Ljava/util/Optional;" (.ref em)) (Fem : OObj Z Z.heap em "java/util/Optional" [("java/util/Optional", "value", "Ljava/lang/Object;", .null)]) (hmem : ("java/lang/String", 7) ∈ EL) (h0 : Heap) :
    OCt l Z a0 EL n0 x code maxLocals ret room_1 tables_1 #[(.long i0), (.int i1), (.int i2)] h0 [] (fun w vm h => w = some (.int 1)) := by
  refine OCt.body (plainFor_of_name pn_L) (ef_0 i0 i1 i2) ?_
  intro p e s m below meth c T hby hml hret hnm hsh P
  refine o_ldc2L P (ow hw 0 rfl) (hb hby at_0) (pc' := 3) rfl ?_
  refine o_lstore P (hb hby at_3) (L' := #[.val (.long i0), .second, .val (.int i1), .val (.int i2), .val (.long (-62167219200 : Int64)), .second, .unset, .unset, .unset, .unset, .unset, .unset, .unset, .unset, .unset, .unset, .unset, .unset, .unset, .unset]) rfl (pc' := 5) rfl ?_
  refine o_ldc2L P (ow hw 1 rfl) (hb hby at_5) (pc' := 8) rfl ?_
  refine o_lstore P (hb hby at_8) (L' := #[.val (.long i0), .second, .val (.int i1), .val (.int i2), .val (.long (-62167219200 : Int64)), .second, .val (.long (253402300799 : Int64)), .second, .unset, .unset, .unset, .unset, .unset, .unset, .unset, .unset, .unset, .unset, .unset, .unset]) rfl (pc' := 10) rfl ?_
  refine o_lload P (hb hby at_10) rfl (pc' := 12) rfl ?_
  refine o_lload P (hb hby at_12) rfl (pc' := 14) rfl ?_
  refine o_lsub P (hb hby at_14) (pc' := 15) rfl ?_
  show OG p e below m _ T 15 #[.val (.long i0), .second, .val (.int i1), .val (.int i2), .val (.long (-62167219200 : Int64)), .second, .val (.long (253402300799 : Int64)), .second, .unset, .unset, .unset, .unset, .unset, .unset, .unset, .unset, .unset, .unset, .unset, .unset] [(.long (315569519999 : Int64))]
  refine o_lconst P (1 : Int64) (hb hby at_15) rfl (pc' := 16) rfl ?_
  refine o_ladd P (hb hby at_16) (pc' := 17) rfl ?_
  show OG p e below m _ T 17 #[.val (.long i0), .second, .val (.int i1), .val (.int i2), .val (.long (-62167219200 : Int64)), .second, .val (.long (253402300799 : Int64)), .second, .unset, .unset, .unset, .unset, .unset, .unset, .unset, .unset, .unset, .unset, .unset, .unset] [(.long (315569520000 : Int64))]
  refine o_lstore P (hb hby at_17) (L' := #[.val (.long i0), .second, .val (.int i1), .val (.int i2), .val (.long (-62167219200 : Int64)), .second, .val (.long (253402300799 : Int64)), .second, .val (.long (315569520000 : Int64)), .second, .unset, .unset, .unset, .unset, .unset, .unset, .unset, .unset, .unset, .unset]) rfl (pc' := 19) rfl ?_
  refine o_lloadN P (hb hby at_19) rfl (pc' := 20) rfl ?_
  refine o_lload P (hb hby at_20) rfl (pc' := 22) rfl ?_
  refine o_lcmp P (hb hby at_22) (pc' := 23) rfl ?_
  refine o_if_lt P (hb hby at_23) (by decide) (pc' := 37) (by decide) (pcf := 26) rfl (fun hl => ?_) (fun hl => ?_)
  · refine o_lload P (hb hby at_37) rfl (pc' := 39) rfl ?_
    refine o_lloadN P (hb hby at_39) rfl (pc' := 40) rfl ?_
    refine o_lload P (hb hby at_40) rfl (pc' := 42) rfl ?_
    refine o_lrem P (hb hby at_42) (by decide) (pc' := 43) rfl ?_
    refine o_lload P (hb hby at_43) rfl (pc' := 45) rfl ?_
    refine o_ladd P (hb hby at_45) (pc' := 46) rfl ?_
    refine o_lload P (hb hby at_46) rfl (pc' := 48) rfl ?_
    refine o_lrem P (hb hby at_48) (by decide) (pc' := 49) rfl ?_
    refine o_ladd P (hb hby at_49) (pc' := 50) rfl ?_
    refine o_lstore P (hb hby at_50) (L' := #[.val (.long i0), .second, .val (.int i1), .val (.int i2), .val (.long (-62167219200 : Int64)), .second, .val (.long (253402300799 : Int64)), .second, .val (.long (315569520000 : Int64)), .second, .val (.long ((-62167219200 : Int64) + (((i0 % (315569520000 : Int64)) + (315569520000 : Int64)) % (315569520000 : Int64)))), .second, .unset, .unset, .unset, .unset, .unset, .unset, .unset, .unset]) rfl (pc' := 52) rfl ?_
    exact law52 l Z a0 hw EL hby hml hret i0 _ _ _ _ i1 i2 cv hcs hcv hfd hld ca cc hca hbx em hem Fem (own_mod i0).1 (own_mod i0).2 hmem P
  · refine o_lloadN P (hb hby at_26) rfl (pc' := 27) rfl ?_
    refine o_lload P (hb hby at_27) rfl (pc' := 29) rfl ?_
    refine o_lcmp P (hb hby at_29) (pc' := 30) rfl ?_
    refine o_if_gt P (hb hby at_30) (by decide) (pc' := 37) (by decide) (pcf := 33) rfl (fun hg => ?_) (fun hg => ?_)
    · refine o_lload P (hb hby at_37) rfl (pc' := 39) rfl ?_
      refine o_lloadN P (hb hby at_39) rfl (pc' := 40) rfl ?_
      refine o_lload P (hb hby at_40) rfl (pc' := 42) rfl ?_
      refine o_lrem P (hb hby at_42) (by decide) (pc' := 43) rfl ?_
      refine o_lload P (hb hby at_43) rfl (pc' := 45) rfl ?_
      refine o_ladd P (hb hby at_45) (pc' := 46) rfl ?_
      refine o_lload P (hb hby at_46) rfl (pc' := 48) rfl ?_
      refine o_lrem P (hb hby at_48) (by decide) (pc' := 49) rfl ?_
      refine o_ladd P (hb hby at_49) (pc' := 50) rfl ?_
      refine o_lstore P (hb hby at_50) (L' := #[.val (.long i0), .second, .val (.int i1), .val (.int i2), .val (.long (-62167219200 : Int64)), .second, .val (.long (253402300799 : Int64)), .second, .val (.long (315569520000 : Int64)), .second, .val (.long ((-62167219200 : Int64) + (((i0 % (315569520000 : Int64)) + (315569520000 : Int64)) % (315569520000 : Int64)))), .second, .unset, .unset, .unset, .unset, .unset, .unset, .unset, .unset]) rfl (pc' := 52) rfl ?_
      exact law52 l Z a0 hw EL hby hml hret i0 _ _ _ _ i1 i2 cv hcs hcv hfd hld ca cc hca hbx em hem Fem (own_mod i0).1 (own_mod i0).2 hmem P
    · refine o_lloadN P (hb hby at_33) rfl (pc' := 34) rfl ?_
      refine o_goto P (hb hby at_34) (by decide) (pc' := 50) (by decide) ?_
      refine o_lstore P (hb hby at_50) (L' := #[.val (.long i0), .second, .val (.int i1), .val (.int i2), .val (.long (-62167219200 : Int64)), .second, .val (.long (253402300799 : Int64)), .second, .val (.long (315569520000 : Int64)), .second, .val (.long i0), .second, .unset, .unset, .unset, .unset, .unset, .unset, .unset, .unset]) rfl (pc' := 52) rfl ?_
      exact law52 l Z a0 hw EL hby hml hret i0 _ _ _ _ i1 i2 cv hcs hcv hfd hld ca cc hca hbx em hem Fem (fun q => hl ((lw_lt _ _).mpr q)) (fun q => hg ((lw_gt _ _).mpr q)) hmem P
set_option maxRecDepth 65536 in
set_option maxHeartbeats 40000000 in
theorem comes_1 {Post : Tables → Env → Array Value → State → Outcome → State → Prop} (hpost : ∀ tb e args s v u, (limb_1_1.after args s (.returned v) u = true ∧ limb_1_2.after args s (.returned v) u = true ∧ True) → ReturnedEndW s (.returned v) u (Jvm.fieldLocs frame_1_writes args s ++ Jvm.arrayLocs frame_1_arrays args s ++ Jvm.staticLocs frame_1_statics s) 24 1152 → Post tb e args s (.returned v) u) :
    ArmFor flags0 classFile x code maxLocals ret World_1 tables_1 room_1 Calls_1 rest_1 Pre_1 Post := by
  intro l hfl _ _ p e ha hc hk s m args below hf hA hF happ hP
  obtain ⟨hcalls, hrest, hpre⟩ := hP
  obtain ⟨-, -, -, hnamed, -, -, -, hat⟩ := (Spec.applies_iff hf).mp happ
  obtain ⟨hg, hn⟩ := and_e (Cond.before_iff.mp (show (Jvm.Cond.and given_1 narrow_1).before args s = true from hpre))
  obtain ⟨g0, hg⟩ := and_e hg
  obtain ⟨gv0, hg⟩ := and_e hg
  obtain ⟨gv1, hg⟩ := and_e hg
  have gv2 := hg
  obtain ⟨w0, w1, w2, rfl⟩ : ∃ w0 w1 w2 : Value, args = #[w0, w1, w2] := by
    have hs : args.size = 3 := by simpa [Cond.value, given_1] using g0
    obtain ⟨L⟩ := args
    match L, hs with
    | [w0, w1, w2], _ => exact ⟨w0, w1, w2, rfl⟩
  have hw := fun d (hd : d ∈ tables_1) => atoms_spec (ws := Jvm.Cond.code x code maxLocals ret :: tables_1) hat d (List.mem_cons_of_mem _ hd)
  have hfit : Fit s := fun {y c} hc i hi => by
    obtain ⟨ha, rfl⟩ := Array.getElem?_eq_some_iff.mp hc
    have q := List.all_eq_true.mp ((Array.all_eq_true_iff_forall_mem.mp hF) _ (Array.getElem_mem ha)) i (List.mem_range.mpr hi)
    simpa [Array.getElem?_eq_getElem hi] using q
  obtain ⟨hsets, hown0⟩ := atoms_of _ (rest_1_c_eq ▸ (show rest_1_c.before _ s = true from hrest))
  obtain ⟨i0, ei0⟩ := isL_v gv0
  obtain rfl : w0 = (.long i0) := Option.some.inj ei0
  obtain ⟨i1, ei1⟩ := is_v gv1
  obtain rfl : w1 = (.int i1) := Option.some.inj ei1
  obtain ⟨i2, ei2⟩ := is_v gv2
  obtain rfl : w2 = (.int i2) := Option.some.inj ei2
  have n3 := not_v (Cond.before_iff.mp (hsets _ (List.mem_of_getElem? (i := 2) rfl)))
  obtain ⟨cv, e6⟩ := is_v (Cond.before_iff.mp (hsets _ (List.mem_of_getElem? (i := 1) rfl)))
  have hcs : Sta s s.heap "java/lang/String" "COMPACT_STRINGS" "Z" (.int cv) := Sta.start e6 (Or.inl (hsets _ (List.mem_of_getElem? (i := 0) rfl)))
  have hcv : ¬ (cv = (0 : Int32)) := gotF (Cond.eq_ints e6 (Term.int_eval (0))) n3
  have hEW : EW s #[.long i0, .int i1, .int i2] [("java/lang/String", 7)] := EW.cons (ow hw 146 rfl) (by simp) EW.nil
  have hCH : CHv s [("java/lang/String", 7)] s.vm s.heap := CHv.start hEW (fun p hp => hcalls.1 p hp) (hsets _ (List.mem_of_getElem? (i := 2) rfl)) (ow hw 16 rfl) (ow hw 12 rfl)
  obtain ⟨hn1, hn2⟩ := and_e hn
  have hfd : Sta s s.heap "com/example/patient_crawler/patientcrawler/Validators" "FIRST_DATE" "J" (.long (-62167219200)) := Sta.start (eqv_l (long_at _) hn1) (Or.inr ⟨(ow hw 30 rfl), (ow hw 36 rfl)⟩)
  have hld : Sta s s.heap "com/example/patient_crawler/patientcrawler/Validators" "LAST_DATE" "J" (.long 253402300799) := Sta.start (eqv_l (long_at _) hn2) (Or.inr ⟨(ow hw 30 rfl), (ow hw 38 rfl)⟩)
  obtain ⟨ca, eca⟩ := exa_v (Cond.before_iff.mp (hsets _ (List.mem_of_getElem? (i := 12) rfl)))
  have hca : Sta s s.heap "java/lang/Long$LongCache" "cache" "[Ljava/lang/Long;" (.ref ca) := Sta.start eca (Or.inl (hsets _ (List.mem_of_getElem? (i := 10) rfl)))
  obtain ⟨cc, Acc⟩ := Arr.start eca (Cond.before_iff.mp (hsets _ (List.mem_of_getElem? (i := 11) rfl)))
  have hlen := o_len eca Acc (Cond.before_iff.mp (hsets _ (List.mem_of_getElem? (i := 13) rfl)))
  have hbx : Bxs s ca cc "java/lang/Long" "J" (256 : Int32) (fun j => .long (j - 128).toInt64) := Bxs.start (fun idx => eca) Acc hlen.1 hlen.2 (by decide) (Cond.before_iff.mp (hsets _ (List.mem_of_getElem? (i := 14) rfl))) (fun X j hj h => eqv_l (i2l_at (by simp [Term.eval, (back32 hj).1])) h)
  obtain ⟨em, eem⟩ := exa_v (Cond.before_iff.mp (hsets _ (List.mem_of_getElem? (i := 17) rfl)))
  have hem : Sta s s.heap "java/util/Optional" "EMPTY" "Ljava/util/Optional;" (.ref em) := Sta.start eem (Or.inl (hsets _ (List.mem_of_getElem? (i := 16) rfl)))
  have Fem := OObj.one (Exa.start eem (Cond.before_iff.mp (hsets _ (List.mem_of_getElem? (i := 17) rfl)))) (o_fnull eem (Cond.before_iff.mp (hsets _ (List.mem_of_getElem? (i := 18) rfl))))
  obtain ⟨n, o, h1, h2, h3, v, L, rfl, ⟨rfl, K, N⟩, hC, hH, hq⟩ := rm0 l s _ hw [("java/lang/String", 7)] s.heap.size i0 i1 i2 cv hcs hcv hfd hld ca cc hca hbx em hem Fem (List.Mem.head _) s.heap (Old.start s) hEW (fun _ q => nomatch q) p e ha hc hk s m _ below hf ((Spec.applies_iff_loose hf).mp happ).1 ⟨rfl, State.Warmed39.refl s, rfl, hCH, fun _ q => nomatch q⟩ trivial
  refine ⟨n, _, h1, h2, h3, hpost _ _ _ _ _ _ ⟨Cond.after_iff.mpr rfl, Cond.after_iff.mpr (eq_i res_at (Term.int_eval (1)) rfl), trivial⟩ ⟨hq.1, hq.2.1, hq.2.2.1, (hq.2.2.2.sift fun y hy => Or.inr (N y hy)).mono (by decide) (by decide)⟩⟩
theorem main_1_1 : Claimed_1_1 := comes_1 fun _ _ _ _ _ _ h hF => ⟨h.1, hF⟩
theorem main_1_2 : Claimed_1_2 := comes_1 fun _ _ _ _ _ _ h hF => ⟨h.2.1, hF⟩
end Jvm.Pilot.@@N@@
namespace Jvm.Pilot.@@N@@
open Jvm Jvm.ClassFile Sem Op Lib Jvm.Free Jvm.Stand Jvm.Pilot.@@N@@.Jvm.D
/-! MADE BY PROGRAM (witnessworld.py) out of the Statement's table words and the real class files: 26 classes; the members and pool entries that the words name. The judged class is class 1, her method 1. -/
namespace start1
open Jvm.ClassFile
def u (s : String) : CpInfo := .utf8 (stringToUtf16 s)
/-- a pool by its gaps: so many unusable entries, then the entry; so many at the end -/
def gap : Nat → List CpInfo → List CpInfo
  | 0, r => r
  | n + 1, r => .unusable :: gap n r
def poolList (es : List (Nat × CpInfo)) (last : Nat) : List CpInfo := es.foldr (fun e r => gap e.1 (e.2 :: r)) (gap last [])
def pool (es : List (Nat × CpInfo)) (last : Nat) : Array CpInfo := ⟨poolList es last⟩
def fileOf (pool : Array CpInfo) (this : Nat) (attrs : Array Attribute := #[]) (ms : Array MethodInfo := #[]) (fl : Nat := 33) (sup : Nat := 0) (ifs : Array Nat := #[]) (fds : Array FieldInfo := #[]) : ClassFile where
  minorVersion := 0
  majorVersion := 65
  constantPool := pool
  accessFlags := fl
  thisClass := this
  superClass := sup
  interfaces := ifs
  fields := fds
  methods := ms
  attributes := attrs
def plain (name : String) (sup : Option ClassId) : Class where
  name := name
  kind := .ordinary
  loader := none
  accessFlags := 33
  super := sup
  interfaces := #[]
  cf := none
  fields := #[]
  methods := #[]
  instanceTypes := #[]
  staticTypes := #[]
  resolved := #[]
  callSites := []
  init := .initialized
  statics := none
  mirror := none

def pool0 : Array CpInfo := pool [(5, u "<init>"), (0, u "()V"), (1, .class_ 10), (1, u "java/lang/Object")] 113

def k0c0 : Code := { maxStack := 0, maxLocals := 1, code := object_method_1_code, exceptionTable := #[], attributes := #[] }
def k0m0 : Method := { name := "<init>", desc := "()V", sig := { parameters := [], returnType := none }, accessFlags := 1, code := some k0c0 }
/-- java/lang/Object -/
def k0 : Class := { plain "java/lang/Object" none with
  accessFlags := 33
  interfaces := #[]
  cf := some (fileOf pool0 8 #[] #[{ accessFlags := 1, nameIndex := 5, descriptorIndex := 6, attributes := #[] }] 33 0 #[] #[])
  fields := #[]
  methods := #[k0m0]
  instanceTypes := #[]
  staticTypes := #[]
  resolved := Array.replicate 124 none
  statics := none }

def pool1 : Array CpInfo := pool [(2, .class_ 4), (1, u "java/lang/Object"), (0, u "<init>"), (0, u "()V"), (0, .long 18446744011542332416), (1, .long 253402300799), (1, .class_ 12), (0, u "java/lang/String"), (0, .methodref 11 14), (0, .nameAndType 5 15), (0, u "([C)V"), (0, .methodref 11 17), (0, .nameAndType 18 19), (0, u "valueOf"), (0, u "(C)Ljava/lang/String;"), (0, .methodref 21 22), (0, .class_ 23), (0, .nameAndType 24 25), (0, u "com/example/patient_crawler/patientcrawler/Validators"), (0, u "dated"), (0, u "(Ljava/lang/String;J)Lcom/example/patient_crawler/patientcrawler/Validators;"), (0, .methodref 21 27), (0, .nameAndType 28 29), (0, u "etag"), (0, u "()Ljava/util/Optional;"), (0, .methodref 31 32), (0, .class_ 33), (0, .nameAndType 34 35), (0, u "java/util/Optional"), (0, u "orElse"), (0, u "(Ljava/lang/Object;)Ljava/lang/Object;"), (0, .methodref 11 37), (0, .nameAndType 38 39), (0, u "equals"), (0, u "(Ljava/lang/Object;)Z"), (0, .methodref 21 41), (0, .nameAndType 42 43), (0, u "lastModifiedSecond"), (0, u "()Ljava/util/OptionalLong;"), (0, .methodref 45 46), (0, .class_ 47), (0, .nameAndType 48 49), (0, u "java/util/OptionalLong"), (0, u "isPresent"), (0, u "()Z"), (0, .methodref 45 51), (0, .nameAndType 52 53), (0, u "getAsLong"), (0, u "()J"), (0, .class_ 55), (0, u "com/example/patient_crawler/patientcrawler/ValidatorsDatedPinLaw"), (2, u "law"), (0, u "(JII)Z")] 3

def k1m0 : Method := { name := "<init>", desc := "()V", sig := { parameters := [], returnType := none }, accessFlags := 1, code := none }
def k1c1 : Code := { maxStack := 6, maxLocals := 20, code := code, exceptionTable := #[], attributes := #[] }
def k1m1 : Method := { name := "law", desc := "(JII)Z", sig := { parameters := [.long, .int, .int], returnType := some .boolean }, accessFlags := 9, code := some k1c1 }
/-- com/example/patient_crawler/patientcrawler/ValidatorsDatedPinLaw -/
def k1 : Class := { plain "com/example/patient_crawler/patientcrawler/ValidatorsDatedPinLaw" (some 0) with
  accessFlags := 49
  interfaces := #[]
  cf := some (fileOf pool1 54 #[] #[{ accessFlags := 1, nameIndex := 5, descriptorIndex := 6, attributes := #[] }, { accessFlags := 9, nameIndex := 58, descriptorIndex := 59, attributes := #[] }] 49 2 #[] #[])
  fields := #[]
  methods := #[k1m0, k1m1]
  instanceTypes := #[]
  staticTypes := #[]
  resolved := Array.replicate 63 none
  statics := none }

def pool2 : Array CpInfo := pool [(1, .class_ 2), (0, u "java/io/Serializable"), (0, .class_ 4), (0, u "java/lang/Object")] 2

/-- java/io/Serializable -/
def k2 : Class := { plain "java/io/Serializable" (some 0) with
  accessFlags := 1537
  interfaces := #[]
  cf := some (fileOf pool2 1 #[] #[] 1537 3 #[] #[])
  fields := #[]
  methods := #[]
  instanceTypes := #[]
  staticTypes := #[]
  resolved := Array.replicate 7 none
  statics := none }

def pool3 : Array CpInfo := pool [(1, .class_ 2), (0, u "java/lang/Comparable"), (0, .class_ 4), (0, u "java/lang/Object")] 7

/-- java/lang/Comparable -/
def k3 : Class := { plain "java/lang/Comparable" (some 0) with
  accessFlags := 1537
  interfaces := #[]
  cf := some (fileOf pool3 1 #[] #[] 1537 3 #[] #[])
  fields := #[]
  methods := #[]
  instanceTypes := #[]
  staticTypes := #[]
  resolved := Array.replicate 12 none
  statics := none }

def pool4 : Array CpInfo := pool [(2, .class_ 4), (1, u "java/lang/CharSequence"), (42, .class_ 48), (0, u "java/lang/CharSequence$1CodePointIterator"), (10, .class_ 60), (0, u "java/lang/CharSequence$1CharIterator"), (5, .class_ 67), (0, u "java/lang/Object")] 63

/-- java/lang/CharSequence -/
def k4 : Class := { plain "java/lang/CharSequence" (some 0) with
  accessFlags := 1537
  interfaces := #[]
  cf := some (fileOf pool4 2 #[.nestMembers #[47, 59]] #[] 1537 66 #[] #[])
  fields := #[]
  methods := #[]
  instanceTypes := #[]
  staticTypes := #[]
  resolved := Array.replicate 131 none
  statics := none }

def pool5 : Array CpInfo := pool [(1, .class_ 2), (0, u "java/lang/constant/Constable"), (0, .class_ 4), (0, u "java/lang/Object")] 6

/-- java/lang/constant/Constable -/
def k5 : Class := { plain "java/lang/constant/Constable" (some 0) with
  accessFlags := 1537
  interfaces := #[]
  cf := some (fileOf pool5 1 #[] #[] 1537 3 #[] #[])
  fields := #[]
  methods := #[]
  instanceTypes := #[]
  staticTypes := #[]
  resolved := Array.replicate 11 none
  statics := none }

def pool6 : Array CpInfo := pool [(1, .class_ 2), (0, u "java/lang/constant/ConstantDesc"), (0, .class_ 4), (0, u "java/lang/Object")] 32

/-- java/lang/constant/ConstantDesc -/
def k6 : Class := { plain "java/lang/constant/ConstantDesc" (some 0) with
  accessFlags := 1537
  interfaces := #[]
  cf := some (fileOf pool6 1 #[] #[] 1537 3 #[] #[])
  fields := #[]
  methods := #[]
  instanceTypes := #[]
  staticTypes := #[]
  resolved := Array.replicate 37 none
  statics := none }

def pool7 : Array CpInfo := pool [(1, .methodref 2 3), (0, .class_ 4), (0, .nameAndType 5 6), (0, u "java/lang/Object"), (0, u "<init>"), (0, u "()V"), (0, .string 8), (0, u ""), (0, .fieldref 10 11), (0, .class_ 12), (0, .nameAndType 13 14), (0, u "java/lang/String"), (0, u "value"), (0, u "[B"), (0, .fieldref 10 16), (0, .nameAndType 17 18), (0, u "coder"), (0, u "B"), (2, u "hash"), (0, u "I"), (2, u "hashIsZero"), (0, u "Z"), (0, .methodref 10 28), (0, .nameAndType 5 29), (0, u "([CIILjava/lang/Void;)V"), (8, .fieldref 10 39), (0, .nameAndType 40 26), (0, u "COMPACT_STRINGS"), (1, .class_ 44), (1, u "java/lang/StringUTF16"), (0, u "compress"), (1, .methodref 42 48), (0, .nameAndType 49 50), (0, u "coderFromArrayLen"), (0, u "([BI)B"), (2, u "toBytes"), (53, .class_ 109), (1, u "java/lang/StringLatin1"), (67, .methodref 42 178), (0, .nameAndType 45 179), (0, u "([CII)[B"), (29, .methodref 10 210), (0, .nameAndType 5 211), (0, u "([BB)V"), (157, u "(C)Z"), (173, u "equals"), (29, u "(Ljava/lang/Object;)Z"), (1, .class_ 576), (0, u "java/lang/CharSequence"), (22, u "CASE_INSENSITIVE_ORDER"), (0, u "Ljava/util/Comparator;"), (181, u "valueOf"), (0, u "(C)Ljava/lang/String;"), (226, u "([C)V"), (4, .methodref 107 1016), (0, .nameAndType 1017 369), (0, u "canEncode"), (0, .methodref 107 1019), (0, .nameAndType 53 1020), (0, u "(C)[B"), (80, u "serialPersistentFields"), (0, u "[Ljava/io/ObjectStreamField;"), (0, .class_ 1104), (0, u "java/lang/String$CaseInsensitiveComparator"), (1, .class_ 1107), (0, u "java/io/Serializable"), (0, .class_ 1109), (0, u "java/lang/Comparable"), (0, .class_ 1111), (0, u "java/lang/constant/Constable"), (0, .class_ 1113), (0, u "java/lang/constant/ConstantDesc"), (2, u "serialVersionUID"), (0, u "J"), (3, u "REPL"), (0, u "C"), (2, u "LATIN1"), (1, u "UTF16")] 323

def k7m0 : Method := { name := "<init>", desc := "()V", sig := { parameters := [], returnType := none }, accessFlags := 1, code := none }
def k7c1 : Code := { maxStack := 5, maxLocals := 2, code := jdk_42_method_3_code, exceptionTable := #[], attributes := #[] }
def k7m1 : Method := { name := "<init>", desc := "([C)V", sig := { parameters := [(.array .char)], returnType := none }, accessFlags := 1, code := some k7c1 }
def k7c2 : Code := { maxStack := 2, maxLocals := 3, code := jdk_42_method_66_code, exceptionTable := #[], attributes := #[] }
def k7m2 : Method := { name := "equals", desc := "(Ljava/lang/Object;)Z", sig := { parameters := [(.object "java/lang/Object")], returnType := some .boolean }, accessFlags := 1, code := some k7c2 }
def k7c3 : Code := { maxStack := 4, maxLocals := 1, code := jdk_42_method_139_code, exceptionTable := #[], attributes := #[] }
def k7m3 : Method := { name := "valueOf", desc := "(C)Ljava/lang/String;", sig := { parameters := [.char], returnType := some (.object "java/lang/String") }, accessFlags := 9, code := some k7c3 }
def k7c4 : Code := { maxStack := 4, maxLocals := 6, code := jdk_42_method_149_code, exceptionTable := #[], attributes := #[] }
def k7m4 : Method := { name := "<init>", desc := "([CIILjava/lang/Void;)V", sig := { parameters := [(.array .char), .int, .int, (.object "java/lang/Void")], returnType := none }, accessFlags := 2, code := some k7c4 }
def k7c5 : Code := { maxStack := 2, maxLocals := 3, code := jdk_42_method_151_code, exceptionTable := #[], attributes := #[] }
def k7m5 : Method := { name := "<init>", desc := "([BB)V", sig := { parameters := [(.array .byte), .byte], returnType := none }, accessFlags := 0, code := some k7c5 }
/-- java/lang/String -/
def k7 : Class := { plain "java/lang/String" (some 0) with
  accessFlags := 49
  interfaces := #[2, 3, 4, 5, 6]
  cf := some (fileOf pool7 10 #[.nestMembers #[1103]] #[{ accessFlags := 1, nameIndex := 5, descriptorIndex := 6, attributes := #[] }, { accessFlags := 1, nameIndex := 5, descriptorIndex := 1010, attributes := #[] }, { accessFlags := 1, nameIndex := 543, descriptorIndex := 573, attributes := #[] }, { accessFlags := 9, nameIndex := 782, descriptorIndex := 783, attributes := #[] }, { accessFlags := 2, nameIndex := 5, descriptorIndex := 29, attributes := #[] }, { accessFlags := 0, nameIndex := 5, descriptorIndex := 211, attributes := #[] }] 49 2 #[1106, 1108, 575, 1110, 1112] #[{ accessFlags := 18, nameIndex := 13, descriptorIndex := 14, attributes := #[] }, { accessFlags := 18, nameIndex := 17, descriptorIndex := 18, attributes := #[] }, { accessFlags := 2, nameIndex := 21, descriptorIndex := 22, attributes := #[] }, { accessFlags := 2, nameIndex := 25, descriptorIndex := 26, attributes := #[] }, { accessFlags := 26, nameIndex := 1116, descriptorIndex := 1117, attributes := #[] }, { accessFlags := 24, nameIndex := 40, descriptorIndex := 26, attributes := #[] }, { accessFlags := 26, nameIndex := 1101, descriptorIndex := 1102, attributes := #[] }, { accessFlags := 26, nameIndex := 1121, descriptorIndex := 1122, attributes := #[] }, { accessFlags := 25, nameIndex := 599, descriptorIndex := 600, attributes := #[] }, { accessFlags := 24, nameIndex := 1125, descriptorIndex := 18, attributes := #[] }, { accessFlags := 24, nameIndex := 1127, descriptorIndex := 18, attributes := #[] }])
  fields := #[{ name := "value", type := (.array .byte), accessFlags := 18, slot := 0, constantValue := 0 }, { name := "coder", type := .byte, accessFlags := 18, slot := 1, constantValue := 0 }, { name := "hash", type := .int, accessFlags := 2, slot := 2, constantValue := 0 }, { name := "hashIsZero", type := .boolean, accessFlags := 2, slot := 3, constantValue := 0 }, { name := "serialVersionUID", type := .long, accessFlags := 26, slot := 0, constantValue := 0 }, { name := "COMPACT_STRINGS", type := .boolean, accessFlags := 24, slot := 1, constantValue := 0 }, { name := "serialPersistentFields", type := (.array (.object "java/io/ObjectStreamField")), accessFlags := 26, slot := 2, constantValue := 0 }, { name := "REPL", type := .char, accessFlags := 26, slot := 3, constantValue := 0 }, { name := "CASE_INSENSITIVE_ORDER", type := (.object "java/util/Comparator"), accessFlags := 25, slot := 4, constantValue := 0 }, { name := "LATIN1", type := .byte, accessFlags := 24, slot := 5, constantValue := 0 }, { name := "UTF16", type := .byte, accessFlags := 24, slot := 6, constantValue := 0 }]
  methods := #[k7m0, k7m1, k7m2, k7m3, k7m4, k7m5]
  instanceTypes := #[(.array .byte), .byte, .int, .boolean]
  staticTypes := #[.long, .boolean, (.array (.object "java/io/ObjectStreamField")), .char, (.object "java/util/Comparator"), .byte, .byte]
  resolved := Array.replicate 1451 none
  statics := some 0 }

def pool8 : Array CpInfo := pool [(4, .class_ 6), (1, u "java/lang/Object"), (0, u "<init>"), (0, u "()V"), (5, .class_ 16), (1, u "java/lang/StringLatin1"), (73, u "canEncode"), (14, u "(C)Z"), (15, u "$assertionsDisabled"), (0, u "Z"), (98, .class_ 223), (1, u "java/lang/StringLatin1$LinesSpliterator"), (156, u "toBytes"), (1, u "(C)[B"), (7, .class_ 391), (0, u "java/lang/StringLatin1$CharsSpliterator")] 3

def k8m0 : Method := { name := "<init>", desc := "()V", sig := { parameters := [], returnType := none }, accessFlags := 0, code := none }
def k8c1 : Code := { maxStack := 2, maxLocals := 1, code := jdk_43_method_3_code, exceptionTable := #[], attributes := #[] }
def k8m1 : Method := { name := "canEncode", desc := "(C)Z", sig := { parameters := [.char], returnType := some .boolean }, accessFlags := 9, code := some k8c1 }
def k8c2 : Code := { maxStack := 4, maxLocals := 1, code := jdk_43_method_46_code, exceptionTable := #[], attributes := #[] }
def k8m2 : Method := { name := "toBytes", desc := "(C)[B", sig := { parameters := [.char], returnType := some (.array .byte) }, accessFlags := 9, code := some k8c2 }
/-- java/lang/StringLatin1 -/
def k8 : Class := { plain "java/lang/StringLatin1" (some 0) with
  accessFlags := 48
  interfaces := #[]
  cf := some (fileOf pool8 14 #[.nestMembers #[390, 221]] #[{ accessFlags := 0, nameIndex := 7, descriptorIndex := 8, attributes := #[] }, { accessFlags := 9, nameIndex := 90, descriptorIndex := 105, attributes := #[] }, { accessFlags := 9, nameIndex := 380, descriptorIndex := 382, attributes := #[] }] 48 4 #[] #[{ accessFlags := 4120, nameIndex := 121, descriptorIndex := 122, attributes := #[] }])
  fields := #[{ name := "$assertionsDisabled", type := .boolean, accessFlags := 4120, slot := 0, constantValue := 0 }]
  methods := #[k8m0, k8m1, k8m2]
  instanceTypes := #[]
  staticTypes := #[.boolean]
  resolved := Array.replicate 395 none
  statics := none }

def pool9 : Array CpInfo := pool [(2, .class_ 4), (1, u "com/example/patient_crawler/patientcrawler/Validators"), (2, .methodref 2 8), (0, .nameAndType 9 10), (0, u "<init>"), (0, u "(Ljava/lang/String;Ljava/lang/String;Ljava/lang/Long;)V"), (0, .methodref 12 13), (0, .class_ 14), (0, .nameAndType 9 15), (0, u "java/lang/Object"), (0, u "()V"), (0, .fieldref 2 17), (0, .nameAndType 18 19), (0, u "etag"), (0, u "Ljava/lang/String;"), (0, .fieldref 2 21), (0, .nameAndType 22 19), (0, u "lastModified"), (0, .fieldref 2 24), (0, .nameAndType 25 26), (0, u "lastModifiedSecond"), (0, u "Ljava/lang/Long;"), (9, .class_ 38), (1, u "java/util/Optional"), (9, .methodref 2 49), (0, .nameAndType 50 51), (0, u "imfFixdateNames"), (0, u "(J)Z"), (9, .methodref 62 63), (0, .class_ 64), (0, .nameAndType 65 66), (0, u "java/lang/Long"), (0, u "valueOf"), (0, u "(J)Ljava/lang/Long;"), (0, .methodref 36 68), (0, .nameAndType 69 70), (0, u "ofNullable"), (0, u "(Ljava/lang/Object;)Ljava/util/Optional;"), (2, u "IMF_FIXDATE"), (0, u "Ljava/time/format/DateTimeFormatter;"), (0, .methodref 62 76), (0, .nameAndType 77 78), (0, u "longValue"), (0, u "()J"), (20, u "of"), (1, .class_ 103), (1, u "java/util/OptionalLong"), (1, u "()Ljava/util/OptionalLong;"), (0, .methodref 101 107), (0, .nameAndType 99 108), (0, u "(J)Ljava/util/OptionalLong;"), (18, .fieldref 2 128), (0, .nameAndType 129 130), (0, u "FIRST_DATE"), (0, u "J"), (0, .fieldref 2 132), (0, .nameAndType 133 130), (0, u "LAST_DATE"), (2, u "NONE"), (0, u "Lcom/example/patient_crawler/patientcrawler/Validators;"), (28, u "IMF_FIXDATE_LENGTH"), (0, u "I"), (5, u "dated"), (0, u "(Ljava/lang/String;J)Lcom/example/patient_crawler/patientcrawler/Validators;"), (1, u "()Ljava/util/Optional;")] 22

def k9c0 : Code := { maxStack := 2, maxLocals := 4, code := prog_37_method_2_code, exceptionTable := #[], attributes := #[] }
def k9m0 : Method := { name := "<init>", desc := "(Ljava/lang/String;Ljava/lang/String;Ljava/lang/Long;)V", sig := { parameters := [(.object "java/lang/String"), (.object "java/lang/String"), (.object "java/lang/Long")], returnType := none }, accessFlags := 2, code := some k9c0 }
def k9c1 : Code := { maxStack := 6, maxLocals := 3, code := prog_37_method_4_code, exceptionTable := #[], attributes := #[] }
def k9m1 : Method := { name := "dated", desc := "(Ljava/lang/String;J)Lcom/example/patient_crawler/patientcrawler/Validators;", sig := { parameters := [(.object "java/lang/String"), .long], returnType := some (.object "com/example/patient_crawler/patientcrawler/Validators") }, accessFlags := 8, code := some k9c1 }
def k9c2 : Code := { maxStack := 1, maxLocals := 1, code := prog_37_method_5_code, exceptionTable := #[], attributes := #[] }
def k9m2 : Method := { name := "etag", desc := "()Ljava/util/Optional;", sig := { parameters := [], returnType := some (.object "java/util/Optional") }, accessFlags := 1, code := some k9c2 }
def k9c3 : Code := { maxStack := 2, maxLocals := 1, code := prog_37_method_7_code, exceptionTable := #[], attributes := #[] }
def k9m3 : Method := { name := "lastModifiedSecond", desc := "()Ljava/util/OptionalLong;", sig := { parameters := [], returnType := some (.object "java/util/OptionalLong") }, accessFlags := 0, code := some k9c3 }
def k9c4 : Code := { maxStack := 4, maxLocals := 2, code := prog_37_method_10_code, exceptionTable := #[], attributes := #[] }
def k9m4 : Method := { name := "imfFixdateNames", desc := "(J)Z", sig := { parameters := [.long], returnType := some .boolean }, accessFlags := 10, code := some k9c4 }
/-- com/example/patient_crawler/patientcrawler/Validators -/
def k9 : Class := { plain "com/example/patient_crawler/patientcrawler/Validators" (some 0) with
  accessFlags := 33
  interfaces := #[]
  cf := some (fileOf pool9 2 #[] #[{ accessFlags := 2, nameIndex := 9, descriptorIndex := 10, attributes := #[] }, { accessFlags := 8, nameIndex := 173, descriptorIndex := 174, attributes := #[] }, { accessFlags := 1, nameIndex := 18, descriptorIndex := 176, attributes := #[] }, { accessFlags := 0, nameIndex := 25, descriptorIndex := 105, attributes := #[] }, { accessFlags := 10, nameIndex := 50, descriptorIndex := 51, attributes := #[] }] 33 12 #[] #[{ accessFlags := 25, nameIndex := 136, descriptorIndex := 137, attributes := #[] }, { accessFlags := 26, nameIndex := 73, descriptorIndex := 74, attributes := #[] }, { accessFlags := 26, nameIndex := 166, descriptorIndex := 167, attributes := #[] }, { accessFlags := 26, nameIndex := 129, descriptorIndex := 130, attributes := #[] }, { accessFlags := 26, nameIndex := 133, descriptorIndex := 130, attributes := #[] }, { accessFlags := 18, nameIndex := 18, descriptorIndex := 19, attributes := #[] }, { accessFlags := 18, nameIndex := 22, descriptorIndex := 19, attributes := #[] }, { accessFlags := 18, nameIndex := 25, descriptorIndex := 26, attributes := #[] }])
  fields := #[{ name := "NONE", type := (.object "com/example/patient_crawler/patientcrawler/Validators"), accessFlags := 25, slot := 0, constantValue := 0 }, { name := "IMF_FIXDATE", type := (.object "java/time/format/DateTimeFormatter"), accessFlags := 26, slot := 1, constantValue := 0 }, { name := "IMF_FIXDATE_LENGTH", type := .int, accessFlags := 26, slot := 2, constantValue := 0 }, { name := "FIRST_DATE", type := .long, accessFlags := 26, slot := 3, constantValue := 0 }, { name := "LAST_DATE", type := .long, accessFlags := 26, slot := 4, constantValue := 0 }, { name := "etag", type := (.object "java/lang/String"), accessFlags := 18, slot := 0, constantValue := 0 }, { name := "lastModified", type := (.object "java/lang/String"), accessFlags := 18, slot := 1, constantValue := 0 }, { name := "lastModifiedSecond", type := (.object "java/lang/Long"), accessFlags := 18, slot := 2, constantValue := 0 }]
  methods := #[k9m0, k9m1, k9m2, k9m3, k9m4]
  instanceTypes := #[(.object "java/lang/String"), (.object "java/lang/String"), (.object "java/lang/Long")]
  staticTypes := #[(.object "com/example/patient_crawler/patientcrawler/Validators"), (.object "java/time/format/DateTimeFormatter"), .int, .long, .long]
  resolved := Array.replicate 199 none
  statics := some 1 }

def pool10 : Array CpInfo := pool [(1, .methodref 2 3), (0, .class_ 4), (0, .nameAndType 5 6), (0, u "java/lang/Object"), (0, u "<init>"), (0, u "()V"), (1, .class_ 10), (1, u "java/lang/Number"), (2, .class_ 14), (0, u "java/io/Serializable"), (0, u "serialVersionUID"), (0, u "J")] 20

def k10c0 : Code := { maxStack := 1, maxLocals := 1, code := jdk_18_method_1_code, exceptionTable := #[], attributes := #[] }
def k10m0 : Method := { name := "<init>", desc := "()V", sig := { parameters := [], returnType := none }, accessFlags := 1, code := some k10c0 }
/-- java/lang/Number -/
def k10 : Class := { plain "java/lang/Number" (some 0) with
  accessFlags := 1057
  interfaces := #[2]
  cf := some (fileOf pool10 8 #[] #[{ accessFlags := 1, nameIndex := 5, descriptorIndex := 6, attributes := #[] }] 1057 2 #[13] #[{ accessFlags := 26, nameIndex := 15, descriptorIndex := 16, attributes := #[] }])
  fields := #[{ name := "serialVersionUID", type := .long, accessFlags := 26, slot := 0, constantValue := 0 }]
  methods := #[k10m0]
  instanceTypes := #[]
  staticTypes := #[.long]
  resolved := Array.replicate 37 none
  statics := none }

def pool11 : Array CpInfo := pool [(1, .class_ 2), (0, u "java/lang/Long"), (55, .nameAndType 59 60), (0, u "<init>"), (0, u "()V"), (24, u "valueOf"), (143, u "(J)Ljava/lang/Long;"), (0, .long 18446744073709551488), (1, .long 127), (1, .fieldref 235 236), (0, .class_ 237), (0, .nameAndType 238 239), (0, u "java/lang/Long$LongCache"), (0, u "cache"), (0, u "[Ljava/lang/Long;"), (0, .methodref 1 241), (0, .nameAndType 59 242), (0, u "(J)V"), (27, .methodref 271 58), (0, .class_ 272), (0, u "java/lang/Number"), (0, .fieldref 1 274), (0, .nameAndType 275 276), (0, u "value"), (0, u "J"), (5, u "longValue"), (0, u "()J"), (77, u "TYPE"), (0, u "Ljava/lang/Class;"), (0, .class_ 364), (0, u "java/lang/Comparable"), (0, .class_ 366), (0, u "java/lang/constant/Constable"), (0, .class_ 368), (0, u "java/lang/constant/ConstantDesc"), (0, u "MIN_VALUE"), (1, u "MAX_VALUE"), (4, u "SIZE"), (0, u "I"), (1, u "BYTES"), (1, u "serialVersionUID")] 142

def k11c0 : Code := { maxStack := 4, maxLocals := 3, code := jdk_35_method_24_code, exceptionTable := #[], attributes := #[] }
def k11m0 : Method := { name := "valueOf", desc := "(J)Ljava/lang/Long;", sig := { parameters := [.long], returnType := some (.object "java/lang/Long") }, accessFlags := 9, code := some k11c0 }
def k11c1 : Code := { maxStack := 3, maxLocals := 3, code := jdk_35_method_26_code, exceptionTable := #[], attributes := #[] }
def k11m1 : Method := { name := "<init>", desc := "(J)V", sig := { parameters := [.long], returnType := none }, accessFlags := 1, code := some k11c1 }
def k11c2 : Code := { maxStack := 2, maxLocals := 1, code := jdk_35_method_31_code, exceptionTable := #[], attributes := #[] }
def k11m2 : Method := { name := "longValue", desc := "()J", sig := { parameters := [], returnType := some .long }, accessFlags := 1, code := some k11c2 }
/-- java/lang/Long -/
def k11 : Class := { plain "java/lang/Long" (some 10) with
  accessFlags := 49
  interfaces := #[3, 5, 6]
  cf := some (fileOf pool11 1 #[.nestMembers #[235]] #[{ accessFlags := 9, nameIndex := 85, descriptorIndex := 229, attributes := #[] }, { accessFlags := 1, nameIndex := 59, descriptorIndex := 242, attributes := #[] }, { accessFlags := 1, nameIndex := 282, descriptorIndex := 283, attributes := #[] }] 49 271 #[363, 365, 367] #[{ accessFlags := 25, nameIndex := 369, descriptorIndex := 276, attributes := #[] }, { accessFlags := 25, nameIndex := 371, descriptorIndex := 276, attributes := #[] }, { accessFlags := 25, nameIndex := 361, descriptorIndex := 362, attributes := #[] }, { accessFlags := 18, nameIndex := 275, descriptorIndex := 276, attributes := #[] }, { accessFlags := 25, nameIndex := 376, descriptorIndex := 377, attributes := #[] }, { accessFlags := 25, nameIndex := 379, descriptorIndex := 377, attributes := #[] }, { accessFlags := 26, nameIndex := 381, descriptorIndex := 276, attributes := #[] }])
  fields := #[{ name := "MIN_VALUE", type := .long, accessFlags := 25, slot := 0, constantValue := 0 }, { name := "MAX_VALUE", type := .long, accessFlags := 25, slot := 1, constantValue := 0 }, { name := "TYPE", type := (.object "java/lang/Class"), accessFlags := 25, slot := 2, constantValue := 0 }, { name := "value", type := .long, accessFlags := 18, slot := 0, constantValue := 0 }, { name := "SIZE", type := .int, accessFlags := 25, slot := 3, constantValue := 0 }, { name := "BYTES", type := .int, accessFlags := 25, slot := 4, constantValue := 0 }, { name := "serialVersionUID", type := .long, accessFlags := 26, slot := 5, constantValue := 0 }]
  methods := #[k11m0, k11m1, k11m2]
  instanceTypes := #[.long]
  staticTypes := #[.long, .long, (.object "java/lang/Class"), .int, .int, .long]
  resolved := Array.replicate 524 none
  statics := none }

def pool12 : Array CpInfo := pool [(2, .class_ 4), (1, u "java/lang/Object"), (0, u "<init>"), (0, u "()V"), (0, .class_ 8), (0, u "java/lang/Long"), (7, .class_ 18), (1, u "java/lang/Long$LongCache"), (0, u "$assertionsDisabled"), (0, u "Z"), (8, u "archivedCache"), (0, u "[Ljava/lang/Long;"), (7, u "cache")] 24

def k12m0 : Method := { name := "<init>", desc := "()V", sig := { parameters := [], returnType := none }, accessFlags := 2, code := none }
/-- java/lang/Long$LongCache -/
def k12 : Class := { plain "java/lang/Long$LongCache" (some 0) with
  accessFlags := 48
  interfaces := #[]
  cf := some (fileOf pool12 16 #[.nestHost 7] #[{ accessFlags := 2, nameIndex := 5, descriptorIndex := 6, attributes := #[] }] 48 2 #[] #[{ accessFlags := 24, nameIndex := 38, descriptorIndex := 30, attributes := #[] }, { accessFlags := 8, nameIndex := 29, descriptorIndex := 30, attributes := #[] }, { accessFlags := 4120, nameIndex := 19, descriptorIndex := 20, attributes := #[] }])
  fields := #[{ name := "cache", type := (.array (.object "java/lang/Long")), accessFlags := 24, slot := 0, constantValue := 0 }, { name := "archivedCache", type := (.array (.object "java/lang/Long")), accessFlags := 8, slot := 1, constantValue := 0 }, { name := "$assertionsDisabled", type := .boolean, accessFlags := 4120, slot := 2, constantValue := 0 }]
  methods := #[k12m0]
  instanceTypes := #[]
  staticTypes := #[(.array (.object "java/lang/Long")), (.array (.object "java/lang/Long")), .boolean]
  resolved := Array.replicate 63 none
  statics := some 2 }

def pool13 : Array CpInfo := pool [(1, .fieldref 2 3), (0, .class_ 4), (0, .nameAndType 5 6), (0, u "java/util/Optional"), (0, u "EMPTY"), (0, u "Ljava/util/Optional;"), (0, .methodref 8 9), (0, .class_ 10), (0, .nameAndType 11 12), (0, u "java/lang/Object"), (0, u "<init>"), (0, u "()V"), (0, .fieldref 2 14), (0, .nameAndType 15 16), (0, u "value"), (0, u "Ljava/lang/Object;"), (5, u "(Ljava/lang/Object;)Ljava/lang/Object;"), (0, .methodref 2 24), (0, .nameAndType 11 25), (0, u "(Ljava/lang/Object;)V"), (38, u "ofNullable"), (0, u "(Ljava/lang/Object;)Ljava/util/Optional;"), (99, u "orElse")] 21

def k13c0 : Code := { maxStack := 2, maxLocals := 2, code := jdk_32_method_2_code, exceptionTable := #[], attributes := #[] }
def k13m0 : Method := { name := "<init>", desc := "(Ljava/lang/Object;)V", sig := { parameters := [(.object "java/lang/Object")], returnType := none }, accessFlags := 2, code := some k13c0 }
def k13c1 : Code := { maxStack := 3, maxLocals := 1, code := jdk_32_method_4_code, exceptionTable := #[], attributes := #[] }
def k13m1 : Method := { name := "ofNullable", desc := "(Ljava/lang/Object;)Ljava/util/Optional;", sig := { parameters := [(.object "java/lang/Object")], returnType := some (.object "java/util/Optional") }, accessFlags := 9, code := some k13c1 }
def k13c2 : Code := { maxStack := 1, maxLocals := 2, code := jdk_32_method_15_code, exceptionTable := #[], attributes := #[] }
def k13m2 : Method := { name := "orElse", desc := "(Ljava/lang/Object;)Ljava/lang/Object;", sig := { parameters := [(.object "java/lang/Object")], returnType := some (.object "java/lang/Object") }, accessFlags := 1, code := some k13c2 }
/-- java/util/Optional -/
def k13 : Class := { plain "java/util/Optional" (some 0) with
  accessFlags := 49
  interfaces := #[]
  cf := some (fileOf pool13 2 #[] #[{ accessFlags := 2, nameIndex := 11, descriptorIndex := 25, attributes := #[] }, { accessFlags := 9, nameIndex := 64, descriptorIndex := 65, attributes := #[] }, { accessFlags := 1, nameIndex := 165, descriptorIndex := 22, attributes := #[] }] 49 8 #[] #[{ accessFlags := 26, nameIndex := 5, descriptorIndex := 6, attributes := #[] }, { accessFlags := 18, nameIndex := 15, descriptorIndex := 16, attributes := #[] }])
  fields := #[{ name := "EMPTY", type := (.object "java/util/Optional"), accessFlags := 26, slot := 0, constantValue := 0 }, { name := "value", type := (.object "java/lang/Object"), accessFlags := 18, slot := 0, constantValue := 0 }]
  methods := #[k13m0, k13m1, k13m2]
  instanceTypes := #[(.object "java/lang/Object")]
  staticTypes := #[(.object "java/util/Optional")]
  resolved := Array.replicate 187 none
  statics := some 3 }

def pool14 : Array CpInfo := pool [(1, .methodref 2 3), (0, .class_ 4), (0, .nameAndType 5 6), (0, u "java/lang/Object"), (0, u "<init>"), (0, u "()V"), (0, .fieldref 8 9), (0, .class_ 10), (0, .nameAndType 11 12), (0, u "java/util/OptionalLong"), (0, u "isPresent"), (0, u "Z"), (0, .fieldref 8 14), (0, .nameAndType 15 16), (0, u "value"), (0, u "J"), (2, u "EMPTY"), (0, u "Ljava/util/OptionalLong;"), (0, .methodref 8 22), (0, .nameAndType 5 23), (0, u "(J)V"), (21, u "of"), (9, u "getAsLong"), (0, u "()J"), (40, u "(J)Ljava/util/OptionalLong;"), (1, u "()Z")] 38

def k14m0 : Method := { name := "<init>", desc := "()V", sig := { parameters := [], returnType := none }, accessFlags := 2, code := none }
def k14c1 : Code := { maxStack := 3, maxLocals := 3, code := jdk_2650_method_3_code, exceptionTable := #[], attributes := #[] }
def k14m1 : Method := { name := "<init>", desc := "(J)V", sig := { parameters := [.long], returnType := none }, accessFlags := 2, code := some k14c1 }
def k14c2 : Code := { maxStack := 4, maxLocals := 2, code := jdk_2650_method_4_code, exceptionTable := #[], attributes := #[] }
def k14m2 : Method := { name := "of", desc := "(J)Ljava/util/OptionalLong;", sig := { parameters := [.long], returnType := some (.object "java/util/OptionalLong") }, accessFlags := 9, code := some k14c2 }
def k14c3 : Code := { maxStack := 3, maxLocals := 1, code := jdk_2650_method_5_code, exceptionTable := #[], attributes := #[] }
def k14m3 : Method := { name := "getAsLong", desc := "()J", sig := { parameters := [], returnType := some .long }, accessFlags := 1, code := some k14c3 }
def k14c4 : Code := { maxStack := 1, maxLocals := 1, code := jdk_2650_method_6_code, exceptionTable := #[], attributes := #[] }
def k14m4 : Method := { name := "isPresent", desc := "()Z", sig := { parameters := [], returnType := some .boolean }, accessFlags := 1, code := some k14c4 }
/-- java/util/OptionalLong -/
def k14 : Class := { plain "java/util/OptionalLong" (some 0) with
  accessFlags := 49
  interfaces := #[]
  cf := some (fileOf pool14 8 #[] #[{ accessFlags := 2, nameIndex := 5, descriptorIndex := 6, attributes := #[] }, { accessFlags := 2, nameIndex := 5, descriptorIndex := 23, attributes := #[] }, { accessFlags := 9, nameIndex := 45, descriptorIndex := 97, attributes := #[] }, { accessFlags := 1, nameIndex := 55, descriptorIndex := 56, attributes := #[] }, { accessFlags := 1, nameIndex := 11, descriptorIndex := 99, attributes := #[] }] 49 2 #[] #[{ accessFlags := 26, nameIndex := 19, descriptorIndex := 20, attributes := #[] }, { accessFlags := 18, nameIndex := 11, descriptorIndex := 12, attributes := #[] }, { accessFlags := 18, nameIndex := 15, descriptorIndex := 16, attributes := #[] }])
  fields := #[{ name := "EMPTY", type := (.object "java/util/OptionalLong"), accessFlags := 26, slot := 0, constantValue := 0 }, { name := "isPresent", type := .boolean, accessFlags := 18, slot := 0, constantValue := 0 }, { name := "value", type := .long, accessFlags := 18, slot := 1, constantValue := 0 }]
  methods := #[k14m0, k14m1, k14m2, k14m3, k14m4]
  instanceTypes := #[.boolean, .long]
  staticTypes := #[(.object "java/util/OptionalLong")]
  resolved := Array.replicate 138 none
  statics := none }

def pool15 : Array CpInfo := pool [(6, .class_ 8), (1, u "java/lang/Object"), (0, u "<init>"), (0, u "()V"), (1, .class_ 14), (1, u "java/lang/StringUTF16"), (31, u "$assertionsDisabled"), (0, u "Z"), (13, u "HI_BYTE_SHIFT"), (0, u "I"), (2, u "LO_BYTE_SHIFT"), (49, .methodref 12 116), (0, .nameAndType 117 118), (0, u "compress"), (0, u "([CI[BII)I"), (3, u "([CII)[B"), (138, u "coderFromArrayLen"), (0, u "([BI)B"), (106, .class_ 371), (1, u "java/lang/StringUTF16$LinesSpliterator"), (58, u "MAX_LENGTH"), (196, .class_ 628), (0, u "java/lang/StringUTF16$CodePointsSpliterator"), (0, .class_ 630), (0, u "java/lang/StringUTF16$CharsSpliterator")] 4

def k15m0 : Method := { name := "<init>", desc := "()V", sig := { parameters := [], returnType := none }, accessFlags := 0, code := none }
def k15c1 : Code := { maxStack := 2, maxLocals := 2, code := jdk_52_method_15_code, exceptionTable := #[], attributes := #[] }
def k15m1 : Method := { name := "coderFromArrayLen", desc := "([BI)B", sig := { parameters := [(.array .byte), .int], returnType := some .byte }, accessFlags := 8, code := some k15c1 }
def k15c2 : Code := { maxStack := 5, maxLocals := 6, code := jdk_52_method_16_code, exceptionTable := #[], attributes := #[] }
def k15m2 : Method := { name := "compress", desc := "([CII)[B", sig := { parameters := [(.array .char), .int, .int], returnType := some (.array .byte) }, accessFlags := 9, code := some k15c2 }
def k15c3 : Code := { maxStack := 3, maxLocals := 7, code := jdk_52_method_21_code, exceptionTable := #[], attributes := #[] }
def k15m3 : Method := { name := "compress", desc := "([CI[BII)I", sig := { parameters := [(.array .char), .int, (.array .byte), .int, .int], returnType := some .int }, accessFlags := 9, code := some k15c3 }
/-- java/lang/StringUTF16 -/
def k15 : Class := { plain "java/lang/StringUTF16" (some 0) with
  accessFlags := 48
  interfaces := #[]
  cf := some (fileOf pool15 12 #[.nestMembers #[627, 629, 369]] #[{ accessFlags := 0, nameIndex := 9, descriptorIndex := 10, attributes := #[] }, { accessFlags := 8, nameIndex := 261, descriptorIndex := 262, attributes := #[] }, { accessFlags := 9, nameIndex := 117, descriptorIndex := 122, attributes := #[] }, { accessFlags := 9, nameIndex := 117, descriptorIndex := 118, attributes := #[] }] 48 6 #[] #[{ accessFlags := 26, nameIndex := 61, descriptorIndex := 62, attributes := #[] }, { accessFlags := 26, nameIndex := 65, descriptorIndex := 62, attributes := #[] }, { accessFlags := 24, nameIndex := 430, descriptorIndex := 62, attributes := #[] }, { accessFlags := 4120, nameIndex := 46, descriptorIndex := 47, attributes := #[] }])
  fields := #[{ name := "HI_BYTE_SHIFT", type := .int, accessFlags := 26, slot := 0, constantValue := 0 }, { name := "LO_BYTE_SHIFT", type := .int, accessFlags := 26, slot := 1, constantValue := 0 }, { name := "MAX_LENGTH", type := .int, accessFlags := 24, slot := 2, constantValue := 0 }, { name := "$assertionsDisabled", type := .boolean, accessFlags := 4120, slot := 3, constantValue := 0 }]
  methods := #[k15m0, k15m1, k15m2, k15m3]
  instanceTypes := #[]
  staticTypes := #[.int, .int, .int, .boolean]
  resolved := Array.replicate 635 none
  statics := none }

def pool16 : Array CpInfo := pool [(2, .class_ 4), (1, u "java/lang/Object"), (0, u "<init>"), (0, u "()V"), (17, .class_ 26), (1, u "jdk/internal/util/Preconditions"), (28, .class_ 56), (0, u "jdk/internal/util/Preconditions$4"), (57, .class_ 115), (0, u "jdk/internal/util/Preconditions$1"), (7, u "SIOOBE_FORMATTER"), (0, u "Ljava/util/function/BiFunction;"), (0, .class_ 126), (0, u "jdk/internal/util/Preconditions$2"), (3, u "AIOOBE_FORMATTER"), (0, .class_ 132), (0, u "jdk/internal/util/Preconditions$3"), (3, u "IOOBE_FORMATTER")] 57

def k16m0 : Method := { name := "<init>", desc := "()V", sig := { parameters := [], returnType := none }, accessFlags := 1, code := none }
/-- jdk/internal/util/Preconditions -/
def k16 : Class := { plain "jdk/internal/util/Preconditions" (some 0) with
  accessFlags := 33
  interfaces := #[]
  cf := some (fileOf pool16 24 #[.nestMembers #[55, 131, 125, 114]] #[{ accessFlags := 1, nameIndex := 5, descriptorIndex := 6, attributes := #[] }] 33 2 #[] #[{ accessFlags := 25, nameIndex := 123, descriptorIndex := 124, attributes := #[] }, { accessFlags := 25, nameIndex := 130, descriptorIndex := 124, attributes := #[] }, { accessFlags := 25, nameIndex := 136, descriptorIndex := 124, attributes := #[] }])
  fields := #[{ name := "SIOOBE_FORMATTER", type := (.object "java/util/function/BiFunction"), accessFlags := 25, slot := 0, constantValue := 0 }, { name := "AIOOBE_FORMATTER", type := (.object "java/util/function/BiFunction"), accessFlags := 25, slot := 1, constantValue := 0 }, { name := "IOOBE_FORMATTER", type := (.object "java/util/function/BiFunction"), accessFlags := 25, slot := 2, constantValue := 0 }]
  methods := #[k16m0]
  instanceTypes := #[]
  staticTypes := #[(.object "java/util/function/BiFunction"), (.object "java/util/function/BiFunction"), (.object "java/util/function/BiFunction")]
  resolved := Array.replicate 194 none
  statics := some 4 }

def pool17 : Array CpInfo := pool [(9, u "<init>"), (6, .class_ 18), (1, u "java/lang/Object"), (0, u "()V"), (1, .class_ 23), (1, u "jdk/internal/util/ArraysSupport"), (0, u "LOG2_ARRAY_LONG_INDEX_SCALE"), (0, u "I"), (2, u "U"), (0, u "Ljdk/internal/misc/Unsafe;"), (8, u "BIG_ENDIAN"), (0, u "Z"), (8, u "LOG2_BYTE_BIT_SIZE"), (4, u "LOG2_ARRAY_INT_INDEX_SCALE"), (54, u "JLA"), (0, u "Ljdk/internal/access/JavaLangAccess;"), (11, u "LOG2_ARRAY_BOOLEAN_INDEX_SCALE"), (9, u "LOG2_ARRAY_BYTE_INDEX_SCALE"), (5, u "LOG2_ARRAY_CHAR_INDEX_SCALE"), (5, u "LOG2_ARRAY_SHORT_INDEX_SCALE"), (18, u "LOG2_ARRAY_FLOAT_INDEX_SCALE"), (24, u "LOG2_ARRAY_DOUBLE_INDEX_SCALE"), (89, u "T_BOOLEAN"), (2, u "T_CHAR"), (1, u "T_FLOAT"), (1, u "T_DOUBLE"), (1, u "T_BYTE"), (1, u "T_SHORT"), (1, u "T_INT"), (1, u "T_LONG"), (1, u "SOFT_MAX_ARRAY_LENGTH")] 83

def k17m0 : Method := { name := "<init>", desc := "()V", sig := { parameters := [], returnType := none }, accessFlags := 2, code := none }
/-- jdk/internal/util/ArraysSupport -/
def k17 : Class := { plain "jdk/internal/util/ArraysSupport" (some 0) with
  accessFlags := 33
  interfaces := #[]
  cf := some (fileOf pool17 21 #[] #[{ accessFlags := 2, nameIndex := 9, descriptorIndex := 19, attributes := #[] }] 33 16 #[] #[{ accessFlags := 24, nameIndex := 28, descriptorIndex := 29, attributes := #[] }, { accessFlags := 26, nameIndex := 38, descriptorIndex := 39, attributes := #[] }, { accessFlags := 25, nameIndex := 121, descriptorIndex := 25, attributes := #[] }, { accessFlags := 25, nameIndex := 131, descriptorIndex := 25, attributes := #[] }, { accessFlags := 25, nameIndex := 137, descriptorIndex := 25, attributes := #[] }, { accessFlags := 25, nameIndex := 143, descriptorIndex := 25, attributes := #[] }, { accessFlags := 25, nameIndex := 53, descriptorIndex := 25, attributes := #[] }, { accessFlags := 25, nameIndex := 24, descriptorIndex := 25, attributes := #[] }, { accessFlags := 25, nameIndex := 162, descriptorIndex := 25, attributes := #[] }, { accessFlags := 25, nameIndex := 187, descriptorIndex := 25, attributes := #[] }, { accessFlags := 26, nameIndex := 48, descriptorIndex := 25, attributes := #[] }, { accessFlags := 25, nameIndex := 277, descriptorIndex := 25, attributes := #[] }, { accessFlags := 25, nameIndex := 280, descriptorIndex := 25, attributes := #[] }, { accessFlags := 25, nameIndex := 282, descriptorIndex := 25, attributes := #[] }, { accessFlags := 25, nameIndex := 284, descriptorIndex := 25, attributes := #[] }, { accessFlags := 25, nameIndex := 286, descriptorIndex := 25, attributes := #[] }, { accessFlags := 25, nameIndex := 288, descriptorIndex := 25, attributes := #[] }, { accessFlags := 25, nameIndex := 290, descriptorIndex := 25, attributes := #[] }, { accessFlags := 25, nameIndex := 292, descriptorIndex := 25, attributes := #[] }, { accessFlags := 26, nameIndex := 108, descriptorIndex := 109, attributes := #[] }, { accessFlags := 25, nameIndex := 294, descriptorIndex := 25, attributes := #[] }])
  fields := #[{ name := "U", type := (.object "jdk/internal/misc/Unsafe"), accessFlags := 24, slot := 0, constantValue := 0 }, { name := "BIG_ENDIAN", type := .boolean, accessFlags := 26, slot := 1, constantValue := 0 }, { name := "LOG2_ARRAY_BOOLEAN_INDEX_SCALE", type := .int, accessFlags := 25, slot := 2, constantValue := 0 }, { name := "LOG2_ARRAY_BYTE_INDEX_SCALE", type := .int, accessFlags := 25, slot := 3, constantValue := 0 }, { name := "LOG2_ARRAY_CHAR_INDEX_SCALE", type := .int, accessFlags := 25, slot := 4, constantValue := 0 }, { name := "LOG2_ARRAY_SHORT_INDEX_SCALE", type := .int, accessFlags := 25, slot := 5, constantValue := 0 }, { name := "LOG2_ARRAY_INT_INDEX_SCALE", type := .int, accessFlags := 25, slot := 6, constantValue := 0 }, { name := "LOG2_ARRAY_LONG_INDEX_SCALE", type := .int, accessFlags := 25, slot := 7, constantValue := 0 }, { name := "LOG2_ARRAY_FLOAT_INDEX_SCALE", type := .int, accessFlags := 25, slot := 8, constantValue := 0 }, { name := "LOG2_ARRAY_DOUBLE_INDEX_SCALE", type := .int, accessFlags := 25, slot := 9, constantValue := 0 }, { name := "LOG2_BYTE_BIT_SIZE", type := .int, accessFlags := 26, slot := 10, constantValue := 0 }, { name := "T_BOOLEAN", type := .int, accessFlags := 25, slot := 11, constantValue := 0 }, { name := "T_CHAR", type := .int, accessFlags := 25, slot := 12, constantValue := 0 }, { name := "T_FLOAT", type := .int, accessFlags := 25, slot := 13, constantValue := 0 }, { name := "T_DOUBLE", type := .int, accessFlags := 25, slot := 14, constantValue := 0 }, { name := "T_BYTE", type := .int, accessFlags := 25, slot := 15, constantValue := 0 }, { name := "T_SHORT", type := .int, accessFlags := 25, slot := 16, constantValue := 0 }, { name := "T_INT", type := .int, accessFlags := 25, slot := 17, constantValue := 0 }, { name := "T_LONG", type := .int, accessFlags := 25, slot := 18, constantValue := 0 }, { name := "JLA", type := (.object "jdk/internal/access/JavaLangAccess"), accessFlags := 26, slot := 19, constantValue := 0 }, { name := "SOFT_MAX_ARRAY_LENGTH", type := .int, accessFlags := 25, slot := 20, constantValue := 0 }]
  methods := #[k17m0]
  instanceTypes := #[]
  staticTypes := #[(.object "jdk/internal/misc/Unsafe"), .boolean, .int, .int, .int, .int, .int, .int, .int, .int, .int, .int, .int, .int, .int, .int, .int, .int, .int, (.object "jdk/internal/access/JavaLangAccess"), .int]
  resolved := Array.replicate 378 none
  statics := none }

def pool18 : Array CpInfo := pool [(1, u "java/lang/Cloneable"), (0, .class_ 1), (0, u "java/lang/Object"), (0, .class_ 3)] 3

/-- java/lang/Cloneable -/
def k18 : Class := { plain "java/lang/Cloneable" (some 0) with
  accessFlags := 1537
  interfaces := #[]
  cf := some (fileOf pool18 2 #[] #[] 1537 4 #[] #[])
  fields := #[]
  methods := #[]
  instanceTypes := #[]
  staticTypes := #[]
  resolved := Array.replicate 8 none
  statics := none }

/-- the primitive byte -/
def k19 : Class := { plain "byte" none with kind := .primitive 'B', accessFlags := 0x411 }
/-- [B -/
def k20 : Class := { plain "[B" (some 0) with kind := .array 19 .byte, interfaces := #[18, 2], accessFlags := 1041 }

/-- the primitive char -/
def k21 : Class := { plain "char" none with kind := .primitive 'C', accessFlags := 0x411 }
/-- [C -/
def k22 : Class := { plain "[C" (some 0) with kind := .array 21 .char, interfaces := #[18, 2], accessFlags := 1041 }

/-- the primitive int -/
def k23 : Class := { plain "int" none with kind := .primitive 'I', accessFlags := 0x411 }
/-- [I -/
def k24 : Class := { plain "[I" (some 0) with kind := .array 23 .int, interfaces := #[18, 2], accessFlags := 1041 }

/-- [Ljava/lang/Long; -/
def k25 : Class := { plain "[Ljava/lang/Long;" (some 0) with kind := .array 11 (.object "java/lang/Long"), interfaces := #[18, 2], accessFlags := 1041 }

def heap : Heap := #[{ cls := 7, slots := #[.long 0, .int 1, .null, .int 0, .null, .int 0, .int 0], vm := .statics 7 },
  { cls := 9, slots := #[.null, .null, .int 0, .long (-62167219200), .long 253402300799], vm := .statics 9 },
  { cls := 12, slots := #[.ref 5, .null, .int 0], vm := .statics 12 },
  { cls := 13, slots := #[.ref 262], vm := .statics 13 },
  { cls := 16, slots := #[.null, .null, .null], vm := .statics 16 },
  { cls := 25, slots := #[.ref 6, .ref 7, .ref 8, .ref 9, .ref 10, .ref 11, .ref 12, .ref 13, .ref 14, .ref 15, .ref 16, .ref 17, .ref 18, .ref 19, .ref 20, .ref 21, .ref 22, .ref 23, .ref 24, .ref 25, .ref 26, .ref 27, .ref 28, .ref 29, .ref 30, .ref 31, .ref 32, .ref 33, .ref 34, .ref 35, .ref 36, .ref 37, .ref 38, .ref 39, .ref 40, .ref 41, .ref 42, .ref 43, .ref 44, .ref 45, .ref 46, .ref 47, .ref 48, .ref 49, .ref 50, .ref 51, .ref 52, .ref 53, .ref 54, .ref 55, .ref 56, .ref 57, .ref 58, .ref 59, .ref 60, .ref 61, .ref 62, .ref 63, .ref 64, .ref 65, .ref 66, .ref 67, .ref 68, .ref 69, .ref 70, .ref 71, .ref 72, .ref 73, .ref 74, .ref 75, .ref 76, .ref 77, .ref 78, .ref 79, .ref 80, .ref 81, .ref 82, .ref 83, .ref 84, .ref 85, .ref 86, .ref 87, .ref 88, .ref 89, .ref 90, .ref 91, .ref 92, .ref 93, .ref 94, .ref 95, .ref 96, .ref 97, .ref 98, .ref 99, .ref 100, .ref 101, .ref 102, .ref 103, .ref 104, .ref 105, .ref 106, .ref 107, .ref 108, .ref 109, .ref 110, .ref 111, .ref 112, .ref 113, .ref 114, .ref 115, .ref 116, .ref 117, .ref 118, .ref 119, .ref 120, .ref 121, .ref 122, .ref 123, .ref 124, .ref 125, .ref 126, .ref 127, .ref 128, .ref 129, .ref 130, .ref 131, .ref 132, .ref 133, .ref 134, .ref 135, .ref 136, .ref 137, .ref 138, .ref 139, .ref 140, .ref 141, .ref 142, .ref 143, .ref 144, .ref 145, .ref 146, .ref 147, .ref 148, .ref 149, .ref 150, .ref 151, .ref 152, .ref 153, .ref 154, .ref 155, .ref 156, .ref 157, .ref 158, .ref 159, .ref 160, .ref 161, .ref 162, .ref 163, .ref 164, .ref 165, .ref 166, .ref 167, .ref 168, .ref 169, .ref 170, .ref 171, .ref 172, .ref 173, .ref 174, .ref 175, .ref 176, .ref 177, .ref 178, .ref 179, .ref 180, .ref 181, .ref 182, .ref 183, .ref 184, .ref 185, .ref 186, .ref 187, .ref 188, .ref 189, .ref 190, .ref 191, .ref 192, .ref 193, .ref 194, .ref 195, .ref 196, .ref 197, .ref 198, .ref 199, .ref 200, .ref 201, .ref 202, .ref 203, .ref 204, .ref 205, .ref 206, .ref 207, .ref 208, .ref 209, .ref 210, .ref 211, .ref 212, .ref 213, .ref 214, .ref 215, .ref 216, .ref 217, .ref 218, .ref 219, .ref 220, .ref 221, .ref 222, .ref 223, .ref 224, .ref 225, .ref 226, .ref 227, .ref 228, .ref 229, .ref 230, .ref 231, .ref 232, .ref 233, .ref 234, .ref 235, .ref 236, .ref 237, .ref 238, .ref 239, .ref 240, .ref 241, .ref 242, .ref 243, .ref 244, .ref 245, .ref 246, .ref 247, .ref 248, .ref 249, .ref 250, .ref 251, .ref 252, .ref 253, .ref 254, .ref 255, .ref 256, .ref 257, .ref 258, .ref 259, .ref 260, .ref 261], vm := .none },
  { cls := 11, slots := #[.long (-128)], vm := .none },
  { cls := 11, slots := #[.long (-127)], vm := .none },
  { cls := 11, slots := #[.long (-126)], vm := .none },
  { cls := 11, slots := #[.long (-125)], vm := .none },
  { cls := 11, slots := #[.long (-124)], vm := .none },
  { cls := 11, slots := #[.long (-123)], vm := .none },
  { cls := 11, slots := #[.long (-122)], vm := .none },
  { cls := 11, slots := #[.long (-121)], vm := .none },
  { cls := 11, slots := #[.long (-120)], vm := .none },
  { cls := 11, slots := #[.long (-119)], vm := .none },
  { cls := 11, slots := #[.long (-118)], vm := .none },
  { cls := 11, slots := #[.long (-117)], vm := .none },
  { cls := 11, slots := #[.long (-116)], vm := .none },
  { cls := 11, slots := #[.long (-115)], vm := .none },
  { cls := 11, slots := #[.long (-114)], vm := .none },
  { cls := 11, slots := #[.long (-113)], vm := .none },
  { cls := 11, slots := #[.long (-112)], vm := .none },
  { cls := 11, slots := #[.long (-111)], vm := .none },
  { cls := 11, slots := #[.long (-110)], vm := .none },
  { cls := 11, slots := #[.long (-109)], vm := .none },
  { cls := 11, slots := #[.long (-108)], vm := .none },
  { cls := 11, slots := #[.long (-107)], vm := .none },
  { cls := 11, slots := #[.long (-106)], vm := .none },
  { cls := 11, slots := #[.long (-105)], vm := .none },
  { cls := 11, slots := #[.long (-104)], vm := .none },
  { cls := 11, slots := #[.long (-103)], vm := .none },
  { cls := 11, slots := #[.long (-102)], vm := .none },
  { cls := 11, slots := #[.long (-101)], vm := .none },
  { cls := 11, slots := #[.long (-100)], vm := .none },
  { cls := 11, slots := #[.long (-99)], vm := .none },
  { cls := 11, slots := #[.long (-98)], vm := .none },
  { cls := 11, slots := #[.long (-97)], vm := .none },
  { cls := 11, slots := #[.long (-96)], vm := .none },
  { cls := 11, slots := #[.long (-95)], vm := .none },
  { cls := 11, slots := #[.long (-94)], vm := .none },
  { cls := 11, slots := #[.long (-93)], vm := .none },
  { cls := 11, slots := #[.long (-92)], vm := .none },
  { cls := 11, slots := #[.long (-91)], vm := .none },
  { cls := 11, slots := #[.long (-90)], vm := .none },
  { cls := 11, slots := #[.long (-89)], vm := .none },
  { cls := 11, slots := #[.long (-88)], vm := .none },
  { cls := 11, slots := #[.long (-87)], vm := .none },
  { cls := 11, slots := #[.long (-86)], vm := .none },
  { cls := 11, slots := #[.long (-85)], vm := .none },
  { cls := 11, slots := #[.long (-84)], vm := .none },
  { cls := 11, slots := #[.long (-83)], vm := .none },
  { cls := 11, slots := #[.long (-82)], vm := .none },
  { cls := 11, slots := #[.long (-81)], vm := .none },
  { cls := 11, slots := #[.long (-80)], vm := .none },
  { cls := 11, slots := #[.long (-79)], vm := .none },
  { cls := 11, slots := #[.long (-78)], vm := .none },
  { cls := 11, slots := #[.long (-77)], vm := .none },
  { cls := 11, slots := #[.long (-76)], vm := .none },
  { cls := 11, slots := #[.long (-75)], vm := .none },
  { cls := 11, slots := #[.long (-74)], vm := .none },
  { cls := 11, slots := #[.long (-73)], vm := .none },
  { cls := 11, slots := #[.long (-72)], vm := .none },
  { cls := 11, slots := #[.long (-71)], vm := .none },
  { cls := 11, slots := #[.long (-70)], vm := .none },
  { cls := 11, slots := #[.long (-69)], vm := .none },
  { cls := 11, slots := #[.long (-68)], vm := .none },
  { cls := 11, slots := #[.long (-67)], vm := .none },
  { cls := 11, slots := #[.long (-66)], vm := .none },
  { cls := 11, slots := #[.long (-65)], vm := .none },
  { cls := 11, slots := #[.long (-64)], vm := .none },
  { cls := 11, slots := #[.long (-63)], vm := .none },
  { cls := 11, slots := #[.long (-62)], vm := .none },
  { cls := 11, slots := #[.long (-61)], vm := .none },
  { cls := 11, slots := #[.long (-60)], vm := .none },
  { cls := 11, slots := #[.long (-59)], vm := .none },
  { cls := 11, slots := #[.long (-58)], vm := .none },
  { cls := 11, slots := #[.long (-57)], vm := .none },
  { cls := 11, slots := #[.long (-56)], vm := .none },
  { cls := 11, slots := #[.long (-55)], vm := .none },
  { cls := 11, slots := #[.long (-54)], vm := .none },
  { cls := 11, slots := #[.long (-53)], vm := .none },
  { cls := 11, slots := #[.long (-52)], vm := .none },
  { cls := 11, slots := #[.long (-51)], vm := .none },
  { cls := 11, slots := #[.long (-50)], vm := .none },
  { cls := 11, slots := #[.long (-49)], vm := .none },
  { cls := 11, slots := #[.long (-48)], vm := .none },
  { cls := 11, slots := #[.long (-47)], vm := .none },
  { cls := 11, slots := #[.long (-46)], vm := .none },
  { cls := 11, slots := #[.long (-45)], vm := .none },
  { cls := 11, slots := #[.long (-44)], vm := .none },
  { cls := 11, slots := #[.long (-43)], vm := .none },
  { cls := 11, slots := #[.long (-42)], vm := .none },
  { cls := 11, slots := #[.long (-41)], vm := .none },
  { cls := 11, slots := #[.long (-40)], vm := .none },
  { cls := 11, slots := #[.long (-39)], vm := .none },
  { cls := 11, slots := #[.long (-38)], vm := .none },
  { cls := 11, slots := #[.long (-37)], vm := .none },
  { cls := 11, slots := #[.long (-36)], vm := .none },
  { cls := 11, slots := #[.long (-35)], vm := .none },
  { cls := 11, slots := #[.long (-34)], vm := .none },
  { cls := 11, slots := #[.long (-33)], vm := .none },
  { cls := 11, slots := #[.long (-32)], vm := .none },
  { cls := 11, slots := #[.long (-31)], vm := .none },
  { cls := 11, slots := #[.long (-30)], vm := .none },
  { cls := 11, slots := #[.long (-29)], vm := .none },
  { cls := 11, slots := #[.long (-28)], vm := .none },
  { cls := 11, slots := #[.long (-27)], vm := .none },
  { cls := 11, slots := #[.long (-26)], vm := .none },
  { cls := 11, slots := #[.long (-25)], vm := .none },
  { cls := 11, slots := #[.long (-24)], vm := .none },
  { cls := 11, slots := #[.long (-23)], vm := .none },
  { cls := 11, slots := #[.long (-22)], vm := .none },
  { cls := 11, slots := #[.long (-21)], vm := .none },
  { cls := 11, slots := #[.long (-20)], vm := .none },
  { cls := 11, slots := #[.long (-19)], vm := .none },
  { cls := 11, slots := #[.long (-18)], vm := .none },
  { cls := 11, slots := #[.long (-17)], vm := .none },
  { cls := 11, slots := #[.long (-16)], vm := .none },
  { cls := 11, slots := #[.long (-15)], vm := .none },
  { cls := 11, slots := #[.long (-14)], vm := .none },
  { cls := 11, slots := #[.long (-13)], vm := .none },
  { cls := 11, slots := #[.long (-12)], vm := .none },
  { cls := 11, slots := #[.long (-11)], vm := .none },
  { cls := 11, slots := #[.long (-10)], vm := .none },
  { cls := 11, slots := #[.long (-9)], vm := .none },
  { cls := 11, slots := #[.long (-8)], vm := .none },
  { cls := 11, slots := #[.long (-7)], vm := .none },
  { cls := 11, slots := #[.long (-6)], vm := .none },
  { cls := 11, slots := #[.long (-5)], vm := .none },
  { cls := 11, slots := #[.long (-4)], vm := .none },
  { cls := 11, slots := #[.long (-3)], vm := .none },
  { cls := 11, slots := #[.long (-2)], vm := .none },
  { cls := 11, slots := #[.long (-1)], vm := .none },
  { cls := 11, slots := #[.long (0)], vm := .none },
  { cls := 11, slots := #[.long (1)], vm := .none },
  { cls := 11, slots := #[.long (2)], vm := .none },
  { cls := 11, slots := #[.long (3)], vm := .none },
  { cls := 11, slots := #[.long (4)], vm := .none },
  { cls := 11, slots := #[.long (5)], vm := .none },
  { cls := 11, slots := #[.long (6)], vm := .none },
  { cls := 11, slots := #[.long (7)], vm := .none },
  { cls := 11, slots := #[.long (8)], vm := .none },
  { cls := 11, slots := #[.long (9)], vm := .none },
  { cls := 11, slots := #[.long (10)], vm := .none },
  { cls := 11, slots := #[.long (11)], vm := .none },
  { cls := 11, slots := #[.long (12)], vm := .none },
  { cls := 11, slots := #[.long (13)], vm := .none },
  { cls := 11, slots := #[.long (14)], vm := .none },
  { cls := 11, slots := #[.long (15)], vm := .none },
  { cls := 11, slots := #[.long (16)], vm := .none },
  { cls := 11, slots := #[.long (17)], vm := .none },
  { cls := 11, slots := #[.long (18)], vm := .none },
  { cls := 11, slots := #[.long (19)], vm := .none },
  { cls := 11, slots := #[.long (20)], vm := .none },
  { cls := 11, slots := #[.long (21)], vm := .none },
  { cls := 11, slots := #[.long (22)], vm := .none },
  { cls := 11, slots := #[.long (23)], vm := .none },
  { cls := 11, slots := #[.long (24)], vm := .none },
  { cls := 11, slots := #[.long (25)], vm := .none },
  { cls := 11, slots := #[.long (26)], vm := .none },
  { cls := 11, slots := #[.long (27)], vm := .none },
  { cls := 11, slots := #[.long (28)], vm := .none },
  { cls := 11, slots := #[.long (29)], vm := .none },
  { cls := 11, slots := #[.long (30)], vm := .none },
  { cls := 11, slots := #[.long (31)], vm := .none },
  { cls := 11, slots := #[.long (32)], vm := .none },
  { cls := 11, slots := #[.long (33)], vm := .none },
  { cls := 11, slots := #[.long (34)], vm := .none },
  { cls := 11, slots := #[.long (35)], vm := .none },
  { cls := 11, slots := #[.long (36)], vm := .none },
  { cls := 11, slots := #[.long (37)], vm := .none },
  { cls := 11, slots := #[.long (38)], vm := .none },
  { cls := 11, slots := #[.long (39)], vm := .none },
  { cls := 11, slots := #[.long (40)], vm := .none },
  { cls := 11, slots := #[.long (41)], vm := .none },
  { cls := 11, slots := #[.long (42)], vm := .none },
  { cls := 11, slots := #[.long (43)], vm := .none },
  { cls := 11, slots := #[.long (44)], vm := .none },
  { cls := 11, slots := #[.long (45)], vm := .none },
  { cls := 11, slots := #[.long (46)], vm := .none },
  { cls := 11, slots := #[.long (47)], vm := .none },
  { cls := 11, slots := #[.long (48)], vm := .none },
  { cls := 11, slots := #[.long (49)], vm := .none },
  { cls := 11, slots := #[.long (50)], vm := .none },
  { cls := 11, slots := #[.long (51)], vm := .none },
  { cls := 11, slots := #[.long (52)], vm := .none },
  { cls := 11, slots := #[.long (53)], vm := .none },
  { cls := 11, slots := #[.long (54)], vm := .none },
  { cls := 11, slots := #[.long (55)], vm := .none },
  { cls := 11, slots := #[.long (56)], vm := .none },
  { cls := 11, slots := #[.long (57)], vm := .none },
  { cls := 11, slots := #[.long (58)], vm := .none },
  { cls := 11, slots := #[.long (59)], vm := .none },
  { cls := 11, slots := #[.long (60)], vm := .none },
  { cls := 11, slots := #[.long (61)], vm := .none },
  { cls := 11, slots := #[.long (62)], vm := .none },
  { cls := 11, slots := #[.long (63)], vm := .none },
  { cls := 11, slots := #[.long (64)], vm := .none },
  { cls := 11, slots := #[.long (65)], vm := .none },
  { cls := 11, slots := #[.long (66)], vm := .none },
  { cls := 11, slots := #[.long (67)], vm := .none },
  { cls := 11, slots := #[.long (68)], vm := .none },
  { cls := 11, slots := #[.long (69)], vm := .none },
  { cls := 11, slots := #[.long (70)], vm := .none },
  { cls := 11, slots := #[.long (71)], vm := .none },
  { cls := 11, slots := #[.long (72)], vm := .none },
  { cls := 11, slots := #[.long (73)], vm := .none },
  { cls := 11, slots := #[.long (74)], vm := .none },
  { cls := 11, slots := #[.long (75)], vm := .none },
  { cls := 11, slots := #[.long (76)], vm := .none },
  { cls := 11, slots := #[.long (77)], vm := .none },
  { cls := 11, slots := #[.long (78)], vm := .none },
  { cls := 11, slots := #[.long (79)], vm := .none },
  { cls := 11, slots := #[.long (80)], vm := .none },
  { cls := 11, slots := #[.long (81)], vm := .none },
  { cls := 11, slots := #[.long (82)], vm := .none },
  { cls := 11, slots := #[.long (83)], vm := .none },
  { cls := 11, slots := #[.long (84)], vm := .none },
  { cls := 11, slots := #[.long (85)], vm := .none },
  { cls := 11, slots := #[.long (86)], vm := .none },
  { cls := 11, slots := #[.long (87)], vm := .none },
  { cls := 11, slots := #[.long (88)], vm := .none },
  { cls := 11, slots := #[.long (89)], vm := .none },
  { cls := 11, slots := #[.long (90)], vm := .none },
  { cls := 11, slots := #[.long (91)], vm := .none },
  { cls := 11, slots := #[.long (92)], vm := .none },
  { cls := 11, slots := #[.long (93)], vm := .none },
  { cls := 11, slots := #[.long (94)], vm := .none },
  { cls := 11, slots := #[.long (95)], vm := .none },
  { cls := 11, slots := #[.long (96)], vm := .none },
  { cls := 11, slots := #[.long (97)], vm := .none },
  { cls := 11, slots := #[.long (98)], vm := .none },
  { cls := 11, slots := #[.long (99)], vm := .none },
  { cls := 11, slots := #[.long (100)], vm := .none },
  { cls := 11, slots := #[.long (101)], vm := .none },
  { cls := 11, slots := #[.long (102)], vm := .none },
  { cls := 11, slots := #[.long (103)], vm := .none },
  { cls := 11, slots := #[.long (104)], vm := .none },
  { cls := 11, slots := #[.long (105)], vm := .none },
  { cls := 11, slots := #[.long (106)], vm := .none },
  { cls := 11, slots := #[.long (107)], vm := .none },
  { cls := 11, slots := #[.long (108)], vm := .none },
  { cls := 11, slots := #[.long (109)], vm := .none },
  { cls := 11, slots := #[.long (110)], vm := .none },
  { cls := 11, slots := #[.long (111)], vm := .none },
  { cls := 11, slots := #[.long (112)], vm := .none },
  { cls := 11, slots := #[.long (113)], vm := .none },
  { cls := 11, slots := #[.long (114)], vm := .none },
  { cls := 11, slots := #[.long (115)], vm := .none },
  { cls := 11, slots := #[.long (116)], vm := .none },
  { cls := 11, slots := #[.long (117)], vm := .none },
  { cls := 11, slots := #[.long (118)], vm := .none },
  { cls := 11, slots := #[.long (119)], vm := .none },
  { cls := 11, slots := #[.long (120)], vm := .none },
  { cls := 11, slots := #[.long (121)], vm := .none },
  { cls := 11, slots := #[.long (122)], vm := .none },
  { cls := 11, slots := #[.long (123)], vm := .none },
  { cls := 11, slots := #[.long (124)], vm := .none },
  { cls := 11, slots := #[.long (125)], vm := .none },
  { cls := 11, slots := #[.long (126)], vm := .none },
  { cls := 11, slots := #[.long (127)], vm := .none },
  { cls := 13, slots := #[.null], vm := .none }]
def classes : Array Class := #[k0, k1, k2, k3, k4, k5, k6, k7, k8, k9, k10, k11, k12, k13, k14, k15, k16, k17, k18, k19, k20, k21, k22, k23, k24, k25]
def interned : List (Array UInt16 × Addr) := []
def slotsUsed : Nat := 532
def theMethod : MethodId := ⟨1, 1⟩
def args0 : Array Value := #[.long 5, .int 5, .int 5]
def aboutOver (below : List Frame) : State where
  vm := { classes := classes, interned := interned.toArray }
  heap := heap
  slotsUsed := slotsUsed
  threads := #[{ frames := .invoking theMethod args0 :: below }]
def below0 : List Frame := [.native { method := ⟨0, 0⟩, args := #[] }]
def about1 : State := aboutOver below0
def p0 : Program := .bare "" "" ""
def e0 : Env := launch0.env 0 0 0
theorem w_frames : about1.frames = Frame.invoking theMethod args0 :: below0 := rfl
set_option maxRecDepth 65536 in
theorem w_args : argsFit about1.vm theMethod args0 = true := by decide +kernel
set_option maxRecDepth 65536 in
theorem w_heap : heapFits about1 = true := by decide +kernel
set_option maxRecDepth 65536 in
theorem w_runnable : about1.curStatus? = some .runnable := by decide +kernel
set_option maxRecDepth 65536 in
theorem w_alone : about1.alone = true := by decide +kernel
set_option maxRecDepth 65536 in
theorem w_named : about1.methodNamed? x = some theMethod := by decide +kernel
set_option maxRecDepth 65536 in
theorem w_hears : about1.hears theMethod below0 = true := by decide +kernel
set_option maxRecDepth 65536 in
theorem w_ripe : about1.ripe theMethod args0 below0 = true := by decide +kernel
theorem w_running : about1.status = .running := rfl
set_option maxRecDepth 65536 in
theorem w_room : about1.hasRoom e0.platform room_1 = true :=
  launch0.hasRoom_least _ room_1 (by decide +kernel) (by decide +kernel) (by decide +kernel) (by decide +kernel) (by decide +kernel) (by decide +kernel)
theorem allAtoms_all (ts : List Jvm.Cond) (a : Array Jvm.Value) (st : Jvm.State) : (allAtoms ts).before a st = ts.all (fun c => c.before a st) := by
  induction ts with
  | nil => rfl
  | cons c t ih =>
    show (Jvm.Cond.and c (allAtoms t)).before a st = _
    rw [Jvm.Cond.before_and, ih, List.all_cons]
def words1 : List Jvm.Cond := Jvm.Cond.code x code maxLocals ret :: tables_1
/-- a 'code' word, met by the world's own term for the bytes: nothing is compared byte by byte -/
theorem code_word {y : MethodName} {bytes : ByteArray} {mx : Nat} {rt : Option FieldType} {a : Array Value} {s : State} {m : MethodId} {meth : Method} {c : Code} (h1 : s.methodNamed? y = some m) (h2 : s.vm.method? m = some meth) (h3 : meth.code = some c) (h4 : c.code = bytes)
    (h5 : (c.maxLocals == mx && c.exceptionTable.isEmpty && decide (c.maxStack ≤ mostOperands) && decide (meth.sig.returnType = rt) && !meth.locks && decide (parseMethodDescriptor y.desc = some meth.sig)) = true) : (Jvm.Cond.code y bytes mx rt).before a s = true := by
  simp only [Bool.and_eq_true, beq_iff_eq, Bool.not_eq_true', decide_eq_true_eq] at h5
  obtain ⟨⟨⟨⟨⟨g1, g2⟩, g3⟩, g4⟩, g5⟩, g6⟩ := h5
  simp [Cond.before, Cond.holds, Cond.value, h1, h2, h3, h4, g1, g2, g3, g4, g5, g6]
def isCode : Jvm.Cond → Bool
  | .code _ _ _ _ => true
  | _ => false
theorem all_split {L : List Jvm.Cond} {P : Jvm.Cond → Bool} (h1 : L.all (fun c => isCode c || P c) = true) (h2 : ∀ c ∈ L.filter isCode, P c = true) : L.all P = true := by
  refine List.all_eq_true.mpr fun c hc => ?_
  have h := List.all_eq_true.mp h1 c hc
  rcases Bool.eq_false_or_eq_true (isCode c) with hi | hi
  · exact h2 c (List.mem_filter.mpr ⟨hc, hi⟩)
  · simpa [hi] using h
set_option maxRecDepth 65536 in
theorem w_c0 : (Jvm.Cond.code x code maxLocals ret).before args0 about1 = true := code_word (m := ⟨1, 1⟩) (meth := k1m1) (c := k1c1) (by decide +kernel) rfl rfl rfl (by decide +kernel)
set_option maxRecDepth 65536 in
theorem w_c1 : (Jvm.Cond.code ({ cls := "java/lang/String", name := "valueOf", desc := "(C)Ljava/lang/String;" } : Jvm.MethodName) jdk_42_method_139_code (1 : Nat) (Option.some (Jvm.ClassFile.FieldType.object "java/lang/String"))).before args0 about1 = true := code_word (m := ⟨7, 3⟩) (meth := k7m3) (c := k7c3) (by decide +kernel) rfl rfl rfl (by decide +kernel)
set_option maxRecDepth 65536 in
theorem w_c2 : (Jvm.Cond.code ({ cls := "java/lang/StringLatin1", name := "canEncode", desc := "(C)Z" } : Jvm.MethodName) jdk_43_method_3_code (1 : Nat) (Option.some Jvm.ClassFile.FieldType.boolean)).before args0 about1 = true := code_word (m := ⟨8, 1⟩) (meth := k8m1) (c := k8c1) (by decide +kernel) rfl rfl rfl (by decide +kernel)
set_option maxRecDepth 65536 in
theorem w_c3 : (Jvm.Cond.code ({ cls := "java/lang/StringLatin1", name := "toBytes", desc := "(C)[B" } : Jvm.MethodName) jdk_43_method_46_code (1 : Nat) (Option.some (Jvm.ClassFile.FieldType.array Jvm.ClassFile.FieldType.byte))).before args0 about1 = true := code_word (m := ⟨8, 2⟩) (meth := k8m2) (c := k8c2) (by decide +kernel) rfl rfl rfl (by decide +kernel)
set_option maxRecDepth 65536 in
theorem w_c4 : (Jvm.Cond.code ({ cls := "java/lang/String", name := "<init>", desc := "([BB)V" } : Jvm.MethodName) jdk_42_method_151_code (3 : Nat) (Option.none : Option Jvm.ClassFile.FieldType)).before args0 about1 = true := code_word (m := ⟨7, 5⟩) (meth := k7m5) (c := k7c5) (by decide +kernel) rfl rfl rfl (by decide +kernel)
set_option maxRecDepth 65536 in
theorem w_c5 : (Jvm.Cond.code ({ cls := "java/lang/Object", name := "<init>", desc := "()V" } : Jvm.MethodName) object_method_1_code (1 : Nat) (Option.none : Option Jvm.ClassFile.FieldType)).before args0 about1 = true := code_word (m := ⟨0, 0⟩) (meth := k0m0) (c := k0c0) (by decide +kernel) rfl rfl rfl (by decide +kernel)
set_option maxRecDepth 65536 in
theorem w_c6 : (Jvm.Cond.code ({ cls := "com/example/patient_crawler/patientcrawler/Validators", name := "dated", desc := "(Ljava/lang/String;J)Lcom/example/patient_crawler/patientcrawler/Validators;" } : Jvm.MethodName) prog_37_method_4_code (3 : Nat) (Option.some (Jvm.ClassFile.FieldType.object "com/example/patient_crawler/patientcrawler/Validators"))).before args0 about1 = true := code_word (m := ⟨9, 1⟩) (meth := k9m1) (c := k9c1) (by decide +kernel) rfl rfl rfl (by decide +kernel)
set_option maxRecDepth 65536 in
theorem w_c7 : (Jvm.Cond.code ({ cls := "com/example/patient_crawler/patientcrawler/Validators", name := "imfFixdateNames", desc := "(J)Z" } : Jvm.MethodName) prog_37_method_10_code (2 : Nat) (Option.some Jvm.ClassFile.FieldType.boolean)).before args0 about1 = true := code_word (m := ⟨9, 4⟩) (meth := k9m4) (c := k9c4) (by decide +kernel) rfl rfl rfl (by decide +kernel)
set_option maxRecDepth 65536 in
theorem w_c8 : (Jvm.Cond.code ({ cls := "java/lang/Long", name := "valueOf", desc := "(J)Ljava/lang/Long;" } : Jvm.MethodName) jdk_35_method_24_code (3 : Nat) (Option.some (Jvm.ClassFile.FieldType.object "java/lang/Long"))).before args0 about1 = true := code_word (m := ⟨11, 0⟩) (meth := k11m0) (c := k11c0) (by decide +kernel) rfl rfl rfl (by decide +kernel)
set_option maxRecDepth 65536 in
theorem w_c9 : (Jvm.Cond.code ({ cls := "com/example/patient_crawler/patientcrawler/Validators", name := "<init>", desc := "(Ljava/lang/String;Ljava/lang/String;Ljava/lang/Long;)V" } : Jvm.MethodName) prog_37_method_2_code (4 : Nat) (Option.none : Option Jvm.ClassFile.FieldType)).before args0 about1 = true := code_word (m := ⟨9, 0⟩) (meth := k9m0) (c := k9c0) (by decide +kernel) rfl rfl rfl (by decide +kernel)
set_option maxRecDepth 65536 in
theorem w_c10 : (Jvm.Cond.code ({ cls := "com/example/patient_crawler/patientcrawler/Validators", name := "etag", desc := "()Ljava/util/Optional;" } : Jvm.MethodName) prog_37_method_5_code (1 : Nat) (Option.some (Jvm.ClassFile.FieldType.object "java/util/Optional"))).before args0 about1 = true := code_word (m := ⟨9, 2⟩) (meth := k9m2) (c := k9c2) (by decide +kernel) rfl rfl rfl (by decide +kernel)
set_option maxRecDepth 65536 in
theorem w_c11 : (Jvm.Cond.code ({ cls := "java/util/Optional", name := "ofNullable", desc := "(Ljava/lang/Object;)Ljava/util/Optional;" } : Jvm.MethodName) jdk_32_method_4_code (1 : Nat) (Option.some (Jvm.ClassFile.FieldType.object "java/util/Optional"))).before args0 about1 = true := code_word (m := ⟨13, 1⟩) (meth := k13m1) (c := k13c1) (by decide +kernel) rfl rfl rfl (by decide +kernel)
set_option maxRecDepth 65536 in
theorem w_c12 : (Jvm.Cond.code ({ cls := "java/util/Optional", name := "<init>", desc := "(Ljava/lang/Object;)V" } : Jvm.MethodName) jdk_32_method_2_code (2 : Nat) (Option.none : Option Jvm.ClassFile.FieldType)).before args0 about1 = true := code_word (m := ⟨13, 0⟩) (meth := k13m0) (c := k13c0) (by decide +kernel) rfl rfl rfl (by decide +kernel)
set_option maxRecDepth 65536 in
theorem w_c13 : (Jvm.Cond.code ({ cls := "java/util/Optional", name := "orElse", desc := "(Ljava/lang/Object;)Ljava/lang/Object;" } : Jvm.MethodName) jdk_32_method_15_code (2 : Nat) (Option.some (Jvm.ClassFile.FieldType.object "java/lang/Object"))).before args0 about1 = true := code_word (m := ⟨13, 2⟩) (meth := k13m2) (c := k13c2) (by decide +kernel) rfl rfl rfl (by decide +kernel)
set_option maxRecDepth 65536 in
theorem w_c14 : (Jvm.Cond.code ({ cls := "java/lang/String", name := "equals", desc := "(Ljava/lang/Object;)Z" } : Jvm.MethodName) jdk_42_method_66_code (3 : Nat) (Option.some Jvm.ClassFile.FieldType.boolean)).before args0 about1 = true := code_word (m := ⟨7, 2⟩) (meth := k7m2) (c := k7c2) (by decide +kernel) rfl rfl rfl (by decide +kernel)
set_option maxRecDepth 65536 in
theorem w_c15 : (Jvm.Cond.code ({ cls := "com/example/patient_crawler/patientcrawler/Validators", name := "lastModifiedSecond", desc := "()Ljava/util/OptionalLong;" } : Jvm.MethodName) prog_37_method_7_code (1 : Nat) (Option.some (Jvm.ClassFile.FieldType.object "java/util/OptionalLong"))).before args0 about1 = true := code_word (m := ⟨9, 3⟩) (meth := k9m3) (c := k9c3) (by decide +kernel) rfl rfl rfl (by decide +kernel)
set_option maxRecDepth 65536 in
theorem w_c16 : (Jvm.Cond.code ({ cls := "java/lang/Long", name := "longValue", desc := "()J" } : Jvm.MethodName) jdk_35_method_31_code (1 : Nat) (Option.some Jvm.ClassFile.FieldType.long)).before args0 about1 = true := code_word (m := ⟨11, 2⟩) (meth := k11m2) (c := k11c2) (by decide +kernel) rfl rfl rfl (by decide +kernel)
set_option maxRecDepth 65536 in
theorem w_c17 : (Jvm.Cond.code ({ cls := "java/util/OptionalLong", name := "of", desc := "(J)Ljava/util/OptionalLong;" } : Jvm.MethodName) jdk_2650_method_4_code (2 : Nat) (Option.some (Jvm.ClassFile.FieldType.object "java/util/OptionalLong"))).before args0 about1 = true := code_word (m := ⟨14, 2⟩) (meth := k14m2) (c := k14c2) (by decide +kernel) rfl rfl rfl (by decide +kernel)
set_option maxRecDepth 65536 in
theorem w_c18 : (Jvm.Cond.code ({ cls := "java/util/OptionalLong", name := "<init>", desc := "(J)V" } : Jvm.MethodName) jdk_2650_method_3_code (3 : Nat) (Option.none : Option Jvm.ClassFile.FieldType)).before args0 about1 = true := code_word (m := ⟨14, 1⟩) (meth := k14m1) (c := k14c1) (by decide +kernel) rfl rfl rfl (by decide +kernel)
set_option maxRecDepth 65536 in
theorem w_c19 : (Jvm.Cond.code ({ cls := "java/util/OptionalLong", name := "isPresent", desc := "()Z" } : Jvm.MethodName) jdk_2650_method_6_code (1 : Nat) (Option.some Jvm.ClassFile.FieldType.boolean)).before args0 about1 = true := code_word (m := ⟨14, 4⟩) (meth := k14m4) (c := k14c4) (by decide +kernel) rfl rfl rfl (by decide +kernel)
set_option maxRecDepth 65536 in
theorem w_c20 : (Jvm.Cond.code ({ cls := "java/util/OptionalLong", name := "getAsLong", desc := "()J" } : Jvm.MethodName) jdk_2650_method_5_code (1 : Nat) (Option.some Jvm.ClassFile.FieldType.long)).before args0 about1 = true := code_word (m := ⟨14, 3⟩) (meth := k14m3) (c := k14c3) (by decide +kernel) rfl rfl rfl (by decide +kernel)
set_option maxRecDepth 65536 in
theorem w_c21 : (Jvm.Cond.code ({ cls := "java/lang/Long", name := "<init>", desc := "(J)V" } : Jvm.MethodName) jdk_35_method_26_code (3 : Nat) (Option.none : Option Jvm.ClassFile.FieldType)).before args0 about1 = true := code_word (m := ⟨11, 1⟩) (meth := k11m1) (c := k11c1) (by decide +kernel) rfl rfl rfl (by decide +kernel)
set_option maxRecDepth 65536 in
theorem w_c22 : (Jvm.Cond.code ({ cls := "java/lang/Number", name := "<init>", desc := "()V" } : Jvm.MethodName) jdk_18_method_1_code (1 : Nat) (Option.none : Option Jvm.ClassFile.FieldType)).before args0 about1 = true := code_word (m := ⟨10, 0⟩) (meth := k10m0) (c := k10c0) (by decide +kernel) rfl rfl rfl (by decide +kernel)
set_option maxRecDepth 65536 in
theorem w_c23 : (Jvm.Cond.code ({ cls := "java/lang/String", name := "<init>", desc := "([C)V" } : Jvm.MethodName) jdk_42_method_3_code (2 : Nat) (Option.none : Option Jvm.ClassFile.FieldType)).before args0 about1 = true := code_word (m := ⟨7, 1⟩) (meth := k7m1) (c := k7c1) (by decide +kernel) rfl rfl rfl (by decide +kernel)
set_option maxRecDepth 65536 in
theorem w_c24 : (Jvm.Cond.code ({ cls := "java/lang/String", name := "<init>", desc := "([CIILjava/lang/Void;)V" } : Jvm.MethodName) jdk_42_method_149_code (6 : Nat) (Option.none : Option Jvm.ClassFile.FieldType)).before args0 about1 = true := code_word (m := ⟨7, 4⟩) (meth := k7m4) (c := k7c4) (by decide +kernel) rfl rfl rfl (by decide +kernel)
set_option maxRecDepth 65536 in
theorem w_c25 : (Jvm.Cond.code ({ cls := "java/lang/StringUTF16", name := "compress", desc := "([CII)[B" } : Jvm.MethodName) jdk_52_method_16_code (6 : Nat) (Option.some (Jvm.ClassFile.FieldType.array Jvm.ClassFile.FieldType.byte))).before args0 about1 = true := code_word (m := ⟨15, 2⟩) (meth := k15m2) (c := k15c2) (by decide +kernel) rfl rfl rfl (by decide +kernel)
set_option maxRecDepth 65536 in
theorem w_c26 : (Jvm.Cond.code ({ cls := "java/lang/StringUTF16", name := "compress", desc := "([CI[BII)I" } : Jvm.MethodName) jdk_52_method_21_code (7 : Nat) (Option.some Jvm.ClassFile.FieldType.int)).before args0 about1 = true := code_word (m := ⟨15, 3⟩) (meth := k15m3) (c := k15c3) (by decide +kernel) rfl rfl rfl (by decide +kernel)
set_option maxRecDepth 65536 in
theorem w_c27 : (Jvm.Cond.code ({ cls := "java/lang/StringUTF16", name := "coderFromArrayLen", desc := "([BI)B" } : Jvm.MethodName) jdk_52_method_15_code (2 : Nat) (Option.some Jvm.ClassFile.FieldType.byte)).before args0 about1 = true := code_word (m := ⟨15, 1⟩) (meth := k15m1) (c := k15c1) (by decide +kernel) rfl rfl rfl (by decide +kernel)
def codes1 : List Jvm.Cond := [Jvm.Cond.code x code maxLocals ret, Jvm.Cond.code ({ cls := "java/lang/String", name := "valueOf", desc := "(C)Ljava/lang/String;" } : Jvm.MethodName) jdk_42_method_139_code (1 : Nat) (Option.some (Jvm.ClassFile.FieldType.object "java/lang/String")), Jvm.Cond.code ({ cls := "java/lang/StringLatin1", name := "canEncode", desc := "(C)Z" } : Jvm.MethodName) jdk_43_method_3_code (1 : Nat) (Option.some Jvm.ClassFile.FieldType.boolean), Jvm.Cond.code ({ cls := "java/lang/StringLatin1", name := "toBytes", desc := "(C)[B" } : Jvm.MethodName) jdk_43_method_46_code (1 : Nat) (Option.some (Jvm.ClassFile.FieldType.array Jvm.ClassFile.FieldType.byte)), Jvm.Cond.code ({ cls := "java/lang/String", name := "<init>", desc := "([BB)V" } : Jvm.MethodName) jdk_42_method_151_code (3 : Nat) (Option.none : Option Jvm.ClassFile.FieldType), Jvm.Cond.code ({ cls := "java/lang/Object", name := "<init>", desc := "()V" } : Jvm.MethodName) object_method_1_code (1 : Nat) (Option.none : Option Jvm.ClassFile.FieldType), Jvm.Cond.code ({ cls := "com/example/patient_crawler/patientcrawler/Validators", name := "dated", desc := "(Ljava/lang/String;J)Lcom/example/patient_crawler/patientcrawler/Validators;" } : Jvm.MethodName) prog_37_method_4_code (3 : Nat) (Option.some (Jvm.ClassFile.FieldType.object "com/example/patient_crawler/patientcrawler/Validators")), Jvm.Cond.code ({ cls := "com/example/patient_crawler/patientcrawler/Validators", name := "imfFixdateNames", desc := "(J)Z" } : Jvm.MethodName) prog_37_method_10_code (2 : Nat) (Option.some Jvm.ClassFile.FieldType.boolean), Jvm.Cond.code ({ cls := "java/lang/Long", name := "valueOf", desc := "(J)Ljava/lang/Long;" } : Jvm.MethodName) jdk_35_method_24_code (3 : Nat) (Option.some (Jvm.ClassFile.FieldType.object "java/lang/Long")), Jvm.Cond.code ({ cls := "com/example/patient_crawler/patientcrawler/Validators", name := "<init>", desc := "(Ljava/lang/String;Ljava/lang/String;Ljava/lang/Long;)V" } : Jvm.MethodName) prog_37_method_2_code (4 : Nat) (Option.none : Option Jvm.ClassFile.FieldType), Jvm.Cond.code ({ cls := "com/example/patient_crawler/patientcrawler/Validators", name := "etag", desc := "()Ljava/util/Optional;" } : Jvm.MethodName) prog_37_method_5_code (1 : Nat) (Option.some (Jvm.ClassFile.FieldType.object "java/util/Optional")), Jvm.Cond.code ({ cls := "java/util/Optional", name := "ofNullable", desc := "(Ljava/lang/Object;)Ljava/util/Optional;" } : Jvm.MethodName) jdk_32_method_4_code (1 : Nat) (Option.some (Jvm.ClassFile.FieldType.object "java/util/Optional")), Jvm.Cond.code ({ cls := "java/util/Optional", name := "<init>", desc := "(Ljava/lang/Object;)V" } : Jvm.MethodName) jdk_32_method_2_code (2 : Nat) (Option.none : Option Jvm.ClassFile.FieldType), Jvm.Cond.code ({ cls := "java/util/Optional", name := "orElse", desc := "(Ljava/lang/Object;)Ljava/lang/Object;" } : Jvm.MethodName) jdk_32_method_15_code (2 : Nat) (Option.some (Jvm.ClassFile.FieldType.object "java/lang/Object")), Jvm.Cond.code ({ cls := "java/lang/String", name := "equals", desc := "(Ljava/lang/Object;)Z" } : Jvm.MethodName) jdk_42_method_66_code (3 : Nat) (Option.some Jvm.ClassFile.FieldType.boolean), Jvm.Cond.code ({ cls := "com/example/patient_crawler/patientcrawler/Validators", name := "lastModifiedSecond", desc := "()Ljava/util/OptionalLong;" } : Jvm.MethodName) prog_37_method_7_code (1 : Nat) (Option.some (Jvm.ClassFile.FieldType.object "java/util/OptionalLong")), Jvm.Cond.code ({ cls := "java/lang/Long", name := "longValue", desc := "()J" } : Jvm.MethodName) jdk_35_method_31_code (1 : Nat) (Option.some Jvm.ClassFile.FieldType.long), Jvm.Cond.code ({ cls := "java/util/OptionalLong", name := "of", desc := "(J)Ljava/util/OptionalLong;" } : Jvm.MethodName) jdk_2650_method_4_code (2 : Nat) (Option.some (Jvm.ClassFile.FieldType.object "java/util/OptionalLong")), Jvm.Cond.code ({ cls := "java/util/OptionalLong", name := "<init>", desc := "(J)V" } : Jvm.MethodName) jdk_2650_method_3_code (3 : Nat) (Option.none : Option Jvm.ClassFile.FieldType), Jvm.Cond.code ({ cls := "java/util/OptionalLong", name := "isPresent", desc := "()Z" } : Jvm.MethodName) jdk_2650_method_6_code (1 : Nat) (Option.some Jvm.ClassFile.FieldType.boolean), Jvm.Cond.code ({ cls := "java/util/OptionalLong", name := "getAsLong", desc := "()J" } : Jvm.MethodName) jdk_2650_method_5_code (1 : Nat) (Option.some Jvm.ClassFile.FieldType.long), Jvm.Cond.code ({ cls := "java/lang/Long", name := "<init>", desc := "(J)V" } : Jvm.MethodName) jdk_35_method_26_code (3 : Nat) (Option.none : Option Jvm.ClassFile.FieldType), Jvm.Cond.code ({ cls := "java/lang/Number", name := "<init>", desc := "()V" } : Jvm.MethodName) jdk_18_method_1_code (1 : Nat) (Option.none : Option Jvm.ClassFile.FieldType), Jvm.Cond.code ({ cls := "java/lang/String", name := "<init>", desc := "([C)V" } : Jvm.MethodName) jdk_42_method_3_code (2 : Nat) (Option.none : Option Jvm.ClassFile.FieldType), Jvm.Cond.code ({ cls := "java/lang/String", name := "<init>", desc := "([CIILjava/lang/Void;)V" } : Jvm.MethodName) jdk_42_method_149_code (6 : Nat) (Option.none : Option Jvm.ClassFile.FieldType), Jvm.Cond.code ({ cls := "java/lang/StringUTF16", name := "compress", desc := "([CII)[B" } : Jvm.MethodName) jdk_52_method_16_code (6 : Nat) (Option.some (Jvm.ClassFile.FieldType.array Jvm.ClassFile.FieldType.byte)), Jvm.Cond.code ({ cls := "java/lang/StringUTF16", name := "compress", desc := "([CI[BII)I" } : Jvm.MethodName) jdk_52_method_21_code (7 : Nat) (Option.some Jvm.ClassFile.FieldType.int), Jvm.Cond.code ({ cls := "java/lang/StringUTF16", name := "coderFromArrayLen", desc := "([BI)B" } : Jvm.MethodName) jdk_52_method_15_code (2 : Nat) (Option.some Jvm.ClassFile.FieldType.byte)]
set_option maxRecDepth 65536 in
theorem codes_eq : words1.filter isCode = codes1 := rfl
theorem w_codes : ∀ c ∈ words1.filter isCode, c.before args0 about1 = true := by
  rw [codes_eq]
  intro c hc
  simp only [codes1, List.mem_cons, List.not_mem_nil, or_false] at hc
  rcases hc with rfl | rfl | rfl | rfl | rfl | rfl | rfl | rfl | rfl | rfl | rfl | rfl | rfl | rfl | rfl | rfl | rfl | rfl | rfl | rfl | rfl | rfl | rfl | rfl | rfl | rfl | rfl | rfl
  · exact w_c0
  · exact w_c1
  · exact w_c2
  · exact w_c3
  · exact w_c4
  · exact w_c5
  · exact w_c6
  · exact w_c7
  · exact w_c8
  · exact w_c9
  · exact w_c10
  · exact w_c11
  · exact w_c12
  · exact w_c13
  · exact w_c14
  · exact w_c15
  · exact w_c16
  · exact w_c17
  · exact w_c18
  · exact w_c19
  · exact w_c20
  · exact w_c21
  · exact w_c22
  · exact w_c23
  · exact w_c24
  · exact w_c25
  · exact w_c26
  · exact w_c27
set_option maxRecDepth 65536 in
theorem w_t1 : (words1.take 24).all (fun c => isCode c || c.before args0 about1) = true := by decide +kernel
set_option maxRecDepth 65536 in
theorem w_t2 : ((words1.drop 24).take 24).all (fun c => isCode c || c.before args0 about1) = true := by decide +kernel
set_option maxRecDepth 65536 in
theorem w_t3 : (((words1.drop 24).drop 24).take 24).all (fun c => isCode c || c.before args0 about1) = true := by decide +kernel
set_option maxRecDepth 65536 in
theorem w_t4 : ((((words1.drop 24).drop 24).drop 24).take 24).all (fun c => isCode c || c.before args0 about1) = true := by decide +kernel
set_option maxRecDepth 65536 in
theorem w_t5 : (((((words1.drop 24).drop 24).drop 24).drop 24).take 24).all (fun c => isCode c || c.before args0 about1) = true := by decide +kernel
set_option maxRecDepth 65536 in
theorem w_t6 : ((((((words1.drop 24).drop 24).drop 24).drop 24).drop 24).take 24).all (fun c => isCode c || c.before args0 about1) = true := by decide +kernel
set_option maxRecDepth 65536 in
theorem w_t7 : ((((((words1.drop 24).drop 24).drop 24).drop 24).drop 24).drop 24).all (fun c => isCode c || c.before args0 about1) = true := by decide +kernel
theorem w_tables : (allAtoms (Jvm.Cond.code x code maxLocals ret :: tables_1)).before args0 about1 = true := by
  rw [allAtoms_all]
  show words1.all (fun c => c.before args0 about1) = true
  refine all_split ?_ w_codes
  rw [← List.take_append_drop 24 words1, List.all_append, w_t1, ← List.take_append_drop 24 (words1.drop 24), List.all_append, w_t2, ← List.take_append_drop 24 ((words1.drop 24).drop 24), List.all_append, w_t3, ← List.take_append_drop 24 (((words1.drop 24).drop 24).drop 24), List.all_append, w_t4, ← List.take_append_drop 24 ((((words1.drop 24).drop 24).drop 24).drop 24), List.all_append, w_t5, ← List.take_append_drop 24 (((((words1.drop 24).drop 24).drop 24).drop 24).drop 24), List.all_append, w_t6, w_t7]
  rfl
set_option maxRecDepth 65536 in
theorem w_rest : rest_1_c.before args0 about1 = true := by decide +kernel
set_option maxRecDepth 65536 in
theorem w_case : (Jvm.Cond.and given_1 narrow_1).before args0 about1 = true := by decide +kernel
set_option maxRecDepth 65536 in
theorem w_consts : constsHeld consts_1 about1 := Jvm.Lit.constsHeldB_iff.mp (by decide +kernel)
theorem w_applies : (headSpec (Jvm.Cond.code x code maxLocals ret :: tables_1) room_1).applies x e0.platform about1 = true :=
  (Spec.applies_iff w_frames).mpr ⟨w_running, w_runnable, w_alone, w_named, w_hears, w_ripe, w_room, w_tables⟩
theorem atStart : AtStart classFile x code maxLocals ret World_1 tables_1 room_1 Calls_1 rest_1 Pre_1 launch0 p0 e0 about1 theMethod args0 below0 :=
  ⟨lists_1, trivial, launch0.admits_env _ _ _, launch0.least_env, fairChoices_fair.cas, fairChoices_fair.clock, w_frames, w_args, w_heap, w_applies, ⟨w_consts, trivial⟩, w_rest, w_case⟩
end start1
theorem witness_1 : WitnessClaimed_1 := ⟨start1.p0, start1.e0, start1.about1, start1.theMethod, start1.args0, start1.below0, start1.atStart⟩
end Jvm.Pilot.@@N@@
