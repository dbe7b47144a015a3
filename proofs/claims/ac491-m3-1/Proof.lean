import JvmDerived
import JvmDerived.Pilot.@@N@@Statement
import JvmDerived.Pilot.@@N@@Code
set_option linter.unusedVariables false
set_option linter.unusedSimpArgs false
namespace Jvm.Pilot.@@N@@
open Jvm Jvm.ClassFile Sem Op Lib Jvm.Free Jvm.Stand Jvm.LawKit Jvm.RoadKit Bundle Jvm.Pilot.@@N@@.Jvm.D
section OwnLayer
variable {p : Program} {l : Launch} {e : Env} {R : Room} {s : State} {m : MethodId} {args : Array Value} {below : List Frame} {meth : Method} {c : Code} {T T' : State} {cells slots cells' slots' : Nat} {Z : State} {a0 : Array Value} {EL : List (String × Nat)} {n0 : Nat} {W0 : List Addr} {own : String} {h h' : Heap} {Ow Ow' : List Addr} {Pq : Outcome → State → Prop} {pc pc' : Nat} {L L' : Array Slot} {S S' : List Value}
/-- the run goes on from here to an end that Pq allows -/
def OG (p : Program) (e : Env) (below : List Frame) (m : MethodId) (Pq : Outcome → State → Prop) (T : State) (pc : Nat) (L : Array Slot) (S : List Value) : Prop :=
  ∃ t o, Steps p.tables e below (T.setTop (mkF m pc L S)) t ∧ t.status = .running ∧ Ended t below o ∧ Pq o t
theorem OG.st (st : ∀ t, Steps p.tables e below (T'.setTop (mkF m pc' L' S')) t → Steps p.tables e below (T.setTop (mkF m pc L S)) t) (k : OG p e below m Pq T' pc' L' S') : OG p e below m Pq T pc L S := by
  obtain ⟨t, o, h1, r⟩ := k
  exact ⟨t, o, st t h1, r⟩
/-- an address that this walk may write -/
def OOwn (Z : State) (EL : List (String × Nat)) (n0 : Nat) (W0 : List Addr) (hs : Nat) (vm : Vm) (h : Heap) (x : Addr) : Prop := n0 ≤ x ∧ x < h.size ∧ Safe Z EL vm h x ∧ (x ∈ W0 ∨ hs ≤ x)
/-- the tables since the invocation's start: warmed; with no constant of EL nothing is interned -/
def OSn (EL : List (String × Nat)) (s : State) (vm : Vm) (n : Nat) : Prop := s.Since vm n ∧ (EL = [] → s.WarmedH vm)
theorem OSn.of {vm : Vm} (q : s.WarmedH vm) (n : Nat) : OSn EL s vm n := ⟨q.since n, fun _ => q⟩
theorem OSn.trans {vm₁ vm₂ : Vm} {n₁ n₂ : Nat} (h₁ : OSn EL s vm₁ n₁) (h₂ : OSn EL (s.setVm vm₁) vm₂ n₂) (hn : n₁ ≤ n₂) : OSn EL s vm₂ n₂ := ⟨h₁.1.trans h₂.1 hn, fun e => State.WarmedH.trans (t := s.setVm vm₁) (h₁.2 e) (h₂.2 e)⟩
/-- where the walk stands -/
def OPn (p : Program) (l : Launch) (e : Env) (R : Room) (s : State) (m : MethodId) (args : Array Value) (below : List Frame) (meth : Method) (c : Code) (Z : State) (a0 : Array Value) (EL : List (String × Nat)) (n0 : Nat) (W0 : List Addr) (own : String) (T : State) (h : Heap) (Ow : List Addr) (cells slots : Nat) : Prop :=
  ∃ locs : List Loc, Stand p l e R (s.setVm T.vm) m args below meth c T locs cells slots ∧ p.tables.exec = Jvm.exec ∧ meth.locks = false ∧ OSn EL s T.vm h.size ∧ Z.Warmed39 T.vm ∧ T.vm.findClass own = some m.cls ∧ T.heap = h ∧ Fr n0 locs ∧ EW Z a0 EL ∧ CHr Z EL s.vm s.heap T.vm h ∧ Old Z n0 h ∧ Keep s.heap h W0 ∧ ∀ x ∈ Ow, OOwn Z EL n0 W0 s.heap.size T.vm h x
theorem OPn.here (P : OPn p l e R s m args below meth c Z a0 EL n0 W0 own T h Ow cells slots) : At T m c below := by obtain ⟨_, X, -⟩ := P; exact X.here
theorem OPn.ex (P : OPn p l e R s m args below meth c Z a0 EL n0 W0 own T h Ow cells slots) : p.tables.exec = Jvm.exec := by obtain ⟨_, _, hx, -⟩ := P; exact hx
theorem OPn.old (P : OPn p l e R s m args below meth c Z a0 EL n0 W0 own T h Ow cells slots) : Old Z n0 h := by obtain ⟨_, _, _, _, _, _, _, _, _, _, _, O, -⟩ := P; exact O
theorem OPn.keep0 (P : OPn p l e R s m args below meth c Z a0 EL n0 W0 own T h Ow cells slots) : Keep s.heap h W0 := by obtain ⟨_, _, _, _, _, _, _, _, _, _, _, _, K, -⟩ := P; exact K
theorem OPn.warm (P : OPn p l e R s m args below meth c Z a0 EL n0 W0 own T h Ow cells slots) : Z.Warmed39 T.vm := by obtain ⟨_, _, _, _, _, hZ, -⟩ := P; exact hZ
theorem OPn.n0le (P : OPn p l e R s m args below meth c Z a0 EL n0 W0 own T h Ow cells slots) : n0 ≤ h.size := by have O := P.old; rw [← O.1]; exact O.2.1
theorem OPn.mono (P : OPn p l e R s m args below meth c Z a0 EL n0 W0 own T h Ow cells slots) (hc : cells ≤ cells') (hs : slots ≤ slots') : OPn p l e R s m args below meth c Z a0 EL n0 W0 own T h Ow cells' slots' := by
  obtain ⟨locs, X, r⟩ := P
  exact ⟨locs, X.mono hc hs, r⟩
theorem OPn.less (P : OPn p l e R s m args below meth c Z a0 EL n0 W0 own T h Ow cells slots) (q : ∀ x ∈ Ow', x ∈ Ow) : OPn p l e R s m args below meth c Z a0 EL n0 W0 own T h Ow' cells slots := by
  obtain ⟨locs, X, h1, h2, h3, h4, h5, h6, h7, h8, h9, h10, h11, W⟩ := P
  exact ⟨locs, X, h1, h2, h3, h4, h5, h6, h7, h8, h9, h10, h11, fun x hx => W x (q x hx)⟩
theorem OPn.more (P : OPn p l e R s m args below meth c Z a0 EL n0 W0 own T h Ow cells slots) {x : Addr} (q : n0 ≤ x ∧ x < h.size ∧ Safe Z EL T.vm h x) (r : s.heap.size ≤ x) : OPn p l e R s m args below meth c Z a0 EL n0 W0 own T h (x :: Ow) cells slots := by
  obtain ⟨locs, X, h1, h2, h3, h4, h5, h6, h7, h8, h9, h10, h11, W⟩ := P
  exact ⟨locs, X, h1, h2, h3, h4, h5, h6, h7, h8, h9, h10, h11, fun y hy => (List.mem_cons.mp hy).elim (fun u => u ▸ ⟨q.1, q.2.1, q.2.2, Or.inr r⟩) (W y)⟩
theorem OPn.fin {locs' : List Loc} (hx : p.tables.exec = Jvm.exec) (hlk : meth.locks = false) (hS : OSn EL s T.vm h.size) (hZ : Z.Warmed39 T.vm) (hown : T.vm.findClass own = some m.cls) (hEL : EW Z a0 EL) (X' : Stand p l e R (s.setVm T.vm) m args below meth c T' locs' cells' slots') (eT' : T'.heap = h') (hle : h.size ≤ h'.size) (N' : Fr n0 locs') (C' : CHr Z EL s.vm s.heap T.vm h') (O' : Old Z n0 h') (K' : Keep s.heap h' W0) (W' : ∀ x ∈ Ow', OOwn Z EL n0 W0 s.heap.size T.vm h' x) :
    OPn p l e R s m args below meth c Z a0 EL n0 W0 own T' h' Ow' cells' slots' := by
  have A : CHr Z EL T.vm h' T'.vm h' := CHv.at X' hZ hEL C'.1
  refine ⟨locs', X'.retabled X'.warmed.wide, hx, hlk, hS.trans (OSn.of X'.warmed _) hle, State.Warmed39.trans (t := s.setVm T.vm) hZ X'.warmed.wide, ?_, eT', N', hEL, C'.trans A, O', K', fun x hx => ?_⟩
  · exact (X'.warmed.alike.findClass own _).trans hown
  · obtain ⟨q1, q2, q3, q4⟩ := W' x hx
    exact ⟨q1, q2, A.safe q2 q3, q4⟩
/-- a step that moves the tables alone -/
theorem OPn.tab (P : OPn p l e R s m args below meth c Z a0 EL n0 W0 own T h Ow cells slots) (f : ∀ locs, Stand p l e R (s.setVm T.vm) m args below meth c T locs cells slots → Z.Warmed39 (s.setVm T.vm).vm → (s.setVm T.vm).vm.findClass own = some m.cls → T.heap = h → p.tables.exec = Jvm.exec → ∃ T', Stand p l e R (s.setVm T.vm) m args below meth c T' locs cells slots ∧ T'.heap = h ∧ ∀ target, Steps p.tables e below (T'.setTop (mkF m pc' L' S')) target → Steps p.tables e below (T.setTop (mkF m pc L S)) target)
    (k : ∀ T', OPn p l e R s m args below meth c Z a0 EL n0 W0 own T' h Ow cells slots → OG p e below m Pq T' pc' L' S') : OG p e below m Pq T pc L S := by
  obtain ⟨locs, X, hx, hlk, hS, hZ, hown, eT, N, hEL, C, O, K, W⟩ := P
  obtain ⟨T', X', e', st⟩ := f locs X hZ hown eT hx
  exact OG.st st (k T' (OPn.fin hx hlk hS hZ hown hEL X' e' (Nat.le_refl _) N C O K W))
/-- a step that makes one cell -/
theorem OPn.grow (P : OPn p l e R s m args below meth c Z a0 EL n0 W0 own T h Ow cells slots) {G : Heap → Addr → Prop} (f : ∀ locs, Stand p l e R (s.setVm T.vm) m args below meth c T locs cells slots → Z.Warmed39 (s.setVm T.vm).vm → (s.setVm T.vm).vm.findClass own = some m.cls → T.heap = h → p.tables.exec = Jvm.exec → ∃ T' h', Stand p l e R (s.setVm T.vm) m args below meth c T' locs cells' slots' ∧ T'.heap = h' ∧ Ext h h' ∧ h.size < h'.size ∧ G h' h.size ∧ ∀ target, Steps p.tables e below (T'.setTop (mkF m pc' L' (.ref h.size :: S'))) target → Steps p.tables e below (T.setTop (mkF m pc L S)) target)
    (k : ∀ T' h' b, OPn p l e R s m args below meth c Z a0 EL n0 W0 own T' h' (b :: Ow) cells' slots' → Keep h h' [] → h.size ≤ b → G h' b → OG p e below m Pq T' pc' L' (.ref b :: S')) : OG p e below m Pq T pc L S := by
  have hn := P.n0le
  obtain ⟨locs, X, hx, hlk, hS, hZ, hown, eT, N, hEL, C, O, K, W⟩ := P
  obtain ⟨T', h', X', e', E, hlt, g, st⟩ := f locs X hZ hown eT hx
  refine OG.st st (k T' h' h.size (OPn.fin hx hlk hS hZ hown hEL X' e' E.1 N (C.trans (CHr.ext E C.1)) (O.ext E) (K.ext E) fun x hx => ?_) ((Keep.refl h []).ext E) (Nat.le_refl _) g)
  rcases List.mem_cons.mp hx with rfl | hx
  · exact ⟨hn, hlt, Safe.ext E C.1 (Safe.new (Nat.le_refl _)), Or.inr K.1⟩
  · obtain ⟨q1, q2, q3, q4⟩ := W x hx
    exact ⟨q1, Nat.lt_of_lt_of_le q2 E.1, Safe.ext E C.1 q3, q4⟩
/-- a step that writes one place of an own cell -/
theorem OPn.wr (P : OPn p l e R s m args below meth c Z a0 EL n0 W0 own T h Ow cells slots) {a : Addr} {sl : Nat} {v : Value} (ha : a ∈ Ow) (f : ∀ locs, Stand p l e R (s.setVm T.vm) m args below meth c T locs cells slots → Z.Warmed39 (s.setVm T.vm).vm → (s.setVm T.vm).vm.findClass own = some m.cls → T.heap = h → p.tables.exec = Jvm.exec → ∃ T' h', Stand p l e R (s.setVm T.vm) m args below meth c T' (locs ++ [⟨a, sl⟩]) cells slots ∧ T'.heap = h' ∧ Wr h h' a sl v ∧ ∀ target, Steps p.tables e below (T'.setTop (mkF m pc' L' S')) target → Steps p.tables e below (T.setTop (mkF m pc L S)) target)
    (k : ∀ T' h', OPn p l e R s m args below meth c Z a0 EL n0 W0 own T' h' Ow cells slots → Wr h h' a sl v → OG p e below m Pq T' pc' L' S') : OG p e below m Pq T pc L S := by
  obtain ⟨locs, X, hx, hlk, hS, hZ, hown, eT, N, hEL, C, O, K, W⟩ := P
  obtain ⟨T', h', X', e', Wq, st⟩ := f locs X hZ hown eT hx
  obtain ⟨q1, q2, q3, q4⟩ := W a ha
  refine OG.st st (k T' h' (OPn.fin hx hlk hS hZ hown hEL X' e' (Nat.le_of_eq Wq.size.symm) (Fr.snoc X' N q1) (C.trans (CHr.wr Wq q3 C.1)) (O.wr Wq q1) (K.wr Wq q4) fun x hx => ?_) Wq)
  obtain ⟨r1, r2, r3, r4⟩ := W x hx
  exact ⟨r1, by rw [Wq.size]; exact r2, Safe.wr Wq q3 C.1 r3, r4⟩
/-! the end of a walk -/
def OFq (Z : State) (EL : List (String × Nat)) (n0 : Nat) (s : State) (W0 : List Addr) (R : Room) (Q : Option Value → Vm → Heap → Prop) (o : Outcome) (t : State) : Prop :=
  ∃ v L, o = .returned v ∧ (Q v t.vm t.heap ∧ Keep s.heap t.heap W0 ∧ Fr n0 L) ∧ CHr Z EL s.vm s.heap t.vm t.heap ∧ (EL = [] → s.WarmedH t.vm) ∧ ReturnedEndW s o t L R.cells R.slots
theorem OPn.ret {Q : Option Value → Vm → Heap → Prop} (P : OPn p l e R s m args below meth c Z a0 EL n0 W0 own T h Ow cells slots) {v : Option Value} (hv : meth.sig.returnType = none → v = none) (hc : cells ≤ R.cells) (hs : slots ≤ R.slots) (q : Q v T.vm h)
    (st : ∀ locs, Stand p l e R (s.setVm T.vm) m args below meth c T locs cells slots → p.tables.exec = Jvm.exec → ∀ fs, (∀ (f : JFrame) (acts : List Action), f.method = m → f.locked = none → f.entered = [] → (doReturn e (T.setTop f) acts v).1 = T.setFrames fs) → Steps p.tables e below (T.setTop (mkF m pc L S)) (T.setFrames fs)) : OG p e below m (OFq Z EL n0 s W0 R Q) T pc L S := by
  obtain ⟨locs, X, hx, hlk, hS, hZ, hown, eT, N, hEL, C, O, K, W⟩ := P
  subst eT
  obtain ⟨fs, h1, h2, h3, h4, h5, h6, h7⟩ := X.leaveW hS.1 (Nat.le_refl _) hv hlk
  exact ⟨_, _, st locs X hx fs h1, h2, h3, v, locs, rfl, ⟨q, K, N⟩, C, hS.2, h4, h5, h6, h7.mono hc hs⟩
theorem o_ret0 {Q : Option Value → Vm → Heap → Prop} (P : OPn p l e R s m args below meth c Z a0 EL n0 W0 own T h Ow cells slots) (hret : meth.sig.returnType = none) (hd : decode c.code pc = .ok (.return_, 1)) (hc : cells ≤ R.cells) (hs : slots ≤ R.slots) (q : Q none T.vm h) : OG p e below m (OFq Z EL n0 s W0 R Q) T pc L [] :=
  P.ret (fun _ => rfl) hc hs q fun locs X hx fs hr => X.returnOut hx hret hd hr
theorem o_retI {Q : Option Value → Vm → Heap → Prop} (P : OPn p l e R s m args below meth c Z a0 EL n0 W0 own T h Ow cells slots) {t : FieldType} {z : Int32} (hret : meth.sig.returnType = some t) (ht : t = .int ∨ t = .boolean ∨ t = .byte ∨ t = .char ∨ t = .short) (hn : narrow t (.int z) = .int z) (hd : decode c.code pc = .ok (.ireturn, 1)) (hc : cells ≤ R.cells) (hs : slots ≤ R.slots) (q : Q (some (.int z)) T.vm h) : OG p e below m (OFq Z EL n0 s W0 R Q) T pc L (.int z :: S) :=
  P.ret (fun h => by rw [hret] at h; cases h) hc hs q fun locs X hx fs hr => retOut X hx hret hn (Or.inl ⟨rfl, ht, z, rfl⟩) hd hr
theorem o_retL {Q : Option Value → Vm → Heap → Prop} (P : OPn p l e R s m args below meth c Z a0 EL n0 W0 own T h Ow cells slots) {z : Int64} (hret : meth.sig.returnType = some .long) (hd : decode c.code pc = .ok (.lreturn, 1)) (hc : cells ≤ R.cells) (hs : slots ≤ R.slots) (q : Q (some (.long z)) T.vm h) : OG p e below m (OFq Z EL n0 s W0 R Q) T pc L (.long z :: S) :=
  P.ret (fun h => by rw [hret] at h; cases h) hc hs q fun locs X hx fs hr => retOut X hx hret rfl (Or.inr (Or.inl ⟨rfl, rfl, z, rfl⟩)) hd hr
theorem o_retD {Q : Option Value → Vm → Heap → Prop} (P : OPn p l e R s m args below meth c Z a0 EL n0 W0 own T h Ow cells slots) {z : UInt64} (hret : meth.sig.returnType = some .double) (hd : decode c.code pc = .ok (.dreturn, 1)) (hc : cells ≤ R.cells) (hs : slots ≤ R.slots) (q : Q (some (.double z)) T.vm h) : OG p e below m (OFq Z EL n0 s W0 R Q) T pc L (.double z :: S) :=
  P.ret (fun h => by rw [hret] at h; cases h) hc hs q fun locs X hx fs hr => retOut X hx hret rfl (Or.inr (Or.inr (Or.inl ⟨rfl, rfl, z, rfl⟩))) hd hr
theorem o_retA {Q : Option Value → Vm → Heap → Prop} (P : OPn p l e R s m args below meth c Z a0 EL n0 W0 own T h Ow cells slots) {t : FieldType} {w : Value} (hret : meth.sig.returnType = some t) (ht : t.isReference = true) (hw : w.isRef = true) (hn : narrow t w = w) (hd : decode c.code pc = .ok (.areturn, 1)) (hc : cells ≤ R.cells) (hs : slots ≤ R.slots) (q : Q (some w) T.vm h) : OG p e below m (OFq Z EL n0 s W0 R Q) T pc L (w :: S) :=
  P.ret (fun h => by rw [hret] at h; cases h) hc hs q fun locs X hx fs hr => retOut X hx hret hn (Or.inr (Or.inr (Or.inr (Or.inr ⟨rfl, ht, hw⟩)))) hd hr
/-! a contract -/
def OCt (l : Launch) (Z : State) (a0 : Array Value) (EL : List (String × Nat)) (n0 : Nat) (y : MethodName) (bytes : ByteArray) (maxL : Nat) (ret : Option FieldType) (rm : Room) (ws : List Jvm.Cond) (as' : Array Value) (h : Heap) (Sf : List Addr) (Q : Option Value → Vm → Heap → Prop) : Prop :=
  Old Z n0 h → EW Z a0 EL → (∀ x ∈ Sf, n0 ≤ x ∧ x < h.size) →
  MetFree l y (head1 (Jvm.Cond.code y bytes maxL ret :: ws) rm) (fun a U => a = as' ∧ Z.Warmed39 U.vm ∧ U.heap = h ∧ CHv Z EL U.vm h ∧ ∀ x ∈ Sf, Safe Z EL U.vm h x) (fun _ _ _ _ _ => True) (fun _ U o U' => OFq Z EL n0 U Sf rm Q o U')
theorem OCt.body {y : MethodName} {bytes : ByteArray} {maxL : Nat} {ret : Option FieldType} {rm : Room} {ws : List Jvm.Cond} {as' : Array Value} {Sf : List Addr} {Q : Option Value → Vm → Heap → Prop} {L0 : Array Slot} (hpl : plainFor y = true) (hef : ∀ m, entryFrame m as' maxL = mkF m 0 L0 [])
    (k : ∀ p e s m below meth c T, c.code = bytes → c.maxLocals = maxL → meth.sig.returnType = ret → meth.name = y.name → s.heap = h → OPn p l e rm s m as' below meth c Z a0 EL n0 Sf y.cls T h Sf 0 0 → OG p e below m (OFq Z EL n0 s Sf rm Q) T 0 L0 []) : OCt l Z a0 EL n0 y bytes maxL ret rm ws as' h Sf Q := by
  intro hO hEL hSf
  refine MetFree.of_bodySF hpl hisR ?_
  intro p e s m args below meth c s₁ Bd hml0 hP _
  obtain ⟨rfl, hZ, rfl, hC, hS⟩ := hP
  have X0 : Stand p l e rm s m args below meth c s₁ [] 0 0 := Stand.of_body Bd
  have ev : s₁.vm = s.vm := by rw [Bd.state]; rfl
  have eh : s₁.heap = s.heap := by rw [Bd.state]; rfl
  rw [hef m]
  refine k p e s m below meth c s₁ Bd.bytes hml0 Bd.returns (name_of_methodNamed Bd.named Bd.method).1 rfl ⟨[], X0.retabled X0.warmed.wide, Bd.exec, Bd.notSynchronized, OSn.of X0.warmed _, by rw [ev]; exact hZ, by rw [ev]; exact findClass_of_methodNamed Bd.named, eh, Fr.nil n0, hEL, by rw [ev]; exact CHr.refl hC, hO, Keep.refl _ _, fun x hx => ⟨(hSf x hx).1, (hSf x hx).2, by rw [ev]; exact hS x hx, Or.inl hx⟩⟩
/-! a call by a contract -/
theorem OCt.back {y : MethodName} {bytes : ByteArray} {maxL : Nat} {ret : Option FieldType} {rm : Room} {as' : Array Value} {Sf : List Addr} {Q : Option Value → Vm → Heap → Prop} {len W : Nat} (hO : Old Z n0 h) (hEL : EW Z a0 EL) (hSf : ∀ x ∈ Sf, n0 ≤ x ∧ x < h.size ∧ Safe Z EL T.vm h x) (hM : OCt l Z a0 EL n0 y bytes maxL ret rm [] as' h Sf Q)
    (hZ : Z.Warmed39 T.vm) (wc : (Jvm.Cond.code y bytes maxL ret).before a0 Z = true) (wz : (Jvm.Cond.initialized y.cls).before a0 Z = true) (hf : rm.frames + 1 ≤ R.frames) (hl : W + (maxL + 11) + rm.locals ≤ R.locals) (H : CHv Z EL T.vm h) :
    BackS l R p e below (s.setVm T.vm) args y len W (fun A a => a = as' ∧ A.U.heap = h ∧ A.cells + rm.cells ≤ R.cells ∧ A.slots + rm.slots ≤ R.slots)
      (fun A _ v B => ∃ L, Q v B.U.vm B.U.heap ∧ Keep h B.U.heap Sf ∧ Fr n0 L ∧ B.locs = A.locs ++ L ∧ B.cells = A.cells + rm.cells ∧ B.slots = A.slots + rm.slots ∧ CHr Z EL T.vm h B.U.vm B.U.heap ∧ (EL = [] → (s.setVm T.vm).WarmedH B.U.vm)) :=
  BackS.of_freeW (bytes := bytes) (maxL := maxL) (ret := ret) (E := fun _ first o t L k n => k = rm.cells ∧ n = rm.slots ∧ (∃ v, o = .returned v ∧ Q v t.vm t.heap ∧ Keep first.heap t.heap Sf ∧ Fr n0 L) ∧ CHr Z EL first.vm first.heap t.vm t.heap ∧ (EL = [] → first.WarmedH t.vm)) (hM hO hEL fun x hx => ⟨(hSf x hx).1, (hSf x hx).2.1⟩) hf hl
    (fun m meth c A a Y hp => have hU : Z.Warmed39 A.U.vm := wtrans (s := s.setVm T.vm) hZ Y.warmed
      ⟨by show (Jvm.Cond.and _ .tt).before a A.U = true; rw [Cond.before_and, mv hU wc]; rfl, mv hU wc, mv hU wz, hp.2.2.1, hp.2.2.2⟩)
    (fun m meth c A a g mk Y hp => ⟨hp.1, wtrans (s := s.setVm T.vm) hZ Y.warmed, hp.2.1, (CHv.at Y hZ hEL H).1, fun x hx => (CHv.at Y hZ hEL H).safe (hSf x hx).2.1 (hSf x hx).2.2⟩) (fun _ _ _ _ _ _ _ _ _ => trivial)
    (fun _ _ _ _ ⟨v, L, h1, ⟨h2, h3, h4⟩, h5, h5', h6⟩ => ⟨L, _, _, h6, rfl, rfl, ⟨v, h1, h2, h3, h4⟩, h5, h5'⟩)
    (fun m meth c A a g mk v t L k n Y hp _ _ ⟨e1, e2, ⟨v', e3, e4, e5, e6⟩, e7, e8⟩ => by
      cases e3; subst e1 e2
      have eh : (A.U.calling g mk a).heap = h := hp.2.1
      rw [eh] at e5 e7
      exact ⟨L, e4, e5, e6, rfl, rfl, rfl, (CHv.at Y hZ hEL H).trans e7, fun q => State.WarmedH.trans (t := A.U) Y.warmed (e8 q)⟩)
/-- behind a call: what every kind of call has in common -/
theorem OPn.behind {y : MethodName} {rm : Room} {Sf : List Addr} {Q : Option Value → Vm → Heap → Prop} {locs : List Loc} {v : Option Value} {B : Pt}
    (hx : p.tables.exec = Jvm.exec) (hlk : meth.locks = false) (hS : OSn EL s T.vm h.size) (hZ : Z.Warmed39 T.vm) (hown : T.vm.findClass own = some m.cls) (eT : T.heap = h) (N : Fr n0 locs) (hEL : EW Z a0 EL) (C : CHr Z EL s.vm s.heap T.vm h) (O : Old Z n0 h) (K : Keep s.heap h W0) (W : ∀ x ∈ Ow, OOwn Z EL n0 W0 s.heap.size T.vm h x) (hsf : ∀ x ∈ Sf, x ∈ Ow)
    (X' : Stand p l e R ((s.setVm T.vm).setVm B.U.vm) m args below meth c B.U B.locs B.cells B.slots) (hS' : (s.setVm T.vm).Since B.U.vm B.U.heap.size) (hle : T.heap.size ≤ B.U.heap.size)
    (hq : ∃ L, Q v B.U.vm B.U.heap ∧ Keep h B.U.heap Sf ∧ Fr n0 L ∧ B.locs = locs ++ L ∧ B.cells = cells + rm.cells ∧ B.slots = slots + rm.slots ∧ CHr Z EL T.vm h B.U.vm B.U.heap ∧ (EL = [] → (s.setVm T.vm).WarmedH B.U.vm)) :
    OPn p l e R s m args below meth c Z a0 EL n0 W0 own B.U B.U.heap Ow (cells + rm.cells) (slots + rm.slots) ∧ Keep h B.U.heap Sf ∧ Q v B.U.vm B.U.heap := by
  subst eT
  obtain ⟨Lc, q, Kq, Nq, e1, e2, e3, Cq, hH⟩ := hq
  rw [e1, e2, e3] at X'
  have hal := hS'.1.alike
  refine ⟨⟨locs ++ Lc, X', hx, hlk, hS.trans ⟨hS', hH⟩ hle, State.Warmed39.trans (t := s.setVm T.vm) hZ hS'.1, (hal.findClass own _).trans hown, rfl, N.app Nq, hEL, C.trans Cq, O.keep Kq fun x hx => (W x (hsf x hx)).1, K.trans Kq fun x hx => (W x (hsf x hx)).2.2.2, fun x hx => ?_⟩, Kq, q⟩
  obtain ⟨r1, r2, r3, r4⟩ := W x hx
  exact ⟨r1, Nat.lt_of_lt_of_le r2 hle, Cq.safe r2 r3, r4⟩
theorem o_iload (P : OPn p l e R s m args below meth c Z a0 EL n0 W0 own T h Ow cells slots) {k0 : Nat} {v : Int32} (hd : decode c.code pc = .ok (.iload k0, 2)) (hl : L[k0]? = some (.val (.int v))) (hp : pc + 2 = pc') (k : OG p e below m Pq T pc' L (.int v :: S)) : OG p e below m Pq T pc L S := by
  subst hp; exact OG.st (fun t q => XS.iload P.here P.ex rfl hd hl q) k
theorem o_iloadN (P : OPn p l e R s m args below meth c Z a0 EL n0 W0 own T h Ow cells slots) {k0 : Fin 4} {v : Int32} (hd : decode c.code pc = .ok (.iload_n k0, 1)) (hl : L[k0.val]? = some (.val (.int v))) (hp : pc + 1 = pc') (k : OG p e below m Pq T pc' L (.int v :: S)) : OG p e below m Pq T pc L S := by
  subst hp; exact OG.st (fun t q => XS.iloadN P.here P.ex rfl hd hl q) k
theorem o_istore (P : OPn p l e R s m args below meth c Z a0 EL n0 W0 own T h Ow cells slots) {k0 : Nat} {v : Int32} (hd : decode c.code pc = .ok (.istore k0, 2)) (hl : storeLocals L k0 (.int v) = some L') (hp : pc + 2 = pc') (k : OG p e below m Pq T pc' L' S) : OG p e below m Pq T pc L (.int v :: S) := by
  subst hp; exact OG.st (fun t q => XS.istore P.here P.ex rfl hd rfl hl q) k
theorem o_istoreN (P : OPn p l e R s m args below meth c Z a0 EL n0 W0 own T h Ow cells slots) {k0 : Fin 4} {v : Int32} (hd : decode c.code pc = .ok (.istore_n k0, 1)) (hl : storeLocals L k0.val (.int v) = some L') (hp : pc + 1 = pc') (k : OG p e below m Pq T pc' L' S) : OG p e below m Pq T pc L (.int v :: S) := by
  subst hp; exact OG.st (fun t q => XS.istoreN P.here P.ex rfl hd rfl hl q) k
theorem o_lload (P : OPn p l e R s m args below meth c Z a0 EL n0 W0 own T h Ow cells slots) {k0 : Nat} {v : Int64} (hd : decode c.code pc = .ok (.lload k0, 2)) (hl : L[k0]? = some (.val (.long v))) (hp : pc + 2 = pc') (k : OG p e below m Pq T pc' L (.long v :: S)) : OG p e below m Pq T pc L S := by
  subst hp; exact OG.st (fun t q => XS.lload P.here P.ex rfl hd hl q) k
theorem o_lloadN (P : OPn p l e R s m args below meth c Z a0 EL n0 W0 own T h Ow cells slots) {k0 : Fin 4} {v : Int64} (hd : decode c.code pc = .ok (.lload_n k0, 1)) (hl : L[k0.val]? = some (.val (.long v))) (hp : pc + 1 = pc') (k : OG p e below m Pq T pc' L (.long v :: S)) : OG p e below m Pq T pc L S := by
  subst hp; exact OG.st (fun t q => XS.lloadN P.here P.ex rfl hd hl q) k
theorem o_lstore (P : OPn p l e R s m args below meth c Z a0 EL n0 W0 own T h Ow cells slots) {k0 : Nat} {v : Int64} (hd : decode c.code pc = .ok (.lstore k0, 2)) (hl : storeLocals L k0 (.long v) = some L') (hp : pc + 2 = pc') (k : OG p e below m Pq T pc' L' S) : OG p e below m Pq T pc L (.long v :: S) := by
  subst hp; exact OG.st (fun t q => XS.lstore P.here P.ex rfl hd rfl hl q) k
theorem o_lstoreN (P : OPn p l e R s m args below meth c Z a0 EL n0 W0 own T h Ow cells slots) {k0 : Fin 4} {v : Int64} (hd : decode c.code pc = .ok (.lstore_n k0, 1)) (hl : storeLocals L k0.val (.long v) = some L') (hp : pc + 1 = pc') (k : OG p e below m Pq T pc' L' S) : OG p e below m Pq T pc L (.long v :: S) := by
  subst hp; exact OG.st (fun t q => XS.lstoreN P.here P.ex rfl hd rfl hl q) k
theorem o_dload (P : OPn p l e R s m args below meth c Z a0 EL n0 W0 own T h Ow cells slots) {k0 : Nat} {v : UInt64} (hd : decode c.code pc = .ok (.dload k0, 2)) (hl : L[k0]? = some (.val (.double v))) (hp : pc + 2 = pc') (k : OG p e below m Pq T pc' L (.double v :: S)) : OG p e below m Pq T pc L S := by
  subst hp; exact OG.st (fun t q => XS.dload P.here P.ex rfl hd hl q) k
theorem o_dloadN (P : OPn p l e R s m args below meth c Z a0 EL n0 W0 own T h Ow cells slots) {k0 : Fin 4} {v : UInt64} (hd : decode c.code pc = .ok (.dload_n k0, 1)) (hl : L[k0.val]? = some (.val (.double v))) (hp : pc + 1 = pc') (k : OG p e below m Pq T pc' L (.double v :: S)) : OG p e below m Pq T pc L S := by
  subst hp; exact OG.st (fun t q => XS.dloadN P.here P.ex rfl hd hl q) k
theorem o_dstore (P : OPn p l e R s m args below meth c Z a0 EL n0 W0 own T h Ow cells slots) {k0 : Nat} {v : UInt64} (hd : decode c.code pc = .ok (.dstore k0, 2)) (hl : storeLocals L k0 (.double v) = some L') (hp : pc + 2 = pc') (k : OG p e below m Pq T pc' L' S) : OG p e below m Pq T pc L (.double v :: S) := by
  subst hp; exact OG.st (fun t q => XS.dstore P.here P.ex rfl hd rfl hl q) k
theorem o_dstoreN (P : OPn p l e R s m args below meth c Z a0 EL n0 W0 own T h Ow cells slots) {k0 : Fin 4} {v : UInt64} (hd : decode c.code pc = .ok (.dstore_n k0, 1)) (hl : storeLocals L k0.val (.double v) = some L') (hp : pc + 1 = pc') (k : OG p e below m Pq T pc' L' S) : OG p e below m Pq T pc L (.double v :: S) := by
  subst hp; exact OG.st (fun t q => XS.dstoreN P.here P.ex rfl hd rfl hl q) k
theorem o_aload (P : OPn p l e R s m args below meth c Z a0 EL n0 W0 own T h Ow cells slots) {k0 : Nat} {v : Value} (hd : decode c.code pc = .ok (.aload k0, 2)) (hl : L[k0]? = some (.val v)) (hv : v.isRef = true) (hp : pc + 2 = pc') (k : OG p e below m Pq T pc' L (v :: S)) : OG p e below m Pq T pc L S := by
  subst hp; exact OG.st (fun t q => XS.aload P.here P.ex rfl hd hl hv q) k
theorem o_aloadN (P : OPn p l e R s m args below meth c Z a0 EL n0 W0 own T h Ow cells slots) {k0 : Fin 4} {v : Value} (hd : decode c.code pc = .ok (.aload_n k0, 1)) (hl : L[k0.val]? = some (.val v)) (hv : v.isRef = true) (hp : pc + 1 = pc') (k : OG p e below m Pq T pc' L (v :: S)) : OG p e below m Pq T pc L S := by
  subst hp; exact OG.st (fun t q => XS.aloadN P.here P.ex rfl hd hl hv q) k
theorem o_astore (P : OPn p l e R s m args below meth c Z a0 EL n0 W0 own T h Ow cells slots) {k0 : Nat} {v : Value} (hd : decode c.code pc = .ok (.astore k0, 2)) (hv : v.isRef = true) (hl : storeLocals L k0 v = some L') (hp : pc + 2 = pc') (k : OG p e below m Pq T pc' L' S) : OG p e below m Pq T pc L (v :: S) := by
  subst hp; exact OG.st (fun t q => XS.astore P.here P.ex rfl hd rfl hv hl q) k
theorem o_astoreN (P : OPn p l e R s m args below meth c Z a0 EL n0 W0 own T h Ow cells slots) {k0 : Fin 4} {v : Value} (hd : decode c.code pc = .ok (.astore_n k0, 1)) (hv : v.isRef = true) (hl : storeLocals L k0.val v = some L') (hp : pc + 1 = pc') (k : OG p e below m Pq T pc' L' S) : OG p e below m Pq T pc L (v :: S) := by
  subst hp; exact OG.st (fun t q => XS.astoreN P.here P.ex rfl hd rfl hv hl q) k
theorem o_iconst (P : OPn p l e R s m args below meth c Z a0 EL n0 W0 own T h Ow cells slots) {i : Int} (v : Int32) (hd : decode c.code pc = .ok (.iconst i, 1)) (hv : Int32.ofInt i = v) (hp : pc + 1 = pc') (k : OG p e below m Pq T pc' L (.int v :: S)) : OG p e below m Pq T pc L S := by
  subst hp; exact OG.st (fun t q => XS.iconst P.here P.ex rfl hd (hv ▸ q)) k
theorem o_bipush (P : OPn p l e R s m args below meth c Z a0 EL n0 W0 own T h Ow cells slots) {i : Int} (v : Int32) (hd : decode c.code pc = .ok (.bipush i, 2)) (hv : (Int8.ofInt i).toInt32 = v) (hp : pc + 2 = pc') (k : OG p e below m Pq T pc' L (.int v :: S)) : OG p e below m Pq T pc L S := by
  subst hp; exact OG.st (fun t q => XS.bipush P.here P.ex rfl hd (hv ▸ q)) k
theorem o_sipush (P : OPn p l e R s m args below meth c Z a0 EL n0 W0 own T h Ow cells slots) {i : Int} (v : Int32) (hd : decode c.code pc = .ok (.sipush i, 3)) (hv : (Int16.ofInt i).toInt32 = v) (hp : pc + 3 = pc') (k : OG p e below m Pq T pc' L (.int v :: S)) : OG p e below m Pq T pc L S := by
  subst hp; exact OG.st (fun t q => XS.sipush P.here P.ex rfl hd (hv ▸ q)) k
theorem o_lconst (P : OPn p l e R s m args below meth c Z a0 EL n0 W0 own T h Ow cells slots) {i : Fin 2} (v : Int64) (hd : decode c.code pc = .ok (.lconst i, 1)) (hv : Int64.ofNat i = v) (hp : pc + 1 = pc') (k : OG p e below m Pq T pc' L (.long v :: S)) : OG p e below m Pq T pc L S := by
  subst hp; exact OG.st (fun t q => XS.lconst P.here P.ex rfl hd (hv ▸ q)) k
theorem o_dconst0 (P : OPn p l e R s m args below meth c Z a0 EL n0 W0 own T h Ow cells slots) {v : UInt64} (hd : decode c.code pc = .ok (.dconst 0, 1)) (hv : FP.dconst0 = v) (hp : pc + 1 = pc') (k : OG p e below m Pq T pc' L (.double v :: S)) : OG p e below m Pq T pc L S := by
  subst hp; exact OG.st (fun t q => XS.dconst0 P.here P.ex rfl hd hv q) k
theorem o_dconst1 (P : OPn p l e R s m args below meth c Z a0 EL n0 W0 own T h Ow cells slots) {v : UInt64} (hd : decode c.code pc = .ok (.dconst 1, 1)) (hv : FP.dconst1 = v) (hp : pc + 1 = pc') (k : OG p e below m Pq T pc' L (.double v :: S)) : OG p e below m Pq T pc L S := by
  subst hp; exact OG.st (fun t q => XS.dconst1 P.here P.ex rfl hd hv q) k
theorem o_aconstNull (P : OPn p l e R s m args below meth c Z a0 EL n0 W0 own T h Ow cells slots)  (hd : decode c.code pc = .ok (.aconst_null, 1)) (hp : pc + 1 = pc') (k : OG p e below m Pq T pc' L (.null :: S)) : OG p e below m Pq T pc L S := by
  subst hp; exact OG.st (fun t q => XS.aconstNull P.here P.ex rfl hd q) k
theorem o_iadd (P : OPn p l e R s m args below meth c Z a0 EL n0 W0 own T h Ow cells slots) {x y : Int32} (hd : decode c.code pc = .ok (.iadd, 1)) (hp : pc + 1 = pc') (k : OG p e below m Pq T pc' L (.int (x + y) :: S)) : OG p e below m Pq T pc L (.int y :: .int x :: S) := by
  subst hp; exact OG.st (fun t q => XS.iadd P.here P.ex rfl hd rfl q) k
theorem o_ladd (P : OPn p l e R s m args below meth c Z a0 EL n0 W0 own T h Ow cells slots) {x y : Int64} (hd : decode c.code pc = .ok (.ladd, 1)) (hp : pc + 1 = pc') (k : OG p e below m Pq T pc' L (.long (x + y) :: S)) : OG p e below m Pq T pc L (.long y :: .long x :: S) := by
  subst hp; exact OG.st (fun t q => XS.ladd P.here P.ex rfl hd rfl q) k
theorem o_isub (P : OPn p l e R s m args below meth c Z a0 EL n0 W0 own T h Ow cells slots) {x y : Int32} (hd : decode c.code pc = .ok (.isub, 1)) (hp : pc + 1 = pc') (k : OG p e below m Pq T pc' L (.int (x - y) :: S)) : OG p e below m Pq T pc L (.int y :: .int x :: S) := by
  subst hp; exact OG.st (fun t q => XS.isub P.here P.ex rfl hd rfl q) k
theorem o_lsub (P : OPn p l e R s m args below meth c Z a0 EL n0 W0 own T h Ow cells slots) {x y : Int64} (hd : decode c.code pc = .ok (.lsub, 1)) (hp : pc + 1 = pc') (k : OG p e below m Pq T pc' L (.long (x - y) :: S)) : OG p e below m Pq T pc L (.long y :: .long x :: S) := by
  subst hp; exact OG.st (fun t q => XS.lsub P.here P.ex rfl hd rfl q) k
theorem o_imul (P : OPn p l e R s m args below meth c Z a0 EL n0 W0 own T h Ow cells slots) {x y : Int32} (hd : decode c.code pc = .ok (.imul, 1)) (hp : pc + 1 = pc') (k : OG p e below m Pq T pc' L (.int (x * y) :: S)) : OG p e below m Pq T pc L (.int y :: .int x :: S) := by
  subst hp; exact OG.st (fun t q => XS.imul P.here P.ex rfl hd rfl q) k
theorem o_lmul (P : OPn p l e R s m args below meth c Z a0 EL n0 W0 own T h Ow cells slots) {x y : Int64} (hd : decode c.code pc = .ok (.lmul, 1)) (hp : pc + 1 = pc') (k : OG p e below m Pq T pc' L (.long (x * y) :: S)) : OG p e below m Pq T pc L (.long y :: .long x :: S) := by
  subst hp; exact OG.st (fun t q => XS.lmul P.here P.ex rfl hd rfl q) k
theorem o_iand (P : OPn p l e R s m args below meth c Z a0 EL n0 W0 own T h Ow cells slots) {x y : Int32} (hd : decode c.code pc = .ok (.iand, 1)) (hp : pc + 1 = pc') (k : OG p e below m Pq T pc' L (.int (x &&& y) :: S)) : OG p e below m Pq T pc L (.int y :: .int x :: S) := by
  subst hp; exact OG.st (fun t q => XS.iand P.here P.ex rfl hd rfl q) k
theorem o_land (P : OPn p l e R s m args below meth c Z a0 EL n0 W0 own T h Ow cells slots) {x y : Int64} (hd : decode c.code pc = .ok (.land, 1)) (hp : pc + 1 = pc') (k : OG p e below m Pq T pc' L (.long (x &&& y) :: S)) : OG p e below m Pq T pc L (.long y :: .long x :: S) := by
  subst hp; exact OG.st (fun t q => XS.land P.here P.ex rfl hd rfl q) k
theorem o_ior (P : OPn p l e R s m args below meth c Z a0 EL n0 W0 own T h Ow cells slots) {x y : Int32} (hd : decode c.code pc = .ok (.ior, 1)) (hp : pc + 1 = pc') (k : OG p e below m Pq T pc' L (.int (x ||| y) :: S)) : OG p e below m Pq T pc L (.int y :: .int x :: S) := by
  subst hp; exact OG.st (fun t q => XS.ior P.here P.ex rfl hd rfl q) k
theorem o_lor (P : OPn p l e R s m args below meth c Z a0 EL n0 W0 own T h Ow cells slots) {x y : Int64} (hd : decode c.code pc = .ok (.lor, 1)) (hp : pc + 1 = pc') (k : OG p e below m Pq T pc' L (.long (x ||| y) :: S)) : OG p e below m Pq T pc L (.long y :: .long x :: S) := by
  subst hp; exact OG.st (fun t q => XS.lor P.here P.ex rfl hd rfl q) k
theorem o_ixor (P : OPn p l e R s m args below meth c Z a0 EL n0 W0 own T h Ow cells slots) {x y : Int32} (hd : decode c.code pc = .ok (.ixor, 1)) (hp : pc + 1 = pc') (k : OG p e below m Pq T pc' L (.int (x ^^^ y) :: S)) : OG p e below m Pq T pc L (.int y :: .int x :: S) := by
  subst hp; exact OG.st (fun t q => XS.ixor P.here P.ex rfl hd rfl q) k
theorem o_lxor (P : OPn p l e R s m args below meth c Z a0 EL n0 W0 own T h Ow cells slots) {x y : Int64} (hd : decode c.code pc = .ok (.lxor, 1)) (hp : pc + 1 = pc') (k : OG p e below m Pq T pc' L (.long (x ^^^ y) :: S)) : OG p e below m Pq T pc L (.long y :: .long x :: S) := by
  subst hp; exact OG.st (fun t q => XS.lxor P.here P.ex rfl hd rfl q) k
theorem o_idiv (P : OPn p l e R s m args below meth c Z a0 EL n0 W0 own T h Ow cells slots) {x y : Int32} (hd : decode c.code pc = .ok (.idiv, 1)) (hy : y ≠ 0) (hp : pc + 1 = pc') (k : OG p e below m Pq T pc' L (.int (x / y) :: S)) : OG p e below m Pq T pc L (.int y :: .int x :: S) := by
  subst hp; exact OG.st (fun t q => XS.idiv P.here P.ex rfl hd rfl hy q) k
theorem o_ldiv (P : OPn p l e R s m args below meth c Z a0 EL n0 W0 own T h Ow cells slots) {x y : Int64} (hd : decode c.code pc = .ok (.ldiv, 1)) (hy : y ≠ 0) (hp : pc + 1 = pc') (k : OG p e below m Pq T pc' L (.long (x / y) :: S)) : OG p e below m Pq T pc L (.long y :: .long x :: S) := by
  subst hp; exact OG.st (fun t q => XS.ldiv P.here P.ex rfl hd rfl hy q) k
theorem o_irem (P : OPn p l e R s m args below meth c Z a0 EL n0 W0 own T h Ow cells slots) {x y : Int32} (hd : decode c.code pc = .ok (.irem, 1)) (hy : y ≠ 0) (hp : pc + 1 = pc') (k : OG p e below m Pq T pc' L (.int (x % y) :: S)) : OG p e below m Pq T pc L (.int y :: .int x :: S) := by
  subst hp; exact OG.st (fun t q => XS.irem P.here P.ex rfl hd rfl hy (by rw [irem_eq_mod]; exact q)) k
theorem o_lrem (P : OPn p l e R s m args below meth c Z a0 EL n0 W0 own T h Ow cells slots) {x y : Int64} (hd : decode c.code pc = .ok (.lrem, 1)) (hy : y ≠ 0) (hp : pc + 1 = pc') (k : OG p e below m Pq T pc' L (.long (x % y) :: S)) : OG p e below m Pq T pc L (.long y :: .long x :: S) := by
  subst hp; exact OG.st (fun t q => XS.lrem P.here P.ex rfl hd rfl hy (by rw [lrem_mod]; exact q)) k
theorem o_ineg (P : OPn p l e R s m args below meth c Z a0 EL n0 W0 own T h Ow cells slots) {x : Int32} (hd : decode c.code pc = .ok (.ineg, 1)) (hp : pc + 1 = pc') (k : OG p e below m Pq T pc' L (.int (-x) :: S)) : OG p e below m Pq T pc L (.int x :: S) := by
  subst hp; exact OG.st (fun t q => XS.ineg P.here P.ex rfl hd rfl q) k
theorem o_lneg (P : OPn p l e R s m args below meth c Z a0 EL n0 W0 own T h Ow cells slots) {x : Int64} (hd : decode c.code pc = .ok (.lneg, 1)) (hp : pc + 1 = pc') (k : OG p e below m Pq T pc' L (.long (-x) :: S)) : OG p e below m Pq T pc L (.long x :: S) := by
  subst hp; exact OG.st (fun t q => XS.lneg P.here P.ex rfl hd rfl q) k
theorem o_ishl (P : OPn p l e R s m args below meth c Z a0 EL n0 W0 own T h Ow cells slots) {x y : Int32} (hd : decode c.code pc = .ok (.ishl, 1)) (hp : pc + 1 = pc') (k : OG p e below m Pq T pc' L (.int (x <<< (y &&& 31)) :: S)) : OG p e below m Pq T pc L (.int y :: .int x :: S) := by
  subst hp; exact OG.st (fun t q => XS.ishl P.here P.ex rfl hd rfl q) k
theorem o_ishr (P : OPn p l e R s m args below meth c Z a0 EL n0 W0 own T h Ow cells slots) {x y : Int32} (hd : decode c.code pc = .ok (.ishr, 1)) (hp : pc + 1 = pc') (k : OG p e below m Pq T pc' L (.int (x >>> (y &&& 31)) :: S)) : OG p e below m Pq T pc L (.int y :: .int x :: S) := by
  subst hp; exact OG.st (fun t q => XS.ishr P.here P.ex rfl hd rfl q) k
theorem o_iushr (P : OPn p l e R s m args below meth c Z a0 EL n0 W0 own T h Ow cells slots) {x y : Int32} (hd : decode c.code pc = .ok (.iushr, 1)) (hp : pc + 1 = pc') (k : OG p e below m Pq T pc' L (.int ((x.toUInt32 >>> (y &&& 31).toUInt32).toInt32) :: S)) : OG p e below m Pq T pc L (.int y :: .int x :: S) := by
  subst hp; exact OG.st (fun t q => XS.iushr P.here P.ex rfl hd rfl q) k
theorem o_lshl (P : OPn p l e R s m args below meth c Z a0 EL n0 W0 own T h Ow cells slots) {x : Int64} {y : Int32} (hd : decode c.code pc = .ok (.lshl, 1)) (hp : pc + 1 = pc') (k : OG p e below m Pq T pc' L (.long (x <<< (y &&& 0x3f).toInt64) :: S)) : OG p e below m Pq T pc L (.int y :: .long x :: S) := by
  subst hp; exact OG.st (fun t q => XS.lshl P.here P.ex rfl hd rfl q) k
theorem o_lshr (P : OPn p l e R s m args below meth c Z a0 EL n0 W0 own T h Ow cells slots) {x : Int64} {y : Int32} (hd : decode c.code pc = .ok (.lshr, 1)) (hp : pc + 1 = pc') (k : OG p e below m Pq T pc' L (.long (x >>> (y &&& 0x3f).toInt64) :: S)) : OG p e below m Pq T pc L (.int y :: .long x :: S) := by
  subst hp; exact OG.st (fun t q => XS.lshr P.here P.ex rfl hd rfl q) k
theorem o_lushr (P : OPn p l e R s m args below meth c Z a0 EL n0 W0 own T h Ow cells slots) {x : Int64} {y : Int32} (hd : decode c.code pc = .ok (.lushr, 1)) (hp : pc + 1 = pc') (k : OG p e below m Pq T pc' L (.long ((x.toUInt64 >>> (y &&& 0x3f).toInt64.toUInt64).toInt64) :: S)) : OG p e below m Pq T pc L (.int y :: .long x :: S) := by
  subst hp; exact OG.st (fun t q => XS.lushr P.here P.ex rfl hd rfl q) k
theorem o_i2l (P : OPn p l e R s m args below meth c Z a0 EL n0 W0 own T h Ow cells slots) {x : Int32} (hd : decode c.code pc = .ok (.i2l, 1)) (hp : pc + 1 = pc') (k : OG p e below m Pq T pc' L (.long (x.toInt64) :: S)) : OG p e below m Pq T pc L (.int x :: S) := by
  subst hp; exact OG.st (fun t q => XS.i2l P.here P.ex rfl hd rfl q) k
theorem o_l2i (P : OPn p l e R s m args below meth c Z a0 EL n0 W0 own T h Ow cells slots) {x : Int64} (hd : decode c.code pc = .ok (.l2i, 1)) (hp : pc + 1 = pc') (k : OG p e below m Pq T pc' L (.int (x.toInt32) :: S)) : OG p e below m Pq T pc L (.long x :: S) := by
  subst hp; exact OG.st (fun t q => XS.l2i P.here P.ex rfl hd rfl q) k
theorem o_i2b (P : OPn p l e R s m args below meth c Z a0 EL n0 W0 own T h Ow cells slots) {x : Int32} (hd : decode c.code pc = .ok (.i2b, 1)) (hp : pc + 1 = pc') (k : OG p e below m Pq T pc' L (.int (x.toInt8.toInt32) :: S)) : OG p e below m Pq T pc L (.int x :: S) := by
  subst hp; exact OG.st (fun t q => XS.i2b P.here P.ex rfl hd rfl q) k
theorem o_i2s (P : OPn p l e R s m args below meth c Z a0 EL n0 W0 own T h Ow cells slots) {x : Int32} (hd : decode c.code pc = .ok (.i2s, 1)) (hp : pc + 1 = pc') (k : OG p e below m Pq T pc' L (.int (x.toInt16.toInt32) :: S)) : OG p e below m Pq T pc L (.int x :: S) := by
  subst hp; exact OG.st (fun t q => XS.i2s P.here P.ex rfl hd rfl q) k
theorem o_i2c (P : OPn p l e R s m args below meth c Z a0 EL n0 W0 own T h Ow cells slots) {x : Int32} (hd : decode c.code pc = .ok (.i2c, 1)) (hp : pc + 1 = pc') (k : OG p e below m Pq T pc' L (.int (x.toUInt32.toUInt16.toUInt32.toInt32) :: S)) : OG p e below m Pq T pc L (.int x :: S) := by
  subst hp; exact OG.st (fun t q => XS.i2c P.here P.ex rfl hd rfl q) k
theorem o_lcmp (P : OPn p l e R s m args below meth c Z a0 EL n0 W0 own T h Ow cells slots) {x y : Int64} (hd : decode c.code pc = .ok (.lcmp, 1)) (hp : pc + 1 = pc') (k : OG p e below m Pq T pc' L (.int (lcmpW x y) :: S)) : OG p e below m Pq T pc L (.long y :: .long x :: S) := by
  subst hp; exact OG.st (fun t q => XS.lcmp P.here P.ex rfl hd rfl q) k
theorem o_i2d (P : OPn p l e R s m args below meth c Z a0 EL n0 W0 own T h Ow cells slots) {x : Int32} {v : UInt64} (hd : decode c.code pc = .ok (.i2d, 1)) (hv : FP.i2d x = v) (hp : pc + 1 = pc') (k : OG p e below m Pq T pc' L (.double v :: S)) : OG p e below m Pq T pc L (.int x :: S) := by
  subst hp; exact OG.st (fun t q => XS.i2dS P.here P.ex rfl hd rfl hv q) k
theorem o_dadd (P : OPn p l e R s m args below meth c Z a0 EL n0 W0 own T h Ow cells slots) {x y v : UInt64} (hd : decode c.code pc = .ok (.dadd, 1)) (hn : Jvm.Free.Fl.NoNaN64 (FP.dadd x y)) (hv : FP.dadd x y = v) (hp : pc + 1 = pc') (k : OG p e below m Pq T pc' L (.double v :: S)) : OG p e below m Pq T pc L (.double y :: .double x :: S) := by
  subst hp; exact OG.st (fun t q => XS.daddS P.here P.ex rfl hd rfl hn hv q) k
theorem o_dmul (P : OPn p l e R s m args below meth c Z a0 EL n0 W0 own T h Ow cells slots) {x y v : UInt64} (hd : decode c.code pc = .ok (.dmul, 1)) (hn : Jvm.Free.Fl.NoNaN64 (FP.dmul x y)) (hv : FP.dmul x y = v) (hp : pc + 1 = pc') (k : OG p e below m Pq T pc' L (.double v :: S)) : OG p e below m Pq T pc L (.double y :: .double x :: S) := by
  subst hp; exact OG.st (fun t q => XS.dmulS P.here P.ex rfl hd rfl hn hv q) k
theorem o_ddiv (P : OPn p l e R s m args below meth c Z a0 EL n0 W0 own T h Ow cells slots) {x y v : UInt64} (hd : decode c.code pc = .ok (.ddiv, 1)) (hn : Jvm.Free.Fl.NoNaN64 (FP.ddiv x y)) (hv : FP.ddiv x y = v) (hp : pc + 1 = pc') (k : OG p e below m Pq T pc' L (.double v :: S)) : OG p e below m Pq T pc L (.double y :: .double x :: S) := by
  subst hp; exact OG.st (fun t q => XS.ddivS P.here P.ex rfl hd rfl hn hv q) k
theorem o_dcmp (P : OPn p l e R s m args below meth c Z a0 EL n0 W0 own T h Ow cells slots) {o : CmpOp} {x y : UInt64} {v : Int32} (hd : decode c.code pc = .ok (.dcmp o, 1)) (hv : cmpValue (FP.dcmp x y) o = v) (hp : pc + 1 = pc') (k : OG p e below m Pq T pc' L (.int v :: S)) : OG p e below m Pq T pc L (.double y :: .double x :: S) := by
  subst hp; exact OG.st (fun t q => XS.dcmpS P.here P.ex rfl hd rfl hv q) k
theorem o_dup (P : OPn p l e R s m args below meth c Z a0 EL n0 W0 own T h Ow cells slots) {x : Value} (hd : decode c.code pc = .ok (.dup, 1)) (hc : x.category = 1) (hp : pc + 1 = pc') (k : OG p e below m Pq T pc' L (x :: x :: S)) : OG p e below m Pq T pc L (x :: S) := by
  subst hp; exact OG.st (fun t q => XS.dup P.here P.ex rfl hd rfl hc q) k
theorem o_pop (P : OPn p l e R s m args below meth c Z a0 EL n0 W0 own T h Ow cells slots) {x : Value} (hd : decode c.code pc = .ok (.pop, 1)) (hc : x.category = 1) (hp : pc + 1 = pc') (k : OG p e below m Pq T pc' L S) : OG p e below m Pq T pc L (x :: S) := by
  subst hp; exact OG.st (fun t q => XS.pop P.here P.ex rfl hd rfl hc q) k
theorem o_swap (P : OPn p l e R s m args below meth c Z a0 EL n0 W0 own T h Ow cells slots) {x y : Value} (hd : decode c.code pc = .ok (.swap, 1)) (hc : x.category = 1) (hc2 : y.category = 1) (hp : pc + 1 = pc') (k : OG p e below m Pq T pc' L (y :: x :: S)) : OG p e below m Pq T pc L (x :: y :: S) := by
  subst hp; exact OG.st (fun t q => XS.swap P.here P.ex rfl hd rfl hc hc2 q) k
theorem o_dupX1 (P : OPn p l e R s m args below meth c Z a0 EL n0 W0 own T h Ow cells slots) {x y : Value} (hd : decode c.code pc = .ok (.dup_x1, 1)) (hc : x.category = 1) (hc2 : y.category = 1) (hp : pc + 1 = pc') (k : OG p e below m Pq T pc' L (x :: y :: x :: S)) : OG p e below m Pq T pc L (x :: y :: S) := by
  subst hp; exact OG.st (fun t q => XS.dupX1 P.here P.ex rfl hd rfl hc hc2 q) k
theorem o_dup2 (P : OPn p l e R s m args below meth c Z a0 EL n0 W0 own T h Ow cells slots) {x y : Value} (hd : decode c.code pc = .ok (.dup2, 1)) (hc : x.category = 1) (hc2 : y.category = 1) (hp : pc + 1 = pc') (k : OG p e below m Pq T pc' L (x :: y :: x :: y :: S)) : OG p e below m Pq T pc L (x :: y :: S) := by
  subst hp; exact OG.st (fun t q => Jvm.Free.XT.dup2 P.here P.ex rfl hd rfl hc hc2 q) k
theorem o_dup2L (P : OPn p l e R s m args below meth c Z a0 EL n0 W0 own T h Ow cells slots) {x : Int64} (hd : decode c.code pc = .ok (.dup2, 1)) (hp : pc + 1 = pc') (k : OG p e below m Pq T pc' L (.long x :: .long x :: S)) : OG p e below m Pq T pc L (.long x :: S) := by
  subst hp; exact OG.st (fun t q => Jvm.Free.XT.dup2L P.here P.ex rfl hd rfl q) k
theorem o_iinc (P : OPn p l e R s m args below meth c Z a0 EL n0 W0 own T h Ow cells slots) {k0 : Nat} {i : Int} {x : Int32} (v : Int32) (hd : decode c.code pc = .ok (.iinc k0 i, 3)) (hv : Int32.ofInt i = v) (hl : L[k0]? = some (.val (.int x))) (hl' : storeLocals L k0 (.int (x + v)) = some L') (hp : pc + 3 = pc') (k : OG p e below m Pq T pc' L' S) : OG p e below m Pq T pc L S := by
  subst hp; exact OG.st (fun t q => XS.iinc P.here P.ex rfl hd hl (hv ▸ hl') q) k
theorem o_goto (P : OPn p l e R s m args below meth c Z a0 EL n0 W0 own T h Ow cells slots) {o : Int} (hd : decode c.code pc = .ok (.goto o, 3)) (ho : 0 ≤ (pc : Int) + o) (hp : ((pc : Int) + o).toNat = pc') (k : OG p e below m Pq T pc' L S) : OG p e below m Pq T pc L S :=
  OG.st (fun t q => XS.goto P.here P.ex rfl rfl hd ho hp q) k
theorem o_icmp_lt (P : OPn p l e R s m args below meth c Z a0 EL n0 W0 own T h Ow cells slots) {o : Int} {x y : Int32} {pcf : Nat} (hd : decode c.code pc = .ok (.if_icmp .lt o, 3)) (ho : 0 ≤ (pc : Int) + o) (hp : ((pc : Int) + o).toNat = pc') (hq : pc + 3 = pcf) (k1 : x < y → OG p e below m Pq T pc' L S) (k2 : ¬ x < y → OG p e below m Pq T pcf L S) : OG p e below m Pq T pc L (.int y :: .int x :: S) := by
  by_cases q : x < y
  · exact OG.st (fun t r => XS.icmpYes P.here P.ex rfl rfl hd rfl (tlt q).1 ho hp r) (k1 q)
  · subst hq; exact OG.st (fun t r => XS.icmpNo P.here P.ex rfl hd rfl (flt q).1 r) (k2 q)
theorem o_if_lt (P : OPn p l e R s m args below meth c Z a0 EL n0 W0 own T h Ow cells slots) {o : Int} {x : Int32} {pcf : Nat} (hd : decode c.code pc = .ok (.ifCond .lt o, 3)) (ho : 0 ≤ (pc : Int) + o) (hp : ((pc : Int) + o).toNat = pc') (hq : pc + 3 = pcf) (k1 : x < (0 : Int32) → OG p e below m Pq T pc' L S) (k2 : ¬ x < (0 : Int32) → OG p e below m Pq T pcf L S) : OG p e below m Pq T pc L (.int x :: S) := by
  by_cases q : x < (0 : Int32)
  · exact OG.st (fun t r => XS.ifYes P.here P.ex rfl rfl hd rfl ((if0 _ _).trans (tlt q).1) ho hp r) (k1 q)
  · subst hq; exact OG.st (fun t r => XS.ifNo P.here P.ex rfl hd rfl ((if0 _ _).trans (flt q).1) r) (k2 q)
theorem o_icmp_ge (P : OPn p l e R s m args below meth c Z a0 EL n0 W0 own T h Ow cells slots) {o : Int} {x y : Int32} {pcf : Nat} (hd : decode c.code pc = .ok (.if_icmp .ge o, 3)) (ho : 0 ≤ (pc : Int) + o) (hp : ((pc : Int) + o).toNat = pc') (hq : pc + 3 = pcf) (k1 : ¬ x < y → OG p e below m Pq T pc' L S) (k2 : x < y → OG p e below m Pq T pcf L S) : OG p e below m Pq T pc L (.int y :: .int x :: S) := by
  by_cases q : x < y
  · subst hq; exact OG.st (fun t r => XS.icmpNo P.here P.ex rfl hd rfl (tlt q).2.1 r) (k2 q)
  · exact OG.st (fun t r => XS.icmpYes P.here P.ex rfl rfl hd rfl (flt q).2.1 ho hp r) (k1 q)
theorem o_if_ge (P : OPn p l e R s m args below meth c Z a0 EL n0 W0 own T h Ow cells slots) {o : Int} {x : Int32} {pcf : Nat} (hd : decode c.code pc = .ok (.ifCond .ge o, 3)) (ho : 0 ≤ (pc : Int) + o) (hp : ((pc : Int) + o).toNat = pc') (hq : pc + 3 = pcf) (k1 : ¬ x < (0 : Int32) → OG p e below m Pq T pc' L S) (k2 : x < (0 : Int32) → OG p e below m Pq T pcf L S) : OG p e below m Pq T pc L (.int x :: S) := by
  by_cases q : x < (0 : Int32)
  · subst hq; exact OG.st (fun t r => XS.ifNo P.here P.ex rfl hd rfl ((if0 _ _).trans (tlt q).2.1) r) (k2 q)
  · exact OG.st (fun t r => XS.ifYes P.here P.ex rfl rfl hd rfl ((if0 _ _).trans (flt q).2.1) ho hp r) (k1 q)
theorem o_icmp_gt (P : OPn p l e R s m args below meth c Z a0 EL n0 W0 own T h Ow cells slots) {o : Int} {x y : Int32} {pcf : Nat} (hd : decode c.code pc = .ok (.if_icmp .gt o, 3)) (ho : 0 ≤ (pc : Int) + o) (hp : ((pc : Int) + o).toNat = pc') (hq : pc + 3 = pcf) (k1 : y < x → OG p e below m Pq T pc' L S) (k2 : ¬ y < x → OG p e below m Pq T pcf L S) : OG p e below m Pq T pc L (.int y :: .int x :: S) := by
  by_cases q : y < x
  · exact OG.st (fun t r => XS.icmpYes P.here P.ex rfl rfl hd rfl (tlt q).2.2.1 ho hp r) (k1 q)
  · subst hq; exact OG.st (fun t r => XS.icmpNo P.here P.ex rfl hd rfl (flt q).2.2.1 r) (k2 q)
theorem o_if_gt (P : OPn p l e R s m args below meth c Z a0 EL n0 W0 own T h Ow cells slots) {o : Int} {x : Int32} {pcf : Nat} (hd : decode c.code pc = .ok (.ifCond .gt o, 3)) (ho : 0 ≤ (pc : Int) + o) (hp : ((pc : Int) + o).toNat = pc') (hq : pc + 3 = pcf) (k1 : (0 : Int32) < x → OG p e below m Pq T pc' L S) (k2 : ¬ (0 : Int32) < x → OG p e below m Pq T pcf L S) : OG p e below m Pq T pc L (.int x :: S) := by
  by_cases q : (0 : Int32) < x
  · exact OG.st (fun t r => XS.ifYes P.here P.ex rfl rfl hd rfl ((if0 _ _).trans (tlt q).2.2.1) ho hp r) (k1 q)
  · subst hq; exact OG.st (fun t r => XS.ifNo P.here P.ex rfl hd rfl ((if0 _ _).trans (flt q).2.2.1) r) (k2 q)
theorem o_icmp_le (P : OPn p l e R s m args below meth c Z a0 EL n0 W0 own T h Ow cells slots) {o : Int} {x y : Int32} {pcf : Nat} (hd : decode c.code pc = .ok (.if_icmp .le o, 3)) (ho : 0 ≤ (pc : Int) + o) (hp : ((pc : Int) + o).toNat = pc') (hq : pc + 3 = pcf) (k1 : ¬ y < x → OG p e below m Pq T pc' L S) (k2 : y < x → OG p e below m Pq T pcf L S) : OG p e below m Pq T pc L (.int y :: .int x :: S) := by
  by_cases q : y < x
  · subst hq; exact OG.st (fun t r => XS.icmpNo P.here P.ex rfl hd rfl (tlt q).2.2.2 r) (k2 q)
  · exact OG.st (fun t r => XS.icmpYes P.here P.ex rfl rfl hd rfl (flt q).2.2.2 ho hp r) (k1 q)
theorem o_if_le (P : OPn p l e R s m args below meth c Z a0 EL n0 W0 own T h Ow cells slots) {o : Int} {x : Int32} {pcf : Nat} (hd : decode c.code pc = .ok (.ifCond .le o, 3)) (ho : 0 ≤ (pc : Int) + o) (hp : ((pc : Int) + o).toNat = pc') (hq : pc + 3 = pcf) (k1 : ¬ (0 : Int32) < x → OG p e below m Pq T pc' L S) (k2 : (0 : Int32) < x → OG p e below m Pq T pcf L S) : OG p e below m Pq T pc L (.int x :: S) := by
  by_cases q : (0 : Int32) < x
  · subst hq; exact OG.st (fun t r => XS.ifNo P.here P.ex rfl hd rfl ((if0 _ _).trans (tlt q).2.2.2) r) (k2 q)
  · exact OG.st (fun t r => XS.ifYes P.here P.ex rfl rfl hd rfl ((if0 _ _).trans (flt q).2.2.2) ho hp r) (k1 q)
theorem o_icmp_eq (P : OPn p l e R s m args below meth c Z a0 EL n0 W0 own T h Ow cells slots) {o : Int} {x y : Int32} {pcf : Nat} (hd : decode c.code pc = .ok (.if_icmp .eq o, 3)) (ho : 0 ≤ (pc : Int) + o) (hp : ((pc : Int) + o).toNat = pc') (hq : pc + 3 = pcf) (k1 : x = y → OG p e below m Pq T pc' L S) (k2 : ¬ x = y → OG p e below m Pq T pcf L S) : OG p e below m Pq T pc L (.int y :: .int x :: S) := by
  by_cases q : x = y
  · exact OG.st (fun t r => XS.icmpYes P.here P.ex rfl rfl hd rfl (teq q).1 ho hp r) (k1 q)
  · subst hq; exact OG.st (fun t r => XS.icmpNo P.here P.ex rfl hd rfl (feq q).1 r) (k2 q)
theorem o_if_eq (P : OPn p l e R s m args below meth c Z a0 EL n0 W0 own T h Ow cells slots) {o : Int} {x : Int32} {pcf : Nat} (hd : decode c.code pc = .ok (.ifCond .eq o, 3)) (ho : 0 ≤ (pc : Int) + o) (hp : ((pc : Int) + o).toNat = pc') (hq : pc + 3 = pcf) (k1 : x = (0 : Int32) → OG p e below m Pq T pc' L S) (k2 : ¬ x = (0 : Int32) → OG p e below m Pq T pcf L S) : OG p e below m Pq T pc L (.int x :: S) := by
  by_cases q : x = (0 : Int32)
  · exact OG.st (fun t r => XS.ifYes P.here P.ex rfl rfl hd rfl ((if0 _ _).trans (teq q).1) ho hp r) (k1 q)
  · subst hq; exact OG.st (fun t r => XS.ifNo P.here P.ex rfl hd rfl ((if0 _ _).trans (feq q).1) r) (k2 q)
theorem o_icmp_ne (P : OPn p l e R s m args below meth c Z a0 EL n0 W0 own T h Ow cells slots) {o : Int} {x y : Int32} {pcf : Nat} (hd : decode c.code pc = .ok (.if_icmp .ne o, 3)) (ho : 0 ≤ (pc : Int) + o) (hp : ((pc : Int) + o).toNat = pc') (hq : pc + 3 = pcf) (k1 : ¬ x = y → OG p e below m Pq T pc' L S) (k2 : x = y → OG p e below m Pq T pcf L S) : OG p e below m Pq T pc L (.int y :: .int x :: S) := by
  by_cases q : x = y
  · subst hq; exact OG.st (fun t r => XS.icmpNo P.here P.ex rfl hd rfl (teq q).2 r) (k2 q)
  · exact OG.st (fun t r => XS.icmpYes P.here P.ex rfl rfl hd rfl (feq q).2 ho hp r) (k1 q)
theorem o_if_ne (P : OPn p l e R s m args below meth c Z a0 EL n0 W0 own T h Ow cells slots) {o : Int} {x : Int32} {pcf : Nat} (hd : decode c.code pc = .ok (.ifCond .ne o, 3)) (ho : 0 ≤ (pc : Int) + o) (hp : ((pc : Int) + o).toNat = pc') (hq : pc + 3 = pcf) (k1 : ¬ x = (0 : Int32) → OG p e below m Pq T pc' L S) (k2 : x = (0 : Int32) → OG p e below m Pq T pcf L S) : OG p e below m Pq T pc L (.int x :: S) := by
  by_cases q : x = (0 : Int32)
  · subst hq; exact OG.st (fun t r => XS.ifNo P.here P.ex rfl hd rfl ((if0 _ _).trans (teq q).2) r) (k2 q)
  · exact OG.st (fun t r => XS.ifYes P.here P.ex rfl rfl hd rfl ((if0 _ _).trans (feq q).2) ho hp r) (k1 q)
theorem o_ifnullY (P : OPn p l e R s m args below meth c Z a0 EL n0 W0 own T h Ow cells slots) {o : Int} (hd : decode c.code pc = .ok (.ifnull o, 3)) (ho : 0 ≤ (pc : Int) + o) (hp : ((pc : Int) + o).toNat = pc') (k : OG p e below m Pq T pc' L S) : OG p e below m Pq T pc L (.null :: S) :=
  OG.st (fun t q => XS.ifnullYes P.here P.ex rfl rfl hd rfl ho hp q) k
theorem o_ifnullN (P : OPn p l e R s m args below meth c Z a0 EL n0 W0 own T h Ow cells slots) {o : Int} {b : Addr} (hd : decode c.code pc = .ok (.ifnull o, 3)) (hp : pc + 3 = pc') (k : OG p e below m Pq T pc' L S) : OG p e below m Pq T pc L (.ref b :: S) := by
  subst hp; exact OG.st (fun t q => XS.ifnullNo P.here P.ex rfl hd rfl q) k
theorem o_ifnonnullY (P : OPn p l e R s m args below meth c Z a0 EL n0 W0 own T h Ow cells slots) {o : Int} {b : Addr} (hd : decode c.code pc = .ok (.ifnonnull o, 3)) (ho : 0 ≤ (pc : Int) + o) (hp : ((pc : Int) + o).toNat = pc') (k : OG p e below m Pq T pc' L S) : OG p e below m Pq T pc L (.ref b :: S) :=
  OG.st (fun t q => XS.ifnonnullYes P.here P.ex rfl rfl hd rfl ho hp q) k
theorem o_ifnonnullN (P : OPn p l e R s m args below meth c Z a0 EL n0 W0 own T h Ow cells slots) {o : Int} (hd : decode c.code pc = .ok (.ifnonnull o, 3)) (hp : pc + 3 = pc') (k : OG p e below m Pq T pc' L S) : OG p e below m Pq T pc L (.null :: S) := by
  subst hp; exact OG.st (fun t q => XS.ifnonnullNo P.here P.ex rfl hd rfl q) k
theorem o_acmp (P : OPn p l e R s m args below meth c Z a0 EL n0 W0 own T h Ow cells slots) {cd : ACond} {o : Int} {x y : Value} (same : Bool) (hd : decode c.code pc = .ok (.if_acmp cd o, 3)) (h1 : x.isRef = true) (h2 : y.isRef = true) (hq : decide (x = y) = same) (ho : 0 ≤ (pc : Int) + o) (hp : pc' = if acV cd same = true then ((pc : Int) + o).toNat else pc + 3) (k : OG p e below m Pq T pc' L S) : OG p e below m Pq T pc L (y :: x :: S) := by
  obtain ⟨locs, X, hx, -⟩ := P
  exact OG.st (fun t q => Jvm.RoadKit.acmp X hx rfl h1 h2 rfl hd rfl hq ho hp q) k
/-! objects: class and fields, one fact -/
def OObj (Z : State) (h : Heap) (a : Addr) (C : String) (fs : List (String × String × String × Value)) : Prop :=
  Exa Z h a C ∧ (∀ f ∈ fs, Fld Z h a f.1 f.2.1 f.2.2.1 f.2.2.2) ∧ ∀ (i j : Nat) (f g : String × String × String × Value), i ≠ j → fs[i]? = some f → fs[j]? = some g → Jvm.RoadKit.slotOf Z f.1 f.2.1 f.2.2.1 ≠ Jvm.RoadKit.slotOf Z g.1 g.2.1 g.2.2.1
section OObjs
variable {a b : Addr} {C O nm d : String} {fs : List (String × String × String × Value)} {u v w : Value} {ws : List Addr} {sl : Nat}
theorem OObj.exa (F : OObj Z h a C fs) : Exa Z h a C := F.1
theorem OObj.lt (F : OObj Z h a C fs) : a < h.size := F.1.lt
theorem OObj.keep (F : OObj Z h a C fs) (K : Keep h h' ws) (q : a ∉ ws) : OObj Z h' a C fs := ⟨F.1.keep K, fun f hf => (F.2.1 f hf).keep K q, F.2.2⟩
theorem OObj.oth (F : OObj Z h a C fs) (W : Wr h h' b sl v) (q : a ≠ b) : OObj Z h' a C fs := ⟨F.1.wr W, fun f hf => (F.2.1 f hf).other W (Or.inl q), F.2.2⟩
theorem OObj.fld (F : OObj Z h a C fs) (i : Nat) (hi : fs[i]? = some (O, nm, d, v)) : Fld Z h a O nm d v := F.2.1 _ (List.mem_of_getElem? hi)
theorem OObj.put (F : OObj Z h a C fs) (i : Nat) (hi : fs[i]? = some (O, nm, d, u)) (W : Wr h h' a (Jvm.RoadKit.slotOf Z O nm d) v) : OObj Z h' a C (fs.set i (O, nm, d, v)) := by
  have key : ∀ (j : Nat) (f : String × String × String × Value), (fs.set i (O, nm, d, v))[j]? = some f → (j = i ∧ f = (O, nm, d, v)) ∨ (j ≠ i ∧ fs[j]? = some f) := by
    intro j f hj
    by_cases e : j = i
    · subst e
      have hlt : j < fs.length := (List.getElem?_eq_some_iff.mp hi).1
      rw [List.getElem?_set_self hlt] at hj
      exact Or.inl ⟨rfl, (Option.some.inj hj).symm⟩
    · rw [List.getElem?_set_ne (fun q => e q.symm)] at hj
      exact Or.inr ⟨e, hj⟩
  refine ⟨F.1.wr W, fun f hf => ?_, fun j k f g hjk hj hk => ?_⟩
  · obtain ⟨j, hj⟩ := List.getElem?_of_mem hf
    rcases key j f hj with ⟨rfl, rfl⟩ | ⟨hne, hj'⟩
    · exact (F.fld j hi).same W
    · exact (F.2.1 f (List.mem_of_getElem? hj')).other W (Or.inr (F.2.2 j i f (O, nm, d, u) hne hj' hi))
  · rcases key j f hj with ⟨rfl, rfl⟩ | ⟨hne, hj'⟩ <;> rcases key k g hk with ⟨rfl, rfl⟩ | ⟨hne', hk'⟩
    · exact absurd rfl hjk
    · exact F.2.2 j k (O, nm, d, u) g hjk hi hk'
    · exact F.2.2 j k f (O, nm, d, u) hjk hj' hi
    · exact F.2.2 j k f g hjk hj' hk'
theorem OObj.new (E : Exa Z h a C) (D : ∀ {O nm d : String} {ty : FieldType}, Laid Z a0 C O nm d → parseFieldDescriptor d = some ty → Fld Z h a O nm d (defaultValue ty)) (hL : ∀ f ∈ fs, Laid Z a0 C f.1 f.2.1 f.2.2.1 ∧ ∃ ty, parseFieldDescriptor f.2.2.1 = some ty ∧ defaultValue ty = f.2.2.2) (nd : (fs.map fun f => f.2.1).Nodup) : OObj Z h a C fs := by
  refine ⟨E, fun f hf => ?_, fun i j f g hij hi hj => ?_⟩
  · obtain ⟨L, ty, h1, h2⟩ := hL f hf
    rw [← h2]; exact D L h1
  · obtain ⟨L1, t1, p1, -⟩ := hL f (List.mem_of_getElem? hi)
    obtain ⟨L2, t2, p2, -⟩ := hL g (List.mem_of_getElem? hj)
    refine slot_ne L1 L2 (fun e => hij ?_) p1 p2
    have hi' : (fs.map fun f => f.2.1)[i]? = some f.2.1 := by rw [List.getElem?_map, hi]; rfl
    have hj' : (fs.map fun f => f.2.1)[j]? = some f.2.1 := by rw [List.getElem?_map, hj, e]; rfl
    obtain ⟨li, ei⟩ := List.getElem?_eq_some_iff.mp hi'
    obtain ⟨lj, ej⟩ := List.getElem?_eq_some_iff.mp hj'
    have np := List.pairwise_iff_getElem.mp nd
    rcases Nat.lt_trichotomy i j with q | q | q
    · exact absurd (ei.trans ej.symm) (np i j li lj q)
    · exact q
    · exact absurd (ej.trans ei.symm) (np j i lj li q)
end OObjs
/-- every field of the list is laid, with its first value -/
def OLd (Z : State) (a0 : Array Value) (C : String) (fs : List (String × String × String × Value)) : Prop := ∀ f ∈ fs, Laid Z a0 C f.1 f.2.1 f.2.2.1 ∧ ∃ ty, parseFieldDescriptor f.2.2.1 = some ty ∧ defaultValue ty = f.2.2.2
theorem OLd.nil {C : String} : OLd Z a0 C [] := fun _ q => nomatch q
theorem OLd.cons {C O nm d : String} {v : Value} {ty : FieldType} {fs : List (String × String × String × Value)} (L : Laid Z a0 C O nm d) (h1 : parseFieldDescriptor d = some ty) (h2 : defaultValue ty = v) (r : OLd Z a0 C fs) : OLd Z a0 C ((O, nm, d, v) :: fs) := fun f hf => by
  rcases List.mem_cons.mp hf with rfl | hf
  · exact ⟨L, ty, h1, h2⟩
  · exact r f hf
/-! arrays: the whole content, one fact -/
def OArr (Z : State) (h : Heap) (a : Addr) (ty : FieldType) (vs : List Value) : Prop :=
  ∃ c : Cell, Arr Z h a c ty ∧ c.slots = vs.toArray ∧ vs.length < 2147483648 ∧ ∀ v ∈ vs, fits ty v = true
section OArrs
variable {a b : Addr} {ty : FieldType} {vs : List Value} {u v w : Value} {ws : List Addr} {sl : Nat} {j z : Int32} {k : ClassId} {dv : Value}
theorem OArr.eq {vs' : List Value} (F : OArr Z h a ty vs) (e : vs = vs') : OArr Z h a ty vs' := e ▸ F
theorem OArr.lt (F : OArr Z h a ty vs) : a < h.size := by obtain ⟨c, A, -⟩ := F; exact A.lt
theorem OArr.len (F : OArr Z h a ty vs) : vs.length < 2147483648 := by obtain ⟨c, -, -, q, -⟩ := F; exact q
theorem OArr.keep (F : OArr Z h a ty vs) (K : Keep h h' ws) (q : a ∉ ws) : OArr Z h' a ty vs := by obtain ⟨c, A, r⟩ := F; exact ⟨c, ⟨K.2.1 a c A.1 q, A.2⟩, r⟩
theorem OArr.oth (F : OArr Z h a ty vs) (W : Wr h h' b sl v) (q : a ≠ b) : OArr Z h' a ty vs := by obtain ⟨c, A, r⟩ := F; exact ⟨c, A.other W q, r⟩
theorem OArr.set (F : OArr Z h a ty vs) (W : Wr h h' a sl v) (hv : fits ty v = true) : OArr Z h' a ty (vs.set sl v) := by
  obtain ⟨c, A, e, n, q⟩ := F
  refine ⟨c.setSlot sl v, A.same W, by simp [Cell.setSlot, e], by rw [List.length_set]; exact n, fun x hx => ?_⟩
  rcases List.mem_or_eq_of_mem_set hx with hx | rfl
  · exact q x hx
  · exact hv
theorem OArr.ofArv (F : Arv Z h a k ty z vs dv) (hl : vs.length = z.toNatClampNeg) : OArr Z h a ty vs := by
  obtain ⟨c, A, -, S, q, H, G⟩ := F
  refine ⟨c, A, ?_, by rw [hl]; exact (back32 q).2, fun v hv => ?_⟩
  · apply Array.ext_getElem?
    intro i
    by_cases hi : i < c.slots.size
    · rw [H i hi]
      have hi' : i < vs.length := by rw [hl, ← S]; exact hi
      simp [hi']
    · rw [Array.getElem?_eq_none (by omega)]
      have hi' : ¬ i < vs.length := by rw [hl, ← S]; exact hi
      simp; omega
  · obtain ⟨i, hi⟩ := List.getElem?_of_mem hv
    obtain ⟨hi1, hi2⟩ := List.getElem?_eq_some_iff.mp hi
    have := G i (by rw [S, ← hl]; exact hi1)
    simpa [hi1, hi2] using this
theorem OArr.toArv (F : OArr Z h a ty vs) (hz : ¬ z < 0) (hl : z.toNatClampNeg = vs.length) : ∃ k, Arv Z h a k ty z vs dv := by
  obtain ⟨c, A, e, n, q⟩ := F
  refine ⟨c.cls, c, A, rfl, by rw [e, hl]; simp, hz, fun i hi => ?_, fun i hi => ?_⟩
  · rw [e] at hi ⊢
    have hi' : i < vs.length := by simpa using hi
    simp [hi']
  · rw [e] at hi
    have hi' : i < vs.length := by simpa using hi
    have := q vs[i] (List.getElem_mem hi')
    simpa [hi'] using this
theorem OArr.size (F : OArr Z h a ty vs) {c : Cell} (hc : h[a]? = some c) : c.slots = vs.toArray := by
  obtain ⟨c', A, e, -⟩ := F
  cases hc.symm.trans A.1
  exact e
/-- inside -/
theorem o_in (hj : ¬ j < 0) (hl : j.toNatClampNeg < vs.length) : ¬ (j < 0 ∨ vs.toArray.size ≤ j.toNatClampNeg) := fun q => q.elim hj fun r => by simp at r; omega
end OArrs
/-! fields -/
theorem o_getF (P : OPn p l e R s m args below meth c Z a0 EL n0 W0 own T h Ow cells slots) {R0 O n d : String} {index : Nat} {a : Addr} {v : Value} (w : (Jvm.Cond.fieldLink own index R0 n d).before a0 Z = true) (via : Via Z R0 O n d) (F : Fld Z h a O n d v) (hd : decode c.code pc = .ok (.getfield index, 3)) (hp : pc + 3 = pc')
    (k : ∀ T', OPn p l e R s m args below meth c Z a0 EL n0 W0 own T' h Ow cells slots → OG p e below m Pq T' pc' L (v :: S)) : OG p e below m Pq T pc L (.ref a :: S) := by
  subst hp
  exact P.tab (fun locs X hZ hown eT hx => getF (host := "") X hx hZ hown (Or.inl w) via eT F (g := mkF m pc L (.ref a :: S)) rfl rfl hd) k
theorem o_getFN (P : OPn p l e R s m args below meth c Z a0 EL n0 W0 own T h Ow cells slots) {R0 O n d host : String} {index : Nat} {a : Addr} {v : Value} (w : (Jvm.Cond.fieldLinkNest own index R0 n d host).before a0 Z = true) (via : Via Z R0 O n d) (F : Fld Z h a O n d v) (hd : decode c.code pc = .ok (.getfield index, 3)) (hp : pc + 3 = pc')
    (k : ∀ T', OPn p l e R s m args below meth c Z a0 EL n0 W0 own T' h Ow cells slots → OG p e below m Pq T' pc' L (v :: S)) : OG p e below m Pq T pc L (.ref a :: S) := by
  subst hp
  exact P.tab (fun locs X hZ hown eT hx => getF (host := host) X hx hZ hown (Or.inr w) via eT F (g := mkF m pc L (.ref a :: S)) rfl rfl hd) k
theorem o_getS (P : OPn p l e R s m args below meth c Z a0 EL n0 W0 own T h Ow cells slots) {R0 O n d : String} {index : Nat} {v : Value} (w : (Jvm.Cond.fieldLink own index R0 n d).before a0 Z = true) (via : Via Z R0 O n d) (F : Sta Z Z.heap O n d v) (hd : decode c.code pc = .ok (.getstatic index, 3)) (hp : pc + 3 = pc')
    (k : ∀ T', OPn p l e R s m args below meth c Z a0 EL n0 W0 own T' h Ow cells slots → OG p e below m Pq T' pc' L (v :: S)) : OG p e below m Pq T pc L S := by
  subst hp
  have O := P.old
  exact P.tab (fun locs X hZ hown eT hx => getS2 (host := "") X hx hZ hown (Or.inl w) via eT (F.ext O.2) (g := mkF m pc L S) rfl hd) k
theorem o_getSN (P : OPn p l e R s m args below meth c Z a0 EL n0 W0 own T h Ow cells slots) {R0 O n d host : String} {index : Nat} {v : Value} (w : (Jvm.Cond.fieldLinkNest own index R0 n d host).before a0 Z = true) (via : Via Z R0 O n d) (F : Sta Z Z.heap O n d v) (hd : decode c.code pc = .ok (.getstatic index, 3)) (hp : pc + 3 = pc')
    (k : ∀ T', OPn p l e R s m args below meth c Z a0 EL n0 W0 own T' h Ow cells slots → OG p e below m Pq T' pc' L (v :: S)) : OG p e below m Pq T pc L S := by
  subst hp
  have O := P.old
  exact P.tab (fun locs X hZ hown eT hx => getS2 (host := host) X hx hZ hown (Or.inr w) via eT (F.ext O.2) (g := mkF m pc L S) rfl hd) k
theorem o_putF (P : OPn p l e R s m args below meth c Z a0 EL n0 W0 own T h Ow cells slots) {R0 O n d C : String} {index kk : Nat} {a : Addr} {v v' old : Value} {ty : FieldType} (w : (Jvm.Cond.fieldLink own index R0 n d).before a0 Z = true) (via : Via Z R0 O n d) (F : Fld Z h a O n d old) (E : Exa Z h a C) (Lw : (Jvm.Cond.lays C O n d).before a0 Z = true ∨ ((Jvm.Cond.laysFinal C O n d).before a0 Z = true ∧ own = O ∧ meth.name = "<init>")) (wi : (Jvm.Cond.instantiable C kk).before a0 Z = true) (hty : parseFieldDescriptor d = some ty) (hn : narrow ty v = v') (hf : fits ty v' = true) (ha : a ∈ Ow) (hd : decode c.code pc = .ok (.putfield index, 3)) (hp : pc + 3 = pc')
    (k : ∀ T' h', OPn p l e R s m args below meth c Z a0 EL n0 W0 own T' h' Ow cells slots → Wr h h' a (Jvm.RoadKit.slotOf Z O n d) v' → OG p e below m Pq T' pc' L S) : OG p e below m Pq T pc L (v :: .ref a :: S) := by
  subst hp
  exact P.wr ha (fun locs X hZ hown eT hx => putFN X hx hZ hown w via eT F E Lw wi hty hn hf (g := mkF m pc L (v :: .ref a :: S)) rfl rfl hd) k
/-! new objects and arrays -/
theorem o_new (P : OPn p l e R s m args below meth c Z a0 EL n0 W0 own T h Ow cells slots) {C : String} {index n : Nat} (fs : List (String × String × String × Value)) (w : (Jvm.Cond.classLink own index C).before a0 Z = true) (wi : (Jvm.Cond.instantiable C n).before a0 Z = true) (wz : (Jvm.Cond.initialized C).before a0 Z = true) (hL : OLd Z a0 C fs) (nd : (fs.map fun f => f.2.1).Nodup) (hd : decode c.code pc = .ok (.new index, 3)) (hp : pc + 3 = pc') (hc : cells + 1 ≤ R.cells) (hl : slots + n ≤ R.slots)
    (k : ∀ T' h' b, OPn p l e R s m args below meth c Z a0 EL n0 W0 own T' h' (b :: Ow) (cells + 1) (slots + n) → Keep h h' [] → h.size ≤ b → OObj Z h' b C fs → OG p e below m Pq T' pc' L (.ref b :: S)) : OG p e below m Pq T pc L S := by
  subst hp
  refine P.grow (G := fun h' b => OObj Z h' b C fs) (fun locs X hZ hown eT hx => ?_) k
  obtain ⟨T', h', X', e', E', A', D', -, st⟩ := newO X hx hZ hown w wi wz eT (g := mkF m pc L S) rfl hd hc hl
  exact ⟨T', h', X', e', E', A'.lt, OObj.new A' D' hL nd, st⟩
theorem o_newarr (P : OPn p l e R s m args below meth c Z a0 EL n0 W0 own T h Ow cells slots) {aty : ArrayType} {n : Int32} {cap : Nat} (w : (Jvm.Cond.arrayClass (newarray.typeOf aty)).before a0 Z = true) (hd : decode c.code pc = .ok (.newarray aty, 2)) (hn : ¬ n < 0) (hcap : n.toNatClampNeg ≤ cap) (hb : cap * 8 ≤ 536870912) (hp : pc + 2 = pc') (hc : cells + 1 ≤ R.cells) (hl : slots + cap ≤ R.slots)
    (k : ∀ T' h' b, OPn p l e R s m args below meth c Z a0 EL n0 W0 own T' h' (b :: Ow) (cells + 1) (slots + cap) → Keep h h' [] → h.size ≤ b → OArr Z h' b (newarray.typeOf aty) (List.replicate n.toNatClampNeg (defaultValue (newarray.typeOf aty))) → OG p e below m Pq T' pc' L (.ref b :: S)) : OG p e below m Pq T pc L (.int n :: S) := by
  subst hp
  refine P.grow (G := fun h' b => OArr Z h' b (newarray.typeOf aty) (List.replicate n.toNatClampNeg (defaultValue (newarray.typeOf aty)))) (fun locs X hZ hown eT hx => ?_) k
  obtain ⟨T', h', cA, X', e', E', A', st⟩ := newP X hx hZ w eT (g := mkF m pc L (.int n :: S)) rfl hd rfl hn hcap hb hc hl
  refine ⟨T', h', X', e', E', A'.lt, ⟨_, A', by simp [newA], by simpa using (back32 hn).2, fun v hv => ?_⟩, st⟩
  rw [List.eq_of_mem_replicate hv]; cases (newarray.typeOf aty) <;> rfl
theorem o_anewarr (P : OPn p l e R s m args below meth c Z a0 EL n0 W0 own T h Ow cells slots) {C : String} {index : Nat} {n : Int32} {cap : Nat} (w1 : (Jvm.Cond.classLink own index C).before a0 Z = true) (w2 : (Jvm.Cond.arrayOver (.object C)).before a0 Z = true) (hd : decode c.code pc = .ok (.anewarray index, 3)) (hn : ¬ n < 0) (hcap : n.toNatClampNeg ≤ cap) (hb : cap * 8 ≤ 536870912) (hp : pc + 3 = pc') (hc : cells + 1 ≤ R.cells) (hl : slots + cap ≤ R.slots)
    (k : ∀ T' h' b, OPn p l e R s m args below meth c Z a0 EL n0 W0 own T' h' (b :: Ow) (cells + 1) (slots + cap) → Keep h h' [] → h.size ≤ b → OArr Z h' b (.object C) (List.replicate n.toNatClampNeg .null) → (∃ cell : Cell, h'[b]? = some cell ∧ Ovr Z cell.cls C) → OG p e below m Pq T' pc' L (.ref b :: S)) : OG p e below m Pq T pc L (.int n :: S) := by
  subst hp
  refine P.grow (G := fun h' b => OArr Z h' b (.object C) (List.replicate n.toNatClampNeg .null) ∧ ∃ cell : Cell, h'[b]? = some cell ∧ Ovr Z cell.cls C) (fun locs X hZ hown eT hx => ?_) fun T' h' b P' K hb' q => k T' h' b P' K hb' q.1 q.2
  obtain ⟨T', h', cA, X', e', E', A', O', st⟩ := newR X hx hZ hown w1 w2 eT (g := mkF m pc L (.int n :: S)) rfl hd rfl hn hcap hb hc hl
  refine ⟨T', h', X', e', E', A'.lt, ⟨⟨_, A', by simp [newA, defaultValue], by simpa using (back32 hn).2, fun v hv => ?_⟩, _, A'.1, O'⟩, st⟩
  rw [List.eq_of_mem_replicate hv]; rfl
/-! components -/
theorem o_arrlen (P : OPn p l e R s m args below meth c Z a0 EL n0 W0 own T h Ow cells slots) {a : Addr} {ty : FieldType} {vs : List Value} {n : Int32} (A : OArr Z h a ty vs) (hd : decode c.code pc = .ok (.arraylength, 1)) (hn : vs.length.toInt32 = n) (hp : pc + 1 = pc') (k : OG p e below m Pq T pc' L (.int n :: S)) : OG p e below m Pq T pc L (.ref a :: S) := by
  subst hp hn
  obtain ⟨locs, X, hx, hlk, hS, hZ, hown, eT, r⟩ := P
  obtain ⟨cl, Ar, e1, -⟩ := A
  have st := X.arraylength hx (by rw [eT]; exact Ar.1) (State.isArrayOf_alike hZ.alike Ar.2.1) (g := mkF m pc L (.ref a :: S)) rfl rfl hd
  rw [e1] at st
  exact OG.st (fun t q => st t (by simpa using q)) k
theorem o_iaload (P : OPn p l e R s m args below meth c Z a0 EL n0 W0 own T h Ow cells slots) {a : Addr} {vs : List Value} {j : Int32} {v : Value} (A : OArr Z h a .int vs) (hj : ¬ j < 0) (hv : vs[j.toNatClampNeg]? = some v) (hd : decode c.code pc = .ok (.iaload, 1)) (hp : pc + 1 = pc') (k : OG p e below m Pq T pc' L (v :: S)) : OG p e below m Pq T pc L (.int j :: .ref a :: S) := by
  subst hp
  obtain ⟨locs, X, hx, hlk, hS, hZ, hown, eT, r⟩ := P
  obtain ⟨cl, Ar, e1, -⟩ := A
  have hlt : j.toNatClampNeg < vs.length := (List.getElem?_eq_some_iff.mp hv).1
  exact OG.st (fun t q => X.iaload hx (by rw [eT]; exact Ar.1) (State.isArrayOf_alike hZ.alike Ar.2.1) Ar.2.2 (by rw [e1]; exact o_in hj hlt) (by rw [e1]; simpa using hv) (g := mkF m pc L (.int j :: .ref a :: S)) rfl rfl hd t q) k
theorem o_laload (P : OPn p l e R s m args below meth c Z a0 EL n0 W0 own T h Ow cells slots) {a : Addr} {vs : List Value} {j : Int32} {v : Value} (A : OArr Z h a .long vs) (hj : ¬ j < 0) (hv : vs[j.toNatClampNeg]? = some v) (hd : decode c.code pc = .ok (.laload, 1)) (hp : pc + 1 = pc') (k : OG p e below m Pq T pc' L (v :: S)) : OG p e below m Pq T pc L (.int j :: .ref a :: S) := by
  subst hp
  obtain ⟨locs, X, hx, hlk, hS, hZ, hown, eT, r⟩ := P
  obtain ⟨cl, Ar, e1, -⟩ := A
  have hlt : j.toNatClampNeg < vs.length := (List.getElem?_eq_some_iff.mp hv).1
  exact OG.st (fun t q => X.laload hx (by rw [eT]; exact Ar.1) (State.isArrayOf_alike hZ.alike Ar.2.1) Ar.2.2 (by rw [e1]; exact o_in hj hlt) (by rw [e1]; simpa using hv) (g := mkF m pc L (.int j :: .ref a :: S)) rfl rfl hd t q) k
theorem o_caload (P : OPn p l e R s m args below meth c Z a0 EL n0 W0 own T h Ow cells slots) {a : Addr} {vs : List Value} {j : Int32} {v : Value} (A : OArr Z h a .char vs) (hj : ¬ j < 0) (hv : vs[j.toNatClampNeg]? = some v) (hd : decode c.code pc = .ok (.caload, 1)) (hp : pc + 1 = pc') (k : OG p e below m Pq T pc' L (v :: S)) : OG p e below m Pq T pc L (.int j :: .ref a :: S) := by
  subst hp
  obtain ⟨locs, X, hx, hlk, hS, hZ, hown, eT, r⟩ := P
  obtain ⟨cl, Ar, e1, -⟩ := A
  have hlt : j.toNatClampNeg < vs.length := (List.getElem?_eq_some_iff.mp hv).1
  exact OG.st (fun t q => X.caload hx (by rw [eT]; exact Ar.1) (State.isArrayOf_alike hZ.alike Ar.2.1) Ar.2.2 (by rw [e1]; exact o_in hj hlt) (by rw [e1]; simpa using hv) (g := mkF m pc L (.int j :: .ref a :: S)) rfl rfl hd t q) k
theorem o_baload (P : OPn p l e R s m args below meth c Z a0 EL n0 W0 own T h Ow cells slots) {a : Addr} {vs : List Value} {j : Int32} {v : Value} (A : OArr Z h a .byte vs) (hj : ¬ j < 0) (hv : vs[j.toNatClampNeg]? = some v) (hd : decode c.code pc = .ok (.baload, 1)) (hp : pc + 1 = pc') (k : OG p e below m Pq T pc' L (v :: S)) : OG p e below m Pq T pc L (.int j :: .ref a :: S) := by
  subst hp
  obtain ⟨locs, X, hx, hlk, hS, hZ, hown, eT, r⟩ := P
  obtain ⟨cl, Ar, e1, -⟩ := A
  have hlt : j.toNatClampNeg < vs.length := (List.getElem?_eq_some_iff.mp hv).1
  exact OG.st (fun t q => X.baloadBytes hx (by rw [eT]; exact Ar.1) (State.isArrayOf_alike hZ.alike Ar.2.1) Ar.2.2 (by rw [e1]; exact o_in hj hlt) (by rw [e1]; simpa using hv) (g := mkF m pc L (.int j :: .ref a :: S)) rfl rfl hd t q) k
theorem o_zaload (P : OPn p l e R s m args below meth c Z a0 EL n0 W0 own T h Ow cells slots) {a : Addr} {vs : List Value} {j : Int32} {v : Value} (A : OArr Z h a .boolean vs) (hj : ¬ j < 0) (hv : vs[j.toNatClampNeg]? = some v) (hd : decode c.code pc = .ok (.baload, 1)) (hp : pc + 1 = pc') (k : OG p e below m Pq T pc' L (v :: S)) : OG p e below m Pq T pc L (.int j :: .ref a :: S) := by
  subst hp
  obtain ⟨locs, X, hx, hlk, hS, hZ, hown, eT, r⟩ := P
  obtain ⟨cl, Ar, e1, -⟩ := A
  have hlt : j.toNatClampNeg < vs.length := (List.getElem?_eq_some_iff.mp hv).1
  exact OG.st (fun t q => X.baloadBooleans hx (by rw [eT]; exact Ar.1) (State.isArrayOf_alike hZ.alike Ar.2.1) Ar.2.2 (by rw [e1]; exact o_in hj hlt) (by rw [e1]; simpa using hv) (g := mkF m pc L (.int j :: .ref a :: S)) rfl rfl hd t q) k
theorem o_daload (P : OPn p l e R s m args below meth c Z a0 EL n0 W0 own T h Ow cells slots) {a : Addr} {vs : List Value} {j : Int32} {v : Value} (A : OArr Z h a .double vs) (hj : ¬ j < 0) (hv : vs[j.toNatClampNeg]? = some v) (hd : decode c.code pc = .ok (.daload, 1)) (hp : pc + 1 = pc') (k : OG p e below m Pq T pc' L (v :: S)) : OG p e below m Pq T pc L (.int j :: .ref a :: S) := by
  subst hp
  obtain ⟨locs, X, hx, hlk, hS, hZ, hown, eT, r⟩ := P
  obtain ⟨cl, Ar, e1, -⟩ := A
  have hlt : j.toNatClampNeg < vs.length := (List.getElem?_eq_some_iff.mp hv).1
  exact OG.st (fun t q => X.daload hx (by rw [eT]; exact Ar.1) (State.isArrayOf_alike hZ.alike Ar.2.1) Ar.2.2 (by rw [e1]; exact o_in hj hlt) (by rw [e1]; simpa using hv) (g := mkF m pc L (.int j :: .ref a :: S)) rfl rfl hd t q) k
theorem o_saload (P : OPn p l e R s m args below meth c Z a0 EL n0 W0 own T h Ow cells slots) {a : Addr} {vs : List Value} {j : Int32} {v : Value} (A : OArr Z h a .short vs) (hj : ¬ j < 0) (hv : vs[j.toNatClampNeg]? = some v) (hd : decode c.code pc = .ok (.saload, 1)) (hp : pc + 1 = pc') (k : OG p e below m Pq T pc' L (v :: S)) : OG p e below m Pq T pc L (.int j :: .ref a :: S) := by
  subst hp
  obtain ⟨locs, X, hx, hlk, hS, hZ, hown, eT, r⟩ := P
  obtain ⟨cl, Ar, e1, -⟩ := A
  have hlt : j.toNatClampNeg < vs.length := (List.getElem?_eq_some_iff.mp hv).1
  exact OG.st (fun t q => X.saload hx (by rw [eT]; exact Ar.1) (State.isArrayOf_alike hZ.alike Ar.2.1) Ar.2.2 (by rw [e1]; exact o_in hj hlt) (by rw [e1]; simpa using hv) (g := mkF m pc L (.int j :: .ref a :: S)) rfl rfl hd t q) k
theorem o_aaload (P : OPn p l e R s m args below meth c Z a0 EL n0 W0 own T h Ow cells slots) {a : Addr} {ty : FieldType} {vs : List Value} {j : Int32} {v : Value} (A : OArr Z h a ty vs) (hty : ty.isReference = true) (hj : ¬ j < 0) (hv : vs[j.toNatClampNeg]? = some v) (hd : decode c.code pc = .ok (.aaload, 1)) (hp : pc + 1 = pc') (k : OG p e below m Pq T pc' L (v :: S)) : OG p e below m Pq T pc L (.int j :: .ref a :: S) := by
  subst hp
  obtain ⟨locs, X, hx, hlk, hS, hZ, hown, eT, r⟩ := P
  obtain ⟨cl, Ar, e1, -⟩ := A
  have hlt : j.toNatClampNeg < vs.length := (List.getElem?_eq_some_iff.mp hv).1
  exact OG.st (fun t q => X.aaload hx (by rw [eT]; exact Ar.1) (State.isArrayOf_alike hZ.alike Ar.2.1) hty Ar.2.2 (by rw [e1]; exact o_in hj hlt) (by rw [e1]; simpa using hv) (g := mkF m pc L (.int j :: .ref a :: S)) rfl rfl hd t q) k
theorem o_iastore (P : OPn p l e R s m args below meth c Z a0 EL n0 W0 own T h Ow cells slots) {a : Addr} {vs : List Value} {j : Int32} {x : Int32} {v : Value} (A : OArr Z h a .int vs) (ha : a ∈ Ow) (hj : ¬ j < 0) (hlt : j.toNatClampNeg < vs.length) (hv : Value.int x = v) (hd : decode c.code pc = .ok (.iastore, 1)) (hp : pc + 1 = pc')
    (k : ∀ T' h', OPn p l e R s m args below meth c Z a0 EL n0 W0 own T' h' Ow cells slots → Wr h h' a j.toNatClampNeg v → OArr Z h' a .int (vs.set j.toNatClampNeg v) → OG p e below m Pq T' pc' L S) : OG p e below m Pq T pc L (.int x :: .int j :: .ref a :: S) := by
  subst hp hv
  obtain ⟨cl, Ar, e1, e2⟩ := id A
  exact P.wr ha (fun locs X hZ hown eT hx => stI X hx hZ eT Ar (by rw [e1]; exact o_in hj hlt) (g := mkF m pc L (.int x :: .int j :: .ref a :: S)) rfl rfl hd) fun T' h' P' W' => k T' h' P' W' (A.set W' rfl)
theorem o_lastore (P : OPn p l e R s m args below meth c Z a0 EL n0 W0 own T h Ow cells slots) {a : Addr} {vs : List Value} {j : Int32} {x : Int64} {v : Value} (A : OArr Z h a .long vs) (ha : a ∈ Ow) (hj : ¬ j < 0) (hlt : j.toNatClampNeg < vs.length) (hv : Value.long x = v) (hd : decode c.code pc = .ok (.lastore, 1)) (hp : pc + 1 = pc')
    (k : ∀ T' h', OPn p l e R s m args below meth c Z a0 EL n0 W0 own T' h' Ow cells slots → Wr h h' a j.toNatClampNeg v → OArr Z h' a .long (vs.set j.toNatClampNeg v) → OG p e below m Pq T' pc' L S) : OG p e below m Pq T pc L (.long x :: .int j :: .ref a :: S) := by
  subst hp hv
  obtain ⟨cl, Ar, e1, e2⟩ := id A
  exact P.wr ha (fun locs X hZ hown eT hx => stJ X hx hZ eT Ar (by rw [e1]; exact o_in hj hlt) (g := mkF m pc L (.long x :: .int j :: .ref a :: S)) rfl rfl hd) fun T' h' P' W' => k T' h' P' W' (A.set W' rfl)
theorem o_castore (P : OPn p l e R s m args below meth c Z a0 EL n0 W0 own T h Ow cells slots) {a : Addr} {vs : List Value} {j : Int32} {x : Int32} {v : Value} (A : OArr Z h a .char vs) (ha : a ∈ Ow) (hj : ¬ j < 0) (hlt : j.toNatClampNeg < vs.length) (hv : Value.int (nar .char x) = v) (hd : decode c.code pc = .ok (.castore, 1)) (hp : pc + 1 = pc')
    (k : ∀ T' h', OPn p l e R s m args below meth c Z a0 EL n0 W0 own T' h' Ow cells slots → Wr h h' a j.toNatClampNeg v → OArr Z h' a .char (vs.set j.toNatClampNeg v) → OG p e below m Pq T' pc' L S) : OG p e below m Pq T pc L (.int x :: .int j :: .ref a :: S) := by
  subst hp hv
  obtain ⟨cl, Ar, e1, e2⟩ := id A
  exact P.wr ha (fun locs X hZ hown eT hx => stC X hx hZ eT Ar (by rw [e1]; exact o_in hj hlt) (g := mkF m pc L (.int x :: .int j :: .ref a :: S)) rfl rfl hd) fun T' h' P' W' => k T' h' P' W' (A.set W' (fits_nar_char _))
theorem o_bastore (P : OPn p l e R s m args below meth c Z a0 EL n0 W0 own T h Ow cells slots) {a : Addr} {vs : List Value} {j : Int32} {x : Int32} {v : Value} (A : OArr Z h a .byte vs) (ha : a ∈ Ow) (hj : ¬ j < 0) (hlt : j.toNatClampNeg < vs.length) (hv : Value.int (nar .byte x) = v) (hd : decode c.code pc = .ok (.bastore, 1)) (hp : pc + 1 = pc')
    (k : ∀ T' h', OPn p l e R s m args below meth c Z a0 EL n0 W0 own T' h' Ow cells slots → Wr h h' a j.toNatClampNeg v → OArr Z h' a .byte (vs.set j.toNatClampNeg v) → OG p e below m Pq T' pc' L S) : OG p e below m Pq T pc L (.int x :: .int j :: .ref a :: S) := by
  subst hp hv
  obtain ⟨cl, Ar, e1, e2⟩ := id A
  exact P.wr ha (fun locs X hZ hown eT hx => stB X hx hZ eT Ar (by rw [e1]; exact o_in hj hlt) (g := mkF m pc L (.int x :: .int j :: .ref a :: S)) rfl rfl hd) fun T' h' P' W' => k T' h' P' W' (A.set W' (fits_nar_byte _))
theorem o_zastore (P : OPn p l e R s m args below meth c Z a0 EL n0 W0 own T h Ow cells slots) {a : Addr} {vs : List Value} {j : Int32} {x : Int32} {v : Value} (A : OArr Z h a .boolean vs) (ha : a ∈ Ow) (hj : ¬ j < 0) (hlt : j.toNatClampNeg < vs.length) (hv : Value.int (nar .boolean x) = v) (hd : decode c.code pc = .ok (.bastore, 1)) (hp : pc + 1 = pc')
    (k : ∀ T' h', OPn p l e R s m args below meth c Z a0 EL n0 W0 own T' h' Ow cells slots → Wr h h' a j.toNatClampNeg v → OArr Z h' a .boolean (vs.set j.toNatClampNeg v) → OG p e below m Pq T' pc' L S) : OG p e below m Pq T pc L (.int x :: .int j :: .ref a :: S) := by
  subst hp hv
  obtain ⟨cl, Ar, e1, e2⟩ := id A
  exact P.wr ha (fun locs X hZ hown eT hx => stZ X hx hZ eT Ar (by rw [e1]; exact o_in hj hlt) (g := mkF m pc L (.int x :: .int j :: .ref a :: S)) rfl rfl hd) fun T' h' P' W' => k T' h' P' W' (A.set W' (fits_nar_bool _))
theorem o_dastore (P : OPn p l e R s m args below meth c Z a0 EL n0 W0 own T h Ow cells slots) {a : Addr} {vs : List Value} {j : Int32} {x : UInt64} {v : Value} (A : OArr Z h a .double vs) (ha : a ∈ Ow) (hj : ¬ j < 0) (hlt : j.toNatClampNeg < vs.length) (hv : Value.double x = v) (hd : decode c.code pc = .ok (.dastore, 1)) (hp : pc + 1 = pc')
    (k : ∀ T' h', OPn p l e R s m args below meth c Z a0 EL n0 W0 own T' h' Ow cells slots → Wr h h' a j.toNatClampNeg v → OArr Z h' a .double (vs.set j.toNatClampNeg v) → OG p e below m Pq T' pc' L S) : OG p e below m Pq T pc L (.double x :: .int j :: .ref a :: S) := by
  subst hp hv
  obtain ⟨cl, Ar, e1, e2⟩ := id A
  exact P.wr ha (fun locs X hZ hown eT hx => stD X hx hZ eT Ar (by rw [e1]; exact o_in hj hlt) (g := mkF m pc L (.double x :: .int j :: .ref a :: S)) rfl rfl hd) fun T' h' P' W' => k T' h' P' W' (A.set W' rfl)
theorem o_aastore (P : OPn p l e R s m args below meth c Z a0 EL n0 W0 own T h Ow cells slots) {a : Addr} {ty : FieldType} {vs : List Value} {j : Int32} {v : Value} (A : OArr Z h a ty vs) (ha : a ∈ Ow) (hty : ty.isReference = true) (F : Sto Z h a v) (hfit : fits ty v = true) (hj : ¬ j < 0) (hlt : j.toNatClampNeg < vs.length) (hd : decode c.code pc = .ok (.aastore, 1)) (hp : pc + 1 = pc')
    (k : ∀ T' h', OPn p l e R s m args below meth c Z a0 EL n0 W0 own T' h' Ow cells slots → Wr h h' a j.toNatClampNeg v → OArr Z h' a ty (vs.set j.toNatClampNeg v) → OG p e below m Pq T' pc' L S) : OG p e below m Pq T pc L (v :: .int j :: .ref a :: S) := by
  subst hp
  obtain ⟨cl, Ar, e1, e2⟩ := id A
  exact P.wr ha (fun locs X hZ hown eT hx => stR X hx hZ eT Ar (by rw [e1]; exact o_in hj hlt) hty F (g := mkF m pc L (v :: .int j :: .ref a :: S)) rfl rfl hd) fun T' h' P' W' => k T' h' P' W' (A.set W' hfit)
theorem o_cast (P : OPn p l e R s m args below meth c Z a0 EL n0 W0 own T h Ow cells slots) {K : String} {index : Nat} {a : Addr} (w : (Jvm.Cond.classLink own index K).before a0 Z = true) (F : Ins Z h a K true) (hd : decode c.code pc = .ok (.checkcast index, 3)) (hp : pc + 3 = pc') (k : ∀ T', OPn p l e R s m args below meth c Z a0 EL n0 W0 own T' h Ow cells slots → OG p e below m Pq T' pc' L (.ref a :: S)) : OG p e below m Pq T pc L (.ref a :: S) := by
  subst hp
  exact P.tab (fun locs X hZ hown eT hx => castY X hx hZ hown w eT F (g := mkF m pc L (.ref a :: S)) rfl rfl hd) k
theorem o_instY (P : OPn p l e R s m args below meth c Z a0 EL n0 W0 own T h Ow cells slots) {K : String} {index : Nat} {a : Addr} (w : (Jvm.Cond.classLink own index K).before a0 Z = true) (F : Ins Z h a K true) (hd : decode c.code pc = .ok (.instanceof index, 3)) (hp : pc + 3 = pc') (k : ∀ T', OPn p l e R s m args below meth c Z a0 EL n0 W0 own T' h Ow cells slots → OG p e below m Pq T' pc' L (.int 1 :: S)) : OG p e below m Pq T pc L (.ref a :: S) := by
  subst hp
  exact P.tab (fun locs X hZ hown eT hx => instY X hx hZ hown w eT F (g := mkF m pc L (.ref a :: S)) rfl rfl hd) k
theorem o_instN (P : OPn p l e R s m args below meth c Z a0 EL n0 W0 own T h Ow cells slots) {K C : String} {index : Nat} {a : Addr} (w : (Jvm.Cond.classLink own index K).before a0 Z = true) (E : Exa Z h a C) (F : ∃ c t, Z.vm.findClass C = some c ∧ Z.vm.findClass K = some t ∧ Z.vm.assignable c t = false) (hd : decode c.code pc = .ok (.instanceof index, 3)) (hp : pc + 3 = pc') (k : ∀ T', OPn p l e R s m args below meth c Z a0 EL n0 W0 own T' h Ow cells slots → OG p e below m Pq T' pc' L (.int 0 :: S)) : OG p e below m Pq T pc L (.ref a :: S) := by
  subst hp
  exact P.tab (fun locs X hZ hown eT hx => instNo X hx hZ hown w eT E F (g := mkF m pc L (.ref a :: S)) rfl rfl hd) k
theorem o_castNull (P : OPn p l e R s m args below meth c Z a0 EL n0 W0 own T h Ow cells slots) {index : Nat} (hd : decode c.code pc = .ok (.checkcast index, 3)) (hp : pc + 3 = pc') (k : OG p e below m Pq T pc' L (.null :: S)) : OG p e below m Pq T pc L (.null :: S) := by
  subst hp
  obtain ⟨locs, X, hx, -⟩ := P
  exact OG.st (fun t q => X.checkcastNull hx (g := mkF m pc L (.null :: S)) rfl rfl hd t q) k
theorem o_instNull (P : OPn p l e R s m args below meth c Z a0 EL n0 W0 own T h Ow cells slots) {index : Nat} (hd : decode c.code pc = .ok (.instanceof index, 3)) (hp : pc + 3 = pc') (k : OG p e below m Pq T pc' L (.int 0 :: S)) : OG p e below m Pq T pc L (.null :: S) := by
  subst hp
  obtain ⟨locs, X, hx, -⟩ := P
  exact OG.st (fun t q => X.instanceofNull hx (g := mkF m pc L (.null :: S)) rfl rfl hd t q) k
theorem o_ldcI (P : OPn p l e R s m args below meth c Z a0 EL n0 W0 own T h Ow cells slots) {index : Nat} {v : Int32} (w : (Jvm.Cond.constant own index v).before a0 Z = true) (hd : decode c.code pc = .ok (.ldc index, 2)) (hp : pc + 2 = pc') (k : OG p e below m Pq T pc' L (.int v :: S)) : OG p e below m Pq T pc L S := by
  subst hp
  obtain ⟨locs, X, hx, hlk, hS, hZ, hown, eT, r⟩ := P
  exact OG.st (fun t q => X.ldcInt hx hown (mvT (s := s.setVm T.vm) hZ w) (g := mkF m pc L S) rfl hd t q) k
theorem o_ldc2L (P : OPn p l e R s m args below meth c Z a0 EL n0 W0 own T h Ow cells slots) {index : Nat} {v : Int64} (w : (Jvm.Cond.constantLong own index v).before a0 Z = true) (hd : decode c.code pc = .ok (.ldc2_w index, 3)) (hp : pc + 3 = pc') (k : OG p e below m Pq T pc' L (.long v :: S)) : OG p e below m Pq T pc L S := by
  subst hp
  obtain ⟨locs, X, hx, hlk, hS, hZ, hown, eT, r⟩ := P
  exact OG.st (fun t q => X.ldc2Long hx hown (mvT (s := s.setVm T.vm) hZ w) (g := mkF m pc L S) rfl hd t q) k
/-- what is known of a String of known bytes (Latin-1) -/
def OStr (Z : State) (h : Heap) (a b : Addr) (vs : List Value) : Prop := OObj Z h a "java/lang/String" [("java/lang/String", "value", "[B", .ref b), ("java/lang/String", "coder", "B", .int 0)] ∧ OArr Z h b .byte vs
theorem OStr.keep {a b : Addr} {vs : List Value} {ws : List Addr} (F : OStr Z h a b vs) (K : Keep h h' ws) (q : a ∉ ws) (r : b ∉ ws) : OStr Z h' a b vs := ⟨F.1.keep K q, F.2.keep K r⟩
theorem o_ldcS (P : OPn p l e R s m args below meth c Z a0 EL n0 W0 own T h Ow cells slots) {index : Nat} {text : String} {vs : List Value} {n : Nat} (w : (Jvm.Cond.stringLink own index text).before a0 Z = true) (wS : ∀ a ∈ Bundle.stringAtoms, a.before a0 Z = true) (hmem : (own, index) ∈ EL)
    (lv : Laid Z a0 "java/lang/String" "java/lang/String" "value" "[B") (lc : Laid Z a0 "java/lang/String" "java/lang/String" "coder" "B")
    (ht : (∀ c ∈ text.toList, c.toNat < 256) ∧ text.toList.map (fun c => Value.int (Jvm.Lit.byteI c.toNat.toUInt16)) = vs) (z : Int32) (hz : ¬ z < 0) (hl : z.toNatClampNeg = vs.length) (hd : decode c.code pc = .ok (.ldc index, 2)) (hp : pc + 2 = pc') (hn : 4 * text.toList.length ≤ n) (hbig : n ≤ 536870912) (hc : cells + 2 ≤ R.cells) (hs : slots + (n + 4) ≤ R.slots)
    (k : ∀ T' h' a b, OPn p l e R s m args below meth c Z a0 EL n0 W0 own T' h' Ow (cells + 2) (slots + (n + 4)) → Keep h h' [] → OStr Z h' a b vs → (∀ x ∈ Ow, x ≠ a ∧ x ≠ b) → OG p e below m Pq T' pc' L (.ref a :: S)) : OG p e below m Pq T pc L S := by
  subst hp
  obtain ⟨locs, X, hx, hlk, hS, hZ, hown, eT, N, hEL, C, O, K, W⟩ := P
  obtain ⟨a, T', h', k1, b, kk, X', e', E', hS', hk', hZ', hown', E1, F1, F2, A1, -, -, C', -, hne, st⟩ := ldcCH X hx hZ hown w wS eT hS.1 (Nat.le_refl _) hEL hmem C.1 ht hz hl (g := mkF m pc L S) rfl hd hn hbig hc hs
  have W' : ∀ x ∈ Ow, OOwn Z EL n0 W0 s.heap.size T'.vm h' x := fun x hx => by
    obtain ⟨q1, q2, q3, q4⟩ := W x hx
    exact ⟨q1, Nat.lt_of_lt_of_le q2 E'.1, C'.safe q2 q3, q4⟩
  have hS2 : OSn EL s T'.vm h'.size := ⟨⟨hS'.1, hS'.2.mono hk'⟩, fun e => by rw [e] at hmem; cases hmem⟩
  refine OG.st st (k T' h' a b ⟨locs, X', hx, hlk, hS2, hZ', hown', e', N, hEL, C.trans C', O.ext E', K.ext E', W'⟩ ((Keep.refl h []).ext E') ⟨⟨E1, fun f hf => ?_, fun i j f g hij hi hj => ?_⟩, OArr.ofArv A1 (by rw [hl])⟩ fun x hx => hne x (W' x hx).2.2.1)
  · rcases List.mem_cons.mp hf with rfl | hf
    · exact F2
    · rcases List.mem_cons.mp hf with rfl | hf
      · exact F1
      · cases hf
  · have s1 := slot_ne lv lc (t := .array .byte) (t' := .byte) (by decide) (by decide) (by decide)
    match i, j, hi, hj with
    | 0, 0, _, _ => exact absurd rfl hij
    | 1, 1, _, _ => exact absurd rfl hij
    | 0, 1, hi, hj => cases hi; cases hj; exact s1
    | 1, 0, hi, hj => cases hi; cases hj; exact s1.symm
theorem o_mvMN {Z s : State} {a0 args : Array Value} {own host : String} {y : MethodName} {index : Nat} (hZ : Z.Warmed39 s.vm) (w : (Jvm.Cond.methodLinkNest own index y host).before a0 Z = true) : (Jvm.Cond.methodLinkNest own index y host).before args s = true := (Cond.methodLinkNest_wide hZ w :)
theorem o_mvF {Z s : State} {a0 args : Array Value} {x : MethodName} (hZ : Z.Warmed39 s.vm) (w2 : (Jvm.Cond.declares x).before a0 Z = true) (w : (Jvm.Cond.interfaceMethod x.cls x.cls x.name x.desc).before a0 Z = true) (hy : x.cls ≠ "java/lang/invoke/MethodHandle" ∧ x.cls ≠ "java/lang/invoke/VarHandle") : (Jvm.Cond.interfaceMethod x.cls x.cls x.name x.desc).before args s = true := by
  obtain ⟨r0, r, hn, -⟩ := Cond.declares_spec w2
  have q := Cond.interfaceMethod_setVm (args := a0) (s := Z) (vm' := s.vm) hZ.alike (ref := x.cls) (name := x.name) (desc := x.desc) hn hy
  exact (q.trans w :)
theorem o_callS (P : OPn p l e R s m args below meth c Z a0 EL n0 W0 own T h Ow cells slots) {y : MethodName} {bytes : ByteArray} {maxL : Nat} {ret : Option FieldType} {rm : Room} {as' : Array Value} {Sf : List Addr} {Q : Option Value → Vm → Heap → Prop} {index W : Nat} (w1 : (Jvm.Cond.methodLink own index y).before a0 Z = true) (w2 : (Jvm.Cond.static y).before a0 Z = true) (w3 : (Jvm.Cond.initialized y.cls).before a0 Z = true) (w4 : (Jvm.Cond.code y bytes maxL ret).before a0 Z = true) (hy : y.cls ≠ "java/lang/invoke/MethodHandle" ∧ y.cls ≠ "java/lang/invoke/VarHandle") (hM : OCt l Z a0 EL n0 y bytes maxL ret rm [] as' h Sf Q) (hsf : ∀ x ∈ Sf, x ∈ Ow) (hml : L.size = c.maxLocals) (hf : rm.frames + 1 ≤ R.frames) (hl : W + (maxL + 11) + rm.locals ≤ R.locals) {argsL rest : List Value} (hlen : ∀ sig, parseMethodDescriptor y.desc = some sig → argsL.length = sig.parameters.length) (hst : S = argsL.reverse ++ rest) (has : argsL.toArray = as') (hW : (rest.map fun v => v.category).sum ≤ W) (hd : decode c.code pc = .ok (.invokestatic index, 3)) (hp : pc + 3 = pc') (hc : cells + rm.cells ≤ R.cells) (hs : slots + rm.slots ≤ R.slots)
    (k : ∀ T' h' v, OPn p l e R s m args below meth c Z a0 EL n0 W0 own T' h' Ow (cells + rm.cells) (slots + rm.slots) → Keep h h' Sf → Q v T'.vm h' → OG p e below m Pq T' pc' L (v.toList ++ rest)) : OG p e below m Pq T pc L S := by
  subst hp
  obtain ⟨locs, X, hx, hlk, hS, hZ, hown, eT, N, hEL, C, O, K, W'⟩ := P
  have hb := OCt.back (p := p) (e := e) (below := below) (s := s) (args := args) (T := T) (len := 3) (W := W) (R := R) O hEL (fun x hx => ⟨(W' x (hsf x hx)).1, (W' x (hsf x hx)).2.1, (W' x (hsf x hx)).2.2.1⟩) hM hZ w4 w3 hf hl C.1
  obtain ⟨v, vm₁, B, hW1, X', hSi, hle, hq, st⟩ := callSS X hx (y := y) hown (mvT (s := s.setVm T.vm) hZ w1) (mvT (s := s.setVm T.vm) hZ w2) (mvT (s := s.setVm T.vm) hZ w3) (mvT (s := s.setVm T.vm) hZ w4) hy hb (g := mkF m pc L S) rfl hml (argsL := argsL) (rest := rest) hlen hst (by show 2 * 0 + _ ≤ _; omega) hd (fun _ _ => ⟨has, eT, hc, hs⟩)
  obtain ⟨P', K', q⟩ := OPn.behind (y := y) hx hlk hS hZ hown eT N hEL C O K W' hsf X' hSi hle hq
  exact OG.st (fun t r => st.trans r) (k _ _ v P' K' q)
theorem o_callI (P : OPn p l e R s m args below meth c Z a0 EL n0 W0 own T h Ow cells slots) {y : MethodName} {bytes : ByteArray} {maxL : Nat} {rm : Room} {as' : Array Value} {Sf : List Addr} {Q : Option Value → Vm → Heap → Prop} {index W : Nat} {a : Addr} (hy1 : y.name = "<init>") (w1 : (Jvm.Cond.methodLink own index y).before a0 Z = true) (w2 : (Jvm.Cond.instanceMethod y).before a0 Z = true) (w3 : (Jvm.Cond.initialized y.cls).before a0 Z = true) (w4 : (Jvm.Cond.code y bytes maxL none).before a0 Z = true) (hy : y.cls ≠ "java/lang/invoke/MethodHandle" ∧ y.cls ≠ "java/lang/invoke/VarHandle") (hM : OCt l Z a0 EL n0 y bytes maxL none rm [] as' h Sf Q) (hsf : ∀ x ∈ Sf, x ∈ Ow) (hml : L.size = c.maxLocals) (hf : rm.frames + 1 ≤ R.frames) (hl : W + (maxL + 11) + rm.locals ≤ R.locals) {argsL rest : List Value} (hlen : ∀ sig, parseMethodDescriptor y.desc = some sig → argsL.length = sig.parameters.length) (hst : S = argsL.reverse ++ .ref a :: rest) (has : (.ref a :: argsL).toArray = as') (hW : (rest.map fun v => v.category).sum ≤ W) (hd : decode c.code pc = .ok (.invokespecial index, 3)) (hp : pc + 3 = pc') (hc : cells + rm.cells ≤ R.cells) (hs : slots + rm.slots ≤ R.slots)
    (k : ∀ T' h' v, OPn p l e R s m args below meth c Z a0 EL n0 W0 own T' h' Ow (cells + rm.cells) (slots + rm.slots) → Keep h h' Sf → Q v T'.vm h' → OG p e below m Pq T' pc' L (v.toList ++ rest)) : OG p e below m Pq T pc L S := by
  subst hp
  obtain ⟨locs, X, hx, hlk, hS, hZ, hown, eT, N, hEL, C, O, K, W'⟩ := P
  have hb := OCt.back (p := p) (e := e) (below := below) (s := s) (args := args) (T := T) (len := 3) (W := W) (R := R) O hEL (fun x hx => ⟨(W' x (hsf x hx)).1, (W' x (hsf x hx)).2.1, (W' x (hsf x hx)).2.2.1⟩) hM hZ w4 w3 hf hl C.1
  obtain ⟨v, vm₁, B, hW1, X', hSi, hle, hq, st⟩ := X.specialBackS hx (y := y) hy1 hown (mvT (s := s.setVm T.vm) hZ w1) (mvT (s := s.setVm T.vm) hZ w2) (mvT (s := s.setVm T.vm) hZ w4) hy hb (g := mkF m pc L S) rfl hml (Steps.refl _) (a := a) (argsL := argsL) (rest := rest) hlen hst (by show 2 * 0 + _ ≤ _; omega) hd (fun _ _ => ⟨has, eT, hc, hs⟩)
  obtain ⟨P', K', q⟩ := OPn.behind (y := y) hx hlk hS hZ hown eT N hEL C O K W' hsf X' hSi hle hq
  exact OG.st (fun t r => st.trans r) (k _ _ v P' K' q)
theorem o_callIN (P : OPn p l e R s m args below meth c Z a0 EL n0 W0 own T h Ow cells slots) {y : MethodName} {bytes : ByteArray} {maxL : Nat} {rm : Room} {as' : Array Value} {Sf : List Addr} {Q : Option Value → Vm → Heap → Prop} {index W : Nat} {a : Addr} {host : String} (hy1 : y.name = "<init>") (w1 : (Jvm.Cond.methodLinkNest own index y host).before a0 Z = true) (w2 : (Jvm.Cond.instanceMethod y).before a0 Z = true) (w3 : (Jvm.Cond.initialized y.cls).before a0 Z = true) (w4 : (Jvm.Cond.code y bytes maxL none).before a0 Z = true) (hy : y.cls ≠ "java/lang/invoke/MethodHandle" ∧ y.cls ≠ "java/lang/invoke/VarHandle") (hM : OCt l Z a0 EL n0 y bytes maxL none rm [] as' h Sf Q) (hsf : ∀ x ∈ Sf, x ∈ Ow) (hml : L.size = c.maxLocals) (hf : rm.frames + 1 ≤ R.frames) (hl : W + (maxL + 11) + rm.locals ≤ R.locals) {argsL rest : List Value} (hlen : ∀ sig, parseMethodDescriptor y.desc = some sig → argsL.length = sig.parameters.length) (hst : S = argsL.reverse ++ .ref a :: rest) (has : (.ref a :: argsL).toArray = as') (hW : (rest.map fun v => v.category).sum ≤ W) (hd : decode c.code pc = .ok (.invokespecial index, 3)) (hp : pc + 3 = pc') (hc : cells + rm.cells ≤ R.cells) (hs : slots + rm.slots ≤ R.slots)
    (k : ∀ T' h' v, OPn p l e R s m args below meth c Z a0 EL n0 W0 own T' h' Ow (cells + rm.cells) (slots + rm.slots) → Keep h h' Sf → Q v T'.vm h' → OG p e below m Pq T' pc' L (v.toList ++ rest)) : OG p e below m Pq T pc L S := by
  subst hp
  obtain ⟨locs, X, hx, hlk, hS, hZ, hown, eT, N, hEL, C, O, K, W'⟩ := P
  have hb := OCt.back (p := p) (e := e) (below := below) (s := s) (args := args) (T := T) (len := 3) (W := W) (R := R) O hEL (fun x hx => ⟨(W' x (hsf x hx)).1, (W' x (hsf x hx)).2.1, (W' x (hsf x hx)).2.2.1⟩) hM hZ w4 w3 hf hl C.1
  obtain ⟨v, vm₁, B, hW1, X', hSi, hle, hq, st⟩ := X.specialBackNestS hx (y := y) hy1 hown (o_mvMN (s := s.setVm T.vm) hZ w1) (mvT (s := s.setVm T.vm) hZ w2) (mvT (s := s.setVm T.vm) hZ w4) hy hb (g := mkF m pc L S) rfl hml (Steps.refl _) (a := a) (argsL := argsL) (rest := rest) hlen hst (by show 2 * 0 + _ ≤ _; omega) hd (fun _ _ => ⟨has, eT, hc, hs⟩)
  obtain ⟨P', K', q⟩ := OPn.behind (y := y) hx hlk hS hZ hown eT N hEL C O K W' hsf X' hSi hle hq
  exact OG.st (fun t r => st.trans r) (k _ _ v P' K' q)
theorem o_callV (P : OPn p l e R s m args below meth c Z a0 EL n0 W0 own T h Ow cells slots) {y : MethodName} {bytes : ByteArray} {maxL : Nat} {ret : Option FieldType} {rm : Room} {as' : Array Value} {Sf : List Addr} {Q : Option Value → Vm → Heap → Prop} {index W : Nat} {x : MethodName} {a : Addr} {Cr : String} (w1 : (Jvm.Cond.methodLink own index x).before a0 Z = true) (w2 : (Jvm.Cond.declares x).before a0 Z = true) (nf : ∀ U : State, Z.Warmed39 U.vm → NotFace U x) (w5 : (Jvm.Cond.selects Cr x y).before a0 Z = true) (w6 : (Jvm.Cond.instanceMethod y).before a0 Z = true) (w3 : (Jvm.Cond.initialized y.cls).before a0 Z = true) (w4 : (Jvm.Cond.code y bytes maxL ret).before a0 Z = true) (hy : x.cls ≠ "java/lang/invoke/MethodHandle" ∧ x.cls ≠ "java/lang/invoke/VarHandle") (Er : Exa Z h a Cr) (hM : OCt l Z a0 EL n0 y bytes maxL ret rm [] as' h Sf Q) (hsf : ∀ x ∈ Sf, x ∈ Ow) (hml : L.size = c.maxLocals) (hf : rm.frames + 1 ≤ R.frames) (hl : W + (maxL + 11) + rm.locals ≤ R.locals) {argsL rest : List Value} (hlen : ∀ sig, parseMethodDescriptor x.desc = some sig → argsL.length = sig.parameters.length) (hst : S = argsL.reverse ++ .ref a :: rest) (has : (.ref a :: argsL).toArray = as') (hW : (rest.map fun v => v.category).sum ≤ W) (hd : decode c.code pc = .ok (.invokevirtual index, 3)) (hp : pc + 3 = pc') (hc : cells + rm.cells ≤ R.cells) (hs : slots + rm.slots ≤ R.slots)
    (k : ∀ T' h' v, OPn p l e R s m args below meth c Z a0 EL n0 W0 own T' h' Ow (cells + rm.cells) (slots + rm.slots) → Keep h h' Sf → Q v T'.vm h' → OG p e below m Pq T' pc' L (v.toList ++ rest)) : OG p e below m Pq T pc L S := by
  subst hp
  obtain ⟨locs, X, hx, hlk, hS, hZ, hown, eT, N, hEL, C, O, K, W'⟩ := P
  have hb := OCt.back (p := p) (e := e) (below := below) (s := s) (args := args) (T := T) (len := 3) (W := W) (R := R) O hEL (fun x hx => ⟨(W' x (hsf x hx)).1, (W' x (hsf x hx)).2.1, (W' x (hsf x hx)).2.2.1⟩) hM hZ w4 w3 hf hl C.1
  obtain ⟨cB, kB, q1, q2, q3⟩ := isOf (s := s.setVm T.vm) hZ eT Er
  obtain ⟨v, vm₁, B, hW1, X', hSi, hle, hq, st⟩ := X.virtualBackS hx (y := x) (z := y) hown (mvT (s := s.setVm T.vm) hZ w1) (mvT (s := s.setVm T.vm) hZ w2) (nf (s.setVm T.vm) hZ) (mvT (s := s.setVm T.vm) hZ w5) (mvT (s := s.setVm T.vm) hZ w6) hy hb q1 q3 (g := mkF m pc L S) rfl hml (Steps.refl _) (argsL := argsL) (rest := rest) hlen hst (by show 2 * 0 + _ ≤ _; omega) hd (fun _ _ => ⟨has, eT, hc, hs⟩)
  obtain ⟨P', K', q⟩ := OPn.behind (y := y) hx hlk hS hZ hown eT N hEL C O K W' hsf X' hSi hle hq
  exact OG.st (fun t r => st.trans r) (k _ _ v P' K' q)
theorem o_callF (P : OPn p l e R s m args below meth c Z a0 EL n0 W0 own T h Ow cells slots) {y : MethodName} {bytes : ByteArray} {maxL : Nat} {ret : Option FieldType} {rm : Room} {as' : Array Value} {Sf : List Addr} {Q : Option Value → Vm → Heap → Prop} {index W : Nat} {x : MethodName} {a : Addr} {Cr : String} {count : Nat} (w1 : (Jvm.Cond.methodLink own index x).before a0 Z = true) (w2 : (Jvm.Cond.declares x).before a0 Z = true) (w7 : (Jvm.Cond.interfaceMethod x.cls x.cls x.name x.desc).before a0 Z = true) (w5 : (Jvm.Cond.selects Cr x y).before a0 Z = true) (w6 : (Jvm.Cond.instanceMethod y).before a0 Z = true) (w8 : (Jvm.Cond.publicMethod y).before a0 Z = true) (w9 : (Jvm.Cond.unhidden Cr x.name x.desc).before a0 Z = true) (w10 : (Jvm.Cond.castable Cr x.cls).before a0 Z = true) (w3 : (Jvm.Cond.initialized y.cls).before a0 Z = true) (w4 : (Jvm.Cond.code y bytes maxL ret).before a0 Z = true) (hy : x.cls ≠ "java/lang/invoke/MethodHandle" ∧ x.cls ≠ "java/lang/invoke/VarHandle") (Er : Exa Z h a Cr) (hM : OCt l Z a0 EL n0 y bytes maxL ret rm [] as' h Sf Q) (hsf : ∀ x ∈ Sf, x ∈ Ow) (hml : L.size = c.maxLocals) (hf : rm.frames + 1 ≤ R.frames) (hl : W + (maxL + 11) + rm.locals ≤ R.locals) {argsL rest : List Value} (hlen : ∀ sig, parseMethodDescriptor x.desc = some sig → argsL.length = sig.parameters.length) (hst : S = argsL.reverse ++ .ref a :: rest) (has : (.ref a :: argsL).toArray = as') (hW : (rest.map fun v => v.category).sum ≤ W) (hd : decode c.code pc = .ok (.invokeinterface index count, 5)) (hp : pc + 5 = pc') (hc : cells + rm.cells ≤ R.cells) (hs : slots + rm.slots ≤ R.slots)
    (k : ∀ T' h' v, OPn p l e R s m args below meth c Z a0 EL n0 W0 own T' h' Ow (cells + rm.cells) (slots + rm.slots) → Keep h h' Sf → Q v T'.vm h' → OG p e below m Pq T' pc' L (v.toList ++ rest)) : OG p e below m Pq T pc L S := by
  subst hp
  obtain ⟨locs, X, hx, hlk, hS, hZ, hown, eT, N, hEL, C, O, K, W'⟩ := P
  have hb := OCt.back (p := p) (e := e) (below := below) (s := s) (args := args) (T := T) (len := 5) (W := W) (R := R) O hEL (fun x hx => ⟨(W' x (hsf x hx)).1, (W' x (hsf x hx)).2.1, (W' x (hsf x hx)).2.2.1⟩) hM hZ w4 w3 hf hl C.1
  obtain ⟨cB, kB, q1, q2, q3⟩ := isOf (s := s.setVm T.vm) hZ eT Er
  obtain ⟨v, vm₁, B, hW1, X', hSi, hle, hq, st⟩ := X.interfaceBackS hx (xi := x) (y := y) hown (mvT (s := s.setVm T.vm) hZ w1) (mvT (s := s.setVm T.vm) hZ w2) (o_mvF (s := s.setVm T.vm) hZ w2 w7 hy) (mvT (s := s.setVm T.vm) hZ w5) (mvT (s := s.setVm T.vm) hZ w6) (mvT (s := s.setVm T.vm) hZ w8) (mvT (s := s.setVm T.vm) hZ w9) (mvT (s := s.setVm T.vm) hZ w10) hy hb q1 q2 q3 (g := mkF m pc L S) rfl hml (Steps.refl _) (argsL := argsL) (rest := rest) hlen hst (by show 2 * 0 + _ ≤ _; omega) hd (fun _ _ => ⟨has, eT, hc, hs⟩)
  obtain ⟨P', K', q⟩ := OPn.behind (y := y) hx hlk hS hZ hown eT N hEL C O K W' hsf X' hSi hle hq
  exact OG.st (fun t r => st.trans r) (k _ _ v P' K' q)
theorem o_initO (P : OPn p l e R s m args below meth c Z a0 EL n0 W0 own T h Ow cells slots) {index W : Nat} {a : Addr} (w1 : (Jvm.Cond.methodLink own index Lib.objectInit).before a0 Z = true) (w2 : (Jvm.Cond.instanceMethod Lib.objectInit).before a0 Z = true) (w3 : (Jvm.Cond.code Lib.objectInit ⟨#[0xb1]⟩ 1 none).before a0 Z = true) (hml : L.size = c.maxLocals) (hf : 1 ≤ R.frames) (hW : (S.map fun v => v.category).sum ≤ W) (hl : W + 12 ≤ R.locals) (hd : decode c.code pc = .ok (.invokespecial index, 3)) (hp : pc + 3 = pc') (k : ∀ T', OPn p l e R s m args below meth c Z a0 EL n0 W0 own T' h Ow cells slots → OG p e below m Pq T' pc' L S) : OG p e below m Pq T pc L (.ref a :: S) := by
  subst hp
  exact P.tab (fun locs X hZ hown eT hx => initO X hx hZ hown w1 w2 w3 eT (g := mkF m pc L (.ref a :: S)) rfl hml rfl hd hf (by show 2 * 0 + _ ≤ _; omega) hl) k
theorem o_nfSel {x y : MethodName} {Cr : String} (hxy : x.cls = y.cls) (w : (Jvm.Cond.selects Cr x x).before a0 Z = true) : ∀ U : State, Z.Warmed39 U.vm → NotFace U x := fun U hU => notFace_of_selects (args := #[]) (mvT (s := U) hU w)
theorem o_nfSup {x : MethodName} {K : String} (w : (Jvm.Cond.superclass x.cls K).before a0 Z = true) : ∀ U : State, Z.Warmed39 U.vm → NotFace U x := fun U hU => nf_super (args := #[]) (mvT (s := U) hU w)
theorem o_nfTop {x : MethodName} (w : (Jvm.Cond.noSuperclass x.cls).before a0 Z = true) : ∀ U : State, Z.Warmed39 U.vm → NotFace U x := fun U hU => nf_top (args := #[]) (mvT (s := U) hU w)
theorem o_sf0 : ∀ x ∈ ([] : List Addr), x ∈ Ow := fun _ q => nomatch q
theorem o_sfS {x : Addr} {Sf : List Addr} (h1 : x ∈ Ow) (h2 : ∀ y ∈ Sf, y ∈ Ow) : ∀ y ∈ x :: Sf, y ∈ Ow := fun y q => (List.mem_cons.mp q).elim (fun e => e ▸ h1) (h2 y)
end OwnLayer
theorem o_catR (a : Addr) : (Value.ref a).category = 1 := rfl
theorem o_catN : Value.null.category = 1 := rfl
theorem o_catI (x : Int32) : (Value.int x).category = 1 := rfl
theorem o_catJ (x : Int64) : (Value.long x).category = 2 := rfl
theorem o_catD (x : UInt64) : (Value.double x).category = 2 := rfl
/-! numbers as indices; bytes of chars -/
theorem oi_nat {i : Nat} (h : i < 2147483648) : i.toInt32.toNatClampNeg = i := Int32.toNatClampNeg_ofNat_of_lt h
theorem oi_int {i : Nat} (h : i < 2147483648) : i.toInt32.toInt = i := Int32.toInt_ofNat_of_lt h
theorem oi_nn {i : Nat} (h : i < 2147483648) : ¬ i.toInt32 < 0 := by
  rw [Int32.lt_iff_toInt_lt, oi_int h]; have : (0 : Int32).toInt = 0 := rfl; omega
theorem oi_succ (i : Nat) : i.toInt32 + (1 : Int32) = (i + 1).toInt32 := (Int32.ofNat_add i 1).symm
theorem oi_lt {i j : Nat} (hi : i < 2147483648) (hj : j < 2147483648) : i.toInt32 < j.toInt32 ↔ i < j := by
  rw [Int32.lt_iff_toInt_lt, oi_int hi, oi_int hj]; omega
theorem oi_eq {i j : Nat} (hi : i < 2147483648) (hj : j < 2147483648) : i.toInt32 = j.toInt32 ↔ i = j := by
  constructor
  · intro h
    have := congrArg Int32.toInt h
    rw [oi_int hi, oi_int hj] at this; omega
  · rintro rfl; rfl
abbrev och (cs : List Int32) : List Value := cs.map fun c => .int c
abbrev obyte (c : Int32) : Int32 := c.toInt8.toInt32
/-- Latin-1 chars -/
def OLat (cs : List Int32) : Prop := ∀ c ∈ cs, ¬ c < 0 ∧ ¬ (255 : Int32) < c
theorem OLat.nil : OLat [] := fun _ q => nomatch q
theorem OLat.cons {c : Int32} {cs : List Int32} (h : ¬ c < 0 ∧ ¬ (255 : Int32) < c) (r : OLat cs) : OLat (c :: cs) := fun x hx => (List.mem_cons.mp hx).elim (fun e => e ▸ h) (r x)
theorem obyte_inj {c d : Int32} (hc : ¬ c < 0 ∧ ¬ (255 : Int32) < c) (hd : ¬ d < 0 ∧ ¬ (255 : Int32) < d) (h : obyte c = obyte d) : c = d := by
  have e := congrArg Int32.toInt h
  have q1 := c_i2b c; have q2 := c_i2b d
  obtain ⟨c1, c2⟩ := hc; obtain ⟨d1, d2⟩ := hd
  rw [Int32.lt_iff_toInt_lt] at c1 c2 d1 d2
  have z0 : (0 : Int32).toInt = 0 := rfl
  have z1 : (255 : Int32).toInt = 255 := rfl
  rw [z0] at c1 d1; rw [z1] at c2 d2
  apply Int32.toInt_inj.mp
  show c.toInt = d.toInt
  have e' : c.toInt8.toInt32.toInt = d.toInt8.toInt32.toInt := e
  omega
theorem obytes_inj : ∀ {cs ds : List Int32}, OLat cs → OLat ds → cs.map obyte = ds.map obyte → cs = ds
  | [], [], _, _, _ => rfl
  | [], _ :: _, _, _, h => by cases h
  | _ :: _, [], _, _, h => by cases h
  | c :: cs, d :: ds, hc, hd, h => by
    simp only [List.map_cons, List.cons.injEq] at h
    rw [obyte_inj (hc c (by simp)) (hd d (by simp)) h.1, obytes_inj (fun x hx => hc x (by simp [hx])) (fun x hx => hd x (by simp [hx])) h.2]
theorem och_get {cs : List Int32} {i : Nat} {c : Int32} (h : cs[i]? = some c) : (och cs)[i]? = some (.int c) := by simp [h]
theorem och_inj {us ws : List Int32} (h : och us = och ws) : us = ws := by
  have : us.map (fun c => Value.int c) = ws.map fun c => Value.int c := h
  exact (List.map_inj_right (fun a b e => Value.int.inj e)).mp this
theorem o_nar_char {c : Int32} (h : ¬ c < 0 ∧ ¬ (65535 : Int32) < c) : nar .char c = c := by
  obtain ⟨q1, q2, q3⟩ := c_i2c c
  obtain ⟨c1, c2⟩ := h
  rw [Int32.lt_iff_toInt_lt] at c1 c2
  have z0 : (0 : Int32).toInt = 0 := rfl
  have z1 : (65535 : Int32).toInt = 65535 := rfl
  rw [z0] at c1; rw [z1] at c2
  apply Int32.toInt_inj.mp
  show c.toUInt32.toUInt16.toUInt32.toInt32.toInt = c.toInt
  omega
/-- a mask of eight bits, as a char -/
theorem o_mask8 (y : Int32) : ¬ (y &&& (255 : Int32)).toUInt32.toUInt16.toUInt32.toInt32 < 0 ∧ ¬ (255 : Int32) < (y &&& (255 : Int32)).toUInt32.toUInt16.toUInt32.toInt32 := by
  obtain ⟨q1, q2, q3⟩ := c_i2c (y &&& (255 : Int32))
  have q4 := c_and y 255 (by decide)
  have z0 : (0 : Int32).toInt = 0 := rfl
  have z1 : (255 : Int32).toInt = 255 := rfl
  rw [z1] at q4
  rw [Int32.lt_iff_toInt_lt, Int32.lt_iff_toInt_lt, z0, z1]
  omega
theorem o_c16 {c : Int32} (h : ¬ c < 0 ∧ ¬ (255 : Int32) < c) : ¬ c < 0 ∧ ¬ (65535 : Int32) < c := by
  obtain ⟨h1, h2⟩ := h
  refine ⟨h1, fun q => h2 ?_⟩
  rw [Int32.lt_iff_toInt_lt] at q ⊢
  have z1 : (65535 : Int32).toInt = 65535 := rfl
  have z2 : (255 : Int32).toInt = 255 := rfl
  omega
theorem OObj.uniq {Z : State} {h : Heap} {a : Addr} {C O nm d : String} {fs gs : List (String × String × String × Value)} {v w : Value} (F : OObj Z h a C fs) (G : OObj Z h a C gs) (i j : Nat) (hi : fs[i]? = some (O, nm, d, v)) (hj : gs[j]? = some (O, nm, d, w)) : v = w := Classical.byContradiction fun q => (F.fld i hi).ne (G.fld j hj) q rfl
theorem OArr.uniq {Z : State} {h : Heap} {a : Addr} {ty : FieldType} {vs ws : List Value} (F : OArr Z h a ty vs) (G : OArr Z h a ty ws) : vs = ws := by
  obtain ⟨c, A, e, -⟩ := F
  have q := G.size A.1
  rw [e] at q
  simpa using q
theorem OStr.uniq {Z : State} {h : Heap} {a b b' : Addr} {us ws : List Int32} (F : OStr Z h a b (och us)) (G : OStr Z h a b' (och ws)) : us = ws := by
  have e := Value.ref.inj (F.1.uniq G.1 0 0 rfl rfl)
  subst e
  exact och_inj (F.2.uniq G.2)
theorem OObj.neArr {Z : State} {h : Heap} {a b : Addr} {C : String} {a0 : Array Value} {fs : List (String × String × String × Value)} {ty : FieldType} {vs : List Value} {k : Nat} (F : OObj Z h a C fs) (wi : (Jvm.Cond.instantiable C k).before a0 Z = true) (G : OArr Z h b ty vs) : a ≠ b := by
  obtain ⟨c, A, -⟩ := G
  exact ne_arr F.1 wi A
theorem OObj.neObj {Z : State} {h : Heap} {a b : Addr} {C C' : String} {fs gs : List (String × String × String × Value)} (F : OObj Z h a C fs) (G : OObj Z h b C' gs) (hn : C ≠ C') : a ≠ b := ne_exa F.1 G.1 hn
/-- a String reference that may be null -/
def OSv (Z : State) (h : Heap) (v : Value) (o : Option (List Int32)) : Prop := (v = .null ∧ o = none) ∨ ∃ (a b : Addr) (us : List Int32), v = .ref a ∧ o = some us ∧ OStr Z h a b (och us)
theorem OSv.isRef {Z : State} {h : Heap} {v : Value} {o : Option (List Int32)} (F : OSv Z h v o) : v.isRef = true := by
  rcases F with ⟨rfl, -⟩ | ⟨a, b, us, rfl, -⟩ <;> rfl
theorem OSv.cat {Z : State} {h : Heap} {v : Value} {o : Option (List Int32)} (F : OSv Z h v o) : v.category = 1 := by
  rcases F with ⟨rfl, -⟩ | ⟨a, b, us, rfl, -⟩ <;> rfl
theorem OSv.keep0 {Z : State} {h h' : Heap} {v : Value} {o : Option (List Int32)} (F : OSv Z h v o) (K : Keep h h' []) : OSv Z h' v o := by
  rcases F with F | ⟨a, b, us, e1, e2, F⟩
  · exact Or.inl F
  · exact Or.inr ⟨a, b, us, e1, e2, F.keep K nin0 nin0⟩
theorem OSv.keep1 {Z : State} {h h' : Heap} {v : Value} {o : Option (List Int32)} {c : Addr} {C : String} {a0 : Array Value} {fs : List (String × String × String × Value)} {k : Nat} (F : OSv Z h v o) (G : OObj Z h c C fs) (wi : (Jvm.Cond.instantiable C k).before a0 Z = true) (hC : C ≠ "java/lang/String") (K : Keep h h' [c]) : OSv Z h' v o := by
  rcases F with F | ⟨a, b, us, e1, e2, F⟩
  · exact Or.inl F
  · exact Or.inr ⟨a, b, us, e1, e2, F.keep K (ninS (Ne.symm (G.neObj F.1 hC)) nin0) (ninS (Ne.symm (G.neArr wi F.2)) nin0)⟩
theorem o_fitsRef {v : Value} {C : String} (h : v.isRef = true) : fits (.object C) v = true := by cases v <;> first | rfl | cases h
theorem o_store {l : Array Slot} {i : Nat} {v : Value} {o : Slot} {l' : Array Slot} (hold : l[i]? = some o) (ho : One o) (hv : v.category = 1) (e : l.setIfInBounds i (.val v) = l') : storeLocals l i v = some l' := e ▸ XS.store1 hold ho hv
/-- C is no K: C's superclass is the root; K is a class of objects -/
theorem o_ns1 {Z : State} {a0 : Array Value} {O C K : String} {n : Nat} (w0 : (Jvm.Cond.noSuperclass O).before a0 Z = true) (w : (Jvm.Cond.superclass C O).before a0 Z = true) (wi : (Jvm.Cond.instantiable K n).before a0 Z = true) (h1 : O ≠ K) (h2 : C ≠ K) : ∃ c t, Z.vm.findClass C = some c ∧ Z.vm.findClass K = some t ∧ Z.vm.assignable c t = false := by
  obtain ⟨c0, k0, a1, a2, a3, -, -⟩ := Cond.noSuperclass_spec w0
  obtain ⟨t, kt, g1, g2, g3, g4, -, -⟩ := Cond.instantiable_spec wi
  obtain ⟨c, b0⟩ := found_sup w
  obtain ⟨p, k, kp, b1, b2, b3, b4, b5, -, b7⟩ := Cond.superclass_spec b0 w
  cases b1.symm.trans a1
  have ne0 := ids_ne a1 g1 h1
  have ne1 := ids_ne b0 g1 h2
  have gI : kt.isInterface = false := by
    cases q : kt.isInterface
    · rfl
    · rw [q] at g4; cases g4
  have sub0 : ∀ fuel, Z.vm.isSubclassAux fuel c0 t = false := fun fuel => by
    cases fuel with
    | zero => rfl
    | succ f => simp [Vm.isSubclassAux, ne0, a2, a3]
  have sub : ∀ fuel, Z.vm.isSubclassAux fuel c t = false := fun fuel => by
    cases fuel with
    | zero => rfl
    | succ f => simp [Vm.isSubclassAux, ne1, b2, b4, sub0]
  refine ⟨c, t, b0, g1, ?_⟩
  show Z.vm.assignableAux (255 + 1) c t = false
  simp [Vm.assignableAux, ne1, b2, g2, b5, g3, gI, Vm.isSubclass, sub]
theorem o_nar_byte (c : Int32) : nar .byte (obyte c) = obyte c := by simp [nar, obyte]
theorem OObj.one {Z : State} {h : Heap} {a : Addr} {C O nm d : String} {v : Value} (E : Exa Z h a C) (F : Fld Z h a O nm d v) : OObj Z h a C [(O, nm, d, v)] := by
  refine ⟨E, fun f hf => ?_, fun i j f g hij hi hj => ?_⟩
  · rw [List.mem_singleton.mp hf]; exact F
  · have h1 := (List.getElem?_eq_some_iff.mp hi).1
    have h2 := (List.getElem?_eq_some_iff.mp hj).1
    simp at h1 h2; omega
theorem OObj.zero {Z : State} {h : Heap} {a : Addr} {C : String} (E : Exa Z h a C) : OObj Z h a C [] := ⟨E, fun f hf => (nomatch hf), fun i j f g hij hi hj => by simp at hi⟩
theorem OObj.ext {Z : State} {h h' : Heap} {a : Addr} {C : String} {fs : List (String × String × String × Value)} (F : OObj Z h a C fs) (E : Ext h h') : OObj Z h' a C fs := ⟨F.1.ext E, fun f hf => (F.2.1 f hf).ext E, F.2.2⟩
/-! from the case's words to facts at the start -/
section OStart
variable {Z : State} {args : Array Value} {t F : Term} {a : Addr} {cl : Cell} {ty : FieldType} {n : Int32} {vs : List Value}
theorem o_len (et : t.eval args Z none [] Z = some (.ref a)) (A : Arr Z Z.heap a cl ty) (h : (Jvm.Cond.eq (.length t) (.int n)).value args Z none Z [] = some true) : cl.slots.size < 2 ^ 31 ∧ cl.slots.size.toInt32 = n := by
  have e := eqv_i (Term.int_eval n) h
  have ha := A.fin (Vm.Alike.refl _)
  by_cases q : cl.slots.size < 2 ^ 31
  · rw [len_f et ha q] at e
    exact ⟨q, Value.int.inj (Option.some.inj e)⟩
  · simp [Term.eval, et, ha] at e
    omega
theorem o_fnull {C nm d : String} (et : t.eval args Z none [] Z = some (.ref a)) (h : (Jvm.Cond.eq (.field t C nm d) .null).value args Z none Z [] = some true) : Fld Z Z.heap a C nm d .null := Fld.start ((fld_at et).symm.trans (null_v h))
theorem o_eqr {X : Term} {y : Addr} (hF : F.eval args Z none [] Z = some (.ref y)) (h : (Jvm.Cond.eq X F).value args Z none Z [] = some true) : X.eval args Z none [] Z = some (.ref y) := by
  obtain ⟨x, y', e1, e2, k1, k2⟩ := cmp_v (Or.inl h)
  cases hF.symm.trans e2
  simp only [Cond.value, e1, hF] at h
  cases x <;> simp_all
theorem o_fexa {C nm d : String} {b : Addr} (et : t.eval args Z none [] Z = some (.ref a)) (eb : (Term.field t C nm d).eval args Z none [] Z = some (.ref b)) : Fld Z Z.heap a C nm d (.ref b) := Fld.start ((fld_at et).symm.trans eb)
theorem o_fint {C nm d : String} (et : t.eval args Z none [] Z = some (.ref a)) (h : (Jvm.Cond.eq (.field t C nm d) (.int n)).value args Z none Z [] = some true) : Fld Z Z.heap a C nm d (.int n) := Fld.start ((fld_at et).symm.trans (eqv_i (Term.int_eval n) h))
theorem o_flong {C nm d : String} {x : Int64} (et : t.eval args Z none [] Z = some (.ref a)) (h : (Jvm.Cond.eq (.field t C nm d) (.long x)).value args Z none Z [] = some true) : Fld Z Z.heap a C nm d (.long x) := Fld.start ((fld_at et).symm.trans (eqv_l (long_at x) h))
theorem o_slot {j : Int32} {v : Value} (et : t.eval args Z none [] Z = some (.ref a)) (A : Arr Z Z.heap a cl ty) (hj : ¬ j < 0) (e : (Term.elem t (.int j)).eval args Z none [] Z = some v) : cl.slots[j.toNatClampNeg]? = some v := (elem_f et (Term.int_eval j) (A.fin (Vm.Alike.refl _)) hj).symm.trans e
theorem OArr.start (hf : Fit Z) (A : Arr Z Z.heap a cl ty) (hl : cl.slots.size < 2 ^ 31 ∧ cl.slots.size.toInt32 = n) (hz : ¬ n < 0) (hn : n.toNatClampNeg = vs.length) (H : HasL cl 0 vs) : OArr Z Z.heap a ty vs := OArr.ofArv (dv := .null) (Arv.start hf A hl.1 hl.2 hz hn H) hn.symm
theorem OArr.ext {h h' : Heap} (F : OArr Z h a ty vs) (E : Ext h h') : OArr Z h' a ty vs := by obtain ⟨c, A, r⟩ := F; exact ⟨c, A.ext E, r⟩
theorem OObj.two {h : Heap} {C O nm d O' nm' d' : String} {a0 : Array Value} {v w : Value} {ty ty' : FieldType} (E : Exa Z h a C) (F : Fld Z h a O nm d v) (G : Fld Z h a O' nm' d' w) (L : Laid Z a0 C O nm d) (L' : Laid Z a0 C O' nm' d') (hn : nm ≠ nm') (ht : parseFieldDescriptor d = some ty) (ht' : parseFieldDescriptor d' = some ty') : OObj Z h a C [(O, nm, d, v), (O', nm', d', w)] := by
  have s1 := slot_ne L L' hn ht ht'
  refine ⟨E, fun f hf => ?_, fun i j f g hij hi hj => ?_⟩
  · rcases List.mem_cons.mp hf with rfl | hf
    · exact F
    · rw [List.mem_singleton.mp hf]; exact G
  · match i, j, hi, hj with
    | 0, 0, _, _ => exact absurd rfl hij
    | 1, 1, _, _ => exact absurd rfl hij
    | 0, 1, hi, hj => cases hi; cases hj; exact s1
    | 1, 0, hi, hj => cases hi; cases hj; exact s1.symm
end OStart
section OClone
variable {p : Program} {l : Launch} {e : Env} {R : Room} {s : State} {m : MethodId} {args : Array Value} {below : List Frame} {meth : Method} {c : Code} {T T' : State} {cells slots : Nat} {Z : State} {a0 : Array Value} {EL : List (String × Nat)} {n0 : Nat} {W0 : List Addr} {own : String} {h h' : Heap} {Ow : List Addr} {Pq : Outcome → State → Prop} {pc pc' : Nat} {L : Array Slot} {S : List Value}
theorem o_clone (P : OPn p l e R s m args below meth c Z a0 EL n0 W0 own T h Ow cells slots) {ad : String} {index cap W : Nat} {a : Addr} {ty : FieldType} {vs : List Value} (w1 : (Jvm.Cond.methodLink own index ⟨ad, "clone", "()Ljava/lang/Object;"⟩).before a0 Z = true) (w2 : (Jvm.Cond.sameMethod ad "java/lang/Object" "clone" "()Ljava/lang/Object;").before a0 Z = true) (w3 : (Jvm.Cond.native ⟨"java/lang/Object", "clone", "()Ljava/lang/Object;"⟩).before a0 Z = true) (w4 : (Jvm.Cond.instanceMethod ⟨"java/lang/Object", "clone", "()Ljava/lang/Object;"⟩).before a0 Z = true) (w5 : (Jvm.Cond.selects ad ⟨ad, "clone", "()Ljava/lang/Object;"⟩ ⟨"java/lang/Object", "clone", "()Ljava/lang/Object;"⟩).before a0 Z = true) (w6 : (Jvm.Cond.castable ad "java/lang/Cloneable").before a0 Z = true)
    (A : OArr Z h a ty vs) (E : Exa Z h a ad) (hml : L.size = c.maxLocals) (hd : decode c.code pc = .ok (.invokevirtual index, 3)) (hp : pc + 3 = pc') (hf : 1 ≤ R.frames) (hW : (S.map fun v => v.category).sum ≤ W) (hl : W + 14 ≤ R.locals) (hcap : vs.length ≤ cap) (hc : cells + 1 ≤ R.cells) (hs : slots + cap ≤ R.slots)
    (k : ∀ T' h' b, OPn p l e R s m args below meth c Z a0 EL n0 W0 own T' h' (b :: Ow) (cells + 1) (slots + cap) → Keep h h' [] → h.size ≤ b → OArr Z h' b ty vs → Exa Z h' b ad → OG p e below m Pq T' pc' L (.ref b :: S)) : OG p e below m Pq T pc L (.ref a :: S) := by
  subst hp
  obtain ⟨cl, Ar, e1, e2, e3⟩ := A
  have FC : FitC Z cl := fitC_of Ar fun i hi v hv => e3 v (by rw [e1] at hv; exact List.mem_of_getElem? (by simpa using hv))
  refine P.grow (G := fun h' b => OArr Z h' b ty vs ∧ Exa Z h' b ad) (fun locs X hZ hown eT hx => ?_) fun T' h' b P' K hb q => k T' h' b P' K hb q.1 q.2
  obtain ⟨T', h', X', e', E', A', B', st⟩ := cloneA X hx hZ hown w1 w2 w3 w4 w5 w6 eT Ar E FC (g := mkF m pc L (.ref a :: S)) rfl hml rfl hd hf (by show 2 * 0 + _ ≤ _; omega) hl (by rw [e1]; simpa using hcap) hc hs
  exact ⟨T', h', X', e', E', A'.lt, ⟨⟨_, A', e1, e2, e3⟩, B'⟩, st⟩
end OClone
section OwnLayer7
variable {p : Program} {l : Launch} {e : Env} {R : Room} {s : State} {m : MethodId} {args : Array Value} {below : List Frame} {meth : Method} {c : Code} {T T' : State} {cells slots cells' slots' : Nat} {Z : State} {a0 : Array Value} {EL : List (String × Nat)} {n0 : Nat} {W0 : List Addr} {own : String} {h h' : Heap} {Ow Ow' : List Addr} {Pq : Outcome → State → Prop} {pc pc' : Nat} {L L' : Array Slot} {S S' : List Value}
theorem o_pop2L (P : OPn p l e R s m args below meth c Z a0 EL n0 W0 own T h Ow cells slots) {x : Int64} (hd : decode c.code pc = .ok (.pop2, 1)) (hp : pc + 1 = pc') (k : OG p e below m Pq T pc' L S) : OG p e below m Pq T pc L (.long x :: S) := by
  subst hp
  have hx := P.ex; have X := P.here
  refine OG.st (fun t q => ?_) k
  have hm : (mkF m pc L (.long x :: S)).method = m := rfl
  have hd' : decode c.code (mkF m pc L (.long x :: S)).pc = .ok (.pop2, 1) := hd
  have X' : At T (mkF m pc L (.long x :: S)).method c below := X
  have e1 : (mkF m pc L (.long x :: S)).stack = .long x :: S := rfl
  have hc : (Value.long x).category = 2 := rfl
  jvm_step X' [hx, hd', Op.pop2.wp_sem, e1, hc]
  exact q
theorem o_tsIn (P : OPn p l e R s m args below meth c Z a0 EL n0 W0 own T h Ow cells slots) {k0 : Int32} {df low high : Int} {offs : Array Int} {len : Nat} (hd : decode c.code pc = .ok (.tableswitch df low high offs, len)) (hin : ¬ (k0.toInt < low ∨ k0.toInt > high)) {off : Int} (ho : offs[(k0.toInt - low).toNat]? = some off) (h0 : 0 ≤ (pc : Int) + off) (hp : ((pc : Int) + off).toNat = pc') (k : OG p e below m Pq T pc' L S) : OG p e below m Pq T pc L (.int k0 :: S) := by
  subst hp
  obtain ⟨locs, X, hx, -⟩ := P
  exact OG.st (fun t q => X.tableswitchIn hx (g := mkF m pc L (.int k0 :: S)) rfl rfl hd hin ho h0 t q) k
theorem o_tsOut (P : OPn p l e R s m args below meth c Z a0 EL n0 W0 own T h Ow cells slots) {k0 : Int32} {df low high : Int} {offs : Array Int} {len : Nat} (hd : decode c.code pc = .ok (.tableswitch df low high offs, len)) (hin : k0.toInt < low ∨ k0.toInt > high) (h0 : 0 ≤ (pc : Int) + df) (hp : ((pc : Int) + df).toNat = pc') (k : OG p e below m Pq T pc' L S) : OG p e below m Pq T pc L (.int k0 :: S) := by
  subst hp
  obtain ⟨locs, X, hx, -⟩ := P
  exact OG.st (fun t q => X.tableswitchOut hx (g := mkF m pc L (.int k0 :: S)) rfl rfl hd hin h0 t q) k
/-- C's Class object is made, and it is a -/
def OMir (Z : State) (C : String) (a : Addr) : Prop := ∃ (cC : ClassId) (kC : Class), Z.vm.findClass C = some cC ∧ Z.vm.classes[cC]? = some kC ∧ kC.mirror = some a
theorem OMir.eval {C : String} {a : Addr} {U : State} {as' : Array Value} (H : OMir Z C a) (hZ : Z.Warmed39 U.vm) : (Term.mirror C).eval as' U none [] U = some (.ref a) := by
  obtain ⟨cC, kC, h1, h2, h3⟩ := H
  obtain ⟨k', g1, g2⟩ := hZ.alike.2.2 _ _ h2
  have g3 : k'.mirror = some a := by first | (rw [g2]; exact h3) | (rw [g2.1]; exact h3) | (have := congrArg Class.mirror g2; simpa [h3] using this)
  have g4 : U.vm.findClass C = some cC := (hZ.alike.findClass C _).trans h1
  simp [Term.eval, g4, g1, g3]
theorem o_ldcMir (P : OPn p l e R s m args below meth c Z a0 EL n0 W0 own T h Ow cells slots) {C : String} {index : Nat} {a : Addr} (H : OMir Z C a) (w : (Jvm.Cond.classLink own index C).before a0 Z = true) (hd : decode c.code pc = .ok (.ldc index, 2)) (hp : pc + 2 = pc') (k : ∀ T', OPn p l e R s m args below meth c Z a0 EL n0 W0 own T' h Ow cells slots → OG p e below m Pq T' pc' L (.ref a :: S)) : OG p e below m Pq T pc L S := by
  subst hp
  refine P.tab (fun locs X hZ hown eT hx => ?_) k
  obtain ⟨vm', X', st⟩ := X.ldcMirror hx hown (mvT hZ w) (H.eval hZ) (g := mkF m pc L S) rfl hd
  exact ⟨_, X', eT, st⟩
theorem o_getCls (P : OPn p l e R s m args below meth c Z a0 EL n0 W0 own T h Ow cells slots) {C : String} {index W : Nat} {a b : Addr} (H : OMir Z C a) (E : Exa Z h b C) (w1 : (Jvm.Cond.methodLink own index Jvm.Stand.gcN).before a0 Z = true) (w2 : (Jvm.Cond.declares Jvm.Stand.gcN).before a0 Z = true) (hnf : ∀ U : State, Z.Warmed39 U.vm → NotFace U Jvm.Stand.gcN) (w3 : (Jvm.Cond.selects C Jvm.Stand.gcN Jvm.Stand.gcN).before a0 Z = true) (w4 : (Jvm.Cond.instanceMethod Jvm.Stand.gcN).before a0 Z = true) (w5 : (Jvm.Cond.native Jvm.Stand.gcN).before a0 Z = true) (hml : L.size = c.maxLocals) (hf : 1 ≤ R.frames) (hW : (S.map fun v => v.category).sum ≤ W) (hl : W + 14 ≤ R.locals) (hd : decode c.code pc = .ok (.invokevirtual index, 3)) (hp : pc + 3 = pc') (k : ∀ T', OPn p l e R s m args below meth c Z a0 EL n0 W0 own T' h Ow cells slots → OG p e below m Pq T' pc' L (.ref a :: S)) : OG p e below m Pq T pc L (.ref b :: S) := by
  subst hp
  refine P.tab (fun locs X hZ hown eT hx => ?_) k
  obtain ⟨cC, kC, h1, h2, h3⟩ := id H
  obtain ⟨cell, k0, e1, e2, e3, e4, -⟩ := E
  cases h1.symm.trans e2
  obtain ⟨k', g1, g2⟩ := hZ.alike.2.2 _ _ h2
  have g3 : k'.mirror = some a := by first | (rw [g2]; exact h3) | (rw [g2.1]; exact h3) | (have := congrArg Class.mirror g2; simpa [h3] using this)
  obtain ⟨vm', X', st⟩ := X.getClassOf hx hown (mvT hZ w1) (mvT hZ w2) (hnf _ hZ) (mvT hZ w3) (mvT hZ w4) (mvT hZ w5) ((hZ.alike.findClass C _).trans h1) (b := b) ⟨cell, by rw [eT]; exact e1, rfl, e4⟩ g1 g3 (g := mkF m pc L (.ref b :: S)) rfl hml (rest := S) rfl hd hf (by show 2 * 0 + _ + (nativeFrameWords "java/lang/Object" "getClass" 1 + 11) ≤ _; rw [show nativeFrameWords "java/lang/Object" "getClass" 1 = 3 from by decide]; omega)
  exact ⟨_, X', eT, st⟩
/-- an array of the class N (of C's objects) that takes every C -/
def OAr (Z : State) (h : Heap) (a : Addr) (C N : String) : Prop := Exa Z h a N ∧ ∃ cell : Cell, h[a]? = some cell ∧ Ovr Z cell.cls C
theorem o_anewarrE (P : OPn p l e R s m args below meth c Z a0 EL n0 W0 own T h Ow cells slots) {C N : String} {index : Nat} {n : Int32} {cap : Nat} (w1 : (Jvm.Cond.classLink own index C).before a0 Z = true) (w2 : (Jvm.Cond.arrayOver (.object C)).before a0 Z = true) (hN : "[" ++ (FieldType.object C).toString = N) (hd : decode c.code pc = .ok (.anewarray index, 3)) (hn : ¬ n < 0) (hcap : n.toNatClampNeg ≤ cap) (hb : cap * 8 ≤ 536870912) (hp : pc + 3 = pc') (hc : cells + 1 ≤ R.cells) (hl : slots + cap ≤ R.slots)
    (k : ∀ T' h' b, OPn p l e R s m args below meth c Z a0 EL n0 W0 own T' h' (b :: Ow) (cells + 1) (slots + cap) → Keep h h' [] → h.size ≤ b → OArr Z h' b (.object C) (List.replicate n.toNatClampNeg .null) → OAr Z h' b C N → OG p e below m Pq T' pc' L (.ref b :: S)) : OG p e below m Pq T pc L (.int n :: S) := by
  subst hp
  refine P.grow (G := fun h' b => OArr Z h' b (.object C) (List.replicate n.toNatClampNeg .null) ∧ OAr Z h' b C N) (fun locs X hZ hown eT hx => ?_) fun T' h' b P' K hb' q => k T' h' b P' K hb' q.1 q.2
  have w2' : (Jvm.Cond.arrayOver (.object C)).before args (s.setVm T.vm) = true := Cond.arrayOver_alike hZ.alike w2
  obtain ⟨vm₁, cA, kA, comp, -, h1, h2, h3, h4, X', st⟩ := X.anewarrayRefK hx hown (mv hZ w1) w2' (g := mkF m pc L (.int n :: S)) rfl hd rfl hn (by omega) hc (by omega)
  subst eT
  rw [hZ.alike.findClass] at h1
  obtain ⟨kZ, z1, -⟩ := Vm.findClass_spec h1
  obtain ⟨k', z2, z3⟩ := hZ.alike.2.2 _ _ z1
  cases h2.symm.trans z2
  have hk : kZ.kind = .array comp (.object C) := by rw [← h3, z3]
  have at' : (T.heap.push { cls := cA, slots := Array.replicate n.toNatClampNeg .null, vm := .none })[T.heap.size]? = some { cls := cA, slots := Array.replicate n.toNatClampNeg .null, vm := .none } := by simp
  refine ⟨_, _, X'.more (Nat.le_refl _) (by omega), rfl, ext_of fun a q => Array.getElem?_push_lt q |>.trans (Array.getElem?_eq_getElem q).symm, by show T.heap.size < (T.heap.push _).size; simp, ⟨⟨_, ⟨at', ⟨by simp, kZ, z1, comp, hk⟩, by simp⟩, by simp, by simpa using (back32 hn).2, fun v hv => ?_⟩, ⟨_, kZ, at', hN ▸ h1, z1, rfl, fun q => by rw [hk] at q; cases q⟩, _, at', kZ, comp, z1, hk, by rw [← hZ.alike.findClass]; exact h4⟩, st⟩
  rw [List.eq_of_mem_replicate hv]; rfl
theorem OAr.sto {a y : Addr} {C N : String} {ty : FieldType} {vs : List Value} (A : OArr Z h a ty vs) (O : OAr Z h a C N) (I : Ins Z h y C true) : Sto Z h a (.ref y) := by
  obtain ⟨cl, Ar, -⟩ := A
  obtain ⟨-, cell, h1, h2⟩ := O
  cases h1.symm.trans Ar.1
  exact Sto.of Ar h2 I
theorem OAr.keep {a : Addr} {C N : String} {ws : List Addr} (O : OAr Z h a C N) (K : Keep h h' ws) : OAr Z h' a C N := by
  obtain ⟨E, cell, h1, h2⟩ := O
  obtain ⟨c2, g1, g2, -⟩ := K.2.2 _ _ h1
  exact ⟨E.keep K, c2, g1, by rw [g2]; exact h2⟩
theorem OAr.wr {a b : Addr} {C N : String} {sl : Nat} {v : Value} (O : OAr Z h a C N) (W : Wr h h' b sl v) : OAr Z h' a C N := by
  obtain ⟨E, cell, h1, h2⟩ := O
  refine ⟨Exa.wr W E, ?_⟩
  obtain ⟨c2, g1, g2, -⟩ := (Keep.of_wr W).2.2 _ _ h1
  exact ⟨c2, g1, by rw [g2]; exact h2⟩
/-- a step that rewrites one own array -/
theorem OPn.wrA (P : OPn p l e R s m args below meth c Z a0 EL n0 W0 own T h Ow cells slots) {b : Addr} {G : Heap → Prop} (hb : b ∈ Ow) (f : ∀ locs, Stand p l e R (s.setVm T.vm) m args below meth c T locs cells slots → Z.Warmed39 (s.setVm T.vm).vm → (s.setVm T.vm).vm.findClass own = some m.cls → T.heap = h → p.tables.exec = Jvm.exec → Fr n0 locs → Old Z n0 h → n0 ≤ b → ∃ T' h' L2, Stand p l e R (s.setVm T.vm) m args below meth c T' L2 cells slots ∧ T'.heap = h' ∧ Fr n0 L2 ∧ Keep h h' [b] ∧ G h' ∧ ∀ target, Steps p.tables e below (T'.setTop (mkF m pc' L' S')) target → Steps p.tables e below (T.setTop (mkF m pc L S)) target)
    (k : ∀ T' h', OPn p l e R s m args below meth c Z a0 EL n0 W0 own T' h' Ow cells slots → Keep h h' [b] → G h' → OG p e below m Pq T' pc' L' S') : OG p e below m Pq T pc L S := by
  obtain ⟨locs, X, hx, hlk, hS, hZ, hown, eT, N, hEL, C, O, K, W⟩ := P
  obtain ⟨q1, q2, q3, q4⟩ := W b hb
  obtain ⟨T', h', L2, X', e', N', Kb, g, st⟩ := f locs X hZ hown eT hx N O q1
  have hs : ∀ x ∈ [b], Safe Z EL T.vm h x := fun x hx => by rw [List.mem_singleton.mp hx]; exact q3
  refine OG.st st (k T' h' (OPn.fin hx hlk hS hZ hown hEL X' e' Kb.1 N' (C.trans (CHr.keep Kb hs C.1)) (O.keep Kb fun x hx => by rw [List.mem_singleton.mp hx]; exact q1) (K.trans Kb fun x hx => by rw [List.mem_singleton.mp hx]; exact q4) fun x hx => ?_) Kb g)
  obtain ⟨r1, r2, r3, r4⟩ := W x hx
  exact ⟨r1, Nat.lt_of_lt_of_le r2 Kb.1, Safe.keep Kb hs C.1 r3, r4⟩
theorem o_lenI {n : Nat} (q : n < 2147483648) : ¬ (n.toInt32 < 0) ∧ n.toInt32.toNatClampNeg = n := by
  have e1 : n.toInt32.toInt = n := len_toInt (by simpa using q)
  refine ⟨?_, by simp only [Int32.toNatClampNeg, e1]; rfl⟩
  rw [Int32.lt_iff_toInt_lt, e1]; show ¬ (n : Int) < 0; omega
/-- System.arraycopy into an own array -/
theorem o_cpA (P : OPn p l e R s m args below meth c Z a0 EL n0 W0 own T h Ow cells slots) {index W : Nat} {a b : Addr} {ty ty' : FieldType} {vs vd us : List Value} {sp dp nn : Int32} (w1 : (Jvm.Cond.methodLink own index Jvm.Stand.acN).before a0 Z = true) (w2 : (Jvm.Cond.native Jvm.Stand.acN).before a0 Z = true) (w3 : (Jvm.Cond.static Jvm.Stand.acN).before a0 Z = true) (w4 : (Jvm.Cond.initialized "java/lang/System").before a0 Z = true) (A : OArr Z h a ty vs) (B : OArr Z h b ty' vd) (hb : b ∈ Ow) (hty : (ty = ty' ∧ refKind ty = false) ∨ (refKind ty = true ∧ refKind ty' = true ∧ StoL Z h b us)) (h1 : ¬ sp < 0) (h2 : ¬ dp < 0) (h3 : ¬ nn < 0) (h4 : sp.toNatClampNeg + nn.toNatClampNeg ≤ vs.length) (h5 : dp.toNatClampNeg + nn.toNatClampNeg ≤ vd.length) (hus : us = (vs.drop sp.toNatClampNeg).take nn.toNatClampNeg)
    (hml : L.size = c.maxLocals) (hf : 1 ≤ R.frames) (hW : (S.map fun v => v.category).sum ≤ W) (hl : W + (nativeFrameWords "java/lang/System" "arraycopy" 5 + 11) ≤ R.locals) (hd : decode c.code pc = .ok (.invokestatic index, 3)) (hp : pc + 3 = pc')
    (k : ∀ T' h', OPn p l e R s m args below meth c Z a0 EL n0 W0 own T' h' Ow cells slots → Keep h h' [b] → OArr Z h' b ty' (vd.take dp.toNatClampNeg ++ us ++ vd.drop (dp.toNatClampNeg + nn.toNatClampNeg)) → OG p e below m Pq T' pc' L S) : OG p e below m Pq T pc L (.int nn :: .int dp :: .ref b :: .int sp :: .ref a :: S) := by
  subst hp
  have la := A.len; have lb := B.len
  have za : ¬ (vs.length.toInt32 < 0) ∧ vs.length.toInt32.toNatClampNeg = vs.length := o_lenI la
  have zb : ¬ (vd.length.toInt32 < 0) ∧ vd.length.toInt32.toNatClampNeg = vd.length := o_lenI lb
  obtain ⟨ka, A'⟩ := A.toArv (dv := .null) za.1 za.2
  obtain ⟨kb, B'⟩ := B.toArv (dv := .null) zb.1 zb.2
  have hus' : us = (List.range nn.toNatClampNeg).map fun i => vs.getD (sp.toNatClampNeg + i) .null := by
    rw [hus]; apply List.ext_getElem?; intro i
    by_cases q : i < nn.toNatClampNeg
    · have q2 : sp.toNatClampNeg + i < vs.length := by omega
      simp [List.getElem?_take_of_lt q, List.getElem?_drop, q, List.getD_eq_getElem?_getD, List.getElem?_eq_getElem q2]
    · rw [List.getElem?_eq_none (by simp; omega), List.getElem?_eq_none (by simp; omega)]
  refine P.wrA hb (fun locs X hZ hown eT hx N O ge => ?_) fun T' h' P' K B2 => k T' h' P' K B2
  obtain ⟨T', h', L2, X', e', N', K', B2, st⟩ := cpA X hx hZ hown w1 w2 w3 w4 eT A' B' hty h1 h2 h3 (by rw [za.2]; exact h4) (by rw [zb.2]; exact h5) hus' h5 N ge (g := mkF m pc L (.int nn :: .int dp :: .ref b :: .int sp :: .ref a :: S)) rfl hml rfl hd hf (by show 2 * 0 + _ ≤ _; omega) hl
  refine ⟨T', h', L2, X', e', N', K', OArr.ofArv B2 ?_, st⟩
  rw [zb.2, hus]; simp; omega
/-- an array that a callee has made is owned -/
theorem OPn.moreA (P : OPn p l e R s m args below meth c Z a0 EL n0 W0 own T h Ow cells slots) {x : Addr} {ty : FieldType} {vs : List Value} (A : OArr Z h x ty vs) (ht : ty ≠ .byte) (h1 : n0 ≤ x) (h2 : s.heap.size ≤ x) : OPn p l e R s m args below meth c Z a0 EL n0 W0 own T h (x :: Ow) cells slots := by
  have lt := A.lt
  obtain ⟨cl, Ar, -⟩ := A
  exact P.more ⟨h1, lt, Safe.arr P.warm.alike Ar ht⟩ h2
theorem OPn.moreO (P : OPn p l e R s m args below meth c Z a0 EL n0 W0 own T h Ow cells slots) {x : Addr} {C : String} (E : Exa Z h x C) (g1 : C ≠ "java/lang/String") (g2 : C ≠ "[B") (h1 : n0 ≤ x) (h2 : s.heap.size ≤ x) : OPn p l e R s m args below meth c Z a0 EL n0 W0 own T h (x :: Ow) cells slots :=
  P.more ⟨h1, E.lt, Safe.exa P.warm.alike E g1 g2⟩ h2
theorem o_callP (P : OPn p l e R s m args below meth c Z a0 EL n0 W0 own T h Ow cells slots) {y : MethodName} {bytes : ByteArray} {maxL : Nat} {ret : Option FieldType} {rm : Room} {as' : Array Value} {Sf : List Addr} {Q : Option Value → Vm → Heap → Prop} {index W : Nat} {a : Addr} {Cr : String} (w1 : (Jvm.Cond.methodLink own index y).before a0 Z = true) (w6 : (Jvm.Cond.instanceMethod y).before a0 Z = true) (w5 : (Jvm.Cond.selects y.cls y y).before a0 Z = true) (w7 : (Jvm.Cond.privateMethod y).before a0 Z = true) (w3 : (Jvm.Cond.initialized y.cls).before a0 Z = true) (w4 : (Jvm.Cond.code y bytes maxL ret).before a0 Z = true) (hy : y.cls ≠ "java/lang/invoke/MethodHandle" ∧ y.cls ≠ "java/lang/invoke/VarHandle") (Er : Exa Z h a Cr) (hM : OCt l Z a0 EL n0 y bytes maxL ret rm [] as' h Sf Q) (hsf : ∀ x ∈ Sf, x ∈ Ow) (hml : L.size = c.maxLocals) (hf : rm.frames + 1 ≤ R.frames) (hl : W + (maxL + 11) + rm.locals ≤ R.locals) {argsL rest : List Value} (hlen : ∀ sig, parseMethodDescriptor y.desc = some sig → argsL.length = sig.parameters.length) (hst : S = argsL.reverse ++ .ref a :: rest) (has : (.ref a :: argsL).toArray = as') (hW : (rest.map fun v => v.category).sum ≤ W) (hd : decode c.code pc = .ok (.invokevirtual index, 3)) (hp : pc + 3 = pc') (hc : cells + rm.cells ≤ R.cells) (hs : slots + rm.slots ≤ R.slots)
    (k : ∀ T' h' v, OPn p l e R s m args below meth c Z a0 EL n0 W0 own T' h' Ow (cells + rm.cells) (slots + rm.slots) → Keep h h' Sf → Q v T'.vm h' → OG p e below m Pq T' pc' L (v.toList ++ rest)) : OG p e below m Pq T pc L S := by
  subst hp
  obtain ⟨locs, X, hx, hlk, hS, hZ, hown, eT, N, hEL, C, O, K, W'⟩ := P
  have hb := OCt.back (p := p) (e := e) (below := below) (s := s) (args := args) (T := T) (len := 3) (W := W) (R := R) O hEL (fun x hx => ⟨(W' x (hsf x hx)).1, (W' x (hsf x hx)).2.1, (W' x (hsf x hx)).2.2.1⟩) hM hZ w4 w3 hf hl C.1
  obtain ⟨cl, kc, e1, e2, e3, e4, -⟩ := Er
  obtain ⟨v, vm₁, B, hW1, X', hSi, hle, hq, st⟩ := X.privateBackS hx (y := y) hown (mvT (s := s.setVm T.vm) hZ w1) (mvT (s := s.setVm T.vm) hZ w6) (mvT (s := s.setVm T.vm) hZ w5) (Cond.privateMethod_at (mvP (args := args) (s := s.setVm T.vm) hZ w7)) (mvT (s := s.setVm T.vm) hZ w4) hy hb (g := mkF m pc L S) rfl hml (Steps.refl _) (a := a) (cell := cl) (by rw [eT]; exact e1) (fun q r => by rw [r] at e4; cases e4) (argsL := argsL) (rest := rest) hlen hst (by show 2 * 0 + _ ≤ _; omega) hd (fun _ _ => ⟨has, eT, hc, hs⟩)
  obtain ⟨P', K', q⟩ := OPn.behind (y := y) hx hlk hS hZ hown eT N hEL C O K W' hsf X' hSi hle hq
  exact OG.st (fun t r => st.trans r) (k _ _ v P' K' q)
end OwnLayer7
theorem o_ns3 {Z : State} {a0 : Array Value} {O C1 C2 C K : String} {n : Nat} (w0 : (Jvm.Cond.noSuperclass O).before a0 Z = true) (w1 : (Jvm.Cond.superclass C1 O).before a0 Z = true) (w2 : (Jvm.Cond.superclass C2 C1).before a0 Z = true) (w : (Jvm.Cond.superclass C C2).before a0 Z = true) (wi : (Jvm.Cond.instantiable K n).before a0 Z = true) (h1 : O ≠ K) (h2 : C1 ≠ K) (h3 : C2 ≠ K) (h4 : C ≠ K) : ∃ c t, Z.vm.findClass C = some c ∧ Z.vm.findClass K = some t ∧ Z.vm.assignable c t = false := by
  obtain ⟨c0, k0, a1, a2, a3, -, -⟩ := Cond.noSuperclass_spec w0
  obtain ⟨t, kt, g1, g2, g3, g4, -, -⟩ := Cond.instantiable_spec wi
  obtain ⟨d1, u0⟩ := found_sup w1
  obtain ⟨d2, v0⟩ := found_sup w2
  obtain ⟨c, b0⟩ := found_sup w
  obtain ⟨p1, k1, kp1, u1, u2, u3, u4, u5, -, u7⟩ := Cond.superclass_spec u0 w1
  obtain ⟨p2, k2, kp2, v1, v2, v3, v4, v5, -, v7⟩ := Cond.superclass_spec v0 w2
  obtain ⟨p, k, kp, b1, b2, b3, b4, b5, -, b7⟩ := Cond.superclass_spec b0 w
  cases u1.symm.trans a1
  cases v1.symm.trans u0
  cases b1.symm.trans v0
  have ne0 := ids_ne a1 g1 h1
  have ne1 := ids_ne u0 g1 h2
  have ne2 := ids_ne v0 g1 h3
  have ne3 := ids_ne b0 g1 h4
  have gI : kt.isInterface = false := by
    cases q : kt.isInterface
    · rfl
    · rw [q] at g4; cases g4
  have sub0 : ∀ fuel, Z.vm.isSubclassAux fuel c0 t = false := fun fuel => by
    cases fuel with
    | zero => rfl
    | succ f => simp [Vm.isSubclassAux, ne0, a2, a3]
  have sub1 : ∀ fuel, Z.vm.isSubclassAux fuel d1 t = false := fun fuel => by
    cases fuel with
    | zero => rfl
    | succ f => simp [Vm.isSubclassAux, ne1, u2, u4, sub0]
  have sub2 : ∀ fuel, Z.vm.isSubclassAux fuel d2 t = false := fun fuel => by
    cases fuel with
    | zero => rfl
    | succ f => simp [Vm.isSubclassAux, ne2, v2, v4, sub1]
  have sub : ∀ fuel, Z.vm.isSubclassAux fuel c t = false := fun fuel => by
    cases fuel with
    | zero => rfl
    | succ f => simp [Vm.isSubclassAux, ne3, b2, b4, sub2]
  refine ⟨c, t, b0, g1, ?_⟩
  show Z.vm.assignableAux (255 + 1) c t = false
  simp [Vm.assignableAux, ne3, b2, g2, b5, g3, gI, Vm.isSubclass, sub]
theorem ow {Z : State} {a0 : Array Value} {d : Jvm.Cond} (hw : ∀ d ∈ tables_1, d.before a0 Z = true) (k : Nat) (h : tables_1[k]? = some d) : d.before a0 Z = true := hw d (List.mem_of_getElem? h)
theorem pd_0 : parseMethodDescriptor "()J" = some ⟨[], some .long⟩ := by decide +kernel
theorem pd_1 : parseMethodDescriptor "(J)Z" = some ⟨[.long], some .boolean⟩ := by decide +kernel
theorem pd_2 : parseMethodDescriptor "()Ljava/time/temporal/ValueRange;" = some ⟨[], some (.object "java/time/temporal/ValueRange")⟩ := by decide +kernel
theorem pd_3 : parseMethodDescriptor "(JLjava/time/temporal/TemporalField;)J" = some ⟨[.long, (.object "java/time/temporal/TemporalField")], some .long⟩ := by decide +kernel
theorem pd_4 : parseMethodDescriptor "(J)J" = some ⟨[.long], some .long⟩ := by decide +kernel
theorem pd_5 : parseMethodDescriptor "(II)V" = some ⟨[.int, .int], none⟩ := by decide +kernel
theorem pd_6 : parseMethodDescriptor "(II)Ljava/time/YearMonth;" = some ⟨[.int, .int], some (.object "java/time/YearMonth")⟩ := by decide +kernel
theorem pd_7 : parseMethodDescriptor "()V" = some ⟨[], none⟩ := by decide +kernel
theorem pd_8 : parseMethodDescriptor "(II)I" = some ⟨[.int, .int], some .int⟩ := by decide +kernel
theorem pd_9 : parseMethodDescriptor "(I)[Ljava/lang/Object;" = some ⟨[.int], some (.array (.object "java/lang/Object"))⟩ := by decide +kernel
theorem pd_10 : parseMethodDescriptor "()[Ljava/lang/Object;" = some ⟨[], some (.array (.object "java/lang/Object"))⟩ := by decide +kernel
theorem pd_11 : parseMethodDescriptor "(Ljava/lang/Object;[Ljava/lang/Object;I)V" = some ⟨[(.object "java/lang/Object"), (.array (.object "java/lang/Object")), .int], none⟩ := by decide +kernel
theorem pd_12 : parseMethodDescriptor "(Ljava/lang/Object;)Ljava/lang/Object;" = some ⟨[(.object "java/lang/Object")], some (.object "java/lang/Object")⟩ := by decide +kernel
theorem pd_13 : parseMethodDescriptor "([Ljava/lang/Object;ILjava/lang/Class;)[Ljava/lang/Object;" = some ⟨[(.array (.object "java/lang/Object")), .int, (.object "java/lang/Class")], some (.array (.object "java/lang/Object"))⟩ := by decide +kernel
theorem pd_14 : parseMethodDescriptor "([Ljava/lang/Object;I)[Ljava/lang/Object;" = some ⟨[(.array (.object "java/lang/Object")), .int], some (.array (.object "java/lang/Object"))⟩ := by decide +kernel
theorem pd_15 : parseMethodDescriptor "(Ljava/lang/Object;)V" = some ⟨[(.object "java/lang/Object")], none⟩ := by decide +kernel
theorem pd_16 : parseMethodDescriptor "()Z" = some ⟨[], some .boolean⟩ := by decide +kernel
theorem pd_17 : parseMethodDescriptor "([Ljava/lang/Object;)Ljava/util/List;" = some ⟨[(.array (.object "java/lang/Object"))], some (.object "java/util/List")⟩ := by decide +kernel
theorem pd_18 : parseMethodDescriptor "(Ljava/util/Collection;)Ljava/util/List;" = some ⟨[(.object "java/util/Collection")], some (.object "java/util/List")⟩ := by decide +kernel
theorem pd_19 : parseMethodDescriptor "(Ljava/lang/Object;Ljava/lang/Object;)V" = some ⟨[(.object "java/lang/Object"), (.object "java/lang/Object")], none⟩ := by decide +kernel
theorem pd_20 : parseMethodDescriptor "([Ljava/lang/Object;Z)V" = some ⟨[(.array (.object "java/lang/Object")), .boolean], none⟩ := by decide +kernel
theorem pd_21 : parseMethodDescriptor "()I" = some ⟨[], some .int⟩ := by decide +kernel
theorem pd_22 : parseMethodDescriptor "(I)Ljava/lang/Object;" = some ⟨[.int], some (.object "java/lang/Object")⟩ := by decide +kernel
theorem pd_23 : parseMethodDescriptor "()Ljava/time/YearMonth;" = some ⟨[], some (.object "java/time/YearMonth")⟩ := by decide +kernel
theorem pd_24 : parseMethodDescriptor "(I)Ljava/time/YearMonth;" = some ⟨[.int], some (.object "java/time/YearMonth")⟩ := by decide +kernel
theorem pd_25 : parseMethodDescriptor "(Ljava/time/YearMonth;Ljava/math/BigDecimal;Ljava/math/BigDecimal;)V" = some ⟨[(.object "java/time/YearMonth"), (.object "java/math/BigDecimal"), (.object "java/math/BigDecimal")], none⟩ := by decide +kernel
theorem pd_26 : parseMethodDescriptor "(Ljava/lang/Object;)Z" = some ⟨[(.object "java/lang/Object")], some .boolean⟩ := by decide +kernel
theorem pd_27 : parseMethodDescriptor "(Ljava/util/List;)V" = some ⟨[(.object "java/util/List")], none⟩ := by decide +kernel
theorem own_and (i : Int32) : 0 ≤ (i &&& (2147483647 : Int32)).toInt := by
  rw [← Int32.toInt_toBitVec, Int32.toBitVec_and]
  have : (i.toBitVec &&& (2147483647 : Int32).toBitVec).msb = false := by
    rw [BitVec.msb_and]; simp; intro; decide
  rw [BitVec.toInt_eq_toNat_of_msb this]; omega
theorem own_and3 (i : Int32) : 0 ≤ (i &&& (3 : Int32)).toInt ∧ (i &&& (3 : Int32)).toInt ≤ 3 := by
  rw [← Int32.toInt_toBitVec, Int32.toBitVec_and]
  have h1 : (i.toBitVec &&& (3 : Int32).toBitVec).msb = false := by
    rw [BitVec.msb_and]; simp; intro; decide
  have h2 : (i.toBitVec &&& (3 : Int32).toBitVec).toNat ≤ 3 := by
    rw [BitVec.toNat_and]; exact Nat.and_le_right
  rw [BitVec.toInt_eq_toNat_of_msb h1]; omega
theorem own_no {Z : State} {a0 : Array Value} (hw : ∀ d ∈ tables_1, d.before a0 Z = true) (K : String) (hK : K = "java/util/ImmutableCollections$List12" ∨ K = "java/util/ImmutableCollections$ListN") : ∃ c t, Z.vm.findClass "java/util/ArrayList" = some c ∧ Z.vm.findClass K = some t ∧ Z.vm.assignable c t = false := by
  rcases hK with rfl | rfl
  · exact o_ns3 (ow hw 155 rfl) (ow hw 154 rfl) (ow hw 153 rfl) (ow hw 152 rfl) (ow hw 263 rfl) (by decide) (by decide) (by decide) (by decide)
  · exact o_ns3 (ow hw 155 rfl) (ow hw 154 rfl) (ow hw 153 rfl) (ow hw 152 rfl) (ow hw 207 rfl) (by decide) (by decide) (by decide) (by decide)
theorem pn_LW : plainName "com/example/pledgebook/pledgebook/model/LedgerLastMonthPinLaw" = true := by first | (simp [plainName, overriddenIn]; done) | decide +kernel
theorem own_q (q k : Int32) (h0 : 0 ≤ q.toInt) (h1 : q.toInt ≤ 11999999) (hk : 0 ≤ k.toInt ∧ k.toInt ≤ 3) : 0 ≤ (q + k).toInt ∧ (q + k).toInt ≤ 12000002 := by
  have e := c_iadd q k; have r := rng32 (q + k); omega
theorem own_rem (i : Int32) : 0 ≤ ((i &&& (2147483647 : Int32)) % (12000000 : Int32)).toInt ∧ ((i &&& (2147483647 : Int32)) % (12000000 : Int32)).toInt ≤ 11999999 := by
  have z : (12000000 : Int32).toInt = 12000000 := rfl
  have e2 : ((i &&& (2147483647 : Int32)) % (12000000 : Int32)).toInt = (i &&& (2147483647 : Int32)).toInt.tmod 12000000 := by rw [Int32.toInt_mod, z]
  have h0 : 0 ≤ (i &&& (2147483647 : Int32)).toInt := own_and i
  rw [Int.tmod_eq_emod_of_nonneg h0] at e2
  omega
theorem own_cnt (i : Int32) : ((i &&& (3 : Int32)) + (1 : Int32)) = 1 ∨ ((i &&& (3 : Int32)) + (1 : Int32)) = 2 ∨ ((i &&& (3 : Int32)) + (1 : Int32)) = 3 ∨ ((i &&& (3 : Int32)) + (1 : Int32)) = 4 := by
  have q := own_and3 i
  have e := c_iadd (i &&& (3 : Int32)) 1
  have r := rng32 ((i &&& (3 : Int32)) + (1 : Int32))
  have z1 : (1 : Int32).toInt = 1 := rfl
  have z2 : (2 : Int32).toInt = 2 := rfl
  have z3 : (3 : Int32).toInt = 3 := rfl
  have z4 : (4 : Int32).toInt = 4 := rfl
  simp only [← Int32.toInt_inj]
  omega
theorem dt1_0 : decode jdk_2423_method_6_code 0 = .ok (.aload_n 0, 1) := by decide +kernel
theorem dt1_1 : decode jdk_2423_method_6_code 1 = .ok (.getfield 33, 3) := by decide +kernel
theorem dt1_4 : decode jdk_2423_method_6_code 4 = .ok (.lreturn, 1) := by decide +kernel
theorem ef_1 (x0 : Addr) (m : MethodId) : entryFrame m #[(.ref x0)] 1 = mkF m 0 #[.val (.ref x0)] [] := by first | (simp [entryFrame, mkF, argsToLocals, o_catR, o_catN, o_catI, o_catJ, o_catD]; done) | rfl
theorem pn_0 : plainName "java/time/temporal/ValueRange" = true := by first | (simp [plainName, overriddenIn]; done) | decide +kernel
set_option maxRecDepth 65536 in
set_option maxHeartbeats 40000000 in
theorem ct_gmin (l : Launch) (Z : State) (a0 : Array Value) (hw : ∀ d ∈ tables_1, d.before a0 Z = true) (EL : List (String × Nat)) (n0 : Nat) (v : Addr) (mn mx : Int64) (h0 : Heap) (F_v : OObj Z h0 v "java/time/temporal/ValueRange" [("java/time/temporal/ValueRange", "minSmallest", "J", (.long mn)), ("java/time/temporal/ValueRange", "maxLargest", "J", (.long mx))]) :
    OCt l Z a0 EL n0 (⟨"java/time/temporal/ValueRange", "getMinimum", "()J"⟩ : MethodName) jdk_2423_method_6_code 1 (some .long) ({ frames := 0, cells := 0, slots := 0, locals := 0 } : Room) [] #[(.ref v)] h0 [] (fun w vm h => w = some (.long mn) ∧ h = h0) := by
  refine OCt.body (plainFor_of_name pn_0) (ef_1 v) ?_
  intro p e s m below meth c T hby hml hret hnm hsh P
  refine o_aloadN P (hb hby dt1_0) rfl rfl (pc' := 1) rfl ?_
  refine o_getF P (ow hw 40 rfl) Via.refl (F_v.fld 0 rfl) (hb hby dt1_1) (pc' := 4) rfl ?_
  clear P; intro T P
  exact o_retL P hret (hb hby dt1_4) (by decide) (by decide) ⟨rfl, rfl⟩
theorem dt2_0 : decode jdk_2423_method_9_code 0 = .ok (.aload_n 0, 1) := by decide +kernel
theorem dt2_1 : decode jdk_2423_method_9_code 1 = .ok (.getfield 43, 3) := by decide +kernel
theorem dt2_4 : decode jdk_2423_method_9_code 4 = .ok (.lreturn, 1) := by decide +kernel
theorem ef_2 (x0 : Addr) (m : MethodId) : entryFrame m #[(.ref x0)] 1 = mkF m 0 #[.val (.ref x0)] [] := by first | (simp [entryFrame, mkF, argsToLocals, o_catR, o_catN, o_catI, o_catJ, o_catD]; done) | rfl
set_option maxRecDepth 65536 in
set_option maxHeartbeats 40000000 in
theorem ct_gmax (l : Launch) (Z : State) (a0 : Array Value) (hw : ∀ d ∈ tables_1, d.before a0 Z = true) (EL : List (String × Nat)) (n0 : Nat) (v : Addr) (mn mx : Int64) (h0 : Heap) (F_v : OObj Z h0 v "java/time/temporal/ValueRange" [("java/time/temporal/ValueRange", "minSmallest", "J", (.long mn)), ("java/time/temporal/ValueRange", "maxLargest", "J", (.long mx))]) :
    OCt l Z a0 EL n0 (⟨"java/time/temporal/ValueRange", "getMaximum", "()J"⟩ : MethodName) jdk_2423_method_9_code 1 (some .long) ({ frames := 0, cells := 0, slots := 0, locals := 0 } : Room) [] #[(.ref v)] h0 [] (fun w vm h => w = some (.long mx) ∧ h = h0) := by
  refine OCt.body (plainFor_of_name pn_0) (ef_2 v) ?_
  intro p e s m below meth c T hby hml hret hnm hsh P
  refine o_aloadN P (hb hby dt2_0) rfl rfl (pc' := 1) rfl ?_
  refine o_getF P (ow hw 47 rfl) Via.refl (F_v.fld 1 rfl) (hb hby dt2_1) (pc' := 4) rfl ?_
  clear P; intro T P
  exact o_retL P hret (hb hby dt2_4) (by decide) (by decide) ⟨rfl, rfl⟩
theorem dt3_0 : decode jdk_2423_method_11_code 0 = .ok (.lload_n 1, 1) := by decide +kernel
theorem dt3_1 : decode jdk_2423_method_11_code 1 = .ok (.aload_n 0, 1) := by decide +kernel
theorem dt3_2 : decode jdk_2423_method_11_code 2 = .ok (.invokevirtual 46, 3) := by decide +kernel
theorem dt3_5 : decode jdk_2423_method_11_code 5 = .ok (.lcmp, 1) := by decide +kernel
theorem dt3_6 : decode jdk_2423_method_11_code 6 = .ok (.ifCond .lt 16, 3) := by decide +kernel
theorem dt3_9 : decode jdk_2423_method_11_code 9 = .ok (.lload_n 1, 1) := by decide +kernel
theorem dt3_10 : decode jdk_2423_method_11_code 10 = .ok (.aload_n 0, 1) := by decide +kernel
theorem dt3_11 : decode jdk_2423_method_11_code 11 = .ok (.invokevirtual 54, 3) := by decide +kernel
theorem dt3_14 : decode jdk_2423_method_11_code 14 = .ok (.lcmp, 1) := by decide +kernel
theorem dt3_15 : decode jdk_2423_method_11_code 15 = .ok (.ifCond .gt 7, 3) := by decide +kernel
theorem dt3_18 : decode jdk_2423_method_11_code 18 = .ok (.iconst 1, 1) := by decide +kernel
theorem dt3_19 : decode jdk_2423_method_11_code 19 = .ok (.goto 4, 3) := by decide +kernel
theorem dt3_22 : decode jdk_2423_method_11_code 22 = .ok (.iconst 0, 1) := by decide +kernel
theorem dt3_23 : decode jdk_2423_method_11_code 23 = .ok (.ireturn, 1) := by decide +kernel
theorem ef_3 (x0 : Addr) (x1 : Int64) (m : MethodId) : entryFrame m #[(.ref x0), (.long x1)] 3 = mkF m 0 #[.val (.ref x0), .val (.long x1), .second] [] := by first | (simp [entryFrame, mkF, argsToLocals, o_catR, o_catN, o_catI, o_catJ, o_catD]; done) | rfl
set_option maxRecDepth 65536 in
set_option maxHeartbeats 40000000 in
theorem ct_isV (l : Launch) (Z : State) (a0 : Array Value) (hw : ∀ d ∈ tables_1, d.before a0 Z = true) (EL : List (String × Nat)) (n0 : Nat) (v : Addr) (mn mx x : Int64) (hx1 : ¬ x < mn) (hx2 : ¬ mx < x) (h0 : Heap) (F_v : OObj Z h0 v "java/time/temporal/ValueRange" [("java/time/temporal/ValueRange", "minSmallest", "J", (.long mn)), ("java/time/temporal/ValueRange", "maxLargest", "J", (.long mx))]) :
    OCt l Z a0 EL n0 (⟨"java/time/temporal/ValueRange", "isValidValue", "(J)Z"⟩ : MethodName) jdk_2423_method_11_code 3 (some .boolean) ({ frames := 1, cells := 0, slots := 0, locals := 14 } : Room) [] #[(.ref v), (.long x)] h0 [] (fun w vm h => w = some (.int 1) ∧ h = h0) := by
  refine OCt.body (plainFor_of_name pn_0) (ef_3 v x) ?_
  intro p e s m below meth c T hby hml hret hnm hsh P
  refine o_lloadN P (hb hby dt3_0) rfl (pc' := 1) rfl ?_
  refine o_aloadN P (hb hby dt3_1) rfl rfl (pc' := 2) rfl ?_
  refine o_callV P (W := 2) (x := (⟨"java/time/temporal/ValueRange", "getMinimum", "()J"⟩ : MethodName)) (y := (⟨"java/time/temporal/ValueRange", "getMinimum", "()J"⟩ : MethodName)) (a := v) (ow hw 35 rfl) (ow hw 36 rfl) (o_nfSel (y := (⟨"java/time/temporal/ValueRange", "getMinimum", "()J"⟩ : MethodName)) rfl (ow hw 38 rfl)) (ow hw 38 rfl) (ow hw 37 rfl) (ow hw 28 rfl) (ow hw 39 rfl) (by decide) F_v.exa (ct_gmin l Z a0 hw EL n0 v mn mx h0 F_v) o_sf0 (by rw [hml]; rfl) (by decide) (by decide) (argsL := []) (rest := [(.long x)]) (lenOf pd_0 rfl) rfl rfl (Nat.le_of_eq rfl) (hb hby dt3_2) (pc' := 5) rfl (by decide) (by decide) ?_
  clear P; intro T h1 v1 P K1 q1
  obtain ⟨rfl, rfl⟩ := q1; clear K1
  show OG p e below m _ T 5 #[.val (.ref v), .val (.long x), .second] [(.long mn), (.long x)]
  refine o_lcmp P (hb hby dt3_5) (pc' := 6) rfl ?_
  refine o_if_lt P (hb hby dt3_6) (by decide) (pc' := 22) (by decide) (pcf := 9) rfl (fun q => absurd q (fun q => hx1 ((lw_lt _ _).mp q))) (fun _ => ?_)
  refine o_lloadN P (hb hby dt3_9) rfl (pc' := 10) rfl ?_
  refine o_aloadN P (hb hby dt3_10) rfl rfl (pc' := 11) rfl ?_
  refine o_callV P (W := 2) (x := (⟨"java/time/temporal/ValueRange", "getMaximum", "()J"⟩ : MethodName)) (y := (⟨"java/time/temporal/ValueRange", "getMaximum", "()J"⟩ : MethodName)) (a := v) (ow hw 42 rfl) (ow hw 43 rfl) (o_nfSel (y := (⟨"java/time/temporal/ValueRange", "getMaximum", "()J"⟩ : MethodName)) rfl (ow hw 45 rfl)) (ow hw 45 rfl) (ow hw 44 rfl) (ow hw 28 rfl) (ow hw 46 rfl) (by decide) F_v.exa (ct_gmax l Z a0 hw EL n0 v mn mx h1 F_v) o_sf0 (by rw [hml]; rfl) (by decide) (by decide) (argsL := []) (rest := [(.long x)]) (lenOf pd_0 rfl) rfl rfl (Nat.le_of_eq rfl) (hb hby dt3_11) (pc' := 14) rfl (by decide) (by decide) ?_
  clear P; intro T h2 v2 P K2 q2
  obtain ⟨rfl, rfl⟩ := q2; clear K2
  show OG p e below m _ T 14 #[.val (.ref v), .val (.long x), .second] [(.long mx), (.long x)]
  refine o_lcmp P (hb hby dt3_14) (pc' := 15) rfl ?_
  refine o_if_gt P (hb hby dt3_15) (by decide) (pc' := 22) (by decide) (pcf := 18) rfl (fun q => absurd q (fun q => hx2 ((lw_gt _ _).mp q))) (fun _ => ?_)
  refine o_iconst P (1 : Int32) (hb hby dt3_18) rfl (pc' := 19) rfl ?_
  refine o_goto P (hb hby dt3_19) (by decide) (pc' := 23) (by decide) ?_
  exact o_retI P hret (by simp) rfl (hb hby dt3_23) (by decide) (by decide) ⟨rfl, rfl⟩
theorem dt4_0 : decode jdk_2423_method_13_code 0 = .ok (.aload_n 0, 1) := by decide +kernel
theorem dt4_1 : decode jdk_2423_method_13_code 1 = .ok (.lload_n 1, 1) := by decide +kernel
theorem dt4_2 : decode jdk_2423_method_13_code 2 = .ok (.invokevirtual 63, 3) := by decide +kernel
theorem dt4_5 : decode jdk_2423_method_13_code 5 = .ok (.ifCond .ne 17, 3) := by decide +kernel
theorem dt4_8 : decode jdk_2423_method_13_code 8 = .ok (.new 67, 3) := by decide +kernel
theorem dt4_11 : decode jdk_2423_method_13_code 11 = .ok (.dup, 1) := by decide +kernel
theorem dt4_12 : decode jdk_2423_method_13_code 12 = .ok (.aload_n 0, 1) := by decide +kernel
theorem dt4_13 : decode jdk_2423_method_13_code 13 = .ok (.aload_n 3, 1) := by decide +kernel
theorem dt4_14 : decode jdk_2423_method_13_code 14 = .ok (.lload_n 1, 1) := by decide +kernel
theorem dt4_15 : decode jdk_2423_method_13_code 15 = .ok (.invokevirtual 69, 3) := by decide +kernel
theorem dt4_18 : decode jdk_2423_method_13_code 18 = .ok (.invokespecial 73, 3) := by decide +kernel
theorem dt4_21 : decode jdk_2423_method_13_code 21 = .ok (.athrow, 1) := by decide +kernel
theorem dt4_22 : decode jdk_2423_method_13_code 22 = .ok (.lload_n 1, 1) := by decide +kernel
theorem dt4_23 : decode jdk_2423_method_13_code 23 = .ok (.lreturn, 1) := by decide +kernel
theorem ef_4 (x0 : Addr) (x1 : Int64) (x2 : Addr) (m : MethodId) : entryFrame m #[(.ref x0), (.long x1), (.ref x2)] 4 = mkF m 0 #[.val (.ref x0), .val (.long x1), .second, .val (.ref x2)] [] := by first | (simp [entryFrame, mkF, argsToLocals, o_catR, o_catN, o_catI, o_catJ, o_catD]; done) | rfl
set_option maxRecDepth 65536 in
set_option maxHeartbeats 40000000 in
theorem ct_chk1 (l : Launch) (Z : State) (a0 : Array Value) (hw : ∀ d ∈ tables_1, d.before a0 Z = true) (EL : List (String × Nat)) (n0 : Nat) (v f : Addr) (mn mx x : Int64) (hx1 : ¬ x < mn) (hx2 : ¬ mx < x) (h0 : Heap) (F_v : OObj Z h0 v "java/time/temporal/ValueRange" [("java/time/temporal/ValueRange", "minSmallest", "J", (.long mn)), ("java/time/temporal/ValueRange", "maxLargest", "J", (.long mx))]) :
    OCt l Z a0 EL n0 (⟨"java/time/temporal/ValueRange", "checkValidValue", "(JLjava/time/temporal/TemporalField;)J"⟩ : MethodName) jdk_2423_method_13_code 4 (some .long) ({ frames := 2, cells := 0, slots := 0, locals := 29 } : Room) [] #[(.ref v), (.long x), (.ref f)] h0 [] (fun w vm h => w = some (.long x) ∧ h = h0) := by
  refine OCt.body (plainFor_of_name pn_0) (ef_4 v x f) ?_
  intro p e s m below meth c T hby hml hret hnm hsh P
  refine o_aloadN P (hb hby dt4_0) rfl rfl (pc' := 1) rfl ?_
  refine o_lloadN P (hb hby dt4_1) rfl (pc' := 2) rfl ?_
  refine o_callV P (W := 0) (x := (⟨"java/time/temporal/ValueRange", "isValidValue", "(J)Z"⟩ : MethodName)) (y := (⟨"java/time/temporal/ValueRange", "isValidValue", "(J)Z"⟩ : MethodName)) (a := v) (ow hw 30 rfl) (ow hw 31 rfl) (o_nfSel (y := (⟨"java/time/temporal/ValueRange", "isValidValue", "(J)Z"⟩ : MethodName)) rfl (ow hw 33 rfl)) (ow hw 33 rfl) (ow hw 32 rfl) (ow hw 28 rfl) (ow hw 34 rfl) (by decide) F_v.exa (ct_isV l Z a0 hw EL n0 v mn mx x hx1 hx2 h0 F_v) o_sf0 (by rw [hml]; rfl) (by decide) (by decide) (argsL := [(.long x)]) (rest := []) (lenOf pd_1 rfl) rfl rfl (Nat.le_of_eq rfl) (hb hby dt4_2) (pc' := 5) rfl (by decide) (by decide) ?_
  clear P; intro T h1 v1 P K1 q1
  obtain ⟨rfl, rfl⟩ := q1; clear K1
  show OG p e below m _ T 5 #[.val (.ref v), .val (.long x), .second, .val (.ref f)] [(.int (1 : Int32))]
  refine o_if_ne P (hb hby dt4_5) (by decide) (pc' := 22) (by decide) (pcf := 8) rfl (fun _ => ?_) (fun q => absurd q (by decide))
  refine o_lloadN P (hb hby dt4_22) rfl (pc' := 23) rfl ?_
  exact o_retL P hret (hb hby dt4_23) (by decide) (by decide) ⟨rfl, rfl⟩
theorem dt5_0 : decode jdk_2395_method_8_code 0 = .ok (.aload_n 0, 1) := by decide +kernel
theorem dt5_1 : decode jdk_2395_method_8_code 1 = .ok (.getfield 124, 3) := by decide +kernel
theorem dt5_4 : decode jdk_2395_method_8_code 4 = .ok (.areturn, 1) := by decide +kernel
theorem ef_5 (x0 : Addr) (m : MethodId) : entryFrame m #[(.ref x0)] 1 = mkF m 0 #[.val (.ref x0)] [] := by first | (simp [entryFrame, mkF, argsToLocals, o_catR, o_catN, o_catI, o_catJ, o_catD]; done) | rfl
theorem pn_1 : plainName "java/time/temporal/ChronoField" = true := by first | (simp [plainName, overriddenIn]; done) | decide +kernel
set_option maxRecDepth 65536 in
set_option maxHeartbeats 40000000 in
theorem ct_rng (l : Launch) (Z : State) (a0 : Array Value) (hw : ∀ d ∈ tables_1, d.before a0 Z = true) (EL : List (String × Nat)) (n0 : Nat) (f v : Addr) (h0 : Heap) (F_f : OObj Z h0 f "java/time/temporal/ChronoField" [("java/time/temporal/ChronoField", "range", "Ljava/time/temporal/ValueRange;", (.ref v))]) :
    OCt l Z a0 EL n0 (⟨"java/time/temporal/ChronoField", "range", "()Ljava/time/temporal/ValueRange;"⟩ : MethodName) jdk_2395_method_8_code 1 (some (.object "java/time/temporal/ValueRange")) ({ frames := 0, cells := 0, slots := 0, locals := 0 } : Room) [] #[(.ref f)] h0 [] (fun w vm h => w = some (.ref v) ∧ h = h0) := by
  refine OCt.body (plainFor_of_name pn_1) (ef_5 f) ?_
  intro p e s m below meth c T hby hml hret hnm hsh P
  refine o_aloadN P (hb hby dt5_0) rfl rfl (pc' := 1) rfl ?_
  refine o_getF P (ow hw 22 rfl) Via.refl (F_f.fld 0 rfl) (hb hby dt5_1) (pc' := 4) rfl ?_
  clear P; intro T P
  exact o_retA P hret rfl rfl rfl (hb hby dt5_4) (by decide) (by decide) ⟨rfl, rfl⟩
theorem dt6_0 : decode jdk_2395_method_11_code 0 = .ok (.aload_n 0, 1) := by decide +kernel
theorem dt6_1 : decode jdk_2395_method_11_code 1 = .ok (.invokevirtual 190, 3) := by decide +kernel
theorem dt6_4 : decode jdk_2395_method_11_code 4 = .ok (.lload_n 1, 1) := by decide +kernel
theorem dt6_5 : decode jdk_2395_method_11_code 5 = .ok (.aload_n 0, 1) := by decide +kernel
theorem dt6_6 : decode jdk_2395_method_11_code 6 = .ok (.invokevirtual 193, 3) := by decide +kernel
theorem dt6_9 : decode jdk_2395_method_11_code 9 = .ok (.lreturn, 1) := by decide +kernel
theorem ef_6 (x0 : Addr) (x1 : Int64) (m : MethodId) : entryFrame m #[(.ref x0), (.long x1)] 3 = mkF m 0 #[.val (.ref x0), .val (.long x1), .second] [] := by first | (simp [entryFrame, mkF, argsToLocals, o_catR, o_catN, o_catI, o_catJ, o_catD]; done) | rfl
set_option maxRecDepth 65536 in
set_option maxHeartbeats 40000000 in
theorem ct_chk (l : Launch) (Z : State) (a0 : Array Value) (hw : ∀ d ∈ tables_1, d.before a0 Z = true) (EL : List (String × Nat)) (n0 : Nat) (f v : Addr) (mn mx x : Int64) (hx1 : ¬ x < mn) (hx2 : ¬ mx < x) (h0 : Heap) (F_f : OObj Z h0 f "java/time/temporal/ChronoField" [("java/time/temporal/ChronoField", "range", "Ljava/time/temporal/ValueRange;", (.ref v))]) (F_v : OObj Z h0 v "java/time/temporal/ValueRange" [("java/time/temporal/ValueRange", "minSmallest", "J", (.long mn)), ("java/time/temporal/ValueRange", "maxLargest", "J", (.long mx))]) :
    OCt l Z a0 EL n0 (⟨"java/time/temporal/ChronoField", "checkValidValue", "(J)J"⟩ : MethodName) jdk_2395_method_11_code 3 (some .long) ({ frames := 3, cells := 0, slots := 0, locals := 48 } : Room) [] #[(.ref f), (.long x)] h0 [] (fun w vm h => w = some (.long x) ∧ h = h0) := by
  refine OCt.body (plainFor_of_name pn_1) (ef_6 f x) ?_
  intro p e s m below meth c T hby hml hret hnm hsh P
  refine o_aloadN P (hb hby dt6_0) rfl rfl (pc' := 1) rfl ?_
  refine o_callV P (W := 0) (x := (⟨"java/time/temporal/ChronoField", "range", "()Ljava/time/temporal/ValueRange;"⟩ : MethodName)) (y := (⟨"java/time/temporal/ChronoField", "range", "()Ljava/time/temporal/ValueRange;"⟩ : MethodName)) (a := f) (ow hw 17 rfl) (ow hw 18 rfl) (o_nfSel (y := (⟨"java/time/temporal/ChronoField", "range", "()Ljava/time/temporal/ValueRange;"⟩ : MethodName)) rfl (ow hw 20 rfl)) (ow hw 20 rfl) (ow hw 19 rfl) (ow hw 11 rfl) (ow hw 21 rfl) (by decide) F_f.exa (ct_rng l Z a0 hw EL n0 f v h0 F_f) o_sf0 (by rw [hml]; rfl) (by decide) (by decide) (argsL := []) (rest := []) (lenOf pd_2 rfl) rfl rfl (Nat.le_of_eq rfl) (hb hby dt6_1) (pc' := 4) rfl (by decide) (by decide) ?_
  clear P; intro T h1 v1 P K1 q1
  obtain ⟨rfl, rfl⟩ := q1; clear K1
  show OG p e below m _ T 4 #[.val (.ref f), .val (.long x), .second] [(.ref v)]
  refine o_lloadN P (hb hby dt6_4) rfl (pc' := 5) rfl ?_
  refine o_aloadN P (hb hby dt6_5) rfl rfl (pc' := 6) rfl ?_
  refine o_callV P (W := 0) (x := (⟨"java/time/temporal/ValueRange", "checkValidValue", "(JLjava/time/temporal/TemporalField;)J"⟩ : MethodName)) (y := (⟨"java/time/temporal/ValueRange", "checkValidValue", "(JLjava/time/temporal/TemporalField;)J"⟩ : MethodName)) (a := v) (ow hw 24 rfl) (ow hw 25 rfl) (o_nfSel (y := (⟨"java/time/temporal/ValueRange", "checkValidValue", "(JLjava/time/temporal/TemporalField;)J"⟩ : MethodName)) rfl (ow hw 27 rfl)) (ow hw 27 rfl) (ow hw 26 rfl) (ow hw 28 rfl) (ow hw 29 rfl) (by decide) F_v.exa (ct_chk1 l Z a0 hw EL n0 v f mn mx x hx1 hx2 h1 F_v) o_sf0 (by rw [hml]; rfl) (by decide) (by decide) (argsL := [(.long x), (.ref f)]) (rest := []) (lenOf pd_3 rfl) rfl rfl (Nat.le_of_eq rfl) (hb hby dt6_6) (pc' := 9) rfl (by decide) (by decide) ?_
  clear P; intro T h2 v2 P K2 q2
  obtain ⟨rfl, rfl⟩ := q2; clear K2
  show OG p e below m _ T 9 #[.val (.ref f), .val (.long x), .second] [(.long x)]
  exact o_retL P hret (hb hby dt6_9) (by decide) (by decide) ⟨rfl, rfl⟩
theorem dt7_0 : decode jdk_2340_method_9_code 0 = .ok (.aload_n 0, 1) := by decide +kernel
theorem dt7_1 : decode jdk_2340_method_9_code 1 = .ok (.invokespecial 147, 3) := by decide +kernel
theorem dt7_4 : decode jdk_2340_method_9_code 4 = .ok (.aload_n 0, 1) := by decide +kernel
theorem dt7_5 : decode jdk_2340_method_9_code 5 = .ok (.iload_n 1, 1) := by decide +kernel
theorem dt7_6 : decode jdk_2340_method_9_code 6 = .ok (.putfield 150, 3) := by decide +kernel
theorem dt7_9 : decode jdk_2340_method_9_code 9 = .ok (.aload_n 0, 1) := by decide +kernel
theorem dt7_10 : decode jdk_2340_method_9_code 10 = .ok (.iload_n 2, 1) := by decide +kernel
theorem dt7_11 : decode jdk_2340_method_9_code 11 = .ok (.putfield 154, 3) := by decide +kernel
theorem dt7_14 : decode jdk_2340_method_9_code 14 = .ok (.return_, 1) := by decide +kernel
theorem ef_7 (x0 : Addr) (x1 : Int32) (x2 : Int32) (m : MethodId) : entryFrame m #[(.ref x0), (.int x1), (.int x2)] 3 = mkF m 0 #[.val (.ref x0), .val (.int x1), .val (.int x2)] [] := by first | (simp [entryFrame, mkF, argsToLocals, o_catR, o_catN, o_catI, o_catJ, o_catD]; done) | rfl
theorem pn_2 : plainName "java/time/YearMonth" = true := by first | (simp [plainName, overriddenIn]; done) | decide +kernel
set_option maxRecDepth 65536 in
set_option maxHeartbeats 40000000 in
theorem ct_ymi (l : Launch) (Z : State) (a0 : Array Value) (hw : ∀ d ∈ tables_1, d.before a0 Z = true) (EL : List (String × Nat)) (n0 : Nat) (a : Addr) (y k : Int32) (h0 : Heap) (F_a : OObj Z h0 a "java/time/YearMonth" [("java/time/YearMonth", "year", "I", (.int (0 : Int32))), ("java/time/YearMonth", "month", "I", (.int (0 : Int32)))]) :
    OCt l Z a0 EL n0 (⟨"java/time/YearMonth", "<init>", "(II)V"⟩ : MethodName) jdk_2340_method_9_code 3 none ({ frames := 1, cells := 0, slots := 0, locals := 12 } : Room) [] #[(.ref a), (.int y), (.int k)] h0 [a] (fun w vm h => w = none ∧ OObj Z h a "java/time/YearMonth" [("java/time/YearMonth", "year", "I", (.int y)), ("java/time/YearMonth", "month", "I", (.int k))]) := by
  refine OCt.body (plainFor_of_name pn_2) (ef_7 a y k) ?_
  intro p e s m below meth c T hby hml hret hnm hsh P
  refine o_aloadN P (hb hby dt7_0) rfl rfl (pc' := 1) rfl ?_
  refine o_initO P (W := 0) (ow hw 56 rfl) (ow hw 57 rfl) (ow hw 58 rfl) (by rw [hml]; rfl) (by decide) (Nat.le_of_eq rfl) (by decide) (hb hby dt7_1) (pc' := 4) rfl ?_
  clear P; intro T P
  refine o_aloadN P (hb hby dt7_4) rfl rfl (pc' := 5) rfl ?_
  refine o_iloadN P (hb hby dt7_5) rfl (pc' := 6) rfl ?_
  refine o_putF P (v' := (.int y)) (ty := .int) (ow hw 59 rfl) Via.refl (F_a.fld 0 rfl) F_a.exa (Or.inr ⟨(ow hw 60 rfl), rfl, hnm⟩) (ow hw 51 rfl) (by decide) rfl rfl (List.Mem.head _) (hb hby dt7_6) (pc' := 9) rfl ?_
  clear P; intro T h1 P W1
  replace F_a : OObj Z h1 a "java/time/YearMonth" [("java/time/YearMonth", "year", "I", (.int y)), ("java/time/YearMonth", "month", "I", (.int (0 : Int32)))] := F_a.put 0 rfl W1
  clear W1
  refine o_aloadN P (hb hby dt7_9) rfl rfl (pc' := 10) rfl ?_
  refine o_iloadN P (hb hby dt7_10) rfl (pc' := 11) rfl ?_
  refine o_putF P (v' := (.int k)) (ty := .int) (ow hw 61 rfl) Via.refl (F_a.fld 1 rfl) F_a.exa (Or.inr ⟨(ow hw 62 rfl), rfl, hnm⟩) (ow hw 51 rfl) (by decide) rfl rfl (List.Mem.head _) (hb hby dt7_11) (pc' := 14) rfl ?_
  clear P; intro T h2 P W2
  replace F_a : OObj Z h2 a "java/time/YearMonth" [("java/time/YearMonth", "year", "I", (.int y)), ("java/time/YearMonth", "month", "I", (.int k))] := F_a.put 1 rfl W2
  clear W2
  exact o_ret0 P hret (hb hby dt7_14) (by decide) (by decide) ⟨rfl, F_a⟩
theorem dt8_0 : decode jdk_2340_method_5_code 0 = .ok (.getstatic 50, 3) := by decide +kernel
theorem dt8_3 : decode jdk_2340_method_5_code 3 = .ok (.iload_n 0, 1) := by decide +kernel
theorem dt8_4 : decode jdk_2340_method_5_code 4 = .ok (.i2l, 1) := by decide +kernel
theorem dt8_5 : decode jdk_2340_method_5_code 5 = .ok (.invokevirtual 56, 3) := by decide +kernel
theorem dt8_8 : decode jdk_2340_method_5_code 8 = .ok (.pop2, 1) := by decide +kernel
theorem dt8_9 : decode jdk_2340_method_5_code 9 = .ok (.getstatic 60, 3) := by decide +kernel
theorem dt8_12 : decode jdk_2340_method_5_code 12 = .ok (.iload_n 1, 1) := by decide +kernel
theorem dt8_13 : decode jdk_2340_method_5_code 13 = .ok (.i2l, 1) := by decide +kernel
theorem dt8_14 : decode jdk_2340_method_5_code 14 = .ok (.invokevirtual 56, 3) := by decide +kernel
theorem dt8_17 : decode jdk_2340_method_5_code 17 = .ok (.pop2, 1) := by decide +kernel
theorem dt8_18 : decode jdk_2340_method_5_code 18 = .ok (.new 8, 3) := by decide +kernel
theorem dt8_21 : decode jdk_2340_method_5_code 21 = .ok (.dup, 1) := by decide +kernel
theorem dt8_22 : decode jdk_2340_method_5_code 22 = .ok (.iload_n 0, 1) := by decide +kernel
theorem dt8_23 : decode jdk_2340_method_5_code 23 = .ok (.iload_n 1, 1) := by decide +kernel
theorem dt8_24 : decode jdk_2340_method_5_code 24 = .ok (.invokespecial 63, 3) := by decide +kernel
theorem dt8_27 : decode jdk_2340_method_5_code 27 = .ok (.areturn, 1) := by decide +kernel
theorem ef_8 (x0 : Int32) (x1 : Int32) (m : MethodId) : entryFrame m #[(.int x0), (.int x1)] 2 = mkF m 0 #[.val (.int x0), .val (.int x1)] [] := by first | (simp [entryFrame, mkF, argsToLocals, o_catR, o_catN, o_catI, o_catJ, o_catD]; done) | rfl
set_option maxRecDepth 65536 in
set_option maxHeartbeats 40000000 in
theorem ct_ymo (l : Launch) (Z : State) (a0 : Array Value) (hw : ∀ d ∈ tables_1, d.before a0 Z = true) (EL : List (String × Nat)) (n0 : Nat) (y k : Int32) (fy vy fm vm : Addr) (hfy : Sta Z Z.heap "java/time/temporal/ChronoField" "YEAR" "Ljava/time/temporal/ChronoField;" (.ref fy)) (hfm : Sta Z Z.heap "java/time/temporal/ChronoField" "MONTH_OF_YEAR" "Ljava/time/temporal/ChronoField;" (.ref fm)) (Fy : OObj Z Z.heap fy "java/time/temporal/ChronoField" [("java/time/temporal/ChronoField", "range", "Ljava/time/temporal/ValueRange;", (.ref vy))]) (Fvy : OObj Z Z.heap vy "java/time/temporal/ValueRange" [("java/time/temporal/ValueRange", "minSmallest", "J", (.long (-999999999 : Int64))), ("java/time/temporal/ValueRange", "maxLargest", "J", (.long (999999999 : Int64)))]) (Fm : OObj Z Z.heap fm "java/time/temporal/ChronoField" [("java/time/temporal/ChronoField", "range", "Ljava/time/temporal/ValueRange;", (.ref vm))]) (Fvm : OObj Z Z.heap vm "java/time/temporal/ValueRange" [("java/time/temporal/ValueRange", "minSmallest", "J", (.long (1 : Int64))), ("java/time/temporal/ValueRange", "maxLargest", "J", (.long (12 : Int64)))]) (hy1 : ¬ y.toInt64 < -999999999) (hy2 : ¬ (999999999 : Int64) < y.toInt64) (hk1 : ¬ k.toInt64 < 1) (hk2 : ¬ (12 : Int64) < k.toInt64) (h0 : Heap) :
    OCt l Z a0 EL n0 (⟨"java/time/YearMonth", "of", "(II)Ljava/time/YearMonth;"⟩ : MethodName) jdk_2340_method_5_code 2 (some (.object "java/time/YearMonth")) ({ frames := 4, cells := 1, slots := 2, locals := 80 } : Room) [] #[(.int y), (.int k)] h0 [] (fun w vm h => ∃ a : Addr, w = some (.ref a) ∧ h0.size ≤ a ∧ OObj Z h a "java/time/YearMonth" []) := by
  refine OCt.body (plainFor_of_name pn_2) (ef_8 y k) ?_
  intro p e s m below meth c T hby hml hret hnm hsh P
  have hO := P.old
  refine o_getS P (ow hw 10 rfl) Via.refl hfy (hb hby dt8_0) (pc' := 3) rfl ?_
  clear P; intro T P
  refine o_iloadN P (hb hby dt8_3) rfl (pc' := 4) rfl ?_
  refine o_i2l P (hb hby dt8_4) (pc' := 5) rfl ?_
  refine o_callV P (W := 0) (x := (⟨"java/time/temporal/ChronoField", "checkValidValue", "(J)J"⟩ : MethodName)) (y := (⟨"java/time/temporal/ChronoField", "checkValidValue", "(J)J"⟩ : MethodName)) (a := fy) (ow hw 12 rfl) (ow hw 13 rfl) (o_nfSel (y := (⟨"java/time/temporal/ChronoField", "checkValidValue", "(J)J"⟩ : MethodName)) rfl (ow hw 15 rfl)) (ow hw 15 rfl) (ow hw 14 rfl) (ow hw 11 rfl) (ow hw 16 rfl) (by decide) (Fy.ext hO.2).exa (ct_chk l Z a0 hw EL n0 fy vy _ _ _ hy1 hy2 h0 (Fy.ext hO.2) (Fvy.ext hO.2)) o_sf0 (by rw [hml]; rfl) (by decide) (by decide) (argsL := [(.long (y.toInt64))]) (rest := []) (lenOf pd_4 rfl) rfl rfl (Nat.le_of_eq rfl) (hb hby dt8_5) (pc' := 8) rfl (by decide) (by decide) ?_
  clear P; intro T h1 v1 P K1 q1
  obtain ⟨rfl, rfl⟩ := q1; clear K1
  show OG p e below m _ T 8 #[.val (.int y), .val (.int k)] [(.long y.toInt64)]
  refine o_pop2L P (hb hby dt8_8) (pc' := 9) rfl ?_
  refine o_getS P (ow hw 49 rfl) Via.refl hfm (hb hby dt8_9) (pc' := 12) rfl ?_
  clear P; intro T P
  refine o_iloadN P (hb hby dt8_12) rfl (pc' := 13) rfl ?_
  refine o_i2l P (hb hby dt8_13) (pc' := 14) rfl ?_
  refine o_callV P (W := 0) (x := (⟨"java/time/temporal/ChronoField", "checkValidValue", "(J)J"⟩ : MethodName)) (y := (⟨"java/time/temporal/ChronoField", "checkValidValue", "(J)J"⟩ : MethodName)) (a := fm) (ow hw 12 rfl) (ow hw 13 rfl) (o_nfSel (y := (⟨"java/time/temporal/ChronoField", "checkValidValue", "(J)J"⟩ : MethodName)) rfl (ow hw 15 rfl)) (ow hw 15 rfl) (ow hw 14 rfl) (ow hw 11 rfl) (ow hw 16 rfl) (by decide) (Fm.ext hO.2).exa (ct_chk l Z a0 hw EL n0 fm vm _ _ _ hk1 hk2 h1 (Fm.ext hO.2) (Fvm.ext hO.2)) o_sf0 (by rw [hml]; rfl) (by decide) (by decide) (argsL := [(.long (k.toInt64))]) (rest := []) (lenOf pd_4 rfl) rfl rfl (Nat.le_of_eq rfl) (hb hby dt8_14) (pc' := 17) rfl (by decide) (by decide) ?_
  clear P; intro T h2 v2 P K2 q2
  obtain ⟨rfl, rfl⟩ := q2; clear K2
  show OG p e below m _ T 17 #[.val (.int y), .val (.int k)] [(.long k.toInt64)]
  refine o_pop2L P (hb hby dt8_17) (pc' := 18) rfl ?_
  have hz_a := P.keep0.1
  refine o_new P [("java/time/YearMonth", "year", "I", (.int (0 : Int32))), ("java/time/YearMonth", "month", "I", (.int (0 : Int32)))] (ow hw 50 rfl) (ow hw 51 rfl) (ow hw 8 rfl) (OLd.cons (Or.inr (ow hw 60 rfl)) (ty := .int) (by decide) rfl (OLd.cons (Or.inr (ow hw 62 rfl)) (ty := .int) (by decide) rfl OLd.nil)) (by decide +kernel) (hb hby dt8_18) (pc' := 21) rfl (by decide) (by decide) ?_
  clear P; intro T h3 a P K3 hb_a F_a
  have sz_a := Nat.le_trans hz_a hb_a
  clear hz_a
  clear K3
  refine o_dup P (hb hby dt8_21) rfl (pc' := 22) rfl ?_
  refine o_iloadN P (hb hby dt8_22) rfl (pc' := 23) rfl ?_
  refine o_iloadN P (hb hby dt8_23) rfl (pc' := 24) rfl ?_
  refine o_callI P (W := 1) (a := a) rfl (ow hw 52 rfl) (ow hw 53 rfl) (ow hw 8 rfl) (ow hw 55 rfl) (by decide) (ct_ymi l Z a0 hw EL n0 a y k h3 F_a) (o_sfS (List.Mem.head _) o_sf0) (by rw [hml]; rfl) (by decide) (by decide) (argsL := [(.int y), (.int k)]) (rest := [(.ref a)]) (lenOf pd_5 rfl) rfl rfl (Nat.le_of_eq rfl) (hb hby dt8_24) (pc' := 27) rfl (by decide) (by decide) ?_
  clear P; intro T h4 v4 P K4 q4
  obtain ⟨rfl, F'⟩ := q4
  show OG p e below m _ T 27 #[.val (.int y), .val (.int k)] [(.ref a)]
  exact o_retA P hret rfl rfl rfl (hb hby dt8_27) (by decide) (by decide) ⟨a, rfl, hsh ▸ sz_a, OObj.zero F'.exa⟩
theorem dt9_0 : decode method_3_code 0 = .ok (.iload_n 0, 1) := by decide +kernel
theorem dt9_1 : decode method_3_code 1 = .ok (.bipush 12, 2) := by decide +kernel
theorem dt9_3 : decode method_3_code 3 = .ok (.idiv, 1) := by decide +kernel
theorem dt9_4 : decode method_3_code 4 = .ok (.iload_n 0, 1) := by decide +kernel
theorem dt9_5 : decode method_3_code 5 = .ok (.bipush 12, 2) := by decide +kernel
theorem dt9_7 : decode method_3_code 7 = .ok (.irem, 1) := by decide +kernel
theorem dt9_8 : decode method_3_code 8 = .ok (.iconst 1, 1) := by decide +kernel
theorem dt9_9 : decode method_3_code 9 = .ok (.iadd, 1) := by decide +kernel
theorem dt9_10 : decode method_3_code 10 = .ok (.invokestatic 36, 3) := by decide +kernel
theorem dt9_13 : decode method_3_code 13 = .ok (.areturn, 1) := by decide +kernel
theorem ef_9 (x0 : Int32) (m : MethodId) : entryFrame m #[(.int x0)] 1 = mkF m 0 #[.val (.int x0)] [] := by first | (simp [entryFrame, mkF, argsToLocals, o_catR, o_catN, o_catI, o_catJ, o_catD]; done) | rfl
theorem own_ym (q : Int32) (h0 : 0 ≤ q.toInt) (h1 : q.toInt ≤ 12000002) : ¬ (q / (12 : Int32)).toInt64 < -999999999 ∧ ¬ (999999999 : Int64) < (q / (12 : Int32)).toInt64 ∧ ¬ ((q % (12 : Int32)) + (1 : Int32)).toInt64 < 1 ∧ ¬ (12 : Int64) < ((q % (12 : Int32)) + (1 : Int32)).toInt64 := by
  have z : (12 : Int32).toInt = 12 := rfl
  have z1 : (1 : Int32).toInt = 1 := rfl
  have e1 : (q / (12 : Int32)).toInt = q.toInt.tdiv 12 := by
    rw [Int32.toInt_div_of_ne_right _ _ (by decide), z]
  have e2 : (q % (12 : Int32)).toInt = q.toInt.tmod 12 := by rw [Int32.toInt_mod, z]
  rw [Int.tdiv_eq_ediv_of_nonneg h0] at e1
  rw [Int.tmod_eq_emod_of_nonneg h0] at e2
  have e3 := c_iadd (q % (12 : Int32)) 1
  have r3 := rng32 ((q % (12 : Int32)) + (1 : Int32))
  rw [Int64.lt_iff_toInt_lt, Int64.lt_iff_toInt_lt, Int64.lt_iff_toInt_lt, Int64.lt_iff_toInt_lt, c_i2l, c_i2l, show (-999999999 : Int64).toInt = -999999999 from rfl, show (999999999 : Int64).toInt = 999999999 from rfl, show (1 : Int64).toInt = 1 from rfl, show (12 : Int64).toInt = 12 from rfl]
  omega
theorem pn_3 : plainName "com/example/pledgebook/pledgebook/model/LedgerLastMonthPinLaw" = true := by first | (simp [plainName, overriddenIn]; done) | decide +kernel
set_option maxRecDepth 65536 in
set_option maxHeartbeats 40000000 in
theorem ct_ym (l : Launch) (Z : State) (a0 : Array Value) (hw : ∀ d ∈ tables_1, d.before a0 Z = true) (EL : List (String × Nat)) (n0 : Nat) (q : Int32) (hq0 : 0 ≤ q.toInt) (hq1 : q.toInt ≤ 12000002) (fy vy fm vm : Addr) (hfy : Sta Z Z.heap "java/time/temporal/ChronoField" "YEAR" "Ljava/time/temporal/ChronoField;" (.ref fy)) (hfm : Sta Z Z.heap "java/time/temporal/ChronoField" "MONTH_OF_YEAR" "Ljava/time/temporal/ChronoField;" (.ref fm)) (Fy : OObj Z Z.heap fy "java/time/temporal/ChronoField" [("java/time/temporal/ChronoField", "range", "Ljava/time/temporal/ValueRange;", (.ref vy))]) (Fvy : OObj Z Z.heap vy "java/time/temporal/ValueRange" [("java/time/temporal/ValueRange", "minSmallest", "J", (.long (-999999999 : Int64))), ("java/time/temporal/ValueRange", "maxLargest", "J", (.long (999999999 : Int64)))]) (Fm : OObj Z Z.heap fm "java/time/temporal/ChronoField" [("java/time/temporal/ChronoField", "range", "Ljava/time/temporal/ValueRange;", (.ref vm))]) (Fvm : OObj Z Z.heap vm "java/time/temporal/ValueRange" [("java/time/temporal/ValueRange", "minSmallest", "J", (.long (1 : Int64))), ("java/time/temporal/ValueRange", "maxLargest", "J", (.long (12 : Int64)))]) (h0 : Heap) :
    OCt l Z a0 EL n0 (⟨"com/example/pledgebook/pledgebook/model/LedgerLastMonthPinLaw", "ym", "(I)Ljava/time/YearMonth;"⟩ : MethodName) method_3_code 1 (some (.object "java/time/YearMonth")) ({ frames := 5, cells := 1, slots := 2, locals := 100 } : Room) [] #[(.int q)] h0 [] (fun w vm h => ∃ a : Addr, w = some (.ref a) ∧ h0.size ≤ a ∧ OObj Z h a "java/time/YearMonth" []) := by
  refine OCt.body (plainFor_of_name pn_3) (ef_9 q) ?_
  intro p e s m below meth c T hby hml hret hnm hsh P
  refine o_iloadN P (hb hby dt9_0) rfl (pc' := 1) rfl ?_
  refine o_bipush P (12 : Int32) (hb hby dt9_1) rfl (pc' := 3) rfl ?_
  refine o_idiv P (hb hby dt9_3) (by decide) (pc' := 4) rfl ?_
  refine o_iloadN P (hb hby dt9_4) rfl (pc' := 5) rfl ?_
  refine o_bipush P (12 : Int32) (hb hby dt9_5) rfl (pc' := 7) rfl ?_
  refine o_irem P (hb hby dt9_7) (by decide) (pc' := 8) rfl ?_
  refine o_iconst P (1 : Int32) (hb hby dt9_8) rfl (pc' := 9) rfl ?_
  refine o_iadd P (hb hby dt9_9) (pc' := 10) rfl ?_
  have hbq := own_ym q hq0 hq1
  refine o_callS P (W := 0) (ow hw 6 rfl) (ow hw 7 rfl) (ow hw 8 rfl) (ow hw 9 rfl) (by decide) (ct_ymo l Z a0 hw EL n0 _ _ fy vy fm vm hfy hfm Fy Fvy Fm Fvm hbq.1 hbq.2.1 hbq.2.2.1 hbq.2.2.2 h0) o_sf0 (by rw [hml]; rfl) (by decide) (by decide) (argsL := [(.int (q / (12 : Int32))), (.int ((q % (12 : Int32)) + (1 : Int32)))]) (rest := []) (lenOf pd_6 rfl) rfl rfl (Nat.le_of_eq rfl) (hb hby dt9_10) (pc' := 13) rfl (by decide) (by decide) ?_
  clear P; intro T h1 v1 P K1 q1
  obtain ⟨a, rfl, g1, F'⟩ := q1
  show OG p e below m _ T 13 #[.val (.int q)] [(.ref a)]
  exact o_retA P hret rfl rfl rfl (hb hby dt9_13) (by decide) (by decide) ⟨a, rfl, g1, F'⟩
theorem dt10_0 : decode jdk_30_method_1_code 0 = .ok (.aload_n 0, 1) := by decide +kernel
theorem dt10_1 : decode jdk_30_method_1_code 1 = .ok (.invokespecial 1, 3) := by decide +kernel
theorem dt10_4 : decode jdk_30_method_1_code 4 = .ok (.return_, 1) := by decide +kernel
theorem ef_10 (x0 : Addr) (m : MethodId) : entryFrame m #[(.ref x0)] 1 = mkF m 0 #[.val (.ref x0)] [] := by first | (simp [entryFrame, mkF, argsToLocals, o_catR, o_catN, o_catI, o_catJ, o_catD]; done) | rfl
theorem pn_4 : plainName "java/lang/Record" = true := by first | (simp [plainName, overriddenIn]; done) | decide +kernel
set_option maxRecDepth 65536 in
set_option maxHeartbeats 40000000 in
theorem ct_rec (l : Launch) (Z : State) (a0 : Array Value) (hw : ∀ d ∈ tables_1, d.before a0 Z = true) (EL : List (String × Nat)) (n0 : Nat) (a : Addr) (h0 : Heap) :
    OCt l Z a0 EL n0 (⟨"java/lang/Record", "<init>", "()V"⟩ : MethodName) jdk_30_method_1_code 1 none ({ frames := 1, cells := 0, slots := 0, locals := 12 } : Room) [] #[(.ref a)] h0 [] (fun w vm h => w = none ∧ h = h0) := by
  refine OCt.body (plainFor_of_name pn_4) (ef_10 a) ?_
  intro p e s m below meth c T hby hml hret hnm hsh P
  refine o_aloadN P (hb hby dt10_0) rfl rfl (pc' := 1) rfl ?_
  refine o_initO P (W := 0) (ow hw 74 rfl) (ow hw 57 rfl) (ow hw 58 rfl) (by rw [hml]; rfl) (by decide) (Nat.le_of_eq rfl) (by decide) (hb hby dt10_1) (pc' := 4) rfl ?_
  clear P; intro T P
  exact o_ret0 P hret (hb hby dt10_4) (by decide) (by decide) ⟨rfl, rfl⟩
theorem dt11_0 : decode prog_50_method_1_code 0 = .ok (.aload_n 0, 1) := by decide +kernel
theorem dt11_1 : decode prog_50_method_1_code 1 = .ok (.invokespecial 1, 3) := by decide +kernel
theorem dt11_4 : decode prog_50_method_1_code 4 = .ok (.aload_n 0, 1) := by decide +kernel
theorem dt11_5 : decode prog_50_method_1_code 5 = .ok (.aload_n 1, 1) := by decide +kernel
theorem dt11_6 : decode prog_50_method_1_code 6 = .ok (.putfield 7, 3) := by decide +kernel
theorem dt11_9 : decode prog_50_method_1_code 9 = .ok (.aload_n 0, 1) := by decide +kernel
theorem dt11_10 : decode prog_50_method_1_code 10 = .ok (.aload_n 2, 1) := by decide +kernel
theorem dt11_11 : decode prog_50_method_1_code 11 = .ok (.putfield 13, 3) := by decide +kernel
theorem dt11_14 : decode prog_50_method_1_code 14 = .ok (.aload_n 0, 1) := by decide +kernel
theorem dt11_15 : decode prog_50_method_1_code 15 = .ok (.aload_n 3, 1) := by decide +kernel
theorem dt11_16 : decode prog_50_method_1_code 16 = .ok (.putfield 17, 3) := by decide +kernel
theorem dt11_19 : decode prog_50_method_1_code 19 = .ok (.return_, 1) := by decide +kernel
theorem ef_11 (x0 : Addr) (x1 : Addr) (m : MethodId) : entryFrame m #[(.ref x0), (.ref x1), .null, .null] 4 = mkF m 0 #[.val (.ref x0), .val (.ref x1), .val .null, .val .null] [] := by first | (simp [entryFrame, mkF, argsToLocals, o_catR, o_catN, o_catI, o_catJ, o_catD]; done) | rfl
theorem pn_5 : plainName "com/example/pledgebook/pledgebook/model/LedgerMonth" = true := by first | (simp [plainName, overriddenIn]; done) | decide +kernel
set_option maxRecDepth 65536 in
set_option maxHeartbeats 40000000 in
theorem ct_lmi (l : Launch) (Z : State) (a0 : Array Value) (hw : ∀ d ∈ tables_1, d.before a0 Z = true) (EL : List (String × Nat)) (n0 : Nat) (a y : Addr) (h0 : Heap) (F_a : OObj Z h0 a "com/example/pledgebook/pledgebook/model/LedgerMonth" [("com/example/pledgebook/pledgebook/model/LedgerMonth", "month", "Ljava/time/YearMonth;", .null), ("com/example/pledgebook/pledgebook/model/LedgerMonth", "grossRevenues", "Ljava/math/BigDecimal;", .null), ("com/example/pledgebook/pledgebook/model/LedgerMonth", "operatingExpenses", "Ljava/math/BigDecimal;", .null)]) :
    OCt l Z a0 EL n0 (⟨"com/example/pledgebook/pledgebook/model/LedgerMonth", "<init>", "(Ljava/time/YearMonth;Ljava/math/BigDecimal;Ljava/math/BigDecimal;)V"⟩ : MethodName) prog_50_method_1_code 4 none ({ frames := 2, cells := 0, slots := 0, locals := 24 } : Room) [] #[(.ref a), (.ref y), .null, .null] h0 [a] (fun w vm h => w = none ∧ OObj Z h a "com/example/pledgebook/pledgebook/model/LedgerMonth" [("com/example/pledgebook/pledgebook/model/LedgerMonth", "month", "Ljava/time/YearMonth;", (.ref y)), ("com/example/pledgebook/pledgebook/model/LedgerMonth", "grossRevenues", "Ljava/math/BigDecimal;", .null), ("com/example/pledgebook/pledgebook/model/LedgerMonth", "operatingExpenses", "Ljava/math/BigDecimal;", .null)]) := by
  refine OCt.body (plainFor_of_name pn_5) (ef_11 a y) ?_
  intro p e s m below meth c T hby hml hret hnm hsh P
  refine o_aloadN P (hb hby dt11_0) rfl rfl (pc' := 1) rfl ?_
  refine o_callI P (W := 0) (a := a) rfl (ow hw 69 rfl) (ow hw 70 rfl) (ow hw 72 rfl) (ow hw 73 rfl) (by decide) (ct_rec l Z a0 hw EL n0 a h0) o_sf0 (by rw [hml]; rfl) (by decide) (by decide) (argsL := []) (rest := []) (lenOf pd_7 rfl) rfl rfl (Nat.le_of_eq rfl) (hb hby dt11_1) (pc' := 4) rfl (by decide) (by decide) ?_
  clear P; intro T h1 v1 P K1 q1
  obtain ⟨rfl, rfl⟩ := q1; clear K1
  show OG p e below m _ T 4 #[.val (.ref a), .val (.ref y), .val .null, .val .null] []
  refine o_aloadN P (hb hby dt11_4) rfl rfl (pc' := 5) rfl ?_
  refine o_aloadN P (hb hby dt11_5) rfl rfl (pc' := 6) rfl ?_
  refine o_putF P (v' := (.ref y)) (ty := (.object "java/time/YearMonth")) (ow hw 75 rfl) Via.refl (F_a.fld 0 rfl) F_a.exa (Or.inr ⟨(ow hw 76 rfl), rfl, hnm⟩) (ow hw 64 rfl) (by decide) rfl rfl (List.Mem.head _) (hb hby dt11_6) (pc' := 9) rfl ?_
  clear P; intro T h2 P W2
  replace F_a : OObj Z h2 a "com/example/pledgebook/pledgebook/model/LedgerMonth" [("com/example/pledgebook/pledgebook/model/LedgerMonth", "month", "Ljava/time/YearMonth;", (.ref y)), ("com/example/pledgebook/pledgebook/model/LedgerMonth", "grossRevenues", "Ljava/math/BigDecimal;", .null), ("com/example/pledgebook/pledgebook/model/LedgerMonth", "operatingExpenses", "Ljava/math/BigDecimal;", .null)] := F_a.put 0 rfl W2
  clear W2
  refine o_aloadN P (hb hby dt11_9) rfl rfl (pc' := 10) rfl ?_
  refine o_aloadN P (hb hby dt11_10) rfl rfl (pc' := 11) rfl ?_
  refine o_putF P (v' := .null) (ty := (.object "java/math/BigDecimal")) (ow hw 77 rfl) Via.refl (F_a.fld 1 rfl) F_a.exa (Or.inr ⟨(ow hw 78 rfl), rfl, hnm⟩) (ow hw 64 rfl) (by decide) rfl rfl (List.Mem.head _) (hb hby dt11_11) (pc' := 14) rfl ?_
  clear P; intro T h3 P W3
  replace F_a : OObj Z h3 a "com/example/pledgebook/pledgebook/model/LedgerMonth" [("com/example/pledgebook/pledgebook/model/LedgerMonth", "month", "Ljava/time/YearMonth;", (.ref y)), ("com/example/pledgebook/pledgebook/model/LedgerMonth", "grossRevenues", "Ljava/math/BigDecimal;", .null), ("com/example/pledgebook/pledgebook/model/LedgerMonth", "operatingExpenses", "Ljava/math/BigDecimal;", .null)] := F_a.put 1 rfl W3
  clear W3
  refine o_aloadN P (hb hby dt11_14) rfl rfl (pc' := 15) rfl ?_
  refine o_aloadN P (hb hby dt11_15) rfl rfl (pc' := 16) rfl ?_
  refine o_putF P (v' := .null) (ty := (.object "java/math/BigDecimal")) (ow hw 79 rfl) Via.refl (F_a.fld 2 rfl) F_a.exa (Or.inr ⟨(ow hw 80 rfl), rfl, hnm⟩) (ow hw 64 rfl) (by decide) rfl rfl (List.Mem.head _) (hb hby dt11_16) (pc' := 19) rfl ?_
  clear P; intro T h4 P W4
  replace F_a : OObj Z h4 a "com/example/pledgebook/pledgebook/model/LedgerMonth" [("com/example/pledgebook/pledgebook/model/LedgerMonth", "month", "Ljava/time/YearMonth;", (.ref y)), ("com/example/pledgebook/pledgebook/model/LedgerMonth", "grossRevenues", "Ljava/math/BigDecimal;", .null), ("com/example/pledgebook/pledgebook/model/LedgerMonth", "operatingExpenses", "Ljava/math/BigDecimal;", .null)] := F_a.put 2 rfl W4
  clear W4
  exact o_ret0 P hret (hb hby dt11_19) (by decide) (by decide) ⟨rfl, F_a⟩
theorem dt12_0 : decode jdk_22_method_1_code 0 = .ok (.aload_n 0, 1) := by decide +kernel
theorem dt12_1 : decode jdk_22_method_1_code 1 = .ok (.invokespecial 1, 3) := by decide +kernel
theorem dt12_4 : decode jdk_22_method_1_code 4 = .ok (.return_, 1) := by decide +kernel
theorem ef_12 (x0 : Addr) (m : MethodId) : entryFrame m #[(.ref x0)] 1 = mkF m 0 #[.val (.ref x0)] [] := by first | (simp [entryFrame, mkF, argsToLocals, o_catR, o_catN, o_catI, o_catJ, o_catD]; done) | rfl
theorem pn_6 : plainName "java/util/AbstractCollection" = true := by first | (simp [plainName, overriddenIn]; done) | decide +kernel
set_option maxRecDepth 65536 in
set_option maxHeartbeats 40000000 in
theorem ct_aci (l : Launch) (Z : State) (a0 : Array Value) (hw : ∀ d ∈ tables_1, d.before a0 Z = true) (EL : List (String × Nat)) (n0 : Nat) (a : Addr) (h0 : Heap) :
    OCt l Z a0 EL n0 (⟨"java/util/AbstractCollection", "<init>", "()V"⟩ : MethodName) jdk_22_method_1_code 1 none ({ frames := 1, cells := 0, slots := 0, locals := 12 } : Room) [] #[(.ref a)] h0 [] (fun w vm h => w = none ∧ h = h0) := by
  refine OCt.body (plainFor_of_name pn_6) (ef_12 a) ?_
  intro p e s m below meth c T hby hml hret hnm hsh P
  refine o_aloadN P (hb hby dt12_0) rfl rfl (pc' := 1) rfl ?_
  refine o_initO P (W := 0) (ow hw 99 rfl) (ow hw 57 rfl) (ow hw 58 rfl) (by rw [hml]; rfl) (by decide) (Nat.le_of_eq rfl) (by decide) (hb hby dt12_1) (pc' := 4) rfl ?_
  clear P; intro T P
  exact o_ret0 P hret (hb hby dt12_4) (by decide) (by decide) ⟨rfl, rfl⟩
theorem dt13_0 : decode jdk_39_method_1_code 0 = .ok (.aload_n 0, 1) := by decide +kernel
theorem dt13_1 : decode jdk_39_method_1_code 1 = .ok (.invokespecial 1, 3) := by decide +kernel
theorem dt13_4 : decode jdk_39_method_1_code 4 = .ok (.aload_n 0, 1) := by decide +kernel
theorem dt13_5 : decode jdk_39_method_1_code 5 = .ok (.iconst 0, 1) := by decide +kernel
theorem dt13_6 : decode jdk_39_method_1_code 6 = .ok (.putfield 7, 3) := by decide +kernel
theorem dt13_9 : decode jdk_39_method_1_code 9 = .ok (.return_, 1) := by decide +kernel
theorem ef_13 (x0 : Addr) (m : MethodId) : entryFrame m #[(.ref x0)] 1 = mkF m 0 #[.val (.ref x0)] [] := by first | (simp [entryFrame, mkF, argsToLocals, o_catR, o_catN, o_catI, o_catJ, o_catD]; done) | rfl
theorem pn_7 : plainName "java/util/AbstractList" = true := by first | (simp [plainName, overriddenIn]; done) | decide +kernel
set_option maxRecDepth 65536 in
set_option maxHeartbeats 40000000 in
theorem ct_abi (l : Launch) (Z : State) (a0 : Array Value) (hw : ∀ d ∈ tables_1, d.before a0 Z = true) (EL : List (String × Nat)) (n0 : Nat) (a : Addr) (h0 : Heap) (F_a : OObj Z h0 a "java/util/ArrayList" [("java/util/AbstractList", "modCount", "I", (.int (0 : Int32))), ("java/util/ArrayList", "elementData", "[Ljava/lang/Object;", .null), ("java/util/ArrayList", "size", "I", (.int (0 : Int32)))]) :
    OCt l Z a0 EL n0 (⟨"java/util/AbstractList", "<init>", "()V"⟩ : MethodName) jdk_39_method_1_code 1 none ({ frames := 2, cells := 0, slots := 0, locals := 24 } : Room) [] #[(.ref a)] h0 [a] (fun w vm h => w = none ∧ OObj Z h a "java/util/ArrayList" [("java/util/AbstractList", "modCount", "I", (.int (0 : Int32))), ("java/util/ArrayList", "elementData", "[Ljava/lang/Object;", .null), ("java/util/ArrayList", "size", "I", (.int (0 : Int32)))]) := by
  refine OCt.body (plainFor_of_name pn_7) (ef_13 a) ?_
  intro p e s m below meth c T hby hml hret hnm hsh P
  refine o_aloadN P (hb hby dt13_0) rfl rfl (pc' := 1) rfl ?_
  refine o_callI P (W := 0) (a := a) rfl (ow hw 93 rfl) (ow hw 94 rfl) (ow hw 97 rfl) (ow hw 98 rfl) (by decide) (ct_aci l Z a0 hw EL n0 a h0) o_sf0 (by rw [hml]; rfl) (by decide) (by decide) (argsL := []) (rest := []) (lenOf pd_7 rfl) rfl rfl (Nat.le_of_eq rfl) (hb hby dt13_1) (pc' := 4) rfl (by decide) (by decide) ?_
  clear P; intro T h1 v1 P K1 q1
  obtain ⟨rfl, rfl⟩ := q1; clear K1
  show OG p e below m _ T 4 #[.val (.ref a)] []
  refine o_aloadN P (hb hby dt13_4) rfl rfl (pc' := 5) rfl ?_
  refine o_iconst P (0 : Int32) (hb hby dt13_5) rfl (pc' := 6) rfl ?_
  refine o_putF P (v' := (.int (0 : Int32))) (ty := .int) (ow hw 100 rfl) Via.refl (F_a.fld 0 rfl) F_a.exa (Or.inl (ow hw 101 rfl)) (ow hw 82 rfl) (by decide) rfl rfl (List.Mem.head _) (hb hby dt13_6) (pc' := 9) rfl ?_
  clear P; intro T h2 P W2
  replace F_a : OObj Z h2 a "java/util/ArrayList" [("java/util/AbstractList", "modCount", "I", (.int (0 : Int32))), ("java/util/ArrayList", "elementData", "[Ljava/lang/Object;", .null), ("java/util/ArrayList", "size", "I", (.int (0 : Int32)))] := F_a.put 0 rfl W2
  clear W2
  exact o_ret0 P hret (hb hby dt13_9) (by decide) (by decide) ⟨rfl, F_a⟩
theorem dt14_0 : decode jdk_38_method_2_code 0 = .ok (.aload_n 0, 1) := by decide +kernel
theorem dt14_1 : decode jdk_38_method_2_code 1 = .ok (.invokespecial 1, 3) := by decide +kernel
theorem dt14_4 : decode jdk_38_method_2_code 4 = .ok (.aload_n 0, 1) := by decide +kernel
theorem dt14_5 : decode jdk_38_method_2_code 5 = .ok (.getstatic 39, 3) := by decide +kernel
theorem dt14_8 : decode jdk_38_method_2_code 8 = .ok (.putfield 9, 3) := by decide +kernel
theorem dt14_11 : decode jdk_38_method_2_code 11 = .ok (.return_, 1) := by decide +kernel
theorem ef_14 (x0 : Addr) (m : MethodId) : entryFrame m #[(.ref x0)] 1 = mkF m 0 #[.val (.ref x0)] [] := by first | (simp [entryFrame, mkF, argsToLocals, o_catR, o_catN, o_catI, o_catJ, o_catD]; done) | rfl
theorem pn_8 : plainName "java/util/ArrayList" = true := by first | (simp [plainName, overriddenIn]; done) | decide +kernel
set_option maxRecDepth 65536 in
set_option maxHeartbeats 40000000 in
theorem ct_ali (l : Launch) (Z : State) (a0 : Array Value) (hw : ∀ d ∈ tables_1, d.before a0 Z = true) (EL : List (String × Nat)) (n0 : Nat) (a : Addr) (de : Addr) (hde : Sta Z Z.heap "java/util/ArrayList" "DEFAULTCAPACITY_EMPTY_ELEMENTDATA" "[Ljava/lang/Object;" (.ref de)) (Ade : OArr Z Z.heap de (.object "java/lang/Object") []) (h0 : Heap) (F_a : OObj Z h0 a "java/util/ArrayList" [("java/util/AbstractList", "modCount", "I", (.int (0 : Int32))), ("java/util/ArrayList", "elementData", "[Ljava/lang/Object;", .null), ("java/util/ArrayList", "size", "I", (.int (0 : Int32)))]) :
    OCt l Z a0 EL n0 (⟨"java/util/ArrayList", "<init>", "()V"⟩ : MethodName) jdk_38_method_2_code 1 none ({ frames := 3, cells := 0, slots := 0, locals := 36 } : Room) [] #[(.ref a)] h0 [a] (fun w vm h => w = none ∧ OObj Z h a "java/util/ArrayList" [("java/util/AbstractList", "modCount", "I", (.int (0 : Int32))), ("java/util/ArrayList", "elementData", "[Ljava/lang/Object;", (.ref de)), ("java/util/ArrayList", "size", "I", (.int (0 : Int32)))]) := by
  refine OCt.body (plainFor_of_name pn_8) (ef_14 a) ?_
  intro p e s m below meth c T hby hml hret hnm hsh P
  refine o_aloadN P (hb hby dt14_0) rfl rfl (pc' := 1) rfl ?_
  refine o_callI P (W := 0) (a := a) rfl (ow hw 87 rfl) (ow hw 88 rfl) (ow hw 91 rfl) (ow hw 92 rfl) (by decide) (ct_abi l Z a0 hw EL n0 a h0 F_a) (o_sfS (List.Mem.head _) o_sf0) (by rw [hml]; rfl) (by decide) (by decide) (argsL := []) (rest := []) (lenOf pd_7 rfl) rfl rfl (Nat.le_of_eq rfl) (hb hby dt14_1) (pc' := 4) rfl (by decide) (by decide) ?_
  clear P; intro T h1 v1 P K1 q1
  obtain ⟨rfl, F'⟩ := q1; replace F_a := F'; clear F'; clear K1
  show OG p e below m _ T 4 #[.val (.ref a)] []
  refine o_aloadN P (hb hby dt14_4) rfl rfl (pc' := 5) rfl ?_
  refine o_getS P (ow hw 102 rfl) Via.refl hde (hb hby dt14_5) (pc' := 8) rfl ?_
  clear P; intro T P
  refine o_putF P (v' := (.ref de)) (ty := (.array (.object "java/lang/Object"))) (ow hw 103 rfl) Via.refl (F_a.fld 1 rfl) F_a.exa (Or.inl (ow hw 104 rfl)) (ow hw 82 rfl) (by decide) rfl rfl (List.Mem.head _) (hb hby dt14_8) (pc' := 11) rfl ?_
  clear P; intro T h2 P W2
  replace F_a : OObj Z h2 a "java/util/ArrayList" [("java/util/AbstractList", "modCount", "I", (.int (0 : Int32))), ("java/util/ArrayList", "elementData", "[Ljava/lang/Object;", (.ref de)), ("java/util/ArrayList", "size", "I", (.int (0 : Int32)))] := F_a.put 1 rfl W2
  clear W2
  exact o_ret0 P hret (hb hby dt14_11) (by decide) (by decide) ⟨rfl, F_a⟩
theorem dt15_0 : decode jdk_29_method_65_code 0 = .ok (.iload_n 0, 1) := by decide +kernel
theorem dt15_1 : decode jdk_29_method_65_code 1 = .ok (.iload_n 1, 1) := by decide +kernel
theorem dt15_2 : decode jdk_29_method_65_code 2 = .ok (.if_icmp .lt 7, 3) := by decide +kernel
theorem dt15_5 : decode jdk_29_method_65_code 5 = .ok (.iload_n 0, 1) := by decide +kernel
theorem dt15_6 : decode jdk_29_method_65_code 6 = .ok (.goto 4, 3) := by decide +kernel
theorem dt15_9 : decode jdk_29_method_65_code 9 = .ok (.iload_n 1, 1) := by decide +kernel
theorem dt15_10 : decode jdk_29_method_65_code 10 = .ok (.ireturn, 1) := by decide +kernel
theorem ef_15 (x0 : Int32) (x1 : Int32) (m : MethodId) : entryFrame m #[(.int x0), (.int x1)] 2 = mkF m 0 #[.val (.int x0), .val (.int x1)] [] := by first | (simp [entryFrame, mkF, argsToLocals, o_catR, o_catN, o_catI, o_catJ, o_catD]; done) | rfl
set_option maxRecDepth 65536 in
set_option maxHeartbeats 40000000 in
theorem ct_max (l : Launch) (Z : State) (a0 : Array Value) (hw : ∀ d ∈ tables_1, d.before a0 Z = true) (EL : List (String × Nat)) (n0 : Nat) (h0 : Heap) :
    OCt l Z a0 EL n0 (⟨"java/lang/Math", "max", "(II)I"⟩ : MethodName) jdk_29_method_65_code 2 (some .int) ({ frames := 0, cells := 0, slots := 0, locals := 0 } : Room) [] #[(.int (10 : Int32)), (.int (1 : Int32))] h0 [] (fun w vm h => w = some (.int 10) ∧ h = h0) := by
  refine OCt.body (Jvm.Free.JP.mathPlain rfl (by decide +kernel)) (ef_15 ((10 : Int32)) ((1 : Int32))) ?_
  intro p e s m below meth c T hby hml hret hnm hsh P
  refine o_iloadN P (hb hby dt15_0) rfl (pc' := 1) rfl ?_
  refine o_iloadN P (hb hby dt15_1) rfl (pc' := 2) rfl ?_
  refine o_icmp_lt P (hb hby dt15_2) (by decide) (pc' := 9) (by decide) (pcf := 5) rfl (fun q => absurd q (by decide)) (fun _ => ?_)
  refine o_iloadN P (hb hby dt15_5) rfl (pc' := 6) rfl ?_
  refine o_goto P (hb hby dt15_6) (by decide) (pc' := 10) (by decide) ?_
  exact o_retI P hret (by simp) rfl (hb hby dt15_10) (by decide) (by decide) ⟨rfl, rfl⟩
theorem dt16_0 : decode jdk_38_method_6_code 0 = .ok (.aload_n 0, 1) := by decide +kernel
theorem dt16_1 : decode jdk_38_method_6_code 1 = .ok (.getfield 9, 3) := by decide +kernel
theorem dt16_4 : decode jdk_38_method_6_code 4 = .ok (.arraylength, 1) := by decide +kernel
theorem dt16_5 : decode jdk_38_method_6_code 5 = .ok (.istore_n 2, 1) := by decide +kernel
theorem dt16_6 : decode jdk_38_method_6_code 6 = .ok (.iload_n 2, 1) := by decide +kernel
theorem dt16_7 : decode jdk_38_method_6_code 7 = .ok (.ifCond .gt 13, 3) := by decide +kernel
theorem dt16_10 : decode jdk_38_method_6_code 10 = .ok (.aload_n 0, 1) := by decide +kernel
theorem dt16_11 : decode jdk_38_method_6_code 11 = .ok (.getfield 9, 3) := by decide +kernel
theorem dt16_14 : decode jdk_38_method_6_code 14 = .ok (.getstatic 39, 3) := by decide +kernel
theorem dt16_17 : decode jdk_38_method_6_code 17 = .ok (.if_acmp .eq 28, 3) := by decide +kernel
theorem dt16_20 : decode jdk_38_method_6_code 20 = .ok (.iload_n 2, 1) := by decide +kernel
theorem dt16_21 : decode jdk_38_method_6_code 21 = .ok (.iload_n 1, 1) := by decide +kernel
theorem dt16_22 : decode jdk_38_method_6_code 22 = .ok (.iload_n 2, 1) := by decide +kernel
theorem dt16_23 : decode jdk_38_method_6_code 23 = .ok (.isub, 1) := by decide +kernel
theorem dt16_24 : decode jdk_38_method_6_code 24 = .ok (.iload_n 2, 1) := by decide +kernel
theorem dt16_25 : decode jdk_38_method_6_code 25 = .ok (.iconst 1, 1) := by decide +kernel
theorem dt16_26 : decode jdk_38_method_6_code 26 = .ok (.ishr, 1) := by decide +kernel
theorem dt16_27 : decode jdk_38_method_6_code 27 = .ok (.invokestatic 73, 3) := by decide +kernel
theorem dt16_30 : decode jdk_38_method_6_code 30 = .ok (.istore_n 3, 1) := by decide +kernel
theorem dt16_31 : decode jdk_38_method_6_code 31 = .ok (.aload_n 0, 1) := by decide +kernel
theorem dt16_32 : decode jdk_38_method_6_code 32 = .ok (.aload_n 0, 1) := by decide +kernel
theorem dt16_33 : decode jdk_38_method_6_code 33 = .ok (.getfield 9, 3) := by decide +kernel
theorem dt16_36 : decode jdk_38_method_6_code 36 = .ok (.iload_n 3, 1) := by decide +kernel
theorem dt16_37 : decode jdk_38_method_6_code 37 = .ok (.invokestatic 66, 3) := by decide +kernel
theorem dt16_40 : decode jdk_38_method_6_code 40 = .ok (.dup_x1, 1) := by decide +kernel
theorem dt16_41 : decode jdk_38_method_6_code 41 = .ok (.putfield 9, 3) := by decide +kernel
theorem dt16_44 : decode jdk_38_method_6_code 44 = .ok (.areturn, 1) := by decide +kernel
theorem dt16_45 : decode jdk_38_method_6_code 45 = .ok (.aload_n 0, 1) := by decide +kernel
theorem dt16_46 : decode jdk_38_method_6_code 46 = .ok (.bipush 10, 2) := by decide +kernel
theorem dt16_48 : decode jdk_38_method_6_code 48 = .ok (.iload_n 1, 1) := by decide +kernel
theorem dt16_49 : decode jdk_38_method_6_code 49 = .ok (.invokestatic 79, 3) := by decide +kernel
theorem dt16_52 : decode jdk_38_method_6_code 52 = .ok (.anewarray 7, 3) := by decide +kernel
theorem dt16_55 : decode jdk_38_method_6_code 55 = .ok (.dup_x1, 1) := by decide +kernel
theorem dt16_56 : decode jdk_38_method_6_code 56 = .ok (.putfield 9, 3) := by decide +kernel
theorem dt16_59 : decode jdk_38_method_6_code 59 = .ok (.areturn, 1) := by decide +kernel
theorem ef_16 (x0 : Addr) (x1 : Int32) (m : MethodId) : entryFrame m #[(.ref x0), (.int x1)] 4 = mkF m 0 #[.val (.ref x0), .val (.int x1), .unset, .unset] [] := by first | (simp [entryFrame, mkF, argsToLocals, o_catR, o_catN, o_catI, o_catJ, o_catD]; done) | rfl
set_option maxRecDepth 65536 in
set_option maxHeartbeats 40000000 in
theorem ct_grow1 (l : Launch) (Z : State) (a0 : Array Value) (hw : ∀ d ∈ tables_1, d.before a0 Z = true) (EL : List (String × Nat)) (n0 : Nat) (a : Addr) (mc : Int32) (de : Addr) (hde : Sta Z Z.heap "java/util/ArrayList" "DEFAULTCAPACITY_EMPTY_ELEMENTDATA" "[Ljava/lang/Object;" (.ref de)) (Ade : OArr Z Z.heap de (.object "java/lang/Object") []) (h0 : Heap) (F_a : OObj Z h0 a "java/util/ArrayList" [("java/util/AbstractList", "modCount", "I", (.int mc)), ("java/util/ArrayList", "elementData", "[Ljava/lang/Object;", (.ref de)), ("java/util/ArrayList", "size", "I", (.int (0 : Int32)))]) :
    OCt l Z a0 EL n0 (⟨"java/util/ArrayList", "grow", "(I)[Ljava/lang/Object;"⟩ : MethodName) jdk_38_method_6_code 4 (some (.array (.object "java/lang/Object"))) ({ frames := 1, cells := 1, slots := 10, locals := 16 } : Room) [] #[(.ref a), (.int (1 : Int32))] h0 [a] (fun w vm h => ∃ d : Addr, w = some (.ref d) ∧ h0.size ≤ d ∧ OObj Z h a "java/util/ArrayList" [("java/util/AbstractList", "modCount", "I", (.int mc)), ("java/util/ArrayList", "elementData", "[Ljava/lang/Object;", (.ref d)), ("java/util/ArrayList", "size", "I", (.int (0 : Int32)))] ∧ OArr Z h d (.object "java/lang/Object") [.null, .null, .null, .null, .null, .null, .null, .null, .null, .null] ∧ OAr Z h d "java/lang/Object" "[Ljava/lang/Object;") := by
  refine OCt.body (plainFor_of_name pn_8) (ef_16 a ((1 : Int32))) ?_
  intro p e s m below meth c T hby hml hret hnm hsh P
  have hO := P.old
  refine o_aloadN P (hb hby dt16_0) rfl rfl (pc' := 1) rfl ?_
  refine o_getF P (ow hw 103 rfl) Via.refl (F_a.fld 1 rfl) (hb hby dt16_1) (pc' := 4) rfl ?_
  clear P; intro T P
  refine o_arrlen P (Ade.ext hO.2) (hb hby dt16_4) (n := (0 : Int32)) rfl (pc' := 5) rfl ?_
  refine o_istoreN P (hb hby dt16_5) (L' := #[.val (.ref a), .val (.int (1 : Int32)), .val (.int (0 : Int32)), .unset]) rfl (pc' := 6) rfl ?_
  refine o_iloadN P (hb hby dt16_6) rfl (pc' := 7) rfl ?_
  refine o_if_gt P (hb hby dt16_7) (by decide) (pc' := 20) (by decide) (pcf := 10) rfl (fun q => absurd q (by decide)) (fun _ => ?_)
  refine o_aloadN P (hb hby dt16_10) rfl rfl (pc' := 11) rfl ?_
  refine o_getF P (ow hw 103 rfl) Via.refl (F_a.fld 1 rfl) (hb hby dt16_11) (pc' := 14) rfl ?_
  clear P; intro T P
  refine o_getS P (ow hw 102 rfl) Via.refl hde (hb hby dt16_14) (pc' := 17) rfl ?_
  clear P; intro T P
  refine o_acmp P true (hb hby dt16_17) rfl rfl (decide_eq_true rfl) (by decide) (pc' := 45) rfl ?_
  refine o_aloadN P (hb hby dt16_45) rfl rfl (pc' := 46) rfl ?_
  refine o_bipush P (10 : Int32) (hb hby dt16_46) rfl (pc' := 48) rfl ?_
  refine o_iloadN P (hb hby dt16_48) rfl (pc' := 49) rfl ?_
  refine o_callS P (W := 1) (ow hw 129 rfl) (ow hw 130 rfl) (ow hw 131 rfl) (ow hw 132 rfl) (by decide) (ct_max l Z a0 hw EL n0 h0) o_sf0 (by rw [hml]; rfl) (by decide) (by decide) (argsL := [(.int (10 : Int32)), (.int (1 : Int32))]) (rest := [(.ref a)]) (lenOf pd_8 rfl) rfl rfl (Nat.le_of_eq rfl) (hb hby dt16_49) (pc' := 52) rfl (by decide) (by decide) ?_
  clear P; intro T h1 v1 P K1 q1
  obtain ⟨rfl, rfl⟩ := q1; clear K1
  show OG p e below m _ T 52 #[.val (.ref a), .val (.int (1 : Int32)), .val (.int (0 : Int32)), .unset] [(.int (10 : Int32)), (.ref a)]
  have hz_d := P.keep0.1
  refine o_anewarrE P (N := "[Ljava/lang/Object;") (cap := 10) (ow hw 133 rfl) (ow hw 134 rfl) (by decide) (hb hby dt16_52) (by decide) (by decide) (by decide) (pc' := 55) rfl (by decide) (by decide) ?_
  clear P; intro T h2 d P K2 hb_d A_d O_d
  have sz_d := Nat.le_trans hz_d hb_d
  clear hz_d
  have ne_a_d : a ≠ d := Nat.ne_of_lt (Nat.lt_of_lt_of_le F_a.lt hb_d)
  replace F_a := F_a.keep K2 nin0
  clear K2
  replace A_d : OArr Z h2 d (.object "java/lang/Object") [.null, .null, .null, .null, .null, .null, .null, .null, .null, .null] := A_d
  refine o_dupX1 P (hb hby dt16_55) rfl rfl (pc' := 56) rfl ?_
  refine o_putF P (v' := (.ref d)) (ty := (.array (.object "java/lang/Object"))) (ow hw 103 rfl) Via.refl (F_a.fld 1 rfl) F_a.exa (Or.inl (ow hw 104 rfl)) (ow hw 82 rfl) (by decide) rfl rfl (List.Mem.tail _ (List.Mem.head _)) (hb hby dt16_56) (pc' := 59) rfl ?_
  clear P; intro T h3 P W3
  replace A_d := A_d.oth W3 (Ne.symm ne_a_d)
  replace O_d := O_d.keep (Keep.of_wr W3)
  replace F_a : OObj Z h3 a "java/util/ArrayList" [("java/util/AbstractList", "modCount", "I", (.int mc)), ("java/util/ArrayList", "elementData", "[Ljava/lang/Object;", (.ref d)), ("java/util/ArrayList", "size", "I", (.int (0 : Int32)))] := F_a.put 1 rfl W3
  clear W3
  exact o_retA P hret rfl rfl rfl (hb hby dt16_59) (by decide) (by decide) ⟨d, rfl, hsh ▸ sz_d, F_a, A_d, O_d⟩
theorem dt17_0 : decode jdk_38_method_7_code 0 = .ok (.aload_n 0, 1) := by decide +kernel
theorem dt17_1 : decode jdk_38_method_7_code 1 = .ok (.aload_n 0, 1) := by decide +kernel
theorem dt17_2 : decode jdk_38_method_7_code 2 = .ok (.getfield 48, 3) := by decide +kernel
theorem dt17_5 : decode jdk_38_method_7_code 5 = .ok (.iconst 1, 1) := by decide +kernel
theorem dt17_6 : decode jdk_38_method_7_code 6 = .ok (.iadd, 1) := by decide +kernel
theorem dt17_7 : decode jdk_38_method_7_code 7 = .ok (.invokevirtual 69, 3) := by decide +kernel
theorem dt17_10 : decode jdk_38_method_7_code 10 = .ok (.areturn, 1) := by decide +kernel
theorem ef_17 (x0 : Addr) (m : MethodId) : entryFrame m #[(.ref x0)] 1 = mkF m 0 #[.val (.ref x0)] [] := by first | (simp [entryFrame, mkF, argsToLocals, o_catR, o_catN, o_catI, o_catJ, o_catD]; done) | rfl
set_option maxRecDepth 65536 in
set_option maxHeartbeats 40000000 in
theorem ct_grow (l : Launch) (Z : State) (a0 : Array Value) (hw : ∀ d ∈ tables_1, d.before a0 Z = true) (EL : List (String × Nat)) (n0 : Nat) (a : Addr) (mc : Int32) (de : Addr) (hde : Sta Z Z.heap "java/util/ArrayList" "DEFAULTCAPACITY_EMPTY_ELEMENTDATA" "[Ljava/lang/Object;" (.ref de)) (Ade : OArr Z Z.heap de (.object "java/lang/Object") []) (h0 : Heap) (F_a : OObj Z h0 a "java/util/ArrayList" [("java/util/AbstractList", "modCount", "I", (.int mc)), ("java/util/ArrayList", "elementData", "[Ljava/lang/Object;", (.ref de)), ("java/util/ArrayList", "size", "I", (.int (0 : Int32)))]) :
    OCt l Z a0 EL n0 (⟨"java/util/ArrayList", "grow", "()[Ljava/lang/Object;"⟩ : MethodName) jdk_38_method_7_code 1 (some (.array (.object "java/lang/Object"))) ({ frames := 2, cells := 1, slots := 10, locals := 32 } : Room) [] #[(.ref a)] h0 [a] (fun w vm h => ∃ d : Addr, w = some (.ref d) ∧ h0.size ≤ d ∧ OObj Z h a "java/util/ArrayList" [("java/util/AbstractList", "modCount", "I", (.int mc)), ("java/util/ArrayList", "elementData", "[Ljava/lang/Object;", (.ref d)), ("java/util/ArrayList", "size", "I", (.int (0 : Int32)))] ∧ OArr Z h d (.object "java/lang/Object") [.null, .null, .null, .null, .null, .null, .null, .null, .null, .null] ∧ OAr Z h d "java/lang/Object" "[Ljava/lang/Object;") := by
  refine OCt.body (plainFor_of_name pn_8) (ef_17 a) ?_
  intro p e s m below meth c T hby hml hret hnm hsh P
  refine o_aloadN P (hb hby dt17_0) rfl rfl (pc' := 1) rfl ?_
  refine o_aloadN P (hb hby dt17_1) rfl rfl (pc' := 2) rfl ?_
  refine o_getF P (ow hw 112 rfl) Via.refl (F_a.fld 2 rfl) (hb hby dt17_2) (pc' := 5) rfl ?_
  clear P; intro T P
  refine o_iconst P (1 : Int32) (hb hby dt17_5) rfl (pc' := 6) rfl ?_
  refine o_iadd P (hb hby dt17_6) (pc' := 7) rfl ?_
  show OG p e below m _ T 7 #[.val (.ref a)] [(.int (1 : Int32)), (.ref a)]
  refine o_callP P (W := 0) (a := a) (ow hw 124 rfl) (ow hw 125 rfl) (ow hw 127 rfl) (ow hw 126 rfl) (ow hw 83 rfl) (ow hw 128 rfl) (by decide) F_a.exa (ct_grow1 l Z a0 hw EL n0 a mc de hde Ade h0 F_a) (o_sfS (List.Mem.head _) o_sf0) (by rw [hml]; rfl) (by decide) (by decide) (argsL := [(.int (1 : Int32))]) (rest := []) (lenOf pd_9 rfl) rfl rfl (Nat.le_of_eq rfl) (hb hby dt17_7) (pc' := 10) rfl (by decide) (by decide) ?_
  clear P; intro T h1 v1 P K1 q1
  obtain ⟨d, rfl, g1, F', A', O'⟩ := q1
  show OG p e below m _ T 10 #[.val (.ref a)] [(.ref d)]
  exact o_retA P hret rfl rfl rfl (hb hby dt17_10) (by decide) (by decide) ⟨d, rfl, g1, F', A', O'⟩
theorem dt18_0 : decode jdk_38_method_24_code 0 = .ok (.iload_n 3, 1) := by decide +kernel
theorem dt18_1 : decode jdk_38_method_24_code 1 = .ok (.aload_n 2, 1) := by decide +kernel
theorem dt18_2 : decode jdk_38_method_24_code 2 = .ok (.arraylength, 1) := by decide +kernel
theorem dt18_3 : decode jdk_38_method_24_code 3 = .ok (.if_icmp .ne 8, 3) := by decide +kernel
theorem dt18_6 : decode jdk_38_method_24_code 6 = .ok (.aload_n 0, 1) := by decide +kernel
theorem dt18_7 : decode jdk_38_method_24_code 7 = .ok (.invokevirtual 129, 3) := by decide +kernel
theorem dt18_10 : decode jdk_38_method_24_code 10 = .ok (.astore_n 2, 1) := by decide +kernel
theorem dt18_11 : decode jdk_38_method_24_code 11 = .ok (.aload_n 2, 1) := by decide +kernel
theorem dt18_12 : decode jdk_38_method_24_code 12 = .ok (.iload_n 3, 1) := by decide +kernel
theorem dt18_13 : decode jdk_38_method_24_code 13 = .ok (.aload_n 1, 1) := by decide +kernel
theorem dt18_14 : decode jdk_38_method_24_code 14 = .ok (.aastore, 1) := by decide +kernel
theorem dt18_15 : decode jdk_38_method_24_code 15 = .ok (.aload_n 0, 1) := by decide +kernel
theorem dt18_16 : decode jdk_38_method_24_code 16 = .ok (.iload_n 3, 1) := by decide +kernel
theorem dt18_17 : decode jdk_38_method_24_code 17 = .ok (.iconst 1, 1) := by decide +kernel
theorem dt18_18 : decode jdk_38_method_24_code 18 = .ok (.iadd, 1) := by decide +kernel
theorem dt18_19 : decode jdk_38_method_24_code 19 = .ok (.putfield 48, 3) := by decide +kernel
theorem dt18_22 : decode jdk_38_method_24_code 22 = .ok (.return_, 1) := by decide +kernel
theorem ef_18 (x0 : Addr) (x1 : Addr) (x2 : Addr) (x3 : Int32) (m : MethodId) : entryFrame m #[(.ref x0), (.ref x1), (.ref x2), (.int x3)] 4 = mkF m 0 #[.val (.ref x0), .val (.ref x1), .val (.ref x2), .val (.int x3)] [] := by first | (simp [entryFrame, mkF, argsToLocals, o_catR, o_catN, o_catI, o_catJ, o_catD]; done) | rfl
set_option maxRecDepth 65536 in
set_option maxHeartbeats 40000000 in
theorem ct_add3_0 (l : Launch) (Z : State) (a0 : Array Value) (hw : ∀ d ∈ tables_1, d.before a0 Z = true) (EL : List (String × Nat)) (n0 : Nat) (a y : Addr) (mc : Int32) (de : Addr) (hde : Sta Z Z.heap "java/util/ArrayList" "DEFAULTCAPACITY_EMPTY_ELEMENTDATA" "[Ljava/lang/Object;" (.ref de)) (Ade : OArr Z Z.heap de (.object "java/lang/Object") []) (h0 : Heap) (F_a : OObj Z h0 a "java/util/ArrayList" [("java/util/AbstractList", "modCount", "I", (.int mc)), ("java/util/ArrayList", "elementData", "[Ljava/lang/Object;", (.ref de)), ("java/util/ArrayList", "size", "I", (.int (0 : Int32)))]) (F_y : OObj Z h0 y "com/example/pledgebook/pledgebook/model/LedgerMonth" []) (ne_a_y : a ≠ y) :
    OCt l Z a0 EL n0 (⟨"java/util/ArrayList", "add", "(Ljava/lang/Object;[Ljava/lang/Object;I)V"⟩ : MethodName) jdk_38_method_24_code 4 none ({ frames := 3, cells := 1, slots := 10, locals := 44 } : Room) [] #[(.ref a), (.ref y), (.ref de), (.int (0 : Int32))] h0 [a] (fun w vm h => w = none ∧ ∃ d : Addr, h0.size ≤ d ∧ OObj Z h a "java/util/ArrayList" [("java/util/AbstractList", "modCount", "I", (.int mc)), ("java/util/ArrayList", "elementData", "[Ljava/lang/Object;", (.ref d)), ("java/util/ArrayList", "size", "I", (.int (1 : Int32)))] ∧ OArr Z h d (.object "java/lang/Object") [(.ref y), .null, .null, .null, .null, .null, .null, .null, .null, .null] ∧ OAr Z h d "java/lang/Object" "[Ljava/lang/Object;") := by
  refine OCt.body (plainFor_of_name pn_8) (ef_18 a y de ((0 : Int32))) ?_
  intro p e s m below meth c T hby hml hret hnm hsh P
  have hO := P.old
  refine o_iloadN P (hb hby dt18_0) rfl (pc' := 1) rfl ?_
  refine o_aloadN P (hb hby dt18_1) rfl rfl (pc' := 2) rfl ?_
  refine o_arrlen P (Ade.ext hO.2) (hb hby dt18_2) (n := (0 : Int32)) rfl (pc' := 3) rfl ?_
  refine o_icmp_ne P (hb hby dt18_3) (by decide) (pc' := 11) (by decide) (pcf := 6) rfl (fun q => absurd (by decide) q) (fun _ => ?_)
  refine o_aloadN P (hb hby dt18_6) rfl rfl (pc' := 7) rfl ?_
  have hn_d := P.n0le; have hk_d := P.keep0.1
  refine o_callP P (W := 0) (a := a) (ow hw 119 rfl) (ow hw 120 rfl) (ow hw 122 rfl) (ow hw 121 rfl) (ow hw 83 rfl) (ow hw 123 rfl) (by decide) F_a.exa (ct_grow l Z a0 hw EL n0 a mc de hde Ade h0 F_a) (o_sfS (List.Mem.head _) o_sf0) (by rw [hml]; rfl) (by decide) (by decide) (argsL := []) (rest := []) (lenOf pd_10 rfl) rfl rfl (Nat.le_of_eq rfl) (hb hby dt18_7) (pc' := 10) rfl (by decide) (by decide) ?_
  clear P; intro T h1 v1 P K1 q1
  obtain ⟨d, rfl, g1, F', A_d, O_d⟩ := q1
  have ne_y_d : y ≠ d := Nat.ne_of_lt (Nat.lt_of_lt_of_le F_y.lt g1)
  have ne_a_d : a ≠ d := Nat.ne_of_lt (Nat.lt_of_lt_of_le F_a.lt g1)
  replace F_y := F_y.keep K1 (ninS (Ne.symm ne_a_y) nin0)
  replace F_a := F'; clear F'
  show OG p e below m _ T 10 #[.val (.ref a), .val (.ref y), .val (.ref de), .val (.int (0 : Int32))] [(.ref d)]
  replace P := P.moreA A_d (fun q => by cases q) (Nat.le_trans hn_d g1) (Nat.le_trans hk_d g1)
  refine o_astoreN P (hb hby dt18_10) rfl (L' := #[.val (.ref a), .val (.ref y), .val (.ref d), .val (.int (0 : Int32))]) rfl (pc' := 11) rfl ?_
  refine o_aloadN P (hb hby dt18_11) rfl rfl (pc' := 12) rfl ?_
  refine o_iloadN P (hb hby dt18_12) rfl (pc' := 13) rfl ?_
  refine o_aloadN P (hb hby dt18_13) rfl rfl (pc' := 14) rfl ?_
  refine o_aastore P A_d (List.Mem.head _) rfl (O_d.sto A_d (Ins.of_exa F_y.exa (ow hw 135 rfl))) rfl (by decide) (of_decide_eq_true rfl) (hb hby dt18_14) (pc' := 15) rfl ?_
  clear P; clear A_d; intro T h2 P W2 A_d
  replace F_a := F_a.oth W2 ne_a_d
  replace F_y := F_y.oth W2 ne_y_d
  replace O_d := O_d.keep (Keep.of_wr W2)
  clear W2
  replace A_d : OArr Z h2 d (.object "java/lang/Object") [(.ref y), .null, .null, .null, .null, .null, .null, .null, .null, .null] := A_d
  refine o_aloadN P (hb hby dt18_15) rfl rfl (pc' := 16) rfl ?_
  refine o_iloadN P (hb hby dt18_16) rfl (pc' := 17) rfl ?_
  refine o_iconst P (1 : Int32) (hb hby dt18_17) rfl (pc' := 18) rfl ?_
  refine o_iadd P (hb hby dt18_18) (pc' := 19) rfl ?_
  show OG p e below m _ T 19 #[.val (.ref a), .val (.ref y), .val (.ref d), .val (.int (0 : Int32))] [(.int (1 : Int32)), (.ref a)]
  refine o_putF P (v' := (.int (1 : Int32))) (ty := .int) (ow hw 112 rfl) Via.refl (F_a.fld 2 rfl) F_a.exa (Or.inl (ow hw 113 rfl)) (ow hw 82 rfl) (by decide) rfl rfl (List.Mem.tail _ (List.Mem.head _)) (hb hby dt18_19) (pc' := 22) rfl ?_
  clear P; intro T h3 P W3
  replace F_y := F_y.oth W3 (Ne.symm ne_a_y)
  replace A_d := A_d.oth W3 (Ne.symm ne_a_d)
  replace O_d := O_d.keep (Keep.of_wr W3)
  replace F_a : OObj Z h3 a "java/util/ArrayList" [("java/util/AbstractList", "modCount", "I", (.int mc)), ("java/util/ArrayList", "elementData", "[Ljava/lang/Object;", (.ref d)), ("java/util/ArrayList", "size", "I", (.int (1 : Int32)))] := F_a.put 2 rfl W3
  clear W3
  exact o_ret0 P hret (hb hby dt18_22) (by decide) (by decide) ⟨rfl, d, g1, F_a, A_d, O_d⟩
theorem ef_19 (x0 : Addr) (x1 : Addr) (x2 : Addr) (x3 : Int32) (m : MethodId) : entryFrame m #[(.ref x0), (.ref x1), (.ref x2), (.int x3)] 4 = mkF m 0 #[.val (.ref x0), .val (.ref x1), .val (.ref x2), .val (.int x3)] [] := by first | (simp [entryFrame, mkF, argsToLocals, o_catR, o_catN, o_catI, o_catJ, o_catD]; done) | rfl
set_option maxRecDepth 65536 in
set_option maxHeartbeats 40000000 in
theorem ct_add3_1 (l : Launch) (Z : State) (a0 : Array Value) (hw : ∀ d ∈ tables_1, d.before a0 Z = true) (EL : List (String × Nat)) (n0 : Nat) (a y d r0 : Addr) (mc : Int32) (h0 : Heap) (F_a : OObj Z h0 a "java/util/ArrayList" [("java/util/AbstractList", "modCount", "I", (.int mc)), ("java/util/ArrayList", "elementData", "[Ljava/lang/Object;", (.ref d)), ("java/util/ArrayList", "size", "I", (.int (1 : Int32)))]) (A_d : OArr Z h0 d (.object "java/lang/Object") [(.ref r0), .null, .null, .null, .null, .null, .null, .null, .null, .null]) (O_d : OAr Z h0 d "java/lang/Object" "[Ljava/lang/Object;") (F_y : OObj Z h0 y "com/example/pledgebook/pledgebook/model/LedgerMonth" []) (ne_a_y : a ≠ y) (ne_y_d : y ≠ d) (ne_a_d : a ≠ d) :
    OCt l Z a0 EL n0 (⟨"java/util/ArrayList", "add", "(Ljava/lang/Object;[Ljava/lang/Object;I)V"⟩ : MethodName) jdk_38_method_24_code 4 none ({ frames := 3, cells := 1, slots := 10, locals := 44 } : Room) [] #[(.ref a), (.ref y), (.ref d), (.int (1 : Int32))] h0 [a, d] (fun w vm h => w = none ∧ OObj Z h a "java/util/ArrayList" [("java/util/AbstractList", "modCount", "I", (.int mc)), ("java/util/ArrayList", "elementData", "[Ljava/lang/Object;", (.ref d)), ("java/util/ArrayList", "size", "I", (.int (2 : Int32)))] ∧ OArr Z h d (.object "java/lang/Object") [(.ref r0), (.ref y), .null, .null, .null, .null, .null, .null, .null, .null] ∧ OAr Z h d "java/lang/Object" "[Ljava/lang/Object;") := by
  refine OCt.body (plainFor_of_name pn_8) (ef_19 a y d ((1 : Int32))) ?_
  intro p e s m below meth c T hby hml hret hnm hsh P
  refine o_iloadN P (hb hby dt18_0) rfl (pc' := 1) rfl ?_
  refine o_aloadN P (hb hby dt18_1) rfl rfl (pc' := 2) rfl ?_
  refine o_arrlen P A_d (hb hby dt18_2) (n := (10 : Int32)) rfl (pc' := 3) rfl ?_
  refine o_icmp_ne P (hb hby dt18_3) (by decide) (pc' := 11) (by decide) (pcf := 6) rfl (fun _ => ?_) (fun q => absurd q (by decide))
  refine o_aloadN P (hb hby dt18_11) rfl rfl (pc' := 12) rfl ?_
  refine o_iloadN P (hb hby dt18_12) rfl (pc' := 13) rfl ?_
  refine o_aloadN P (hb hby dt18_13) rfl rfl (pc' := 14) rfl ?_
  refine o_aastore P A_d (List.Mem.tail _ (List.Mem.head _)) rfl (O_d.sto A_d (Ins.of_exa F_y.exa (ow hw 135 rfl))) rfl (by decide) (of_decide_eq_true rfl) (hb hby dt18_14) (pc' := 15) rfl ?_
  clear P; clear A_d; intro T h1 P W1 A_d
  replace F_a := F_a.oth W1 ne_a_d
  replace F_y := F_y.oth W1 ne_y_d
  replace O_d := O_d.keep (Keep.of_wr W1)
  clear W1
  replace A_d : OArr Z h1 d (.object "java/lang/Object") [(.ref r0), (.ref y), .null, .null, .null, .null, .null, .null, .null, .null] := A_d
  refine o_aloadN P (hb hby dt18_15) rfl rfl (pc' := 16) rfl ?_
  refine o_iloadN P (hb hby dt18_16) rfl (pc' := 17) rfl ?_
  refine o_iconst P (1 : Int32) (hb hby dt18_17) rfl (pc' := 18) rfl ?_
  refine o_iadd P (hb hby dt18_18) (pc' := 19) rfl ?_
  show OG p e below m _ T 19 #[.val (.ref a), .val (.ref y), .val (.ref d), .val (.int (1 : Int32))] [(.int (2 : Int32)), (.ref a)]
  refine o_putF P (v' := (.int (2 : Int32))) (ty := .int) (ow hw 112 rfl) Via.refl (F_a.fld 2 rfl) F_a.exa (Or.inl (ow hw 113 rfl)) (ow hw 82 rfl) (by decide) rfl rfl (List.Mem.head _) (hb hby dt18_19) (pc' := 22) rfl ?_
  clear P; intro T h2 P W2
  replace F_y := F_y.oth W2 (Ne.symm ne_a_y)
  replace A_d := A_d.oth W2 (Ne.symm ne_a_d)
  replace O_d := O_d.keep (Keep.of_wr W2)
  replace F_a : OObj Z h2 a "java/util/ArrayList" [("java/util/AbstractList", "modCount", "I", (.int mc)), ("java/util/ArrayList", "elementData", "[Ljava/lang/Object;", (.ref d)), ("java/util/ArrayList", "size", "I", (.int (2 : Int32)))] := F_a.put 2 rfl W2
  clear W2
  exact o_ret0 P hret (hb hby dt18_22) (by decide) (by decide) ⟨rfl, F_a, A_d, O_d⟩
theorem ef_20 (x0 : Addr) (x1 : Addr) (x2 : Addr) (x3 : Int32) (m : MethodId) : entryFrame m #[(.ref x0), (.ref x1), (.ref x2), (.int x3)] 4 = mkF m 0 #[.val (.ref x0), .val (.ref x1), .val (.ref x2), .val (.int x3)] [] := by first | (simp [entryFrame, mkF, argsToLocals, o_catR, o_catN, o_catI, o_catJ, o_catD]; done) | rfl
set_option maxRecDepth 65536 in
set_option maxHeartbeats 40000000 in
theorem ct_add3_2 (l : Launch) (Z : State) (a0 : Array Value) (hw : ∀ d ∈ tables_1, d.before a0 Z = true) (EL : List (String × Nat)) (n0 : Nat) (a y d r0 r1 : Addr) (mc : Int32) (h0 : Heap) (F_a : OObj Z h0 a "java/util/ArrayList" [("java/util/AbstractList", "modCount", "I", (.int mc)), ("java/util/ArrayList", "elementData", "[Ljava/lang/Object;", (.ref d)), ("java/util/ArrayList", "size", "I", (.int (2 : Int32)))]) (A_d : OArr Z h0 d (.object "java/lang/Object") [(.ref r0), (.ref r1), .null, .null, .null, .null, .null, .null, .null, .null]) (O_d : OAr Z h0 d "java/lang/Object" "[Ljava/lang/Object;") (F_y : OObj Z h0 y "com/example/pledgebook/pledgebook/model/LedgerMonth" []) (ne_a_y : a ≠ y) (ne_y_d : y ≠ d) (ne_a_d : a ≠ d) :
    OCt l Z a0 EL n0 (⟨"java/util/ArrayList", "add", "(Ljava/lang/Object;[Ljava/lang/Object;I)V"⟩ : MethodName) jdk_38_method_24_code 4 none ({ frames := 3, cells := 1, slots := 10, locals := 44 } : Room) [] #[(.ref a), (.ref y), (.ref d), (.int (2 : Int32))] h0 [a, d] (fun w vm h => w = none ∧ OObj Z h a "java/util/ArrayList" [("java/util/AbstractList", "modCount", "I", (.int mc)), ("java/util/ArrayList", "elementData", "[Ljava/lang/Object;", (.ref d)), ("java/util/ArrayList", "size", "I", (.int (3 : Int32)))] ∧ OArr Z h d (.object "java/lang/Object") [(.ref r0), (.ref r1), (.ref y), .null, .null, .null, .null, .null, .null, .null] ∧ OAr Z h d "java/lang/Object" "[Ljava/lang/Object;") := by
  refine OCt.body (plainFor_of_name pn_8) (ef_20 a y d ((2 : Int32))) ?_
  intro p e s m below meth c T hby hml hret hnm hsh P
  refine o_iloadN P (hb hby dt18_0) rfl (pc' := 1) rfl ?_
  refine o_aloadN P (hb hby dt18_1) rfl rfl (pc' := 2) rfl ?_
  refine o_arrlen P A_d (hb hby dt18_2) (n := (10 : Int32)) rfl (pc' := 3) rfl ?_
  refine o_icmp_ne P (hb hby dt18_3) (by decide) (pc' := 11) (by decide) (pcf := 6) rfl (fun _ => ?_) (fun q => absurd q (by decide))
  refine o_aloadN P (hb hby dt18_11) rfl rfl (pc' := 12) rfl ?_
  refine o_iloadN P (hb hby dt18_12) rfl (pc' := 13) rfl ?_
  refine o_aloadN P (hb hby dt18_13) rfl rfl (pc' := 14) rfl ?_
  refine o_aastore P A_d (List.Mem.tail _ (List.Mem.head _)) rfl (O_d.sto A_d (Ins.of_exa F_y.exa (ow hw 135 rfl))) rfl (by decide) (of_decide_eq_true rfl) (hb hby dt18_14) (pc' := 15) rfl ?_
  clear P; clear A_d; intro T h1 P W1 A_d
  replace F_a := F_a.oth W1 ne_a_d
  replace F_y := F_y.oth W1 ne_y_d
  replace O_d := O_d.keep (Keep.of_wr W1)
  clear W1
  replace A_d : OArr Z h1 d (.object "java/lang/Object") [(.ref r0), (.ref r1), (.ref y), .null, .null, .null, .null, .null, .null, .null] := A_d
  refine o_aloadN P (hb hby dt18_15) rfl rfl (pc' := 16) rfl ?_
  refine o_iloadN P (hb hby dt18_16) rfl (pc' := 17) rfl ?_
  refine o_iconst P (1 : Int32) (hb hby dt18_17) rfl (pc' := 18) rfl ?_
  refine o_iadd P (hb hby dt18_18) (pc' := 19) rfl ?_
  show OG p e below m _ T 19 #[.val (.ref a), .val (.ref y), .val (.ref d), .val (.int (2 : Int32))] [(.int (3 : Int32)), (.ref a)]
  refine o_putF P (v' := (.int (3 : Int32))) (ty := .int) (ow hw 112 rfl) Via.refl (F_a.fld 2 rfl) F_a.exa (Or.inl (ow hw 113 rfl)) (ow hw 82 rfl) (by decide) rfl rfl (List.Mem.head _) (hb hby dt18_19) (pc' := 22) rfl ?_
  clear P; intro T h2 P W2
  replace F_y := F_y.oth W2 (Ne.symm ne_a_y)
  replace A_d := A_d.oth W2 (Ne.symm ne_a_d)
  replace O_d := O_d.keep (Keep.of_wr W2)
  replace F_a : OObj Z h2 a "java/util/ArrayList" [("java/util/AbstractList", "modCount", "I", (.int mc)), ("java/util/ArrayList", "elementData", "[Ljava/lang/Object;", (.ref d)), ("java/util/ArrayList", "size", "I", (.int (3 : Int32)))] := F_a.put 2 rfl W2
  clear W2
  exact o_ret0 P hret (hb hby dt18_22) (by decide) (by decide) ⟨rfl, F_a, A_d, O_d⟩
theorem ef_21 (x0 : Addr) (x1 : Addr) (x2 : Addr) (x3 : Int32) (m : MethodId) : entryFrame m #[(.ref x0), (.ref x1), (.ref x2), (.int x3)] 4 = mkF m 0 #[.val (.ref x0), .val (.ref x1), .val (.ref x2), .val (.int x3)] [] := by first | (simp [entryFrame, mkF, argsToLocals, o_catR, o_catN, o_catI, o_catJ, o_catD]; done) | rfl
set_option maxRecDepth 65536 in
set_option maxHeartbeats 40000000 in
theorem ct_add3_3 (l : Launch) (Z : State) (a0 : Array Value) (hw : ∀ d ∈ tables_1, d.before a0 Z = true) (EL : List (String × Nat)) (n0 : Nat) (a y d r0 r1 r2 : Addr) (mc : Int32) (h0 : Heap) (F_a : OObj Z h0 a "java/util/ArrayList" [("java/util/AbstractList", "modCount", "I", (.int mc)), ("java/util/ArrayList", "elementData", "[Ljava/lang/Object;", (.ref d)), ("java/util/ArrayList", "size", "I", (.int (3 : Int32)))]) (A_d : OArr Z h0 d (.object "java/lang/Object") [(.ref r0), (.ref r1), (.ref r2), .null, .null, .null, .null, .null, .null, .null]) (O_d : OAr Z h0 d "java/lang/Object" "[Ljava/lang/Object;") (F_y : OObj Z h0 y "com/example/pledgebook/pledgebook/model/LedgerMonth" []) (ne_a_y : a ≠ y) (ne_y_d : y ≠ d) (ne_a_d : a ≠ d) :
    OCt l Z a0 EL n0 (⟨"java/util/ArrayList", "add", "(Ljava/lang/Object;[Ljava/lang/Object;I)V"⟩ : MethodName) jdk_38_method_24_code 4 none ({ frames := 3, cells := 1, slots := 10, locals := 44 } : Room) [] #[(.ref a), (.ref y), (.ref d), (.int (3 : Int32))] h0 [a, d] (fun w vm h => w = none ∧ OObj Z h a "java/util/ArrayList" [("java/util/AbstractList", "modCount", "I", (.int mc)), ("java/util/ArrayList", "elementData", "[Ljava/lang/Object;", (.ref d)), ("java/util/ArrayList", "size", "I", (.int (4 : Int32)))] ∧ OArr Z h d (.object "java/lang/Object") [(.ref r0), (.ref r1), (.ref r2), (.ref y), .null, .null, .null, .null, .null, .null] ∧ OAr Z h d "java/lang/Object" "[Ljava/lang/Object;") := by
  refine OCt.body (plainFor_of_name pn_8) (ef_21 a y d ((3 : Int32))) ?_
  intro p e s m below meth c T hby hml hret hnm hsh P
  refine o_iloadN P (hb hby dt18_0) rfl (pc' := 1) rfl ?_
  refine o_aloadN P (hb hby dt18_1) rfl rfl (pc' := 2) rfl ?_
  refine o_arrlen P A_d (hb hby dt18_2) (n := (10 : Int32)) rfl (pc' := 3) rfl ?_
  refine o_icmp_ne P (hb hby dt18_3) (by decide) (pc' := 11) (by decide) (pcf := 6) rfl (fun _ => ?_) (fun q => absurd q (by decide))
  refine o_aloadN P (hb hby dt18_11) rfl rfl (pc' := 12) rfl ?_
  refine o_iloadN P (hb hby dt18_12) rfl (pc' := 13) rfl ?_
  refine o_aloadN P (hb hby dt18_13) rfl rfl (pc' := 14) rfl ?_
  refine o_aastore P A_d (List.Mem.tail _ (List.Mem.head _)) rfl (O_d.sto A_d (Ins.of_exa F_y.exa (ow hw 135 rfl))) rfl (by decide) (of_decide_eq_true rfl) (hb hby dt18_14) (pc' := 15) rfl ?_
  clear P; clear A_d; intro T h1 P W1 A_d
  replace F_a := F_a.oth W1 ne_a_d
  replace F_y := F_y.oth W1 ne_y_d
  replace O_d := O_d.keep (Keep.of_wr W1)
  clear W1
  replace A_d : OArr Z h1 d (.object "java/lang/Object") [(.ref r0), (.ref r1), (.ref r2), (.ref y), .null, .null, .null, .null, .null, .null] := A_d
  refine o_aloadN P (hb hby dt18_15) rfl rfl (pc' := 16) rfl ?_
  refine o_iloadN P (hb hby dt18_16) rfl (pc' := 17) rfl ?_
  refine o_iconst P (1 : Int32) (hb hby dt18_17) rfl (pc' := 18) rfl ?_
  refine o_iadd P (hb hby dt18_18) (pc' := 19) rfl ?_
  show OG p e below m _ T 19 #[.val (.ref a), .val (.ref y), .val (.ref d), .val (.int (3 : Int32))] [(.int (4 : Int32)), (.ref a)]
  refine o_putF P (v' := (.int (4 : Int32))) (ty := .int) (ow hw 112 rfl) Via.refl (F_a.fld 2 rfl) F_a.exa (Or.inl (ow hw 113 rfl)) (ow hw 82 rfl) (by decide) rfl rfl (List.Mem.head _) (hb hby dt18_19) (pc' := 22) rfl ?_
  clear P; intro T h2 P W2
  replace F_y := F_y.oth W2 (Ne.symm ne_a_y)
  replace A_d := A_d.oth W2 (Ne.symm ne_a_d)
  replace O_d := O_d.keep (Keep.of_wr W2)
  replace F_a : OObj Z h2 a "java/util/ArrayList" [("java/util/AbstractList", "modCount", "I", (.int mc)), ("java/util/ArrayList", "elementData", "[Ljava/lang/Object;", (.ref d)), ("java/util/ArrayList", "size", "I", (.int (4 : Int32)))] := F_a.put 2 rfl W2
  clear W2
  exact o_ret0 P hret (hb hby dt18_22) (by decide) (by decide) ⟨rfl, F_a, A_d, O_d⟩
theorem dt19_0 : decode jdk_38_method_25_code 0 = .ok (.aload_n 0, 1) := by decide +kernel
theorem dt19_1 : decode jdk_38_method_25_code 1 = .ok (.dup, 1) := by decide +kernel
theorem dt19_2 : decode jdk_38_method_25_code 2 = .ok (.getfield 63, 3) := by decide +kernel
theorem dt19_5 : decode jdk_38_method_25_code 5 = .ok (.iconst 1, 1) := by decide +kernel
theorem dt19_6 : decode jdk_38_method_25_code 6 = .ok (.iadd, 1) := by decide +kernel
theorem dt19_7 : decode jdk_38_method_25_code 7 = .ok (.putfield 63, 3) := by decide +kernel
theorem dt19_10 : decode jdk_38_method_25_code 10 = .ok (.aload_n 0, 1) := by decide +kernel
theorem dt19_11 : decode jdk_38_method_25_code 11 = .ok (.aload_n 1, 1) := by decide +kernel
theorem dt19_12 : decode jdk_38_method_25_code 12 = .ok (.aload_n 0, 1) := by decide +kernel
theorem dt19_13 : decode jdk_38_method_25_code 13 = .ok (.getfield 9, 3) := by decide +kernel
theorem dt19_16 : decode jdk_38_method_25_code 16 = .ok (.aload_n 0, 1) := by decide +kernel
theorem dt19_17 : decode jdk_38_method_25_code 17 = .ok (.getfield 48, 3) := by decide +kernel
theorem dt19_20 : decode jdk_38_method_25_code 20 = .ok (.invokevirtual 131, 3) := by decide +kernel
theorem dt19_23 : decode jdk_38_method_25_code 23 = .ok (.iconst 1, 1) := by decide +kernel
theorem dt19_24 : decode jdk_38_method_25_code 24 = .ok (.ireturn, 1) := by decide +kernel
theorem ef_22 (x0 : Addr) (x1 : Addr) (m : MethodId) : entryFrame m #[(.ref x0), (.ref x1)] 2 = mkF m 0 #[.val (.ref x0), .val (.ref x1)] [] := by first | (simp [entryFrame, mkF, argsToLocals, o_catR, o_catN, o_catI, o_catJ, o_catD]; done) | rfl
set_option maxRecDepth 65536 in
set_option maxHeartbeats 40000000 in
theorem ct_add_0 (l : Launch) (Z : State) (a0 : Array Value) (hw : ∀ d ∈ tables_1, d.before a0 Z = true) (EL : List (String × Nat)) (n0 : Nat) (a y : Addr) (mc : Int32) (de : Addr) (hde : Sta Z Z.heap "java/util/ArrayList" "DEFAULTCAPACITY_EMPTY_ELEMENTDATA" "[Ljava/lang/Object;" (.ref de)) (Ade : OArr Z Z.heap de (.object "java/lang/Object") []) (h0 : Heap) (F_a : OObj Z h0 a "java/util/ArrayList" [("java/util/AbstractList", "modCount", "I", (.int mc)), ("java/util/ArrayList", "elementData", "[Ljava/lang/Object;", (.ref de)), ("java/util/ArrayList", "size", "I", (.int (0 : Int32)))]) (F_y : OObj Z h0 y "com/example/pledgebook/pledgebook/model/LedgerMonth" []) (ne_a_y : a ≠ y) :
    OCt l Z a0 EL n0 (⟨"java/util/ArrayList", "add", "(Ljava/lang/Object;)Z"⟩ : MethodName) jdk_38_method_25_code 2 (some .boolean) ({ frames := 4, cells := 1, slots := 10, locals := 60 } : Room) [] #[(.ref a), (.ref y)] h0 [a] (fun w vm h => w = some (.int 1) ∧ ∃ d : Addr, h0.size ≤ d ∧ OObj Z h a "java/util/ArrayList" [("java/util/AbstractList", "modCount", "I", (.int (mc + (1 : Int32)))), ("java/util/ArrayList", "elementData", "[Ljava/lang/Object;", (.ref d)), ("java/util/ArrayList", "size", "I", (.int (1 : Int32)))] ∧ OArr Z h d (.object "java/lang/Object") [(.ref y), .null, .null, .null, .null, .null, .null, .null, .null, .null] ∧ OAr Z h d "java/lang/Object" "[Ljava/lang/Object;") := by
  refine OCt.body (plainFor_of_name pn_8) (ef_22 a y) ?_
  intro p e s m below meth c T hby hml hret hnm hsh P
  refine o_aloadN P (hb hby dt19_0) rfl rfl (pc' := 1) rfl ?_
  refine o_dup P (hb hby dt19_1) rfl (pc' := 2) rfl ?_
  refine o_getF P (ow hw 110 rfl) (Via.of (ow hw 111 rfl)) (F_a.fld 0 rfl) (hb hby dt19_2) (pc' := 5) rfl ?_
  clear P; intro T P
  refine o_iconst P (1 : Int32) (hb hby dt19_5) rfl (pc' := 6) rfl ?_
  refine o_iadd P (hb hby dt19_6) (pc' := 7) rfl ?_
  refine o_putF P (v' := (.int (mc + (1 : Int32)))) (ty := .int) (ow hw 110 rfl) (Via.of (ow hw 111 rfl)) (F_a.fld 0 rfl) F_a.exa (Or.inl (ow hw 101 rfl)) (ow hw 82 rfl) (by decide) rfl rfl (List.Mem.head _) (hb hby dt19_7) (pc' := 10) rfl ?_
  clear P; intro T h1 P W1
  have hszq := W1.size.symm
  replace F_y := F_y.oth W1 (Ne.symm ne_a_y)
  replace F_a : OObj Z h1 a "java/util/ArrayList" [("java/util/AbstractList", "modCount", "I", (.int (mc + (1 : Int32)))), ("java/util/ArrayList", "elementData", "[Ljava/lang/Object;", (.ref de)), ("java/util/ArrayList", "size", "I", (.int (0 : Int32)))] := F_a.put 0 rfl W1
  clear W1
  refine o_aloadN P (hb hby dt19_10) rfl rfl (pc' := 11) rfl ?_
  refine o_aloadN P (hb hby dt19_11) rfl rfl (pc' := 12) rfl ?_
  refine o_aloadN P (hb hby dt19_12) rfl rfl (pc' := 13) rfl ?_
  refine o_getF P (ow hw 103 rfl) Via.refl (F_a.fld 1 rfl) (hb hby dt19_13) (pc' := 16) rfl ?_
  clear P; intro T P
  refine o_aloadN P (hb hby dt19_16) rfl rfl (pc' := 17) rfl ?_
  refine o_getF P (ow hw 112 rfl) Via.refl (F_a.fld 2 rfl) (hb hby dt19_17) (pc' := 20) rfl ?_
  clear P; intro T P
  refine o_callP P (W := 0) (a := a) (ow hw 114 rfl) (ow hw 115 rfl) (ow hw 117 rfl) (ow hw 116 rfl) (ow hw 83 rfl) (ow hw 118 rfl) (by decide) F_a.exa (ct_add3_0 l Z a0 hw EL n0 a y _ de hde Ade h1 F_a F_y ne_a_y) (o_sfS (List.Mem.head _) o_sf0) (by rw [hml]; rfl) (by decide) (by decide) (argsL := [(.ref y), (.ref de), (.int (0 : Int32))]) (rest := []) (lenOf pd_11 rfl) rfl rfl (Nat.le_of_eq rfl) (hb hby dt19_20) (pc' := 23) rfl (by decide) (by decide) ?_
  clear P; intro T h2 v2 P K2 q2
  obtain ⟨rfl, d, g1, F', A', O'⟩ := q2
  skip
  show OG p e below m _ T 23 #[.val (.ref a), .val (.ref y)] []
  refine o_iconst P (1 : Int32) (hb hby dt19_23) rfl (pc' := 24) rfl ?_
  exact o_retI P hret (by simp) rfl (hb hby dt19_24) (by decide) (by decide) ⟨rfl, d, Nat.le_trans (Nat.le_of_eq hszq) g1, F', A', O'⟩
set_option maxRecDepth 65536 in
set_option maxHeartbeats 40000000 in
theorem ct_add_1 (l : Launch) (Z : State) (a0 : Array Value) (hw : ∀ d ∈ tables_1, d.before a0 Z = true) (EL : List (String × Nat)) (n0 : Nat) (a y d r0 : Addr) (mc : Int32) (h0 : Heap) (F_a : OObj Z h0 a "java/util/ArrayList" [("java/util/AbstractList", "modCount", "I", (.int mc)), ("java/util/ArrayList", "elementData", "[Ljava/lang/Object;", (.ref d)), ("java/util/ArrayList", "size", "I", (.int (1 : Int32)))]) (A_d : OArr Z h0 d (.object "java/lang/Object") [(.ref r0), .null, .null, .null, .null, .null, .null, .null, .null, .null]) (O_d : OAr Z h0 d "java/lang/Object" "[Ljava/lang/Object;") (F_y : OObj Z h0 y "com/example/pledgebook/pledgebook/model/LedgerMonth" []) (ne_a_y : a ≠ y) (ne_y_d : y ≠ d) (ne_a_d : a ≠ d) :
    OCt l Z a0 EL n0 (⟨"java/util/ArrayList", "add", "(Ljava/lang/Object;)Z"⟩ : MethodName) jdk_38_method_25_code 2 (some .boolean) ({ frames := 4, cells := 1, slots := 10, locals := 60 } : Room) [] #[(.ref a), (.ref y)] h0 [a, d] (fun w vm h => w = some (.int 1) ∧ OObj Z h a "java/util/ArrayList" [("java/util/AbstractList", "modCount", "I", (.int (mc + (1 : Int32)))), ("java/util/ArrayList", "elementData", "[Ljava/lang/Object;", (.ref d)), ("java/util/ArrayList", "size", "I", (.int (2 : Int32)))] ∧ OArr Z h d (.object "java/lang/Object") [(.ref r0), (.ref y), .null, .null, .null, .null, .null, .null, .null, .null] ∧ OAr Z h d "java/lang/Object" "[Ljava/lang/Object;") := by
  refine OCt.body (plainFor_of_name pn_8) (ef_22 a y) ?_
  intro p e s m below meth c T hby hml hret hnm hsh P
  refine o_aloadN P (hb hby dt19_0) rfl rfl (pc' := 1) rfl ?_
  refine o_dup P (hb hby dt19_1) rfl (pc' := 2) rfl ?_
  refine o_getF P (ow hw 110 rfl) (Via.of (ow hw 111 rfl)) (F_a.fld 0 rfl) (hb hby dt19_2) (pc' := 5) rfl ?_
  clear P; intro T P
  refine o_iconst P (1 : Int32) (hb hby dt19_5) rfl (pc' := 6) rfl ?_
  refine o_iadd P (hb hby dt19_6) (pc' := 7) rfl ?_
  refine o_putF P (v' := (.int (mc + (1 : Int32)))) (ty := .int) (ow hw 110 rfl) (Via.of (ow hw 111 rfl)) (F_a.fld 0 rfl) F_a.exa (Or.inl (ow hw 101 rfl)) (ow hw 82 rfl) (by decide) rfl rfl (List.Mem.head _) (hb hby dt19_7) (pc' := 10) rfl ?_
  clear P; intro T h1 P W1
  replace F_y := F_y.oth W1 (Ne.symm ne_a_y)
  replace A_d := A_d.oth W1 (Ne.symm ne_a_d)
  replace O_d := O_d.keep (Keep.of_wr W1)
  replace F_a : OObj Z h1 a "java/util/ArrayList" [("java/util/AbstractList", "modCount", "I", (.int (mc + (1 : Int32)))), ("java/util/ArrayList", "elementData", "[Ljava/lang/Object;", (.ref d)), ("java/util/ArrayList", "size", "I", (.int (1 : Int32)))] := F_a.put 0 rfl W1
  clear W1
  refine o_aloadN P (hb hby dt19_10) rfl rfl (pc' := 11) rfl ?_
  refine o_aloadN P (hb hby dt19_11) rfl rfl (pc' := 12) rfl ?_
  refine o_aloadN P (hb hby dt19_12) rfl rfl (pc' := 13) rfl ?_
  refine o_getF P (ow hw 103 rfl) Via.refl (F_a.fld 1 rfl) (hb hby dt19_13) (pc' := 16) rfl ?_
  clear P; intro T P
  refine o_aloadN P (hb hby dt19_16) rfl rfl (pc' := 17) rfl ?_
  refine o_getF P (ow hw 112 rfl) Via.refl (F_a.fld 2 rfl) (hb hby dt19_17) (pc' := 20) rfl ?_
  clear P; intro T P
  refine o_callP P (W := 0) (a := a) (ow hw 114 rfl) (ow hw 115 rfl) (ow hw 117 rfl) (ow hw 116 rfl) (ow hw 83 rfl) (ow hw 118 rfl) (by decide) F_a.exa (ct_add3_1 l Z a0 hw EL n0 a y d r0 _ h1 F_a A_d O_d F_y ne_a_y ne_y_d ne_a_d) (o_sfS (List.Mem.head _) (o_sfS (List.Mem.tail _ (List.Mem.head _)) o_sf0)) (by rw [hml]; rfl) (by decide) (by decide) (argsL := [(.ref y), (.ref d), (.int (1 : Int32))]) (rest := []) (lenOf pd_11 rfl) rfl rfl (Nat.le_of_eq rfl) (hb hby dt19_20) (pc' := 23) rfl (by decide) (by decide) ?_
  clear P; intro T h2 v2 P K2 q2
  obtain ⟨rfl, F', A', O'⟩ := q2
  show OG p e below m _ T 23 #[.val (.ref a), .val (.ref y)] []
  refine o_iconst P (1 : Int32) (hb hby dt19_23) rfl (pc' := 24) rfl ?_
  exact o_retI P hret (by simp) rfl (hb hby dt19_24) (by decide) (by decide) ⟨rfl, F', A', O'⟩
set_option maxRecDepth 65536 in
set_option maxHeartbeats 40000000 in
theorem ct_add_2 (l : Launch) (Z : State) (a0 : Array Value) (hw : ∀ d ∈ tables_1, d.before a0 Z = true) (EL : List (String × Nat)) (n0 : Nat) (a y d r0 r1 : Addr) (mc : Int32) (h0 : Heap) (F_a : OObj Z h0 a "java/util/ArrayList" [("java/util/AbstractList", "modCount", "I", (.int mc)), ("java/util/ArrayList", "elementData", "[Ljava/lang/Object;", (.ref d)), ("java/util/ArrayList", "size", "I", (.int (2 : Int32)))]) (A_d : OArr Z h0 d (.object "java/lang/Object") [(.ref r0), (.ref r1), .null, .null, .null, .null, .null, .null, .null, .null]) (O_d : OAr Z h0 d "java/lang/Object" "[Ljava/lang/Object;") (F_y : OObj Z h0 y "com/example/pledgebook/pledgebook/model/LedgerMonth" []) (ne_a_y : a ≠ y) (ne_y_d : y ≠ d) (ne_a_d : a ≠ d) :
    OCt l Z a0 EL n0 (⟨"java/util/ArrayList", "add", "(Ljava/lang/Object;)Z"⟩ : MethodName) jdk_38_method_25_code 2 (some .boolean) ({ frames := 4, cells := 1, slots := 10, locals := 60 } : Room) [] #[(.ref a), (.ref y)] h0 [a, d] (fun w vm h => w = some (.int 1) ∧ OObj Z h a "java/util/ArrayList" [("java/util/AbstractList", "modCount", "I", (.int (mc + (1 : Int32)))), ("java/util/ArrayList", "elementData", "[Ljava/lang/Object;", (.ref d)), ("java/util/ArrayList", "size", "I", (.int (3 : Int32)))] ∧ OArr Z h d (.object "java/lang/Object") [(.ref r0), (.ref r1), (.ref y), .null, .null, .null, .null, .null, .null, .null] ∧ OAr Z h d "java/lang/Object" "[Ljava/lang/Object;") := by
  refine OCt.body (plainFor_of_name pn_8) (ef_22 a y) ?_
  intro p e s m below meth c T hby hml hret hnm hsh P
  refine o_aloadN P (hb hby dt19_0) rfl rfl (pc' := 1) rfl ?_
  refine o_dup P (hb hby dt19_1) rfl (pc' := 2) rfl ?_
  refine o_getF P (ow hw 110 rfl) (Via.of (ow hw 111 rfl)) (F_a.fld 0 rfl) (hb hby dt19_2) (pc' := 5) rfl ?_
  clear P; intro T P
  refine o_iconst P (1 : Int32) (hb hby dt19_5) rfl (pc' := 6) rfl ?_
  refine o_iadd P (hb hby dt19_6) (pc' := 7) rfl ?_
  refine o_putF P (v' := (.int (mc + (1 : Int32)))) (ty := .int) (ow hw 110 rfl) (Via.of (ow hw 111 rfl)) (F_a.fld 0 rfl) F_a.exa (Or.inl (ow hw 101 rfl)) (ow hw 82 rfl) (by decide) rfl rfl (List.Mem.head _) (hb hby dt19_7) (pc' := 10) rfl ?_
  clear P; intro T h1 P W1
  replace F_y := F_y.oth W1 (Ne.symm ne_a_y)
  replace A_d := A_d.oth W1 (Ne.symm ne_a_d)
  replace O_d := O_d.keep (Keep.of_wr W1)
  replace F_a : OObj Z h1 a "java/util/ArrayList" [("java/util/AbstractList", "modCount", "I", (.int (mc + (1 : Int32)))), ("java/util/ArrayList", "elementData", "[Ljava/lang/Object;", (.ref d)), ("java/util/ArrayList", "size", "I", (.int (2 : Int32)))] := F_a.put 0 rfl W1
  clear W1
  refine o_aloadN P (hb hby dt19_10) rfl rfl (pc' := 11) rfl ?_
  refine o_aloadN P (hb hby dt19_11) rfl rfl (pc' := 12) rfl ?_
  refine o_aloadN P (hb hby dt19_12) rfl rfl (pc' := 13) rfl ?_
  refine o_getF P (ow hw 103 rfl) Via.refl (F_a.fld 1 rfl) (hb hby dt19_13) (pc' := 16) rfl ?_
  clear P; intro T P
  refine o_aloadN P (hb hby dt19_16) rfl rfl (pc' := 17) rfl ?_
  refine o_getF P (ow hw 112 rfl) Via.refl (F_a.fld 2 rfl) (hb hby dt19_17) (pc' := 20) rfl ?_
  clear P; intro T P
  refine o_callP P (W := 0) (a := a) (ow hw 114 rfl) (ow hw 115 rfl) (ow hw 117 rfl) (ow hw 116 rfl) (ow hw 83 rfl) (ow hw 118 rfl) (by decide) F_a.exa (ct_add3_2 l Z a0 hw EL n0 a y d r0 r1 _ h1 F_a A_d O_d F_y ne_a_y ne_y_d ne_a_d) (o_sfS (List.Mem.head _) (o_sfS (List.Mem.tail _ (List.Mem.head _)) o_sf0)) (by rw [hml]; rfl) (by decide) (by decide) (argsL := [(.ref y), (.ref d), (.int (2 : Int32))]) (rest := []) (lenOf pd_11 rfl) rfl rfl (Nat.le_of_eq rfl) (hb hby dt19_20) (pc' := 23) rfl (by decide) (by decide) ?_
  clear P; intro T h2 v2 P K2 q2
  obtain ⟨rfl, F', A', O'⟩ := q2
  show OG p e below m _ T 23 #[.val (.ref a), .val (.ref y)] []
  refine o_iconst P (1 : Int32) (hb hby dt19_23) rfl (pc' := 24) rfl ?_
  exact o_retI P hret (by simp) rfl (hb hby dt19_24) (by decide) (by decide) ⟨rfl, F', A', O'⟩
set_option maxRecDepth 65536 in
set_option maxHeartbeats 40000000 in
theorem ct_add_3 (l : Launch) (Z : State) (a0 : Array Value) (hw : ∀ d ∈ tables_1, d.before a0 Z = true) (EL : List (String × Nat)) (n0 : Nat) (a y d r0 r1 r2 : Addr) (mc : Int32) (h0 : Heap) (F_a : OObj Z h0 a "java/util/ArrayList" [("java/util/AbstractList", "modCount", "I", (.int mc)), ("java/util/ArrayList", "elementData", "[Ljava/lang/Object;", (.ref d)), ("java/util/ArrayList", "size", "I", (.int (3 : Int32)))]) (A_d : OArr Z h0 d (.object "java/lang/Object") [(.ref r0), (.ref r1), (.ref r2), .null, .null, .null, .null, .null, .null, .null]) (O_d : OAr Z h0 d "java/lang/Object" "[Ljava/lang/Object;") (F_y : OObj Z h0 y "com/example/pledgebook/pledgebook/model/LedgerMonth" []) (ne_a_y : a ≠ y) (ne_y_d : y ≠ d) (ne_a_d : a ≠ d) :
    OCt l Z a0 EL n0 (⟨"java/util/ArrayList", "add", "(Ljava/lang/Object;)Z"⟩ : MethodName) jdk_38_method_25_code 2 (some .boolean) ({ frames := 4, cells := 1, slots := 10, locals := 60 } : Room) [] #[(.ref a), (.ref y)] h0 [a, d] (fun w vm h => w = some (.int 1) ∧ OObj Z h a "java/util/ArrayList" [("java/util/AbstractList", "modCount", "I", (.int (mc + (1 : Int32)))), ("java/util/ArrayList", "elementData", "[Ljava/lang/Object;", (.ref d)), ("java/util/ArrayList", "size", "I", (.int (4 : Int32)))] ∧ OArr Z h d (.object "java/lang/Object") [(.ref r0), (.ref r1), (.ref r2), (.ref y), .null, .null, .null, .null, .null, .null] ∧ OAr Z h d "java/lang/Object" "[Ljava/lang/Object;") := by
  refine OCt.body (plainFor_of_name pn_8) (ef_22 a y) ?_
  intro p e s m below meth c T hby hml hret hnm hsh P
  refine o_aloadN P (hb hby dt19_0) rfl rfl (pc' := 1) rfl ?_
  refine o_dup P (hb hby dt19_1) rfl (pc' := 2) rfl ?_
  refine o_getF P (ow hw 110 rfl) (Via.of (ow hw 111 rfl)) (F_a.fld 0 rfl) (hb hby dt19_2) (pc' := 5) rfl ?_
  clear P; intro T P
  refine o_iconst P (1 : Int32) (hb hby dt19_5) rfl (pc' := 6) rfl ?_
  refine o_iadd P (hb hby dt19_6) (pc' := 7) rfl ?_
  refine o_putF P (v' := (.int (mc + (1 : Int32)))) (ty := .int) (ow hw 110 rfl) (Via.of (ow hw 111 rfl)) (F_a.fld 0 rfl) F_a.exa (Or.inl (ow hw 101 rfl)) (ow hw 82 rfl) (by decide) rfl rfl (List.Mem.head _) (hb hby dt19_7) (pc' := 10) rfl ?_
  clear P; intro T h1 P W1
  replace F_y := F_y.oth W1 (Ne.symm ne_a_y)
  replace A_d := A_d.oth W1 (Ne.symm ne_a_d)
  replace O_d := O_d.keep (Keep.of_wr W1)
  replace F_a : OObj Z h1 a "java/util/ArrayList" [("java/util/AbstractList", "modCount", "I", (.int (mc + (1 : Int32)))), ("java/util/ArrayList", "elementData", "[Ljava/lang/Object;", (.ref d)), ("java/util/ArrayList", "size", "I", (.int (3 : Int32)))] := F_a.put 0 rfl W1
  clear W1
  refine o_aloadN P (hb hby dt19_10) rfl rfl (pc' := 11) rfl ?_
  refine o_aloadN P (hb hby dt19_11) rfl rfl (pc' := 12) rfl ?_
  refine o_aloadN P (hb hby dt19_12) rfl rfl (pc' := 13) rfl ?_
  refine o_getF P (ow hw 103 rfl) Via.refl (F_a.fld 1 rfl) (hb hby dt19_13) (pc' := 16) rfl ?_
  clear P; intro T P
  refine o_aloadN P (hb hby dt19_16) rfl rfl (pc' := 17) rfl ?_
  refine o_getF P (ow hw 112 rfl) Via.refl (F_a.fld 2 rfl) (hb hby dt19_17) (pc' := 20) rfl ?_
  clear P; intro T P
  refine o_callP P (W := 0) (a := a) (ow hw 114 rfl) (ow hw 115 rfl) (ow hw 117 rfl) (ow hw 116 rfl) (ow hw 83 rfl) (ow hw 118 rfl) (by decide) F_a.exa (ct_add3_3 l Z a0 hw EL n0 a y d r0 r1 r2 _ h1 F_a A_d O_d F_y ne_a_y ne_y_d ne_a_d) (o_sfS (List.Mem.head _) (o_sfS (List.Mem.tail _ (List.Mem.head _)) o_sf0)) (by rw [hml]; rfl) (by decide) (by decide) (argsL := [(.ref y), (.ref d), (.int (3 : Int32))]) (rest := []) (lenOf pd_11 rfl) rfl rfl (Nat.le_of_eq rfl) (hb hby dt19_20) (pc' := 23) rfl (by decide) (by decide) ?_
  clear P; intro T h2 v2 P K2 q2
  obtain ⟨rfl, F', A', O'⟩ := q2
  show OG p e below m _ T 23 #[.val (.ref a), .val (.ref y)] []
  refine o_iconst P (1 : Int32) (hb hby dt19_23) rfl (pc' := 24) rfl ?_
  exact o_retI P hret (by simp) rfl (hb hby dt19_24) (by decide) (by decide) ⟨rfl, F', A', O'⟩
theorem dt20_0 : decode jdk_31_method_10_code 0 = .ok (.aload_n 0, 1) := by decide +kernel
theorem dt20_1 : decode jdk_31_method_10_code 1 = .ok (.ifnonnull 11, 3) := by decide +kernel
theorem dt20_4 : decode jdk_31_method_10_code 4 = .ok (.new 84, 3) := by decide +kernel
theorem dt20_7 : decode jdk_31_method_10_code 7 = .ok (.dup, 1) := by decide +kernel
theorem dt20_8 : decode jdk_31_method_10_code 8 = .ok (.invokespecial 86, 3) := by decide +kernel
theorem dt20_11 : decode jdk_31_method_10_code 11 = .ok (.athrow, 1) := by decide +kernel
theorem dt20_12 : decode jdk_31_method_10_code 12 = .ok (.aload_n 0, 1) := by decide +kernel
theorem dt20_13 : decode jdk_31_method_10_code 13 = .ok (.areturn, 1) := by decide +kernel
theorem ef_23 (x0 : Addr) (m : MethodId) : entryFrame m #[(.ref x0)] 1 = mkF m 0 #[.val (.ref x0)] [] := by first | (simp [entryFrame, mkF, argsToLocals, o_catR, o_catN, o_catI, o_catJ, o_catD]; done) | rfl
theorem pn_9 : plainName "java/util/Objects" = true := by first | (simp [plainName, overriddenIn]; done) | decide +kernel
set_option maxRecDepth 65536 in
set_option maxHeartbeats 40000000 in
theorem ct_rnn (l : Launch) (Z : State) (a0 : Array Value) (hw : ∀ d ∈ tables_1, d.before a0 Z = true) (EL : List (String × Nat)) (n0 : Nat) (y : Addr) (h0 : Heap) :
    OCt l Z a0 EL n0 (⟨"java/util/Objects", "requireNonNull", "(Ljava/lang/Object;)Ljava/lang/Object;"⟩ : MethodName) jdk_31_method_10_code 1 (some (.object "java/lang/Object")) ({ frames := 0, cells := 0, slots := 0, locals := 0 } : Room) [] #[(.ref y)] h0 [] (fun w vm h => w = some (.ref y) ∧ h = h0) := by
  refine OCt.body (plainFor_of_name pn_9) (ef_23 y) ?_
  intro p e s m below meth c T hby hml hret hnm hsh P
  refine o_aloadN P (hb hby dt20_0) rfl rfl (pc' := 1) rfl ?_
  refine o_ifnonnullY P (hb hby dt20_1) (by decide) (pc' := 12) (by decide) ?_
  refine o_aloadN P (hb hby dt20_12) rfl rfl (pc' := 13) rfl ?_
  exact o_retA P hret rfl rfl rfl (hb hby dt20_13) (by decide) (by decide) ⟨rfl, rfl⟩
theorem dt21_0 : decode jdk_47_method_1_code 0 = .ok (.aload_n 0, 1) := by decide +kernel
theorem dt21_1 : decode jdk_47_method_1_code 1 = .ok (.invokespecial 1, 3) := by decide +kernel
theorem dt21_4 : decode jdk_47_method_1_code 4 = .ok (.return_, 1) := by decide +kernel
theorem ef_24 (x0 : Addr) (m : MethodId) : entryFrame m #[(.ref x0)] 1 = mkF m 0 #[.val (.ref x0)] [] := by first | (simp [entryFrame, mkF, argsToLocals, o_catR, o_catN, o_catI, o_catJ, o_catD]; done) | rfl
theorem pn_10 : plainName "java/util/ImmutableCollections$AbstractImmutableCollection" = true := by first | (simp [plainName, overriddenIn]; done) | decide +kernel
set_option maxRecDepth 65536 in
set_option maxHeartbeats 40000000 in
theorem ct_aic (l : Launch) (Z : State) (a0 : Array Value) (hw : ∀ d ∈ tables_1, d.before a0 Z = true) (EL : List (String × Nat)) (n0 : Nat) (a : Addr) (h0 : Heap) :
    OCt l Z a0 EL n0 (⟨"java/util/ImmutableCollections$AbstractImmutableCollection", "<init>", "()V"⟩ : MethodName) jdk_47_method_1_code 1 none ({ frames := 2, cells := 0, slots := 0, locals := 24 } : Room) [] #[(.ref a)] h0 [] (fun w vm h => w = none ∧ h = h0) := by
  refine OCt.body (plainFor_of_name pn_10) (ef_24 a) ?_
  intro p e s m below meth c T hby hml hret hnm hsh P
  refine o_aloadN P (hb hby dt21_0) rfl rfl (pc' := 1) rfl ?_
  refine o_callI P (W := 0) (a := a) rfl (ow hw 225 rfl) (ow hw 94 rfl) (ow hw 97 rfl) (ow hw 98 rfl) (by decide) (ct_aci l Z a0 hw EL n0 a h0) o_sf0 (by rw [hml]; rfl) (by decide) (by decide) (argsL := []) (rest := []) (lenOf pd_7 rfl) rfl rfl (Nat.le_of_eq rfl) (hb hby dt21_1) (pc' := 4) rfl (by decide) (by decide) ?_
  clear P; intro T h1 v1 P K1 q1
  obtain ⟨rfl, rfl⟩ := q1; clear K1
  show OG p e below m _ T 4 #[.val (.ref a)] []
  exact o_ret0 P hret (hb hby dt21_4) (by decide) (by decide) ⟨rfl, rfl⟩
theorem dt22_0 : decode jdk_46_method_1_code 0 = .ok (.aload_n 0, 1) := by decide +kernel
theorem dt22_1 : decode jdk_46_method_1_code 1 = .ok (.invokespecial 1, 3) := by decide +kernel
theorem dt22_4 : decode jdk_46_method_1_code 4 = .ok (.return_, 1) := by decide +kernel
theorem ef_25 (x0 : Addr) (m : MethodId) : entryFrame m #[(.ref x0)] 1 = mkF m 0 #[.val (.ref x0)] [] := by first | (simp [entryFrame, mkF, argsToLocals, o_catR, o_catN, o_catI, o_catJ, o_catD]; done) | rfl
theorem pn_11 : plainName "java/util/ImmutableCollections$AbstractImmutableList" = true := by first | (simp [plainName, overriddenIn]; done) | decide +kernel
set_option maxRecDepth 65536 in
set_option maxHeartbeats 40000000 in
theorem ct_ail (l : Launch) (Z : State) (a0 : Array Value) (hw : ∀ d ∈ tables_1, d.before a0 Z = true) (EL : List (String × Nat)) (n0 : Nat) (a : Addr) (h0 : Heap) :
    OCt l Z a0 EL n0 (⟨"java/util/ImmutableCollections$AbstractImmutableList", "<init>", "()V"⟩ : MethodName) jdk_46_method_1_code 1 none ({ frames := 3, cells := 0, slots := 0, locals := 36 } : Room) [] #[(.ref a)] h0 [] (fun w vm h => w = none ∧ h = h0) := by
  refine OCt.body (plainFor_of_name pn_11) (ef_25 a) ?_
  intro p e s m below meth c T hby hml hret hnm hsh P
  refine o_aloadN P (hb hby dt22_0) rfl rfl (pc' := 1) rfl ?_
  refine o_callI P (W := 0) (a := a) rfl (ow hw 219 rfl) (ow hw 220 rfl) (ow hw 223 rfl) (ow hw 224 rfl) (by decide) (ct_aic l Z a0 hw EL n0 a h0) o_sf0 (by rw [hml]; rfl) (by decide) (by decide) (argsL := []) (rest := []) (lenOf pd_7 rfl) rfl rfl (Nat.le_of_eq rfl) (hb hby dt22_1) (pc' := 4) rfl (by decide) (by decide) ?_
  clear P; intro T h1 v1 P K1 q1
  obtain ⟨rfl, rfl⟩ := q1; clear K1
  show OG p e below m _ T 4 #[.val (.ref a)] []
  exact o_ret0 P hret (hb hby dt22_4) (by decide) (by decide) ⟨rfl, rfl⟩
theorem dt23_0 : decode jdk_44_method_1_code 0 = .ok (.aload_n 0, 1) := by decide +kernel
theorem dt23_1 : decode jdk_44_method_1_code 1 = .ok (.invokespecial 1, 3) := by decide +kernel
theorem dt23_4 : decode jdk_44_method_1_code 4 = .ok (.aload_n 0, 1) := by decide +kernel
theorem dt23_5 : decode jdk_44_method_1_code 5 = .ok (.aload_n 1, 1) := by decide +kernel
theorem dt23_6 : decode jdk_44_method_1_code 6 = .ok (.invokestatic 7, 3) := by decide +kernel
theorem dt23_9 : decode jdk_44_method_1_code 9 = .ok (.putfield 13, 3) := by decide +kernel
theorem dt23_12 : decode jdk_44_method_1_code 12 = .ok (.aload_n 0, 1) := by decide +kernel
theorem dt23_13 : decode jdk_44_method_1_code 13 = .ok (.getstatic 19, 3) := by decide +kernel
theorem dt23_16 : decode jdk_44_method_1_code 16 = .ok (.putfield 24, 3) := by decide +kernel
theorem dt23_19 : decode jdk_44_method_1_code 19 = .ok (.return_, 1) := by decide +kernel
theorem ef_26 (x0 : Addr) (x1 : Addr) (m : MethodId) : entryFrame m #[(.ref x0), (.ref x1)] 2 = mkF m 0 #[.val (.ref x0), .val (.ref x1)] [] := by first | (simp [entryFrame, mkF, argsToLocals, o_catR, o_catN, o_catI, o_catJ, o_catD]; done) | rfl
theorem pn_12 : plainName "java/util/ImmutableCollections$List12" = true := by first | (simp [plainName, overriddenIn]; done) | decide +kernel
set_option maxRecDepth 65536 in
set_option maxHeartbeats 40000000 in
theorem ct_l1 (l : Launch) (Z : State) (a0 : Array Value) (hw : ∀ d ∈ tables_1, d.before a0 Z = true) (EL : List (String × Nat)) (n0 : Nat) (a y : Addr) (em : Addr) (hem : Sta Z Z.heap "java/util/ImmutableCollections" "EMPTY" "Ljava/lang/Object;" (.ref em)) (Fem : OObj Z Z.heap em "java/lang/Object" []) (h0 : Heap) (F_a : OObj Z h0 a "java/util/ImmutableCollections$List12" [("java/util/ImmutableCollections$List12", "e0", "Ljava/lang/Object;", .null), ("java/util/ImmutableCollections$List12", "e1", "Ljava/lang/Object;", .null)]) :
    OCt l Z a0 EL n0 (⟨"java/util/ImmutableCollections$List12", "<init>", "(Ljava/lang/Object;)V"⟩ : MethodName) jdk_44_method_1_code 2 none ({ frames := 4, cells := 0, slots := 0, locals := 48 } : Room) [] #[(.ref a), (.ref y)] h0 [a] (fun w vm h => w = none ∧ OObj Z h a "java/util/ImmutableCollections$List12" [("java/util/ImmutableCollections$List12", "e0", "Ljava/lang/Object;", (.ref y)), ("java/util/ImmutableCollections$List12", "e1", "Ljava/lang/Object;", (.ref em))]) := by
  refine OCt.body (plainFor_of_name pn_12) (ef_26 a y) ?_
  intro p e s m below meth c T hby hml hret hnm hsh P
  refine o_aloadN P (hb hby dt23_0) rfl rfl (pc' := 1) rfl ?_
  refine o_callI P (W := 0) (a := a) rfl (ow hw 269 rfl) (ow hw 214 rfl) (ow hw 217 rfl) (ow hw 218 rfl) (by decide) (ct_ail l Z a0 hw EL n0 a h0) o_sf0 (by rw [hml]; rfl) (by decide) (by decide) (argsL := []) (rest := []) (lenOf pd_7 rfl) rfl rfl (Nat.le_of_eq rfl) (hb hby dt23_1) (pc' := 4) rfl (by decide) (by decide) ?_
  clear P; intro T h1 v1 P K1 q1
  obtain ⟨rfl, rfl⟩ := q1; clear K1
  show OG p e below m _ T 4 #[.val (.ref a), .val (.ref y)] []
  refine o_aloadN P (hb hby dt23_4) rfl rfl (pc' := 5) rfl ?_
  refine o_aloadN P (hb hby dt23_5) rfl rfl (pc' := 6) rfl ?_
  refine o_callS P (W := 1) (ow hw 273 rfl) (ow hw 204 rfl) (ow hw 205 rfl) (ow hw 206 rfl) (by decide) (ct_rnn l Z a0 hw EL n0 y h1) o_sf0 (by rw [hml]; rfl) (by decide) (by decide) (argsL := [(.ref y)]) (rest := [(.ref a)]) (lenOf pd_12 rfl) rfl rfl (Nat.le_of_eq rfl) (hb hby dt23_6) (pc' := 9) rfl (by decide) (by decide) ?_
  clear P; intro T h2 v2 P K2 q2
  obtain ⟨rfl, rfl⟩ := q2; clear K2
  show OG p e below m _ T 9 #[.val (.ref a), .val (.ref y)] [(.ref y), (.ref a)]
  refine o_putF P (v' := (.ref y)) (ty := (.object "java/lang/Object")) (ow hw 274 rfl) Via.refl (F_a.fld 0 rfl) F_a.exa (Or.inr ⟨(ow hw 275 rfl), rfl, hnm⟩) (ow hw 263 rfl) (by decide) rfl rfl (List.Mem.head _) (hb hby dt23_9) (pc' := 12) rfl ?_
  clear P; intro T h3 P W3
  replace F_a : OObj Z h3 a "java/util/ImmutableCollections$List12" [("java/util/ImmutableCollections$List12", "e0", "Ljava/lang/Object;", (.ref y)), ("java/util/ImmutableCollections$List12", "e1", "Ljava/lang/Object;", .null)] := F_a.put 0 rfl W3
  clear W3
  refine o_aloadN P (hb hby dt23_12) rfl rfl (pc' := 13) rfl ?_
  refine o_getSN P (ow hw 284 rfl) Via.refl hem (hb hby dt23_13) (pc' := 16) rfl ?_
  clear P; intro T P
  refine o_putF P (v' := (.ref em)) (ty := (.object "java/lang/Object")) (ow hw 276 rfl) Via.refl (F_a.fld 1 rfl) F_a.exa (Or.inr ⟨(ow hw 277 rfl), rfl, hnm⟩) (ow hw 263 rfl) (by decide) rfl rfl (List.Mem.head _) (hb hby dt23_16) (pc' := 19) rfl ?_
  clear P; intro T h4 P W4
  replace F_a : OObj Z h4 a "java/util/ImmutableCollections$List12" [("java/util/ImmutableCollections$List12", "e0", "Ljava/lang/Object;", (.ref y)), ("java/util/ImmutableCollections$List12", "e1", "Ljava/lang/Object;", (.ref em))] := F_a.put 1 rfl W4
  clear W4
  exact o_ret0 P hret (hb hby dt23_19) (by decide) (by decide) ⟨rfl, F_a⟩
theorem dt24_0 : decode jdk_44_method_2_code 0 = .ok (.aload_n 0, 1) := by decide +kernel
theorem dt24_1 : decode jdk_44_method_2_code 1 = .ok (.invokespecial 1, 3) := by decide +kernel
theorem dt24_4 : decode jdk_44_method_2_code 4 = .ok (.aload_n 0, 1) := by decide +kernel
theorem dt24_5 : decode jdk_44_method_2_code 5 = .ok (.aload_n 1, 1) := by decide +kernel
theorem dt24_6 : decode jdk_44_method_2_code 6 = .ok (.invokestatic 7, 3) := by decide +kernel
theorem dt24_9 : decode jdk_44_method_2_code 9 = .ok (.putfield 13, 3) := by decide +kernel
theorem dt24_12 : decode jdk_44_method_2_code 12 = .ok (.aload_n 0, 1) := by decide +kernel
theorem dt24_13 : decode jdk_44_method_2_code 13 = .ok (.aload_n 2, 1) := by decide +kernel
theorem dt24_14 : decode jdk_44_method_2_code 14 = .ok (.invokestatic 7, 3) := by decide +kernel
theorem dt24_17 : decode jdk_44_method_2_code 17 = .ok (.putfield 24, 3) := by decide +kernel
theorem dt24_20 : decode jdk_44_method_2_code 20 = .ok (.return_, 1) := by decide +kernel
theorem ef_27 (x0 : Addr) (x1 : Addr) (x2 : Addr) (m : MethodId) : entryFrame m #[(.ref x0), (.ref x1), (.ref x2)] 3 = mkF m 0 #[.val (.ref x0), .val (.ref x1), .val (.ref x2)] [] := by first | (simp [entryFrame, mkF, argsToLocals, o_catR, o_catN, o_catI, o_catJ, o_catD]; done) | rfl
set_option maxRecDepth 65536 in
set_option maxHeartbeats 40000000 in
theorem ct_l2 (l : Launch) (Z : State) (a0 : Array Value) (hw : ∀ d ∈ tables_1, d.before a0 Z = true) (EL : List (String × Nat)) (n0 : Nat) (a y z : Addr) (h0 : Heap) (F_a : OObj Z h0 a "java/util/ImmutableCollections$List12" [("java/util/ImmutableCollections$List12", "e0", "Ljava/lang/Object;", .null), ("java/util/ImmutableCollections$List12", "e1", "Ljava/lang/Object;", .null)]) :
    OCt l Z a0 EL n0 (⟨"java/util/ImmutableCollections$List12", "<init>", "(Ljava/lang/Object;Ljava/lang/Object;)V"⟩ : MethodName) jdk_44_method_2_code 3 none ({ frames := 4, cells := 0, slots := 0, locals := 48 } : Room) [] #[(.ref a), (.ref y), (.ref z)] h0 [a] (fun w vm h => w = none ∧ OObj Z h a "java/util/ImmutableCollections$List12" [("java/util/ImmutableCollections$List12", "e0", "Ljava/lang/Object;", (.ref y)), ("java/util/ImmutableCollections$List12", "e1", "Ljava/lang/Object;", (.ref z))]) := by
  refine OCt.body (plainFor_of_name pn_12) (ef_27 a y z) ?_
  intro p e s m below meth c T hby hml hret hnm hsh P
  refine o_aloadN P (hb hby dt24_0) rfl rfl (pc' := 1) rfl ?_
  refine o_callI P (W := 0) (a := a) rfl (ow hw 269 rfl) (ow hw 214 rfl) (ow hw 217 rfl) (ow hw 218 rfl) (by decide) (ct_ail l Z a0 hw EL n0 a h0) o_sf0 (by rw [hml]; rfl) (by decide) (by decide) (argsL := []) (rest := []) (lenOf pd_7 rfl) rfl rfl (Nat.le_of_eq rfl) (hb hby dt24_1) (pc' := 4) rfl (by decide) (by decide) ?_
  clear P; intro T h1 v1 P K1 q1
  obtain ⟨rfl, rfl⟩ := q1; clear K1
  show OG p e below m _ T 4 #[.val (.ref a), .val (.ref y), .val (.ref z)] []
  refine o_aloadN P (hb hby dt24_4) rfl rfl (pc' := 5) rfl ?_
  refine o_aloadN P (hb hby dt24_5) rfl rfl (pc' := 6) rfl ?_
  refine o_callS P (W := 1) (ow hw 273 rfl) (ow hw 204 rfl) (ow hw 205 rfl) (ow hw 206 rfl) (by decide) (ct_rnn l Z a0 hw EL n0 y h1) o_sf0 (by rw [hml]; rfl) (by decide) (by decide) (argsL := [(.ref y)]) (rest := [(.ref a)]) (lenOf pd_12 rfl) rfl rfl (Nat.le_of_eq rfl) (hb hby dt24_6) (pc' := 9) rfl (by decide) (by decide) ?_
  clear P; intro T h2 v2 P K2 q2
  obtain ⟨rfl, rfl⟩ := q2; clear K2
  show OG p e below m _ T 9 #[.val (.ref a), .val (.ref y), .val (.ref z)] [(.ref y), (.ref a)]
  refine o_putF P (v' := (.ref y)) (ty := (.object "java/lang/Object")) (ow hw 274 rfl) Via.refl (F_a.fld 0 rfl) F_a.exa (Or.inr ⟨(ow hw 275 rfl), rfl, hnm⟩) (ow hw 263 rfl) (by decide) rfl rfl (List.Mem.head _) (hb hby dt24_9) (pc' := 12) rfl ?_
  clear P; intro T h3 P W3
  replace F_a : OObj Z h3 a "java/util/ImmutableCollections$List12" [("java/util/ImmutableCollections$List12", "e0", "Ljava/lang/Object;", (.ref y)), ("java/util/ImmutableCollections$List12", "e1", "Ljava/lang/Object;", .null)] := F_a.put 0 rfl W3
  clear W3
  refine o_aloadN P (hb hby dt24_12) rfl rfl (pc' := 13) rfl ?_
  refine o_aloadN P (hb hby dt24_13) rfl rfl (pc' := 14) rfl ?_
  refine o_callS P (W := 1) (ow hw 273 rfl) (ow hw 204 rfl) (ow hw 205 rfl) (ow hw 206 rfl) (by decide) (ct_rnn l Z a0 hw EL n0 z h3) o_sf0 (by rw [hml]; rfl) (by decide) (by decide) (argsL := [(.ref z)]) (rest := [(.ref a)]) (lenOf pd_12 rfl) rfl rfl (Nat.le_of_eq rfl) (hb hby dt24_14) (pc' := 17) rfl (by decide) (by decide) ?_
  clear P; intro T h4 v4 P K4 q4
  obtain ⟨rfl, rfl⟩ := q4; clear K4
  show OG p e below m _ T 17 #[.val (.ref a), .val (.ref y), .val (.ref z)] [(.ref z), (.ref a)]
  refine o_putF P (v' := (.ref z)) (ty := (.object "java/lang/Object")) (ow hw 276 rfl) Via.refl (F_a.fld 1 rfl) F_a.exa (Or.inr ⟨(ow hw 277 rfl), rfl, hnm⟩) (ow hw 263 rfl) (by decide) rfl rfl (List.Mem.head _) (hb hby dt24_17) (pc' := 20) rfl ?_
  clear P; intro T h5 P W5
  replace F_a : OObj Z h5 a "java/util/ImmutableCollections$List12" [("java/util/ImmutableCollections$List12", "e0", "Ljava/lang/Object;", (.ref y)), ("java/util/ImmutableCollections$List12", "e1", "Ljava/lang/Object;", (.ref z))] := F_a.put 1 rfl W5
  clear W5
  exact o_ret0 P hret (hb hby dt24_20) (by decide) (by decide) ⟨rfl, F_a⟩
theorem dt25_0 : decode jdk_45_method_1_code 0 = .ok (.aload_n 0, 1) := by decide +kernel
theorem dt25_1 : decode jdk_45_method_1_code 1 = .ok (.invokespecial 1, 3) := by decide +kernel
theorem dt25_4 : decode jdk_45_method_1_code 4 = .ok (.aload_n 0, 1) := by decide +kernel
theorem dt25_5 : decode jdk_45_method_1_code 5 = .ok (.aload_n 1, 1) := by decide +kernel
theorem dt25_6 : decode jdk_45_method_1_code 6 = .ok (.putfield 7, 3) := by decide +kernel
theorem dt25_9 : decode jdk_45_method_1_code 9 = .ok (.aload_n 0, 1) := by decide +kernel
theorem dt25_10 : decode jdk_45_method_1_code 10 = .ok (.iload_n 2, 1) := by decide +kernel
theorem dt25_11 : decode jdk_45_method_1_code 11 = .ok (.putfield 13, 3) := by decide +kernel
theorem dt25_14 : decode jdk_45_method_1_code 14 = .ok (.return_, 1) := by decide +kernel
theorem ef_28 (x0 : Addr) (x1 : Addr) (x2 : Int32) (m : MethodId) : entryFrame m #[(.ref x0), (.ref x1), (.int x2)] 3 = mkF m 0 #[.val (.ref x0), .val (.ref x1), .val (.int x2)] [] := by first | (simp [entryFrame, mkF, argsToLocals, o_catR, o_catN, o_catI, o_catJ, o_catD]; done) | rfl
theorem pn_13 : plainName "java/util/ImmutableCollections$ListN" = true := by first | (simp [plainName, overriddenIn]; done) | decide +kernel
set_option maxRecDepth 65536 in
set_option maxHeartbeats 40000000 in
theorem ct_ln (l : Launch) (Z : State) (a0 : Array Value) (hw : ∀ d ∈ tables_1, d.before a0 Z = true) (EL : List (String × Nat)) (n0 : Nat) (a ee : Addr) (h0 : Heap) (F_a : OObj Z h0 a "java/util/ImmutableCollections$ListN" [("java/util/ImmutableCollections$ListN", "elements", "[Ljava/lang/Object;", .null), ("java/util/ImmutableCollections$ListN", "allowNulls", "Z", (.int (0 : Int32)))]) :
    OCt l Z a0 EL n0 (⟨"java/util/ImmutableCollections$ListN", "<init>", "([Ljava/lang/Object;Z)V"⟩ : MethodName) jdk_45_method_1_code 3 none ({ frames := 4, cells := 0, slots := 0, locals := 48 } : Room) [] #[(.ref a), (.ref ee), (.int (0 : Int32))] h0 [a] (fun w vm h => w = none ∧ OObj Z h a "java/util/ImmutableCollections$ListN" [("java/util/ImmutableCollections$ListN", "elements", "[Ljava/lang/Object;", (.ref ee)), ("java/util/ImmutableCollections$ListN", "allowNulls", "Z", (.int (0 : Int32)))]) := by
  refine OCt.body (plainFor_of_name pn_13) (ef_28 a ee ((0 : Int32))) ?_
  intro p e s m below meth c T hby hml hret hnm hsh P
  refine o_aloadN P (hb hby dt25_0) rfl rfl (pc' := 1) rfl ?_
  refine o_callI P (W := 0) (a := a) rfl (ow hw 213 rfl) (ow hw 214 rfl) (ow hw 217 rfl) (ow hw 218 rfl) (by decide) (ct_ail l Z a0 hw EL n0 a h0) o_sf0 (by rw [hml]; rfl) (by decide) (by decide) (argsL := []) (rest := []) (lenOf pd_7 rfl) rfl rfl (Nat.le_of_eq rfl) (hb hby dt25_1) (pc' := 4) rfl (by decide) (by decide) ?_
  clear P; intro T h1 v1 P K1 q1
  obtain ⟨rfl, rfl⟩ := q1; clear K1
  show OG p e below m _ T 4 #[.val (.ref a), .val (.ref ee), .val (.int (0 : Int32))] []
  refine o_aloadN P (hb hby dt25_4) rfl rfl (pc' := 5) rfl ?_
  refine o_aloadN P (hb hby dt25_5) rfl rfl (pc' := 6) rfl ?_
  refine o_putF P (v' := (.ref ee)) (ty := (.array (.object "java/lang/Object"))) (ow hw 227 rfl) Via.refl (F_a.fld 0 rfl) F_a.exa (Or.inr ⟨(ow hw 228 rfl), rfl, hnm⟩) (ow hw 207 rfl) (by decide) rfl rfl (List.Mem.head _) (hb hby dt25_6) (pc' := 9) rfl ?_
  clear P; intro T h2 P W2
  replace F_a : OObj Z h2 a "java/util/ImmutableCollections$ListN" [("java/util/ImmutableCollections$ListN", "elements", "[Ljava/lang/Object;", (.ref ee)), ("java/util/ImmutableCollections$ListN", "allowNulls", "Z", (.int (0 : Int32)))] := F_a.put 0 rfl W2
  clear W2
  refine o_aloadN P (hb hby dt25_9) rfl rfl (pc' := 10) rfl ?_
  refine o_iloadN P (hb hby dt25_10) rfl (pc' := 11) rfl ?_
  refine o_putF P (v' := (.int (0 : Int32))) (ty := .boolean) (ow hw 229 rfl) Via.refl (F_a.fld 1 rfl) F_a.exa (Or.inr ⟨(ow hw 230 rfl), rfl, hnm⟩) (ow hw 207 rfl) (by decide) rfl rfl (List.Mem.head _) (hb hby dt25_11) (pc' := 14) rfl ?_
  clear P; intro T h3 P W3
  replace F_a : OObj Z h3 a "java/util/ImmutableCollections$ListN" [("java/util/ImmutableCollections$ListN", "elements", "[Ljava/lang/Object;", (.ref ee)), ("java/util/ImmutableCollections$ListN", "allowNulls", "Z", (.int (0 : Int32)))] := F_a.put 1 rfl W3
  clear W3
  exact o_ret0 P hret (hb hby dt25_14) (by decide) (by decide) ⟨rfl, F_a⟩
theorem dt26_0 : decode jdk_29_method_69_code 0 = .ok (.iload_n 0, 1) := by decide +kernel
theorem dt26_1 : decode jdk_29_method_69_code 1 = .ok (.iload_n 1, 1) := by decide +kernel
theorem dt26_2 : decode jdk_29_method_69_code 2 = .ok (.if_icmp .gt 7, 3) := by decide +kernel
theorem dt26_5 : decode jdk_29_method_69_code 5 = .ok (.iload_n 0, 1) := by decide +kernel
theorem dt26_6 : decode jdk_29_method_69_code 6 = .ok (.goto 4, 3) := by decide +kernel
theorem dt26_9 : decode jdk_29_method_69_code 9 = .ok (.iload_n 1, 1) := by decide +kernel
theorem dt26_10 : decode jdk_29_method_69_code 10 = .ok (.ireturn, 1) := by decide +kernel
theorem ef_29 (x0 : Int32) (x1 : Int32) (m : MethodId) : entryFrame m #[(.int x0), (.int x1)] 2 = mkF m 0 #[.val (.int x0), .val (.int x1)] [] := by first | (simp [entryFrame, mkF, argsToLocals, o_catR, o_catN, o_catI, o_catJ, o_catD]; done) | rfl
set_option maxRecDepth 65536 in
set_option maxHeartbeats 40000000 in
theorem ct_min1 (l : Launch) (Z : State) (a0 : Array Value) (hw : ∀ d ∈ tables_1, d.before a0 Z = true) (EL : List (String × Nat)) (n0 : Nat) (h0 : Heap) :
    OCt l Z a0 EL n0 (⟨"java/lang/Math", "min", "(II)I"⟩ : MethodName) jdk_29_method_69_code 2 (some .int) ({ frames := 0, cells := 0, slots := 0, locals := 0 } : Room) [] #[(.int (10 : Int32)), (.int (1 : Int32))] h0 [] (fun w vm h => w = some (.int 1) ∧ h = h0) := by
  refine OCt.body (Jvm.Free.JP.mathPlain rfl (by decide +kernel)) (ef_29 ((10 : Int32)) ((1 : Int32))) ?_
  intro p e s m below meth c T hby hml hret hnm hsh P
  refine o_iloadN P (hb hby dt26_0) rfl (pc' := 1) rfl ?_
  refine o_iloadN P (hb hby dt26_1) rfl (pc' := 2) rfl ?_
  refine o_icmp_gt P (hb hby dt26_2) (by decide) (pc' := 9) (by decide) (pcf := 5) rfl (fun _ => ?_) (fun q => absurd (by decide) q)
  refine o_iloadN P (hb hby dt26_9) rfl (pc' := 10) rfl ?_
  exact o_retI P hret (by simp) rfl (hb hby dt26_10) (by decide) (by decide) ⟨rfl, rfl⟩
theorem dt27_0 : decode jdk_65_method_120_code 0 = .ok (.aload_n 2, 1) := by decide +kernel
theorem dt27_1 : decode jdk_65_method_120_code 1 = .ok (.ldc 110, 2) := by decide +kernel
theorem dt27_3 : decode jdk_65_method_120_code 3 = .ok (.if_acmp .ne 10, 3) := by decide +kernel
theorem dt27_6 : decode jdk_65_method_120_code 6 = .ok (.iload_n 1, 1) := by decide +kernel
theorem dt27_7 : decode jdk_65_method_120_code 7 = .ok (.anewarray 2, 3) := by decide +kernel
theorem dt27_10 : decode jdk_65_method_120_code 10 = .ok (.goto 14, 3) := by decide +kernel
theorem dt27_13 : decode jdk_65_method_120_code 13 = .ok (.aload_n 2, 1) := by decide +kernel
theorem dt27_14 : decode jdk_65_method_120_code 14 = .ok (.invokevirtual 90, 3) := by decide +kernel
theorem dt27_17 : decode jdk_65_method_120_code 17 = .ok (.iload_n 1, 1) := by decide +kernel
theorem dt27_18 : decode jdk_65_method_120_code 18 = .ok (.invokestatic 95, 3) := by decide +kernel
theorem dt27_21 : decode jdk_65_method_120_code 21 = .ok (.checkcast 110, 3) := by decide +kernel
theorem dt27_24 : decode jdk_65_method_120_code 24 = .ok (.astore_n 3, 1) := by decide +kernel
theorem dt27_25 : decode jdk_65_method_120_code 25 = .ok (.aload_n 0, 1) := by decide +kernel
theorem dt27_26 : decode jdk_65_method_120_code 26 = .ok (.iconst 0, 1) := by decide +kernel
theorem dt27_27 : decode jdk_65_method_120_code 27 = .ok (.aload_n 3, 1) := by decide +kernel
theorem dt27_28 : decode jdk_65_method_120_code 28 = .ok (.iconst 0, 1) := by decide +kernel
theorem dt27_29 : decode jdk_65_method_120_code 29 = .ok (.aload_n 0, 1) := by decide +kernel
theorem dt27_30 : decode jdk_65_method_120_code 30 = .ok (.arraylength, 1) := by decide +kernel
theorem dt27_31 : decode jdk_65_method_120_code 31 = .ok (.iload_n 1, 1) := by decide +kernel
theorem dt27_32 : decode jdk_65_method_120_code 32 = .ok (.invokestatic 304, 3) := by decide +kernel
theorem dt27_35 : decode jdk_65_method_120_code 35 = .ok (.invokestatic 150, 3) := by decide +kernel
theorem dt27_38 : decode jdk_65_method_120_code 38 = .ok (.aload_n 3, 1) := by decide +kernel
theorem dt27_39 : decode jdk_65_method_120_code 39 = .ok (.areturn, 1) := by decide +kernel
theorem ef_30 (x0 : Addr) (x1 : Int32) (x2 : Addr) (m : MethodId) : entryFrame m #[(.ref x0), (.int x1), (.ref x2)] 4 = mkF m 0 #[.val (.ref x0), .val (.int x1), .val (.ref x2), .unset] [] := by first | (simp [entryFrame, mkF, argsToLocals, o_catR, o_catN, o_catI, o_catJ, o_catD]; done) | rfl
theorem pn_14 : plainName "java/util/Arrays" = true := by first | (simp [plainName, overriddenIn]; done) | decide +kernel
set_option maxRecDepth 65536 in
set_option maxHeartbeats 40000000 in
theorem ct_cp3_1 (l : Launch) (Z : State) (a0 : Array Value) (hw : ∀ d ∈ tables_1, d.before a0 Z = true) (EL : List (String × Nat)) (n0 : Nat) (d : Addr) (r0 : Addr) (mir : Addr) (hmir : OMir Z "[Ljava/lang/Object;" mir) (h0 : Heap) (A_d : OArr Z h0 d (.object "java/lang/Object") [(.ref r0), .null, .null, .null, .null, .null, .null, .null, .null, .null]) (F_r0 : OObj Z h0 r0 "com/example/pledgebook/pledgebook/model/LedgerMonth" []) :
    OCt l Z a0 EL n0 (⟨"java/util/Arrays", "copyOf", "([Ljava/lang/Object;ILjava/lang/Class;)[Ljava/lang/Object;"⟩ : MethodName) jdk_65_method_120_code 4 (some (.array (.object "java/lang/Object"))) ({ frames := 1, cells := 1, slots := 1, locals := 18 } : Room) [] #[(.ref d), (.int (1 : Int32)), (.ref mir)] h0 [] (fun w vm h => ∃ b : Addr, w = some (.ref b) ∧ h0.size ≤ b ∧ OArr Z h b (.object "java/lang/Object") [(.ref r0)]) := by
  refine OCt.body (plainFor_of_name pn_14) (ef_30 d ((1 : Int32)) mir) ?_
  intro p e s m below meth c T hby hml hret hnm hsh P
  refine o_aloadN P (hb hby dt27_0) rfl rfl (pc' := 1) rfl ?_
  refine o_ldcMir P hmir (ow hw 187 rfl) (hb hby dt27_1) (pc' := 3) rfl ?_
  clear P; intro T P
  refine o_acmp P true (hb hby dt27_3) rfl rfl (decide_eq_true rfl) (by decide) (pc' := 6) rfl ?_
  refine o_iloadN P (hb hby dt27_6) rfl (pc' := 7) rfl ?_
  have hz_b := P.keep0.1
  refine o_anewarrE P (N := "[Ljava/lang/Object;") (cap := 1) (ow hw 188 rfl) (ow hw 134 rfl) (by decide) (hb hby dt27_7) (by decide) (by decide) (by decide) (pc' := 10) rfl (by decide) (by decide) ?_
  clear P; intro T h1 b P K1 hb_b A_b O_b
  have sz_b := Nat.le_trans hz_b hb_b
  clear hz_b
  have ne_r0_b : r0 ≠ b := Nat.ne_of_lt (Nat.lt_of_lt_of_le F_r0.lt hb_b)
  have ne_d_b : d ≠ b := Nat.ne_of_lt (Nat.lt_of_lt_of_le A_d.lt hb_b)
  replace F_r0 := F_r0.keep K1 nin0
  replace A_d := A_d.keep K1 nin0
  clear K1
  replace A_b : OArr Z h1 b (.object "java/lang/Object") [.null] := A_b
  refine o_goto P (hb hby dt27_10) (by decide) (pc' := 24) (by decide) ?_
  refine o_astoreN P (hb hby dt27_24) rfl (L' := #[.val (.ref d), .val (.int (1 : Int32)), .val (.ref mir), .val (.ref b)]) rfl (pc' := 25) rfl ?_
  refine o_aloadN P (hb hby dt27_25) rfl rfl (pc' := 26) rfl ?_
  refine o_iconst P (0 : Int32) (hb hby dt27_26) rfl (pc' := 27) rfl ?_
  refine o_aloadN P (hb hby dt27_27) rfl rfl (pc' := 28) rfl ?_
  refine o_iconst P (0 : Int32) (hb hby dt27_28) rfl (pc' := 29) rfl ?_
  refine o_aloadN P (hb hby dt27_29) rfl rfl (pc' := 30) rfl ?_
  refine o_arrlen P A_d (hb hby dt27_30) (n := (10 : Int32)) rfl (pc' := 31) rfl ?_
  refine o_iloadN P (hb hby dt27_31) rfl (pc' := 32) rfl ?_
  refine o_callS P (W := 4) (ow hw 189 rfl) (ow hw 190 rfl) (ow hw 131 rfl) (ow hw 191 rfl) (by decide) (ct_min1 l Z a0 hw EL n0 h1) o_sf0 (by rw [hml]; rfl) (by decide) (by decide) (argsL := [(.int (10 : Int32)), (.int (1 : Int32))]) (rest := [(.int (0 : Int32)), (.ref b), (.int (0 : Int32)), (.ref d)]) (lenOf pd_8 rfl) rfl rfl (Nat.le_of_eq rfl) (hb hby dt27_32) (pc' := 35) rfl (by decide) (by decide) ?_
  clear P; intro T h2 v2 P K2 q2
  obtain ⟨rfl, rfl⟩ := q2; clear K2
  show OG p e below m _ T 35 #[.val (.ref d), .val (.int (1 : Int32)), .val (.ref mir), .val (.ref b)] [(.int (1 : Int32)), (.int (0 : Int32)), (.ref b), (.int (0 : Int32)), (.ref d)]
  refine o_cpA P (W := 0) (us := [(.ref r0)]) (ow hw 192 rfl) (ow hw 195 rfl) (ow hw 193 rfl) (ow hw 194 rfl) A_d A_b (List.Mem.head _) (Or.inr ⟨rfl, rfl, ⟨(O_b.sto A_b (Ins.of_exa F_r0.exa (ow hw 135 rfl))), trivial⟩⟩) (by decide) (by decide) (by decide) (of_decide_eq_true rfl) (of_decide_eq_true rfl) rfl (by rw [hml]; rfl) (by decide) (by decide) (by decide) (hb hby dt27_35) (pc' := 38) rfl ?_
  clear P; intro T h3 P K3 A'
  replace A_b : OArr Z h3 b (.object "java/lang/Object") [(.ref r0)] := A'
  refine o_aloadN P (hb hby dt27_38) rfl rfl (pc' := 39) rfl ?_
  exact o_retA P hret rfl rfl rfl (hb hby dt27_39) (by decide) (by decide) ⟨b, rfl, hsh ▸ sz_b, A_b⟩
theorem dt28_0 : decode jdk_65_method_119_code 0 = .ok (.aload_n 0, 1) := by decide +kernel
theorem dt28_1 : decode jdk_65_method_119_code 1 = .ok (.iload_n 1, 1) := by decide +kernel
theorem dt28_2 : decode jdk_65_method_119_code 2 = .ok (.aload_n 0, 1) := by decide +kernel
theorem dt28_3 : decode jdk_65_method_119_code 3 = .ok (.invokevirtual 86, 3) := by decide +kernel
theorem dt28_6 : decode jdk_65_method_119_code 6 = .ok (.invokestatic 300, 3) := by decide +kernel
theorem dt28_9 : decode jdk_65_method_119_code 9 = .ok (.areturn, 1) := by decide +kernel
theorem ef_31 (x0 : Addr) (x1 : Int32) (m : MethodId) : entryFrame m #[(.ref x0), (.int x1)] 2 = mkF m 0 #[.val (.ref x0), .val (.int x1)] [] := by first | (simp [entryFrame, mkF, argsToLocals, o_catR, o_catN, o_catI, o_catJ, o_catD]; done) | rfl
set_option maxRecDepth 65536 in
set_option maxHeartbeats 40000000 in
theorem ct_cp2_1 (l : Launch) (Z : State) (a0 : Array Value) (hw : ∀ d ∈ tables_1, d.before a0 Z = true) (EL : List (String × Nat)) (n0 : Nat) (d : Addr) (r0 : Addr) (mir : Addr) (hmir : OMir Z "[Ljava/lang/Object;" mir) (h0 : Heap) (A_d : OArr Z h0 d (.object "java/lang/Object") [(.ref r0), .null, .null, .null, .null, .null, .null, .null, .null, .null]) (O_d : OAr Z h0 d "java/lang/Object" "[Ljava/lang/Object;") (F_r0 : OObj Z h0 r0 "com/example/pledgebook/pledgebook/model/LedgerMonth" []) :
    OCt l Z a0 EL n0 (⟨"java/util/Arrays", "copyOf", "([Ljava/lang/Object;I)[Ljava/lang/Object;"⟩ : MethodName) jdk_65_method_119_code 2 (some (.array (.object "java/lang/Object"))) ({ frames := 2, cells := 1, slots := 1, locals := 33 } : Room) [] #[(.ref d), (.int (1 : Int32))] h0 [] (fun w vm h => ∃ b : Addr, w = some (.ref b) ∧ h0.size ≤ b ∧ OArr Z h b (.object "java/lang/Object") [(.ref r0)]) := by
  refine OCt.body (plainFor_of_name pn_14) (ef_31 d ((1 : Int32))) ?_
  intro p e s m below meth c T hby hml hret hnm hsh P
  refine o_aloadN P (hb hby dt28_0) rfl rfl (pc' := 1) rfl ?_
  refine o_iloadN P (hb hby dt28_1) rfl (pc' := 2) rfl ?_
  refine o_aloadN P (hb hby dt28_2) rfl rfl (pc' := 3) rfl ?_
  refine o_getCls P (W := 2) hmir O_d.1 (ow hw 178 rfl) (ow hw 179 rfl) (o_nfTop (ow hw 155 rfl)) (ow hw 181 rfl) (ow hw 180 rfl) (ow hw 182 rfl) (by rw [hml]; rfl) (by decide) (Nat.le_of_eq rfl) (by decide) (hb hby dt28_3) (pc' := 6) rfl ?_
  clear P; intro T P
  refine o_callS P (W := 0) (ow hw 184 rfl) (ow hw 185 rfl) (ow hw 176 rfl) (ow hw 186 rfl) (by decide) (ct_cp3_1 l Z a0 hw EL n0 d r0 mir hmir h0 A_d F_r0) o_sf0 (by rw [hml]; rfl) (by decide) (by decide) (argsL := [(.ref d), (.int (1 : Int32)), (.ref mir)]) (rest := []) (lenOf pd_13 rfl) rfl rfl (Nat.le_of_eq rfl) (hb hby dt28_6) (pc' := 9) rfl (by decide) (by decide) ?_
  clear P; intro T h1 v1 P K1 q1
  obtain ⟨b, rfl, g1, A'⟩ := q1
  show OG p e below m _ T 9 #[.val (.ref d), .val (.int (1 : Int32))] [(.ref b)]
  exact o_retA P hret rfl rfl rfl (hb hby dt28_9) (by decide) (by decide) ⟨b, rfl, g1, A'⟩
theorem dt29_0 : decode jdk_38_method_16_code 0 = .ok (.aload_n 0, 1) := by decide +kernel
theorem dt29_1 : decode jdk_38_method_16_code 1 = .ok (.getfield 9, 3) := by decide +kernel
theorem dt29_4 : decode jdk_38_method_16_code 4 = .ok (.aload_n 0, 1) := by decide +kernel
theorem dt29_5 : decode jdk_38_method_16_code 5 = .ok (.getfield 48, 3) := by decide +kernel
theorem dt29_8 : decode jdk_38_method_16_code 8 = .ok (.invokestatic 66, 3) := by decide +kernel
theorem dt29_11 : decode jdk_38_method_16_code 11 = .ok (.areturn, 1) := by decide +kernel
theorem ef_32 (x0 : Addr) (m : MethodId) : entryFrame m #[(.ref x0)] 1 = mkF m 0 #[.val (.ref x0)] [] := by first | (simp [entryFrame, mkF, argsToLocals, o_catR, o_catN, o_catI, o_catJ, o_catD]; done) | rfl
set_option maxRecDepth 65536 in
set_option maxHeartbeats 40000000 in
theorem ct_toA_1 (l : Launch) (Z : State) (a0 : Array Value) (hw : ∀ d ∈ tables_1, d.before a0 Z = true) (EL : List (String × Nat)) (n0 : Nat) (a : Addr) (mc : Int32) (d : Addr) (r0 : Addr) (mir : Addr) (hmir : OMir Z "[Ljava/lang/Object;" mir) (h0 : Heap) (A_d : OArr Z h0 d (.object "java/lang/Object") [(.ref r0), .null, .null, .null, .null, .null, .null, .null, .null, .null]) (O_d : OAr Z h0 d "java/lang/Object" "[Ljava/lang/Object;") (F_r0 : OObj Z h0 r0 "com/example/pledgebook/pledgebook/model/LedgerMonth" []) (F_a : OObj Z h0 a "java/util/ArrayList" [("java/util/AbstractList", "modCount", "I", (.int mc)), ("java/util/ArrayList", "elementData", "[Ljava/lang/Object;", (.ref d)), ("java/util/ArrayList", "size", "I", (.int (1 : Int32)))]) :
    OCt l Z a0 EL n0 (⟨"java/util/ArrayList", "toArray", "()[Ljava/lang/Object;"⟩ : MethodName) jdk_38_method_16_code 1 (some (.array (.object "java/lang/Object"))) ({ frames := 3, cells := 1, slots := 1, locals := 46 } : Room) [] #[(.ref a)] h0 [] (fun w vm h => ∃ b : Addr, w = some (.ref b) ∧ h0.size ≤ b ∧ OArr Z h b (.object "java/lang/Object") [(.ref r0)]) := by
  refine OCt.body (plainFor_of_name pn_8) (ef_32 a) ?_
  intro p e s m below meth c T hby hml hret hnm hsh P
  refine o_aloadN P (hb hby dt29_0) rfl rfl (pc' := 1) rfl ?_
  refine o_getF P (ow hw 103 rfl) Via.refl (F_a.fld 1 rfl) (hb hby dt29_1) (pc' := 4) rfl ?_
  clear P; intro T P
  refine o_aloadN P (hb hby dt29_4) rfl rfl (pc' := 5) rfl ?_
  refine o_getF P (ow hw 112 rfl) Via.refl (F_a.fld 2 rfl) (hb hby dt29_5) (pc' := 8) rfl ?_
  clear P; intro T P
  refine o_callS P (W := 0) (ow hw 174 rfl) (ow hw 175 rfl) (ow hw 176 rfl) (ow hw 177 rfl) (by decide) (ct_cp2_1 l Z a0 hw EL n0 d r0 mir hmir h0 A_d O_d F_r0) o_sf0 (by rw [hml]; rfl) (by decide) (by decide) (argsL := [(.ref d), (.int (1 : Int32))]) (rest := []) (lenOf pd_14 rfl) rfl rfl (Nat.le_of_eq rfl) (hb hby dt29_8) (pc' := 11) rfl (by decide) (by decide) ?_
  clear P; intro T h1 v1 P K1 q1
  obtain ⟨b, rfl, g1, A'⟩ := q1
  show OG p e below m _ T 11 #[.val (.ref a)] [(.ref b)]
  exact o_retA P hret rfl rfl rfl (hb hby dt29_11) (by decide) (by decide) ⟨b, rfl, g1, A'⟩
theorem dt30_0 : decode jdk_38_method_9_code 0 = .ok (.aload_n 0, 1) := by decide +kernel
theorem dt30_1 : decode jdk_38_method_9_code 1 = .ok (.getfield 48, 3) := by decide +kernel
theorem dt30_4 : decode jdk_38_method_9_code 4 = .ok (.ifCond .ne 7, 3) := by decide +kernel
theorem dt30_7 : decode jdk_38_method_9_code 7 = .ok (.iconst 1, 1) := by decide +kernel
theorem dt30_8 : decode jdk_38_method_9_code 8 = .ok (.goto 4, 3) := by decide +kernel
theorem dt30_11 : decode jdk_38_method_9_code 11 = .ok (.iconst 0, 1) := by decide +kernel
theorem dt30_12 : decode jdk_38_method_9_code 12 = .ok (.ireturn, 1) := by decide +kernel
theorem ef_33 (x0 : Addr) (m : MethodId) : entryFrame m #[(.ref x0)] 1 = mkF m 0 #[.val (.ref x0)] [] := by first | (simp [entryFrame, mkF, argsToLocals, o_catR, o_catN, o_catI, o_catJ, o_catD]; done) | rfl
set_option maxRecDepth 65536 in
set_option maxHeartbeats 40000000 in
theorem ct_isE_1 (l : Launch) (Z : State) (a0 : Array Value) (hw : ∀ d ∈ tables_1, d.before a0 Z = true) (EL : List (String × Nat)) (n0 : Nat) (a : Addr) (mc : Int32) (d : Addr) (h0 : Heap) (F_a : OObj Z h0 a "java/util/ArrayList" [("java/util/AbstractList", "modCount", "I", (.int mc)), ("java/util/ArrayList", "elementData", "[Ljava/lang/Object;", (.ref d)), ("java/util/ArrayList", "size", "I", (.int (1 : Int32)))]) :
    OCt l Z a0 EL n0 (⟨"java/util/ArrayList", "isEmpty", "()Z"⟩ : MethodName) jdk_38_method_9_code 1 (some .boolean) ({ frames := 0, cells := 0, slots := 0, locals := 0 } : Room) [] #[(.ref a)] h0 [] (fun w vm h => w = some (.int 0) ∧ h = h0) := by
  refine OCt.body (plainFor_of_name pn_8) (ef_33 a) ?_
  intro p e s m below meth c T hby hml hret hnm hsh P
  refine o_aloadN P (hb hby dt30_0) rfl rfl (pc' := 1) rfl ?_
  refine o_getF P (ow hw 112 rfl) Via.refl (F_a.fld 2 rfl) (hb hby dt30_1) (pc' := 4) rfl ?_
  clear P; intro T P
  refine o_if_ne P (hb hby dt30_4) (by decide) (pc' := 11) (by decide) (pcf := 7) rfl (fun _ => ?_) (fun q => absurd q (by decide))
  refine o_iconst P (0 : Int32) (hb hby dt30_11) rfl (pc' := 12) rfl ?_
  exact o_retI P hret (by simp) rfl (hb hby dt30_12) (by decide) (by decide) ⟨rfl, rfl⟩
theorem dt31_0 : decode jdk_40_method_47_code 0 = .ok (.aload_n 0, 1) := by decide +kernel
theorem dt31_1 : decode jdk_40_method_47_code 1 = .ok (.arraylength, 1) := by decide +kernel
theorem dt31_2 : decode jdk_40_method_47_code 2 = .ok (.tableswitch 57 0 2 #[26, 32, 43], 26) := by decide +kernel
theorem dt31_28 : decode jdk_40_method_47_code 28 = .ok (.getstatic 90, 3) := by decide +kernel
theorem dt31_31 : decode jdk_40_method_47_code 31 = .ok (.astore_n 1, 1) := by decide +kernel
theorem dt31_32 : decode jdk_40_method_47_code 32 = .ok (.aload_n 1, 1) := by decide +kernel
theorem dt31_33 : decode jdk_40_method_47_code 33 = .ok (.areturn, 1) := by decide +kernel
theorem dt31_34 : decode jdk_40_method_47_code 34 = .ok (.new 96, 3) := by decide +kernel
theorem dt31_37 : decode jdk_40_method_47_code 37 = .ok (.dup, 1) := by decide +kernel
theorem dt31_38 : decode jdk_40_method_47_code 38 = .ok (.aload_n 0, 1) := by decide +kernel
theorem dt31_39 : decode jdk_40_method_47_code 39 = .ok (.iconst 0, 1) := by decide +kernel
theorem dt31_40 : decode jdk_40_method_47_code 40 = .ok (.aaload, 1) := by decide +kernel
theorem dt31_41 : decode jdk_40_method_47_code 41 = .ok (.invokespecial 98, 3) := by decide +kernel
theorem dt31_44 : decode jdk_40_method_47_code 44 = .ok (.areturn, 1) := by decide +kernel
theorem dt31_45 : decode jdk_40_method_47_code 45 = .ok (.new 96, 3) := by decide +kernel
theorem dt31_48 : decode jdk_40_method_47_code 48 = .ok (.dup, 1) := by decide +kernel
theorem dt31_49 : decode jdk_40_method_47_code 49 = .ok (.aload_n 0, 1) := by decide +kernel
theorem dt31_50 : decode jdk_40_method_47_code 50 = .ok (.iconst 0, 1) := by decide +kernel
theorem dt31_51 : decode jdk_40_method_47_code 51 = .ok (.aaload, 1) := by decide +kernel
theorem dt31_52 : decode jdk_40_method_47_code 52 = .ok (.aload_n 0, 1) := by decide +kernel
theorem dt31_53 : decode jdk_40_method_47_code 53 = .ok (.iconst 1, 1) := by decide +kernel
theorem dt31_54 : decode jdk_40_method_47_code 54 = .ok (.aaload, 1) := by decide +kernel
theorem dt31_55 : decode jdk_40_method_47_code 55 = .ok (.invokespecial 100, 3) := by decide +kernel
theorem dt31_58 : decode jdk_40_method_47_code 58 = .ok (.areturn, 1) := by decide +kernel
theorem dt31_59 : decode jdk_40_method_47_code 59 = .ok (.aload_n 0, 1) := by decide +kernel
theorem dt31_60 : decode jdk_40_method_47_code 60 = .ok (.invokestatic 109, 3) := by decide +kernel
theorem dt31_63 : decode jdk_40_method_47_code 63 = .ok (.areturn, 1) := by decide +kernel
theorem ef_34 (x0 : Addr) (m : MethodId) : entryFrame m #[(.ref x0)] 2 = mkF m 0 #[.val (.ref x0), .unset] [] := by first | (simp [entryFrame, mkF, argsToLocals, o_catR, o_catN, o_catI, o_catJ, o_catD]; done) | rfl
theorem pn_15 : plainName "java/util/List" = true := by first | (simp [plainName, overriddenIn]; done) | decide +kernel
set_option maxRecDepth 65536 in
set_option maxHeartbeats 40000000 in
theorem ct_lof_1 (l : Launch) (Z : State) (a0 : Array Value) (hw : ∀ d ∈ tables_1, d.before a0 Z = true) (EL : List (String × Nat)) (n0 : Nat) (b : Addr) (r0 : Addr) (em : Addr) (hem : Sta Z Z.heap "java/util/ImmutableCollections" "EMPTY" "Ljava/lang/Object;" (.ref em)) (Fem : OObj Z Z.heap em "java/lang/Object" []) (h0 : Heap) (A_b : OArr Z h0 b (.object "java/lang/Object") [(.ref r0)]) (F_r0 : OObj Z h0 r0 "com/example/pledgebook/pledgebook/model/LedgerMonth" []) :
    OCt l Z a0 EL n0 (⟨"java/util/List", "of", "([Ljava/lang/Object;)Ljava/util/List;"⟩ : MethodName) jdk_40_method_47_code 2 (some (.object "java/util/List")) ({ frames := 6, cells := 2, slots := 3, locals := 77 } : Room) [] #[(.ref b)] h0 [] (fun w vm h => ∃ g : Addr, w = some (.ref g) ∧ h0.size ≤ g ∧ OObj Z h g "java/util/ImmutableCollections$List12" [("java/util/ImmutableCollections$List12", "e0", "Ljava/lang/Object;", (.ref r0)), ("java/util/ImmutableCollections$List12", "e1", "Ljava/lang/Object;", (.ref em))]) := by
  refine OCt.body (plainFor_of_name pn_15) (ef_34 b) ?_
  intro p e s m below meth c T hby hml hret hnm hsh P
  refine o_aloadN P (hb hby dt31_0) rfl rfl (pc' := 1) rfl ?_
  refine o_arrlen P A_b (hb hby dt31_1) (n := (1 : Int32)) rfl (pc' := 2) rfl ?_
  refine o_tsIn P (hb hby dt31_2) (by decide) (off := 32) rfl (by decide) (pc' := 34) rfl ?_
  have hz_g := P.keep0.1
  refine o_new P [("java/util/ImmutableCollections$List12", "e0", "Ljava/lang/Object;", .null), ("java/util/ImmutableCollections$List12", "e1", "Ljava/lang/Object;", .null)] (ow hw 262 rfl) (ow hw 263 rfl) (ow hw 264 rfl) (OLd.cons (Or.inr (ow hw 275 rfl)) (ty := (.object "java/lang/Object")) (by decide) rfl (OLd.cons (Or.inr (ow hw 277 rfl)) (ty := (.object "java/lang/Object")) (by decide) rfl OLd.nil)) (by decide +kernel) (hb hby dt31_34) (pc' := 37) rfl (by decide) (by decide) ?_
  clear P; intro T h1 g P K1 hb_g F_g
  have sz_g := Nat.le_trans hz_g hb_g
  clear hz_g
  have ne_r0_g : r0 ≠ g := Nat.ne_of_lt (Nat.lt_of_lt_of_le F_r0.lt hb_g)
  have ne_b_g : b ≠ g := Nat.ne_of_lt (Nat.lt_of_lt_of_le A_b.lt hb_g)
  replace F_r0 := F_r0.keep K1 nin0
  replace A_b := A_b.keep K1 nin0
  clear K1
  refine o_dup P (hb hby dt31_37) rfl (pc' := 38) rfl ?_
  refine o_aloadN P (hb hby dt31_38) rfl rfl (pc' := 39) rfl ?_
  refine o_iconst P (0 : Int32) (hb hby dt31_39) rfl (pc' := 40) rfl ?_
  refine o_aaload P (v := (.ref r0)) A_b rfl (by decide) rfl (hb hby dt31_40) (pc' := 41) rfl ?_
  refine o_callI P (W := 1) (a := g) rfl (ow hw 290 rfl) (ow hw 291 rfl) (ow hw 264 rfl) (ow hw 292 rfl) (by decide) (ct_l1 l Z a0 hw EL n0 g r0 em hem Fem h1 F_g) (o_sfS (List.Mem.head _) o_sf0) (by rw [hml]; rfl) (by decide) (by decide) (argsL := [(.ref r0)]) (rest := [(.ref g)]) (lenOf pd_15 rfl) rfl rfl (Nat.le_of_eq rfl) (hb hby dt31_41) (pc' := 44) rfl (by decide) (by decide) ?_
  clear P; intro T h2 v2 P K2 q2
  obtain ⟨rfl, F'⟩ := q2
  show OG p e below m _ T 44 #[.val (.ref b), .unset] [(.ref g)]
  exact o_retA P hret rfl rfl rfl (hb hby dt31_44) (by decide) (by decide) ⟨g, rfl, hsh ▸ sz_g, F'⟩
theorem dt32_0 : decode jdk_56_method_3_code 0 = .ok (.aload_n 0, 1) := by decide +kernel
theorem dt32_1 : decode jdk_56_method_3_code 1 = .ok (.instanceof 10, 3) := by decide +kernel
theorem dt32_4 : decode jdk_56_method_3_code 4 = .ok (.ifCond .ne 22, 3) := by decide +kernel
theorem dt32_7 : decode jdk_56_method_3_code 7 = .ok (.aload_n 0, 1) := by decide +kernel
theorem dt32_8 : decode jdk_56_method_3_code 8 = .ok (.instanceof 12, 3) := by decide +kernel
theorem dt32_11 : decode jdk_56_method_3_code 11 = .ok (.ifCond .eq 20, 3) := by decide +kernel
theorem dt32_14 : decode jdk_56_method_3_code 14 = .ok (.aload_n 0, 1) := by decide +kernel
theorem dt32_15 : decode jdk_56_method_3_code 15 = .ok (.checkcast 12, 3) := by decide +kernel
theorem dt32_18 : decode jdk_56_method_3_code 18 = .ok (.astore_n 1, 1) := by decide +kernel
theorem dt32_19 : decode jdk_56_method_3_code 19 = .ok (.aload_n 1, 1) := by decide +kernel
theorem dt32_20 : decode jdk_56_method_3_code 20 = .ok (.getfield 14, 3) := by decide +kernel
theorem dt32_23 : decode jdk_56_method_3_code 23 = .ok (.ifCond .ne 8, 3) := by decide +kernel
theorem dt32_26 : decode jdk_56_method_3_code 26 = .ok (.aload_n 0, 1) := by decide +kernel
theorem dt32_27 : decode jdk_56_method_3_code 27 = .ok (.checkcast 18, 3) := by decide +kernel
theorem dt32_30 : decode jdk_56_method_3_code 30 = .ok (.areturn, 1) := by decide +kernel
theorem dt32_31 : decode jdk_56_method_3_code 31 = .ok (.aload_n 0, 1) := by decide +kernel
theorem dt32_32 : decode jdk_56_method_3_code 32 = .ok (.invokeinterface 20 1, 5) := by decide +kernel
theorem dt32_37 : decode jdk_56_method_3_code 37 = .ok (.ifCond .eq 7, 3) := by decide +kernel
theorem dt32_40 : decode jdk_56_method_3_code 40 = .ok (.invokestatic 26, 3) := by decide +kernel
theorem dt32_43 : decode jdk_56_method_3_code 43 = .ok (.areturn, 1) := by decide +kernel
theorem dt32_44 : decode jdk_56_method_3_code 44 = .ok (.aload_n 0, 1) := by decide +kernel
theorem dt32_45 : decode jdk_56_method_3_code 45 = .ok (.invokeinterface 30 1, 5) := by decide +kernel
theorem dt32_50 : decode jdk_56_method_3_code 50 = .ok (.invokestatic 34, 3) := by decide +kernel
theorem dt32_53 : decode jdk_56_method_3_code 53 = .ok (.areturn, 1) := by decide +kernel
theorem ef_35 (x0 : Addr) (m : MethodId) : entryFrame m #[(.ref x0)] 2 = mkF m 0 #[.val (.ref x0), .unset] [] := by first | (simp [entryFrame, mkF, argsToLocals, o_catR, o_catN, o_catI, o_catJ, o_catD]; done) | rfl
theorem pn_16 : plainName "java/util/ImmutableCollections" = true := by first | (simp [plainName, overriddenIn]; done) | decide +kernel
set_option maxRecDepth 65536 in
set_option maxHeartbeats 40000000 in
theorem ct_lcp_1 (l : Launch) (Z : State) (a0 : Array Value) (hw : ∀ d ∈ tables_1, d.before a0 Z = true) (EL : List (String × Nat)) (n0 : Nat) (a : Addr) (mc : Int32) (d : Addr) (r0 : Addr) (mir : Addr) (hmir : OMir Z "[Ljava/lang/Object;" mir) (em : Addr) (hem : Sta Z Z.heap "java/util/ImmutableCollections" "EMPTY" "Ljava/lang/Object;" (.ref em)) (Fem : OObj Z Z.heap em "java/lang/Object" []) (h0 : Heap) (A_d : OArr Z h0 d (.object "java/lang/Object") [(.ref r0), .null, .null, .null, .null, .null, .null, .null, .null, .null]) (O_d : OAr Z h0 d "java/lang/Object" "[Ljava/lang/Object;") (F_r0 : OObj Z h0 r0 "com/example/pledgebook/pledgebook/model/LedgerMonth" []) (F_a : OObj Z h0 a "java/util/ArrayList" [("java/util/AbstractList", "modCount", "I", (.int mc)), ("java/util/ArrayList", "elementData", "[Ljava/lang/Object;", (.ref d)), ("java/util/ArrayList", "size", "I", (.int (1 : Int32)))]) :
    OCt l Z a0 EL n0 (⟨"java/util/ImmutableCollections", "listCopy", "(Ljava/util/Collection;)Ljava/util/List;"⟩ : MethodName) jdk_56_method_3_code 2 (some (.object "java/util/List")) ({ frames := 7, cells := 3, slots := 4, locals := 92 } : Room) [] #[(.ref a)] h0 [] (fun w vm h => ∃ g : Addr, w = some (.ref g) ∧ h0.size ≤ g ∧ OObj Z h g "java/util/ImmutableCollections$List12" [("java/util/ImmutableCollections$List12", "e0", "Ljava/lang/Object;", (.ref r0)), ("java/util/ImmutableCollections$List12", "e1", "Ljava/lang/Object;", (.ref em))]) := by
  refine OCt.body (plainFor_of_name pn_16) (ef_35 a) ?_
  intro p e s m below meth c T hby hml hret hnm hsh P
  refine o_aloadN P (hb hby dt32_0) rfl rfl (pc' := 1) rfl ?_
  refine o_instN P (ow hw 151 rfl) F_a.exa (own_no hw "java/util/ImmutableCollections$List12" (.inl rfl)) (hb hby dt32_1) (pc' := 4) rfl ?_
  clear P; intro T P
  refine o_if_ne P (hb hby dt32_4) (by decide) (pc' := 26) (by decide) (pcf := 7) rfl (fun q => absurd (by decide) q) (fun _ => ?_)
  refine o_aloadN P (hb hby dt32_7) rfl rfl (pc' := 8) rfl ?_
  refine o_instN P (ow hw 156 rfl) F_a.exa (own_no hw "java/util/ImmutableCollections$ListN" (.inr rfl)) (hb hby dt32_8) (pc' := 11) rfl ?_
  clear P; intro T P
  refine o_if_eq P (hb hby dt32_11) (by decide) (pc' := 31) (by decide) (pcf := 14) rfl (fun _ => ?_) (fun q => absurd (by decide) q)
  refine o_aloadN P (hb hby dt32_31) rfl rfl (pc' := 32) rfl ?_
  refine o_callF P (W := 0) (x := (⟨"java/util/Collection", "isEmpty", "()Z"⟩ : MethodName)) (y := (⟨"java/util/ArrayList", "isEmpty", "()Z"⟩ : MethodName)) (a := a) (ow hw 157 rfl) (ow hw 158 rfl) (ow hw 159 rfl) (ow hw 160 rfl) (ow hw 161 rfl) (ow hw 162 rfl) (ow hw 163 rfl) (ow hw 164 rfl) (ow hw 83 rfl) (ow hw 165 rfl) (by decide) F_a.exa (ct_isE_1 l Z a0 hw EL n0 a mc d h0 F_a) o_sf0 (by rw [hml]; rfl) (by decide) (by decide) (argsL := []) (rest := []) (lenOf pd_16 rfl) rfl rfl (Nat.le_of_eq rfl) (hb hby dt32_32) (pc' := 37) rfl (by decide) (by decide) ?_
  clear P; intro T h1 v1 P K1 q1
  obtain ⟨rfl, rfl⟩ := q1; clear K1
  show OG p e below m _ T 37 #[.val (.ref a), .unset] [(.int (0 : Int32))]
  refine o_if_eq P (hb hby dt32_37) (by decide) (pc' := 44) (by decide) (pcf := 40) rfl (fun _ => ?_) (fun q => absurd (by decide) q)
  refine o_aloadN P (hb hby dt32_44) rfl rfl (pc' := 45) rfl ?_
  refine o_callF P (W := 0) (x := (⟨"java/util/Collection", "toArray", "()[Ljava/lang/Object;"⟩ : MethodName)) (y := (⟨"java/util/ArrayList", "toArray", "()[Ljava/lang/Object;"⟩ : MethodName)) (a := a) (ow hw 166 rfl) (ow hw 167 rfl) (ow hw 168 rfl) (ow hw 169 rfl) (ow hw 170 rfl) (ow hw 171 rfl) (ow hw 172 rfl) (ow hw 164 rfl) (ow hw 83 rfl) (ow hw 173 rfl) (by decide) F_a.exa (ct_toA_1 l Z a0 hw EL n0 a mc d r0 mir hmir h1 A_d O_d F_r0 F_a) o_sf0 (by rw [hml]; rfl) (by decide) (by decide) (argsL := []) (rest := []) (lenOf pd_10 rfl) rfl rfl (Nat.le_of_eq rfl) (hb hby dt32_45) (pc' := 50) rfl (by decide) (by decide) ?_
  clear P; intro T h2 v2 P K2 q2
  obtain ⟨b, rfl, g1, A_b⟩ := q2
  have hl1 := K2.1
  replace F_r0 := F_r0.keep K2 nin0
  show OG p e below m _ T 50 #[.val (.ref a), .unset] [(.ref b)]
  refine o_callS P (W := 0) (ow hw 196 rfl) (ow hw 197 rfl) (ow hw 145 rfl) (ow hw 198 rfl) (by decide) (ct_lof_1 l Z a0 hw EL n0 b r0 em hem Fem h2 A_b F_r0) o_sf0 (by rw [hml]; rfl) (by decide) (by decide) (argsL := [(.ref b)]) (rest := []) (lenOf pd_17 rfl) rfl rfl (Nat.le_of_eq rfl) (hb hby dt32_50) (pc' := 53) rfl (by decide) (by decide) ?_
  clear P; intro T h3 v3 P K3 q3
  obtain ⟨g, rfl, g2, Q'⟩ := q3
  show OG p e below m _ T 53 #[.val (.ref a), .unset] [(.ref g)]
  exact o_retA P hret rfl rfl rfl (hb hby dt32_53) (by decide) (by decide) ⟨g, rfl, Nat.le_trans hl1 g2, Q'⟩
theorem dt33_0 : decode jdk_40_method_48_code 0 = .ok (.aload_n 0, 1) := by decide +kernel
theorem dt33_1 : decode jdk_40_method_48_code 1 = .ok (.invokestatic 112, 3) := by decide +kernel
theorem dt33_4 : decode jdk_40_method_48_code 4 = .ok (.areturn, 1) := by decide +kernel
theorem ef_36 (x0 : Addr) (m : MethodId) : entryFrame m #[(.ref x0)] 1 = mkF m 0 #[.val (.ref x0)] [] := by first | (simp [entryFrame, mkF, argsToLocals, o_catR, o_catN, o_catI, o_catJ, o_catD]; done) | rfl
set_option maxRecDepth 65536 in
set_option maxHeartbeats 40000000 in
theorem ct_lco_1 (l : Launch) (Z : State) (a0 : Array Value) (hw : ∀ d ∈ tables_1, d.before a0 Z = true) (EL : List (String × Nat)) (n0 : Nat) (a : Addr) (mc : Int32) (d : Addr) (r0 : Addr) (mir : Addr) (hmir : OMir Z "[Ljava/lang/Object;" mir) (em : Addr) (hem : Sta Z Z.heap "java/util/ImmutableCollections" "EMPTY" "Ljava/lang/Object;" (.ref em)) (Fem : OObj Z Z.heap em "java/lang/Object" []) (h0 : Heap) (A_d : OArr Z h0 d (.object "java/lang/Object") [(.ref r0), .null, .null, .null, .null, .null, .null, .null, .null, .null]) (O_d : OAr Z h0 d "java/lang/Object" "[Ljava/lang/Object;") (F_r0 : OObj Z h0 r0 "com/example/pledgebook/pledgebook/model/LedgerMonth" []) (F_a : OObj Z h0 a "java/util/ArrayList" [("java/util/AbstractList", "modCount", "I", (.int mc)), ("java/util/ArrayList", "elementData", "[Ljava/lang/Object;", (.ref d)), ("java/util/ArrayList", "size", "I", (.int (1 : Int32)))]) :
    OCt l Z a0 EL n0 (⟨"java/util/List", "copyOf", "(Ljava/util/Collection;)Ljava/util/List;"⟩ : MethodName) jdk_40_method_48_code 1 (some (.object "java/util/List")) ({ frames := 8, cells := 3, slots := 4, locals := 106 } : Room) [] #[(.ref a)] h0 [] (fun w vm h => ∃ g : Addr, w = some (.ref g) ∧ h0.size ≤ g ∧ OObj Z h g "java/util/ImmutableCollections$List12" [("java/util/ImmutableCollections$List12", "e0", "Ljava/lang/Object;", (.ref r0)), ("java/util/ImmutableCollections$List12", "e1", "Ljava/lang/Object;", (.ref em))]) := by
  refine OCt.body (plainFor_of_name pn_15) (ef_36 a) ?_
  intro p e s m below meth c T hby hml hret hnm hsh P
  refine o_aloadN P (hb hby dt33_0) rfl rfl (pc' := 1) rfl ?_
  refine o_callS P (W := 0) (ow hw 147 rfl) (ow hw 148 rfl) (ow hw 149 rfl) (ow hw 150 rfl) (by decide) (ct_lcp_1 l Z a0 hw EL n0 a mc d r0 mir hmir em hem Fem h0 A_d O_d F_r0 F_a) o_sf0 (by rw [hml]; rfl) (by decide) (by decide) (argsL := [(.ref a)]) (rest := []) (lenOf pd_18 rfl) rfl rfl (Nat.le_of_eq rfl) (hb hby dt33_1) (pc' := 4) rfl (by decide) (by decide) ?_
  clear P; intro T h1 v1 P K1 q1
  obtain ⟨g, rfl, g1, Q'⟩ := q1
  show OG p e below m _ T 4 #[.val (.ref a)] [(.ref g)]
  exact o_retA P hret rfl rfl rfl (hb hby dt33_4) (by decide) (by decide) ⟨g, rfl, g1, Q'⟩
theorem dt34_0 : decode prog_48_method_1_code 0 = .ok (.aload_n 0, 1) := by decide +kernel
theorem dt34_1 : decode prog_48_method_1_code 1 = .ok (.invokespecial 1, 3) := by decide +kernel
theorem dt34_4 : decode prog_48_method_1_code 4 = .ok (.aload_n 1, 1) := by decide +kernel
theorem dt34_5 : decode prog_48_method_1_code 5 = .ok (.invokestatic 7, 3) := by decide +kernel
theorem dt34_8 : decode prog_48_method_1_code 8 = .ok (.astore_n 1, 1) := by decide +kernel
theorem dt34_9 : decode prog_48_method_1_code 9 = .ok (.aload_n 0, 1) := by decide +kernel
theorem dt34_10 : decode prog_48_method_1_code 10 = .ok (.aload_n 1, 1) := by decide +kernel
theorem dt34_11 : decode prog_48_method_1_code 11 = .ok (.putfield 13, 3) := by decide +kernel
theorem dt34_14 : decode prog_48_method_1_code 14 = .ok (.return_, 1) := by decide +kernel
theorem ef_37 (x0 : Addr) (x1 : Addr) (m : MethodId) : entryFrame m #[(.ref x0), (.ref x1)] 2 = mkF m 0 #[.val (.ref x0), .val (.ref x1)] [] := by first | (simp [entryFrame, mkF, argsToLocals, o_catR, o_catN, o_catI, o_catJ, o_catD]; done) | rfl
theorem pn_17 : plainName "com/example/pledgebook/pledgebook/model/Ledger" = true := by first | (simp [plainName, overriddenIn]; done) | decide +kernel
set_option maxRecDepth 65536 in
set_option maxHeartbeats 40000000 in
theorem ct_lei_1 (l : Launch) (Z : State) (a0 : Array Value) (hw : ∀ d ∈ tables_1, d.before a0 Z = true) (EL : List (String × Nat)) (n0 : Nat) (u : Addr) (a : Addr) (mc : Int32) (d : Addr) (r0 : Addr) (mir : Addr) (hmir : OMir Z "[Ljava/lang/Object;" mir) (em : Addr) (hem : Sta Z Z.heap "java/util/ImmutableCollections" "EMPTY" "Ljava/lang/Object;" (.ref em)) (Fem : OObj Z Z.heap em "java/lang/Object" []) (h0 : Heap) (A_d : OArr Z h0 d (.object "java/lang/Object") [(.ref r0), .null, .null, .null, .null, .null, .null, .null, .null, .null]) (O_d : OAr Z h0 d "java/lang/Object" "[Ljava/lang/Object;") (F_r0 : OObj Z h0 r0 "com/example/pledgebook/pledgebook/model/LedgerMonth" []) (F_a : OObj Z h0 a "java/util/ArrayList" [("java/util/AbstractList", "modCount", "I", (.int mc)), ("java/util/ArrayList", "elementData", "[Ljava/lang/Object;", (.ref d)), ("java/util/ArrayList", "size", "I", (.int (1 : Int32)))]) (F_u : OObj Z h0 u "com/example/pledgebook/pledgebook/model/Ledger" [("com/example/pledgebook/pledgebook/model/Ledger", "months", "Ljava/util/List;", .null)]) :
    OCt l Z a0 EL n0 (⟨"com/example/pledgebook/pledgebook/model/Ledger", "<init>", "(Ljava/util/List;)V"⟩ : MethodName) prog_48_method_1_code 2 none ({ frames := 9, cells := 3, slots := 4, locals := 120 } : Room) [] #[(.ref u), (.ref a)] h0 [u] (fun w vm h => w = none ∧ ∃ g : Addr, OObj Z h u "com/example/pledgebook/pledgebook/model/Ledger" [("com/example/pledgebook/pledgebook/model/Ledger", "months", "Ljava/util/List;", (.ref g))] ∧ OObj Z h g "java/util/ImmutableCollections$List12" [("java/util/ImmutableCollections$List12", "e0", "Ljava/lang/Object;", (.ref r0)), ("java/util/ImmutableCollections$List12", "e1", "Ljava/lang/Object;", (.ref em))]) := by
  refine OCt.body (plainFor_of_name pn_17) (ef_37 u a) ?_
  intro p e s m below meth c T hby hml hret hnm hsh P
  refine o_aloadN P (hb hby dt34_0) rfl rfl (pc' := 1) rfl ?_
  refine o_callI P (W := 0) (a := u) rfl (ow hw 142 rfl) (ow hw 70 rfl) (ow hw 72 rfl) (ow hw 73 rfl) (by decide) (ct_rec l Z a0 hw EL n0 u h0) o_sf0 (by rw [hml]; rfl) (by decide) (by decide) (argsL := []) (rest := []) (lenOf pd_7 rfl) rfl rfl (Nat.le_of_eq rfl) (hb hby dt34_1) (pc' := 4) rfl (by decide) (by decide) ?_
  clear P; intro T h1 v1 P K1 q1
  obtain ⟨rfl, rfl⟩ := q1; clear K1
  show OG p e below m _ T 4 #[.val (.ref u), .val (.ref a)] []
  refine o_aloadN P (hb hby dt34_4) rfl rfl (pc' := 5) rfl ?_
  refine o_callS P (W := 0) (ow hw 143 rfl) (ow hw 144 rfl) (ow hw 145 rfl) (ow hw 146 rfl) (by decide) (ct_lco_1 l Z a0 hw EL n0 a mc d r0 mir hmir em hem Fem h1 A_d O_d F_r0 F_a) o_sf0 (by rw [hml]; rfl) (by decide) (by decide) (argsL := [(.ref a)]) (rest := []) (lenOf pd_18 rfl) rfl rfl (Nat.le_of_eq rfl) (hb hby dt34_5) (pc' := 8) rfl (by decide) (by decide) ?_
  clear P; intro T h2 v2 P K2 q2
  obtain ⟨g, rfl, g1, Q'⟩ := q2
  have ne_u_g : u ≠ g := Nat.ne_of_lt (Nat.lt_of_lt_of_le F_u.lt g1)
  replace F_u := F_u.keep K2 nin0
  show OG p e below m _ T 8 #[.val (.ref u), .val (.ref a)] [(.ref g)]
  have F_g := Q'; clear Q'
  refine o_astoreN P (hb hby dt34_8) rfl (L' := #[.val (.ref u), .val (.ref g)]) rfl (pc' := 9) rfl ?_
  refine o_aloadN P (hb hby dt34_9) rfl rfl (pc' := 10) rfl ?_
  refine o_aloadN P (hb hby dt34_10) rfl rfl (pc' := 11) rfl ?_
  refine o_putF P (v' := (.ref g)) (ty := (.object "java/util/List")) (ow hw 231 rfl) Via.refl (F_u.fld 0 rfl) F_u.exa (Or.inr ⟨(ow hw 232 rfl), rfl, hnm⟩) (ow hw 137 rfl) (by decide) rfl rfl (List.Mem.head _) (hb hby dt34_11) (pc' := 14) rfl ?_
  clear P; intro T h3 P W3
  replace F_g := F_g.oth W3 (Ne.symm ne_u_g)
  replace F_u : OObj Z h3 u "com/example/pledgebook/pledgebook/model/Ledger" [("com/example/pledgebook/pledgebook/model/Ledger", "months", "Ljava/util/List;", (.ref g))] := F_u.put 0 rfl W3
  clear W3
  exact o_ret0 P hret (hb hby dt34_14) (by decide) (by decide) ⟨rfl, g, F_u, F_g⟩
theorem dt35_0 : decode jdk_44_method_3_code 0 = .ok (.aload_n 0, 1) := by decide +kernel
theorem dt35_1 : decode jdk_44_method_3_code 1 = .ok (.getfield 24, 3) := by decide +kernel
theorem dt35_4 : decode jdk_44_method_3_code 4 = .ok (.getstatic 19, 3) := by decide +kernel
theorem dt35_7 : decode jdk_44_method_3_code 7 = .ok (.if_acmp .eq 7, 3) := by decide +kernel
theorem dt35_10 : decode jdk_44_method_3_code 10 = .ok (.iconst 2, 1) := by decide +kernel
theorem dt35_11 : decode jdk_44_method_3_code 11 = .ok (.goto 4, 3) := by decide +kernel
theorem dt35_14 : decode jdk_44_method_3_code 14 = .ok (.iconst 1, 1) := by decide +kernel
theorem dt35_15 : decode jdk_44_method_3_code 15 = .ok (.ireturn, 1) := by decide +kernel
theorem ef_38 (x0 : Addr) (m : MethodId) : entryFrame m #[(.ref x0)] 1 = mkF m 0 #[.val (.ref x0)] [] := by first | (simp [entryFrame, mkF, argsToLocals, o_catR, o_catN, o_catI, o_catJ, o_catD]; done) | rfl
set_option maxRecDepth 65536 in
set_option maxHeartbeats 40000000 in
theorem ct_siz_1 (l : Launch) (Z : State) (a0 : Array Value) (hw : ∀ d ∈ tables_1, d.before a0 Z = true) (EL : List (String × Nat)) (n0 : Nat) (g r0 : Addr) (em : Addr) (hem : Sta Z Z.heap "java/util/ImmutableCollections" "EMPTY" "Ljava/lang/Object;" (.ref em)) (Fem : OObj Z Z.heap em "java/lang/Object" []) (h0 : Heap) (F_g : OObj Z h0 g "java/util/ImmutableCollections$List12" [("java/util/ImmutableCollections$List12", "e0", "Ljava/lang/Object;", (.ref r0)), ("java/util/ImmutableCollections$List12", "e1", "Ljava/lang/Object;", (.ref em))]) :
    OCt l Z a0 EL n0 (⟨"java/util/ImmutableCollections$List12", "size", "()I"⟩ : MethodName) jdk_44_method_3_code 1 (some .int) ({ frames := 0, cells := 0, slots := 0, locals := 0 } : Room) [] #[(.ref g)] h0 [] (fun w vm h => w = some (.int 1) ∧ h = h0) := by
  refine OCt.body (plainFor_of_name pn_12) (ef_38 g) ?_
  intro p e s m below meth c T hby hml hret hnm hsh P
  refine o_aloadN P (hb hby dt35_0) rfl rfl (pc' := 1) rfl ?_
  refine o_getF P (ow hw 276 rfl) Via.refl (F_g.fld 1 rfl) (hb hby dt35_1) (pc' := 4) rfl ?_
  clear P; intro T P
  have hO := P.old
  refine o_getSN P (ow hw 284 rfl) Via.refl hem (hb hby dt35_4) (pc' := 7) rfl ?_
  clear P; intro T P
  refine o_acmp P true (hb hby dt35_7) rfl rfl (decide_eq_true rfl) (by decide) (pc' := 14) rfl ?_
  refine o_iconst P (1 : Int32) (hb hby dt35_14) rfl (pc' := 15) rfl ?_
  exact o_retI P hret (by simp) rfl (hb hby dt35_15) (by decide) (by decide) ⟨rfl, rfl⟩
theorem dt36_0 : decode jdk_44_method_5_code 0 = .ok (.iload_n 1, 1) := by decide +kernel
theorem dt36_1 : decode jdk_44_method_5_code 1 = .ok (.ifCond .ne 8, 3) := by decide +kernel
theorem dt36_4 : decode jdk_44_method_5_code 4 = .ok (.aload_n 0, 1) := by decide +kernel
theorem dt36_5 : decode jdk_44_method_5_code 5 = .ok (.getfield 13, 3) := by decide +kernel
theorem dt36_8 : decode jdk_44_method_5_code 8 = .ok (.areturn, 1) := by decide +kernel
theorem dt36_9 : decode jdk_44_method_5_code 9 = .ok (.iload_n 1, 1) := by decide +kernel
theorem dt36_10 : decode jdk_44_method_5_code 10 = .ok (.iconst 1, 1) := by decide +kernel
theorem dt36_11 : decode jdk_44_method_5_code 11 = .ok (.if_icmp .ne 18, 3) := by decide +kernel
theorem dt36_14 : decode jdk_44_method_5_code 14 = .ok (.aload_n 0, 1) := by decide +kernel
theorem dt36_15 : decode jdk_44_method_5_code 15 = .ok (.getfield 24, 3) := by decide +kernel
theorem dt36_18 : decode jdk_44_method_5_code 18 = .ok (.getstatic 19, 3) := by decide +kernel
theorem dt36_21 : decode jdk_44_method_5_code 21 = .ok (.if_acmp .eq 8, 3) := by decide +kernel
theorem dt36_24 : decode jdk_44_method_5_code 24 = .ok (.aload_n 0, 1) := by decide +kernel
theorem dt36_25 : decode jdk_44_method_5_code 25 = .ok (.getfield 24, 3) := by decide +kernel
theorem dt36_28 : decode jdk_44_method_5_code 28 = .ok (.areturn, 1) := by decide +kernel
theorem dt36_29 : decode jdk_44_method_5_code 29 = .ok (.aload_n 0, 1) := by decide +kernel
theorem dt36_30 : decode jdk_44_method_5_code 30 = .ok (.iload_n 1, 1) := by decide +kernel
theorem dt36_31 : decode jdk_44_method_5_code 31 = .ok (.invokevirtual 27, 3) := by decide +kernel
theorem dt36_34 : decode jdk_44_method_5_code 34 = .ok (.athrow, 1) := by decide +kernel
theorem ef_39 (x0 : Addr) (x1 : Int32) (m : MethodId) : entryFrame m #[(.ref x0), (.int x1)] 2 = mkF m 0 #[.val (.ref x0), .val (.int x1)] [] := by first | (simp [entryFrame, mkF, argsToLocals, o_catR, o_catN, o_catI, o_catJ, o_catD]; done) | rfl
set_option maxRecDepth 65536 in
set_option maxHeartbeats 40000000 in
theorem ct_get_1 (l : Launch) (Z : State) (a0 : Array Value) (hw : ∀ d ∈ tables_1, d.before a0 Z = true) (EL : List (String × Nat)) (n0 : Nat) (g r0 : Addr) (em : Addr) (hem : Sta Z Z.heap "java/util/ImmutableCollections" "EMPTY" "Ljava/lang/Object;" (.ref em)) (Fem : OObj Z Z.heap em "java/lang/Object" []) (h0 : Heap) (F_g : OObj Z h0 g "java/util/ImmutableCollections$List12" [("java/util/ImmutableCollections$List12", "e0", "Ljava/lang/Object;", (.ref r0)), ("java/util/ImmutableCollections$List12", "e1", "Ljava/lang/Object;", (.ref em))]) :
    OCt l Z a0 EL n0 (⟨"java/util/ImmutableCollections$List12", "get", "(I)Ljava/lang/Object;"⟩ : MethodName) jdk_44_method_5_code 2 (some (.object "java/lang/Object")) ({ frames := 0, cells := 0, slots := 0, locals := 0 } : Room) [] #[(.ref g), (.int (0 : Int32))] h0 [] (fun w vm h => w = some (.ref r0) ∧ h = h0) := by
  refine OCt.body (plainFor_of_name pn_12) (ef_39 g ((0 : Int32))) ?_
  intro p e s m below meth c T hby hml hret hnm hsh P
  refine o_iloadN P (hb hby dt36_0) rfl (pc' := 1) rfl ?_
  refine o_if_ne P (hb hby dt36_1) (by decide) (pc' := 9) (by decide) (pcf := 4) rfl (fun q => absurd (by decide) q) (fun _ => ?_)
  refine o_aloadN P (hb hby dt36_4) rfl rfl (pc' := 5) rfl ?_
  refine o_getF P (ow hw 274 rfl) Via.refl (F_g.fld 0 rfl) (hb hby dt36_5) (pc' := 8) rfl ?_
  clear P; intro T P
  exact o_retA P hret rfl rfl rfl (hb hby dt36_8) (by decide) (by decide) ⟨rfl, rfl⟩
theorem ef_40 (x0 : Int32) (x1 : Int32) (m : MethodId) : entryFrame m #[(.int x0), (.int x1)] 2 = mkF m 0 #[.val (.int x0), .val (.int x1)] [] := by first | (simp [entryFrame, mkF, argsToLocals, o_catR, o_catN, o_catI, o_catJ, o_catD]; done) | rfl
set_option maxRecDepth 65536 in
set_option maxHeartbeats 40000000 in
theorem ct_min2 (l : Launch) (Z : State) (a0 : Array Value) (hw : ∀ d ∈ tables_1, d.before a0 Z = true) (EL : List (String × Nat)) (n0 : Nat) (h0 : Heap) :
    OCt l Z a0 EL n0 (⟨"java/lang/Math", "min", "(II)I"⟩ : MethodName) jdk_29_method_69_code 2 (some .int) ({ frames := 0, cells := 0, slots := 0, locals := 0 } : Room) [] #[(.int (10 : Int32)), (.int (2 : Int32))] h0 [] (fun w vm h => w = some (.int 2) ∧ h = h0) := by
  refine OCt.body (Jvm.Free.JP.mathPlain rfl (by decide +kernel)) (ef_40 ((10 : Int32)) ((2 : Int32))) ?_
  intro p e s m below meth c T hby hml hret hnm hsh P
  refine o_iloadN P (hb hby dt26_0) rfl (pc' := 1) rfl ?_
  refine o_iloadN P (hb hby dt26_1) rfl (pc' := 2) rfl ?_
  refine o_icmp_gt P (hb hby dt26_2) (by decide) (pc' := 9) (by decide) (pcf := 5) rfl (fun _ => ?_) (fun q => absurd (by decide) q)
  refine o_iloadN P (hb hby dt26_9) rfl (pc' := 10) rfl ?_
  exact o_retI P hret (by simp) rfl (hb hby dt26_10) (by decide) (by decide) ⟨rfl, rfl⟩
theorem ef_41 (x0 : Addr) (x1 : Int32) (x2 : Addr) (m : MethodId) : entryFrame m #[(.ref x0), (.int x1), (.ref x2)] 4 = mkF m 0 #[.val (.ref x0), .val (.int x1), .val (.ref x2), .unset] [] := by first | (simp [entryFrame, mkF, argsToLocals, o_catR, o_catN, o_catI, o_catJ, o_catD]; done) | rfl
set_option maxRecDepth 65536 in
set_option maxHeartbeats 40000000 in
theorem ct_cp3_2 (l : Launch) (Z : State) (a0 : Array Value) (hw : ∀ d ∈ tables_1, d.before a0 Z = true) (EL : List (String × Nat)) (n0 : Nat) (d : Addr) (r0 r1 : Addr) (mir : Addr) (hmir : OMir Z "[Ljava/lang/Object;" mir) (h0 : Heap) (A_d : OArr Z h0 d (.object "java/lang/Object") [(.ref r0), (.ref r1), .null, .null, .null, .null, .null, .null, .null, .null]) (F_r0 : OObj Z h0 r0 "com/example/pledgebook/pledgebook/model/LedgerMonth" []) (F_r1 : OObj Z h0 r1 "com/example/pledgebook/pledgebook/model/LedgerMonth" []) :
    OCt l Z a0 EL n0 (⟨"java/util/Arrays", "copyOf", "([Ljava/lang/Object;ILjava/lang/Class;)[Ljava/lang/Object;"⟩ : MethodName) jdk_65_method_120_code 4 (some (.array (.object "java/lang/Object"))) ({ frames := 1, cells := 1, slots := 2, locals := 18 } : Room) [] #[(.ref d), (.int (2 : Int32)), (.ref mir)] h0 [] (fun w vm h => ∃ b : Addr, w = some (.ref b) ∧ h0.size ≤ b ∧ OArr Z h b (.object "java/lang/Object") [(.ref r0), (.ref r1)]) := by
  refine OCt.body (plainFor_of_name pn_14) (ef_41 d ((2 : Int32)) mir) ?_
  intro p e s m below meth c T hby hml hret hnm hsh P
  refine o_aloadN P (hb hby dt27_0) rfl rfl (pc' := 1) rfl ?_
  refine o_ldcMir P hmir (ow hw 187 rfl) (hb hby dt27_1) (pc' := 3) rfl ?_
  clear P; intro T P
  refine o_acmp P true (hb hby dt27_3) rfl rfl (decide_eq_true rfl) (by decide) (pc' := 6) rfl ?_
  refine o_iloadN P (hb hby dt27_6) rfl (pc' := 7) rfl ?_
  have hz_b := P.keep0.1
  refine o_anewarrE P (N := "[Ljava/lang/Object;") (cap := 2) (ow hw 188 rfl) (ow hw 134 rfl) (by decide) (hb hby dt27_7) (by decide) (by decide) (by decide) (pc' := 10) rfl (by decide) (by decide) ?_
  clear P; intro T h1 b P K1 hb_b A_b O_b
  have sz_b := Nat.le_trans hz_b hb_b
  clear hz_b
  have ne_r0_b : r0 ≠ b := Nat.ne_of_lt (Nat.lt_of_lt_of_le F_r0.lt hb_b)
  have ne_r1_b : r1 ≠ b := Nat.ne_of_lt (Nat.lt_of_lt_of_le F_r1.lt hb_b)
  have ne_d_b : d ≠ b := Nat.ne_of_lt (Nat.lt_of_lt_of_le A_d.lt hb_b)
  replace F_r0 := F_r0.keep K1 nin0
  replace F_r1 := F_r1.keep K1 nin0
  replace A_d := A_d.keep K1 nin0
  clear K1
  replace A_b : OArr Z h1 b (.object "java/lang/Object") [.null, .null] := A_b
  refine o_goto P (hb hby dt27_10) (by decide) (pc' := 24) (by decide) ?_
  refine o_astoreN P (hb hby dt27_24) rfl (L' := #[.val (.ref d), .val (.int (2 : Int32)), .val (.ref mir), .val (.ref b)]) rfl (pc' := 25) rfl ?_
  refine o_aloadN P (hb hby dt27_25) rfl rfl (pc' := 26) rfl ?_
  refine o_iconst P (0 : Int32) (hb hby dt27_26) rfl (pc' := 27) rfl ?_
  refine o_aloadN P (hb hby dt27_27) rfl rfl (pc' := 28) rfl ?_
  refine o_iconst P (0 : Int32) (hb hby dt27_28) rfl (pc' := 29) rfl ?_
  refine o_aloadN P (hb hby dt27_29) rfl rfl (pc' := 30) rfl ?_
  refine o_arrlen P A_d (hb hby dt27_30) (n := (10 : Int32)) rfl (pc' := 31) rfl ?_
  refine o_iloadN P (hb hby dt27_31) rfl (pc' := 32) rfl ?_
  refine o_callS P (W := 4) (ow hw 189 rfl) (ow hw 190 rfl) (ow hw 131 rfl) (ow hw 191 rfl) (by decide) (ct_min2 l Z a0 hw EL n0 h1) o_sf0 (by rw [hml]; rfl) (by decide) (by decide) (argsL := [(.int (10 : Int32)), (.int (2 : Int32))]) (rest := [(.int (0 : Int32)), (.ref b), (.int (0 : Int32)), (.ref d)]) (lenOf pd_8 rfl) rfl rfl (Nat.le_of_eq rfl) (hb hby dt27_32) (pc' := 35) rfl (by decide) (by decide) ?_
  clear P; intro T h2 v2 P K2 q2
  obtain ⟨rfl, rfl⟩ := q2; clear K2
  show OG p e below m _ T 35 #[.val (.ref d), .val (.int (2 : Int32)), .val (.ref mir), .val (.ref b)] [(.int (2 : Int32)), (.int (0 : Int32)), (.ref b), (.int (0 : Int32)), (.ref d)]
  refine o_cpA P (W := 0) (us := [(.ref r0), (.ref r1)]) (ow hw 192 rfl) (ow hw 195 rfl) (ow hw 193 rfl) (ow hw 194 rfl) A_d A_b (List.Mem.head _) (Or.inr ⟨rfl, rfl, ⟨(O_b.sto A_b (Ins.of_exa F_r0.exa (ow hw 135 rfl))), ⟨(O_b.sto A_b (Ins.of_exa F_r1.exa (ow hw 135 rfl))), trivial⟩⟩⟩) (by decide) (by decide) (by decide) (of_decide_eq_true rfl) (of_decide_eq_true rfl) rfl (by rw [hml]; rfl) (by decide) (by decide) (by decide) (hb hby dt27_35) (pc' := 38) rfl ?_
  clear P; intro T h3 P K3 A'
  replace A_b : OArr Z h3 b (.object "java/lang/Object") [(.ref r0), (.ref r1)] := A'
  refine o_aloadN P (hb hby dt27_38) rfl rfl (pc' := 39) rfl ?_
  exact o_retA P hret rfl rfl rfl (hb hby dt27_39) (by decide) (by decide) ⟨b, rfl, hsh ▸ sz_b, A_b⟩
theorem ef_42 (x0 : Addr) (x1 : Int32) (m : MethodId) : entryFrame m #[(.ref x0), (.int x1)] 2 = mkF m 0 #[.val (.ref x0), .val (.int x1)] [] := by first | (simp [entryFrame, mkF, argsToLocals, o_catR, o_catN, o_catI, o_catJ, o_catD]; done) | rfl
set_option maxRecDepth 65536 in
set_option maxHeartbeats 40000000 in
theorem ct_cp2_2 (l : Launch) (Z : State) (a0 : Array Value) (hw : ∀ d ∈ tables_1, d.before a0 Z = true) (EL : List (String × Nat)) (n0 : Nat) (d : Addr) (r0 r1 : Addr) (mir : Addr) (hmir : OMir Z "[Ljava/lang/Object;" mir) (h0 : Heap) (A_d : OArr Z h0 d (.object "java/lang/Object") [(.ref r0), (.ref r1), .null, .null, .null, .null, .null, .null, .null, .null]) (O_d : OAr Z h0 d "java/lang/Object" "[Ljava/lang/Object;") (F_r0 : OObj Z h0 r0 "com/example/pledgebook/pledgebook/model/LedgerMonth" []) (F_r1 : OObj Z h0 r1 "com/example/pledgebook/pledgebook/model/LedgerMonth" []) :
    OCt l Z a0 EL n0 (⟨"java/util/Arrays", "copyOf", "([Ljava/lang/Object;I)[Ljava/lang/Object;"⟩ : MethodName) jdk_65_method_119_code 2 (some (.array (.object "java/lang/Object"))) ({ frames := 2, cells := 1, slots := 2, locals := 33 } : Room) [] #[(.ref d), (.int (2 : Int32))] h0 [] (fun w vm h => ∃ b : Addr, w = some (.ref b) ∧ h0.size ≤ b ∧ OArr Z h b (.object "java/lang/Object") [(.ref r0), (.ref r1)]) := by
  refine OCt.body (plainFor_of_name pn_14) (ef_42 d ((2 : Int32))) ?_
  intro p e s m below meth c T hby hml hret hnm hsh P
  refine o_aloadN P (hb hby dt28_0) rfl rfl (pc' := 1) rfl ?_
  refine o_iloadN P (hb hby dt28_1) rfl (pc' := 2) rfl ?_
  refine o_aloadN P (hb hby dt28_2) rfl rfl (pc' := 3) rfl ?_
  refine o_getCls P (W := 2) hmir O_d.1 (ow hw 178 rfl) (ow hw 179 rfl) (o_nfTop (ow hw 155 rfl)) (ow hw 181 rfl) (ow hw 180 rfl) (ow hw 182 rfl) (by rw [hml]; rfl) (by decide) (Nat.le_of_eq rfl) (by decide) (hb hby dt28_3) (pc' := 6) rfl ?_
  clear P; intro T P
  refine o_callS P (W := 0) (ow hw 184 rfl) (ow hw 185 rfl) (ow hw 176 rfl) (ow hw 186 rfl) (by decide) (ct_cp3_2 l Z a0 hw EL n0 d r0 r1 mir hmir h0 A_d F_r0 F_r1) o_sf0 (by rw [hml]; rfl) (by decide) (by decide) (argsL := [(.ref d), (.int (2 : Int32)), (.ref mir)]) (rest := []) (lenOf pd_13 rfl) rfl rfl (Nat.le_of_eq rfl) (hb hby dt28_6) (pc' := 9) rfl (by decide) (by decide) ?_
  clear P; intro T h1 v1 P K1 q1
  obtain ⟨b, rfl, g1, A'⟩ := q1
  show OG p e below m _ T 9 #[.val (.ref d), .val (.int (2 : Int32))] [(.ref b)]
  exact o_retA P hret rfl rfl rfl (hb hby dt28_9) (by decide) (by decide) ⟨b, rfl, g1, A'⟩
theorem ef_43 (x0 : Addr) (m : MethodId) : entryFrame m #[(.ref x0)] 1 = mkF m 0 #[.val (.ref x0)] [] := by first | (simp [entryFrame, mkF, argsToLocals, o_catR, o_catN, o_catI, o_catJ, o_catD]; done) | rfl
set_option maxRecDepth 65536 in
set_option maxHeartbeats 40000000 in
theorem ct_toA_2 (l : Launch) (Z : State) (a0 : Array Value) (hw : ∀ d ∈ tables_1, d.before a0 Z = true) (EL : List (String × Nat)) (n0 : Nat) (a : Addr) (mc : Int32) (d : Addr) (r0 r1 : Addr) (mir : Addr) (hmir : OMir Z "[Ljava/lang/Object;" mir) (h0 : Heap) (A_d : OArr Z h0 d (.object "java/lang/Object") [(.ref r0), (.ref r1), .null, .null, .null, .null, .null, .null, .null, .null]) (O_d : OAr Z h0 d "java/lang/Object" "[Ljava/lang/Object;") (F_r0 : OObj Z h0 r0 "com/example/pledgebook/pledgebook/model/LedgerMonth" []) (F_r1 : OObj Z h0 r1 "com/example/pledgebook/pledgebook/model/LedgerMonth" []) (F_a : OObj Z h0 a "java/util/ArrayList" [("java/util/AbstractList", "modCount", "I", (.int mc)), ("java/util/ArrayList", "elementData", "[Ljava/lang/Object;", (.ref d)), ("java/util/ArrayList", "size", "I", (.int (2 : Int32)))]) :
    OCt l Z a0 EL n0 (⟨"java/util/ArrayList", "toArray", "()[Ljava/lang/Object;"⟩ : MethodName) jdk_38_method_16_code 1 (some (.array (.object "java/lang/Object"))) ({ frames := 3, cells := 1, slots := 2, locals := 46 } : Room) [] #[(.ref a)] h0 [] (fun w vm h => ∃ b : Addr, w = some (.ref b) ∧ h0.size ≤ b ∧ OArr Z h b (.object "java/lang/Object") [(.ref r0), (.ref r1)]) := by
  refine OCt.body (plainFor_of_name pn_8) (ef_43 a) ?_
  intro p e s m below meth c T hby hml hret hnm hsh P
  refine o_aloadN P (hb hby dt29_0) rfl rfl (pc' := 1) rfl ?_
  refine o_getF P (ow hw 103 rfl) Via.refl (F_a.fld 1 rfl) (hb hby dt29_1) (pc' := 4) rfl ?_
  clear P; intro T P
  refine o_aloadN P (hb hby dt29_4) rfl rfl (pc' := 5) rfl ?_
  refine o_getF P (ow hw 112 rfl) Via.refl (F_a.fld 2 rfl) (hb hby dt29_5) (pc' := 8) rfl ?_
  clear P; intro T P
  refine o_callS P (W := 0) (ow hw 174 rfl) (ow hw 175 rfl) (ow hw 176 rfl) (ow hw 177 rfl) (by decide) (ct_cp2_2 l Z a0 hw EL n0 d r0 r1 mir hmir h0 A_d O_d F_r0 F_r1) o_sf0 (by rw [hml]; rfl) (by decide) (by decide) (argsL := [(.ref d), (.int (2 : Int32))]) (rest := []) (lenOf pd_14 rfl) rfl rfl (Nat.le_of_eq rfl) (hb hby dt29_8) (pc' := 11) rfl (by decide) (by decide) ?_
  clear P; intro T h1 v1 P K1 q1
  obtain ⟨b, rfl, g1, A'⟩ := q1
  show OG p e below m _ T 11 #[.val (.ref a)] [(.ref b)]
  exact o_retA P hret rfl rfl rfl (hb hby dt29_11) (by decide) (by decide) ⟨b, rfl, g1, A'⟩
theorem ef_44 (x0 : Addr) (m : MethodId) : entryFrame m #[(.ref x0)] 1 = mkF m 0 #[.val (.ref x0)] [] := by first | (simp [entryFrame, mkF, argsToLocals, o_catR, o_catN, o_catI, o_catJ, o_catD]; done) | rfl
set_option maxRecDepth 65536 in
set_option maxHeartbeats 40000000 in
theorem ct_isE_2 (l : Launch) (Z : State) (a0 : Array Value) (hw : ∀ d ∈ tables_1, d.before a0 Z = true) (EL : List (String × Nat)) (n0 : Nat) (a : Addr) (mc : Int32) (d : Addr) (h0 : Heap) (F_a : OObj Z h0 a "java/util/ArrayList" [("java/util/AbstractList", "modCount", "I", (.int mc)), ("java/util/ArrayList", "elementData", "[Ljava/lang/Object;", (.ref d)), ("java/util/ArrayList", "size", "I", (.int (2 : Int32)))]) :
    OCt l Z a0 EL n0 (⟨"java/util/ArrayList", "isEmpty", "()Z"⟩ : MethodName) jdk_38_method_9_code 1 (some .boolean) ({ frames := 0, cells := 0, slots := 0, locals := 0 } : Room) [] #[(.ref a)] h0 [] (fun w vm h => w = some (.int 0) ∧ h = h0) := by
  refine OCt.body (plainFor_of_name pn_8) (ef_44 a) ?_
  intro p e s m below meth c T hby hml hret hnm hsh P
  refine o_aloadN P (hb hby dt30_0) rfl rfl (pc' := 1) rfl ?_
  refine o_getF P (ow hw 112 rfl) Via.refl (F_a.fld 2 rfl) (hb hby dt30_1) (pc' := 4) rfl ?_
  clear P; intro T P
  refine o_if_ne P (hb hby dt30_4) (by decide) (pc' := 11) (by decide) (pcf := 7) rfl (fun _ => ?_) (fun q => absurd q (by decide))
  refine o_iconst P (0 : Int32) (hb hby dt30_11) rfl (pc' := 12) rfl ?_
  exact o_retI P hret (by simp) rfl (hb hby dt30_12) (by decide) (by decide) ⟨rfl, rfl⟩
theorem ef_45 (x0 : Addr) (m : MethodId) : entryFrame m #[(.ref x0)] 2 = mkF m 0 #[.val (.ref x0), .unset] [] := by first | (simp [entryFrame, mkF, argsToLocals, o_catR, o_catN, o_catI, o_catJ, o_catD]; done) | rfl
set_option maxRecDepth 65536 in
set_option maxHeartbeats 40000000 in
theorem ct_lof_2 (l : Launch) (Z : State) (a0 : Array Value) (hw : ∀ d ∈ tables_1, d.before a0 Z = true) (EL : List (String × Nat)) (n0 : Nat) (b : Addr) (r0 r1 : Addr) (em : Addr) (hem : Sta Z Z.heap "java/util/ImmutableCollections" "EMPTY" "Ljava/lang/Object;" (.ref em)) (Fem : OObj Z Z.heap em "java/lang/Object" []) (h0 : Heap) (A_b : OArr Z h0 b (.object "java/lang/Object") [(.ref r0), (.ref r1)]) (F_r0 : OObj Z h0 r0 "com/example/pledgebook/pledgebook/model/LedgerMonth" []) (F_r1 : OObj Z h0 r1 "com/example/pledgebook/pledgebook/model/LedgerMonth" []) :
    OCt l Z a0 EL n0 (⟨"java/util/List", "of", "([Ljava/lang/Object;)Ljava/util/List;"⟩ : MethodName) jdk_40_method_47_code 2 (some (.object "java/util/List")) ({ frames := 6, cells := 2, slots := 4, locals := 77 } : Room) [] #[(.ref b)] h0 [] (fun w vm h => ∃ g : Addr, w = some (.ref g) ∧ h0.size ≤ g ∧ OObj Z h g "java/util/ImmutableCollections$List12" [("java/util/ImmutableCollections$List12", "e0", "Ljava/lang/Object;", (.ref r0)), ("java/util/ImmutableCollections$List12", "e1", "Ljava/lang/Object;", (.ref r1))]) := by
  refine OCt.body (plainFor_of_name pn_15) (ef_45 b) ?_
  intro p e s m below meth c T hby hml hret hnm hsh P
  refine o_aloadN P (hb hby dt31_0) rfl rfl (pc' := 1) rfl ?_
  refine o_arrlen P A_b (hb hby dt31_1) (n := (2 : Int32)) rfl (pc' := 2) rfl ?_
  refine o_tsIn P (hb hby dt31_2) (by decide) (off := 43) rfl (by decide) (pc' := 45) rfl ?_
  have hz_g := P.keep0.1
  refine o_new P [("java/util/ImmutableCollections$List12", "e0", "Ljava/lang/Object;", .null), ("java/util/ImmutableCollections$List12", "e1", "Ljava/lang/Object;", .null)] (ow hw 262 rfl) (ow hw 263 rfl) (ow hw 264 rfl) (OLd.cons (Or.inr (ow hw 275 rfl)) (ty := (.object "java/lang/Object")) (by decide) rfl (OLd.cons (Or.inr (ow hw 277 rfl)) (ty := (.object "java/lang/Object")) (by decide) rfl OLd.nil)) (by decide +kernel) (hb hby dt31_45) (pc' := 48) rfl (by decide) (by decide) ?_
  clear P; intro T h1 g P K1 hb_g F_g
  have sz_g := Nat.le_trans hz_g hb_g
  clear hz_g
  have ne_r0_g : r0 ≠ g := Nat.ne_of_lt (Nat.lt_of_lt_of_le F_r0.lt hb_g)
  have ne_r1_g : r1 ≠ g := Nat.ne_of_lt (Nat.lt_of_lt_of_le F_r1.lt hb_g)
  have ne_b_g : b ≠ g := Nat.ne_of_lt (Nat.lt_of_lt_of_le A_b.lt hb_g)
  replace F_r0 := F_r0.keep K1 nin0
  replace F_r1 := F_r1.keep K1 nin0
  replace A_b := A_b.keep K1 nin0
  clear K1
  refine o_dup P (hb hby dt31_48) rfl (pc' := 49) rfl ?_
  refine o_aloadN P (hb hby dt31_49) rfl rfl (pc' := 50) rfl ?_
  refine o_iconst P (0 : Int32) (hb hby dt31_50) rfl (pc' := 51) rfl ?_
  refine o_aaload P (v := (.ref r0)) A_b rfl (by decide) rfl (hb hby dt31_51) (pc' := 52) rfl ?_
  refine o_aloadN P (hb hby dt31_52) rfl rfl (pc' := 53) rfl ?_
  refine o_iconst P (1 : Int32) (hb hby dt31_53) rfl (pc' := 54) rfl ?_
  refine o_aaload P (v := (.ref r1)) A_b rfl (by decide) rfl (hb hby dt31_54) (pc' := 55) rfl ?_
  refine o_callI P (W := 1) (a := g) rfl (ow hw 265 rfl) (ow hw 266 rfl) (ow hw 264 rfl) (ow hw 268 rfl) (by decide) (ct_l2 l Z a0 hw EL n0 g r0 r1 h1 F_g) (o_sfS (List.Mem.head _) o_sf0) (by rw [hml]; rfl) (by decide) (by decide) (argsL := [(.ref r0), (.ref r1)]) (rest := [(.ref g)]) (lenOf pd_19 rfl) rfl rfl (Nat.le_of_eq rfl) (hb hby dt31_55) (pc' := 58) rfl (by decide) (by decide) ?_
  clear P; intro T h2 v2 P K2 q2
  obtain ⟨rfl, F'⟩ := q2
  show OG p e below m _ T 58 #[.val (.ref b), .unset] [(.ref g)]
  exact o_retA P hret rfl rfl rfl (hb hby dt31_58) (by decide) (by decide) ⟨g, rfl, hsh ▸ sz_g, F'⟩
theorem ef_46 (x0 : Addr) (m : MethodId) : entryFrame m #[(.ref x0)] 2 = mkF m 0 #[.val (.ref x0), .unset] [] := by first | (simp [entryFrame, mkF, argsToLocals, o_catR, o_catN, o_catI, o_catJ, o_catD]; done) | rfl
set_option maxRecDepth 65536 in
set_option maxHeartbeats 40000000 in
theorem ct_lcp_2 (l : Launch) (Z : State) (a0 : Array Value) (hw : ∀ d ∈ tables_1, d.before a0 Z = true) (EL : List (String × Nat)) (n0 : Nat) (a : Addr) (mc : Int32) (d : Addr) (r0 r1 : Addr) (mir : Addr) (hmir : OMir Z "[Ljava/lang/Object;" mir) (em : Addr) (hem : Sta Z Z.heap "java/util/ImmutableCollections" "EMPTY" "Ljava/lang/Object;" (.ref em)) (Fem : OObj Z Z.heap em "java/lang/Object" []) (h0 : Heap) (A_d : OArr Z h0 d (.object "java/lang/Object") [(.ref r0), (.ref r1), .null, .null, .null, .null, .null, .null, .null, .null]) (O_d : OAr Z h0 d "java/lang/Object" "[Ljava/lang/Object;") (F_r0 : OObj Z h0 r0 "com/example/pledgebook/pledgebook/model/LedgerMonth" []) (F_r1 : OObj Z h0 r1 "com/example/pledgebook/pledgebook/model/LedgerMonth" []) (F_a : OObj Z h0 a "java/util/ArrayList" [("java/util/AbstractList", "modCount", "I", (.int mc)), ("java/util/ArrayList", "elementData", "[Ljava/lang/Object;", (.ref d)), ("java/util/ArrayList", "size", "I", (.int (2 : Int32)))]) :
    OCt l Z a0 EL n0 (⟨"java/util/ImmutableCollections", "listCopy", "(Ljava/util/Collection;)Ljava/util/List;"⟩ : MethodName) jdk_56_method_3_code 2 (some (.object "java/util/List")) ({ frames := 7, cells := 3, slots := 6, locals := 92 } : Room) [] #[(.ref a)] h0 [] (fun w vm h => ∃ g : Addr, w = some (.ref g) ∧ h0.size ≤ g ∧ OObj Z h g "java/util/ImmutableCollections$List12" [("java/util/ImmutableCollections$List12", "e0", "Ljava/lang/Object;", (.ref r0)), ("java/util/ImmutableCollections$List12", "e1", "Ljava/lang/Object;", (.ref r1))]) := by
  refine OCt.body (plainFor_of_name pn_16) (ef_46 a) ?_
  intro p e s m below meth c T hby hml hret hnm hsh P
  refine o_aloadN P (hb hby dt32_0) rfl rfl (pc' := 1) rfl ?_
  refine o_instN P (ow hw 151 rfl) F_a.exa (own_no hw "java/util/ImmutableCollections$List12" (.inl rfl)) (hb hby dt32_1) (pc' := 4) rfl ?_
  clear P; intro T P
  refine o_if_ne P (hb hby dt32_4) (by decide) (pc' := 26) (by decide) (pcf := 7) rfl (fun q => absurd (by decide) q) (fun _ => ?_)
  refine o_aloadN P (hb hby dt32_7) rfl rfl (pc' := 8) rfl ?_
  refine o_instN P (ow hw 156 rfl) F_a.exa (own_no hw "java/util/ImmutableCollections$ListN" (.inr rfl)) (hb hby dt32_8) (pc' := 11) rfl ?_
  clear P; intro T P
  refine o_if_eq P (hb hby dt32_11) (by decide) (pc' := 31) (by decide) (pcf := 14) rfl (fun _ => ?_) (fun q => absurd (by decide) q)
  refine o_aloadN P (hb hby dt32_31) rfl rfl (pc' := 32) rfl ?_
  refine o_callF P (W := 0) (x := (⟨"java/util/Collection", "isEmpty", "()Z"⟩ : MethodName)) (y := (⟨"java/util/ArrayList", "isEmpty", "()Z"⟩ : MethodName)) (a := a) (ow hw 157 rfl) (ow hw 158 rfl) (ow hw 159 rfl) (ow hw 160 rfl) (ow hw 161 rfl) (ow hw 162 rfl) (ow hw 163 rfl) (ow hw 164 rfl) (ow hw 83 rfl) (ow hw 165 rfl) (by decide) F_a.exa (ct_isE_2 l Z a0 hw EL n0 a mc d h0 F_a) o_sf0 (by rw [hml]; rfl) (by decide) (by decide) (argsL := []) (rest := []) (lenOf pd_16 rfl) rfl rfl (Nat.le_of_eq rfl) (hb hby dt32_32) (pc' := 37) rfl (by decide) (by decide) ?_
  clear P; intro T h1 v1 P K1 q1
  obtain ⟨rfl, rfl⟩ := q1; clear K1
  show OG p e below m _ T 37 #[.val (.ref a), .unset] [(.int (0 : Int32))]
  refine o_if_eq P (hb hby dt32_37) (by decide) (pc' := 44) (by decide) (pcf := 40) rfl (fun _ => ?_) (fun q => absurd (by decide) q)
  refine o_aloadN P (hb hby dt32_44) rfl rfl (pc' := 45) rfl ?_
  refine o_callF P (W := 0) (x := (⟨"java/util/Collection", "toArray", "()[Ljava/lang/Object;"⟩ : MethodName)) (y := (⟨"java/util/ArrayList", "toArray", "()[Ljava/lang/Object;"⟩ : MethodName)) (a := a) (ow hw 166 rfl) (ow hw 167 rfl) (ow hw 168 rfl) (ow hw 169 rfl) (ow hw 170 rfl) (ow hw 171 rfl) (ow hw 172 rfl) (ow hw 164 rfl) (ow hw 83 rfl) (ow hw 173 rfl) (by decide) F_a.exa (ct_toA_2 l Z a0 hw EL n0 a mc d r0 r1 mir hmir h1 A_d O_d F_r0 F_r1 F_a) o_sf0 (by rw [hml]; rfl) (by decide) (by decide) (argsL := []) (rest := []) (lenOf pd_10 rfl) rfl rfl (Nat.le_of_eq rfl) (hb hby dt32_45) (pc' := 50) rfl (by decide) (by decide) ?_
  clear P; intro T h2 v2 P K2 q2
  obtain ⟨b, rfl, g1, A_b⟩ := q2
  have hl1 := K2.1
  replace F_r0 := F_r0.keep K2 nin0
  replace F_r1 := F_r1.keep K2 nin0
  show OG p e below m _ T 50 #[.val (.ref a), .unset] [(.ref b)]
  refine o_callS P (W := 0) (ow hw 196 rfl) (ow hw 197 rfl) (ow hw 145 rfl) (ow hw 198 rfl) (by decide) (ct_lof_2 l Z a0 hw EL n0 b r0 r1 em hem Fem h2 A_b F_r0 F_r1) o_sf0 (by rw [hml]; rfl) (by decide) (by decide) (argsL := [(.ref b)]) (rest := []) (lenOf pd_17 rfl) rfl rfl (Nat.le_of_eq rfl) (hb hby dt32_50) (pc' := 53) rfl (by decide) (by decide) ?_
  clear P; intro T h3 v3 P K3 q3
  obtain ⟨g, rfl, g2, Q'⟩ := q3
  show OG p e below m _ T 53 #[.val (.ref a), .unset] [(.ref g)]
  exact o_retA P hret rfl rfl rfl (hb hby dt32_53) (by decide) (by decide) ⟨g, rfl, Nat.le_trans hl1 g2, Q'⟩
theorem ef_47 (x0 : Addr) (m : MethodId) : entryFrame m #[(.ref x0)] 1 = mkF m 0 #[.val (.ref x0)] [] := by first | (simp [entryFrame, mkF, argsToLocals, o_catR, o_catN, o_catI, o_catJ, o_catD]; done) | rfl
set_option maxRecDepth 65536 in
set_option maxHeartbeats 40000000 in
theorem ct_lco_2 (l : Launch) (Z : State) (a0 : Array Value) (hw : ∀ d ∈ tables_1, d.before a0 Z = true) (EL : List (String × Nat)) (n0 : Nat) (a : Addr) (mc : Int32) (d : Addr) (r0 r1 : Addr) (mir : Addr) (hmir : OMir Z "[Ljava/lang/Object;" mir) (em : Addr) (hem : Sta Z Z.heap "java/util/ImmutableCollections" "EMPTY" "Ljava/lang/Object;" (.ref em)) (Fem : OObj Z Z.heap em "java/lang/Object" []) (h0 : Heap) (A_d : OArr Z h0 d (.object "java/lang/Object") [(.ref r0), (.ref r1), .null, .null, .null, .null, .null, .null, .null, .null]) (O_d : OAr Z h0 d "java/lang/Object" "[Ljava/lang/Object;") (F_r0 : OObj Z h0 r0 "com/example/pledgebook/pledgebook/model/LedgerMonth" []) (F_r1 : OObj Z h0 r1 "com/example/pledgebook/pledgebook/model/LedgerMonth" []) (F_a : OObj Z h0 a "java/util/ArrayList" [("java/util/AbstractList", "modCount", "I", (.int mc)), ("java/util/ArrayList", "elementData", "[Ljava/lang/Object;", (.ref d)), ("java/util/ArrayList", "size", "I", (.int (2 : Int32)))]) :
    OCt l Z a0 EL n0 (⟨"java/util/List", "copyOf", "(Ljava/util/Collection;)Ljava/util/List;"⟩ : MethodName) jdk_40_method_48_code 1 (some (.object "java/util/List")) ({ frames := 8, cells := 3, slots := 6, locals := 106 } : Room) [] #[(.ref a)] h0 [] (fun w vm h => ∃ g : Addr, w = some (.ref g) ∧ h0.size ≤ g ∧ OObj Z h g "java/util/ImmutableCollections$List12" [("java/util/ImmutableCollections$List12", "e0", "Ljava/lang/Object;", (.ref r0)), ("java/util/ImmutableCollections$List12", "e1", "Ljava/lang/Object;", (.ref r1))]) := by
  refine OCt.body (plainFor_of_name pn_15) (ef_47 a) ?_
  intro p e s m below meth c T hby hml hret hnm hsh P
  refine o_aloadN P (hb hby dt33_0) rfl rfl (pc' := 1) rfl ?_
  refine o_callS P (W := 0) (ow hw 147 rfl) (ow hw 148 rfl) (ow hw 149 rfl) (ow hw 150 rfl) (by decide) (ct_lcp_2 l Z a0 hw EL n0 a mc d r0 r1 mir hmir em hem Fem h0 A_d O_d F_r0 F_r1 F_a) o_sf0 (by rw [hml]; rfl) (by decide) (by decide) (argsL := [(.ref a)]) (rest := []) (lenOf pd_18 rfl) rfl rfl (Nat.le_of_eq rfl) (hb hby dt33_1) (pc' := 4) rfl (by decide) (by decide) ?_
  clear P; intro T h1 v1 P K1 q1
  obtain ⟨g, rfl, g1, Q'⟩ := q1
  show OG p e below m _ T 4 #[.val (.ref a)] [(.ref g)]
  exact o_retA P hret rfl rfl rfl (hb hby dt33_4) (by decide) (by decide) ⟨g, rfl, g1, Q'⟩
theorem ef_48 (x0 : Addr) (x1 : Addr) (m : MethodId) : entryFrame m #[(.ref x0), (.ref x1)] 2 = mkF m 0 #[.val (.ref x0), .val (.ref x1)] [] := by first | (simp [entryFrame, mkF, argsToLocals, o_catR, o_catN, o_catI, o_catJ, o_catD]; done) | rfl
set_option maxRecDepth 65536 in
set_option maxHeartbeats 40000000 in
theorem ct_lei_2 (l : Launch) (Z : State) (a0 : Array Value) (hw : ∀ d ∈ tables_1, d.before a0 Z = true) (EL : List (String × Nat)) (n0 : Nat) (u : Addr) (a : Addr) (mc : Int32) (d : Addr) (r0 r1 : Addr) (mir : Addr) (hmir : OMir Z "[Ljava/lang/Object;" mir) (em : Addr) (hem : Sta Z Z.heap "java/util/ImmutableCollections" "EMPTY" "Ljava/lang/Object;" (.ref em)) (Fem : OObj Z Z.heap em "java/lang/Object" []) (h0 : Heap) (A_d : OArr Z h0 d (.object "java/lang/Object") [(.ref r0), (.ref r1), .null, .null, .null, .null, .null, .null, .null, .null]) (O_d : OAr Z h0 d "java/lang/Object" "[Ljava/lang/Object;") (F_r0 : OObj Z h0 r0 "com/example/pledgebook/pledgebook/model/LedgerMonth" []) (F_r1 : OObj Z h0 r1 "com/example/pledgebook/pledgebook/model/LedgerMonth" []) (F_a : OObj Z h0 a "java/util/ArrayList" [("java/util/AbstractList", "modCount", "I", (.int mc)), ("java/util/ArrayList", "elementData", "[Ljava/lang/Object;", (.ref d)), ("java/util/ArrayList", "size", "I", (.int (2 : Int32)))]) (F_u : OObj Z h0 u "com/example/pledgebook/pledgebook/model/Ledger" [("com/example/pledgebook/pledgebook/model/Ledger", "months", "Ljava/util/List;", .null)]) :
    OCt l Z a0 EL n0 (⟨"com/example/pledgebook/pledgebook/model/Ledger", "<init>", "(Ljava/util/List;)V"⟩ : MethodName) prog_48_method_1_code 2 none ({ frames := 9, cells := 3, slots := 6, locals := 120 } : Room) [] #[(.ref u), (.ref a)] h0 [u] (fun w vm h => w = none ∧ ∃ g : Addr, OObj Z h u "com/example/pledgebook/pledgebook/model/Ledger" [("com/example/pledgebook/pledgebook/model/Ledger", "months", "Ljava/util/List;", (.ref g))] ∧ OObj Z h g "java/util/ImmutableCollections$List12" [("java/util/ImmutableCollections$List12", "e0", "Ljava/lang/Object;", (.ref r0)), ("java/util/ImmutableCollections$List12", "e1", "Ljava/lang/Object;", (.ref r1))]) := by
  refine OCt.body (plainFor_of_name pn_17) (ef_48 u a) ?_
  intro p e s m below meth c T hby hml hret hnm hsh P
  refine o_aloadN P (hb hby dt34_0) rfl rfl (pc' := 1) rfl ?_
  refine o_callI P (W := 0) (a := u) rfl (ow hw 142 rfl) (ow hw 70 rfl) (ow hw 72 rfl) (ow hw 73 rfl) (by decide) (ct_rec l Z a0 hw EL n0 u h0) o_sf0 (by rw [hml]; rfl) (by decide) (by decide) (argsL := []) (rest := []) (lenOf pd_7 rfl) rfl rfl (Nat.le_of_eq rfl) (hb hby dt34_1) (pc' := 4) rfl (by decide) (by decide) ?_
  clear P; intro T h1 v1 P K1 q1
  obtain ⟨rfl, rfl⟩ := q1; clear K1
  show OG p e below m _ T 4 #[.val (.ref u), .val (.ref a)] []
  refine o_aloadN P (hb hby dt34_4) rfl rfl (pc' := 5) rfl ?_
  refine o_callS P (W := 0) (ow hw 143 rfl) (ow hw 144 rfl) (ow hw 145 rfl) (ow hw 146 rfl) (by decide) (ct_lco_2 l Z a0 hw EL n0 a mc d r0 r1 mir hmir em hem Fem h1 A_d O_d F_r0 F_r1 F_a) o_sf0 (by rw [hml]; rfl) (by decide) (by decide) (argsL := [(.ref a)]) (rest := []) (lenOf pd_18 rfl) rfl rfl (Nat.le_of_eq rfl) (hb hby dt34_5) (pc' := 8) rfl (by decide) (by decide) ?_
  clear P; intro T h2 v2 P K2 q2
  obtain ⟨g, rfl, g1, Q'⟩ := q2
  have ne_u_g : u ≠ g := Nat.ne_of_lt (Nat.lt_of_lt_of_le F_u.lt g1)
  replace F_u := F_u.keep K2 nin0
  show OG p e below m _ T 8 #[.val (.ref u), .val (.ref a)] [(.ref g)]
  have F_g := Q'; clear Q'
  refine o_astoreN P (hb hby dt34_8) rfl (L' := #[.val (.ref u), .val (.ref g)]) rfl (pc' := 9) rfl ?_
  refine o_aloadN P (hb hby dt34_9) rfl rfl (pc' := 10) rfl ?_
  refine o_aloadN P (hb hby dt34_10) rfl rfl (pc' := 11) rfl ?_
  refine o_putF P (v' := (.ref g)) (ty := (.object "java/util/List")) (ow hw 231 rfl) Via.refl (F_u.fld 0 rfl) F_u.exa (Or.inr ⟨(ow hw 232 rfl), rfl, hnm⟩) (ow hw 137 rfl) (by decide) rfl rfl (List.Mem.head _) (hb hby dt34_11) (pc' := 14) rfl ?_
  clear P; intro T h3 P W3
  replace F_g := F_g.oth W3 (Ne.symm ne_u_g)
  replace F_u : OObj Z h3 u "com/example/pledgebook/pledgebook/model/Ledger" [("com/example/pledgebook/pledgebook/model/Ledger", "months", "Ljava/util/List;", (.ref g))] := F_u.put 0 rfl W3
  clear W3
  exact o_ret0 P hret (hb hby dt34_14) (by decide) (by decide) ⟨rfl, g, F_u, F_g⟩
theorem ef_49 (x0 : Addr) (m : MethodId) : entryFrame m #[(.ref x0)] 1 = mkF m 0 #[.val (.ref x0)] [] := by first | (simp [entryFrame, mkF, argsToLocals, o_catR, o_catN, o_catI, o_catJ, o_catD]; done) | rfl
set_option maxRecDepth 65536 in
set_option maxHeartbeats 40000000 in
theorem ct_siz_2 (l : Launch) (Z : State) (a0 : Array Value) (hw : ∀ d ∈ tables_1, d.before a0 Z = true) (EL : List (String × Nat)) (n0 : Nat) (g r0 r1 : Addr) (em : Addr) (hem : Sta Z Z.heap "java/util/ImmutableCollections" "EMPTY" "Ljava/lang/Object;" (.ref em)) (Fem : OObj Z Z.heap em "java/lang/Object" []) (h0 : Heap) (F_g : OObj Z h0 g "java/util/ImmutableCollections$List12" [("java/util/ImmutableCollections$List12", "e0", "Ljava/lang/Object;", (.ref r0)), ("java/util/ImmutableCollections$List12", "e1", "Ljava/lang/Object;", (.ref r1))]) (F_r1 : OObj Z h0 r1 "com/example/pledgebook/pledgebook/model/LedgerMonth" []) :
    OCt l Z a0 EL n0 (⟨"java/util/ImmutableCollections$List12", "size", "()I"⟩ : MethodName) jdk_44_method_3_code 1 (some .int) ({ frames := 0, cells := 0, slots := 0, locals := 0 } : Room) [] #[(.ref g)] h0 [] (fun w vm h => w = some (.int 2) ∧ h = h0) := by
  refine OCt.body (plainFor_of_name pn_12) (ef_49 g) ?_
  intro p e s m below meth c T hby hml hret hnm hsh P
  refine o_aloadN P (hb hby dt35_0) rfl rfl (pc' := 1) rfl ?_
  refine o_getF P (ow hw 276 rfl) Via.refl (F_g.fld 1 rfl) (hb hby dt35_1) (pc' := 4) rfl ?_
  clear P; intro T P
  have hO := P.old
  refine o_getSN P (ow hw 284 rfl) Via.refl hem (hb hby dt35_4) (pc' := 7) rfl ?_
  clear P; intro T P
  refine o_acmp P false (hb hby dt35_7) rfl rfl (decide_eq_false fun q => (F_r1.neObj (Fem.ext hO.2) (by decide)) (Value.ref.inj q)) (by decide) (pc' := 10) rfl ?_
  refine o_iconst P (2 : Int32) (hb hby dt35_10) rfl (pc' := 11) rfl ?_
  refine o_goto P (hb hby dt35_11) (by decide) (pc' := 15) (by decide) ?_
  exact o_retI P hret (by simp) rfl (hb hby dt35_15) (by decide) (by decide) ⟨rfl, rfl⟩
theorem ef_50 (x0 : Addr) (x1 : Int32) (m : MethodId) : entryFrame m #[(.ref x0), (.int x1)] 2 = mkF m 0 #[.val (.ref x0), .val (.int x1)] [] := by first | (simp [entryFrame, mkF, argsToLocals, o_catR, o_catN, o_catI, o_catJ, o_catD]; done) | rfl
set_option maxRecDepth 65536 in
set_option maxHeartbeats 40000000 in
theorem ct_get_2 (l : Launch) (Z : State) (a0 : Array Value) (hw : ∀ d ∈ tables_1, d.before a0 Z = true) (EL : List (String × Nat)) (n0 : Nat) (g r0 r1 : Addr) (em : Addr) (hem : Sta Z Z.heap "java/util/ImmutableCollections" "EMPTY" "Ljava/lang/Object;" (.ref em)) (Fem : OObj Z Z.heap em "java/lang/Object" []) (h0 : Heap) (F_g : OObj Z h0 g "java/util/ImmutableCollections$List12" [("java/util/ImmutableCollections$List12", "e0", "Ljava/lang/Object;", (.ref r0)), ("java/util/ImmutableCollections$List12", "e1", "Ljava/lang/Object;", (.ref r1))]) (F_r1 : OObj Z h0 r1 "com/example/pledgebook/pledgebook/model/LedgerMonth" []) :
    OCt l Z a0 EL n0 (⟨"java/util/ImmutableCollections$List12", "get", "(I)Ljava/lang/Object;"⟩ : MethodName) jdk_44_method_5_code 2 (some (.object "java/lang/Object")) ({ frames := 0, cells := 0, slots := 0, locals := 0 } : Room) [] #[(.ref g), (.int (1 : Int32))] h0 [] (fun w vm h => w = some (.ref r1) ∧ h = h0) := by
  refine OCt.body (plainFor_of_name pn_12) (ef_50 g ((1 : Int32))) ?_
  intro p e s m below meth c T hby hml hret hnm hsh P
  refine o_iloadN P (hb hby dt36_0) rfl (pc' := 1) rfl ?_
  refine o_if_ne P (hb hby dt36_1) (by decide) (pc' := 9) (by decide) (pcf := 4) rfl (fun _ => ?_) (fun q => absurd q (by decide))
  refine o_iloadN P (hb hby dt36_9) rfl (pc' := 10) rfl ?_
  refine o_iconst P (1 : Int32) (hb hby dt36_10) rfl (pc' := 11) rfl ?_
  refine o_icmp_ne P (hb hby dt36_11) (by decide) (pc' := 29) (by decide) (pcf := 14) rfl (fun q => absurd (by decide) q) (fun _ => ?_)
  refine o_aloadN P (hb hby dt36_14) rfl rfl (pc' := 15) rfl ?_
  refine o_getF P (ow hw 276 rfl) Via.refl (F_g.fld 1 rfl) (hb hby dt36_15) (pc' := 18) rfl ?_
  clear P; intro T P
  have hO := P.old
  refine o_getSN P (ow hw 284 rfl) Via.refl hem (hb hby dt36_18) (pc' := 21) rfl ?_
  clear P; intro T P
  refine o_acmp P false (hb hby dt36_21) rfl rfl (decide_eq_false fun q => (F_r1.neObj (Fem.ext hO.2) (by decide)) (Value.ref.inj q)) (by decide) (pc' := 24) rfl ?_
  refine o_aloadN P (hb hby dt36_24) rfl rfl (pc' := 25) rfl ?_
  refine o_getF P (ow hw 276 rfl) Via.refl (F_g.fld 1 rfl) (hb hby dt36_25) (pc' := 28) rfl ?_
  clear P; intro T P
  exact o_retA P hret rfl rfl rfl (hb hby dt36_28) (by decide) (by decide) ⟨rfl, rfl⟩
theorem ef_51 (x0 : Int32) (x1 : Int32) (m : MethodId) : entryFrame m #[(.int x0), (.int x1)] 2 = mkF m 0 #[.val (.int x0), .val (.int x1)] [] := by first | (simp [entryFrame, mkF, argsToLocals, o_catR, o_catN, o_catI, o_catJ, o_catD]; done) | rfl
set_option maxRecDepth 65536 in
set_option maxHeartbeats 40000000 in
theorem ct_min3 (l : Launch) (Z : State) (a0 : Array Value) (hw : ∀ d ∈ tables_1, d.before a0 Z = true) (EL : List (String × Nat)) (n0 : Nat) (h0 : Heap) :
    OCt l Z a0 EL n0 (⟨"java/lang/Math", "min", "(II)I"⟩ : MethodName) jdk_29_method_69_code 2 (some .int) ({ frames := 0, cells := 0, slots := 0, locals := 0 } : Room) [] #[(.int (10 : Int32)), (.int (3 : Int32))] h0 [] (fun w vm h => w = some (.int 3) ∧ h = h0) := by
  refine OCt.body (Jvm.Free.JP.mathPlain rfl (by decide +kernel)) (ef_51 ((10 : Int32)) ((3 : Int32))) ?_
  intro p e s m below meth c T hby hml hret hnm hsh P
  refine o_iloadN P (hb hby dt26_0) rfl (pc' := 1) rfl ?_
  refine o_iloadN P (hb hby dt26_1) rfl (pc' := 2) rfl ?_
  refine o_icmp_gt P (hb hby dt26_2) (by decide) (pc' := 9) (by decide) (pcf := 5) rfl (fun _ => ?_) (fun q => absurd (by decide) q)
  refine o_iloadN P (hb hby dt26_9) rfl (pc' := 10) rfl ?_
  exact o_retI P hret (by simp) rfl (hb hby dt26_10) (by decide) (by decide) ⟨rfl, rfl⟩
theorem ef_52 (x0 : Addr) (x1 : Int32) (x2 : Addr) (m : MethodId) : entryFrame m #[(.ref x0), (.int x1), (.ref x2)] 4 = mkF m 0 #[.val (.ref x0), .val (.int x1), .val (.ref x2), .unset] [] := by first | (simp [entryFrame, mkF, argsToLocals, o_catR, o_catN, o_catI, o_catJ, o_catD]; done) | rfl
set_option maxRecDepth 65536 in
set_option maxHeartbeats 40000000 in
theorem ct_cp3_3 (l : Launch) (Z : State) (a0 : Array Value) (hw : ∀ d ∈ tables_1, d.before a0 Z = true) (EL : List (String × Nat)) (n0 : Nat) (d : Addr) (r0 r1 r2 : Addr) (mir : Addr) (hmir : OMir Z "[Ljava/lang/Object;" mir) (h0 : Heap) (A_d : OArr Z h0 d (.object "java/lang/Object") [(.ref r0), (.ref r1), (.ref r2), .null, .null, .null, .null, .null, .null, .null]) (F_r0 : OObj Z h0 r0 "com/example/pledgebook/pledgebook/model/LedgerMonth" []) (F_r1 : OObj Z h0 r1 "com/example/pledgebook/pledgebook/model/LedgerMonth" []) (F_r2 : OObj Z h0 r2 "com/example/pledgebook/pledgebook/model/LedgerMonth" []) :
    OCt l Z a0 EL n0 (⟨"java/util/Arrays", "copyOf", "([Ljava/lang/Object;ILjava/lang/Class;)[Ljava/lang/Object;"⟩ : MethodName) jdk_65_method_120_code 4 (some (.array (.object "java/lang/Object"))) ({ frames := 1, cells := 1, slots := 3, locals := 18 } : Room) [] #[(.ref d), (.int (3 : Int32)), (.ref mir)] h0 [] (fun w vm h => ∃ b : Addr, w = some (.ref b) ∧ h0.size ≤ b ∧ OArr Z h b (.object "java/lang/Object") [(.ref r0), (.ref r1), (.ref r2)]) := by
  refine OCt.body (plainFor_of_name pn_14) (ef_52 d ((3 : Int32)) mir) ?_
  intro p e s m below meth c T hby hml hret hnm hsh P
  refine o_aloadN P (hb hby dt27_0) rfl rfl (pc' := 1) rfl ?_
  refine o_ldcMir P hmir (ow hw 187 rfl) (hb hby dt27_1) (pc' := 3) rfl ?_
  clear P; intro T P
  refine o_acmp P true (hb hby dt27_3) rfl rfl (decide_eq_true rfl) (by decide) (pc' := 6) rfl ?_
  refine o_iloadN P (hb hby dt27_6) rfl (pc' := 7) rfl ?_
  have hz_b := P.keep0.1
  refine o_anewarrE P (N := "[Ljava/lang/Object;") (cap := 3) (ow hw 188 rfl) (ow hw 134 rfl) (by decide) (hb hby dt27_7) (by decide) (by decide) (by decide) (pc' := 10) rfl (by decide) (by decide) ?_
  clear P; intro T h1 b P K1 hb_b A_b O_b
  have sz_b := Nat.le_trans hz_b hb_b
  clear hz_b
  have ne_r0_b : r0 ≠ b := Nat.ne_of_lt (Nat.lt_of_lt_of_le F_r0.lt hb_b)
  have ne_r1_b : r1 ≠ b := Nat.ne_of_lt (Nat.lt_of_lt_of_le F_r1.lt hb_b)
  have ne_r2_b : r2 ≠ b := Nat.ne_of_lt (Nat.lt_of_lt_of_le F_r2.lt hb_b)
  have ne_d_b : d ≠ b := Nat.ne_of_lt (Nat.lt_of_lt_of_le A_d.lt hb_b)
  replace F_r0 := F_r0.keep K1 nin0
  replace F_r1 := F_r1.keep K1 nin0
  replace F_r2 := F_r2.keep K1 nin0
  replace A_d := A_d.keep K1 nin0
  clear K1
  replace A_b : OArr Z h1 b (.object "java/lang/Object") [.null, .null, .null] := A_b
  refine o_goto P (hb hby dt27_10) (by decide) (pc' := 24) (by decide) ?_
  refine o_astoreN P (hb hby dt27_24) rfl (L' := #[.val (.ref d), .val (.int (3 : Int32)), .val (.ref mir), .val (.ref b)]) rfl (pc' := 25) rfl ?_
  refine o_aloadN P (hb hby dt27_25) rfl rfl (pc' := 26) rfl ?_
  refine o_iconst P (0 : Int32) (hb hby dt27_26) rfl (pc' := 27) rfl ?_
  refine o_aloadN P (hb hby dt27_27) rfl rfl (pc' := 28) rfl ?_
  refine o_iconst P (0 : Int32) (hb hby dt27_28) rfl (pc' := 29) rfl ?_
  refine o_aloadN P (hb hby dt27_29) rfl rfl (pc' := 30) rfl ?_
  refine o_arrlen P A_d (hb hby dt27_30) (n := (10 : Int32)) rfl (pc' := 31) rfl ?_
  refine o_iloadN P (hb hby dt27_31) rfl (pc' := 32) rfl ?_
  refine o_callS P (W := 4) (ow hw 189 rfl) (ow hw 190 rfl) (ow hw 131 rfl) (ow hw 191 rfl) (by decide) (ct_min3 l Z a0 hw EL n0 h1) o_sf0 (by rw [hml]; rfl) (by decide) (by decide) (argsL := [(.int (10 : Int32)), (.int (3 : Int32))]) (rest := [(.int (0 : Int32)), (.ref b), (.int (0 : Int32)), (.ref d)]) (lenOf pd_8 rfl) rfl rfl (Nat.le_of_eq rfl) (hb hby dt27_32) (pc' := 35) rfl (by decide) (by decide) ?_
  clear P; intro T h2 v2 P K2 q2
  obtain ⟨rfl, rfl⟩ := q2; clear K2
  show OG p e below m _ T 35 #[.val (.ref d), .val (.int (3 : Int32)), .val (.ref mir), .val (.ref b)] [(.int (3 : Int32)), (.int (0 : Int32)), (.ref b), (.int (0 : Int32)), (.ref d)]
  refine o_cpA P (W := 0) (us := [(.ref r0), (.ref r1), (.ref r2)]) (ow hw 192 rfl) (ow hw 195 rfl) (ow hw 193 rfl) (ow hw 194 rfl) A_d A_b (List.Mem.head _) (Or.inr ⟨rfl, rfl, ⟨(O_b.sto A_b (Ins.of_exa F_r0.exa (ow hw 135 rfl))), ⟨(O_b.sto A_b (Ins.of_exa F_r1.exa (ow hw 135 rfl))), ⟨(O_b.sto A_b (Ins.of_exa F_r2.exa (ow hw 135 rfl))), trivial⟩⟩⟩⟩) (by decide) (by decide) (by decide) (of_decide_eq_true rfl) (of_decide_eq_true rfl) rfl (by rw [hml]; rfl) (by decide) (by decide) (by decide) (hb hby dt27_35) (pc' := 38) rfl ?_
  clear P; intro T h3 P K3 A'
  replace A_b : OArr Z h3 b (.object "java/lang/Object") [(.ref r0), (.ref r1), (.ref r2)] := A'
  refine o_aloadN P (hb hby dt27_38) rfl rfl (pc' := 39) rfl ?_
  exact o_retA P hret rfl rfl rfl (hb hby dt27_39) (by decide) (by decide) ⟨b, rfl, hsh ▸ sz_b, A_b⟩
theorem ef_53 (x0 : Addr) (x1 : Int32) (m : MethodId) : entryFrame m #[(.ref x0), (.int x1)] 2 = mkF m 0 #[.val (.ref x0), .val (.int x1)] [] := by first | (simp [entryFrame, mkF, argsToLocals, o_catR, o_catN, o_catI, o_catJ, o_catD]; done) | rfl
set_option maxRecDepth 65536 in
set_option maxHeartbeats 40000000 in
theorem ct_cp2_3 (l : Launch) (Z : State) (a0 : Array Value) (hw : ∀ d ∈ tables_1, d.before a0 Z = true) (EL : List (String × Nat)) (n0 : Nat) (d : Addr) (r0 r1 r2 : Addr) (mir : Addr) (hmir : OMir Z "[Ljava/lang/Object;" mir) (h0 : Heap) (A_d : OArr Z h0 d (.object "java/lang/Object") [(.ref r0), (.ref r1), (.ref r2), .null, .null, .null, .null, .null, .null, .null]) (O_d : OAr Z h0 d "java/lang/Object" "[Ljava/lang/Object;") (F_r0 : OObj Z h0 r0 "com/example/pledgebook/pledgebook/model/LedgerMonth" []) (F_r1 : OObj Z h0 r1 "com/example/pledgebook/pledgebook/model/LedgerMonth" []) (F_r2 : OObj Z h0 r2 "com/example/pledgebook/pledgebook/model/LedgerMonth" []) :
    OCt l Z a0 EL n0 (⟨"java/util/Arrays", "copyOf", "([Ljava/lang/Object;I)[Ljava/lang/Object;"⟩ : MethodName) jdk_65_method_119_code 2 (some (.array (.object "java/lang/Object"))) ({ frames := 2, cells := 1, slots := 3, locals := 33 } : Room) [] #[(.ref d), (.int (3 : Int32))] h0 [] (fun w vm h => ∃ b : Addr, w = some (.ref b) ∧ h0.size ≤ b ∧ OArr Z h b (.object "java/lang/Object") [(.ref r0), (.ref r1), (.ref r2)]) := by
  refine OCt.body (plainFor_of_name pn_14) (ef_53 d ((3 : Int32))) ?_
  intro p e s m below meth c T hby hml hret hnm hsh P
  refine o_aloadN P (hb hby dt28_0) rfl rfl (pc' := 1) rfl ?_
  refine o_iloadN P (hb hby dt28_1) rfl (pc' := 2) rfl ?_
  refine o_aloadN P (hb hby dt28_2) rfl rfl (pc' := 3) rfl ?_
  refine o_getCls P (W := 2) hmir O_d.1 (ow hw 178 rfl) (ow hw 179 rfl) (o_nfTop (ow hw 155 rfl)) (ow hw 181 rfl) (ow hw 180 rfl) (ow hw 182 rfl) (by rw [hml]; rfl) (by decide) (Nat.le_of_eq rfl) (by decide) (hb hby dt28_3) (pc' := 6) rfl ?_
  clear P; intro T P
  refine o_callS P (W := 0) (ow hw 184 rfl) (ow hw 185 rfl) (ow hw 176 rfl) (ow hw 186 rfl) (by decide) (ct_cp3_3 l Z a0 hw EL n0 d r0 r1 r2 mir hmir h0 A_d F_r0 F_r1 F_r2) o_sf0 (by rw [hml]; rfl) (by decide) (by decide) (argsL := [(.ref d), (.int (3 : Int32)), (.ref mir)]) (rest := []) (lenOf pd_13 rfl) rfl rfl (Nat.le_of_eq rfl) (hb hby dt28_6) (pc' := 9) rfl (by decide) (by decide) ?_
  clear P; intro T h1 v1 P K1 q1
  obtain ⟨b, rfl, g1, A'⟩ := q1
  show OG p e below m _ T 9 #[.val (.ref d), .val (.int (3 : Int32))] [(.ref b)]
  exact o_retA P hret rfl rfl rfl (hb hby dt28_9) (by decide) (by decide) ⟨b, rfl, g1, A'⟩
theorem ef_54 (x0 : Addr) (m : MethodId) : entryFrame m #[(.ref x0)] 1 = mkF m 0 #[.val (.ref x0)] [] := by first | (simp [entryFrame, mkF, argsToLocals, o_catR, o_catN, o_catI, o_catJ, o_catD]; done) | rfl
set_option maxRecDepth 65536 in
set_option maxHeartbeats 40000000 in
theorem ct_toA_3 (l : Launch) (Z : State) (a0 : Array Value) (hw : ∀ d ∈ tables_1, d.before a0 Z = true) (EL : List (String × Nat)) (n0 : Nat) (a : Addr) (mc : Int32) (d : Addr) (r0 r1 r2 : Addr) (mir : Addr) (hmir : OMir Z "[Ljava/lang/Object;" mir) (h0 : Heap) (A_d : OArr Z h0 d (.object "java/lang/Object") [(.ref r0), (.ref r1), (.ref r2), .null, .null, .null, .null, .null, .null, .null]) (O_d : OAr Z h0 d "java/lang/Object" "[Ljava/lang/Object;") (F_r0 : OObj Z h0 r0 "com/example/pledgebook/pledgebook/model/LedgerMonth" []) (F_r1 : OObj Z h0 r1 "com/example/pledgebook/pledgebook/model/LedgerMonth" []) (F_r2 : OObj Z h0 r2 "com/example/pledgebook/pledgebook/model/LedgerMonth" []) (F_a : OObj Z h0 a "java/util/ArrayList" [("java/util/AbstractList", "modCount", "I", (.int mc)), ("java/util/ArrayList", "elementData", "[Ljava/lang/Object;", (.ref d)), ("java/util/ArrayList", "size", "I", (.int (3 : Int32)))]) :
    OCt l Z a0 EL n0 (⟨"java/util/ArrayList", "toArray", "()[Ljava/lang/Object;"⟩ : MethodName) jdk_38_method_16_code 1 (some (.array (.object "java/lang/Object"))) ({ frames := 3, cells := 1, slots := 3, locals := 46 } : Room) [] #[(.ref a)] h0 [] (fun w vm h => ∃ b : Addr, w = some (.ref b) ∧ h0.size ≤ b ∧ OArr Z h b (.object "java/lang/Object") [(.ref r0), (.ref r1), (.ref r2)]) := by
  refine OCt.body (plainFor_of_name pn_8) (ef_54 a) ?_
  intro p e s m below meth c T hby hml hret hnm hsh P
  refine o_aloadN P (hb hby dt29_0) rfl rfl (pc' := 1) rfl ?_
  refine o_getF P (ow hw 103 rfl) Via.refl (F_a.fld 1 rfl) (hb hby dt29_1) (pc' := 4) rfl ?_
  clear P; intro T P
  refine o_aloadN P (hb hby dt29_4) rfl rfl (pc' := 5) rfl ?_
  refine o_getF P (ow hw 112 rfl) Via.refl (F_a.fld 2 rfl) (hb hby dt29_5) (pc' := 8) rfl ?_
  clear P; intro T P
  refine o_callS P (W := 0) (ow hw 174 rfl) (ow hw 175 rfl) (ow hw 176 rfl) (ow hw 177 rfl) (by decide) (ct_cp2_3 l Z a0 hw EL n0 d r0 r1 r2 mir hmir h0 A_d O_d F_r0 F_r1 F_r2) o_sf0 (by rw [hml]; rfl) (by decide) (by decide) (argsL := [(.ref d), (.int (3 : Int32))]) (rest := []) (lenOf pd_14 rfl) rfl rfl (Nat.le_of_eq rfl) (hb hby dt29_8) (pc' := 11) rfl (by decide) (by decide) ?_
  clear P; intro T h1 v1 P K1 q1
  obtain ⟨b, rfl, g1, A'⟩ := q1
  show OG p e below m _ T 11 #[.val (.ref a)] [(.ref b)]
  exact o_retA P hret rfl rfl rfl (hb hby dt29_11) (by decide) (by decide) ⟨b, rfl, g1, A'⟩
theorem ef_55 (x0 : Addr) (m : MethodId) : entryFrame m #[(.ref x0)] 1 = mkF m 0 #[.val (.ref x0)] [] := by first | (simp [entryFrame, mkF, argsToLocals, o_catR, o_catN, o_catI, o_catJ, o_catD]; done) | rfl
set_option maxRecDepth 65536 in
set_option maxHeartbeats 40000000 in
theorem ct_isE_3 (l : Launch) (Z : State) (a0 : Array Value) (hw : ∀ d ∈ tables_1, d.before a0 Z = true) (EL : List (String × Nat)) (n0 : Nat) (a : Addr) (mc : Int32) (d : Addr) (h0 : Heap) (F_a : OObj Z h0 a "java/util/ArrayList" [("java/util/AbstractList", "modCount", "I", (.int mc)), ("java/util/ArrayList", "elementData", "[Ljava/lang/Object;", (.ref d)), ("java/util/ArrayList", "size", "I", (.int (3 : Int32)))]) :
    OCt l Z a0 EL n0 (⟨"java/util/ArrayList", "isEmpty", "()Z"⟩ : MethodName) jdk_38_method_9_code 1 (some .boolean) ({ frames := 0, cells := 0, slots := 0, locals := 0 } : Room) [] #[(.ref a)] h0 [] (fun w vm h => w = some (.int 0) ∧ h = h0) := by
  refine OCt.body (plainFor_of_name pn_8) (ef_55 a) ?_
  intro p e s m below meth c T hby hml hret hnm hsh P
  refine o_aloadN P (hb hby dt30_0) rfl rfl (pc' := 1) rfl ?_
  refine o_getF P (ow hw 112 rfl) Via.refl (F_a.fld 2 rfl) (hb hby dt30_1) (pc' := 4) rfl ?_
  clear P; intro T P
  refine o_if_ne P (hb hby dt30_4) (by decide) (pc' := 11) (by decide) (pcf := 7) rfl (fun _ => ?_) (fun q => absurd q (by decide))
  refine o_iconst P (0 : Int32) (hb hby dt30_11) rfl (pc' := 12) rfl ?_
  exact o_retI P hret (by simp) rfl (hb hby dt30_12) (by decide) (by decide) ⟨rfl, rfl⟩
theorem dt37_0 : decode jdk_56_method_4_code 0 = .ok (.aload_n 0, 1) := by decide +kernel
theorem dt37_1 : decode jdk_56_method_4_code 1 = .ok (.arraylength, 1) := by decide +kernel
theorem dt37_2 : decode jdk_56_method_4_code 2 = .ok (.anewarray 2, 3) := by decide +kernel
theorem dt37_5 : decode jdk_56_method_4_code 5 = .ok (.astore_n 1, 1) := by decide +kernel
theorem dt37_6 : decode jdk_56_method_4_code 6 = .ok (.iconst 0, 1) := by decide +kernel
theorem dt37_7 : decode jdk_56_method_4_code 7 = .ok (.istore_n 2, 1) := by decide +kernel
theorem dt37_8 : decode jdk_56_method_4_code 8 = .ok (.iload_n 2, 1) := by decide +kernel
theorem dt37_9 : decode jdk_56_method_4_code 9 = .ok (.aload_n 0, 1) := by decide +kernel
theorem dt37_10 : decode jdk_56_method_4_code 10 = .ok (.arraylength, 1) := by decide +kernel
theorem dt37_11 : decode jdk_56_method_4_code 11 = .ok (.if_icmp .ge 18, 3) := by decide +kernel
theorem dt37_14 : decode jdk_56_method_4_code 14 = .ok (.aload_n 1, 1) := by decide +kernel
theorem dt37_15 : decode jdk_56_method_4_code 15 = .ok (.iload_n 2, 1) := by decide +kernel
theorem dt37_16 : decode jdk_56_method_4_code 16 = .ok (.aload_n 0, 1) := by decide +kernel
theorem dt37_17 : decode jdk_56_method_4_code 17 = .ok (.iload_n 2, 1) := by decide +kernel
theorem dt37_18 : decode jdk_56_method_4_code 18 = .ok (.aaload, 1) := by decide +kernel
theorem dt37_19 : decode jdk_56_method_4_code 19 = .ok (.invokestatic 37, 3) := by decide +kernel
theorem dt37_22 : decode jdk_56_method_4_code 22 = .ok (.aastore, 1) := by decide +kernel
theorem dt37_23 : decode jdk_56_method_4_code 23 = .ok (.iinc 2 1, 3) := by decide +kernel
theorem dt37_26 : decode jdk_56_method_4_code 26 = .ok (.goto (-18), 3) := by decide +kernel
theorem dt37_29 : decode jdk_56_method_4_code 29 = .ok (.new 12, 3) := by decide +kernel
theorem dt37_32 : decode jdk_56_method_4_code 32 = .ok (.dup, 1) := by decide +kernel
theorem dt37_33 : decode jdk_56_method_4_code 33 = .ok (.aload_n 1, 1) := by decide +kernel
theorem dt37_34 : decode jdk_56_method_4_code 34 = .ok (.iconst 0, 1) := by decide +kernel
theorem dt37_35 : decode jdk_56_method_4_code 35 = .ok (.invokespecial 43, 3) := by decide +kernel
theorem dt37_38 : decode jdk_56_method_4_code 38 = .ok (.areturn, 1) := by decide +kernel
theorem ef_56 (x0 : Addr) (m : MethodId) : entryFrame m #[(.ref x0)] 3 = mkF m 0 #[.val (.ref x0), .unset, .unset] [] := by first | (simp [entryFrame, mkF, argsToLocals, o_catR, o_catN, o_catI, o_catJ, o_catD]; done) | rfl
set_option maxRecDepth 65536 in
set_option maxHeartbeats 40000000 in
theorem ct_lfa_3 (l : Launch) (Z : State) (a0 : Array Value) (hw : ∀ d ∈ tables_1, d.before a0 Z = true) (EL : List (String × Nat)) (n0 : Nat) (b : Addr) (r0 r1 r2 : Addr) (h0 : Heap) (A_b : OArr Z h0 b (.object "java/lang/Object") [(.ref r0), (.ref r1), (.ref r2)]) (F_r0 : OObj Z h0 r0 "com/example/pledgebook/pledgebook/model/LedgerMonth" []) (F_r1 : OObj Z h0 r1 "com/example/pledgebook/pledgebook/model/LedgerMonth" []) (F_r2 : OObj Z h0 r2 "com/example/pledgebook/pledgebook/model/LedgerMonth" []) :
    OCt l Z a0 EL n0 (⟨"java/util/ImmutableCollections", "listFromArray", "([Ljava/lang/Object;)Ljava/util/List;"⟩ : MethodName) jdk_56_method_4_code 3 (some (.object "java/util/List")) ({ frames := 5, cells := 2, slots := 5, locals := 63 } : Room) [] #[(.ref b)] h0 [] (fun w vm h => ∃ g : Addr, w = some (.ref g) ∧ h0.size ≤ g ∧ ∃ ee : Addr, OObj Z h g "java/util/ImmutableCollections$ListN" [("java/util/ImmutableCollections$ListN", "elements", "[Ljava/lang/Object;", (.ref ee)), ("java/util/ImmutableCollections$ListN", "allowNulls", "Z", (.int (0 : Int32)))] ∧ OArr Z h ee (.object "java/lang/Object") [(.ref r0), (.ref r1), (.ref r2)]) := by
  refine OCt.body (plainFor_of_name pn_16) (ef_56 b) ?_
  intro p e s m below meth c T hby hml hret hnm hsh P
  refine o_aloadN P (hb hby dt37_0) rfl rfl (pc' := 1) rfl ?_
  refine o_arrlen P A_b (hb hby dt37_1) (n := (3 : Int32)) rfl (pc' := 2) rfl ?_
  have hz_ee := P.keep0.1
  refine o_anewarrE P (N := "[Ljava/lang/Object;") (cap := 3) (ow hw 202 rfl) (ow hw 134 rfl) (by decide) (hb hby dt37_2) (by decide) (by decide) (by decide) (pc' := 5) rfl (by decide) (by decide) ?_
  clear P; intro T h1 ee P K1 hb_ee A_ee O_ee
  have sz_ee := Nat.le_trans hz_ee hb_ee
  clear hz_ee
  have ne_r0_ee : r0 ≠ ee := Nat.ne_of_lt (Nat.lt_of_lt_of_le F_r0.lt hb_ee)
  have ne_r1_ee : r1 ≠ ee := Nat.ne_of_lt (Nat.lt_of_lt_of_le F_r1.lt hb_ee)
  have ne_r2_ee : r2 ≠ ee := Nat.ne_of_lt (Nat.lt_of_lt_of_le F_r2.lt hb_ee)
  have ne_b_ee : b ≠ ee := Nat.ne_of_lt (Nat.lt_of_lt_of_le A_b.lt hb_ee)
  replace F_r0 := F_r0.keep K1 nin0
  replace F_r1 := F_r1.keep K1 nin0
  replace F_r2 := F_r2.keep K1 nin0
  replace A_b := A_b.keep K1 nin0
  clear K1
  replace A_ee : OArr Z h1 ee (.object "java/lang/Object") [.null, .null, .null] := A_ee
  refine o_astoreN P (hb hby dt37_5) rfl (L' := #[.val (.ref b), .val (.ref ee), .unset]) rfl (pc' := 6) rfl ?_
  refine o_iconst P (0 : Int32) (hb hby dt37_6) rfl (pc' := 7) rfl ?_
  refine o_istoreN P (hb hby dt37_7) (L' := #[.val (.ref b), .val (.ref ee), .val (.int (0 : Int32))]) rfl (pc' := 8) rfl ?_
  refine o_iloadN P (hb hby dt37_8) rfl (pc' := 9) rfl ?_
  refine o_aloadN P (hb hby dt37_9) rfl rfl (pc' := 10) rfl ?_
  refine o_arrlen P A_b (hb hby dt37_10) (n := (3 : Int32)) rfl (pc' := 11) rfl ?_
  refine o_icmp_ge P (hb hby dt37_11) (by decide) (pc' := 29) (by decide) (pcf := 14) rfl (fun q => absurd (by decide) q) (fun _ => ?_)
  refine o_aloadN P (hb hby dt37_14) rfl rfl (pc' := 15) rfl ?_
  refine o_iloadN P (hb hby dt37_15) rfl (pc' := 16) rfl ?_
  refine o_aloadN P (hb hby dt37_16) rfl rfl (pc' := 17) rfl ?_
  refine o_iloadN P (hb hby dt37_17) rfl (pc' := 18) rfl ?_
  refine o_aaload P (v := (.ref r0)) A_b rfl (by decide) rfl (hb hby dt37_18) (pc' := 19) rfl ?_
  refine o_callS P (W := 2) (ow hw 203 rfl) (ow hw 204 rfl) (ow hw 205 rfl) (ow hw 206 rfl) (by decide) (ct_rnn l Z a0 hw EL n0 r0 h1) o_sf0 (by rw [hml]; rfl) (by decide) (by decide) (argsL := [(.ref r0)]) (rest := [(.int (0 : Int32)), (.ref ee)]) (lenOf pd_12 rfl) rfl rfl (Nat.le_of_eq rfl) (hb hby dt37_19) (pc' := 22) rfl (by decide) (by decide) ?_
  clear P; intro T h2 v2 P K2 q2
  obtain ⟨rfl, rfl⟩ := q2; clear K2
  show OG p e below m _ T 22 #[.val (.ref b), .val (.ref ee), .val (.int (0 : Int32))] [(.ref r0), (.int (0 : Int32)), (.ref ee)]
  refine o_aastore P A_ee (List.Mem.head _) rfl (O_ee.sto A_ee (Ins.of_exa F_r0.exa (ow hw 135 rfl))) rfl (by decide) (of_decide_eq_true rfl) (hb hby dt37_22) (pc' := 23) rfl ?_
  clear P; clear A_ee; intro T h3 P W3 A_ee
  replace F_r0 := F_r0.oth W3 ne_r0_ee
  replace F_r1 := F_r1.oth W3 ne_r1_ee
  replace F_r2 := F_r2.oth W3 ne_r2_ee
  replace A_b := A_b.oth W3 ne_b_ee
  replace O_ee := O_ee.keep (Keep.of_wr W3)
  clear W3
  replace A_ee : OArr Z h3 ee (.object "java/lang/Object") [(.ref r0), .null, .null] := A_ee
  refine o_iinc P (1 : Int32) (hb hby dt37_23) rfl rfl (L' := #[.val (.ref b), .val (.ref ee), .val (.int (1 : Int32))]) rfl (pc' := 26) rfl ?_
  refine o_goto P (hb hby dt37_26) (by decide) (pc' := 8) (by decide) ?_
  refine o_iloadN P (hb hby dt37_8) rfl (pc' := 9) rfl ?_
  refine o_aloadN P (hb hby dt37_9) rfl rfl (pc' := 10) rfl ?_
  refine o_arrlen P A_b (hb hby dt37_10) (n := (3 : Int32)) rfl (pc' := 11) rfl ?_
  refine o_icmp_ge P (hb hby dt37_11) (by decide) (pc' := 29) (by decide) (pcf := 14) rfl (fun q => absurd (by decide) q) (fun _ => ?_)
  refine o_aloadN P (hb hby dt37_14) rfl rfl (pc' := 15) rfl ?_
  refine o_iloadN P (hb hby dt37_15) rfl (pc' := 16) rfl ?_
  refine o_aloadN P (hb hby dt37_16) rfl rfl (pc' := 17) rfl ?_
  refine o_iloadN P (hb hby dt37_17) rfl (pc' := 18) rfl ?_
  refine o_aaload P (v := (.ref r1)) A_b rfl (by decide) rfl (hb hby dt37_18) (pc' := 19) rfl ?_
  refine o_callS P (W := 2) (ow hw 203 rfl) (ow hw 204 rfl) (ow hw 205 rfl) (ow hw 206 rfl) (by decide) (ct_rnn l Z a0 hw EL n0 r1 h3) o_sf0 (by rw [hml]; rfl) (by decide) (by decide) (argsL := [(.ref r1)]) (rest := [(.int (1 : Int32)), (.ref ee)]) (lenOf pd_12 rfl) rfl rfl (Nat.le_of_eq rfl) (hb hby dt37_19) (pc' := 22) rfl (by decide) (by decide) ?_
  clear P; intro T h4 v4 P K4 q4
  obtain ⟨rfl, rfl⟩ := q4; clear K4
  show OG p e below m _ T 22 #[.val (.ref b), .val (.ref ee), .val (.int (1 : Int32))] [(.ref r1), (.int (1 : Int32)), (.ref ee)]
  refine o_aastore P A_ee (List.Mem.head _) rfl (O_ee.sto A_ee (Ins.of_exa F_r1.exa (ow hw 135 rfl))) rfl (by decide) (of_decide_eq_true rfl) (hb hby dt37_22) (pc' := 23) rfl ?_
  clear P; clear A_ee; intro T h5 P W5 A_ee
  replace F_r0 := F_r0.oth W5 ne_r0_ee
  replace F_r1 := F_r1.oth W5 ne_r1_ee
  replace F_r2 := F_r2.oth W5 ne_r2_ee
  replace A_b := A_b.oth W5 ne_b_ee
  replace O_ee := O_ee.keep (Keep.of_wr W5)
  clear W5
  replace A_ee : OArr Z h5 ee (.object "java/lang/Object") [(.ref r0), (.ref r1), .null] := A_ee
  refine o_iinc P (1 : Int32) (hb hby dt37_23) rfl rfl (L' := #[.val (.ref b), .val (.ref ee), .val (.int (2 : Int32))]) rfl (pc' := 26) rfl ?_
  refine o_goto P (hb hby dt37_26) (by decide) (pc' := 8) (by decide) ?_
  refine o_iloadN P (hb hby dt37_8) rfl (pc' := 9) rfl ?_
  refine o_aloadN P (hb hby dt37_9) rfl rfl (pc' := 10) rfl ?_
  refine o_arrlen P A_b (hb hby dt37_10) (n := (3 : Int32)) rfl (pc' := 11) rfl ?_
  refine o_icmp_ge P (hb hby dt37_11) (by decide) (pc' := 29) (by decide) (pcf := 14) rfl (fun q => absurd (by decide) q) (fun _ => ?_)
  refine o_aloadN P (hb hby dt37_14) rfl rfl (pc' := 15) rfl ?_
  refine o_iloadN P (hb hby dt37_15) rfl (pc' := 16) rfl ?_
  refine o_aloadN P (hb hby dt37_16) rfl rfl (pc' := 17) rfl ?_
  refine o_iloadN P (hb hby dt37_17) rfl (pc' := 18) rfl ?_
  refine o_aaload P (v := (.ref r2)) A_b rfl (by decide) rfl (hb hby dt37_18) (pc' := 19) rfl ?_
  refine o_callS P (W := 2) (ow hw 203 rfl) (ow hw 204 rfl) (ow hw 205 rfl) (ow hw 206 rfl) (by decide) (ct_rnn l Z a0 hw EL n0 r2 h5) o_sf0 (by rw [hml]; rfl) (by decide) (by decide) (argsL := [(.ref r2)]) (rest := [(.int (2 : Int32)), (.ref ee)]) (lenOf pd_12 rfl) rfl rfl (Nat.le_of_eq rfl) (hb hby dt37_19) (pc' := 22) rfl (by decide) (by decide) ?_
  clear P; intro T h6 v6 P K6 q6
  obtain ⟨rfl, rfl⟩ := q6; clear K6
  show OG p e below m _ T 22 #[.val (.ref b), .val (.ref ee), .val (.int (2 : Int32))] [(.ref r2), (.int (2 : Int32)), (.ref ee)]
  refine o_aastore P A_ee (List.Mem.head _) rfl (O_ee.sto A_ee (Ins.of_exa F_r2.exa (ow hw 135 rfl))) rfl (by decide) (of_decide_eq_true rfl) (hb hby dt37_22) (pc' := 23) rfl ?_
  clear P; clear A_ee; intro T h7 P W7 A_ee
  replace F_r0 := F_r0.oth W7 ne_r0_ee
  replace F_r1 := F_r1.oth W7 ne_r1_ee
  replace F_r2 := F_r2.oth W7 ne_r2_ee
  replace A_b := A_b.oth W7 ne_b_ee
  replace O_ee := O_ee.keep (Keep.of_wr W7)
  clear W7
  replace A_ee : OArr Z h7 ee (.object "java/lang/Object") [(.ref r0), (.ref r1), (.ref r2)] := A_ee
  refine o_iinc P (1 : Int32) (hb hby dt37_23) rfl rfl (L' := #[.val (.ref b), .val (.ref ee), .val (.int (3 : Int32))]) rfl (pc' := 26) rfl ?_
  refine o_goto P (hb hby dt37_26) (by decide) (pc' := 8) (by decide) ?_
  refine o_iloadN P (hb hby dt37_8) rfl (pc' := 9) rfl ?_
  refine o_aloadN P (hb hby dt37_9) rfl rfl (pc' := 10) rfl ?_
  refine o_arrlen P A_b (hb hby dt37_10) (n := (3 : Int32)) rfl (pc' := 11) rfl ?_
  refine o_icmp_ge P (hb hby dt37_11) (by decide) (pc' := 29) (by decide) (pcf := 14) rfl (fun _ => ?_) (fun q => absurd q (by decide))
  have hz_g := P.keep0.1
  refine o_new P [("java/util/ImmutableCollections$ListN", "elements", "[Ljava/lang/Object;", .null), ("java/util/ImmutableCollections$ListN", "allowNulls", "Z", (.int (0 : Int32)))] (ow hw 156 rfl) (ow hw 207 rfl) (ow hw 208 rfl) (OLd.cons (Or.inr (ow hw 228 rfl)) (ty := (.array (.object "java/lang/Object"))) (by decide) rfl (OLd.cons (Or.inr (ow hw 230 rfl)) (ty := .boolean) (by decide) rfl OLd.nil)) (by decide +kernel) (hb hby dt37_29) (pc' := 32) rfl (by decide) (by decide) ?_
  clear P; intro T h8 g P K8 hb_g F_g
  have sz_g := Nat.le_trans hz_g hb_g
  clear hz_g
  have ne_r0_g : r0 ≠ g := Nat.ne_of_lt (Nat.lt_of_lt_of_le F_r0.lt hb_g)
  have ne_r1_g : r1 ≠ g := Nat.ne_of_lt (Nat.lt_of_lt_of_le F_r1.lt hb_g)
  have ne_r2_g : r2 ≠ g := Nat.ne_of_lt (Nat.lt_of_lt_of_le F_r2.lt hb_g)
  have ne_b_g : b ≠ g := Nat.ne_of_lt (Nat.lt_of_lt_of_le A_b.lt hb_g)
  have ne_ee_g : ee ≠ g := Nat.ne_of_lt (Nat.lt_of_lt_of_le A_ee.lt hb_g)
  replace F_r0 := F_r0.keep K8 nin0
  replace F_r1 := F_r1.keep K8 nin0
  replace F_r2 := F_r2.keep K8 nin0
  replace A_b := A_b.keep K8 nin0
  replace A_ee := A_ee.keep K8 nin0
  replace O_ee := O_ee.keep K8
  clear K8
  refine o_dup P (hb hby dt37_32) rfl (pc' := 33) rfl ?_
  refine o_aloadN P (hb hby dt37_33) rfl rfl (pc' := 34) rfl ?_
  refine o_iconst P (0 : Int32) (hb hby dt37_34) rfl (pc' := 35) rfl ?_
  refine o_callIN P (W := 1) (a := g) rfl (ow hw 209 rfl) (ow hw 210 rfl) (ow hw 208 rfl) (ow hw 212 rfl) (by decide) (ct_ln l Z a0 hw EL n0 g ee h8 F_g) (o_sfS (List.Mem.head _) o_sf0) (by rw [hml]; rfl) (by decide) (by decide) (argsL := [(.ref ee), (.int (0 : Int32))]) (rest := [(.ref g)]) (lenOf pd_20 rfl) rfl rfl (Nat.le_of_eq rfl) (hb hby dt37_35) (pc' := 38) rfl (by decide) (by decide) ?_
  clear P; intro T h9 v9 P K9 q9
  obtain ⟨rfl, F'⟩ := q9
  replace A_ee := A_ee.keep K9 (ninS ne_ee_g nin0)
  show OG p e below m _ T 38 #[.val (.ref b), .val (.ref ee), .val (.int (3 : Int32))] [(.ref g)]
  exact o_retA P hret rfl rfl rfl (hb hby dt37_38) (by decide) (by decide) ⟨g, rfl, hsh ▸ sz_g, ee, F', A_ee⟩
theorem ef_57 (x0 : Addr) (m : MethodId) : entryFrame m #[(.ref x0)] 2 = mkF m 0 #[.val (.ref x0), .unset] [] := by first | (simp [entryFrame, mkF, argsToLocals, o_catR, o_catN, o_catI, o_catJ, o_catD]; done) | rfl
set_option maxRecDepth 65536 in
set_option maxHeartbeats 40000000 in
theorem ct_lof_3 (l : Launch) (Z : State) (a0 : Array Value) (hw : ∀ d ∈ tables_1, d.before a0 Z = true) (EL : List (String × Nat)) (n0 : Nat) (b : Addr) (r0 r1 r2 : Addr) (em : Addr) (hem : Sta Z Z.heap "java/util/ImmutableCollections" "EMPTY" "Ljava/lang/Object;" (.ref em)) (Fem : OObj Z Z.heap em "java/lang/Object" []) (h0 : Heap) (A_b : OArr Z h0 b (.object "java/lang/Object") [(.ref r0), (.ref r1), (.ref r2)]) (F_r0 : OObj Z h0 r0 "com/example/pledgebook/pledgebook/model/LedgerMonth" []) (F_r1 : OObj Z h0 r1 "com/example/pledgebook/pledgebook/model/LedgerMonth" []) (F_r2 : OObj Z h0 r2 "com/example/pledgebook/pledgebook/model/LedgerMonth" []) :
    OCt l Z a0 EL n0 (⟨"java/util/List", "of", "([Ljava/lang/Object;)Ljava/util/List;"⟩ : MethodName) jdk_40_method_47_code 2 (some (.object "java/util/List")) ({ frames := 6, cells := 2, slots := 5, locals := 77 } : Room) [] #[(.ref b)] h0 [] (fun w vm h => ∃ g : Addr, w = some (.ref g) ∧ h0.size ≤ g ∧ ∃ ee : Addr, OObj Z h g "java/util/ImmutableCollections$ListN" [("java/util/ImmutableCollections$ListN", "elements", "[Ljava/lang/Object;", (.ref ee)), ("java/util/ImmutableCollections$ListN", "allowNulls", "Z", (.int (0 : Int32)))] ∧ OArr Z h ee (.object "java/lang/Object") [(.ref r0), (.ref r1), (.ref r2)]) := by
  refine OCt.body (plainFor_of_name pn_15) (ef_57 b) ?_
  intro p e s m below meth c T hby hml hret hnm hsh P
  refine o_aloadN P (hb hby dt31_0) rfl rfl (pc' := 1) rfl ?_
  refine o_arrlen P A_b (hb hby dt31_1) (n := (3 : Int32)) rfl (pc' := 2) rfl ?_
  refine o_tsOut P (hb hby dt31_2) (by decide) (by decide) (pc' := 59) rfl ?_
  refine o_aloadN P (hb hby dt31_59) rfl rfl (pc' := 60) rfl ?_
  refine o_callS P (W := 0) (ow hw 199 rfl) (ow hw 200 rfl) (ow hw 149 rfl) (ow hw 201 rfl) (by decide) (ct_lfa_3 l Z a0 hw EL n0 b r0 r1 r2 h0 A_b F_r0 F_r1 F_r2) o_sf0 (by rw [hml]; rfl) (by decide) (by decide) (argsL := [(.ref b)]) (rest := []) (lenOf pd_17 rfl) rfl rfl (Nat.le_of_eq rfl) (hb hby dt31_60) (pc' := 63) rfl (by decide) (by decide) ?_
  clear P; intro T h1 v1 P K1 q1
  obtain ⟨g, rfl, g1, Q'⟩ := q1
  show OG p e below m _ T 63 #[.val (.ref b), .unset] [(.ref g)]
  exact o_retA P hret rfl rfl rfl (hb hby dt31_63) (by decide) (by decide) ⟨g, rfl, g1, Q'⟩
theorem ef_58 (x0 : Addr) (m : MethodId) : entryFrame m #[(.ref x0)] 2 = mkF m 0 #[.val (.ref x0), .unset] [] := by first | (simp [entryFrame, mkF, argsToLocals, o_catR, o_catN, o_catI, o_catJ, o_catD]; done) | rfl
set_option maxRecDepth 65536 in
set_option maxHeartbeats 40000000 in
theorem ct_lcp_3 (l : Launch) (Z : State) (a0 : Array Value) (hw : ∀ d ∈ tables_1, d.before a0 Z = true) (EL : List (String × Nat)) (n0 : Nat) (a : Addr) (mc : Int32) (d : Addr) (r0 r1 r2 : Addr) (mir : Addr) (hmir : OMir Z "[Ljava/lang/Object;" mir) (em : Addr) (hem : Sta Z Z.heap "java/util/ImmutableCollections" "EMPTY" "Ljava/lang/Object;" (.ref em)) (Fem : OObj Z Z.heap em "java/lang/Object" []) (h0 : Heap) (A_d : OArr Z h0 d (.object "java/lang/Object") [(.ref r0), (.ref r1), (.ref r2), .null, .null, .null, .null, .null, .null, .null]) (O_d : OAr Z h0 d "java/lang/Object" "[Ljava/lang/Object;") (F_r0 : OObj Z h0 r0 "com/example/pledgebook/pledgebook/model/LedgerMonth" []) (F_r1 : OObj Z h0 r1 "com/example/pledgebook/pledgebook/model/LedgerMonth" []) (F_r2 : OObj Z h0 r2 "com/example/pledgebook/pledgebook/model/LedgerMonth" []) (F_a : OObj Z h0 a "java/util/ArrayList" [("java/util/AbstractList", "modCount", "I", (.int mc)), ("java/util/ArrayList", "elementData", "[Ljava/lang/Object;", (.ref d)), ("java/util/ArrayList", "size", "I", (.int (3 : Int32)))]) :
    OCt l Z a0 EL n0 (⟨"java/util/ImmutableCollections", "listCopy", "(Ljava/util/Collection;)Ljava/util/List;"⟩ : MethodName) jdk_56_method_3_code 2 (some (.object "java/util/List")) ({ frames := 7, cells := 3, slots := 8, locals := 92 } : Room) [] #[(.ref a)] h0 [] (fun w vm h => ∃ g : Addr, w = some (.ref g) ∧ h0.size ≤ g ∧ ∃ ee : Addr, OObj Z h g "java/util/ImmutableCollections$ListN" [("java/util/ImmutableCollections$ListN", "elements", "[Ljava/lang/Object;", (.ref ee)), ("java/util/ImmutableCollections$ListN", "allowNulls", "Z", (.int (0 : Int32)))] ∧ OArr Z h ee (.object "java/lang/Object") [(.ref r0), (.ref r1), (.ref r2)]) := by
  refine OCt.body (plainFor_of_name pn_16) (ef_58 a) ?_
  intro p e s m below meth c T hby hml hret hnm hsh P
  refine o_aloadN P (hb hby dt32_0) rfl rfl (pc' := 1) rfl ?_
  refine o_instN P (ow hw 151 rfl) F_a.exa (own_no hw "java/util/ImmutableCollections$List12" (.inl rfl)) (hb hby dt32_1) (pc' := 4) rfl ?_
  clear P; intro T P
  refine o_if_ne P (hb hby dt32_4) (by decide) (pc' := 26) (by decide) (pcf := 7) rfl (fun q => absurd (by decide) q) (fun _ => ?_)
  refine o_aloadN P (hb hby dt32_7) rfl rfl (pc' := 8) rfl ?_
  refine o_instN P (ow hw 156 rfl) F_a.exa (own_no hw "java/util/ImmutableCollections$ListN" (.inr rfl)) (hb hby dt32_8) (pc' := 11) rfl ?_
  clear P; intro T P
  refine o_if_eq P (hb hby dt32_11) (by decide) (pc' := 31) (by decide) (pcf := 14) rfl (fun _ => ?_) (fun q => absurd (by decide) q)
  refine o_aloadN P (hb hby dt32_31) rfl rfl (pc' := 32) rfl ?_
  refine o_callF P (W := 0) (x := (⟨"java/util/Collection", "isEmpty", "()Z"⟩ : MethodName)) (y := (⟨"java/util/ArrayList", "isEmpty", "()Z"⟩ : MethodName)) (a := a) (ow hw 157 rfl) (ow hw 158 rfl) (ow hw 159 rfl) (ow hw 160 rfl) (ow hw 161 rfl) (ow hw 162 rfl) (ow hw 163 rfl) (ow hw 164 rfl) (ow hw 83 rfl) (ow hw 165 rfl) (by decide) F_a.exa (ct_isE_3 l Z a0 hw EL n0 a mc d h0 F_a) o_sf0 (by rw [hml]; rfl) (by decide) (by decide) (argsL := []) (rest := []) (lenOf pd_16 rfl) rfl rfl (Nat.le_of_eq rfl) (hb hby dt32_32) (pc' := 37) rfl (by decide) (by decide) ?_
  clear P; intro T h1 v1 P K1 q1
  obtain ⟨rfl, rfl⟩ := q1; clear K1
  show OG p e below m _ T 37 #[.val (.ref a), .unset] [(.int (0 : Int32))]
  refine o_if_eq P (hb hby dt32_37) (by decide) (pc' := 44) (by decide) (pcf := 40) rfl (fun _ => ?_) (fun q => absurd (by decide) q)
  refine o_aloadN P (hb hby dt32_44) rfl rfl (pc' := 45) rfl ?_
  refine o_callF P (W := 0) (x := (⟨"java/util/Collection", "toArray", "()[Ljava/lang/Object;"⟩ : MethodName)) (y := (⟨"java/util/ArrayList", "toArray", "()[Ljava/lang/Object;"⟩ : MethodName)) (a := a) (ow hw 166 rfl) (ow hw 167 rfl) (ow hw 168 rfl) (ow hw 169 rfl) (ow hw 170 rfl) (ow hw 171 rfl) (ow hw 172 rfl) (ow hw 164 rfl) (ow hw 83 rfl) (ow hw 173 rfl) (by decide) F_a.exa (ct_toA_3 l Z a0 hw EL n0 a mc d r0 r1 r2 mir hmir h1 A_d O_d F_r0 F_r1 F_r2 F_a) o_sf0 (by rw [hml]; rfl) (by decide) (by decide) (argsL := []) (rest := []) (lenOf pd_10 rfl) rfl rfl (Nat.le_of_eq rfl) (hb hby dt32_45) (pc' := 50) rfl (by decide) (by decide) ?_
  clear P; intro T h2 v2 P K2 q2
  obtain ⟨b, rfl, g1, A_b⟩ := q2
  have hl1 := K2.1
  replace F_r0 := F_r0.keep K2 nin0
  replace F_r1 := F_r1.keep K2 nin0
  replace F_r2 := F_r2.keep K2 nin0
  show OG p e below m _ T 50 #[.val (.ref a), .unset] [(.ref b)]
  refine o_callS P (W := 0) (ow hw 196 rfl) (ow hw 197 rfl) (ow hw 145 rfl) (ow hw 198 rfl) (by decide) (ct_lof_3 l Z a0 hw EL n0 b r0 r1 r2 em hem Fem h2 A_b F_r0 F_r1 F_r2) o_sf0 (by rw [hml]; rfl) (by decide) (by decide) (argsL := [(.ref b)]) (rest := []) (lenOf pd_17 rfl) rfl rfl (Nat.le_of_eq rfl) (hb hby dt32_50) (pc' := 53) rfl (by decide) (by decide) ?_
  clear P; intro T h3 v3 P K3 q3
  obtain ⟨g, rfl, g2, Q'⟩ := q3
  show OG p e below m _ T 53 #[.val (.ref a), .unset] [(.ref g)]
  exact o_retA P hret rfl rfl rfl (hb hby dt32_53) (by decide) (by decide) ⟨g, rfl, Nat.le_trans hl1 g2, Q'⟩
theorem ef_59 (x0 : Addr) (m : MethodId) : entryFrame m #[(.ref x0)] 1 = mkF m 0 #[.val (.ref x0)] [] := by first | (simp [entryFrame, mkF, argsToLocals, o_catR, o_catN, o_catI, o_catJ, o_catD]; done) | rfl
set_option maxRecDepth 65536 in
set_option maxHeartbeats 40000000 in
theorem ct_lco_3 (l : Launch) (Z : State) (a0 : Array Value) (hw : ∀ d ∈ tables_1, d.before a0 Z = true) (EL : List (String × Nat)) (n0 : Nat) (a : Addr) (mc : Int32) (d : Addr) (r0 r1 r2 : Addr) (mir : Addr) (hmir : OMir Z "[Ljava/lang/Object;" mir) (em : Addr) (hem : Sta Z Z.heap "java/util/ImmutableCollections" "EMPTY" "Ljava/lang/Object;" (.ref em)) (Fem : OObj Z Z.heap em "java/lang/Object" []) (h0 : Heap) (A_d : OArr Z h0 d (.object "java/lang/Object") [(.ref r0), (.ref r1), (.ref r2), .null, .null, .null, .null, .null, .null, .null]) (O_d : OAr Z h0 d "java/lang/Object" "[Ljava/lang/Object;") (F_r0 : OObj Z h0 r0 "com/example/pledgebook/pledgebook/model/LedgerMonth" []) (F_r1 : OObj Z h0 r1 "com/example/pledgebook/pledgebook/model/LedgerMonth" []) (F_r2 : OObj Z h0 r2 "com/example/pledgebook/pledgebook/model/LedgerMonth" []) (F_a : OObj Z h0 a "java/util/ArrayList" [("java/util/AbstractList", "modCount", "I", (.int mc)), ("java/util/ArrayList", "elementData", "[Ljava/lang/Object;", (.ref d)), ("java/util/ArrayList", "size", "I", (.int (3 : Int32)))]) :
    OCt l Z a0 EL n0 (⟨"java/util/List", "copyOf", "(Ljava/util/Collection;)Ljava/util/List;"⟩ : MethodName) jdk_40_method_48_code 1 (some (.object "java/util/List")) ({ frames := 8, cells := 3, slots := 8, locals := 106 } : Room) [] #[(.ref a)] h0 [] (fun w vm h => ∃ g : Addr, w = some (.ref g) ∧ h0.size ≤ g ∧ ∃ ee : Addr, OObj Z h g "java/util/ImmutableCollections$ListN" [("java/util/ImmutableCollections$ListN", "elements", "[Ljava/lang/Object;", (.ref ee)), ("java/util/ImmutableCollections$ListN", "allowNulls", "Z", (.int (0 : Int32)))] ∧ OArr Z h ee (.object "java/lang/Object") [(.ref r0), (.ref r1), (.ref r2)]) := by
  refine OCt.body (plainFor_of_name pn_15) (ef_59 a) ?_
  intro p e s m below meth c T hby hml hret hnm hsh P
  refine o_aloadN P (hb hby dt33_0) rfl rfl (pc' := 1) rfl ?_
  refine o_callS P (W := 0) (ow hw 147 rfl) (ow hw 148 rfl) (ow hw 149 rfl) (ow hw 150 rfl) (by decide) (ct_lcp_3 l Z a0 hw EL n0 a mc d r0 r1 r2 mir hmir em hem Fem h0 A_d O_d F_r0 F_r1 F_r2 F_a) o_sf0 (by rw [hml]; rfl) (by decide) (by decide) (argsL := [(.ref a)]) (rest := []) (lenOf pd_18 rfl) rfl rfl (Nat.le_of_eq rfl) (hb hby dt33_1) (pc' := 4) rfl (by decide) (by decide) ?_
  clear P; intro T h1 v1 P K1 q1
  obtain ⟨g, rfl, g1, Q'⟩ := q1
  show OG p e below m _ T 4 #[.val (.ref a)] [(.ref g)]
  exact o_retA P hret rfl rfl rfl (hb hby dt33_4) (by decide) (by decide) ⟨g, rfl, g1, Q'⟩
theorem ef_60 (x0 : Addr) (x1 : Addr) (m : MethodId) : entryFrame m #[(.ref x0), (.ref x1)] 2 = mkF m 0 #[.val (.ref x0), .val (.ref x1)] [] := by first | (simp [entryFrame, mkF, argsToLocals, o_catR, o_catN, o_catI, o_catJ, o_catD]; done) | rfl
set_option maxRecDepth 65536 in
set_option maxHeartbeats 40000000 in
theorem ct_lei_3 (l : Launch) (Z : State) (a0 : Array Value) (hw : ∀ d ∈ tables_1, d.before a0 Z = true) (EL : List (String × Nat)) (n0 : Nat) (u : Addr) (a : Addr) (mc : Int32) (d : Addr) (r0 r1 r2 : Addr) (mir : Addr) (hmir : OMir Z "[Ljava/lang/Object;" mir) (em : Addr) (hem : Sta Z Z.heap "java/util/ImmutableCollections" "EMPTY" "Ljava/lang/Object;" (.ref em)) (Fem : OObj Z Z.heap em "java/lang/Object" []) (h0 : Heap) (A_d : OArr Z h0 d (.object "java/lang/Object") [(.ref r0), (.ref r1), (.ref r2), .null, .null, .null, .null, .null, .null, .null]) (O_d : OAr Z h0 d "java/lang/Object" "[Ljava/lang/Object;") (F_r0 : OObj Z h0 r0 "com/example/pledgebook/pledgebook/model/LedgerMonth" []) (F_r1 : OObj Z h0 r1 "com/example/pledgebook/pledgebook/model/LedgerMonth" []) (F_r2 : OObj Z h0 r2 "com/example/pledgebook/pledgebook/model/LedgerMonth" []) (F_a : OObj Z h0 a "java/util/ArrayList" [("java/util/AbstractList", "modCount", "I", (.int mc)), ("java/util/ArrayList", "elementData", "[Ljava/lang/Object;", (.ref d)), ("java/util/ArrayList", "size", "I", (.int (3 : Int32)))]) (F_u : OObj Z h0 u "com/example/pledgebook/pledgebook/model/Ledger" [("com/example/pledgebook/pledgebook/model/Ledger", "months", "Ljava/util/List;", .null)]) :
    OCt l Z a0 EL n0 (⟨"com/example/pledgebook/pledgebook/model/Ledger", "<init>", "(Ljava/util/List;)V"⟩ : MethodName) prog_48_method_1_code 2 none ({ frames := 9, cells := 3, slots := 8, locals := 120 } : Room) [] #[(.ref u), (.ref a)] h0 [u] (fun w vm h => w = none ∧ ∃ g : Addr, OObj Z h u "com/example/pledgebook/pledgebook/model/Ledger" [("com/example/pledgebook/pledgebook/model/Ledger", "months", "Ljava/util/List;", (.ref g))] ∧ ∃ ee : Addr, OObj Z h g "java/util/ImmutableCollections$ListN" [("java/util/ImmutableCollections$ListN", "elements", "[Ljava/lang/Object;", (.ref ee)), ("java/util/ImmutableCollections$ListN", "allowNulls", "Z", (.int (0 : Int32)))] ∧ OArr Z h ee (.object "java/lang/Object") [(.ref r0), (.ref r1), (.ref r2)]) := by
  refine OCt.body (plainFor_of_name pn_17) (ef_60 u a) ?_
  intro p e s m below meth c T hby hml hret hnm hsh P
  refine o_aloadN P (hb hby dt34_0) rfl rfl (pc' := 1) rfl ?_
  refine o_callI P (W := 0) (a := u) rfl (ow hw 142 rfl) (ow hw 70 rfl) (ow hw 72 rfl) (ow hw 73 rfl) (by decide) (ct_rec l Z a0 hw EL n0 u h0) o_sf0 (by rw [hml]; rfl) (by decide) (by decide) (argsL := []) (rest := []) (lenOf pd_7 rfl) rfl rfl (Nat.le_of_eq rfl) (hb hby dt34_1) (pc' := 4) rfl (by decide) (by decide) ?_
  clear P; intro T h1 v1 P K1 q1
  obtain ⟨rfl, rfl⟩ := q1; clear K1
  show OG p e below m _ T 4 #[.val (.ref u), .val (.ref a)] []
  refine o_aloadN P (hb hby dt34_4) rfl rfl (pc' := 5) rfl ?_
  refine o_callS P (W := 0) (ow hw 143 rfl) (ow hw 144 rfl) (ow hw 145 rfl) (ow hw 146 rfl) (by decide) (ct_lco_3 l Z a0 hw EL n0 a mc d r0 r1 r2 mir hmir em hem Fem h1 A_d O_d F_r0 F_r1 F_r2 F_a) o_sf0 (by rw [hml]; rfl) (by decide) (by decide) (argsL := [(.ref a)]) (rest := []) (lenOf pd_18 rfl) rfl rfl (Nat.le_of_eq rfl) (hb hby dt34_5) (pc' := 8) rfl (by decide) (by decide) ?_
  clear P; intro T h2 v2 P K2 q2
  obtain ⟨g, rfl, g1, Q'⟩ := q2
  have ne_u_g : u ≠ g := Nat.ne_of_lt (Nat.lt_of_lt_of_le F_u.lt g1)
  replace F_u := F_u.keep K2 nin0
  show OG p e below m _ T 8 #[.val (.ref u), .val (.ref a)] [(.ref g)]
  obtain ⟨ee, F_g, A_ee⟩ := Q'
  have ne_u_ee : u ≠ ee := F_u.neArr (ow hw 137 rfl) A_ee
  refine o_astoreN P (hb hby dt34_8) rfl (L' := #[.val (.ref u), .val (.ref g)]) rfl (pc' := 9) rfl ?_
  refine o_aloadN P (hb hby dt34_9) rfl rfl (pc' := 10) rfl ?_
  refine o_aloadN P (hb hby dt34_10) rfl rfl (pc' := 11) rfl ?_
  refine o_putF P (v' := (.ref g)) (ty := (.object "java/util/List")) (ow hw 231 rfl) Via.refl (F_u.fld 0 rfl) F_u.exa (Or.inr ⟨(ow hw 232 rfl), rfl, hnm⟩) (ow hw 137 rfl) (by decide) rfl rfl (List.Mem.head _) (hb hby dt34_11) (pc' := 14) rfl ?_
  clear P; intro T h3 P W3
  replace F_g := F_g.oth W3 (Ne.symm ne_u_g)
  replace A_ee := A_ee.oth W3 (Ne.symm ne_u_ee)
  replace F_u : OObj Z h3 u "com/example/pledgebook/pledgebook/model/Ledger" [("com/example/pledgebook/pledgebook/model/Ledger", "months", "Ljava/util/List;", (.ref g))] := F_u.put 0 rfl W3
  clear W3
  exact o_ret0 P hret (hb hby dt34_14) (by decide) (by decide) ⟨rfl, g, F_u, ee, F_g, A_ee⟩
theorem dt38_0 : decode jdk_45_method_3_code 0 = .ok (.aload_n 0, 1) := by decide +kernel
theorem dt38_1 : decode jdk_45_method_3_code 1 = .ok (.getfield 7, 3) := by decide +kernel
theorem dt38_4 : decode jdk_45_method_3_code 4 = .ok (.arraylength, 1) := by decide +kernel
theorem dt38_5 : decode jdk_45_method_3_code 5 = .ok (.ireturn, 1) := by decide +kernel
theorem ef_61 (x0 : Addr) (m : MethodId) : entryFrame m #[(.ref x0)] 1 = mkF m 0 #[.val (.ref x0)] [] := by first | (simp [entryFrame, mkF, argsToLocals, o_catR, o_catN, o_catI, o_catJ, o_catD]; done) | rfl
set_option maxRecDepth 65536 in
set_option maxHeartbeats 40000000 in
theorem ct_siz_3 (l : Launch) (Z : State) (a0 : Array Value) (hw : ∀ d ∈ tables_1, d.before a0 Z = true) (EL : List (String × Nat)) (n0 : Nat) (g r0 r1 r2 : Addr) (em : Addr) (hem : Sta Z Z.heap "java/util/ImmutableCollections" "EMPTY" "Ljava/lang/Object;" (.ref em)) (Fem : OObj Z Z.heap em "java/lang/Object" []) (h0 : Heap) (ee : Addr) (F_g : OObj Z h0 g "java/util/ImmutableCollections$ListN" [("java/util/ImmutableCollections$ListN", "elements", "[Ljava/lang/Object;", (.ref ee)), ("java/util/ImmutableCollections$ListN", "allowNulls", "Z", (.int (0 : Int32)))]) (A_ee : OArr Z h0 ee (.object "java/lang/Object") [(.ref r0), (.ref r1), (.ref r2)]) :
    OCt l Z a0 EL n0 (⟨"java/util/ImmutableCollections$ListN", "size", "()I"⟩ : MethodName) jdk_45_method_3_code 1 (some .int) ({ frames := 0, cells := 0, slots := 0, locals := 0 } : Room) [] #[(.ref g)] h0 [] (fun w vm h => w = some (.int 3) ∧ h = h0) := by
  refine OCt.body (plainFor_of_name pn_13) (ef_61 g) ?_
  intro p e s m below meth c T hby hml hret hnm hsh P
  refine o_aloadN P (hb hby dt38_0) rfl rfl (pc' := 1) rfl ?_
  refine o_getF P (ow hw 227 rfl) Via.refl (F_g.fld 0 rfl) (hb hby dt38_1) (pc' := 4) rfl ?_
  clear P; intro T P
  refine o_arrlen P A_ee (hb hby dt38_4) (n := (3 : Int32)) rfl (pc' := 5) rfl ?_
  exact o_retI P hret (by simp) rfl (hb hby dt38_5) (by decide) (by decide) ⟨rfl, rfl⟩
theorem dt39_0 : decode jdk_45_method_4_code 0 = .ok (.aload_n 0, 1) := by decide +kernel
theorem dt39_1 : decode jdk_45_method_4_code 1 = .ok (.getfield 7, 3) := by decide +kernel
theorem dt39_4 : decode jdk_45_method_4_code 4 = .ok (.iload_n 1, 1) := by decide +kernel
theorem dt39_5 : decode jdk_45_method_4_code 5 = .ok (.aaload, 1) := by decide +kernel
theorem dt39_6 : decode jdk_45_method_4_code 6 = .ok (.areturn, 1) := by decide +kernel
theorem ef_62 (x0 : Addr) (x1 : Int32) (m : MethodId) : entryFrame m #[(.ref x0), (.int x1)] 2 = mkF m 0 #[.val (.ref x0), .val (.int x1)] [] := by first | (simp [entryFrame, mkF, argsToLocals, o_catR, o_catN, o_catI, o_catJ, o_catD]; done) | rfl
set_option maxRecDepth 65536 in
set_option maxHeartbeats 40000000 in
theorem ct_get_3 (l : Launch) (Z : State) (a0 : Array Value) (hw : ∀ d ∈ tables_1, d.before a0 Z = true) (EL : List (String × Nat)) (n0 : Nat) (g r0 r1 r2 : Addr) (em : Addr) (hem : Sta Z Z.heap "java/util/ImmutableCollections" "EMPTY" "Ljava/lang/Object;" (.ref em)) (Fem : OObj Z Z.heap em "java/lang/Object" []) (h0 : Heap) (ee : Addr) (F_g : OObj Z h0 g "java/util/ImmutableCollections$ListN" [("java/util/ImmutableCollections$ListN", "elements", "[Ljava/lang/Object;", (.ref ee)), ("java/util/ImmutableCollections$ListN", "allowNulls", "Z", (.int (0 : Int32)))]) (A_ee : OArr Z h0 ee (.object "java/lang/Object") [(.ref r0), (.ref r1), (.ref r2)]) :
    OCt l Z a0 EL n0 (⟨"java/util/ImmutableCollections$ListN", "get", "(I)Ljava/lang/Object;"⟩ : MethodName) jdk_45_method_4_code 2 (some (.object "java/lang/Object")) ({ frames := 0, cells := 0, slots := 0, locals := 0 } : Room) [] #[(.ref g), (.int (2 : Int32))] h0 [] (fun w vm h => w = some (.ref r2) ∧ h = h0) := by
  refine OCt.body (plainFor_of_name pn_13) (ef_62 g ((2 : Int32))) ?_
  intro p e s m below meth c T hby hml hret hnm hsh P
  refine o_aloadN P (hb hby dt39_0) rfl rfl (pc' := 1) rfl ?_
  refine o_getF P (ow hw 227 rfl) Via.refl (F_g.fld 0 rfl) (hb hby dt39_1) (pc' := 4) rfl ?_
  clear P; intro T P
  refine o_iloadN P (hb hby dt39_4) rfl (pc' := 5) rfl ?_
  refine o_aaload P (v := (.ref r2)) A_ee rfl (by decide) rfl (hb hby dt39_5) (pc' := 6) rfl ?_
  exact o_retA P hret rfl rfl rfl (hb hby dt39_6) (by decide) (by decide) ⟨rfl, rfl⟩
theorem ef_63 (x0 : Int32) (x1 : Int32) (m : MethodId) : entryFrame m #[(.int x0), (.int x1)] 2 = mkF m 0 #[.val (.int x0), .val (.int x1)] [] := by first | (simp [entryFrame, mkF, argsToLocals, o_catR, o_catN, o_catI, o_catJ, o_catD]; done) | rfl
set_option maxRecDepth 65536 in
set_option maxHeartbeats 40000000 in
theorem ct_min4 (l : Launch) (Z : State) (a0 : Array Value) (hw : ∀ d ∈ tables_1, d.before a0 Z = true) (EL : List (String × Nat)) (n0 : Nat) (h0 : Heap) :
    OCt l Z a0 EL n0 (⟨"java/lang/Math", "min", "(II)I"⟩ : MethodName) jdk_29_method_69_code 2 (some .int) ({ frames := 0, cells := 0, slots := 0, locals := 0 } : Room) [] #[(.int (10 : Int32)), (.int (4 : Int32))] h0 [] (fun w vm h => w = some (.int 4) ∧ h = h0) := by
  refine OCt.body (Jvm.Free.JP.mathPlain rfl (by decide +kernel)) (ef_63 ((10 : Int32)) ((4 : Int32))) ?_
  intro p e s m below meth c T hby hml hret hnm hsh P
  refine o_iloadN P (hb hby dt26_0) rfl (pc' := 1) rfl ?_
  refine o_iloadN P (hb hby dt26_1) rfl (pc' := 2) rfl ?_
  refine o_icmp_gt P (hb hby dt26_2) (by decide) (pc' := 9) (by decide) (pcf := 5) rfl (fun _ => ?_) (fun q => absurd (by decide) q)
  refine o_iloadN P (hb hby dt26_9) rfl (pc' := 10) rfl ?_
  exact o_retI P hret (by simp) rfl (hb hby dt26_10) (by decide) (by decide) ⟨rfl, rfl⟩
theorem ef_64 (x0 : Addr) (x1 : Int32) (x2 : Addr) (m : MethodId) : entryFrame m #[(.ref x0), (.int x1), (.ref x2)] 4 = mkF m 0 #[.val (.ref x0), .val (.int x1), .val (.ref x2), .unset] [] := by first | (simp [entryFrame, mkF, argsToLocals, o_catR, o_catN, o_catI, o_catJ, o_catD]; done) | rfl
set_option maxRecDepth 65536 in
set_option maxHeartbeats 40000000 in
theorem ct_cp3_4 (l : Launch) (Z : State) (a0 : Array Value) (hw : ∀ d ∈ tables_1, d.before a0 Z = true) (EL : List (String × Nat)) (n0 : Nat) (d : Addr) (r0 r1 r2 r3 : Addr) (mir : Addr) (hmir : OMir Z "[Ljava/lang/Object;" mir) (h0 : Heap) (A_d : OArr Z h0 d (.object "java/lang/Object") [(.ref r0), (.ref r1), (.ref r2), (.ref r3), .null, .null, .null, .null, .null, .null]) (F_r0 : OObj Z h0 r0 "com/example/pledgebook/pledgebook/model/LedgerMonth" []) (F_r1 : OObj Z h0 r1 "com/example/pledgebook/pledgebook/model/LedgerMonth" []) (F_r2 : OObj Z h0 r2 "com/example/pledgebook/pledgebook/model/LedgerMonth" []) (F_r3 : OObj Z h0 r3 "com/example/pledgebook/pledgebook/model/LedgerMonth" []) :
    OCt l Z a0 EL n0 (⟨"java/util/Arrays", "copyOf", "([Ljava/lang/Object;ILjava/lang/Class;)[Ljava/lang/Object;"⟩ : MethodName) jdk_65_method_120_code 4 (some (.array (.object "java/lang/Object"))) ({ frames := 1, cells := 1, slots := 4, locals := 18 } : Room) [] #[(.ref d), (.int (4 : Int32)), (.ref mir)] h0 [] (fun w vm h => ∃ b : Addr, w = some (.ref b) ∧ h0.size ≤ b ∧ OArr Z h b (.object "java/lang/Object") [(.ref r0), (.ref r1), (.ref r2), (.ref r3)]) := by
  refine OCt.body (plainFor_of_name pn_14) (ef_64 d ((4 : Int32)) mir) ?_
  intro p e s m below meth c T hby hml hret hnm hsh P
  refine o_aloadN P (hb hby dt27_0) rfl rfl (pc' := 1) rfl ?_
  refine o_ldcMir P hmir (ow hw 187 rfl) (hb hby dt27_1) (pc' := 3) rfl ?_
  clear P; intro T P
  refine o_acmp P true (hb hby dt27_3) rfl rfl (decide_eq_true rfl) (by decide) (pc' := 6) rfl ?_
  refine o_iloadN P (hb hby dt27_6) rfl (pc' := 7) rfl ?_
  have hz_b := P.keep0.1
  refine o_anewarrE P (N := "[Ljava/lang/Object;") (cap := 4) (ow hw 188 rfl) (ow hw 134 rfl) (by decide) (hb hby dt27_7) (by decide) (by decide) (by decide) (pc' := 10) rfl (by decide) (by decide) ?_
  clear P; intro T h1 b P K1 hb_b A_b O_b
  have sz_b := Nat.le_trans hz_b hb_b
  clear hz_b
  have ne_r0_b : r0 ≠ b := Nat.ne_of_lt (Nat.lt_of_lt_of_le F_r0.lt hb_b)
  have ne_r1_b : r1 ≠ b := Nat.ne_of_lt (Nat.lt_of_lt_of_le F_r1.lt hb_b)
  have ne_r2_b : r2 ≠ b := Nat.ne_of_lt (Nat.lt_of_lt_of_le F_r2.lt hb_b)
  have ne_r3_b : r3 ≠ b := Nat.ne_of_lt (Nat.lt_of_lt_of_le F_r3.lt hb_b)
  have ne_d_b : d ≠ b := Nat.ne_of_lt (Nat.lt_of_lt_of_le A_d.lt hb_b)
  replace F_r0 := F_r0.keep K1 nin0
  replace F_r1 := F_r1.keep K1 nin0
  replace F_r2 := F_r2.keep K1 nin0
  replace F_r3 := F_r3.keep K1 nin0
  replace A_d := A_d.keep K1 nin0
  clear K1
  replace A_b : OArr Z h1 b (.object "java/lang/Object") [.null, .null, .null, .null] := A_b
  refine o_goto P (hb hby dt27_10) (by decide) (pc' := 24) (by decide) ?_
  refine o_astoreN P (hb hby dt27_24) rfl (L' := #[.val (.ref d), .val (.int (4 : Int32)), .val (.ref mir), .val (.ref b)]) rfl (pc' := 25) rfl ?_
  refine o_aloadN P (hb hby dt27_25) rfl rfl (pc' := 26) rfl ?_
  refine o_iconst P (0 : Int32) (hb hby dt27_26) rfl (pc' := 27) rfl ?_
  refine o_aloadN P (hb hby dt27_27) rfl rfl (pc' := 28) rfl ?_
  refine o_iconst P (0 : Int32) (hb hby dt27_28) rfl (pc' := 29) rfl ?_
  refine o_aloadN P (hb hby dt27_29) rfl rfl (pc' := 30) rfl ?_
  refine o_arrlen P A_d (hb hby dt27_30) (n := (10 : Int32)) rfl (pc' := 31) rfl ?_
  refine o_iloadN P (hb hby dt27_31) rfl (pc' := 32) rfl ?_
  refine o_callS P (W := 4) (ow hw 189 rfl) (ow hw 190 rfl) (ow hw 131 rfl) (ow hw 191 rfl) (by decide) (ct_min4 l Z a0 hw EL n0 h1) o_sf0 (by rw [hml]; rfl) (by decide) (by decide) (argsL := [(.int (10 : Int32)), (.int (4 : Int32))]) (rest := [(.int (0 : Int32)), (.ref b), (.int (0 : Int32)), (.ref d)]) (lenOf pd_8 rfl) rfl rfl (Nat.le_of_eq rfl) (hb hby dt27_32) (pc' := 35) rfl (by decide) (by decide) ?_
  clear P; intro T h2 v2 P K2 q2
  obtain ⟨rfl, rfl⟩ := q2; clear K2
  show OG p e below m _ T 35 #[.val (.ref d), .val (.int (4 : Int32)), .val (.ref mir), .val (.ref b)] [(.int (4 : Int32)), (.int (0 : Int32)), (.ref b), (.int (0 : Int32)), (.ref d)]
  refine o_cpA P (W := 0) (us := [(.ref r0), (.ref r1), (.ref r2), (.ref r3)]) (ow hw 192 rfl) (ow hw 195 rfl) (ow hw 193 rfl) (ow hw 194 rfl) A_d A_b (List.Mem.head _) (Or.inr ⟨rfl, rfl, ⟨(O_b.sto A_b (Ins.of_exa F_r0.exa (ow hw 135 rfl))), ⟨(O_b.sto A_b (Ins.of_exa F_r1.exa (ow hw 135 rfl))), ⟨(O_b.sto A_b (Ins.of_exa F_r2.exa (ow hw 135 rfl))), ⟨(O_b.sto A_b (Ins.of_exa F_r3.exa (ow hw 135 rfl))), trivial⟩⟩⟩⟩⟩) (by decide) (by decide) (by decide) (of_decide_eq_true rfl) (of_decide_eq_true rfl) rfl (by rw [hml]; rfl) (by decide) (by decide) (by decide) (hb hby dt27_35) (pc' := 38) rfl ?_
  clear P; intro T h3 P K3 A'
  replace A_b : OArr Z h3 b (.object "java/lang/Object") [(.ref r0), (.ref r1), (.ref r2), (.ref r3)] := A'
  refine o_aloadN P (hb hby dt27_38) rfl rfl (pc' := 39) rfl ?_
  exact o_retA P hret rfl rfl rfl (hb hby dt27_39) (by decide) (by decide) ⟨b, rfl, hsh ▸ sz_b, A_b⟩
theorem ef_65 (x0 : Addr) (x1 : Int32) (m : MethodId) : entryFrame m #[(.ref x0), (.int x1)] 2 = mkF m 0 #[.val (.ref x0), .val (.int x1)] [] := by first | (simp [entryFrame, mkF, argsToLocals, o_catR, o_catN, o_catI, o_catJ, o_catD]; done) | rfl
set_option maxRecDepth 65536 in
set_option maxHeartbeats 40000000 in
theorem ct_cp2_4 (l : Launch) (Z : State) (a0 : Array Value) (hw : ∀ d ∈ tables_1, d.before a0 Z = true) (EL : List (String × Nat)) (n0 : Nat) (d : Addr) (r0 r1 r2 r3 : Addr) (mir : Addr) (hmir : OMir Z "[Ljava/lang/Object;" mir) (h0 : Heap) (A_d : OArr Z h0 d (.object "java/lang/Object") [(.ref r0), (.ref r1), (.ref r2), (.ref r3), .null, .null, .null, .null, .null, .null]) (O_d : OAr Z h0 d "java/lang/Object" "[Ljava/lang/Object;") (F_r0 : OObj Z h0 r0 "com/example/pledgebook/pledgebook/model/LedgerMonth" []) (F_r1 : OObj Z h0 r1 "com/example/pledgebook/pledgebook/model/LedgerMonth" []) (F_r2 : OObj Z h0 r2 "com/example/pledgebook/pledgebook/model/LedgerMonth" []) (F_r3 : OObj Z h0 r3 "com/example/pledgebook/pledgebook/model/LedgerMonth" []) :
    OCt l Z a0 EL n0 (⟨"java/util/Arrays", "copyOf", "([Ljava/lang/Object;I)[Ljava/lang/Object;"⟩ : MethodName) jdk_65_method_119_code 2 (some (.array (.object "java/lang/Object"))) ({ frames := 2, cells := 1, slots := 4, locals := 33 } : Room) [] #[(.ref d), (.int (4 : Int32))] h0 [] (fun w vm h => ∃ b : Addr, w = some (.ref b) ∧ h0.size ≤ b ∧ OArr Z h b (.object "java/lang/Object") [(.ref r0), (.ref r1), (.ref r2), (.ref r3)]) := by
  refine OCt.body (plainFor_of_name pn_14) (ef_65 d ((4 : Int32))) ?_
  intro p e s m below meth c T hby hml hret hnm hsh P
  refine o_aloadN P (hb hby dt28_0) rfl rfl (pc' := 1) rfl ?_
  refine o_iloadN P (hb hby dt28_1) rfl (pc' := 2) rfl ?_
  refine o_aloadN P (hb hby dt28_2) rfl rfl (pc' := 3) rfl ?_
  refine o_getCls P (W := 2) hmir O_d.1 (ow hw 178 rfl) (ow hw 179 rfl) (o_nfTop (ow hw 155 rfl)) (ow hw 181 rfl) (ow hw 180 rfl) (ow hw 182 rfl) (by rw [hml]; rfl) (by decide) (Nat.le_of_eq rfl) (by decide) (hb hby dt28_3) (pc' := 6) rfl ?_
  clear P; intro T P
  refine o_callS P (W := 0) (ow hw 184 rfl) (ow hw 185 rfl) (ow hw 176 rfl) (ow hw 186 rfl) (by decide) (ct_cp3_4 l Z a0 hw EL n0 d r0 r1 r2 r3 mir hmir h0 A_d F_r0 F_r1 F_r2 F_r3) o_sf0 (by rw [hml]; rfl) (by decide) (by decide) (argsL := [(.ref d), (.int (4 : Int32)), (.ref mir)]) (rest := []) (lenOf pd_13 rfl) rfl rfl (Nat.le_of_eq rfl) (hb hby dt28_6) (pc' := 9) rfl (by decide) (by decide) ?_
  clear P; intro T h1 v1 P K1 q1
  obtain ⟨b, rfl, g1, A'⟩ := q1
  show OG p e below m _ T 9 #[.val (.ref d), .val (.int (4 : Int32))] [(.ref b)]
  exact o_retA P hret rfl rfl rfl (hb hby dt28_9) (by decide) (by decide) ⟨b, rfl, g1, A'⟩
theorem ef_66 (x0 : Addr) (m : MethodId) : entryFrame m #[(.ref x0)] 1 = mkF m 0 #[.val (.ref x0)] [] := by first | (simp [entryFrame, mkF, argsToLocals, o_catR, o_catN, o_catI, o_catJ, o_catD]; done) | rfl
set_option maxRecDepth 65536 in
set_option maxHeartbeats 40000000 in
theorem ct_toA_4 (l : Launch) (Z : State) (a0 : Array Value) (hw : ∀ d ∈ tables_1, d.before a0 Z = true) (EL : List (String × Nat)) (n0 : Nat) (a : Addr) (mc : Int32) (d : Addr) (r0 r1 r2 r3 : Addr) (mir : Addr) (hmir : OMir Z "[Ljava/lang/Object;" mir) (h0 : Heap) (A_d : OArr Z h0 d (.object "java/lang/Object") [(.ref r0), (.ref r1), (.ref r2), (.ref r3), .null, .null, .null, .null, .null, .null]) (O_d : OAr Z h0 d "java/lang/Object" "[Ljava/lang/Object;") (F_r0 : OObj Z h0 r0 "com/example/pledgebook/pledgebook/model/LedgerMonth" []) (F_r1 : OObj Z h0 r1 "com/example/pledgebook/pledgebook/model/LedgerMonth" []) (F_r2 : OObj Z h0 r2 "com/example/pledgebook/pledgebook/model/LedgerMonth" []) (F_r3 : OObj Z h0 r3 "com/example/pledgebook/pledgebook/model/LedgerMonth" []) (F_a : OObj Z h0 a "java/util/ArrayList" [("java/util/AbstractList", "modCount", "I", (.int mc)), ("java/util/ArrayList", "elementData", "[Ljava/lang/Object;", (.ref d)), ("java/util/ArrayList", "size", "I", (.int (4 : Int32)))]) :
    OCt l Z a0 EL n0 (⟨"java/util/ArrayList", "toArray", "()[Ljava/lang/Object;"⟩ : MethodName) jdk_38_method_16_code 1 (some (.array (.object "java/lang/Object"))) ({ frames := 3, cells := 1, slots := 4, locals := 46 } : Room) [] #[(.ref a)] h0 [] (fun w vm h => ∃ b : Addr, w = some (.ref b) ∧ h0.size ≤ b ∧ OArr Z h b (.object "java/lang/Object") [(.ref r0), (.ref r1), (.ref r2), (.ref r3)]) := by
  refine OCt.body (plainFor_of_name pn_8) (ef_66 a) ?_
  intro p e s m below meth c T hby hml hret hnm hsh P
  refine o_aloadN P (hb hby dt29_0) rfl rfl (pc' := 1) rfl ?_
  refine o_getF P (ow hw 103 rfl) Via.refl (F_a.fld 1 rfl) (hb hby dt29_1) (pc' := 4) rfl ?_
  clear P; intro T P
  refine o_aloadN P (hb hby dt29_4) rfl rfl (pc' := 5) rfl ?_
  refine o_getF P (ow hw 112 rfl) Via.refl (F_a.fld 2 rfl) (hb hby dt29_5) (pc' := 8) rfl ?_
  clear P; intro T P
  refine o_callS P (W := 0) (ow hw 174 rfl) (ow hw 175 rfl) (ow hw 176 rfl) (ow hw 177 rfl) (by decide) (ct_cp2_4 l Z a0 hw EL n0 d r0 r1 r2 r3 mir hmir h0 A_d O_d F_r0 F_r1 F_r2 F_r3) o_sf0 (by rw [hml]; rfl) (by decide) (by decide) (argsL := [(.ref d), (.int (4 : Int32))]) (rest := []) (lenOf pd_14 rfl) rfl rfl (Nat.le_of_eq rfl) (hb hby dt29_8) (pc' := 11) rfl (by decide) (by decide) ?_
  clear P; intro T h1 v1 P K1 q1
  obtain ⟨b, rfl, g1, A'⟩ := q1
  show OG p e below m _ T 11 #[.val (.ref a)] [(.ref b)]
  exact o_retA P hret rfl rfl rfl (hb hby dt29_11) (by decide) (by decide) ⟨b, rfl, g1, A'⟩
theorem ef_67 (x0 : Addr) (m : MethodId) : entryFrame m #[(.ref x0)] 1 = mkF m 0 #[.val (.ref x0)] [] := by first | (simp [entryFrame, mkF, argsToLocals, o_catR, o_catN, o_catI, o_catJ, o_catD]; done) | rfl
set_option maxRecDepth 65536 in
set_option maxHeartbeats 40000000 in
theorem ct_isE_4 (l : Launch) (Z : State) (a0 : Array Value) (hw : ∀ d ∈ tables_1, d.before a0 Z = true) (EL : List (String × Nat)) (n0 : Nat) (a : Addr) (mc : Int32) (d : Addr) (h0 : Heap) (F_a : OObj Z h0 a "java/util/ArrayList" [("java/util/AbstractList", "modCount", "I", (.int mc)), ("java/util/ArrayList", "elementData", "[Ljava/lang/Object;", (.ref d)), ("java/util/ArrayList", "size", "I", (.int (4 : Int32)))]) :
    OCt l Z a0 EL n0 (⟨"java/util/ArrayList", "isEmpty", "()Z"⟩ : MethodName) jdk_38_method_9_code 1 (some .boolean) ({ frames := 0, cells := 0, slots := 0, locals := 0 } : Room) [] #[(.ref a)] h0 [] (fun w vm h => w = some (.int 0) ∧ h = h0) := by
  refine OCt.body (plainFor_of_name pn_8) (ef_67 a) ?_
  intro p e s m below meth c T hby hml hret hnm hsh P
  refine o_aloadN P (hb hby dt30_0) rfl rfl (pc' := 1) rfl ?_
  refine o_getF P (ow hw 112 rfl) Via.refl (F_a.fld 2 rfl) (hb hby dt30_1) (pc' := 4) rfl ?_
  clear P; intro T P
  refine o_if_ne P (hb hby dt30_4) (by decide) (pc' := 11) (by decide) (pcf := 7) rfl (fun _ => ?_) (fun q => absurd q (by decide))
  refine o_iconst P (0 : Int32) (hb hby dt30_11) rfl (pc' := 12) rfl ?_
  exact o_retI P hret (by simp) rfl (hb hby dt30_12) (by decide) (by decide) ⟨rfl, rfl⟩
theorem ef_68 (x0 : Addr) (m : MethodId) : entryFrame m #[(.ref x0)] 3 = mkF m 0 #[.val (.ref x0), .unset, .unset] [] := by first | (simp [entryFrame, mkF, argsToLocals, o_catR, o_catN, o_catI, o_catJ, o_catD]; done) | rfl
set_option maxRecDepth 65536 in
set_option maxHeartbeats 40000000 in
theorem ct_lfa_4 (l : Launch) (Z : State) (a0 : Array Value) (hw : ∀ d ∈ tables_1, d.before a0 Z = true) (EL : List (String × Nat)) (n0 : Nat) (b : Addr) (r0 r1 r2 r3 : Addr) (h0 : Heap) (A_b : OArr Z h0 b (.object "java/lang/Object") [(.ref r0), (.ref r1), (.ref r2), (.ref r3)]) (F_r0 : OObj Z h0 r0 "com/example/pledgebook/pledgebook/model/LedgerMonth" []) (F_r1 : OObj Z h0 r1 "com/example/pledgebook/pledgebook/model/LedgerMonth" []) (F_r2 : OObj Z h0 r2 "com/example/pledgebook/pledgebook/model/LedgerMonth" []) (F_r3 : OObj Z h0 r3 "com/example/pledgebook/pledgebook/model/LedgerMonth" []) :
    OCt l Z a0 EL n0 (⟨"java/util/ImmutableCollections", "listFromArray", "([Ljava/lang/Object;)Ljava/util/List;"⟩ : MethodName) jdk_56_method_4_code 3 (some (.object "java/util/List")) ({ frames := 5, cells := 2, slots := 6, locals := 63 } : Room) [] #[(.ref b)] h0 [] (fun w vm h => ∃ g : Addr, w = some (.ref g) ∧ h0.size ≤ g ∧ ∃ ee : Addr, OObj Z h g "java/util/ImmutableCollections$ListN" [("java/util/ImmutableCollections$ListN", "elements", "[Ljava/lang/Object;", (.ref ee)), ("java/util/ImmutableCollections$ListN", "allowNulls", "Z", (.int (0 : Int32)))] ∧ OArr Z h ee (.object "java/lang/Object") [(.ref r0), (.ref r1), (.ref r2), (.ref r3)]) := by
  refine OCt.body (plainFor_of_name pn_16) (ef_68 b) ?_
  intro p e s m below meth c T hby hml hret hnm hsh P
  refine o_aloadN P (hb hby dt37_0) rfl rfl (pc' := 1) rfl ?_
  refine o_arrlen P A_b (hb hby dt37_1) (n := (4 : Int32)) rfl (pc' := 2) rfl ?_
  have hz_ee := P.keep0.1
  refine o_anewarrE P (N := "[Ljava/lang/Object;") (cap := 4) (ow hw 202 rfl) (ow hw 134 rfl) (by decide) (hb hby dt37_2) (by decide) (by decide) (by decide) (pc' := 5) rfl (by decide) (by decide) ?_
  clear P; intro T h1 ee P K1 hb_ee A_ee O_ee
  have sz_ee := Nat.le_trans hz_ee hb_ee
  clear hz_ee
  have ne_r0_ee : r0 ≠ ee := Nat.ne_of_lt (Nat.lt_of_lt_of_le F_r0.lt hb_ee)
  have ne_r1_ee : r1 ≠ ee := Nat.ne_of_lt (Nat.lt_of_lt_of_le F_r1.lt hb_ee)
  have ne_r2_ee : r2 ≠ ee := Nat.ne_of_lt (Nat.lt_of_lt_of_le F_r2.lt hb_ee)
  have ne_r3_ee : r3 ≠ ee := Nat.ne_of_lt (Nat.lt_of_lt_of_le F_r3.lt hb_ee)
  have ne_b_ee : b ≠ ee := Nat.ne_of_lt (Nat.lt_of_lt_of_le A_b.lt hb_ee)
  replace F_r0 := F_r0.keep K1 nin0
  replace F_r1 := F_r1.keep K1 nin0
  replace F_r2 := F_r2.keep K1 nin0
  replace F_r3 := F_r3.keep K1 nin0
  replace A_b := A_b.keep K1 nin0
  clear K1
  replace A_ee : OArr Z h1 ee (.object "java/lang/Object") [.null, .null, .null, .null] := A_ee
  refine o_astoreN P (hb hby dt37_5) rfl (L' := #[.val (.ref b), .val (.ref ee), .unset]) rfl (pc' := 6) rfl ?_
  refine o_iconst P (0 : Int32) (hb hby dt37_6) rfl (pc' := 7) rfl ?_
  refine o_istoreN P (hb hby dt37_7) (L' := #[.val (.ref b), .val (.ref ee), .val (.int (0 : Int32))]) rfl (pc' := 8) rfl ?_
  refine o_iloadN P (hb hby dt37_8) rfl (pc' := 9) rfl ?_
  refine o_aloadN P (hb hby dt37_9) rfl rfl (pc' := 10) rfl ?_
  refine o_arrlen P A_b (hb hby dt37_10) (n := (4 : Int32)) rfl (pc' := 11) rfl ?_
  refine o_icmp_ge P (hb hby dt37_11) (by decide) (pc' := 29) (by decide) (pcf := 14) rfl (fun q => absurd (by decide) q) (fun _ => ?_)
  refine o_aloadN P (hb hby dt37_14) rfl rfl (pc' := 15) rfl ?_
  refine o_iloadN P (hb hby dt37_15) rfl (pc' := 16) rfl ?_
  refine o_aloadN P (hb hby dt37_16) rfl rfl (pc' := 17) rfl ?_
  refine o_iloadN P (hb hby dt37_17) rfl (pc' := 18) rfl ?_
  refine o_aaload P (v := (.ref r0)) A_b rfl (by decide) rfl (hb hby dt37_18) (pc' := 19) rfl ?_
  refine o_callS P (W := 2) (ow hw 203 rfl) (ow hw 204 rfl) (ow hw 205 rfl) (ow hw 206 rfl) (by decide) (ct_rnn l Z a0 hw EL n0 r0 h1) o_sf0 (by rw [hml]; rfl) (by decide) (by decide) (argsL := [(.ref r0)]) (rest := [(.int (0 : Int32)), (.ref ee)]) (lenOf pd_12 rfl) rfl rfl (Nat.le_of_eq rfl) (hb hby dt37_19) (pc' := 22) rfl (by decide) (by decide) ?_
  clear P; intro T h2 v2 P K2 q2
  obtain ⟨rfl, rfl⟩ := q2; clear K2
  show OG p e below m _ T 22 #[.val (.ref b), .val (.ref ee), .val (.int (0 : Int32))] [(.ref r0), (.int (0 : Int32)), (.ref ee)]
  refine o_aastore P A_ee (List.Mem.head _) rfl (O_ee.sto A_ee (Ins.of_exa F_r0.exa (ow hw 135 rfl))) rfl (by decide) (of_decide_eq_true rfl) (hb hby dt37_22) (pc' := 23) rfl ?_
  clear P; clear A_ee; intro T h3 P W3 A_ee
  replace F_r0 := F_r0.oth W3 ne_r0_ee
  replace F_r1 := F_r1.oth W3 ne_r1_ee
  replace F_r2 := F_r2.oth W3 ne_r2_ee
  replace F_r3 := F_r3.oth W3 ne_r3_ee
  replace A_b := A_b.oth W3 ne_b_ee
  replace O_ee := O_ee.keep (Keep.of_wr W3)
  clear W3
  replace A_ee : OArr Z h3 ee (.object "java/lang/Object") [(.ref r0), .null, .null, .null] := A_ee
  refine o_iinc P (1 : Int32) (hb hby dt37_23) rfl rfl (L' := #[.val (.ref b), .val (.ref ee), .val (.int (1 : Int32))]) rfl (pc' := 26) rfl ?_
  refine o_goto P (hb hby dt37_26) (by decide) (pc' := 8) (by decide) ?_
  refine o_iloadN P (hb hby dt37_8) rfl (pc' := 9) rfl ?_
  refine o_aloadN P (hb hby dt37_9) rfl rfl (pc' := 10) rfl ?_
  refine o_arrlen P A_b (hb hby dt37_10) (n := (4 : Int32)) rfl (pc' := 11) rfl ?_
  refine o_icmp_ge P (hb hby dt37_11) (by decide) (pc' := 29) (by decide) (pcf := 14) rfl (fun q => absurd (by decide) q) (fun _ => ?_)
  refine o_aloadN P (hb hby dt37_14) rfl rfl (pc' := 15) rfl ?_
  refine o_iloadN P (hb hby dt37_15) rfl (pc' := 16) rfl ?_
  refine o_aloadN P (hb hby dt37_16) rfl rfl (pc' := 17) rfl ?_
  refine o_iloadN P (hb hby dt37_17) rfl (pc' := 18) rfl ?_
  refine o_aaload P (v := (.ref r1)) A_b rfl (by decide) rfl (hb hby dt37_18) (pc' := 19) rfl ?_
  refine o_callS P (W := 2) (ow hw 203 rfl) (ow hw 204 rfl) (ow hw 205 rfl) (ow hw 206 rfl) (by decide) (ct_rnn l Z a0 hw EL n0 r1 h3) o_sf0 (by rw [hml]; rfl) (by decide) (by decide) (argsL := [(.ref r1)]) (rest := [(.int (1 : Int32)), (.ref ee)]) (lenOf pd_12 rfl) rfl rfl (Nat.le_of_eq rfl) (hb hby dt37_19) (pc' := 22) rfl (by decide) (by decide) ?_
  clear P; intro T h4 v4 P K4 q4
  obtain ⟨rfl, rfl⟩ := q4; clear K4
  show OG p e below m _ T 22 #[.val (.ref b), .val (.ref ee), .val (.int (1 : Int32))] [(.ref r1), (.int (1 : Int32)), (.ref ee)]
  refine o_aastore P A_ee (List.Mem.head _) rfl (O_ee.sto A_ee (Ins.of_exa F_r1.exa (ow hw 135 rfl))) rfl (by decide) (of_decide_eq_true rfl) (hb hby dt37_22) (pc' := 23) rfl ?_
  clear P; clear A_ee; intro T h5 P W5 A_ee
  replace F_r0 := F_r0.oth W5 ne_r0_ee
  replace F_r1 := F_r1.oth W5 ne_r1_ee
  replace F_r2 := F_r2.oth W5 ne_r2_ee
  replace F_r3 := F_r3.oth W5 ne_r3_ee
  replace A_b := A_b.oth W5 ne_b_ee
  replace O_ee := O_ee.keep (Keep.of_wr W5)
  clear W5
  replace A_ee : OArr Z h5 ee (.object "java/lang/Object") [(.ref r0), (.ref r1), .null, .null] := A_ee
  refine o_iinc P (1 : Int32) (hb hby dt37_23) rfl rfl (L' := #[.val (.ref b), .val (.ref ee), .val (.int (2 : Int32))]) rfl (pc' := 26) rfl ?_
  refine o_goto P (hb hby dt37_26) (by decide) (pc' := 8) (by decide) ?_
  refine o_iloadN P (hb hby dt37_8) rfl (pc' := 9) rfl ?_
  refine o_aloadN P (hb hby dt37_9) rfl rfl (pc' := 10) rfl ?_
  refine o_arrlen P A_b (hb hby dt37_10) (n := (4 : Int32)) rfl (pc' := 11) rfl ?_
  refine o_icmp_ge P (hb hby dt37_11) (by decide) (pc' := 29) (by decide) (pcf := 14) rfl (fun q => absurd (by decide) q) (fun _ => ?_)
  refine o_aloadN P (hb hby dt37_14) rfl rfl (pc' := 15) rfl ?_
  refine o_iloadN P (hb hby dt37_15) rfl (pc' := 16) rfl ?_
  refine o_aloadN P (hb hby dt37_16) rfl rfl (pc' := 17) rfl ?_
  refine o_iloadN P (hb hby dt37_17) rfl (pc' := 18) rfl ?_
  refine o_aaload P (v := (.ref r2)) A_b rfl (by decide) rfl (hb hby dt37_18) (pc' := 19) rfl ?_
  refine o_callS P (W := 2) (ow hw 203 rfl) (ow hw 204 rfl) (ow hw 205 rfl) (ow hw 206 rfl) (by decide) (ct_rnn l Z a0 hw EL n0 r2 h5) o_sf0 (by rw [hml]; rfl) (by decide) (by decide) (argsL := [(.ref r2)]) (rest := [(.int (2 : Int32)), (.ref ee)]) (lenOf pd_12 rfl) rfl rfl (Nat.le_of_eq rfl) (hb hby dt37_19) (pc' := 22) rfl (by decide) (by decide) ?_
  clear P; intro T h6 v6 P K6 q6
  obtain ⟨rfl, rfl⟩ := q6; clear K6
  show OG p e below m _ T 22 #[.val (.ref b), .val (.ref ee), .val (.int (2 : Int32))] [(.ref r2), (.int (2 : Int32)), (.ref ee)]
  refine o_aastore P A_ee (List.Mem.head _) rfl (O_ee.sto A_ee (Ins.of_exa F_r2.exa (ow hw 135 rfl))) rfl (by decide) (of_decide_eq_true rfl) (hb hby dt37_22) (pc' := 23) rfl ?_
  clear P; clear A_ee; intro T h7 P W7 A_ee
  replace F_r0 := F_r0.oth W7 ne_r0_ee
  replace F_r1 := F_r1.oth W7 ne_r1_ee
  replace F_r2 := F_r2.oth W7 ne_r2_ee
  replace F_r3 := F_r3.oth W7 ne_r3_ee
  replace A_b := A_b.oth W7 ne_b_ee
  replace O_ee := O_ee.keep (Keep.of_wr W7)
  clear W7
  replace A_ee : OArr Z h7 ee (.object "java/lang/Object") [(.ref r0), (.ref r1), (.ref r2), .null] := A_ee
  refine o_iinc P (1 : Int32) (hb hby dt37_23) rfl rfl (L' := #[.val (.ref b), .val (.ref ee), .val (.int (3 : Int32))]) rfl (pc' := 26) rfl ?_
  refine o_goto P (hb hby dt37_26) (by decide) (pc' := 8) (by decide) ?_
  refine o_iloadN P (hb hby dt37_8) rfl (pc' := 9) rfl ?_
  refine o_aloadN P (hb hby dt37_9) rfl rfl (pc' := 10) rfl ?_
  refine o_arrlen P A_b (hb hby dt37_10) (n := (4 : Int32)) rfl (pc' := 11) rfl ?_
  refine o_icmp_ge P (hb hby dt37_11) (by decide) (pc' := 29) (by decide) (pcf := 14) rfl (fun q => absurd (by decide) q) (fun _ => ?_)
  refine o_aloadN P (hb hby dt37_14) rfl rfl (pc' := 15) rfl ?_
  refine o_iloadN P (hb hby dt37_15) rfl (pc' := 16) rfl ?_
  refine o_aloadN P (hb hby dt37_16) rfl rfl (pc' := 17) rfl ?_
  refine o_iloadN P (hb hby dt37_17) rfl (pc' := 18) rfl ?_
  refine o_aaload P (v := (.ref r3)) A_b rfl (by decide) rfl (hb hby dt37_18) (pc' := 19) rfl ?_
  refine o_callS P (W := 2) (ow hw 203 rfl) (ow hw 204 rfl) (ow hw 205 rfl) (ow hw 206 rfl) (by decide) (ct_rnn l Z a0 hw EL n0 r3 h7) o_sf0 (by rw [hml]; rfl) (by decide) (by decide) (argsL := [(.ref r3)]) (rest := [(.int (3 : Int32)), (.ref ee)]) (lenOf pd_12 rfl) rfl rfl (Nat.le_of_eq rfl) (hb hby dt37_19) (pc' := 22) rfl (by decide) (by decide) ?_
  clear P; intro T h8 v8 P K8 q8
  obtain ⟨rfl, rfl⟩ := q8; clear K8
  show OG p e below m _ T 22 #[.val (.ref b), .val (.ref ee), .val (.int (3 : Int32))] [(.ref r3), (.int (3 : Int32)), (.ref ee)]
  refine o_aastore P A_ee (List.Mem.head _) rfl (O_ee.sto A_ee (Ins.of_exa F_r3.exa (ow hw 135 rfl))) rfl (by decide) (of_decide_eq_true rfl) (hb hby dt37_22) (pc' := 23) rfl ?_
  clear P; clear A_ee; intro T h9 P W9 A_ee
  replace F_r0 := F_r0.oth W9 ne_r0_ee
  replace F_r1 := F_r1.oth W9 ne_r1_ee
  replace F_r2 := F_r2.oth W9 ne_r2_ee
  replace F_r3 := F_r3.oth W9 ne_r3_ee
  replace A_b := A_b.oth W9 ne_b_ee
  replace O_ee := O_ee.keep (Keep.of_wr W9)
  clear W9
  replace A_ee : OArr Z h9 ee (.object "java/lang/Object") [(.ref r0), (.ref r1), (.ref r2), (.ref r3)] := A_ee
  refine o_iinc P (1 : Int32) (hb hby dt37_23) rfl rfl (L' := #[.val (.ref b), .val (.ref ee), .val (.int (4 : Int32))]) rfl (pc' := 26) rfl ?_
  refine o_goto P (hb hby dt37_26) (by decide) (pc' := 8) (by decide) ?_
  refine o_iloadN P (hb hby dt37_8) rfl (pc' := 9) rfl ?_
  refine o_aloadN P (hb hby dt37_9) rfl rfl (pc' := 10) rfl ?_
  refine o_arrlen P A_b (hb hby dt37_10) (n := (4 : Int32)) rfl (pc' := 11) rfl ?_
  refine o_icmp_ge P (hb hby dt37_11) (by decide) (pc' := 29) (by decide) (pcf := 14) rfl (fun _ => ?_) (fun q => absurd q (by decide))
  have hz_g := P.keep0.1
  refine o_new P [("java/util/ImmutableCollections$ListN", "elements", "[Ljava/lang/Object;", .null), ("java/util/ImmutableCollections$ListN", "allowNulls", "Z", (.int (0 : Int32)))] (ow hw 156 rfl) (ow hw 207 rfl) (ow hw 208 rfl) (OLd.cons (Or.inr (ow hw 228 rfl)) (ty := (.array (.object "java/lang/Object"))) (by decide) rfl (OLd.cons (Or.inr (ow hw 230 rfl)) (ty := .boolean) (by decide) rfl OLd.nil)) (by decide +kernel) (hb hby dt37_29) (pc' := 32) rfl (by decide) (by decide) ?_
  clear P; intro T h10 g P K10 hb_g F_g
  have sz_g := Nat.le_trans hz_g hb_g
  clear hz_g
  have ne_r0_g : r0 ≠ g := Nat.ne_of_lt (Nat.lt_of_lt_of_le F_r0.lt hb_g)
  have ne_r1_g : r1 ≠ g := Nat.ne_of_lt (Nat.lt_of_lt_of_le F_r1.lt hb_g)
  have ne_r2_g : r2 ≠ g := Nat.ne_of_lt (Nat.lt_of_lt_of_le F_r2.lt hb_g)
  have ne_r3_g : r3 ≠ g := Nat.ne_of_lt (Nat.lt_of_lt_of_le F_r3.lt hb_g)
  have ne_b_g : b ≠ g := Nat.ne_of_lt (Nat.lt_of_lt_of_le A_b.lt hb_g)
  have ne_ee_g : ee ≠ g := Nat.ne_of_lt (Nat.lt_of_lt_of_le A_ee.lt hb_g)
  replace F_r0 := F_r0.keep K10 nin0
  replace F_r1 := F_r1.keep K10 nin0
  replace F_r2 := F_r2.keep K10 nin0
  replace F_r3 := F_r3.keep K10 nin0
  replace A_b := A_b.keep K10 nin0
  replace A_ee := A_ee.keep K10 nin0
  replace O_ee := O_ee.keep K10
  clear K10
  refine o_dup P (hb hby dt37_32) rfl (pc' := 33) rfl ?_
  refine o_aloadN P (hb hby dt37_33) rfl rfl (pc' := 34) rfl ?_
  refine o_iconst P (0 : Int32) (hb hby dt37_34) rfl (pc' := 35) rfl ?_
  refine o_callIN P (W := 1) (a := g) rfl (ow hw 209 rfl) (ow hw 210 rfl) (ow hw 208 rfl) (ow hw 212 rfl) (by decide) (ct_ln l Z a0 hw EL n0 g ee h10 F_g) (o_sfS (List.Mem.head _) o_sf0) (by rw [hml]; rfl) (by decide) (by decide) (argsL := [(.ref ee), (.int (0 : Int32))]) (rest := [(.ref g)]) (lenOf pd_20 rfl) rfl rfl (Nat.le_of_eq rfl) (hb hby dt37_35) (pc' := 38) rfl (by decide) (by decide) ?_
  clear P; intro T h11 v11 P K11 q11
  obtain ⟨rfl, F'⟩ := q11
  replace A_ee := A_ee.keep K11 (ninS ne_ee_g nin0)
  show OG p e below m _ T 38 #[.val (.ref b), .val (.ref ee), .val (.int (4 : Int32))] [(.ref g)]
  exact o_retA P hret rfl rfl rfl (hb hby dt37_38) (by decide) (by decide) ⟨g, rfl, hsh ▸ sz_g, ee, F', A_ee⟩
theorem ef_69 (x0 : Addr) (m : MethodId) : entryFrame m #[(.ref x0)] 2 = mkF m 0 #[.val (.ref x0), .unset] [] := by first | (simp [entryFrame, mkF, argsToLocals, o_catR, o_catN, o_catI, o_catJ, o_catD]; done) | rfl
set_option maxRecDepth 65536 in
set_option maxHeartbeats 40000000 in
theorem ct_lof_4 (l : Launch) (Z : State) (a0 : Array Value) (hw : ∀ d ∈ tables_1, d.before a0 Z = true) (EL : List (String × Nat)) (n0 : Nat) (b : Addr) (r0 r1 r2 r3 : Addr) (em : Addr) (hem : Sta Z Z.heap "java/util/ImmutableCollections" "EMPTY" "Ljava/lang/Object;" (.ref em)) (Fem : OObj Z Z.heap em "java/lang/Object" []) (h0 : Heap) (A_b : OArr Z h0 b (.object "java/lang/Object") [(.ref r0), (.ref r1), (.ref r2), (.ref r3)]) (F_r0 : OObj Z h0 r0 "com/example/pledgebook/pledgebook/model/LedgerMonth" []) (F_r1 : OObj Z h0 r1 "com/example/pledgebook/pledgebook/model/LedgerMonth" []) (F_r2 : OObj Z h0 r2 "com/example/pledgebook/pledgebook/model/LedgerMonth" []) (F_r3 : OObj Z h0 r3 "com/example/pledgebook/pledgebook/model/LedgerMonth" []) :
    OCt l Z a0 EL n0 (⟨"java/util/List", "of", "([Ljava/lang/Object;)Ljava/util/List;"⟩ : MethodName) jdk_40_method_47_code 2 (some (.object "java/util/List")) ({ frames := 6, cells := 2, slots := 6, locals := 77 } : Room) [] #[(.ref b)] h0 [] (fun w vm h => ∃ g : Addr, w = some (.ref g) ∧ h0.size ≤ g ∧ ∃ ee : Addr, OObj Z h g "java/util/ImmutableCollections$ListN" [("java/util/ImmutableCollections$ListN", "elements", "[Ljava/lang/Object;", (.ref ee)), ("java/util/ImmutableCollections$ListN", "allowNulls", "Z", (.int (0 : Int32)))] ∧ OArr Z h ee (.object "java/lang/Object") [(.ref r0), (.ref r1), (.ref r2), (.ref r3)]) := by
  refine OCt.body (plainFor_of_name pn_15) (ef_69 b) ?_
  intro p e s m below meth c T hby hml hret hnm hsh P
  refine o_aloadN P (hb hby dt31_0) rfl rfl (pc' := 1) rfl ?_
  refine o_arrlen P A_b (hb hby dt31_1) (n := (4 : Int32)) rfl (pc' := 2) rfl ?_
  refine o_tsOut P (hb hby dt31_2) (by decide) (by decide) (pc' := 59) rfl ?_
  refine o_aloadN P (hb hby dt31_59) rfl rfl (pc' := 60) rfl ?_
  refine o_callS P (W := 0) (ow hw 199 rfl) (ow hw 200 rfl) (ow hw 149 rfl) (ow hw 201 rfl) (by decide) (ct_lfa_4 l Z a0 hw EL n0 b r0 r1 r2 r3 h0 A_b F_r0 F_r1 F_r2 F_r3) o_sf0 (by rw [hml]; rfl) (by decide) (by decide) (argsL := [(.ref b)]) (rest := []) (lenOf pd_17 rfl) rfl rfl (Nat.le_of_eq rfl) (hb hby dt31_60) (pc' := 63) rfl (by decide) (by decide) ?_
  clear P; intro T h1 v1 P K1 q1
  obtain ⟨g, rfl, g1, Q'⟩ := q1
  show OG p e below m _ T 63 #[.val (.ref b), .unset] [(.ref g)]
  exact o_retA P hret rfl rfl rfl (hb hby dt31_63) (by decide) (by decide) ⟨g, rfl, g1, Q'⟩
theorem ef_70 (x0 : Addr) (m : MethodId) : entryFrame m #[(.ref x0)] 2 = mkF m 0 #[.val (.ref x0), .unset] [] := by first | (simp [entryFrame, mkF, argsToLocals, o_catR, o_catN, o_catI, o_catJ, o_catD]; done) | rfl
set_option maxRecDepth 65536 in
set_option maxHeartbeats 40000000 in
theorem ct_lcp_4 (l : Launch) (Z : State) (a0 : Array Value) (hw : ∀ d ∈ tables_1, d.before a0 Z = true) (EL : List (String × Nat)) (n0 : Nat) (a : Addr) (mc : Int32) (d : Addr) (r0 r1 r2 r3 : Addr) (mir : Addr) (hmir : OMir Z "[Ljava/lang/Object;" mir) (em : Addr) (hem : Sta Z Z.heap "java/util/ImmutableCollections" "EMPTY" "Ljava/lang/Object;" (.ref em)) (Fem : OObj Z Z.heap em "java/lang/Object" []) (h0 : Heap) (A_d : OArr Z h0 d (.object "java/lang/Object") [(.ref r0), (.ref r1), (.ref r2), (.ref r3), .null, .null, .null, .null, .null, .null]) (O_d : OAr Z h0 d "java/lang/Object" "[Ljava/lang/Object;") (F_r0 : OObj Z h0 r0 "com/example/pledgebook/pledgebook/model/LedgerMonth" []) (F_r1 : OObj Z h0 r1 "com/example/pledgebook/pledgebook/model/LedgerMonth" []) (F_r2 : OObj Z h0 r2 "com/example/pledgebook/pledgebook/model/LedgerMonth" []) (F_r3 : OObj Z h0 r3 "com/example/pledgebook/pledgebook/model/LedgerMonth" []) (F_a : OObj Z h0 a "java/util/ArrayList" [("java/util/AbstractList", "modCount", "I", (.int mc)), ("java/util/ArrayList", "elementData", "[Ljava/lang/Object;", (.ref d)), ("java/util/ArrayList", "size", "I", (.int (4 : Int32)))]) :
    OCt l Z a0 EL n0 (⟨"java/util/ImmutableCollections", "listCopy", "(Ljava/util/Collection;)Ljava/util/List;"⟩ : MethodName) jdk_56_method_3_code 2 (some (.object "java/util/List")) ({ frames := 7, cells := 3, slots := 10, locals := 92 } : Room) [] #[(.ref a)] h0 [] (fun w vm h => ∃ g : Addr, w = some (.ref g) ∧ h0.size ≤ g ∧ ∃ ee : Addr, OObj Z h g "java/util/ImmutableCollections$ListN" [("java/util/ImmutableCollections$ListN", "elements", "[Ljava/lang/Object;", (.ref ee)), ("java/util/ImmutableCollections$ListN", "allowNulls", "Z", (.int (0 : Int32)))] ∧ OArr Z h ee (.object "java/lang/Object") [(.ref r0), (.ref r1), (.ref r2), (.ref r3)]) := by
  refine OCt.body (plainFor_of_name pn_16) (ef_70 a) ?_
  intro p e s m below meth c T hby hml hret hnm hsh P
  refine o_aloadN P (hb hby dt32_0) rfl rfl (pc' := 1) rfl ?_
  refine o_instN P (ow hw 151 rfl) F_a.exa (own_no hw "java/util/ImmutableCollections$List12" (.inl rfl)) (hb hby dt32_1) (pc' := 4) rfl ?_
  clear P; intro T P
  refine o_if_ne P (hb hby dt32_4) (by decide) (pc' := 26) (by decide) (pcf := 7) rfl (fun q => absurd (by decide) q) (fun _ => ?_)
  refine o_aloadN P (hb hby dt32_7) rfl rfl (pc' := 8) rfl ?_
  refine o_instN P (ow hw 156 rfl) F_a.exa (own_no hw "java/util/ImmutableCollections$ListN" (.inr rfl)) (hb hby dt32_8) (pc' := 11) rfl ?_
  clear P; intro T P
  refine o_if_eq P (hb hby dt32_11) (by decide) (pc' := 31) (by decide) (pcf := 14) rfl (fun _ => ?_) (fun q => absurd (by decide) q)
  refine o_aloadN P (hb hby dt32_31) rfl rfl (pc' := 32) rfl ?_
  refine o_callF P (W := 0) (x := (⟨"java/util/Collection", "isEmpty", "()Z"⟩ : MethodName)) (y := (⟨"java/util/ArrayList", "isEmpty", "()Z"⟩ : MethodName)) (a := a) (ow hw 157 rfl) (ow hw 158 rfl) (ow hw 159 rfl) (ow hw 160 rfl) (ow hw 161 rfl) (ow hw 162 rfl) (ow hw 163 rfl) (ow hw 164 rfl) (ow hw 83 rfl) (ow hw 165 rfl) (by decide) F_a.exa (ct_isE_4 l Z a0 hw EL n0 a mc d h0 F_a) o_sf0 (by rw [hml]; rfl) (by decide) (by decide) (argsL := []) (rest := []) (lenOf pd_16 rfl) rfl rfl (Nat.le_of_eq rfl) (hb hby dt32_32) (pc' := 37) rfl (by decide) (by decide) ?_
  clear P; intro T h1 v1 P K1 q1
  obtain ⟨rfl, rfl⟩ := q1; clear K1
  show OG p e below m _ T 37 #[.val (.ref a), .unset] [(.int (0 : Int32))]
  refine o_if_eq P (hb hby dt32_37) (by decide) (pc' := 44) (by decide) (pcf := 40) rfl (fun _ => ?_) (fun q => absurd (by decide) q)
  refine o_aloadN P (hb hby dt32_44) rfl rfl (pc' := 45) rfl ?_
  refine o_callF P (W := 0) (x := (⟨"java/util/Collection", "toArray", "()[Ljava/lang/Object;"⟩ : MethodName)) (y := (⟨"java/util/ArrayList", "toArray", "()[Ljava/lang/Object;"⟩ : MethodName)) (a := a) (ow hw 166 rfl) (ow hw 167 rfl) (ow hw 168 rfl) (ow hw 169 rfl) (ow hw 170 rfl) (ow hw 171 rfl) (ow hw 172 rfl) (ow hw 164 rfl) (ow hw 83 rfl) (ow hw 173 rfl) (by decide) F_a.exa (ct_toA_4 l Z a0 hw EL n0 a mc d r0 r1 r2 r3 mir hmir h1 A_d O_d F_r0 F_r1 F_r2 F_r3 F_a) o_sf0 (by rw [hml]; rfl) (by decide) (by decide) (argsL := []) (rest := []) (lenOf pd_10 rfl) rfl rfl (Nat.le_of_eq rfl) (hb hby dt32_45) (pc' := 50) rfl (by decide) (by decide) ?_
  clear P; intro T h2 v2 P K2 q2
  obtain ⟨b, rfl, g1, A_b⟩ := q2
  have hl1 := K2.1
  replace F_r0 := F_r0.keep K2 nin0
  replace F_r1 := F_r1.keep K2 nin0
  replace F_r2 := F_r2.keep K2 nin0
  replace F_r3 := F_r3.keep K2 nin0
  show OG p e below m _ T 50 #[.val (.ref a), .unset] [(.ref b)]
  refine o_callS P (W := 0) (ow hw 196 rfl) (ow hw 197 rfl) (ow hw 145 rfl) (ow hw 198 rfl) (by decide) (ct_lof_4 l Z a0 hw EL n0 b r0 r1 r2 r3 em hem Fem h2 A_b F_r0 F_r1 F_r2 F_r3) o_sf0 (by rw [hml]; rfl) (by decide) (by decide) (argsL := [(.ref b)]) (rest := []) (lenOf pd_17 rfl) rfl rfl (Nat.le_of_eq rfl) (hb hby dt32_50) (pc' := 53) rfl (by decide) (by decide) ?_
  clear P; intro T h3 v3 P K3 q3
  obtain ⟨g, rfl, g2, Q'⟩ := q3
  show OG p e below m _ T 53 #[.val (.ref a), .unset] [(.ref g)]
  exact o_retA P hret rfl rfl rfl (hb hby dt32_53) (by decide) (by decide) ⟨g, rfl, Nat.le_trans hl1 g2, Q'⟩
theorem ef_71 (x0 : Addr) (m : MethodId) : entryFrame m #[(.ref x0)] 1 = mkF m 0 #[.val (.ref x0)] [] := by first | (simp [entryFrame, mkF, argsToLocals, o_catR, o_catN, o_catI, o_catJ, o_catD]; done) | rfl
set_option maxRecDepth 65536 in
set_option maxHeartbeats 40000000 in
theorem ct_lco_4 (l : Launch) (Z : State) (a0 : Array Value) (hw : ∀ d ∈ tables_1, d.before a0 Z = true) (EL : List (String × Nat)) (n0 : Nat) (a : Addr) (mc : Int32) (d : Addr) (r0 r1 r2 r3 : Addr) (mir : Addr) (hmir : OMir Z "[Ljava/lang/Object;" mir) (em : Addr) (hem : Sta Z Z.heap "java/util/ImmutableCollections" "EMPTY" "Ljava/lang/Object;" (.ref em)) (Fem : OObj Z Z.heap em "java/lang/Object" []) (h0 : Heap) (A_d : OArr Z h0 d (.object "java/lang/Object") [(.ref r0), (.ref r1), (.ref r2), (.ref r3), .null, .null, .null, .null, .null, .null]) (O_d : OAr Z h0 d "java/lang/Object" "[Ljava/lang/Object;") (F_r0 : OObj Z h0 r0 "com/example/pledgebook/pledgebook/model/LedgerMonth" []) (F_r1 : OObj Z h0 r1 "com/example/pledgebook/pledgebook/model/LedgerMonth" []) (F_r2 : OObj Z h0 r2 "com/example/pledgebook/pledgebook/model/LedgerMonth" []) (F_r3 : OObj Z h0 r3 "com/example/pledgebook/pledgebook/model/LedgerMonth" []) (F_a : OObj Z h0 a "java/util/ArrayList" [("java/util/AbstractList", "modCount", "I", (.int mc)), ("java/util/ArrayList", "elementData", "[Ljava/lang/Object;", (.ref d)), ("java/util/ArrayList", "size", "I", (.int (4 : Int32)))]) :
    OCt l Z a0 EL n0 (⟨"java/util/List", "copyOf", "(Ljava/util/Collection;)Ljava/util/List;"⟩ : MethodName) jdk_40_method_48_code 1 (some (.object "java/util/List")) ({ frames := 8, cells := 3, slots := 10, locals := 106 } : Room) [] #[(.ref a)] h0 [] (fun w vm h => ∃ g : Addr, w = some (.ref g) ∧ h0.size ≤ g ∧ ∃ ee : Addr, OObj Z h g "java/util/ImmutableCollections$ListN" [("java/util/ImmutableCollections$ListN", "elements", "[Ljava/lang/Object;", (.ref ee)), ("java/util/ImmutableCollections$ListN", "allowNulls", "Z", (.int (0 : Int32)))] ∧ OArr Z h ee (.object "java/lang/Object") [(.ref r0), (.ref r1), (.ref r2), (.ref r3)]) := by
  refine OCt.body (plainFor_of_name pn_15) (ef_71 a) ?_
  intro p e s m below meth c T hby hml hret hnm hsh P
  refine o_aloadN P (hb hby dt33_0) rfl rfl (pc' := 1) rfl ?_
  refine o_callS P (W := 0) (ow hw 147 rfl) (ow hw 148 rfl) (ow hw 149 rfl) (ow hw 150 rfl) (by decide) (ct_lcp_4 l Z a0 hw EL n0 a mc d r0 r1 r2 r3 mir hmir em hem Fem h0 A_d O_d F_r0 F_r1 F_r2 F_r3 F_a) o_sf0 (by rw [hml]; rfl) (by decide) (by decide) (argsL := [(.ref a)]) (rest := []) (lenOf pd_18 rfl) rfl rfl (Nat.le_of_eq rfl) (hb hby dt33_1) (pc' := 4) rfl (by decide) (by decide) ?_
  clear P; intro T h1 v1 P K1 q1
  obtain ⟨g, rfl, g1, Q'⟩ := q1
  show OG p e below m _ T 4 #[.val (.ref a)] [(.ref g)]
  exact o_retA P hret rfl rfl rfl (hb hby dt33_4) (by decide) (by decide) ⟨g, rfl, g1, Q'⟩
theorem ef_72 (x0 : Addr) (x1 : Addr) (m : MethodId) : entryFrame m #[(.ref x0), (.ref x1)] 2 = mkF m 0 #[.val (.ref x0), .val (.ref x1)] [] := by first | (simp [entryFrame, mkF, argsToLocals, o_catR, o_catN, o_catI, o_catJ, o_catD]; done) | rfl
set_option maxRecDepth 65536 in
set_option maxHeartbeats 40000000 in
theorem ct_lei_4 (l : Launch) (Z : State) (a0 : Array Value) (hw : ∀ d ∈ tables_1, d.before a0 Z = true) (EL : List (String × Nat)) (n0 : Nat) (u : Addr) (a : Addr) (mc : Int32) (d : Addr) (r0 r1 r2 r3 : Addr) (mir : Addr) (hmir : OMir Z "[Ljava/lang/Object;" mir) (em : Addr) (hem : Sta Z Z.heap "java/util/ImmutableCollections" "EMPTY" "Ljava/lang/Object;" (.ref em)) (Fem : OObj Z Z.heap em "java/lang/Object" []) (h0 : Heap) (A_d : OArr Z h0 d (.object "java/lang/Object") [(.ref r0), (.ref r1), (.ref r2), (.ref r3), .null, .null, .null, .null, .null, .null]) (O_d : OAr Z h0 d "java/lang/Object" "[Ljava/lang/Object;") (F_r0 : OObj Z h0 r0 "com/example/pledgebook/pledgebook/model/LedgerMonth" []) (F_r1 : OObj Z h0 r1 "com/example/pledgebook/pledgebook/model/LedgerMonth" []) (F_r2 : OObj Z h0 r2 "com/example/pledgebook/pledgebook/model/LedgerMonth" []) (F_r3 : OObj Z h0 r3 "com/example/pledgebook/pledgebook/model/LedgerMonth" []) (F_a : OObj Z h0 a "java/util/ArrayList" [("java/util/AbstractList", "modCount", "I", (.int mc)), ("java/util/ArrayList", "elementData", "[Ljava/lang/Object;", (.ref d)), ("java/util/ArrayList", "size", "I", (.int (4 : Int32)))]) (F_u : OObj Z h0 u "com/example/pledgebook/pledgebook/model/Ledger" [("com/example/pledgebook/pledgebook/model/Ledger", "months", "Ljava/util/List;", .null)]) :
    OCt l Z a0 EL n0 (⟨"com/example/pledgebook/pledgebook/model/Ledger", "<init>", "(Ljava/util/List;)V"⟩ : MethodName) prog_48_method_1_code 2 none ({ frames := 9, cells := 3, slots := 10, locals := 120 } : Room) [] #[(.ref u), (.ref a)] h0 [u] (fun w vm h => w = none ∧ ∃ g : Addr, OObj Z h u "com/example/pledgebook/pledgebook/model/Ledger" [("com/example/pledgebook/pledgebook/model/Ledger", "months", "Ljava/util/List;", (.ref g))] ∧ ∃ ee : Addr, OObj Z h g "java/util/ImmutableCollections$ListN" [("java/util/ImmutableCollections$ListN", "elements", "[Ljava/lang/Object;", (.ref ee)), ("java/util/ImmutableCollections$ListN", "allowNulls", "Z", (.int (0 : Int32)))] ∧ OArr Z h ee (.object "java/lang/Object") [(.ref r0), (.ref r1), (.ref r2), (.ref r3)]) := by
  refine OCt.body (plainFor_of_name pn_17) (ef_72 u a) ?_
  intro p e s m below meth c T hby hml hret hnm hsh P
  refine o_aloadN P (hb hby dt34_0) rfl rfl (pc' := 1) rfl ?_
  refine o_callI P (W := 0) (a := u) rfl (ow hw 142 rfl) (ow hw 70 rfl) (ow hw 72 rfl) (ow hw 73 rfl) (by decide) (ct_rec l Z a0 hw EL n0 u h0) o_sf0 (by rw [hml]; rfl) (by decide) (by decide) (argsL := []) (rest := []) (lenOf pd_7 rfl) rfl rfl (Nat.le_of_eq rfl) (hb hby dt34_1) (pc' := 4) rfl (by decide) (by decide) ?_
  clear P; intro T h1 v1 P K1 q1
  obtain ⟨rfl, rfl⟩ := q1; clear K1
  show OG p e below m _ T 4 #[.val (.ref u), .val (.ref a)] []
  refine o_aloadN P (hb hby dt34_4) rfl rfl (pc' := 5) rfl ?_
  refine o_callS P (W := 0) (ow hw 143 rfl) (ow hw 144 rfl) (ow hw 145 rfl) (ow hw 146 rfl) (by decide) (ct_lco_4 l Z a0 hw EL n0 a mc d r0 r1 r2 r3 mir hmir em hem Fem h1 A_d O_d F_r0 F_r1 F_r2 F_r3 F_a) o_sf0 (by rw [hml]; rfl) (by decide) (by decide) (argsL := [(.ref a)]) (rest := []) (lenOf pd_18 rfl) rfl rfl (Nat.le_of_eq rfl) (hb hby dt34_5) (pc' := 8) rfl (by decide) (by decide) ?_
  clear P; intro T h2 v2 P K2 q2
  obtain ⟨g, rfl, g1, Q'⟩ := q2
  have ne_u_g : u ≠ g := Nat.ne_of_lt (Nat.lt_of_lt_of_le F_u.lt g1)
  replace F_u := F_u.keep K2 nin0
  show OG p e below m _ T 8 #[.val (.ref u), .val (.ref a)] [(.ref g)]
  obtain ⟨ee, F_g, A_ee⟩ := Q'
  have ne_u_ee : u ≠ ee := F_u.neArr (ow hw 137 rfl) A_ee
  refine o_astoreN P (hb hby dt34_8) rfl (L' := #[.val (.ref u), .val (.ref g)]) rfl (pc' := 9) rfl ?_
  refine o_aloadN P (hb hby dt34_9) rfl rfl (pc' := 10) rfl ?_
  refine o_aloadN P (hb hby dt34_10) rfl rfl (pc' := 11) rfl ?_
  refine o_putF P (v' := (.ref g)) (ty := (.object "java/util/List")) (ow hw 231 rfl) Via.refl (F_u.fld 0 rfl) F_u.exa (Or.inr ⟨(ow hw 232 rfl), rfl, hnm⟩) (ow hw 137 rfl) (by decide) rfl rfl (List.Mem.head _) (hb hby dt34_11) (pc' := 14) rfl ?_
  clear P; intro T h3 P W3
  replace F_g := F_g.oth W3 (Ne.symm ne_u_g)
  replace A_ee := A_ee.oth W3 (Ne.symm ne_u_ee)
  replace F_u : OObj Z h3 u "com/example/pledgebook/pledgebook/model/Ledger" [("com/example/pledgebook/pledgebook/model/Ledger", "months", "Ljava/util/List;", (.ref g))] := F_u.put 0 rfl W3
  clear W3
  exact o_ret0 P hret (hb hby dt34_14) (by decide) (by decide) ⟨rfl, g, F_u, ee, F_g, A_ee⟩
theorem ef_73 (x0 : Addr) (m : MethodId) : entryFrame m #[(.ref x0)] 1 = mkF m 0 #[.val (.ref x0)] [] := by first | (simp [entryFrame, mkF, argsToLocals, o_catR, o_catN, o_catI, o_catJ, o_catD]; done) | rfl
set_option maxRecDepth 65536 in
set_option maxHeartbeats 40000000 in
theorem ct_siz_4 (l : Launch) (Z : State) (a0 : Array Value) (hw : ∀ d ∈ tables_1, d.before a0 Z = true) (EL : List (String × Nat)) (n0 : Nat) (g r0 r1 r2 r3 : Addr) (em : Addr) (hem : Sta Z Z.heap "java/util/ImmutableCollections" "EMPTY" "Ljava/lang/Object;" (.ref em)) (Fem : OObj Z Z.heap em "java/lang/Object" []) (h0 : Heap) (ee : Addr) (F_g : OObj Z h0 g "java/util/ImmutableCollections$ListN" [("java/util/ImmutableCollections$ListN", "elements", "[Ljava/lang/Object;", (.ref ee)), ("java/util/ImmutableCollections$ListN", "allowNulls", "Z", (.int (0 : Int32)))]) (A_ee : OArr Z h0 ee (.object "java/lang/Object") [(.ref r0), (.ref r1), (.ref r2), (.ref r3)]) :
    OCt l Z a0 EL n0 (⟨"java/util/ImmutableCollections$ListN", "size", "()I"⟩ : MethodName) jdk_45_method_3_code 1 (some .int) ({ frames := 0, cells := 0, slots := 0, locals := 0 } : Room) [] #[(.ref g)] h0 [] (fun w vm h => w = some (.int 4) ∧ h = h0) := by
  refine OCt.body (plainFor_of_name pn_13) (ef_73 g) ?_
  intro p e s m below meth c T hby hml hret hnm hsh P
  refine o_aloadN P (hb hby dt38_0) rfl rfl (pc' := 1) rfl ?_
  refine o_getF P (ow hw 227 rfl) Via.refl (F_g.fld 0 rfl) (hb hby dt38_1) (pc' := 4) rfl ?_
  clear P; intro T P
  refine o_arrlen P A_ee (hb hby dt38_4) (n := (4 : Int32)) rfl (pc' := 5) rfl ?_
  exact o_retI P hret (by simp) rfl (hb hby dt38_5) (by decide) (by decide) ⟨rfl, rfl⟩
theorem ef_74 (x0 : Addr) (x1 : Int32) (m : MethodId) : entryFrame m #[(.ref x0), (.int x1)] 2 = mkF m 0 #[.val (.ref x0), .val (.int x1)] [] := by first | (simp [entryFrame, mkF, argsToLocals, o_catR, o_catN, o_catI, o_catJ, o_catD]; done) | rfl
set_option maxRecDepth 65536 in
set_option maxHeartbeats 40000000 in
theorem ct_get_4 (l : Launch) (Z : State) (a0 : Array Value) (hw : ∀ d ∈ tables_1, d.before a0 Z = true) (EL : List (String × Nat)) (n0 : Nat) (g r0 r1 r2 r3 : Addr) (em : Addr) (hem : Sta Z Z.heap "java/util/ImmutableCollections" "EMPTY" "Ljava/lang/Object;" (.ref em)) (Fem : OObj Z Z.heap em "java/lang/Object" []) (h0 : Heap) (ee : Addr) (F_g : OObj Z h0 g "java/util/ImmutableCollections$ListN" [("java/util/ImmutableCollections$ListN", "elements", "[Ljava/lang/Object;", (.ref ee)), ("java/util/ImmutableCollections$ListN", "allowNulls", "Z", (.int (0 : Int32)))]) (A_ee : OArr Z h0 ee (.object "java/lang/Object") [(.ref r0), (.ref r1), (.ref r2), (.ref r3)]) :
    OCt l Z a0 EL n0 (⟨"java/util/ImmutableCollections$ListN", "get", "(I)Ljava/lang/Object;"⟩ : MethodName) jdk_45_method_4_code 2 (some (.object "java/lang/Object")) ({ frames := 0, cells := 0, slots := 0, locals := 0 } : Room) [] #[(.ref g), (.int (3 : Int32))] h0 [] (fun w vm h => w = some (.ref r3) ∧ h = h0) := by
  refine OCt.body (plainFor_of_name pn_13) (ef_74 g ((3 : Int32))) ?_
  intro p e s m below meth c T hby hml hret hnm hsh P
  refine o_aloadN P (hb hby dt39_0) rfl rfl (pc' := 1) rfl ?_
  refine o_getF P (ow hw 227 rfl) Via.refl (F_g.fld 0 rfl) (hb hby dt39_1) (pc' := 4) rfl ?_
  clear P; intro T P
  refine o_iloadN P (hb hby dt39_4) rfl (pc' := 5) rfl ?_
  refine o_aaload P (v := (.ref r3)) A_ee rfl (by decide) rfl (hb hby dt39_5) (pc' := 6) rfl ?_
  exact o_retA P hret rfl rfl rfl (hb hby dt39_6) (by decide) (by decide) ⟨rfl, rfl⟩
theorem dt40_0 : decode prog_50_method_6_code 0 = .ok (.aload_n 0, 1) := by decide +kernel
theorem dt40_1 : decode prog_50_method_6_code 1 = .ok (.getfield 7, 3) := by decide +kernel
theorem dt40_4 : decode prog_50_method_6_code 4 = .ok (.areturn, 1) := by decide +kernel
theorem ef_75 (x0 : Addr) (m : MethodId) : entryFrame m #[(.ref x0)] 1 = mkF m 0 #[.val (.ref x0)] [] := by first | (simp [entryFrame, mkF, argsToLocals, o_catR, o_catN, o_catI, o_catJ, o_catD]; done) | rfl
set_option maxRecDepth 65536 in
set_option maxHeartbeats 40000000 in
theorem ct_mon (l : Launch) (Z : State) (a0 : Array Value) (hw : ∀ d ∈ tables_1, d.before a0 Z = true) (EL : List (String × Nat)) (n0 : Nat) (r y : Addr) (h0 : Heap) (F_r : OObj Z h0 r "com/example/pledgebook/pledgebook/model/LedgerMonth" [("com/example/pledgebook/pledgebook/model/LedgerMonth", "month", "Ljava/time/YearMonth;", (.ref y))]) :
    OCt l Z a0 EL n0 (⟨"com/example/pledgebook/pledgebook/model/LedgerMonth", "month", "()Ljava/time/YearMonth;"⟩ : MethodName) prog_50_method_6_code 1 (some (.object "java/time/YearMonth")) ({ frames := 0, cells := 0, slots := 0, locals := 0 } : Room) [] #[(.ref r)] h0 [] (fun w vm h => w = some (.ref y) ∧ h = h0) := by
  refine OCt.body (plainFor_of_name pn_5) (ef_75 r) ?_
  intro p e s m below meth c T hby hml hret hnm hsh P
  refine o_aloadN P (hb hby dt40_0) rfl rfl (pc' := 1) rfl ?_
  refine o_getF P (ow hw 75 rfl) Via.refl (F_r.fld 0 rfl) (hb hby dt40_1) (pc' := 4) rfl ?_
  clear P; intro T P
  exact o_retA P hret rfl rfl rfl (hb hby dt40_4) (by decide) (by decide) ⟨rfl, rfl⟩
theorem dt41_0 : decode prog_48_method_3_code 0 = .ok (.aload_n 0, 1) := by decide +kernel
theorem dt41_1 : decode prog_48_method_3_code 1 = .ok (.getfield 13, 3) := by decide +kernel
theorem dt41_4 : decode prog_48_method_3_code 4 = .ok (.aload_n 0, 1) := by decide +kernel
theorem dt41_5 : decode prog_48_method_3_code 5 = .ok (.getfield 13, 3) := by decide +kernel
theorem dt41_8 : decode prog_48_method_3_code 8 = .ok (.invokeinterface 29 1, 5) := by decide +kernel
theorem dt41_13 : decode prog_48_method_3_code 13 = .ok (.iconst 1, 1) := by decide +kernel
theorem dt41_14 : decode prog_48_method_3_code 14 = .ok (.isub, 1) := by decide +kernel
theorem dt41_15 : decode prog_48_method_3_code 15 = .ok (.invokeinterface 19 2, 5) := by decide +kernel
theorem dt41_20 : decode prog_48_method_3_code 20 = .ok (.checkcast 23, 3) := by decide +kernel
theorem dt41_23 : decode prog_48_method_3_code 23 = .ok (.invokevirtual 25, 3) := by decide +kernel
theorem dt41_26 : decode prog_48_method_3_code 26 = .ok (.areturn, 1) := by decide +kernel
theorem ef_76 (x0 : Addr) (m : MethodId) : entryFrame m #[(.ref x0)] 1 = mkF m 0 #[.val (.ref x0)] [] := by first | (simp [entryFrame, mkF, argsToLocals, o_catR, o_catN, o_catI, o_catJ, o_catD]; done) | rfl
set_option maxRecDepth 65536 in
set_option maxHeartbeats 40000000 in
theorem ct_las_1 (l : Launch) (Z : State) (a0 : Array Value) (hw : ∀ d ∈ tables_1, d.before a0 Z = true) (EL : List (String × Nat)) (n0 : Nat) (u g r0 y : Addr) (em : Addr) (hem : Sta Z Z.heap "java/util/ImmutableCollections" "EMPTY" "Ljava/lang/Object;" (.ref em)) (Fem : OObj Z Z.heap em "java/lang/Object" []) (h0 : Heap) (F_u : OObj Z h0 u "com/example/pledgebook/pledgebook/model/Ledger" [("com/example/pledgebook/pledgebook/model/Ledger", "months", "Ljava/util/List;", (.ref g))]) (F_g : OObj Z h0 g "java/util/ImmutableCollections$List12" [("java/util/ImmutableCollections$List12", "e0", "Ljava/lang/Object;", (.ref r0)), ("java/util/ImmutableCollections$List12", "e1", "Ljava/lang/Object;", (.ref em))])  (F_r0 : OObj Z h0 r0 "com/example/pledgebook/pledgebook/model/LedgerMonth" [("com/example/pledgebook/pledgebook/model/LedgerMonth", "month", "Ljava/time/YearMonth;", (.ref y))]) :
    OCt l Z a0 EL n0 (⟨"com/example/pledgebook/pledgebook/model/Ledger", "lastMonth", "()Ljava/time/YearMonth;"⟩ : MethodName) prog_48_method_3_code 1 (some (.object "java/time/YearMonth")) ({ frames := 1, cells := 0, slots := 0, locals := 16 } : Room) [] #[(.ref u)] h0 [] (fun w vm h => w = some (.ref y) ∧ h = h0) := by
  refine OCt.body (plainFor_of_name pn_17) (ef_76 u) ?_
  intro p e s m below meth c T hby hml hret hnm hsh P
  refine o_aloadN P (hb hby dt41_0) rfl rfl (pc' := 1) rfl ?_
  refine o_getF P (ow hw 231 rfl) Via.refl (F_u.fld 0 rfl) (hb hby dt41_1) (pc' := 4) rfl ?_
  clear P; intro T P
  refine o_aloadN P (hb hby dt41_4) rfl rfl (pc' := 5) rfl ?_
  refine o_getF P (ow hw 231 rfl) Via.refl (F_u.fld 0 rfl) (hb hby dt41_5) (pc' := 8) rfl ?_
  clear P; intro T P
  refine o_callF P (W := 1) (x := (⟨"java/util/List", "size", "()I"⟩ : MethodName)) (y := (⟨"java/util/ImmutableCollections$List12", "size", "()I"⟩ : MethodName)) (a := g) (ow hw 238 rfl) (ow hw 239 rfl) (ow hw 240 rfl) (ow hw 278 rfl) (ow hw 279 rfl) (ow hw 280 rfl) (ow hw 281 rfl) (ow hw 282 rfl) (ow hw 264 rfl) (ow hw 283 rfl) (by decide) F_g.exa (ct_siz_1 l Z a0 hw EL n0 g r0 em hem Fem h0 F_g) o_sf0 (by rw [hml]; rfl) (by decide) (by decide) (argsL := []) (rest := [(.ref g)]) (lenOf pd_21 rfl) rfl rfl (Nat.le_of_eq rfl) (hb hby dt41_8) (pc' := 13) rfl (by decide) (by decide) ?_
  clear P; intro T h1 v1 P K1 q1
  obtain ⟨rfl, rfl⟩ := q1; clear K1
  show OG p e below m _ T 13 #[.val (.ref u)] [(.int (1 : Int32)), (.ref g)]
  refine o_iconst P (1 : Int32) (hb hby dt41_13) rfl (pc' := 14) rfl ?_
  refine o_isub P (hb hby dt41_14) (pc' := 15) rfl ?_
  show OG p e below m _ T 15 #[.val (.ref u)] [(.int (0 : Int32)), (.ref g)]
  refine o_callF P (W := 0) (x := (⟨"java/util/List", "get", "(I)Ljava/lang/Object;"⟩ : MethodName)) (y := (⟨"java/util/ImmutableCollections$List12", "get", "(I)Ljava/lang/Object;"⟩ : MethodName)) (a := g) (ow hw 247 rfl) (ow hw 248 rfl) (ow hw 249 rfl) (ow hw 285 rfl) (ow hw 286 rfl) (ow hw 287 rfl) (ow hw 288 rfl) (ow hw 282 rfl) (ow hw 264 rfl) (ow hw 289 rfl) (by decide) F_g.exa (ct_get_1 l Z a0 hw EL n0 g r0 em hem Fem h1 F_g) o_sf0 (by rw [hml]; rfl) (by decide) (by decide) (argsL := [(.int (0 : Int32))]) (rest := []) (lenOf pd_22 rfl) rfl rfl (Nat.le_of_eq rfl) (hb hby dt41_15) (pc' := 20) rfl (by decide) (by decide) ?_
  clear P; intro T h2 v2 P K2 q2
  obtain ⟨rfl, rfl⟩ := q2; clear K2
  show OG p e below m _ T 20 #[.val (.ref u)] [(.ref r0)]
  refine o_cast P (ow hw 255 rfl) (Ins.self F_r0.exa) (hb hby dt41_20) (pc' := 23) rfl ?_
  clear P; intro T P
  refine o_callV P (W := 0) (x := (⟨"com/example/pledgebook/pledgebook/model/LedgerMonth", "month", "()Ljava/time/YearMonth;"⟩ : MethodName)) (y := (⟨"com/example/pledgebook/pledgebook/model/LedgerMonth", "month", "()Ljava/time/YearMonth;"⟩ : MethodName)) (a := r0) (ow hw 257 rfl) (ow hw 258 rfl) (o_nfSel (y := (⟨"com/example/pledgebook/pledgebook/model/LedgerMonth", "month", "()Ljava/time/YearMonth;"⟩ : MethodName)) rfl (ow hw 260 rfl)) (ow hw 260 rfl) (ow hw 259 rfl) (ow hw 65 rfl) (ow hw 261 rfl) (by decide) F_r0.exa (ct_mon l Z a0 hw EL n0 r0 y h2 F_r0) o_sf0 (by rw [hml]; rfl) (by decide) (by decide) (argsL := []) (rest := []) (lenOf pd_23 rfl) rfl rfl (Nat.le_of_eq rfl) (hb hby dt41_23) (pc' := 26) rfl (by decide) (by decide) ?_
  clear P; intro T h3 v3 P K3 q3
  obtain ⟨rfl, rfl⟩ := q3; clear K3
  show OG p e below m _ T 26 #[.val (.ref u)] [(.ref y)]
  exact o_retA P hret rfl rfl rfl (hb hby dt41_26) (by decide) (by decide) ⟨rfl, rfl⟩
theorem ef_77 (x0 : Addr) (m : MethodId) : entryFrame m #[(.ref x0)] 1 = mkF m 0 #[.val (.ref x0)] [] := by first | (simp [entryFrame, mkF, argsToLocals, o_catR, o_catN, o_catI, o_catJ, o_catD]; done) | rfl
set_option maxRecDepth 65536 in
set_option maxHeartbeats 40000000 in
theorem ct_las_2 (l : Launch) (Z : State) (a0 : Array Value) (hw : ∀ d ∈ tables_1, d.before a0 Z = true) (EL : List (String × Nat)) (n0 : Nat) (u g r0 r1 y : Addr) (em : Addr) (hem : Sta Z Z.heap "java/util/ImmutableCollections" "EMPTY" "Ljava/lang/Object;" (.ref em)) (Fem : OObj Z Z.heap em "java/lang/Object" []) (h0 : Heap) (F_u : OObj Z h0 u "com/example/pledgebook/pledgebook/model/Ledger" [("com/example/pledgebook/pledgebook/model/Ledger", "months", "Ljava/util/List;", (.ref g))]) (F_g : OObj Z h0 g "java/util/ImmutableCollections$List12" [("java/util/ImmutableCollections$List12", "e0", "Ljava/lang/Object;", (.ref r0)), ("java/util/ImmutableCollections$List12", "e1", "Ljava/lang/Object;", (.ref r1))])  (F_r1 : OObj Z h0 r1 "com/example/pledgebook/pledgebook/model/LedgerMonth" [("com/example/pledgebook/pledgebook/model/LedgerMonth", "month", "Ljava/time/YearMonth;", (.ref y))]) :
    OCt l Z a0 EL n0 (⟨"com/example/pledgebook/pledgebook/model/Ledger", "lastMonth", "()Ljava/time/YearMonth;"⟩ : MethodName) prog_48_method_3_code 1 (some (.object "java/time/YearMonth")) ({ frames := 1, cells := 0, slots := 0, locals := 16 } : Room) [] #[(.ref u)] h0 [] (fun w vm h => w = some (.ref y) ∧ h = h0) := by
  refine OCt.body (plainFor_of_name pn_17) (ef_77 u) ?_
  intro p e s m below meth c T hby hml hret hnm hsh P
  refine o_aloadN P (hb hby dt41_0) rfl rfl (pc' := 1) rfl ?_
  refine o_getF P (ow hw 231 rfl) Via.refl (F_u.fld 0 rfl) (hb hby dt41_1) (pc' := 4) rfl ?_
  clear P; intro T P
  refine o_aloadN P (hb hby dt41_4) rfl rfl (pc' := 5) rfl ?_
  refine o_getF P (ow hw 231 rfl) Via.refl (F_u.fld 0 rfl) (hb hby dt41_5) (pc' := 8) rfl ?_
  clear P; intro T P
  refine o_callF P (W := 1) (x := (⟨"java/util/List", "size", "()I"⟩ : MethodName)) (y := (⟨"java/util/ImmutableCollections$List12", "size", "()I"⟩ : MethodName)) (a := g) (ow hw 238 rfl) (ow hw 239 rfl) (ow hw 240 rfl) (ow hw 278 rfl) (ow hw 279 rfl) (ow hw 280 rfl) (ow hw 281 rfl) (ow hw 282 rfl) (ow hw 264 rfl) (ow hw 283 rfl) (by decide) F_g.exa (ct_siz_2 l Z a0 hw EL n0 g r0 r1 em hem Fem h0 F_g (OObj.zero F_r1.exa)) o_sf0 (by rw [hml]; rfl) (by decide) (by decide) (argsL := []) (rest := [(.ref g)]) (lenOf pd_21 rfl) rfl rfl (Nat.le_of_eq rfl) (hb hby dt41_8) (pc' := 13) rfl (by decide) (by decide) ?_
  clear P; intro T h1 v1 P K1 q1
  obtain ⟨rfl, rfl⟩ := q1; clear K1
  show OG p e below m _ T 13 #[.val (.ref u)] [(.int (2 : Int32)), (.ref g)]
  refine o_iconst P (1 : Int32) (hb hby dt41_13) rfl (pc' := 14) rfl ?_
  refine o_isub P (hb hby dt41_14) (pc' := 15) rfl ?_
  show OG p e below m _ T 15 #[.val (.ref u)] [(.int (1 : Int32)), (.ref g)]
  refine o_callF P (W := 0) (x := (⟨"java/util/List", "get", "(I)Ljava/lang/Object;"⟩ : MethodName)) (y := (⟨"java/util/ImmutableCollections$List12", "get", "(I)Ljava/lang/Object;"⟩ : MethodName)) (a := g) (ow hw 247 rfl) (ow hw 248 rfl) (ow hw 249 rfl) (ow hw 285 rfl) (ow hw 286 rfl) (ow hw 287 rfl) (ow hw 288 rfl) (ow hw 282 rfl) (ow hw 264 rfl) (ow hw 289 rfl) (by decide) F_g.exa (ct_get_2 l Z a0 hw EL n0 g r0 r1 em hem Fem h1 F_g (OObj.zero F_r1.exa)) o_sf0 (by rw [hml]; rfl) (by decide) (by decide) (argsL := [(.int (1 : Int32))]) (rest := []) (lenOf pd_22 rfl) rfl rfl (Nat.le_of_eq rfl) (hb hby dt41_15) (pc' := 20) rfl (by decide) (by decide) ?_
  clear P; intro T h2 v2 P K2 q2
  obtain ⟨rfl, rfl⟩ := q2; clear K2
  show OG p e below m _ T 20 #[.val (.ref u)] [(.ref r1)]
  refine o_cast P (ow hw 255 rfl) (Ins.self F_r1.exa) (hb hby dt41_20) (pc' := 23) rfl ?_
  clear P; intro T P
  refine o_callV P (W := 0) (x := (⟨"com/example/pledgebook/pledgebook/model/LedgerMonth", "month", "()Ljava/time/YearMonth;"⟩ : MethodName)) (y := (⟨"com/example/pledgebook/pledgebook/model/LedgerMonth", "month", "()Ljava/time/YearMonth;"⟩ : MethodName)) (a := r1) (ow hw 257 rfl) (ow hw 258 rfl) (o_nfSel (y := (⟨"com/example/pledgebook/pledgebook/model/LedgerMonth", "month", "()Ljava/time/YearMonth;"⟩ : MethodName)) rfl (ow hw 260 rfl)) (ow hw 260 rfl) (ow hw 259 rfl) (ow hw 65 rfl) (ow hw 261 rfl) (by decide) F_r1.exa (ct_mon l Z a0 hw EL n0 r1 y h2 F_r1) o_sf0 (by rw [hml]; rfl) (by decide) (by decide) (argsL := []) (rest := []) (lenOf pd_23 rfl) rfl rfl (Nat.le_of_eq rfl) (hb hby dt41_23) (pc' := 26) rfl (by decide) (by decide) ?_
  clear P; intro T h3 v3 P K3 q3
  obtain ⟨rfl, rfl⟩ := q3; clear K3
  show OG p e below m _ T 26 #[.val (.ref u)] [(.ref y)]
  exact o_retA P hret rfl rfl rfl (hb hby dt41_26) (by decide) (by decide) ⟨rfl, rfl⟩
theorem ef_78 (x0 : Addr) (m : MethodId) : entryFrame m #[(.ref x0)] 1 = mkF m 0 #[.val (.ref x0)] [] := by first | (simp [entryFrame, mkF, argsToLocals, o_catR, o_catN, o_catI, o_catJ, o_catD]; done) | rfl
set_option maxRecDepth 65536 in
set_option maxHeartbeats 40000000 in
theorem ct_las_3 (l : Launch) (Z : State) (a0 : Array Value) (hw : ∀ d ∈ tables_1, d.before a0 Z = true) (EL : List (String × Nat)) (n0 : Nat) (u g r0 r1 r2 y ee : Addr) (em : Addr) (hem : Sta Z Z.heap "java/util/ImmutableCollections" "EMPTY" "Ljava/lang/Object;" (.ref em)) (Fem : OObj Z Z.heap em "java/lang/Object" []) (h0 : Heap) (F_u : OObj Z h0 u "com/example/pledgebook/pledgebook/model/Ledger" [("com/example/pledgebook/pledgebook/model/Ledger", "months", "Ljava/util/List;", (.ref g))]) (F_g : OObj Z h0 g "java/util/ImmutableCollections$ListN" [("java/util/ImmutableCollections$ListN", "elements", "[Ljava/lang/Object;", (.ref ee)), ("java/util/ImmutableCollections$ListN", "allowNulls", "Z", (.int (0 : Int32)))]) (A_ee : OArr Z h0 ee (.object "java/lang/Object") [(.ref r0), (.ref r1), (.ref r2)]) (F_r2 : OObj Z h0 r2 "com/example/pledgebook/pledgebook/model/LedgerMonth" [("com/example/pledgebook/pledgebook/model/LedgerMonth", "month", "Ljava/time/YearMonth;", (.ref y))]) :
    OCt l Z a0 EL n0 (⟨"com/example/pledgebook/pledgebook/model/Ledger", "lastMonth", "()Ljava/time/YearMonth;"⟩ : MethodName) prog_48_method_3_code 1 (some (.object "java/time/YearMonth")) ({ frames := 1, cells := 0, slots := 0, locals := 16 } : Room) [] #[(.ref u)] h0 [] (fun w vm h => w = some (.ref y) ∧ h = h0) := by
  refine OCt.body (plainFor_of_name pn_17) (ef_78 u) ?_
  intro p e s m below meth c T hby hml hret hnm hsh P
  refine o_aloadN P (hb hby dt41_0) rfl rfl (pc' := 1) rfl ?_
  refine o_getF P (ow hw 231 rfl) Via.refl (F_u.fld 0 rfl) (hb hby dt41_1) (pc' := 4) rfl ?_
  clear P; intro T P
  refine o_aloadN P (hb hby dt41_4) rfl rfl (pc' := 5) rfl ?_
  refine o_getF P (ow hw 231 rfl) Via.refl (F_u.fld 0 rfl) (hb hby dt41_5) (pc' := 8) rfl ?_
  clear P; intro T P
  refine o_callF P (W := 1) (x := (⟨"java/util/List", "size", "()I"⟩ : MethodName)) (y := (⟨"java/util/ImmutableCollections$ListN", "size", "()I"⟩ : MethodName)) (a := g) (ow hw 238 rfl) (ow hw 239 rfl) (ow hw 240 rfl) (ow hw 241 rfl) (ow hw 242 rfl) (ow hw 243 rfl) (ow hw 244 rfl) (ow hw 245 rfl) (ow hw 208 rfl) (ow hw 246 rfl) (by decide) F_g.exa (ct_siz_3 l Z a0 hw EL n0 g r0 r1 r2 em hem Fem h0 ee F_g A_ee) o_sf0 (by rw [hml]; rfl) (by decide) (by decide) (argsL := []) (rest := [(.ref g)]) (lenOf pd_21 rfl) rfl rfl (Nat.le_of_eq rfl) (hb hby dt41_8) (pc' := 13) rfl (by decide) (by decide) ?_
  clear P; intro T h1 v1 P K1 q1
  obtain ⟨rfl, rfl⟩ := q1; clear K1
  show OG p e below m _ T 13 #[.val (.ref u)] [(.int (3 : Int32)), (.ref g)]
  refine o_iconst P (1 : Int32) (hb hby dt41_13) rfl (pc' := 14) rfl ?_
  refine o_isub P (hb hby dt41_14) (pc' := 15) rfl ?_
  show OG p e below m _ T 15 #[.val (.ref u)] [(.int (2 : Int32)), (.ref g)]
  refine o_callF P (W := 0) (x := (⟨"java/util/List", "get", "(I)Ljava/lang/Object;"⟩ : MethodName)) (y := (⟨"java/util/ImmutableCollections$ListN", "get", "(I)Ljava/lang/Object;"⟩ : MethodName)) (a := g) (ow hw 247 rfl) (ow hw 248 rfl) (ow hw 249 rfl) (ow hw 250 rfl) (ow hw 251 rfl) (ow hw 252 rfl) (ow hw 253 rfl) (ow hw 245 rfl) (ow hw 208 rfl) (ow hw 254 rfl) (by decide) F_g.exa (ct_get_3 l Z a0 hw EL n0 g r0 r1 r2 em hem Fem h1 ee F_g A_ee) o_sf0 (by rw [hml]; rfl) (by decide) (by decide) (argsL := [(.int (2 : Int32))]) (rest := []) (lenOf pd_22 rfl) rfl rfl (Nat.le_of_eq rfl) (hb hby dt41_15) (pc' := 20) rfl (by decide) (by decide) ?_
  clear P; intro T h2 v2 P K2 q2
  obtain ⟨rfl, rfl⟩ := q2; clear K2
  show OG p e below m _ T 20 #[.val (.ref u)] [(.ref r2)]
  refine o_cast P (ow hw 255 rfl) (Ins.self F_r2.exa) (hb hby dt41_20) (pc' := 23) rfl ?_
  clear P; intro T P
  refine o_callV P (W := 0) (x := (⟨"com/example/pledgebook/pledgebook/model/LedgerMonth", "month", "()Ljava/time/YearMonth;"⟩ : MethodName)) (y := (⟨"com/example/pledgebook/pledgebook/model/LedgerMonth", "month", "()Ljava/time/YearMonth;"⟩ : MethodName)) (a := r2) (ow hw 257 rfl) (ow hw 258 rfl) (o_nfSel (y := (⟨"com/example/pledgebook/pledgebook/model/LedgerMonth", "month", "()Ljava/time/YearMonth;"⟩ : MethodName)) rfl (ow hw 260 rfl)) (ow hw 260 rfl) (ow hw 259 rfl) (ow hw 65 rfl) (ow hw 261 rfl) (by decide) F_r2.exa (ct_mon l Z a0 hw EL n0 r2 y h2 F_r2) o_sf0 (by rw [hml]; rfl) (by decide) (by decide) (argsL := []) (rest := []) (lenOf pd_23 rfl) rfl rfl (Nat.le_of_eq rfl) (hb hby dt41_23) (pc' := 26) rfl (by decide) (by decide) ?_
  clear P; intro T h3 v3 P K3 q3
  obtain ⟨rfl, rfl⟩ := q3; clear K3
  show OG p e below m _ T 26 #[.val (.ref u)] [(.ref y)]
  exact o_retA P hret rfl rfl rfl (hb hby dt41_26) (by decide) (by decide) ⟨rfl, rfl⟩
theorem ef_79 (x0 : Addr) (m : MethodId) : entryFrame m #[(.ref x0)] 1 = mkF m 0 #[.val (.ref x0)] [] := by first | (simp [entryFrame, mkF, argsToLocals, o_catR, o_catN, o_catI, o_catJ, o_catD]; done) | rfl
set_option maxRecDepth 65536 in
set_option maxHeartbeats 40000000 in
theorem ct_las_4 (l : Launch) (Z : State) (a0 : Array Value) (hw : ∀ d ∈ tables_1, d.before a0 Z = true) (EL : List (String × Nat)) (n0 : Nat) (u g r0 r1 r2 r3 y ee : Addr) (em : Addr) (hem : Sta Z Z.heap "java/util/ImmutableCollections" "EMPTY" "Ljava/lang/Object;" (.ref em)) (Fem : OObj Z Z.heap em "java/lang/Object" []) (h0 : Heap) (F_u : OObj Z h0 u "com/example/pledgebook/pledgebook/model/Ledger" [("com/example/pledgebook/pledgebook/model/Ledger", "months", "Ljava/util/List;", (.ref g))]) (F_g : OObj Z h0 g "java/util/ImmutableCollections$ListN" [("java/util/ImmutableCollections$ListN", "elements", "[Ljava/lang/Object;", (.ref ee)), ("java/util/ImmutableCollections$ListN", "allowNulls", "Z", (.int (0 : Int32)))]) (A_ee : OArr Z h0 ee (.object "java/lang/Object") [(.ref r0), (.ref r1), (.ref r2), (.ref r3)]) (F_r3 : OObj Z h0 r3 "com/example/pledgebook/pledgebook/model/LedgerMonth" [("com/example/pledgebook/pledgebook/model/LedgerMonth", "month", "Ljava/time/YearMonth;", (.ref y))]) :
    OCt l Z a0 EL n0 (⟨"com/example/pledgebook/pledgebook/model/Ledger", "lastMonth", "()Ljava/time/YearMonth;"⟩ : MethodName) prog_48_method_3_code 1 (some (.object "java/time/YearMonth")) ({ frames := 1, cells := 0, slots := 0, locals := 16 } : Room) [] #[(.ref u)] h0 [] (fun w vm h => w = some (.ref y) ∧ h = h0) := by
  refine OCt.body (plainFor_of_name pn_17) (ef_79 u) ?_
  intro p e s m below meth c T hby hml hret hnm hsh P
  refine o_aloadN P (hb hby dt41_0) rfl rfl (pc' := 1) rfl ?_
  refine o_getF P (ow hw 231 rfl) Via.refl (F_u.fld 0 rfl) (hb hby dt41_1) (pc' := 4) rfl ?_
  clear P; intro T P
  refine o_aloadN P (hb hby dt41_4) rfl rfl (pc' := 5) rfl ?_
  refine o_getF P (ow hw 231 rfl) Via.refl (F_u.fld 0 rfl) (hb hby dt41_5) (pc' := 8) rfl ?_
  clear P; intro T P
  refine o_callF P (W := 1) (x := (⟨"java/util/List", "size", "()I"⟩ : MethodName)) (y := (⟨"java/util/ImmutableCollections$ListN", "size", "()I"⟩ : MethodName)) (a := g) (ow hw 238 rfl) (ow hw 239 rfl) (ow hw 240 rfl) (ow hw 241 rfl) (ow hw 242 rfl) (ow hw 243 rfl) (ow hw 244 rfl) (ow hw 245 rfl) (ow hw 208 rfl) (ow hw 246 rfl) (by decide) F_g.exa (ct_siz_4 l Z a0 hw EL n0 g r0 r1 r2 r3 em hem Fem h0 ee F_g A_ee) o_sf0 (by rw [hml]; rfl) (by decide) (by decide) (argsL := []) (rest := [(.ref g)]) (lenOf pd_21 rfl) rfl rfl (Nat.le_of_eq rfl) (hb hby dt41_8) (pc' := 13) rfl (by decide) (by decide) ?_
  clear P; intro T h1 v1 P K1 q1
  obtain ⟨rfl, rfl⟩ := q1; clear K1
  show OG p e below m _ T 13 #[.val (.ref u)] [(.int (4 : Int32)), (.ref g)]
  refine o_iconst P (1 : Int32) (hb hby dt41_13) rfl (pc' := 14) rfl ?_
  refine o_isub P (hb hby dt41_14) (pc' := 15) rfl ?_
  show OG p e below m _ T 15 #[.val (.ref u)] [(.int (3 : Int32)), (.ref g)]
  refine o_callF P (W := 0) (x := (⟨"java/util/List", "get", "(I)Ljava/lang/Object;"⟩ : MethodName)) (y := (⟨"java/util/ImmutableCollections$ListN", "get", "(I)Ljava/lang/Object;"⟩ : MethodName)) (a := g) (ow hw 247 rfl) (ow hw 248 rfl) (ow hw 249 rfl) (ow hw 250 rfl) (ow hw 251 rfl) (ow hw 252 rfl) (ow hw 253 rfl) (ow hw 245 rfl) (ow hw 208 rfl) (ow hw 254 rfl) (by decide) F_g.exa (ct_get_4 l Z a0 hw EL n0 g r0 r1 r2 r3 em hem Fem h1 ee F_g A_ee) o_sf0 (by rw [hml]; rfl) (by decide) (by decide) (argsL := [(.int (3 : Int32))]) (rest := []) (lenOf pd_22 rfl) rfl rfl (Nat.le_of_eq rfl) (hb hby dt41_15) (pc' := 20) rfl (by decide) (by decide) ?_
  clear P; intro T h2 v2 P K2 q2
  obtain ⟨rfl, rfl⟩ := q2; clear K2
  show OG p e below m _ T 20 #[.val (.ref u)] [(.ref r3)]
  refine o_cast P (ow hw 255 rfl) (Ins.self F_r3.exa) (hb hby dt41_20) (pc' := 23) rfl ?_
  clear P; intro T P
  refine o_callV P (W := 0) (x := (⟨"com/example/pledgebook/pledgebook/model/LedgerMonth", "month", "()Ljava/time/YearMonth;"⟩ : MethodName)) (y := (⟨"com/example/pledgebook/pledgebook/model/LedgerMonth", "month", "()Ljava/time/YearMonth;"⟩ : MethodName)) (a := r3) (ow hw 257 rfl) (ow hw 258 rfl) (o_nfSel (y := (⟨"com/example/pledgebook/pledgebook/model/LedgerMonth", "month", "()Ljava/time/YearMonth;"⟩ : MethodName)) rfl (ow hw 260 rfl)) (ow hw 260 rfl) (ow hw 259 rfl) (ow hw 65 rfl) (ow hw 261 rfl) (by decide) F_r3.exa (ct_mon l Z a0 hw EL n0 r3 y h2 F_r3) o_sf0 (by rw [hml]; rfl) (by decide) (by decide) (argsL := []) (rest := []) (lenOf pd_23 rfl) rfl rfl (Nat.le_of_eq rfl) (hb hby dt41_23) (pc' := 26) rfl (by decide) (by decide) ?_
  clear P; intro T h3 v3 P K3 q3
  obtain ⟨rfl, rfl⟩ := q3; clear K3
  show OG p e below m _ T 26 #[.val (.ref u)] [(.ref y)]
  exact o_retA P hret rfl rfl rfl (hb hby dt41_26) (by decide) (by decide) ⟨rfl, rfl⟩
set_option maxRecDepth 65536 in
set_option maxHeartbeats 40000000 in
theorem law14_1 {p : Program} {e : Env} {s : State} {m : MethodId} {args : Array Value} {below : List Frame} {meth : Method} {c : Code} {T : State} {n0 : Nat} {h0 : Heap} (l : Launch) (Z : State) (a0 : Array Value) (hw : ∀ d ∈ tables_1, d.before a0 Z = true) (EL : List (String × Nat)) (hby : c.code = code) (hml : c.maxLocals = maxLocals) (hret : meth.sig.returnType = ret) (i0 i1 q : Int32) (hq0 : 0 ≤ q.toInt) (hq1 : q.toInt ≤ 11999999) (fy vy fm vm : Addr) (hfy : Sta Z Z.heap "java/time/temporal/ChronoField" "YEAR" "Ljava/time/temporal/ChronoField;" (.ref fy)) (hfm : Sta Z Z.heap "java/time/temporal/ChronoField" "MONTH_OF_YEAR" "Ljava/time/temporal/ChronoField;" (.ref fm)) (Fy : OObj Z Z.heap fy "java/time/temporal/ChronoField" [("java/time/temporal/ChronoField", "range", "Ljava/time/temporal/ValueRange;", (.ref vy))]) (Fvy : OObj Z Z.heap vy "java/time/temporal/ValueRange" [("java/time/temporal/ValueRange", "minSmallest", "J", (.long (-999999999 : Int64))), ("java/time/temporal/ValueRange", "maxLargest", "J", (.long (999999999 : Int64)))]) (Fm : OObj Z Z.heap fm "java/time/temporal/ChronoField" [("java/time/temporal/ChronoField", "range", "Ljava/time/temporal/ValueRange;", (.ref vm))]) (Fvm : OObj Z Z.heap vm "java/time/temporal/ValueRange" [("java/time/temporal/ValueRange", "minSmallest", "J", (.long (1 : Int64))), ("java/time/temporal/ValueRange", "maxLargest", "J", (.long (12 : Int64)))]) (de : Addr) (hde : Sta Z Z.heap "java/util/ArrayList" "DEFAULTCAPACITY_EMPTY_ELEMENTDATA" "[Ljava/lang/Object;" (.ref de)) (Ade : OArr Z Z.heap de (.object "java/lang/Object") []) (em : Addr) (hem : Sta Z Z.heap "java/util/ImmutableCollections" "EMPTY" "Ljava/lang/Object;" (.ref em)) (Fem : OObj Z Z.heap em "java/lang/Object" []) (mir : Addr) (hmir : OMir Z "[Ljava/lang/Object;" mir) (P : OPn p l e room_1 s m args below meth c Z a0 EL n0 [] "com/example/pledgebook/pledgebook/model/LedgerLastMonthPinLaw" T h0 [] 0 0) :
    OG p e below m (OFq Z EL n0 s [] room_1 (fun w vm h => w = some (.int 1))) T 14 #[.val (.int i0), .val (.int i1), .val (.int q), .val (.int (1 : Int32)), .unset, .unset, .unset, .unset, .unset, .unset, .unset, .unset, .unset, .unset, .unset] [] := by
  refine o_iloadN P (hb hby at_14) rfl (pc' := 15) rfl ?_
  refine o_callS P (W := 0) (ow hw 2 rfl) (ow hw 3 rfl) (ow hw 4 rfl) (ow hw 5 rfl) (by decide) (ct_ym l Z a0 hw EL n0 q hq0 (by omega) fy vy fm vm hfy hfm Fy Fvy Fm Fvm h0) o_sf0 (by rw [hml]; rfl) (by decide) (by decide) (argsL := [(.int q)]) (rest := []) (lenOf pd_24 rfl) rfl rfl (Nat.le_of_eq rfl) (hb hby at_15) (pc' := 18) rfl (by decide) (by decide) ?_
  clear P; intro T h1 v1 P K1 q1
  obtain ⟨m0, rfl, g0, F_m0⟩ := q1
  clear K1
  show OG p e below m _ T 18 #[.val (.int i0), .val (.int i1), .val (.int q), .val (.int (1 : Int32)), .unset, .unset, .unset, .unset, .unset, .unset, .unset, .unset, .unset, .unset, .unset] [(.ref m0)]
  refine o_astore P (hb hby at_18) rfl (L' := #[.val (.int i0), .val (.int i1), .val (.int q), .val (.int (1 : Int32)), .val (.ref m0), .unset, .unset, .unset, .unset, .unset, .unset, .unset, .unset, .unset, .unset]) rfl (pc' := 20) rfl ?_
  refine o_iloadN P (hb hby at_20) rfl (pc' := 21) rfl ?_
  refine o_iconst P (1 : Int32) (hb hby at_21) rfl (pc' := 22) rfl ?_
  refine o_iadd P (hb hby at_22) (pc' := 23) rfl ?_
  refine o_callS P (W := 0) (ow hw 2 rfl) (ow hw 3 rfl) (ow hw 4 rfl) (ow hw 5 rfl) (by decide) (ct_ym l Z a0 hw EL n0 (q + (1 : Int32)) (own_q q 1 hq0 hq1 (by decide)).1 (own_q q 1 hq0 hq1 (by decide)).2 fy vy fm vm hfy hfm Fy Fvy Fm Fvm h1) o_sf0 (by rw [hml]; rfl) (by decide) (by decide) (argsL := [(.int (q + (1 : Int32)))]) (rest := []) (lenOf pd_24 rfl) rfl rfl (Nat.le_of_eq rfl) (hb hby at_23) (pc' := 26) rfl (by decide) (by decide) ?_
  clear P; intro T h2 v2 P K2 q2
  obtain ⟨m1, rfl, g1, F_m1⟩ := q2
  have ne_m0_m1 : m0 ≠ m1 := Nat.ne_of_lt (Nat.lt_of_lt_of_le F_m0.lt g1)
  replace F_m0 := F_m0.keep K2 nin0
  clear K2
  show OG p e below m _ T 26 #[.val (.int i0), .val (.int i1), .val (.int q), .val (.int (1 : Int32)), .val (.ref m0), .unset, .unset, .unset, .unset, .unset, .unset, .unset, .unset, .unset, .unset] [(.ref m1)]
  refine o_astore P (hb hby at_26) rfl (L' := #[.val (.int i0), .val (.int i1), .val (.int q), .val (.int (1 : Int32)), .val (.ref m0), .val (.ref m1), .unset, .unset, .unset, .unset, .unset, .unset, .unset, .unset, .unset]) rfl (pc' := 28) rfl ?_
  refine o_iloadN P (hb hby at_28) rfl (pc' := 29) rfl ?_
  refine o_iconst P (2 : Int32) (hb hby at_29) rfl (pc' := 30) rfl ?_
  refine o_iadd P (hb hby at_30) (pc' := 31) rfl ?_
  refine o_callS P (W := 0) (ow hw 2 rfl) (ow hw 3 rfl) (ow hw 4 rfl) (ow hw 5 rfl) (by decide) (ct_ym l Z a0 hw EL n0 (q + (2 : Int32)) (own_q q 2 hq0 hq1 (by decide)).1 (own_q q 2 hq0 hq1 (by decide)).2 fy vy fm vm hfy hfm Fy Fvy Fm Fvm h2) o_sf0 (by rw [hml]; rfl) (by decide) (by decide) (argsL := [(.int (q + (2 : Int32)))]) (rest := []) (lenOf pd_24 rfl) rfl rfl (Nat.le_of_eq rfl) (hb hby at_31) (pc' := 34) rfl (by decide) (by decide) ?_
  clear P; intro T h3 v3 P K3 q3
  obtain ⟨m2, rfl, g2, F_m2⟩ := q3
  have ne_m0_m2 : m0 ≠ m2 := Nat.ne_of_lt (Nat.lt_of_lt_of_le F_m0.lt g2)
  have ne_m1_m2 : m1 ≠ m2 := Nat.ne_of_lt (Nat.lt_of_lt_of_le F_m1.lt g2)
  replace F_m0 := F_m0.keep K3 nin0
  replace F_m1 := F_m1.keep K3 nin0
  clear K3
  show OG p e below m _ T 34 #[.val (.int i0), .val (.int i1), .val (.int q), .val (.int (1 : Int32)), .val (.ref m0), .val (.ref m1), .unset, .unset, .unset, .unset, .unset, .unset, .unset, .unset, .unset] [(.ref m2)]
  refine o_astore P (hb hby at_34) rfl (L' := #[.val (.int i0), .val (.int i1), .val (.int q), .val (.int (1 : Int32)), .val (.ref m0), .val (.ref m1), .val (.ref m2), .unset, .unset, .unset, .unset, .unset, .unset, .unset, .unset]) rfl (pc' := 36) rfl ?_
  refine o_iloadN P (hb hby at_36) rfl (pc' := 37) rfl ?_
  refine o_iconst P (3 : Int32) (hb hby at_37) rfl (pc' := 38) rfl ?_
  refine o_iadd P (hb hby at_38) (pc' := 39) rfl ?_
  refine o_callS P (W := 0) (ow hw 2 rfl) (ow hw 3 rfl) (ow hw 4 rfl) (ow hw 5 rfl) (by decide) (ct_ym l Z a0 hw EL n0 (q + (3 : Int32)) (own_q q 3 hq0 hq1 (by decide)).1 (own_q q 3 hq0 hq1 (by decide)).2 fy vy fm vm hfy hfm Fy Fvy Fm Fvm h3) o_sf0 (by rw [hml]; rfl) (by decide) (by decide) (argsL := [(.int (q + (3 : Int32)))]) (rest := []) (lenOf pd_24 rfl) rfl rfl (Nat.le_of_eq rfl) (hb hby at_39) (pc' := 42) rfl (by decide) (by decide) ?_
  clear P; intro T h4 v4 P K4 q4
  obtain ⟨m3, rfl, g3, F_m3⟩ := q4
  have ne_m0_m3 : m0 ≠ m3 := Nat.ne_of_lt (Nat.lt_of_lt_of_le F_m0.lt g3)
  have ne_m1_m3 : m1 ≠ m3 := Nat.ne_of_lt (Nat.lt_of_lt_of_le F_m1.lt g3)
  have ne_m2_m3 : m2 ≠ m3 := Nat.ne_of_lt (Nat.lt_of_lt_of_le F_m2.lt g3)
  replace F_m0 := F_m0.keep K4 nin0
  replace F_m1 := F_m1.keep K4 nin0
  replace F_m2 := F_m2.keep K4 nin0
  clear K4
  show OG p e below m _ T 42 #[.val (.int i0), .val (.int i1), .val (.int q), .val (.int (1 : Int32)), .val (.ref m0), .val (.ref m1), .val (.ref m2), .unset, .unset, .unset, .unset, .unset, .unset, .unset, .unset] [(.ref m3)]
  refine o_astore P (hb hby at_42) rfl (L' := #[.val (.int i0), .val (.int i1), .val (.int q), .val (.int (1 : Int32)), .val (.ref m0), .val (.ref m1), .val (.ref m2), .val (.ref m3), .unset, .unset, .unset, .unset, .unset, .unset, .unset]) rfl (pc' := 44) rfl ?_
  have hz_r0 := P.keep0.1
  refine o_new P [("com/example/pledgebook/pledgebook/model/LedgerMonth", "month", "Ljava/time/YearMonth;", .null), ("com/example/pledgebook/pledgebook/model/LedgerMonth", "grossRevenues", "Ljava/math/BigDecimal;", .null), ("com/example/pledgebook/pledgebook/model/LedgerMonth", "operatingExpenses", "Ljava/math/BigDecimal;", .null)] (ow hw 63 rfl) (ow hw 64 rfl) (ow hw 65 rfl) (OLd.cons (Or.inr (ow hw 76 rfl)) (ty := (.object "java/time/YearMonth")) (by decide) rfl (OLd.cons (Or.inr (ow hw 78 rfl)) (ty := (.object "java/math/BigDecimal")) (by decide) rfl (OLd.cons (Or.inr (ow hw 80 rfl)) (ty := (.object "java/math/BigDecimal")) (by decide) rfl OLd.nil))) (by decide +kernel) (hb hby at_44) (pc' := 47) rfl (by decide) (by decide) ?_
  clear P; intro T h5 r0 P K5 hb_r0 F_r0
  have sz_r0 := Nat.le_trans hz_r0 hb_r0
  clear hz_r0
  have ne_m0_r0 : m0 ≠ r0 := Nat.ne_of_lt (Nat.lt_of_lt_of_le F_m0.lt hb_r0)
  have ne_m1_r0 : m1 ≠ r0 := Nat.ne_of_lt (Nat.lt_of_lt_of_le F_m1.lt hb_r0)
  have ne_m2_r0 : m2 ≠ r0 := Nat.ne_of_lt (Nat.lt_of_lt_of_le F_m2.lt hb_r0)
  have ne_m3_r0 : m3 ≠ r0 := Nat.ne_of_lt (Nat.lt_of_lt_of_le F_m3.lt hb_r0)
  replace F_m0 := F_m0.keep K5 nin0
  replace F_m1 := F_m1.keep K5 nin0
  replace F_m2 := F_m2.keep K5 nin0
  replace F_m3 := F_m3.keep K5 nin0
  clear K5
  refine o_dup P (hb hby at_47) rfl (pc' := 48) rfl ?_
  refine o_aload P (hb hby at_48) rfl rfl (pc' := 50) rfl ?_
  refine o_aconstNull P (hb hby at_50) (pc' := 51) rfl ?_
  refine o_aconstNull P (hb hby at_51) (pc' := 52) rfl ?_
  refine o_callI P (W := 1) (a := r0) rfl (ow hw 66 rfl) (ow hw 67 rfl) (ow hw 65 rfl) (ow hw 68 rfl) (by decide) (ct_lmi l Z a0 hw EL n0 r0 m0 h5 F_r0) (o_sfS (List.Mem.head _) o_sf0) (by rw [hml]; rfl) (by decide) (by decide) (argsL := [(.ref m0), .null, .null]) (rest := [(.ref r0)]) (lenOf pd_25 rfl) rfl rfl (Nat.le_of_eq rfl) (hb hby at_52) (pc' := 55) rfl (by decide) (by decide) ?_
  clear P; intro T h6 v6 P K6 q6
  obtain ⟨rfl, F'⟩ := q6
  replace F_m0 := F_m0.keep K6 (ninS ne_m0_r0 nin0)
  replace F_m1 := F_m1.keep K6 (ninS ne_m1_r0 nin0)
  replace F_m2 := F_m2.keep K6 (ninS ne_m2_r0 nin0)
  replace F_m3 := F_m3.keep K6 (ninS ne_m3_r0 nin0)
  clear K6
  replace F_r0 := F'; clear F'
  show OG p e below m _ T 55 #[.val (.int i0), .val (.int i1), .val (.int q), .val (.int (1 : Int32)), .val (.ref m0), .val (.ref m1), .val (.ref m2), .val (.ref m3), .unset, .unset, .unset, .unset, .unset, .unset, .unset] [(.ref r0)]
  refine o_astore P (hb hby at_55) rfl (L' := #[.val (.int i0), .val (.int i1), .val (.int q), .val (.int (1 : Int32)), .val (.ref m0), .val (.ref m1), .val (.ref m2), .val (.ref m3), .val (.ref r0), .unset, .unset, .unset, .unset, .unset, .unset]) rfl (pc' := 57) rfl ?_
  have hz_r1 := P.keep0.1
  refine o_new P [("com/example/pledgebook/pledgebook/model/LedgerMonth", "month", "Ljava/time/YearMonth;", .null), ("com/example/pledgebook/pledgebook/model/LedgerMonth", "grossRevenues", "Ljava/math/BigDecimal;", .null), ("com/example/pledgebook/pledgebook/model/LedgerMonth", "operatingExpenses", "Ljava/math/BigDecimal;", .null)] (ow hw 63 rfl) (ow hw 64 rfl) (ow hw 65 rfl) (OLd.cons (Or.inr (ow hw 76 rfl)) (ty := (.object "java/time/YearMonth")) (by decide) rfl (OLd.cons (Or.inr (ow hw 78 rfl)) (ty := (.object "java/math/BigDecimal")) (by decide) rfl (OLd.cons (Or.inr (ow hw 80 rfl)) (ty := (.object "java/math/BigDecimal")) (by decide) rfl OLd.nil))) (by decide +kernel) (hb hby at_57) (pc' := 60) rfl (by decide) (by decide) ?_
  clear P; intro T h7 r1 P K7 hb_r1 F_r1
  have sz_r1 := Nat.le_trans hz_r1 hb_r1
  clear hz_r1
  have ne_m0_r1 : m0 ≠ r1 := Nat.ne_of_lt (Nat.lt_of_lt_of_le F_m0.lt hb_r1)
  have ne_m1_r1 : m1 ≠ r1 := Nat.ne_of_lt (Nat.lt_of_lt_of_le F_m1.lt hb_r1)
  have ne_m2_r1 : m2 ≠ r1 := Nat.ne_of_lt (Nat.lt_of_lt_of_le F_m2.lt hb_r1)
  have ne_m3_r1 : m3 ≠ r1 := Nat.ne_of_lt (Nat.lt_of_lt_of_le F_m3.lt hb_r1)
  have ne_r0_r1 : r0 ≠ r1 := Nat.ne_of_lt (Nat.lt_of_lt_of_le F_r0.lt hb_r1)
  replace F_m0 := F_m0.keep K7 nin0
  replace F_m1 := F_m1.keep K7 nin0
  replace F_m2 := F_m2.keep K7 nin0
  replace F_m3 := F_m3.keep K7 nin0
  replace F_r0 := F_r0.keep K7 nin0
  clear K7
  refine o_dup P (hb hby at_60) rfl (pc' := 61) rfl ?_
  refine o_aload P (hb hby at_61) rfl rfl (pc' := 63) rfl ?_
  refine o_aconstNull P (hb hby at_63) (pc' := 64) rfl ?_
  refine o_aconstNull P (hb hby at_64) (pc' := 65) rfl ?_
  refine o_callI P (W := 1) (a := r1) rfl (ow hw 66 rfl) (ow hw 67 rfl) (ow hw 65 rfl) (ow hw 68 rfl) (by decide) (ct_lmi l Z a0 hw EL n0 r1 m1 h7 F_r1) (o_sfS (List.Mem.head _) o_sf0) (by rw [hml]; rfl) (by decide) (by decide) (argsL := [(.ref m1), .null, .null]) (rest := [(.ref r1)]) (lenOf pd_25 rfl) rfl rfl (Nat.le_of_eq rfl) (hb hby at_65) (pc' := 68) rfl (by decide) (by decide) ?_
  clear P; intro T h8 v8 P K8 q8
  obtain ⟨rfl, F'⟩ := q8
  replace F_m0 := F_m0.keep K8 (ninS ne_m0_r1 nin0)
  replace F_m1 := F_m1.keep K8 (ninS ne_m1_r1 nin0)
  replace F_m2 := F_m2.keep K8 (ninS ne_m2_r1 nin0)
  replace F_m3 := F_m3.keep K8 (ninS ne_m3_r1 nin0)
  replace F_r0 := F_r0.keep K8 (ninS ne_r0_r1 nin0)
  clear K8
  replace F_r1 := F'; clear F'
  show OG p e below m _ T 68 #[.val (.int i0), .val (.int i1), .val (.int q), .val (.int (1 : Int32)), .val (.ref m0), .val (.ref m1), .val (.ref m2), .val (.ref m3), .val (.ref r0), .unset, .unset, .unset, .unset, .unset, .unset] [(.ref r1)]
  refine o_astore P (hb hby at_68) rfl (L' := #[.val (.int i0), .val (.int i1), .val (.int q), .val (.int (1 : Int32)), .val (.ref m0), .val (.ref m1), .val (.ref m2), .val (.ref m3), .val (.ref r0), .val (.ref r1), .unset, .unset, .unset, .unset, .unset]) rfl (pc' := 70) rfl ?_
  have hz_r2 := P.keep0.1
  refine o_new P [("com/example/pledgebook/pledgebook/model/LedgerMonth", "month", "Ljava/time/YearMonth;", .null), ("com/example/pledgebook/pledgebook/model/LedgerMonth", "grossRevenues", "Ljava/math/BigDecimal;", .null), ("com/example/pledgebook/pledgebook/model/LedgerMonth", "operatingExpenses", "Ljava/math/BigDecimal;", .null)] (ow hw 63 rfl) (ow hw 64 rfl) (ow hw 65 rfl) (OLd.cons (Or.inr (ow hw 76 rfl)) (ty := (.object "java/time/YearMonth")) (by decide) rfl (OLd.cons (Or.inr (ow hw 78 rfl)) (ty := (.object "java/math/BigDecimal")) (by decide) rfl (OLd.cons (Or.inr (ow hw 80 rfl)) (ty := (.object "java/math/BigDecimal")) (by decide) rfl OLd.nil))) (by decide +kernel) (hb hby at_70) (pc' := 73) rfl (by decide) (by decide) ?_
  clear P; intro T h9 r2 P K9 hb_r2 F_r2
  have sz_r2 := Nat.le_trans hz_r2 hb_r2
  clear hz_r2
  have ne_m0_r2 : m0 ≠ r2 := Nat.ne_of_lt (Nat.lt_of_lt_of_le F_m0.lt hb_r2)
  have ne_m1_r2 : m1 ≠ r2 := Nat.ne_of_lt (Nat.lt_of_lt_of_le F_m1.lt hb_r2)
  have ne_m2_r2 : m2 ≠ r2 := Nat.ne_of_lt (Nat.lt_of_lt_of_le F_m2.lt hb_r2)
  have ne_m3_r2 : m3 ≠ r2 := Nat.ne_of_lt (Nat.lt_of_lt_of_le F_m3.lt hb_r2)
  have ne_r0_r2 : r0 ≠ r2 := Nat.ne_of_lt (Nat.lt_of_lt_of_le F_r0.lt hb_r2)
  have ne_r1_r2 : r1 ≠ r2 := Nat.ne_of_lt (Nat.lt_of_lt_of_le F_r1.lt hb_r2)
  replace F_m0 := F_m0.keep K9 nin0
  replace F_m1 := F_m1.keep K9 nin0
  replace F_m2 := F_m2.keep K9 nin0
  replace F_m3 := F_m3.keep K9 nin0
  replace F_r0 := F_r0.keep K9 nin0
  replace F_r1 := F_r1.keep K9 nin0
  clear K9
  refine o_dup P (hb hby at_73) rfl (pc' := 74) rfl ?_
  refine o_aload P (hb hby at_74) rfl rfl (pc' := 76) rfl ?_
  refine o_aconstNull P (hb hby at_76) (pc' := 77) rfl ?_
  refine o_aconstNull P (hb hby at_77) (pc' := 78) rfl ?_
  refine o_callI P (W := 1) (a := r2) rfl (ow hw 66 rfl) (ow hw 67 rfl) (ow hw 65 rfl) (ow hw 68 rfl) (by decide) (ct_lmi l Z a0 hw EL n0 r2 m2 h9 F_r2) (o_sfS (List.Mem.head _) o_sf0) (by rw [hml]; rfl) (by decide) (by decide) (argsL := [(.ref m2), .null, .null]) (rest := [(.ref r2)]) (lenOf pd_25 rfl) rfl rfl (Nat.le_of_eq rfl) (hb hby at_78) (pc' := 81) rfl (by decide) (by decide) ?_
  clear P; intro T h10 v10 P K10 q10
  obtain ⟨rfl, F'⟩ := q10
  replace F_m0 := F_m0.keep K10 (ninS ne_m0_r2 nin0)
  replace F_m1 := F_m1.keep K10 (ninS ne_m1_r2 nin0)
  replace F_m2 := F_m2.keep K10 (ninS ne_m2_r2 nin0)
  replace F_m3 := F_m3.keep K10 (ninS ne_m3_r2 nin0)
  replace F_r0 := F_r0.keep K10 (ninS ne_r0_r2 nin0)
  replace F_r1 := F_r1.keep K10 (ninS ne_r1_r2 nin0)
  clear K10
  replace F_r2 := F'; clear F'
  show OG p e below m _ T 81 #[.val (.int i0), .val (.int i1), .val (.int q), .val (.int (1 : Int32)), .val (.ref m0), .val (.ref m1), .val (.ref m2), .val (.ref m3), .val (.ref r0), .val (.ref r1), .unset, .unset, .unset, .unset, .unset] [(.ref r2)]
  refine o_astore P (hb hby at_81) rfl (L' := #[.val (.int i0), .val (.int i1), .val (.int q), .val (.int (1 : Int32)), .val (.ref m0), .val (.ref m1), .val (.ref m2), .val (.ref m3), .val (.ref r0), .val (.ref r1), .val (.ref r2), .unset, .unset, .unset, .unset]) rfl (pc' := 83) rfl ?_
  have hz_r3 := P.keep0.1
  refine o_new P [("com/example/pledgebook/pledgebook/model/LedgerMonth", "month", "Ljava/time/YearMonth;", .null), ("com/example/pledgebook/pledgebook/model/LedgerMonth", "grossRevenues", "Ljava/math/BigDecimal;", .null), ("com/example/pledgebook/pledgebook/model/LedgerMonth", "operatingExpenses", "Ljava/math/BigDecimal;", .null)] (ow hw 63 rfl) (ow hw 64 rfl) (ow hw 65 rfl) (OLd.cons (Or.inr (ow hw 76 rfl)) (ty := (.object "java/time/YearMonth")) (by decide) rfl (OLd.cons (Or.inr (ow hw 78 rfl)) (ty := (.object "java/math/BigDecimal")) (by decide) rfl (OLd.cons (Or.inr (ow hw 80 rfl)) (ty := (.object "java/math/BigDecimal")) (by decide) rfl OLd.nil))) (by decide +kernel) (hb hby at_83) (pc' := 86) rfl (by decide) (by decide) ?_
  clear P; intro T h11 r3 P K11 hb_r3 F_r3
  have sz_r3 := Nat.le_trans hz_r3 hb_r3
  clear hz_r3
  have ne_m0_r3 : m0 ≠ r3 := Nat.ne_of_lt (Nat.lt_of_lt_of_le F_m0.lt hb_r3)
  have ne_m1_r3 : m1 ≠ r3 := Nat.ne_of_lt (Nat.lt_of_lt_of_le F_m1.lt hb_r3)
  have ne_m2_r3 : m2 ≠ r3 := Nat.ne_of_lt (Nat.lt_of_lt_of_le F_m2.lt hb_r3)
  have ne_m3_r3 : m3 ≠ r3 := Nat.ne_of_lt (Nat.lt_of_lt_of_le F_m3.lt hb_r3)
  have ne_r0_r3 : r0 ≠ r3 := Nat.ne_of_lt (Nat.lt_of_lt_of_le F_r0.lt hb_r3)
  have ne_r1_r3 : r1 ≠ r3 := Nat.ne_of_lt (Nat.lt_of_lt_of_le F_r1.lt hb_r3)
  have ne_r2_r3 : r2 ≠ r3 := Nat.ne_of_lt (Nat.lt_of_lt_of_le F_r2.lt hb_r3)
  replace F_m0 := F_m0.keep K11 nin0
  replace F_m1 := F_m1.keep K11 nin0
  replace F_m2 := F_m2.keep K11 nin0
  replace F_m3 := F_m3.keep K11 nin0
  replace F_r0 := F_r0.keep K11 nin0
  replace F_r1 := F_r1.keep K11 nin0
  replace F_r2 := F_r2.keep K11 nin0
  clear K11
  refine o_dup P (hb hby at_86) rfl (pc' := 87) rfl ?_
  refine o_aload P (hb hby at_87) rfl rfl (pc' := 89) rfl ?_
  refine o_aconstNull P (hb hby at_89) (pc' := 90) rfl ?_
  refine o_aconstNull P (hb hby at_90) (pc' := 91) rfl ?_
  refine o_callI P (W := 1) (a := r3) rfl (ow hw 66 rfl) (ow hw 67 rfl) (ow hw 65 rfl) (ow hw 68 rfl) (by decide) (ct_lmi l Z a0 hw EL n0 r3 m3 h11 F_r3) (o_sfS (List.Mem.head _) o_sf0) (by rw [hml]; rfl) (by decide) (by decide) (argsL := [(.ref m3), .null, .null]) (rest := [(.ref r3)]) (lenOf pd_25 rfl) rfl rfl (Nat.le_of_eq rfl) (hb hby at_91) (pc' := 94) rfl (by decide) (by decide) ?_
  clear P; intro T h12 v12 P K12 q12
  obtain ⟨rfl, F'⟩ := q12
  replace F_m0 := F_m0.keep K12 (ninS ne_m0_r3 nin0)
  replace F_m1 := F_m1.keep K12 (ninS ne_m1_r3 nin0)
  replace F_m2 := F_m2.keep K12 (ninS ne_m2_r3 nin0)
  replace F_m3 := F_m3.keep K12 (ninS ne_m3_r3 nin0)
  replace F_r0 := F_r0.keep K12 (ninS ne_r0_r3 nin0)
  replace F_r1 := F_r1.keep K12 (ninS ne_r1_r3 nin0)
  replace F_r2 := F_r2.keep K12 (ninS ne_r2_r3 nin0)
  clear K12
  replace F_r3 := F'; clear F'
  show OG p e below m _ T 94 #[.val (.int i0), .val (.int i1), .val (.int q), .val (.int (1 : Int32)), .val (.ref m0), .val (.ref m1), .val (.ref m2), .val (.ref m3), .val (.ref r0), .val (.ref r1), .val (.ref r2), .unset, .unset, .unset, .unset] [(.ref r3)]
  refine o_astore P (hb hby at_94) rfl (L' := #[.val (.int i0), .val (.int i1), .val (.int q), .val (.int (1 : Int32)), .val (.ref m0), .val (.ref m1), .val (.ref m2), .val (.ref m3), .val (.ref r0), .val (.ref r1), .val (.ref r2), .val (.ref r3), .unset, .unset, .unset]) rfl (pc' := 96) rfl ?_
  have hz_a := P.keep0.1
  refine o_new P [("java/util/AbstractList", "modCount", "I", (.int (0 : Int32))), ("java/util/ArrayList", "elementData", "[Ljava/lang/Object;", .null), ("java/util/ArrayList", "size", "I", (.int (0 : Int32)))] (ow hw 81 rfl) (ow hw 82 rfl) (ow hw 83 rfl) (OLd.cons (Or.inl (ow hw 101 rfl)) (ty := .int) (by decide) rfl (OLd.cons (Or.inl (ow hw 104 rfl)) (ty := (.array (.object "java/lang/Object"))) (by decide) rfl (OLd.cons (Or.inl (ow hw 113 rfl)) (ty := .int) (by decide) rfl OLd.nil))) (by decide +kernel) (hb hby at_96) (pc' := 99) rfl (by decide) (by decide) ?_
  clear P; intro T h13 a P K13 hb_a F_a
  have sz_a := Nat.le_trans hz_a hb_a
  clear hz_a
  have ne_m0_a : m0 ≠ a := Nat.ne_of_lt (Nat.lt_of_lt_of_le F_m0.lt hb_a)
  have ne_m1_a : m1 ≠ a := Nat.ne_of_lt (Nat.lt_of_lt_of_le F_m1.lt hb_a)
  have ne_m2_a : m2 ≠ a := Nat.ne_of_lt (Nat.lt_of_lt_of_le F_m2.lt hb_a)
  have ne_m3_a : m3 ≠ a := Nat.ne_of_lt (Nat.lt_of_lt_of_le F_m3.lt hb_a)
  have ne_r0_a : r0 ≠ a := Nat.ne_of_lt (Nat.lt_of_lt_of_le F_r0.lt hb_a)
  have ne_r1_a : r1 ≠ a := Nat.ne_of_lt (Nat.lt_of_lt_of_le F_r1.lt hb_a)
  have ne_r2_a : r2 ≠ a := Nat.ne_of_lt (Nat.lt_of_lt_of_le F_r2.lt hb_a)
  have ne_r3_a : r3 ≠ a := Nat.ne_of_lt (Nat.lt_of_lt_of_le F_r3.lt hb_a)
  replace F_m0 := F_m0.keep K13 nin0
  replace F_m1 := F_m1.keep K13 nin0
  replace F_m2 := F_m2.keep K13 nin0
  replace F_m3 := F_m3.keep K13 nin0
  replace F_r0 := F_r0.keep K13 nin0
  replace F_r1 := F_r1.keep K13 nin0
  replace F_r2 := F_r2.keep K13 nin0
  replace F_r3 := F_r3.keep K13 nin0
  clear K13
  refine o_dup P (hb hby at_99) rfl (pc' := 100) rfl ?_
  refine o_callI P (W := 1) (a := a) rfl (ow hw 84 rfl) (ow hw 85 rfl) (ow hw 83 rfl) (ow hw 86 rfl) (by decide) (ct_ali l Z a0 hw EL n0 a de hde Ade h13 F_a) (o_sfS (List.Mem.head _) o_sf0) (by rw [hml]; rfl) (by decide) (by decide) (argsL := []) (rest := [(.ref a)]) (lenOf pd_7 rfl) rfl rfl (Nat.le_of_eq rfl) (hb hby at_100) (pc' := 103) rfl (by decide) (by decide) ?_
  clear P; intro T h14 v14 P K14 q14
  obtain ⟨rfl, F'⟩ := q14
  replace F_m0 := F_m0.keep K14 (ninS ne_m0_a nin0)
  replace F_m1 := F_m1.keep K14 (ninS ne_m1_a nin0)
  replace F_m2 := F_m2.keep K14 (ninS ne_m2_a nin0)
  replace F_m3 := F_m3.keep K14 (ninS ne_m3_a nin0)
  replace F_r0 := F_r0.keep K14 (ninS ne_r0_a nin0)
  replace F_r1 := F_r1.keep K14 (ninS ne_r1_a nin0)
  replace F_r2 := F_r2.keep K14 (ninS ne_r2_a nin0)
  replace F_r3 := F_r3.keep K14 (ninS ne_r3_a nin0)
  clear K14
  replace F_a := F'; clear F'
  show OG p e below m _ T 103 #[.val (.int i0), .val (.int i1), .val (.int q), .val (.int (1 : Int32)), .val (.ref m0), .val (.ref m1), .val (.ref m2), .val (.ref m3), .val (.ref r0), .val (.ref r1), .val (.ref r2), .val (.ref r3), .unset, .unset, .unset] [(.ref a)]
  refine o_astore P (hb hby at_103) rfl (L' := #[.val (.int i0), .val (.int i1), .val (.int q), .val (.int (1 : Int32)), .val (.ref m0), .val (.ref m1), .val (.ref m2), .val (.ref m3), .val (.ref r0), .val (.ref r1), .val (.ref r2), .val (.ref r3), .val (.ref a), .unset, .unset]) rfl (pc' := 105) rfl ?_
  refine o_aload P (hb hby at_105) rfl rfl (pc' := 107) rfl ?_
  refine o_aload P (hb hby at_107) rfl rfl (pc' := 109) rfl ?_
  have hn_d := P.n0le; have hk_d := P.keep0.1
  refine o_callV P (W := 0) (x := (⟨"java/util/ArrayList", "add", "(Ljava/lang/Object;)Z"⟩ : MethodName)) (y := (⟨"java/util/ArrayList", "add", "(Ljava/lang/Object;)Z"⟩ : MethodName)) (a := a) (ow hw 105 rfl) (ow hw 106 rfl) (o_nfSel (y := (⟨"java/util/ArrayList", "add", "(Ljava/lang/Object;)Z"⟩ : MethodName)) rfl (ow hw 108 rfl)) (ow hw 108 rfl) (ow hw 107 rfl) (ow hw 83 rfl) (ow hw 109 rfl) (by decide) F_a.exa (ct_add_0 l Z a0 hw EL n0 a r0 _ de hde Ade h14 F_a (OObj.zero F_r0.exa) (Ne.symm ne_r0_a)) (o_sfS (List.Mem.head _) o_sf0) (by rw [hml]; rfl) (by decide) (by decide) (argsL := [(.ref r0)]) (rest := []) (lenOf pd_26 rfl) rfl rfl (Nat.le_of_eq rfl) (hb hby at_109) (pc' := 112) rfl (by decide) (by decide) ?_
  clear P; intro T h15 v15 P K15 q15
  obtain ⟨rfl, d, gd, F', A_d, O_d⟩ := q15
  have ne_m0_d : m0 ≠ d := Nat.ne_of_lt (Nat.lt_of_lt_of_le F_m0.lt gd)
  have ne_m1_d : m1 ≠ d := Nat.ne_of_lt (Nat.lt_of_lt_of_le F_m1.lt gd)
  have ne_m2_d : m2 ≠ d := Nat.ne_of_lt (Nat.lt_of_lt_of_le F_m2.lt gd)
  have ne_m3_d : m3 ≠ d := Nat.ne_of_lt (Nat.lt_of_lt_of_le F_m3.lt gd)
  have ne_r0_d : r0 ≠ d := Nat.ne_of_lt (Nat.lt_of_lt_of_le F_r0.lt gd)
  have ne_r1_d : r1 ≠ d := Nat.ne_of_lt (Nat.lt_of_lt_of_le F_r1.lt gd)
  have ne_r2_d : r2 ≠ d := Nat.ne_of_lt (Nat.lt_of_lt_of_le F_r2.lt gd)
  have ne_r3_d : r3 ≠ d := Nat.ne_of_lt (Nat.lt_of_lt_of_le F_r3.lt gd)
  have ne_a_d : a ≠ d := Nat.ne_of_lt (Nat.lt_of_lt_of_le F_a.lt gd)
  replace F_m0 := F_m0.keep K15 (ninS ne_m0_a nin0)
  replace F_m1 := F_m1.keep K15 (ninS ne_m1_a nin0)
  replace F_m2 := F_m2.keep K15 (ninS ne_m2_a nin0)
  replace F_m3 := F_m3.keep K15 (ninS ne_m3_a nin0)
  replace F_r0 := F_r0.keep K15 (ninS ne_r0_a nin0)
  replace F_r1 := F_r1.keep K15 (ninS ne_r1_a nin0)
  replace F_r2 := F_r2.keep K15 (ninS ne_r2_a nin0)
  replace F_r3 := F_r3.keep K15 (ninS ne_r3_a nin0)
  replace F_a := F'; clear F'; clear K15
  replace P := P.moreA A_d (fun q => by cases q) (Nat.le_trans hn_d gd) (Nat.le_trans hk_d gd)
  replace F_a : OObj Z h15 a "java/util/ArrayList" [("java/util/AbstractList", "modCount", "I", (.int (1 : Int32))), ("java/util/ArrayList", "elementData", "[Ljava/lang/Object;", (.ref d)), ("java/util/ArrayList", "size", "I", (.int (1 : Int32)))] := F_a
  show OG p e below m _ T 112 #[.val (.int i0), .val (.int i1), .val (.int q), .val (.int (1 : Int32)), .val (.ref m0), .val (.ref m1), .val (.ref m2), .val (.ref m3), .val (.ref r0), .val (.ref r1), .val (.ref r2), .val (.ref r3), .val (.ref a), .unset, .unset] [(.int (1 : Int32))]
  refine o_pop P (hb hby at_112) rfl (pc' := 113) rfl ?_
  refine o_iloadN P (hb hby at_113) rfl (pc' := 114) rfl ?_
  refine o_iconst P (2 : Int32) (hb hby at_114) rfl (pc' := 115) rfl ?_
  refine o_icmp_lt P (hb hby at_115) (by decide) (pc' := 126) (by decide) (pcf := 118) rfl (fun _ => ?_) (fun q => absurd (by decide) q)
  refine o_iloadN P (hb hby at_126) rfl (pc' := 127) rfl ?_
  refine o_iconst P (3 : Int32) (hb hby at_127) rfl (pc' := 128) rfl ?_
  refine o_icmp_lt P (hb hby at_128) (by decide) (pc' := 139) (by decide) (pcf := 131) rfl (fun _ => ?_) (fun q => absurd (by decide) q)
  refine o_iloadN P (hb hby at_139) rfl (pc' := 140) rfl ?_
  refine o_iconst P (4 : Int32) (hb hby at_140) rfl (pc' := 141) rfl ?_
  refine o_icmp_lt P (hb hby at_141) (by decide) (pc' := 152) (by decide) (pcf := 144) rfl (fun _ => ?_) (fun q => absurd (by decide) q)
  have hz_u := P.keep0.1
  refine o_new P [("com/example/pledgebook/pledgebook/model/Ledger", "months", "Ljava/util/List;", .null)] (ow hw 136 rfl) (ow hw 137 rfl) (ow hw 138 rfl) (OLd.cons (Or.inr (ow hw 232 rfl)) (ty := (.object "java/util/List")) (by decide) rfl OLd.nil) (by decide +kernel) (hb hby at_152) (pc' := 155) rfl (by decide) (by decide) ?_
  clear P; intro T h16 u P K16 hb_u F_u
  have sz_u := Nat.le_trans hz_u hb_u
  clear hz_u
  have ne_m0_u : m0 ≠ u := Nat.ne_of_lt (Nat.lt_of_lt_of_le F_m0.lt hb_u)
  have ne_m1_u : m1 ≠ u := Nat.ne_of_lt (Nat.lt_of_lt_of_le F_m1.lt hb_u)
  have ne_m2_u : m2 ≠ u := Nat.ne_of_lt (Nat.lt_of_lt_of_le F_m2.lt hb_u)
  have ne_m3_u : m3 ≠ u := Nat.ne_of_lt (Nat.lt_of_lt_of_le F_m3.lt hb_u)
  have ne_r0_u : r0 ≠ u := Nat.ne_of_lt (Nat.lt_of_lt_of_le F_r0.lt hb_u)
  have ne_r1_u : r1 ≠ u := Nat.ne_of_lt (Nat.lt_of_lt_of_le F_r1.lt hb_u)
  have ne_r2_u : r2 ≠ u := Nat.ne_of_lt (Nat.lt_of_lt_of_le F_r2.lt hb_u)
  have ne_r3_u : r3 ≠ u := Nat.ne_of_lt (Nat.lt_of_lt_of_le F_r3.lt hb_u)
  have ne_a_u : a ≠ u := Nat.ne_of_lt (Nat.lt_of_lt_of_le F_a.lt hb_u)
  have ne_d_u : d ≠ u := Nat.ne_of_lt (Nat.lt_of_lt_of_le A_d.lt hb_u)
  replace F_m0 := F_m0.keep K16 nin0
  replace F_m1 := F_m1.keep K16 nin0
  replace F_m2 := F_m2.keep K16 nin0
  replace F_m3 := F_m3.keep K16 nin0
  replace F_r0 := F_r0.keep K16 nin0
  replace F_r1 := F_r1.keep K16 nin0
  replace F_r2 := F_r2.keep K16 nin0
  replace F_r3 := F_r3.keep K16 nin0
  replace F_a := F_a.keep K16 nin0
  replace A_d := A_d.keep K16 nin0
  replace O_d := O_d.keep K16
  clear K16
  refine o_dup P (hb hby at_155) rfl (pc' := 156) rfl ?_
  refine o_aload P (hb hby at_156) rfl rfl (pc' := 158) rfl ?_
  refine o_callI P (W := 1) (a := u) rfl (ow hw 139 rfl) (ow hw 140 rfl) (ow hw 138 rfl) (ow hw 141 rfl) (by decide) (ct_lei_1 l Z a0 hw EL n0 u a _ d r0 mir hmir em hem Fem h16 A_d O_d (OObj.zero F_r0.exa) F_a F_u) (o_sfS (List.Mem.head _) o_sf0) (by rw [hml]; rfl) (by decide) (by decide) (argsL := [(.ref a)]) (rest := [(.ref u)]) (lenOf pd_27 rfl) rfl rfl (Nat.le_of_eq rfl) (hb hby at_158) (pc' := 161) rfl (by decide) (by decide) ?_
  clear P; intro T h17 v17 P K17 q17
  obtain ⟨rfl, g, F', F_g⟩ := q17
  replace F_m0 := F_m0.keep K17 (ninS ne_m0_u nin0)
  replace F_m1 := F_m1.keep K17 (ninS ne_m1_u nin0)
  replace F_m2 := F_m2.keep K17 (ninS ne_m2_u nin0)
  replace F_m3 := F_m3.keep K17 (ninS ne_m3_u nin0)
  replace F_r0 := F_r0.keep K17 (ninS ne_r0_u nin0)
  replace F_r1 := F_r1.keep K17 (ninS ne_r1_u nin0)
  replace F_r2 := F_r2.keep K17 (ninS ne_r2_u nin0)
  replace F_r3 := F_r3.keep K17 (ninS ne_r3_u nin0)
  replace F_a := F_a.keep K17 (ninS ne_a_u nin0)
  replace A_d := A_d.keep K17 (ninS ne_d_u nin0)
  replace O_d := O_d.keep K17
  replace F_u := F'; clear F' K17
  show OG p e below m _ T 161 #[.val (.int i0), .val (.int i1), .val (.int q), .val (.int (1 : Int32)), .val (.ref m0), .val (.ref m1), .val (.ref m2), .val (.ref m3), .val (.ref r0), .val (.ref r1), .val (.ref r2), .val (.ref r3), .val (.ref a), .unset, .unset] [(.ref u)]
  refine o_astore P (hb hby at_161) rfl (L' := #[.val (.int i0), .val (.int i1), .val (.int q), .val (.int (1 : Int32)), .val (.ref m0), .val (.ref m1), .val (.ref m2), .val (.ref m3), .val (.ref r0), .val (.ref r1), .val (.ref r2), .val (.ref r3), .val (.ref a), .val (.ref u), .unset]) rfl (pc' := 163) rfl ?_
  refine o_iloadN P (hb hby at_163) rfl (pc' := 164) rfl ?_
  refine o_iconst P (1 : Int32) (hb hby at_164) rfl (pc' := 165) rfl ?_
  refine o_icmp_ne P (hb hby at_165) (by decide) (pc' := 175) (by decide) (pcf := 168) rfl (fun q => absurd (by decide) q) (fun _ => ?_)
  refine o_aload P (hb hby at_168) rfl rfl (pc' := 170) rfl ?_
  refine o_astore P (hb hby at_170) rfl (L' := #[.val (.int i0), .val (.int i1), .val (.int q), .val (.int (1 : Int32)), .val (.ref m0), .val (.ref m1), .val (.ref m2), .val (.ref m3), .val (.ref r0), .val (.ref r1), .val (.ref r2), .val (.ref r3), .val (.ref a), .val (.ref u), .val (.ref m0)]) rfl (pc' := 172) rfl ?_
  refine o_goto P (hb hby at_172) (by decide) (pc' := 203) (by decide) ?_
  refine o_aload P (hb hby at_203) rfl rfl (pc' := 205) rfl ?_
  have F_l : OObj Z h17 r0 "com/example/pledgebook/pledgebook/model/LedgerMonth" [("com/example/pledgebook/pledgebook/model/LedgerMonth", "month", "Ljava/time/YearMonth;", (.ref m0))] := OObj.one F_r0.exa (F_r0.fld 0 rfl)
  refine o_callV P (W := 0) (x := (⟨"com/example/pledgebook/pledgebook/model/Ledger", "lastMonth", "()Ljava/time/YearMonth;"⟩ : MethodName)) (y := (⟨"com/example/pledgebook/pledgebook/model/Ledger", "lastMonth", "()Ljava/time/YearMonth;"⟩ : MethodName)) (a := u) (ow hw 233 rfl) (ow hw 234 rfl) (o_nfSel (y := (⟨"com/example/pledgebook/pledgebook/model/Ledger", "lastMonth", "()Ljava/time/YearMonth;"⟩ : MethodName)) rfl (ow hw 236 rfl)) (ow hw 236 rfl) (ow hw 235 rfl) (ow hw 138 rfl) (ow hw 237 rfl) (by decide) F_u.exa (ct_las_1 l Z a0 hw EL n0 u g r0 m0 em hem Fem h17 F_u F_g  F_l) o_sf0 (by rw [hml]; rfl) (by decide) (by decide) (argsL := []) (rest := []) (lenOf pd_23 rfl) rfl rfl (Nat.le_of_eq rfl) (hb hby at_205) (pc' := 208) rfl (by decide) (by decide) ?_
  clear P; intro T h18 v18 P K18 q18
  obtain ⟨rfl, rfl⟩ := q18; clear K18
  show OG p e below m _ T 208 #[.val (.int i0), .val (.int i1), .val (.int q), .val (.int (1 : Int32)), .val (.ref m0), .val (.ref m1), .val (.ref m2), .val (.ref m3), .val (.ref r0), .val (.ref r1), .val (.ref r2), .val (.ref r3), .val (.ref a), .val (.ref u), .val (.ref m0)] [(.ref m0)]
  refine o_aload P (hb hby at_208) rfl rfl (pc' := 210) rfl ?_
  refine o_acmp P true (hb hby at_210) rfl rfl (decide_eq_true rfl) (by decide) (pc' := 213) rfl ?_
  refine o_iconst P (1 : Int32) (hb hby at_213) rfl (pc' := 214) rfl ?_
  refine o_goto P (hb hby at_214) (by decide) (pc' := 218) (by decide) ?_
  exact o_retI P hret (by simp) rfl (hb hby at_218) (by decide) (by decide) rfl
set_option maxRecDepth 65536 in
set_option maxHeartbeats 40000000 in
theorem law14_2 {p : Program} {e : Env} {s : State} {m : MethodId} {args : Array Value} {below : List Frame} {meth : Method} {c : Code} {T : State} {n0 : Nat} {h0 : Heap} (l : Launch) (Z : State) (a0 : Array Value) (hw : ∀ d ∈ tables_1, d.before a0 Z = true) (EL : List (String × Nat)) (hby : c.code = code) (hml : c.maxLocals = maxLocals) (hret : meth.sig.returnType = ret) (i0 i1 q : Int32) (hq0 : 0 ≤ q.toInt) (hq1 : q.toInt ≤ 11999999) (fy vy fm vm : Addr) (hfy : Sta Z Z.heap "java/time/temporal/ChronoField" "YEAR" "Ljava/time/temporal/ChronoField;" (.ref fy)) (hfm : Sta Z Z.heap "java/time/temporal/ChronoField" "MONTH_OF_YEAR" "Ljava/time/temporal/ChronoField;" (.ref fm)) (Fy : OObj Z Z.heap fy "java/time/temporal/ChronoField" [("java/time/temporal/ChronoField", "range", "Ljava/time/temporal/ValueRange;", (.ref vy))]) (Fvy : OObj Z Z.heap vy "java/time/temporal/ValueRange" [("java/time/temporal/ValueRange", "minSmallest", "J", (.long (-999999999 : Int64))), ("java/time/temporal/ValueRange", "maxLargest", "J", (.long (999999999 : Int64)))]) (Fm : OObj Z Z.heap fm "java/time/temporal/ChronoField" [("java/time/temporal/ChronoField", "range", "Ljava/time/temporal/ValueRange;", (.ref vm))]) (Fvm : OObj Z Z.heap vm "java/time/temporal/ValueRange" [("java/time/temporal/ValueRange", "minSmallest", "J", (.long (1 : Int64))), ("java/time/temporal/ValueRange", "maxLargest", "J", (.long (12 : Int64)))]) (de : Addr) (hde : Sta Z Z.heap "java/util/ArrayList" "DEFAULTCAPACITY_EMPTY_ELEMENTDATA" "[Ljava/lang/Object;" (.ref de)) (Ade : OArr Z Z.heap de (.object "java/lang/Object") []) (em : Addr) (hem : Sta Z Z.heap "java/util/ImmutableCollections" "EMPTY" "Ljava/lang/Object;" (.ref em)) (Fem : OObj Z Z.heap em "java/lang/Object" []) (mir : Addr) (hmir : OMir Z "[Ljava/lang/Object;" mir) (P : OPn p l e room_1 s m args below meth c Z a0 EL n0 [] "com/example/pledgebook/pledgebook/model/LedgerLastMonthPinLaw" T h0 [] 0 0) :
    OG p e below m (OFq Z EL n0 s [] room_1 (fun w vm h => w = some (.int 1))) T 14 #[.val (.int i0), .val (.int i1), .val (.int q), .val (.int (2 : Int32)), .unset, .unset, .unset, .unset, .unset, .unset, .unset, .unset, .unset, .unset, .unset] [] := by
  refine o_iloadN P (hb hby at_14) rfl (pc' := 15) rfl ?_
  refine o_callS P (W := 0) (ow hw 2 rfl) (ow hw 3 rfl) (ow hw 4 rfl) (ow hw 5 rfl) (by decide) (ct_ym l Z a0 hw EL n0 q hq0 (by omega) fy vy fm vm hfy hfm Fy Fvy Fm Fvm h0) o_sf0 (by rw [hml]; rfl) (by decide) (by decide) (argsL := [(.int q)]) (rest := []) (lenOf pd_24 rfl) rfl rfl (Nat.le_of_eq rfl) (hb hby at_15) (pc' := 18) rfl (by decide) (by decide) ?_
  clear P; intro T h1 v1 P K1 q1
  obtain ⟨m0, rfl, g0, F_m0⟩ := q1
  clear K1
  show OG p e below m _ T 18 #[.val (.int i0), .val (.int i1), .val (.int q), .val (.int (2 : Int32)), .unset, .unset, .unset, .unset, .unset, .unset, .unset, .unset, .unset, .unset, .unset] [(.ref m0)]
  refine o_astore P (hb hby at_18) rfl (L' := #[.val (.int i0), .val (.int i1), .val (.int q), .val (.int (2 : Int32)), .val (.ref m0), .unset, .unset, .unset, .unset, .unset, .unset, .unset, .unset, .unset, .unset]) rfl (pc' := 20) rfl ?_
  refine o_iloadN P (hb hby at_20) rfl (pc' := 21) rfl ?_
  refine o_iconst P (1 : Int32) (hb hby at_21) rfl (pc' := 22) rfl ?_
  refine o_iadd P (hb hby at_22) (pc' := 23) rfl ?_
  refine o_callS P (W := 0) (ow hw 2 rfl) (ow hw 3 rfl) (ow hw 4 rfl) (ow hw 5 rfl) (by decide) (ct_ym l Z a0 hw EL n0 (q + (1 : Int32)) (own_q q 1 hq0 hq1 (by decide)).1 (own_q q 1 hq0 hq1 (by decide)).2 fy vy fm vm hfy hfm Fy Fvy Fm Fvm h1) o_sf0 (by rw [hml]; rfl) (by decide) (by decide) (argsL := [(.int (q + (1 : Int32)))]) (rest := []) (lenOf pd_24 rfl) rfl rfl (Nat.le_of_eq rfl) (hb hby at_23) (pc' := 26) rfl (by decide) (by decide) ?_
  clear P; intro T h2 v2 P K2 q2
  obtain ⟨m1, rfl, g1, F_m1⟩ := q2
  have ne_m0_m1 : m0 ≠ m1 := Nat.ne_of_lt (Nat.lt_of_lt_of_le F_m0.lt g1)
  replace F_m0 := F_m0.keep K2 nin0
  clear K2
  show OG p e below m _ T 26 #[.val (.int i0), .val (.int i1), .val (.int q), .val (.int (2 : Int32)), .val (.ref m0), .unset, .unset, .unset, .unset, .unset, .unset, .unset, .unset, .unset, .unset] [(.ref m1)]
  refine o_astore P (hb hby at_26) rfl (L' := #[.val (.int i0), .val (.int i1), .val (.int q), .val (.int (2 : Int32)), .val (.ref m0), .val (.ref m1), .unset, .unset, .unset, .unset, .unset, .unset, .unset, .unset, .unset]) rfl (pc' := 28) rfl ?_
  refine o_iloadN P (hb hby at_28) rfl (pc' := 29) rfl ?_
  refine o_iconst P (2 : Int32) (hb hby at_29) rfl (pc' := 30) rfl ?_
  refine o_iadd P (hb hby at_30) (pc' := 31) rfl ?_
  refine o_callS P (W := 0) (ow hw 2 rfl) (ow hw 3 rfl) (ow hw 4 rfl) (ow hw 5 rfl) (by decide) (ct_ym l Z a0 hw EL n0 (q + (2 : Int32)) (own_q q 2 hq0 hq1 (by decide)).1 (own_q q 2 hq0 hq1 (by decide)).2 fy vy fm vm hfy hfm Fy Fvy Fm Fvm h2) o_sf0 (by rw [hml]; rfl) (by decide) (by decide) (argsL := [(.int (q + (2 : Int32)))]) (rest := []) (lenOf pd_24 rfl) rfl rfl (Nat.le_of_eq rfl) (hb hby at_31) (pc' := 34) rfl (by decide) (by decide) ?_
  clear P; intro T h3 v3 P K3 q3
  obtain ⟨m2, rfl, g2, F_m2⟩ := q3
  have ne_m0_m2 : m0 ≠ m2 := Nat.ne_of_lt (Nat.lt_of_lt_of_le F_m0.lt g2)
  have ne_m1_m2 : m1 ≠ m2 := Nat.ne_of_lt (Nat.lt_of_lt_of_le F_m1.lt g2)
  replace F_m0 := F_m0.keep K3 nin0
  replace F_m1 := F_m1.keep K3 nin0
  clear K3
  show OG p e below m _ T 34 #[.val (.int i0), .val (.int i1), .val (.int q), .val (.int (2 : Int32)), .val (.ref m0), .val (.ref m1), .unset, .unset, .unset, .unset, .unset, .unset, .unset, .unset, .unset] [(.ref m2)]
  refine o_astore P (hb hby at_34) rfl (L' := #[.val (.int i0), .val (.int i1), .val (.int q), .val (.int (2 : Int32)), .val (.ref m0), .val (.ref m1), .val (.ref m2), .unset, .unset, .unset, .unset, .unset, .unset, .unset, .unset]) rfl (pc' := 36) rfl ?_
  refine o_iloadN P (hb hby at_36) rfl (pc' := 37) rfl ?_
  refine o_iconst P (3 : Int32) (hb hby at_37) rfl (pc' := 38) rfl ?_
  refine o_iadd P (hb hby at_38) (pc' := 39) rfl ?_
  refine o_callS P (W := 0) (ow hw 2 rfl) (ow hw 3 rfl) (ow hw 4 rfl) (ow hw 5 rfl) (by decide) (ct_ym l Z a0 hw EL n0 (q + (3 : Int32)) (own_q q 3 hq0 hq1 (by decide)).1 (own_q q 3 hq0 hq1 (by decide)).2 fy vy fm vm hfy hfm Fy Fvy Fm Fvm h3) o_sf0 (by rw [hml]; rfl) (by decide) (by decide) (argsL := [(.int (q + (3 : Int32)))]) (rest := []) (lenOf pd_24 rfl) rfl rfl (Nat.le_of_eq rfl) (hb hby at_39) (pc' := 42) rfl (by decide) (by decide) ?_
  clear P; intro T h4 v4 P K4 q4
  obtain ⟨m3, rfl, g3, F_m3⟩ := q4
  have ne_m0_m3 : m0 ≠ m3 := Nat.ne_of_lt (Nat.lt_of_lt_of_le F_m0.lt g3)
  have ne_m1_m3 : m1 ≠ m3 := Nat.ne_of_lt (Nat.lt_of_lt_of_le F_m1.lt g3)
  have ne_m2_m3 : m2 ≠ m3 := Nat.ne_of_lt (Nat.lt_of_lt_of_le F_m2.lt g3)
  replace F_m0 := F_m0.keep K4 nin0
  replace F_m1 := F_m1.keep K4 nin0
  replace F_m2 := F_m2.keep K4 nin0
  clear K4
  show OG p e below m _ T 42 #[.val (.int i0), .val (.int i1), .val (.int q), .val (.int (2 : Int32)), .val (.ref m0), .val (.ref m1), .val (.ref m2), .unset, .unset, .unset, .unset, .unset, .unset, .unset, .unset] [(.ref m3)]
  refine o_astore P (hb hby at_42) rfl (L' := #[.val (.int i0), .val (.int i1), .val (.int q), .val (.int (2 : Int32)), .val (.ref m0), .val (.ref m1), .val (.ref m2), .val (.ref m3), .unset, .unset, .unset, .unset, .unset, .unset, .unset]) rfl (pc' := 44) rfl ?_
  have hz_r0 := P.keep0.1
  refine o_new P [("com/example/pledgebook/pledgebook/model/LedgerMonth", "month", "Ljava/time/YearMonth;", .null), ("com/example/pledgebook/pledgebook/model/LedgerMonth", "grossRevenues", "Ljava/math/BigDecimal;", .null), ("com/example/pledgebook/pledgebook/model/LedgerMonth", "operatingExpenses", "Ljava/math/BigDecimal;", .null)] (ow hw 63 rfl) (ow hw 64 rfl) (ow hw 65 rfl) (OLd.cons (Or.inr (ow hw 76 rfl)) (ty := (.object "java/time/YearMonth")) (by decide) rfl (OLd.cons (Or.inr (ow hw 78 rfl)) (ty := (.object "java/math/BigDecimal")) (by decide) rfl (OLd.cons (Or.inr (ow hw 80 rfl)) (ty := (.object "java/math/BigDecimal")) (by decide) rfl OLd.nil))) (by decide +kernel) (hb hby at_44) (pc' := 47) rfl (by decide) (by decide) ?_
  clear P; intro T h5 r0 P K5 hb_r0 F_r0
  have sz_r0 := Nat.le_trans hz_r0 hb_r0
  clear hz_r0
  have ne_m0_r0 : m0 ≠ r0 := Nat.ne_of_lt (Nat.lt_of_lt_of_le F_m0.lt hb_r0)
  have ne_m1_r0 : m1 ≠ r0 := Nat.ne_of_lt (Nat.lt_of_lt_of_le F_m1.lt hb_r0)
  have ne_m2_r0 : m2 ≠ r0 := Nat.ne_of_lt (Nat.lt_of_lt_of_le F_m2.lt hb_r0)
  have ne_m3_r0 : m3 ≠ r0 := Nat.ne_of_lt (Nat.lt_of_lt_of_le F_m3.lt hb_r0)
  replace F_m0 := F_m0.keep K5 nin0
  replace F_m1 := F_m1.keep K5 nin0
  replace F_m2 := F_m2.keep K5 nin0
  replace F_m3 := F_m3.keep K5 nin0
  clear K5
  refine o_dup P (hb hby at_47) rfl (pc' := 48) rfl ?_
  refine o_aload P (hb hby at_48) rfl rfl (pc' := 50) rfl ?_
  refine o_aconstNull P (hb hby at_50) (pc' := 51) rfl ?_
  refine o_aconstNull P (hb hby at_51) (pc' := 52) rfl ?_
  refine o_callI P (W := 1) (a := r0) rfl (ow hw 66 rfl) (ow hw 67 rfl) (ow hw 65 rfl) (ow hw 68 rfl) (by decide) (ct_lmi l Z a0 hw EL n0 r0 m0 h5 F_r0) (o_sfS (List.Mem.head _) o_sf0) (by rw [hml]; rfl) (by decide) (by decide) (argsL := [(.ref m0), .null, .null]) (rest := [(.ref r0)]) (lenOf pd_25 rfl) rfl rfl (Nat.le_of_eq rfl) (hb hby at_52) (pc' := 55) rfl (by decide) (by decide) ?_
  clear P; intro T h6 v6 P K6 q6
  obtain ⟨rfl, F'⟩ := q6
  replace F_m0 := F_m0.keep K6 (ninS ne_m0_r0 nin0)
  replace F_m1 := F_m1.keep K6 (ninS ne_m1_r0 nin0)
  replace F_m2 := F_m2.keep K6 (ninS ne_m2_r0 nin0)
  replace F_m3 := F_m3.keep K6 (ninS ne_m3_r0 nin0)
  clear K6
  replace F_r0 := F'; clear F'
  show OG p e below m _ T 55 #[.val (.int i0), .val (.int i1), .val (.int q), .val (.int (2 : Int32)), .val (.ref m0), .val (.ref m1), .val (.ref m2), .val (.ref m3), .unset, .unset, .unset, .unset, .unset, .unset, .unset] [(.ref r0)]
  refine o_astore P (hb hby at_55) rfl (L' := #[.val (.int i0), .val (.int i1), .val (.int q), .val (.int (2 : Int32)), .val (.ref m0), .val (.ref m1), .val (.ref m2), .val (.ref m3), .val (.ref r0), .unset, .unset, .unset, .unset, .unset, .unset]) rfl (pc' := 57) rfl ?_
  have hz_r1 := P.keep0.1
  refine o_new P [("com/example/pledgebook/pledgebook/model/LedgerMonth", "month", "Ljava/time/YearMonth;", .null), ("com/example/pledgebook/pledgebook/model/LedgerMonth", "grossRevenues", "Ljava/math/BigDecimal;", .null), ("com/example/pledgebook/pledgebook/model/LedgerMonth", "operatingExpenses", "Ljava/math/BigDecimal;", .null)] (ow hw 63 rfl) (ow hw 64 rfl) (ow hw 65 rfl) (OLd.cons (Or.inr (ow hw 76 rfl)) (ty := (.object "java/time/YearMonth")) (by decide) rfl (OLd.cons (Or.inr (ow hw 78 rfl)) (ty := (.object "java/math/BigDecimal")) (by decide) rfl (OLd.cons (Or.inr (ow hw 80 rfl)) (ty := (.object "java/math/BigDecimal")) (by decide) rfl OLd.nil))) (by decide +kernel) (hb hby at_57) (pc' := 60) rfl (by decide) (by decide) ?_
  clear P; intro T h7 r1 P K7 hb_r1 F_r1
  have sz_r1 := Nat.le_trans hz_r1 hb_r1
  clear hz_r1
  have ne_m0_r1 : m0 ≠ r1 := Nat.ne_of_lt (Nat.lt_of_lt_of_le F_m0.lt hb_r1)
  have ne_m1_r1 : m1 ≠ r1 := Nat.ne_of_lt (Nat.lt_of_lt_of_le F_m1.lt hb_r1)
  have ne_m2_r1 : m2 ≠ r1 := Nat.ne_of_lt (Nat.lt_of_lt_of_le F_m2.lt hb_r1)
  have ne_m3_r1 : m3 ≠ r1 := Nat.ne_of_lt (Nat.lt_of_lt_of_le F_m3.lt hb_r1)
  have ne_r0_r1 : r0 ≠ r1 := Nat.ne_of_lt (Nat.lt_of_lt_of_le F_r0.lt hb_r1)
  replace F_m0 := F_m0.keep K7 nin0
  replace F_m1 := F_m1.keep K7 nin0
  replace F_m2 := F_m2.keep K7 nin0
  replace F_m3 := F_m3.keep K7 nin0
  replace F_r0 := F_r0.keep K7 nin0
  clear K7
  refine o_dup P (hb hby at_60) rfl (pc' := 61) rfl ?_
  refine o_aload P (hb hby at_61) rfl rfl (pc' := 63) rfl ?_
  refine o_aconstNull P (hb hby at_63) (pc' := 64) rfl ?_
  refine o_aconstNull P (hb hby at_64) (pc' := 65) rfl ?_
  refine o_callI P (W := 1) (a := r1) rfl (ow hw 66 rfl) (ow hw 67 rfl) (ow hw 65 rfl) (ow hw 68 rfl) (by decide) (ct_lmi l Z a0 hw EL n0 r1 m1 h7 F_r1) (o_sfS (List.Mem.head _) o_sf0) (by rw [hml]; rfl) (by decide) (by decide) (argsL := [(.ref m1), .null, .null]) (rest := [(.ref r1)]) (lenOf pd_25 rfl) rfl rfl (Nat.le_of_eq rfl) (hb hby at_65) (pc' := 68) rfl (by decide) (by decide) ?_
  clear P; intro T h8 v8 P K8 q8
  obtain ⟨rfl, F'⟩ := q8
  replace F_m0 := F_m0.keep K8 (ninS ne_m0_r1 nin0)
  replace F_m1 := F_m1.keep K8 (ninS ne_m1_r1 nin0)
  replace F_m2 := F_m2.keep K8 (ninS ne_m2_r1 nin0)
  replace F_m3 := F_m3.keep K8 (ninS ne_m3_r1 nin0)
  replace F_r0 := F_r0.keep K8 (ninS ne_r0_r1 nin0)
  clear K8
  replace F_r1 := F'; clear F'
  show OG p e below m _ T 68 #[.val (.int i0), .val (.int i1), .val (.int q), .val (.int (2 : Int32)), .val (.ref m0), .val (.ref m1), .val (.ref m2), .val (.ref m3), .val (.ref r0), .unset, .unset, .unset, .unset, .unset, .unset] [(.ref r1)]
  refine o_astore P (hb hby at_68) rfl (L' := #[.val (.int i0), .val (.int i1), .val (.int q), .val (.int (2 : Int32)), .val (.ref m0), .val (.ref m1), .val (.ref m2), .val (.ref m3), .val (.ref r0), .val (.ref r1), .unset, .unset, .unset, .unset, .unset]) rfl (pc' := 70) rfl ?_
  have hz_r2 := P.keep0.1
  refine o_new P [("com/example/pledgebook/pledgebook/model/LedgerMonth", "month", "Ljava/time/YearMonth;", .null), ("com/example/pledgebook/pledgebook/model/LedgerMonth", "grossRevenues", "Ljava/math/BigDecimal;", .null), ("com/example/pledgebook/pledgebook/model/LedgerMonth", "operatingExpenses", "Ljava/math/BigDecimal;", .null)] (ow hw 63 rfl) (ow hw 64 rfl) (ow hw 65 rfl) (OLd.cons (Or.inr (ow hw 76 rfl)) (ty := (.object "java/time/YearMonth")) (by decide) rfl (OLd.cons (Or.inr (ow hw 78 rfl)) (ty := (.object "java/math/BigDecimal")) (by decide) rfl (OLd.cons (Or.inr (ow hw 80 rfl)) (ty := (.object "java/math/BigDecimal")) (by decide) rfl OLd.nil))) (by decide +kernel) (hb hby at_70) (pc' := 73) rfl (by decide) (by decide) ?_
  clear P; intro T h9 r2 P K9 hb_r2 F_r2
  have sz_r2 := Nat.le_trans hz_r2 hb_r2
  clear hz_r2
  have ne_m0_r2 : m0 ≠ r2 := Nat.ne_of_lt (Nat.lt_of_lt_of_le F_m0.lt hb_r2)
  have ne_m1_r2 : m1 ≠ r2 := Nat.ne_of_lt (Nat.lt_of_lt_of_le F_m1.lt hb_r2)
  have ne_m2_r2 : m2 ≠ r2 := Nat.ne_of_lt (Nat.lt_of_lt_of_le F_m2.lt hb_r2)
  have ne_m3_r2 : m3 ≠ r2 := Nat.ne_of_lt (Nat.lt_of_lt_of_le F_m3.lt hb_r2)
  have ne_r0_r2 : r0 ≠ r2 := Nat.ne_of_lt (Nat.lt_of_lt_of_le F_r0.lt hb_r2)
  have ne_r1_r2 : r1 ≠ r2 := Nat.ne_of_lt (Nat.lt_of_lt_of_le F_r1.lt hb_r2)
  replace F_m0 := F_m0.keep K9 nin0
  replace F_m1 := F_m1.keep K9 nin0
  replace F_m2 := F_m2.keep K9 nin0
  replace F_m3 := F_m3.keep K9 nin0
  replace F_r0 := F_r0.keep K9 nin0
  replace F_r1 := F_r1.keep K9 nin0
  clear K9
  refine o_dup P (hb hby at_73) rfl (pc' := 74) rfl ?_
  refine o_aload P (hb hby at_74) rfl rfl (pc' := 76) rfl ?_
  refine o_aconstNull P (hb hby at_76) (pc' := 77) rfl ?_
  refine o_aconstNull P (hb hby at_77) (pc' := 78) rfl ?_
  refine o_callI P (W := 1) (a := r2) rfl (ow hw 66 rfl) (ow hw 67 rfl) (ow hw 65 rfl) (ow hw 68 rfl) (by decide) (ct_lmi l Z a0 hw EL n0 r2 m2 h9 F_r2) (o_sfS (List.Mem.head _) o_sf0) (by rw [hml]; rfl) (by decide) (by decide) (argsL := [(.ref m2), .null, .null]) (rest := [(.ref r2)]) (lenOf pd_25 rfl) rfl rfl (Nat.le_of_eq rfl) (hb hby at_78) (pc' := 81) rfl (by decide) (by decide) ?_
  clear P; intro T h10 v10 P K10 q10
  obtain ⟨rfl, F'⟩ := q10
  replace F_m0 := F_m0.keep K10 (ninS ne_m0_r2 nin0)
  replace F_m1 := F_m1.keep K10 (ninS ne_m1_r2 nin0)
  replace F_m2 := F_m2.keep K10 (ninS ne_m2_r2 nin0)
  replace F_m3 := F_m3.keep K10 (ninS ne_m3_r2 nin0)
  replace F_r0 := F_r0.keep K10 (ninS ne_r0_r2 nin0)
  replace F_r1 := F_r1.keep K10 (ninS ne_r1_r2 nin0)
  clear K10
  replace F_r2 := F'; clear F'
  show OG p e below m _ T 81 #[.val (.int i0), .val (.int i1), .val (.int q), .val (.int (2 : Int32)), .val (.ref m0), .val (.ref m1), .val (.ref m2), .val (.ref m3), .val (.ref r0), .val (.ref r1), .unset, .unset, .unset, .unset, .unset] [(.ref r2)]
  refine o_astore P (hb hby at_81) rfl (L' := #[.val (.int i0), .val (.int i1), .val (.int q), .val (.int (2 : Int32)), .val (.ref m0), .val (.ref m1), .val (.ref m2), .val (.ref m3), .val (.ref r0), .val (.ref r1), .val (.ref r2), .unset, .unset, .unset, .unset]) rfl (pc' := 83) rfl ?_
  have hz_r3 := P.keep0.1
  refine o_new P [("com/example/pledgebook/pledgebook/model/LedgerMonth", "month", "Ljava/time/YearMonth;", .null), ("com/example/pledgebook/pledgebook/model/LedgerMonth", "grossRevenues", "Ljava/math/BigDecimal;", .null), ("com/example/pledgebook/pledgebook/model/LedgerMonth", "operatingExpenses", "Ljava/math/BigDecimal;", .null)] (ow hw 63 rfl) (ow hw 64 rfl) (ow hw 65 rfl) (OLd.cons (Or.inr (ow hw 76 rfl)) (ty := (.object "java/time/YearMonth")) (by decide) rfl (OLd.cons (Or.inr (ow hw 78 rfl)) (ty := (.object "java/math/BigDecimal")) (by decide) rfl (OLd.cons (Or.inr (ow hw 80 rfl)) (ty := (.object "java/math/BigDecimal")) (by decide) rfl OLd.nil))) (by decide +kernel) (hb hby at_83) (pc' := 86) rfl (by decide) (by decide) ?_
  clear P; intro T h11 r3 P K11 hb_r3 F_r3
  have sz_r3 := Nat.le_trans hz_r3 hb_r3
  clear hz_r3
  have ne_m0_r3 : m0 ≠ r3 := Nat.ne_of_lt (Nat.lt_of_lt_of_le F_m0.lt hb_r3)
  have ne_m1_r3 : m1 ≠ r3 := Nat.ne_of_lt (Nat.lt_of_lt_of_le F_m1.lt hb_r3)
  have ne_m2_r3 : m2 ≠ r3 := Nat.ne_of_lt (Nat.lt_of_lt_of_le F_m2.lt hb_r3)
  have ne_m3_r3 : m3 ≠ r3 := Nat.ne_of_lt (Nat.lt_of_lt_of_le F_m3.lt hb_r3)
  have ne_r0_r3 : r0 ≠ r3 := Nat.ne_of_lt (Nat.lt_of_lt_of_le F_r0.lt hb_r3)
  have ne_r1_r3 : r1 ≠ r3 := Nat.ne_of_lt (Nat.lt_of_lt_of_le F_r1.lt hb_r3)
  have ne_r2_r3 : r2 ≠ r3 := Nat.ne_of_lt (Nat.lt_of_lt_of_le F_r2.lt hb_r3)
  replace F_m0 := F_m0.keep K11 nin0
  replace F_m1 := F_m1.keep K11 nin0
  replace F_m2 := F_m2.keep K11 nin0
  replace F_m3 := F_m3.keep K11 nin0
  replace F_r0 := F_r0.keep K11 nin0
  replace F_r1 := F_r1.keep K11 nin0
  replace F_r2 := F_r2.keep K11 nin0
  clear K11
  refine o_dup P (hb hby at_86) rfl (pc' := 87) rfl ?_
  refine o_aload P (hb hby at_87) rfl rfl (pc' := 89) rfl ?_
  refine o_aconstNull P (hb hby at_89) (pc' := 90) rfl ?_
  refine o_aconstNull P (hb hby at_90) (pc' := 91) rfl ?_
  refine o_callI P (W := 1) (a := r3) rfl (ow hw 66 rfl) (ow hw 67 rfl) (ow hw 65 rfl) (ow hw 68 rfl) (by decide) (ct_lmi l Z a0 hw EL n0 r3 m3 h11 F_r3) (o_sfS (List.Mem.head _) o_sf0) (by rw [hml]; rfl) (by decide) (by decide) (argsL := [(.ref m3), .null, .null]) (rest := [(.ref r3)]) (lenOf pd_25 rfl) rfl rfl (Nat.le_of_eq rfl) (hb hby at_91) (pc' := 94) rfl (by decide) (by decide) ?_
  clear P; intro T h12 v12 P K12 q12
  obtain ⟨rfl, F'⟩ := q12
  replace F_m0 := F_m0.keep K12 (ninS ne_m0_r3 nin0)
  replace F_m1 := F_m1.keep K12 (ninS ne_m1_r3 nin0)
  replace F_m2 := F_m2.keep K12 (ninS ne_m2_r3 nin0)
  replace F_m3 := F_m3.keep K12 (ninS ne_m3_r3 nin0)
  replace F_r0 := F_r0.keep K12 (ninS ne_r0_r3 nin0)
  replace F_r1 := F_r1.keep K12 (ninS ne_r1_r3 nin0)
  replace F_r2 := F_r2.keep K12 (ninS ne_r2_r3 nin0)
  clear K12
  replace F_r3 := F'; clear F'
  show OG p e below m _ T 94 #[.val (.int i0), .val (.int i1), .val (.int q), .val (.int (2 : Int32)), .val (.ref m0), .val (.ref m1), .val (.ref m2), .val (.ref m3), .val (.ref r0), .val (.ref r1), .val (.ref r2), .unset, .unset, .unset, .unset] [(.ref r3)]
  refine o_astore P (hb hby at_94) rfl (L' := #[.val (.int i0), .val (.int i1), .val (.int q), .val (.int (2 : Int32)), .val (.ref m0), .val (.ref m1), .val (.ref m2), .val (.ref m3), .val (.ref r0), .val (.ref r1), .val (.ref r2), .val (.ref r3), .unset, .unset, .unset]) rfl (pc' := 96) rfl ?_
  have hz_a := P.keep0.1
  refine o_new P [("java/util/AbstractList", "modCount", "I", (.int (0 : Int32))), ("java/util/ArrayList", "elementData", "[Ljava/lang/Object;", .null), ("java/util/ArrayList", "size", "I", (.int (0 : Int32)))] (ow hw 81 rfl) (ow hw 82 rfl) (ow hw 83 rfl) (OLd.cons (Or.inl (ow hw 101 rfl)) (ty := .int) (by decide) rfl (OLd.cons (Or.inl (ow hw 104 rfl)) (ty := (.array (.object "java/lang/Object"))) (by decide) rfl (OLd.cons (Or.inl (ow hw 113 rfl)) (ty := .int) (by decide) rfl OLd.nil))) (by decide +kernel) (hb hby at_96) (pc' := 99) rfl (by decide) (by decide) ?_
  clear P; intro T h13 a P K13 hb_a F_a
  have sz_a := Nat.le_trans hz_a hb_a
  clear hz_a
  have ne_m0_a : m0 ≠ a := Nat.ne_of_lt (Nat.lt_of_lt_of_le F_m0.lt hb_a)
  have ne_m1_a : m1 ≠ a := Nat.ne_of_lt (Nat.lt_of_lt_of_le F_m1.lt hb_a)
  have ne_m2_a : m2 ≠ a := Nat.ne_of_lt (Nat.lt_of_lt_of_le F_m2.lt hb_a)
  have ne_m3_a : m3 ≠ a := Nat.ne_of_lt (Nat.lt_of_lt_of_le F_m3.lt hb_a)
  have ne_r0_a : r0 ≠ a := Nat.ne_of_lt (Nat.lt_of_lt_of_le F_r0.lt hb_a)
  have ne_r1_a : r1 ≠ a := Nat.ne_of_lt (Nat.lt_of_lt_of_le F_r1.lt hb_a)
  have ne_r2_a : r2 ≠ a := Nat.ne_of_lt (Nat.lt_of_lt_of_le F_r2.lt hb_a)
  have ne_r3_a : r3 ≠ a := Nat.ne_of_lt (Nat.lt_of_lt_of_le F_r3.lt hb_a)
  replace F_m0 := F_m0.keep K13 nin0
  replace F_m1 := F_m1.keep K13 nin0
  replace F_m2 := F_m2.keep K13 nin0
  replace F_m3 := F_m3.keep K13 nin0
  replace F_r0 := F_r0.keep K13 nin0
  replace F_r1 := F_r1.keep K13 nin0
  replace F_r2 := F_r2.keep K13 nin0
  replace F_r3 := F_r3.keep K13 nin0
  clear K13
  refine o_dup P (hb hby at_99) rfl (pc' := 100) rfl ?_
  refine o_callI P (W := 1) (a := a) rfl (ow hw 84 rfl) (ow hw 85 rfl) (ow hw 83 rfl) (ow hw 86 rfl) (by decide) (ct_ali l Z a0 hw EL n0 a de hde Ade h13 F_a) (o_sfS (List.Mem.head _) o_sf0) (by rw [hml]; rfl) (by decide) (by decide) (argsL := []) (rest := [(.ref a)]) (lenOf pd_7 rfl) rfl rfl (Nat.le_of_eq rfl) (hb hby at_100) (pc' := 103) rfl (by decide) (by decide) ?_
  clear P; intro T h14 v14 P K14 q14
  obtain ⟨rfl, F'⟩ := q14
  replace F_m0 := F_m0.keep K14 (ninS ne_m0_a nin0)
  replace F_m1 := F_m1.keep K14 (ninS ne_m1_a nin0)
  replace F_m2 := F_m2.keep K14 (ninS ne_m2_a nin0)
  replace F_m3 := F_m3.keep K14 (ninS ne_m3_a nin0)
  replace F_r0 := F_r0.keep K14 (ninS ne_r0_a nin0)
  replace F_r1 := F_r1.keep K14 (ninS ne_r1_a nin0)
  replace F_r2 := F_r2.keep K14 (ninS ne_r2_a nin0)
  replace F_r3 := F_r3.keep K14 (ninS ne_r3_a nin0)
  clear K14
  replace F_a := F'; clear F'
  show OG p e below m _ T 103 #[.val (.int i0), .val (.int i1), .val (.int q), .val (.int (2 : Int32)), .val (.ref m0), .val (.ref m1), .val (.ref m2), .val (.ref m3), .val (.ref r0), .val (.ref r1), .val (.ref r2), .val (.ref r3), .unset, .unset, .unset] [(.ref a)]
  refine o_astore P (hb hby at_103) rfl (L' := #[.val (.int i0), .val (.int i1), .val (.int q), .val (.int (2 : Int32)), .val (.ref m0), .val (.ref m1), .val (.ref m2), .val (.ref m3), .val (.ref r0), .val (.ref r1), .val (.ref r2), .val (.ref r3), .val (.ref a), .unset, .unset]) rfl (pc' := 105) rfl ?_
  refine o_aload P (hb hby at_105) rfl rfl (pc' := 107) rfl ?_
  refine o_aload P (hb hby at_107) rfl rfl (pc' := 109) rfl ?_
  have hn_d := P.n0le; have hk_d := P.keep0.1
  refine o_callV P (W := 0) (x := (⟨"java/util/ArrayList", "add", "(Ljava/lang/Object;)Z"⟩ : MethodName)) (y := (⟨"java/util/ArrayList", "add", "(Ljava/lang/Object;)Z"⟩ : MethodName)) (a := a) (ow hw 105 rfl) (ow hw 106 rfl) (o_nfSel (y := (⟨"java/util/ArrayList", "add", "(Ljava/lang/Object;)Z"⟩ : MethodName)) rfl (ow hw 108 rfl)) (ow hw 108 rfl) (ow hw 107 rfl) (ow hw 83 rfl) (ow hw 109 rfl) (by decide) F_a.exa (ct_add_0 l Z a0 hw EL n0 a r0 _ de hde Ade h14 F_a (OObj.zero F_r0.exa) (Ne.symm ne_r0_a)) (o_sfS (List.Mem.head _) o_sf0) (by rw [hml]; rfl) (by decide) (by decide) (argsL := [(.ref r0)]) (rest := []) (lenOf pd_26 rfl) rfl rfl (Nat.le_of_eq rfl) (hb hby at_109) (pc' := 112) rfl (by decide) (by decide) ?_
  clear P; intro T h15 v15 P K15 q15
  obtain ⟨rfl, d, gd, F', A_d, O_d⟩ := q15
  have ne_m0_d : m0 ≠ d := Nat.ne_of_lt (Nat.lt_of_lt_of_le F_m0.lt gd)
  have ne_m1_d : m1 ≠ d := Nat.ne_of_lt (Nat.lt_of_lt_of_le F_m1.lt gd)
  have ne_m2_d : m2 ≠ d := Nat.ne_of_lt (Nat.lt_of_lt_of_le F_m2.lt gd)
  have ne_m3_d : m3 ≠ d := Nat.ne_of_lt (Nat.lt_of_lt_of_le F_m3.lt gd)
  have ne_r0_d : r0 ≠ d := Nat.ne_of_lt (Nat.lt_of_lt_of_le F_r0.lt gd)
  have ne_r1_d : r1 ≠ d := Nat.ne_of_lt (Nat.lt_of_lt_of_le F_r1.lt gd)
  have ne_r2_d : r2 ≠ d := Nat.ne_of_lt (Nat.lt_of_lt_of_le F_r2.lt gd)
  have ne_r3_d : r3 ≠ d := Nat.ne_of_lt (Nat.lt_of_lt_of_le F_r3.lt gd)
  have ne_a_d : a ≠ d := Nat.ne_of_lt (Nat.lt_of_lt_of_le F_a.lt gd)
  replace F_m0 := F_m0.keep K15 (ninS ne_m0_a nin0)
  replace F_m1 := F_m1.keep K15 (ninS ne_m1_a nin0)
  replace F_m2 := F_m2.keep K15 (ninS ne_m2_a nin0)
  replace F_m3 := F_m3.keep K15 (ninS ne_m3_a nin0)
  replace F_r0 := F_r0.keep K15 (ninS ne_r0_a nin0)
  replace F_r1 := F_r1.keep K15 (ninS ne_r1_a nin0)
  replace F_r2 := F_r2.keep K15 (ninS ne_r2_a nin0)
  replace F_r3 := F_r3.keep K15 (ninS ne_r3_a nin0)
  replace F_a := F'; clear F'; clear K15
  replace P := P.moreA A_d (fun q => by cases q) (Nat.le_trans hn_d gd) (Nat.le_trans hk_d gd)
  replace F_a : OObj Z h15 a "java/util/ArrayList" [("java/util/AbstractList", "modCount", "I", (.int (1 : Int32))), ("java/util/ArrayList", "elementData", "[Ljava/lang/Object;", (.ref d)), ("java/util/ArrayList", "size", "I", (.int (1 : Int32)))] := F_a
  show OG p e below m _ T 112 #[.val (.int i0), .val (.int i1), .val (.int q), .val (.int (2 : Int32)), .val (.ref m0), .val (.ref m1), .val (.ref m2), .val (.ref m3), .val (.ref r0), .val (.ref r1), .val (.ref r2), .val (.ref r3), .val (.ref a), .unset, .unset] [(.int (1 : Int32))]
  refine o_pop P (hb hby at_112) rfl (pc' := 113) rfl ?_
  refine o_iloadN P (hb hby at_113) rfl (pc' := 114) rfl ?_
  refine o_iconst P (2 : Int32) (hb hby at_114) rfl (pc' := 115) rfl ?_
  refine o_icmp_lt P (hb hby at_115) (by decide) (pc' := 126) (by decide) (pcf := 118) rfl (fun q => absurd q (by decide)) (fun _ => ?_)
  refine o_aload P (hb hby at_118) rfl rfl (pc' := 120) rfl ?_
  refine o_aload P (hb hby at_120) rfl rfl (pc' := 122) rfl ?_
  refine o_callV P (W := 0) (x := (⟨"java/util/ArrayList", "add", "(Ljava/lang/Object;)Z"⟩ : MethodName)) (y := (⟨"java/util/ArrayList", "add", "(Ljava/lang/Object;)Z"⟩ : MethodName)) (a := a) (ow hw 105 rfl) (ow hw 106 rfl) (o_nfSel (y := (⟨"java/util/ArrayList", "add", "(Ljava/lang/Object;)Z"⟩ : MethodName)) rfl (ow hw 108 rfl)) (ow hw 108 rfl) (ow hw 107 rfl) (ow hw 83 rfl) (ow hw 109 rfl) (by decide) F_a.exa (ct_add_1 l Z a0 hw EL n0 a r1 d r0 _ h15 F_a A_d O_d (OObj.zero F_r1.exa) (Ne.symm ne_r1_a) ne_r1_d ne_a_d) (o_sfS (List.Mem.tail _ (List.Mem.head _)) (o_sfS (List.Mem.head _) o_sf0)) (by rw [hml]; rfl) (by decide) (by decide) (argsL := [(.ref r1)]) (rest := []) (lenOf pd_26 rfl) rfl rfl (Nat.le_of_eq rfl) (hb hby at_122) (pc' := 125) rfl (by decide) (by decide) ?_
  clear P; intro T h16 v16 P K16 q16
  obtain ⟨rfl, F', A', O'⟩ := q16
  replace F_m0 := F_m0.keep K16 (ninS ne_m0_a (ninS ne_m0_d nin0))
  replace F_m1 := F_m1.keep K16 (ninS ne_m1_a (ninS ne_m1_d nin0))
  replace F_m2 := F_m2.keep K16 (ninS ne_m2_a (ninS ne_m2_d nin0))
  replace F_m3 := F_m3.keep K16 (ninS ne_m3_a (ninS ne_m3_d nin0))
  replace F_r0 := F_r0.keep K16 (ninS ne_r0_a (ninS ne_r0_d nin0))
  replace F_r1 := F_r1.keep K16 (ninS ne_r1_a (ninS ne_r1_d nin0))
  replace F_r2 := F_r2.keep K16 (ninS ne_r2_a (ninS ne_r2_d nin0))
  replace F_r3 := F_r3.keep K16 (ninS ne_r3_a (ninS ne_r3_d nin0))
  replace F_a := F'; replace A_d := A'; replace O_d := O'; clear F' A' O' K16
  replace F_a : OObj Z h16 a "java/util/ArrayList" [("java/util/AbstractList", "modCount", "I", (.int (2 : Int32))), ("java/util/ArrayList", "elementData", "[Ljava/lang/Object;", (.ref d)), ("java/util/ArrayList", "size", "I", (.int (2 : Int32)))] := F_a
  show OG p e below m _ T 125 #[.val (.int i0), .val (.int i1), .val (.int q), .val (.int (2 : Int32)), .val (.ref m0), .val (.ref m1), .val (.ref m2), .val (.ref m3), .val (.ref r0), .val (.ref r1), .val (.ref r2), .val (.ref r3), .val (.ref a), .unset, .unset] [(.int (1 : Int32))]
  refine o_pop P (hb hby at_125) rfl (pc' := 126) rfl ?_
  refine o_iloadN P (hb hby at_126) rfl (pc' := 127) rfl ?_
  refine o_iconst P (3 : Int32) (hb hby at_127) rfl (pc' := 128) rfl ?_
  refine o_icmp_lt P (hb hby at_128) (by decide) (pc' := 139) (by decide) (pcf := 131) rfl (fun _ => ?_) (fun q => absurd (by decide) q)
  refine o_iloadN P (hb hby at_139) rfl (pc' := 140) rfl ?_
  refine o_iconst P (4 : Int32) (hb hby at_140) rfl (pc' := 141) rfl ?_
  refine o_icmp_lt P (hb hby at_141) (by decide) (pc' := 152) (by decide) (pcf := 144) rfl (fun _ => ?_) (fun q => absurd (by decide) q)
  have hz_u := P.keep0.1
  refine o_new P [("com/example/pledgebook/pledgebook/model/Ledger", "months", "Ljava/util/List;", .null)] (ow hw 136 rfl) (ow hw 137 rfl) (ow hw 138 rfl) (OLd.cons (Or.inr (ow hw 232 rfl)) (ty := (.object "java/util/List")) (by decide) rfl OLd.nil) (by decide +kernel) (hb hby at_152) (pc' := 155) rfl (by decide) (by decide) ?_
  clear P; intro T h17 u P K17 hb_u F_u
  have sz_u := Nat.le_trans hz_u hb_u
  clear hz_u
  have ne_m0_u : m0 ≠ u := Nat.ne_of_lt (Nat.lt_of_lt_of_le F_m0.lt hb_u)
  have ne_m1_u : m1 ≠ u := Nat.ne_of_lt (Nat.lt_of_lt_of_le F_m1.lt hb_u)
  have ne_m2_u : m2 ≠ u := Nat.ne_of_lt (Nat.lt_of_lt_of_le F_m2.lt hb_u)
  have ne_m3_u : m3 ≠ u := Nat.ne_of_lt (Nat.lt_of_lt_of_le F_m3.lt hb_u)
  have ne_r0_u : r0 ≠ u := Nat.ne_of_lt (Nat.lt_of_lt_of_le F_r0.lt hb_u)
  have ne_r1_u : r1 ≠ u := Nat.ne_of_lt (Nat.lt_of_lt_of_le F_r1.lt hb_u)
  have ne_r2_u : r2 ≠ u := Nat.ne_of_lt (Nat.lt_of_lt_of_le F_r2.lt hb_u)
  have ne_r3_u : r3 ≠ u := Nat.ne_of_lt (Nat.lt_of_lt_of_le F_r3.lt hb_u)
  have ne_a_u : a ≠ u := Nat.ne_of_lt (Nat.lt_of_lt_of_le F_a.lt hb_u)
  have ne_d_u : d ≠ u := Nat.ne_of_lt (Nat.lt_of_lt_of_le A_d.lt hb_u)
  replace F_m0 := F_m0.keep K17 nin0
  replace F_m1 := F_m1.keep K17 nin0
  replace F_m2 := F_m2.keep K17 nin0
  replace F_m3 := F_m3.keep K17 nin0
  replace F_r0 := F_r0.keep K17 nin0
  replace F_r1 := F_r1.keep K17 nin0
  replace F_r2 := F_r2.keep K17 nin0
  replace F_r3 := F_r3.keep K17 nin0
  replace F_a := F_a.keep K17 nin0
  replace A_d := A_d.keep K17 nin0
  replace O_d := O_d.keep K17
  clear K17
  refine o_dup P (hb hby at_155) rfl (pc' := 156) rfl ?_
  refine o_aload P (hb hby at_156) rfl rfl (pc' := 158) rfl ?_
  refine o_callI P (W := 1) (a := u) rfl (ow hw 139 rfl) (ow hw 140 rfl) (ow hw 138 rfl) (ow hw 141 rfl) (by decide) (ct_lei_2 l Z a0 hw EL n0 u a _ d r0 r1 mir hmir em hem Fem h17 A_d O_d (OObj.zero F_r0.exa) (OObj.zero F_r1.exa) F_a F_u) (o_sfS (List.Mem.head _) o_sf0) (by rw [hml]; rfl) (by decide) (by decide) (argsL := [(.ref a)]) (rest := [(.ref u)]) (lenOf pd_27 rfl) rfl rfl (Nat.le_of_eq rfl) (hb hby at_158) (pc' := 161) rfl (by decide) (by decide) ?_
  clear P; intro T h18 v18 P K18 q18
  obtain ⟨rfl, g, F', F_g⟩ := q18
  replace F_m0 := F_m0.keep K18 (ninS ne_m0_u nin0)
  replace F_m1 := F_m1.keep K18 (ninS ne_m1_u nin0)
  replace F_m2 := F_m2.keep K18 (ninS ne_m2_u nin0)
  replace F_m3 := F_m3.keep K18 (ninS ne_m3_u nin0)
  replace F_r0 := F_r0.keep K18 (ninS ne_r0_u nin0)
  replace F_r1 := F_r1.keep K18 (ninS ne_r1_u nin0)
  replace F_r2 := F_r2.keep K18 (ninS ne_r2_u nin0)
  replace F_r3 := F_r3.keep K18 (ninS ne_r3_u nin0)
  replace F_a := F_a.keep K18 (ninS ne_a_u nin0)
  replace A_d := A_d.keep K18 (ninS ne_d_u nin0)
  replace O_d := O_d.keep K18
  replace F_u := F'; clear F' K18
  show OG p e below m _ T 161 #[.val (.int i0), .val (.int i1), .val (.int q), .val (.int (2 : Int32)), .val (.ref m0), .val (.ref m1), .val (.ref m2), .val (.ref m3), .val (.ref r0), .val (.ref r1), .val (.ref r2), .val (.ref r3), .val (.ref a), .unset, .unset] [(.ref u)]
  refine o_astore P (hb hby at_161) rfl (L' := #[.val (.int i0), .val (.int i1), .val (.int q), .val (.int (2 : Int32)), .val (.ref m0), .val (.ref m1), .val (.ref m2), .val (.ref m3), .val (.ref r0), .val (.ref r1), .val (.ref r2), .val (.ref r3), .val (.ref a), .val (.ref u), .unset]) rfl (pc' := 163) rfl ?_
  refine o_iloadN P (hb hby at_163) rfl (pc' := 164) rfl ?_
  refine o_iconst P (1 : Int32) (hb hby at_164) rfl (pc' := 165) rfl ?_
  refine o_icmp_ne P (hb hby at_165) (by decide) (pc' := 175) (by decide) (pcf := 168) rfl (fun _ => ?_) (fun q => absurd q (by decide))
  refine o_iloadN P (hb hby at_175) rfl (pc' := 176) rfl ?_
  refine o_iconst P (2 : Int32) (hb hby at_176) rfl (pc' := 177) rfl ?_
  refine o_icmp_ne P (hb hby at_177) (by decide) (pc' := 187) (by decide) (pcf := 180) rfl (fun q => absurd (by decide) q) (fun _ => ?_)
  refine o_aload P (hb hby at_180) rfl rfl (pc' := 182) rfl ?_
  refine o_astore P (hb hby at_182) rfl (L' := #[.val (.int i0), .val (.int i1), .val (.int q), .val (.int (2 : Int32)), .val (.ref m0), .val (.ref m1), .val (.ref m2), .val (.ref m3), .val (.ref r0), .val (.ref r1), .val (.ref r2), .val (.ref r3), .val (.ref a), .val (.ref u), .val (.ref m1)]) rfl (pc' := 184) rfl ?_
  refine o_goto P (hb hby at_184) (by decide) (pc' := 203) (by decide) ?_
  refine o_aload P (hb hby at_203) rfl rfl (pc' := 205) rfl ?_
  have F_l : OObj Z h18 r1 "com/example/pledgebook/pledgebook/model/LedgerMonth" [("com/example/pledgebook/pledgebook/model/LedgerMonth", "month", "Ljava/time/YearMonth;", (.ref m1))] := OObj.one F_r1.exa (F_r1.fld 0 rfl)
  refine o_callV P (W := 0) (x := (⟨"com/example/pledgebook/pledgebook/model/Ledger", "lastMonth", "()Ljava/time/YearMonth;"⟩ : MethodName)) (y := (⟨"com/example/pledgebook/pledgebook/model/Ledger", "lastMonth", "()Ljava/time/YearMonth;"⟩ : MethodName)) (a := u) (ow hw 233 rfl) (ow hw 234 rfl) (o_nfSel (y := (⟨"com/example/pledgebook/pledgebook/model/Ledger", "lastMonth", "()Ljava/time/YearMonth;"⟩ : MethodName)) rfl (ow hw 236 rfl)) (ow hw 236 rfl) (ow hw 235 rfl) (ow hw 138 rfl) (ow hw 237 rfl) (by decide) F_u.exa (ct_las_2 l Z a0 hw EL n0 u g r0 r1 m1 em hem Fem h18 F_u F_g  F_l) o_sf0 (by rw [hml]; rfl) (by decide) (by decide) (argsL := []) (rest := []) (lenOf pd_23 rfl) rfl rfl (Nat.le_of_eq rfl) (hb hby at_205) (pc' := 208) rfl (by decide) (by decide) ?_
  clear P; intro T h19 v19 P K19 q19
  obtain ⟨rfl, rfl⟩ := q19; clear K19
  show OG p e below m _ T 208 #[.val (.int i0), .val (.int i1), .val (.int q), .val (.int (2 : Int32)), .val (.ref m0), .val (.ref m1), .val (.ref m2), .val (.ref m3), .val (.ref r0), .val (.ref r1), .val (.ref r2), .val (.ref r3), .val (.ref a), .val (.ref u), .val (.ref m1)] [(.ref m1)]
  refine o_aload P (hb hby at_208) rfl rfl (pc' := 210) rfl ?_
  refine o_acmp P true (hb hby at_210) rfl rfl (decide_eq_true rfl) (by decide) (pc' := 213) rfl ?_
  refine o_iconst P (1 : Int32) (hb hby at_213) rfl (pc' := 214) rfl ?_
  refine o_goto P (hb hby at_214) (by decide) (pc' := 218) (by decide) ?_
  exact o_retI P hret (by simp) rfl (hb hby at_218) (by decide) (by decide) rfl
set_option maxRecDepth 65536 in
set_option maxHeartbeats 40000000 in
theorem law14_3 {p : Program} {e : Env} {s : State} {m : MethodId} {args : Array Value} {below : List Frame} {meth : Method} {c : Code} {T : State} {n0 : Nat} {h0 : Heap} (l : Launch) (Z : State) (a0 : Array Value) (hw : ∀ d ∈ tables_1, d.before a0 Z = true) (EL : List (String × Nat)) (hby : c.code = code) (hml : c.maxLocals = maxLocals) (hret : meth.sig.returnType = ret) (i0 i1 q : Int32) (hq0 : 0 ≤ q.toInt) (hq1 : q.toInt ≤ 11999999) (fy vy fm vm : Addr) (hfy : Sta Z Z.heap "java/time/temporal/ChronoField" "YEAR" "Ljava/time/temporal/ChronoField;" (.ref fy)) (hfm : Sta Z Z.heap "java/time/temporal/ChronoField" "MONTH_OF_YEAR" "Ljava/time/temporal/ChronoField;" (.ref fm)) (Fy : OObj Z Z.heap fy "java/time/temporal/ChronoField" [("java/time/temporal/ChronoField", "range", "Ljava/time/temporal/ValueRange;", (.ref vy))]) (Fvy : OObj Z Z.heap vy "java/time/temporal/ValueRange" [("java/time/temporal/ValueRange", "minSmallest", "J", (.long (-999999999 : Int64))), ("java/time/temporal/ValueRange", "maxLargest", "J", (.long (999999999 : Int64)))]) (Fm : OObj Z Z.heap fm "java/time/temporal/ChronoField" [("java/time/temporal/ChronoField", "range", "Ljava/time/temporal/ValueRange;", (.ref vm))]) (Fvm : OObj Z Z.heap vm "java/time/temporal/ValueRange" [("java/time/temporal/ValueRange", "minSmallest", "J", (.long (1 : Int64))), ("java/time/temporal/ValueRange", "maxLargest", "J", (.long (12 : Int64)))]) (de : Addr) (hde : Sta Z Z.heap "java/util/ArrayList" "DEFAULTCAPACITY_EMPTY_ELEMENTDATA" "[Ljava/lang/Object;" (.ref de)) (Ade : OArr Z Z.heap de (.object "java/lang/Object") []) (em : Addr) (hem : Sta Z Z.heap "java/util/ImmutableCollections" "EMPTY" "Ljava/lang/Object;" (.ref em)) (Fem : OObj Z Z.heap em "java/lang/Object" []) (mir : Addr) (hmir : OMir Z "[Ljava/lang/Object;" mir) (P : OPn p l e room_1 s m args below meth c Z a0 EL n0 [] "com/example/pledgebook/pledgebook/model/LedgerLastMonthPinLaw" T h0 [] 0 0) :
    OG p e below m (OFq Z EL n0 s [] room_1 (fun w vm h => w = some (.int 1))) T 14 #[.val (.int i0), .val (.int i1), .val (.int q), .val (.int (3 : Int32)), .unset, .unset, .unset, .unset, .unset, .unset, .unset, .unset, .unset, .unset, .unset] [] := by
  refine o_iloadN P (hb hby at_14) rfl (pc' := 15) rfl ?_
  refine o_callS P (W := 0) (ow hw 2 rfl) (ow hw 3 rfl) (ow hw 4 rfl) (ow hw 5 rfl) (by decide) (ct_ym l Z a0 hw EL n0 q hq0 (by omega) fy vy fm vm hfy hfm Fy Fvy Fm Fvm h0) o_sf0 (by rw [hml]; rfl) (by decide) (by decide) (argsL := [(.int q)]) (rest := []) (lenOf pd_24 rfl) rfl rfl (Nat.le_of_eq rfl) (hb hby at_15) (pc' := 18) rfl (by decide) (by decide) ?_
  clear P; intro T h1 v1 P K1 q1
  obtain ⟨m0, rfl, g0, F_m0⟩ := q1
  clear K1
  show OG p e below m _ T 18 #[.val (.int i0), .val (.int i1), .val (.int q), .val (.int (3 : Int32)), .unset, .unset, .unset, .unset, .unset, .unset, .unset, .unset, .unset, .unset, .unset] [(.ref m0)]
  refine o_astore P (hb hby at_18) rfl (L' := #[.val (.int i0), .val (.int i1), .val (.int q), .val (.int (3 : Int32)), .val (.ref m0), .unset, .unset, .unset, .unset, .unset, .unset, .unset, .unset, .unset, .unset]) rfl (pc' := 20) rfl ?_
  refine o_iloadN P (hb hby at_20) rfl (pc' := 21) rfl ?_
  refine o_iconst P (1 : Int32) (hb hby at_21) rfl (pc' := 22) rfl ?_
  refine o_iadd P (hb hby at_22) (pc' := 23) rfl ?_
  refine o_callS P (W := 0) (ow hw 2 rfl) (ow hw 3 rfl) (ow hw 4 rfl) (ow hw 5 rfl) (by decide) (ct_ym l Z a0 hw EL n0 (q + (1 : Int32)) (own_q q 1 hq0 hq1 (by decide)).1 (own_q q 1 hq0 hq1 (by decide)).2 fy vy fm vm hfy hfm Fy Fvy Fm Fvm h1) o_sf0 (by rw [hml]; rfl) (by decide) (by decide) (argsL := [(.int (q + (1 : Int32)))]) (rest := []) (lenOf pd_24 rfl) rfl rfl (Nat.le_of_eq rfl) (hb hby at_23) (pc' := 26) rfl (by decide) (by decide) ?_
  clear P; intro T h2 v2 P K2 q2
  obtain ⟨m1, rfl, g1, F_m1⟩ := q2
  have ne_m0_m1 : m0 ≠ m1 := Nat.ne_of_lt (Nat.lt_of_lt_of_le F_m0.lt g1)
  replace F_m0 := F_m0.keep K2 nin0
  clear K2
  show OG p e below m _ T 26 #[.val (.int i0), .val (.int i1), .val (.int q), .val (.int (3 : Int32)), .val (.ref m0), .unset, .unset, .unset, .unset, .unset, .unset, .unset, .unset, .unset, .unset] [(.ref m1)]
  refine o_astore P (hb hby at_26) rfl (L' := #[.val (.int i0), .val (.int i1), .val (.int q), .val (.int (3 : Int32)), .val (.ref m0), .val (.ref m1), .unset, .unset, .unset, .unset, .unset, .unset, .unset, .unset, .unset]) rfl (pc' := 28) rfl ?_
  refine o_iloadN P (hb hby at_28) rfl (pc' := 29) rfl ?_
  refine o_iconst P (2 : Int32) (hb hby at_29) rfl (pc' := 30) rfl ?_
  refine o_iadd P (hb hby at_30) (pc' := 31) rfl ?_
  refine o_callS P (W := 0) (ow hw 2 rfl) (ow hw 3 rfl) (ow hw 4 rfl) (ow hw 5 rfl) (by decide) (ct_ym l Z a0 hw EL n0 (q + (2 : Int32)) (own_q q 2 hq0 hq1 (by decide)).1 (own_q q 2 hq0 hq1 (by decide)).2 fy vy fm vm hfy hfm Fy Fvy Fm Fvm h2) o_sf0 (by rw [hml]; rfl) (by decide) (by decide) (argsL := [(.int (q + (2 : Int32)))]) (rest := []) (lenOf pd_24 rfl) rfl rfl (Nat.le_of_eq rfl) (hb hby at_31) (pc' := 34) rfl (by decide) (by decide) ?_
  clear P; intro T h3 v3 P K3 q3
  obtain ⟨m2, rfl, g2, F_m2⟩ := q3
  have ne_m0_m2 : m0 ≠ m2 := Nat.ne_of_lt (Nat.lt_of_lt_of_le F_m0.lt g2)
  have ne_m1_m2 : m1 ≠ m2 := Nat.ne_of_lt (Nat.lt_of_lt_of_le F_m1.lt g2)
  replace F_m0 := F_m0.keep K3 nin0
  replace F_m1 := F_m1.keep K3 nin0
  clear K3
  show OG p e below m _ T 34 #[.val (.int i0), .val (.int i1), .val (.int q), .val (.int (3 : Int32)), .val (.ref m0), .val (.ref m1), .unset, .unset, .unset, .unset, .unset, .unset, .unset, .unset, .unset] [(.ref m2)]
  refine o_astore P (hb hby at_34) rfl (L' := #[.val (.int i0), .val (.int i1), .val (.int q), .val (.int (3 : Int32)), .val (.ref m0), .val (.ref m1), .val (.ref m2), .unset, .unset, .unset, .unset, .unset, .unset, .unset, .unset]) rfl (pc' := 36) rfl ?_
  refine o_iloadN P (hb hby at_36) rfl (pc' := 37) rfl ?_
  refine o_iconst P (3 : Int32) (hb hby at_37) rfl (pc' := 38) rfl ?_
  refine o_iadd P (hb hby at_38) (pc' := 39) rfl ?_
  refine o_callS P (W := 0) (ow hw 2 rfl) (ow hw 3 rfl) (ow hw 4 rfl) (ow hw 5 rfl) (by decide) (ct_ym l Z a0 hw EL n0 (q + (3 : Int32)) (own_q q 3 hq0 hq1 (by decide)).1 (own_q q 3 hq0 hq1 (by decide)).2 fy vy fm vm hfy hfm Fy Fvy Fm Fvm h3) o_sf0 (by rw [hml]; rfl) (by decide) (by decide) (argsL := [(.int (q + (3 : Int32)))]) (rest := []) (lenOf pd_24 rfl) rfl rfl (Nat.le_of_eq rfl) (hb hby at_39) (pc' := 42) rfl (by decide) (by decide) ?_
  clear P; intro T h4 v4 P K4 q4
  obtain ⟨m3, rfl, g3, F_m3⟩ := q4
  have ne_m0_m3 : m0 ≠ m3 := Nat.ne_of_lt (Nat.lt_of_lt_of_le F_m0.lt g3)
  have ne_m1_m3 : m1 ≠ m3 := Nat.ne_of_lt (Nat.lt_of_lt_of_le F_m1.lt g3)
  have ne_m2_m3 : m2 ≠ m3 := Nat.ne_of_lt (Nat.lt_of_lt_of_le F_m2.lt g3)
  replace F_m0 := F_m0.keep K4 nin0
  replace F_m1 := F_m1.keep K4 nin0
  replace F_m2 := F_m2.keep K4 nin0
  clear K4
  show OG p e below m _ T 42 #[.val (.int i0), .val (.int i1), .val (.int q), .val (.int (3 : Int32)), .val (.ref m0), .val (.ref m1), .val (.ref m2), .unset, .unset, .unset, .unset, .unset, .unset, .unset, .unset] [(.ref m3)]
  refine o_astore P (hb hby at_42) rfl (L' := #[.val (.int i0), .val (.int i1), .val (.int q), .val (.int (3 : Int32)), .val (.ref m0), .val (.ref m1), .val (.ref m2), .val (.ref m3), .unset, .unset, .unset, .unset, .unset, .unset, .unset]) rfl (pc' := 44) rfl ?_
  have hz_r0 := P.keep0.1
  refine o_new P [("com/example/pledgebook/pledgebook/model/LedgerMonth", "month", "Ljava/time/YearMonth;", .null), ("com/example/pledgebook/pledgebook/model/LedgerMonth", "grossRevenues", "Ljava/math/BigDecimal;", .null), ("com/example/pledgebook/pledgebook/model/LedgerMonth", "operatingExpenses", "Ljava/math/BigDecimal;", .null)] (ow hw 63 rfl) (ow hw 64 rfl) (ow hw 65 rfl) (OLd.cons (Or.inr (ow hw 76 rfl)) (ty := (.object "java/time/YearMonth")) (by decide) rfl (OLd.cons (Or.inr (ow hw 78 rfl)) (ty := (.object "java/math/BigDecimal")) (by decide) rfl (OLd.cons (Or.inr (ow hw 80 rfl)) (ty := (.object "java/math/BigDecimal")) (by decide) rfl OLd.nil))) (by decide +kernel) (hb hby at_44) (pc' := 47) rfl (by decide) (by decide) ?_
  clear P; intro T h5 r0 P K5 hb_r0 F_r0
  have sz_r0 := Nat.le_trans hz_r0 hb_r0
  clear hz_r0
  have ne_m0_r0 : m0 ≠ r0 := Nat.ne_of_lt (Nat.lt_of_lt_of_le F_m0.lt hb_r0)
  have ne_m1_r0 : m1 ≠ r0 := Nat.ne_of_lt (Nat.lt_of_lt_of_le F_m1.lt hb_r0)
  have ne_m2_r0 : m2 ≠ r0 := Nat.ne_of_lt (Nat.lt_of_lt_of_le F_m2.lt hb_r0)
  have ne_m3_r0 : m3 ≠ r0 := Nat.ne_of_lt (Nat.lt_of_lt_of_le F_m3.lt hb_r0)
  replace F_m0 := F_m0.keep K5 nin0
  replace F_m1 := F_m1.keep K5 nin0
  replace F_m2 := F_m2.keep K5 nin0
  replace F_m3 := F_m3.keep K5 nin0
  clear K5
  refine o_dup P (hb hby at_47) rfl (pc' := 48) rfl ?_
  refine o_aload P (hb hby at_48) rfl rfl (pc' := 50) rfl ?_
  refine o_aconstNull P (hb hby at_50) (pc' := 51) rfl ?_
  refine o_aconstNull P (hb hby at_51) (pc' := 52) rfl ?_
  refine o_callI P (W := 1) (a := r0) rfl (ow hw 66 rfl) (ow hw 67 rfl) (ow hw 65 rfl) (ow hw 68 rfl) (by decide) (ct_lmi l Z a0 hw EL n0 r0 m0 h5 F_r0) (o_sfS (List.Mem.head _) o_sf0) (by rw [hml]; rfl) (by decide) (by decide) (argsL := [(.ref m0), .null, .null]) (rest := [(.ref r0)]) (lenOf pd_25 rfl) rfl rfl (Nat.le_of_eq rfl) (hb hby at_52) (pc' := 55) rfl (by decide) (by decide) ?_
  clear P; intro T h6 v6 P K6 q6
  obtain ⟨rfl, F'⟩ := q6
  replace F_m0 := F_m0.keep K6 (ninS ne_m0_r0 nin0)
  replace F_m1 := F_m1.keep K6 (ninS ne_m1_r0 nin0)
  replace F_m2 := F_m2.keep K6 (ninS ne_m2_r0 nin0)
  replace F_m3 := F_m3.keep K6 (ninS ne_m3_r0 nin0)
  clear K6
  replace F_r0 := F'; clear F'
  show OG p e below m _ T 55 #[.val (.int i0), .val (.int i1), .val (.int q), .val (.int (3 : Int32)), .val (.ref m0), .val (.ref m1), .val (.ref m2), .val (.ref m3), .unset, .unset, .unset, .unset, .unset, .unset, .unset] [(.ref r0)]
  refine o_astore P (hb hby at_55) rfl (L' := #[.val (.int i0), .val (.int i1), .val (.int q), .val (.int (3 : Int32)), .val (.ref m0), .val (.ref m1), .val (.ref m2), .val (.ref m3), .val (.ref r0), .unset, .unset, .unset, .unset, .unset, .unset]) rfl (pc' := 57) rfl ?_
  have hz_r1 := P.keep0.1
  refine o_new P [("com/example/pledgebook/pledgebook/model/LedgerMonth", "month", "Ljava/time/YearMonth;", .null), ("com/example/pledgebook/pledgebook/model/LedgerMonth", "grossRevenues", "Ljava/math/BigDecimal;", .null), ("com/example/pledgebook/pledgebook/model/LedgerMonth", "operatingExpenses", "Ljava/math/BigDecimal;", .null)] (ow hw 63 rfl) (ow hw 64 rfl) (ow hw 65 rfl) (OLd.cons (Or.inr (ow hw 76 rfl)) (ty := (.object "java/time/YearMonth")) (by decide) rfl (OLd.cons (Or.inr (ow hw 78 rfl)) (ty := (.object "java/math/BigDecimal")) (by decide) rfl (OLd.cons (Or.inr (ow hw 80 rfl)) (ty := (.object "java/math/BigDecimal")) (by decide) rfl OLd.nil))) (by decide +kernel) (hb hby at_57) (pc' := 60) rfl (by decide) (by decide) ?_
  clear P; intro T h7 r1 P K7 hb_r1 F_r1
  have sz_r1 := Nat.le_trans hz_r1 hb_r1
  clear hz_r1
  have ne_m0_r1 : m0 ≠ r1 := Nat.ne_of_lt (Nat.lt_of_lt_of_le F_m0.lt hb_r1)
  have ne_m1_r1 : m1 ≠ r1 := Nat.ne_of_lt (Nat.lt_of_lt_of_le F_m1.lt hb_r1)
  have ne_m2_r1 : m2 ≠ r1 := Nat.ne_of_lt (Nat.lt_of_lt_of_le F_m2.lt hb_r1)
  have ne_m3_r1 : m3 ≠ r1 := Nat.ne_of_lt (Nat.lt_of_lt_of_le F_m3.lt hb_r1)
  have ne_r0_r1 : r0 ≠ r1 := Nat.ne_of_lt (Nat.lt_of_lt_of_le F_r0.lt hb_r1)
  replace F_m0 := F_m0.keep K7 nin0
  replace F_m1 := F_m1.keep K7 nin0
  replace F_m2 := F_m2.keep K7 nin0
  replace F_m3 := F_m3.keep K7 nin0
  replace F_r0 := F_r0.keep K7 nin0
  clear K7
  refine o_dup P (hb hby at_60) rfl (pc' := 61) rfl ?_
  refine o_aload P (hb hby at_61) rfl rfl (pc' := 63) rfl ?_
  refine o_aconstNull P (hb hby at_63) (pc' := 64) rfl ?_
  refine o_aconstNull P (hb hby at_64) (pc' := 65) rfl ?_
  refine o_callI P (W := 1) (a := r1) rfl (ow hw 66 rfl) (ow hw 67 rfl) (ow hw 65 rfl) (ow hw 68 rfl) (by decide) (ct_lmi l Z a0 hw EL n0 r1 m1 h7 F_r1) (o_sfS (List.Mem.head _) o_sf0) (by rw [hml]; rfl) (by decide) (by decide) (argsL := [(.ref m1), .null, .null]) (rest := [(.ref r1)]) (lenOf pd_25 rfl) rfl rfl (Nat.le_of_eq rfl) (hb hby at_65) (pc' := 68) rfl (by decide) (by decide) ?_
  clear P; intro T h8 v8 P K8 q8
  obtain ⟨rfl, F'⟩ := q8
  replace F_m0 := F_m0.keep K8 (ninS ne_m0_r1 nin0)
  replace F_m1 := F_m1.keep K8 (ninS ne_m1_r1 nin0)
  replace F_m2 := F_m2.keep K8 (ninS ne_m2_r1 nin0)
  replace F_m3 := F_m3.keep K8 (ninS ne_m3_r1 nin0)
  replace F_r0 := F_r0.keep K8 (ninS ne_r0_r1 nin0)
  clear K8
  replace F_r1 := F'; clear F'
  show OG p e below m _ T 68 #[.val (.int i0), .val (.int i1), .val (.int q), .val (.int (3 : Int32)), .val (.ref m0), .val (.ref m1), .val (.ref m2), .val (.ref m3), .val (.ref r0), .unset, .unset, .unset, .unset, .unset, .unset] [(.ref r1)]
  refine o_astore P (hb hby at_68) rfl (L' := #[.val (.int i0), .val (.int i1), .val (.int q), .val (.int (3 : Int32)), .val (.ref m0), .val (.ref m1), .val (.ref m2), .val (.ref m3), .val (.ref r0), .val (.ref r1), .unset, .unset, .unset, .unset, .unset]) rfl (pc' := 70) rfl ?_
  have hz_r2 := P.keep0.1
  refine o_new P [("com/example/pledgebook/pledgebook/model/LedgerMonth", "month", "Ljava/time/YearMonth;", .null), ("com/example/pledgebook/pledgebook/model/LedgerMonth", "grossRevenues", "Ljava/math/BigDecimal;", .null), ("com/example/pledgebook/pledgebook/model/LedgerMonth", "operatingExpenses", "Ljava/math/BigDecimal;", .null)] (ow hw 63 rfl) (ow hw 64 rfl) (ow hw 65 rfl) (OLd.cons (Or.inr (ow hw 76 rfl)) (ty := (.object "java/time/YearMonth")) (by decide) rfl (OLd.cons (Or.inr (ow hw 78 rfl)) (ty := (.object "java/math/BigDecimal")) (by decide) rfl (OLd.cons (Or.inr (ow hw 80 rfl)) (ty := (.object "java/math/BigDecimal")) (by decide) rfl OLd.nil))) (by decide +kernel) (hb hby at_70) (pc' := 73) rfl (by decide) (by decide) ?_
  clear P; intro T h9 r2 P K9 hb_r2 F_r2
  have sz_r2 := Nat.le_trans hz_r2 hb_r2
  clear hz_r2
  have ne_m0_r2 : m0 ≠ r2 := Nat.ne_of_lt (Nat.lt_of_lt_of_le F_m0.lt hb_r2)
  have ne_m1_r2 : m1 ≠ r2 := Nat.ne_of_lt (Nat.lt_of_lt_of_le F_m1.lt hb_r2)
  have ne_m2_r2 : m2 ≠ r2 := Nat.ne_of_lt (Nat.lt_of_lt_of_le F_m2.lt hb_r2)
  have ne_m3_r2 : m3 ≠ r2 := Nat.ne_of_lt (Nat.lt_of_lt_of_le F_m3.lt hb_r2)
  have ne_r0_r2 : r0 ≠ r2 := Nat.ne_of_lt (Nat.lt_of_lt_of_le F_r0.lt hb_r2)
  have ne_r1_r2 : r1 ≠ r2 := Nat.ne_of_lt (Nat.lt_of_lt_of_le F_r1.lt hb_r2)
  replace F_m0 := F_m0.keep K9 nin0
  replace F_m1 := F_m1.keep K9 nin0
  replace F_m2 := F_m2.keep K9 nin0
  replace F_m3 := F_m3.keep K9 nin0
  replace F_r0 := F_r0.keep K9 nin0
  replace F_r1 := F_r1.keep K9 nin0
  clear K9
  refine o_dup P (hb hby at_73) rfl (pc' := 74) rfl ?_
  refine o_aload P (hb hby at_74) rfl rfl (pc' := 76) rfl ?_
  refine o_aconstNull P (hb hby at_76) (pc' := 77) rfl ?_
  refine o_aconstNull P (hb hby at_77) (pc' := 78) rfl ?_
  refine o_callI P (W := 1) (a := r2) rfl (ow hw 66 rfl) (ow hw 67 rfl) (ow hw 65 rfl) (ow hw 68 rfl) (by decide) (ct_lmi l Z a0 hw EL n0 r2 m2 h9 F_r2) (o_sfS (List.Mem.head _) o_sf0) (by rw [hml]; rfl) (by decide) (by decide) (argsL := [(.ref m2), .null, .null]) (rest := [(.ref r2)]) (lenOf pd_25 rfl) rfl rfl (Nat.le_of_eq rfl) (hb hby at_78) (pc' := 81) rfl (by decide) (by decide) ?_
  clear P; intro T h10 v10 P K10 q10
  obtain ⟨rfl, F'⟩ := q10
  replace F_m0 := F_m0.keep K10 (ninS ne_m0_r2 nin0)
  replace F_m1 := F_m1.keep K10 (ninS ne_m1_r2 nin0)
  replace F_m2 := F_m2.keep K10 (ninS ne_m2_r2 nin0)
  replace F_m3 := F_m3.keep K10 (ninS ne_m3_r2 nin0)
  replace F_r0 := F_r0.keep K10 (ninS ne_r0_r2 nin0)
  replace F_r1 := F_r1.keep K10 (ninS ne_r1_r2 nin0)
  clear K10
  replace F_r2 := F'; clear F'
  show OG p e below m _ T 81 #[.val (.int i0), .val (.int i1), .val (.int q), .val (.int (3 : Int32)), .val (.ref m0), .val (.ref m1), .val (.ref m2), .val (.ref m3), .val (.ref r0), .val (.ref r1), .unset, .unset, .unset, .unset, .unset] [(.ref r2)]
  refine o_astore P (hb hby at_81) rfl (L' := #[.val (.int i0), .val (.int i1), .val (.int q), .val (.int (3 : Int32)), .val (.ref m0), .val (.ref m1), .val (.ref m2), .val (.ref m3), .val (.ref r0), .val (.ref r1), .val (.ref r2), .unset, .unset, .unset, .unset]) rfl (pc' := 83) rfl ?_
  have hz_r3 := P.keep0.1
  refine o_new P [("com/example/pledgebook/pledgebook/model/LedgerMonth", "month", "Ljava/time/YearMonth;", .null), ("com/example/pledgebook/pledgebook/model/LedgerMonth", "grossRevenues", "Ljava/math/BigDecimal;", .null), ("com/example/pledgebook/pledgebook/model/LedgerMonth", "operatingExpenses", "Ljava/math/BigDecimal;", .null)] (ow hw 63 rfl) (ow hw 64 rfl) (ow hw 65 rfl) (OLd.cons (Or.inr (ow hw 76 rfl)) (ty := (.object "java/time/YearMonth")) (by decide) rfl (OLd.cons (Or.inr (ow hw 78 rfl)) (ty := (.object "java/math/BigDecimal")) (by decide) rfl (OLd.cons (Or.inr (ow hw 80 rfl)) (ty := (.object "java/math/BigDecimal")) (by decide) rfl OLd.nil))) (by decide +kernel) (hb hby at_83) (pc' := 86) rfl (by decide) (by decide) ?_
  clear P; intro T h11 r3 P K11 hb_r3 F_r3
  have sz_r3 := Nat.le_trans hz_r3 hb_r3
  clear hz_r3
  have ne_m0_r3 : m0 ≠ r3 := Nat.ne_of_lt (Nat.lt_of_lt_of_le F_m0.lt hb_r3)
  have ne_m1_r3 : m1 ≠ r3 := Nat.ne_of_lt (Nat.lt_of_lt_of_le F_m1.lt hb_r3)
  have ne_m2_r3 : m2 ≠ r3 := Nat.ne_of_lt (Nat.lt_of_lt_of_le F_m2.lt hb_r3)
  have ne_m3_r3 : m3 ≠ r3 := Nat.ne_of_lt (Nat.lt_of_lt_of_le F_m3.lt hb_r3)
  have ne_r0_r3 : r0 ≠ r3 := Nat.ne_of_lt (Nat.lt_of_lt_of_le F_r0.lt hb_r3)
  have ne_r1_r3 : r1 ≠ r3 := Nat.ne_of_lt (Nat.lt_of_lt_of_le F_r1.lt hb_r3)
  have ne_r2_r3 : r2 ≠ r3 := Nat.ne_of_lt (Nat.lt_of_lt_of_le F_r2.lt hb_r3)
  replace F_m0 := F_m0.keep K11 nin0
  replace F_m1 := F_m1.keep K11 nin0
  replace F_m2 := F_m2.keep K11 nin0
  replace F_m3 := F_m3.keep K11 nin0
  replace F_r0 := F_r0.keep K11 nin0
  replace F_r1 := F_r1.keep K11 nin0
  replace F_r2 := F_r2.keep K11 nin0
  clear K11
  refine o_dup P (hb hby at_86) rfl (pc' := 87) rfl ?_
  refine o_aload P (hb hby at_87) rfl rfl (pc' := 89) rfl ?_
  refine o_aconstNull P (hb hby at_89) (pc' := 90) rfl ?_
  refine o_aconstNull P (hb hby at_90) (pc' := 91) rfl ?_
  refine o_callI P (W := 1) (a := r3) rfl (ow hw 66 rfl) (ow hw 67 rfl) (ow hw 65 rfl) (ow hw 68 rfl) (by decide) (ct_lmi l Z a0 hw EL n0 r3 m3 h11 F_r3) (o_sfS (List.Mem.head _) o_sf0) (by rw [hml]; rfl) (by decide) (by decide) (argsL := [(.ref m3), .null, .null]) (rest := [(.ref r3)]) (lenOf pd_25 rfl) rfl rfl (Nat.le_of_eq rfl) (hb hby at_91) (pc' := 94) rfl (by decide) (by decide) ?_
  clear P; intro T h12 v12 P K12 q12
  obtain ⟨rfl, F'⟩ := q12
  replace F_m0 := F_m0.keep K12 (ninS ne_m0_r3 nin0)
  replace F_m1 := F_m1.keep K12 (ninS ne_m1_r3 nin0)
  replace F_m2 := F_m2.keep K12 (ninS ne_m2_r3 nin0)
  replace F_m3 := F_m3.keep K12 (ninS ne_m3_r3 nin0)
  replace F_r0 := F_r0.keep K12 (ninS ne_r0_r3 nin0)
  replace F_r1 := F_r1.keep K12 (ninS ne_r1_r3 nin0)
  replace F_r2 := F_r2.keep K12 (ninS ne_r2_r3 nin0)
  clear K12
  replace F_r3 := F'; clear F'
  show OG p e below m _ T 94 #[.val (.int i0), .val (.int i1), .val (.int q), .val (.int (3 : Int32)), .val (.ref m0), .val (.ref m1), .val (.ref m2), .val (.ref m3), .val (.ref r0), .val (.ref r1), .val (.ref r2), .unset, .unset, .unset, .unset] [(.ref r3)]
  refine o_astore P (hb hby at_94) rfl (L' := #[.val (.int i0), .val (.int i1), .val (.int q), .val (.int (3 : Int32)), .val (.ref m0), .val (.ref m1), .val (.ref m2), .val (.ref m3), .val (.ref r0), .val (.ref r1), .val (.ref r2), .val (.ref r3), .unset, .unset, .unset]) rfl (pc' := 96) rfl ?_
  have hz_a := P.keep0.1
  refine o_new P [("java/util/AbstractList", "modCount", "I", (.int (0 : Int32))), ("java/util/ArrayList", "elementData", "[Ljava/lang/Object;", .null), ("java/util/ArrayList", "size", "I", (.int (0 : Int32)))] (ow hw 81 rfl) (ow hw 82 rfl) (ow hw 83 rfl) (OLd.cons (Or.inl (ow hw 101 rfl)) (ty := .int) (by decide) rfl (OLd.cons (Or.inl (ow hw 104 rfl)) (ty := (.array (.object "java/lang/Object"))) (by decide) rfl (OLd.cons (Or.inl (ow hw 113 rfl)) (ty := .int) (by decide) rfl OLd.nil))) (by decide +kernel) (hb hby at_96) (pc' := 99) rfl (by decide) (by decide) ?_
  clear P; intro T h13 a P K13 hb_a F_a
  have sz_a := Nat.le_trans hz_a hb_a
  clear hz_a
  have ne_m0_a : m0 ≠ a := Nat.ne_of_lt (Nat.lt_of_lt_of_le F_m0.lt hb_a)
  have ne_m1_a : m1 ≠ a := Nat.ne_of_lt (Nat.lt_of_lt_of_le F_m1.lt hb_a)
  have ne_m2_a : m2 ≠ a := Nat.ne_of_lt (Nat.lt_of_lt_of_le F_m2.lt hb_a)
  have ne_m3_a : m3 ≠ a := Nat.ne_of_lt (Nat.lt_of_lt_of_le F_m3.lt hb_a)
  have ne_r0_a : r0 ≠ a := Nat.ne_of_lt (Nat.lt_of_lt_of_le F_r0.lt hb_a)
  have ne_r1_a : r1 ≠ a := Nat.ne_of_lt (Nat.lt_of_lt_of_le F_r1.lt hb_a)
  have ne_r2_a : r2 ≠ a := Nat.ne_of_lt (Nat.lt_of_lt_of_le F_r2.lt hb_a)
  have ne_r3_a : r3 ≠ a := Nat.ne_of_lt (Nat.lt_of_lt_of_le F_r3.lt hb_a)
  replace F_m0 := F_m0.keep K13 nin0
  replace F_m1 := F_m1.keep K13 nin0
  replace F_m2 := F_m2.keep K13 nin0
  replace F_m3 := F_m3.keep K13 nin0
  replace F_r0 := F_r0.keep K13 nin0
  replace F_r1 := F_r1.keep K13 nin0
  replace F_r2 := F_r2.keep K13 nin0
  replace F_r3 := F_r3.keep K13 nin0
  clear K13
  refine o_dup P (hb hby at_99) rfl (pc' := 100) rfl ?_
  refine o_callI P (W := 1) (a := a) rfl (ow hw 84 rfl) (ow hw 85 rfl) (ow hw 83 rfl) (ow hw 86 rfl) (by decide) (ct_ali l Z a0 hw EL n0 a de hde Ade h13 F_a) (o_sfS (List.Mem.head _) o_sf0) (by rw [hml]; rfl) (by decide) (by decide) (argsL := []) (rest := [(.ref a)]) (lenOf pd_7 rfl) rfl rfl (Nat.le_of_eq rfl) (hb hby at_100) (pc' := 103) rfl (by decide) (by decide) ?_
  clear P; intro T h14 v14 P K14 q14
  obtain ⟨rfl, F'⟩ := q14
  replace F_m0 := F_m0.keep K14 (ninS ne_m0_a nin0)
  replace F_m1 := F_m1.keep K14 (ninS ne_m1_a nin0)
  replace F_m2 := F_m2.keep K14 (ninS ne_m2_a nin0)
  replace F_m3 := F_m3.keep K14 (ninS ne_m3_a nin0)
  replace F_r0 := F_r0.keep K14 (ninS ne_r0_a nin0)
  replace F_r1 := F_r1.keep K14 (ninS ne_r1_a nin0)
  replace F_r2 := F_r2.keep K14 (ninS ne_r2_a nin0)
  replace F_r3 := F_r3.keep K14 (ninS ne_r3_a nin0)
  clear K14
  replace F_a := F'; clear F'
  show OG p e below m _ T 103 #[.val (.int i0), .val (.int i1), .val (.int q), .val (.int (3 : Int32)), .val (.ref m0), .val (.ref m1), .val (.ref m2), .val (.ref m3), .val (.ref r0), .val (.ref r1), .val (.ref r2), .val (.ref r3), .unset, .unset, .unset] [(.ref a)]
  refine o_astore P (hb hby at_103) rfl (L' := #[.val (.int i0), .val (.int i1), .val (.int q), .val (.int (3 : Int32)), .val (.ref m0), .val (.ref m1), .val (.ref m2), .val (.ref m3), .val (.ref r0), .val (.ref r1), .val (.ref r2), .val (.ref r3), .val (.ref a), .unset, .unset]) rfl (pc' := 105) rfl ?_
  refine o_aload P (hb hby at_105) rfl rfl (pc' := 107) rfl ?_
  refine o_aload P (hb hby at_107) rfl rfl (pc' := 109) rfl ?_
  have hn_d := P.n0le; have hk_d := P.keep0.1
  refine o_callV P (W := 0) (x := (⟨"java/util/ArrayList", "add", "(Ljava/lang/Object;)Z"⟩ : MethodName)) (y := (⟨"java/util/ArrayList", "add", "(Ljava/lang/Object;)Z"⟩ : MethodName)) (a := a) (ow hw 105 rfl) (ow hw 106 rfl) (o_nfSel (y := (⟨"java/util/ArrayList", "add", "(Ljava/lang/Object;)Z"⟩ : MethodName)) rfl (ow hw 108 rfl)) (ow hw 108 rfl) (ow hw 107 rfl) (ow hw 83 rfl) (ow hw 109 rfl) (by decide) F_a.exa (ct_add_0 l Z a0 hw EL n0 a r0 _ de hde Ade h14 F_a (OObj.zero F_r0.exa) (Ne.symm ne_r0_a)) (o_sfS (List.Mem.head _) o_sf0) (by rw [hml]; rfl) (by decide) (by decide) (argsL := [(.ref r0)]) (rest := []) (lenOf pd_26 rfl) rfl rfl (Nat.le_of_eq rfl) (hb hby at_109) (pc' := 112) rfl (by decide) (by decide) ?_
  clear P; intro T h15 v15 P K15 q15
  obtain ⟨rfl, d, gd, F', A_d, O_d⟩ := q15
  have ne_m0_d : m0 ≠ d := Nat.ne_of_lt (Nat.lt_of_lt_of_le F_m0.lt gd)
  have ne_m1_d : m1 ≠ d := Nat.ne_of_lt (Nat.lt_of_lt_of_le F_m1.lt gd)
  have ne_m2_d : m2 ≠ d := Nat.ne_of_lt (Nat.lt_of_lt_of_le F_m2.lt gd)
  have ne_m3_d : m3 ≠ d := Nat.ne_of_lt (Nat.lt_of_lt_of_le F_m3.lt gd)
  have ne_r0_d : r0 ≠ d := Nat.ne_of_lt (Nat.lt_of_lt_of_le F_r0.lt gd)
  have ne_r1_d : r1 ≠ d := Nat.ne_of_lt (Nat.lt_of_lt_of_le F_r1.lt gd)
  have ne_r2_d : r2 ≠ d := Nat.ne_of_lt (Nat.lt_of_lt_of_le F_r2.lt gd)
  have ne_r3_d : r3 ≠ d := Nat.ne_of_lt (Nat.lt_of_lt_of_le F_r3.lt gd)
  have ne_a_d : a ≠ d := Nat.ne_of_lt (Nat.lt_of_lt_of_le F_a.lt gd)
  replace F_m0 := F_m0.keep K15 (ninS ne_m0_a nin0)
  replace F_m1 := F_m1.keep K15 (ninS ne_m1_a nin0)
  replace F_m2 := F_m2.keep K15 (ninS ne_m2_a nin0)
  replace F_m3 := F_m3.keep K15 (ninS ne_m3_a nin0)
  replace F_r0 := F_r0.keep K15 (ninS ne_r0_a nin0)
  replace F_r1 := F_r1.keep K15 (ninS ne_r1_a nin0)
  replace F_r2 := F_r2.keep K15 (ninS ne_r2_a nin0)
  replace F_r3 := F_r3.keep K15 (ninS ne_r3_a nin0)
  replace F_a := F'; clear F'; clear K15
  replace P := P.moreA A_d (fun q => by cases q) (Nat.le_trans hn_d gd) (Nat.le_trans hk_d gd)
  replace F_a : OObj Z h15 a "java/util/ArrayList" [("java/util/AbstractList", "modCount", "I", (.int (1 : Int32))), ("java/util/ArrayList", "elementData", "[Ljava/lang/Object;", (.ref d)), ("java/util/ArrayList", "size", "I", (.int (1 : Int32)))] := F_a
  show OG p e below m _ T 112 #[.val (.int i0), .val (.int i1), .val (.int q), .val (.int (3 : Int32)), .val (.ref m0), .val (.ref m1), .val (.ref m2), .val (.ref m3), .val (.ref r0), .val (.ref r1), .val (.ref r2), .val (.ref r3), .val (.ref a), .unset, .unset] [(.int (1 : Int32))]
  refine o_pop P (hb hby at_112) rfl (pc' := 113) rfl ?_
  refine o_iloadN P (hb hby at_113) rfl (pc' := 114) rfl ?_
  refine o_iconst P (2 : Int32) (hb hby at_114) rfl (pc' := 115) rfl ?_
  refine o_icmp_lt P (hb hby at_115) (by decide) (pc' := 126) (by decide) (pcf := 118) rfl (fun q => absurd q (by decide)) (fun _ => ?_)
  refine o_aload P (hb hby at_118) rfl rfl (pc' := 120) rfl ?_
  refine o_aload P (hb hby at_120) rfl rfl (pc' := 122) rfl ?_
  refine o_callV P (W := 0) (x := (⟨"java/util/ArrayList", "add", "(Ljava/lang/Object;)Z"⟩ : MethodName)) (y := (⟨"java/util/ArrayList", "add", "(Ljava/lang/Object;)Z"⟩ : MethodName)) (a := a) (ow hw 105 rfl) (ow hw 106 rfl) (o_nfSel (y := (⟨"java/util/ArrayList", "add", "(Ljava/lang/Object;)Z"⟩ : MethodName)) rfl (ow hw 108 rfl)) (ow hw 108 rfl) (ow hw 107 rfl) (ow hw 83 rfl) (ow hw 109 rfl) (by decide) F_a.exa (ct_add_1 l Z a0 hw EL n0 a r1 d r0 _ h15 F_a A_d O_d (OObj.zero F_r1.exa) (Ne.symm ne_r1_a) ne_r1_d ne_a_d) (o_sfS (List.Mem.tail _ (List.Mem.head _)) (o_sfS (List.Mem.head _) o_sf0)) (by rw [hml]; rfl) (by decide) (by decide) (argsL := [(.ref r1)]) (rest := []) (lenOf pd_26 rfl) rfl rfl (Nat.le_of_eq rfl) (hb hby at_122) (pc' := 125) rfl (by decide) (by decide) ?_
  clear P; intro T h16 v16 P K16 q16
  obtain ⟨rfl, F', A', O'⟩ := q16
  replace F_m0 := F_m0.keep K16 (ninS ne_m0_a (ninS ne_m0_d nin0))
  replace F_m1 := F_m1.keep K16 (ninS ne_m1_a (ninS ne_m1_d nin0))
  replace F_m2 := F_m2.keep K16 (ninS ne_m2_a (ninS ne_m2_d nin0))
  replace F_m3 := F_m3.keep K16 (ninS ne_m3_a (ninS ne_m3_d nin0))
  replace F_r0 := F_r0.keep K16 (ninS ne_r0_a (ninS ne_r0_d nin0))
  replace F_r1 := F_r1.keep K16 (ninS ne_r1_a (ninS ne_r1_d nin0))
  replace F_r2 := F_r2.keep K16 (ninS ne_r2_a (ninS ne_r2_d nin0))
  replace F_r3 := F_r3.keep K16 (ninS ne_r3_a (ninS ne_r3_d nin0))
  replace F_a := F'; replace A_d := A'; replace O_d := O'; clear F' A' O' K16
  replace F_a : OObj Z h16 a "java/util/ArrayList" [("java/util/AbstractList", "modCount", "I", (.int (2 : Int32))), ("java/util/ArrayList", "elementData", "[Ljava/lang/Object;", (.ref d)), ("java/util/ArrayList", "size", "I", (.int (2 : Int32)))] := F_a
  show OG p e below m _ T 125 #[.val (.int i0), .val (.int i1), .val (.int q), .val (.int (3 : Int32)), .val (.ref m0), .val (.ref m1), .val (.ref m2), .val (.ref m3), .val (.ref r0), .val (.ref r1), .val (.ref r2), .val (.ref r3), .val (.ref a), .unset, .unset] [(.int (1 : Int32))]
  refine o_pop P (hb hby at_125) rfl (pc' := 126) rfl ?_
  refine o_iloadN P (hb hby at_126) rfl (pc' := 127) rfl ?_
  refine o_iconst P (3 : Int32) (hb hby at_127) rfl (pc' := 128) rfl ?_
  refine o_icmp_lt P (hb hby at_128) (by decide) (pc' := 139) (by decide) (pcf := 131) rfl (fun q => absurd q (by decide)) (fun _ => ?_)
  refine o_aload P (hb hby at_131) rfl rfl (pc' := 133) rfl ?_
  refine o_aload P (hb hby at_133) rfl rfl (pc' := 135) rfl ?_
  refine o_callV P (W := 0) (x := (⟨"java/util/ArrayList", "add", "(Ljava/lang/Object;)Z"⟩ : MethodName)) (y := (⟨"java/util/ArrayList", "add", "(Ljava/lang/Object;)Z"⟩ : MethodName)) (a := a) (ow hw 105 rfl) (ow hw 106 rfl) (o_nfSel (y := (⟨"java/util/ArrayList", "add", "(Ljava/lang/Object;)Z"⟩ : MethodName)) rfl (ow hw 108 rfl)) (ow hw 108 rfl) (ow hw 107 rfl) (ow hw 83 rfl) (ow hw 109 rfl) (by decide) F_a.exa (ct_add_2 l Z a0 hw EL n0 a r2 d r0 r1 _ h16 F_a A_d O_d (OObj.zero F_r2.exa) (Ne.symm ne_r2_a) ne_r2_d ne_a_d) (o_sfS (List.Mem.tail _ (List.Mem.head _)) (o_sfS (List.Mem.head _) o_sf0)) (by rw [hml]; rfl) (by decide) (by decide) (argsL := [(.ref r2)]) (rest := []) (lenOf pd_26 rfl) rfl rfl (Nat.le_of_eq rfl) (hb hby at_135) (pc' := 138) rfl (by decide) (by decide) ?_
  clear P; intro T h17 v17 P K17 q17
  obtain ⟨rfl, F', A', O'⟩ := q17
  replace F_m0 := F_m0.keep K17 (ninS ne_m0_a (ninS ne_m0_d nin0))
  replace F_m1 := F_m1.keep K17 (ninS ne_m1_a (ninS ne_m1_d nin0))
  replace F_m2 := F_m2.keep K17 (ninS ne_m2_a (ninS ne_m2_d nin0))
  replace F_m3 := F_m3.keep K17 (ninS ne_m3_a (ninS ne_m3_d nin0))
  replace F_r0 := F_r0.keep K17 (ninS ne_r0_a (ninS ne_r0_d nin0))
  replace F_r1 := F_r1.keep K17 (ninS ne_r1_a (ninS ne_r1_d nin0))
  replace F_r2 := F_r2.keep K17 (ninS ne_r2_a (ninS ne_r2_d nin0))
  replace F_r3 := F_r3.keep K17 (ninS ne_r3_a (ninS ne_r3_d nin0))
  replace F_a := F'; replace A_d := A'; replace O_d := O'; clear F' A' O' K17
  replace F_a : OObj Z h17 a "java/util/ArrayList" [("java/util/AbstractList", "modCount", "I", (.int (3 : Int32))), ("java/util/ArrayList", "elementData", "[Ljava/lang/Object;", (.ref d)), ("java/util/ArrayList", "size", "I", (.int (3 : Int32)))] := F_a
  show OG p e below m _ T 138 #[.val (.int i0), .val (.int i1), .val (.int q), .val (.int (3 : Int32)), .val (.ref m0), .val (.ref m1), .val (.ref m2), .val (.ref m3), .val (.ref r0), .val (.ref r1), .val (.ref r2), .val (.ref r3), .val (.ref a), .unset, .unset] [(.int (1 : Int32))]
  refine o_pop P (hb hby at_138) rfl (pc' := 139) rfl ?_
  refine o_iloadN P (hb hby at_139) rfl (pc' := 140) rfl ?_
  refine o_iconst P (4 : Int32) (hb hby at_140) rfl (pc' := 141) rfl ?_
  refine o_icmp_lt P (hb hby at_141) (by decide) (pc' := 152) (by decide) (pcf := 144) rfl (fun _ => ?_) (fun q => absurd (by decide) q)
  have hz_u := P.keep0.1
  refine o_new P [("com/example/pledgebook/pledgebook/model/Ledger", "months", "Ljava/util/List;", .null)] (ow hw 136 rfl) (ow hw 137 rfl) (ow hw 138 rfl) (OLd.cons (Or.inr (ow hw 232 rfl)) (ty := (.object "java/util/List")) (by decide) rfl OLd.nil) (by decide +kernel) (hb hby at_152) (pc' := 155) rfl (by decide) (by decide) ?_
  clear P; intro T h18 u P K18 hb_u F_u
  have sz_u := Nat.le_trans hz_u hb_u
  clear hz_u
  have ne_m0_u : m0 ≠ u := Nat.ne_of_lt (Nat.lt_of_lt_of_le F_m0.lt hb_u)
  have ne_m1_u : m1 ≠ u := Nat.ne_of_lt (Nat.lt_of_lt_of_le F_m1.lt hb_u)
  have ne_m2_u : m2 ≠ u := Nat.ne_of_lt (Nat.lt_of_lt_of_le F_m2.lt hb_u)
  have ne_m3_u : m3 ≠ u := Nat.ne_of_lt (Nat.lt_of_lt_of_le F_m3.lt hb_u)
  have ne_r0_u : r0 ≠ u := Nat.ne_of_lt (Nat.lt_of_lt_of_le F_r0.lt hb_u)
  have ne_r1_u : r1 ≠ u := Nat.ne_of_lt (Nat.lt_of_lt_of_le F_r1.lt hb_u)
  have ne_r2_u : r2 ≠ u := Nat.ne_of_lt (Nat.lt_of_lt_of_le F_r2.lt hb_u)
  have ne_r3_u : r3 ≠ u := Nat.ne_of_lt (Nat.lt_of_lt_of_le F_r3.lt hb_u)
  have ne_a_u : a ≠ u := Nat.ne_of_lt (Nat.lt_of_lt_of_le F_a.lt hb_u)
  have ne_d_u : d ≠ u := Nat.ne_of_lt (Nat.lt_of_lt_of_le A_d.lt hb_u)
  replace F_m0 := F_m0.keep K18 nin0
  replace F_m1 := F_m1.keep K18 nin0
  replace F_m2 := F_m2.keep K18 nin0
  replace F_m3 := F_m3.keep K18 nin0
  replace F_r0 := F_r0.keep K18 nin0
  replace F_r1 := F_r1.keep K18 nin0
  replace F_r2 := F_r2.keep K18 nin0
  replace F_r3 := F_r3.keep K18 nin0
  replace F_a := F_a.keep K18 nin0
  replace A_d := A_d.keep K18 nin0
  replace O_d := O_d.keep K18
  clear K18
  refine o_dup P (hb hby at_155) rfl (pc' := 156) rfl ?_
  refine o_aload P (hb hby at_156) rfl rfl (pc' := 158) rfl ?_
  refine o_callI P (W := 1) (a := u) rfl (ow hw 139 rfl) (ow hw 140 rfl) (ow hw 138 rfl) (ow hw 141 rfl) (by decide) (ct_lei_3 l Z a0 hw EL n0 u a _ d r0 r1 r2 mir hmir em hem Fem h18 A_d O_d (OObj.zero F_r0.exa) (OObj.zero F_r1.exa) (OObj.zero F_r2.exa) F_a F_u) (o_sfS (List.Mem.head _) o_sf0) (by rw [hml]; rfl) (by decide) (by decide) (argsL := [(.ref a)]) (rest := [(.ref u)]) (lenOf pd_27 rfl) rfl rfl (Nat.le_of_eq rfl) (hb hby at_158) (pc' := 161) rfl (by decide) (by decide) ?_
  clear P; intro T h19 v19 P K19 q19
  obtain ⟨rfl, g, F', ee, F_g, A_ee⟩ := q19
  replace F_m0 := F_m0.keep K19 (ninS ne_m0_u nin0)
  replace F_m1 := F_m1.keep K19 (ninS ne_m1_u nin0)
  replace F_m2 := F_m2.keep K19 (ninS ne_m2_u nin0)
  replace F_m3 := F_m3.keep K19 (ninS ne_m3_u nin0)
  replace F_r0 := F_r0.keep K19 (ninS ne_r0_u nin0)
  replace F_r1 := F_r1.keep K19 (ninS ne_r1_u nin0)
  replace F_r2 := F_r2.keep K19 (ninS ne_r2_u nin0)
  replace F_r3 := F_r3.keep K19 (ninS ne_r3_u nin0)
  replace F_a := F_a.keep K19 (ninS ne_a_u nin0)
  replace A_d := A_d.keep K19 (ninS ne_d_u nin0)
  replace O_d := O_d.keep K19
  replace F_u := F'; clear F' K19
  show OG p e below m _ T 161 #[.val (.int i0), .val (.int i1), .val (.int q), .val (.int (3 : Int32)), .val (.ref m0), .val (.ref m1), .val (.ref m2), .val (.ref m3), .val (.ref r0), .val (.ref r1), .val (.ref r2), .val (.ref r3), .val (.ref a), .unset, .unset] [(.ref u)]
  refine o_astore P (hb hby at_161) rfl (L' := #[.val (.int i0), .val (.int i1), .val (.int q), .val (.int (3 : Int32)), .val (.ref m0), .val (.ref m1), .val (.ref m2), .val (.ref m3), .val (.ref r0), .val (.ref r1), .val (.ref r2), .val (.ref r3), .val (.ref a), .val (.ref u), .unset]) rfl (pc' := 163) rfl ?_
  refine o_iloadN P (hb hby at_163) rfl (pc' := 164) rfl ?_
  refine o_iconst P (1 : Int32) (hb hby at_164) rfl (pc' := 165) rfl ?_
  refine o_icmp_ne P (hb hby at_165) (by decide) (pc' := 175) (by decide) (pcf := 168) rfl (fun _ => ?_) (fun q => absurd q (by decide))
  refine o_iloadN P (hb hby at_175) rfl (pc' := 176) rfl ?_
  refine o_iconst P (2 : Int32) (hb hby at_176) rfl (pc' := 177) rfl ?_
  refine o_icmp_ne P (hb hby at_177) (by decide) (pc' := 187) (by decide) (pcf := 180) rfl (fun _ => ?_) (fun q => absurd q (by decide))
  refine o_iloadN P (hb hby at_187) rfl (pc' := 188) rfl ?_
  refine o_iconst P (3 : Int32) (hb hby at_188) rfl (pc' := 189) rfl ?_
  refine o_icmp_ne P (hb hby at_189) (by decide) (pc' := 199) (by decide) (pcf := 192) rfl (fun q => absurd (by decide) q) (fun _ => ?_)
  refine o_aload P (hb hby at_192) rfl rfl (pc' := 194) rfl ?_
  refine o_astore P (hb hby at_194) rfl (L' := #[.val (.int i0), .val (.int i1), .val (.int q), .val (.int (3 : Int32)), .val (.ref m0), .val (.ref m1), .val (.ref m2), .val (.ref m3), .val (.ref r0), .val (.ref r1), .val (.ref r2), .val (.ref r3), .val (.ref a), .val (.ref u), .val (.ref m2)]) rfl (pc' := 196) rfl ?_
  refine o_goto P (hb hby at_196) (by decide) (pc' := 203) (by decide) ?_
  refine o_aload P (hb hby at_203) rfl rfl (pc' := 205) rfl ?_
  have F_l : OObj Z h19 r2 "com/example/pledgebook/pledgebook/model/LedgerMonth" [("com/example/pledgebook/pledgebook/model/LedgerMonth", "month", "Ljava/time/YearMonth;", (.ref m2))] := OObj.one F_r2.exa (F_r2.fld 0 rfl)
  refine o_callV P (W := 0) (x := (⟨"com/example/pledgebook/pledgebook/model/Ledger", "lastMonth", "()Ljava/time/YearMonth;"⟩ : MethodName)) (y := (⟨"com/example/pledgebook/pledgebook/model/Ledger", "lastMonth", "()Ljava/time/YearMonth;"⟩ : MethodName)) (a := u) (ow hw 233 rfl) (ow hw 234 rfl) (o_nfSel (y := (⟨"com/example/pledgebook/pledgebook/model/Ledger", "lastMonth", "()Ljava/time/YearMonth;"⟩ : MethodName)) rfl (ow hw 236 rfl)) (ow hw 236 rfl) (ow hw 235 rfl) (ow hw 138 rfl) (ow hw 237 rfl) (by decide) F_u.exa (ct_las_3 l Z a0 hw EL n0 u g r0 r1 r2 m2 ee em hem Fem h19 F_u F_g A_ee F_l) o_sf0 (by rw [hml]; rfl) (by decide) (by decide) (argsL := []) (rest := []) (lenOf pd_23 rfl) rfl rfl (Nat.le_of_eq rfl) (hb hby at_205) (pc' := 208) rfl (by decide) (by decide) ?_
  clear P; intro T h20 v20 P K20 q20
  obtain ⟨rfl, rfl⟩ := q20; clear K20
  show OG p e below m _ T 208 #[.val (.int i0), .val (.int i1), .val (.int q), .val (.int (3 : Int32)), .val (.ref m0), .val (.ref m1), .val (.ref m2), .val (.ref m3), .val (.ref r0), .val (.ref r1), .val (.ref r2), .val (.ref r3), .val (.ref a), .val (.ref u), .val (.ref m2)] [(.ref m2)]
  refine o_aload P (hb hby at_208) rfl rfl (pc' := 210) rfl ?_
  refine o_acmp P true (hb hby at_210) rfl rfl (decide_eq_true rfl) (by decide) (pc' := 213) rfl ?_
  refine o_iconst P (1 : Int32) (hb hby at_213) rfl (pc' := 214) rfl ?_
  refine o_goto P (hb hby at_214) (by decide) (pc' := 218) (by decide) ?_
  exact o_retI P hret (by simp) rfl (hb hby at_218) (by decide) (by decide) rfl
set_option maxRecDepth 65536 in
set_option maxHeartbeats 40000000 in
theorem law14_4 {p : Program} {e : Env} {s : State} {m : MethodId} {args : Array Value} {below : List Frame} {meth : Method} {c : Code} {T : State} {n0 : Nat} {h0 : Heap} (l : Launch) (Z : State) (a0 : Array Value) (hw : ∀ d ∈ tables_1, d.before a0 Z = true) (EL : List (String × Nat)) (hby : c.code = code) (hml : c.maxLocals = maxLocals) (hret : meth.sig.returnType = ret) (i0 i1 q : Int32) (hq0 : 0 ≤ q.toInt) (hq1 : q.toInt ≤ 11999999) (fy vy fm vm : Addr) (hfy : Sta Z Z.heap "java/time/temporal/ChronoField" "YEAR" "Ljava/time/temporal/ChronoField;" (.ref fy)) (hfm : Sta Z Z.heap "java/time/temporal/ChronoField" "MONTH_OF_YEAR" "Ljava/time/temporal/ChronoField;" (.ref fm)) (Fy : OObj Z Z.heap fy "java/time/temporal/ChronoField" [("java/time/temporal/ChronoField", "range", "Ljava/time/temporal/ValueRange;", (.ref vy))]) (Fvy : OObj Z Z.heap vy "java/time/temporal/ValueRange" [("java/time/temporal/ValueRange", "minSmallest", "J", (.long (-999999999 : Int64))), ("java/time/temporal/ValueRange", "maxLargest", "J", (.long (999999999 : Int64)))]) (Fm : OObj Z Z.heap fm "java/time/temporal/ChronoField" [("java/time/temporal/ChronoField", "range", "Ljava/time/temporal/ValueRange;", (.ref vm))]) (Fvm : OObj Z Z.heap vm "java/time/temporal/ValueRange" [("java/time/temporal/ValueRange", "minSmallest", "J", (.long (1 : Int64))), ("java/time/temporal/ValueRange", "maxLargest", "J", (.long (12 : Int64)))]) (de : Addr) (hde : Sta Z Z.heap "java/util/ArrayList" "DEFAULTCAPACITY_EMPTY_ELEMENTDATA" "[Ljava/lang/Object;" (.ref de)) (Ade : OArr Z Z.heap de (.object "java/lang/Object") []) (em : Addr) (hem : Sta Z Z.heap "java/util/ImmutableCollections" "EMPTY" "Ljava/lang/Object;" (.ref em)) (Fem : OObj Z Z.heap em "java/lang/Object" []) (mir : Addr) (hmir : OMir Z "[Ljava/lang/Object;" mir) (P : OPn p l e room_1 s m args below meth c Z a0 EL n0 [] "com/example/pledgebook/pledgebook/model/LedgerLastMonthPinLaw" T h0 [] 0 0) :
    OG p e below m (OFq Z EL n0 s [] room_1 (fun w vm h => w = some (.int 1))) T 14 #[.val (.int i0), .val (.int i1), .val (.int q), .val (.int (4 : Int32)), .unset, .unset, .unset, .unset, .unset, .unset, .unset, .unset, .unset, .unset, .unset] [] := by
  refine o_iloadN P (hb hby at_14) rfl (pc' := 15) rfl ?_
  refine o_callS P (W := 0) (ow hw 2 rfl) (ow hw 3 rfl) (ow hw 4 rfl) (ow hw 5 rfl) (by decide) (ct_ym l Z a0 hw EL n0 q hq0 (by omega) fy vy fm vm hfy hfm Fy Fvy Fm Fvm h0) o_sf0 (by rw [hml]; rfl) (by decide) (by decide) (argsL := [(.int q)]) (rest := []) (lenOf pd_24 rfl) rfl rfl (Nat.le_of_eq rfl) (hb hby at_15) (pc' := 18) rfl (by decide) (by decide) ?_
  clear P; intro T h1 v1 P K1 q1
  obtain ⟨m0, rfl, g0, F_m0⟩ := q1
  clear K1
  show OG p e below m _ T 18 #[.val (.int i0), .val (.int i1), .val (.int q), .val (.int (4 : Int32)), .unset, .unset, .unset, .unset, .unset, .unset, .unset, .unset, .unset, .unset, .unset] [(.ref m0)]
  refine o_astore P (hb hby at_18) rfl (L' := #[.val (.int i0), .val (.int i1), .val (.int q), .val (.int (4 : Int32)), .val (.ref m0), .unset, .unset, .unset, .unset, .unset, .unset, .unset, .unset, .unset, .unset]) rfl (pc' := 20) rfl ?_
  refine o_iloadN P (hb hby at_20) rfl (pc' := 21) rfl ?_
  refine o_iconst P (1 : Int32) (hb hby at_21) rfl (pc' := 22) rfl ?_
  refine o_iadd P (hb hby at_22) (pc' := 23) rfl ?_
  refine o_callS P (W := 0) (ow hw 2 rfl) (ow hw 3 rfl) (ow hw 4 rfl) (ow hw 5 rfl) (by decide) (ct_ym l Z a0 hw EL n0 (q + (1 : Int32)) (own_q q 1 hq0 hq1 (by decide)).1 (own_q q 1 hq0 hq1 (by decide)).2 fy vy fm vm hfy hfm Fy Fvy Fm Fvm h1) o_sf0 (by rw [hml]; rfl) (by decide) (by decide) (argsL := [(.int (q + (1 : Int32)))]) (rest := []) (lenOf pd_24 rfl) rfl rfl (Nat.le_of_eq rfl) (hb hby at_23) (pc' := 26) rfl (by decide) (by decide) ?_
  clear P; intro T h2 v2 P K2 q2
  obtain ⟨m1, rfl, g1, F_m1⟩ := q2
  have ne_m0_m1 : m0 ≠ m1 := Nat.ne_of_lt (Nat.lt_of_lt_of_le F_m0.lt g1)
  replace F_m0 := F_m0.keep K2 nin0
  clear K2
  show OG p e below m _ T 26 #[.val (.int i0), .val (.int i1), .val (.int q), .val (.int (4 : Int32)), .val (.ref m0), .unset, .unset, .unset, .unset, .unset, .unset, .unset, .unset, .unset, .unset] [(.ref m1)]
  refine o_astore P (hb hby at_26) rfl (L' := #[.val (.int i0), .val (.int i1), .val (.int q), .val (.int (4 : Int32)), .val (.ref m0), .val (.ref m1), .unset, .unset, .unset, .unset, .unset, .unset, .unset, .unset, .unset]) rfl (pc' := 28) rfl ?_
  refine o_iloadN P (hb hby at_28) rfl (pc' := 29) rfl ?_
  refine o_iconst P (2 : Int32) (hb hby at_29) rfl (pc' := 30) rfl ?_
  refine o_iadd P (hb hby at_30) (pc' := 31) rfl ?_
  refine o_callS P (W := 0) (ow hw 2 rfl) (ow hw 3 rfl) (ow hw 4 rfl) (ow hw 5 rfl) (by decide) (ct_ym l Z a0 hw EL n0 (q + (2 : Int32)) (own_q q 2 hq0 hq1 (by decide)).1 (own_q q 2 hq0 hq1 (by decide)).2 fy vy fm vm hfy hfm Fy Fvy Fm Fvm h2) o_sf0 (by rw [hml]; rfl) (by decide) (by decide) (argsL := [(.int (q + (2 : Int32)))]) (rest := []) (lenOf pd_24 rfl) rfl rfl (Nat.le_of_eq rfl) (hb hby at_31) (pc' := 34) rfl (by decide) (by decide) ?_
  clear P; intro T h3 v3 P K3 q3
  obtain ⟨m2, rfl, g2, F_m2⟩ := q3
  have ne_m0_m2 : m0 ≠ m2 := Nat.ne_of_lt (Nat.lt_of_lt_of_le F_m0.lt g2)
  have ne_m1_m2 : m1 ≠ m2 := Nat.ne_of_lt (Nat.lt_of_lt_of_le F_m1.lt g2)
  replace F_m0 := F_m0.keep K3 nin0
  replace F_m1 := F_m1.keep K3 nin0
  clear K3
  show OG p e below m _ T 34 #[.val (.int i0), .val (.int i1), .val (.int q), .val (.int (4 : Int32)), .val (.ref m0), .val (.ref m1), .unset, .unset, .unset, .unset, .unset, .unset, .unset, .unset, .unset] [(.ref m2)]
  refine o_astore P (hb hby at_34) rfl (L' := #[.val (.int i0), .val (.int i1), .val (.int q), .val (.int (4 : Int32)), .val (.ref m0), .val (.ref m1), .val (.ref m2), .unset, .unset, .unset, .unset, .unset, .unset, .unset, .unset]) rfl (pc' := 36) rfl ?_
  refine o_iloadN P (hb hby at_36) rfl (pc' := 37) rfl ?_
  refine o_iconst P (3 : Int32) (hb hby at_37) rfl (pc' := 38) rfl ?_
  refine o_iadd P (hb hby at_38) (pc' := 39) rfl ?_
  refine o_callS P (W := 0) (ow hw 2 rfl) (ow hw 3 rfl) (ow hw 4 rfl) (ow hw 5 rfl) (by decide) (ct_ym l Z a0 hw EL n0 (q + (3 : Int32)) (own_q q 3 hq0 hq1 (by decide)).1 (own_q q 3 hq0 hq1 (by decide)).2 fy vy fm vm hfy hfm Fy Fvy Fm Fvm h3) o_sf0 (by rw [hml]; rfl) (by decide) (by decide) (argsL := [(.int (q + (3 : Int32)))]) (rest := []) (lenOf pd_24 rfl) rfl rfl (Nat.le_of_eq rfl) (hb hby at_39) (pc' := 42) rfl (by decide) (by decide) ?_
  clear P; intro T h4 v4 P K4 q4
  obtain ⟨m3, rfl, g3, F_m3⟩ := q4
  have ne_m0_m3 : m0 ≠ m3 := Nat.ne_of_lt (Nat.lt_of_lt_of_le F_m0.lt g3)
  have ne_m1_m3 : m1 ≠ m3 := Nat.ne_of_lt (Nat.lt_of_lt_of_le F_m1.lt g3)
  have ne_m2_m3 : m2 ≠ m3 := Nat.ne_of_lt (Nat.lt_of_lt_of_le F_m2.lt g3)
  replace F_m0 := F_m0.keep K4 nin0
  replace F_m1 := F_m1.keep K4 nin0
  replace F_m2 := F_m2.keep K4 nin0
  clear K4
  show OG p e below m _ T 42 #[.val (.int i0), .val (.int i1), .val (.int q), .val (.int (4 : Int32)), .val (.ref m0), .val (.ref m1), .val (.ref m2), .unset, .unset, .unset, .unset, .unset, .unset, .unset, .unset] [(.ref m3)]
  refine o_astore P (hb hby at_42) rfl (L' := #[.val (.int i0), .val (.int i1), .val (.int q), .val (.int (4 : Int32)), .val (.ref m0), .val (.ref m1), .val (.ref m2), .val (.ref m3), .unset, .unset, .unset, .unset, .unset, .unset, .unset]) rfl (pc' := 44) rfl ?_
  have hz_r0 := P.keep0.1
  refine o_new P [("com/example/pledgebook/pledgebook/model/LedgerMonth", "month", "Ljava/time/YearMonth;", .null), ("com/example/pledgebook/pledgebook/model/LedgerMonth", "grossRevenues", "Ljava/math/BigDecimal;", .null), ("com/example/pledgebook/pledgebook/model/LedgerMonth", "operatingExpenses", "Ljava/math/BigDecimal;", .null)] (ow hw 63 rfl) (ow hw 64 rfl) (ow hw 65 rfl) (OLd.cons (Or.inr (ow hw 76 rfl)) (ty := (.object "java/time/YearMonth")) (by decide) rfl (OLd.cons (Or.inr (ow hw 78 rfl)) (ty := (.object "java/math/BigDecimal")) (by decide) rfl (OLd.cons (Or.inr (ow hw 80 rfl)) (ty := (.object "java/math/BigDecimal")) (by decide) rfl OLd.nil))) (by decide +kernel) (hb hby at_44) (pc' := 47) rfl (by decide) (by decide) ?_
  clear P; intro T h5 r0 P K5 hb_r0 F_r0
  have sz_r0 := Nat.le_trans hz_r0 hb_r0
  clear hz_r0
  have ne_m0_r0 : m0 ≠ r0 := Nat.ne_of_lt (Nat.lt_of_lt_of_le F_m0.lt hb_r0)
  have ne_m1_r0 : m1 ≠ r0 := Nat.ne_of_lt (Nat.lt_of_lt_of_le F_m1.lt hb_r0)
  have ne_m2_r0 : m2 ≠ r0 := Nat.ne_of_lt (Nat.lt_of_lt_of_le F_m2.lt hb_r0)
  have ne_m3_r0 : m3 ≠ r0 := Nat.ne_of_lt (Nat.lt_of_lt_of_le F_m3.lt hb_r0)
  replace F_m0 := F_m0.keep K5 nin0
  replace F_m1 := F_m1.keep K5 nin0
  replace F_m2 := F_m2.keep K5 nin0
  replace F_m3 := F_m3.keep K5 nin0
  clear K5
  refine o_dup P (hb hby at_47) rfl (pc' := 48) rfl ?_
  refine o_aload P (hb hby at_48) rfl rfl (pc' := 50) rfl ?_
  refine o_aconstNull P (hb hby at_50) (pc' := 51) rfl ?_
  refine o_aconstNull P (hb hby at_51) (pc' := 52) rfl ?_
  refine o_callI P (W := 1) (a := r0) rfl (ow hw 66 rfl) (ow hw 67 rfl) (ow hw 65 rfl) (ow hw 68 rfl) (by decide) (ct_lmi l Z a0 hw EL n0 r0 m0 h5 F_r0) (o_sfS (List.Mem.head _) o_sf0) (by rw [hml]; rfl) (by decide) (by decide) (argsL := [(.ref m0), .null, .null]) (rest := [(.ref r0)]) (lenOf pd_25 rfl) rfl rfl (Nat.le_of_eq rfl) (hb hby at_52) (pc' := 55) rfl (by decide) (by decide) ?_
  clear P; intro T h6 v6 P K6 q6
  obtain ⟨rfl, F'⟩ := q6
  replace F_m0 := F_m0.keep K6 (ninS ne_m0_r0 nin0)
  replace F_m1 := F_m1.keep K6 (ninS ne_m1_r0 nin0)
  replace F_m2 := F_m2.keep K6 (ninS ne_m2_r0 nin0)
  replace F_m3 := F_m3.keep K6 (ninS ne_m3_r0 nin0)
  clear K6
  replace F_r0 := F'; clear F'
  show OG p e below m _ T 55 #[.val (.int i0), .val (.int i1), .val (.int q), .val (.int (4 : Int32)), .val (.ref m0), .val (.ref m1), .val (.ref m2), .val (.ref m3), .unset, .unset, .unset, .unset, .unset, .unset, .unset] [(.ref r0)]
  refine o_astore P (hb hby at_55) rfl (L' := #[.val (.int i0), .val (.int i1), .val (.int q), .val (.int (4 : Int32)), .val (.ref m0), .val (.ref m1), .val (.ref m2), .val (.ref m3), .val (.ref r0), .unset, .unset, .unset, .unset, .unset, .unset]) rfl (pc' := 57) rfl ?_
  have hz_r1 := P.keep0.1
  refine o_new P [("com/example/pledgebook/pledgebook/model/LedgerMonth", "month", "Ljava/time/YearMonth;", .null), ("com/example/pledgebook/pledgebook/model/LedgerMonth", "grossRevenues", "Ljava/math/BigDecimal;", .null), ("com/example/pledgebook/pledgebook/model/LedgerMonth", "operatingExpenses", "Ljava/math/BigDecimal;", .null)] (ow hw 63 rfl) (ow hw 64 rfl) (ow hw 65 rfl) (OLd.cons (Or.inr (ow hw 76 rfl)) (ty := (.object "java/time/YearMonth")) (by decide) rfl (OLd.cons (Or.inr (ow hw 78 rfl)) (ty := (.object "java/math/BigDecimal")) (by decide) rfl (OLd.cons (Or.inr (ow hw 80 rfl)) (ty := (.object "java/math/BigDecimal")) (by decide) rfl OLd.nil))) (by decide +kernel) (hb hby at_57) (pc' := 60) rfl (by decide) (by decide) ?_
  clear P; intro T h7 r1 P K7 hb_r1 F_r1
  have sz_r1 := Nat.le_trans hz_r1 hb_r1
  clear hz_r1
  have ne_m0_r1 : m0 ≠ r1 := Nat.ne_of_lt (Nat.lt_of_lt_of_le F_m0.lt hb_r1)
  have ne_m1_r1 : m1 ≠ r1 := Nat.ne_of_lt (Nat.lt_of_lt_of_le F_m1.lt hb_r1)
  have ne_m2_r1 : m2 ≠ r1 := Nat.ne_of_lt (Nat.lt_of_lt_of_le F_m2.lt hb_r1)
  have ne_m3_r1 : m3 ≠ r1 := Nat.ne_of_lt (Nat.lt_of_lt_of_le F_m3.lt hb_r1)
  have ne_r0_r1 : r0 ≠ r1 := Nat.ne_of_lt (Nat.lt_of_lt_of_le F_r0.lt hb_r1)
  replace F_m0 := F_m0.keep K7 nin0
  replace F_m1 := F_m1.keep K7 nin0
  replace F_m2 := F_m2.keep K7 nin0
  replace F_m3 := F_m3.keep K7 nin0
  replace F_r0 := F_r0.keep K7 nin0
  clear K7
  refine o_dup P (hb hby at_60) rfl (pc' := 61) rfl ?_
  refine o_aload P (hb hby at_61) rfl rfl (pc' := 63) rfl ?_
  refine o_aconstNull P (hb hby at_63) (pc' := 64) rfl ?_
  refine o_aconstNull P (hb hby at_64) (pc' := 65) rfl ?_
  refine o_callI P (W := 1) (a := r1) rfl (ow hw 66 rfl) (ow hw 67 rfl) (ow hw 65 rfl) (ow hw 68 rfl) (by decide) (ct_lmi l Z a0 hw EL n0 r1 m1 h7 F_r1) (o_sfS (List.Mem.head _) o_sf0) (by rw [hml]; rfl) (by decide) (by decide) (argsL := [(.ref m1), .null, .null]) (rest := [(.ref r1)]) (lenOf pd_25 rfl) rfl rfl (Nat.le_of_eq rfl) (hb hby at_65) (pc' := 68) rfl (by decide) (by decide) ?_
  clear P; intro T h8 v8 P K8 q8
  obtain ⟨rfl, F'⟩ := q8
  replace F_m0 := F_m0.keep K8 (ninS ne_m0_r1 nin0)
  replace F_m1 := F_m1.keep K8 (ninS ne_m1_r1 nin0)
  replace F_m2 := F_m2.keep K8 (ninS ne_m2_r1 nin0)
  replace F_m3 := F_m3.keep K8 (ninS ne_m3_r1 nin0)
  replace F_r0 := F_r0.keep K8 (ninS ne_r0_r1 nin0)
  clear K8
  replace F_r1 := F'; clear F'
  show OG p e below m _ T 68 #[.val (.int i0), .val (.int i1), .val (.int q), .val (.int (4 : Int32)), .val (.ref m0), .val (.ref m1), .val (.ref m2), .val (.ref m3), .val (.ref r0), .unset, .unset, .unset, .unset, .unset, .unset] [(.ref r1)]
  refine o_astore P (hb hby at_68) rfl (L' := #[.val (.int i0), .val (.int i1), .val (.int q), .val (.int (4 : Int32)), .val (.ref m0), .val (.ref m1), .val (.ref m2), .val (.ref m3), .val (.ref r0), .val (.ref r1), .unset, .unset, .unset, .unset, .unset]) rfl (pc' := 70) rfl ?_
  have hz_r2 := P.keep0.1
  refine o_new P [("com/example/pledgebook/pledgebook/model/LedgerMonth", "month", "Ljava/time/YearMonth;", .null), ("com/example/pledgebook/pledgebook/model/LedgerMonth", "grossRevenues", "Ljava/math/BigDecimal;", .null), ("com/example/pledgebook/pledgebook/model/LedgerMonth", "operatingExpenses", "Ljava/math/BigDecimal;", .null)] (ow hw 63 rfl) (ow hw 64 rfl) (ow hw 65 rfl) (OLd.cons (Or.inr (ow hw 76 rfl)) (ty := (.object "java/time/YearMonth")) (by decide) rfl (OLd.cons (Or.inr (ow hw 78 rfl)) (ty := (.object "java/math/BigDecimal")) (by decide) rfl (OLd.cons (Or.inr (ow hw 80 rfl)) (ty := (.object "java/math/BigDecimal")) (by decide) rfl OLd.nil))) (by decide +kernel) (hb hby at_70) (pc' := 73) rfl (by decide) (by decide) ?_
  clear P; intro T h9 r2 P K9 hb_r2 F_r2
  have sz_r2 := Nat.le_trans hz_r2 hb_r2
  clear hz_r2
  have ne_m0_r2 : m0 ≠ r2 := Nat.ne_of_lt (Nat.lt_of_lt_of_le F_m0.lt hb_r2)
  have ne_m1_r2 : m1 ≠ r2 := Nat.ne_of_lt (Nat.lt_of_lt_of_le F_m1.lt hb_r2)
  have ne_m2_r2 : m2 ≠ r2 := Nat.ne_of_lt (Nat.lt_of_lt_of_le F_m2.lt hb_r2)
  have ne_m3_r2 : m3 ≠ r2 := Nat.ne_of_lt (Nat.lt_of_lt_of_le F_m3.lt hb_r2)
  have ne_r0_r2 : r0 ≠ r2 := Nat.ne_of_lt (Nat.lt_of_lt_of_le F_r0.lt hb_r2)
  have ne_r1_r2 : r1 ≠ r2 := Nat.ne_of_lt (Nat.lt_of_lt_of_le F_r1.lt hb_r2)
  replace F_m0 := F_m0.keep K9 nin0
  replace F_m1 := F_m1.keep K9 nin0
  replace F_m2 := F_m2.keep K9 nin0
  replace F_m3 := F_m3.keep K9 nin0
  replace F_r0 := F_r0.keep K9 nin0
  replace F_r1 := F_r1.keep K9 nin0
  clear K9
  refine o_dup P (hb hby at_73) rfl (pc' := 74) rfl ?_
  refine o_aload P (hb hby at_74) rfl rfl (pc' := 76) rfl ?_
  refine o_aconstNull P (hb hby at_76) (pc' := 77) rfl ?_
  refine o_aconstNull P (hb hby at_77) (pc' := 78) rfl ?_
  refine o_callI P (W := 1) (a := r2) rfl (ow hw 66 rfl) (ow hw 67 rfl) (ow hw 65 rfl) (ow hw 68 rfl) (by decide) (ct_lmi l Z a0 hw EL n0 r2 m2 h9 F_r2) (o_sfS (List.Mem.head _) o_sf0) (by rw [hml]; rfl) (by decide) (by decide) (argsL := [(.ref m2), .null, .null]) (rest := [(.ref r2)]) (lenOf pd_25 rfl) rfl rfl (Nat.le_of_eq rfl) (hb hby at_78) (pc' := 81) rfl (by decide) (by decide) ?_
  clear P; intro T h10 v10 P K10 q10
  obtain ⟨rfl, F'⟩ := q10
  replace F_m0 := F_m0.keep K10 (ninS ne_m0_r2 nin0)
  replace F_m1 := F_m1.keep K10 (ninS ne_m1_r2 nin0)
  replace F_m2 := F_m2.keep K10 (ninS ne_m2_r2 nin0)
  replace F_m3 := F_m3.keep K10 (ninS ne_m3_r2 nin0)
  replace F_r0 := F_r0.keep K10 (ninS ne_r0_r2 nin0)
  replace F_r1 := F_r1.keep K10 (ninS ne_r1_r2 nin0)
  clear K10
  replace F_r2 := F'; clear F'
  show OG p e below m _ T 81 #[.val (.int i0), .val (.int i1), .val (.int q), .val (.int (4 : Int32)), .val (.ref m0), .val (.ref m1), .val (.ref m2), .val (.ref m3), .val (.ref r0), .val (.ref r1), .unset, .unset, .unset, .unset, .unset] [(.ref r2)]
  refine o_astore P (hb hby at_81) rfl (L' := #[.val (.int i0), .val (.int i1), .val (.int q), .val (.int (4 : Int32)), .val (.ref m0), .val (.ref m1), .val (.ref m2), .val (.ref m3), .val (.ref r0), .val (.ref r1), .val (.ref r2), .unset, .unset, .unset, .unset]) rfl (pc' := 83) rfl ?_
  have hz_r3 := P.keep0.1
  refine o_new P [("com/example/pledgebook/pledgebook/model/LedgerMonth", "month", "Ljava/time/YearMonth;", .null), ("com/example/pledgebook/pledgebook/model/LedgerMonth", "grossRevenues", "Ljava/math/BigDecimal;", .null), ("com/example/pledgebook/pledgebook/model/LedgerMonth", "operatingExpenses", "Ljava/math/BigDecimal;", .null)] (ow hw 63 rfl) (ow hw 64 rfl) (ow hw 65 rfl) (OLd.cons (Or.inr (ow hw 76 rfl)) (ty := (.object "java/time/YearMonth")) (by decide) rfl (OLd.cons (Or.inr (ow hw 78 rfl)) (ty := (.object "java/math/BigDecimal")) (by decide) rfl (OLd.cons (Or.inr (ow hw 80 rfl)) (ty := (.object "java/math/BigDecimal")) (by decide) rfl OLd.nil))) (by decide +kernel) (hb hby at_83) (pc' := 86) rfl (by decide) (by decide) ?_
  clear P; intro T h11 r3 P K11 hb_r3 F_r3
  have sz_r3 := Nat.le_trans hz_r3 hb_r3
  clear hz_r3
  have ne_m0_r3 : m0 ≠ r3 := Nat.ne_of_lt (Nat.lt_of_lt_of_le F_m0.lt hb_r3)
  have ne_m1_r3 : m1 ≠ r3 := Nat.ne_of_lt (Nat.lt_of_lt_of_le F_m1.lt hb_r3)
  have ne_m2_r3 : m2 ≠ r3 := Nat.ne_of_lt (Nat.lt_of_lt_of_le F_m2.lt hb_r3)
  have ne_m3_r3 : m3 ≠ r3 := Nat.ne_of_lt (Nat.lt_of_lt_of_le F_m3.lt hb_r3)
  have ne_r0_r3 : r0 ≠ r3 := Nat.ne_of_lt (Nat.lt_of_lt_of_le F_r0.lt hb_r3)
  have ne_r1_r3 : r1 ≠ r3 := Nat.ne_of_lt (Nat.lt_of_lt_of_le F_r1.lt hb_r3)
  have ne_r2_r3 : r2 ≠ r3 := Nat.ne_of_lt (Nat.lt_of_lt_of_le F_r2.lt hb_r3)
  replace F_m0 := F_m0.keep K11 nin0
  replace F_m1 := F_m1.keep K11 nin0
  replace F_m2 := F_m2.keep K11 nin0
  replace F_m3 := F_m3.keep K11 nin0
  replace F_r0 := F_r0.keep K11 nin0
  replace F_r1 := F_r1.keep K11 nin0
  replace F_r2 := F_r2.keep K11 nin0
  clear K11
  refine o_dup P (hb hby at_86) rfl (pc' := 87) rfl ?_
  refine o_aload P (hb hby at_87) rfl rfl (pc' := 89) rfl ?_
  refine o_aconstNull P (hb hby at_89) (pc' := 90) rfl ?_
  refine o_aconstNull P (hb hby at_90) (pc' := 91) rfl ?_
  refine o_callI P (W := 1) (a := r3) rfl (ow hw 66 rfl) (ow hw 67 rfl) (ow hw 65 rfl) (ow hw 68 rfl) (by decide) (ct_lmi l Z a0 hw EL n0 r3 m3 h11 F_r3) (o_sfS (List.Mem.head _) o_sf0) (by rw [hml]; rfl) (by decide) (by decide) (argsL := [(.ref m3), .null, .null]) (rest := [(.ref r3)]) (lenOf pd_25 rfl) rfl rfl (Nat.le_of_eq rfl) (hb hby at_91) (pc' := 94) rfl (by decide) (by decide) ?_
  clear P; intro T h12 v12 P K12 q12
  obtain ⟨rfl, F'⟩ := q12
  replace F_m0 := F_m0.keep K12 (ninS ne_m0_r3 nin0)
  replace F_m1 := F_m1.keep K12 (ninS ne_m1_r3 nin0)
  replace F_m2 := F_m2.keep K12 (ninS ne_m2_r3 nin0)
  replace F_m3 := F_m3.keep K12 (ninS ne_m3_r3 nin0)
  replace F_r0 := F_r0.keep K12 (ninS ne_r0_r3 nin0)
  replace F_r1 := F_r1.keep K12 (ninS ne_r1_r3 nin0)
  replace F_r2 := F_r2.keep K12 (ninS ne_r2_r3 nin0)
  clear K12
  replace F_r3 := F'; clear F'
  show OG p e below m _ T 94 #[.val (.int i0), .val (.int i1), .val (.int q), .val (.int (4 : Int32)), .val (.ref m0), .val (.ref m1), .val (.ref m2), .val (.ref m3), .val (.ref r0), .val (.ref r1), .val (.ref r2), .unset, .unset, .unset, .unset] [(.ref r3)]
  refine o_astore P (hb hby at_94) rfl (L' := #[.val (.int i0), .val (.int i1), .val (.int q), .val (.int (4 : Int32)), .val (.ref m0), .val (.ref m1), .val (.ref m2), .val (.ref m3), .val (.ref r0), .val (.ref r1), .val (.ref r2), .val (.ref r3), .unset, .unset, .unset]) rfl (pc' := 96) rfl ?_
  have hz_a := P.keep0.1
  refine o_new P [("java/util/AbstractList", "modCount", "I", (.int (0 : Int32))), ("java/util/ArrayList", "elementData", "[Ljava/lang/Object;", .null), ("java/util/ArrayList", "size", "I", (.int (0 : Int32)))] (ow hw 81 rfl) (ow hw 82 rfl) (ow hw 83 rfl) (OLd.cons (Or.inl (ow hw 101 rfl)) (ty := .int) (by decide) rfl (OLd.cons (Or.inl (ow hw 104 rfl)) (ty := (.array (.object "java/lang/Object"))) (by decide) rfl (OLd.cons (Or.inl (ow hw 113 rfl)) (ty := .int) (by decide) rfl OLd.nil))) (by decide +kernel) (hb hby at_96) (pc' := 99) rfl (by decide) (by decide) ?_
  clear P; intro T h13 a P K13 hb_a F_a
  have sz_a := Nat.le_trans hz_a hb_a
  clear hz_a
  have ne_m0_a : m0 ≠ a := Nat.ne_of_lt (Nat.lt_of_lt_of_le F_m0.lt hb_a)
  have ne_m1_a : m1 ≠ a := Nat.ne_of_lt (Nat.lt_of_lt_of_le F_m1.lt hb_a)
  have ne_m2_a : m2 ≠ a := Nat.ne_of_lt (Nat.lt_of_lt_of_le F_m2.lt hb_a)
  have ne_m3_a : m3 ≠ a := Nat.ne_of_lt (Nat.lt_of_lt_of_le F_m3.lt hb_a)
  have ne_r0_a : r0 ≠ a := Nat.ne_of_lt (Nat.lt_of_lt_of_le F_r0.lt hb_a)
  have ne_r1_a : r1 ≠ a := Nat.ne_of_lt (Nat.lt_of_lt_of_le F_r1.lt hb_a)
  have ne_r2_a : r2 ≠ a := Nat.ne_of_lt (Nat.lt_of_lt_of_le F_r2.lt hb_a)
  have ne_r3_a : r3 ≠ a := Nat.ne_of_lt (Nat.lt_of_lt_of_le F_r3.lt hb_a)
  replace F_m0 := F_m0.keep K13 nin0
  replace F_m1 := F_m1.keep K13 nin0
  replace F_m2 := F_m2.keep K13 nin0
  replace F_m3 := F_m3.keep K13 nin0
  replace F_r0 := F_r0.keep K13 nin0
  replace F_r1 := F_r1.keep K13 nin0
  replace F_r2 := F_r2.keep K13 nin0
  replace F_r3 := F_r3.keep K13 nin0
  clear K13
  refine o_dup P (hb hby at_99) rfl (pc' := 100) rfl ?_
  refine o_callI P (W := 1) (a := a) rfl (ow hw 84 rfl) (ow hw 85 rfl) (ow hw 83 rfl) (ow hw 86 rfl) (by decide) (ct_ali l Z a0 hw EL n0 a de hde Ade h13 F_a) (o_sfS (List.Mem.head _) o_sf0) (by rw [hml]; rfl) (by decide) (by decide) (argsL := []) (rest := [(.ref a)]) (lenOf pd_7 rfl) rfl rfl (Nat.le_of_eq rfl) (hb hby at_100) (pc' := 103) rfl (by decide) (by decide) ?_
  clear P; intro T h14 v14 P K14 q14
  obtain ⟨rfl, F'⟩ := q14
  replace F_m0 := F_m0.keep K14 (ninS ne_m0_a nin0)
  replace F_m1 := F_m1.keep K14 (ninS ne_m1_a nin0)
  replace F_m2 := F_m2.keep K14 (ninS ne_m2_a nin0)
  replace F_m3 := F_m3.keep K14 (ninS ne_m3_a nin0)
  replace F_r0 := F_r0.keep K14 (ninS ne_r0_a nin0)
  replace F_r1 := F_r1.keep K14 (ninS ne_r1_a nin0)
  replace F_r2 := F_r2.keep K14 (ninS ne_r2_a nin0)
  replace F_r3 := F_r3.keep K14 (ninS ne_r3_a nin0)
  clear K14
  replace F_a := F'; clear F'
  show OG p e below m _ T 103 #[.val (.int i0), .val (.int i1), .val (.int q), .val (.int (4 : Int32)), .val (.ref m0), .val (.ref m1), .val (.ref m2), .val (.ref m3), .val (.ref r0), .val (.ref r1), .val (.ref r2), .val (.ref r3), .unset, .unset, .unset] [(.ref a)]
  refine o_astore P (hb hby at_103) rfl (L' := #[.val (.int i0), .val (.int i1), .val (.int q), .val (.int (4 : Int32)), .val (.ref m0), .val (.ref m1), .val (.ref m2), .val (.ref m3), .val (.ref r0), .val (.ref r1), .val (.ref r2), .val (.ref r3), .val (.ref a), .unset, .unset]) rfl (pc' := 105) rfl ?_
  refine o_aload P (hb hby at_105) rfl rfl (pc' := 107) rfl ?_
  refine o_aload P (hb hby at_107) rfl rfl (pc' := 109) rfl ?_
  have hn_d := P.n0le; have hk_d := P.keep0.1
  refine o_callV P (W := 0) (x := (⟨"java/util/ArrayList", "add", "(Ljava/lang/Object;)Z"⟩ : MethodName)) (y := (⟨"java/util/ArrayList", "add", "(Ljava/lang/Object;)Z"⟩ : MethodName)) (a := a) (ow hw 105 rfl) (ow hw 106 rfl) (o_nfSel (y := (⟨"java/util/ArrayList", "add", "(Ljava/lang/Object;)Z"⟩ : MethodName)) rfl (ow hw 108 rfl)) (ow hw 108 rfl) (ow hw 107 rfl) (ow hw 83 rfl) (ow hw 109 rfl) (by decide) F_a.exa (ct_add_0 l Z a0 hw EL n0 a r0 _ de hde Ade h14 F_a (OObj.zero F_r0.exa) (Ne.symm ne_r0_a)) (o_sfS (List.Mem.head _) o_sf0) (by rw [hml]; rfl) (by decide) (by decide) (argsL := [(.ref r0)]) (rest := []) (lenOf pd_26 rfl) rfl rfl (Nat.le_of_eq rfl) (hb hby at_109) (pc' := 112) rfl (by decide) (by decide) ?_
  clear P; intro T h15 v15 P K15 q15
  obtain ⟨rfl, d, gd, F', A_d, O_d⟩ := q15
  have ne_m0_d : m0 ≠ d := Nat.ne_of_lt (Nat.lt_of_lt_of_le F_m0.lt gd)
  have ne_m1_d : m1 ≠ d := Nat.ne_of_lt (Nat.lt_of_lt_of_le F_m1.lt gd)
  have ne_m2_d : m2 ≠ d := Nat.ne_of_lt (Nat.lt_of_lt_of_le F_m2.lt gd)
  have ne_m3_d : m3 ≠ d := Nat.ne_of_lt (Nat.lt_of_lt_of_le F_m3.lt gd)
  have ne_r0_d : r0 ≠ d := Nat.ne_of_lt (Nat.lt_of_lt_of_le F_r0.lt gd)
  have ne_r1_d : r1 ≠ d := Nat.ne_of_lt (Nat.lt_of_lt_of_le F_r1.lt gd)
  have ne_r2_d : r2 ≠ d := Nat.ne_of_lt (Nat.lt_of_lt_of_le F_r2.lt gd)
  have ne_r3_d : r3 ≠ d := Nat.ne_of_lt (Nat.lt_of_lt_of_le F_r3.lt gd)
  have ne_a_d : a ≠ d := Nat.ne_of_lt (Nat.lt_of_lt_of_le F_a.lt gd)
  replace F_m0 := F_m0.keep K15 (ninS ne_m0_a nin0)
  replace F_m1 := F_m1.keep K15 (ninS ne_m1_a nin0)
  replace F_m2 := F_m2.keep K15 (ninS ne_m2_a nin0)
  replace F_m3 := F_m3.keep K15 (ninS ne_m3_a nin0)
  replace F_r0 := F_r0.keep K15 (ninS ne_r0_a nin0)
  replace F_r1 := F_r1.keep K15 (ninS ne_r1_a nin0)
  replace F_r2 := F_r2.keep K15 (ninS ne_r2_a nin0)
  replace F_r3 := F_r3.keep K15 (ninS ne_r3_a nin0)
  replace F_a := F'; clear F'; clear K15
  replace P := P.moreA A_d (fun q => by cases q) (Nat.le_trans hn_d gd) (Nat.le_trans hk_d gd)
  replace F_a : OObj Z h15 a "java/util/ArrayList" [("java/util/AbstractList", "modCount", "I", (.int (1 : Int32))), ("java/util/ArrayList", "elementData", "[Ljava/lang/Object;", (.ref d)), ("java/util/ArrayList", "size", "I", (.int (1 : Int32)))] := F_a
  show OG p e below m _ T 112 #[.val (.int i0), .val (.int i1), .val (.int q), .val (.int (4 : Int32)), .val (.ref m0), .val (.ref m1), .val (.ref m2), .val (.ref m3), .val (.ref r0), .val (.ref r1), .val (.ref r2), .val (.ref r3), .val (.ref a), .unset, .unset] [(.int (1 : Int32))]
  refine o_pop P (hb hby at_112) rfl (pc' := 113) rfl ?_
  refine o_iloadN P (hb hby at_113) rfl (pc' := 114) rfl ?_
  refine o_iconst P (2 : Int32) (hb hby at_114) rfl (pc' := 115) rfl ?_
  refine o_icmp_lt P (hb hby at_115) (by decide) (pc' := 126) (by decide) (pcf := 118) rfl (fun q => absurd q (by decide)) (fun _ => ?_)
  refine o_aload P (hb hby at_118) rfl rfl (pc' := 120) rfl ?_
  refine o_aload P (hb hby at_120) rfl rfl (pc' := 122) rfl ?_
  refine o_callV P (W := 0) (x := (⟨"java/util/ArrayList", "add", "(Ljava/lang/Object;)Z"⟩ : MethodName)) (y := (⟨"java/util/ArrayList", "add", "(Ljava/lang/Object;)Z"⟩ : MethodName)) (a := a) (ow hw 105 rfl) (ow hw 106 rfl) (o_nfSel (y := (⟨"java/util/ArrayList", "add", "(Ljava/lang/Object;)Z"⟩ : MethodName)) rfl (ow hw 108 rfl)) (ow hw 108 rfl) (ow hw 107 rfl) (ow hw 83 rfl) (ow hw 109 rfl) (by decide) F_a.exa (ct_add_1 l Z a0 hw EL n0 a r1 d r0 _ h15 F_a A_d O_d (OObj.zero F_r1.exa) (Ne.symm ne_r1_a) ne_r1_d ne_a_d) (o_sfS (List.Mem.tail _ (List.Mem.head _)) (o_sfS (List.Mem.head _) o_sf0)) (by rw [hml]; rfl) (by decide) (by decide) (argsL := [(.ref r1)]) (rest := []) (lenOf pd_26 rfl) rfl rfl (Nat.le_of_eq rfl) (hb hby at_122) (pc' := 125) rfl (by decide) (by decide) ?_
  clear P; intro T h16 v16 P K16 q16
  obtain ⟨rfl, F', A', O'⟩ := q16
  replace F_m0 := F_m0.keep K16 (ninS ne_m0_a (ninS ne_m0_d nin0))
  replace F_m1 := F_m1.keep K16 (ninS ne_m1_a (ninS ne_m1_d nin0))
  replace F_m2 := F_m2.keep K16 (ninS ne_m2_a (ninS ne_m2_d nin0))
  replace F_m3 := F_m3.keep K16 (ninS ne_m3_a (ninS ne_m3_d nin0))
  replace F_r0 := F_r0.keep K16 (ninS ne_r0_a (ninS ne_r0_d nin0))
  replace F_r1 := F_r1.keep K16 (ninS ne_r1_a (ninS ne_r1_d nin0))
  replace F_r2 := F_r2.keep K16 (ninS ne_r2_a (ninS ne_r2_d nin0))
  replace F_r3 := F_r3.keep K16 (ninS ne_r3_a (ninS ne_r3_d nin0))
  replace F_a := F'; replace A_d := A'; replace O_d := O'; clear F' A' O' K16
  replace F_a : OObj Z h16 a "java/util/ArrayList" [("java/util/AbstractList", "modCount", "I", (.int (2 : Int32))), ("java/util/ArrayList", "elementData", "[Ljava/lang/Object;", (.ref d)), ("java/util/ArrayList", "size", "I", (.int (2 : Int32)))] := F_a
  show OG p e below m _ T 125 #[.val (.int i0), .val (.int i1), .val (.int q), .val (.int (4 : Int32)), .val (.ref m0), .val (.ref m1), .val (.ref m2), .val (.ref m3), .val (.ref r0), .val (.ref r1), .val (.ref r2), .val (.ref r3), .val (.ref a), .unset, .unset] [(.int (1 : Int32))]
  refine o_pop P (hb hby at_125) rfl (pc' := 126) rfl ?_
  refine o_iloadN P (hb hby at_126) rfl (pc' := 127) rfl ?_
  refine o_iconst P (3 : Int32) (hb hby at_127) rfl (pc' := 128) rfl ?_
  refine o_icmp_lt P (hb hby at_128) (by decide) (pc' := 139) (by decide) (pcf := 131) rfl (fun q => absurd q (by decide)) (fun _ => ?_)
  refine o_aload P (hb hby at_131) rfl rfl (pc' := 133) rfl ?_
  refine o_aload P (hb hby at_133) rfl rfl (pc' := 135) rfl ?_
  refine o_callV P (W := 0) (x := (⟨"java/util/ArrayList", "add", "(Ljava/lang/Object;)Z"⟩ : MethodName)) (y := (⟨"java/util/ArrayList", "add", "(Ljava/lang/Object;)Z"⟩ : MethodName)) (a := a) (ow hw 105 rfl) (ow hw 106 rfl) (o_nfSel (y := (⟨"java/util/ArrayList", "add", "(Ljava/lang/Object;)Z"⟩ : MethodName)) rfl (ow hw 108 rfl)) (ow hw 108 rfl) (ow hw 107 rfl) (ow hw 83 rfl) (ow hw 109 rfl) (by decide) F_a.exa (ct_add_2 l Z a0 hw EL n0 a r2 d r0 r1 _ h16 F_a A_d O_d (OObj.zero F_r2.exa) (Ne.symm ne_r2_a) ne_r2_d ne_a_d) (o_sfS (List.Mem.tail _ (List.Mem.head _)) (o_sfS (List.Mem.head _) o_sf0)) (by rw [hml]; rfl) (by decide) (by decide) (argsL := [(.ref r2)]) (rest := []) (lenOf pd_26 rfl) rfl rfl (Nat.le_of_eq rfl) (hb hby at_135) (pc' := 138) rfl (by decide) (by decide) ?_
  clear P; intro T h17 v17 P K17 q17
  obtain ⟨rfl, F', A', O'⟩ := q17
  replace F_m0 := F_m0.keep K17 (ninS ne_m0_a (ninS ne_m0_d nin0))
  replace F_m1 := F_m1.keep K17 (ninS ne_m1_a (ninS ne_m1_d nin0))
  replace F_m2 := F_m2.keep K17 (ninS ne_m2_a (ninS ne_m2_d nin0))
  replace F_m3 := F_m3.keep K17 (ninS ne_m3_a (ninS ne_m3_d nin0))
  replace F_r0 := F_r0.keep K17 (ninS ne_r0_a (ninS ne_r0_d nin0))
  replace F_r1 := F_r1.keep K17 (ninS ne_r1_a (ninS ne_r1_d nin0))
  replace F_r2 := F_r2.keep K17 (ninS ne_r2_a (ninS ne_r2_d nin0))
  replace F_r3 := F_r3.keep K17 (ninS ne_r3_a (ninS ne_r3_d nin0))
  replace F_a := F'; replace A_d := A'; replace O_d := O'; clear F' A' O' K17
  replace F_a : OObj Z h17 a "java/util/ArrayList" [("java/util/AbstractList", "modCount", "I", (.int (3 : Int32))), ("java/util/ArrayList", "elementData", "[Ljava/lang/Object;", (.ref d)), ("java/util/ArrayList", "size", "I", (.int (3 : Int32)))] := F_a
  show OG p e below m _ T 138 #[.val (.int i0), .val (.int i1), .val (.int q), .val (.int (4 : Int32)), .val (.ref m0), .val (.ref m1), .val (.ref m2), .val (.ref m3), .val (.ref r0), .val (.ref r1), .val (.ref r2), .val (.ref r3), .val (.ref a), .unset, .unset] [(.int (1 : Int32))]
  refine o_pop P (hb hby at_138) rfl (pc' := 139) rfl ?_
  refine o_iloadN P (hb hby at_139) rfl (pc' := 140) rfl ?_
  refine o_iconst P (4 : Int32) (hb hby at_140) rfl (pc' := 141) rfl ?_
  refine o_icmp_lt P (hb hby at_141) (by decide) (pc' := 152) (by decide) (pcf := 144) rfl (fun q => absurd q (by decide)) (fun _ => ?_)
  refine o_aload P (hb hby at_144) rfl rfl (pc' := 146) rfl ?_
  refine o_aload P (hb hby at_146) rfl rfl (pc' := 148) rfl ?_
  refine o_callV P (W := 0) (x := (⟨"java/util/ArrayList", "add", "(Ljava/lang/Object;)Z"⟩ : MethodName)) (y := (⟨"java/util/ArrayList", "add", "(Ljava/lang/Object;)Z"⟩ : MethodName)) (a := a) (ow hw 105 rfl) (ow hw 106 rfl) (o_nfSel (y := (⟨"java/util/ArrayList", "add", "(Ljava/lang/Object;)Z"⟩ : MethodName)) rfl (ow hw 108 rfl)) (ow hw 108 rfl) (ow hw 107 rfl) (ow hw 83 rfl) (ow hw 109 rfl) (by decide) F_a.exa (ct_add_3 l Z a0 hw EL n0 a r3 d r0 r1 r2 _ h17 F_a A_d O_d (OObj.zero F_r3.exa) (Ne.symm ne_r3_a) ne_r3_d ne_a_d) (o_sfS (List.Mem.tail _ (List.Mem.head _)) (o_sfS (List.Mem.head _) o_sf0)) (by rw [hml]; rfl) (by decide) (by decide) (argsL := [(.ref r3)]) (rest := []) (lenOf pd_26 rfl) rfl rfl (Nat.le_of_eq rfl) (hb hby at_148) (pc' := 151) rfl (by decide) (by decide) ?_
  clear P; intro T h18 v18 P K18 q18
  obtain ⟨rfl, F', A', O'⟩ := q18
  replace F_m0 := F_m0.keep K18 (ninS ne_m0_a (ninS ne_m0_d nin0))
  replace F_m1 := F_m1.keep K18 (ninS ne_m1_a (ninS ne_m1_d nin0))
  replace F_m2 := F_m2.keep K18 (ninS ne_m2_a (ninS ne_m2_d nin0))
  replace F_m3 := F_m3.keep K18 (ninS ne_m3_a (ninS ne_m3_d nin0))
  replace F_r0 := F_r0.keep K18 (ninS ne_r0_a (ninS ne_r0_d nin0))
  replace F_r1 := F_r1.keep K18 (ninS ne_r1_a (ninS ne_r1_d nin0))
  replace F_r2 := F_r2.keep K18 (ninS ne_r2_a (ninS ne_r2_d nin0))
  replace F_r3 := F_r3.keep K18 (ninS ne_r3_a (ninS ne_r3_d nin0))
  replace F_a := F'; replace A_d := A'; replace O_d := O'; clear F' A' O' K18
  replace F_a : OObj Z h18 a "java/util/ArrayList" [("java/util/AbstractList", "modCount", "I", (.int (4 : Int32))), ("java/util/ArrayList", "elementData", "[Ljava/lang/Object;", (.ref d)), ("java/util/ArrayList", "size", "I", (.int (4 : Int32)))] := F_a
  show OG p e below m _ T 151 #[.val (.int i0), .val (.int i1), .val (.int q), .val (.int (4 : Int32)), .val (.ref m0), .val (.ref m1), .val (.ref m2), .val (.ref m3), .val (.ref r0), .val (.ref r1), .val (.ref r2), .val (.ref r3), .val (.ref a), .unset, .unset] [(.int (1 : Int32))]
  refine o_pop P (hb hby at_151) rfl (pc' := 152) rfl ?_
  have hz_u := P.keep0.1
  refine o_new P [("com/example/pledgebook/pledgebook/model/Ledger", "months", "Ljava/util/List;", .null)] (ow hw 136 rfl) (ow hw 137 rfl) (ow hw 138 rfl) (OLd.cons (Or.inr (ow hw 232 rfl)) (ty := (.object "java/util/List")) (by decide) rfl OLd.nil) (by decide +kernel) (hb hby at_152) (pc' := 155) rfl (by decide) (by decide) ?_
  clear P; intro T h19 u P K19 hb_u F_u
  have sz_u := Nat.le_trans hz_u hb_u
  clear hz_u
  have ne_m0_u : m0 ≠ u := Nat.ne_of_lt (Nat.lt_of_lt_of_le F_m0.lt hb_u)
  have ne_m1_u : m1 ≠ u := Nat.ne_of_lt (Nat.lt_of_lt_of_le F_m1.lt hb_u)
  have ne_m2_u : m2 ≠ u := Nat.ne_of_lt (Nat.lt_of_lt_of_le F_m2.lt hb_u)
  have ne_m3_u : m3 ≠ u := Nat.ne_of_lt (Nat.lt_of_lt_of_le F_m3.lt hb_u)
  have ne_r0_u : r0 ≠ u := Nat.ne_of_lt (Nat.lt_of_lt_of_le F_r0.lt hb_u)
  have ne_r1_u : r1 ≠ u := Nat.ne_of_lt (Nat.lt_of_lt_of_le F_r1.lt hb_u)
  have ne_r2_u : r2 ≠ u := Nat.ne_of_lt (Nat.lt_of_lt_of_le F_r2.lt hb_u)
  have ne_r3_u : r3 ≠ u := Nat.ne_of_lt (Nat.lt_of_lt_of_le F_r3.lt hb_u)
  have ne_a_u : a ≠ u := Nat.ne_of_lt (Nat.lt_of_lt_of_le F_a.lt hb_u)
  have ne_d_u : d ≠ u := Nat.ne_of_lt (Nat.lt_of_lt_of_le A_d.lt hb_u)
  replace F_m0 := F_m0.keep K19 nin0
  replace F_m1 := F_m1.keep K19 nin0
  replace F_m2 := F_m2.keep K19 nin0
  replace F_m3 := F_m3.keep K19 nin0
  replace F_r0 := F_r0.keep K19 nin0
  replace F_r1 := F_r1.keep K19 nin0
  replace F_r2 := F_r2.keep K19 nin0
  replace F_r3 := F_r3.keep K19 nin0
  replace F_a := F_a.keep K19 nin0
  replace A_d := A_d.keep K19 nin0
  replace O_d := O_d.keep K19
  clear K19
  refine o_dup P (hb hby at_155) rfl (pc' := 156) rfl ?_
  refine o_aload P (hb hby at_156) rfl rfl (pc' := 158) rfl ?_
  refine o_callI P (W := 1) (a := u) rfl (ow hw 139 rfl) (ow hw 140 rfl) (ow hw 138 rfl) (ow hw 141 rfl) (by decide) (ct_lei_4 l Z a0 hw EL n0 u a _ d r0 r1 r2 r3 mir hmir em hem Fem h19 A_d O_d (OObj.zero F_r0.exa) (OObj.zero F_r1.exa) (OObj.zero F_r2.exa) (OObj.zero F_r3.exa) F_a F_u) (o_sfS (List.Mem.head _) o_sf0) (by rw [hml]; rfl) (by decide) (by decide) (argsL := [(.ref a)]) (rest := [(.ref u)]) (lenOf pd_27 rfl) rfl rfl (Nat.le_of_eq rfl) (hb hby at_158) (pc' := 161) rfl (by decide) (by decide) ?_
  clear P; intro T h20 v20 P K20 q20
  obtain ⟨rfl, g, F', ee, F_g, A_ee⟩ := q20
  replace F_m0 := F_m0.keep K20 (ninS ne_m0_u nin0)
  replace F_m1 := F_m1.keep K20 (ninS ne_m1_u nin0)
  replace F_m2 := F_m2.keep K20 (ninS ne_m2_u nin0)
  replace F_m3 := F_m3.keep K20 (ninS ne_m3_u nin0)
  replace F_r0 := F_r0.keep K20 (ninS ne_r0_u nin0)
  replace F_r1 := F_r1.keep K20 (ninS ne_r1_u nin0)
  replace F_r2 := F_r2.keep K20 (ninS ne_r2_u nin0)
  replace F_r3 := F_r3.keep K20 (ninS ne_r3_u nin0)
  replace F_a := F_a.keep K20 (ninS ne_a_u nin0)
  replace A_d := A_d.keep K20 (ninS ne_d_u nin0)
  replace O_d := O_d.keep K20
  replace F_u := F'; clear F' K20
  show OG p e below m _ T 161 #[.val (.int i0), .val (.int i1), .val (.int q), .val (.int (4 : Int32)), .val (.ref m0), .val (.ref m1), .val (.ref m2), .val (.ref m3), .val (.ref r0), .val (.ref r1), .val (.ref r2), .val (.ref r3), .val (.ref a), .unset, .unset] [(.ref u)]
  refine o_astore P (hb hby at_161) rfl (L' := #[.val (.int i0), .val (.int i1), .val (.int q), .val (.int (4 : Int32)), .val (.ref m0), .val (.ref m1), .val (.ref m2), .val (.ref m3), .val (.ref r0), .val (.ref r1), .val (.ref r2), .val (.ref r3), .val (.ref a), .val (.ref u), .unset]) rfl (pc' := 163) rfl ?_
  refine o_iloadN P (hb hby at_163) rfl (pc' := 164) rfl ?_
  refine o_iconst P (1 : Int32) (hb hby at_164) rfl (pc' := 165) rfl ?_
  refine o_icmp_ne P (hb hby at_165) (by decide) (pc' := 175) (by decide) (pcf := 168) rfl (fun _ => ?_) (fun q => absurd q (by decide))
  refine o_iloadN P (hb hby at_175) rfl (pc' := 176) rfl ?_
  refine o_iconst P (2 : Int32) (hb hby at_176) rfl (pc' := 177) rfl ?_
  refine o_icmp_ne P (hb hby at_177) (by decide) (pc' := 187) (by decide) (pcf := 180) rfl (fun _ => ?_) (fun q => absurd q (by decide))
  refine o_iloadN P (hb hby at_187) rfl (pc' := 188) rfl ?_
  refine o_iconst P (3 : Int32) (hb hby at_188) rfl (pc' := 189) rfl ?_
  refine o_icmp_ne P (hb hby at_189) (by decide) (pc' := 199) (by decide) (pcf := 192) rfl (fun _ => ?_) (fun q => absurd q (by decide))
  refine o_aload P (hb hby at_199) rfl rfl (pc' := 201) rfl ?_
  refine o_astore P (hb hby at_201) rfl (L' := #[.val (.int i0), .val (.int i1), .val (.int q), .val (.int (4 : Int32)), .val (.ref m0), .val (.ref m1), .val (.ref m2), .val (.ref m3), .val (.ref r0), .val (.ref r1), .val (.ref r2), .val (.ref r3), .val (.ref a), .val (.ref u), .val (.ref m3)]) rfl (pc' := 203) rfl ?_
  refine o_aload P (hb hby at_203) rfl rfl (pc' := 205) rfl ?_
  have F_l : OObj Z h20 r3 "com/example/pledgebook/pledgebook/model/LedgerMonth" [("com/example/pledgebook/pledgebook/model/LedgerMonth", "month", "Ljava/time/YearMonth;", (.ref m3))] := OObj.one F_r3.exa (F_r3.fld 0 rfl)
  refine o_callV P (W := 0) (x := (⟨"com/example/pledgebook/pledgebook/model/Ledger", "lastMonth", "()Ljava/time/YearMonth;"⟩ : MethodName)) (y := (⟨"com/example/pledgebook/pledgebook/model/Ledger", "lastMonth", "()Ljava/time/YearMonth;"⟩ : MethodName)) (a := u) (ow hw 233 rfl) (ow hw 234 rfl) (o_nfSel (y := (⟨"com/example/pledgebook/pledgebook/model/Ledger", "lastMonth", "()Ljava/time/YearMonth;"⟩ : MethodName)) rfl (ow hw 236 rfl)) (ow hw 236 rfl) (ow hw 235 rfl) (ow hw 138 rfl) (ow hw 237 rfl) (by decide) F_u.exa (ct_las_4 l Z a0 hw EL n0 u g r0 r1 r2 r3 m3 ee em hem Fem h20 F_u F_g A_ee F_l) o_sf0 (by rw [hml]; rfl) (by decide) (by decide) (argsL := []) (rest := []) (lenOf pd_23 rfl) rfl rfl (Nat.le_of_eq rfl) (hb hby at_205) (pc' := 208) rfl (by decide) (by decide) ?_
  clear P; intro T h21 v21 P K21 q21
  obtain ⟨rfl, rfl⟩ := q21; clear K21
  show OG p e below m _ T 208 #[.val (.int i0), .val (.int i1), .val (.int q), .val (.int (4 : Int32)), .val (.ref m0), .val (.ref m1), .val (.ref m2), .val (.ref m3), .val (.ref r0), .val (.ref r1), .val (.ref r2), .val (.ref r3), .val (.ref a), .val (.ref u), .val (.ref m3)] [(.ref m3)]
  refine o_aload P (hb hby at_208) rfl rfl (pc' := 210) rfl ?_
  refine o_acmp P true (hb hby at_210) rfl rfl (decide_eq_true rfl) (by decide) (pc' := 213) rfl ?_
  refine o_iconst P (1 : Int32) (hb hby at_213) rfl (pc' := 214) rfl ?_
  refine o_goto P (hb hby at_214) (by decide) (pc' := 218) (by decide) ?_
  exact o_retI P hret (by simp) rfl (hb hby at_218) (by decide) (by decide) rfl
theorem ef_80 (x0 : Int32) (x1 : Int32) (m : MethodId) : entryFrame m #[(.int x0), (.int x1)] maxLocals = mkF m 0 #[.val (.int x0), .val (.int x1), .unset, .unset, .unset, .unset, .unset, .unset, .unset, .unset, .unset, .unset, .unset, .unset, .unset] [] := by first | (simp [entryFrame, mkF, argsToLocals, o_catR, o_catN, o_catI, o_catJ, o_catD, maxLocals]; done) | rfl
set_option maxRecDepth 65536 in
set_option maxHeartbeats 40000000 in
theorem rm0 (l : Launch) (Z : State) (a0 : Array Value) (hw : ∀ d ∈ tables_1, d.before a0 Z = true) (EL : List (String × Nat)) (n0 : Nat) (i0 i1 : Int32) (fy vy fm vm : Addr) (hfy : Sta Z Z.heap "java/time/temporal/ChronoField" "YEAR" "Ljava/time/temporal/ChronoField;" (.ref fy)) (hfm : Sta Z Z.heap "java/time/temporal/ChronoField" "MONTH_OF_YEAR" "Ljava/time/temporal/ChronoField;" (.ref fm)) (Fy : OObj Z Z.heap fy "java/time/temporal/ChronoField" [("java/time/temporal/ChronoField", "range", "Ljava/time/temporal/ValueRange;", (.ref vy))]) (Fvy : OObj Z Z.heap vy "java/time/temporal/ValueRange" [("java/time/temporal/ValueRange", "minSmallest", "J", (.long (-999999999 : Int64))), ("java/time/temporal/ValueRange", "maxLargest", "J", (.long (999999999 : Int64)))]) (Fm : OObj Z Z.heap fm "java/time/temporal/ChronoField" [("java/time/temporal/ChronoField", "range", "Ljava/time/temporal/ValueRange;", (.ref vm))]) (Fvm : OObj Z Z.heap vm "java/time/temporal/ValueRange" [("java/time/temporal/ValueRange", "minSmallest", "J", (.long (1 : Int64))), ("java/time/temporal/ValueRange", "maxLargest", "J", (.long (12 : Int64)))]) (de : Addr) (hde : Sta Z Z.heap "java/util/ArrayList" "DEFAULTCAPACITY_EMPTY_ELEMENTDATA" "[Ljava/lang/Object;" (.ref de)) (Ade : OArr Z Z.heap de (.object "java/lang/Object") []) (em : Addr) (hem : Sta Z Z.heap "java/util/ImmutableCollections" "EMPTY" "Ljava/lang/Object;" (.ref em)) (Fem : OObj Z Z.heap em "java/lang/Object" []) (mir : Addr) (hmir : OMir Z "[Ljava/lang/Object;" mir) (h0 : Heap) :
    OCt l Z a0 EL n0 x code maxLocals ret room_1 tables_1 #[(.int i0), (.int i1)] h0 [] (fun w vm h => w = some (.int 1)) := by
  refine OCt.body (plainFor_of_name pn_LW) (ef_80 i0 i1) ?_
  intro p e s m below meth c T hby hml hret hnm hsh P
  refine o_iloadN P (hb hby at_0) rfl (pc' := 1) rfl ?_
  refine o_ldcI P (ow hw 0 rfl) (hb hby at_1) (pc' := 3) rfl ?_
  refine o_iand P (hb hby at_3) (pc' := 4) rfl ?_
  refine o_ldcI P (ow hw 1 rfl) (hb hby at_4) (pc' := 6) rfl ?_
  refine o_irem P (hb hby at_6) (by decide) (pc' := 7) rfl ?_
  refine o_istoreN P (hb hby at_7) (L' := #[.val (.int i0), .val (.int i1), .val (.int ((i0 &&& (2147483647 : Int32)) % (12000000 : Int32))), .unset, .unset, .unset, .unset, .unset, .unset, .unset, .unset, .unset, .unset, .unset, .unset]) rfl (pc' := 8) rfl ?_
  refine o_iloadN P (hb hby at_8) rfl (pc' := 9) rfl ?_
  refine o_iconst P (3 : Int32) (hb hby at_9) rfl (pc' := 10) rfl ?_
  refine o_iand P (hb hby at_10) (pc' := 11) rfl ?_
  refine o_iconst P (1 : Int32) (hb hby at_11) rfl (pc' := 12) rfl ?_
  refine o_iadd P (hb hby at_12) (pc' := 13) rfl ?_
  refine o_istoreN P (hb hby at_13) (L' := #[.val (.int i0), .val (.int i1), .val (.int ((i0 &&& (2147483647 : Int32)) % (12000000 : Int32))), .val (.int ((i1 &&& (3 : Int32)) + (1 : Int32))), .unset, .unset, .unset, .unset, .unset, .unset, .unset, .unset, .unset, .unset, .unset]) rfl (pc' := 14) rfl ?_
  have hbq := own_rem i0
  generalize (i0 &&& (2147483647 : Int32)) % (12000000 : Int32) = q at hbq ⊢
  rcases own_cnt i1 with e | e | e | e <;> rw [e]
  · exact law14_1 l Z a0 hw EL hby hml hret i0 i1 q hbq.1 hbq.2 fy vy fm vm hfy hfm Fy Fvy Fm Fvm de hde Ade em hem Fem mir hmir P
  · exact law14_2 l Z a0 hw EL hby hml hret i0 i1 q hbq.1 hbq.2 fy vy fm vm hfy hfm Fy Fvy Fm Fvm de hde Ade em hem Fem mir hmir P
  · exact law14_3 l Z a0 hw EL hby hml hret i0 i1 q hbq.1 hbq.2 fy vy fm vm hfy hfm Fy Fvy Fm Fvm de hde Ade em hem Fem mir hmir P
  · exact law14_4 l Z a0 hw EL hby hml hret i0 i1 q hbq.1 hbq.2 fy vy fm vm hfy hfm Fy Fvy Fm Fvm de hde Ade em hem Fem mir hmir P
set_option maxRecDepth 65536 in
set_option maxHeartbeats 40000000 in
theorem comes_1 {Post : Tables → Env → Array Value → State → Outcome → State → Prop} (hpost : ∀ tb e args s v u, (limb_1_1.after args s (.returned v) u = true ∧ limb_1_2.after args s (.returned v) u = true ∧ True) → FrameEnd s (.returned v) u (Jvm.fieldLocs frame_1_writes args s ++ Jvm.arrayLocs frame_1_arrays args s ++ Jvm.staticLocs frame_1_statics s) 40 192 → Post tb e args s (.returned v) u) :
    ArmFor flags0 classFile x code maxLocals ret World_1 tables_1 room_1 Calls_1 rest_1 Pre_1 Post := by
  intro l hfl _ _ p e ha hc hk s m args below hf hA hF happ hP
  obtain ⟨hcalls, hrest, hpre⟩ := hP
  obtain ⟨-, -, -, hnamed, -, -, -, hat⟩ := (Spec.applies_iff hf).mp happ
  obtain ⟨hg, hn⟩ := and_e (Cond.before_iff.mp (show (Jvm.Cond.and given_1 narrow_1).before args s = true from hpre))
  obtain ⟨g0, hg⟩ := and_e hg
  obtain ⟨gv0, hg⟩ := and_e hg
  have gv1 := hg
  obtain ⟨w0, w1, rfl⟩ : ∃ w0 w1 : Value, args = #[w0, w1] := by
    have hs : args.size = 2 := by simpa [Cond.value, given_1] using g0
    obtain ⟨L⟩ := args
    match L, hs with
    | [w0, w1], _ => exact ⟨w0, w1, rfl⟩
  have hw := fun d (hd : d ∈ tables_1) => atoms_spec (ws := Jvm.Cond.code x code maxLocals ret :: tables_1) hat d (List.mem_cons_of_mem _ hd)
  have hfit : Fit s := fun {y c} hc i hi => by
    obtain ⟨ha, rfl⟩ := Array.getElem?_eq_some_iff.mp hc
    have q := List.all_eq_true.mp ((Array.all_eq_true_iff_forall_mem.mp hF) _ (Array.getElem_mem ha)) i (List.mem_range.mpr hi)
    simpa [Array.getElem?_eq_getElem hi] using q
  obtain ⟨hsets, hown0⟩ := atoms_of _ (rest_1_c_eq ▸ (show rest_1_c.before _ s = true from hrest))
  obtain ⟨i0, ei0⟩ := is_v gv0
  obtain rfl : w0 = (.int i0) := Option.some.inj ei0
  obtain ⟨i1, ei1⟩ := is_v gv1
  obtain rfl : w1 = (.int i1) := Option.some.inj ei1
  have hEW : EW s #[.int i0, .int i1] [] := EW.nil
  have hCH : CHv s [] s.vm s.heap := fun p hp => nomatch hp
  obtain ⟨fy, efy⟩ := exa_v (Cond.before_iff.mp (hsets _ (List.mem_of_getElem? (i := 6) rfl)))
  have hfy : Sta s s.heap "java/time/temporal/ChronoField" "YEAR" "Ljava/time/temporal/ChronoField;" (.ref fy) := Sta.start efy (Or.inl (hsets _ (List.mem_of_getElem? (i := 1) rfl)))
  obtain ⟨vy, evy⟩ := exa_v (Cond.before_iff.mp (hsets _ (List.mem_of_getElem? (i := 22) rfl)))
  have Fy := OObj.one (Exa.start efy (Cond.before_iff.mp (hsets _ (List.mem_of_getElem? (i := 6) rfl)))) (o_fexa efy evy)
  have Fvy := OObj.two (Exa.start evy (Cond.before_iff.mp (hsets _ (List.mem_of_getElem? (i := 22) rfl)))) (o_flong evy (Cond.before_iff.mp (hsets _ (List.mem_of_getElem? (i := 23) rfl)))) (o_flong evy (Cond.before_iff.mp (hsets _ (List.mem_of_getElem? (i := 26) rfl)))) (Or.inr (ow hw 41 rfl)) (Or.inr (ow hw 48 rfl)) (by decide) (ty := .long) (by decide) (ty' := .long) (by decide)
  obtain ⟨fm, efm⟩ := exa_v (Cond.before_iff.mp (hsets _ (List.mem_of_getElem? (i := 34) rfl)))
  have hfm : Sta s s.heap "java/time/temporal/ChronoField" "MONTH_OF_YEAR" "Ljava/time/temporal/ChronoField;" (.ref fm) := Sta.start efm (Or.inl (hsets _ (List.mem_of_getElem? (i := 29) rfl)))
  obtain ⟨vm, evm⟩ := exa_v (Cond.before_iff.mp (hsets _ (List.mem_of_getElem? (i := 50) rfl)))
  have Fm := OObj.one (Exa.start efm (Cond.before_iff.mp (hsets _ (List.mem_of_getElem? (i := 34) rfl)))) (o_fexa efm evm)
  have Fvm := OObj.two (Exa.start evm (Cond.before_iff.mp (hsets _ (List.mem_of_getElem? (i := 50) rfl)))) (o_flong evm (Cond.before_iff.mp (hsets _ (List.mem_of_getElem? (i := 51) rfl)))) (o_flong evm (Cond.before_iff.mp (hsets _ (List.mem_of_getElem? (i := 54) rfl)))) (Or.inr (ow hw 41 rfl)) (Or.inr (ow hw 48 rfl)) (by decide) (ty := .long) (by decide) (ty' := .long) (by decide)
  obtain ⟨de, ede⟩ := exa_v (Cond.before_iff.mp (hsets _ (List.mem_of_getElem? (i := 63) rfl)))
  have hde : Sta s s.heap "java/util/ArrayList" "DEFAULTCAPACITY_EMPTY_ELEMENTDATA" "[Ljava/lang/Object;" (.ref de) := Sta.start ede (Or.inr ⟨(ow hw 83 rfl), (hsets _ (List.mem_of_getElem? (i := 58) rfl))⟩)
  obtain ⟨cde, Acde⟩ := Arr.start ede (Cond.before_iff.mp (hsets _ (List.mem_of_getElem? (i := 62) rfl)))
  have hlde := o_len ede Acde (Cond.before_iff.mp (hsets _ (List.mem_of_getElem? (i := 64) rfl)))
  have Ade := OArr.start (vs := []) hfit Acde hlde (by decide) rfl trivial
  obtain ⟨em, eem⟩ := exa_v (Cond.before_iff.mp (hsets _ (List.mem_of_getElem? (i := 67) rfl)))
  have hem : Sta s s.heap "java/util/ImmutableCollections" "EMPTY" "Ljava/lang/Object;" (.ref em) := Sta.start eem (Or.inl (hsets _ (List.mem_of_getElem? (i := 66) rfl)))
  have Fem := OObj.zero (Exa.start eem (Cond.before_iff.mp (hsets _ (List.mem_of_getElem? (i := 67) rfl))))
  obtain ⟨c1, k1, mir, g1, g2, g3⟩ := hcalls.1
  have hmir : OMir s "[Ljava/lang/Object;" mir := ⟨c1, k1, g1, g2, g3.1⟩
  obtain ⟨n, o, h1, h2, h3, v, L, rfl, ⟨rfl, K, N⟩, hC, hH, hq⟩ := rm0 l s _ hw [] s.heap.size i0 i1 fy vy fm vm hfy hfm Fy Fvy Fm Fvm de hde Ade em hem Fem mir hmir s.heap (Old.start s) hEW (fun _ q => nomatch q) p e ha hc hk s m _ below hf ((Spec.applies_iff_loose hf).mp happ).1 ⟨rfl, State.Warmed39.refl s, rfl, hCH, fun _ q => nomatch q⟩ trivial
  refine ⟨n, _, h1, h2, h3, hpost _ _ _ _ _ _ ⟨Cond.after_iff.mpr rfl, Cond.after_iff.mpr (eq_i res_at (Term.int_eval (1)) rfl), trivial⟩ ⟨hq.1, hH rfl, (hq.2.2.2.sift fun y hy => Or.inr (N y hy)).mono (by decide) (by decide)⟩⟩
theorem main_1_1 : Claimed_1_1 := comes_1 fun _ _ _ _ _ _ h hF => ⟨h.1, hF⟩
theorem main_1_2 : Claimed_1_2 := comes_1 fun _ _ _ _ _ _ h hF => ⟨h.2.1, hF⟩
end Jvm.Pilot.@@N@@
namespace Jvm.Pilot.@@N@@
open Jvm Jvm.ClassFile Sem Op Lib Jvm.Free Jvm.Stand Jvm.Pilot.@@N@@.Jvm.D
/-! MADE BY PROGRAM (witnessworld.py) out of the Statement's table words and the real class files: 42 classes; the members and pool entries that the words name. The judged class is class 1, her method 1. -/
namespace start1
open Jvm.ClassFile
def u (s : String) : CpInfo := .utf8 (stringToUtf16 s)
/-- a pool by its gaps: so many unusable entries, then the entry; so many at the end -/
def gap : Nat → List CpInfo → List CpInfo
  | 0, r => r
  | n + 1, r => .unusable :: gap n r
def poolList (es : List (Nat × CpInfo)) (last : Nat) : List CpInfo := es.foldr (fun e r => gap e.1 (e.2 :: r)) (gap last [])
def pool (es : List (Nat × CpInfo)) (last : Nat) : Array CpInfo := ⟨poolList es last⟩
def fileOf (pool : Array CpInfo) (this : Nat) (attrs : Array Attribute := #[]) (ms : Array MethodInfo := #[]) (fl : Nat := 33) (sup : Nat := 0) (ifs : Array Nat := #[]) (fds : Array FieldInfo := #[]) : ClassFile where
  minorVersion := 0
  majorVersion := 65
  constantPool := pool
  accessFlags := fl
  thisClass := this
  superClass := sup
  interfaces := ifs
  fields := fds
  methods := ms
  attributes := attrs
def plain (name : String) (sup : Option ClassId) : Class where
  name := name
  kind := .ordinary
  loader := none
  accessFlags := 33
  super := sup
  interfaces := #[]
  cf := none
  fields := #[]
  methods := #[]
  instanceTypes := #[]
  staticTypes := #[]
  resolved := #[]
  callSites := []
  init := .initialized
  statics := none
  mirror := none

def pool0 : Array CpInfo := pool [(5, u "<init>"), (0, u "()V"), (1, .class_ 10), (1, u "java/lang/Object"), (0, u "getClass"), (0, u "()Ljava/lang/Class;")] 111

def k0c0 : Code := { maxStack := 0, maxLocals := 1, code := object_method_1_code, exceptionTable := #[], attributes := #[] }
def k0m0 : Method := { name := "<init>", desc := "()V", sig := { parameters := [], returnType := none }, accessFlags := 1, code := some k0c0 }
def k0m1 : Method := { name := "getClass", desc := "()Ljava/lang/Class;", sig := { parameters := [], returnType := some (.object "java/lang/Class") }, accessFlags := 273, code := none }
/-- java/lang/Object -/
def k0 : Class := { plain "java/lang/Object" none with
  accessFlags := 33
  interfaces := #[]
  cf := some (fileOf pool0 8 #[] #[{ accessFlags := 1, nameIndex := 5, descriptorIndex := 6, attributes := #[] }, { accessFlags := 273, nameIndex := 11, descriptorIndex := 12, attributes := #[] }] 33 0 #[] #[])
  fields := #[]
  methods := #[k0m0, k0m1]
  instanceTypes := #[]
  staticTypes := #[]
  resolved := Array.replicate 124 none
  statics := none }

def pool1 : Array CpInfo := pool [(2, .class_ 4), (0, .nameAndType 5 6), (0, u "java/lang/Object"), (0, u "<init>"), (0, u "()V"), (0, .integer 2147483647), (0, .integer 12000000), (0, .methodref 10 11), (0, .class_ 12), (0, .nameAndType 13 14), (0, u "com/example/pledgebook/pledgebook/model/LedgerLastMonthPinLaw"), (0, u "ym"), (0, u "(I)Ljava/time/YearMonth;"), (0, .class_ 16), (0, u "com/example/pledgebook/pledgebook/model/LedgerMonth"), (0, .methodref 15 18), (0, .nameAndType 5 19), (0, u "(Ljava/time/YearMonth;Ljava/math/BigDecimal;Ljava/math/BigDecimal;)V"), (0, .class_ 21), (0, u "java/util/ArrayList"), (0, .methodref 20 3), (0, .methodref 20 24), (0, .nameAndType 25 26), (0, u "add"), (0, u "(Ljava/lang/Object;)Z"), (0, .class_ 28), (0, u "com/example/pledgebook/pledgebook/model/Ledger"), (0, .methodref 27 30), (0, .nameAndType 5 31), (0, u "(Ljava/util/List;)V"), (0, .methodref 27 33), (0, .nameAndType 34 35), (0, u "lastMonth"), (0, u "()Ljava/time/YearMonth;"), (0, .methodref 37 38), (0, .class_ 39), (0, .nameAndType 40 41), (0, u "java/time/YearMonth"), (0, u "of"), (0, u "(II)Ljava/time/YearMonth;"), (2, u "law"), (0, u "(II)Z")] 3

def k1m0 : Method := { name := "<init>", desc := "()V", sig := { parameters := [], returnType := none }, accessFlags := 1, code := none }
def k1c1 : Code := { maxStack := 5, maxLocals := 15, code := code, exceptionTable := #[], attributes := #[] }
def k1m1 : Method := { name := "law", desc := "(II)Z", sig := { parameters := [.int, .int], returnType := some .boolean }, accessFlags := 9, code := some k1c1 }
def k1c2 : Code := { maxStack := 3, maxLocals := 1, code := method_3_code, exceptionTable := #[], attributes := #[] }
def k1m2 : Method := { name := "ym", desc := "(I)Ljava/time/YearMonth;", sig := { parameters := [.int], returnType := some (.object "java/time/YearMonth") }, accessFlags := 10, code := some k1c2 }
/-- com/example/pledgebook/pledgebook/model/LedgerLastMonthPinLaw -/
def k1 : Class := { plain "com/example/pledgebook/pledgebook/model/LedgerLastMonthPinLaw" (some 0) with
  accessFlags := 49
  interfaces := #[]
  cf := some (fileOf pool1 10 #[] #[{ accessFlags := 1, nameIndex := 5, descriptorIndex := 6, attributes := #[] }, { accessFlags := 9, nameIndex := 44, descriptorIndex := 45, attributes := #[] }, { accessFlags := 10, nameIndex := 13, descriptorIndex := 14, attributes := #[] }] 49 2 #[] #[])
  fields := #[]
  methods := #[k1m0, k1m1, k1m2]
  instanceTypes := #[]
  staticTypes := #[]
  resolved := Array.replicate 49 none
  statics := none }

def pool2 : Array CpInfo := pool [(4, .class_ 6), (1, u "java/time/temporal/TemporalAccessor"), (95, .class_ 103), (0, u "java/lang/Object")] 21

/-- java/time/temporal/TemporalAccessor -/
def k2 : Class := { plain "java/time/temporal/TemporalAccessor" (some 0) with
  accessFlags := 1537
  interfaces := #[]
  cf := some (fileOf pool2 4 #[] #[] 1537 102 #[] #[])
  fields := #[]
  methods := #[]
  instanceTypes := #[]
  staticTypes := #[]
  resolved := Array.replicate 125 none
  statics := none }

def pool3 : Array CpInfo := pool [(22, .class_ 24), (1, u "java/time/temporal/Temporal"), (2, .class_ 28), (0, u "java/lang/Object"), (0, .class_ 30), (0, u "java/time/temporal/TemporalAccessor")] 25

/-- java/time/temporal/Temporal -/
def k3 : Class := { plain "java/time/temporal/Temporal" (some 0) with
  accessFlags := 1537
  interfaces := #[2]
  cf := some (fileOf pool3 22 #[] #[] 1537 27 #[29] #[])
  fields := #[]
  methods := #[]
  instanceTypes := #[]
  staticTypes := #[]
  resolved := Array.replicate 56 none
  statics := none }

def pool4 : Array CpInfo := pool [(1, .class_ 2), (0, u "java/time/temporal/TemporalAdjuster"), (0, .class_ 4), (0, u "java/lang/Object")] 6

/-- java/time/temporal/TemporalAdjuster -/
def k4 : Class := { plain "java/time/temporal/TemporalAdjuster" (some 0) with
  accessFlags := 1537
  interfaces := #[]
  cf := some (fileOf pool4 1 #[] #[] 1537 3 #[] #[])
  fields := #[]
  methods := #[]
  instanceTypes := #[]
  staticTypes := #[]
  resolved := Array.replicate 11 none
  statics := none }

def pool5 : Array CpInfo := pool [(1, .class_ 2), (0, u "java/lang/Comparable"), (0, .class_ 4), (0, u "java/lang/Object")] 7

/-- java/lang/Comparable -/
def k5 : Class := { plain "java/lang/Comparable" (some 0) with
  accessFlags := 1537
  interfaces := #[]
  cf := some (fileOf pool5 1 #[] #[] 1537 3 #[] #[])
  fields := #[]
  methods := #[]
  instanceTypes := #[]
  staticTypes := #[]
  resolved := Array.replicate 12 none
  statics := none }

def pool6 : Array CpInfo := pool [(1, .class_ 2), (0, u "java/io/Serializable"), (0, .class_ 4), (0, u "java/lang/Object")] 2

/-- java/io/Serializable -/
def k6 : Class := { plain "java/io/Serializable" (some 0) with
  accessFlags := 1537
  interfaces := #[]
  cf := some (fileOf pool6 1 #[] #[] 1537 3 #[] #[])
  fields := #[]
  methods := #[]
  instanceTypes := #[]
  staticTypes := #[]
  resolved := Array.replicate 7 none
  statics := none }

def pool7 : Array CpInfo := pool [(8, .class_ 10), (1, u "java/time/YearMonth"), (21, u "of"), (2, u "month"), (13, u "(II)Ljava/time/YearMonth;"), (0, .fieldref 51 52), (0, .class_ 53), (0, .nameAndType 54 55), (0, u "java/time/temporal/ChronoField"), (0, u "YEAR"), (0, u "Ljava/time/temporal/ChronoField;"), (0, .methodref 51 57), (0, .nameAndType 58 59), (0, u "checkValidValue"), (0, u "(J)J"), (0, .fieldref 51 61), (0, .nameAndType 62 55), (0, u "MONTH_OF_YEAR"), (0, .methodref 8 64), (0, .nameAndType 65 66), (0, u "<init>"), (0, u "(II)V"), (32, .nameAndType 65 100), (0, u "()V"), (29, u "PARSER"), (0, u "Ljava/time/format/DateTimeFormatter;"), (15, .methodref 148 99), (0, .class_ 149), (0, u "java/lang/Object"), (0, .fieldref 8 151), (0, .nameAndType 152 153), (0, u "year"), (0, u "I"), (0, .fieldref 8 155), (0, .nameAndType 35 153), (54, .class_ 212), (1, u "java/time/temporal/Temporal"), (12, .class_ 227), (1, u "java/time/YearMonth$1"), (41, .class_ 271), (1, u "java/time/temporal/TemporalAdjuster"), (193, .class_ 466), (0, u "java/lang/Comparable"), (0, .class_ 468), (0, u "java/io/Serializable"), (0, u "serialVersionUID"), (0, u "J")] 130

def k7c0 : Code := { maxStack := 4, maxLocals := 2, code := jdk_2340_method_5_code, exceptionTable := #[], attributes := #[] }
def k7m0 : Method := { name := "of", desc := "(II)Ljava/time/YearMonth;", sig := { parameters := [.int, .int], returnType := some (.object "java/time/YearMonth") }, accessFlags := 9, code := some k7c0 }
def k7c1 : Code := { maxStack := 2, maxLocals := 3, code := jdk_2340_method_9_code, exceptionTable := #[], attributes := #[] }
def k7m1 : Method := { name := "<init>", desc := "(II)V", sig := { parameters := [.int, .int], returnType := none }, accessFlags := 2, code := some k7c1 }
/-- java/time/YearMonth -/
def k7 : Class := { plain "java/time/YearMonth" (some 0) with
  accessFlags := 49
  interfaces := #[3, 4, 5, 6]
  cf := some (fileOf pool7 8 #[.nestMembers #[225]] #[{ accessFlags := 9, nameIndex := 32, descriptorIndex := 49, attributes := #[] }, { accessFlags := 2, nameIndex := 65, descriptorIndex := 66, attributes := #[] }] 49 148 #[210, 269, 465, 467] #[{ accessFlags := 26, nameIndex := 469, descriptorIndex := 470, attributes := #[] }, { accessFlags := 26, nameIndex := 130, descriptorIndex := 131, attributes := #[] }, { accessFlags := 18, nameIndex := 152, descriptorIndex := 153, attributes := #[] }, { accessFlags := 18, nameIndex := 35, descriptorIndex := 153, attributes := #[] }])
  fields := #[{ name := "serialVersionUID", type := .long, accessFlags := 26, slot := 0, constantValue := 0 }, { name := "PARSER", type := (.object "java/time/format/DateTimeFormatter"), accessFlags := 26, slot := 1, constantValue := 0 }, { name := "year", type := .int, accessFlags := 18, slot := 0, constantValue := 0 }, { name := "month", type := .int, accessFlags := 18, slot := 1, constantValue := 0 }]
  methods := #[k7m0, k7m1]
  instanceTypes := #[.int, .int]
  staticTypes := #[.long, (.object "java/time/format/DateTimeFormatter")]
  resolved := Array.replicate 601 none
  statics := none }

def pool8 : Array CpInfo := pool [(1, .class_ 2), (0, u "java/lang/constant/Constable"), (0, .class_ 4), (0, u "java/lang/Object")] 6

/-- java/lang/constant/Constable -/
def k8 : Class := { plain "java/lang/constant/Constable" (some 0) with
  accessFlags := 1537
  interfaces := #[]
  cf := some (fileOf pool8 1 #[] #[] 1537 3 #[] #[])
  fields := #[]
  methods := #[]
  instanceTypes := #[]
  staticTypes := #[]
  resolved := Array.replicate 11 none
  statics := none }

def pool9 : Array CpInfo := pool [(2, .class_ 4), (1, u "java/lang/Enum"), (0, u "name"), (0, u "Ljava/lang/String;"), (2, u "ordinal"), (0, u "I"), (1, .class_ 14), (1, u "java/lang/Object"), (4, u "hash"), (86, .class_ 108), (1, u "java/lang/Enum$EnumDesc"), (2, .class_ 112), (0, u "java/lang/constant/Constable"), (0, .class_ 114), (0, u "java/lang/Comparable"), (0, .class_ 116), (0, u "java/io/Serializable")] 87

/-- java/lang/Enum -/
def k9 : Class := { plain "java/lang/Enum" (some 0) with
  accessFlags := 1057
  interfaces := #[8, 5, 6]
  cf := some (fileOf pool9 2 #[.nestMembers #[106]] #[] 1057 12 #[111, 113, 115] #[{ accessFlags := 18, nameIndex := 5, descriptorIndex := 6, attributes := #[] }, { accessFlags := 18, nameIndex := 9, descriptorIndex := 10, attributes := #[] }, { accessFlags := 2, nameIndex := 19, descriptorIndex := 10, attributes := #[] }])
  fields := #[{ name := "name", type := (.object "java/lang/String"), accessFlags := 18, slot := 0, constantValue := 0 }, { name := "ordinal", type := .int, accessFlags := 18, slot := 1, constantValue := 0 }, { name := "hash", type := .int, accessFlags := 2, slot := 2, constantValue := 0 }]
  methods := #[]
  instanceTypes := #[(.object "java/lang/String"), .int, .int]
  staticTypes := #[]
  resolved := Array.replicate 204 none
  statics := none }

def pool10 : Array CpInfo := pool [(10, .class_ 12), (1, u "java/time/temporal/TemporalField"), (2, .class_ 16), (0, u "java/lang/Object")] 39

/-- java/time/temporal/TemporalField -/
def k10 : Class := { plain "java/time/temporal/TemporalField" (some 0) with
  accessFlags := 1537
  interfaces := #[]
  cf := some (fileOf pool10 10 #[] #[] 1537 15 #[] #[])
  fields := #[]
  methods := #[]
  instanceTypes := #[]
  staticTypes := #[]
  resolved := Array.replicate 56 none
  statics := none }

def pool11 : Array CpInfo := pool [(1, .class_ 2), (0, u "java/time/temporal/ChronoField"), (2, u "NANO_OF_SECOND"), (0, u "Ljava/time/temporal/ChronoField;"), (2, u "NANO_OF_DAY"), (2, u "MICRO_OF_SECOND"), (2, u "MICRO_OF_DAY"), (2, u "MILLI_OF_SECOND"), (2, u "MILLI_OF_DAY"), (2, u "SECOND_OF_MINUTE"), (2, u "SECOND_OF_DAY"), (2, u "MINUTE_OF_HOUR"), (2, u "MINUTE_OF_DAY"), (2, u "HOUR_OF_AMPM"), (2, u "CLOCK_HOUR_OF_AMPM"), (2, u "HOUR_OF_DAY"), (2, u "CLOCK_HOUR_OF_DAY"), (2, u "AMPM_OF_DAY"), (2, u "DAY_OF_WEEK"), (2, u "ALIGNED_DAY_OF_WEEK_IN_MONTH"), (2, u "ALIGNED_DAY_OF_WEEK_IN_YEAR"), (2, u "DAY_OF_MONTH"), (2, u "DAY_OF_YEAR"), (2, u "EPOCH_DAY"), (2, u "ALIGNED_WEEK_OF_MONTH"), (2, u "ALIGNED_WEEK_OF_YEAR"), (2, u "MONTH_OF_YEAR"), (2, u "PROLEPTIC_MONTH"), (2, u "YEAR_OF_ERA"), (2, u "YEAR"), (2, u "ERA"), (2, u "INSTANT_SECONDS"), (2, u "OFFSET_SECONDS"), (2, u "$VALUES"), (0, u "[Ljava/time/temporal/ChronoField;"), (6, .class_ 106), (1, u "java/lang/Enum"), (8, u "name"), (0, u "Ljava/lang/String;"), (2, u "baseUnit"), (0, u "Ljava/time/temporal/TemporalUnit;"), (2, u "rangeUnit"), (0, .fieldref 1 125), (0, .nameAndType 126 127), (0, u "range"), (0, u "Ljava/time/temporal/ValueRange;"), (2, u "displayNameKey"), (59, .methodref 1 191), (0, .nameAndType 126 192), (0, u "()Ljava/time/temporal/ValueRange;"), (0, .methodref 194 195), (0, .class_ 196), (0, .nameAndType 197 198), (0, u "java/time/temporal/ValueRange"), (0, u "checkValidValue"), (0, u "(JLjava/time/temporal/TemporalField;)J"), (256, .class_ 456), (0, u "java/time/temporal/TemporalField"), (27, u "(J)J")] 22

def k11c0 : Code := { maxStack := 1, maxLocals := 1, code := jdk_2395_method_8_code, exceptionTable := #[], attributes := #[] }
def k11m0 : Method := { name := "range", desc := "()Ljava/time/temporal/ValueRange;", sig := { parameters := [], returnType := some (.object "java/time/temporal/ValueRange") }, accessFlags := 1, code := some k11c0 }
def k11c1 : Code := { maxStack := 4, maxLocals := 3, code := jdk_2395_method_11_code, exceptionTable := #[], attributes := #[] }
def k11m1 : Method := { name := "checkValidValue", desc := "(J)J", sig := { parameters := [.long], returnType := some .long }, accessFlags := 1, code := some k11c1 }
/-- java/time/temporal/ChronoField -/
def k11 : Class := { plain "java/time/temporal/ChronoField" (some 9) with
  accessFlags := 16433
  interfaces := #[10]
  cf := some (fileOf pool11 1 #[] #[{ accessFlags := 1, nameIndex := 126, descriptorIndex := 192, attributes := #[] }, { accessFlags := 1, nameIndex := 197, descriptorIndex := 484, attributes := #[] }] 16433 104 #[455] #[{ accessFlags := 16409, nameIndex := 5, descriptorIndex := 6, attributes := #[] }, { accessFlags := 16409, nameIndex := 9, descriptorIndex := 6, attributes := #[] }, { accessFlags := 16409, nameIndex := 12, descriptorIndex := 6, attributes := #[] }, { accessFlags := 16409, nameIndex := 15, descriptorIndex := 6, attributes := #[] }, { accessFlags := 16409, nameIndex := 18, descriptorIndex := 6, attributes := #[] }, { accessFlags := 16409, nameIndex := 21, descriptorIndex := 6, attributes := #[] }, { accessFlags := 16409, nameIndex := 24, descriptorIndex := 6, attributes := #[] }, { accessFlags := 16409, nameIndex := 27, descriptorIndex := 6, attributes := #[] }, { accessFlags := 16409, nameIndex := 30, descriptorIndex := 6, attributes := #[] }, { accessFlags := 16409, nameIndex := 33, descriptorIndex := 6, attributes := #[] }, { accessFlags := 16409, nameIndex := 36, descriptorIndex := 6, attributes := #[] }, { accessFlags := 16409, nameIndex := 39, descriptorIndex := 6, attributes := #[] }, { accessFlags := 16409, nameIndex := 42, descriptorIndex := 6, attributes := #[] }, { accessFlags := 16409, nameIndex := 45, descriptorIndex := 6, attributes := #[] }, { accessFlags := 16409, nameIndex := 48, descriptorIndex := 6, attributes := #[] }, { accessFlags := 16409, nameIndex := 51, descriptorIndex := 6, attributes := #[] }, { accessFlags := 16409, nameIndex := 54, descriptorIndex := 6, attributes := #[] }, { accessFlags := 16409, nameIndex := 57, descriptorIndex := 6, attributes := #[] }, { accessFlags := 16409, nameIndex := 60, descriptorIndex := 6, attributes := #[] }, { accessFlags := 16409, nameIndex := 63, descriptorIndex := 6, attributes := #[] }, { accessFlags := 16409, nameIndex := 66, descriptorIndex := 6, attributes := #[] }, { accessFlags := 16409, nameIndex := 69, descriptorIndex := 6, attributes := #[] }, { accessFlags := 16409, nameIndex := 72, descriptorIndex := 6, attributes := #[] }, { accessFlags := 16409, nameIndex := 75, descriptorIndex := 6, attributes := #[] }, { accessFlags := 16409, nameIndex := 78, descriptorIndex := 6, attributes := #[] }, { accessFlags := 16409, nameIndex := 81, descriptorIndex := 6, attributes := #[] }, { accessFlags := 16409, nameIndex := 84, descriptorIndex := 6, attributes := #[] }, { accessFlags := 16409, nameIndex := 87, descriptorIndex := 6, attributes := #[] }, { accessFlags := 16409, nameIndex := 90, descriptorIndex := 6, attributes := #[] }, { accessFlags := 16409, nameIndex := 93, descriptorIndex := 6, attributes := #[] }, { accessFlags := 18, nameIndex := 115, descriptorIndex := 116, attributes := #[] }, { accessFlags := 18, nameIndex := 119, descriptorIndex := 120, attributes := #[] }, { accessFlags := 18, nameIndex := 123, descriptorIndex := 120, attributes := #[] }, { accessFlags := 18, nameIndex := 126, descriptorIndex := 127, attributes := #[] }, { accessFlags := 18, nameIndex := 130, descriptorIndex := 116, attributes := #[] }, { accessFlags := 4122, nameIndex := 96, descriptorIndex := 97, attributes := #[] }])
  fields := #[{ name := "NANO_OF_SECOND", type := (.object "java/time/temporal/ChronoField"), accessFlags := 16409, slot := 0, constantValue := 0 }, { name := "NANO_OF_DAY", type := (.object "java/time/temporal/ChronoField"), accessFlags := 16409, slot := 1, constantValue := 0 }, { name := "MICRO_OF_SECOND", type := (.object "java/time/temporal/ChronoField"), accessFlags := 16409, slot := 2, constantValue := 0 }, { name := "MICRO_OF_DAY", type := (.object "java/time/temporal/ChronoField"), accessFlags := 16409, slot := 3, constantValue := 0 }, { name := "MILLI_OF_SECOND", type := (.object "java/time/temporal/ChronoField"), accessFlags := 16409, slot := 4, constantValue := 0 }, { name := "MILLI_OF_DAY", type := (.object "java/time/temporal/ChronoField"), accessFlags := 16409, slot := 5, constantValue := 0 }, { name := "SECOND_OF_MINUTE", type := (.object "java/time/temporal/ChronoField"), accessFlags := 16409, slot := 6, constantValue := 0 }, { name := "SECOND_OF_DAY", type := (.object "java/time/temporal/ChronoField"), accessFlags := 16409, slot := 7, constantValue := 0 }, { name := "MINUTE_OF_HOUR", type := (.object "java/time/temporal/ChronoField"), accessFlags := 16409, slot := 8, constantValue := 0 }, { name := "MINUTE_OF_DAY", type := (.object "java/time/temporal/ChronoField"), accessFlags := 16409, slot := 9, constantValue := 0 }, { name := "HOUR_OF_AMPM", type := (.object "java/time/temporal/ChronoField"), accessFlags := 16409, slot := 10, constantValue := 0 }, { name := "CLOCK_HOUR_OF_AMPM", type := (.object "java/time/temporal/ChronoField"), accessFlags := 16409, slot := 11, constantValue := 0 }, { name := "HOUR_OF_DAY", type := (.object "java/time/temporal/ChronoField"), accessFlags := 16409, slot := 12, constantValue := 0 }, { name := "CLOCK_HOUR_OF_DAY", type := (.object "java/time/temporal/ChronoField"), accessFlags := 16409, slot := 13, constantValue := 0 }, { name := "AMPM_OF_DAY", type := (.object "java/time/temporal/ChronoField"), accessFlags := 16409, slot := 14, constantValue := 0 }, { name := "DAY_OF_WEEK", type := (.object "java/time/temporal/ChronoField"), accessFlags := 16409, slot := 15, constantValue := 0 }, { name := "ALIGNED_DAY_OF_WEEK_IN_MONTH", type := (.object "java/time/temporal/ChronoField"), accessFlags := 16409, slot := 16, constantValue := 0 }, { name := "ALIGNED_DAY_OF_WEEK_IN_YEAR", type := (.object "java/time/temporal/ChronoField"), accessFlags := 16409, slot := 17, constantValue := 0 }, { name := "DAY_OF_MONTH", type := (.object "java/time/temporal/ChronoField"), accessFlags := 16409, slot := 18, constantValue := 0 }, { name := "DAY_OF_YEAR", type := (.object "java/time/temporal/ChronoField"), accessFlags := 16409, slot := 19, constantValue := 0 }, { name := "EPOCH_DAY", type := (.object "java/time/temporal/ChronoField"), accessFlags := 16409, slot := 20, constantValue := 0 }, { name := "ALIGNED_WEEK_OF_MONTH", type := (.object "java/time/temporal/ChronoField"), accessFlags := 16409, slot := 21, constantValue := 0 }, { name := "ALIGNED_WEEK_OF_YEAR", type := (.object "java/time/temporal/ChronoField"), accessFlags := 16409, slot := 22, constantValue := 0 }, { name := "MONTH_OF_YEAR", type := (.object "java/time/temporal/ChronoField"), accessFlags := 16409, slot := 23, constantValue := 0 }, { name := "PROLEPTIC_MONTH", type := (.object "java/time/temporal/ChronoField"), accessFlags := 16409, slot := 24, constantValue := 0 }, { name := "YEAR_OF_ERA", type := (.object "java/time/temporal/ChronoField"), accessFlags := 16409, slot := 25, constantValue := 0 }, { name := "YEAR", type := (.object "java/time/temporal/ChronoField"), accessFlags := 16409, slot := 26, constantValue := 0 }, { name := "ERA", type := (.object "java/time/temporal/ChronoField"), accessFlags := 16409, slot := 27, constantValue := 0 }, { name := "INSTANT_SECONDS", type := (.object "java/time/temporal/ChronoField"), accessFlags := 16409, slot := 28, constantValue := 0 }, { name := "OFFSET_SECONDS", type := (.object "java/time/temporal/ChronoField"), accessFlags := 16409, slot := 29, constantValue := 0 }, { name := "name", type := (.object "java/lang/String"), accessFlags := 18, slot := 3, constantValue := 0 }, { name := "baseUnit", type := (.object "java/time/temporal/TemporalUnit"), accessFlags := 18, slot := 4, constantValue := 0 }, { name := "rangeUnit", type := (.object "java/time/temporal/TemporalUnit"), accessFlags := 18, slot := 5, constantValue := 0 }, { name := "range", type := (.object "java/time/temporal/ValueRange"), accessFlags := 18, slot := 6, constantValue := 0 }, { name := "displayNameKey", type := (.object "java/lang/String"), accessFlags := 18, slot := 7, constantValue := 0 }, { name := "$VALUES", type := (.array (.object "java/time/temporal/ChronoField")), accessFlags := 4122, slot := 30, constantValue := 0 }]
  methods := #[k11m0, k11m1]
  instanceTypes := #[(.object "java/lang/String"), .int, .int, (.object "java/lang/String"), (.object "java/time/temporal/TemporalUnit"), (.object "java/time/temporal/TemporalUnit"), (.object "java/time/temporal/ValueRange"), (.object "java/lang/String")]
  staticTypes := #[(.object "java/time/temporal/ChronoField"), (.object "java/time/temporal/ChronoField"), (.object "java/time/temporal/ChronoField"), (.object "java/time/temporal/ChronoField"), (.object "java/time/temporal/ChronoField"), (.object "java/time/temporal/ChronoField"), (.object "java/time/temporal/ChronoField"), (.object "java/time/temporal/ChronoField"), (.object "java/time/temporal/ChronoField"), (.object "java/time/temporal/ChronoField"), (.object "java/time/temporal/ChronoField"), (.object "java/time/temporal/ChronoField"), (.object "java/time/temporal/ChronoField"), (.object "java/time/temporal/ChronoField"), (.object "java/time/temporal/ChronoField"), (.object "java/time/temporal/ChronoField"), (.object "java/time/temporal/ChronoField"), (.object "java/time/temporal/ChronoField"), (.object "java/time/temporal/ChronoField"), (.object "java/time/temporal/ChronoField"), (.object "java/time/temporal/ChronoField"), (.object "java/time/temporal/ChronoField"), (.object "java/time/temporal/ChronoField"), (.object "java/time/temporal/ChronoField"), (.object "java/time/temporal/ChronoField"), (.object "java/time/temporal/ChronoField"), (.object "java/time/temporal/ChronoField"), (.object "java/time/temporal/ChronoField"), (.object "java/time/temporal/ChronoField"), (.object "java/time/temporal/ChronoField"), (.array (.object "java/time/temporal/ChronoField"))]
  resolved := Array.replicate 507 none
  statics := some 0 }

def pool12 : Array CpInfo := pool [(9, .class_ 10), (0, u "java/time/temporal/ValueRange"), (18, .class_ 31), (1, u "java/lang/Object"), (1, .fieldref 9 34), (0, .nameAndType 35 36), (0, u "minSmallest"), (0, u "J"), (2, u "minLargest"), (2, u "maxSmallest"), (0, .fieldref 9 44), (0, .nameAndType 45 36), (0, u "maxLargest"), (0, .methodref 9 47), (0, .nameAndType 48 49), (0, u "getMinimum"), (0, u "()J"), (4, .methodref 9 55), (0, .nameAndType 56 49), (0, u "getMaximum"), (6, .methodref 9 64), (0, .nameAndType 65 66), (0, u "isValidValue"), (0, u "(J)Z"), (54, .class_ 122), (0, u "java/io/Serializable"), (0, u "serialVersionUID"), (17, u "checkValidValue"), (0, u "(JLjava/time/temporal/TemporalField;)J")] 24

def k12c0 : Code := { maxStack := 2, maxLocals := 1, code := jdk_2423_method_6_code, exceptionTable := #[], attributes := #[] }
def k12m0 : Method := { name := "getMinimum", desc := "()J", sig := { parameters := [], returnType := some .long }, accessFlags := 1, code := some k12c0 }
def k12c1 : Code := { maxStack := 2, maxLocals := 1, code := jdk_2423_method_9_code, exceptionTable := #[], attributes := #[] }
def k12m1 : Method := { name := "getMaximum", desc := "()J", sig := { parameters := [], returnType := some .long }, accessFlags := 1, code := some k12c1 }
def k12c2 : Code := { maxStack := 4, maxLocals := 3, code := jdk_2423_method_11_code, exceptionTable := #[], attributes := #[] }
def k12m2 : Method := { name := "isValidValue", desc := "(J)Z", sig := { parameters := [.long], returnType := some .boolean }, accessFlags := 1, code := some k12c2 }
def k12c3 : Code := { maxStack := 6, maxLocals := 4, code := jdk_2423_method_13_code, exceptionTable := #[], attributes := #[] }
def k12m3 : Method := { name := "checkValidValue", desc := "(JLjava/time/temporal/TemporalField;)J", sig := { parameters := [.long, (.object "java/time/temporal/TemporalField")], returnType := some .long }, accessFlags := 1, code := some k12c3 }
/-- java/time/temporal/ValueRange -/
def k12 : Class := { plain "java/time/temporal/ValueRange" (some 0) with
  accessFlags := 49
  interfaces := #[6]
  cf := some (fileOf pool12 9 #[] #[{ accessFlags := 1, nameIndex := 48, descriptorIndex := 49, attributes := #[] }, { accessFlags := 1, nameIndex := 56, descriptorIndex := 49, attributes := #[] }, { accessFlags := 1, nameIndex := 65, descriptorIndex := 66, attributes := #[] }, { accessFlags := 1, nameIndex := 141, descriptorIndex := 142, attributes := #[] }] 49 29 #[121] #[{ accessFlags := 26, nameIndex := 123, descriptorIndex := 36, attributes := #[] }, { accessFlags := 18, nameIndex := 35, descriptorIndex := 36, attributes := #[] }, { accessFlags := 18, nameIndex := 39, descriptorIndex := 36, attributes := #[] }, { accessFlags := 18, nameIndex := 42, descriptorIndex := 36, attributes := #[] }, { accessFlags := 18, nameIndex := 45, descriptorIndex := 36, attributes := #[] }])
  fields := #[{ name := "serialVersionUID", type := .long, accessFlags := 26, slot := 0, constantValue := 0 }, { name := "minSmallest", type := .long, accessFlags := 18, slot := 0, constantValue := 0 }, { name := "minLargest", type := .long, accessFlags := 18, slot := 1, constantValue := 0 }, { name := "maxSmallest", type := .long, accessFlags := 18, slot := 2, constantValue := 0 }, { name := "maxLargest", type := .long, accessFlags := 18, slot := 3, constantValue := 0 }]
  methods := #[k12m0, k12m1, k12m2, k12m3]
  instanceTypes := #[.long, .long, .long, .long]
  staticTypes := #[.long]
  resolved := Array.replicate 167 none
  statics := none }

def pool13 : Array CpInfo := pool [(1, .methodref 2 3), (0, .class_ 4), (0, .nameAndType 5 6), (0, u "java/lang/Object"), (0, u "<init>"), (0, u "()V"), (0, .class_ 8), (0, u "java/lang/Record")] 13

def k13c0 : Code := { maxStack := 1, maxLocals := 1, code := jdk_30_method_1_code, exceptionTable := #[], attributes := #[] }
def k13m0 : Method := { name := "<init>", desc := "()V", sig := { parameters := [], returnType := none }, accessFlags := 4, code := some k13c0 }
/-- java/lang/Record -/
def k13 : Class := { plain "java/lang/Record" (some 0) with
  accessFlags := 1057
  interfaces := #[]
  cf := some (fileOf pool13 7 #[] #[{ accessFlags := 4, nameIndex := 5, descriptorIndex := 6, attributes := #[] }] 1057 2 #[] #[])
  fields := #[]
  methods := #[k13m0]
  instanceTypes := #[]
  staticTypes := #[]
  resolved := Array.replicate 22 none
  statics := none }

def pool14 : Array CpInfo := pool [(1, .methodref 2 3), (0, .class_ 4), (0, .nameAndType 5 6), (0, u "java/lang/Record"), (0, u "<init>"), (0, u "()V"), (0, .fieldref 8 9), (0, .class_ 10), (0, .nameAndType 11 12), (0, u "com/example/pledgebook/pledgebook/model/LedgerMonth"), (0, u "month"), (0, u "Ljava/time/YearMonth;"), (0, .fieldref 8 14), (0, .nameAndType 15 16), (0, u "grossRevenues"), (0, u "Ljava/math/BigDecimal;"), (0, .fieldref 8 18), (0, .nameAndType 19 16), (0, u "operatingExpenses"), (18, u "(Ljava/time/YearMonth;Ljava/math/BigDecimal;Ljava/math/BigDecimal;)V"), (8, u "()Ljava/time/YearMonth;")] 22

def k14c0 : Code := { maxStack := 2, maxLocals := 4, code := prog_50_method_1_code, exceptionTable := #[], attributes := #[] }
def k14m0 : Method := { name := "<init>", desc := "(Ljava/time/YearMonth;Ljava/math/BigDecimal;Ljava/math/BigDecimal;)V", sig := { parameters := [(.object "java/time/YearMonth"), (.object "java/math/BigDecimal"), (.object "java/math/BigDecimal")], returnType := none }, accessFlags := 1, code := some k14c0 }
def k14c1 : Code := { maxStack := 1, maxLocals := 1, code := prog_50_method_6_code, exceptionTable := #[], attributes := #[] }
def k14m1 : Method := { name := "month", desc := "()Ljava/time/YearMonth;", sig := { parameters := [], returnType := some (.object "java/time/YearMonth") }, accessFlags := 1, code := some k14c1 }
/-- com/example/pledgebook/pledgebook/model/LedgerMonth -/
def k14 : Class := { plain "com/example/pledgebook/pledgebook/model/LedgerMonth" (some 13) with
  accessFlags := 49
  interfaces := #[]
  cf := some (fileOf pool14 8 #[] #[{ accessFlags := 1, nameIndex := 5, descriptorIndex := 38, attributes := #[] }, { accessFlags := 1, nameIndex := 11, descriptorIndex := 47, attributes := #[] }] 49 2 #[] #[{ accessFlags := 18, nameIndex := 11, descriptorIndex := 12, attributes := #[] }, { accessFlags := 18, nameIndex := 15, descriptorIndex := 16, attributes := #[] }, { accessFlags := 18, nameIndex := 19, descriptorIndex := 16, attributes := #[] }])
  fields := #[{ name := "month", type := (.object "java/time/YearMonth"), accessFlags := 18, slot := 0, constantValue := 0 }, { name := "grossRevenues", type := (.object "java/math/BigDecimal"), accessFlags := 18, slot := 1, constantValue := 0 }, { name := "operatingExpenses", type := (.object "java/math/BigDecimal"), accessFlags := 18, slot := 2, constantValue := 0 }]
  methods := #[k14m0, k14m1]
  instanceTypes := #[(.object "java/time/YearMonth"), (.object "java/math/BigDecimal"), (.object "java/math/BigDecimal")]
  staticTypes := #[]
  resolved := Array.replicate 70 none
  statics := none }

def pool15 : Array CpInfo := pool [(8, .class_ 10), (1, u "java/lang/Iterable"), (24, .class_ 36), (0, u "java/lang/Object")] 25

/-- java/lang/Iterable -/
def k15 : Class := { plain "java/lang/Iterable" (some 0) with
  accessFlags := 1537
  interfaces := #[]
  cf := some (fileOf pool15 8 #[] #[] 1537 35 #[] #[])
  fields := #[]
  methods := #[]
  instanceTypes := #[]
  staticTypes := #[]
  resolved := Array.replicate 62 none
  statics := none }

def pool16 : Array CpInfo := pool [(10, .class_ 12), (1, u "java/util/Collection"), (0, u "toArray"), (16, u "()Z"), (29, .class_ 61), (0, u "java/lang/Object"), (0, .class_ 63), (0, u "java/lang/Iterable"), (2, u "isEmpty"), (3, u "()[Ljava/lang/Object;")] 44

def k16m0 : Method := { name := "isEmpty", desc := "()Z", sig := { parameters := [], returnType := some .boolean }, accessFlags := 1025, code := none }
def k16m1 : Method := { name := "toArray", desc := "()[Ljava/lang/Object;", sig := { parameters := [], returnType := some (.array (.object "java/lang/Object")) }, accessFlags := 1025, code := none }
/-- java/util/Collection -/
def k16 : Class := { plain "java/util/Collection" (some 0) with
  accessFlags := 1537
  interfaces := #[15]
  cf := some (fileOf pool16 10 #[] #[{ accessFlags := 1025, nameIndex := 66, descriptorIndex := 30, attributes := #[] }, { accessFlags := 1025, nameIndex := 13, descriptorIndex := 70, attributes := #[] }] 1537 60 #[62] #[])
  fields := #[]
  methods := #[k16m0, k16m1]
  instanceTypes := #[]
  staticTypes := #[]
  resolved := Array.replicate 115 none
  statics := none }

def pool17 : Array CpInfo := pool [(1, .methodref 2 3), (0, .class_ 4), (0, .nameAndType 5 6), (0, u "java/lang/Object"), (0, u "<init>"), (0, u "()V"), (1, .class_ 10), (1, u "java/util/AbstractCollection"), (66, .class_ 78), (0, u "java/util/Collection")] 81

def k17c0 : Code := { maxStack := 1, maxLocals := 1, code := jdk_22_method_1_code, exceptionTable := #[], attributes := #[] }
def k17m0 : Method := { name := "<init>", desc := "()V", sig := { parameters := [], returnType := none }, accessFlags := 4, code := some k17c0 }
/-- java/util/AbstractCollection -/
def k17 : Class := { plain "java/util/AbstractCollection" (some 0) with
  accessFlags := 1057
  interfaces := #[16]
  cf := some (fileOf pool17 8 #[] #[{ accessFlags := 4, nameIndex := 5, descriptorIndex := 6, attributes := #[] }] 1057 2 #[77] #[])
  fields := #[]
  methods := #[k17m0]
  instanceTypes := #[]
  staticTypes := #[]
  resolved := Array.replicate 160 none
  statics := none }

def pool18 : Array CpInfo := pool [(8, .class_ 10), (1, u "java/util/SequencedCollection"), (15, .class_ 27), (0, u "java/lang/Object"), (0, .class_ 29), (0, u "java/util/Collection")] 27

/-- java/util/SequencedCollection -/
def k18 : Class := { plain "java/util/SequencedCollection" (some 0) with
  accessFlags := 1537
  interfaces := #[16]
  cf := some (fileOf pool18 8 #[] #[] 1537 26 #[28] #[])
  fields := #[]
  methods := #[]
  instanceTypes := #[]
  staticTypes := #[]
  resolved := Array.replicate 57 none
  statics := none }

def pool19 : Array CpInfo := pool [(8, .class_ 10), (1, u "java/util/List"), (20, u "(Ljava/lang/Object;)V"), (16, u "<init>"), (26, u "get"), (0, u "(I)Ljava/lang/Object;"), (2, u "size"), (0, u "()I"), (7, u "of"), (2, .class_ 93), (1, u "java/util/ImmutableCollections"), (2, .class_ 97), (0, u "java/util/ImmutableCollections$List12"), (0, .methodref 96 99), (0, .nameAndType 48 31), (0, .methodref 96 101), (0, .nameAndType 48 102), (0, u "(Ljava/lang/Object;Ljava/lang/Object;)V"), (0, .class_ 104), (0, u "java/lang/Object"), (3, u "([Ljava/lang/Object;)Ljava/util/List;"), (0, .methodref 91 110), (0, .nameAndType 111 108), (0, u "listFromArray"), (0, .methodref 91 113), (0, .nameAndType 114 115), (0, u "listCopy"), (0, u "(Ljava/util/Collection;)Ljava/util/List;"), (4, .class_ 121), (0, u "java/util/SequencedCollection"), (112, u "copyOf")] 16

def k19m0 : Method := { name := "size", desc := "()I", sig := { parameters := [], returnType := some .int }, accessFlags := 1025, code := none }
def k19m1 : Method := { name := "get", desc := "(I)Ljava/lang/Object;", sig := { parameters := [.int], returnType := some (.object "java/lang/Object") }, accessFlags := 1025, code := none }
def k19c2 : Code := { maxStack := 5, maxLocals := 2, code := jdk_40_method_47_code, exceptionTable := #[], attributes := #[] }
def k19m2 : Method := { name := "of", desc := "([Ljava/lang/Object;)Ljava/util/List;", sig := { parameters := [(.array (.object "java/lang/Object"))], returnType := some (.object "java/util/List") }, accessFlags := 137, code := some k19c2 }
def k19c3 : Code := { maxStack := 1, maxLocals := 1, code := jdk_40_method_48_code, exceptionTable := #[], attributes := #[] }
def k19m3 : Method := { name := "copyOf", desc := "(Ljava/util/Collection;)Ljava/util/List;", sig := { parameters := [(.object "java/util/Collection")], returnType := some (.object "java/util/List") }, accessFlags := 9, code := some k19c3 }
/-- java/util/List -/
def k19 : Class := { plain "java/util/List" (some 0) with
  accessFlags := 1537
  interfaces := #[18]
  cf := some (fileOf pool19 8 #[] #[{ accessFlags := 1025, nameIndex := 79, descriptorIndex := 80, attributes := #[] }, { accessFlags := 1025, nameIndex := 75, descriptorIndex := 76, attributes := #[] }, { accessFlags := 137, nameIndex := 88, descriptorIndex := 108, attributes := #[] }, { accessFlags := 9, nameIndex := 234, descriptorIndex := 115, attributes := #[] }] 1537 103 #[120] #[])
  fields := #[]
  methods := #[k19m0, k19m1, k19m2, k19m3]
  instanceTypes := #[]
  staticTypes := #[]
  resolved := Array.replicate 251 none
  statics := none }

def pool20 : Array CpInfo := pool [(1, .methodref 2 3), (0, .class_ 4), (0, .nameAndType 5 6), (0, u "java/util/AbstractCollection"), (0, u "<init>"), (0, u "()V"), (0, .fieldref 8 9), (0, .class_ 10), (0, .nameAndType 11 12), (0, u "java/util/AbstractList"), (0, u "modCount"), (0, u "I"), (64, .class_ 78), (0, u "java/util/AbstractList$Itr"), (3, .class_ 83), (0, u "java/util/AbstractList$ListItr"), (9, .class_ 94), (0, u "java/util/AbstractList$RandomAccessSubList"), (3, .class_ 99), (0, u "java/util/AbstractList$SubList"), (33, .class_ 134), (0, u "java/util/List"), (73, .class_ 209), (0, u "java/util/AbstractList$SubList$1"), (0, .class_ 211), (0, u "java/util/AbstractList$RandomAccessSpliterator")] 6

def k20c0 : Code := { maxStack := 2, maxLocals := 1, code := jdk_39_method_1_code, exceptionTable := #[], attributes := #[] }
def k20m0 : Method := { name := "<init>", desc := "()V", sig := { parameters := [], returnType := none }, accessFlags := 4, code := some k20c0 }
/-- java/util/AbstractList -/
def k20 : Class := { plain "java/util/AbstractList" (some 17) with
  accessFlags := 1057
  interfaces := #[19]
  cf := some (fileOf pool20 8 #[.nestMembers #[93, 98, 208, 210, 82, 77]] #[{ accessFlags := 4, nameIndex := 5, descriptorIndex := 6, attributes := #[] }] 1057 2 #[133] #[{ accessFlags := 132, nameIndex := 11, descriptorIndex := 12, attributes := #[] }])
  fields := #[{ name := "modCount", type := .int, accessFlags := 132, slot := 0, constantValue := 0 }]
  methods := #[k20m0]
  instanceTypes := #[.int]
  staticTypes := #[]
  resolved := Array.replicate 218 none
  statics := none }

def pool21 : Array CpInfo := pool [(1, .class_ 2), (0, u "java/util/RandomAccess"), (0, .class_ 4), (0, u "java/lang/Object")] 2

/-- java/util/RandomAccess -/
def k21 : Class := { plain "java/util/RandomAccess" (some 0) with
  accessFlags := 1537
  interfaces := #[]
  cf := some (fileOf pool21 1 #[] #[] 1537 3 #[] #[])
  fields := #[]
  methods := #[]
  instanceTypes := #[]
  staticTypes := #[]
  resolved := Array.replicate 7 none
  statics := none }

def pool22 : Array CpInfo := pool [(1, .class_ 2), (0, u "java/lang/Cloneable"), (0, .class_ 4), (0, u "java/lang/Object")] 2

/-- java/lang/Cloneable -/
def k22 : Class := { plain "java/lang/Cloneable" (some 0) with
  accessFlags := 1537
  interfaces := #[]
  cf := some (fileOf pool22 1 #[] #[] 1537 3 #[] #[])
  fields := #[]
  methods := #[]
  instanceTypes := #[]
  staticTypes := #[]
  resolved := Array.replicate 7 none
  statics := none }

def pool23 : Array CpInfo := pool [(1, .methodref 2 3), (0, .class_ 4), (0, .nameAndType 5 6), (0, u "java/util/AbstractList"), (0, u "<init>"), (0, u "()V"), (0, .class_ 8), (0, u "java/lang/Object"), (0, .fieldref 10 11), (0, .class_ 12), (0, .nameAndType 13 14), (0, u "java/util/ArrayList"), (0, u "elementData"), (0, u "[Ljava/lang/Object;"), (2, u "EMPTY_ELEMENTDATA"), (21, .fieldref 10 40), (0, .nameAndType 41 14), (0, u "DEFAULTCAPACITY_EMPTY_ELEMENTDATA"), (4, u "toArray"), (0, u "()[Ljava/lang/Object;"), (0, .fieldref 10 49), (0, .nameAndType 50 51), (0, u "size"), (0, u "I"), (6, .class_ 60), (1, u "java/util/Arrays"), (0, u "copyOf"), (1, .fieldref 10 64), (0, .nameAndType 65 51), (0, u "modCount"), (0, .methodref 58 67), (0, .nameAndType 61 68), (0, u "([Ljava/lang/Object;I)[Ljava/lang/Object;"), (0, .methodref 10 70), (0, .nameAndType 71 72), (0, u "grow"), (0, u "(I)[Ljava/lang/Object;"), (6, .methodref 80 81), (0, .class_ 82), (0, .nameAndType 83 84), (0, u "java/lang/Math"), (0, u "max"), (0, u "(II)I"), (11, u "(Ljava/lang/Object;)Z"), (32, .methodref 10 130), (0, .nameAndType 71 47), (0, .methodref 10 132), (0, .nameAndType 133 134), (0, u "add"), (0, u "(Ljava/lang/Object;[Ljava/lang/Object;I)V"), (13, .class_ 149), (0, u "java/util/List"), (23, u "()Z"), (88, .class_ 263), (0, u "java/util/ArrayList$ListItr"), (3, .class_ 268), (0, u "java/util/ArrayList$Itr"), (7, .class_ 277), (0, u "java/util/ArrayList$SubList"), (12, .class_ 291), (0, u "java/util/ArrayList$ArrayListSpliterator"), (37, .class_ 330), (0, u "java/util/RandomAccess"), (0, .class_ 332), (0, u "java/lang/Cloneable"), (0, .class_ 334), (0, u "java/io/Serializable"), (0, u "serialVersionUID"), (0, u "J"), (3, u "DEFAULT_CAPACITY"), (22, u "isEmpty"), (136, .class_ 501), (0, u "java/util/ArrayList$SubList$2"), (0, .class_ 503), (0, u "java/util/ArrayList$SubList$1")] 5

def k23c0 : Code := { maxStack := 2, maxLocals := 1, code := jdk_38_method_2_code, exceptionTable := #[], attributes := #[] }
def k23m0 : Method := { name := "<init>", desc := "()V", sig := { parameters := [], returnType := none }, accessFlags := 1, code := some k23c0 }
def k23c1 : Code := { maxStack := 4, maxLocals := 4, code := jdk_38_method_6_code, exceptionTable := #[], attributes := #[] }
def k23m1 : Method := { name := "grow", desc := "(I)[Ljava/lang/Object;", sig := { parameters := [.int], returnType := some (.array (.object "java/lang/Object")) }, accessFlags := 2, code := some k23c1 }
def k23c2 : Code := { maxStack := 3, maxLocals := 1, code := jdk_38_method_7_code, exceptionTable := #[], attributes := #[] }
def k23m2 : Method := { name := "grow", desc := "()[Ljava/lang/Object;", sig := { parameters := [], returnType := some (.array (.object "java/lang/Object")) }, accessFlags := 2, code := some k23c2 }
def k23c3 : Code := { maxStack := 1, maxLocals := 1, code := jdk_38_method_9_code, exceptionTable := #[], attributes := #[] }
def k23m3 : Method := { name := "isEmpty", desc := "()Z", sig := { parameters := [], returnType := some .boolean }, accessFlags := 1, code := some k23c3 }
def k23c4 : Code := { maxStack := 2, maxLocals := 1, code := jdk_38_method_16_code, exceptionTable := #[], attributes := #[] }
def k23m4 : Method := { name := "toArray", desc := "()[Ljava/lang/Object;", sig := { parameters := [], returnType := some (.array (.object "java/lang/Object")) }, accessFlags := 1, code := some k23c4 }
def k23c5 : Code := { maxStack := 3, maxLocals := 4, code := jdk_38_method_24_code, exceptionTable := #[], attributes := #[] }
def k23m5 : Method := { name := "add", desc := "(Ljava/lang/Object;[Ljava/lang/Object;I)V", sig := { parameters := [(.object "java/lang/Object"), (.array (.object "java/lang/Object")), .int], returnType := none }, accessFlags := 2, code := some k23c5 }
def k23c6 : Code := { maxStack := 4, maxLocals := 2, code := jdk_38_method_25_code, exceptionTable := #[], attributes := #[] }
def k23m6 : Method := { name := "add", desc := "(Ljava/lang/Object;)Z", sig := { parameters := [(.object "java/lang/Object")], returnType := some .boolean }, accessFlags := 1, code := some k23c6 }
/-- java/util/ArrayList -/
def k23 : Class := { plain "java/util/ArrayList" (some 20) with
  accessFlags := 33
  interfaces := #[19, 21, 22, 6]
  cf := some (fileOf pool23 10 #[.nestMembers #[290, 276, 500, 502, 262, 267]] #[{ accessFlags := 1, nameIndex := 5, descriptorIndex := 6, attributes := #[] }, { accessFlags := 2, nameIndex := 71, descriptorIndex := 72, attributes := #[] }, { accessFlags := 2, nameIndex := 71, descriptorIndex := 47, attributes := #[] }, { accessFlags := 1, nameIndex := 363, descriptorIndex := 173, attributes := #[] }, { accessFlags := 1, nameIndex := 46, descriptorIndex := 47, attributes := #[] }, { accessFlags := 2, nameIndex := 133, descriptorIndex := 134, attributes := #[] }, { accessFlags := 1, nameIndex := 133, descriptorIndex := 96, attributes := #[] }] 33 2 #[148, 329, 331, 333] #[{ accessFlags := 26, nameIndex := 335, descriptorIndex := 336, attributes := #[] }, { accessFlags := 26, nameIndex := 340, descriptorIndex := 51, attributes := #[] }, { accessFlags := 26, nameIndex := 17, descriptorIndex := 14, attributes := #[] }, { accessFlags := 26, nameIndex := 41, descriptorIndex := 14, attributes := #[] }, { accessFlags := 128, nameIndex := 13, descriptorIndex := 14, attributes := #[] }, { accessFlags := 2, nameIndex := 50, descriptorIndex := 51, attributes := #[] }])
  fields := #[{ name := "serialVersionUID", type := .long, accessFlags := 26, slot := 0, constantValue := 0 }, { name := "DEFAULT_CAPACITY", type := .int, accessFlags := 26, slot := 1, constantValue := 0 }, { name := "EMPTY_ELEMENTDATA", type := (.array (.object "java/lang/Object")), accessFlags := 26, slot := 2, constantValue := 0 }, { name := "DEFAULTCAPACITY_EMPTY_ELEMENTDATA", type := (.array (.object "java/lang/Object")), accessFlags := 26, slot := 3, constantValue := 0 }, { name := "elementData", type := (.array (.object "java/lang/Object")), accessFlags := 128, slot := 1, constantValue := 0 }, { name := "size", type := .int, accessFlags := 2, slot := 2, constantValue := 0 }]
  methods := #[k23m0, k23m1, k23m2, k23m3, k23m4, k23m5, k23m6]
  instanceTypes := #[.int, (.array (.object "java/lang/Object")), .int]
  staticTypes := #[.long, .int, (.array (.object "java/lang/Object")), (.array (.object "java/lang/Object"))]
  resolved := Array.replicate 509 none
  statics := some 1 }

def pool24 : Array CpInfo := pool [(1, .class_ 2), (0, u "java/lang/Math"), (1, .class_ 6), (1, u "java/lang/Object"), (0, u "<init>"), (0, u "()V"), (89, .class_ 100), (1, u "java/lang/Math$RandomNumberGeneratorHolder"), (71, u "negativeZeroFloatBits"), (0, u "J"), (2, u "negativeZeroDoubleBits"), (21, u "max"), (2, u "min"), (43, u "$assertionsDisabled"), (0, u "Z"), (88, u "(II)I"), (2, u "twoToTheDoubleScaleDown"), (0, u "D"), (4, u "twoToTheDoubleScaleUp"), (9, u "E"), (3, u "PI"), (2, u "TAU"), (2, u "DEGREES_TO_RADIANS"), (0, u "RADIANS_TO_DEGREES")] 94

def k24m0 : Method := { name := "<init>", desc := "()V", sig := { parameters := [], returnType := none }, accessFlags := 2, code := none }
def k24c1 : Code := { maxStack := 2, maxLocals := 2, code := jdk_29_method_65_code, exceptionTable := #[], attributes := #[] }
def k24m1 : Method := { name := "max", desc := "(II)I", sig := { parameters := [.int, .int], returnType := some .int }, accessFlags := 9, code := some k24c1 }
def k24c2 : Code := { maxStack := 2, maxLocals := 2, code := jdk_29_method_69_code, exceptionTable := #[], attributes := #[] }
def k24m2 : Method := { name := "min", desc := "(II)I", sig := { parameters := [.int, .int], returnType := some .int }, accessFlags := 9, code := some k24c2 }
/-- java/lang/Math -/
def k24 : Class := { plain "java/lang/Math" (some 0) with
  accessFlags := 49
  interfaces := #[]
  cf := some (fileOf pool24 1 #[.nestMembers #[98]] #[{ accessFlags := 2, nameIndex := 7, descriptorIndex := 8, attributes := #[] }, { accessFlags := 9, nameIndex := 198, descriptorIndex := 335, attributes := #[] }, { accessFlags := 9, nameIndex := 201, descriptorIndex := 335, attributes := #[] }] 49 4 #[] #[{ accessFlags := 25, nameIndex := 354, descriptorIndex := 339, attributes := #[] }, { accessFlags := 25, nameIndex := 358, descriptorIndex := 339, attributes := #[] }, { accessFlags := 25, nameIndex := 361, descriptorIndex := 339, attributes := #[] }, { accessFlags := 26, nameIndex := 364, descriptorIndex := 339, attributes := #[] }, { accessFlags := 26, nameIndex := 365, descriptorIndex := 339, attributes := #[] }, { accessFlags := 26, nameIndex := 172, descriptorIndex := 173, attributes := #[] }, { accessFlags := 26, nameIndex := 176, descriptorIndex := 173, attributes := #[] }, { accessFlags := 8, nameIndex := 344, descriptorIndex := 339, attributes := #[] }, { accessFlags := 8, nameIndex := 338, descriptorIndex := 339, attributes := #[] }, { accessFlags := 4120, nameIndex := 245, descriptorIndex := 246, attributes := #[] }])
  fields := #[{ name := "E", type := .double, accessFlags := 25, slot := 0, constantValue := 0 }, { name := "PI", type := .double, accessFlags := 25, slot := 1, constantValue := 0 }, { name := "TAU", type := .double, accessFlags := 25, slot := 2, constantValue := 0 }, { name := "DEGREES_TO_RADIANS", type := .double, accessFlags := 26, slot := 3, constantValue := 0 }, { name := "RADIANS_TO_DEGREES", type := .double, accessFlags := 26, slot := 4, constantValue := 0 }, { name := "negativeZeroFloatBits", type := .long, accessFlags := 26, slot := 5, constantValue := 0 }, { name := "negativeZeroDoubleBits", type := .long, accessFlags := 26, slot := 6, constantValue := 0 }, { name := "twoToTheDoubleScaleUp", type := .double, accessFlags := 8, slot := 7, constantValue := 0 }, { name := "twoToTheDoubleScaleDown", type := .double, accessFlags := 8, slot := 8, constantValue := 0 }, { name := "$assertionsDisabled", type := .boolean, accessFlags := 4120, slot := 9, constantValue := 0 }]
  methods := #[k24m0, k24m1, k24m2]
  instanceTypes := #[]
  staticTypes := #[.double, .double, .double, .double, .double, .long, .long, .double, .double, .boolean]
  resolved := Array.replicate 460 none
  statics := none }

def pool25 : Array CpInfo := pool [(1, .methodref 2 3), (0, .class_ 4), (0, .nameAndType 5 6), (0, u "java/lang/Record"), (0, u "<init>"), (0, u "()V"), (0, .interfaceMethodref 8 9), (0, .class_ 10), (0, .nameAndType 11 12), (0, u "java/util/List"), (0, u "copyOf"), (0, u "(Ljava/util/Collection;)Ljava/util/List;"), (0, .fieldref 14 15), (0, .class_ 16), (0, .nameAndType 17 18), (0, u "com/example/pledgebook/pledgebook/model/Ledger"), (0, u "months"), (0, u "Ljava/util/List;"), (0, .interfaceMethodref 8 20), (0, .nameAndType 21 22), (0, u "get"), (0, u "(I)Ljava/lang/Object;"), (0, .class_ 24), (0, u "com/example/pledgebook/pledgebook/model/LedgerMonth"), (0, .methodref 23 26), (0, .nameAndType 27 28), (0, u "month"), (0, u "()Ljava/time/YearMonth;"), (0, .interfaceMethodref 8 30), (0, .nameAndType 31 32), (0, u "size"), (0, u "()I"), (47, u "(Ljava/util/List;)V"), (5, u "lastMonth")] 57

def k25c0 : Code := { maxStack := 2, maxLocals := 2, code := prog_48_method_1_code, exceptionTable := #[], attributes := #[] }
def k25m0 : Method := { name := "<init>", desc := "(Ljava/util/List;)V", sig := { parameters := [(.object "java/util/List")], returnType := none }, accessFlags := 1, code := some k25c0 }
def k25c1 : Code := { maxStack := 3, maxLocals := 1, code := prog_48_method_3_code, exceptionTable := #[], attributes := #[] }
def k25m1 : Method := { name := "lastMonth", desc := "()Ljava/time/YearMonth;", sig := { parameters := [], returnType := some (.object "java/time/YearMonth") }, accessFlags := 1, code := some k25c1 }
/-- com/example/pledgebook/pledgebook/model/Ledger -/
def k25 : Class := { plain "com/example/pledgebook/pledgebook/model/Ledger" (some 13) with
  accessFlags := 49
  interfaces := #[]
  cf := some (fileOf pool25 14 #[] #[{ accessFlags := 1, nameIndex := 5, descriptorIndex := 80, attributes := #[] }, { accessFlags := 1, nameIndex := 86, descriptorIndex := 28, attributes := #[] }] 49 2 #[] #[{ accessFlags := 18, nameIndex := 17, descriptorIndex := 18, attributes := #[] }])
  fields := #[{ name := "months", type := (.object "java/util/List"), accessFlags := 18, slot := 0, constantValue := 0 }]
  methods := #[k25m0, k25m1]
  instanceTypes := #[(.object "java/util/List")]
  staticTypes := #[]
  resolved := Array.replicate 144 none
  statics := none }

def pool26 : Array CpInfo := pool [(2, .class_ 4), (1, u "java/lang/Object"), (0, u "<init>"), (0, u "()V"), (3, .class_ 11), (0, u "java/util/ImmutableCollections$List12"), (0, .class_ 13), (0, u "java/util/ImmutableCollections$ListN"), (3, u "Z"), (0, .class_ 19), (0, u "java/util/List"), (0, .interfaceMethodref 21 22), (0, .class_ 23), (0, .nameAndType 24 25), (0, u "java/util/Collection"), (0, u "isEmpty"), (0, u "()Z"), (2, u "of"), (1, .interfaceMethodref 21 31), (0, .nameAndType 32 33), (0, u "toArray"), (0, u "()[Ljava/lang/Object;"), (0, .interfaceMethodref 18 35), (0, .nameAndType 28 36), (0, u "([Ljava/lang/Object;)Ljava/util/List;"), (0, .methodref 38 39), (0, .class_ 40), (0, .nameAndType 41 42), (0, u "java/util/Objects"), (0, u "requireNonNull"), (0, u "(Ljava/lang/Object;)Ljava/lang/Object;"), (0, .methodref 12 44), (0, .nameAndType 5 45), (0, u "([Ljava/lang/Object;Z)V"), (1, .class_ 49), (1, u "java/util/ImmutableCollections"), (0, u "$assertionsDisabled"), (5, u "[Ljava/lang/Object;"), (5, u "EMPTY_LIST"), (0, u "Ljava/util/ImmutableCollections$ListN;"), (8, u "EMPTY_LIST_NULLS"), (22, u "SALT32L"), (0, u "J"), (2, u "REVERSE"), (6, u "archivedObjects"), (2, u "EMPTY"), (0, u "Ljava/lang/Object;"), (0, .class_ 112), (0, u "java/util/ImmutableCollections$SetN"), (5, u "EMPTY_SET"), (0, u "Ljava/util/ImmutableCollections$SetN;"), (0, .class_ 121), (0, u "java/util/ImmutableCollections$MapN"), (3, u "EMPTY_MAP"), (0, u "Ljava/util/ImmutableCollections$MapN;"), (4, u "EXPAND_FACTOR"), (0, u "I"), (9, u "listCopy"), (0, u "(Ljava/util/Collection;)Ljava/util/List;"), (7, u "listFromArray"), (17, .class_ 170), (0, u "java/util/ImmutableCollections$MapN$MapNIterator"), (0, .class_ 172), (0, u "java/util/ImmutableCollections$MapN$1"), (0, .class_ 174), (0, u "java/util/ImmutableCollections$Map1"), (0, .class_ 176), (0, u "java/util/ImmutableCollections$AbstractImmutableMap"), (0, .class_ 178), (0, u "java/util/ImmutableCollections$SetN$SetNIterator"), (0, .class_ 180), (0, u "java/util/ImmutableCollections$Set12"), (0, .class_ 182), (0, u "java/util/ImmutableCollections$Set12$1"), (0, .class_ 184), (0, u "java/util/ImmutableCollections$AbstractImmutableSet"), (0, .class_ 186), (0, u "java/util/ImmutableCollections$SubList"), (0, .class_ 188), (0, u "java/util/ImmutableCollections$ListItr"), (0, .class_ 190), (0, u "java/util/ImmutableCollections$AbstractImmutableList"), (0, .class_ 192), (0, u "java/util/ImmutableCollections$AbstractImmutableCollection"), (0, .class_ 194), (0, u "java/util/ImmutableCollections$Access"), (0, .class_ 196), (0, u "java/util/ImmutableCollections$Access$1")] 16

def k26m0 : Method := { name := "<init>", desc := "()V", sig := { parameters := [], returnType := none }, accessFlags := 2, code := none }
def k26c1 : Code := { maxStack := 1, maxLocals := 2, code := jdk_56_method_3_code, exceptionTable := #[], attributes := #[] }
def k26m1 : Method := { name := "listCopy", desc := "(Ljava/util/Collection;)Ljava/util/List;", sig := { parameters := [(.object "java/util/Collection")], returnType := some (.object "java/util/List") }, accessFlags := 8, code := some k26c1 }
def k26c2 : Code := { maxStack := 4, maxLocals := 3, code := jdk_56_method_4_code, exceptionTable := #[], attributes := #[] }
def k26m2 : Method := { name := "listFromArray", desc := "([Ljava/lang/Object;)Ljava/util/List;", sig := { parameters := [(.array (.object "java/lang/Object"))], returnType := some (.object "java/util/List") }, accessFlags := 136, code := some k26c2 }
/-- java/util/ImmutableCollections -/
def k26 : Class := { plain "java/util/ImmutableCollections" (some 0) with
  accessFlags := 32
  interfaces := #[]
  cf := some (fileOf pool26 47 #[.nestMembers #[120, 169, 171, 173, 175, 111, 177, 179, 181, 183, 12, 10, 185, 187, 189, 191, 193, 195]] #[{ accessFlags := 2, nameIndex := 5, descriptorIndex := 6, attributes := #[] }, { accessFlags := 8, nameIndex := 142, descriptorIndex := 143, attributes := #[] }, { accessFlags := 136, nameIndex := 151, descriptorIndex := 36, attributes := #[] }] 32 2 #[] #[{ accessFlags := 26, nameIndex := 95, descriptorIndex := 96, attributes := #[] }, { accessFlags := 26, nameIndex := 99, descriptorIndex := 17, attributes := #[] }, { accessFlags := 10, nameIndex := 106, descriptorIndex := 56, attributes := #[] }, { accessFlags := 26, nameIndex := 109, descriptorIndex := 110, attributes := #[] }, { accessFlags := 24, nameIndex := 62, descriptorIndex := 63, attributes := #[] }, { accessFlags := 24, nameIndex := 72, descriptorIndex := 63, attributes := #[] }, { accessFlags := 24, nameIndex := 118, descriptorIndex := 119, attributes := #[] }, { accessFlags := 24, nameIndex := 125, descriptorIndex := 126, attributes := #[] }, { accessFlags := 24, nameIndex := 131, descriptorIndex := 132, attributes := #[] }, { accessFlags := 4120, nameIndex := 50, descriptorIndex := 17, attributes := #[] }])
  fields := #[{ name := "SALT32L", type := .long, accessFlags := 26, slot := 0, constantValue := 0 }, { name := "REVERSE", type := .boolean, accessFlags := 26, slot := 1, constantValue := 0 }, { name := "archivedObjects", type := (.array (.object "java/lang/Object")), accessFlags := 10, slot := 2, constantValue := 0 }, { name := "EMPTY", type := (.object "java/lang/Object"), accessFlags := 26, slot := 3, constantValue := 0 }, { name := "EMPTY_LIST", type := (.object "java/util/ImmutableCollections$ListN"), accessFlags := 24, slot := 4, constantValue := 0 }, { name := "EMPTY_LIST_NULLS", type := (.object "java/util/ImmutableCollections$ListN"), accessFlags := 24, slot := 5, constantValue := 0 }, { name := "EMPTY_SET", type := (.object "java/util/ImmutableCollections$SetN"), accessFlags := 24, slot := 6, constantValue := 0 }, { name := "EMPTY_MAP", type := (.object "java/util/ImmutableCollections$MapN"), accessFlags := 24, slot := 7, constantValue := 0 }, { name := "EXPAND_FACTOR", type := .int, accessFlags := 24, slot := 8, constantValue := 0 }, { name := "$assertionsDisabled", type := .boolean, accessFlags := 4120, slot := 9, constantValue := 0 }]
  methods := #[k26m0, k26m1, k26m2]
  instanceTypes := #[]
  staticTypes := #[.long, .boolean, (.array (.object "java/lang/Object")), (.object "java/lang/Object"), (.object "java/util/ImmutableCollections$ListN"), (.object "java/util/ImmutableCollections$ListN"), (.object "java/util/ImmutableCollections$SetN"), (.object "java/util/ImmutableCollections$MapN"), .int, .boolean]
  resolved := Array.replicate 213 none
  statics := some 2 }

def pool27 : Array CpInfo := pool [(1, .methodref 2 3), (0, .class_ 4), (0, .nameAndType 5 6), (0, u "java/util/AbstractCollection"), (0, u "<init>"), (0, u "()V"), (1, .class_ 10), (1, u "java/util/ImmutableCollections"), (2, .class_ 14), (0, u "java/util/ImmutableCollections$AbstractImmutableCollection")] 41

def k27c0 : Code := { maxStack := 1, maxLocals := 1, code := jdk_47_method_1_code, exceptionTable := #[], attributes := #[] }
def k27m0 : Method := { name := "<init>", desc := "()V", sig := { parameters := [], returnType := none }, accessFlags := 0, code := some k27c0 }
/-- java/util/ImmutableCollections$AbstractImmutableCollection -/
def k27 : Class := { plain "java/util/ImmutableCollections$AbstractImmutableCollection" (some 17) with
  accessFlags := 1056
  interfaces := #[]
  cf := some (fileOf pool27 13 #[.nestHost 8] #[{ accessFlags := 0, nameIndex := 5, descriptorIndex := 6, attributes := #[] }] 1056 2 #[] #[])
  fields := #[]
  methods := #[k27m0]
  instanceTypes := #[]
  staticTypes := #[]
  resolved := Array.replicate 56 none
  statics := none }

def pool28 : Array CpInfo := pool [(1, .methodref 2 3), (0, .class_ 4), (0, .nameAndType 5 6), (0, u "java/util/ImmutableCollections$AbstractImmutableCollection"), (0, u "<init>"), (0, u "()V"), (1, .class_ 10), (1, u "java/util/ImmutableCollections"), (3, .class_ 16), (1, u "java/util/ImmutableCollections$AbstractImmutableList"), (60, .class_ 78), (0, u "java/util/List"), (45, .class_ 125), (0, u "java/util/RandomAccess")] 70

def k28c0 : Code := { maxStack := 1, maxLocals := 1, code := jdk_46_method_1_code, exceptionTable := #[], attributes := #[] }
def k28m0 : Method := { name := "<init>", desc := "()V", sig := { parameters := [], returnType := none }, accessFlags := 0, code := some k28c0 }
/-- java/util/ImmutableCollections$AbstractImmutableList -/
def k28 : Class := { plain "java/util/ImmutableCollections$AbstractImmutableList" (some 27) with
  accessFlags := 1056
  interfaces := #[19, 21]
  cf := some (fileOf pool28 14 #[.nestHost 8] #[{ accessFlags := 0, nameIndex := 5, descriptorIndex := 6, attributes := #[] }] 1056 2 #[77, 124] #[])
  fields := #[]
  methods := #[k28m0]
  instanceTypes := #[]
  staticTypes := #[]
  resolved := Array.replicate 196 none
  statics := none }

def pool29 : Array CpInfo := pool [(1, .methodref 2 3), (0, .class_ 4), (0, .nameAndType 5 6), (0, u "java/util/ImmutableCollections$AbstractImmutableList"), (0, u "<init>"), (0, u "()V"), (0, .methodref 8 9), (0, .class_ 10), (0, .nameAndType 11 12), (0, u "java/util/Objects"), (0, u "requireNonNull"), (0, u "(Ljava/lang/Object;)Ljava/lang/Object;"), (0, .fieldref 14 15), (0, .class_ 16), (0, .nameAndType 17 18), (0, u "java/util/ImmutableCollections$List12"), (0, u "e0"), (0, u "Ljava/lang/Object;"), (0, .fieldref 20 21), (0, .class_ 22), (0, .nameAndType 23 18), (0, u "java/util/ImmutableCollections"), (0, u "EMPTY"), (0, .fieldref 14 25), (0, .nameAndType 26 18), (0, u "e1"), (24, u "size"), (0, u "()I"), (17, .class_ 71), (0, u "java/io/Serializable"), (4, u "(Ljava/lang/Object;)V"), (8, u "(Ljava/lang/Object;Ljava/lang/Object;)V"), (4, u "get"), (0, u "(I)Ljava/lang/Object;")] 33

def k29c0 : Code := { maxStack := 2, maxLocals := 2, code := jdk_44_method_1_code, exceptionTable := #[], attributes := #[] }
def k29m0 : Method := { name := "<init>", desc := "(Ljava/lang/Object;)V", sig := { parameters := [(.object "java/lang/Object")], returnType := none }, accessFlags := 0, code := some k29c0 }
def k29c1 : Code := { maxStack := 2, maxLocals := 3, code := jdk_44_method_2_code, exceptionTable := #[], attributes := #[] }
def k29m1 : Method := { name := "<init>", desc := "(Ljava/lang/Object;Ljava/lang/Object;)V", sig := { parameters := [(.object "java/lang/Object"), (.object "java/lang/Object")], returnType := none }, accessFlags := 0, code := some k29c1 }
def k29c2 : Code := { maxStack := 2, maxLocals := 1, code := jdk_44_method_3_code, exceptionTable := #[], attributes := #[] }
def k29m2 : Method := { name := "size", desc := "()I", sig := { parameters := [], returnType := some .int }, accessFlags := 1, code := some k29c2 }
def k29c3 : Code := { maxStack := 2, maxLocals := 2, code := jdk_44_method_5_code, exceptionTable := #[], attributes := #[] }
def k29m3 : Method := { name := "get", desc := "(I)Ljava/lang/Object;", sig := { parameters := [.int], returnType := some (.object "java/lang/Object") }, accessFlags := 1, code := some k29c3 }
/-- java/util/ImmutableCollections$List12 -/
def k29 : Class := { plain "java/util/ImmutableCollections$List12" (some 28) with
  accessFlags := 48
  interfaces := #[6]
  cf := some (fileOf pool29 14 #[.nestHost 20] #[{ accessFlags := 0, nameIndex := 5, descriptorIndex := 76, attributes := #[] }, { accessFlags := 0, nameIndex := 5, descriptorIndex := 85, attributes := #[] }, { accessFlags := 1, nameIndex := 51, descriptorIndex := 52, attributes := #[] }, { accessFlags := 1, nameIndex := 90, descriptorIndex := 91, attributes := #[] }] 48 2 #[70] #[{ accessFlags := 18, nameIndex := 17, descriptorIndex := 18, attributes := #[] }, { accessFlags := 18, nameIndex := 26, descriptorIndex := 18, attributes := #[] }])
  fields := #[{ name := "e0", type := (.object "java/lang/Object"), accessFlags := 18, slot := 0, constantValue := 0 }, { name := "e1", type := (.object "java/lang/Object"), accessFlags := 18, slot := 1, constantValue := 0 }]
  methods := #[k29m0, k29m1, k29m2, k29m3]
  instanceTypes := #[(.object "java/lang/Object"), (.object "java/lang/Object")]
  staticTypes := #[]
  resolved := Array.replicate 125 none
  statics := none }

def pool30 : Array CpInfo := pool [(1, .methodref 2 3), (0, .class_ 4), (0, .nameAndType 5 6), (0, u "java/util/ImmutableCollections$AbstractImmutableList"), (0, u "<init>"), (0, u "()V"), (0, .fieldref 8 9), (0, .class_ 10), (0, .nameAndType 11 12), (0, u "java/util/ImmutableCollections$ListN"), (0, u "elements"), (0, u "[Ljava/lang/Object;"), (0, .fieldref 8 14), (0, .nameAndType 15 16), (0, u "allowNulls"), (0, u "Z"), (42, .class_ 60), (0, u "java/io/Serializable"), (4, u "([Ljava/lang/Object;Z)V"), (11, u "size"), (0, u "()I"), (0, u "get"), (0, u "(I)Ljava/lang/Object;"), (33, .class_ 115), (0, u "java/util/ImmutableCollections")] 3

def k30c0 : Code := { maxStack := 2, maxLocals := 3, code := jdk_45_method_1_code, exceptionTable := #[], attributes := #[] }
def k30m0 : Method := { name := "<init>", desc := "([Ljava/lang/Object;Z)V", sig := { parameters := [(.array (.object "java/lang/Object")), .boolean], returnType := none }, accessFlags := 2, code := some k30c0 }
def k30c1 : Code := { maxStack := 1, maxLocals := 1, code := jdk_45_method_3_code, exceptionTable := #[], attributes := #[] }
def k30m1 : Method := { name := "size", desc := "()I", sig := { parameters := [], returnType := some .int }, accessFlags := 1, code := some k30c1 }
def k30c2 : Code := { maxStack := 2, maxLocals := 2, code := jdk_45_method_4_code, exceptionTable := #[], attributes := #[] }
def k30m2 : Method := { name := "get", desc := "(I)Ljava/lang/Object;", sig := { parameters := [.int], returnType := some (.object "java/lang/Object") }, accessFlags := 1, code := some k30c2 }
/-- java/util/ImmutableCollections$ListN -/
def k30 : Class := { plain "java/util/ImmutableCollections$ListN" (some 28) with
  accessFlags := 48
  interfaces := #[6]
  cf := some (fileOf pool30 8 #[.nestHost 114] #[{ accessFlags := 2, nameIndex := 5, descriptorIndex := 65, attributes := #[] }, { accessFlags := 1, nameIndex := 77, descriptorIndex := 78, attributes := #[] }, { accessFlags := 1, nameIndex := 79, descriptorIndex := 80, attributes := #[] }] 48 2 #[59] #[{ accessFlags := 18, nameIndex := 11, descriptorIndex := 12, attributes := #[] }, { accessFlags := 18, nameIndex := 15, descriptorIndex := 16, attributes := #[] }])
  fields := #[{ name := "elements", type := (.array (.object "java/lang/Object")), accessFlags := 18, slot := 0, constantValue := 0 }, { name := "allowNulls", type := .boolean, accessFlags := 18, slot := 1, constantValue := 0 }]
  methods := #[k30m0, k30m1, k30m2]
  instanceTypes := #[(.array (.object "java/lang/Object")), .boolean]
  staticTypes := #[]
  resolved := Array.replicate 119 none
  statics := none }

def pool31 : Array CpInfo := pool [(2, .class_ 4), (1, u "java/lang/Object"), (0, u "<init>"), (0, u "()V"), (7, .class_ 16), (1, u "java/util/Arrays"), (57, .class_ 76), (1, u "java/util/Arrays$NaturalOrder"), (9, .methodref 2 87), (0, .nameAndType 88 89), (0, u "getClass"), (0, u "()Ljava/lang/Class;"), (20, .class_ 111), (0, u "[Ljava/lang/Object;"), (1, .class_ 115), (1, u "java/util/Arrays$LegacyMergeSort"), (1, u "Z"), (32, .methodref 151 152), (0, .class_ 153), (0, .nameAndType 154 155), (0, u "java/lang/System"), (0, u "arraycopy"), (0, u "(Ljava/lang/Object;ILjava/lang/Object;II)V"), (144, .methodref 14 301), (0, .nameAndType 302 303), (0, u "copyOf"), (0, u "([Ljava/lang/Object;ILjava/lang/Class;)[Ljava/lang/Object;"), (0, .methodref 305 306), (0, .class_ 307), (0, .nameAndType 308 309), (0, u "java/lang/Math"), (0, u "min"), (0, u "(II)I"), (65, .class_ 376), (0, u "java/util/Arrays$ArrayList"), (68, u "$assertionsDisabled"), (269, u "MIN_ARRAY_SORT_GRAN"), (0, u "I"), (2, u "INSERTIONSORT_THRESHOLD"), (140, u "([Ljava/lang/Object;I)[Ljava/lang/Object;"), (114, .class_ 976), (0, u "java/util/Arrays$ArrayItr")] 52

def k31m0 : Method := { name := "<init>", desc := "()V", sig := { parameters := [], returnType := none }, accessFlags := 2, code := none }
def k31c1 : Code := { maxStack := 3, maxLocals := 2, code := jdk_65_method_119_code, exceptionTable := #[], attributes := #[] }
def k31m1 : Method := { name := "copyOf", desc := "([Ljava/lang/Object;I)[Ljava/lang/Object;", sig := { parameters := [(.array (.object "java/lang/Object")), .int], returnType := some (.array (.object "java/lang/Object")) }, accessFlags := 9, code := some k31c1 }
def k31c2 : Code := { maxStack := 6, maxLocals := 4, code := jdk_65_method_120_code, exceptionTable := #[], attributes := #[] }
def k31m2 : Method := { name := "copyOf", desc := "([Ljava/lang/Object;ILjava/lang/Class;)[Ljava/lang/Object;", sig := { parameters := [(.array (.object "java/lang/Object")), .int, (.object "java/lang/Class")], returnType := some (.array (.object "java/lang/Object")) }, accessFlags := 9, code := some k31c2 }
/-- java/util/Arrays -/
def k31 : Class := { plain "java/util/Arrays" (some 0) with
  accessFlags := 49
  interfaces := #[]
  cf := some (fileOf pool31 14 #[.nestMembers #[975, 375, 113, 74]] #[{ accessFlags := 2, nameIndex := 5, descriptorIndex := 6, attributes := #[] }, { accessFlags := 9, nameIndex := 302, descriptorIndex := 860, attributes := #[] }, { accessFlags := 9, nameIndex := 302, descriptorIndex := 303, attributes := #[] }] 49 2 #[] #[{ accessFlags := 26, nameIndex := 715, descriptorIndex := 716, attributes := #[] }, { accessFlags := 26, nameIndex := 719, descriptorIndex := 716, attributes := #[] }, { accessFlags := 4120, nameIndex := 445, descriptorIndex := 117, attributes := #[] }])
  fields := #[{ name := "MIN_ARRAY_SORT_GRAN", type := .int, accessFlags := 26, slot := 0, constantValue := 0 }, { name := "INSERTIONSORT_THRESHOLD", type := .int, accessFlags := 26, slot := 1, constantValue := 0 }, { name := "$assertionsDisabled", type := .boolean, accessFlags := 4120, slot := 2, constantValue := 0 }]
  methods := #[k31m0, k31m1, k31m2]
  instanceTypes := #[]
  staticTypes := #[.int, .int, .boolean]
  resolved := Array.replicate 1029 none
  statics := none }

def pool32 : Array CpInfo := pool [(2, .class_ 4), (1, u "java/lang/Object"), (0, u "<init>"), (0, u "()V"), (1, .class_ 10), (1, u "java/lang/System"), (0, u "allowSecurityManager"), (0, u "I"), (16, u "cons"), (0, u "Ljava/io/Console;"), (77, .class_ 110), (1, u "java/lang/System$CallersHolder"), (43, u "initialErrStream"), (0, u "Ljava/io/PrintStream;"), (19, u "security"), (0, u "Ljava/lang/SecurityManager;"), (31, .class_ 209), (0, u "java/lang/System$1"), (7, u "props"), (0, u "Ljava/util/Properties;"), (2, u "lineSeparator"), (0, u "Ljava/lang/String;"), (96, .class_ 321), (1, u "java/lang/System$LoggerFinder"), (5, .class_ 328), (0, u "java/lang/System$Logger"), (67, u "err"), (2, u "out"), (91, u "notSupportedJnuEncoding"), (15, u "in"), (17, u "initialIn"), (0, u "Ljava/io/InputStream;"), (35, u "bootLayer"), (0, u "Ljava/lang/ModuleLayer;"), (99, .class_ 664), (0, u "java/lang/System$2"), (9, u "NEVER"), (2, u "MAYBE"), (49, u "arraycopy"), (0, u "(Ljava/lang/Object;ILjava/lang/Object;II)V"), (72, .class_ 802), (0, u "java/lang/System$Logger$Level")] 31

def k32m0 : Method := { name := "<init>", desc := "()V", sig := { parameters := [], returnType := none }, accessFlags := 2, code := none }
def k32m1 : Method := { name := "arraycopy", desc := "(Ljava/lang/Object;ILjava/lang/Object;II)V", sig := { parameters := [(.object "java/lang/Object"), .int, (.object "java/lang/Object"), .int, .int], returnType := none }, accessFlags := 265, code := none }
/-- java/lang/System -/
def k32 : Class := { plain "java/lang/System" (some 0) with
  accessFlags := 49
  interfaces := #[]
  cf := some (fileOf pool32 8 #[.nestMembers #[319, 327, 801, 108, 663, 208]] #[{ accessFlags := 2, nameIndex := 5, descriptorIndex := 6, attributes := #[] }, { accessFlags := 265, nameIndex := 727, descriptorIndex := 728, attributes := #[] }] 49 2 #[] #[{ accessFlags := 25, nameIndex := 507, descriptorIndex := 526, attributes := #[] }, { accessFlags := 25, nameIndex := 399, descriptorIndex := 155, attributes := #[] }, { accessFlags := 25, nameIndex := 396, descriptorIndex := 155, attributes := #[] }, { accessFlags := 10, nameIndex := 525, descriptorIndex := 526, attributes := #[] }, { accessFlags := 26, nameIndex := 674, descriptorIndex := 12, attributes := #[] }, { accessFlags := 26, nameIndex := 677, descriptorIndex := 12, attributes := #[] }, { accessFlags := 10, nameIndex := 11, descriptorIndex := 12, attributes := #[] }, { accessFlags := 74, nameIndex := 175, descriptorIndex := 176, attributes := #[] }, { accessFlags := 10, nameIndex := 491, descriptorIndex := 222, attributes := #[] }, { accessFlags := 74, nameIndex := 29, descriptorIndex := 30, attributes := #[] }, { accessFlags := 74, nameIndex := 154, descriptorIndex := 155, attributes := #[] }, { accessFlags := 10, nameIndex := 217, descriptorIndex := 218, attributes := #[] }, { accessFlags := 10, nameIndex := 221, descriptorIndex := 222, attributes := #[] }, { accessFlags := 8, nameIndex := 562, descriptorIndex := 563, attributes := #[] }])
  fields := #[{ name := "in", type := (.object "java/io/InputStream"), accessFlags := 25, slot := 0, constantValue := 0 }, { name := "out", type := (.object "java/io/PrintStream"), accessFlags := 25, slot := 1, constantValue := 0 }, { name := "err", type := (.object "java/io/PrintStream"), accessFlags := 25, slot := 2, constantValue := 0 }, { name := "initialIn", type := (.object "java/io/InputStream"), accessFlags := 10, slot := 3, constantValue := 0 }, { name := "NEVER", type := .int, accessFlags := 26, slot := 4, constantValue := 0 }, { name := "MAYBE", type := .int, accessFlags := 26, slot := 5, constantValue := 0 }, { name := "allowSecurityManager", type := .int, accessFlags := 10, slot := 6, constantValue := 0 }, { name := "security", type := (.object "java/lang/SecurityManager"), accessFlags := 74, slot := 7, constantValue := 0 }, { name := "notSupportedJnuEncoding", type := (.object "java/lang/String"), accessFlags := 10, slot := 8, constantValue := 0 }, { name := "cons", type := (.object "java/io/Console"), accessFlags := 74, slot := 9, constantValue := 0 }, { name := "initialErrStream", type := (.object "java/io/PrintStream"), accessFlags := 74, slot := 10, constantValue := 0 }, { name := "props", type := (.object "java/util/Properties"), accessFlags := 10, slot := 11, constantValue := 0 }, { name := "lineSeparator", type := (.object "java/lang/String"), accessFlags := 10, slot := 12, constantValue := 0 }, { name := "bootLayer", type := (.object "java/lang/ModuleLayer"), accessFlags := 8, slot := 13, constantValue := 0 }]
  methods := #[k32m0, k32m1]
  instanceTypes := #[]
  staticTypes := #[(.object "java/io/InputStream"), (.object "java/io/PrintStream"), (.object "java/io/PrintStream"), (.object "java/io/InputStream"), .int, .int, .int, (.object "java/lang/SecurityManager"), (.object "java/lang/String"), (.object "java/io/Console"), (.object "java/io/PrintStream"), (.object "java/util/Properties"), (.object "java/lang/String"), (.object "java/lang/ModuleLayer")]
  resolved := Array.replicate 834 none
  statics := none }

def pool33 : Array CpInfo := pool [(2, .class_ 4), (1, u "java/lang/Object"), (0, u "<init>"), (0, u "()V"), (35, .class_ 44), (1, u "java/util/Objects"), (0, u "requireNonNull"), (0, u "(Ljava/lang/Object;)Ljava/lang/Object;")] 137

def k33m0 : Method := { name := "<init>", desc := "()V", sig := { parameters := [], returnType := none }, accessFlags := 2, code := none }
def k33c1 : Code := { maxStack := 2, maxLocals := 1, code := jdk_31_method_10_code, exceptionTable := #[], attributes := #[] }
def k33m1 : Method := { name := "requireNonNull", desc := "(Ljava/lang/Object;)Ljava/lang/Object;", sig := { parameters := [(.object "java/lang/Object")], returnType := some (.object "java/lang/Object") }, accessFlags := 9, code := some k33c1 }
/-- java/util/Objects -/
def k33 : Class := { plain "java/util/Objects" (some 0) with
  accessFlags := 49
  interfaces := #[]
  cf := some (fileOf pool33 42 #[] #[{ accessFlags := 2, nameIndex := 5, descriptorIndex := 6, attributes := #[] }, { accessFlags := 9, nameIndex := 45, descriptorIndex := 46, attributes := #[] }] 49 2 #[] #[])
  fields := #[]
  methods := #[k33m0, k33m1]
  instanceTypes := #[]
  staticTypes := #[]
  resolved := Array.replicate 184 none
  statics := none }

def pool34 : Array CpInfo := pool [(4, .class_ 6), (1, u "java/time/temporal/TemporalUnit"), (23, .class_ 31), (0, u "java/lang/Object")] 27

/-- java/time/temporal/TemporalUnit -/
def k34 : Class := { plain "java/time/temporal/TemporalUnit" (some 0) with
  accessFlags := 1537
  interfaces := #[]
  cf := some (fileOf pool34 4 #[] #[] 1537 30 #[] #[])
  fields := #[]
  methods := #[]
  instanceTypes := #[]
  staticTypes := #[]
  resolved := Array.replicate 59 none
  statics := none }

def pool35 : Array CpInfo := pool [(1, .class_ 2), (0, u "java/time/temporal/ChronoUnit"), (2, u "NANOS"), (0, u "Ljava/time/temporal/ChronoUnit;"), (2, u "MICROS"), (2, u "MILLIS"), (2, u "SECONDS"), (2, u "MINUTES"), (2, u "HOURS"), (2, u "HALF_DAYS"), (2, u "DAYS"), (2, u "WEEKS"), (2, u "MONTHS"), (2, u "YEARS"), (2, u "DECADES"), (2, u "CENTURIES"), (2, u "MILLENNIA"), (2, u "ERAS"), (2, u "FOREVER"), (2, u "$VALUES"), (0, u "[Ljava/time/temporal/ChronoUnit;"), (6, .class_ 64), (1, u "java/lang/Enum"), (8, u "name"), (0, u "Ljava/lang/String;"), (2, u "duration"), (0, u "Ljava/time/Duration;"), (117, .class_ 197), (0, u "java/time/temporal/TemporalUnit")] 39

/-- java/time/temporal/ChronoUnit -/
def k35 : Class := { plain "java/time/temporal/ChronoUnit" (some 9) with
  accessFlags := 16433
  interfaces := #[34]
  cf := some (fileOf pool35 1 #[] #[] 16433 62 #[196] #[{ accessFlags := 16409, nameIndex := 5, descriptorIndex := 6, attributes := #[] }, { accessFlags := 16409, nameIndex := 9, descriptorIndex := 6, attributes := #[] }, { accessFlags := 16409, nameIndex := 12, descriptorIndex := 6, attributes := #[] }, { accessFlags := 16409, nameIndex := 15, descriptorIndex := 6, attributes := #[] }, { accessFlags := 16409, nameIndex := 18, descriptorIndex := 6, attributes := #[] }, { accessFlags := 16409, nameIndex := 21, descriptorIndex := 6, attributes := #[] }, { accessFlags := 16409, nameIndex := 24, descriptorIndex := 6, attributes := #[] }, { accessFlags := 16409, nameIndex := 27, descriptorIndex := 6, attributes := #[] }, { accessFlags := 16409, nameIndex := 30, descriptorIndex := 6, attributes := #[] }, { accessFlags := 16409, nameIndex := 33, descriptorIndex := 6, attributes := #[] }, { accessFlags := 16409, nameIndex := 36, descriptorIndex := 6, attributes := #[] }, { accessFlags := 16409, nameIndex := 39, descriptorIndex := 6, attributes := #[] }, { accessFlags := 16409, nameIndex := 42, descriptorIndex := 6, attributes := #[] }, { accessFlags := 16409, nameIndex := 45, descriptorIndex := 6, attributes := #[] }, { accessFlags := 16409, nameIndex := 48, descriptorIndex := 6, attributes := #[] }, { accessFlags := 16409, nameIndex := 51, descriptorIndex := 6, attributes := #[] }, { accessFlags := 18, nameIndex := 73, descriptorIndex := 74, attributes := #[] }, { accessFlags := 18, nameIndex := 77, descriptorIndex := 78, attributes := #[] }, { accessFlags := 4122, nameIndex := 54, descriptorIndex := 55, attributes := #[] }])
  fields := #[{ name := "NANOS", type := (.object "java/time/temporal/ChronoUnit"), accessFlags := 16409, slot := 0, constantValue := 0 }, { name := "MICROS", type := (.object "java/time/temporal/ChronoUnit"), accessFlags := 16409, slot := 1, constantValue := 0 }, { name := "MILLIS", type := (.object "java/time/temporal/ChronoUnit"), accessFlags := 16409, slot := 2, constantValue := 0 }, { name := "SECONDS", type := (.object "java/time/temporal/ChronoUnit"), accessFlags := 16409, slot := 3, constantValue := 0 }, { name := "MINUTES", type := (.object "java/time/temporal/ChronoUnit"), accessFlags := 16409, slot := 4, constantValue := 0 }, { name := "HOURS", type := (.object "java/time/temporal/ChronoUnit"), accessFlags := 16409, slot := 5, constantValue := 0 }, { name := "HALF_DAYS", type := (.object "java/time/temporal/ChronoUnit"), accessFlags := 16409, slot := 6, constantValue := 0 }, { name := "DAYS", type := (.object "java/time/temporal/ChronoUnit"), accessFlags := 16409, slot := 7, constantValue := 0 }, { name := "WEEKS", type := (.object "java/time/temporal/ChronoUnit"), accessFlags := 16409, slot := 8, constantValue := 0 }, { name := "MONTHS", type := (.object "java/time/temporal/ChronoUnit"), accessFlags := 16409, slot := 9, constantValue := 0 }, { name := "YEARS", type := (.object "java/time/temporal/ChronoUnit"), accessFlags := 16409, slot := 10, constantValue := 0 }, { name := "DECADES", type := (.object "java/time/temporal/ChronoUnit"), accessFlags := 16409, slot := 11, constantValue := 0 }, { name := "CENTURIES", type := (.object "java/time/temporal/ChronoUnit"), accessFlags := 16409, slot := 12, constantValue := 0 }, { name := "MILLENNIA", type := (.object "java/time/temporal/ChronoUnit"), accessFlags := 16409, slot := 13, constantValue := 0 }, { name := "ERAS", type := (.object "java/time/temporal/ChronoUnit"), accessFlags := 16409, slot := 14, constantValue := 0 }, { name := "FOREVER", type := (.object "java/time/temporal/ChronoUnit"), accessFlags := 16409, slot := 15, constantValue := 0 }, { name := "name", type := (.object "java/lang/String"), accessFlags := 18, slot := 3, constantValue := 0 }, { name := "duration", type := (.object "java/time/Duration"), accessFlags := 18, slot := 4, constantValue := 0 }, { name := "$VALUES", type := (.array (.object "java/time/temporal/ChronoUnit")), accessFlags := 4122, slot := 16, constantValue := 0 }]
  methods := #[]
  instanceTypes := #[(.object "java/lang/String"), .int, .int, (.object "java/lang/String"), (.object "java/time/Duration")]
  staticTypes := #[(.object "java/time/temporal/ChronoUnit"), (.object "java/time/temporal/ChronoUnit"), (.object "java/time/temporal/ChronoUnit"), (.object "java/time/temporal/ChronoUnit"), (.object "java/time/temporal/ChronoUnit"), (.object "java/time/temporal/ChronoUnit"), (.object "java/time/temporal/ChronoUnit"), (.object "java/time/temporal/ChronoUnit"), (.object "java/time/temporal/ChronoUnit"), (.object "java/time/temporal/ChronoUnit"), (.object "java/time/temporal/ChronoUnit"), (.object "java/time/temporal/ChronoUnit"), (.object "java/time/temporal/ChronoUnit"), (.object "java/time/temporal/ChronoUnit"), (.object "java/time/temporal/ChronoUnit"), (.object "java/time/temporal/ChronoUnit"), (.array (.object "java/time/temporal/ChronoUnit"))]
  resolved := Array.replicate 237 none
  statics := some 3 }

def pool36 : Array CpInfo := pool [(1, u "java/lang/Class"), (0, .class_ 1), (0, u "java/lang/Object"), (0, .class_ 3)] 0

/-- java/lang/Class -/
def k36 : Class := { plain "java/lang/Class" (some 0) with
  accessFlags := 49
  interfaces := #[]
  cf := some (fileOf pool36 2 #[] #[] 49 4 #[] #[])
  fields := #[]
  methods := #[]
  instanceTypes := #[]
  staticTypes := #[]
  resolved := Array.replicate 5 none
  statics := none }

/-- the primitive byte -/
def k37 : Class := { plain "byte" none with kind := .primitive 'B', accessFlags := 0x411 }
/-- [B -/
def k38 : Class := { plain "[B" (some 0) with kind := .array 37 .byte, interfaces := #[22, 6], accessFlags := 1041 }

/-- the primitive int -/
def k39 : Class := { plain "int" none with kind := .primitive 'I', accessFlags := 0x411 }
/-- [I -/
def k40 : Class := { plain "[I" (some 0) with kind := .array 39 .int, interfaces := #[22, 6], accessFlags := 1041 }

/-- [Ljava/lang/Object; -/
def k41 : Class := { plain "[Ljava/lang/Object;" (some 0) with kind := .array 0 (.object "java/lang/Object"), interfaces := #[22, 6], accessFlags := 1041, mirror := some 4 }
def k42 : Class := plain "java/lang/String" (some 0)
def k43 : Class := plain "java/time/Duration" (some 0)

def heap : Heap := #[{ cls := 11, slots := #[.null, .null, .null, .null, .null, .null, .null, .null, .null, .null, .null, .null, .null, .null, .null, .null, .null, .null, .null, .null, .null, .null, .null, .ref 6, .null, .null, .ref 5, .null, .null, .null, .null], vm := .statics 11 },
  { cls := 23, slots := #[.long 0, .int 0, .ref 7, .ref 8], vm := .statics 23 },
  { cls := 26, slots := #[.long 0, .int 0, .null, .ref 9, .ref 10, .null, .null, .null, .int 0, .int 1], vm := .statics 26 },
  { cls := 35, slots := #[.null, .null, .null, .null, .null, .null, .null, .null, .null, .ref 15, .ref 13, .null, .null, .null, .null, .ref 14, .null], vm := .statics 35 },
  { cls := 36, slots := #[], vm := .mirror 41 },
  { cls := 11, slots := #[.ref 11, .int 26, .int 0, .ref 11, .ref 13, .ref 14, .ref 16, .ref 11], vm := .none },
  { cls := 11, slots := #[.ref 11, .int 23, .int 0, .ref 11, .ref 15, .ref 13, .ref 17, .ref 11], vm := .none },
  { cls := 41, slots := #[], vm := .none },
  { cls := 41, slots := #[], vm := .none },
  { cls := 0, slots := #[], vm := .none },
  { cls := 30, slots := #[.null, .int 0], vm := .none },
  { cls := 42, slots := #[], vm := .none },
  { cls := 43, slots := #[], vm := .none },
  { cls := 35, slots := #[.ref 11, .int 10, .int 0, .ref 11, .ref 12], vm := .none },
  { cls := 35, slots := #[.ref 11, .int 15, .int 0, .ref 11, .ref 12], vm := .none },
  { cls := 35, slots := #[.ref 11, .int 9, .int 0, .ref 11, .ref 12], vm := .none },
  { cls := 12, slots := #[.long (-999999999), .long (-999999999), .long 999999999, .long 999999999], vm := .none },
  { cls := 12, slots := #[.long 1, .long 1, .long 12, .long 12], vm := .none }]
def classes : Array Class := #[k0, k1, k2, k3, k4, k5, k6, k7, k8, k9, k10, k11, k12, k13, k14, k15, k16, k17, k18, k19, k20, k21, k22, k23, k24, k25, k26, k27, k28, k29, k30, k31, k32, k33, k34, k35, k36, k37, k38, k39, k40, k41, k42, k43]
def interned : List (Array UInt16 × Addr) := []
def slotsUsed : Nat := 103
def theMethod : MethodId := ⟨1, 1⟩
def args0 : Array Value := #[.int 5, .int 5]
def aboutOver (below : List Frame) : State where
  vm := { classes := classes, interned := interned.toArray }
  heap := heap
  slotsUsed := slotsUsed
  threads := #[{ frames := .invoking theMethod args0 :: below }]
def below0 : List Frame := [.native { method := ⟨0, 0⟩, args := #[] }]
def about1 : State := aboutOver below0
def p0 : Program := .bare "" "" ""
def e0 : Env := launch0.env 0 0 0
theorem w_frames : about1.frames = Frame.invoking theMethod args0 :: below0 := rfl
set_option maxRecDepth 65536 in
theorem w_args : argsFit about1.vm theMethod args0 = true := by decide +kernel
set_option maxRecDepth 65536 in
theorem w_heap : heapFits about1 = true := by decide +kernel
set_option maxRecDepth 65536 in
theorem w_runnable : about1.curStatus? = some .runnable := by decide +kernel
set_option maxRecDepth 65536 in
theorem w_alone : about1.alone = true := by decide +kernel
set_option maxRecDepth 65536 in
theorem w_named : about1.methodNamed? x = some theMethod := by decide +kernel
set_option maxRecDepth 65536 in
theorem w_hears : about1.hears theMethod below0 = true := by decide +kernel
set_option maxRecDepth 65536 in
theorem w_ripe : about1.ripe theMethod args0 below0 = true := by decide +kernel
theorem w_running : about1.status = .running := rfl
set_option maxRecDepth 65536 in
theorem w_room : about1.hasRoom e0.platform room_1 = true :=
  launch0.hasRoom_least _ room_1 (by decide +kernel) (by decide +kernel) (by decide +kernel) (by decide +kernel) (by decide +kernel) (by decide +kernel)
theorem allAtoms_all (ts : List Jvm.Cond) (a : Array Jvm.Value) (st : Jvm.State) : (allAtoms ts).before a st = ts.all (fun c => c.before a st) := by
  induction ts with
  | nil => rfl
  | cons c t ih =>
    show (Jvm.Cond.and c (allAtoms t)).before a st = _
    rw [Jvm.Cond.before_and, ih, List.all_cons]
def words1 : List Jvm.Cond := Jvm.Cond.code x code maxLocals ret :: tables_1
/-- a 'code' word, met by the world's own term for the bytes: nothing is compared byte by byte -/
theorem code_word {y : MethodName} {bytes : ByteArray} {mx : Nat} {rt : Option FieldType} {a : Array Value} {s : State} {m : MethodId} {meth : Method} {c : Code} (h1 : s.methodNamed? y = some m) (h2 : s.vm.method? m = some meth) (h3 : meth.code = some c) (h4 : c.code = bytes)
    (h5 : (c.maxLocals == mx && c.exceptionTable.isEmpty && decide (c.maxStack ≤ mostOperands) && decide (meth.sig.returnType = rt) && !meth.locks && decide (parseMethodDescriptor y.desc = some meth.sig)) = true) : (Jvm.Cond.code y bytes mx rt).before a s = true := by
  simp only [Bool.and_eq_true, beq_iff_eq, Bool.not_eq_true', decide_eq_true_eq] at h5
  obtain ⟨⟨⟨⟨⟨g1, g2⟩, g3⟩, g4⟩, g5⟩, g6⟩ := h5
  simp [Cond.before, Cond.holds, Cond.value, h1, h2, h3, h4, g1, g2, g3, g4, g5, g6]
def isCode : Jvm.Cond → Bool
  | .code _ _ _ _ => true
  | _ => false
theorem all_split {L : List Jvm.Cond} {P : Jvm.Cond → Bool} (h1 : L.all (fun c => isCode c || P c) = true) (h2 : ∀ c ∈ L.filter isCode, P c = true) : L.all P = true := by
  refine List.all_eq_true.mpr fun c hc => ?_
  have h := List.all_eq_true.mp h1 c hc
  rcases Bool.eq_false_or_eq_true (isCode c) with hi | hi
  · exact h2 c (List.mem_filter.mpr ⟨hc, hi⟩)
  · simpa [hi] using h
set_option maxRecDepth 65536 in
theorem w_c0 : (Jvm.Cond.code x code maxLocals ret).before args0 about1 = true := code_word (m := ⟨1, 1⟩) (meth := k1m1) (c := k1c1) (by decide +kernel) rfl rfl rfl (by decide +kernel)
set_option maxRecDepth 65536 in
theorem w_c1 : (Jvm.Cond.code ({ cls := "com/example/pledgebook/pledgebook/model/LedgerLastMonthPinLaw", name := "ym", desc := "(I)Ljava/time/YearMonth;" } : Jvm.MethodName) method_3_code (1 : Nat) (Option.some (Jvm.ClassFile.FieldType.object "java/time/YearMonth"))).before args0 about1 = true := code_word (m := ⟨1, 2⟩) (meth := k1m2) (c := k1c2) (by decide +kernel) rfl rfl rfl (by decide +kernel)
set_option maxRecDepth 65536 in
theorem w_c2 : (Jvm.Cond.code ({ cls := "java/time/YearMonth", name := "of", desc := "(II)Ljava/time/YearMonth;" } : Jvm.MethodName) jdk_2340_method_5_code (2 : Nat) (Option.some (Jvm.ClassFile.FieldType.object "java/time/YearMonth"))).before args0 about1 = true := code_word (m := ⟨7, 0⟩) (meth := k7m0) (c := k7c0) (by decide +kernel) rfl rfl rfl (by decide +kernel)
set_option maxRecDepth 65536 in
theorem w_c3 : (Jvm.Cond.code ({ cls := "java/time/temporal/ChronoField", name := "checkValidValue", desc := "(J)J" } : Jvm.MethodName) jdk_2395_method_11_code (3 : Nat) (Option.some Jvm.ClassFile.FieldType.long)).before args0 about1 = true := code_word (m := ⟨11, 1⟩) (meth := k11m1) (c := k11c1) (by decide +kernel) rfl rfl rfl (by decide +kernel)
set_option maxRecDepth 65536 in
theorem w_c4 : (Jvm.Cond.code ({ cls := "java/time/temporal/ChronoField", name := "range", desc := "()Ljava/time/temporal/ValueRange;" } : Jvm.MethodName) jdk_2395_method_8_code (1 : Nat) (Option.some (Jvm.ClassFile.FieldType.object "java/time/temporal/ValueRange"))).before args0 about1 = true := code_word (m := ⟨11, 0⟩) (meth := k11m0) (c := k11c0) (by decide +kernel) rfl rfl rfl (by decide +kernel)
set_option maxRecDepth 65536 in
theorem w_c5 : (Jvm.Cond.code ({ cls := "java/time/temporal/ValueRange", name := "checkValidValue", desc := "(JLjava/time/temporal/TemporalField;)J" } : Jvm.MethodName) jdk_2423_method_13_code (4 : Nat) (Option.some Jvm.ClassFile.FieldType.long)).before args0 about1 = true := code_word (m := ⟨12, 3⟩) (meth := k12m3) (c := k12c3) (by decide +kernel) rfl rfl rfl (by decide +kernel)
set_option maxRecDepth 65536 in
theorem w_c6 : (Jvm.Cond.code ({ cls := "java/time/temporal/ValueRange", name := "isValidValue", desc := "(J)Z" } : Jvm.MethodName) jdk_2423_method_11_code (3 : Nat) (Option.some Jvm.ClassFile.FieldType.boolean)).before args0 about1 = true := code_word (m := ⟨12, 2⟩) (meth := k12m2) (c := k12c2) (by decide +kernel) rfl rfl rfl (by decide +kernel)
set_option maxRecDepth 65536 in
theorem w_c7 : (Jvm.Cond.code ({ cls := "java/time/temporal/ValueRange", name := "getMinimum", desc := "()J" } : Jvm.MethodName) jdk_2423_method_6_code (1 : Nat) (Option.some Jvm.ClassFile.FieldType.long)).before args0 about1 = true := code_word (m := ⟨12, 0⟩) (meth := k12m0) (c := k12c0) (by decide +kernel) rfl rfl rfl (by decide +kernel)
set_option maxRecDepth 65536 in
theorem w_c8 : (Jvm.Cond.code ({ cls := "java/time/temporal/ValueRange", name := "getMaximum", desc := "()J" } : Jvm.MethodName) jdk_2423_method_9_code (1 : Nat) (Option.some Jvm.ClassFile.FieldType.long)).before args0 about1 = true := code_word (m := ⟨12, 1⟩) (meth := k12m1) (c := k12c1) (by decide +kernel) rfl rfl rfl (by decide +kernel)
set_option maxRecDepth 65536 in
theorem w_c9 : (Jvm.Cond.code ({ cls := "java/time/YearMonth", name := "<init>", desc := "(II)V" } : Jvm.MethodName) jdk_2340_method_9_code (3 : Nat) (Option.none : Option Jvm.ClassFile.FieldType)).before args0 about1 = true := code_word (m := ⟨7, 1⟩) (meth := k7m1) (c := k7c1) (by decide +kernel) rfl rfl rfl (by decide +kernel)
set_option maxRecDepth 65536 in
theorem w_c10 : (Jvm.Cond.code ({ cls := "java/lang/Object", name := "<init>", desc := "()V" } : Jvm.MethodName) object_method_1_code (1 : Nat) (Option.none : Option Jvm.ClassFile.FieldType)).before args0 about1 = true := code_word (m := ⟨0, 0⟩) (meth := k0m0) (c := k0c0) (by decide +kernel) rfl rfl rfl (by decide +kernel)
set_option maxRecDepth 65536 in
theorem w_c11 : (Jvm.Cond.code ({ cls := "com/example/pledgebook/pledgebook/model/LedgerMonth", name := "<init>", desc := "(Ljava/time/YearMonth;Ljava/math/BigDecimal;Ljava/math/BigDecimal;)V" } : Jvm.MethodName) prog_50_method_1_code (4 : Nat) (Option.none : Option Jvm.ClassFile.FieldType)).before args0 about1 = true := code_word (m := ⟨14, 0⟩) (meth := k14m0) (c := k14c0) (by decide +kernel) rfl rfl rfl (by decide +kernel)
set_option maxRecDepth 65536 in
theorem w_c12 : (Jvm.Cond.code ({ cls := "java/lang/Record", name := "<init>", desc := "()V" } : Jvm.MethodName) jdk_30_method_1_code (1 : Nat) (Option.none : Option Jvm.ClassFile.FieldType)).before args0 about1 = true := code_word (m := ⟨13, 0⟩) (meth := k13m0) (c := k13c0) (by decide +kernel) rfl rfl rfl (by decide +kernel)
set_option maxRecDepth 65536 in
theorem w_c13 : (Jvm.Cond.code ({ cls := "java/util/ArrayList", name := "<init>", desc := "()V" } : Jvm.MethodName) jdk_38_method_2_code (1 : Nat) (Option.none : Option Jvm.ClassFile.FieldType)).before args0 about1 = true := code_word (m := ⟨23, 0⟩) (meth := k23m0) (c := k23c0) (by decide +kernel) rfl rfl rfl (by decide +kernel)
set_option maxRecDepth 65536 in
theorem w_c14 : (Jvm.Cond.code ({ cls := "java/util/AbstractList", name := "<init>", desc := "()V" } : Jvm.MethodName) jdk_39_method_1_code (1 : Nat) (Option.none : Option Jvm.ClassFile.FieldType)).before args0 about1 = true := code_word (m := ⟨20, 0⟩) (meth := k20m0) (c := k20c0) (by decide +kernel) rfl rfl rfl (by decide +kernel)
set_option maxRecDepth 65536 in
theorem w_c15 : (Jvm.Cond.code ({ cls := "java/util/AbstractCollection", name := "<init>", desc := "()V" } : Jvm.MethodName) jdk_22_method_1_code (1 : Nat) (Option.none : Option Jvm.ClassFile.FieldType)).before args0 about1 = true := code_word (m := ⟨17, 0⟩) (meth := k17m0) (c := k17c0) (by decide +kernel) rfl rfl rfl (by decide +kernel)
set_option maxRecDepth 65536 in
theorem w_c16 : (Jvm.Cond.code ({ cls := "java/util/ArrayList", name := "add", desc := "(Ljava/lang/Object;)Z" } : Jvm.MethodName) jdk_38_method_25_code (2 : Nat) (Option.some Jvm.ClassFile.FieldType.boolean)).before args0 about1 = true := code_word (m := ⟨23, 6⟩) (meth := k23m6) (c := k23c6) (by decide +kernel) rfl rfl rfl (by decide +kernel)
set_option maxRecDepth 65536 in
theorem w_c17 : (Jvm.Cond.code ({ cls := "java/util/ArrayList", name := "add", desc := "(Ljava/lang/Object;[Ljava/lang/Object;I)V" } : Jvm.MethodName) jdk_38_method_24_code (4 : Nat) (Option.none : Option Jvm.ClassFile.FieldType)).before args0 about1 = true := code_word (m := ⟨23, 5⟩) (meth := k23m5) (c := k23c5) (by decide +kernel) rfl rfl rfl (by decide +kernel)
set_option maxRecDepth 65536 in
theorem w_c18 : (Jvm.Cond.code ({ cls := "java/util/ArrayList", name := "grow", desc := "()[Ljava/lang/Object;" } : Jvm.MethodName) jdk_38_method_7_code (1 : Nat) (Option.some (Jvm.ClassFile.FieldType.array (Jvm.ClassFile.FieldType.object "java/lang/Object")))).before args0 about1 = true := code_word (m := ⟨23, 2⟩) (meth := k23m2) (c := k23c2) (by decide +kernel) rfl rfl rfl (by decide +kernel)
set_option maxRecDepth 65536 in
theorem w_c19 : (Jvm.Cond.code ({ cls := "java/util/ArrayList", name := "grow", desc := "(I)[Ljava/lang/Object;" } : Jvm.MethodName) jdk_38_method_6_code (4 : Nat) (Option.some (Jvm.ClassFile.FieldType.array (Jvm.ClassFile.FieldType.object "java/lang/Object")))).before args0 about1 = true := code_word (m := ⟨23, 1⟩) (meth := k23m1) (c := k23c1) (by decide +kernel) rfl rfl rfl (by decide +kernel)
set_option maxRecDepth 65536 in
theorem w_c20 : (Jvm.Cond.code ({ cls := "java/lang/Math", name := "max", desc := "(II)I" } : Jvm.MethodName) jdk_29_method_65_code (2 : Nat) (Option.some Jvm.ClassFile.FieldType.int)).before args0 about1 = true := code_word (m := ⟨24, 1⟩) (meth := k24m1) (c := k24c1) (by decide +kernel) rfl rfl rfl (by decide +kernel)
set_option maxRecDepth 65536 in
theorem w_c21 : (Jvm.Cond.code ({ cls := "com/example/pledgebook/pledgebook/model/Ledger", name := "<init>", desc := "(Ljava/util/List;)V" } : Jvm.MethodName) prog_48_method_1_code (2 : Nat) (Option.none : Option Jvm.ClassFile.FieldType)).before args0 about1 = true := code_word (m := ⟨25, 0⟩) (meth := k25m0) (c := k25c0) (by decide +kernel) rfl rfl rfl (by decide +kernel)
set_option maxRecDepth 65536 in
theorem w_c22 : (Jvm.Cond.code ({ cls := "java/util/List", name := "copyOf", desc := "(Ljava/util/Collection;)Ljava/util/List;" } : Jvm.MethodName) jdk_40_method_48_code (1 : Nat) (Option.some (Jvm.ClassFile.FieldType.object "java/util/List"))).before args0 about1 = true := code_word (m := ⟨19, 3⟩) (meth := k19m3) (c := k19c3) (by decide +kernel) rfl rfl rfl (by decide +kernel)
set_option maxRecDepth 65536 in
theorem w_c23 : (Jvm.Cond.code ({ cls := "java/util/ImmutableCollections", name := "listCopy", desc := "(Ljava/util/Collection;)Ljava/util/List;" } : Jvm.MethodName) jdk_56_method_3_code (2 : Nat) (Option.some (Jvm.ClassFile.FieldType.object "java/util/List"))).before args0 about1 = true := code_word (m := ⟨26, 1⟩) (meth := k26m1) (c := k26c1) (by decide +kernel) rfl rfl rfl (by decide +kernel)
set_option maxRecDepth 65536 in
theorem w_c24 : (Jvm.Cond.code ({ cls := "java/util/ArrayList", name := "isEmpty", desc := "()Z" } : Jvm.MethodName) jdk_38_method_9_code (1 : Nat) (Option.some Jvm.ClassFile.FieldType.boolean)).before args0 about1 = true := code_word (m := ⟨23, 3⟩) (meth := k23m3) (c := k23c3) (by decide +kernel) rfl rfl rfl (by decide +kernel)
set_option maxRecDepth 65536 in
theorem w_c25 : (Jvm.Cond.code ({ cls := "java/util/ArrayList", name := "toArray", desc := "()[Ljava/lang/Object;" } : Jvm.MethodName) jdk_38_method_16_code (1 : Nat) (Option.some (Jvm.ClassFile.FieldType.array (Jvm.ClassFile.FieldType.object "java/lang/Object")))).before args0 about1 = true := code_word (m := ⟨23, 4⟩) (meth := k23m4) (c := k23c4) (by decide +kernel) rfl rfl rfl (by decide +kernel)
set_option maxRecDepth 65536 in
theorem w_c26 : (Jvm.Cond.code ({ cls := "java/util/Arrays", name := "copyOf", desc := "([Ljava/lang/Object;I)[Ljava/lang/Object;" } : Jvm.MethodName) jdk_65_method_119_code (2 : Nat) (Option.some (Jvm.ClassFile.FieldType.array (Jvm.ClassFile.FieldType.object "java/lang/Object")))).before args0 about1 = true := code_word (m := ⟨31, 1⟩) (meth := k31m1) (c := k31c1) (by decide +kernel) rfl rfl rfl (by decide +kernel)
set_option maxRecDepth 65536 in
theorem w_c27 : (Jvm.Cond.code ({ cls := "java/util/Arrays", name := "copyOf", desc := "([Ljava/lang/Object;ILjava/lang/Class;)[Ljava/lang/Object;" } : Jvm.MethodName) jdk_65_method_120_code (4 : Nat) (Option.some (Jvm.ClassFile.FieldType.array (Jvm.ClassFile.FieldType.object "java/lang/Object")))).before args0 about1 = true := code_word (m := ⟨31, 2⟩) (meth := k31m2) (c := k31c2) (by decide +kernel) rfl rfl rfl (by decide +kernel)
set_option maxRecDepth 65536 in
theorem w_c28 : (Jvm.Cond.code ({ cls := "java/lang/Math", name := "min", desc := "(II)I" } : Jvm.MethodName) jdk_29_method_69_code (2 : Nat) (Option.some Jvm.ClassFile.FieldType.int)).before args0 about1 = true := code_word (m := ⟨24, 2⟩) (meth := k24m2) (c := k24c2) (by decide +kernel) rfl rfl rfl (by decide +kernel)
set_option maxRecDepth 65536 in
theorem w_c29 : (Jvm.Cond.code ({ cls := "java/util/List", name := "of", desc := "([Ljava/lang/Object;)Ljava/util/List;" } : Jvm.MethodName) jdk_40_method_47_code (2 : Nat) (Option.some (Jvm.ClassFile.FieldType.object "java/util/List"))).before args0 about1 = true := code_word (m := ⟨19, 2⟩) (meth := k19m2) (c := k19c2) (by decide +kernel) rfl rfl rfl (by decide +kernel)
set_option maxRecDepth 65536 in
theorem w_c30 : (Jvm.Cond.code ({ cls := "java/util/ImmutableCollections", name := "listFromArray", desc := "([Ljava/lang/Object;)Ljava/util/List;" } : Jvm.MethodName) jdk_56_method_4_code (3 : Nat) (Option.some (Jvm.ClassFile.FieldType.object "java/util/List"))).before args0 about1 = true := code_word (m := ⟨26, 2⟩) (meth := k26m2) (c := k26c2) (by decide +kernel) rfl rfl rfl (by decide +kernel)
set_option maxRecDepth 65536 in
theorem w_c31 : (Jvm.Cond.code ({ cls := "java/util/Objects", name := "requireNonNull", desc := "(Ljava/lang/Object;)Ljava/lang/Object;" } : Jvm.MethodName) jdk_31_method_10_code (1 : Nat) (Option.some (Jvm.ClassFile.FieldType.object "java/lang/Object"))).before args0 about1 = true := code_word (m := ⟨33, 1⟩) (meth := k33m1) (c := k33c1) (by decide +kernel) rfl rfl rfl (by decide +kernel)
set_option maxRecDepth 65536 in
theorem w_c32 : (Jvm.Cond.code ({ cls := "java/util/ImmutableCollections$ListN", name := "<init>", desc := "([Ljava/lang/Object;Z)V" } : Jvm.MethodName) jdk_45_method_1_code (3 : Nat) (Option.none : Option Jvm.ClassFile.FieldType)).before args0 about1 = true := code_word (m := ⟨30, 0⟩) (meth := k30m0) (c := k30c0) (by decide +kernel) rfl rfl rfl (by decide +kernel)
set_option maxRecDepth 65536 in
theorem w_c33 : (Jvm.Cond.code ({ cls := "java/util/ImmutableCollections$AbstractImmutableList", name := "<init>", desc := "()V" } : Jvm.MethodName) jdk_46_method_1_code (1 : Nat) (Option.none : Option Jvm.ClassFile.FieldType)).before args0 about1 = true := code_word (m := ⟨28, 0⟩) (meth := k28m0) (c := k28c0) (by decide +kernel) rfl rfl rfl (by decide +kernel)
set_option maxRecDepth 65536 in
theorem w_c34 : (Jvm.Cond.code ({ cls := "java/util/ImmutableCollections$AbstractImmutableCollection", name := "<init>", desc := "()V" } : Jvm.MethodName) jdk_47_method_1_code (1 : Nat) (Option.none : Option Jvm.ClassFile.FieldType)).before args0 about1 = true := code_word (m := ⟨27, 0⟩) (meth := k27m0) (c := k27c0) (by decide +kernel) rfl rfl rfl (by decide +kernel)
set_option maxRecDepth 65536 in
theorem w_c35 : (Jvm.Cond.code ({ cls := "com/example/pledgebook/pledgebook/model/Ledger", name := "lastMonth", desc := "()Ljava/time/YearMonth;" } : Jvm.MethodName) prog_48_method_3_code (1 : Nat) (Option.some (Jvm.ClassFile.FieldType.object "java/time/YearMonth"))).before args0 about1 = true := code_word (m := ⟨25, 1⟩) (meth := k25m1) (c := k25c1) (by decide +kernel) rfl rfl rfl (by decide +kernel)
set_option maxRecDepth 65536 in
theorem w_c36 : (Jvm.Cond.code ({ cls := "java/util/ImmutableCollections$ListN", name := "size", desc := "()I" } : Jvm.MethodName) jdk_45_method_3_code (1 : Nat) (Option.some Jvm.ClassFile.FieldType.int)).before args0 about1 = true := code_word (m := ⟨30, 1⟩) (meth := k30m1) (c := k30c1) (by decide +kernel) rfl rfl rfl (by decide +kernel)
set_option maxRecDepth 65536 in
theorem w_c37 : (Jvm.Cond.code ({ cls := "java/util/ImmutableCollections$ListN", name := "get", desc := "(I)Ljava/lang/Object;" } : Jvm.MethodName) jdk_45_method_4_code (2 : Nat) (Option.some (Jvm.ClassFile.FieldType.object "java/lang/Object"))).before args0 about1 = true := code_word (m := ⟨30, 2⟩) (meth := k30m2) (c := k30c2) (by decide +kernel) rfl rfl rfl (by decide +kernel)
set_option maxRecDepth 65536 in
theorem w_c38 : (Jvm.Cond.code ({ cls := "com/example/pledgebook/pledgebook/model/LedgerMonth", name := "month", desc := "()Ljava/time/YearMonth;" } : Jvm.MethodName) prog_50_method_6_code (1 : Nat) (Option.some (Jvm.ClassFile.FieldType.object "java/time/YearMonth"))).before args0 about1 = true := code_word (m := ⟨14, 1⟩) (meth := k14m1) (c := k14c1) (by decide +kernel) rfl rfl rfl (by decide +kernel)
set_option maxRecDepth 65536 in
theorem w_c39 : (Jvm.Cond.code ({ cls := "java/util/ImmutableCollections$List12", name := "<init>", desc := "(Ljava/lang/Object;Ljava/lang/Object;)V" } : Jvm.MethodName) jdk_44_method_2_code (3 : Nat) (Option.none : Option Jvm.ClassFile.FieldType)).before args0 about1 = true := code_word (m := ⟨29, 1⟩) (meth := k29m1) (c := k29c1) (by decide +kernel) rfl rfl rfl (by decide +kernel)
set_option maxRecDepth 65536 in
theorem w_c40 : (Jvm.Cond.code ({ cls := "java/util/ImmutableCollections$List12", name := "size", desc := "()I" } : Jvm.MethodName) jdk_44_method_3_code (1 : Nat) (Option.some Jvm.ClassFile.FieldType.int)).before args0 about1 = true := code_word (m := ⟨29, 2⟩) (meth := k29m2) (c := k29c2) (by decide +kernel) rfl rfl rfl (by decide +kernel)
set_option maxRecDepth 65536 in
theorem w_c41 : (Jvm.Cond.code ({ cls := "java/util/ImmutableCollections$List12", name := "get", desc := "(I)Ljava/lang/Object;" } : Jvm.MethodName) jdk_44_method_5_code (2 : Nat) (Option.some (Jvm.ClassFile.FieldType.object "java/lang/Object"))).before args0 about1 = true := code_word (m := ⟨29, 3⟩) (meth := k29m3) (c := k29c3) (by decide +kernel) rfl rfl rfl (by decide +kernel)
set_option maxRecDepth 65536 in
theorem w_c42 : (Jvm.Cond.code ({ cls := "java/util/ImmutableCollections$List12", name := "<init>", desc := "(Ljava/lang/Object;)V" } : Jvm.MethodName) jdk_44_method_1_code (2 : Nat) (Option.none : Option Jvm.ClassFile.FieldType)).before args0 about1 = true := code_word (m := ⟨29, 0⟩) (meth := k29m0) (c := k29c0) (by decide +kernel) rfl rfl rfl (by decide +kernel)
def codes1 : List Jvm.Cond := [Jvm.Cond.code x code maxLocals ret, Jvm.Cond.code ({ cls := "com/example/pledgebook/pledgebook/model/LedgerLastMonthPinLaw", name := "ym", desc := "(I)Ljava/time/YearMonth;" } : Jvm.MethodName) method_3_code (1 : Nat) (Option.some (Jvm.ClassFile.FieldType.object "java/time/YearMonth")), Jvm.Cond.code ({ cls := "java/time/YearMonth", name := "of", desc := "(II)Ljava/time/YearMonth;" } : Jvm.MethodName) jdk_2340_method_5_code (2 : Nat) (Option.some (Jvm.ClassFile.FieldType.object "java/time/YearMonth")), Jvm.Cond.code ({ cls := "java/time/temporal/ChronoField", name := "checkValidValue", desc := "(J)J" } : Jvm.MethodName) jdk_2395_method_11_code (3 : Nat) (Option.some Jvm.ClassFile.FieldType.long), Jvm.Cond.code ({ cls := "java/time/temporal/ChronoField", name := "range", desc := "()Ljava/time/temporal/ValueRange;" } : Jvm.MethodName) jdk_2395_method_8_code (1 : Nat) (Option.some (Jvm.ClassFile.FieldType.object "java/time/temporal/ValueRange")), Jvm.Cond.code ({ cls := "java/time/temporal/ValueRange", name := "checkValidValue", desc := "(JLjava/time/temporal/TemporalField;)J" } : Jvm.MethodName) jdk_2423_method_13_code (4 : Nat) (Option.some Jvm.ClassFile.FieldType.long), Jvm.Cond.code ({ cls := "java/time/temporal/ValueRange", name := "isValidValue", desc := "(J)Z" } : Jvm.MethodName) jdk_2423_method_11_code (3 : Nat) (Option.some Jvm.ClassFile.FieldType.boolean), Jvm.Cond.code ({ cls := "java/time/temporal/ValueRange", name := "getMinimum", desc := "()J" } : Jvm.MethodName) jdk_2423_method_6_code (1 : Nat) (Option.some Jvm.ClassFile.FieldType.long), Jvm.Cond.code ({ cls := "java/time/temporal/ValueRange", name := "getMaximum", desc := "()J" } : Jvm.MethodName) jdk_2423_method_9_code (1 : Nat) (Option.some Jvm.ClassFile.FieldType.long), Jvm.Cond.code ({ cls := "java/time/YearMonth", name := "<init>", desc := "(II)V" } : Jvm.MethodName) jdk_2340_method_9_code (3 : Nat) (Option.none : Option Jvm.ClassFile.FieldType), Jvm.Cond.code ({ cls := "java/lang/Object", name := "<init>", desc := "()V" } : Jvm.MethodName) object_method_1_code (1 : Nat) (Option.none : Option Jvm.ClassFile.FieldType), Jvm.Cond.code ({ cls := "com/example/pledgebook/pledgebook/model/LedgerMonth", name := "<init>", desc := "(Ljava/time/YearMonth;Ljava/math/BigDecimal;Ljava/math/BigDecimal;)V" } : Jvm.MethodName) prog_50_method_1_code (4 : Nat) (Option.none : Option Jvm.ClassFile.FieldType), Jvm.Cond.code ({ cls := "java/lang/Record", name := "<init>", desc := "()V" } : Jvm.MethodName) jdk_30_method_1_code (1 : Nat) (Option.none : Option Jvm.ClassFile.FieldType), Jvm.Cond.code ({ cls := "java/util/ArrayList", name := "<init>", desc := "()V" } : Jvm.MethodName) jdk_38_method_2_code (1 : Nat) (Option.none : Option Jvm.ClassFile.FieldType), Jvm.Cond.code ({ cls := "java/util/AbstractList", name := "<init>", desc := "()V" } : Jvm.MethodName) jdk_39_method_1_code (1 : Nat) (Option.none : Option Jvm.ClassFile.FieldType), Jvm.Cond.code ({ cls := "java/util/AbstractCollection", name := "<init>", desc := "()V" } : Jvm.MethodName) jdk_22_method_1_code (1 : Nat) (Option.none : Option Jvm.ClassFile.FieldType), Jvm.Cond.code ({ cls := "java/util/ArrayList", name := "add", desc := "(Ljava/lang/Object;)Z" } : Jvm.MethodName) jdk_38_method_25_code (2 : Nat) (Option.some Jvm.ClassFile.FieldType.boolean), Jvm.Cond.code ({ cls := "java/util/ArrayList", name := "add", desc := "(Ljava/lang/Object;[Ljava/lang/Object;I)V" } : Jvm.MethodName) jdk_38_method_24_code (4 : Nat) (Option.none : Option Jvm.ClassFile.FieldType), Jvm.Cond.code ({ cls := "java/util/ArrayList", name := "grow", desc := "()[Ljava/lang/Object;" } : Jvm.MethodName) jdk_38_method_7_code (1 : Nat) (Option.some (Jvm.ClassFile.FieldType.array (Jvm.ClassFile.FieldType.object "java/lang/Object"))), Jvm.Cond.code ({ cls := "java/util/ArrayList", name := "grow", desc := "(I)[Ljava/lang/Object;" } : Jvm.MethodName) jdk_38_method_6_code (4 : Nat) (Option.some (Jvm.ClassFile.FieldType.array (Jvm.ClassFile.FieldType.object "java/lang/Object"))), Jvm.Cond.code ({ cls := "java/lang/Math", name := "max", desc := "(II)I" } : Jvm.MethodName) jdk_29_method_65_code (2 : Nat) (Option.some Jvm.ClassFile.FieldType.int), Jvm.Cond.code ({ cls := "com/example/pledgebook/pledgebook/model/Ledger", name := "<init>", desc := "(Ljava/util/List;)V" } : Jvm.MethodName) prog_48_method_1_code (2 : Nat) (Option.none : Option Jvm.ClassFile.FieldType), Jvm.Cond.code ({ cls := "java/util/List", name := "copyOf", desc := "(Ljava/util/Collection;)Ljava/util/List;" } : Jvm.MethodName) jdk_40_method_48_code (1 : Nat) (Option.some (Jvm.ClassFile.FieldType.object "java/util/List")), Jvm.Cond.code ({ cls := "java/util/ImmutableCollections", name := "listCopy", desc := "(Ljava/util/Collection;)Ljava/util/List;" } : Jvm.MethodName) jdk_56_method_3_code (2 : Nat) (Option.some (Jvm.ClassFile.FieldType.object "java/util/List")), Jvm.Cond.code ({ cls := "java/util/ArrayList", name := "isEmpty", desc := "()Z" } : Jvm.MethodName) jdk_38_method_9_code (1 : Nat) (Option.some Jvm.ClassFile.FieldType.boolean), Jvm.Cond.code ({ cls := "java/util/ArrayList", name := "toArray", desc := "()[Ljava/lang/Object;" } : Jvm.MethodName) jdk_38_method_16_code (1 : Nat) (Option.some (Jvm.ClassFile.FieldType.array (Jvm.ClassFile.FieldType.object "java/lang/Object"))), Jvm.Cond.code ({ cls := "java/util/Arrays", name := "copyOf", desc := "([Ljava/lang/Object;I)[Ljava/lang/Object;" } : Jvm.MethodName) jdk_65_method_119_code (2 : Nat) (Option.some (Jvm.ClassFile.FieldType.array (Jvm.ClassFile.FieldType.object "java/lang/Object"))), Jvm.Cond.code ({ cls := "java/util/Arrays", name := "copyOf", desc := "([Ljava/lang/Object;ILjava/lang/Class;)[Ljava/lang/Object;" } : Jvm.MethodName) jdk_65_method_120_code (4 : Nat) (Option.some (Jvm.ClassFile.FieldType.array (Jvm.ClassFile.FieldType.object "java/lang/Object"))), Jvm.Cond.code ({ cls := "java/lang/Math", name := "min", desc := "(II)I" } : Jvm.MethodName) jdk_29_method_69_code (2 : Nat) (Option.some Jvm.ClassFile.FieldType.int), Jvm.Cond.code ({ cls := "java/util/List", name := "of", desc := "([Ljava/lang/Object;)Ljava/util/List;" } : Jvm.MethodName) jdk_40_method_47_code (2 : Nat) (Option.some (Jvm.ClassFile.FieldType.object "java/util/List")), Jvm.Cond.code ({ cls := "java/util/ImmutableCollections", name := "listFromArray", desc := "([Ljava/lang/Object;)Ljava/util/List;" } : Jvm.MethodName) jdk_56_method_4_code (3 : Nat) (Option.some (Jvm.ClassFile.FieldType.object "java/util/List")), Jvm.Cond.code ({ cls := "java/util/Objects", name := "requireNonNull", desc := "(Ljava/lang/Object;)Ljava/lang/Object;" } : Jvm.MethodName) jdk_31_method_10_code (1 : Nat) (Option.some (Jvm.ClassFile.FieldType.object "java/lang/Object")), Jvm.Cond.code ({ cls := "java/util/ImmutableCollections$ListN", name := "<init>", desc := "([Ljava/lang/Object;Z)V" } : Jvm.MethodName) jdk_45_method_1_code (3 : Nat) (Option.none : Option Jvm.ClassFile.FieldType), Jvm.Cond.code ({ cls := "java/util/ImmutableCollections$AbstractImmutableList", name := "<init>", desc := "()V" } : Jvm.MethodName) jdk_46_method_1_code (1 : Nat) (Option.none : Option Jvm.ClassFile.FieldType), Jvm.Cond.code ({ cls := "java/util/ImmutableCollections$AbstractImmutableCollection", name := "<init>", desc := "()V" } : Jvm.MethodName) jdk_47_method_1_code (1 : Nat) (Option.none : Option Jvm.ClassFile.FieldType), Jvm.Cond.code ({ cls := "com/example/pledgebook/pledgebook/model/Ledger", name := "lastMonth", desc := "()Ljava/time/YearMonth;" } : Jvm.MethodName) prog_48_method_3_code (1 : Nat) (Option.some (Jvm.ClassFile.FieldType.object "java/time/YearMonth")), Jvm.Cond.code ({ cls := "java/util/ImmutableCollections$ListN", name := "size", desc := "()I" } : Jvm.MethodName) jdk_45_method_3_code (1 : Nat) (Option.some Jvm.ClassFile.FieldType.int), Jvm.Cond.code ({ cls := "java/util/ImmutableCollections$ListN", name := "get", desc := "(I)Ljava/lang/Object;" } : Jvm.MethodName) jdk_45_method_4_code (2 : Nat) (Option.some (Jvm.ClassFile.FieldType.object "java/lang/Object")), Jvm.Cond.code ({ cls := "com/example/pledgebook/pledgebook/model/LedgerMonth", name := "month", desc := "()Ljava/time/YearMonth;" } : Jvm.MethodName) prog_50_method_6_code (1 : Nat) (Option.some (Jvm.ClassFile.FieldType.object "java/time/YearMonth")), Jvm.Cond.code ({ cls := "java/util/ImmutableCollections$List12", name := "<init>", desc := "(Ljava/lang/Object;Ljava/lang/Object;)V" } : Jvm.MethodName) jdk_44_method_2_code (3 : Nat) (Option.none : Option Jvm.ClassFile.FieldType), Jvm.Cond.code ({ cls := "java/util/ImmutableCollections$List12", name := "size", desc := "()I" } : Jvm.MethodName) jdk_44_method_3_code (1 : Nat) (Option.some Jvm.ClassFile.FieldType.int), Jvm.Cond.code ({ cls := "java/util/ImmutableCollections$List12", name := "get", desc := "(I)Ljava/lang/Object;" } : Jvm.MethodName) jdk_44_method_5_code (2 : Nat) (Option.some (Jvm.ClassFile.FieldType.object "java/lang/Object")), Jvm.Cond.code ({ cls := "java/util/ImmutableCollections$List12", name := "<init>", desc := "(Ljava/lang/Object;)V" } : Jvm.MethodName) jdk_44_method_1_code (2 : Nat) (Option.none : Option Jvm.ClassFile.FieldType)]
set_option maxRecDepth 65536 in
theorem codes_eq : words1.filter isCode = codes1 := rfl
theorem w_codes : ∀ c ∈ words1.filter isCode, c.before args0 about1 = true := by
  rw [codes_eq]
  intro c hc
  simp only [codes1, List.mem_cons, List.not_mem_nil, or_false] at hc
  rcases hc with rfl | rfl | rfl | rfl | rfl | rfl | rfl | rfl | rfl | rfl | rfl | rfl | rfl | rfl | rfl | rfl | rfl | rfl | rfl | rfl | rfl | rfl | rfl | rfl | rfl | rfl | rfl | rfl | rfl | rfl | rfl | rfl | rfl | rfl | rfl | rfl | rfl | rfl | rfl | rfl | rfl | rfl | rfl
  · exact w_c0
  · exact w_c1
  · exact w_c2
  · exact w_c3
  · exact w_c4
  · exact w_c5
  · exact w_c6
  · exact w_c7
  · exact w_c8
  · exact w_c9
  · exact w_c10
  · exact w_c11
  · exact w_c12
  · exact w_c13
  · exact w_c14
  · exact w_c15
  · exact w_c16
  · exact w_c17
  · exact w_c18
  · exact w_c19
  · exact w_c20
  · exact w_c21
  · exact w_c22
  · exact w_c23
  · exact w_c24
  · exact w_c25
  · exact w_c26
  · exact w_c27
  · exact w_c28
  · exact w_c29
  · exact w_c30
  · exact w_c31
  · exact w_c32
  · exact w_c33
  · exact w_c34
  · exact w_c35
  · exact w_c36
  · exact w_c37
  · exact w_c38
  · exact w_c39
  · exact w_c40
  · exact w_c41
  · exact w_c42
set_option maxRecDepth 65536 in
theorem w_t1 : (words1.take 24).all (fun c => isCode c || c.before args0 about1) = true := by decide +kernel
set_option maxRecDepth 65536 in
theorem w_t2 : ((words1.drop 24).take 24).all (fun c => isCode c || c.before args0 about1) = true := by decide +kernel
set_option maxRecDepth 65536 in
theorem w_t3 : (((words1.drop 24).drop 24).take 24).all (fun c => isCode c || c.before args0 about1) = true := by decide +kernel
set_option maxRecDepth 65536 in
theorem w_t4 : ((((words1.drop 24).drop 24).drop 24).take 24).all (fun c => isCode c || c.before args0 about1) = true := by decide +kernel
set_option maxRecDepth 65536 in
theorem w_t5 : (((((words1.drop 24).drop 24).drop 24).drop 24).take 24).all (fun c => isCode c || c.before args0 about1) = true := by decide +kernel
set_option maxRecDepth 65536 in
theorem w_t6 : ((((((words1.drop 24).drop 24).drop 24).drop 24).drop 24).take 24).all (fun c => isCode c || c.before args0 about1) = true := by decide +kernel
set_option maxRecDepth 65536 in
theorem w_t7 : (((((((words1.drop 24).drop 24).drop 24).drop 24).drop 24).drop 24).take 24).all (fun c => isCode c || c.before args0 about1) = true := by decide +kernel
set_option maxRecDepth 65536 in
theorem w_t8 : ((((((((words1.drop 24).drop 24).drop 24).drop 24).drop 24).drop 24).drop 24).take 24).all (fun c => isCode c || c.before args0 about1) = true := by decide +kernel
set_option maxRecDepth 65536 in
theorem w_t9 : (((((((((words1.drop 24).drop 24).drop 24).drop 24).drop 24).drop 24).drop 24).drop 24).take 24).all (fun c => isCode c || c.before args0 about1) = true := by decide +kernel
set_option maxRecDepth 65536 in
theorem w_t10 : ((((((((((words1.drop 24).drop 24).drop 24).drop 24).drop 24).drop 24).drop 24).drop 24).drop 24).take 24).all (fun c => isCode c || c.before args0 about1) = true := by decide +kernel
set_option maxRecDepth 65536 in
theorem w_t11 : (((((((((((words1.drop 24).drop 24).drop 24).drop 24).drop 24).drop 24).drop 24).drop 24).drop 24).drop 24).take 24).all (fun c => isCode c || c.before args0 about1) = true := by decide +kernel
set_option maxRecDepth 65536 in
theorem w_t12 : ((((((((((((words1.drop 24).drop 24).drop 24).drop 24).drop 24).drop 24).drop 24).drop 24).drop 24).drop 24).drop 24).take 24).all (fun c => isCode c || c.before args0 about1) = true := by decide +kernel
set_option maxRecDepth 65536 in
theorem w_t13 : ((((((((((((words1.drop 24).drop 24).drop 24).drop 24).drop 24).drop 24).drop 24).drop 24).drop 24).drop 24).drop 24).drop 24).all (fun c => isCode c || c.before args0 about1) = true := by decide +kernel
theorem w_tables : (allAtoms (Jvm.Cond.code x code maxLocals ret :: tables_1)).before args0 about1 = true := by
  rw [allAtoms_all]
  show words1.all (fun c => c.before args0 about1) = true
  refine all_split ?_ w_codes
  rw [← List.take_append_drop 24 words1, List.all_append, w_t1, ← List.take_append_drop 24 (words1.drop 24), List.all_append, w_t2, ← List.take_append_drop 24 ((words1.drop 24).drop 24), List.all_append, w_t3, ← List.take_append_drop 24 (((words1.drop 24).drop 24).drop 24), List.all_append, w_t4, ← List.take_append_drop 24 ((((words1.drop 24).drop 24).drop 24).drop 24), List.all_append, w_t5, ← List.take_append_drop 24 (((((words1.drop 24).drop 24).drop 24).drop 24).drop 24), List.all_append, w_t6, ← List.take_append_drop 24 ((((((words1.drop 24).drop 24).drop 24).drop 24).drop 24).drop 24), List.all_append, w_t7, ← List.take_append_drop 24 (((((((words1.drop 24).drop 24).drop 24).drop 24).drop 24).drop 24).drop 24), List.all_append, w_t8, ← List.take_append_drop 24 ((((((((words1.drop 24).drop 24).drop 24).drop 24).drop 24).drop 24).drop 24).drop 24), List.all_append, w_t9, ← List.take_append_drop 24 (((((((((words1.drop 24).drop 24).drop 24).drop 24).drop 24).drop 24).drop 24).drop 24).drop 24), List.all_append, w_t10, ← List.take_append_drop 24 ((((((((((words1.drop 24).drop 24).drop 24).drop 24).drop 24).drop 24).drop 24).drop 24).drop 24).drop 24), List.all_append, w_t11, ← List.take_append_drop 24 (((((((((((words1.drop 24).drop 24).drop 24).drop 24).drop 24).drop 24).drop 24).drop 24).drop 24).drop 24).drop 24), List.all_append, w_t12, w_t13]
  rfl
set_option maxRecDepth 65536 in
theorem w_rest : rest_1_c.before args0 about1 = true := by decide +kernel
set_option maxRecDepth 65536 in
theorem w_case : (Jvm.Cond.and given_1 narrow_1).before args0 about1 = true := by decide +kernel
theorem w_applies : (headSpec (Jvm.Cond.code x code maxLocals ret :: tables_1) room_1).applies x e0.platform about1 = true :=
  (Spec.applies_iff w_frames).mpr ⟨w_running, w_runnable, w_alone, w_named, w_hears, w_ripe, w_room, w_tables⟩
theorem atStart : AtStart classFile x code maxLocals ret World_1 tables_1 room_1 Calls_1 rest_1 Pre_1 launch0 p0 e0 about1 theMethod args0 below0 :=
  ⟨lists_1, trivial, launch0.admits_env _ _ _, launch0.least_env, fairChoices_fair.cas, fairChoices_fair.clock, w_frames, w_args, w_heap, w_applies, ⟨⟨41, k41, 4, by decide +kernel, rfl, rfl, _, rfl, rfl⟩, trivial⟩, w_rest, w_case⟩
end start1
theorem witness_1 : WitnessClaimed_1 := ⟨start1.p0, start1.e0, start1.about1, start1.theMethod, start1.args0, start1.below0, start1.atStart⟩
end Jvm.Pilot.@@N@@
