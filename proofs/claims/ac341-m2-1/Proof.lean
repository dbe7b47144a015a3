import JvmDerived
import JvmDerived.Pilot.@@N@@Statement
import JvmDerived.Pilot.@@N@@Code
set_option linter.unusedVariables false
set_option linter.unusedSimpArgs false
namespace Jvm.Pilot.@@N@@
open Jvm Jvm.ClassFile Sem Op Lib Jvm.Free Jvm.Stand Jvm.LawKit Jvm.RoadKit Bundle Jvm.Pilot.@@N@@.Jvm.D
set_option maxRecDepth 65536
set_option maxHeartbeats 40000000
abbrev kK : String := "com/example/centile/centile/function/Keys"
abbrev kS : String := "com/example/centile/centile/function/Selection"
abbrev kO : String := "com/example/centile/centile/function/Order"
abbrev kW : String := "com/example/centile/centile/function/KeysAddAllPinLaw"
abbrev kB : String := "java/util/BitSet"
abbrev kD : String := "java/util/DualPivotQuicksort"
abbrev kSd : String := "Lcom/example/centile/centile/function/Selection;"
abbrev kOd : String := "Lcom/example/centile/centile/function/Order;"
abbrev OHw (Z : State) (a0 : Array Value) : Prop := ∀ d ∈ tables_1, d.before a0 Z = true
section OwnLayer
variable {p : Program} {l : Launch} {e : Env} {R : Room} {s : State} {m : MethodId} {args : Array Value} {below : List Frame} {meth : Method} {c : Code} {T T' : State} {cells slots cells' slots' : Nat} {Z : State} {a0 : Array Value} {EL : List (String × Nat)} {n0 : Nat} {W0 : List Addr} {own : String} {h h' : Heap} {Ow Ow' : List Addr} {Pq : Outcome → State → Prop} {pc pc' : Nat} {L L' : Array Slot} {S S' : List Value}
def OG (p : Program) (e : Env) (below : List Frame) (m : MethodId) (Pq : Outcome → State → Prop) (T : State) (pc : Nat) (L : Array Slot) (S : List Value) : Prop :=
  ∃ t o, Steps p.tables e below (T.setTop (mkF m pc L S)) t ∧ t.status = .running ∧ Ended t below o ∧ Pq o t
theorem OG.st (st : ∀ t, Steps p.tables e below (T'.setTop (mkF m pc' L' S')) t → Steps p.tables e below (T.setTop (mkF m pc L S)) t) (k : OG p e below m Pq T' pc' L' S') : OG p e below m Pq T pc L S := by
  obtain ⟨t, o, h1, r⟩ := k
  exact ⟨t, o, st t h1, r⟩
def OOwn (Z : State) (EL : List (String × Nat)) (n0 : Nat) (W0 : List Addr) (hs : Nat) (vm : Vm) (h : Heap) (x : Addr) : Prop := n0 ≤ x ∧ x < h.size ∧ Safe Z EL vm h x ∧ (x ∈ W0 ∨ hs ≤ x)
def OSn (EL : List (String × Nat)) (s : State) (vm : Vm) (n : Nat) : Prop := s.Since vm n ∧ (EL = [] → s.WarmedH vm)
theorem OSn.of {vm : Vm} (q : s.WarmedH vm) (n : Nat) : OSn EL s vm n := ⟨q.since n, fun _ => q⟩
theorem OSn.trans {vm₁ vm₂ : Vm} {n₁ n₂ : Nat} (h₁ : OSn EL s vm₁ n₁) (h₂ : OSn EL (s.setVm vm₁) vm₂ n₂) (hn : n₁ ≤ n₂) : OSn EL s vm₂ n₂ := ⟨h₁.1.trans h₂.1 hn, fun e => State.WarmedH.trans (t := s.setVm vm₁) (h₁.2 e) (h₂.2 e)⟩
def OPn (p : Program) (l : Launch) (e : Env) (R : Room) (s : State) (m : MethodId) (args : Array Value) (below : List Frame) (meth : Method) (c : Code) (Z : State) (a0 : Array Value) (EL : List (String × Nat)) (n0 : Nat) (W0 : List Addr) (own : String) (T : State) (h : Heap) (Ow : List Addr) (cells slots : Nat) : Prop :=
  ∃ locs : List Loc, Stand p l e R (s.setVm T.vm) m args below meth c T locs cells slots ∧ p.tables.exec = Jvm.exec ∧ meth.locks = false ∧ OSn EL s T.vm h.size ∧ Z.Warmed39 T.vm ∧ T.vm.findClass own = some m.cls ∧ T.heap = h ∧ Fr n0 locs ∧ EW Z a0 EL ∧ CHr Z EL s.vm s.heap T.vm h ∧ Old Z n0 h ∧ Keep s.heap h W0 ∧ ∀ x ∈ Ow, OOwn Z EL n0 W0 s.heap.size T.vm h x
theorem OPn.here (P : OPn p l e R s m args below meth c Z a0 EL n0 W0 own T h Ow cells slots) : At T m c below := by obtain ⟨_, X, -⟩ := P; exact X.here
theorem OPn.ex (P : OPn p l e R s m args below meth c Z a0 EL n0 W0 own T h Ow cells slots) : p.tables.exec = Jvm.exec := by obtain ⟨_, _, hx, -⟩ := P; exact hx
theorem OPn.old (P : OPn p l e R s m args below meth c Z a0 EL n0 W0 own T h Ow cells slots) : Old Z n0 h := by obtain ⟨_, _, _, _, _, _, _, _, _, _, _, O, -⟩ := P; exact O
theorem OPn.keep0 (P : OPn p l e R s m args below meth c Z a0 EL n0 W0 own T h Ow cells slots) : Keep s.heap h W0 := by obtain ⟨_, _, _, _, _, _, _, _, _, _, _, _, K, -⟩ := P; exact K
theorem OPn.warm (P : OPn p l e R s m args below meth c Z a0 EL n0 W0 own T h Ow cells slots) : Z.Warmed39 T.vm := by obtain ⟨_, _, _, _, _, hZ, -⟩ := P; exact hZ
theorem OPn.n0le (P : OPn p l e R s m args below meth c Z a0 EL n0 W0 own T h Ow cells slots) : n0 ≤ h.size := by have O := P.old; rw [← O.1]; exact O.2.1
theorem OPn.mono (P : OPn p l e R s m args below meth c Z a0 EL n0 W0 own T h Ow cells slots) (hc : cells ≤ cells') (hs : slots ≤ slots') : OPn p l e R s m args below meth c Z a0 EL n0 W0 own T h Ow cells' slots' := by
  obtain ⟨locs, X, r⟩ := P
  exact ⟨locs, X.mono hc hs, r⟩
theorem OPn.less (P : OPn p l e R s m args below meth c Z a0 EL n0 W0 own T h Ow cells slots) (q : ∀ x ∈ Ow', x ∈ Ow) : OPn p l e R s m args below meth c Z a0 EL n0 W0 own T h Ow' cells slots := by
  obtain ⟨locs, X, h1, h2, h3, h4, h5, h6, h7, h8, h9, h10, h11, W⟩ := P
  exact ⟨locs, X, h1, h2, h3, h4, h5, h6, h7, h8, h9, h10, h11, fun x hx => W x (q x hx)⟩
theorem OPn.more (P : OPn p l e R s m args below meth c Z a0 EL n0 W0 own T h Ow cells slots) {x : Addr} (q : n0 ≤ x ∧ x < h.size ∧ Safe Z EL T.vm h x) (r : s.heap.size ≤ x) : OPn p l e R s m args below meth c Z a0 EL n0 W0 own T h (x :: Ow) cells slots := by
  obtain ⟨locs, X, h1, h2, h3, h4, h5, h6, h7, h8, h9, h10, h11, W⟩ := P
  exact ⟨locs, X, h1, h2, h3, h4, h5, h6, h7, h8, h9, h10, h11, fun y hy => (List.mem_cons.mp hy).elim (fun u => u ▸ ⟨q.1, q.2.1, q.2.2, Or.inr r⟩) (W y)⟩
theorem OPn.fin {locs' : List Loc} (hx : p.tables.exec = Jvm.exec) (hlk : meth.locks = false) (hS : OSn EL s T.vm h.size) (hZ : Z.Warmed39 T.vm) (hown : T.vm.findClass own = some m.cls) (hEL : EW Z a0 EL) (X' : Stand p l e R (s.setVm T.vm) m args below meth c T' locs' cells' slots') (eT' : T'.heap = h') (hle : h.size ≤ h'.size) (N' : Fr n0 locs') (C' : CHr Z EL s.vm s.heap T.vm h') (O' : Old Z n0 h') (K' : Keep s.heap h' W0) (W' : ∀ x ∈ Ow', OOwn Z EL n0 W0 s.heap.size T.vm h' x) :
    OPn p l e R s m args below meth c Z a0 EL n0 W0 own T' h' Ow' cells' slots' := by
  have A : CHr Z EL T.vm h' T'.vm h' := CHv.at X' hZ hEL C'.1
  refine ⟨locs', X'.retabled X'.warmed.wide, hx, hlk, hS.trans (OSn.of X'.warmed _) hle, State.Warmed39.trans (t := s.setVm T.vm) hZ X'.warmed.wide, ?_, eT', N', hEL, C'.trans A, O', K', fun x hx => ?_⟩
  · exact (X'.warmed.alike.findClass own _).trans hown
  · obtain ⟨q1, q2, q3, q4⟩ := W' x hx
    exact ⟨q1, q2, A.safe q2 q3, q4⟩
theorem OPn.tab (P : OPn p l e R s m args below meth c Z a0 EL n0 W0 own T h Ow cells slots) (f : ∀ locs, Stand p l e R (s.setVm T.vm) m args below meth c T locs cells slots → Z.Warmed39 (s.setVm T.vm).vm → (s.setVm T.vm).vm.findClass own = some m.cls → T.heap = h → p.tables.exec = Jvm.exec → ∃ T', Stand p l e R (s.setVm T.vm) m args below meth c T' locs cells slots ∧ T'.heap = h ∧ ∀ target, Steps p.tables e below (T'.setTop (mkF m pc' L' S')) target → Steps p.tables e below (T.setTop (mkF m pc L S)) target)
    (k : ∀ T', OPn p l e R s m args below meth c Z a0 EL n0 W0 own T' h Ow cells slots → OG p e below m Pq T' pc' L' S') : OG p e below m Pq T pc L S := by
  obtain ⟨locs, X, hx, hlk, hS, hZ, hown, eT, N, hEL, C, O, K, W⟩ := P
  obtain ⟨T', X', e', st⟩ := f locs X hZ hown eT hx
  exact OG.st st (k T' (OPn.fin hx hlk hS hZ hown hEL X' e' (Nat.le_refl _) N C O K W))
theorem OPn.grow (P : OPn p l e R s m args below meth c Z a0 EL n0 W0 own T h Ow cells slots) {G : Heap → Addr → Prop} (f : ∀ locs, Stand p l e R (s.setVm T.vm) m args below meth c T locs cells slots → Z.Warmed39 (s.setVm T.vm).vm → (s.setVm T.vm).vm.findClass own = some m.cls → T.heap = h → p.tables.exec = Jvm.exec → ∃ T' h', Stand p l e R (s.setVm T.vm) m args below meth c T' locs cells' slots' ∧ T'.heap = h' ∧ Ext h h' ∧ h.size < h'.size ∧ G h' h.size ∧ ∀ target, Steps p.tables e below (T'.setTop (mkF m pc' L' (.ref h.size :: S'))) target → Steps p.tables e below (T.setTop (mkF m pc L S)) target)
    (k : ∀ T' h' b, OPn p l e R s m args below meth c Z a0 EL n0 W0 own T' h' (b :: Ow) cells' slots' → Keep h h' [] → h.size ≤ b → G h' b → OG p e below m Pq T' pc' L' (.ref b :: S')) : OG p e below m Pq T pc L S := by
  have hn := P.n0le
  obtain ⟨locs, X, hx, hlk, hS, hZ, hown, eT, N, hEL, C, O, K, W⟩ := P
  obtain ⟨T', h', X', e', E, hlt, g, st⟩ := f locs X hZ hown eT hx
  refine OG.st st (k T' h' h.size (OPn.fin hx hlk hS hZ hown hEL X' e' E.1 N (C.trans (CHr.ext E C.1)) (O.ext E) (K.ext E) fun x hx => ?_) ((Keep.refl h []).ext E) (Nat.le_refl _) g)
  rcases List.mem_cons.mp hx with rfl | hx
  · exact ⟨hn, hlt, Safe.ext E C.1 (Safe.new (Nat.le_refl _)), Or.inr K.1⟩
  · obtain ⟨q1, q2, q3, q4⟩ := W x hx
    exact ⟨q1, Nat.lt_of_lt_of_le q2 E.1, Safe.ext E C.1 q3, q4⟩
theorem OPn.wr (P : OPn p l e R s m args below meth c Z a0 EL n0 W0 own T h Ow cells slots) {a : Addr} {sl : Nat} {v : Value} (ha : a ∈ Ow) (f : ∀ locs, Stand p l e R (s.setVm T.vm) m args below meth c T locs cells slots → Z.Warmed39 (s.setVm T.vm).vm → (s.setVm T.vm).vm.findClass own = some m.cls → T.heap = h → p.tables.exec = Jvm.exec → ∃ T' h', Stand p l e R (s.setVm T.vm) m args below meth c T' (locs ++ [⟨a, sl⟩]) cells slots ∧ T'.heap = h' ∧ Wr h h' a sl v ∧ ∀ target, Steps p.tables e below (T'.setTop (mkF m pc' L' S')) target → Steps p.tables e below (T.setTop (mkF m pc L S)) target)
    (k : ∀ T' h', OPn p l e R s m args below meth c Z a0 EL n0 W0 own T' h' Ow cells slots → Wr h h' a sl v → OG p e below m Pq T' pc' L' S') : OG p e below m Pq T pc L S := by
  obtain ⟨locs, X, hx, hlk, hS, hZ, hown, eT, N, hEL, C, O, K, W⟩ := P
  obtain ⟨T', h', X', e', Wq, st⟩ := f locs X hZ hown eT hx
  obtain ⟨q1, q2, q3, q4⟩ := W a ha
  refine OG.st st (k T' h' (OPn.fin hx hlk hS hZ hown hEL X' e' (Nat.le_of_eq Wq.size.symm) (Fr.snoc X' N q1) (C.trans (CHr.wr Wq q3 C.1)) (O.wr Wq q1) (K.wr Wq q4) fun x hx => ?_) Wq)
  obtain ⟨r1, r2, r3, r4⟩ := W x hx
  exact ⟨r1, by rw [Wq.size]; exact r2, Safe.wr Wq q3 C.1 r3, r4⟩
def OFq (Z : State) (EL : List (String × Nat)) (n0 : Nat) (s : State) (W0 : List Addr) (R : Room) (Q : Option Value → Vm → Heap → Prop) (o : Outcome) (t : State) : Prop :=
  ∃ v L, o = .returned v ∧ (Q v t.vm t.heap ∧ Keep s.heap t.heap W0 ∧ Fr n0 L) ∧ CHr Z EL s.vm s.heap t.vm t.heap ∧ (EL = [] → s.WarmedH t.vm) ∧ ReturnedEndW s o t L R.cells R.slots
theorem OPn.ret {Q : Option Value → Vm → Heap → Prop} (P : OPn p l e R s m args below meth c Z a0 EL n0 W0 own T h Ow cells slots) {v : Option Value} (hv : meth.sig.returnType = none → v = none) (hc : cells ≤ R.cells) (hs : slots ≤ R.slots) (q : Q v T.vm h)
    (st : ∀ locs, Stand p l e R (s.setVm T.vm) m args below meth c T locs cells slots → p.tables.exec = Jvm.exec → ∀ fs, (∀ (f : JFrame) (acts : List Action), f.method = m → f.locked = none → f.entered = [] → (doReturn e (T.setTop f) acts v).1 = T.setFrames fs) → Steps p.tables e below (T.setTop (mkF m pc L S)) (T.setFrames fs)) : OG p e below m (OFq Z EL n0 s W0 R Q) T pc L S := by
  obtain ⟨locs, X, hx, hlk, hS, hZ, hown, eT, N, hEL, C, O, K, W⟩ := P
  subst eT
  obtain ⟨fs, h1, h2, h3, h4, h5, h6, h7⟩ := X.leaveW hS.1 (Nat.le_refl _) hv hlk
  exact ⟨_, _, st locs X hx fs h1, h2, h3, v, locs, rfl, ⟨q, K, N⟩, C, hS.2, h4, h5, h6, h7.mono hc hs⟩
theorem o_ret0 {Q : Option Value → Vm → Heap → Prop} (P : OPn p l e R s m args below meth c Z a0 EL n0 W0 own T h Ow cells slots) (hret : meth.sig.returnType = none) (hd : decode c.code pc = .ok (.return_, 1)) (hc : cells ≤ R.cells) (hs : slots ≤ R.slots) (q : Q none T.vm h) : OG p e below m (OFq Z EL n0 s W0 R Q) T pc L [] :=
  P.ret (fun _ => rfl) hc hs q fun locs X hx fs hr => X.returnOut hx hret hd hr
theorem o_retI {Q : Option Value → Vm → Heap → Prop} (P : OPn p l e R s m args below meth c Z a0 EL n0 W0 own T h Ow cells slots) {t : FieldType} {z : Int32} (hret : meth.sig.returnType = some t) (ht : t = .int ∨ t = .boolean ∨ t = .byte ∨ t = .char ∨ t = .short) (hn : narrow t (.int z) = .int z) (hd : decode c.code pc = .ok (.ireturn, 1)) (hc : cells ≤ R.cells) (hs : slots ≤ R.slots) (q : Q (some (.int z)) T.vm h) : OG p e below m (OFq Z EL n0 s W0 R Q) T pc L (.int z :: S) :=
  P.ret (fun h => by rw [hret] at h; cases h) hc hs q fun locs X hx fs hr => retOut X hx hret hn (Or.inl ⟨rfl, ht, z, rfl⟩) hd hr
theorem o_retL {Q : Option Value → Vm → Heap → Prop} (P : OPn p l e R s m args below meth c Z a0 EL n0 W0 own T h Ow cells slots) {z : Int64} (hret : meth.sig.returnType = some .long) (hd : decode c.code pc = .ok (.lreturn, 1)) (hc : cells ≤ R.cells) (hs : slots ≤ R.slots) (q : Q (some (.long z)) T.vm h) : OG p e below m (OFq Z EL n0 s W0 R Q) T pc L (.long z :: S) :=
  P.ret (fun h => by rw [hret] at h; cases h) hc hs q fun locs X hx fs hr => retOut X hx hret rfl (Or.inr (Or.inl ⟨rfl, rfl, z, rfl⟩)) hd hr
theorem o_retA {Q : Option Value → Vm → Heap → Prop} (P : OPn p l e R s m args below meth c Z a0 EL n0 W0 own T h Ow cells slots) {t : FieldType} {w : Value} (hret : meth.sig.returnType = some t) (ht : t.isReference = true) (hw : w.isRef = true) (hn : narrow t w = w) (hd : decode c.code pc = .ok (.areturn, 1)) (hc : cells ≤ R.cells) (hs : slots ≤ R.slots) (q : Q (some w) T.vm h) : OG p e below m (OFq Z EL n0 s W0 R Q) T pc L (w :: S) :=
  P.ret (fun h => by rw [hret] at h; cases h) hc hs q fun locs X hx fs hr => retOut X hx hret hn (Or.inr (Or.inr (Or.inr (Or.inr ⟨rfl, ht, hw⟩)))) hd hr
def OCt (l : Launch) (Z : State) (a0 : Array Value) (EL : List (String × Nat)) (n0 : Nat) (y : MethodName) (bytes : ByteArray) (maxL : Nat) (ret : Option FieldType) (rm : Room) (ws : List Jvm.Cond) (as' : Array Value) (h : Heap) (Sf : List Addr) (Q : Option Value → Vm → Heap → Prop) : Prop :=
  Old Z n0 h → EW Z a0 EL → (∀ x ∈ Sf, n0 ≤ x ∧ x < h.size) →
  MetFree l y (head1 (Jvm.Cond.code y bytes maxL ret :: ws) rm) (fun a U => a = as' ∧ Z.Warmed39 U.vm ∧ U.heap = h ∧ CHv Z EL U.vm h ∧ ∀ x ∈ Sf, Safe Z EL U.vm h x) (fun _ _ _ _ _ => True) (fun _ U o U' => OFq Z EL n0 U Sf rm Q o U')
theorem OCt.body {y : MethodName} {bytes : ByteArray} {maxL : Nat} {ret : Option FieldType} {rm : Room} {ws : List Jvm.Cond} {as' : Array Value} {Sf : List Addr} {Q : Option Value → Vm → Heap → Prop} {L0 : Array Slot} (hpl : plainFor y = true) (hef : ∀ m, entryFrame m as' maxL = mkF m 0 L0 [])
    (k : ∀ p e s m below meth c T, c.code = bytes → c.maxLocals = maxL → meth.sig.returnType = ret → meth.name = y.name → s.heap = h → OPn p l e rm s m as' below meth c Z a0 EL n0 Sf y.cls T h Sf 0 0 → OG p e below m (OFq Z EL n0 s Sf rm Q) T 0 L0 []) : OCt l Z a0 EL n0 y bytes maxL ret rm ws as' h Sf Q := by
  intro hO hEL hSf
  refine MetFree.of_bodySF hpl hisR ?_
  intro p e s m args below meth c s₁ Bd hml0 hP _
  obtain ⟨rfl, hZ, rfl, hC, hS⟩ := hP
  have X0 : Stand p l e rm s m args below meth c s₁ [] 0 0 := Stand.of_body Bd
  have ev : s₁.vm = s.vm := by rw [Bd.state]; rfl
  have eh : s₁.heap = s.heap := by rw [Bd.state]; rfl
  rw [hef m]
  refine k p e s m below meth c s₁ Bd.bytes hml0 Bd.returns (name_of_methodNamed Bd.named Bd.method).1 rfl ⟨[], X0.retabled X0.warmed.wide, Bd.exec, Bd.notSynchronized, OSn.of X0.warmed _, by rw [ev]; exact hZ, by rw [ev]; exact findClass_of_methodNamed Bd.named, eh, Fr.nil n0, hEL, by rw [ev]; exact CHr.refl hC, hO, Keep.refl _ _, fun x hx => ⟨(hSf x hx).1, (hSf x hx).2, by rw [ev]; exact hS x hx, Or.inl hx⟩⟩
theorem OCt.back {y : MethodName} {bytes : ByteArray} {maxL : Nat} {ret : Option FieldType} {rm : Room} {as' : Array Value} {Sf : List Addr} {Q : Option Value → Vm → Heap → Prop} {len W : Nat} (hO : Old Z n0 h) (hEL : EW Z a0 EL) (hSf : ∀ x ∈ Sf, n0 ≤ x ∧ x < h.size ∧ Safe Z EL T.vm h x) (hM : OCt l Z a0 EL n0 y bytes maxL ret rm [] as' h Sf Q)
    (hZ : Z.Warmed39 T.vm) (wc : (Jvm.Cond.code y bytes maxL ret).before a0 Z = true) (wz : (Jvm.Cond.initialized y.cls).before a0 Z = true) (hf : rm.frames + 1 ≤ R.frames) (hl : W + (maxL + 11) + rm.locals ≤ R.locals) (H : CHv Z EL T.vm h) :
    BackS l R p e below (s.setVm T.vm) args y len W (fun A a => a = as' ∧ A.U.heap = h ∧ A.cells + rm.cells ≤ R.cells ∧ A.slots + rm.slots ≤ R.slots)
      (fun A _ v B => ∃ L, Q v B.U.vm B.U.heap ∧ Keep h B.U.heap Sf ∧ Fr n0 L ∧ B.locs = A.locs ++ L ∧ B.cells = A.cells + rm.cells ∧ B.slots = A.slots + rm.slots ∧ CHr Z EL T.vm h B.U.vm B.U.heap ∧ (EL = [] → (s.setVm T.vm).WarmedH B.U.vm)) :=
  BackS.of_freeW (bytes := bytes) (maxL := maxL) (ret := ret) (E := fun _ first o t L k n => k = rm.cells ∧ n = rm.slots ∧ (∃ v, o = .returned v ∧ Q v t.vm t.heap ∧ Keep first.heap t.heap Sf ∧ Fr n0 L) ∧ CHr Z EL first.vm first.heap t.vm t.heap ∧ (EL = [] → first.WarmedH t.vm)) (hM hO hEL fun x hx => ⟨(hSf x hx).1, (hSf x hx).2.1⟩) hf hl
    (fun m meth c A a Y hp => have hU : Z.Warmed39 A.U.vm := wtrans (s := s.setVm T.vm) hZ Y.warmed
      ⟨by show (Jvm.Cond.and _ .tt).before a A.U = true; rw [Cond.before_and, mv hU wc]; rfl, mv hU wc, mv hU wz, hp.2.2.1, hp.2.2.2⟩)
    (fun m meth c A a g mk Y hp => ⟨hp.1, wtrans (s := s.setVm T.vm) hZ Y.warmed, hp.2.1, (CHv.at Y hZ hEL H).1, fun x hx => (CHv.at Y hZ hEL H).safe (hSf x hx).2.1 (hSf x hx).2.2⟩) (fun _ _ _ _ _ _ _ _ _ => trivial)
    (fun _ _ _ _ ⟨v, L, h1, ⟨h2, h3, h4⟩, h5, h5', h6⟩ => ⟨L, _, _, h6, rfl, rfl, ⟨v, h1, h2, h3, h4⟩, h5, h5'⟩)
    (fun m meth c A a g mk v t L k n Y hp _ _ ⟨e1, e2, ⟨v', e3, e4, e5, e6⟩, e7, e8⟩ => by
      cases e3; subst e1 e2
      have eh : (A.U.calling g mk a).heap = h := hp.2.1
      rw [eh] at e5 e7
      exact ⟨L, e4, e5, e6, rfl, rfl, rfl, (CHv.at Y hZ hEL H).trans e7, fun q => State.WarmedH.trans (t := A.U) Y.warmed (e8 q)⟩)
theorem OPn.behind {y : MethodName} {rm : Room} {Sf : List Addr} {Q : Option Value → Vm → Heap → Prop} {locs : List Loc} {v : Option Value} {B : Pt}
    (hx : p.tables.exec = Jvm.exec) (hlk : meth.locks = false) (hS : OSn EL s T.vm h.size) (hZ : Z.Warmed39 T.vm) (hown : T.vm.findClass own = some m.cls) (eT : T.heap = h) (N : Fr n0 locs) (hEL : EW Z a0 EL) (C : CHr Z EL s.vm s.heap T.vm h) (O : Old Z n0 h) (K : Keep s.heap h W0) (W : ∀ x ∈ Ow, OOwn Z EL n0 W0 s.heap.size T.vm h x) (hsf : ∀ x ∈ Sf, x ∈ Ow)
    (X' : Stand p l e R ((s.setVm T.vm).setVm B.U.vm) m args below meth c B.U B.locs B.cells B.slots) (hS' : (s.setVm T.vm).Since B.U.vm B.U.heap.size) (hle : T.heap.size ≤ B.U.heap.size)
    (hq : ∃ L, Q v B.U.vm B.U.heap ∧ Keep h B.U.heap Sf ∧ Fr n0 L ∧ B.locs = locs ++ L ∧ B.cells = cells + rm.cells ∧ B.slots = slots + rm.slots ∧ CHr Z EL T.vm h B.U.vm B.U.heap ∧ (EL = [] → (s.setVm T.vm).WarmedH B.U.vm)) :
    OPn p l e R s m args below meth c Z a0 EL n0 W0 own B.U B.U.heap Ow (cells + rm.cells) (slots + rm.slots) ∧ Keep h B.U.heap Sf ∧ Q v B.U.vm B.U.heap := by
  subst eT
  obtain ⟨Lc, q, Kq, Nq, e1, e2, e3, Cq, hH⟩ := hq
  rw [e1, e2, e3] at X'
  have hal := hS'.1.alike
  refine ⟨⟨locs ++ Lc, X', hx, hlk, hS.trans ⟨hS', hH⟩ hle, State.Warmed39.trans (t := s.setVm T.vm) hZ hS'.1, (hal.findClass own _).trans hown, rfl, N.app Nq, hEL, C.trans Cq, O.keep Kq fun x hx => (W x (hsf x hx)).1, K.trans Kq fun x hx => (W x (hsf x hx)).2.2.2, fun x hx => ?_⟩, Kq, q⟩
  obtain ⟨r1, r2, r3, r4⟩ := W x hx
  exact ⟨r1, Nat.lt_of_lt_of_le r2 hle, Cq.safe r2 r3, r4⟩
theorem o_iload (P : OPn p l e R s m args below meth c Z a0 EL n0 W0 own T h Ow cells slots) {k0 : Nat} {v : Int32} (hd : decode c.code pc = .ok (.iload k0, 2)) (hl : L[k0]? = some (.val (.int v))) (hp : pc + 2 = pc') (k : OG p e below m Pq T pc' L (.int v :: S)) : OG p e below m Pq T pc L S := by
  subst hp; exact OG.st (fun t q => XS.iload P.here P.ex rfl hd hl q) k
theorem o_iloadN (P : OPn p l e R s m args below meth c Z a0 EL n0 W0 own T h Ow cells slots) {k0 : Fin 4} {v : Int32} (hd : decode c.code pc = .ok (.iload_n k0, 1)) (hl : L[k0.val]? = some (.val (.int v))) (hp : pc + 1 = pc') (k : OG p e below m Pq T pc' L (.int v :: S)) : OG p e below m Pq T pc L S := by
  subst hp; exact OG.st (fun t q => XS.iloadN P.here P.ex rfl hd hl q) k
theorem o_istore (P : OPn p l e R s m args below meth c Z a0 EL n0 W0 own T h Ow cells slots) {k0 : Nat} {v : Int32} (hd : decode c.code pc = .ok (.istore k0, 2)) (hl : storeLocals L k0 (.int v) = some L') (hp : pc + 2 = pc') (k : OG p e below m Pq T pc' L' S) : OG p e below m Pq T pc L (.int v :: S) := by
  subst hp; exact OG.st (fun t q => XS.istore P.here P.ex rfl hd rfl hl q) k
theorem o_istoreN (P : OPn p l e R s m args below meth c Z a0 EL n0 W0 own T h Ow cells slots) {k0 : Fin 4} {v : Int32} (hd : decode c.code pc = .ok (.istore_n k0, 1)) (hl : storeLocals L k0.val (.int v) = some L') (hp : pc + 1 = pc') (k : OG p e below m Pq T pc' L' S) : OG p e below m Pq T pc L (.int v :: S) := by
  subst hp; exact OG.st (fun t q => XS.istoreN P.here P.ex rfl hd rfl hl q) k
theorem o_lload (P : OPn p l e R s m args below meth c Z a0 EL n0 W0 own T h Ow cells slots) {k0 : Nat} {v : Int64} (hd : decode c.code pc = .ok (.lload k0, 2)) (hl : L[k0]? = some (.val (.long v))) (hp : pc + 2 = pc') (k : OG p e below m Pq T pc' L (.long v :: S)) : OG p e below m Pq T pc L S := by
  subst hp; exact OG.st (fun t q => XS.lload P.here P.ex rfl hd hl q) k
theorem o_lloadN (P : OPn p l e R s m args below meth c Z a0 EL n0 W0 own T h Ow cells slots) {k0 : Fin 4} {v : Int64} (hd : decode c.code pc = .ok (.lload_n k0, 1)) (hl : L[k0.val]? = some (.val (.long v))) (hp : pc + 1 = pc') (k : OG p e below m Pq T pc' L (.long v :: S)) : OG p e below m Pq T pc L S := by
  subst hp; exact OG.st (fun t q => XS.lloadN P.here P.ex rfl hd hl q) k
theorem o_lstore (P : OPn p l e R s m args below meth c Z a0 EL n0 W0 own T h Ow cells slots) {k0 : Nat} {v : Int64} (hd : decode c.code pc = .ok (.lstore k0, 2)) (hl : storeLocals L k0 (.long v) = some L') (hp : pc + 2 = pc') (k : OG p e below m Pq T pc' L' S) : OG p e below m Pq T pc L (.long v :: S) := by
  subst hp; exact OG.st (fun t q => XS.lstore P.here P.ex rfl hd rfl hl q) k
theorem o_lstoreN (P : OPn p l e R s m args below meth c Z a0 EL n0 W0 own T h Ow cells slots) {k0 : Fin 4} {v : Int64} (hd : decode c.code pc = .ok (.lstore_n k0, 1)) (hl : storeLocals L k0.val (.long v) = some L') (hp : pc + 1 = pc') (k : OG p e below m Pq T pc' L' S) : OG p e below m Pq T pc L (.long v :: S) := by
  subst hp; exact OG.st (fun t q => XS.lstoreN P.here P.ex rfl hd rfl hl q) k
theorem o_aload (P : OPn p l e R s m args below meth c Z a0 EL n0 W0 own T h Ow cells slots) {k0 : Nat} {v : Value} (hd : decode c.code pc = .ok (.aload k0, 2)) (hl : L[k0]? = some (.val v)) (hv : v.isRef = true) (hp : pc + 2 = pc') (k : OG p e below m Pq T pc' L (v :: S)) : OG p e below m Pq T pc L S := by
  subst hp; exact OG.st (fun t q => XS.aload P.here P.ex rfl hd hl hv q) k
theorem o_aloadN (P : OPn p l e R s m args below meth c Z a0 EL n0 W0 own T h Ow cells slots) {k0 : Fin 4} {v : Value} (hd : decode c.code pc = .ok (.aload_n k0, 1)) (hl : L[k0.val]? = some (.val v)) (hv : v.isRef = true) (hp : pc + 1 = pc') (k : OG p e below m Pq T pc' L (v :: S)) : OG p e below m Pq T pc L S := by
  subst hp; exact OG.st (fun t q => XS.aloadN P.here P.ex rfl hd hl hv q) k
theorem o_astore (P : OPn p l e R s m args below meth c Z a0 EL n0 W0 own T h Ow cells slots) {k0 : Nat} {v : Value} (hd : decode c.code pc = .ok (.astore k0, 2)) (hv : v.isRef = true) (hl : storeLocals L k0 v = some L') (hp : pc + 2 = pc') (k : OG p e below m Pq T pc' L' S) : OG p e below m Pq T pc L (v :: S) := by
  subst hp; exact OG.st (fun t q => XS.astore P.here P.ex rfl hd rfl hv hl q) k
theorem o_astoreN (P : OPn p l e R s m args below meth c Z a0 EL n0 W0 own T h Ow cells slots) {k0 : Fin 4} {v : Value} (hd : decode c.code pc = .ok (.astore_n k0, 1)) (hv : v.isRef = true) (hl : storeLocals L k0.val v = some L') (hp : pc + 1 = pc') (k : OG p e below m Pq T pc' L' S) : OG p e below m Pq T pc L (v :: S) := by
  subst hp; exact OG.st (fun t q => XS.astoreN P.here P.ex rfl hd rfl hv hl q) k
theorem o_iconst (P : OPn p l e R s m args below meth c Z a0 EL n0 W0 own T h Ow cells slots) {i : Int} (v : Int32) (hd : decode c.code pc = .ok (.iconst i, 1)) (hv : Int32.ofInt i = v) (hp : pc + 1 = pc') (k : OG p e below m Pq T pc' L (.int v :: S)) : OG p e below m Pq T pc L S := by
  subst hp; exact OG.st (fun t q => XS.iconst P.here P.ex rfl hd (hv ▸ q)) k
theorem o_bipush (P : OPn p l e R s m args below meth c Z a0 EL n0 W0 own T h Ow cells slots) {i : Int} (v : Int32) (hd : decode c.code pc = .ok (.bipush i, 2)) (hv : (Int8.ofInt i).toInt32 = v) (hp : pc + 2 = pc') (k : OG p e below m Pq T pc' L (.int v :: S)) : OG p e below m Pq T pc L S := by
  subst hp; exact OG.st (fun t q => XS.bipush P.here P.ex rfl hd (hv ▸ q)) k
theorem o_sipush (P : OPn p l e R s m args below meth c Z a0 EL n0 W0 own T h Ow cells slots) {i : Int} (v : Int32) (hd : decode c.code pc = .ok (.sipush i, 3)) (hv : (Int16.ofInt i).toInt32 = v) (hp : pc + 3 = pc') (k : OG p e below m Pq T pc' L (.int v :: S)) : OG p e below m Pq T pc L S := by
  subst hp; exact OG.st (fun t q => XS.sipush P.here P.ex rfl hd (hv ▸ q)) k
theorem o_lconst (P : OPn p l e R s m args below meth c Z a0 EL n0 W0 own T h Ow cells slots) {i : Fin 2} (v : Int64) (hd : decode c.code pc = .ok (.lconst i, 1)) (hv : Int64.ofNat i = v) (hp : pc + 1 = pc') (k : OG p e below m Pq T pc' L (.long v :: S)) : OG p e below m Pq T pc L S := by
  subst hp; exact OG.st (fun t q => XS.lconst P.here P.ex rfl hd (hv ▸ q)) k
theorem o_aconstNull (P : OPn p l e R s m args below meth c Z a0 EL n0 W0 own T h Ow cells slots)  (hd : decode c.code pc = .ok (.aconst_null, 1)) (hp : pc + 1 = pc') (k : OG p e below m Pq T pc' L (.null :: S)) : OG p e below m Pq T pc L S := by
  subst hp; exact OG.st (fun t q => XS.aconstNull P.here P.ex rfl hd q) k
theorem o_iadd (P : OPn p l e R s m args below meth c Z a0 EL n0 W0 own T h Ow cells slots) {x y : Int32} (hd : decode c.code pc = .ok (.iadd, 1)) (hp : pc + 1 = pc') (k : OG p e below m Pq T pc' L (.int (x + y) :: S)) : OG p e below m Pq T pc L (.int y :: .int x :: S) := by
  subst hp; exact OG.st (fun t q => XS.iadd P.here P.ex rfl hd rfl q) k
theorem o_isub (P : OPn p l e R s m args below meth c Z a0 EL n0 W0 own T h Ow cells slots) {x y : Int32} (hd : decode c.code pc = .ok (.isub, 1)) (hp : pc + 1 = pc') (k : OG p e below m Pq T pc' L (.int (x - y) :: S)) : OG p e below m Pq T pc L (.int y :: .int x :: S) := by
  subst hp; exact OG.st (fun t q => XS.isub P.here P.ex rfl hd rfl q) k
theorem o_imul (P : OPn p l e R s m args below meth c Z a0 EL n0 W0 own T h Ow cells slots) {x y : Int32} (hd : decode c.code pc = .ok (.imul, 1)) (hp : pc + 1 = pc') (k : OG p e below m Pq T pc' L (.int (x * y) :: S)) : OG p e below m Pq T pc L (.int y :: .int x :: S) := by
  subst hp; exact OG.st (fun t q => XS.imul P.here P.ex rfl hd rfl q) k
theorem o_iand (P : OPn p l e R s m args below meth c Z a0 EL n0 W0 own T h Ow cells slots) {x y : Int32} (hd : decode c.code pc = .ok (.iand, 1)) (hp : pc + 1 = pc') (k : OG p e below m Pq T pc' L (.int (x &&& y) :: S)) : OG p e below m Pq T pc L (.int y :: .int x :: S) := by
  subst hp; exact OG.st (fun t q => XS.iand P.here P.ex rfl hd rfl q) k
theorem o_land (P : OPn p l e R s m args below meth c Z a0 EL n0 W0 own T h Ow cells slots) {x y : Int64} (hd : decode c.code pc = .ok (.land, 1)) (hp : pc + 1 = pc') (k : OG p e below m Pq T pc' L (.long (x &&& y) :: S)) : OG p e below m Pq T pc L (.long y :: .long x :: S) := by
  subst hp; exact OG.st (fun t q => XS.land P.here P.ex rfl hd rfl q) k
theorem o_lor (P : OPn p l e R s m args below meth c Z a0 EL n0 W0 own T h Ow cells slots) {x y : Int64} (hd : decode c.code pc = .ok (.lor, 1)) (hp : pc + 1 = pc') (k : OG p e below m Pq T pc' L (.long (x ||| y) :: S)) : OG p e below m Pq T pc L (.long y :: .long x :: S) := by
  subst hp; exact OG.st (fun t q => XS.lor P.here P.ex rfl hd rfl q) k
theorem o_ixor (P : OPn p l e R s m args below meth c Z a0 EL n0 W0 own T h Ow cells slots) {x y : Int32} (hd : decode c.code pc = .ok (.ixor, 1)) (hp : pc + 1 = pc') (k : OG p e below m Pq T pc' L (.int (x ^^^ y) :: S)) : OG p e below m Pq T pc L (.int y :: .int x :: S) := by
  subst hp; exact OG.st (fun t q => XS.ixor P.here P.ex rfl hd rfl q) k
theorem o_irem (P : OPn p l e R s m args below meth c Z a0 EL n0 W0 own T h Ow cells slots) {x y : Int32} (hd : decode c.code pc = .ok (.irem, 1)) (hy : y ≠ 0) (hp : pc + 1 = pc') (k : OG p e below m Pq T pc' L (.int (x % y) :: S)) : OG p e below m Pq T pc L (.int y :: .int x :: S) := by
  subst hp; exact OG.st (fun t q => XS.irem P.here P.ex rfl hd rfl hy (by rw [irem_eq_mod]; exact q)) k
theorem o_ineg (P : OPn p l e R s m args below meth c Z a0 EL n0 W0 own T h Ow cells slots) {x : Int32} (hd : decode c.code pc = .ok (.ineg, 1)) (hp : pc + 1 = pc') (k : OG p e below m Pq T pc' L (.int (-x) :: S)) : OG p e below m Pq T pc L (.int x :: S) := by
  subst hp; exact OG.st (fun t q => XS.ineg P.here P.ex rfl hd rfl q) k
theorem o_ishr (P : OPn p l e R s m args below meth c Z a0 EL n0 W0 own T h Ow cells slots) {x y : Int32} (hd : decode c.code pc = .ok (.ishr, 1)) (hp : pc + 1 = pc') (k : OG p e below m Pq T pc' L (.int (x >>> (y &&& 31)) :: S)) : OG p e below m Pq T pc L (.int y :: .int x :: S) := by
  subst hp; exact OG.st (fun t q => XS.ishr P.here P.ex rfl hd rfl q) k
theorem o_iushr (P : OPn p l e R s m args below meth c Z a0 EL n0 W0 own T h Ow cells slots) {x y : Int32} (hd : decode c.code pc = .ok (.iushr, 1)) (hp : pc + 1 = pc') (k : OG p e below m Pq T pc' L (.int ((x.toUInt32 >>> (y &&& 31).toUInt32).toInt32) :: S)) : OG p e below m Pq T pc L (.int y :: .int x :: S) := by
  subst hp; exact OG.st (fun t q => XS.iushr P.here P.ex rfl hd rfl q) k
theorem o_lshl (P : OPn p l e R s m args below meth c Z a0 EL n0 W0 own T h Ow cells slots) {x : Int64} {y : Int32} (hd : decode c.code pc = .ok (.lshl, 1)) (hp : pc + 1 = pc') (k : OG p e below m Pq T pc' L (.long (x <<< (y &&& 0x3f).toInt64) :: S)) : OG p e below m Pq T pc L (.int y :: .long x :: S) := by
  subst hp; exact OG.st (fun t q => XS.lshl P.here P.ex rfl hd rfl q) k
theorem o_lushr (P : OPn p l e R s m args below meth c Z a0 EL n0 W0 own T h Ow cells slots) {x : Int64} {y : Int32} (hd : decode c.code pc = .ok (.lushr, 1)) (hp : pc + 1 = pc') (k : OG p e below m Pq T pc' L (.long ((x.toUInt64 >>> (y &&& 0x3f).toInt64.toUInt64).toInt64) :: S)) : OG p e below m Pq T pc L (.int y :: .long x :: S) := by
  subst hp; exact OG.st (fun t q => XS.lushr P.here P.ex rfl hd rfl q) k
theorem o_l2i (P : OPn p l e R s m args below meth c Z a0 EL n0 W0 own T h Ow cells slots) {x : Int64} (hd : decode c.code pc = .ok (.l2i, 1)) (hp : pc + 1 = pc') (k : OG p e below m Pq T pc' L (.int (x.toInt32) :: S)) : OG p e below m Pq T pc L (.long x :: S) := by
  subst hp; exact OG.st (fun t q => XS.l2i P.here P.ex rfl hd rfl q) k
theorem o_i2c (P : OPn p l e R s m args below meth c Z a0 EL n0 W0 own T h Ow cells slots) {x : Int32} (hd : decode c.code pc = .ok (.i2c, 1)) (hp : pc + 1 = pc') (k : OG p e below m Pq T pc' L (.int (x.toUInt32.toUInt16.toUInt32.toInt32) :: S)) : OG p e below m Pq T pc L (.int x :: S) := by
  subst hp; exact OG.st (fun t q => XS.i2c P.here P.ex rfl hd rfl q) k
theorem o_lcmp (P : OPn p l e R s m args below meth c Z a0 EL n0 W0 own T h Ow cells slots) {x y : Int64} (hd : decode c.code pc = .ok (.lcmp, 1)) (hp : pc + 1 = pc') (k : OG p e below m Pq T pc' L (.int (lcmpW x y) :: S)) : OG p e below m Pq T pc L (.long y :: .long x :: S) := by
  subst hp; exact OG.st (fun t q => XS.lcmp P.here P.ex rfl hd rfl q) k
theorem o_dup (P : OPn p l e R s m args below meth c Z a0 EL n0 W0 own T h Ow cells slots) {x : Value} (hd : decode c.code pc = .ok (.dup, 1)) (hc : x.category = 1) (hp : pc + 1 = pc') (k : OG p e below m Pq T pc' L (x :: x :: S)) : OG p e below m Pq T pc L (x :: S) := by
  subst hp; exact OG.st (fun t q => XS.dup P.here P.ex rfl hd rfl hc q) k
theorem o_pop (P : OPn p l e R s m args below meth c Z a0 EL n0 W0 own T h Ow cells slots) {x : Value} (hd : decode c.code pc = .ok (.pop, 1)) (hc : x.category = 1) (hp : pc + 1 = pc') (k : OG p e below m Pq T pc' L S) : OG p e below m Pq T pc L (x :: S) := by
  subst hp; exact OG.st (fun t q => XS.pop P.here P.ex rfl hd rfl hc q) k
theorem o_dupX1 (P : OPn p l e R s m args below meth c Z a0 EL n0 W0 own T h Ow cells slots) {x y : Value} (hd : decode c.code pc = .ok (.dup_x1, 1)) (hc : x.category = 1) (hc2 : y.category = 1) (hp : pc + 1 = pc') (k : OG p e below m Pq T pc' L (x :: y :: x :: S)) : OG p e below m Pq T pc L (x :: y :: S) := by
  subst hp; exact OG.st (fun t q => XS.dupX1 P.here P.ex rfl hd rfl hc hc2 q) k
theorem o_dup2 (P : OPn p l e R s m args below meth c Z a0 EL n0 W0 own T h Ow cells slots) {x y : Value} (hd : decode c.code pc = .ok (.dup2, 1)) (hc : x.category = 1) (hc2 : y.category = 1) (hp : pc + 1 = pc') (k : OG p e below m Pq T pc' L (x :: y :: x :: y :: S)) : OG p e below m Pq T pc L (x :: y :: S) := by
  subst hp; exact OG.st (fun t q => Jvm.Free.XT.dup2 P.here P.ex rfl hd rfl hc hc2 q) k
theorem o_iinc (P : OPn p l e R s m args below meth c Z a0 EL n0 W0 own T h Ow cells slots) {k0 : Nat} {i : Int} {x : Int32} (v : Int32) (hd : decode c.code pc = .ok (.iinc k0 i, 3)) (hv : Int32.ofInt i = v) (hl : L[k0]? = some (.val (.int x))) (hl' : storeLocals L k0 (.int (x + v)) = some L') (hp : pc + 3 = pc') (k : OG p e below m Pq T pc' L' S) : OG p e below m Pq T pc L S := by
  subst hp; exact OG.st (fun t q => XS.iinc P.here P.ex rfl hd hl (hv ▸ hl') q) k
theorem o_goto (P : OPn p l e R s m args below meth c Z a0 EL n0 W0 own T h Ow cells slots) {o : Int} (hd : decode c.code pc = .ok (.goto o, 3)) (ho : 0 ≤ (pc : Int) + o) (hp : ((pc : Int) + o).toNat = pc') (k : OG p e below m Pq T pc' L S) : OG p e below m Pq T pc L S :=
  OG.st (fun t q => XS.goto P.here P.ex rfl rfl hd ho hp q) k
theorem o_icmp_lt (P : OPn p l e R s m args below meth c Z a0 EL n0 W0 own T h Ow cells slots) {o : Int} {x y : Int32} {pcf : Nat} (hd : decode c.code pc = .ok (.if_icmp .lt o, 3)) (ho : 0 ≤ (pc : Int) + o) (hp : ((pc : Int) + o).toNat = pc') (hq : pc + 3 = pcf) (k1 : x < y → OG p e below m Pq T pc' L S) (k2 : ¬ x < y → OG p e below m Pq T pcf L S) : OG p e below m Pq T pc L (.int y :: .int x :: S) := by
  by_cases q : x < y
  · exact OG.st (fun t r => XS.icmpYes P.here P.ex rfl rfl hd rfl (tlt q).1 ho hp r) (k1 q)
  · subst hq; exact OG.st (fun t r => XS.icmpNo P.here P.ex rfl hd rfl (flt q).1 r) (k2 q)
theorem o_if_lt (P : OPn p l e R s m args below meth c Z a0 EL n0 W0 own T h Ow cells slots) {o : Int} {x : Int32} {pcf : Nat} (hd : decode c.code pc = .ok (.ifCond .lt o, 3)) (ho : 0 ≤ (pc : Int) + o) (hp : ((pc : Int) + o).toNat = pc') (hq : pc + 3 = pcf) (k1 : x < (0 : Int32) → OG p e below m Pq T pc' L S) (k2 : ¬ x < (0 : Int32) → OG p e below m Pq T pcf L S) : OG p e below m Pq T pc L (.int x :: S) := by
  by_cases q : x < (0 : Int32)
  · exact OG.st (fun t r => XS.ifYes P.here P.ex rfl rfl hd rfl ((if0 _ _).trans (tlt q).1) ho hp r) (k1 q)
  · subst hq; exact OG.st (fun t r => XS.ifNo P.here P.ex rfl hd rfl ((if0 _ _).trans (flt q).1) r) (k2 q)
theorem o_icmp_ge (P : OPn p l e R s m args below meth c Z a0 EL n0 W0 own T h Ow cells slots) {o : Int} {x y : Int32} {pcf : Nat} (hd : decode c.code pc = .ok (.if_icmp .ge o, 3)) (ho : 0 ≤ (pc : Int) + o) (hp : ((pc : Int) + o).toNat = pc') (hq : pc + 3 = pcf) (k1 : ¬ x < y → OG p e below m Pq T pc' L S) (k2 : x < y → OG p e below m Pq T pcf L S) : OG p e below m Pq T pc L (.int y :: .int x :: S) := by
  by_cases q : x < y
  · subst hq; exact OG.st (fun t r => XS.icmpNo P.here P.ex rfl hd rfl (tlt q).2.1 r) (k2 q)
  · exact OG.st (fun t r => XS.icmpYes P.here P.ex rfl rfl hd rfl (flt q).2.1 ho hp r) (k1 q)
theorem o_if_ge (P : OPn p l e R s m args below meth c Z a0 EL n0 W0 own T h Ow cells slots) {o : Int} {x : Int32} {pcf : Nat} (hd : decode c.code pc = .ok (.ifCond .ge o, 3)) (ho : 0 ≤ (pc : Int) + o) (hp : ((pc : Int) + o).toNat = pc') (hq : pc + 3 = pcf) (k1 : ¬ x < (0 : Int32) → OG p e below m Pq T pc' L S) (k2 : x < (0 : Int32) → OG p e below m Pq T pcf L S) : OG p e below m Pq T pc L (.int x :: S) := by
  by_cases q : x < (0 : Int32)
  · subst hq; exact OG.st (fun t r => XS.ifNo P.here P.ex rfl hd rfl ((if0 _ _).trans (tlt q).2.1) r) (k2 q)
  · exact OG.st (fun t r => XS.ifYes P.here P.ex rfl rfl hd rfl ((if0 _ _).trans (flt q).2.1) ho hp r) (k1 q)
theorem o_icmp_gt (P : OPn p l e R s m args below meth c Z a0 EL n0 W0 own T h Ow cells slots) {o : Int} {x y : Int32} {pcf : Nat} (hd : decode c.code pc = .ok (.if_icmp .gt o, 3)) (ho : 0 ≤ (pc : Int) + o) (hp : ((pc : Int) + o).toNat = pc') (hq : pc + 3 = pcf) (k1 : y < x → OG p e below m Pq T pc' L S) (k2 : ¬ y < x → OG p e below m Pq T pcf L S) : OG p e below m Pq T pc L (.int y :: .int x :: S) := by
  by_cases q : y < x
  · exact OG.st (fun t r => XS.icmpYes P.here P.ex rfl rfl hd rfl (tlt q).2.2.1 ho hp r) (k1 q)
  · subst hq; exact OG.st (fun t r => XS.icmpNo P.here P.ex rfl hd rfl (flt q).2.2.1 r) (k2 q)
theorem o_if_gt (P : OPn p l e R s m args below meth c Z a0 EL n0 W0 own T h Ow cells slots) {o : Int} {x : Int32} {pcf : Nat} (hd : decode c.code pc = .ok (.ifCond .gt o, 3)) (ho : 0 ≤ (pc : Int) + o) (hp : ((pc : Int) + o).toNat = pc') (hq : pc + 3 = pcf) (k1 : (0 : Int32) < x → OG p e below m Pq T pc' L S) (k2 : ¬ (0 : Int32) < x → OG p e below m Pq T pcf L S) : OG p e below m Pq T pc L (.int x :: S) := by
  by_cases q : (0 : Int32) < x
  · exact OG.st (fun t r => XS.ifYes P.here P.ex rfl rfl hd rfl ((if0 _ _).trans (tlt q).2.2.1) ho hp r) (k1 q)
  · subst hq; exact OG.st (fun t r => XS.ifNo P.here P.ex rfl hd rfl ((if0 _ _).trans (flt q).2.2.1) r) (k2 q)
theorem o_icmp_le (P : OPn p l e R s m args below meth c Z a0 EL n0 W0 own T h Ow cells slots) {o : Int} {x y : Int32} {pcf : Nat} (hd : decode c.code pc = .ok (.if_icmp .le o, 3)) (ho : 0 ≤ (pc : Int) + o) (hp : ((pc : Int) + o).toNat = pc') (hq : pc + 3 = pcf) (k1 : ¬ y < x → OG p e below m Pq T pc' L S) (k2 : y < x → OG p e below m Pq T pcf L S) : OG p e below m Pq T pc L (.int y :: .int x :: S) := by
  by_cases q : y < x
  · subst hq; exact OG.st (fun t r => XS.icmpNo P.here P.ex rfl hd rfl (tlt q).2.2.2 r) (k2 q)
  · exact OG.st (fun t r => XS.icmpYes P.here P.ex rfl rfl hd rfl (flt q).2.2.2 ho hp r) (k1 q)
theorem o_if_le (P : OPn p l e R s m args below meth c Z a0 EL n0 W0 own T h Ow cells slots) {o : Int} {x : Int32} {pcf : Nat} (hd : decode c.code pc = .ok (.ifCond .le o, 3)) (ho : 0 ≤ (pc : Int) + o) (hp : ((pc : Int) + o).toNat = pc') (hq : pc + 3 = pcf) (k1 : ¬ (0 : Int32) < x → OG p e below m Pq T pc' L S) (k2 : (0 : Int32) < x → OG p e below m Pq T pcf L S) : OG p e below m Pq T pc L (.int x :: S) := by
  by_cases q : (0 : Int32) < x
  · subst hq; exact OG.st (fun t r => XS.ifNo P.here P.ex rfl hd rfl ((if0 _ _).trans (tlt q).2.2.2) r) (k2 q)
  · exact OG.st (fun t r => XS.ifYes P.here P.ex rfl rfl hd rfl ((if0 _ _).trans (flt q).2.2.2) ho hp r) (k1 q)
theorem o_icmp_eq (P : OPn p l e R s m args below meth c Z a0 EL n0 W0 own T h Ow cells slots) {o : Int} {x y : Int32} {pcf : Nat} (hd : decode c.code pc = .ok (.if_icmp .eq o, 3)) (ho : 0 ≤ (pc : Int) + o) (hp : ((pc : Int) + o).toNat = pc') (hq : pc + 3 = pcf) (k1 : x = y → OG p e below m Pq T pc' L S) (k2 : ¬ x = y → OG p e below m Pq T pcf L S) : OG p e below m Pq T pc L (.int y :: .int x :: S) := by
  by_cases q : x = y
  · exact OG.st (fun t r => XS.icmpYes P.here P.ex rfl rfl hd rfl (teq q).1 ho hp r) (k1 q)
  · subst hq; exact OG.st (fun t r => XS.icmpNo P.here P.ex rfl hd rfl (feq q).1 r) (k2 q)
theorem o_if_eq (P : OPn p l e R s m args below meth c Z a0 EL n0 W0 own T h Ow cells slots) {o : Int} {x : Int32} {pcf : Nat} (hd : decode c.code pc = .ok (.ifCond .eq o, 3)) (ho : 0 ≤ (pc : Int) + o) (hp : ((pc : Int) + o).toNat = pc') (hq : pc + 3 = pcf) (k1 : x = (0 : Int32) → OG p e below m Pq T pc' L S) (k2 : ¬ x = (0 : Int32) → OG p e below m Pq T pcf L S) : OG p e below m Pq T pc L (.int x :: S) := by
  by_cases q : x = (0 : Int32)
  · exact OG.st (fun t r => XS.ifYes P.here P.ex rfl rfl hd rfl ((if0 _ _).trans (teq q).1) ho hp r) (k1 q)
  · subst hq; exact OG.st (fun t r => XS.ifNo P.here P.ex rfl hd rfl ((if0 _ _).trans (feq q).1) r) (k2 q)
theorem o_icmp_ne (P : OPn p l e R s m args below meth c Z a0 EL n0 W0 own T h Ow cells slots) {o : Int} {x y : Int32} {pcf : Nat} (hd : decode c.code pc = .ok (.if_icmp .ne o, 3)) (ho : 0 ≤ (pc : Int) + o) (hp : ((pc : Int) + o).toNat = pc') (hq : pc + 3 = pcf) (k1 : ¬ x = y → OG p e below m Pq T pc' L S) (k2 : x = y → OG p e below m Pq T pcf L S) : OG p e below m Pq T pc L (.int y :: .int x :: S) := by
  by_cases q : x = y
  · subst hq; exact OG.st (fun t r => XS.icmpNo P.here P.ex rfl hd rfl (teq q).2 r) (k2 q)
  · exact OG.st (fun t r => XS.icmpYes P.here P.ex rfl rfl hd rfl (feq q).2 ho hp r) (k1 q)
theorem o_if_ne (P : OPn p l e R s m args below meth c Z a0 EL n0 W0 own T h Ow cells slots) {o : Int} {x : Int32} {pcf : Nat} (hd : decode c.code pc = .ok (.ifCond .ne o, 3)) (ho : 0 ≤ (pc : Int) + o) (hp : ((pc : Int) + o).toNat = pc') (hq : pc + 3 = pcf) (k1 : ¬ x = (0 : Int32) → OG p e below m Pq T pc' L S) (k2 : x = (0 : Int32) → OG p e below m Pq T pcf L S) : OG p e below m Pq T pc L (.int x :: S) := by
  by_cases q : x = (0 : Int32)
  · subst hq; exact OG.st (fun t r => XS.ifNo P.here P.ex rfl hd rfl ((if0 _ _).trans (teq q).2) r) (k2 q)
  · exact OG.st (fun t r => XS.ifYes P.here P.ex rfl rfl hd rfl ((if0 _ _).trans (feq q).2) ho hp r) (k1 q)
theorem o_ifnonnullN (P : OPn p l e R s m args below meth c Z a0 EL n0 W0 own T h Ow cells slots) {o : Int} (hd : decode c.code pc = .ok (.ifnonnull o, 3)) (hp : pc + 3 = pc') (k : OG p e below m Pq T pc' L S) : OG p e below m Pq T pc L (.null :: S) := by
  subst hp; exact OG.st (fun t q => XS.ifnonnullNo P.here P.ex rfl hd rfl q) k
theorem o_acmp (P : OPn p l e R s m args below meth c Z a0 EL n0 W0 own T h Ow cells slots) {cd : ACond} {o : Int} {x y : Value} (same : Bool) (hd : decode c.code pc = .ok (.if_acmp cd o, 3)) (h1 : x.isRef = true) (h2 : y.isRef = true) (hq : decide (x = y) = same) (ho : 0 ≤ (pc : Int) + o) (hp : pc' = if acV cd same = true then ((pc : Int) + o).toNat else pc + 3) (k : OG p e below m Pq T pc' L S) : OG p e below m Pq T pc L (y :: x :: S) := by
  obtain ⟨locs, X, hx, -⟩ := P
  exact OG.st (fun t q => Jvm.RoadKit.acmp X hx rfl h1 h2 rfl hd rfl hq ho hp q) k
def OObj (Z : State) (h : Heap) (a : Addr) (C : String) (fs : List (String × String × String × Value)) : Prop :=
  Exa Z h a C ∧ (∀ f ∈ fs, Fld Z h a f.1 f.2.1 f.2.2.1 f.2.2.2) ∧ ∀ (i j : Nat) (f g : String × String × String × Value), i ≠ j → fs[i]? = some f → fs[j]? = some g → Jvm.RoadKit.slotOf Z f.1 f.2.1 f.2.2.1 ≠ Jvm.RoadKit.slotOf Z g.1 g.2.1 g.2.2.1
section OObjs
variable {a b : Addr} {C O nm d : String} {fs : List (String × String × String × Value)} {u v w : Value} {ws : List Addr} {sl : Nat}
theorem OObj.exa (F : OObj Z h a C fs) : Exa Z h a C := F.1
theorem OObj.lt (F : OObj Z h a C fs) : a < h.size := F.1.lt
theorem OObj.keep (F : OObj Z h a C fs) (K : Keep h h' ws) (q : a ∉ ws) : OObj Z h' a C fs := ⟨F.1.keep K, fun f hf => (F.2.1 f hf).keep K q, F.2.2⟩
theorem OObj.oth (F : OObj Z h a C fs) (W : Wr h h' b sl v) (q : a ≠ b) : OObj Z h' a C fs := ⟨F.1.wr W, fun f hf => (F.2.1 f hf).other W (Or.inl q), F.2.2⟩
theorem OObj.fld (F : OObj Z h a C fs) (i : Nat) (hi : fs[i]? = some (O, nm, d, v)) : Fld Z h a O nm d v := F.2.1 _ (List.mem_of_getElem? hi)
theorem OObj.put (F : OObj Z h a C fs) (i : Nat) (hi : fs[i]? = some (O, nm, d, u)) (W : Wr h h' a (Jvm.RoadKit.slotOf Z O nm d) v) : OObj Z h' a C (fs.set i (O, nm, d, v)) := by
  have key : ∀ (j : Nat) (f : String × String × String × Value), (fs.set i (O, nm, d, v))[j]? = some f → (j = i ∧ f = (O, nm, d, v)) ∨ (j ≠ i ∧ fs[j]? = some f) := by
    intro j f hj
    by_cases e : j = i
    · subst e
      have hlt : j < fs.length := (List.getElem?_eq_some_iff.mp hi).1
      rw [List.getElem?_set_self hlt] at hj
      exact Or.inl ⟨rfl, (Option.some.inj hj).symm⟩
    · rw [List.getElem?_set_ne (fun q => e q.symm)] at hj
      exact Or.inr ⟨e, hj⟩
  refine ⟨F.1.wr W, fun f hf => ?_, fun j k f g hjk hj hk => ?_⟩
  · obtain ⟨j, hj⟩ := List.getElem?_of_mem hf
    rcases key j f hj with ⟨rfl, rfl⟩ | ⟨hne, hj'⟩
    · exact (F.fld j hi).same W
    · exact (F.2.1 f (List.mem_of_getElem? hj')).other W (Or.inr (F.2.2 j i f (O, nm, d, u) hne hj' hi))
  · rcases key j f hj with ⟨rfl, rfl⟩ | ⟨hne, hj'⟩ <;> rcases key k g hk with ⟨rfl, rfl⟩ | ⟨hne', hk'⟩
    · exact absurd rfl hjk
    · exact F.2.2 j k (O, nm, d, u) g hjk hi hk'
    · exact F.2.2 j k f (O, nm, d, u) hjk hj' hi
    · exact F.2.2 j k f g hjk hj' hk'
theorem OObj.new (E : Exa Z h a C) (D : ∀ {O nm d : String} {ty : FieldType}, Laid Z a0 C O nm d → parseFieldDescriptor d = some ty → Fld Z h a O nm d (defaultValue ty)) (hL : ∀ f ∈ fs, Laid Z a0 C f.1 f.2.1 f.2.2.1 ∧ ∃ ty, parseFieldDescriptor f.2.2.1 = some ty ∧ defaultValue ty = f.2.2.2) (nd : (fs.map fun f => f.2.1).Nodup) : OObj Z h a C fs := by
  refine ⟨E, fun f hf => ?_, fun i j f g hij hi hj => ?_⟩
  · obtain ⟨L, ty, h1, h2⟩ := hL f hf
    rw [← h2]; exact D L h1
  · obtain ⟨L1, t1, p1, -⟩ := hL f (List.mem_of_getElem? hi)
    obtain ⟨L2, t2, p2, -⟩ := hL g (List.mem_of_getElem? hj)
    refine slot_ne L1 L2 (fun e => hij ?_) p1 p2
    have hi' : (fs.map fun f => f.2.1)[i]? = some f.2.1 := by rw [List.getElem?_map, hi]; rfl
    have hj' : (fs.map fun f => f.2.1)[j]? = some f.2.1 := by rw [List.getElem?_map, hj, e]; rfl
    obtain ⟨li, ei⟩ := List.getElem?_eq_some_iff.mp hi'
    obtain ⟨lj, ej⟩ := List.getElem?_eq_some_iff.mp hj'
    have np := List.pairwise_iff_getElem.mp nd
    rcases Nat.lt_trichotomy i j with q | q | q
    · exact absurd (ei.trans ej.symm) (np i j li lj q)
    · exact q
    · exact absurd (ej.trans ei.symm) (np j i lj li q)
end OObjs
def OLd (Z : State) (a0 : Array Value) (C : String) (fs : List (String × String × String × Value)) : Prop := ∀ f ∈ fs, Laid Z a0 C f.1 f.2.1 f.2.2.1 ∧ ∃ ty, parseFieldDescriptor f.2.2.1 = some ty ∧ defaultValue ty = f.2.2.2
theorem OLd.nil {C : String} : OLd Z a0 C [] := fun _ q => nomatch q
theorem OLd.cons {C O nm d : String} {v : Value} {ty : FieldType} {fs : List (String × String × String × Value)} (L : Laid Z a0 C O nm d) (h1 : parseFieldDescriptor d = some ty) (h2 : defaultValue ty = v) (r : OLd Z a0 C fs) : OLd Z a0 C ((O, nm, d, v) :: fs) := fun f hf => by
  rcases List.mem_cons.mp hf with rfl | hf
  · exact ⟨L, ty, h1, h2⟩
  · exact r f hf
def OArr (Z : State) (h : Heap) (a : Addr) (ty : FieldType) (vs : List Value) : Prop :=
  ∃ c : Cell, Arr Z h a c ty ∧ c.slots = vs.toArray ∧ vs.length < 2147483648 ∧ ∀ v ∈ vs, fits ty v = true
section OArrs
variable {a b : Addr} {ty : FieldType} {vs : List Value} {u v w : Value} {ws : List Addr} {sl : Nat} {j z : Int32} {k : ClassId} {dv : Value}
theorem OArr.eq {vs' : List Value} (F : OArr Z h a ty vs) (e : vs = vs') : OArr Z h a ty vs' := e ▸ F
theorem OArr.lt (F : OArr Z h a ty vs) : a < h.size := by obtain ⟨c, A, -⟩ := F; exact A.lt
theorem OArr.len (F : OArr Z h a ty vs) : vs.length < 2147483648 := by obtain ⟨c, -, -, q, -⟩ := F; exact q
theorem OArr.keep (F : OArr Z h a ty vs) (K : Keep h h' ws) (q : a ∉ ws) : OArr Z h' a ty vs := by obtain ⟨c, A, r⟩ := F; exact ⟨c, ⟨K.2.1 a c A.1 q, A.2⟩, r⟩
theorem OArr.oth (F : OArr Z h a ty vs) (W : Wr h h' b sl v) (q : a ≠ b) : OArr Z h' a ty vs := by obtain ⟨c, A, r⟩ := F; exact ⟨c, A.other W q, r⟩
theorem OArr.set (F : OArr Z h a ty vs) (W : Wr h h' a sl v) (hv : fits ty v = true) : OArr Z h' a ty (vs.set sl v) := by
  obtain ⟨c, A, e, n, q⟩ := F
  refine ⟨c.setSlot sl v, A.same W, by simp [Cell.setSlot, e], by rw [List.length_set]; exact n, fun x hx => ?_⟩
  rcases List.mem_or_eq_of_mem_set hx with hx | rfl
  · exact q x hx
  · exact hv
theorem OArr.ofArv (F : Arv Z h a k ty z vs dv) (hl : vs.length = z.toNatClampNeg) : OArr Z h a ty vs := by
  obtain ⟨c, A, -, S, q, H, G⟩ := F
  refine ⟨c, A, ?_, by rw [hl]; exact (back32 q).2, fun v hv => ?_⟩
  · apply Array.ext_getElem?
    intro i
    by_cases hi : i < c.slots.size
    · rw [H i hi]
      have hi' : i < vs.length := by rw [hl, ← S]; exact hi
      simp [hi']
    · rw [Array.getElem?_eq_none (by omega)]
      have hi' : ¬ i < vs.length := by rw [hl, ← S]; exact hi
      simp; omega
  · obtain ⟨i, hi⟩ := List.getElem?_of_mem hv
    obtain ⟨hi1, hi2⟩ := List.getElem?_eq_some_iff.mp hi
    have := G i (by rw [S, ← hl]; exact hi1)
    simpa [hi1, hi2] using this
theorem OArr.toArv (F : OArr Z h a ty vs) (hz : ¬ z < 0) (hl : z.toNatClampNeg = vs.length) : ∃ k, Arv Z h a k ty z vs dv := by
  obtain ⟨c, A, e, n, q⟩ := F
  refine ⟨c.cls, c, A, rfl, by rw [e, hl]; simp, hz, fun i hi => ?_, fun i hi => ?_⟩
  · rw [e] at hi ⊢
    have hi' : i < vs.length := by simpa using hi
    simp [hi']
  · rw [e] at hi
    have hi' : i < vs.length := by simpa using hi
    have := q vs[i] (List.getElem_mem hi')
    simpa [hi'] using this
theorem OArr.size (F : OArr Z h a ty vs) {c : Cell} (hc : h[a]? = some c) : c.slots = vs.toArray := by
  obtain ⟨c', A, e, -⟩ := F
  cases hc.symm.trans A.1
  exact e
theorem o_in (hj : ¬ j < 0) (hl : j.toNatClampNeg < vs.length) : ¬ (j < 0 ∨ vs.toArray.size ≤ j.toNatClampNeg) := fun q => q.elim hj fun r => by simp at r; omega
end OArrs
theorem o_getF (P : OPn p l e R s m args below meth c Z a0 EL n0 W0 own T h Ow cells slots) {R0 O n d : String} {index : Nat} {a : Addr} {v : Value} (w : (Jvm.Cond.fieldLink own index R0 n d).before a0 Z = true) (via : Via Z R0 O n d) (F : Fld Z h a O n d v) (hd : decode c.code pc = .ok (.getfield index, 3)) (hp : pc + 3 = pc')
    (k : ∀ T', OPn p l e R s m args below meth c Z a0 EL n0 W0 own T' h Ow cells slots → OG p e below m Pq T' pc' L (v :: S)) : OG p e below m Pq T pc L (.ref a :: S) := by
  subst hp
  exact P.tab (fun locs X hZ hown eT hx => getF (host := "") X hx hZ hown (Or.inl w) via eT F (g := mkF m pc L (.ref a :: S)) rfl rfl hd) k
theorem o_getS (P : OPn p l e R s m args below meth c Z a0 EL n0 W0 own T h Ow cells slots) {R0 O n d : String} {index : Nat} {v : Value} (w : (Jvm.Cond.fieldLink own index R0 n d).before a0 Z = true) (via : Via Z R0 O n d) (F : Sta Z Z.heap O n d v) (hd : decode c.code pc = .ok (.getstatic index, 3)) (hp : pc + 3 = pc')
    (k : ∀ T', OPn p l e R s m args below meth c Z a0 EL n0 W0 own T' h Ow cells slots → OG p e below m Pq T' pc' L (v :: S)) : OG p e below m Pq T pc L S := by
  subst hp
  have O := P.old
  exact P.tab (fun locs X hZ hown eT hx => getS2 (host := "") X hx hZ hown (Or.inl w) via eT (F.ext O.2) (g := mkF m pc L S) rfl hd) k
theorem o_putF (P : OPn p l e R s m args below meth c Z a0 EL n0 W0 own T h Ow cells slots) {R0 O n d C : String} {index kk : Nat} {a : Addr} {v v' old : Value} {ty : FieldType} (w : (Jvm.Cond.fieldLink own index R0 n d).before a0 Z = true) (via : Via Z R0 O n d) (F : Fld Z h a O n d old) (E : Exa Z h a C) (Lw : (Jvm.Cond.lays C O n d).before a0 Z = true ∨ ((Jvm.Cond.laysFinal C O n d).before a0 Z = true ∧ own = O ∧ meth.name = "<init>")) (wi : (Jvm.Cond.instantiable C kk).before a0 Z = true) (hty : parseFieldDescriptor d = some ty) (hn : narrow ty v = v') (hf : fits ty v' = true) (ha : a ∈ Ow) (hd : decode c.code pc = .ok (.putfield index, 3)) (hp : pc + 3 = pc')
    (k : ∀ T' h', OPn p l e R s m args below meth c Z a0 EL n0 W0 own T' h' Ow cells slots → Wr h h' a (Jvm.RoadKit.slotOf Z O n d) v' → OG p e below m Pq T' pc' L S) : OG p e below m Pq T pc L (v :: .ref a :: S) := by
  subst hp
  exact P.wr ha (fun locs X hZ hown eT hx => putFN X hx hZ hown w via eT F E Lw wi hty hn hf (g := mkF m pc L (v :: .ref a :: S)) rfl rfl hd) k
theorem o_new (P : OPn p l e R s m args below meth c Z a0 EL n0 W0 own T h Ow cells slots) {C : String} {index n : Nat} (fs : List (String × String × String × Value)) (w : (Jvm.Cond.classLink own index C).before a0 Z = true) (wi : (Jvm.Cond.instantiable C n).before a0 Z = true) (wz : (Jvm.Cond.initialized C).before a0 Z = true) (hL : OLd Z a0 C fs) (nd : (fs.map fun f => f.2.1).Nodup) (hd : decode c.code pc = .ok (.new index, 3)) (hp : pc + 3 = pc') (hc : cells + 1 ≤ R.cells) (hl : slots + n ≤ R.slots)
    (k : ∀ T' h' b, OPn p l e R s m args below meth c Z a0 EL n0 W0 own T' h' (b :: Ow) (cells + 1) (slots + n) → Keep h h' [] → h.size ≤ b → OObj Z h' b C fs → OG p e below m Pq T' pc' L (.ref b :: S)) : OG p e below m Pq T pc L S := by
  subst hp
  refine P.grow (G := fun h' b => OObj Z h' b C fs) (fun locs X hZ hown eT hx => ?_) k
  obtain ⟨T', h', X', e', E', A', D', -, st⟩ := newO X hx hZ hown w wi wz eT (g := mkF m pc L S) rfl hd hc hl
  exact ⟨T', h', X', e', E', A'.lt, OObj.new A' D' hL nd, st⟩
theorem o_newarr (P : OPn p l e R s m args below meth c Z a0 EL n0 W0 own T h Ow cells slots) {aty : ArrayType} {n : Int32} {cap : Nat} (w : (Jvm.Cond.arrayClass (newarray.typeOf aty)).before a0 Z = true) (hd : decode c.code pc = .ok (.newarray aty, 2)) (hn : ¬ n < 0) (hcap : n.toNatClampNeg ≤ cap) (hb : cap * 8 ≤ 536870912) (hp : pc + 2 = pc') (hc : cells + 1 ≤ R.cells) (hl : slots + cap ≤ R.slots)
    (k : ∀ T' h' b, OPn p l e R s m args below meth c Z a0 EL n0 W0 own T' h' (b :: Ow) (cells + 1) (slots + cap) → Keep h h' [] → h.size ≤ b → OArr Z h' b (newarray.typeOf aty) (List.replicate n.toNatClampNeg (defaultValue (newarray.typeOf aty))) → OG p e below m Pq T' pc' L (.ref b :: S)) : OG p e below m Pq T pc L (.int n :: S) := by
  subst hp
  refine P.grow (G := fun h' b => OArr Z h' b (newarray.typeOf aty) (List.replicate n.toNatClampNeg (defaultValue (newarray.typeOf aty)))) (fun locs X hZ hown eT hx => ?_) k
  obtain ⟨T', h', cA, X', e', E', A', st⟩ := newP X hx hZ w eT (g := mkF m pc L (.int n :: S)) rfl hd rfl hn hcap hb hc hl
  refine ⟨T', h', X', e', E', A'.lt, ⟨_, A', by simp [newA], by simpa using (back32 hn).2, fun v hv => ?_⟩, st⟩
  rw [List.eq_of_mem_replicate hv]; cases (newarray.typeOf aty) <;> rfl
theorem o_arrlen (P : OPn p l e R s m args below meth c Z a0 EL n0 W0 own T h Ow cells slots) {a : Addr} {ty : FieldType} {vs : List Value} {n : Int32} (A : OArr Z h a ty vs) (hd : decode c.code pc = .ok (.arraylength, 1)) (hn : vs.length.toInt32 = n) (hp : pc + 1 = pc') (k : OG p e below m Pq T pc' L (.int n :: S)) : OG p e below m Pq T pc L (.ref a :: S) := by
  subst hp hn
  obtain ⟨locs, X, hx, hlk, hS, hZ, hown, eT, r⟩ := P
  obtain ⟨cl, Ar, e1, -⟩ := A
  have st := X.arraylength hx (by rw [eT]; exact Ar.1) (State.isArrayOf_alike hZ.alike Ar.2.1) (g := mkF m pc L (.ref a :: S)) rfl rfl hd
  rw [e1] at st
  exact OG.st (fun t q => st t (by simpa using q)) k
theorem o_laload (P : OPn p l e R s m args below meth c Z a0 EL n0 W0 own T h Ow cells slots) {a : Addr} {vs : List Value} {j : Int32} {v : Value} (A : OArr Z h a .long vs) (hj : ¬ j < 0) (hv : vs[j.toNatClampNeg]? = some v) (hd : decode c.code pc = .ok (.laload, 1)) (hp : pc + 1 = pc') (k : OG p e below m Pq T pc' L (v :: S)) : OG p e below m Pq T pc L (.int j :: .ref a :: S) := by
  subst hp
  obtain ⟨locs, X, hx, hlk, hS, hZ, hown, eT, r⟩ := P
  obtain ⟨cl, Ar, e1, -⟩ := A
  have hlt : j.toNatClampNeg < vs.length := (List.getElem?_eq_some_iff.mp hv).1
  exact OG.st (fun t q => X.laload hx (by rw [eT]; exact Ar.1) (State.isArrayOf_alike hZ.alike Ar.2.1) Ar.2.2 (by rw [e1]; exact o_in hj hlt) (by rw [e1]; simpa using hv) (g := mkF m pc L (.int j :: .ref a :: S)) rfl rfl hd t q) k
theorem o_baload (P : OPn p l e R s m args below meth c Z a0 EL n0 W0 own T h Ow cells slots) {a : Addr} {vs : List Value} {j : Int32} {v : Value} (A : OArr Z h a .byte vs) (hj : ¬ j < 0) (hv : vs[j.toNatClampNeg]? = some v) (hd : decode c.code pc = .ok (.baload, 1)) (hp : pc + 1 = pc') (k : OG p e below m Pq T pc' L (v :: S)) : OG p e below m Pq T pc L (.int j :: .ref a :: S) := by
  subst hp
  obtain ⟨locs, X, hx, hlk, hS, hZ, hown, eT, r⟩ := P
  obtain ⟨cl, Ar, e1, -⟩ := A
  have hlt : j.toNatClampNeg < vs.length := (List.getElem?_eq_some_iff.mp hv).1
  exact OG.st (fun t q => X.baloadBytes hx (by rw [eT]; exact Ar.1) (State.isArrayOf_alike hZ.alike Ar.2.1) Ar.2.2 (by rw [e1]; exact o_in hj hlt) (by rw [e1]; simpa using hv) (g := mkF m pc L (.int j :: .ref a :: S)) rfl rfl hd t q) k
theorem o_lastore (P : OPn p l e R s m args below meth c Z a0 EL n0 W0 own T h Ow cells slots) {a : Addr} {vs : List Value} {j : Int32} {x : Int64} {v : Value} (A : OArr Z h a .long vs) (ha : a ∈ Ow) (hj : ¬ j < 0) (hlt : j.toNatClampNeg < vs.length) (hv : Value.long x = v) (hd : decode c.code pc = .ok (.lastore, 1)) (hp : pc + 1 = pc')
    (k : ∀ T' h', OPn p l e R s m args below meth c Z a0 EL n0 W0 own T' h' Ow cells slots → Wr h h' a j.toNatClampNeg v → OArr Z h' a .long (vs.set j.toNatClampNeg v) → OG p e below m Pq T' pc' L S) : OG p e below m Pq T pc L (.long x :: .int j :: .ref a :: S) := by
  subst hp hv
  obtain ⟨cl, Ar, e1, e2⟩ := id A
  exact P.wr ha (fun locs X hZ hown eT hx => stJ X hx hZ eT Ar (by rw [e1]; exact o_in hj hlt) (g := mkF m pc L (.long x :: .int j :: .ref a :: S)) rfl rfl hd) fun T' h' P' W' => k T' h' P' W' (A.set W' rfl)
theorem o_ldcI (P : OPn p l e R s m args below meth c Z a0 EL n0 W0 own T h Ow cells slots) {index : Nat} {v : Int32} (w : (Jvm.Cond.constant own index v).before a0 Z = true) (hd : decode c.code pc = .ok (.ldc index, 2)) (hp : pc + 2 = pc') (k : OG p e below m Pq T pc' L (.int v :: S)) : OG p e below m Pq T pc L S := by
  subst hp
  obtain ⟨locs, X, hx, hlk, hS, hZ, hown, eT, r⟩ := P
  exact OG.st (fun t q => X.ldcInt hx hown (mvT (s := s.setVm T.vm) hZ w) (g := mkF m pc L S) rfl hd t q) k
theorem o_ldc2L (P : OPn p l e R s m args below meth c Z a0 EL n0 W0 own T h Ow cells slots) {index : Nat} {v : Int64} (w : (Jvm.Cond.constantLong own index v).before a0 Z = true) (hd : decode c.code pc = .ok (.ldc2_w index, 3)) (hp : pc + 3 = pc') (k : OG p e below m Pq T pc' L (.long v :: S)) : OG p e below m Pq T pc L S := by
  subst hp
  obtain ⟨locs, X, hx, hlk, hS, hZ, hown, eT, r⟩ := P
  exact OG.st (fun t q => X.ldc2Long hx hown (mvT (s := s.setVm T.vm) hZ w) (g := mkF m pc L S) rfl hd t q) k
def OStr (Z : State) (h : Heap) (a b : Addr) (vs : List Value) : Prop := OObj Z h a "java/lang/String" [("java/lang/String", "value", "[B", .ref b), ("java/lang/String", "coder", "B", .int 0)] ∧ OArr Z h b .byte vs
theorem OStr.keep {a b : Addr} {vs : List Value} {ws : List Addr} (F : OStr Z h a b vs) (K : Keep h h' ws) (q : a ∉ ws) (r : b ∉ ws) : OStr Z h' a b vs := ⟨F.1.keep K q, F.2.keep K r⟩
theorem o_ldcS (P : OPn p l e R s m args below meth c Z a0 EL n0 W0 own T h Ow cells slots) {index : Nat} {text : String} {vs : List Value} {n : Nat} (w : (Jvm.Cond.stringLink own index text).before a0 Z = true) (wS : ∀ a ∈ Bundle.stringAtoms, a.before a0 Z = true) (hmem : (own, index) ∈ EL)
    (lv : Laid Z a0 "java/lang/String" "java/lang/String" "value" "[B") (lc : Laid Z a0 "java/lang/String" "java/lang/String" "coder" "B")
    (ht : (∀ c ∈ text.toList, c.toNat < 256) ∧ text.toList.map (fun c => Value.int (Jvm.Lit.byteI c.toNat.toUInt16)) = vs) (z : Int32) (hz : ¬ z < 0) (hl : z.toNatClampNeg = vs.length) (hd : decode c.code pc = .ok (.ldc index, 2)) (hp : pc + 2 = pc') (hn : 4 * text.toList.length ≤ n) (hbig : n ≤ 536870912) (hc : cells + 2 ≤ R.cells) (hs : slots + (n + 4) ≤ R.slots)
    (k : ∀ T' h' a b, OPn p l e R s m args below meth c Z a0 EL n0 W0 own T' h' Ow (cells + 2) (slots + (n + 4)) → Keep h h' [] → OStr Z h' a b vs → (∀ x ∈ Ow, x ≠ a ∧ x ≠ b) → OG p e below m Pq T' pc' L (.ref a :: S)) : OG p e below m Pq T pc L S := by
  subst hp
  obtain ⟨locs, X, hx, hlk, hS, hZ, hown, eT, N, hEL, C, O, K, W⟩ := P
  obtain ⟨a, T', h', k1, b, kk, X', e', E', hS', hk', hZ', hown', E1, F1, F2, A1, -, -, C', -, hne, st⟩ := ldcCH X hx hZ hown w wS eT hS.1 (Nat.le_refl _) hEL hmem C.1 ht hz hl (g := mkF m pc L S) rfl hd hn hbig hc hs
  have W' : ∀ x ∈ Ow, OOwn Z EL n0 W0 s.heap.size T'.vm h' x := fun x hx => by
    obtain ⟨q1, q2, q3, q4⟩ := W x hx
    exact ⟨q1, Nat.lt_of_lt_of_le q2 E'.1, C'.safe q2 q3, q4⟩
  have hS2 : OSn EL s T'.vm h'.size := ⟨⟨hS'.1, hS'.2.mono hk'⟩, fun e => by rw [e] at hmem; cases hmem⟩
  refine OG.st st (k T' h' a b ⟨locs, X', hx, hlk, hS2, hZ', hown', e', N, hEL, C.trans C', O.ext E', K.ext E', W'⟩ ((Keep.refl h []).ext E') ⟨⟨E1, fun f hf => ?_, fun i j f g hij hi hj => ?_⟩, OArr.ofArv A1 (by rw [hl])⟩ fun x hx => hne x (W' x hx).2.2.1)
  · rcases List.mem_cons.mp hf with rfl | hf
    · exact F2
    · rcases List.mem_cons.mp hf with rfl | hf
      · exact F1
      · cases hf
  · have s1 := slot_ne lv lc (t := .array .byte) (t' := .byte) (by decide) (by decide) (by decide)
    match i, j, hi, hj with
    | 0, 0, _, _ => exact absurd rfl hij
    | 1, 1, _, _ => exact absurd rfl hij
    | 0, 1, hi, hj => cases hi; cases hj; exact s1
    | 1, 0, hi, hj => cases hi; cases hj; exact s1.symm
theorem o_callS (P : OPn p l e R s m args below meth c Z a0 EL n0 W0 own T h Ow cells slots) {y : MethodName} {bytes : ByteArray} {maxL : Nat} {ret : Option FieldType} {rm : Room} {as' : Array Value} {Sf : List Addr} {Q : Option Value → Vm → Heap → Prop} {index W : Nat} (w1 : (Jvm.Cond.methodLink own index y).before a0 Z = true) (w2 : (Jvm.Cond.static y).before a0 Z = true) (w3 : (Jvm.Cond.initialized y.cls).before a0 Z = true) (w4 : (Jvm.Cond.code y bytes maxL ret).before a0 Z = true) (hy : y.cls ≠ "java/lang/invoke/MethodHandle" ∧ y.cls ≠ "java/lang/invoke/VarHandle") (hM : OCt l Z a0 EL n0 y bytes maxL ret rm [] as' h Sf Q) (hsf : ∀ x ∈ Sf, x ∈ Ow) (hml : L.size = c.maxLocals) (hf : rm.frames + 1 ≤ R.frames) (hl : W + (maxL + 11) + rm.locals ≤ R.locals) {argsL rest : List Value} (hlen : ∀ sig, parseMethodDescriptor y.desc = some sig → argsL.length = sig.parameters.length) (hst : S = argsL.reverse ++ rest) (has : argsL.toArray = as') (hW : (rest.map fun v => v.category).sum ≤ W) (hd : decode c.code pc = .ok (.invokestatic index, 3)) (hp : pc + 3 = pc') (hc : cells + rm.cells ≤ R.cells) (hs : slots + rm.slots ≤ R.slots)
    (k : ∀ T' h' v, OPn p l e R s m args below meth c Z a0 EL n0 W0 own T' h' Ow (cells + rm.cells) (slots + rm.slots) → Keep h h' Sf → Q v T'.vm h' → OG p e below m Pq T' pc' L (v.toList ++ rest)) : OG p e below m Pq T pc L S := by
  subst hp
  obtain ⟨locs, X, hx, hlk, hS, hZ, hown, eT, N, hEL, C, O, K, W'⟩ := P
  have hb := OCt.back (p := p) (e := e) (below := below) (s := s) (args := args) (T := T) (len := 3) (W := W) (R := R) O hEL (fun x hx => ⟨(W' x (hsf x hx)).1, (W' x (hsf x hx)).2.1, (W' x (hsf x hx)).2.2.1⟩) hM hZ w4 w3 hf hl C.1
  obtain ⟨v, vm₁, B, hW1, X', hSi, hle, hq, st⟩ := callSS X hx (y := y) hown (mvT (s := s.setVm T.vm) hZ w1) (mvT (s := s.setVm T.vm) hZ w2) (mvT (s := s.setVm T.vm) hZ w3) (mvT (s := s.setVm T.vm) hZ w4) hy hb (g := mkF m pc L S) rfl hml (argsL := argsL) (rest := rest) hlen hst (by show 2 * 0 + _ ≤ _; omega) hd (fun _ _ => ⟨has, eT, hc, hs⟩)
  obtain ⟨P', K', q⟩ := OPn.behind (y := y) hx hlk hS hZ hown eT N hEL C O K W' hsf X' hSi hle hq
  exact OG.st (fun t r => st.trans r) (k _ _ v P' K' q)
theorem o_callI (P : OPn p l e R s m args below meth c Z a0 EL n0 W0 own T h Ow cells slots) {y : MethodName} {bytes : ByteArray} {maxL : Nat} {rm : Room} {as' : Array Value} {Sf : List Addr} {Q : Option Value → Vm → Heap → Prop} {index W : Nat} {a : Addr} (hy1 : y.name = "<init>") (w1 : (Jvm.Cond.methodLink own index y).before a0 Z = true) (w2 : (Jvm.Cond.instanceMethod y).before a0 Z = true) (w3 : (Jvm.Cond.initialized y.cls).before a0 Z = true) (w4 : (Jvm.Cond.code y bytes maxL none).before a0 Z = true) (hy : y.cls ≠ "java/lang/invoke/MethodHandle" ∧ y.cls ≠ "java/lang/invoke/VarHandle") (hM : OCt l Z a0 EL n0 y bytes maxL none rm [] as' h Sf Q) (hsf : ∀ x ∈ Sf, x ∈ Ow) (hml : L.size = c.maxLocals) (hf : rm.frames + 1 ≤ R.frames) (hl : W + (maxL + 11) + rm.locals ≤ R.locals) {argsL rest : List Value} (hlen : ∀ sig, parseMethodDescriptor y.desc = some sig → argsL.length = sig.parameters.length) (hst : S = argsL.reverse ++ .ref a :: rest) (has : (.ref a :: argsL).toArray = as') (hW : (rest.map fun v => v.category).sum ≤ W) (hd : decode c.code pc = .ok (.invokespecial index, 3)) (hp : pc + 3 = pc') (hc : cells + rm.cells ≤ R.cells) (hs : slots + rm.slots ≤ R.slots)
    (k : ∀ T' h' v, OPn p l e R s m args below meth c Z a0 EL n0 W0 own T' h' Ow (cells + rm.cells) (slots + rm.slots) → Keep h h' Sf → Q v T'.vm h' → OG p e below m Pq T' pc' L (v.toList ++ rest)) : OG p e below m Pq T pc L S := by
  subst hp
  obtain ⟨locs, X, hx, hlk, hS, hZ, hown, eT, N, hEL, C, O, K, W'⟩ := P
  have hb := OCt.back (p := p) (e := e) (below := below) (s := s) (args := args) (T := T) (len := 3) (W := W) (R := R) O hEL (fun x hx => ⟨(W' x (hsf x hx)).1, (W' x (hsf x hx)).2.1, (W' x (hsf x hx)).2.2.1⟩) hM hZ w4 w3 hf hl C.1
  obtain ⟨v, vm₁, B, hW1, X', hSi, hle, hq, st⟩ := X.specialBackS hx (y := y) hy1 hown (mvT (s := s.setVm T.vm) hZ w1) (mvT (s := s.setVm T.vm) hZ w2) (mvT (s := s.setVm T.vm) hZ w4) hy hb (g := mkF m pc L S) rfl hml (Steps.refl _) (a := a) (argsL := argsL) (rest := rest) hlen hst (by show 2 * 0 + _ ≤ _; omega) hd (fun _ _ => ⟨has, eT, hc, hs⟩)
  obtain ⟨P', K', q⟩ := OPn.behind (y := y) hx hlk hS hZ hown eT N hEL C O K W' hsf X' hSi hle hq
  exact OG.st (fun t r => st.trans r) (k _ _ v P' K' q)
theorem o_callV (P : OPn p l e R s m args below meth c Z a0 EL n0 W0 own T h Ow cells slots) {y : MethodName} {bytes : ByteArray} {maxL : Nat} {ret : Option FieldType} {rm : Room} {as' : Array Value} {Sf : List Addr} {Q : Option Value → Vm → Heap → Prop} {index W : Nat} {x : MethodName} {a : Addr} {Cr : String} (w1 : (Jvm.Cond.methodLink own index x).before a0 Z = true) (w2 : (Jvm.Cond.declares x).before a0 Z = true) (nf : ∀ U : State, Z.Warmed39 U.vm → NotFace U x) (w5 : (Jvm.Cond.selects Cr x y).before a0 Z = true) (w6 : (Jvm.Cond.instanceMethod y).before a0 Z = true) (w3 : (Jvm.Cond.initialized y.cls).before a0 Z = true) (w4 : (Jvm.Cond.code y bytes maxL ret).before a0 Z = true) (hy : x.cls ≠ "java/lang/invoke/MethodHandle" ∧ x.cls ≠ "java/lang/invoke/VarHandle") (Er : Exa Z h a Cr) (hM : OCt l Z a0 EL n0 y bytes maxL ret rm [] as' h Sf Q) (hsf : ∀ x ∈ Sf, x ∈ Ow) (hml : L.size = c.maxLocals) (hf : rm.frames + 1 ≤ R.frames) (hl : W + (maxL + 11) + rm.locals ≤ R.locals) {argsL rest : List Value} (hlen : ∀ sig, parseMethodDescriptor x.desc = some sig → argsL.length = sig.parameters.length) (hst : S = argsL.reverse ++ .ref a :: rest) (has : (.ref a :: argsL).toArray = as') (hW : (rest.map fun v => v.category).sum ≤ W) (hd : decode c.code pc = .ok (.invokevirtual index, 3)) (hp : pc + 3 = pc') (hc : cells + rm.cells ≤ R.cells) (hs : slots + rm.slots ≤ R.slots)
    (k : ∀ T' h' v, OPn p l e R s m args below meth c Z a0 EL n0 W0 own T' h' Ow (cells + rm.cells) (slots + rm.slots) → Keep h h' Sf → Q v T'.vm h' → OG p e below m Pq T' pc' L (v.toList ++ rest)) : OG p e below m Pq T pc L S := by
  subst hp
  obtain ⟨locs, X, hx, hlk, hS, hZ, hown, eT, N, hEL, C, O, K, W'⟩ := P
  have hb := OCt.back (p := p) (e := e) (below := below) (s := s) (args := args) (T := T) (len := 3) (W := W) (R := R) O hEL (fun x hx => ⟨(W' x (hsf x hx)).1, (W' x (hsf x hx)).2.1, (W' x (hsf x hx)).2.2.1⟩) hM hZ w4 w3 hf hl C.1
  obtain ⟨cB, kB, q1, q2, q3⟩ := isOf (s := s.setVm T.vm) hZ eT Er
  obtain ⟨v, vm₁, B, hW1, X', hSi, hle, hq, st⟩ := X.virtualBackS hx (y := x) (z := y) hown (mvT (s := s.setVm T.vm) hZ w1) (mvT (s := s.setVm T.vm) hZ w2) (nf (s.setVm T.vm) hZ) (mvT (s := s.setVm T.vm) hZ w5) (mvT (s := s.setVm T.vm) hZ w6) hy hb q1 q3 (g := mkF m pc L S) rfl hml (Steps.refl _) (argsL := argsL) (rest := rest) hlen hst (by show 2 * 0 + _ ≤ _; omega) hd (fun _ _ => ⟨has, eT, hc, hs⟩)
  obtain ⟨P', K', q⟩ := OPn.behind (y := y) hx hlk hS hZ hown eT N hEL C O K W' hsf X' hSi hle hq
  exact OG.st (fun t r => st.trans r) (k _ _ v P' K' q)
theorem o_initO (P : OPn p l e R s m args below meth c Z a0 EL n0 W0 own T h Ow cells slots) {index W : Nat} {a : Addr} (w1 : (Jvm.Cond.methodLink own index Lib.objectInit).before a0 Z = true) (w2 : (Jvm.Cond.instanceMethod Lib.objectInit).before a0 Z = true) (w3 : (Jvm.Cond.code Lib.objectInit ⟨#[0xb1]⟩ 1 none).before a0 Z = true) (hml : L.size = c.maxLocals) (hf : 1 ≤ R.frames) (hW : (S.map fun v => v.category).sum ≤ W) (hl : W + 12 ≤ R.locals) (hd : decode c.code pc = .ok (.invokespecial index, 3)) (hp : pc + 3 = pc') (k : ∀ T', OPn p l e R s m args below meth c Z a0 EL n0 W0 own T' h Ow cells slots → OG p e below m Pq T' pc' L S) : OG p e below m Pq T pc L (.ref a :: S) := by
  subst hp
  exact P.tab (fun locs X hZ hown eT hx => initO X hx hZ hown w1 w2 w3 eT (g := mkF m pc L (.ref a :: S)) rfl hml rfl hd hf (by show 2 * 0 + _ ≤ _; omega) hl) k
theorem o_sf0 : ∀ x ∈ ([] : List Addr), x ∈ Ow := fun _ q => nomatch q
theorem o_sfS {x : Addr} {Sf : List Addr} (h1 : x ∈ Ow) (h2 : ∀ y ∈ Sf, y ∈ Ow) : ∀ y ∈ x :: Sf, y ∈ Ow := fun y q => (List.mem_cons.mp q).elim (fun e => e ▸ h1) (h2 y)
end OwnLayer
theorem o_catR (a : Addr) : (Value.ref a).category = 1 := rfl
theorem o_catN : Value.null.category = 1 := rfl
theorem o_catI (x : Int32) : (Value.int x).category = 1 := rfl
theorem o_catJ (x : Int64) : (Value.long x).category = 2 := rfl
theorem o_catD (x : UInt64) : (Value.double x).category = 2 := rfl
theorem oi_nat {i : Nat} (h : i < 2147483648) : i.toInt32.toNatClampNeg = i := Int32.toNatClampNeg_ofNat_of_lt h
theorem oi_int {i : Nat} (h : i < 2147483648) : i.toInt32.toInt = i := Int32.toInt_ofNat_of_lt h
theorem oi_nn {i : Nat} (h : i < 2147483648) : ¬ i.toInt32 < 0 := by
  rw [Int32.lt_iff_toInt_lt, oi_int h]; have : (0 : Int32).toInt = 0 := rfl; omega
theorem oi_succ (i : Nat) : i.toInt32 + (1 : Int32) = (i + 1).toInt32 := (Int32.ofNat_add i 1).symm
theorem oi_lt {i j : Nat} (hi : i < 2147483648) (hj : j < 2147483648) : i.toInt32 < j.toInt32 ↔ i < j := by
  rw [Int32.lt_iff_toInt_lt, oi_int hi, oi_int hj]; omega
abbrev och (cs : List Int32) : List Value := cs.map fun c => .int c
abbrev obyte (c : Int32) : Int32 := c.toInt8.toInt32
def OLat (cs : List Int32) : Prop := ∀ c ∈ cs, ¬ c < 0 ∧ ¬ (255 : Int32) < c
theorem OLat.nil : OLat [] := fun _ q => nomatch q
theorem OLat.cons {c : Int32} {cs : List Int32} (h : ¬ c < 0 ∧ ¬ (255 : Int32) < c) (r : OLat cs) : OLat (c :: cs) := fun x hx => (List.mem_cons.mp hx).elim (fun e => e ▸ h) (r x)
theorem och_get {cs : List Int32} {i : Nat} {c : Int32} (h : cs[i]? = some c) : (och cs)[i]? = some (.int c) := by simp [h]
def OSv (Z : State) (h : Heap) (v : Value) (o : Option (List Int32)) : Prop := (v = .null ∧ o = none) ∨ ∃ (a b : Addr) (us : List Int32), v = .ref a ∧ o = some us ∧ OStr Z h a b (och us)
theorem OSv.isRef {Z : State} {h : Heap} {v : Value} {o : Option (List Int32)} (F : OSv Z h v o) : v.isRef = true := by
  rcases F with ⟨rfl, -⟩ | ⟨a, b, us, rfl, -⟩ <;> rfl
theorem OSv.keep0 {Z : State} {h h' : Heap} {v : Value} {o : Option (List Int32)} (F : OSv Z h v o) (K : Keep h h' []) : OSv Z h' v o := by
  rcases F with F | ⟨a, b, us, e1, e2, F⟩
  · exact Or.inl F
  · exact Or.inr ⟨a, b, us, e1, e2, F.keep K nin0 nin0⟩
theorem OObj.zero {Z : State} {h : Heap} {a : Addr} {C : String} (E : Exa Z h a C) : OObj Z h a C [] := ⟨E, fun f hf => (nomatch hf), fun i j f g hij hi hj => by simp at hi⟩
section OStart
variable {Z : State} {args : Array Value} {t F : Term} {a : Addr} {cl : Cell} {ty : FieldType} {n : Int32} {vs : List Value}
theorem o_fint {C nm d : String} (et : t.eval args Z none [] Z = some (.ref a)) (h : (Jvm.Cond.eq (.field t C nm d) (.int n)).value args Z none Z [] = some true) : Fld Z Z.heap a C nm d (.int n) := Fld.start ((fld_at et).symm.trans (eqv_i (Term.int_eval n) h))
theorem OArr.start (hf : Fit Z) (A : Arr Z Z.heap a cl ty) (hl : cl.slots.size < 2 ^ 31 ∧ cl.slots.size.toInt32 = n) (hz : ¬ n < 0) (hn : n.toNatClampNeg = vs.length) (H : HasL cl 0 vs) : OArr Z Z.heap a ty vs := OArr.ofArv (dv := .null) (Arv.start hf A hl.1 hl.2 hz hn H) hn.symm
end OStart
section OClone
variable {p : Program} {l : Launch} {e : Env} {R : Room} {s : State} {m : MethodId} {args : Array Value} {below : List Frame} {meth : Method} {c : Code} {T T' : State} {cells slots : Nat} {Z : State} {a0 : Array Value} {EL : List (String × Nat)} {n0 : Nat} {W0 : List Addr} {own : String} {h h' : Heap} {Ow : List Addr} {Pq : Outcome → State → Prop} {pc pc' : Nat} {L : Array Slot} {S : List Value}
end OClone
section OwnLayer7
variable {p : Program} {l : Launch} {e : Env} {R : Room} {s : State} {m : MethodId} {args : Array Value} {below : List Frame} {meth : Method} {c : Code} {T T' : State} {cells slots cells' slots' : Nat} {Z : State} {a0 : Array Value} {EL : List (String × Nat)} {n0 : Nat} {W0 : List Addr} {own : String} {h h' : Heap} {Ow Ow' : List Addr} {Pq : Outcome → State → Prop} {pc pc' : Nat} {L L' : Array Slot} {S S' : List Value}
def OAr (Z : State) (h : Heap) (a : Addr) (C N : String) : Prop := Exa Z h a N ∧ ∃ cell : Cell, h[a]? = some cell ∧ Ovr Z cell.cls C
theorem OAr.keep {a : Addr} {C N : String} {ws : List Addr} (O : OAr Z h a C N) (K : Keep h h' ws) : OAr Z h' a C N := by
  obtain ⟨E, cell, h1, h2⟩ := O
  obtain ⟨c2, g1, g2, -⟩ := K.2.2 _ _ h1
  exact ⟨E.keep K, c2, g1, by rw [g2]; exact h2⟩
theorem OPn.wrA (P : OPn p l e R s m args below meth c Z a0 EL n0 W0 own T h Ow cells slots) {b : Addr} {G : Heap → Prop} (hb : b ∈ Ow) (f : ∀ locs, Stand p l e R (s.setVm T.vm) m args below meth c T locs cells slots → Z.Warmed39 (s.setVm T.vm).vm → (s.setVm T.vm).vm.findClass own = some m.cls → T.heap = h → p.tables.exec = Jvm.exec → Fr n0 locs → Old Z n0 h → n0 ≤ b → ∃ T' h' L2, Stand p l e R (s.setVm T.vm) m args below meth c T' L2 cells slots ∧ T'.heap = h' ∧ Fr n0 L2 ∧ Keep h h' [b] ∧ G h' ∧ ∀ target, Steps p.tables e below (T'.setTop (mkF m pc' L' S')) target → Steps p.tables e below (T.setTop (mkF m pc L S)) target)
    (k : ∀ T' h', OPn p l e R s m args below meth c Z a0 EL n0 W0 own T' h' Ow cells slots → Keep h h' [b] → G h' → OG p e below m Pq T' pc' L' S') : OG p e below m Pq T pc L S := by
  obtain ⟨locs, X, hx, hlk, hS, hZ, hown, eT, N, hEL, C, O, K, W⟩ := P
  obtain ⟨q1, q2, q3, q4⟩ := W b hb
  obtain ⟨T', h', L2, X', e', N', Kb, g, st⟩ := f locs X hZ hown eT hx N O q1
  have hs : ∀ x ∈ [b], Safe Z EL T.vm h x := fun x hx => by rw [List.mem_singleton.mp hx]; exact q3
  refine OG.st st (k T' h' (OPn.fin hx hlk hS hZ hown hEL X' e' Kb.1 N' (C.trans (CHr.keep Kb hs C.1)) (O.keep Kb fun x hx => by rw [List.mem_singleton.mp hx]; exact q1) (K.trans Kb fun x hx => by rw [List.mem_singleton.mp hx]; exact q4) fun x hx => ?_) Kb g)
  obtain ⟨r1, r2, r3, r4⟩ := W x hx
  exact ⟨r1, Nat.lt_of_lt_of_le r2 Kb.1, Safe.keep Kb hs C.1 r3, r4⟩
theorem o_lenI {n : Nat} (q : n < 2147483648) : ¬ (n.toInt32 < 0) ∧ n.toInt32.toNatClampNeg = n := by
  have e1 : n.toInt32.toInt = n := len_toInt (by simpa using q)
  refine ⟨?_, by simp only [Int32.toNatClampNeg, e1]; rfl⟩
  rw [Int32.lt_iff_toInt_lt, e1]; show ¬ (n : Int) < 0; omega
theorem o_cpA (P : OPn p l e R s m args below meth c Z a0 EL n0 W0 own T h Ow cells slots) {index W : Nat} {a b : Addr} {ty ty' : FieldType} {vs vd us : List Value} {sp dp nn : Int32} (w1 : (Jvm.Cond.methodLink own index Jvm.Stand.acN).before a0 Z = true) (w2 : (Jvm.Cond.native Jvm.Stand.acN).before a0 Z = true) (w3 : (Jvm.Cond.static Jvm.Stand.acN).before a0 Z = true) (w4 : (Jvm.Cond.initialized "java/lang/System").before a0 Z = true) (A : OArr Z h a ty vs) (B : OArr Z h b ty' vd) (hb : b ∈ Ow) (hty : (ty = ty' ∧ refKind ty = false) ∨ (refKind ty = true ∧ refKind ty' = true ∧ StoL Z h b us)) (h1 : ¬ sp < 0) (h2 : ¬ dp < 0) (h3 : ¬ nn < 0) (h4 : sp.toNatClampNeg + nn.toNatClampNeg ≤ vs.length) (h5 : dp.toNatClampNeg + nn.toNatClampNeg ≤ vd.length) (hus : us = (vs.drop sp.toNatClampNeg).take nn.toNatClampNeg)
    (hml : L.size = c.maxLocals) (hf : 1 ≤ R.frames) (hW : (S.map fun v => v.category).sum ≤ W) (hl : W + (nativeFrameWords "java/lang/System" "arraycopy" 5 + 11) ≤ R.locals) (hd : decode c.code pc = .ok (.invokestatic index, 3)) (hp : pc + 3 = pc')
    (k : ∀ T' h', OPn p l e R s m args below meth c Z a0 EL n0 W0 own T' h' Ow cells slots → Keep h h' [b] → OArr Z h' b ty' (vd.take dp.toNatClampNeg ++ us ++ vd.drop (dp.toNatClampNeg + nn.toNatClampNeg)) → OG p e below m Pq T' pc' L S) : OG p e below m Pq T pc L (.int nn :: .int dp :: .ref b :: .int sp :: .ref a :: S) := by
  subst hp
  have la := A.len; have lb := B.len
  have za : ¬ (vs.length.toInt32 < 0) ∧ vs.length.toInt32.toNatClampNeg = vs.length := o_lenI la
  have zb : ¬ (vd.length.toInt32 < 0) ∧ vd.length.toInt32.toNatClampNeg = vd.length := o_lenI lb
  obtain ⟨ka, A'⟩ := A.toArv (dv := .null) za.1 za.2
  obtain ⟨kb, B'⟩ := B.toArv (dv := .null) zb.1 zb.2
  have hus' : us = (List.range nn.toNatClampNeg).map fun i => vs.getD (sp.toNatClampNeg + i) .null := by
    rw [hus]; apply List.ext_getElem?; intro i
    by_cases q : i < nn.toNatClampNeg
    · have q2 : sp.toNatClampNeg + i < vs.length := by omega
      simp [List.getElem?_take_of_lt q, List.getElem?_drop, q, List.getD_eq_getElem?_getD, List.getElem?_eq_getElem q2]
    · rw [List.getElem?_eq_none (by simp; omega), List.getElem?_eq_none (by simp; omega)]
  refine P.wrA hb (fun locs X hZ hown eT hx N O ge => ?_) fun T' h' P' K B2 => k T' h' P' K B2
  obtain ⟨T', h', L2, X', e', N', K', B2, st⟩ := cpA X hx hZ hown w1 w2 w3 w4 eT A' B' hty h1 h2 h3 (by rw [za.2]; exact h4) (by rw [zb.2]; exact h5) hus' h5 N ge (g := mkF m pc L (.int nn :: .int dp :: .ref b :: .int sp :: .ref a :: S)) rfl hml rfl hd hf (by show 2 * 0 + _ ≤ _; omega) hl
  refine ⟨T', h', L2, X', e', N', K', OArr.ofArv B2 ?_, st⟩
  rw [zb.2, hus]; simp; omega
theorem OPn.moreA (P : OPn p l e R s m args below meth c Z a0 EL n0 W0 own T h Ow cells slots) {x : Addr} {ty : FieldType} {vs : List Value} (A : OArr Z h x ty vs) (ht : ty ≠ .byte) (h1 : n0 ≤ x) (h2 : s.heap.size ≤ x) : OPn p l e R s m args below meth c Z a0 EL n0 W0 own T h (x :: Ow) cells slots := by
  have lt := A.lt
  obtain ⟨cl, Ar, -⟩ := A
  exact P.more ⟨h1, lt, Safe.arr P.warm.alike Ar ht⟩ h2
theorem OPn.moreO (P : OPn p l e R s m args below meth c Z a0 EL n0 W0 own T h Ow cells slots) {x : Addr} {C : String} (E : Exa Z h x C) (g1 : C ≠ "java/lang/String") (g2 : C ≠ "[B") (h1 : n0 ≤ x) (h2 : s.heap.size ≤ x) : OPn p l e R s m args below meth c Z a0 EL n0 W0 own T h (x :: Ow) cells slots :=
  P.more ⟨h1, E.lt, Safe.exa P.warm.alike E g1 g2⟩ h2
theorem o_callP (P : OPn p l e R s m args below meth c Z a0 EL n0 W0 own T h Ow cells slots) {y : MethodName} {bytes : ByteArray} {maxL : Nat} {ret : Option FieldType} {rm : Room} {as' : Array Value} {Sf : List Addr} {Q : Option Value → Vm → Heap → Prop} {index W : Nat} {a : Addr} {Cr : String} (w1 : (Jvm.Cond.methodLink own index y).before a0 Z = true) (w6 : (Jvm.Cond.instanceMethod y).before a0 Z = true) (w5 : (Jvm.Cond.selects y.cls y y).before a0 Z = true) (w7 : (Jvm.Cond.privateMethod y).before a0 Z = true) (w3 : (Jvm.Cond.initialized y.cls).before a0 Z = true) (w4 : (Jvm.Cond.code y bytes maxL ret).before a0 Z = true) (hy : y.cls ≠ "java/lang/invoke/MethodHandle" ∧ y.cls ≠ "java/lang/invoke/VarHandle") (Er : Exa Z h a Cr) (hM : OCt l Z a0 EL n0 y bytes maxL ret rm [] as' h Sf Q) (hsf : ∀ x ∈ Sf, x ∈ Ow) (hml : L.size = c.maxLocals) (hf : rm.frames + 1 ≤ R.frames) (hl : W + (maxL + 11) + rm.locals ≤ R.locals) {argsL rest : List Value} (hlen : ∀ sig, parseMethodDescriptor y.desc = some sig → argsL.length = sig.parameters.length) (hst : S = argsL.reverse ++ .ref a :: rest) (has : (.ref a :: argsL).toArray = as') (hW : (rest.map fun v => v.category).sum ≤ W) (hd : decode c.code pc = .ok (.invokevirtual index, 3)) (hp : pc + 3 = pc') (hc : cells + rm.cells ≤ R.cells) (hs : slots + rm.slots ≤ R.slots)
    (k : ∀ T' h' v, OPn p l e R s m args below meth c Z a0 EL n0 W0 own T' h' Ow (cells + rm.cells) (slots + rm.slots) → Keep h h' Sf → Q v T'.vm h' → OG p e below m Pq T' pc' L (v.toList ++ rest)) : OG p e below m Pq T pc L S := by
  subst hp
  obtain ⟨locs, X, hx, hlk, hS, hZ, hown, eT, N, hEL, C, O, K, W'⟩ := P
  have hb := OCt.back (p := p) (e := e) (below := below) (s := s) (args := args) (T := T) (len := 3) (W := W) (R := R) O hEL (fun x hx => ⟨(W' x (hsf x hx)).1, (W' x (hsf x hx)).2.1, (W' x (hsf x hx)).2.2.1⟩) hM hZ w4 w3 hf hl C.1
  obtain ⟨cl, kc, e1, e2, e3, e4, -⟩ := Er
  obtain ⟨v, vm₁, B, hW1, X', hSi, hle, hq, st⟩ := X.privateBackS hx (y := y) hown (mvT (s := s.setVm T.vm) hZ w1) (mvT (s := s.setVm T.vm) hZ w6) (mvT (s := s.setVm T.vm) hZ w5) (Cond.privateMethod_at (mvP (args := args) (s := s.setVm T.vm) hZ w7)) (mvT (s := s.setVm T.vm) hZ w4) hy hb (g := mkF m pc L S) rfl hml (Steps.refl _) (a := a) (cell := cl) (by rw [eT]; exact e1) (fun q r => by rw [r] at e4; cases e4) (argsL := argsL) (rest := rest) hlen hst (by show 2 * 0 + _ ≤ _; omega) hd (fun _ _ => ⟨has, eT, hc, hs⟩)
  obtain ⟨P', K', q⟩ := OPn.behind (y := y) hx hlk hS hZ hown eT N hEL C O K W' hsf X' hSi hle hq
  exact OG.st (fun t r => st.trans r) (k _ _ v P' K' q)
theorem o_callQ (P : OPn p l e R s m args below meth c Z a0 EL n0 W0 own T h Ow cells slots) {y : MethodName} {bytes : ByteArray} {maxL : Nat} {ret : Option FieldType} {rm : Room} {as' : Array Value} {Sf : List Addr} {Q : Option Value → Vm → Heap → Prop} {index W : Nat} {a : Addr} {Cr : String} (w1 : (Jvm.Cond.methodLink own index y).before a0 Z = true) (w6 : (Jvm.Cond.instanceMethod y).before a0 Z = true) {kk : Nat} (w5 : (Jvm.Cond.instantiable y.cls kk).before a0 Z = true) (w7 : (Jvm.Cond.privateMethod y).before a0 Z = true) (w3 : (Jvm.Cond.initialized y.cls).before a0 Z = true) (w4 : (Jvm.Cond.code y bytes maxL ret).before a0 Z = true) (hy : y.cls ≠ "java/lang/invoke/MethodHandle" ∧ y.cls ≠ "java/lang/invoke/VarHandle") (Er : Exa Z h a Cr) (hM : OCt l Z a0 EL n0 y bytes maxL ret rm [] as' h Sf Q) (hsf : ∀ x ∈ Sf, x ∈ Ow) (hml : L.size = c.maxLocals) (hf : rm.frames + 1 ≤ R.frames) (hl : W + (maxL + 11) + rm.locals ≤ R.locals) {argsL rest : List Value} (hlen : ∀ sig, parseMethodDescriptor y.desc = some sig → argsL.length = sig.parameters.length) (hst : S = argsL.reverse ++ .ref a :: rest) (has : (.ref a :: argsL).toArray = as') (hW : (rest.map fun v => v.category).sum ≤ W) (hd : decode c.code pc = .ok (.invokevirtual index, 3)) (hp : pc + 3 = pc') (hc : cells + rm.cells ≤ R.cells) (hs : slots + rm.slots ≤ R.slots)
    (k : ∀ T' h' v, OPn p l e R s m args below meth c Z a0 EL n0 W0 own T' h' Ow (cells + rm.cells) (slots + rm.slots) → Keep h h' Sf → Q v T'.vm h' → OG p e below m Pq T' pc' L (v.toList ++ rest)) : OG p e below m Pq T pc L S := by
  subst hp
  obtain ⟨locs, X, hx, hlk, hS, hZ, hown, eT, N, hEL, C, O, K, W'⟩ := P
  have hb := OCt.back (p := p) (e := e) (below := below) (s := s) (args := args) (T := T) (len := 3) (W := W) (R := R) O hEL (fun x hx => ⟨(W' x (hsf x hx)).1, (W' x (hsf x hx)).2.1, (W' x (hsf x hx)).2.2.1⟩) hM hZ w4 w3 hf hl C.1
  obtain ⟨cl, kc, e1, e2, e3, e4, -⟩ := Er
  have hinst := mvT (args := args) (s := s.setVm T.vm) hZ w6
  obtain ⟨mk, methM, hnamed, hmethM, hstM, habM⟩ := Cond.instanceMethod_spec hinst
  obtain ⟨methM', cM, hmethM', -, -, -, -, -, -, hsigM⟩ := Cond.code_spec hnamed (mvT (args := args) (s := s.setVm T.vm) hZ w4)
  cases hmethM.symm.trans hmethM'
  obtain ⟨t0, kt, g1, g2, g3, g4, -, -⟩ := Cond.instantiable_spec (mvT (args := args) (s := s.setVm T.vm) hZ w5)
  have hcl : (s.setVm T.vm).vm.findClass y.cls = some mk.cls := findClass_of_methodNamed hnamed
  cases hcl.symm.trans g1
  have gI : kt.isInterface = false := by
    cases q : kt.isInterface
    · rfl
    · rw [q] at g4; cases g4
  have hpr := Cond.privateMethod_at (mvP (args := args) (s := s.setVm T.vm) hZ w7)
  have hselP : selectMethod e.platform (s.setVm T.vm).vm cl.cls mk = .method mk := selectMethod_private hmethM (hpr mk methM hnamed hmethM)
  obtain ⟨vm₁, X₁, hstep₁⟩ := X.invokevirtual hx hown (mvT (s := s.setVm T.vm) hZ w1) hnamed hmethM hstM g2 gI hy (a := a) (cell := cl) (by rw [eT]; exact e1) (fun q r => by rw [r] at e4; cases e4) hselP hmethM habM g2 gI (g := mkF m pc L S) rfl (argsL := argsL) (rest := rest) (hlen _ hsigM) hst hd
  obtain ⟨v, B, X', hSi, hle, hq, hst2⟩ := hb m meth c ⟨T.setVm vm₁, locs, cells, slots⟩ { mkF m pc L S with stack := rest } (.invokevirtual index) mk (.ref a :: argsL).toArray X₁ rfl hml hd (by show 2 * 0 + (rest.map fun v => v.category).sum ≤ W; omega) (X₁.named hnamed) ⟨has, eT, hc, hs⟩
  have st : Steps p.tables e below (T.setTop (mkF m pc L S)) (B.U.setTop { mkF m pc L S with pc := pc + 3, stack := v.toList ++ rest }) := hstep₁ _ fun acts => by rw [doInvoke_state]; exact hst2
  obtain ⟨P', K', q⟩ := OPn.behind (y := y) hx hlk hS hZ hown eT N hEL C O K W' hsf X' hSi hle hq
  exact OG.st (fun t r => st.trans r) (k _ _ v P' K' q)
theorem o_ldcWI (P : OPn p l e R s m args below meth c Z a0 EL n0 W0 own T h Ow cells slots) {index : Nat} {v : Int32} (w : (Jvm.Cond.constant own index v).before a0 Z = true) (hd : decode c.code pc = .ok (.ldc_w index, 3)) (hp : pc + 3 = pc') (k : OG p e below m Pq T pc' L (.int v :: S)) : OG p e below m Pq T pc L S := by
  subst hp
  obtain ⟨locs, X, hx, hlk, hS, hZ, hown, eT, r⟩ := P
  have hwc : (Jvm.Cond.constant own index v).before args (s.setVm T.vm) = true := mvT (s := s.setVm T.vm) hZ w
  have hown' : (s.setVm T.vm).vm.findClass own = some m.cls := hown
  obtain ⟨kc, cf, bytes, hk, hcf, hcp, hbb⟩ := Cond.constant_spec hown' hwc
  obtain ⟨k', hk', he⟩ := X.warmed.alike.2.2 _ _ hk
  refine OG.st (fun t q => ?_) k
  have X' : At T (mkF m pc L S).method c below := X.here
  have hd' : decode c.code (mkF m pc L S).pc = .ok (.ldc_w index, 3) := hd
  jvm_step X' [hx, hd', Op.ldc_w.wp_int (s := T) (f := mkF m pc L S) X.here.top hk' (by rw [he]; exact hcf) hcp, hbb]
  exact q
end OwnLayer7
theorem o_nfSl {Z : State} {a0 : Array Value} {x : MethodName} {Cr : String} (w : (Jvm.Cond.selects Cr x x).before a0 Z = true) : ∀ U : State, Z.Warmed39 U.vm → NotFace U x := fun U hU => notFace_of_selects (args := #[]) (mvT (s := U) hU w)
theorem OObj.nb {Z : State} {h : Heap} {a b : Addr} {C : String} {fs : List (String × String × String × Value)} (F : OObj Z h a C fs) (g : h.size ≤ b) : a ≠ b := Nat.ne_of_lt (Nat.lt_of_lt_of_le F.lt g)
theorem OArr.nb {Z : State} {h : Heap} {a b : Addr} {ty : FieldType} {vs : List Value} (F : OArr Z h a ty vs) (g : h.size ≤ b) : a ≠ b := Nat.ne_of_lt (Nat.lt_of_lt_of_le F.lt g)
theorem ow {Z : State} {a0 : Array Value} {d : Jvm.Cond} (hw : OHw Z a0) (k : Nat) (h : tables_1[k]? = some d) : d.before a0 Z = true := hw d (List.mem_of_getElem? h)
def OGp (Z : State) (od oz : Addr) : Prop := Sta Z Z.heap kB "$assertionsDisabled" "Z" (.int 1) ∧ Sta Z Z.heap kO "ASCENDING" kOd (.ref od) ∧ Sta Z Z.heap kO "DESCENDING" kOd (.ref oz) ∧ oz ≠ od
theorem pd_0 : parseMethodDescriptor "(I)I" = some ⟨[.int], some .int⟩ := by decide +kernel
theorem pd_1 : parseMethodDescriptor "(I)V" = some ⟨[.int], none⟩ := by decide +kernel
theorem pd_2 : parseMethodDescriptor "()V" = some ⟨[], none⟩ := by decide +kernel
theorem pd_3 : parseMethodDescriptor "([JI)V" = some ⟨[(.array .long), .int], none⟩ := by decide +kernel
theorem pd_4 : parseMethodDescriptor "(I)Z" = some ⟨[.int], some .boolean⟩ := by decide +kernel
theorem pd_5 : parseMethodDescriptor "(J)I" = some ⟨[.long], some .int⟩ := by decide +kernel
theorem pd_6 : parseMethodDescriptor "(III)V" = some ⟨[.int, .int, .int], none⟩ := by decide +kernel
theorem pd_7 : parseMethodDescriptor "([JII)V" = some ⟨[(.array .long), .int, .int], none⟩ := by decide +kernel
theorem pd_8 : parseMethodDescriptor "(Ljava/util/DualPivotQuicksort$Sorter;[JIII)V" = some ⟨[(.object "java/util/DualPivotQuicksort$Sorter"), (.array .long), .int, .int, .int], none⟩ := by decide +kernel
theorem pd_9 : parseMethodDescriptor "([JIII)V" = some ⟨[(.array .long), .int, .int, .int], none⟩ := by decide +kernel
theorem pd_10 : parseMethodDescriptor "(II)V" = some ⟨[.int, .int], none⟩ := by decide +kernel
theorem pd_11 : parseMethodDescriptor "(I)J" = some ⟨[.int], some .long⟩ := by decide +kernel
theorem pd_12 : parseMethodDescriptor "()B" = some ⟨[], some .byte⟩ := by decide +kernel
theorem pd_13 : parseMethodDescriptor "(IILjava/util/function/BiFunction;)I" = some ⟨[.int, .int, (.object "java/util/function/BiFunction")], some .int⟩ := by decide +kernel
theorem pd_14 : parseMethodDescriptor "()Z" = some ⟨[], some .boolean⟩ := by decide +kernel
theorem pd_15 : parseMethodDescriptor "([BI)C" = some ⟨[(.array .byte), .int], some .char⟩ := by decide +kernel
theorem pd_16 : parseMethodDescriptor "(I)C" = some ⟨[.int], some .char⟩ := by decide +kernel
theorem pd_17 : parseMethodDescriptor "()I" = some ⟨[], some .int⟩ := by decide +kernel
theorem pd_18 : parseMethodDescriptor "(Ljava/lang/String;IJJ)J" = some ⟨[(.object "java/lang/String"), .int, .long, .long], some .long⟩ := by decide +kernel
theorem pd_19 : parseMethodDescriptor "(ILcom/example/centile/centile/function/Order;)J" = some ⟨[.int, (.object kO)], some .long⟩ := by decide +kernel
theorem pd_20 : parseMethodDescriptor "(J)V" = some ⟨[.long], none⟩ := by decide +kernel
theorem pd_21 : parseMethodDescriptor "(Lcom/example/centile/centile/function/Keys;)V" = some ⟨[(.object kK)], none⟩ := by decide +kernel
theorem pd_22 : parseMethodDescriptor "(II)I" = some ⟨[.int, .int], some .int⟩ := by decide +kernel
theorem pd_23 : parseMethodDescriptor "([JI)[J" = some ⟨[(.array .long), .int], some (.array .long)⟩ := by decide +kernel
def ole (a b : Int64) : Bool := decide (a.toInt ≤ b.toInt)
def OSd (l : List Int64) : Prop := l.Pairwise (fun a b => a.toInt ≤ b.toInt)
def osort (l : List Int64) : List Int64 := l.mergeSort ole
def og (l : List Int64) (i : Nat) : Int64 := (osort l).getD i 0
theorem osort_sd (l : List Int64) : OSd (osort l) := by
  have h := List.pairwise_mergeSort (le := ole) (fun a b c h1 h2 => by simp [ole] at *; omega) (fun a b => by simp [ole]; omega) l
  exact h.imp (fun h => by simpa [ole] using h)
theorem osort_eq {l ys : List Int64} (p : ys.Perm l) (s : OSd ys) : ys = osort l :=
  List.Perm.eq_of_pairwise (le := fun a b : Int64 => a.toInt ≤ b.toInt) (fun a b _ _ h1 h2 => Int64.toInt_inj.mp (by omega)) s (osort_sd l) (p.trans (List.mergeSort_perm l ole).symm)
theorem osort_len (l : List Int64) : (osort l).length = l.length := (List.mergeSort_perm l ole).length_eq
def olong (l : List Int64) : List Value := l.map Value.long
theorem ol_get {A B : List Int64} {y : Int64} {tl : List Value} {i : Nat} (hi : i = A.length) : (olong (A ++ y :: B) ++ tl)[i]? = some (.long y) := by
  subst hi
  rw [List.getElem?_append_left (by simp [olong])]
  simp [olong]
theorem ol_lt {A B : List Int64} {y : Int64} {tl : List Value} {i : Nat} (hi : i = A.length) : i < (olong (A ++ y :: B) ++ tl).length := by
  subst hi; simp [olong]; try omega
theorem ol_set {A B : List Int64} {y v : Int64} {tl : List Value} {i : Nat} (hi : i = A.length) : (olong (A ++ y :: B) ++ tl).set i (.long v) = olong (A ++ v :: B) ++ tl := by
  subst hi
  rw [List.set_append_left _ _ (by simp [olong])]
  simp [olong]
theorem oi_pred (i : Nat) : (i + 1).toInt32 + (-1 : Int32) = i.toInt32 := by
  rw [← oi_succ, Int32.add_assoc]; simp
theorem oi_predS (i : Nat) : (i + 1).toInt32 - (1 : Int32) = i.toInt32 := by
  rw [← oi_succ, Int32.add_sub_cancel]
theorem osd_snoc {A : List Int64} {z x : Int64} (h : OSd (A ++ [z])) (hx : z.toInt ≤ x.toInt) : OSd (A ++ [z] ++ [x]) := by
  have h' := List.pairwise_append.mp h
  refine List.pairwise_append.mpr ⟨h, List.pairwise_singleton _ _, fun a ha b hb => ?_⟩
  rw [List.mem_singleton.mp hb]
  rcases List.mem_append.mp ha with q | q
  · have := h'.2.2 a q z (List.mem_singleton.mpr rfl); omega
  · rw [List.mem_singleton.mp q]; exact hx
theorem osd_mid {A B : List Int64} {x : Int64} (h : OSd (A ++ B)) (h1 : ∀ a ∈ A, a.toInt ≤ x.toInt) (h2 : ∀ b ∈ B, x.toInt < b.toInt) : OSd (A ++ x :: B) := by
  have h' := List.pairwise_append.mp h
  refine List.pairwise_append.mpr ⟨h'.1, List.pairwise_cons.mpr ⟨fun b hb => by have := h2 b hb; omega, h'.2.1⟩, fun a ha b hb => ?_⟩
  rcases List.mem_cons.mp hb with rfl | hb
  · exact h1 a ha
  · exact h'.2.2 a ha b hb
theorem osd_last {A B : List Int64} {y : Int64} (h : OSd (A ++ [y] ++ B)) : ∀ a ∈ A ++ [y], a.toInt ≤ y.toInt := fun a ha => by
  have h' := (List.pairwise_append.mp h).1
  rcases List.mem_append.mp ha with q | q
  · exact (List.pairwise_append.mp h').2.2 a q y (List.mem_singleton.mpr rfl)
  · rw [List.mem_singleton.mp q]; exact Int.le_refl _
theorem o64_lt {a b : Int64} : a < b ↔ a.toInt < b.toInt := Int64.lt_iff_toInt_lt
def opk (bs : List Bool) (x y : Int64) (k : Nat) : Int64 := bif bs.getD k false then y else x
theorem own_rng5 (r : Int32) (h0 : 0 ≤ r.toInt) (h1 : r.toInt < 5) : r = 0 ∨ r = 1 ∨ r = 2 ∨ r = 3 ∨ r = 4 := by
  simp only [← Int32.toInt_inj]
  have z0 : (0 : Int32).toInt = 0 := rfl
  have z1 : (1 : Int32).toInt = 1 := rfl
  have z2 : (2 : Int32).toInt = 2 := rfl
  have z3 : (3 : Int32).toInt = 3 := rfl
  have z4 : (4 : Int32).toInt = 4 := rfl
  omega
theorem own_rng8 (r : Int32) (h0 : 0 ≤ r.toInt) (h1 : r.toInt < 8) : r = 0 ∨ r = 1 ∨ r = 2 ∨ r = 3 ∨ r = 4 ∨ r = 5 ∨ r = 6 ∨ r = 7 := by
  simp only [← Int32.toInt_inj]
  have z0 : (0 : Int32).toInt = 0 := rfl
  have z1 : (1 : Int32).toInt = 1 := rfl
  have z2 : (2 : Int32).toInt = 2 := rfl
  have z3 : (3 : Int32).toInt = 3 := rfl
  have z4 : (4 : Int32).toInt = 4 := rfl
  have z5 : (5 : Int32).toInt = 5 := rfl
  have z6 : (6 : Int32).toInt = 6 := rfl
  have z7 : (7 : Int32).toInt = 7 := rfl
  omega
theorem own_rng13 (r : Int32) (h0 : 0 ≤ r.toInt) (h1 : r.toInt < 13) : r = 0 ∨ r = 1 ∨ r = 2 ∨ r = 3 ∨ r = 4 ∨ r = 5 ∨ r = 6 ∨ r = 7 ∨ r = 8 ∨ r = 9 ∨ r = 10 ∨ r = 11 ∨ r = 12 := by
  simp only [← Int32.toInt_inj]
  have z0 : (0 : Int32).toInt = 0 := rfl
  have z1 : (1 : Int32).toInt = 1 := rfl
  have z2 : (2 : Int32).toInt = 2 := rfl
  have z3 : (3 : Int32).toInt = 3 := rfl
  have z4 : (4 : Int32).toInt = 4 := rfl
  have z5 : (5 : Int32).toInt = 5 := rfl
  have z6 : (6 : Int32).toInt = 6 := rfl
  have z7 : (7 : Int32).toInt = 7 := rfl
  have z8 : (8 : Int32).toInt = 8 := rfl
  have z9 : (9 : Int32).toInt = 9 := rfl
  have z10 : (10 : Int32).toInt = 10 := rfl
  have z11 : (11 : Int32).toInt = 11 := rfl
  have z12 : (12 : Int32).toInt = 12 := rfl
  omega
theorem own_rng14 (r : Int32) (h0 : 0 ≤ r.toInt) (h1 : r.toInt < 14) : r = 0 ∨ r = 1 ∨ r = 2 ∨ r = 3 ∨ r = 4 ∨ r = 5 ∨ r = 6 ∨ r = 7 ∨ r = 8 ∨ r = 9 ∨ r = 10 ∨ r = 11 ∨ r = 12 ∨ r = 13 := by
  simp only [← Int32.toInt_inj]
  have z0 : (0 : Int32).toInt = 0 := rfl
  have z1 : (1 : Int32).toInt = 1 := rfl
  have z2 : (2 : Int32).toInt = 2 := rfl
  have z3 : (3 : Int32).toInt = 3 := rfl
  have z4 : (4 : Int32).toInt = 4 := rfl
  have z5 : (5 : Int32).toInt = 5 := rfl
  have z6 : (6 : Int32).toInt = 6 := rfl
  have z7 : (7 : Int32).toInt = 7 := rfl
  have z8 : (8 : Int32).toInt = 8 := rfl
  have z9 : (9 : Int32).toInt = 9 := rfl
  have z10 : (10 : Int32).toInt = 10 := rfl
  have z11 : (11 : Int32).toInt = 11 := rfl
  have z12 : (12 : Int32).toInt = 12 := rfl
  have z13 : (13 : Int32).toInt = 13 := rfl
  omega
theorem own_rng21 (r : Int32) (h0 : 0 ≤ r.toInt) (h1 : r.toInt < 21) : r = 0 ∨ r = 1 ∨ r = 2 ∨ r = 3 ∨ r = 4 ∨ r = 5 ∨ r = 6 ∨ r = 7 ∨ r = 8 ∨ r = 9 ∨ r = 10 ∨ r = 11 ∨ r = 12 ∨ r = 13 ∨ r = 14 ∨ r = 15 ∨ r = 16 ∨ r = 17 ∨ r = 18 ∨ r = 19 ∨ r = 20 := by
  simp only [← Int32.toInt_inj]
  have z0 : (0 : Int32).toInt = 0 := rfl
  have z1 : (1 : Int32).toInt = 1 := rfl
  have z2 : (2 : Int32).toInt = 2 := rfl
  have z3 : (3 : Int32).toInt = 3 := rfl
  have z4 : (4 : Int32).toInt = 4 := rfl
  have z5 : (5 : Int32).toInt = 5 := rfl
  have z6 : (6 : Int32).toInt = 6 := rfl
  have z7 : (7 : Int32).toInt = 7 := rfl
  have z8 : (8 : Int32).toInt = 8 := rfl
  have z9 : (9 : Int32).toInt = 9 := rfl
  have z10 : (10 : Int32).toInt = 10 := rfl
  have z11 : (11 : Int32).toInt = 11 := rfl
  have z12 : (12 : Int32).toInt = 12 := rfl
  have z13 : (13 : Int32).toInt = 13 := rfl
  have z14 : (14 : Int32).toInt = 14 := rfl
  have z15 : (15 : Int32).toInt = 15 := rfl
  have z16 : (16 : Int32).toInt = 16 := rfl
  have z17 : (17 : Int32).toInt = 17 := rfl
  have z18 : (18 : Int32).toInt = 18 := rfl
  have z19 : (19 : Int32).toInt = 19 := rfl
  have z20 : (20 : Int32).toInt = 20 := rfl
  omega
theorem own_rng22 (r : Int32) (h0 : 0 ≤ r.toInt) (h1 : r.toInt < 22) : r = 0 ∨ r = 1 ∨ r = 2 ∨ r = 3 ∨ r = 4 ∨ r = 5 ∨ r = 6 ∨ r = 7 ∨ r = 8 ∨ r = 9 ∨ r = 10 ∨ r = 11 ∨ r = 12 ∨ r = 13 ∨ r = 14 ∨ r = 15 ∨ r = 16 ∨ r = 17 ∨ r = 18 ∨ r = 19 ∨ r = 20 ∨ r = 21 := by
  simp only [← Int32.toInt_inj]
  have z0 : (0 : Int32).toInt = 0 := rfl
  have z1 : (1 : Int32).toInt = 1 := rfl
  have z2 : (2 : Int32).toInt = 2 := rfl
  have z3 : (3 : Int32).toInt = 3 := rfl
  have z4 : (4 : Int32).toInt = 4 := rfl
  have z5 : (5 : Int32).toInt = 5 := rfl
  have z6 : (6 : Int32).toInt = 6 := rfl
  have z7 : (7 : Int32).toInt = 7 := rfl
  have z8 : (8 : Int32).toInt = 8 := rfl
  have z9 : (9 : Int32).toInt = 9 := rfl
  have z10 : (10 : Int32).toInt = 10 := rfl
  have z11 : (11 : Int32).toInt = 11 := rfl
  have z12 : (12 : Int32).toInt = 12 := rfl
  have z13 : (13 : Int32).toInt = 13 := rfl
  have z14 : (14 : Int32).toInt = 14 := rfl
  have z15 : (15 : Int32).toInt = 15 := rfl
  have z16 : (16 : Int32).toInt = 16 := rfl
  have z17 : (17 : Int32).toInt = 17 := rfl
  have z18 : (18 : Int32).toInt = 18 := rfl
  have z19 : (19 : Int32).toInt = 19 := rfl
  have z20 : (20 : Int32).toInt = 20 := rfl
  have z21 : (21 : Int32).toInt = 21 := rfl
  omega
theorem own_rng6 (r : Int32) (h0 : 0 ≤ r.toInt) (h1 : r.toInt < 6) : r = 0 ∨ r = 1 ∨ r = 2 ∨ r = 3 ∨ r = 4 ∨ r = 5 := by
  simp only [← Int32.toInt_inj]
  have z0 : (0 : Int32).toInt = 0 := rfl
  have z1 : (1 : Int32).toInt = 1 := rfl
  have z2 : (2 : Int32).toInt = 2 := rfl
  have z3 : (3 : Int32).toInt = 3 := rfl
  have z4 : (4 : Int32).toInt = 4 := rfl
  have z5 : (5 : Int32).toInt = 5 := rfl
  omega
theorem own_wi (x0 : Int32) (hr0 : 0 ≤ x0.toInt) (hr1 : x0.toInt ≤ 21) : (x0 >>> ((6 : Int32) &&& 31)) = 0 := by
  rcases own_rng22 x0 (by omega) (by omega) with rfl | rfl | rfl | rfl | rfl | rfl | rfl | rfl | rfl | rfl | rfl | rfl | rfl | rfl | rfl | rfl | rfl | rfl | rfl | rfl | rfl | rfl <;> rfl
theorem own_bit13 (x0 : Int32) (hr0 : 1 ≤ x0.toInt) (hr1 : x0.toInt ≤ 12) : ((8193 : Int64) &&& ((1 : Int64) <<< (x0 &&& 0x3f).toInt64)) = 0 := by
  rcases own_rng14 x0 (by omega) (by omega) with rfl | rfl | rfl | rfl | rfl | rfl | rfl | rfl | rfl | rfl | rfl | rfl | rfl | rfl <;> first | rfl | (exact absurd hr0 (by decide)) | (exact absurd hr1 (by decide))
theorem own_prev13 (x0 : Int32) (hr0 : 1 ≤ x0.toInt) (hr1 : x0.toInt ≤ 12) : ((8193 : Int64) &&& (((-1 : Int64).toUInt64 >>> ((-(x0 + (1 : Int32))) &&& 0x3f).toInt64.toUInt64).toInt64)) = 1 := by
  rcases own_rng14 x0 (by omega) (by omega) with rfl | rfl | rfl | rfl | rfl | rfl | rfl | rfl | rfl | rfl | rfl | rfl | rfl | rfl <;> first | rfl | (exact absurd hr0 (by decide)) | (exact absurd hr1 (by decide))
theorem own_next13 (x0 : Int32) (hr0 : 2 ≤ x0.toInt) (hr1 : x0.toInt ≤ 13) : ((8193 : Int64) &&& ((-1 : Int64) <<< (x0 &&& 0x3f).toInt64)) = 8192 := by
  rcases own_rng14 x0 (by omega) (by omega) with rfl | rfl | rfl | rfl | rfl | rfl | rfl | rfl | rfl | rfl | rfl | rfl | rfl | rfl <;> first | rfl | (exact absurd hr0 (by decide)) | (exact absurd hr1 (by decide))
theorem own_ra13 (x0 : Int32) (hp0 : 1 ≤ x0.toInt) (hp1 : x0.toInt ≤ 13) : 0 ≤ (x0 - (1 : Int32)).toInt ∧ (x0 - (1 : Int32)).toInt ≤ 12 := by
  have e := c_isub x0 1; have r := rng32 (x0 - (1 : Int32)); have z : (1 : Int32).toInt = 1 := rfl; omega
theorem own_rz13 (x0 : Int32) (hp0 : 1 ≤ x0.toInt) (hp1 : x0.toInt ≤ 13) : 0 ≤ ((13 : Int32) - x0).toInt ∧ ((13 : Int32) - x0).toInt ≤ 12 := by
  have e := c_isub 13 x0; have r := rng32 ((13 : Int32) - x0); have z : (13 : Int32).toInt = 13 := rfl; omega
theorem own_bit5 (x0 : Int32) (hr0 : 1 ≤ x0.toInt) (hr1 : x0.toInt ≤ 4) : ((33 : Int64) &&& ((1 : Int64) <<< (x0 &&& 0x3f).toInt64)) = 0 := by
  rcases own_rng6 x0 (by omega) (by omega) with rfl | rfl | rfl | rfl | rfl | rfl <;> first | rfl | (exact absurd hr0 (by decide)) | (exact absurd hr1 (by decide))
theorem own_prev5 (x0 : Int32) (hr0 : 1 ≤ x0.toInt) (hr1 : x0.toInt ≤ 4) : ((33 : Int64) &&& (((-1 : Int64).toUInt64 >>> ((-(x0 + (1 : Int32))) &&& 0x3f).toInt64.toUInt64).toInt64)) = 1 := by
  rcases own_rng6 x0 (by omega) (by omega) with rfl | rfl | rfl | rfl | rfl | rfl <;> first | rfl | (exact absurd hr0 (by decide)) | (exact absurd hr1 (by decide))
theorem own_next5 (x0 : Int32) (hr0 : 2 ≤ x0.toInt) (hr1 : x0.toInt ≤ 5) : ((33 : Int64) &&& ((-1 : Int64) <<< (x0 &&& 0x3f).toInt64)) = 32 := by
  rcases own_rng6 x0 (by omega) (by omega) with rfl | rfl | rfl | rfl | rfl | rfl <;> first | rfl | (exact absurd hr0 (by decide)) | (exact absurd hr1 (by decide))
theorem own_ra5 (x0 : Int32) (hp0 : 1 ≤ x0.toInt) (hp1 : x0.toInt ≤ 5) : 0 ≤ (x0 - (1 : Int32)).toInt ∧ (x0 - (1 : Int32)).toInt ≤ 4 := by
  have e := c_isub x0 1; have r := rng32 (x0 - (1 : Int32)); have z : (1 : Int32).toInt = 1 := rfl; omega
theorem own_rz5 (x0 : Int32) (hp0 : 1 ≤ x0.toInt) (hp1 : x0.toInt ≤ 5) : 0 ≤ ((5 : Int32) - x0).toInt ∧ ((5 : Int32) - x0).toInt ≤ 4 := by
  have e := c_isub 5 x0; have r := rng32 ((5 : Int32) - x0); have z : (5 : Int32).toInt = 5 := rfl; omega
theorem own_nn (x0 : Int32) (h : 0 ≤ x0.toInt) : ¬ x0 < 0 := by
  rw [Int32.lt_iff_toInt_lt]; have z : (0 : Int32).toInt = 0 := rfl; omega
theorem own_pos (r : Int32) (h : 0 ≤ r.toInt) (hr : ¬ r = 0) : 1 ≤ r.toInt := by
  have z : (0 : Int32).toInt = 0 := rfl
  have : r.toInt ≠ 0 := fun q => hr (Int32.toInt_inj.mp (q.trans z.symm))
  omega
theorem own_s1 (x0 : Int32) (hr0 : 1 ≤ x0.toInt) (h : x0.toInt ≤ 20) : 2 ≤ (x0 + (1 : Int32)).toInt ∧ (x0 + (1 : Int32)).toInt = x0.toInt + 1 := by
  have e := c_iadd x0 1; have r := rng32 (x0 + (1 : Int32)); have z : (1 : Int32).toInt = 1 := rfl; omega
theorem own_and (i : Int32) : 0 ≤ (i &&& (2147483647 : Int32)).toInt := by
  rw [← Int32.toInt_toBitVec, Int32.toBitVec_and]
  have : (i.toBitVec &&& (2147483647 : Int32).toBitVec).msb = false := by
    rw [BitVec.msb_and]; simp; intro; decide
  rw [BitVec.toInt_eq_toNat_of_msb this]; omega
theorem own_mod13 (i : Int32) : 0 ≤ ((i &&& (2147483647 : Int32)) % (13 : Int32)).toInt ∧ ((i &&& (2147483647 : Int32)) % (13 : Int32)).toInt < 13 := by
  have z : (13 : Int32).toInt = 13 := rfl
  have e2 : ((i &&& (2147483647 : Int32)) % (13 : Int32)).toInt = (i &&& (2147483647 : Int32)).toInt.tmod 13 := by rw [Int32.toInt_mod, z]
  have h0 := own_and i
  rw [Int.tmod_eq_emod_of_nonneg h0] at e2
  omega
theorem own_mod21 (i : Int32) : 0 ≤ ((i &&& (2147483647 : Int32)) % (21 : Int32)).toInt ∧ ((i &&& (2147483647 : Int32)) % (21 : Int32)).toInt < 21 := by
  have z : (21 : Int32).toInt = 21 := rfl
  have e2 : ((i &&& (2147483647 : Int32)) % (21 : Int32)).toInt = (i &&& (2147483647 : Int32)).toInt.tmod 21 := by rw [Int32.toInt_mod, z]
  have h0 := own_and i
  rw [Int.tmod_eq_emod_of_nonneg h0] at e2
  omega
theorem own_mod5 (i : Int32) : 0 ≤ ((i &&& (2147483647 : Int32)) % (5 : Int32)).toInt ∧ ((i &&& (2147483647 : Int32)) % (5 : Int32)).toInt < 5 := by
  have z : (5 : Int32).toInt = 5 := rfl
  have e2 : ((i &&& (2147483647 : Int32)) % (5 : Int32)).toInt = (i &&& (2147483647 : Int32)).toInt.tmod 5 := by rw [Int32.toInt_mod, z]
  have h0 := own_and i
  rw [Int.tmod_eq_emod_of_nonneg h0] at e2
  omega
theorem own_mod8 (i : Int32) : 0 ≤ ((i &&& (2147483647 : Int32)) % (8 : Int32)).toInt ∧ ((i &&& (2147483647 : Int32)) % (8 : Int32)).toInt < 8 := by
  have z : (8 : Int32).toInt = 8 := rfl
  have e2 : ((i &&& (2147483647 : Int32)) % (8 : Int32)).toInt = (i &&& (2147483647 : Int32)).toInt.tmod 8 := by rw [Int32.toInt_mod, z]
  have h0 := own_and i
  rw [Int.tmod_eq_emod_of_nonneg h0] at e2
  omega
theorem own_posn13 (i : Int32) : 1 ≤ (((i &&& (2147483647 : Int32)) % (13 : Int32)) + (1 : Int32)).toInt ∧ (((i &&& (2147483647 : Int32)) % (13 : Int32)) + (1 : Int32)).toInt ≤ 13 := by
  have q := own_mod13 i; have e := c_iadd ((i &&& (2147483647 : Int32)) % (13 : Int32)) 1; have r := rng32 (((i &&& (2147483647 : Int32)) % (13 : Int32)) + (1 : Int32)); have z : (1 : Int32).toInt = 1 := rfl; omega
theorem own_posn5 (i : Int32) : 1 ≤ (((i &&& (2147483647 : Int32)) % (5 : Int32)) + (1 : Int32)).toInt ∧ (((i &&& (2147483647 : Int32)) % (5 : Int32)) + (1 : Int32)).toInt ≤ 5 := by
  have q := own_mod5 i; have e := c_iadd ((i &&& (2147483647 : Int32)) % (5 : Int32)) 1; have r := rng32 (((i &&& (2147483647 : Int32)) % (5 : Int32)) + (1 : Int32)); have z : (1 : Int32).toInt = 1 := rfl; omega
theorem own_lst13 : ∀ {l : List Int64}, l.length = 13 → l = [l.getD 0 0, l.getD 1 0, l.getD 2 0, l.getD 3 0, l.getD 4 0, l.getD 5 0, l.getD 6 0, l.getD 7 0, l.getD 8 0, l.getD 9 0, l.getD 10 0, l.getD 11 0, l.getD 12 0]
  | [c0, c1, c2, c3, c4, c5, c6, c7, c8, c9, c10, c11, c12], _ => rfl
theorem own_lst5 : ∀ {l : List Int64}, l.length = 5 → l = [l.getD 0 0, l.getD 1 0, l.getD 2 0, l.getD 3 0, l.getD 4 0]
  | [c0, c1, c2, c3, c4], _ => rfl
theorem dso_0 : decode jdk_2529_method_15_code 0 = .ok (.iload_n 1, 1) := by decide +kernel
theorem dso_1 : decode jdk_2529_method_15_code 1 = .ok (.istore 4, 2) := by decide +kernel
theorem dso_3 : decode jdk_2529_method_15_code 3 = .ok (.iinc 4 1, 3) := by decide +kernel
theorem dso_6 : decode jdk_2529_method_15_code 6 = .ok (.iload 4, 2) := by decide +kernel
theorem dso_8 : decode jdk_2529_method_15_code 8 = .ok (.iload_n 2, 1) := by decide +kernel
theorem dso_9 : decode jdk_2529_method_15_code 9 = .ok (.if_icmp .ge 60, 3) := by decide +kernel
theorem dso_12 : decode jdk_2529_method_15_code 12 = .ok (.aload_n 0, 1) := by decide +kernel
theorem dso_13 : decode jdk_2529_method_15_code 13 = .ok (.iload 4, 2) := by decide +kernel
theorem dso_15 : decode jdk_2529_method_15_code 15 = .ok (.dup, 1) := by decide +kernel
theorem dso_16 : decode jdk_2529_method_15_code 16 = .ok (.istore_n 3, 1) := by decide +kernel
theorem dso_17 : decode jdk_2529_method_15_code 17 = .ok (.laload, 1) := by decide +kernel
theorem dso_18 : decode jdk_2529_method_15_code 18 = .ok (.lstore 5, 2) := by decide +kernel
theorem dso_20 : decode jdk_2529_method_15_code 20 = .ok (.lload 5, 2) := by decide +kernel
theorem dso_22 : decode jdk_2529_method_15_code 22 = .ok (.aload_n 0, 1) := by decide +kernel
theorem dso_23 : decode jdk_2529_method_15_code 23 = .ok (.iload_n 3, 1) := by decide +kernel
theorem dso_24 : decode jdk_2529_method_15_code 24 = .ok (.iconst 1, 1) := by decide +kernel
theorem dso_25 : decode jdk_2529_method_15_code 25 = .ok (.isub, 1) := by decide +kernel
theorem dso_26 : decode jdk_2529_method_15_code 26 = .ok (.laload, 1) := by decide +kernel
theorem dso_27 : decode jdk_2529_method_15_code 27 = .ok (.lcmp, 1) := by decide +kernel
theorem dso_28 : decode jdk_2529_method_15_code 28 = .ok (.ifCond .ge 38, 3) := by decide +kernel
theorem dso_31 : decode jdk_2529_method_15_code 31 = .ok (.iinc 3 (-1), 3) := by decide +kernel
theorem dso_34 : decode jdk_2529_method_15_code 34 = .ok (.iload_n 3, 1) := by decide +kernel
theorem dso_35 : decode jdk_2529_method_15_code 35 = .ok (.iload_n 1, 1) := by decide +kernel
theorem dso_36 : decode jdk_2529_method_15_code 36 = .ok (.if_icmp .lt 23, 3) := by decide +kernel
theorem dso_39 : decode jdk_2529_method_15_code 39 = .ok (.lload 5, 2) := by decide +kernel
theorem dso_41 : decode jdk_2529_method_15_code 41 = .ok (.aload_n 0, 1) := by decide +kernel
theorem dso_42 : decode jdk_2529_method_15_code 42 = .ok (.iload_n 3, 1) := by decide +kernel
theorem dso_43 : decode jdk_2529_method_15_code 43 = .ok (.laload, 1) := by decide +kernel
theorem dso_44 : decode jdk_2529_method_15_code 44 = .ok (.lcmp, 1) := by decide +kernel
theorem dso_45 : decode jdk_2529_method_15_code 45 = .ok (.ifCond .ge 14, 3) := by decide +kernel
theorem dso_48 : decode jdk_2529_method_15_code 48 = .ok (.aload_n 0, 1) := by decide +kernel
theorem dso_49 : decode jdk_2529_method_15_code 49 = .ok (.iload_n 3, 1) := by decide +kernel
theorem dso_50 : decode jdk_2529_method_15_code 50 = .ok (.iconst 1, 1) := by decide +kernel
theorem dso_51 : decode jdk_2529_method_15_code 51 = .ok (.iadd, 1) := by decide +kernel
theorem dso_52 : decode jdk_2529_method_15_code 52 = .ok (.aload_n 0, 1) := by decide +kernel
theorem dso_53 : decode jdk_2529_method_15_code 53 = .ok (.iload_n 3, 1) := by decide +kernel
theorem dso_54 : decode jdk_2529_method_15_code 54 = .ok (.laload, 1) := by decide +kernel
theorem dso_55 : decode jdk_2529_method_15_code 55 = .ok (.lastore, 1) := by decide +kernel
theorem dso_56 : decode jdk_2529_method_15_code 56 = .ok (.goto (-25), 3) := by decide +kernel
theorem dso_59 : decode jdk_2529_method_15_code 59 = .ok (.aload_n 0, 1) := by decide +kernel
theorem dso_60 : decode jdk_2529_method_15_code 60 = .ok (.iload_n 3, 1) := by decide +kernel
theorem dso_61 : decode jdk_2529_method_15_code 61 = .ok (.iconst 1, 1) := by decide +kernel
theorem dso_62 : decode jdk_2529_method_15_code 62 = .ok (.iadd, 1) := by decide +kernel
theorem dso_63 : decode jdk_2529_method_15_code 63 = .ok (.lload 5, 2) := by decide +kernel
theorem dso_65 : decode jdk_2529_method_15_code 65 = .ok (.lastore, 1) := by decide +kernel
theorem dso_66 : decode jdk_2529_method_15_code 66 = .ok (.goto (-63), 3) := by decide +kernel
theorem dso_69 : decode jdk_2529_method_15_code 69 = .ok (.return_, 1) := by decide +kernel
theorem pn_DQ : plainName kD = true := by first | (simp [plainName, overriddenIn]; done) | decide +kernel
theorem ef_so (x0 : Addr) (x1 : Int32) (x2 : Int32) (m : MethodId) : entryFrame m #[(.ref x0), (.int x1), (.int x2)] 7 = mkF m 0 #[.val (.ref x0), .val (.int x1), .val (.int x2), .unset, .unset, .unset, .unset] [] := by first | (simp [entryFrame, mkF, argsToLocals, o_catR, o_catN, o_catI, o_catJ, o_catD]; done) | rfl
theorem ct_isort (l : Launch) (Z : State) (a0 : Array Value) (hw : OHw Z a0) (EL : List (String × Nat)) (n0 : Nat) (ka : Addr) (xs : List Int64) (tl : List Value) (n : Int32) (hne : xs ≠ []) (hlx : xs.length < 2147483648) (hn : n = xs.length.toInt32) (h0 : Heap) (A_ka : OArr Z h0 ka .long (olong xs ++ tl)) :
    OCt l Z a0 EL n0 (⟨kD, "insertionSort", "([JII)V"⟩ : MethodName) jdk_2529_method_15_code 7 none ({ frames := 0, cells := 0, slots := 0, locals := 0 } : Room) [] #[(.ref ka), (.int 0), (.int n)] h0 [ka] (fun w vm h => w = none ∧ OArr Z h ka .long (olong (osort xs) ++ tl)) := by
  refine OCt.body (plainFor_of_name pn_DQ) (ef_so ka ((0 : Int32)) n) ?_
  intro p e s m below meth c T hby hml hret hnm hsh P
  have inner : ∀ (k : Nat) (A B R : List Int64) (hole x : Int64) (T : State) (h : Heap) (ii : Int32), A.length = k → (A ++ hole :: (B ++ R)).length < 2147483648 → OSd (A ++ B) → (∀ b ∈ B, x.toInt < b.toInt) → OArr Z h ka .long (olong (A ++ hole :: (B ++ R)) ++ tl) → OPn p l e ({ frames := 0, cells := 0, slots := 0, locals := 0 } : Room) s m #[.ref ka, .int 0, .int n] below meth c Z a0 EL n0 [ka] kD T h [ka] 0 0 → (∀ (T' : State) (h' : Heap) (j' : Int32) (zs : List Int64), zs.Perm (A ++ x :: B) → OSd zs → OArr Z h' ka .long (olong (zs ++ R) ++ tl) → OPn p l e ({ frames := 0, cells := 0, slots := 0, locals := 0 } : Room) s m #[.ref ka, .int 0, .int n] below meth c Z a0 EL n0 [ka] kD T' h' [ka] 0 0 → OG p e below m (OFq Z EL n0 s [ka] ({ frames := 0, cells := 0, slots := 0, locals := 0 } : Room) (fun w vm h => w = none ∧ OArr Z h ka .long (olong (osort xs) ++ tl))) T' 3 #[.val (.ref ka), .val (.int 0), .val (.int n), .val (.int j'), .val (.int ii), .val (.long x), .second] []) → OG p e below m (OFq Z EL n0 s [ka] ({ frames := 0, cells := 0, slots := 0, locals := 0 } : Room) (fun w vm h => w = none ∧ OArr Z h ka .long (olong (osort xs) ++ tl))) T 31 #[.val (.ref ka), .val (.int 0), .val (.int n), .val (.int A.length.toInt32), .val (.int ii), .val (.long x), .second] [] := by
    clear P T
    intro k
    induction k with
    | zero =>
        intro A B R hole x T h ii hA hlen hs hbb A_ka P kk
        obtain rfl : A = [] := List.length_eq_zero_iff.mp hA
        show OG p e below m (OFq Z EL n0 s [ka] ({ frames := 0, cells := 0, slots := 0, locals := 0 } : Room) (fun w vm h => w = none ∧ OArr Z h ka .long (olong (osort xs) ++ tl))) T 31 #[.val (.ref ka), .val (.int 0), .val (.int n), .val (.int (0 : Int32)), .val (.int ii), .val (.long x), .second] []
        refine o_iinc P (-1 : Int32) (hb hby dso_31) rfl rfl (L' := #[.val (.ref ka), .val (.int 0), .val (.int n), .val (.int (-1)), .val (.int ii), .val (.long x), .second]) rfl (pc' := 34) rfl ?_
        refine o_iloadN P (hb hby dso_34) rfl (pc' := 35) rfl ?_
        refine o_iloadN P (hb hby dso_35) rfl (pc' := 36) rfl ?_
        refine o_icmp_lt P (hb hby dso_36) (by decide) (pc' := 59) (by decide) (pcf := 39) rfl (fun _ => ?_) (fun q => absurd (by decide) q)
        refine o_aloadN P (hb hby dso_59) rfl rfl (pc' := 60) rfl ?_
        refine o_iloadN P (hb hby dso_60) rfl (pc' := 61) rfl ?_
        refine o_iconst P (1 : Int32) (hb hby dso_61) rfl (pc' := 62) rfl ?_
        refine o_iadd P (hb hby dso_62) (pc' := 63) rfl ?_
        show OG p e below m _ T 63 _ [(.int 0), (.ref ka)]
        refine o_lload P (hb hby dso_63) rfl (pc' := 65) rfl ?_
        refine o_lastore P (v := (.long x)) A_ka (List.Mem.head _) (by decide) (ol_lt (A := []) rfl) rfl (hb hby dso_65) (pc' := 66) rfl ?_
        clear P; clear A_ka; intro T h1 P W1 A_ka
        clear W1
        replace A_ka : OArr Z h1 ka .long (olong ([] ++ x :: (B ++ R)) ++ tl) := A_ka.eq (ol_set (A := []) rfl)
        refine o_goto P (hb hby dso_66) (by decide) (pc' := 3) (by decide) ?_
        refine kk _ _ _ ([] ++ x :: B) (List.Perm.refl _) (osd_mid hs (fun a ha => nomatch ha) hbb) ?_ P
        rw [List.append_assoc]; exact A_ka
    | succ k ih =>
        intro A B R hole x T h ii hA hlen hs hbb A_ka P kk
        obtain ⟨A, y, rfl⟩ : ∃ A' y, A = A' ++ [y] := by
          rcases List.eq_nil_or_concat A with q | ⟨L, b, q⟩
          · rw [q] at hA; cases hA
          · exact ⟨L, b, by simpa using q⟩
        have hAk : A.length = k := by simpa using hA
        have hlt : A.length + 1 < 2147483648 := by simp at hlen; omega
        rw [show (A ++ [y]).length.toInt32 = (A.length + 1).toInt32 by simp]
        refine o_iinc P (-1 : Int32) (hb hby dso_31) rfl rfl (L' := #[.val (.ref ka), .val (.int 0), .val (.int n), .val (.int ((A.length + 1).toInt32 + (-1 : Int32))), .val (.int ii), .val (.long x), .second]) rfl (pc' := 34) rfl ?_
        rw [oi_pred]
        refine o_iloadN P (hb hby dso_34) rfl (pc' := 35) rfl ?_
        refine o_iloadN P (hb hby dso_35) rfl (pc' := 36) rfl ?_
        refine o_icmp_lt P (hb hby dso_36) (by decide) (pc' := 59) (by decide) (pcf := 39) rfl (fun q => absurd q (oi_nn (by omega))) (fun _ => ?_)
        refine o_lload P (hb hby dso_39) rfl (pc' := 41) rfl ?_
        refine o_aloadN P (hb hby dso_41) rfl rfl (pc' := 42) rfl ?_
        refine o_iloadN P (hb hby dso_42) rfl (pc' := 43) rfl ?_
        refine o_laload P (v := (.long y)) A_ka (oi_nn (by omega)) (by rw [oi_nat (by omega)]; have q := ol_get (A := A) (B := hole :: (B ++ R)) (y := y) (tl := tl) rfl; simpa using q) (hb hby dso_43) (pc' := 44) rfl ?_
        refine o_lcmp P (hb hby dso_44) (pc' := 45) rfl ?_
        refine o_if_ge P (hb hby dso_45) (by decide) (pc' := 59) (by decide) (pcf := 48) rfl (fun hq => ?_) (fun hq => ?_)
        · refine o_aloadN P (hb hby dso_59) rfl rfl (pc' := 60) rfl ?_
          refine o_iloadN P (hb hby dso_60) rfl (pc' := 61) rfl ?_
          refine o_iconst P (1 : Int32) (hb hby dso_61) rfl (pc' := 62) rfl ?_
          refine o_iadd P (hb hby dso_62) (pc' := 63) rfl ?_
          rw [oi_succ]
          refine o_lload P (hb hby dso_63) rfl (pc' := 65) rfl ?_
          refine o_lastore P (v := (.long x)) A_ka (List.Mem.head _) (oi_nn (by omega)) (by rw [oi_nat (by omega)]; exact ol_lt (by simp)) rfl (hb hby dso_65) (pc' := 66) rfl ?_
          clear P; clear A_ka; intro T h1 P W1 A_ka
          clear W1
          replace A_ka : OArr Z h1 ka .long (olong ((A ++ [y]) ++ x :: (B ++ R)) ++ tl) := A_ka.eq (by rw [oi_nat (by omega)]; exact ol_set (by simp))
          refine o_goto P (hb hby dso_66) (by decide) (pc' := 3) (by decide) ?_
          have hyx : y.toInt ≤ x.toInt := by
            have q := fun z : x < y => hq ((lw_lt x y).mpr z)
            have q2 : ¬ x.toInt < y.toInt := fun z => q (o64_lt.mpr z)
            omega
          refine kk _ _ _ ((A ++ [y]) ++ x :: B) (List.Perm.refl _) (osd_mid hs (fun a ha => Int.le_trans (osd_last hs a ha) hyx) hbb) ?_ P
          rw [List.append_assoc (A ++ [y])]; exact A_ka
        · refine o_aloadN P (hb hby dso_48) rfl rfl (pc' := 49) rfl ?_
          refine o_iloadN P (hb hby dso_49) rfl (pc' := 50) rfl ?_
          refine o_iconst P (1 : Int32) (hb hby dso_50) rfl (pc' := 51) rfl ?_
          refine o_iadd P (hb hby dso_51) (pc' := 52) rfl ?_
          rw [oi_succ]
          refine o_aloadN P (hb hby dso_52) rfl rfl (pc' := 53) rfl ?_
          refine o_iloadN P (hb hby dso_53) rfl (pc' := 54) rfl ?_
          refine o_laload P (v := (.long y)) A_ka (oi_nn (by omega)) (by rw [oi_nat (by omega)]; have q := ol_get (A := A) (B := hole :: (B ++ R)) (y := y) (tl := tl) rfl; simpa using q) (hb hby dso_54) (pc' := 55) rfl ?_
          refine o_lastore P (v := (.long y)) A_ka (List.Mem.head _) (oi_nn (by omega)) (by rw [oi_nat (by omega)]; exact ol_lt (by simp)) rfl (hb hby dso_55) (pc' := 56) rfl ?_
          clear P; clear A_ka; intro T h1 P W1 A_ka
          clear W1
          replace A_ka : OArr Z h1 ka .long (olong ((A ++ [y]) ++ y :: (B ++ R)) ++ tl) := A_ka.eq (by rw [oi_nat (by omega)]; exact ol_set (by simp))
          refine o_goto P (hb hby dso_56) (by decide) (pc' := 31) (by decide) ?_
          have hxy : x.toInt < y.toInt := o64_lt.mp ((lw_lt x y).mp hq)
          have eA : (A ++ [y]) ++ y :: (B ++ R) = A ++ y :: ((y :: B) ++ R) := by simp
          rw [eA] at A_ka
          refine ih A (y :: B) R y x _ _ ii hAk (by simp at hlen ⊢; omega) (by rw [show A ++ y :: B = A ++ [y] ++ B by simp]; exact hs) (fun b hb' => ?_) A_ka P (fun T' h' j' zs hp hsd hA' hP => kk T' h' j' zs (hp.trans ?_) hsd hA' hP)
          · rcases List.mem_cons.mp hb' with rfl | q
            · exact hxy
            · exact hbb b q
          · rw [show A ++ [y] ++ x :: B = A ++ ([y] ++ x :: B) by simp]; exact List.Perm.append_left A (List.Perm.swap y x B)
  have outer : ∀ (Rr A : List Int64) (z : Int64) (T : State) (h : Heap) (Lc : Array Slot), OSd (A ++ [z]) → ((A ++ [z]) ++ Rr).Perm xs → OArr Z h ka .long (olong ((A ++ [z]) ++ Rr) ++ tl) → OPn p l e ({ frames := 0, cells := 0, slots := 0, locals := 0 } : Room) s m #[.ref ka, .int 0, .int n] below meth c Z a0 EL n0 [ka] kD T h [ka] 0 0 → (Lc = #[.val (.ref ka), .val (.int 0), .val (.int n), .unset, .val (.int A.length.toInt32), .unset, .unset] ∨ ∃ (j : Int32) (x : Int64), Lc = #[.val (.ref ka), .val (.int 0), .val (.int n), .val (.int j), .val (.int A.length.toInt32), .val (.long x), .second]) → OG p e below m (OFq Z EL n0 s [ka] ({ frames := 0, cells := 0, slots := 0, locals := 0 } : Room) (fun w vm h => w = none ∧ OArr Z h ka .long (olong (osort xs) ++ tl))) T 3 Lc [] := by
    clear P T
    intro Rr
    induction Rr with
    | nil =>
        intro A z T h Lc hs hp A_ka P hL
        have hN : A.length + 1 = xs.length := by have := hp.length_eq; simpa using this
        have heq : A ++ [z] = osort xs := osort_eq (by simpa using hp) hs
        rw [List.append_nil, heq] at A_ka
        rcases hL with rfl | ⟨j, x0, rfl⟩
        · refine o_iinc P (1 : Int32) (hb hby dso_3) rfl rfl (L' := #[.val (.ref ka), .val (.int 0), .val (.int n), .unset, .val (.int (A.length.toInt32 + (1 : Int32))), .unset, .unset]) rfl (pc' := 6) rfl ?_
          rw [oi_succ]
          refine o_iload P (hb hby dso_6) rfl (pc' := 8) rfl ?_
          refine o_iloadN P (hb hby dso_8) rfl (pc' := 9) rfl ?_
          refine o_icmp_ge P (hb hby dso_9) (by decide) (pc' := 69) (by decide) (pcf := 12) rfl (fun _ => ?_) (fun q => absurd q (fun q => by rw [hN, hn] at q; exact Int32.lt_irrefl q))
          exact o_ret0 P hret (hb hby dso_69) (by decide) (by decide) ⟨rfl, A_ka⟩
        · refine o_iinc P (1 : Int32) (hb hby dso_3) rfl rfl (L' := #[.val (.ref ka), .val (.int 0), .val (.int n), .val (.int j), .val (.int (A.length.toInt32 + (1 : Int32))), .val (.long x0), .second]) rfl (pc' := 6) rfl ?_
          rw [oi_succ]
          refine o_iload P (hb hby dso_6) rfl (pc' := 8) rfl ?_
          refine o_iloadN P (hb hby dso_8) rfl (pc' := 9) rfl ?_
          refine o_icmp_ge P (hb hby dso_9) (by decide) (pc' := 69) (by decide) (pcf := 12) rfl (fun _ => ?_) (fun q => absurd q (fun q => by rw [hN, hn] at q; exact Int32.lt_irrefl q))
          exact o_ret0 P hret (hb hby dso_69) (by decide) (by decide) ⟨rfl, A_ka⟩
    | cons x R ih =>
        intro A z T h Lc hs hp A_ka P hL
        have hN : A.length + 1 + (R.length + 1) = xs.length := by have := hp.length_eq; simp at this; omega
        have go20 : ∀ T, OPn p l e ({ frames := 0, cells := 0, slots := 0, locals := 0 } : Room) s m #[.ref ka, .int 0, .int n] below meth c Z a0 EL n0 [ka] kD T h [ka] 0 0 → OG p e below m (OFq Z EL n0 s [ka] ({ frames := 0, cells := 0, slots := 0, locals := 0 } : Room) (fun w vm h => w = none ∧ OArr Z h ka .long (olong (osort xs) ++ tl))) T 20 #[.val (.ref ka), .val (.int 0), .val (.int n), .val (.int (A.length + 1).toInt32), .val (.int (A.length + 1).toInt32), .val (.long x), .second] [] := by
          clear P T
          intro T P
          refine o_lload P (hb hby dso_20) rfl (pc' := 22) rfl ?_
          refine o_aloadN P (hb hby dso_22) rfl rfl (pc' := 23) rfl ?_
          refine o_iloadN P (hb hby dso_23) rfl (pc' := 24) rfl ?_
          refine o_iconst P (1 : Int32) (hb hby dso_24) rfl (pc' := 25) rfl ?_
          refine o_isub P (hb hby dso_25) (pc' := 26) rfl ?_
          rw [oi_predS]
          refine o_laload P (v := (.long z)) A_ka (oi_nn (by omega)) (by rw [oi_nat (by omega)]; have q := ol_get (A := A) (B := x :: R) (y := z) (tl := tl) rfl; simpa using q) (hb hby dso_26) (pc' := 27) rfl ?_
          refine o_lcmp P (hb hby dso_27) (pc' := 28) rfl ?_
          refine o_if_ge P (hb hby dso_28) (by decide) (pc' := 66) (by decide) (pcf := 31) rfl (fun hq => ?_) (fun hq => ?_)
          · refine o_goto P (hb hby dso_66) (by decide) (pc' := 3) (by decide) ?_
            have hzx : z.toInt ≤ x.toInt := by
              have q := fun u : x < z => hq ((lw_lt x z).mpr u)
              have q2 : ¬ x.toInt < z.toInt := fun u => q (o64_lt.mpr u)
              omega
            refine ih (A ++ [z]) x _ _ _ (osd_snoc hs hzx) (by simpa using hp) (by rw [show A ++ [z] ++ [x] ++ R = A ++ [z] ++ x :: R by simp]; exact A_ka) P (Or.inr ⟨(A.length + 1).toInt32, x, by rw [show (A ++ [z]).length = A.length + 1 by simp]⟩)
          · have hi := inner (A.length + 1) (A ++ [z]) [] R x x T h (A.length + 1).toInt32 (by simp) (by simp; omega) (by simpa using hs) (fun b hb => nomatch hb) A_ka P
            rw [show (A ++ [z]).length = A.length + 1 by simp] at hi
            refine hi (fun T' h' j' zs hpz hsz hA' hP => ?_)
            obtain ⟨A2, z2, rfl⟩ : ∃ A2 z2, zs = A2 ++ [z2] := by
              rcases List.eq_nil_or_concat zs with q | ⟨L2, b2, q⟩
              · rw [q] at hpz; have := hpz.length_eq; simp at this
              · exact ⟨L2, b2, by simpa using q⟩
            have hl2 : A2.length = A.length + 1 := by have := hpz.length_eq; simp at this; omega
            refine ih A2 z2 _ _ _ hsz ?_ hA' hP (Or.inr ⟨j', x, by rw [hl2]⟩)
            exact (List.Perm.append_right R hpz).trans (by simpa using hp)
        rcases hL with rfl | ⟨j, x0, rfl⟩
        · refine o_iinc P (1 : Int32) (hb hby dso_3) rfl rfl (L' := #[.val (.ref ka), .val (.int 0), .val (.int n), .unset, .val (.int (A.length.toInt32 + (1 : Int32))), .unset, .unset]) rfl (pc' := 6) rfl ?_
          rw [oi_succ]
          refine o_iload P (hb hby dso_6) rfl (pc' := 8) rfl ?_
          refine o_iloadN P (hb hby dso_8) rfl (pc' := 9) rfl ?_
          refine o_icmp_ge P (hb hby dso_9) (by decide) (pc' := 69) (by decide) (pcf := 12) rfl (fun q => absurd (by rw [hn]; exact (oi_lt (by omega) (by omega)).mpr (by omega)) q) (fun _ => ?_)
          refine o_aloadN P (hb hby dso_12) rfl rfl (pc' := 13) rfl ?_
          refine o_iload P (hb hby dso_13) rfl (pc' := 15) rfl ?_
          refine o_dup P (hb hby dso_15) rfl (pc' := 16) rfl ?_
          refine o_istoreN P (hb hby dso_16) (L' := #[.val (.ref ka), .val (.int 0), .val (.int n), .val (.int (A.length + 1).toInt32), .val (.int (A.length + 1).toInt32), .unset, .unset]) rfl (pc' := 17) rfl ?_
          refine o_laload P (v := (.long x)) A_ka (oi_nn (by omega)) (by rw [oi_nat (by omega)]; exact ol_get (by simp)) (hb hby dso_17) (pc' := 18) rfl ?_
          refine o_lstore P (hb hby dso_18) (L' := #[.val (.ref ka), .val (.int 0), .val (.int n), .val (.int (A.length + 1).toInt32), .val (.int (A.length + 1).toInt32), .val (.long x), .second]) rfl (pc' := 20) rfl ?_
          exact go20 T P
        · refine o_iinc P (1 : Int32) (hb hby dso_3) rfl rfl (L' := #[.val (.ref ka), .val (.int 0), .val (.int n), .val (.int j), .val (.int (A.length.toInt32 + (1 : Int32))), .val (.long x0), .second]) rfl (pc' := 6) rfl ?_
          rw [oi_succ]
          refine o_iload P (hb hby dso_6) rfl (pc' := 8) rfl ?_
          refine o_iloadN P (hb hby dso_8) rfl (pc' := 9) rfl ?_
          refine o_icmp_ge P (hb hby dso_9) (by decide) (pc' := 69) (by decide) (pcf := 12) rfl (fun q => absurd (by rw [hn]; exact (oi_lt (by omega) (by omega)).mpr (by omega)) q) (fun _ => ?_)
          refine o_aloadN P (hb hby dso_12) rfl rfl (pc' := 13) rfl ?_
          refine o_iload P (hb hby dso_13) rfl (pc' := 15) rfl ?_
          refine o_dup P (hb hby dso_15) rfl (pc' := 16) rfl ?_
          refine o_istoreN P (hb hby dso_16) (L' := #[.val (.ref ka), .val (.int 0), .val (.int n), .val (.int (A.length + 1).toInt32), .val (.int (A.length + 1).toInt32), .val (.long x0), .second]) rfl (pc' := 17) rfl ?_
          refine o_laload P (v := (.long x)) A_ka (oi_nn (by omega)) (by rw [oi_nat (by omega)]; exact ol_get (by simp)) (hb hby dso_17) (pc' := 18) rfl ?_
          refine o_lstore P (hb hby dso_18) (L' := #[.val (.ref ka), .val (.int 0), .val (.int n), .val (.int (A.length + 1).toInt32), .val (.int (A.length + 1).toInt32), .val (.long x), .second]) rfl (pc' := 20) rfl ?_
          exact go20 T P
  obtain ⟨z, R, rfl⟩ : ∃ z R, xs = z :: R := by
    cases xs with
    | nil => exact absurd rfl hne
    | cons z R => exact ⟨z, R, rfl⟩
  refine o_iloadN P (hb hby dso_0) rfl (pc' := 1) rfl ?_
  refine o_istore P (hb hby dso_1) (L' := #[.val (.ref ka), .val (.int 0), .val (.int n), .unset, .val (.int 0), .unset, .unset]) rfl (pc' := 3) rfl ?_
  exact outer R [] z T h0 _ (List.pairwise_singleton _ _) (List.Perm.refl _) A_ka P (Or.inl rfl)
theorem pn_LW : plainName kW = true := by first | (simp [plainName, overriddenIn]; done) | decide +kernel
theorem dwi_0 : decode jdk_92_method_1_code 0 = .ok (.iload_n 0, 1) := by decide +kernel
theorem dwi_1 : decode jdk_92_method_1_code 1 = .ok (.bipush 6, 2) := by decide +kernel
theorem dwi_3 : decode jdk_92_method_1_code 3 = .ok (.ishr, 1) := by decide +kernel
theorem dwi_4 : decode jdk_92_method_1_code 4 = .ok (.ireturn, 1) := by decide +kernel
theorem ef_wi (x0 : Int32) (m : MethodId) : entryFrame m #[(.int x0)] 1 = mkF m 0 #[.val (.int x0)] [] := by first | (simp [entryFrame, mkF, argsToLocals, o_catR, o_catN, o_catI, o_catJ, o_catD]; done) | rfl
theorem pn_e0 : plainName kB = true := by first | (simp [plainName, overriddenIn]; done) | decide +kernel
theorem ct_wi (l : Launch) (Z : State) (a0 : Array Value) (hw : OHw Z a0) (EL : List (String × Nat)) (n0 : Nat) (r : Int32) (h1 : 0 ≤ r.toInt) (h2 : r.toInt ≤ 21) (h0 : Heap) :
    OCt l Z a0 EL n0 (⟨kB, "wordIndex", "(I)I"⟩ : MethodName) jdk_92_method_1_code 1 (some .int) ({ frames := 0, cells := 0, slots := 0, locals := 0 } : Room) [] #[(.int r)] h0 [] (fun w vm h => w = some (.int 0) ∧ h = h0) := by
  refine OCt.body (plainFor_of_name pn_e0) (ef_wi r) ?_
  intro p e s m below meth c T hby hml hret hnm hsh P
  refine o_iloadN P (hb hby dwi_0) rfl (pc' := 1) rfl ?_
  refine o_bipush P (6 : Int32) (hb hby dwi_1) rfl (pc' := 3) rfl ?_
  refine o_ishr P (hb hby dwi_3) (pc' := 4) rfl ?_
  rw [own_wi r h1 h2]
  show OG p e below m _ T 4 _ [(.int 0)]
  exact o_retI P hret (by simp) rfl (hb hby dwi_4) (by decide) (by decide) ⟨rfl, rfl⟩
theorem de1_0 : decode prog_11_method_6_code 0 = .ok (.aload_n 0, 1) := by decide +kernel
theorem de1_1 : decode prog_11_method_6_code 1 = .ok (.getfield 23, 3) := by decide +kernel
theorem de1_4 : decode prog_11_method_6_code 4 = .ok (.ifnonnull 22, 3) := by decide +kernel
theorem de1_7 : decode prog_11_method_6_code 7 = .ok (.aload_n 0, 1) := by decide +kernel
theorem de1_8 : decode prog_11_method_6_code 8 = .ok (.new 33, 3) := by decide +kernel
theorem de1_11 : decode prog_11_method_6_code 11 = .ok (.dup, 1) := by decide +kernel
theorem de1_12 : decode prog_11_method_6_code 12 = .ok (.aload_n 0, 1) := by decide +kernel
theorem de1_13 : decode prog_11_method_6_code 13 = .ok (.getfield 9, 3) := by decide +kernel
theorem de1_16 : decode prog_11_method_6_code 16 = .ok (.aload_n 0, 1) := by decide +kernel
theorem de1_17 : decode prog_11_method_6_code 17 = .ok (.getfield 15, 3) := by decide +kernel
theorem de1_20 : decode prog_11_method_6_code 20 = .ok (.invokespecial 35, 3) := by decide +kernel
theorem de1_23 : decode prog_11_method_6_code 23 = .ok (.putfield 23, 3) := by decide +kernel
theorem de1_26 : decode prog_11_method_6_code 26 = .ok (.aload_n 2, 1) := by decide +kernel
theorem de1_27 : decode prog_11_method_6_code 27 = .ok (.getstatic 38, 3) := by decide +kernel
theorem de1_30 : decode prog_11_method_6_code 30 = .ok (.if_acmp .ne 9, 3) := by decide +kernel
theorem de1_33 : decode prog_11_method_6_code 33 = .ok (.iload_n 1, 1) := by decide +kernel
theorem de1_34 : decode prog_11_method_6_code 34 = .ok (.iconst 1, 1) := by decide +kernel
theorem de1_35 : decode prog_11_method_6_code 35 = .ok (.isub, 1) := by decide +kernel
theorem de1_36 : decode prog_11_method_6_code 36 = .ok (.goto 9, 3) := by decide +kernel
theorem de1_39 : decode prog_11_method_6_code 39 = .ok (.aload_n 0, 1) := by decide +kernel
theorem de1_40 : decode prog_11_method_6_code 40 = .ok (.getfield 15, 3) := by decide +kernel
theorem de1_43 : decode prog_11_method_6_code 43 = .ok (.iload_n 1, 1) := by decide +kernel
theorem de1_44 : decode prog_11_method_6_code 44 = .ok (.isub, 1) := by decide +kernel
theorem de1_45 : decode prog_11_method_6_code 45 = .ok (.istore_n 3, 1) := by decide +kernel
theorem de1_46 : decode prog_11_method_6_code 46 = .ok (.aload_n 0, 1) := by decide +kernel
theorem de1_47 : decode prog_11_method_6_code 47 = .ok (.getfield 23, 3) := by decide +kernel
theorem de1_50 : decode prog_11_method_6_code 50 = .ok (.iload_n 3, 1) := by decide +kernel
theorem de1_51 : decode prog_11_method_6_code 51 = .ok (.invokevirtual 44, 3) := by decide +kernel
theorem de1_54 : decode prog_11_method_6_code 54 = .ok (.lreturn, 1) := by decide +kernel
theorem ef_at13od (x0 : Addr) (x1 : Int32) (x2 : Addr) (m : MethodId) : entryFrame m #[(.ref x0), (.int x1), (.ref x2)] 4 = mkF m 0 #[.val (.ref x0), .val (.int x1), .val (.ref x2), .unset] [] := by first | (simp [entryFrame, mkF, argsToLocals, o_catR, o_catN, o_catI, o_catJ, o_catD]; done) | rfl
theorem de2_0 : decode prog_15_method_1_code 0 = .ok (.aload_n 0, 1) := by decide +kernel
theorem de2_1 : decode prog_15_method_1_code 1 = .ok (.invokespecial 1, 3) := by decide +kernel
theorem de2_4 : decode prog_15_method_1_code 4 = .ok (.aload_n 0, 1) := by decide +kernel
theorem de2_5 : decode prog_15_method_1_code 5 = .ok (.aload_n 1, 1) := by decide +kernel
theorem de2_6 : decode prog_15_method_1_code 6 = .ok (.putfield 7, 3) := by decide +kernel
theorem de2_9 : decode prog_15_method_1_code 9 = .ok (.aload_n 0, 1) := by decide +kernel
theorem de2_10 : decode prog_15_method_1_code 10 = .ok (.new 13, 3) := by decide +kernel
theorem de2_13 : decode prog_15_method_1_code 13 = .ok (.dup, 1) := by decide +kernel
theorem de2_14 : decode prog_15_method_1_code 14 = .ok (.iload_n 2, 1) := by decide +kernel
theorem de2_15 : decode prog_15_method_1_code 15 = .ok (.iconst 1, 1) := by decide +kernel
theorem de2_16 : decode prog_15_method_1_code 16 = .ok (.iadd, 1) := by decide +kernel
theorem de2_17 : decode prog_15_method_1_code 17 = .ok (.invokespecial 15, 3) := by decide +kernel
theorem de2_20 : decode prog_15_method_1_code 20 = .ok (.putfield 18, 3) := by decide +kernel
theorem de2_23 : decode prog_15_method_1_code 23 = .ok (.aload_n 0, 1) := by decide +kernel
theorem de2_24 : decode prog_15_method_1_code 24 = .ok (.getfield 18, 3) := by decide +kernel
theorem de2_27 : decode prog_15_method_1_code 27 = .ok (.iconst 0, 1) := by decide +kernel
theorem de2_28 : decode prog_15_method_1_code 28 = .ok (.invokevirtual 22, 3) := by decide +kernel
theorem de2_31 : decode prog_15_method_1_code 31 = .ok (.aload_n 0, 1) := by decide +kernel
theorem de2_32 : decode prog_15_method_1_code 32 = .ok (.getfield 18, 3) := by decide +kernel
theorem de2_35 : decode prog_15_method_1_code 35 = .ok (.iload_n 2, 1) := by decide +kernel
theorem de2_36 : decode prog_15_method_1_code 36 = .ok (.invokevirtual 22, 3) := by decide +kernel
theorem de2_39 : decode prog_15_method_1_code 39 = .ok (.return_, 1) := by decide +kernel
theorem de3_0 : decode jdk_92_method_5_code 0 = .ok (.aload_n 0, 1) := by decide +kernel
theorem de3_1 : decode jdk_92_method_5_code 1 = .ok (.invokespecial 21, 3) := by decide +kernel
theorem de3_4 : decode jdk_92_method_5_code 4 = .ok (.aload_n 0, 1) := by decide +kernel
theorem de3_5 : decode jdk_92_method_5_code 5 = .ok (.iconst 0, 1) := by decide +kernel
theorem de3_6 : decode jdk_92_method_5_code 6 = .ok (.putfield 7, 3) := by decide +kernel
theorem de3_9 : decode jdk_92_method_5_code 9 = .ok (.aload_n 0, 1) := by decide +kernel
theorem de3_10 : decode jdk_92_method_5_code 10 = .ok (.iconst 0, 1) := by decide +kernel
theorem de3_11 : decode jdk_92_method_5_code 11 = .ok (.putfield 24, 3) := by decide +kernel
theorem de3_14 : decode jdk_92_method_5_code 14 = .ok (.iload_n 1, 1) := by decide +kernel
theorem de3_15 : decode jdk_92_method_5_code 15 = .ok (.ifCond .ge 30, 3) := by decide +kernel
theorem de3_45 : decode jdk_92_method_5_code 45 = .ok (.aload_n 0, 1) := by decide +kernel
theorem de3_46 : decode jdk_92_method_5_code 46 = .ok (.iload_n 1, 1) := by decide +kernel
theorem de3_47 : decode jdk_92_method_5_code 47 = .ok (.invokevirtual 27, 3) := by decide +kernel
theorem de3_50 : decode jdk_92_method_5_code 50 = .ok (.aload_n 0, 1) := by decide +kernel
theorem de3_51 : decode jdk_92_method_5_code 51 = .ok (.iconst 1, 1) := by decide +kernel
theorem de3_52 : decode jdk_92_method_5_code 52 = .ok (.putfield 24, 3) := by decide +kernel
theorem de3_55 : decode jdk_92_method_5_code 55 = .ok (.return_, 1) := by decide +kernel
theorem de4_0 : decode jdk_92_method_6_code 0 = .ok (.aload_n 0, 1) := by decide +kernel
theorem de4_1 : decode jdk_92_method_6_code 1 = .ok (.iload_n 1, 1) := by decide +kernel
theorem de4_2 : decode jdk_92_method_6_code 2 = .ok (.iconst 1, 1) := by decide +kernel
theorem de4_3 : decode jdk_92_method_6_code 3 = .ok (.isub, 1) := by decide +kernel
theorem de4_4 : decode jdk_92_method_6_code 4 = .ok (.invokestatic 52, 3) := by decide +kernel
theorem de4_7 : decode jdk_92_method_6_code 7 = .ok (.iconst 1, 1) := by decide +kernel
theorem de4_8 : decode jdk_92_method_6_code 8 = .ok (.iadd, 1) := by decide +kernel
theorem de4_9 : decode jdk_92_method_6_code 9 = .ok (.newarray .long, 2) := by decide +kernel
theorem de4_11 : decode jdk_92_method_6_code 11 = .ok (.putfield 11, 3) := by decide +kernel
theorem de4_14 : decode jdk_92_method_6_code 14 = .ok (.return_, 1) := by decide +kernel
theorem ef_ct_e5 (x0 : Int32) (m : MethodId) : entryFrame m #[(.int x0)] 1 = mkF m 0 #[.val (.int x0)] [] := by first | (simp [entryFrame, mkF, argsToLocals, o_catR, o_catN, o_catI, o_catJ, o_catD]; done) | rfl
theorem ct_e5 (l : Launch) (Z : State) (a0 : Array Value) (hw : OHw Z a0) (EL : List (String × Nat)) (n0 : Nat)   (od oz : Addr) (hg : OGp Z od oz) (h0 : Heap)   :
    OCt l Z a0 EL n0 (⟨kB, "wordIndex", "(I)I"⟩ : MethodName) jdk_92_method_1_code 1 (some .int) ({ frames := 0, cells := 0, slots := 0, locals := 0 } : Room) [] #[(.int 13)] h0 [] (fun w vm h => w = some (.int 0) ∧ h = h0) := by
  refine OCt.body (plainFor_of_name pn_e0) (ef_ct_e5 ((13 : Int32))) ?_
  intro p e s m below meth c T hby hml hret hnm hsh P
  refine o_iloadN P (hb hby dwi_0) rfl (pc' := 1) rfl ?_
  refine o_bipush P (6 : Int32) (hb hby dwi_1) rfl (pc' := 3) rfl ?_
  refine o_ishr P (hb hby dwi_3) (pc' := 4) rfl ?_
  show OG p e below m _ T 4 _ [(.int 0)]
  exact o_retI P hret (by simp) rfl (hb hby dwi_4) (by decide) (by decide) ⟨rfl, rfl⟩
theorem ef_ct_e6 (x0 : Addr) (x1 : Int32) (m : MethodId) : entryFrame m #[(.ref x0), (.int x1)] 2 = mkF m 0 #[.val (.ref x0), .val (.int x1)] [] := by first | (simp [entryFrame, mkF, argsToLocals, o_catR, o_catN, o_catI, o_catJ, o_catD]; done) | rfl
theorem ct_e6 (l : Launch) (Z : State) (a0 : Array Value) (hw : OHw Z a0) (EL : List (String × Nat)) (n0 : Nat) (p0 : Addr)  (od oz : Addr) (hg : OGp Z od oz) (h0 : Heap) (F_p0 : OObj Z h0 p0 kB [(kB, "wordsInUse", "I", (.int 0)), (kB, "sizeIsSticky", "Z", (.int 0)), (kB, "words", "[J", .null)])  :
    OCt l Z a0 EL n0 (⟨kB, "initWords", "(I)V"⟩ : MethodName) jdk_92_method_6_code 2 none ({ frames := 1, cells := 1, slots := 1, locals := 13 } : Room) [] #[(.ref p0), (.int 14)] h0 [p0] (fun w vm h => ∃ n0 : Addr, w = none ∧ h0.size ≤ n0 ∧ OObj Z h p0 kB [(kB, "wordsInUse", "I", (.int 0)), (kB, "sizeIsSticky", "Z", (.int 0)), (kB, "words", "[J", (.ref n0))] ∧ OArr Z h n0 .long [(.long 0)] ∧ True) := by
  refine OCt.body (plainFor_of_name pn_e0) (ef_ct_e6 p0 ((14 : Int32))) ?_
  intro p e s m below meth c T hby hml hret hnm hsh P
  refine o_aloadN P (hb hby de4_0) rfl rfl (pc' := 1) rfl ?_
  refine o_iloadN P (hb hby de4_1) rfl (pc' := 2) rfl ?_
  refine o_iconst P (1 : Int32) (hb hby de4_2) rfl (pc' := 3) rfl ?_
  refine o_isub P (hb hby de4_3) (pc' := 4) rfl ?_
  show OG p e below m _ T 4 _ [(.int 13), (.ref p0)]
  refine o_callS P (W := 1) (ow hw 59 rfl) (ow hw 60 rfl) (ow hw 45 rfl) (ow hw 61 rfl) (by decide) (ct_e5 l Z a0 hw EL n0   od oz hg h0  ) o_sf0 (by rw [hml]; rfl) (by decide) (by decide) (argsL := [(.int 13)]) (rest := [(.ref p0)]) (lenOf pd_0 rfl) rfl rfl (Nat.le_of_eq rfl) (hb hby de4_4) (pc' := 7) rfl (by decide) (by decide) ?_
  clear P; intro T h2 v2 P K2 q2
  obtain ⟨rfl, rfl⟩ := q2; clear K2
  show OG p e below m _ T 7 _ [(.int 0), (.ref p0)]
  refine o_iconst P (1 : Int32) (hb hby de4_7) rfl (pc' := 8) rfl ?_
  refine o_iadd P (hb hby de4_8) (pc' := 9) rfl ?_
  show OG p e below m _ T 9 _ [(.int 1), (.ref p0)]
  have hz_b3 := P.keep0.1
  refine o_newarr P (cap := 1) (ow hw 12 rfl) (hb hby de4_9) (by decide) (by decide) (by decide) (pc' := 11) rfl (by decide) (by decide) ?_
  clear P; intro T h3 b3 P K3 hb_b3 A_b3
  have sz_b3 := Nat.le_trans hz_b3 hb_b3
  clear hz_b3
  have ne_p0_b3 := F_p0.nb hb_b3
  replace F_p0 := F_p0.keep K3 nin0
  clear K3
  replace A_b3 : OArr Z h3 b3 .long [(.long 0)] := A_b3
  refine o_putF P (v' := (.ref b3)) (ty := (.array .long)) (ow hw 62 rfl) Via.refl (F_p0.fld 2 rfl) F_p0.exa (Or.inl (ow hw 63 rfl)) (ow hw 44 rfl) (by decide) rfl rfl (List.Mem.tail _ (List.Mem.head _)) (hb hby de4_11) (pc' := 14) rfl ?_
  clear P; intro T h4 P W4
  replace A_b3 := A_b3.oth W4 (Ne.symm ne_p0_b3)
  replace F_p0 : OObj Z h4 p0 kB [(kB, "wordsInUse", "I", (.int 0)), (kB, "sizeIsSticky", "Z", (.int 0)), (kB, "words", "[J", (.ref b3))] := F_p0.put 2 rfl W4
  clear W4
  exact o_ret0 P hret (hb hby de4_14) (by decide) (by decide) ⟨b3, rfl, hsh ▸ sz_b3, F_p0, A_b3, trivial⟩
theorem ef_ct_e7 (x0 : Addr) (x1 : Int32) (m : MethodId) : entryFrame m #[(.ref x0), (.int x1)] 2 = mkF m 0 #[.val (.ref x0), .val (.int x1)] [] := by first | (simp [entryFrame, mkF, argsToLocals, o_catR, o_catN, o_catI, o_catJ, o_catD]; done) | rfl
theorem ct_e7 (l : Launch) (Z : State) (a0 : Array Value) (hw : OHw Z a0) (EL : List (String × Nat)) (n0 : Nat) (p0 : Addr)  (od oz : Addr) (hg : OGp Z od oz) (h0 : Heap) (F_p0 : OObj Z h0 p0 kB [(kB, "wordsInUse", "I", (.int 0)), (kB, "sizeIsSticky", "Z", (.int 0)), (kB, "words", "[J", .null)])  :
    OCt l Z a0 EL n0 (⟨kB, "<init>", "(I)V"⟩ : MethodName) jdk_92_method_5_code 2 none ({ frames := 2, cells := 1, slots := 1, locals := 26 } : Room) [] #[(.ref p0), (.int 14)] h0 [p0] (fun w vm h => ∃ n0 : Addr, w = none ∧ h0.size ≤ n0 ∧ OObj Z h p0 kB [(kB, "wordsInUse", "I", (.int 0)), (kB, "sizeIsSticky", "Z", (.int 1)), (kB, "words", "[J", (.ref n0))] ∧ OArr Z h n0 .long [(.long 0)] ∧ True) := by
  refine OCt.body (plainFor_of_name pn_e0) (ef_ct_e7 p0 ((14 : Int32))) ?_
  intro p e s m below meth c T hby hml hret hnm hsh P
  refine o_aloadN P (hb hby de3_0) rfl rfl (pc' := 1) rfl ?_
  refine o_initO P (W := 0) (ow hw 49 rfl) (ow hw 10 rfl) (ow hw 11 rfl) (by rw [hml]; rfl) (by decide) (Nat.le_of_eq rfl) (by decide) (hb hby de3_1) (pc' := 4) rfl ?_
  clear P; intro T P
  refine o_aloadN P (hb hby de3_4) rfl rfl (pc' := 5) rfl ?_
  refine o_iconst P (0 : Int32) (hb hby de3_5) rfl (pc' := 6) rfl ?_
  refine o_putF P (v' := (.int 0)) (ty := .int) (ow hw 50 rfl) Via.refl (F_p0.fld 0 rfl) F_p0.exa (Or.inl (ow hw 51 rfl)) (ow hw 44 rfl) (by decide) rfl rfl (List.Mem.head _) (hb hby de3_6) (pc' := 9) rfl ?_
  clear P; intro T h1 P W1
  replace F_p0 : OObj Z h1 p0 kB [(kB, "wordsInUse", "I", (.int 0)), (kB, "sizeIsSticky", "Z", (.int 0)), (kB, "words", "[J", .null)] := F_p0.put 0 rfl W1
  clear W1
  refine o_aloadN P (hb hby de3_9) rfl rfl (pc' := 10) rfl ?_
  refine o_iconst P (0 : Int32) (hb hby de3_10) rfl (pc' := 11) rfl ?_
  refine o_putF P (v' := (.int 0)) (ty := .boolean) (ow hw 52 rfl) Via.refl (F_p0.fld 1 rfl) F_p0.exa (Or.inl (ow hw 53 rfl)) (ow hw 44 rfl) (by decide) rfl rfl (List.Mem.head _) (hb hby de3_11) (pc' := 14) rfl ?_
  clear P; intro T h2 P W2
  replace F_p0 : OObj Z h2 p0 kB [(kB, "wordsInUse", "I", (.int 0)), (kB, "sizeIsSticky", "Z", (.int 0)), (kB, "words", "[J", .null)] := F_p0.put 1 rfl W2
  clear W2
  refine o_iloadN P (hb hby de3_14) rfl (pc' := 15) rfl ?_
  refine o_if_ge P (hb hby de3_15) (by decide) (pc' := 45) (by decide) (pcf := 18) rfl (fun _ => ?_) (fun q => absurd q (by decide))
  refine o_aloadN P (hb hby de3_45) rfl rfl (pc' := 46) rfl ?_
  refine o_iloadN P (hb hby de3_46) rfl (pc' := 47) rfl ?_
  have hn_3 := P.n0le; have hk_3 := P.keep0.1
  refine o_callP P (W := 0) (a := p0) (ow hw 54 rfl) (ow hw 55 rfl) (ow hw 57 rfl) (ow hw 56 rfl) (ow hw 45 rfl) (ow hw 58 rfl) (by decide) F_p0.exa (ct_e6 l Z a0 hw EL n0 p0  od oz hg h2 F_p0 ) (o_sfS (List.Mem.head _) o_sf0) (by rw [hml]; rfl) (by decide) (by decide) (argsL := [(.int 14)]) (rest := []) (lenOf pd_1 rfl) rfl rfl (Nat.le_of_eq rfl) (hb hby de3_47) (pc' := 50) rfl (by decide) (by decide) ?_
  clear P; intro T h4 v4 P K4 q4
  obtain ⟨n0_3, rfl, g_n0_3, Q_p0, Q_n0_3, -⟩ := q4
  have ne_p0_n0_3 := F_p0.nb g_n0_3
  have sz_n0_3 := Nat.le_trans hk_3 g_n0_3
  clear F_p0
  have F_p0 := Q_p0; clear Q_p0
  have A_n0_3 := Q_n0_3; clear Q_n0_3
  replace P := P.moreA A_n0_3 (fun q => by cases q) (Nat.le_trans hn_3 g_n0_3) sz_n0_3
  clear K4 hn_3 hk_3
  show OG p e below m _ T 50 _ []
  refine o_aloadN P (hb hby de3_50) rfl rfl (pc' := 51) rfl ?_
  refine o_iconst P (1 : Int32) (hb hby de3_51) rfl (pc' := 52) rfl ?_
  refine o_putF P (v' := (.int 1)) (ty := .boolean) (ow hw 52 rfl) Via.refl (F_p0.fld 1 rfl) F_p0.exa (Or.inl (ow hw 53 rfl)) (ow hw 44 rfl) (by decide) rfl rfl (List.Mem.tail _ (List.Mem.head _)) (hb hby de3_52) (pc' := 55) rfl ?_
  clear P; intro T h5 P W5
  replace A_n0_3 := A_n0_3.oth W5 (Ne.symm ne_p0_n0_3)
  replace F_p0 : OObj Z h5 p0 kB [(kB, "wordsInUse", "I", (.int 0)), (kB, "sizeIsSticky", "Z", (.int 1)), (kB, "words", "[J", (.ref n0_3))] := F_p0.put 1 rfl W5
  clear W5
  exact o_ret0 P hret (hb hby de3_55) (by decide) (by decide) ⟨n0_3, rfl, hsh ▸ sz_n0_3, F_p0, A_n0_3, trivial⟩
theorem de8_0 : decode jdk_92_method_19_code 0 = .ok (.iload_n 1, 1) := by decide +kernel
theorem de8_1 : decode jdk_92_method_19_code 1 = .ok (.ifCond .ge 30, 3) := by decide +kernel
theorem de8_31 : decode jdk_92_method_19_code 31 = .ok (.iload_n 1, 1) := by decide +kernel
theorem de8_32 : decode jdk_92_method_19_code 32 = .ok (.invokestatic 52, 3) := by decide +kernel
theorem de8_35 : decode jdk_92_method_19_code 35 = .ok (.istore_n 2, 1) := by decide +kernel
theorem de8_36 : decode jdk_92_method_19_code 36 = .ok (.aload_n 0, 1) := by decide +kernel
theorem de8_37 : decode jdk_92_method_19_code 37 = .ok (.iload_n 2, 1) := by decide +kernel
theorem de8_38 : decode jdk_92_method_19_code 38 = .ok (.invokevirtual 155, 3) := by decide +kernel
theorem de8_41 : decode jdk_92_method_19_code 41 = .ok (.aload_n 0, 1) := by decide +kernel
theorem de8_42 : decode jdk_92_method_19_code 42 = .ok (.getfield 11, 3) := by decide +kernel
theorem de8_45 : decode jdk_92_method_19_code 45 = .ok (.iload_n 2, 1) := by decide +kernel
theorem de8_46 : decode jdk_92_method_19_code 46 = .ok (.dup2, 1) := by decide +kernel
theorem de8_47 : decode jdk_92_method_19_code 47 = .ok (.laload, 1) := by decide +kernel
theorem de8_48 : decode jdk_92_method_19_code 48 = .ok (.lconst 1, 1) := by decide +kernel
theorem de8_49 : decode jdk_92_method_19_code 49 = .ok (.iload_n 1, 1) := by decide +kernel
theorem de8_50 : decode jdk_92_method_19_code 50 = .ok (.lshl, 1) := by decide +kernel
theorem de8_51 : decode jdk_92_method_19_code 51 = .ok (.lor, 1) := by decide +kernel
theorem de8_52 : decode jdk_92_method_19_code 52 = .ok (.lastore, 1) := by decide +kernel
theorem de8_53 : decode jdk_92_method_19_code 53 = .ok (.aload_n 0, 1) := by decide +kernel
theorem de8_54 : decode jdk_92_method_19_code 54 = .ok (.invokevirtual 56, 3) := by decide +kernel
theorem de8_57 : decode jdk_92_method_19_code 57 = .ok (.return_, 1) := by decide +kernel
theorem ef_ct_e9 (x0 : Int32) (m : MethodId) : entryFrame m #[(.int x0)] 1 = mkF m 0 #[.val (.int x0)] [] := by first | (simp [entryFrame, mkF, argsToLocals, o_catR, o_catN, o_catI, o_catJ, o_catD]; done) | rfl
theorem ct_e9 (l : Launch) (Z : State) (a0 : Array Value) (hw : OHw Z a0) (EL : List (String × Nat)) (n0 : Nat)   (od oz : Addr) (hg : OGp Z od oz) (h0 : Heap)   :
    OCt l Z a0 EL n0 (⟨kB, "wordIndex", "(I)I"⟩ : MethodName) jdk_92_method_1_code 1 (some .int) ({ frames := 0, cells := 0, slots := 0, locals := 0 } : Room) [] #[(.int 0)] h0 [] (fun w vm h => w = some (.int 0) ∧ h = h0) := by
  refine OCt.body (plainFor_of_name pn_e0) (ef_ct_e9 ((0 : Int32))) ?_
  intro p e s m below meth c T hby hml hret hnm hsh P
  refine o_iloadN P (hb hby dwi_0) rfl (pc' := 1) rfl ?_
  refine o_bipush P (6 : Int32) (hb hby dwi_1) rfl (pc' := 3) rfl ?_
  refine o_ishr P (hb hby dwi_3) (pc' := 4) rfl ?_
  show OG p e below m _ T 4 _ [(.int 0)]
  exact o_retI P hret (by simp) rfl (hb hby dwi_4) (by decide) (by decide) ⟨rfl, rfl⟩
theorem de10_0 : decode jdk_92_method_15_code 0 = .ok (.iload_n 1, 1) := by decide +kernel
theorem de10_1 : decode jdk_92_method_15_code 1 = .ok (.iconst 1, 1) := by decide +kernel
theorem de10_2 : decode jdk_92_method_15_code 2 = .ok (.iadd, 1) := by decide +kernel
theorem de10_3 : decode jdk_92_method_15_code 3 = .ok (.istore_n 2, 1) := by decide +kernel
theorem de10_4 : decode jdk_92_method_15_code 4 = .ok (.aload_n 0, 1) := by decide +kernel
theorem de10_5 : decode jdk_92_method_15_code 5 = .ok (.getfield 7, 3) := by decide +kernel
theorem de10_8 : decode jdk_92_method_15_code 8 = .ok (.iload_n 2, 1) := by decide +kernel
theorem de10_9 : decode jdk_92_method_15_code 9 = .ok (.if_icmp .ge 13, 3) := by decide +kernel
theorem de10_12 : decode jdk_92_method_15_code 12 = .ok (.aload_n 0, 1) := by decide +kernel
theorem de10_13 : decode jdk_92_method_15_code 13 = .ok (.iload_n 2, 1) := by decide +kernel
theorem de10_14 : decode jdk_92_method_15_code 14 = .ok (.invokevirtual 139, 3) := by decide +kernel
theorem de10_17 : decode jdk_92_method_15_code 17 = .ok (.aload_n 0, 1) := by decide +kernel
theorem de10_18 : decode jdk_92_method_15_code 18 = .ok (.iload_n 2, 1) := by decide +kernel
theorem de10_19 : decode jdk_92_method_15_code 19 = .ok (.putfield 7, 3) := by decide +kernel
theorem de10_22 : decode jdk_92_method_15_code 22 = .ok (.return_, 1) := by decide +kernel
theorem de11_0 : decode jdk_92_method_14_code 0 = .ok (.aload_n 0, 1) := by decide +kernel
theorem de11_1 : decode jdk_92_method_14_code 1 = .ok (.getfield 11, 3) := by decide +kernel
theorem de11_4 : decode jdk_92_method_14_code 4 = .ok (.arraylength, 1) := by decide +kernel
theorem de11_5 : decode jdk_92_method_14_code 5 = .ok (.iload_n 1, 1) := by decide +kernel
theorem de11_6 : decode jdk_92_method_14_code 6 = .ok (.if_icmp .ge 32, 3) := by decide +kernel
theorem de11_38 : decode jdk_92_method_14_code 38 = .ok (.return_, 1) := by decide +kernel
theorem ef_ct_e12 (x0 : Addr) (x1 : Int32) (m : MethodId) : entryFrame m #[(.ref x0), (.int x1)] 3 = mkF m 0 #[.val (.ref x0), .val (.int x1), .unset] [] := by first | (simp [entryFrame, mkF, argsToLocals, o_catR, o_catN, o_catI, o_catJ, o_catD]; done) | rfl
theorem ct_e12 (l : Launch) (Z : State) (a0 : Array Value) (hw : OHw Z a0) (EL : List (String × Nat)) (n0 : Nat) (p0 : Addr) (p1 : Addr)  (od oz : Addr) (hg : OGp Z od oz) (h0 : Heap) (F_p0 : OObj Z h0 p0 kB [(kB, "wordsInUse", "I", (.int 0)), (kB, "sizeIsSticky", "Z", (.int 1)), (kB, "words", "[J", (.ref p1))]) (A_p1 : OArr Z h0 p1 .long [(.long 0)]) (ne_p0_p1 : p0 ≠ p1) :
    OCt l Z a0 EL n0 (⟨kB, "ensureCapacity", "(I)V"⟩ : MethodName) jdk_92_method_14_code 3 none ({ frames := 0, cells := 0, slots := 0, locals := 0 } : Room) [] #[(.ref p0), (.int 1)] h0 [] (fun w vm h => w = none ∧ h = h0) := by
  refine OCt.body (plainFor_of_name pn_e0) (ef_ct_e12 p0 ((1 : Int32))) ?_
  intro p e s m below meth c T hby hml hret hnm hsh P
  refine o_aloadN P (hb hby de11_0) rfl rfl (pc' := 1) rfl ?_
  refine o_getF P (ow hw 62 rfl) Via.refl (F_p0.fld 2 rfl) (hb hby de11_1) (pc' := 4) rfl ?_
  clear P; intro T P
  refine o_arrlen P A_p1 (hb hby de11_4) (n := (1 : Int32)) rfl (pc' := 5) rfl ?_
  refine o_iloadN P (hb hby de11_5) rfl (pc' := 6) rfl ?_
  refine o_icmp_ge P (hb hby de11_6) (by decide) (pc' := 38) (by decide) (pcf := 9) rfl (fun _ => ?_) (fun q => absurd q (by decide))
  exact o_ret0 P hret (hb hby de11_38) (by decide) (by decide) ⟨rfl, rfl⟩
theorem ef_ct_e13 (x0 : Addr) (x1 : Int32) (m : MethodId) : entryFrame m #[(.ref x0), (.int x1)] 3 = mkF m 0 #[.val (.ref x0), .val (.int x1), .unset] [] := by first | (simp [entryFrame, mkF, argsToLocals, o_catR, o_catN, o_catI, o_catJ, o_catD]; done) | rfl
theorem ct_e13 (l : Launch) (Z : State) (a0 : Array Value) (hw : OHw Z a0) (EL : List (String × Nat)) (n0 : Nat) (p0 : Addr) (p1 : Addr)  (od oz : Addr) (hg : OGp Z od oz) (h0 : Heap) (F_p0 : OObj Z h0 p0 kB [(kB, "wordsInUse", "I", (.int 0)), (kB, "sizeIsSticky", "Z", (.int 1)), (kB, "words", "[J", (.ref p1))]) (A_p1 : OArr Z h0 p1 .long [(.long 0)]) (ne_p0_p1 : p0 ≠ p1) :
    OCt l Z a0 EL n0 (⟨kB, "expandTo", "(I)V"⟩ : MethodName) jdk_92_method_15_code 3 none ({ frames := 1, cells := 0, slots := 0, locals := 14 } : Room) [] #[(.ref p0), (.int 0)] h0 [p0] (fun w vm h => w = none ∧ OObj Z h p0 kB [(kB, "wordsInUse", "I", (.int 1)), (kB, "sizeIsSticky", "Z", (.int 1)), (kB, "words", "[J", (.ref p1))] ∧ True) := by
  refine OCt.body (plainFor_of_name pn_e0) (ef_ct_e13 p0 ((0 : Int32))) ?_
  intro p e s m below meth c T hby hml hret hnm hsh P
  refine o_iloadN P (hb hby de10_0) rfl (pc' := 1) rfl ?_
  refine o_iconst P (1 : Int32) (hb hby de10_1) rfl (pc' := 2) rfl ?_
  refine o_iadd P (hb hby de10_2) (pc' := 3) rfl ?_
  show OG p e below m _ T 3 _ [(.int 1)]
  refine o_istoreN P (hb hby de10_3) (L' := #[.val (.ref p0), .val (.int 0), .val (.int 1)]) rfl (pc' := 4) rfl ?_
  refine o_aloadN P (hb hby de10_4) rfl rfl (pc' := 5) rfl ?_
  refine o_getF P (ow hw 50 rfl) Via.refl (F_p0.fld 0 rfl) (hb hby de10_5) (pc' := 8) rfl ?_
  clear P; intro T P
  refine o_iloadN P (hb hby de10_8) rfl (pc' := 9) rfl ?_
  refine o_icmp_ge P (hb hby de10_9) (by decide) (pc' := 22) (by decide) (pcf := 12) rfl (fun q => absurd (by decide) q) (fun _ => ?_)
  refine o_aloadN P (hb hby de10_12) rfl rfl (pc' := 13) rfl ?_
  refine o_iloadN P (hb hby de10_13) rfl (pc' := 14) rfl ?_
  refine o_callP P (W := 0) (a := p0) (ow hw 76 rfl) (ow hw 77 rfl) (ow hw 79 rfl) (ow hw 78 rfl) (ow hw 45 rfl) (ow hw 80 rfl) (by decide) F_p0.exa (ct_e12 l Z a0 hw EL n0 p0 p1  od oz hg h0 F_p0 A_p1 ne_p0_p1) o_sf0 (by rw [hml]; rfl) (by decide) (by decide) (argsL := [(.int 1)]) (rest := []) (lenOf pd_1 rfl) rfl rfl (Nat.le_of_eq rfl) (hb hby de10_14) (pc' := 17) rfl (by decide) (by decide) ?_
  clear P; intro T h2 v2 P K2 q2
  obtain ⟨rfl, rfl⟩ := q2; clear K2
  show OG p e below m _ T 17 _ []
  refine o_aloadN P (hb hby de10_17) rfl rfl (pc' := 18) rfl ?_
  refine o_iloadN P (hb hby de10_18) rfl (pc' := 19) rfl ?_
  refine o_putF P (v' := (.int 1)) (ty := .int) (ow hw 50 rfl) Via.refl (F_p0.fld 0 rfl) F_p0.exa (Or.inl (ow hw 51 rfl)) (ow hw 44 rfl) (by decide) rfl rfl (List.Mem.head _) (hb hby de10_19) (pc' := 22) rfl ?_
  clear P; intro T h3 P W3
  replace A_p1 := A_p1.oth W3 (Ne.symm ne_p0_p1)
  replace F_p0 : OObj Z h3 p0 kB [(kB, "wordsInUse", "I", (.int 1)), (kB, "sizeIsSticky", "Z", (.int 1)), (kB, "words", "[J", (.ref p1))] := F_p0.put 0 rfl W3
  clear W3
  exact o_ret0 P hret (hb hby de10_22) (by decide) (by decide) ⟨rfl, F_p0, trivial⟩
theorem de14_0 : decode jdk_92_method_2_code 0 = .ok (.getstatic 3, 3) := by decide +kernel
theorem de14_3 : decode jdk_92_method_2_code 3 = .ok (.ifCond .ne 34, 3) := by decide +kernel
theorem de14_37 : decode jdk_92_method_2_code 37 = .ok (.getstatic 3, 3) := by decide +kernel
theorem de14_40 : decode jdk_92_method_2_code 40 = .ok (.ifCond .ne 30, 3) := by decide +kernel
theorem de14_70 : decode jdk_92_method_2_code 70 = .ok (.getstatic 3, 3) := by decide +kernel
theorem de14_73 : decode jdk_92_method_2_code 73 = .ok (.ifCond .ne 37, 3) := by decide +kernel
theorem de14_110 : decode jdk_92_method_2_code 110 = .ok (.return_, 1) := by decide +kernel
theorem ef_ct_e15 (x0 : Addr) (m : MethodId) : entryFrame m #[(.ref x0)] 1 = mkF m 0 #[.val (.ref x0)] [] := by first | (simp [entryFrame, mkF, argsToLocals, o_catR, o_catN, o_catI, o_catJ, o_catD]; done) | rfl
theorem ct_e15 (l : Launch) (Z : State) (a0 : Array Value) (hw : OHw Z a0) (EL : List (String × Nat)) (n0 : Nat) (p0 : Addr) (p1 : Addr)  (od oz : Addr) (hg : OGp Z od oz) (h0 : Heap) (F_p0 : OObj Z h0 p0 kB [(kB, "wordsInUse", "I", (.int 1)), (kB, "sizeIsSticky", "Z", (.int 1)), (kB, "words", "[J", (.ref p1))]) (A_p1 : OArr Z h0 p1 .long [(.long 1)]) (ne_p0_p1 : p0 ≠ p1) :
    OCt l Z a0 EL n0 (⟨kB, "checkInvariants", "()V"⟩ : MethodName) jdk_92_method_2_code 1 none ({ frames := 0, cells := 0, slots := 0, locals := 0 } : Room) [] #[(.ref p0)] h0 [] (fun w vm h => w = none ∧ h = h0) := by
  refine OCt.body (plainFor_of_name pn_e0) (ef_ct_e15 p0) ?_
  intro p e s m below meth c T hby hml hret hnm hsh P
  refine o_getS P (ow hw 86 rfl) Via.refl hg.1 (hb hby de14_0) (pc' := 3) rfl ?_
  clear P; intro T P
  refine o_if_ne P (hb hby de14_3) (by decide) (pc' := 37) (by decide) (pcf := 6) rfl (fun _ => ?_) (fun q => absurd q (by decide))
  refine o_getS P (ow hw 86 rfl) Via.refl hg.1 (hb hby de14_37) (pc' := 40) rfl ?_
  clear P; intro T P
  refine o_if_ne P (hb hby de14_40) (by decide) (pc' := 70) (by decide) (pcf := 43) rfl (fun _ => ?_) (fun q => absurd q (by decide))
  refine o_getS P (ow hw 86 rfl) Via.refl hg.1 (hb hby de14_70) (pc' := 73) rfl ?_
  clear P; intro T P
  refine o_if_ne P (hb hby de14_73) (by decide) (pc' := 110) (by decide) (pcf := 76) rfl (fun _ => ?_) (fun q => absurd q (by decide))
  exact o_ret0 P hret (hb hby de14_110) (by decide) (by decide) ⟨rfl, rfl⟩
theorem ef_ct_e16 (x0 : Addr) (x1 : Int32) (m : MethodId) : entryFrame m #[(.ref x0), (.int x1)] 3 = mkF m 0 #[.val (.ref x0), .val (.int x1), .unset] [] := by first | (simp [entryFrame, mkF, argsToLocals, o_catR, o_catN, o_catI, o_catJ, o_catD]; done) | rfl
theorem ct_e16 (l : Launch) (Z : State) (a0 : Array Value) (hw : OHw Z a0) (EL : List (String × Nat)) (n0 : Nat) (p0 : Addr) (p1 : Addr)  (od oz : Addr) (hg : OGp Z od oz) (h0 : Heap) (F_p0 : OObj Z h0 p0 kB [(kB, "wordsInUse", "I", (.int 0)), (kB, "sizeIsSticky", "Z", (.int 1)), (kB, "words", "[J", (.ref p1))]) (A_p1 : OArr Z h0 p1 .long [(.long 0)]) (ne_p0_p1 : p0 ≠ p1) :
    OCt l Z a0 EL n0 (⟨kB, "set", "(I)V"⟩ : MethodName) jdk_92_method_19_code 3 none ({ frames := 2, cells := 0, slots := 0, locals := 28 } : Room) [] #[(.ref p0), (.int 0)] h0 [p0, p1] (fun w vm h => w = none ∧ OObj Z h p0 kB [(kB, "wordsInUse", "I", (.int 1)), (kB, "sizeIsSticky", "Z", (.int 1)), (kB, "words", "[J", (.ref p1))] ∧ OArr Z h p1 .long [(.long 1)] ∧ True) := by
  refine OCt.body (plainFor_of_name pn_e0) (ef_ct_e16 p0 ((0 : Int32))) ?_
  intro p e s m below meth c T hby hml hret hnm hsh P
  refine o_iloadN P (hb hby de8_0) rfl (pc' := 1) rfl ?_
  refine o_if_ge P (hb hby de8_1) (by decide) (pc' := 31) (by decide) (pcf := 4) rfl (fun _ => ?_) (fun q => absurd q (by decide))
  refine o_iloadN P (hb hby de8_31) rfl (pc' := 32) rfl ?_
  refine o_callS P (W := 0) (ow hw 59 rfl) (ow hw 60 rfl) (ow hw 45 rfl) (ow hw 61 rfl) (by decide) (ct_e9 l Z a0 hw EL n0   od oz hg h0  ) o_sf0 (by rw [hml]; rfl) (by decide) (by decide) (argsL := [(.int 0)]) (rest := []) (lenOf pd_0 rfl) rfl rfl (Nat.le_of_eq rfl) (hb hby de8_32) (pc' := 35) rfl (by decide) (by decide) ?_
  clear P; intro T h2 v2 P K2 q2
  obtain ⟨rfl, rfl⟩ := q2; clear K2
  show OG p e below m _ T 35 _ [(.int 0)]
  refine o_istoreN P (hb hby de8_35) (L' := #[.val (.ref p0), .val (.int 0), .val (.int 0)]) rfl (pc' := 36) rfl ?_
  refine o_aloadN P (hb hby de8_36) rfl rfl (pc' := 37) rfl ?_
  refine o_iloadN P (hb hby de8_37) rfl (pc' := 38) rfl ?_
  have hn_3 := P.n0le; have hk_3 := P.keep0.1
  refine o_callP P (W := 0) (a := p0) (ow hw 71 rfl) (ow hw 72 rfl) (ow hw 74 rfl) (ow hw 73 rfl) (ow hw 45 rfl) (ow hw 75 rfl) (by decide) F_p0.exa (ct_e13 l Z a0 hw EL n0 p0 p1  od oz hg h2 F_p0 A_p1 ne_p0_p1) (o_sfS (List.Mem.head _) o_sf0) (by rw [hml]; rfl) (by decide) (by decide) (argsL := [(.int 0)]) (rest := []) (lenOf pd_1 rfl) rfl rfl (Nat.le_of_eq rfl) (hb hby de8_38) (pc' := 41) rfl (by decide) (by decide) ?_
  clear P; intro T h4 v4 P K4 q4
  obtain ⟨rfl, Q_p0, -⟩ := q4
  replace A_p1 := A_p1.keep K4 (ninS (Ne.symm ne_p0_p1) nin0)
  clear F_p0
  have F_p0 := Q_p0; clear Q_p0
  clear K4 hn_3 hk_3
  show OG p e below m _ T 41 _ []
  refine o_aloadN P (hb hby de8_41) rfl rfl (pc' := 42) rfl ?_
  refine o_getF P (ow hw 62 rfl) Via.refl (F_p0.fld 2 rfl) (hb hby de8_42) (pc' := 45) rfl ?_
  clear P; intro T P
  refine o_iloadN P (hb hby de8_45) rfl (pc' := 46) rfl ?_
  refine o_dup2 P (hb hby de8_46) rfl rfl (pc' := 47) rfl ?_
  refine o_laload P (v := (.long 0)) A_p1 (by decide) rfl (hb hby de8_47) (pc' := 48) rfl ?_
  refine o_lconst P (1 : Int64) (hb hby de8_48) rfl (pc' := 49) rfl ?_
  refine o_iloadN P (hb hby de8_49) rfl (pc' := 50) rfl ?_
  refine o_lshl P (hb hby de8_50) (pc' := 51) rfl ?_
  show OG p e below m _ T 51 _ [(.long 1), (.long 0), (.int 0), (.ref p1)]
  refine o_lor P (hb hby de8_51) (pc' := 52) rfl ?_
  show OG p e below m _ T 52 _ [(.long 1), (.int 0), (.ref p1)]
  refine o_lastore P (v := (.long 1)) A_p1 (List.Mem.tail _ (List.Mem.head _)) (by decide) (of_decide_eq_true rfl) rfl (hb hby de8_52) (pc' := 53) rfl ?_
  clear P; clear A_p1; intro T h5 P W5 A_p1
  replace F_p0 := F_p0.oth W5 ne_p0_p1
  clear W5
  replace A_p1 : OArr Z h5 p1 .long [(.long 1)] := A_p1
  refine o_aloadN P (hb hby de8_53) rfl rfl (pc' := 54) rfl ?_
  refine o_callP P (W := 0) (a := p0) (ow hw 81 rfl) (ow hw 82 rfl) (ow hw 84 rfl) (ow hw 83 rfl) (ow hw 45 rfl) (ow hw 85 rfl) (by decide) F_p0.exa (ct_e15 l Z a0 hw EL n0 p0 p1  od oz hg h5 F_p0 A_p1 ne_p0_p1) o_sf0 (by rw [hml]; rfl) (by decide) (by decide) (argsL := []) (rest := []) (lenOf pd_2 rfl) rfl rfl (Nat.le_of_eq rfl) (hb hby de8_54) (pc' := 57) rfl (by decide) (by decide) ?_
  clear P; intro T h7 v7 P K7 q7
  obtain ⟨rfl, rfl⟩ := q7; clear K7
  show OG p e below m _ T 57 _ []
  exact o_ret0 P hret (hb hby de8_57) (by decide) (by decide) ⟨rfl, F_p0, A_p1, trivial⟩
theorem ef_ct_e17 (x0 : Addr) (x1 : Int32) (m : MethodId) : entryFrame m #[(.ref x0), (.int x1)] 3 = mkF m 0 #[.val (.ref x0), .val (.int x1), .unset] [] := by first | (simp [entryFrame, mkF, argsToLocals, o_catR, o_catN, o_catI, o_catJ, o_catD]; done) | rfl
theorem ct_e17 (l : Launch) (Z : State) (a0 : Array Value) (hw : OHw Z a0) (EL : List (String × Nat)) (n0 : Nat) (p0 : Addr) (p1 : Addr)  (od oz : Addr) (hg : OGp Z od oz) (h0 : Heap) (F_p0 : OObj Z h0 p0 kB [(kB, "wordsInUse", "I", (.int 1)), (kB, "sizeIsSticky", "Z", (.int 1)), (kB, "words", "[J", (.ref p1))]) (A_p1 : OArr Z h0 p1 .long [(.long 1)]) (ne_p0_p1 : p0 ≠ p1) :
    OCt l Z a0 EL n0 (⟨kB, "expandTo", "(I)V"⟩ : MethodName) jdk_92_method_15_code 3 none ({ frames := 0, cells := 0, slots := 0, locals := 0 } : Room) [] #[(.ref p0), (.int 0)] h0 [] (fun w vm h => w = none ∧ h = h0) := by
  refine OCt.body (plainFor_of_name pn_e0) (ef_ct_e17 p0 ((0 : Int32))) ?_
  intro p e s m below meth c T hby hml hret hnm hsh P
  refine o_iloadN P (hb hby de10_0) rfl (pc' := 1) rfl ?_
  refine o_iconst P (1 : Int32) (hb hby de10_1) rfl (pc' := 2) rfl ?_
  refine o_iadd P (hb hby de10_2) (pc' := 3) rfl ?_
  show OG p e below m _ T 3 _ [(.int 1)]
  refine o_istoreN P (hb hby de10_3) (L' := #[.val (.ref p0), .val (.int 0), .val (.int 1)]) rfl (pc' := 4) rfl ?_
  refine o_aloadN P (hb hby de10_4) rfl rfl (pc' := 5) rfl ?_
  refine o_getF P (ow hw 50 rfl) Via.refl (F_p0.fld 0 rfl) (hb hby de10_5) (pc' := 8) rfl ?_
  clear P; intro T P
  refine o_iloadN P (hb hby de10_8) rfl (pc' := 9) rfl ?_
  refine o_icmp_ge P (hb hby de10_9) (by decide) (pc' := 22) (by decide) (pcf := 12) rfl (fun _ => ?_) (fun q => absurd q (by decide))
  exact o_ret0 P hret (hb hby de10_22) (by decide) (by decide) ⟨rfl, rfl⟩
theorem ef_ct_e18 (x0 : Addr) (m : MethodId) : entryFrame m #[(.ref x0)] 1 = mkF m 0 #[.val (.ref x0)] [] := by first | (simp [entryFrame, mkF, argsToLocals, o_catR, o_catN, o_catI, o_catJ, o_catD]; done) | rfl
theorem ct_e18 (l : Launch) (Z : State) (a0 : Array Value) (hw : OHw Z a0) (EL : List (String × Nat)) (n0 : Nat) (p0 : Addr) (p1 : Addr)  (od oz : Addr) (hg : OGp Z od oz) (h0 : Heap) (F_p0 : OObj Z h0 p0 kB [(kB, "wordsInUse", "I", (.int 1)), (kB, "sizeIsSticky", "Z", (.int 1)), (kB, "words", "[J", (.ref p1))]) (A_p1 : OArr Z h0 p1 .long [(.long 8193)]) (ne_p0_p1 : p0 ≠ p1) :
    OCt l Z a0 EL n0 (⟨kB, "checkInvariants", "()V"⟩ : MethodName) jdk_92_method_2_code 1 none ({ frames := 0, cells := 0, slots := 0, locals := 0 } : Room) [] #[(.ref p0)] h0 [] (fun w vm h => w = none ∧ h = h0) := by
  refine OCt.body (plainFor_of_name pn_e0) (ef_ct_e18 p0) ?_
  intro p e s m below meth c T hby hml hret hnm hsh P
  refine o_getS P (ow hw 86 rfl) Via.refl hg.1 (hb hby de14_0) (pc' := 3) rfl ?_
  clear P; intro T P
  refine o_if_ne P (hb hby de14_3) (by decide) (pc' := 37) (by decide) (pcf := 6) rfl (fun _ => ?_) (fun q => absurd q (by decide))
  refine o_getS P (ow hw 86 rfl) Via.refl hg.1 (hb hby de14_37) (pc' := 40) rfl ?_
  clear P; intro T P
  refine o_if_ne P (hb hby de14_40) (by decide) (pc' := 70) (by decide) (pcf := 43) rfl (fun _ => ?_) (fun q => absurd q (by decide))
  refine o_getS P (ow hw 86 rfl) Via.refl hg.1 (hb hby de14_70) (pc' := 73) rfl ?_
  clear P; intro T P
  refine o_if_ne P (hb hby de14_73) (by decide) (pc' := 110) (by decide) (pcf := 76) rfl (fun _ => ?_) (fun q => absurd q (by decide))
  exact o_ret0 P hret (hb hby de14_110) (by decide) (by decide) ⟨rfl, rfl⟩
theorem ef_ct_e19 (x0 : Addr) (x1 : Int32) (m : MethodId) : entryFrame m #[(.ref x0), (.int x1)] 3 = mkF m 0 #[.val (.ref x0), .val (.int x1), .unset] [] := by first | (simp [entryFrame, mkF, argsToLocals, o_catR, o_catN, o_catI, o_catJ, o_catD]; done) | rfl
theorem ct_e19 (l : Launch) (Z : State) (a0 : Array Value) (hw : OHw Z a0) (EL : List (String × Nat)) (n0 : Nat) (p0 : Addr) (p1 : Addr)  (od oz : Addr) (hg : OGp Z od oz) (h0 : Heap) (F_p0 : OObj Z h0 p0 kB [(kB, "wordsInUse", "I", (.int 1)), (kB, "sizeIsSticky", "Z", (.int 1)), (kB, "words", "[J", (.ref p1))]) (A_p1 : OArr Z h0 p1 .long [(.long 1)]) (ne_p0_p1 : p0 ≠ p1) :
    OCt l Z a0 EL n0 (⟨kB, "set", "(I)V"⟩ : MethodName) jdk_92_method_19_code 3 none ({ frames := 1, cells := 0, slots := 0, locals := 14 } : Room) [] #[(.ref p0), (.int 13)] h0 [p1] (fun w vm h => w = none ∧ OArr Z h p1 .long [(.long 8193)] ∧ True) := by
  refine OCt.body (plainFor_of_name pn_e0) (ef_ct_e19 p0 ((13 : Int32))) ?_
  intro p e s m below meth c T hby hml hret hnm hsh P
  refine o_iloadN P (hb hby de8_0) rfl (pc' := 1) rfl ?_
  refine o_if_ge P (hb hby de8_1) (by decide) (pc' := 31) (by decide) (pcf := 4) rfl (fun _ => ?_) (fun q => absurd q (by decide))
  refine o_iloadN P (hb hby de8_31) rfl (pc' := 32) rfl ?_
  refine o_callS P (W := 0) (ow hw 59 rfl) (ow hw 60 rfl) (ow hw 45 rfl) (ow hw 61 rfl) (by decide) (ct_e5 l Z a0 hw EL n0   od oz hg h0  ) o_sf0 (by rw [hml]; rfl) (by decide) (by decide) (argsL := [(.int 13)]) (rest := []) (lenOf pd_0 rfl) rfl rfl (Nat.le_of_eq rfl) (hb hby de8_32) (pc' := 35) rfl (by decide) (by decide) ?_
  clear P; intro T h2 v2 P K2 q2
  obtain ⟨rfl, rfl⟩ := q2; clear K2
  show OG p e below m _ T 35 _ [(.int 0)]
  refine o_istoreN P (hb hby de8_35) (L' := #[.val (.ref p0), .val (.int 13), .val (.int 0)]) rfl (pc' := 36) rfl ?_
  refine o_aloadN P (hb hby de8_36) rfl rfl (pc' := 37) rfl ?_
  refine o_iloadN P (hb hby de8_37) rfl (pc' := 38) rfl ?_
  refine o_callP P (W := 0) (a := p0) (ow hw 71 rfl) (ow hw 72 rfl) (ow hw 74 rfl) (ow hw 73 rfl) (ow hw 45 rfl) (ow hw 75 rfl) (by decide) F_p0.exa (ct_e17 l Z a0 hw EL n0 p0 p1  od oz hg h2 F_p0 A_p1 ne_p0_p1) o_sf0 (by rw [hml]; rfl) (by decide) (by decide) (argsL := [(.int 0)]) (rest := []) (lenOf pd_1 rfl) rfl rfl (Nat.le_of_eq rfl) (hb hby de8_38) (pc' := 41) rfl (by decide) (by decide) ?_
  clear P; intro T h4 v4 P K4 q4
  obtain ⟨rfl, rfl⟩ := q4; clear K4
  show OG p e below m _ T 41 _ []
  refine o_aloadN P (hb hby de8_41) rfl rfl (pc' := 42) rfl ?_
  refine o_getF P (ow hw 62 rfl) Via.refl (F_p0.fld 2 rfl) (hb hby de8_42) (pc' := 45) rfl ?_
  clear P; intro T P
  refine o_iloadN P (hb hby de8_45) rfl (pc' := 46) rfl ?_
  refine o_dup2 P (hb hby de8_46) rfl rfl (pc' := 47) rfl ?_
  refine o_laload P (v := (.long 1)) A_p1 (by decide) rfl (hb hby de8_47) (pc' := 48) rfl ?_
  refine o_lconst P (1 : Int64) (hb hby de8_48) rfl (pc' := 49) rfl ?_
  refine o_iloadN P (hb hby de8_49) rfl (pc' := 50) rfl ?_
  refine o_lshl P (hb hby de8_50) (pc' := 51) rfl ?_
  show OG p e below m _ T 51 _ [(.long 8192), (.long 1), (.int 0), (.ref p1)]
  refine o_lor P (hb hby de8_51) (pc' := 52) rfl ?_
  show OG p e below m _ T 52 _ [(.long 8193), (.int 0), (.ref p1)]
  refine o_lastore P (v := (.long 8193)) A_p1 (List.Mem.head _) (by decide) (of_decide_eq_true rfl) rfl (hb hby de8_52) (pc' := 53) rfl ?_
  clear P; clear A_p1; intro T h5 P W5 A_p1
  replace F_p0 := F_p0.oth W5 ne_p0_p1
  clear W5
  replace A_p1 : OArr Z h5 p1 .long [(.long 8193)] := A_p1
  refine o_aloadN P (hb hby de8_53) rfl rfl (pc' := 54) rfl ?_
  refine o_callP P (W := 0) (a := p0) (ow hw 81 rfl) (ow hw 82 rfl) (ow hw 84 rfl) (ow hw 83 rfl) (ow hw 45 rfl) (ow hw 85 rfl) (by decide) F_p0.exa (ct_e18 l Z a0 hw EL n0 p0 p1  od oz hg h5 F_p0 A_p1 ne_p0_p1) o_sf0 (by rw [hml]; rfl) (by decide) (by decide) (argsL := []) (rest := []) (lenOf pd_2 rfl) rfl rfl (Nat.le_of_eq rfl) (hb hby de8_54) (pc' := 57) rfl (by decide) (by decide) ?_
  clear P; intro T h7 v7 P K7 q7
  obtain ⟨rfl, rfl⟩ := q7; clear K7
  show OG p e below m _ T 57 _ []
  exact o_ret0 P hret (hb hby de8_57) (by decide) (by decide) ⟨rfl, A_p1, trivial⟩
theorem ef_ct_e20 (x0 : Addr) (x1 : Addr) (x2 : Int32) (m : MethodId) : entryFrame m #[(.ref x0), (.ref x1), (.int x2)] 3 = mkF m 0 #[.val (.ref x0), .val (.ref x1), .val (.int x2)] [] := by first | (simp [entryFrame, mkF, argsToLocals, o_catR, o_catN, o_catI, o_catJ, o_catD]; done) | rfl
theorem pn_e1 : plainName kS = true := by first | (simp [plainName, overriddenIn]; done) | decide +kernel
theorem ct_e20 (l : Launch) (Z : State) (a0 : Array Value) (hw : OHw Z a0) (EL : List (String × Nat)) (n0 : Nat) (p0 : Addr) (p1 : Addr) (x0 : Int64) (x1 : Int64) (od oz : Addr) (hg : OGp Z od oz) (h0 : Heap) (F_p0 : OObj Z h0 p0 kS [(kS, "values", "[J", .null), (kS, "cuts", "Ljava/util/BitSet;", .null)]) (A_p1 : OArr Z h0 p1 .long [(.long x0), (.long x1), (.long x1), (.long x0), (.long x1), (.long x1), (.long x0), (.long x1), (.long x0), (.long x1), (.long x1), (.long x0), (.long x1), (.long 0), (.long 0), (.long 0)]) (ne_p0_p1 : p0 ≠ p1) :
    OCt l Z a0 EL n0 (⟨kS, "<init>", "([JI)V"⟩ : MethodName) prog_15_method_1_code 3 none ({ frames := 3, cells := 2, slots := 4, locals := 42 } : Room) [] #[(.ref p0), (.ref p1), (.int 13)] h0 [p0] (fun w vm h => ∃ n0 n1 : Addr, w = none ∧ h0.size ≤ n0 ∧ h0.size ≤ n1 ∧ n0 ≠ n1 ∧ OObj Z h p0 kS [(kS, "values", "[J", (.ref p1)), (kS, "cuts", "Ljava/util/BitSet;", (.ref n0))] ∧ OObj Z h n0 kB [(kB, "wordsInUse", "I", (.int 1)), (kB, "sizeIsSticky", "Z", (.int 1)), (kB, "words", "[J", (.ref n1))] ∧ OArr Z h n1 .long [(.long 8193)] ∧ True) := by
  refine OCt.body (plainFor_of_name pn_e1) (ef_ct_e20 p0 p1 ((13 : Int32))) ?_
  intro p e s m below meth c T hby hml hret hnm hsh P
  refine o_aloadN P (hb hby de2_0) rfl rfl (pc' := 1) rfl ?_
  refine o_initO P (W := 0) (ow hw 40 rfl) (ow hw 10 rfl) (ow hw 11 rfl) (by rw [hml]; rfl) (by decide) (Nat.le_of_eq rfl) (by decide) (hb hby de2_1) (pc' := 4) rfl ?_
  clear P; intro T P
  refine o_aloadN P (hb hby de2_4) rfl rfl (pc' := 5) rfl ?_
  refine o_aloadN P (hb hby de2_5) rfl rfl (pc' := 6) rfl ?_
  refine o_putF P (v' := (.ref p1)) (ty := (.array .long)) (ow hw 41 rfl) Via.refl (F_p0.fld 0 rfl) F_p0.exa (Or.inr ⟨(ow hw 42 rfl), rfl, hnm⟩) (ow hw 35 rfl) (by decide) rfl rfl (List.Mem.head _) (hb hby de2_6) (pc' := 9) rfl ?_
  clear P; intro T h1 P W1
  replace A_p1 := A_p1.oth W1 (Ne.symm ne_p0_p1)
  replace F_p0 : OObj Z h1 p0 kS [(kS, "values", "[J", (.ref p1)), (kS, "cuts", "Ljava/util/BitSet;", .null)] := F_p0.put 0 rfl W1
  clear W1
  refine o_aloadN P (hb hby de2_9) rfl rfl (pc' := 10) rfl ?_
  have hz_b2 := P.keep0.1
  refine o_new P [(kB, "wordsInUse", "I", (.int 0)), (kB, "sizeIsSticky", "Z", (.int 0)), (kB, "words", "[J", .null)] (ow hw 43 rfl) (ow hw 44 rfl) (ow hw 45 rfl) (OLd.cons (Or.inl (ow hw 51 rfl)) (ty := .int) (by decide) rfl (OLd.cons (Or.inl (ow hw 53 rfl)) (ty := .boolean) (by decide) rfl (OLd.cons (Or.inl (ow hw 63 rfl)) (ty := (.array .long)) (by decide) rfl OLd.nil))) (by decide +kernel) (hb hby de2_10) (pc' := 13) rfl (by decide) (by decide) ?_
  clear P; intro T h2 b2 P K2 hb_b2 F_b2
  have sz_b2 := Nat.le_trans hz_b2 hb_b2
  clear hz_b2
  have ne_p0_b2 := F_p0.nb hb_b2
  have ne_p1_b2 := A_p1.nb hb_b2
  replace F_p0 := F_p0.keep K2 nin0
  replace A_p1 := A_p1.keep K2 nin0
  clear K2
  refine o_dup P (hb hby de2_13) rfl (pc' := 14) rfl ?_
  refine o_iloadN P (hb hby de2_14) rfl (pc' := 15) rfl ?_
  refine o_iconst P (1 : Int32) (hb hby de2_15) rfl (pc' := 16) rfl ?_
  refine o_iadd P (hb hby de2_16) (pc' := 17) rfl ?_
  show OG p e below m _ T 17 _ [(.int 14), (.ref b2), (.ref b2), (.ref p0)]
  have hn_3 := P.n0le; have hk_3 := P.keep0.1
  refine o_callI P (W := 2) (a := b2) rfl (ow hw 46 rfl) (ow hw 47 rfl) (ow hw 45 rfl) (ow hw 48 rfl) (by decide) (ct_e7 l Z a0 hw EL n0 b2  od oz hg h2 F_b2 ) (o_sfS (List.Mem.head _) o_sf0) (by rw [hml]; rfl) (by decide) (by decide) (argsL := [(.int 14)]) (rest := [(.ref b2), (.ref p0)]) (lenOf pd_1 rfl) rfl rfl (Nat.le_of_eq rfl) (hb hby de2_17) (pc' := 20) rfl (by decide) (by decide) ?_
  clear P; intro T h4 v4 P K4 q4
  obtain ⟨n0_3, rfl, g_n0_3, Q_b2, Q_n0_3, -⟩ := q4
  have ne_p0_n0_3 := F_p0.nb g_n0_3
  have ne_b2_n0_3 := F_b2.nb g_n0_3
  have ne_p1_n0_3 := A_p1.nb g_n0_3
  have sz_n0_3 := Nat.le_trans hk_3 g_n0_3
  replace F_p0 := F_p0.keep K4 (ninS ne_p0_b2 nin0)
  replace A_p1 := A_p1.keep K4 (ninS ne_p1_b2 nin0)
  clear F_b2
  have F_b2 := Q_b2; clear Q_b2
  have A_n0_3 := Q_n0_3; clear Q_n0_3
  replace P := P.moreA A_n0_3 (fun q => by cases q) (Nat.le_trans hn_3 g_n0_3) sz_n0_3
  clear K4 hn_3 hk_3
  show OG p e below m _ T 20 _ [(.ref b2), (.ref p0)]
  refine o_putF P (v' := (.ref b2)) (ty := (.object kB)) (ow hw 64 rfl) Via.refl (F_p0.fld 1 rfl) F_p0.exa (Or.inr ⟨(ow hw 65 rfl), rfl, hnm⟩) (ow hw 35 rfl) (by decide) rfl rfl (List.Mem.tail _ (List.Mem.tail _ (List.Mem.head _))) (hb hby de2_20) (pc' := 23) rfl ?_
  clear P; intro T h5 P W5
  replace F_b2 := F_b2.oth W5 (Ne.symm ne_p0_b2)
  replace A_p1 := A_p1.oth W5 (Ne.symm ne_p0_p1)
  replace A_n0_3 := A_n0_3.oth W5 (Ne.symm ne_p0_n0_3)
  replace F_p0 : OObj Z h5 p0 kS [(kS, "values", "[J", (.ref p1)), (kS, "cuts", "Ljava/util/BitSet;", (.ref b2))] := F_p0.put 1 rfl W5
  clear W5
  refine o_aloadN P (hb hby de2_23) rfl rfl (pc' := 24) rfl ?_
  refine o_getF P (ow hw 64 rfl) Via.refl (F_p0.fld 1 rfl) (hb hby de2_24) (pc' := 27) rfl ?_
  clear P; intro T P
  refine o_iconst P (0 : Int32) (hb hby de2_27) rfl (pc' := 28) rfl ?_
  have hn_6 := P.n0le; have hk_6 := P.keep0.1
  refine o_callV P (W := 0) (a := b2) (ow hw 66 rfl) (ow hw 67 rfl) (o_nfSl (ow hw 69 rfl)) (ow hw 69 rfl) (ow hw 68 rfl) (ow hw 45 rfl) (ow hw 70 rfl) (by decide) F_b2.exa (ct_e16 l Z a0 hw EL n0 b2 n0_3  od oz hg h5 F_b2 A_n0_3 ne_b2_n0_3) (o_sfS (List.Mem.tail _ (List.Mem.head _)) (o_sfS (List.Mem.head _) o_sf0)) (by rw [hml]; rfl) (by decide) (by decide) (argsL := [(.int 0)]) (rest := []) (lenOf pd_1 rfl) rfl rfl (Nat.le_of_eq rfl) (hb hby de2_28) (pc' := 31) rfl (by decide) (by decide) ?_
  clear P; intro T h7 v7 P K7 q7
  obtain ⟨rfl, Q_b2, Q_n0_3, -⟩ := q7
  replace F_p0 := F_p0.keep K7 (ninS ne_p0_b2 (ninS ne_p0_n0_3 nin0))
  replace A_p1 := A_p1.keep K7 (ninS ne_p1_b2 (ninS ne_p1_n0_3 nin0))
  clear F_b2
  have F_b2 := Q_b2; clear Q_b2
  clear A_n0_3
  have A_n0_3 := Q_n0_3; clear Q_n0_3
  clear K7 hn_6 hk_6
  show OG p e below m _ T 31 _ []
  refine o_aloadN P (hb hby de2_31) rfl rfl (pc' := 32) rfl ?_
  refine o_getF P (ow hw 64 rfl) Via.refl (F_p0.fld 1 rfl) (hb hby de2_32) (pc' := 35) rfl ?_
  clear P; intro T P
  refine o_iloadN P (hb hby de2_35) rfl (pc' := 36) rfl ?_
  have hn_8 := P.n0le; have hk_8 := P.keep0.1
  refine o_callV P (W := 0) (a := b2) (ow hw 66 rfl) (ow hw 67 rfl) (o_nfSl (ow hw 69 rfl)) (ow hw 69 rfl) (ow hw 68 rfl) (ow hw 45 rfl) (ow hw 70 rfl) (by decide) F_b2.exa (ct_e19 l Z a0 hw EL n0 b2 n0_3  od oz hg h7 F_b2 A_n0_3 ne_b2_n0_3) (o_sfS (List.Mem.head _) o_sf0) (by rw [hml]; rfl) (by decide) (by decide) (argsL := [(.int 13)]) (rest := []) (lenOf pd_1 rfl) rfl rfl (Nat.le_of_eq rfl) (hb hby de2_36) (pc' := 39) rfl (by decide) (by decide) ?_
  clear P; intro T h9 v9 P K9 q9
  obtain ⟨rfl, Q_n0_3, -⟩ := q9
  replace F_p0 := F_p0.keep K9 (ninS ne_p0_n0_3 nin0)
  replace F_b2 := F_b2.keep K9 (ninS ne_b2_n0_3 nin0)
  replace A_p1 := A_p1.keep K9 (ninS ne_p1_n0_3 nin0)
  clear A_n0_3
  have A_n0_3 := Q_n0_3; clear Q_n0_3
  clear K9 hn_8 hk_8
  show OG p e below m _ T 39 _ []
  exact o_ret0 P hret (hb hby de2_39) (by decide) (by decide) ⟨b2, n0_3, rfl, hsh ▸ sz_b2, hsh ▸ sz_n0_3, ne_b2_n0_3, F_p0, F_b2, A_n0_3, trivial⟩
theorem de21_0 : decode prog_15_method_2_code 0 = .ok (.aload_n 0, 1) := by decide +kernel
theorem de21_1 : decode prog_15_method_2_code 1 = .ok (.iload_n 1, 1) := by decide +kernel
theorem de21_2 : decode prog_15_method_2_code 2 = .ok (.invokevirtual 25, 3) := by decide +kernel
theorem de21_5 : decode prog_15_method_2_code 5 = .ok (.aload_n 0, 1) := by decide +kernel
theorem de21_6 : decode prog_15_method_2_code 6 = .ok (.getfield 7, 3) := by decide +kernel
theorem de21_9 : decode prog_15_method_2_code 9 = .ok (.iload_n 1, 1) := by decide +kernel
theorem de21_10 : decode prog_15_method_2_code 10 = .ok (.laload, 1) := by decide +kernel
theorem de21_11 : decode prog_15_method_2_code 11 = .ok (.lreturn, 1) := by decide +kernel
theorem de22_0 : decode prog_15_method_3_code 0 = .ok (.aload_n 0, 1) := by decide +kernel
theorem de22_1 : decode prog_15_method_3_code 1 = .ok (.getfield 18, 3) := by decide +kernel
theorem de22_4 : decode prog_15_method_3_code 4 = .ok (.iload_n 1, 1) := by decide +kernel
theorem de22_5 : decode prog_15_method_3_code 5 = .ok (.invokevirtual 28, 3) := by decide +kernel
theorem de22_8 : decode prog_15_method_3_code 8 = .ok (.ifCond .eq 17, 3) := by decide +kernel
theorem de22_11 : decode prog_15_method_3_code 11 = .ok (.aload_n 0, 1) := by decide +kernel
theorem de22_12 : decode prog_15_method_3_code 12 = .ok (.getfield 18, 3) := by decide +kernel
theorem de22_15 : decode prog_15_method_3_code 15 = .ok (.iload_n 1, 1) := by decide +kernel
theorem de22_16 : decode prog_15_method_3_code 16 = .ok (.iconst 1, 1) := by decide +kernel
theorem de22_17 : decode prog_15_method_3_code 17 = .ok (.iadd, 1) := by decide +kernel
theorem de22_18 : decode prog_15_method_3_code 18 = .ok (.invokevirtual 28, 3) := by decide +kernel
theorem de22_21 : decode prog_15_method_3_code 21 = .ok (.ifCond .eq 4, 3) := by decide +kernel
theorem de22_24 : decode prog_15_method_3_code 24 = .ok (.return_, 1) := by decide +kernel
theorem de22_25 : decode prog_15_method_3_code 25 = .ok (.aload_n 0, 1) := by decide +kernel
theorem de22_26 : decode prog_15_method_3_code 26 = .ok (.getfield 18, 3) := by decide +kernel
theorem de22_29 : decode prog_15_method_3_code 29 = .ok (.iload_n 1, 1) := by decide +kernel
theorem de22_30 : decode prog_15_method_3_code 30 = .ok (.invokevirtual 32, 3) := by decide +kernel
theorem de22_33 : decode prog_15_method_3_code 33 = .ok (.istore_n 2, 1) := by decide +kernel
theorem de22_34 : decode prog_15_method_3_code 34 = .ok (.aload_n 0, 1) := by decide +kernel
theorem de22_35 : decode prog_15_method_3_code 35 = .ok (.getfield 18, 3) := by decide +kernel
theorem de22_38 : decode prog_15_method_3_code 38 = .ok (.iload_n 1, 1) := by decide +kernel
theorem de22_39 : decode prog_15_method_3_code 39 = .ok (.iconst 1, 1) := by decide +kernel
theorem de22_40 : decode prog_15_method_3_code 40 = .ok (.iadd, 1) := by decide +kernel
theorem de22_41 : decode prog_15_method_3_code 41 = .ok (.invokevirtual 36, 3) := by decide +kernel
theorem de22_44 : decode prog_15_method_3_code 44 = .ok (.istore_n 3, 1) := by decide +kernel
theorem de22_45 : decode prog_15_method_3_code 45 = .ok (.iconst 0, 1) := by decide +kernel
theorem de22_46 : decode prog_15_method_3_code 46 = .ok (.istore 4, 2) := by decide +kernel
theorem de22_48 : decode prog_15_method_3_code 48 = .ok (.iload_n 3, 1) := by decide +kernel
theorem de22_49 : decode prog_15_method_3_code 49 = .ok (.iload_n 2, 1) := by decide +kernel
theorem de22_50 : decode prog_15_method_3_code 50 = .ok (.isub, 1) := by decide +kernel
theorem de22_51 : decode prog_15_method_3_code 51 = .ok (.sipush 256, 3) := by decide +kernel
theorem de22_54 : decode prog_15_method_3_code 54 = .ok (.if_icmp .le 249, 3) := by decide +kernel
theorem de22_303 : decode prog_15_method_3_code 303 = .ok (.aload_n 0, 1) := by decide +kernel
theorem de22_304 : decode prog_15_method_3_code 304 = .ok (.getfield 7, 3) := by decide +kernel
theorem de22_307 : decode prog_15_method_3_code 307 = .ok (.iload_n 2, 1) := by decide +kernel
theorem de22_308 : decode prog_15_method_3_code 308 = .ok (.iload_n 3, 1) := by decide +kernel
theorem de22_309 : decode prog_15_method_3_code 309 = .ok (.invokestatic 57, 3) := by decide +kernel
theorem de22_312 : decode prog_15_method_3_code 312 = .ok (.aload_n 0, 1) := by decide +kernel
theorem de22_313 : decode prog_15_method_3_code 313 = .ok (.getfield 18, 3) := by decide +kernel
theorem de22_316 : decode prog_15_method_3_code 316 = .ok (.iload_n 2, 1) := by decide +kernel
theorem de22_317 : decode prog_15_method_3_code 317 = .ok (.iload_n 3, 1) := by decide +kernel
theorem de22_318 : decode prog_15_method_3_code 318 = .ok (.iconst 1, 1) := by decide +kernel
theorem de22_319 : decode prog_15_method_3_code 319 = .ok (.iadd, 1) := by decide +kernel
theorem de22_320 : decode prog_15_method_3_code 320 = .ok (.invokevirtual 54, 3) := by decide +kernel
theorem de22_323 : decode prog_15_method_3_code 323 = .ok (.return_, 1) := by decide +kernel
theorem de23_0 : decode jdk_92_method_26_code 0 = .ok (.iload_n 1, 1) := by decide +kernel
theorem de23_1 : decode jdk_92_method_26_code 1 = .ok (.ifCond .ge 30, 3) := by decide +kernel
theorem de23_31 : decode jdk_92_method_26_code 31 = .ok (.aload_n 0, 1) := by decide +kernel
theorem de23_32 : decode jdk_92_method_26_code 32 = .ok (.invokevirtual 56, 3) := by decide +kernel
theorem de23_35 : decode jdk_92_method_26_code 35 = .ok (.iload_n 1, 1) := by decide +kernel
theorem de23_36 : decode jdk_92_method_26_code 36 = .ok (.invokestatic 52, 3) := by decide +kernel
theorem de23_39 : decode jdk_92_method_26_code 39 = .ok (.istore_n 2, 1) := by decide +kernel
theorem de23_40 : decode jdk_92_method_26_code 40 = .ok (.iload_n 2, 1) := by decide +kernel
theorem de23_41 : decode jdk_92_method_26_code 41 = .ok (.aload_n 0, 1) := by decide +kernel
theorem de23_42 : decode jdk_92_method_26_code 42 = .ok (.getfield 7, 3) := by decide +kernel
theorem de23_45 : decode jdk_92_method_26_code 45 = .ok (.if_icmp .ge 22, 3) := by decide +kernel
theorem de23_48 : decode jdk_92_method_26_code 48 = .ok (.aload_n 0, 1) := by decide +kernel
theorem de23_49 : decode jdk_92_method_26_code 49 = .ok (.getfield 11, 3) := by decide +kernel
theorem de23_52 : decode jdk_92_method_26_code 52 = .ok (.iload_n 2, 1) := by decide +kernel
theorem de23_53 : decode jdk_92_method_26_code 53 = .ok (.laload, 1) := by decide +kernel
theorem de23_54 : decode jdk_92_method_26_code 54 = .ok (.lconst 1, 1) := by decide +kernel
theorem de23_55 : decode jdk_92_method_26_code 55 = .ok (.iload_n 1, 1) := by decide +kernel
theorem de23_56 : decode jdk_92_method_26_code 56 = .ok (.lshl, 1) := by decide +kernel
theorem de23_57 : decode jdk_92_method_26_code 57 = .ok (.land, 1) := by decide +kernel
theorem de23_58 : decode jdk_92_method_26_code 58 = .ok (.lconst 0, 1) := by decide +kernel
theorem de23_59 : decode jdk_92_method_26_code 59 = .ok (.lcmp, 1) := by decide +kernel
theorem de23_60 : decode jdk_92_method_26_code 60 = .ok (.ifCond .eq 7, 3) := by decide +kernel
theorem de23_63 : decode jdk_92_method_26_code 63 = .ok (.iconst 1, 1) := by decide +kernel
theorem de23_64 : decode jdk_92_method_26_code 64 = .ok (.goto 4, 3) := by decide +kernel
theorem de23_67 : decode jdk_92_method_26_code 67 = .ok (.iconst 0, 1) := by decide +kernel
theorem de23_68 : decode jdk_92_method_26_code 68 = .ok (.ireturn, 1) := by decide +kernel
theorem ef_ct_e24 (x0 : Addr) (x1 : Int32) (m : MethodId) : entryFrame m #[(.ref x0), (.int x1)] 3 = mkF m 0 #[.val (.ref x0), .val (.int x1), .unset] [] := by first | (simp [entryFrame, mkF, argsToLocals, o_catR, o_catN, o_catI, o_catJ, o_catD]; done) | rfl
theorem ct_e24 (l : Launch) (Z : State) (a0 : Array Value) (hw : OHw Z a0) (EL : List (String × Nat)) (n0 : Nat) (p0 : Addr) (p1 : Addr)  (od oz : Addr) (hg : OGp Z od oz) (h0 : Heap) (F_p0 : OObj Z h0 p0 kB [(kB, "wordsInUse", "I", (.int 1)), (kB, "sizeIsSticky", "Z", (.int 1)), (kB, "words", "[J", (.ref p1))]) (A_p1 : OArr Z h0 p1 .long [(.long 8193)]) (ne_p0_p1 : p0 ≠ p1) :
    OCt l Z a0 EL n0 (⟨kB, "get", "(I)Z"⟩ : MethodName) jdk_92_method_26_code 3 (some .boolean) ({ frames := 1, cells := 0, slots := 0, locals := 12 } : Room) [] #[(.ref p0), (.int 0)] h0 [] (fun w vm h => w = some (.int 1) ∧ h = h0) := by
  refine OCt.body (plainFor_of_name pn_e0) (ef_ct_e24 p0 ((0 : Int32))) ?_
  intro p e s m below meth c T hby hml hret hnm hsh P
  refine o_iloadN P (hb hby de23_0) rfl (pc' := 1) rfl ?_
  refine o_if_ge P (hb hby de23_1) (by decide) (pc' := 31) (by decide) (pcf := 4) rfl (fun _ => ?_) (fun q => absurd q (by decide))
  refine o_aloadN P (hb hby de23_31) rfl rfl (pc' := 32) rfl ?_
  refine o_callP P (W := 0) (a := p0) (ow hw 81 rfl) (ow hw 82 rfl) (ow hw 84 rfl) (ow hw 83 rfl) (ow hw 45 rfl) (ow hw 85 rfl) (by decide) F_p0.exa (ct_e18 l Z a0 hw EL n0 p0 p1  od oz hg h0 F_p0 A_p1 ne_p0_p1) o_sf0 (by rw [hml]; rfl) (by decide) (by decide) (argsL := []) (rest := []) (lenOf pd_2 rfl) rfl rfl (Nat.le_of_eq rfl) (hb hby de23_32) (pc' := 35) rfl (by decide) (by decide) ?_
  clear P; intro T h2 v2 P K2 q2
  obtain ⟨rfl, rfl⟩ := q2; clear K2
  show OG p e below m _ T 35 _ []
  refine o_iloadN P (hb hby de23_35) rfl (pc' := 36) rfl ?_
  refine o_callS P (W := 0) (ow hw 59 rfl) (ow hw 60 rfl) (ow hw 45 rfl) (ow hw 61 rfl) (by decide) (ct_e9 l Z a0 hw EL n0   od oz hg h2  ) o_sf0 (by rw [hml]; rfl) (by decide) (by decide) (argsL := [(.int 0)]) (rest := []) (lenOf pd_0 rfl) rfl rfl (Nat.le_of_eq rfl) (hb hby de23_36) (pc' := 39) rfl (by decide) (by decide) ?_
  clear P; intro T h4 v4 P K4 q4
  obtain ⟨rfl, rfl⟩ := q4; clear K4
  show OG p e below m _ T 39 _ [(.int 0)]
  refine o_istoreN P (hb hby de23_39) (L' := #[.val (.ref p0), .val (.int 0), .val (.int 0)]) rfl (pc' := 40) rfl ?_
  refine o_iloadN P (hb hby de23_40) rfl (pc' := 41) rfl ?_
  refine o_aloadN P (hb hby de23_41) rfl rfl (pc' := 42) rfl ?_
  refine o_getF P (ow hw 50 rfl) Via.refl (F_p0.fld 0 rfl) (hb hby de23_42) (pc' := 45) rfl ?_
  clear P; intro T P
  refine o_icmp_ge P (hb hby de23_45) (by decide) (pc' := 67) (by decide) (pcf := 48) rfl (fun q => absurd (by decide) q) (fun _ => ?_)
  refine o_aloadN P (hb hby de23_48) rfl rfl (pc' := 49) rfl ?_
  refine o_getF P (ow hw 62 rfl) Via.refl (F_p0.fld 2 rfl) (hb hby de23_49) (pc' := 52) rfl ?_
  clear P; intro T P
  refine o_iloadN P (hb hby de23_52) rfl (pc' := 53) rfl ?_
  refine o_laload P (v := (.long 8193)) A_p1 (by decide) rfl (hb hby de23_53) (pc' := 54) rfl ?_
  refine o_lconst P (1 : Int64) (hb hby de23_54) rfl (pc' := 55) rfl ?_
  refine o_iloadN P (hb hby de23_55) rfl (pc' := 56) rfl ?_
  refine o_lshl P (hb hby de23_56) (pc' := 57) rfl ?_
  show OG p e below m _ T 57 _ [(.long 1), (.long 8193)]
  refine o_land P (hb hby de23_57) (pc' := 58) rfl ?_
  show OG p e below m _ T 58 _ [(.long 1)]
  refine o_lconst P (0 : Int64) (hb hby de23_58) rfl (pc' := 59) rfl ?_
  refine o_lcmp P (hb hby de23_59) (pc' := 60) rfl ?_
  show OG p e below m _ T 60 _ [(.int 1)]
  refine o_if_eq P (hb hby de23_60) (by decide) (pc' := 67) (by decide) (pcf := 63) rfl (fun q => absurd q (by decide)) (fun _ => ?_)
  refine o_iconst P (1 : Int32) (hb hby de23_63) rfl (pc' := 64) rfl ?_
  refine o_goto P (hb hby de23_64) (by decide) (pc' := 68) (by decide) ?_
  exact o_retI P hret (by simp) rfl (hb hby de23_68) (by decide) (by decide) ⟨rfl, rfl⟩
theorem ef_ct_e25 (x0 : Int32) (m : MethodId) : entryFrame m #[(.int x0)] 1 = mkF m 0 #[.val (.int x0)] [] := by first | (simp [entryFrame, mkF, argsToLocals, o_catR, o_catN, o_catI, o_catJ, o_catD]; done) | rfl
theorem ct_e25 (l : Launch) (Z : State) (a0 : Array Value) (hw : OHw Z a0) (EL : List (String × Nat)) (n0 : Nat)   (od oz : Addr) (hg : OGp Z od oz) (h0 : Heap)   :
    OCt l Z a0 EL n0 (⟨kB, "wordIndex", "(I)I"⟩ : MethodName) jdk_92_method_1_code 1 (some .int) ({ frames := 0, cells := 0, slots := 0, locals := 0 } : Room) [] #[(.int 1)] h0 [] (fun w vm h => w = some (.int 0) ∧ h = h0) := by
  refine OCt.body (plainFor_of_name pn_e0) (ef_ct_e25 ((1 : Int32))) ?_
  intro p e s m below meth c T hby hml hret hnm hsh P
  refine o_iloadN P (hb hby dwi_0) rfl (pc' := 1) rfl ?_
  refine o_bipush P (6 : Int32) (hb hby dwi_1) rfl (pc' := 3) rfl ?_
  refine o_ishr P (hb hby dwi_3) (pc' := 4) rfl ?_
  show OG p e below m _ T 4 _ [(.int 0)]
  exact o_retI P hret (by simp) rfl (hb hby dwi_4) (by decide) (by decide) ⟨rfl, rfl⟩
theorem ef_ct_e26 (x0 : Addr) (x1 : Int32) (m : MethodId) : entryFrame m #[(.ref x0), (.int x1)] 3 = mkF m 0 #[.val (.ref x0), .val (.int x1), .unset] [] := by first | (simp [entryFrame, mkF, argsToLocals, o_catR, o_catN, o_catI, o_catJ, o_catD]; done) | rfl
theorem ct_e26 (l : Launch) (Z : State) (a0 : Array Value) (hw : OHw Z a0) (EL : List (String × Nat)) (n0 : Nat) (p0 : Addr) (p1 : Addr)  (od oz : Addr) (hg : OGp Z od oz) (h0 : Heap) (F_p0 : OObj Z h0 p0 kB [(kB, "wordsInUse", "I", (.int 1)), (kB, "sizeIsSticky", "Z", (.int 1)), (kB, "words", "[J", (.ref p1))]) (A_p1 : OArr Z h0 p1 .long [(.long 8193)]) (ne_p0_p1 : p0 ≠ p1) :
    OCt l Z a0 EL n0 (⟨kB, "get", "(I)Z"⟩ : MethodName) jdk_92_method_26_code 3 (some .boolean) ({ frames := 1, cells := 0, slots := 0, locals := 12 } : Room) [] #[(.ref p0), (.int 1)] h0 [] (fun w vm h => w = some (.int 0) ∧ h = h0) := by
  refine OCt.body (plainFor_of_name pn_e0) (ef_ct_e26 p0 ((1 : Int32))) ?_
  intro p e s m below meth c T hby hml hret hnm hsh P
  refine o_iloadN P (hb hby de23_0) rfl (pc' := 1) rfl ?_
  refine o_if_ge P (hb hby de23_1) (by decide) (pc' := 31) (by decide) (pcf := 4) rfl (fun _ => ?_) (fun q => absurd q (by decide))
  refine o_aloadN P (hb hby de23_31) rfl rfl (pc' := 32) rfl ?_
  refine o_callP P (W := 0) (a := p0) (ow hw 81 rfl) (ow hw 82 rfl) (ow hw 84 rfl) (ow hw 83 rfl) (ow hw 45 rfl) (ow hw 85 rfl) (by decide) F_p0.exa (ct_e18 l Z a0 hw EL n0 p0 p1  od oz hg h0 F_p0 A_p1 ne_p0_p1) o_sf0 (by rw [hml]; rfl) (by decide) (by decide) (argsL := []) (rest := []) (lenOf pd_2 rfl) rfl rfl (Nat.le_of_eq rfl) (hb hby de23_32) (pc' := 35) rfl (by decide) (by decide) ?_
  clear P; intro T h2 v2 P K2 q2
  obtain ⟨rfl, rfl⟩ := q2; clear K2
  show OG p e below m _ T 35 _ []
  refine o_iloadN P (hb hby de23_35) rfl (pc' := 36) rfl ?_
  refine o_callS P (W := 0) (ow hw 59 rfl) (ow hw 60 rfl) (ow hw 45 rfl) (ow hw 61 rfl) (by decide) (ct_e25 l Z a0 hw EL n0   od oz hg h2  ) o_sf0 (by rw [hml]; rfl) (by decide) (by decide) (argsL := [(.int 1)]) (rest := []) (lenOf pd_0 rfl) rfl rfl (Nat.le_of_eq rfl) (hb hby de23_36) (pc' := 39) rfl (by decide) (by decide) ?_
  clear P; intro T h4 v4 P K4 q4
  obtain ⟨rfl, rfl⟩ := q4; clear K4
  show OG p e below m _ T 39 _ [(.int 0)]
  refine o_istoreN P (hb hby de23_39) (L' := #[.val (.ref p0), .val (.int 1), .val (.int 0)]) rfl (pc' := 40) rfl ?_
  refine o_iloadN P (hb hby de23_40) rfl (pc' := 41) rfl ?_
  refine o_aloadN P (hb hby de23_41) rfl rfl (pc' := 42) rfl ?_
  refine o_getF P (ow hw 50 rfl) Via.refl (F_p0.fld 0 rfl) (hb hby de23_42) (pc' := 45) rfl ?_
  clear P; intro T P
  refine o_icmp_ge P (hb hby de23_45) (by decide) (pc' := 67) (by decide) (pcf := 48) rfl (fun q => absurd (by decide) q) (fun _ => ?_)
  refine o_aloadN P (hb hby de23_48) rfl rfl (pc' := 49) rfl ?_
  refine o_getF P (ow hw 62 rfl) Via.refl (F_p0.fld 2 rfl) (hb hby de23_49) (pc' := 52) rfl ?_
  clear P; intro T P
  refine o_iloadN P (hb hby de23_52) rfl (pc' := 53) rfl ?_
  refine o_laload P (v := (.long 8193)) A_p1 (by decide) rfl (hb hby de23_53) (pc' := 54) rfl ?_
  refine o_lconst P (1 : Int64) (hb hby de23_54) rfl (pc' := 55) rfl ?_
  refine o_iloadN P (hb hby de23_55) rfl (pc' := 56) rfl ?_
  refine o_lshl P (hb hby de23_56) (pc' := 57) rfl ?_
  show OG p e below m _ T 57 _ [(.long 2), (.long 8193)]
  refine o_land P (hb hby de23_57) (pc' := 58) rfl ?_
  show OG p e below m _ T 58 _ [(.long 0)]
  refine o_lconst P (0 : Int64) (hb hby de23_58) rfl (pc' := 59) rfl ?_
  refine o_lcmp P (hb hby de23_59) (pc' := 60) rfl ?_
  show OG p e below m _ T 60 _ [(.int 0)]
  refine o_if_eq P (hb hby de23_60) (by decide) (pc' := 67) (by decide) (pcf := 63) rfl (fun _ => ?_) (fun q => absurd (by decide) q)
  refine o_iconst P (0 : Int32) (hb hby de23_67) rfl (pc' := 68) rfl ?_
  exact o_retI P hret (by simp) rfl (hb hby de23_68) (by decide) (by decide) ⟨rfl, rfl⟩
theorem de27_0 : decode jdk_92_method_30_code 0 = .ok (.iload_n 1, 1) := by decide +kernel
theorem de27_1 : decode jdk_92_method_30_code 1 = .ok (.ifCond .ge 37, 3) := by decide +kernel
theorem de27_38 : decode jdk_92_method_30_code 38 = .ok (.aload_n 0, 1) := by decide +kernel
theorem de27_39 : decode jdk_92_method_30_code 39 = .ok (.invokevirtual 56, 3) := by decide +kernel
theorem de27_42 : decode jdk_92_method_30_code 42 = .ok (.iload_n 1, 1) := by decide +kernel
theorem de27_43 : decode jdk_92_method_30_code 43 = .ok (.invokestatic 52, 3) := by decide +kernel
theorem de27_46 : decode jdk_92_method_30_code 46 = .ok (.istore_n 2, 1) := by decide +kernel
theorem de27_47 : decode jdk_92_method_30_code 47 = .ok (.iload_n 2, 1) := by decide +kernel
theorem de27_48 : decode jdk_92_method_30_code 48 = .ok (.aload_n 0, 1) := by decide +kernel
theorem de27_49 : decode jdk_92_method_30_code 49 = .ok (.getfield 7, 3) := by decide +kernel
theorem de27_52 : decode jdk_92_method_30_code 52 = .ok (.if_icmp .lt 10, 3) := by decide +kernel
theorem de27_62 : decode jdk_92_method_30_code 62 = .ok (.aload_n 0, 1) := by decide +kernel
theorem de27_63 : decode jdk_92_method_30_code 63 = .ok (.getfield 11, 3) := by decide +kernel
theorem de27_66 : decode jdk_92_method_30_code 66 = .ok (.iload_n 2, 1) := by decide +kernel
theorem de27_67 : decode jdk_92_method_30_code 67 = .ok (.laload, 1) := by decide +kernel
theorem de27_68 : decode jdk_92_method_30_code 68 = .ok (.ldc2_w 165, 3) := by decide +kernel
theorem de27_71 : decode jdk_92_method_30_code 71 = .ok (.iload_n 1, 1) := by decide +kernel
theorem de27_72 : decode jdk_92_method_30_code 72 = .ok (.iconst 1, 1) := by decide +kernel
theorem de27_73 : decode jdk_92_method_30_code 73 = .ok (.iadd, 1) := by decide +kernel
theorem de27_74 : decode jdk_92_method_30_code 74 = .ok (.ineg, 1) := by decide +kernel
theorem de27_75 : decode jdk_92_method_30_code 75 = .ok (.lushr, 1) := by decide +kernel
theorem de27_76 : decode jdk_92_method_30_code 76 = .ok (.land, 1) := by decide +kernel
theorem de27_77 : decode jdk_92_method_30_code 77 = .ok (.lstore_n 3, 1) := by decide +kernel
theorem de27_78 : decode jdk_92_method_30_code 78 = .ok (.lload_n 3, 1) := by decide +kernel
theorem de27_79 : decode jdk_92_method_30_code 79 = .ok (.lconst 0, 1) := by decide +kernel
theorem de27_80 : decode jdk_92_method_30_code 80 = .ok (.lcmp, 1) := by decide +kernel
theorem de27_81 : decode jdk_92_method_30_code 81 = .ok (.ifCond .eq 17, 3) := by decide +kernel
theorem de27_84 : decode jdk_92_method_30_code 84 = .ok (.iload_n 2, 1) := by decide +kernel
theorem de27_85 : decode jdk_92_method_30_code 85 = .ok (.iconst 1, 1) := by decide +kernel
theorem de27_86 : decode jdk_92_method_30_code 86 = .ok (.iadd, 1) := by decide +kernel
theorem de27_87 : decode jdk_92_method_30_code 87 = .ok (.bipush 64, 2) := by decide +kernel
theorem de27_89 : decode jdk_92_method_30_code 89 = .ok (.imul, 1) := by decide +kernel
theorem de27_90 : decode jdk_92_method_30_code 90 = .ok (.iconst 1, 1) := by decide +kernel
theorem de27_91 : decode jdk_92_method_30_code 91 = .ok (.isub, 1) := by decide +kernel
theorem de27_92 : decode jdk_92_method_30_code 92 = .ok (.lload_n 3, 1) := by decide +kernel
theorem de27_93 : decode jdk_92_method_30_code 93 = .ok (.invokestatic 190, 3) := by decide +kernel
theorem de27_96 : decode jdk_92_method_30_code 96 = .ok (.isub, 1) := by decide +kernel
theorem de27_97 : decode jdk_92_method_30_code 97 = .ok (.ireturn, 1) := by decide +kernel
theorem de28_0 : decode jdk_35_method_48_code 0 = .ok (.lload_n 0, 1) := by decide +kernel
theorem de28_1 : decode jdk_35_method_48_code 1 = .ok (.bipush 32, 2) := by decide +kernel
theorem de28_3 : decode jdk_35_method_48_code 3 = .ok (.lushr, 1) := by decide +kernel
theorem de28_4 : decode jdk_35_method_48_code 4 = .ok (.l2i, 1) := by decide +kernel
theorem de28_5 : decode jdk_35_method_48_code 5 = .ok (.istore_n 2, 1) := by decide +kernel
theorem de28_6 : decode jdk_35_method_48_code 6 = .ok (.iload_n 2, 1) := by decide +kernel
theorem de28_7 : decode jdk_35_method_48_code 7 = .ok (.ifCond .ne 14, 3) := by decide +kernel
theorem de28_10 : decode jdk_35_method_48_code 10 = .ok (.bipush 32, 2) := by decide +kernel
theorem de28_12 : decode jdk_35_method_48_code 12 = .ok (.lload_n 0, 1) := by decide +kernel
theorem de28_13 : decode jdk_35_method_48_code 13 = .ok (.l2i, 1) := by decide +kernel
theorem de28_14 : decode jdk_35_method_48_code 14 = .ok (.invokestatic 308, 3) := by decide +kernel
theorem de28_17 : decode jdk_35_method_48_code 17 = .ok (.iadd, 1) := by decide +kernel
theorem de28_18 : decode jdk_35_method_48_code 18 = .ok (.goto 7, 3) := by decide +kernel
theorem de28_25 : decode jdk_35_method_48_code 25 = .ok (.ireturn, 1) := by decide +kernel
theorem de29_0 : decode jdk_33_method_47_code 0 = .ok (.iload_n 0, 1) := by decide +kernel
theorem de29_1 : decode jdk_33_method_47_code 1 = .ok (.ifCond .gt 14, 3) := by decide +kernel
theorem de29_15 : decode jdk_33_method_47_code 15 = .ok (.bipush 31, 2) := by decide +kernel
theorem de29_17 : decode jdk_33_method_47_code 17 = .ok (.istore_n 1, 1) := by decide +kernel
theorem de29_18 : decode jdk_33_method_47_code 18 = .ok (.iload_n 0, 1) := by decide +kernel
theorem de29_19 : decode jdk_33_method_47_code 19 = .ok (.ldc_w 264, 3) := by decide +kernel
theorem de29_22 : decode jdk_33_method_47_code 22 = .ok (.if_icmp .lt 11, 3) := by decide +kernel
theorem de29_33 : decode jdk_33_method_47_code 33 = .ok (.iload_n 0, 1) := by decide +kernel
theorem de29_34 : decode jdk_33_method_47_code 34 = .ok (.sipush 256, 3) := by decide +kernel
theorem de29_37 : decode jdk_33_method_47_code 37 = .ok (.if_icmp .lt 11, 3) := by decide +kernel
theorem de29_48 : decode jdk_33_method_47_code 48 = .ok (.iload_n 0, 1) := by decide +kernel
theorem de29_49 : decode jdk_33_method_47_code 49 = .ok (.bipush 16, 2) := by decide +kernel
theorem de29_51 : decode jdk_33_method_47_code 51 = .ok (.if_icmp .lt 10, 3) := by decide +kernel
theorem de29_61 : decode jdk_33_method_47_code 61 = .ok (.iload_n 0, 1) := by decide +kernel
theorem de29_62 : decode jdk_33_method_47_code 62 = .ok (.iconst 4, 1) := by decide +kernel
theorem de29_63 : decode jdk_33_method_47_code 63 = .ok (.if_icmp .lt 10, 3) := by decide +kernel
theorem de29_73 : decode jdk_33_method_47_code 73 = .ok (.iload_n 1, 1) := by decide +kernel
theorem de29_74 : decode jdk_33_method_47_code 74 = .ok (.iload_n 0, 1) := by decide +kernel
theorem de29_75 : decode jdk_33_method_47_code 75 = .ok (.iconst 1, 1) := by decide +kernel
theorem de29_76 : decode jdk_33_method_47_code 76 = .ok (.iushr, 1) := by decide +kernel
theorem de29_77 : decode jdk_33_method_47_code 77 = .ok (.isub, 1) := by decide +kernel
theorem de29_78 : decode jdk_33_method_47_code 78 = .ok (.ireturn, 1) := by decide +kernel
theorem ef_ct_e30 (x0 : Int32) (m : MethodId) : entryFrame m #[(.int x0)] 2 = mkF m 0 #[.val (.int x0), .unset] [] := by first | (simp [entryFrame, mkF, argsToLocals, o_catR, o_catN, o_catI, o_catJ, o_catD]; done) | rfl
theorem pn_e2 : plainName "java/lang/Integer" = true := by first | (simp [plainName, overriddenIn]; done) | decide +kernel
theorem ct_e30 (l : Launch) (Z : State) (a0 : Array Value) (hw : OHw Z a0) (EL : List (String × Nat)) (n0 : Nat)   (od oz : Addr) (hg : OGp Z od oz) (h0 : Heap)   :
    OCt l Z a0 EL n0 (⟨"java/lang/Integer", "numberOfLeadingZeros", "(I)I"⟩ : MethodName) jdk_33_method_47_code 2 (some .int) ({ frames := 0, cells := 0, slots := 0, locals := 0 } : Room) [] #[(.int 1)] h0 [] (fun w vm h => w = some (.int 31) ∧ h = h0) := by
  refine OCt.body (plainFor_of_name pn_e2) (ef_ct_e30 ((1 : Int32))) ?_
  intro p e s m below meth c T hby hml hret hnm hsh P
  refine o_iloadN P (hb hby de29_0) rfl (pc' := 1) rfl ?_
  refine o_if_gt P (hb hby de29_1) (by decide) (pc' := 15) (by decide) (pcf := 4) rfl (fun _ => ?_) (fun q => absurd (by decide) q)
  refine o_bipush P (31 : Int32) (hb hby de29_15) rfl (pc' := 17) rfl ?_
  refine o_istoreN P (hb hby de29_17) (L' := #[.val (.int 1), .val (.int 31)]) rfl (pc' := 18) rfl ?_
  refine o_iloadN P (hb hby de29_18) rfl (pc' := 19) rfl ?_
  refine o_ldcWI P (ow hw 197 rfl) (hb hby de29_19) (pc' := 22) rfl ?_
  refine o_icmp_lt P (hb hby de29_22) (by decide) (pc' := 33) (by decide) (pcf := 25) rfl (fun _ => ?_) (fun q => absurd (by decide) q)
  refine o_iloadN P (hb hby de29_33) rfl (pc' := 34) rfl ?_
  refine o_sipush P (256 : Int32) (hb hby de29_34) rfl (pc' := 37) rfl ?_
  refine o_icmp_lt P (hb hby de29_37) (by decide) (pc' := 48) (by decide) (pcf := 40) rfl (fun _ => ?_) (fun q => absurd (by decide) q)
  refine o_iloadN P (hb hby de29_48) rfl (pc' := 49) rfl ?_
  refine o_bipush P (16 : Int32) (hb hby de29_49) rfl (pc' := 51) rfl ?_
  refine o_icmp_lt P (hb hby de29_51) (by decide) (pc' := 61) (by decide) (pcf := 54) rfl (fun _ => ?_) (fun q => absurd (by decide) q)
  refine o_iloadN P (hb hby de29_61) rfl (pc' := 62) rfl ?_
  refine o_iconst P (4 : Int32) (hb hby de29_62) rfl (pc' := 63) rfl ?_
  refine o_icmp_lt P (hb hby de29_63) (by decide) (pc' := 73) (by decide) (pcf := 66) rfl (fun _ => ?_) (fun q => absurd (by decide) q)
  refine o_iloadN P (hb hby de29_73) rfl (pc' := 74) rfl ?_
  refine o_iloadN P (hb hby de29_74) rfl (pc' := 75) rfl ?_
  refine o_iconst P (1 : Int32) (hb hby de29_75) rfl (pc' := 76) rfl ?_
  refine o_iushr P (hb hby de29_76) (pc' := 77) rfl ?_
  show OG p e below m _ T 77 _ [(.int 0), (.int 31)]
  refine o_isub P (hb hby de29_77) (pc' := 78) rfl ?_
  show OG p e below m _ T 78 _ [(.int 31)]
  exact o_retI P hret (by simp) rfl (hb hby de29_78) (by decide) (by decide) ⟨rfl, rfl⟩
theorem ef_ct_e31 (x0 : Int64) (m : MethodId) : entryFrame m #[(.long x0)] 3 = mkF m 0 #[.val (.long x0), .second, .unset] [] := by first | (simp [entryFrame, mkF, argsToLocals, o_catR, o_catN, o_catI, o_catJ, o_catD]; done) | rfl
theorem pn_e3 : plainName "java/lang/Long" = true := by first | (simp [plainName, overriddenIn]; done) | decide +kernel
theorem ct_e31 (l : Launch) (Z : State) (a0 : Array Value) (hw : OHw Z a0) (EL : List (String × Nat)) (n0 : Nat)   (od oz : Addr) (hg : OGp Z od oz) (h0 : Heap)   :
    OCt l Z a0 EL n0 (⟨"java/lang/Long", "numberOfLeadingZeros", "(J)I"⟩ : MethodName) jdk_35_method_48_code 3 (some .int) ({ frames := 1, cells := 0, slots := 0, locals := 14 } : Room) [] #[(.long 1)] h0 [] (fun w vm h => w = some (.int 63) ∧ h = h0) := by
  refine OCt.body (plainFor_of_name pn_e3) (ef_ct_e31 ((1 : Int64))) ?_
  intro p e s m below meth c T hby hml hret hnm hsh P
  refine o_lloadN P (hb hby de28_0) rfl (pc' := 1) rfl ?_
  refine o_bipush P (32 : Int32) (hb hby de28_1) rfl (pc' := 3) rfl ?_
  refine o_lushr P (hb hby de28_3) (pc' := 4) rfl ?_
  show OG p e below m _ T 4 _ [(.long 0)]
  refine o_l2i P (hb hby de28_4) (pc' := 5) rfl ?_
  show OG p e below m _ T 5 _ [(.int 0)]
  refine o_istoreN P (hb hby de28_5) (L' := #[.val (.long 1), .second, .val (.int 0)]) rfl (pc' := 6) rfl ?_
  refine o_iloadN P (hb hby de28_6) rfl (pc' := 7) rfl ?_
  refine o_if_ne P (hb hby de28_7) (by decide) (pc' := 21) (by decide) (pcf := 10) rfl (fun q => absurd (by decide) q) (fun _ => ?_)
  refine o_bipush P (32 : Int32) (hb hby de28_10) rfl (pc' := 12) rfl ?_
  refine o_lloadN P (hb hby de28_12) rfl (pc' := 13) rfl ?_
  refine o_l2i P (hb hby de28_13) (pc' := 14) rfl ?_
  show OG p e below m _ T 14 _ [(.int 1), (.int 32)]
  refine o_callS P (W := 1) (ow hw 193 rfl) (ow hw 194 rfl) (ow hw 195 rfl) (ow hw 196 rfl) (by decide) (ct_e30 l Z a0 hw EL n0   od oz hg h0  ) o_sf0 (by rw [hml]; rfl) (by decide) (by decide) (argsL := [(.int 1)]) (rest := [(.int 32)]) (lenOf pd_0 rfl) rfl rfl (Nat.le_of_eq rfl) (hb hby de28_14) (pc' := 17) rfl (by decide) (by decide) ?_
  clear P; intro T h2 v2 P K2 q2
  obtain ⟨rfl, rfl⟩ := q2; clear K2
  show OG p e below m _ T 17 _ [(.int 31), (.int 32)]
  refine o_iadd P (hb hby de28_17) (pc' := 18) rfl ?_
  show OG p e below m _ T 18 _ [(.int 63)]
  refine o_goto P (hb hby de28_18) (by decide) (pc' := 25) (by decide) ?_
  exact o_retI P hret (by simp) rfl (hb hby de28_25) (by decide) (by decide) ⟨rfl, rfl⟩
theorem ef_ct_e32 (x0 : Addr) (x1 : Int32) (m : MethodId) : entryFrame m #[(.ref x0), (.int x1)] 5 = mkF m 0 #[.val (.ref x0), .val (.int x1), .unset, .unset, .unset] [] := by first | (simp [entryFrame, mkF, argsToLocals, o_catR, o_catN, o_catI, o_catJ, o_catD]; done) | rfl
theorem ct_e32 (l : Launch) (Z : State) (a0 : Array Value) (hw : OHw Z a0) (EL : List (String × Nat)) (n0 : Nat) (p0 : Addr) (p1 : Addr)  (od oz : Addr) (hg : OGp Z od oz) (h0 : Heap) (F_p0 : OObj Z h0 p0 kB [(kB, "wordsInUse", "I", (.int 1)), (kB, "sizeIsSticky", "Z", (.int 1)), (kB, "words", "[J", (.ref p1))]) (A_p1 : OArr Z h0 p1 .long [(.long 8193)]) (ne_p0_p1 : p0 ≠ p1) :
    OCt l Z a0 EL n0 (⟨kB, "previousSetBit", "(I)I"⟩ : MethodName) jdk_92_method_30_code 5 (some .int) ({ frames := 2, cells := 0, slots := 0, locals := 29 } : Room) [] #[(.ref p0), (.int 0)] h0 [] (fun w vm h => w = some (.int 0) ∧ h = h0) := by
  refine OCt.body (plainFor_of_name pn_e0) (ef_ct_e32 p0 ((0 : Int32))) ?_
  intro p e s m below meth c T hby hml hret hnm hsh P
  refine o_iloadN P (hb hby de27_0) rfl (pc' := 1) rfl ?_
  refine o_if_ge P (hb hby de27_1) (by decide) (pc' := 38) (by decide) (pcf := 4) rfl (fun _ => ?_) (fun q => absurd q (by decide))
  refine o_aloadN P (hb hby de27_38) rfl rfl (pc' := 39) rfl ?_
  refine o_callP P (W := 0) (a := p0) (ow hw 81 rfl) (ow hw 82 rfl) (ow hw 84 rfl) (ow hw 83 rfl) (ow hw 45 rfl) (ow hw 85 rfl) (by decide) F_p0.exa (ct_e18 l Z a0 hw EL n0 p0 p1  od oz hg h0 F_p0 A_p1 ne_p0_p1) o_sf0 (by rw [hml]; rfl) (by decide) (by decide) (argsL := []) (rest := []) (lenOf pd_2 rfl) rfl rfl (Nat.le_of_eq rfl) (hb hby de27_39) (pc' := 42) rfl (by decide) (by decide) ?_
  clear P; intro T h2 v2 P K2 q2
  obtain ⟨rfl, rfl⟩ := q2; clear K2
  show OG p e below m _ T 42 _ []
  refine o_iloadN P (hb hby de27_42) rfl (pc' := 43) rfl ?_
  refine o_callS P (W := 0) (ow hw 59 rfl) (ow hw 60 rfl) (ow hw 45 rfl) (ow hw 61 rfl) (by decide) (ct_e9 l Z a0 hw EL n0   od oz hg h2  ) o_sf0 (by rw [hml]; rfl) (by decide) (by decide) (argsL := [(.int 0)]) (rest := []) (lenOf pd_0 rfl) rfl rfl (Nat.le_of_eq rfl) (hb hby de27_43) (pc' := 46) rfl (by decide) (by decide) ?_
  clear P; intro T h4 v4 P K4 q4
  obtain ⟨rfl, rfl⟩ := q4; clear K4
  show OG p e below m _ T 46 _ [(.int 0)]
  refine o_istoreN P (hb hby de27_46) (L' := #[.val (.ref p0), .val (.int 0), .val (.int 0), .unset, .unset]) rfl (pc' := 47) rfl ?_
  refine o_iloadN P (hb hby de27_47) rfl (pc' := 48) rfl ?_
  refine o_aloadN P (hb hby de27_48) rfl rfl (pc' := 49) rfl ?_
  refine o_getF P (ow hw 50 rfl) Via.refl (F_p0.fld 0 rfl) (hb hby de27_49) (pc' := 52) rfl ?_
  clear P; intro T P
  refine o_icmp_lt P (hb hby de27_52) (by decide) (pc' := 62) (by decide) (pcf := 55) rfl (fun _ => ?_) (fun q => absurd (by decide) q)
  refine o_aloadN P (hb hby de27_62) rfl rfl (pc' := 63) rfl ?_
  refine o_getF P (ow hw 62 rfl) Via.refl (F_p0.fld 2 rfl) (hb hby de27_63) (pc' := 66) rfl ?_
  clear P; intro T P
  refine o_iloadN P (hb hby de27_66) rfl (pc' := 67) rfl ?_
  refine o_laload P (v := (.long 8193)) A_p1 (by decide) rfl (hb hby de27_67) (pc' := 68) rfl ?_
  refine o_ldc2L P (ow hw 188 rfl) (hb hby de27_68) (pc' := 71) rfl ?_
  refine o_iloadN P (hb hby de27_71) rfl (pc' := 72) rfl ?_
  refine o_iconst P (1 : Int32) (hb hby de27_72) rfl (pc' := 73) rfl ?_
  refine o_iadd P (hb hby de27_73) (pc' := 74) rfl ?_
  show OG p e below m _ T 74 _ [(.int 1), (.long (-1)), (.long 8193)]
  refine o_ineg P (hb hby de27_74) (pc' := 75) rfl ?_
  show OG p e below m _ T 75 _ [(.int (-1)), (.long (-1)), (.long 8193)]
  refine o_lushr P (hb hby de27_75) (pc' := 76) rfl ?_
  show OG p e below m _ T 76 _ [(.long 1), (.long 8193)]
  refine o_land P (hb hby de27_76) (pc' := 77) rfl ?_
  show OG p e below m _ T 77 _ [(.long 1)]
  refine o_lstoreN P (hb hby de27_77) (L' := #[.val (.ref p0), .val (.int 0), .val (.int 0), .val (.long 1), .second]) rfl (pc' := 78) rfl ?_
  refine o_lloadN P (hb hby de27_78) rfl (pc' := 79) rfl ?_
  refine o_lconst P (0 : Int64) (hb hby de27_79) rfl (pc' := 80) rfl ?_
  refine o_lcmp P (hb hby de27_80) (pc' := 81) rfl ?_
  show OG p e below m _ T 81 _ [(.int 1)]
  refine o_if_eq P (hb hby de27_81) (by decide) (pc' := 98) (by decide) (pcf := 84) rfl (fun q => absurd q (by decide)) (fun _ => ?_)
  refine o_iloadN P (hb hby de27_84) rfl (pc' := 85) rfl ?_
  refine o_iconst P (1 : Int32) (hb hby de27_85) rfl (pc' := 86) rfl ?_
  refine o_iadd P (hb hby de27_86) (pc' := 87) rfl ?_
  show OG p e below m _ T 87 _ [(.int 1)]
  refine o_bipush P (64 : Int32) (hb hby de27_87) rfl (pc' := 89) rfl ?_
  refine o_imul P (hb hby de27_89) (pc' := 90) rfl ?_
  show OG p e below m _ T 90 _ [(.int 64)]
  refine o_iconst P (1 : Int32) (hb hby de27_90) rfl (pc' := 91) rfl ?_
  refine o_isub P (hb hby de27_91) (pc' := 92) rfl ?_
  show OG p e below m _ T 92 _ [(.int 63)]
  refine o_lloadN P (hb hby de27_92) rfl (pc' := 93) rfl ?_
  refine o_callS P (W := 1) (ow hw 189 rfl) (ow hw 190 rfl) (ow hw 191 rfl) (ow hw 192 rfl) (by decide) (ct_e31 l Z a0 hw EL n0   od oz hg h4  ) o_sf0 (by rw [hml]; rfl) (by decide) (by decide) (argsL := [(.long 1)]) (rest := [(.int 63)]) (lenOf pd_5 rfl) rfl rfl (Nat.le_of_eq rfl) (hb hby de27_93) (pc' := 96) rfl (by decide) (by decide) ?_
  clear P; intro T h6 v6 P K6 q6
  obtain ⟨rfl, rfl⟩ := q6; clear K6
  show OG p e below m _ T 96 _ [(.int 63), (.int 63)]
  refine o_isub P (hb hby de27_96) (pc' := 97) rfl ?_
  show OG p e below m _ T 97 _ [(.int 0)]
  exact o_retI P hret (by simp) rfl (hb hby de27_97) (by decide) (by decide) ⟨rfl, rfl⟩
theorem de33_0 : decode jdk_92_method_28_code 0 = .ok (.iload_n 1, 1) := by decide +kernel
theorem de33_1 : decode jdk_92_method_28_code 1 = .ok (.ifCond .ge 30, 3) := by decide +kernel
theorem de33_31 : decode jdk_92_method_28_code 31 = .ok (.aload_n 0, 1) := by decide +kernel
theorem de33_32 : decode jdk_92_method_28_code 32 = .ok (.invokevirtual 56, 3) := by decide +kernel
theorem de33_35 : decode jdk_92_method_28_code 35 = .ok (.iload_n 1, 1) := by decide +kernel
theorem de33_36 : decode jdk_92_method_28_code 36 = .ok (.invokestatic 52, 3) := by decide +kernel
theorem de33_39 : decode jdk_92_method_28_code 39 = .ok (.istore_n 2, 1) := by decide +kernel
theorem de33_40 : decode jdk_92_method_28_code 40 = .ok (.iload_n 2, 1) := by decide +kernel
theorem de33_41 : decode jdk_92_method_28_code 41 = .ok (.aload_n 0, 1) := by decide +kernel
theorem de33_42 : decode jdk_92_method_28_code 42 = .ok (.getfield 7, 3) := by decide +kernel
theorem de33_45 : decode jdk_92_method_28_code 45 = .ok (.if_icmp .lt 5, 3) := by decide +kernel
theorem de33_50 : decode jdk_92_method_28_code 50 = .ok (.aload_n 0, 1) := by decide +kernel
theorem de33_51 : decode jdk_92_method_28_code 51 = .ok (.getfield 11, 3) := by decide +kernel
theorem de33_54 : decode jdk_92_method_28_code 54 = .ok (.iload_n 2, 1) := by decide +kernel
theorem de33_55 : decode jdk_92_method_28_code 55 = .ok (.laload, 1) := by decide +kernel
theorem de33_56 : decode jdk_92_method_28_code 56 = .ok (.ldc2_w 165, 3) := by decide +kernel
theorem de33_59 : decode jdk_92_method_28_code 59 = .ok (.iload_n 1, 1) := by decide +kernel
theorem de33_60 : decode jdk_92_method_28_code 60 = .ok (.lshl, 1) := by decide +kernel
theorem de33_61 : decode jdk_92_method_28_code 61 = .ok (.land, 1) := by decide +kernel
theorem de33_62 : decode jdk_92_method_28_code 62 = .ok (.lstore_n 3, 1) := by decide +kernel
theorem de33_63 : decode jdk_92_method_28_code 63 = .ok (.lload_n 3, 1) := by decide +kernel
theorem de33_64 : decode jdk_92_method_28_code 64 = .ok (.lconst 0, 1) := by decide +kernel
theorem de33_65 : decode jdk_92_method_28_code 65 = .ok (.lcmp, 1) := by decide +kernel
theorem de33_66 : decode jdk_92_method_28_code 66 = .ok (.ifCond .eq 13, 3) := by decide +kernel
theorem de33_69 : decode jdk_92_method_28_code 69 = .ok (.iload_n 2, 1) := by decide +kernel
theorem de33_70 : decode jdk_92_method_28_code 70 = .ok (.bipush 64, 2) := by decide +kernel
theorem de33_72 : decode jdk_92_method_28_code 72 = .ok (.imul, 1) := by decide +kernel
theorem de33_73 : decode jdk_92_method_28_code 73 = .ok (.lload_n 3, 1) := by decide +kernel
theorem de33_74 : decode jdk_92_method_28_code 74 = .ok (.invokestatic 182, 3) := by decide +kernel
theorem de33_77 : decode jdk_92_method_28_code 77 = .ok (.iadd, 1) := by decide +kernel
theorem de33_78 : decode jdk_92_method_28_code 78 = .ok (.ireturn, 1) := by decide +kernel
theorem de34_0 : decode jdk_35_method_49_code 0 = .ok (.lload_n 0, 1) := by decide +kernel
theorem de34_1 : decode jdk_35_method_49_code 1 = .ok (.l2i, 1) := by decide +kernel
theorem de34_2 : decode jdk_35_method_49_code 2 = .ok (.istore_n 2, 1) := by decide +kernel
theorem de34_3 : decode jdk_35_method_49_code 3 = .ok (.iload_n 2, 1) := by decide +kernel
theorem de34_4 : decode jdk_35_method_49_code 4 = .ok (.ifCond .ne 17, 3) := by decide +kernel
theorem de34_21 : decode jdk_35_method_49_code 21 = .ok (.iload_n 2, 1) := by decide +kernel
theorem de34_22 : decode jdk_35_method_49_code 22 = .ok (.invokestatic 311, 3) := by decide +kernel
theorem de34_25 : decode jdk_35_method_49_code 25 = .ok (.ireturn, 1) := by decide +kernel
theorem de35_0 : decode jdk_33_method_48_code 0 = .ok (.iload_n 0, 1) := by decide +kernel
theorem de35_1 : decode jdk_33_method_48_code 1 = .ok (.iconst (-1), 1) := by decide +kernel
theorem de35_2 : decode jdk_33_method_48_code 2 = .ok (.ixor, 1) := by decide +kernel
theorem de35_3 : decode jdk_33_method_48_code 3 = .ok (.iload_n 0, 1) := by decide +kernel
theorem de35_4 : decode jdk_33_method_48_code 4 = .ok (.iconst 1, 1) := by decide +kernel
theorem de35_5 : decode jdk_33_method_48_code 5 = .ok (.isub, 1) := by decide +kernel
theorem de35_6 : decode jdk_33_method_48_code 6 = .ok (.iand, 1) := by decide +kernel
theorem de35_7 : decode jdk_33_method_48_code 7 = .ok (.istore_n 0, 1) := by decide +kernel
theorem de35_8 : decode jdk_33_method_48_code 8 = .ok (.iload_n 0, 1) := by decide +kernel
theorem de35_9 : decode jdk_33_method_48_code 9 = .ok (.ifCond .gt 8, 3) := by decide +kernel
theorem de35_17 : decode jdk_33_method_48_code 17 = .ok (.iconst 1, 1) := by decide +kernel
theorem de35_18 : decode jdk_33_method_48_code 18 = .ok (.istore_n 1, 1) := by decide +kernel
theorem de35_19 : decode jdk_33_method_48_code 19 = .ok (.iload_n 0, 1) := by decide +kernel
theorem de35_20 : decode jdk_33_method_48_code 20 = .ok (.ldc_w 264, 3) := by decide +kernel
theorem de35_23 : decode jdk_33_method_48_code 23 = .ok (.if_icmp .le 11, 3) := by decide +kernel
theorem de35_34 : decode jdk_33_method_48_code 34 = .ok (.iload_n 0, 1) := by decide +kernel
theorem de35_35 : decode jdk_33_method_48_code 35 = .ok (.sipush 256, 3) := by decide +kernel
theorem de35_38 : decode jdk_33_method_48_code 38 = .ok (.if_icmp .le 11, 3) := by decide +kernel
theorem de35_41 : decode jdk_33_method_48_code 41 = .ok (.iinc 1 8, 3) := by decide +kernel
theorem de35_44 : decode jdk_33_method_48_code 44 = .ok (.iload_n 0, 1) := by decide +kernel
theorem de35_45 : decode jdk_33_method_48_code 45 = .ok (.bipush 8, 2) := by decide +kernel
theorem de35_47 : decode jdk_33_method_48_code 47 = .ok (.iushr, 1) := by decide +kernel
theorem de35_48 : decode jdk_33_method_48_code 48 = .ok (.istore_n 0, 1) := by decide +kernel
theorem de35_49 : decode jdk_33_method_48_code 49 = .ok (.iload_n 0, 1) := by decide +kernel
theorem de35_50 : decode jdk_33_method_48_code 50 = .ok (.bipush 16, 2) := by decide +kernel
theorem de35_52 : decode jdk_33_method_48_code 52 = .ok (.if_icmp .le 10, 3) := by decide +kernel
theorem de35_55 : decode jdk_33_method_48_code 55 = .ok (.iinc 1 4, 3) := by decide +kernel
theorem de35_58 : decode jdk_33_method_48_code 58 = .ok (.iload_n 0, 1) := by decide +kernel
theorem de35_59 : decode jdk_33_method_48_code 59 = .ok (.iconst 4, 1) := by decide +kernel
theorem de35_60 : decode jdk_33_method_48_code 60 = .ok (.iushr, 1) := by decide +kernel
theorem de35_61 : decode jdk_33_method_48_code 61 = .ok (.istore_n 0, 1) := by decide +kernel
theorem de35_62 : decode jdk_33_method_48_code 62 = .ok (.iload_n 0, 1) := by decide +kernel
theorem de35_63 : decode jdk_33_method_48_code 63 = .ok (.iconst 4, 1) := by decide +kernel
theorem de35_64 : decode jdk_33_method_48_code 64 = .ok (.if_icmp .le 10, 3) := by decide +kernel
theorem de35_74 : decode jdk_33_method_48_code 74 = .ok (.iload_n 1, 1) := by decide +kernel
theorem de35_75 : decode jdk_33_method_48_code 75 = .ok (.iload_n 0, 1) := by decide +kernel
theorem de35_76 : decode jdk_33_method_48_code 76 = .ok (.iconst 1, 1) := by decide +kernel
theorem de35_77 : decode jdk_33_method_48_code 77 = .ok (.iushr, 1) := by decide +kernel
theorem de35_78 : decode jdk_33_method_48_code 78 = .ok (.iadd, 1) := by decide +kernel
theorem de35_79 : decode jdk_33_method_48_code 79 = .ok (.ireturn, 1) := by decide +kernel
theorem ef_ct_e36 (x0 : Int32) (m : MethodId) : entryFrame m #[(.int x0)] 2 = mkF m 0 #[.val (.int x0), .unset] [] := by first | (simp [entryFrame, mkF, argsToLocals, o_catR, o_catN, o_catI, o_catJ, o_catD]; done) | rfl
theorem ct_e36 (l : Launch) (Z : State) (a0 : Array Value) (hw : OHw Z a0) (EL : List (String × Nat)) (n0 : Nat)   (od oz : Addr) (hg : OGp Z od oz) (h0 : Heap)   :
    OCt l Z a0 EL n0 (⟨"java/lang/Integer", "numberOfTrailingZeros", "(I)I"⟩ : MethodName) jdk_33_method_48_code 2 (some .int) ({ frames := 0, cells := 0, slots := 0, locals := 0 } : Room) [] #[(.int 8192)] h0 [] (fun w vm h => w = some (.int 13) ∧ h = h0) := by
  refine OCt.body (plainFor_of_name pn_e2) (ef_ct_e36 ((8192 : Int32))) ?_
  intro p e s m below meth c T hby hml hret hnm hsh P
  refine o_iloadN P (hb hby de35_0) rfl (pc' := 1) rfl ?_
  refine o_iconst P (-1 : Int32) (hb hby de35_1) rfl (pc' := 2) rfl ?_
  refine o_ixor P (hb hby de35_2) (pc' := 3) rfl ?_
  show OG p e below m _ T 3 _ [(.int (-8193))]
  refine o_iloadN P (hb hby de35_3) rfl (pc' := 4) rfl ?_
  refine o_iconst P (1 : Int32) (hb hby de35_4) rfl (pc' := 5) rfl ?_
  refine o_isub P (hb hby de35_5) (pc' := 6) rfl ?_
  show OG p e below m _ T 6 _ [(.int 8191), (.int (-8193))]
  refine o_iand P (hb hby de35_6) (pc' := 7) rfl ?_
  show OG p e below m _ T 7 _ [(.int 8191)]
  refine o_istoreN P (hb hby de35_7) (L' := #[.val (.int 8191), .unset]) rfl (pc' := 8) rfl ?_
  refine o_iloadN P (hb hby de35_8) rfl (pc' := 9) rfl ?_
  refine o_if_gt P (hb hby de35_9) (by decide) (pc' := 17) (by decide) (pcf := 12) rfl (fun _ => ?_) (fun q => absurd (by decide) q)
  refine o_iconst P (1 : Int32) (hb hby de35_17) rfl (pc' := 18) rfl ?_
  refine o_istoreN P (hb hby de35_18) (L' := #[.val (.int 8191), .val (.int 1)]) rfl (pc' := 19) rfl ?_
  refine o_iloadN P (hb hby de35_19) rfl (pc' := 20) rfl ?_
  refine o_ldcWI P (ow hw 197 rfl) (hb hby de35_20) (pc' := 23) rfl ?_
  refine o_icmp_le P (hb hby de35_23) (by decide) (pc' := 34) (by decide) (pcf := 26) rfl (fun _ => ?_) (fun q => absurd q (by decide))
  refine o_iloadN P (hb hby de35_34) rfl (pc' := 35) rfl ?_
  refine o_sipush P (256 : Int32) (hb hby de35_35) rfl (pc' := 38) rfl ?_
  refine o_icmp_le P (hb hby de35_38) (by decide) (pc' := 49) (by decide) (pcf := 41) rfl (fun q => absurd (by decide) q) (fun _ => ?_)
  refine o_iinc P (8 : Int32) (hb hby de35_41) rfl rfl (L' := #[.val (.int 8191), .val (.int 9)]) rfl (pc' := 44) rfl ?_
  refine o_iloadN P (hb hby de35_44) rfl (pc' := 45) rfl ?_
  refine o_bipush P (8 : Int32) (hb hby de35_45) rfl (pc' := 47) rfl ?_
  refine o_iushr P (hb hby de35_47) (pc' := 48) rfl ?_
  show OG p e below m _ T 48 _ [(.int 31)]
  refine o_istoreN P (hb hby de35_48) (L' := #[.val (.int 31), .val (.int 9)]) rfl (pc' := 49) rfl ?_
  refine o_iloadN P (hb hby de35_49) rfl (pc' := 50) rfl ?_
  refine o_bipush P (16 : Int32) (hb hby de35_50) rfl (pc' := 52) rfl ?_
  refine o_icmp_le P (hb hby de35_52) (by decide) (pc' := 62) (by decide) (pcf := 55) rfl (fun q => absurd (by decide) q) (fun _ => ?_)
  refine o_iinc P (4 : Int32) (hb hby de35_55) rfl rfl (L' := #[.val (.int 31), .val (.int 13)]) rfl (pc' := 58) rfl ?_
  refine o_iloadN P (hb hby de35_58) rfl (pc' := 59) rfl ?_
  refine o_iconst P (4 : Int32) (hb hby de35_59) rfl (pc' := 60) rfl ?_
  refine o_iushr P (hb hby de35_60) (pc' := 61) rfl ?_
  show OG p e below m _ T 61 _ [(.int 1)]
  refine o_istoreN P (hb hby de35_61) (L' := #[.val (.int 1), .val (.int 13)]) rfl (pc' := 62) rfl ?_
  refine o_iloadN P (hb hby de35_62) rfl (pc' := 63) rfl ?_
  refine o_iconst P (4 : Int32) (hb hby de35_63) rfl (pc' := 64) rfl ?_
  refine o_icmp_le P (hb hby de35_64) (by decide) (pc' := 74) (by decide) (pcf := 67) rfl (fun _ => ?_) (fun q => absurd q (by decide))
  refine o_iloadN P (hb hby de35_74) rfl (pc' := 75) rfl ?_
  refine o_iloadN P (hb hby de35_75) rfl (pc' := 76) rfl ?_
  refine o_iconst P (1 : Int32) (hb hby de35_76) rfl (pc' := 77) rfl ?_
  refine o_iushr P (hb hby de35_77) (pc' := 78) rfl ?_
  show OG p e below m _ T 78 _ [(.int 0), (.int 13)]
  refine o_iadd P (hb hby de35_78) (pc' := 79) rfl ?_
  show OG p e below m _ T 79 _ [(.int 13)]
  exact o_retI P hret (by simp) rfl (hb hby de35_79) (by decide) (by decide) ⟨rfl, rfl⟩
theorem ef_ct_e37 (x0 : Int64) (m : MethodId) : entryFrame m #[(.long x0)] 3 = mkF m 0 #[.val (.long x0), .second, .unset] [] := by first | (simp [entryFrame, mkF, argsToLocals, o_catR, o_catN, o_catI, o_catJ, o_catD]; done) | rfl
theorem ct_e37 (l : Launch) (Z : State) (a0 : Array Value) (hw : OHw Z a0) (EL : List (String × Nat)) (n0 : Nat)   (od oz : Addr) (hg : OGp Z od oz) (h0 : Heap)   :
    OCt l Z a0 EL n0 (⟨"java/lang/Long", "numberOfTrailingZeros", "(J)I"⟩ : MethodName) jdk_35_method_49_code 3 (some .int) ({ frames := 1, cells := 0, slots := 0, locals := 13 } : Room) [] #[(.long 8192)] h0 [] (fun w vm h => w = some (.int 13) ∧ h = h0) := by
  refine OCt.body (plainFor_of_name pn_e3) (ef_ct_e37 ((8192 : Int64))) ?_
  intro p e s m below meth c T hby hml hret hnm hsh P
  refine o_lloadN P (hb hby de34_0) rfl (pc' := 1) rfl ?_
  refine o_l2i P (hb hby de34_1) (pc' := 2) rfl ?_
  show OG p e below m _ T 2 _ [(.int 8192)]
  refine o_istoreN P (hb hby de34_2) (L' := #[.val (.long 8192), .second, .val (.int 8192)]) rfl (pc' := 3) rfl ?_
  refine o_iloadN P (hb hby de34_3) rfl (pc' := 4) rfl ?_
  refine o_if_ne P (hb hby de34_4) (by decide) (pc' := 21) (by decide) (pcf := 7) rfl (fun _ => ?_) (fun q => absurd q (by decide))
  refine o_iloadN P (hb hby de34_21) rfl (pc' := 22) rfl ?_
  refine o_callS P (W := 0) (ow hw 206 rfl) (ow hw 207 rfl) (ow hw 195 rfl) (ow hw 208 rfl) (by decide) (ct_e36 l Z a0 hw EL n0   od oz hg h0  ) o_sf0 (by rw [hml]; rfl) (by decide) (by decide) (argsL := [(.int 8192)]) (rest := []) (lenOf pd_0 rfl) rfl rfl (Nat.le_of_eq rfl) (hb hby de34_22) (pc' := 25) rfl (by decide) (by decide) ?_
  clear P; intro T h2 v2 P K2 q2
  obtain ⟨rfl, rfl⟩ := q2; clear K2
  show OG p e below m _ T 25 _ [(.int 13)]
  exact o_retI P hret (by simp) rfl (hb hby de34_25) (by decide) (by decide) ⟨rfl, rfl⟩
theorem ef_ct_e38 (x0 : Addr) (x1 : Int32) (m : MethodId) : entryFrame m #[(.ref x0), (.int x1)] 5 = mkF m 0 #[.val (.ref x0), .val (.int x1), .unset, .unset, .unset] [] := by first | (simp [entryFrame, mkF, argsToLocals, o_catR, o_catN, o_catI, o_catJ, o_catD]; done) | rfl
theorem ct_e38 (l : Launch) (Z : State) (a0 : Array Value) (hw : OHw Z a0) (EL : List (String × Nat)) (n0 : Nat) (p0 : Addr) (p1 : Addr)  (od oz : Addr) (hg : OGp Z od oz) (h0 : Heap) (F_p0 : OObj Z h0 p0 kB [(kB, "wordsInUse", "I", (.int 1)), (kB, "sizeIsSticky", "Z", (.int 1)), (kB, "words", "[J", (.ref p1))]) (A_p1 : OArr Z h0 p1 .long [(.long 8193)]) (ne_p0_p1 : p0 ≠ p1) :
    OCt l Z a0 EL n0 (⟨kB, "nextSetBit", "(I)I"⟩ : MethodName) jdk_92_method_28_code 5 (some .int) ({ frames := 2, cells := 0, slots := 0, locals := 28 } : Room) [] #[(.ref p0), (.int 1)] h0 [] (fun w vm h => w = some (.int 13) ∧ h = h0) := by
  refine OCt.body (plainFor_of_name pn_e0) (ef_ct_e38 p0 ((1 : Int32))) ?_
  intro p e s m below meth c T hby hml hret hnm hsh P
  refine o_iloadN P (hb hby de33_0) rfl (pc' := 1) rfl ?_
  refine o_if_ge P (hb hby de33_1) (by decide) (pc' := 31) (by decide) (pcf := 4) rfl (fun _ => ?_) (fun q => absurd q (by decide))
  refine o_aloadN P (hb hby de33_31) rfl rfl (pc' := 32) rfl ?_
  refine o_callP P (W := 0) (a := p0) (ow hw 81 rfl) (ow hw 82 rfl) (ow hw 84 rfl) (ow hw 83 rfl) (ow hw 45 rfl) (ow hw 85 rfl) (by decide) F_p0.exa (ct_e18 l Z a0 hw EL n0 p0 p1  od oz hg h0 F_p0 A_p1 ne_p0_p1) o_sf0 (by rw [hml]; rfl) (by decide) (by decide) (argsL := []) (rest := []) (lenOf pd_2 rfl) rfl rfl (Nat.le_of_eq rfl) (hb hby de33_32) (pc' := 35) rfl (by decide) (by decide) ?_
  clear P; intro T h2 v2 P K2 q2
  obtain ⟨rfl, rfl⟩ := q2; clear K2
  show OG p e below m _ T 35 _ []
  refine o_iloadN P (hb hby de33_35) rfl (pc' := 36) rfl ?_
  refine o_callS P (W := 0) (ow hw 59 rfl) (ow hw 60 rfl) (ow hw 45 rfl) (ow hw 61 rfl) (by decide) (ct_e25 l Z a0 hw EL n0   od oz hg h2  ) o_sf0 (by rw [hml]; rfl) (by decide) (by decide) (argsL := [(.int 1)]) (rest := []) (lenOf pd_0 rfl) rfl rfl (Nat.le_of_eq rfl) (hb hby de33_36) (pc' := 39) rfl (by decide) (by decide) ?_
  clear P; intro T h4 v4 P K4 q4
  obtain ⟨rfl, rfl⟩ := q4; clear K4
  show OG p e below m _ T 39 _ [(.int 0)]
  refine o_istoreN P (hb hby de33_39) (L' := #[.val (.ref p0), .val (.int 1), .val (.int 0), .unset, .unset]) rfl (pc' := 40) rfl ?_
  refine o_iloadN P (hb hby de33_40) rfl (pc' := 41) rfl ?_
  refine o_aloadN P (hb hby de33_41) rfl rfl (pc' := 42) rfl ?_
  refine o_getF P (ow hw 50 rfl) Via.refl (F_p0.fld 0 rfl) (hb hby de33_42) (pc' := 45) rfl ?_
  clear P; intro T P
  refine o_icmp_lt P (hb hby de33_45) (by decide) (pc' := 50) (by decide) (pcf := 48) rfl (fun _ => ?_) (fun q => absurd (by decide) q)
  refine o_aloadN P (hb hby de33_50) rfl rfl (pc' := 51) rfl ?_
  refine o_getF P (ow hw 62 rfl) Via.refl (F_p0.fld 2 rfl) (hb hby de33_51) (pc' := 54) rfl ?_
  clear P; intro T P
  refine o_iloadN P (hb hby de33_54) rfl (pc' := 55) rfl ?_
  refine o_laload P (v := (.long 8193)) A_p1 (by decide) rfl (hb hby de33_55) (pc' := 56) rfl ?_
  refine o_ldc2L P (ow hw 188 rfl) (hb hby de33_56) (pc' := 59) rfl ?_
  refine o_iloadN P (hb hby de33_59) rfl (pc' := 60) rfl ?_
  refine o_lshl P (hb hby de33_60) (pc' := 61) rfl ?_
  show OG p e below m _ T 61 _ [(.long (-2)), (.long 8193)]
  refine o_land P (hb hby de33_61) (pc' := 62) rfl ?_
  show OG p e below m _ T 62 _ [(.long 8192)]
  refine o_lstoreN P (hb hby de33_62) (L' := #[.val (.ref p0), .val (.int 1), .val (.int 0), .val (.long 8192), .second]) rfl (pc' := 63) rfl ?_
  refine o_lloadN P (hb hby de33_63) rfl (pc' := 64) rfl ?_
  refine o_lconst P (0 : Int64) (hb hby de33_64) rfl (pc' := 65) rfl ?_
  refine o_lcmp P (hb hby de33_65) (pc' := 66) rfl ?_
  show OG p e below m _ T 66 _ [(.int 1)]
  refine o_if_eq P (hb hby de33_66) (by decide) (pc' := 79) (by decide) (pcf := 69) rfl (fun q => absurd q (by decide)) (fun _ => ?_)
  refine o_iloadN P (hb hby de33_69) rfl (pc' := 70) rfl ?_
  refine o_bipush P (64 : Int32) (hb hby de33_70) rfl (pc' := 72) rfl ?_
  refine o_imul P (hb hby de33_72) (pc' := 73) rfl ?_
  show OG p e below m _ T 73 _ [(.int 0)]
  refine o_lloadN P (hb hby de33_73) rfl (pc' := 74) rfl ?_
  refine o_callS P (W := 1) (ow hw 203 rfl) (ow hw 204 rfl) (ow hw 191 rfl) (ow hw 205 rfl) (by decide) (ct_e37 l Z a0 hw EL n0   od oz hg h4  ) o_sf0 (by rw [hml]; rfl) (by decide) (by decide) (argsL := [(.long 8192)]) (rest := [(.int 0)]) (lenOf pd_5 rfl) rfl rfl (Nat.le_of_eq rfl) (hb hby de33_74) (pc' := 77) rfl (by decide) (by decide) ?_
  clear P; intro T h6 v6 P K6 q6
  obtain ⟨rfl, rfl⟩ := q6; clear K6
  show OG p e below m _ T 77 _ [(.int 13), (.int 0)]
  refine o_iadd P (hb hby de33_77) (pc' := 78) rfl ?_
  show OG p e below m _ T 78 _ [(.int 13)]
  exact o_retI P hret (by simp) rfl (hb hby de33_78) (by decide) (by decide) ⟨rfl, rfl⟩
theorem de39_0 : decode jdk_65_method_5_code 0 = .ok (.aload_n 0, 1) := by decide +kernel
theorem de39_1 : decode jdk_65_method_5_code 1 = .ok (.arraylength, 1) := by decide +kernel
theorem de39_2 : decode jdk_65_method_5_code 2 = .ok (.iload_n 1, 1) := by decide +kernel
theorem de39_3 : decode jdk_65_method_5_code 3 = .ok (.iload_n 2, 1) := by decide +kernel
theorem de39_4 : decode jdk_65_method_5_code 4 = .ok (.invokestatic 13, 3) := by decide +kernel
theorem de39_7 : decode jdk_65_method_5_code 7 = .ok (.aload_n 0, 1) := by decide +kernel
theorem de39_8 : decode jdk_65_method_5_code 8 = .ok (.iconst 0, 1) := by decide +kernel
theorem de39_9 : decode jdk_65_method_5_code 9 = .ok (.iload_n 1, 1) := by decide +kernel
theorem de39_10 : decode jdk_65_method_5_code 10 = .ok (.iload_n 2, 1) := by decide +kernel
theorem de39_11 : decode jdk_65_method_5_code 11 = .ok (.invokestatic 19, 3) := by decide +kernel
theorem de39_14 : decode jdk_65_method_5_code 14 = .ok (.return_, 1) := by decide +kernel
theorem de40_0 : decode jdk_65_method_30_code 0 = .ok (.iload_n 1, 1) := by decide +kernel
theorem de40_1 : decode jdk_65_method_30_code 1 = .ok (.iload_n 2, 1) := by decide +kernel
theorem de40_2 : decode jdk_65_method_30_code 2 = .ok (.if_icmp .le 44, 3) := by decide +kernel
theorem de40_46 : decode jdk_65_method_30_code 46 = .ok (.iload_n 1, 1) := by decide +kernel
theorem de40_47 : decode jdk_65_method_30_code 47 = .ok (.ifCond .ge 12, 3) := by decide +kernel
theorem de40_59 : decode jdk_65_method_30_code 59 = .ok (.iload_n 2, 1) := by decide +kernel
theorem de40_60 : decode jdk_65_method_30_code 60 = .ok (.iload_n 0, 1) := by decide +kernel
theorem de40_61 : decode jdk_65_method_30_code 61 = .ok (.if_icmp .le 12, 3) := by decide +kernel
theorem de40_73 : decode jdk_65_method_30_code 73 = .ok (.return_, 1) := by decide +kernel
theorem ef_ct_e41 (x0 : Int32) (x1 : Int32) (x2 : Int32) (m : MethodId) : entryFrame m #[(.int x0), (.int x1), (.int x2)] 3 = mkF m 0 #[.val (.int x0), .val (.int x1), .val (.int x2)] [] := by first | (simp [entryFrame, mkF, argsToLocals, o_catR, o_catN, o_catI, o_catJ, o_catD]; done) | rfl
theorem pn_e4 : plainName "java/util/Arrays" = true := by first | (simp [plainName, overriddenIn]; done) | decide +kernel
theorem ct_e41 (l : Launch) (Z : State) (a0 : Array Value) (hw : OHw Z a0) (EL : List (String × Nat)) (n0 : Nat)   (od oz : Addr) (hg : OGp Z od oz) (h0 : Heap)   :
    OCt l Z a0 EL n0 (⟨"java/util/Arrays", "rangeCheck", "(III)V"⟩ : MethodName) jdk_65_method_30_code 3 none ({ frames := 0, cells := 0, slots := 0, locals := 0 } : Room) [] #[(.int 16), (.int 0), (.int 13)] h0 [] (fun w vm h => w = none ∧ h = h0) := by
  refine OCt.body (plainFor_of_name pn_e4) (ef_ct_e41 ((16 : Int32)) ((0 : Int32)) ((13 : Int32))) ?_
  intro p e s m below meth c T hby hml hret hnm hsh P
  refine o_iloadN P (hb hby de40_0) rfl (pc' := 1) rfl ?_
  refine o_iloadN P (hb hby de40_1) rfl (pc' := 2) rfl ?_
  refine o_icmp_le P (hb hby de40_2) (by decide) (pc' := 46) (by decide) (pcf := 5) rfl (fun _ => ?_) (fun q => absurd q (by decide))
  refine o_iloadN P (hb hby de40_46) rfl (pc' := 47) rfl ?_
  refine o_if_ge P (hb hby de40_47) (by decide) (pc' := 59) (by decide) (pcf := 50) rfl (fun _ => ?_) (fun q => absurd q (by decide))
  refine o_iloadN P (hb hby de40_59) rfl (pc' := 60) rfl ?_
  refine o_iloadN P (hb hby de40_60) rfl (pc' := 61) rfl ?_
  refine o_icmp_le P (hb hby de40_61) (by decide) (pc' := 73) (by decide) (pcf := 64) rfl (fun _ => ?_) (fun q => absurd q (by decide))
  exact o_ret0 P hret (hb hby de40_73) (by decide) (by decide) ⟨rfl, rfl⟩
theorem de42_0 : decode jdk_2529_method_12_code 0 = .ok (.iload_n 3, 1) := by decide +kernel
theorem de42_1 : decode jdk_2529_method_12_code 1 = .ok (.iload_n 2, 1) := by decide +kernel
theorem de42_2 : decode jdk_2529_method_12_code 2 = .ok (.isub, 1) := by decide +kernel
theorem de42_3 : decode jdk_2529_method_12_code 3 = .ok (.istore 4, 2) := by decide +kernel
theorem de42_5 : decode jdk_2529_method_12_code 5 = .ok (.iload_n 1, 1) := by decide +kernel
theorem de42_6 : decode jdk_2529_method_12_code 6 = .ok (.iconst 1, 1) := by decide +kernel
theorem de42_7 : decode jdk_2529_method_12_code 7 = .ok (.if_icmp .le 61, 3) := by decide +kernel
theorem de42_68 : decode jdk_2529_method_12_code 68 = .ok (.aconst_null, 1) := by decide +kernel
theorem de42_69 : decode jdk_2529_method_12_code 69 = .ok (.aload_n 0, 1) := by decide +kernel
theorem de42_70 : decode jdk_2529_method_12_code 70 = .ok (.iconst 0, 1) := by decide +kernel
theorem de42_71 : decode jdk_2529_method_12_code 71 = .ok (.iload_n 2, 1) := by decide +kernel
theorem de42_72 : decode jdk_2529_method_12_code 72 = .ok (.iload_n 3, 1) := by decide +kernel
theorem de42_73 : decode jdk_2529_method_12_code 73 = .ok (.invokestatic 99, 3) := by decide +kernel
theorem de42_76 : decode jdk_2529_method_12_code 76 = .ok (.return_, 1) := by decide +kernel
theorem de43_0 : decode jdk_2529_method_13_code 0 = .ok (.iload 4, 2) := by decide +kernel
theorem de43_2 : decode jdk_2529_method_13_code 2 = .ok (.iconst 1, 1) := by decide +kernel
theorem de43_3 : decode jdk_2529_method_13_code 3 = .ok (.isub, 1) := by decide +kernel
theorem de43_4 : decode jdk_2529_method_13_code 4 = .ok (.istore 5, 2) := by decide +kernel
theorem de43_6 : decode jdk_2529_method_13_code 6 = .ok (.iload 4, 2) := by decide +kernel
theorem de43_8 : decode jdk_2529_method_13_code 8 = .ok (.iload_n 3, 1) := by decide +kernel
theorem de43_9 : decode jdk_2529_method_13_code 9 = .ok (.isub, 1) := by decide +kernel
theorem de43_10 : decode jdk_2529_method_13_code 10 = .ok (.istore 6, 2) := by decide +kernel
theorem de43_12 : decode jdk_2529_method_13_code 12 = .ok (.iload 6, 2) := by decide +kernel
theorem de43_14 : decode jdk_2529_method_13_code 14 = .ok (.bipush 65, 2) := by decide +kernel
theorem de43_16 : decode jdk_2529_method_13_code 16 = .ok (.iload_n 2, 1) := by decide +kernel
theorem de43_17 : decode jdk_2529_method_13_code 17 = .ok (.iadd, 1) := by decide +kernel
theorem de43_18 : decode jdk_2529_method_13_code 18 = .ok (.if_icmp .ge 28, 3) := by decide +kernel
theorem de43_21 : decode jdk_2529_method_13_code 21 = .ok (.iload_n 2, 1) := by decide +kernel
theorem de43_22 : decode jdk_2529_method_13_code 22 = .ok (.iconst 1, 1) := by decide +kernel
theorem de43_23 : decode jdk_2529_method_13_code 23 = .ok (.iand, 1) := by decide +kernel
theorem de43_24 : decode jdk_2529_method_13_code 24 = .ok (.ifCond .le 22, 3) := by decide +kernel
theorem de43_46 : decode jdk_2529_method_13_code 46 = .ok (.iload 6, 2) := by decide +kernel
theorem de43_48 : decode jdk_2529_method_13_code 48 = .ok (.bipush 44, 2) := by decide +kernel
theorem de43_50 : decode jdk_2529_method_13_code 50 = .ok (.if_icmp .ge 11, 3) := by decide +kernel
theorem de43_53 : decode jdk_2529_method_13_code 53 = .ok (.aload_n 1, 1) := by decide +kernel
theorem de43_54 : decode jdk_2529_method_13_code 54 = .ok (.iload_n 3, 1) := by decide +kernel
theorem de43_55 : decode jdk_2529_method_13_code 55 = .ok (.iload 4, 2) := by decide +kernel
theorem de43_57 : decode jdk_2529_method_13_code 57 = .ok (.invokestatic 105, 3) := by decide +kernel
theorem de43_60 : decode jdk_2529_method_13_code 60 = .ok (.return_, 1) := by decide +kernel
theorem ef_ct_e44 (x1 : Addr) (x2 : Int32) (x3 : Int32) (x4 : Int32) (m : MethodId) : entryFrame m #[.null, (.ref x1), (.int x2), (.int x3), (.int x4)] 25 = mkF m 0 #[.val .null, .val (.ref x1), .val (.int x2), .val (.int x3), .val (.int x4), .unset, .unset, .unset, .unset, .unset, .unset, .unset, .unset, .unset, .unset, .unset, .unset, .unset, .unset, .unset, .unset, .unset, .unset, .unset, .unset] [] := by first | (simp [entryFrame, mkF, argsToLocals, o_catR, o_catN, o_catI, o_catJ, o_catD]; done) | rfl
theorem pn_e5 : plainName kD = true := by first | (simp [plainName, overriddenIn]; done) | decide +kernel
theorem ct_e44 (l : Launch) (Z : State) (a0 : Array Value) (hw : OHw Z a0) (EL : List (String × Nat)) (n0 : Nat) (p0 : Addr) (x0 : Int64) (x1 : Int64) (od oz : Addr) (hg : OGp Z od oz) (h0 : Heap) (A_p0 : OArr Z h0 p0 .long [(.long x0), (.long x1), (.long x1), (.long x0), (.long x1), (.long x1), (.long x0), (.long x1), (.long x0), (.long x1), (.long x1), (.long x0), (.long x1), (.long 0), (.long 0), (.long 0)])  :
    OCt l Z a0 EL n0 (⟨kD, "sort", "(Ljava/util/DualPivotQuicksort$Sorter;[JIII)V"⟩ : MethodName) jdk_2529_method_13_code 25 none ({ frames := 1, cells := 0, slots := 0, locals := 18 } : Room) [] #[.null, (.ref p0), (.int 0), (.int 0), (.int 13)] h0 [p0] (fun w vm h => w = none ∧ OArr Z h p0 .long [(.long (og [x0, x1, x1, x0, x1, x1, x0, x1, x0, x1, x1, x0, x1] 0)), (.long (og [x0, x1, x1, x0, x1, x1, x0, x1, x0, x1, x1, x0, x1] 1)), (.long (og [x0, x1, x1, x0, x1, x1, x0, x1, x0, x1, x1, x0, x1] 2)), (.long (og [x0, x1, x1, x0, x1, x1, x0, x1, x0, x1, x1, x0, x1] 3)), (.long (og [x0, x1, x1, x0, x1, x1, x0, x1, x0, x1, x1, x0, x1] 4)), (.long (og [x0, x1, x1, x0, x1, x1, x0, x1, x0, x1, x1, x0, x1] 5)), (.long (og [x0, x1, x1, x0, x1, x1, x0, x1, x0, x1, x1, x0, x1] 6)), (.long (og [x0, x1, x1, x0, x1, x1, x0, x1, x0, x1, x1, x0, x1] 7)), (.long (og [x0, x1, x1, x0, x1, x1, x0, x1, x0, x1, x1, x0, x1] 8)), (.long (og [x0, x1, x1, x0, x1, x1, x0, x1, x0, x1, x1, x0, x1] 9)), (.long (og [x0, x1, x1, x0, x1, x1, x0, x1, x0, x1, x1, x0, x1] 10)), (.long (og [x0, x1, x1, x0, x1, x1, x0, x1, x0, x1, x1, x0, x1] 11)), (.long (og [x0, x1, x1, x0, x1, x1, x0, x1, x0, x1, x1, x0, x1] 12)), (.long 0), (.long 0), (.long 0)] ∧ True) := by
  refine OCt.body (plainFor_of_name pn_e5) (ef_ct_e44 p0 ((0 : Int32)) ((0 : Int32)) ((13 : Int32))) ?_
  intro p e s m below meth c T hby hml hret hnm hsh P
  refine o_iload P (hb hby de43_0) rfl (pc' := 2) rfl ?_
  refine o_iconst P (1 : Int32) (hb hby de43_2) rfl (pc' := 3) rfl ?_
  refine o_isub P (hb hby de43_3) (pc' := 4) rfl ?_
  show OG p e below m _ T 4 _ [(.int 12)]
  refine o_istore P (hb hby de43_4) (L' := #[.val .null, .val (.ref p0), .val (.int 0), .val (.int 0), .val (.int 13), .val (.int 12), .unset, .unset, .unset, .unset, .unset, .unset, .unset, .unset, .unset, .unset, .unset, .unset, .unset, .unset, .unset, .unset, .unset, .unset, .unset]) rfl (pc' := 6) rfl ?_
  refine o_iload P (hb hby de43_6) rfl (pc' := 8) rfl ?_
  refine o_iloadN P (hb hby de43_8) rfl (pc' := 9) rfl ?_
  refine o_isub P (hb hby de43_9) (pc' := 10) rfl ?_
  show OG p e below m _ T 10 _ [(.int 13)]
  refine o_istore P (hb hby de43_10) (L' := #[.val .null, .val (.ref p0), .val (.int 0), .val (.int 0), .val (.int 13), .val (.int 12), .val (.int 13), .unset, .unset, .unset, .unset, .unset, .unset, .unset, .unset, .unset, .unset, .unset, .unset, .unset, .unset, .unset, .unset, .unset, .unset]) rfl (pc' := 12) rfl ?_
  refine o_iload P (hb hby de43_12) rfl (pc' := 14) rfl ?_
  refine o_bipush P (65 : Int32) (hb hby de43_14) rfl (pc' := 16) rfl ?_
  refine o_iloadN P (hb hby de43_16) rfl (pc' := 17) rfl ?_
  refine o_iadd P (hb hby de43_17) (pc' := 18) rfl ?_
  show OG p e below m _ T 18 _ [(.int 65), (.int 13)]
  refine o_icmp_ge P (hb hby de43_18) (by decide) (pc' := 46) (by decide) (pcf := 21) rfl (fun q => absurd (by decide) q) (fun _ => ?_)
  refine o_iloadN P (hb hby de43_21) rfl (pc' := 22) rfl ?_
  refine o_iconst P (1 : Int32) (hb hby de43_22) rfl (pc' := 23) rfl ?_
  refine o_iand P (hb hby de43_23) (pc' := 24) rfl ?_
  show OG p e below m _ T 24 _ [(.int 0)]
  refine o_if_le P (hb hby de43_24) (by decide) (pc' := 46) (by decide) (pcf := 27) rfl (fun _ => ?_) (fun q => absurd q (by decide))
  refine o_iload P (hb hby de43_46) rfl (pc' := 48) rfl ?_
  refine o_bipush P (44 : Int32) (hb hby de43_48) rfl (pc' := 50) rfl ?_
  refine o_icmp_ge P (hb hby de43_50) (by decide) (pc' := 61) (by decide) (pcf := 53) rfl (fun q => absurd (by decide) q) (fun _ => ?_)
  refine o_aloadN P (hb hby de43_53) rfl rfl (pc' := 54) rfl ?_
  refine o_iloadN P (hb hby de43_54) rfl (pc' := 55) rfl ?_
  refine o_iload P (hb hby de43_55) rfl (pc' := 57) rfl ?_
  refine o_callS P (W := 0) (ow hw 222 rfl) (ow hw 223 rfl) (ow hw 217 rfl) (ow hw 224 rfl) (by decide) (ct_isort l Z a0 hw EL n0 p0 [x0, x1, x1, x0, x1, x1, x0, x1, x0, x1, x1, x0, x1] [(.long 0), (.long 0), (.long 0)] (13 : Int32) (by simp) (of_decide_eq_true rfl) rfl h0 A_p0) (o_sfS (List.Mem.head _) o_sf0) (by rw [hml]; rfl) (by decide) (by decide) (argsL := [(.ref p0), (.int 0), (.int 13)]) (rest := []) (lenOf pd_7 rfl) rfl rfl (Nat.le_of_eq rfl) (hb hby de43_57) (pc' := 60) rfl (by decide) (by decide) ?_
  clear P; intro T h1 v1 P K1 q1
  obtain ⟨rfl, A'⟩ := q1
  clear A_p0; have A_p0 : OArr Z h1 p0 .long [(.long (og [x0, x1, x1, x0, x1, x1, x0, x1, x0, x1, x1, x0, x1] 0)), (.long (og [x0, x1, x1, x0, x1, x1, x0, x1, x0, x1, x1, x0, x1] 1)), (.long (og [x0, x1, x1, x0, x1, x1, x0, x1, x0, x1, x1, x0, x1] 2)), (.long (og [x0, x1, x1, x0, x1, x1, x0, x1, x0, x1, x1, x0, x1] 3)), (.long (og [x0, x1, x1, x0, x1, x1, x0, x1, x0, x1, x1, x0, x1] 4)), (.long (og [x0, x1, x1, x0, x1, x1, x0, x1, x0, x1, x1, x0, x1] 5)), (.long (og [x0, x1, x1, x0, x1, x1, x0, x1, x0, x1, x1, x0, x1] 6)), (.long (og [x0, x1, x1, x0, x1, x1, x0, x1, x0, x1, x1, x0, x1] 7)), (.long (og [x0, x1, x1, x0, x1, x1, x0, x1, x0, x1, x1, x0, x1] 8)), (.long (og [x0, x1, x1, x0, x1, x1, x0, x1, x0, x1, x1, x0, x1] 9)), (.long (og [x0, x1, x1, x0, x1, x1, x0, x1, x0, x1, x1, x0, x1] 10)), (.long (og [x0, x1, x1, x0, x1, x1, x0, x1, x0, x1, x1, x0, x1] 11)), (.long (og [x0, x1, x1, x0, x1, x1, x0, x1, x0, x1, x1, x0, x1] 12)), (.long 0), (.long 0), (.long 0)] := A'.eq (by rw [own_lst13 (l := osort [x0, x1, x1, x0, x1, x1, x0, x1, x0, x1, x1, x0, x1]) (osort_len [x0, x1, x1, x0, x1, x1, x0, x1, x0, x1, x1, x0, x1])]; rfl); clear A' K1
  show OG p e below m _ T 60 _ []
  exact o_ret0 P hret (hb hby de43_60) (by decide) (by decide) ⟨rfl, A_p0, trivial⟩
theorem ef_ct_e45 (x0 : Addr) (x1 : Int32) (x2 : Int32) (x3 : Int32) (m : MethodId) : entryFrame m #[(.ref x0), (.int x1), (.int x2), (.int x3)] 7 = mkF m 0 #[.val (.ref x0), .val (.int x1), .val (.int x2), .val (.int x3), .unset, .unset, .unset] [] := by first | (simp [entryFrame, mkF, argsToLocals, o_catR, o_catN, o_catI, o_catJ, o_catD]; done) | rfl
theorem ct_e45 (l : Launch) (Z : State) (a0 : Array Value) (hw : OHw Z a0) (EL : List (String × Nat)) (n0 : Nat) (p0 : Addr) (x0 : Int64) (x1 : Int64) (od oz : Addr) (hg : OGp Z od oz) (h0 : Heap) (A_p0 : OArr Z h0 p0 .long [(.long x0), (.long x1), (.long x1), (.long x0), (.long x1), (.long x1), (.long x0), (.long x1), (.long x0), (.long x1), (.long x1), (.long x0), (.long x1), (.long 0), (.long 0), (.long 0)])  :
    OCt l Z a0 EL n0 (⟨kD, "sort", "([JIII)V"⟩ : MethodName) jdk_2529_method_12_code 7 none ({ frames := 2, cells := 0, slots := 0, locals := 54 } : Room) [] #[(.ref p0), (.int 0), (.int 0), (.int 13)] h0 [p0] (fun w vm h => w = none ∧ OArr Z h p0 .long [(.long (og [x0, x1, x1, x0, x1, x1, x0, x1, x0, x1, x1, x0, x1] 0)), (.long (og [x0, x1, x1, x0, x1, x1, x0, x1, x0, x1, x1, x0, x1] 1)), (.long (og [x0, x1, x1, x0, x1, x1, x0, x1, x0, x1, x1, x0, x1] 2)), (.long (og [x0, x1, x1, x0, x1, x1, x0, x1, x0, x1, x1, x0, x1] 3)), (.long (og [x0, x1, x1, x0, x1, x1, x0, x1, x0, x1, x1, x0, x1] 4)), (.long (og [x0, x1, x1, x0, x1, x1, x0, x1, x0, x1, x1, x0, x1] 5)), (.long (og [x0, x1, x1, x0, x1, x1, x0, x1, x0, x1, x1, x0, x1] 6)), (.long (og [x0, x1, x1, x0, x1, x1, x0, x1, x0, x1, x1, x0, x1] 7)), (.long (og [x0, x1, x1, x0, x1, x1, x0, x1, x0, x1, x1, x0, x1] 8)), (.long (og [x0, x1, x1, x0, x1, x1, x0, x1, x0, x1, x1, x0, x1] 9)), (.long (og [x0, x1, x1, x0, x1, x1, x0, x1, x0, x1, x1, x0, x1] 10)), (.long (og [x0, x1, x1, x0, x1, x1, x0, x1, x0, x1, x1, x0, x1] 11)), (.long (og [x0, x1, x1, x0, x1, x1, x0, x1, x0, x1, x1, x0, x1] 12)), (.long 0), (.long 0), (.long 0)] ∧ True) := by
  refine OCt.body (plainFor_of_name pn_e5) (ef_ct_e45 p0 ((0 : Int32)) ((0 : Int32)) ((13 : Int32))) ?_
  intro p e s m below meth c T hby hml hret hnm hsh P
  refine o_iloadN P (hb hby de42_0) rfl (pc' := 1) rfl ?_
  refine o_iloadN P (hb hby de42_1) rfl (pc' := 2) rfl ?_
  refine o_isub P (hb hby de42_2) (pc' := 3) rfl ?_
  show OG p e below m _ T 3 _ [(.int 13)]
  refine o_istore P (hb hby de42_3) (L' := #[.val (.ref p0), .val (.int 0), .val (.int 0), .val (.int 13), .val (.int 13), .unset, .unset]) rfl (pc' := 5) rfl ?_
  refine o_iloadN P (hb hby de42_5) rfl (pc' := 6) rfl ?_
  refine o_iconst P (1 : Int32) (hb hby de42_6) rfl (pc' := 7) rfl ?_
  refine o_icmp_le P (hb hby de42_7) (by decide) (pc' := 68) (by decide) (pcf := 10) rfl (fun _ => ?_) (fun q => absurd q (by decide))
  refine o_aconstNull P (hb hby de42_68) (pc' := 69) rfl ?_
  refine o_aloadN P (hb hby de42_69) rfl rfl (pc' := 70) rfl ?_
  refine o_iconst P (0 : Int32) (hb hby de42_70) rfl (pc' := 71) rfl ?_
  refine o_iloadN P (hb hby de42_71) rfl (pc' := 72) rfl ?_
  refine o_iloadN P (hb hby de42_72) rfl (pc' := 73) rfl ?_
  have hn_1 := P.n0le; have hk_1 := P.keep0.1
  refine o_callS P (W := 0) (ow hw 219 rfl) (ow hw 220 rfl) (ow hw 217 rfl) (ow hw 221 rfl) (by decide) (ct_e44 l Z a0 hw EL n0 p0 x0 x1 od oz hg h0 A_p0 ) (o_sfS (List.Mem.head _) o_sf0) (by rw [hml]; rfl) (by decide) (by decide) (argsL := [.null, (.ref p0), (.int 0), (.int 0), (.int 13)]) (rest := []) (lenOf pd_8 rfl) rfl rfl (Nat.le_of_eq rfl) (hb hby de42_73) (pc' := 76) rfl (by decide) (by decide) ?_
  clear P; intro T h2 v2 P K2 q2
  obtain ⟨rfl, Q_p0, -⟩ := q2
  clear A_p0
  have A_p0 := Q_p0; clear Q_p0
  clear K2 hn_1 hk_1
  show OG p e below m _ T 76 _ []
  exact o_ret0 P hret (hb hby de42_76) (by decide) (by decide) ⟨rfl, A_p0, trivial⟩
theorem ef_ct_e46 (x0 : Addr) (x1 : Int32) (x2 : Int32) (m : MethodId) : entryFrame m #[(.ref x0), (.int x1), (.int x2)] 3 = mkF m 0 #[.val (.ref x0), .val (.int x1), .val (.int x2)] [] := by first | (simp [entryFrame, mkF, argsToLocals, o_catR, o_catN, o_catI, o_catJ, o_catD]; done) | rfl
theorem ct_e46 (l : Launch) (Z : State) (a0 : Array Value) (hw : OHw Z a0) (EL : List (String × Nat)) (n0 : Nat) (p0 : Addr) (x0 : Int64) (x1 : Int64) (od oz : Addr) (hg : OGp Z od oz) (h0 : Heap) (A_p0 : OArr Z h0 p0 .long [(.long x0), (.long x1), (.long x1), (.long x0), (.long x1), (.long x1), (.long x0), (.long x1), (.long x0), (.long x1), (.long x1), (.long x0), (.long x1), (.long 0), (.long 0), (.long 0)])  :
    OCt l Z a0 EL n0 (⟨"java/util/Arrays", "sort", "([JII)V"⟩ : MethodName) jdk_65_method_5_code 3 none ({ frames := 3, cells := 0, slots := 0, locals := 72 } : Room) [] #[(.ref p0), (.int 0), (.int 13)] h0 [p0] (fun w vm h => w = none ∧ OArr Z h p0 .long [(.long (og [x0, x1, x1, x0, x1, x1, x0, x1, x0, x1, x1, x0, x1] 0)), (.long (og [x0, x1, x1, x0, x1, x1, x0, x1, x0, x1, x1, x0, x1] 1)), (.long (og [x0, x1, x1, x0, x1, x1, x0, x1, x0, x1, x1, x0, x1] 2)), (.long (og [x0, x1, x1, x0, x1, x1, x0, x1, x0, x1, x1, x0, x1] 3)), (.long (og [x0, x1, x1, x0, x1, x1, x0, x1, x0, x1, x1, x0, x1] 4)), (.long (og [x0, x1, x1, x0, x1, x1, x0, x1, x0, x1, x1, x0, x1] 5)), (.long (og [x0, x1, x1, x0, x1, x1, x0, x1, x0, x1, x1, x0, x1] 6)), (.long (og [x0, x1, x1, x0, x1, x1, x0, x1, x0, x1, x1, x0, x1] 7)), (.long (og [x0, x1, x1, x0, x1, x1, x0, x1, x0, x1, x1, x0, x1] 8)), (.long (og [x0, x1, x1, x0, x1, x1, x0, x1, x0, x1, x1, x0, x1] 9)), (.long (og [x0, x1, x1, x0, x1, x1, x0, x1, x0, x1, x1, x0, x1] 10)), (.long (og [x0, x1, x1, x0, x1, x1, x0, x1, x0, x1, x1, x0, x1] 11)), (.long (og [x0, x1, x1, x0, x1, x1, x0, x1, x0, x1, x1, x0, x1] 12)), (.long 0), (.long 0), (.long 0)] ∧ True) := by
  refine OCt.body (plainFor_of_name pn_e4) (ef_ct_e46 p0 ((0 : Int32)) ((13 : Int32))) ?_
  intro p e s m below meth c T hby hml hret hnm hsh P
  refine o_aloadN P (hb hby de39_0) rfl rfl (pc' := 1) rfl ?_
  refine o_arrlen P A_p0 (hb hby de39_1) (n := (16 : Int32)) rfl (pc' := 2) rfl ?_
  refine o_iloadN P (hb hby de39_2) rfl (pc' := 3) rfl ?_
  refine o_iloadN P (hb hby de39_3) rfl (pc' := 4) rfl ?_
  refine o_callS P (W := 0) (ow hw 212 rfl) (ow hw 213 rfl) (ow hw 118 rfl) (ow hw 214 rfl) (by decide) (ct_e41 l Z a0 hw EL n0   od oz hg h0  ) o_sf0 (by rw [hml]; rfl) (by decide) (by decide) (argsL := [(.int 16), (.int 0), (.int 13)]) (rest := []) (lenOf pd_6 rfl) rfl rfl (Nat.le_of_eq rfl) (hb hby de39_4) (pc' := 7) rfl (by decide) (by decide) ?_
  clear P; intro T h2 v2 P K2 q2
  obtain ⟨rfl, rfl⟩ := q2; clear K2
  show OG p e below m _ T 7 _ []
  refine o_aloadN P (hb hby de39_7) rfl rfl (pc' := 8) rfl ?_
  refine o_iconst P (0 : Int32) (hb hby de39_8) rfl (pc' := 9) rfl ?_
  refine o_iloadN P (hb hby de39_9) rfl (pc' := 10) rfl ?_
  refine o_iloadN P (hb hby de39_10) rfl (pc' := 11) rfl ?_
  have hn_3 := P.n0le; have hk_3 := P.keep0.1
  refine o_callS P (W := 0) (ow hw 215 rfl) (ow hw 216 rfl) (ow hw 217 rfl) (ow hw 218 rfl) (by decide) (ct_e45 l Z a0 hw EL n0 p0 x0 x1 od oz hg h2 A_p0 ) (o_sfS (List.Mem.head _) o_sf0) (by rw [hml]; rfl) (by decide) (by decide) (argsL := [(.ref p0), (.int 0), (.int 0), (.int 13)]) (rest := []) (lenOf pd_9 rfl) rfl rfl (Nat.le_of_eq rfl) (hb hby de39_11) (pc' := 14) rfl (by decide) (by decide) ?_
  clear P; intro T h4 v4 P K4 q4
  obtain ⟨rfl, Q_p0, -⟩ := q4
  clear A_p0
  have A_p0 := Q_p0; clear Q_p0
  clear K4 hn_3 hk_3
  show OG p e below m _ T 14 _ []
  exact o_ret0 P hret (hb hby de39_14) (by decide) (by decide) ⟨rfl, A_p0, trivial⟩
theorem de47_0 : decode jdk_92_method_21_code 0 = .ok (.iload_n 1, 1) := by decide +kernel
theorem de47_1 : decode jdk_92_method_21_code 1 = .ok (.iload_n 2, 1) := by decide +kernel
theorem de47_2 : decode jdk_92_method_21_code 2 = .ok (.invokestatic 161, 3) := by decide +kernel
theorem de47_5 : decode jdk_92_method_21_code 5 = .ok (.iload_n 1, 1) := by decide +kernel
theorem de47_6 : decode jdk_92_method_21_code 6 = .ok (.iload_n 2, 1) := by decide +kernel
theorem de47_7 : decode jdk_92_method_21_code 7 = .ok (.if_icmp .ne 4, 3) := by decide +kernel
theorem de47_11 : decode jdk_92_method_21_code 11 = .ok (.iload_n 1, 1) := by decide +kernel
theorem de47_12 : decode jdk_92_method_21_code 12 = .ok (.invokestatic 52, 3) := by decide +kernel
theorem de47_15 : decode jdk_92_method_21_code 15 = .ok (.istore_n 3, 1) := by decide +kernel
theorem de47_16 : decode jdk_92_method_21_code 16 = .ok (.iload_n 2, 1) := by decide +kernel
theorem de47_17 : decode jdk_92_method_21_code 17 = .ok (.iconst 1, 1) := by decide +kernel
theorem de47_18 : decode jdk_92_method_21_code 18 = .ok (.isub, 1) := by decide +kernel
theorem de47_19 : decode jdk_92_method_21_code 19 = .ok (.invokestatic 52, 3) := by decide +kernel
theorem de47_22 : decode jdk_92_method_21_code 22 = .ok (.istore 4, 2) := by decide +kernel
theorem de47_24 : decode jdk_92_method_21_code 24 = .ok (.aload_n 0, 1) := by decide +kernel
theorem de47_25 : decode jdk_92_method_21_code 25 = .ok (.iload 4, 2) := by decide +kernel
theorem de47_27 : decode jdk_92_method_21_code 27 = .ok (.invokevirtual 155, 3) := by decide +kernel
theorem de47_30 : decode jdk_92_method_21_code 30 = .ok (.ldc2_w 165, 3) := by decide +kernel
theorem de47_33 : decode jdk_92_method_21_code 33 = .ok (.iload_n 1, 1) := by decide +kernel
theorem de47_34 : decode jdk_92_method_21_code 34 = .ok (.lshl, 1) := by decide +kernel
theorem de47_35 : decode jdk_92_method_21_code 35 = .ok (.lstore 5, 2) := by decide +kernel
theorem de47_37 : decode jdk_92_method_21_code 37 = .ok (.ldc2_w 165, 3) := by decide +kernel
theorem de47_40 : decode jdk_92_method_21_code 40 = .ok (.iload_n 2, 1) := by decide +kernel
theorem de47_41 : decode jdk_92_method_21_code 41 = .ok (.ineg, 1) := by decide +kernel
theorem de47_42 : decode jdk_92_method_21_code 42 = .ok (.lushr, 1) := by decide +kernel
theorem de47_43 : decode jdk_92_method_21_code 43 = .ok (.lstore 7, 2) := by decide +kernel
theorem de47_45 : decode jdk_92_method_21_code 45 = .ok (.iload_n 3, 1) := by decide +kernel
theorem de47_46 : decode jdk_92_method_21_code 46 = .ok (.iload 4, 2) := by decide +kernel
theorem de47_48 : decode jdk_92_method_21_code 48 = .ok (.if_icmp .ne 20, 3) := by decide +kernel
theorem de47_51 : decode jdk_92_method_21_code 51 = .ok (.aload_n 0, 1) := by decide +kernel
theorem de47_52 : decode jdk_92_method_21_code 52 = .ok (.getfield 11, 3) := by decide +kernel
theorem de47_55 : decode jdk_92_method_21_code 55 = .ok (.iload_n 3, 1) := by decide +kernel
theorem de47_56 : decode jdk_92_method_21_code 56 = .ok (.dup2, 1) := by decide +kernel
theorem de47_57 : decode jdk_92_method_21_code 57 = .ok (.laload, 1) := by decide +kernel
theorem de47_58 : decode jdk_92_method_21_code 58 = .ok (.lload 5, 2) := by decide +kernel
theorem de47_60 : decode jdk_92_method_21_code 60 = .ok (.lload 7, 2) := by decide +kernel
theorem de47_62 : decode jdk_92_method_21_code 62 = .ok (.land, 1) := by decide +kernel
theorem de47_63 : decode jdk_92_method_21_code 63 = .ok (.lor, 1) := by decide +kernel
theorem de47_64 : decode jdk_92_method_21_code 64 = .ok (.lastore, 1) := by decide +kernel
theorem de47_65 : decode jdk_92_method_21_code 65 = .ok (.goto 54, 3) := by decide +kernel
theorem de47_119 : decode jdk_92_method_21_code 119 = .ok (.aload_n 0, 1) := by decide +kernel
theorem de47_120 : decode jdk_92_method_21_code 120 = .ok (.invokevirtual 56, 3) := by decide +kernel
theorem de47_123 : decode jdk_92_method_21_code 123 = .ok (.return_, 1) := by decide +kernel
theorem de48_0 : decode jdk_92_method_16_code 0 = .ok (.iload_n 0, 1) := by decide +kernel
theorem de48_1 : decode jdk_92_method_16_code 1 = .ok (.ifCond .ge 30, 3) := by decide +kernel
theorem de48_31 : decode jdk_92_method_16_code 31 = .ok (.iload_n 1, 1) := by decide +kernel
theorem de48_32 : decode jdk_92_method_16_code 32 = .ok (.ifCond .ge 30, 3) := by decide +kernel
theorem de48_62 : decode jdk_92_method_16_code 62 = .ok (.iload_n 0, 1) := by decide +kernel
theorem de48_63 : decode jdk_92_method_16_code 63 = .ok (.iload_n 1, 1) := by decide +kernel
theorem de48_64 : decode jdk_92_method_16_code 64 = .ok (.if_icmp .le 39, 3) := by decide +kernel
theorem de48_103 : decode jdk_92_method_16_code 103 = .ok (.return_, 1) := by decide +kernel
theorem ef_ct_e49 (x0 : Int32) (x1 : Int32) (m : MethodId) : entryFrame m #[(.int x0), (.int x1)] 2 = mkF m 0 #[.val (.int x0), .val (.int x1)] [] := by first | (simp [entryFrame, mkF, argsToLocals, o_catR, o_catN, o_catI, o_catJ, o_catD]; done) | rfl
theorem ct_e49 (l : Launch) (Z : State) (a0 : Array Value) (hw : OHw Z a0) (EL : List (String × Nat)) (n0 : Nat)   (od oz : Addr) (hg : OGp Z od oz) (h0 : Heap)   :
    OCt l Z a0 EL n0 (⟨kB, "checkRange", "(II)V"⟩ : MethodName) jdk_92_method_16_code 2 none ({ frames := 0, cells := 0, slots := 0, locals := 0 } : Room) [] #[(.int 0), (.int 14)] h0 [] (fun w vm h => w = none ∧ h = h0) := by
  refine OCt.body (plainFor_of_name pn_e0) (ef_ct_e49 ((0 : Int32)) ((14 : Int32))) ?_
  intro p e s m below meth c T hby hml hret hnm hsh P
  refine o_iloadN P (hb hby de48_0) rfl (pc' := 1) rfl ?_
  refine o_if_ge P (hb hby de48_1) (by decide) (pc' := 31) (by decide) (pcf := 4) rfl (fun _ => ?_) (fun q => absurd q (by decide))
  refine o_iloadN P (hb hby de48_31) rfl (pc' := 32) rfl ?_
  refine o_if_ge P (hb hby de48_32) (by decide) (pc' := 62) (by decide) (pcf := 35) rfl (fun _ => ?_) (fun q => absurd q (by decide))
  refine o_iloadN P (hb hby de48_62) rfl (pc' := 63) rfl ?_
  refine o_iloadN P (hb hby de48_63) rfl (pc' := 64) rfl ?_
  refine o_icmp_le P (hb hby de48_64) (by decide) (pc' := 103) (by decide) (pcf := 67) rfl (fun _ => ?_) (fun q => absurd q (by decide))
  exact o_ret0 P hret (hb hby de48_103) (by decide) (by decide) ⟨rfl, rfl⟩
theorem ef_ct_e50 (x0 : Addr) (x1 : Int32) (m : MethodId) : entryFrame m #[(.ref x0), (.int x1)] 3 = mkF m 0 #[.val (.ref x0), .val (.int x1), .unset] [] := by first | (simp [entryFrame, mkF, argsToLocals, o_catR, o_catN, o_catI, o_catJ, o_catD]; done) | rfl
theorem ct_e50 (l : Launch) (Z : State) (a0 : Array Value) (hw : OHw Z a0) (EL : List (String × Nat)) (n0 : Nat) (p0 : Addr) (p1 : Addr)  (od oz : Addr) (hg : OGp Z od oz) (h0 : Heap) (F_p0 : OObj Z h0 p0 kB [(kB, "wordsInUse", "I", (.int 1)), (kB, "sizeIsSticky", "Z", (.int 1)), (kB, "words", "[J", (.ref p1))]) (A_p1 : OArr Z h0 p1 .long [(.long 8193)]) (ne_p0_p1 : p0 ≠ p1) :
    OCt l Z a0 EL n0 (⟨kB, "expandTo", "(I)V"⟩ : MethodName) jdk_92_method_15_code 3 none ({ frames := 0, cells := 0, slots := 0, locals := 0 } : Room) [] #[(.ref p0), (.int 0)] h0 [] (fun w vm h => w = none ∧ h = h0) := by
  refine OCt.body (plainFor_of_name pn_e0) (ef_ct_e50 p0 ((0 : Int32))) ?_
  intro p e s m below meth c T hby hml hret hnm hsh P
  refine o_iloadN P (hb hby de10_0) rfl (pc' := 1) rfl ?_
  refine o_iconst P (1 : Int32) (hb hby de10_1) rfl (pc' := 2) rfl ?_
  refine o_iadd P (hb hby de10_2) (pc' := 3) rfl ?_
  show OG p e below m _ T 3 _ [(.int 1)]
  refine o_istoreN P (hb hby de10_3) (L' := #[.val (.ref p0), .val (.int 0), .val (.int 1)]) rfl (pc' := 4) rfl ?_
  refine o_aloadN P (hb hby de10_4) rfl rfl (pc' := 5) rfl ?_
  refine o_getF P (ow hw 50 rfl) Via.refl (F_p0.fld 0 rfl) (hb hby de10_5) (pc' := 8) rfl ?_
  clear P; intro T P
  refine o_iloadN P (hb hby de10_8) rfl (pc' := 9) rfl ?_
  refine o_icmp_ge P (hb hby de10_9) (by decide) (pc' := 22) (by decide) (pcf := 12) rfl (fun _ => ?_) (fun q => absurd q (by decide))
  exact o_ret0 P hret (hb hby de10_22) (by decide) (by decide) ⟨rfl, rfl⟩
theorem ef_ct_e51 (x0 : Addr) (m : MethodId) : entryFrame m #[(.ref x0)] 1 = mkF m 0 #[.val (.ref x0)] [] := by first | (simp [entryFrame, mkF, argsToLocals, o_catR, o_catN, o_catI, o_catJ, o_catD]; done) | rfl
theorem ct_e51 (l : Launch) (Z : State) (a0 : Array Value) (hw : OHw Z a0) (EL : List (String × Nat)) (n0 : Nat) (p0 : Addr) (p1 : Addr)  (od oz : Addr) (hg : OGp Z od oz) (h0 : Heap) (F_p0 : OObj Z h0 p0 kB [(kB, "wordsInUse", "I", (.int 1)), (kB, "sizeIsSticky", "Z", (.int 1)), (kB, "words", "[J", (.ref p1))]) (A_p1 : OArr Z h0 p1 .long [(.long 16383)]) (ne_p0_p1 : p0 ≠ p1) :
    OCt l Z a0 EL n0 (⟨kB, "checkInvariants", "()V"⟩ : MethodName) jdk_92_method_2_code 1 none ({ frames := 0, cells := 0, slots := 0, locals := 0 } : Room) [] #[(.ref p0)] h0 [] (fun w vm h => w = none ∧ h = h0) := by
  refine OCt.body (plainFor_of_name pn_e0) (ef_ct_e51 p0) ?_
  intro p e s m below meth c T hby hml hret hnm hsh P
  refine o_getS P (ow hw 86 rfl) Via.refl hg.1 (hb hby de14_0) (pc' := 3) rfl ?_
  clear P; intro T P
  refine o_if_ne P (hb hby de14_3) (by decide) (pc' := 37) (by decide) (pcf := 6) rfl (fun _ => ?_) (fun q => absurd q (by decide))
  refine o_getS P (ow hw 86 rfl) Via.refl hg.1 (hb hby de14_37) (pc' := 40) rfl ?_
  clear P; intro T P
  refine o_if_ne P (hb hby de14_40) (by decide) (pc' := 70) (by decide) (pcf := 43) rfl (fun _ => ?_) (fun q => absurd q (by decide))
  refine o_getS P (ow hw 86 rfl) Via.refl hg.1 (hb hby de14_70) (pc' := 73) rfl ?_
  clear P; intro T P
  refine o_if_ne P (hb hby de14_73) (by decide) (pc' := 110) (by decide) (pcf := 76) rfl (fun _ => ?_) (fun q => absurd q (by decide))
  exact o_ret0 P hret (hb hby de14_110) (by decide) (by decide) ⟨rfl, rfl⟩
theorem ef_ct_e52 (x0 : Addr) (x1 : Int32) (x2 : Int32) (m : MethodId) : entryFrame m #[(.ref x0), (.int x1), (.int x2)] 10 = mkF m 0 #[.val (.ref x0), .val (.int x1), .val (.int x2), .unset, .unset, .unset, .unset, .unset, .unset, .unset] [] := by first | (simp [entryFrame, mkF, argsToLocals, o_catR, o_catN, o_catI, o_catJ, o_catD]; done) | rfl
theorem ct_e52 (l : Launch) (Z : State) (a0 : Array Value) (hw : OHw Z a0) (EL : List (String × Nat)) (n0 : Nat) (p0 : Addr) (p1 : Addr)  (od oz : Addr) (hg : OGp Z od oz) (h0 : Heap) (F_p0 : OObj Z h0 p0 kB [(kB, "wordsInUse", "I", (.int 1)), (kB, "sizeIsSticky", "Z", (.int 1)), (kB, "words", "[J", (.ref p1))]) (A_p1 : OArr Z h0 p1 .long [(.long 8193)]) (ne_p0_p1 : p0 ≠ p1) :
    OCt l Z a0 EL n0 (⟨kB, "set", "(II)V"⟩ : MethodName) jdk_92_method_21_code 10 none ({ frames := 1, cells := 0, slots := 0, locals := 14 } : Room) [] #[(.ref p0), (.int 0), (.int 14)] h0 [p1] (fun w vm h => w = none ∧ OArr Z h p1 .long [(.long 16383)] ∧ True) := by
  refine OCt.body (plainFor_of_name pn_e0) (ef_ct_e52 p0 ((0 : Int32)) ((14 : Int32))) ?_
  intro p e s m below meth c T hby hml hret hnm hsh P
  refine o_iloadN P (hb hby de47_0) rfl (pc' := 1) rfl ?_
  refine o_iloadN P (hb hby de47_1) rfl (pc' := 2) rfl ?_
  refine o_callS P (W := 0) (ow hw 230 rfl) (ow hw 231 rfl) (ow hw 45 rfl) (ow hw 232 rfl) (by decide) (ct_e49 l Z a0 hw EL n0   od oz hg h0  ) o_sf0 (by rw [hml]; rfl) (by decide) (by decide) (argsL := [(.int 0), (.int 14)]) (rest := []) (lenOf pd_10 rfl) rfl rfl (Nat.le_of_eq rfl) (hb hby de47_2) (pc' := 5) rfl (by decide) (by decide) ?_
  clear P; intro T h2 v2 P K2 q2
  obtain ⟨rfl, rfl⟩ := q2; clear K2
  show OG p e below m _ T 5 _ []
  refine o_iloadN P (hb hby de47_5) rfl (pc' := 6) rfl ?_
  refine o_iloadN P (hb hby de47_6) rfl (pc' := 7) rfl ?_
  refine o_icmp_ne P (hb hby de47_7) (by decide) (pc' := 11) (by decide) (pcf := 10) rfl (fun _ => ?_) (fun q => absurd q (by decide))
  refine o_iloadN P (hb hby de47_11) rfl (pc' := 12) rfl ?_
  refine o_callS P (W := 0) (ow hw 59 rfl) (ow hw 60 rfl) (ow hw 45 rfl) (ow hw 61 rfl) (by decide) (ct_e9 l Z a0 hw EL n0   od oz hg h2  ) o_sf0 (by rw [hml]; rfl) (by decide) (by decide) (argsL := [(.int 0)]) (rest := []) (lenOf pd_0 rfl) rfl rfl (Nat.le_of_eq rfl) (hb hby de47_12) (pc' := 15) rfl (by decide) (by decide) ?_
  clear P; intro T h4 v4 P K4 q4
  obtain ⟨rfl, rfl⟩ := q4; clear K4
  show OG p e below m _ T 15 _ [(.int 0)]
  refine o_istoreN P (hb hby de47_15) (L' := #[.val (.ref p0), .val (.int 0), .val (.int 14), .val (.int 0), .unset, .unset, .unset, .unset, .unset, .unset]) rfl (pc' := 16) rfl ?_
  refine o_iloadN P (hb hby de47_16) rfl (pc' := 17) rfl ?_
  refine o_iconst P (1 : Int32) (hb hby de47_17) rfl (pc' := 18) rfl ?_
  refine o_isub P (hb hby de47_18) (pc' := 19) rfl ?_
  show OG p e below m _ T 19 _ [(.int 13)]
  refine o_callS P (W := 0) (ow hw 59 rfl) (ow hw 60 rfl) (ow hw 45 rfl) (ow hw 61 rfl) (by decide) (ct_e5 l Z a0 hw EL n0   od oz hg h4  ) o_sf0 (by rw [hml]; rfl) (by decide) (by decide) (argsL := [(.int 13)]) (rest := []) (lenOf pd_0 rfl) rfl rfl (Nat.le_of_eq rfl) (hb hby de47_19) (pc' := 22) rfl (by decide) (by decide) ?_
  clear P; intro T h6 v6 P K6 q6
  obtain ⟨rfl, rfl⟩ := q6; clear K6
  show OG p e below m _ T 22 _ [(.int 0)]
  refine o_istore P (hb hby de47_22) (L' := #[.val (.ref p0), .val (.int 0), .val (.int 14), .val (.int 0), .val (.int 0), .unset, .unset, .unset, .unset, .unset]) rfl (pc' := 24) rfl ?_
  refine o_aloadN P (hb hby de47_24) rfl rfl (pc' := 25) rfl ?_
  refine o_iload P (hb hby de47_25) rfl (pc' := 27) rfl ?_
  refine o_callP P (W := 0) (a := p0) (ow hw 71 rfl) (ow hw 72 rfl) (ow hw 74 rfl) (ow hw 73 rfl) (ow hw 45 rfl) (ow hw 75 rfl) (by decide) F_p0.exa (ct_e50 l Z a0 hw EL n0 p0 p1  od oz hg h6 F_p0 A_p1 ne_p0_p1) o_sf0 (by rw [hml]; rfl) (by decide) (by decide) (argsL := [(.int 0)]) (rest := []) (lenOf pd_1 rfl) rfl rfl (Nat.le_of_eq rfl) (hb hby de47_27) (pc' := 30) rfl (by decide) (by decide) ?_
  clear P; intro T h8 v8 P K8 q8
  obtain ⟨rfl, rfl⟩ := q8; clear K8
  show OG p e below m _ T 30 _ []
  refine o_ldc2L P (ow hw 188 rfl) (hb hby de47_30) (pc' := 33) rfl ?_
  refine o_iloadN P (hb hby de47_33) rfl (pc' := 34) rfl ?_
  refine o_lshl P (hb hby de47_34) (pc' := 35) rfl ?_
  show OG p e below m _ T 35 _ [(.long (-1))]
  refine o_lstore P (hb hby de47_35) (L' := #[.val (.ref p0), .val (.int 0), .val (.int 14), .val (.int 0), .val (.int 0), .val (.long (-1)), .second, .unset, .unset, .unset]) rfl (pc' := 37) rfl ?_
  refine o_ldc2L P (ow hw 188 rfl) (hb hby de47_37) (pc' := 40) rfl ?_
  refine o_iloadN P (hb hby de47_40) rfl (pc' := 41) rfl ?_
  refine o_ineg P (hb hby de47_41) (pc' := 42) rfl ?_
  show OG p e below m _ T 42 _ [(.int (-14)), (.long (-1))]
  refine o_lushr P (hb hby de47_42) (pc' := 43) rfl ?_
  show OG p e below m _ T 43 _ [(.long 16383)]
  refine o_lstore P (hb hby de47_43) (L' := #[.val (.ref p0), .val (.int 0), .val (.int 14), .val (.int 0), .val (.int 0), .val (.long (-1)), .second, .val (.long 16383), .second, .unset]) rfl (pc' := 45) rfl ?_
  refine o_iloadN P (hb hby de47_45) rfl (pc' := 46) rfl ?_
  refine o_iload P (hb hby de47_46) rfl (pc' := 48) rfl ?_
  refine o_icmp_ne P (hb hby de47_48) (by decide) (pc' := 68) (by decide) (pcf := 51) rfl (fun q => absurd (by decide) q) (fun _ => ?_)
  refine o_aloadN P (hb hby de47_51) rfl rfl (pc' := 52) rfl ?_
  refine o_getF P (ow hw 62 rfl) Via.refl (F_p0.fld 2 rfl) (hb hby de47_52) (pc' := 55) rfl ?_
  clear P; intro T P
  refine o_iloadN P (hb hby de47_55) rfl (pc' := 56) rfl ?_
  refine o_dup2 P (hb hby de47_56) rfl rfl (pc' := 57) rfl ?_
  refine o_laload P (v := (.long 8193)) A_p1 (by decide) rfl (hb hby de47_57) (pc' := 58) rfl ?_
  refine o_lload P (hb hby de47_58) rfl (pc' := 60) rfl ?_
  refine o_lload P (hb hby de47_60) rfl (pc' := 62) rfl ?_
  refine o_land P (hb hby de47_62) (pc' := 63) rfl ?_
  show OG p e below m _ T 63 _ [(.long 16383), (.long 8193), (.int 0), (.ref p1)]
  refine o_lor P (hb hby de47_63) (pc' := 64) rfl ?_
  show OG p e below m _ T 64 _ [(.long 16383), (.int 0), (.ref p1)]
  refine o_lastore P (v := (.long 16383)) A_p1 (List.Mem.head _) (by decide) (of_decide_eq_true rfl) rfl (hb hby de47_64) (pc' := 65) rfl ?_
  clear P; clear A_p1; intro T h9 P W9 A_p1
  replace F_p0 := F_p0.oth W9 ne_p0_p1
  clear W9
  replace A_p1 : OArr Z h9 p1 .long [(.long 16383)] := A_p1
  refine o_goto P (hb hby de47_65) (by decide) (pc' := 119) (by decide) ?_
  refine o_aloadN P (hb hby de47_119) rfl rfl (pc' := 120) rfl ?_
  refine o_callP P (W := 0) (a := p0) (ow hw 81 rfl) (ow hw 82 rfl) (ow hw 84 rfl) (ow hw 83 rfl) (ow hw 45 rfl) (ow hw 85 rfl) (by decide) F_p0.exa (ct_e51 l Z a0 hw EL n0 p0 p1  od oz hg h9 F_p0 A_p1 ne_p0_p1) o_sf0 (by rw [hml]; rfl) (by decide) (by decide) (argsL := []) (rest := []) (lenOf pd_2 rfl) rfl rfl (Nat.le_of_eq rfl) (hb hby de47_120) (pc' := 123) rfl (by decide) (by decide) ?_
  clear P; intro T h11 v11 P K11 q11
  obtain ⟨rfl, rfl⟩ := q11; clear K11
  show OG p e below m _ T 123 _ []
  exact o_ret0 P hret (hb hby de47_123) (by decide) (by decide) ⟨rfl, A_p1, trivial⟩
theorem ef_ct_e53 (x0 : Addr) (x1 : Int32) (m : MethodId) : entryFrame m #[(.ref x0), (.int x1)] 12 = mkF m 0 #[.val (.ref x0), .val (.int x1), .unset, .unset, .unset, .unset, .unset, .unset, .unset, .unset, .unset, .unset] [] := by first | (simp [entryFrame, mkF, argsToLocals, o_catR, o_catN, o_catI, o_catJ, o_catD]; done) | rfl
theorem ct_e53 (l : Launch) (Z : State) (a0 : Array Value) (hw : OHw Z a0) (EL : List (String × Nat)) (n0 : Nat) (p0 : Addr) (p1 : Addr) (p2 : Addr) (p3 : Addr) (x0 : Int64) (x1 : Int64) (od oz : Addr) (hg : OGp Z od oz) (h0 : Heap) (F_p0 : OObj Z h0 p0 kS [(kS, "values", "[J", (.ref p1)), (kS, "cuts", "Ljava/util/BitSet;", (.ref p2))]) (A_p1 : OArr Z h0 p1 .long [(.long x0), (.long x1), (.long x1), (.long x0), (.long x1), (.long x1), (.long x0), (.long x1), (.long x0), (.long x1), (.long x1), (.long x0), (.long x1), (.long 0), (.long 0), (.long 0)]) (F_p2 : OObj Z h0 p2 kB [(kB, "wordsInUse", "I", (.int 1)), (kB, "sizeIsSticky", "Z", (.int 1)), (kB, "words", "[J", (.ref p3))]) (A_p3 : OArr Z h0 p3 .long [(.long 8193)]) (ne_p0_p1 : p0 ≠ p1) (ne_p0_p2 : p0 ≠ p2) (ne_p0_p3 : p0 ≠ p3) (ne_p1_p2 : p1 ≠ p2) (ne_p1_p3 : p1 ≠ p3) (ne_p2_p3 : p2 ≠ p3) :
    OCt l Z a0 EL n0 (⟨kS, "settle", "(I)V"⟩ : MethodName) prog_15_method_3_code 12 none ({ frames := 4, cells := 0, slots := 0, locals := 86 } : Room) [] #[(.ref p0), (.int 0)] h0 [p1, p3] (fun w vm h => w = none ∧ OArr Z h p1 .long [(.long (og [x0, x1, x1, x0, x1, x1, x0, x1, x0, x1, x1, x0, x1] 0)), (.long (og [x0, x1, x1, x0, x1, x1, x0, x1, x0, x1, x1, x0, x1] 1)), (.long (og [x0, x1, x1, x0, x1, x1, x0, x1, x0, x1, x1, x0, x1] 2)), (.long (og [x0, x1, x1, x0, x1, x1, x0, x1, x0, x1, x1, x0, x1] 3)), (.long (og [x0, x1, x1, x0, x1, x1, x0, x1, x0, x1, x1, x0, x1] 4)), (.long (og [x0, x1, x1, x0, x1, x1, x0, x1, x0, x1, x1, x0, x1] 5)), (.long (og [x0, x1, x1, x0, x1, x1, x0, x1, x0, x1, x1, x0, x1] 6)), (.long (og [x0, x1, x1, x0, x1, x1, x0, x1, x0, x1, x1, x0, x1] 7)), (.long (og [x0, x1, x1, x0, x1, x1, x0, x1, x0, x1, x1, x0, x1] 8)), (.long (og [x0, x1, x1, x0, x1, x1, x0, x1, x0, x1, x1, x0, x1] 9)), (.long (og [x0, x1, x1, x0, x1, x1, x0, x1, x0, x1, x1, x0, x1] 10)), (.long (og [x0, x1, x1, x0, x1, x1, x0, x1, x0, x1, x1, x0, x1] 11)), (.long (og [x0, x1, x1, x0, x1, x1, x0, x1, x0, x1, x1, x0, x1] 12)), (.long 0), (.long 0), (.long 0)] ∧ OArr Z h p3 .long [(.long 16383)] ∧ True) := by
  refine OCt.body (plainFor_of_name pn_e1) (ef_ct_e53 p0 ((0 : Int32))) ?_
  intro p e s m below meth c T hby hml hret hnm hsh P
  refine o_aloadN P (hb hby de22_0) rfl rfl (pc' := 1) rfl ?_
  refine o_getF P (ow hw 64 rfl) Via.refl (F_p0.fld 1 rfl) (hb hby de22_1) (pc' := 4) rfl ?_
  clear P; intro T P
  refine o_iloadN P (hb hby de22_4) rfl (pc' := 5) rfl ?_
  refine o_callV P (W := 0) (a := p2) (ow hw 97 rfl) (ow hw 98 rfl) (o_nfSl (ow hw 100 rfl)) (ow hw 100 rfl) (ow hw 99 rfl) (ow hw 45 rfl) (ow hw 101 rfl) (by decide) F_p2.exa (ct_e24 l Z a0 hw EL n0 p2 p3  od oz hg h0 F_p2 A_p3 ne_p2_p3) o_sf0 (by rw [hml]; rfl) (by decide) (by decide) (argsL := [(.int 0)]) (rest := []) (lenOf pd_4 rfl) rfl rfl (Nat.le_of_eq rfl) (hb hby de22_5) (pc' := 8) rfl (by decide) (by decide) ?_
  clear P; intro T h2 v2 P K2 q2
  obtain ⟨rfl, rfl⟩ := q2; clear K2
  show OG p e below m _ T 8 _ [(.int 1)]
  refine o_if_eq P (hb hby de22_8) (by decide) (pc' := 25) (by decide) (pcf := 11) rfl (fun q => absurd q (by decide)) (fun _ => ?_)
  refine o_aloadN P (hb hby de22_11) rfl rfl (pc' := 12) rfl ?_
  refine o_getF P (ow hw 64 rfl) Via.refl (F_p0.fld 1 rfl) (hb hby de22_12) (pc' := 15) rfl ?_
  clear P; intro T P
  refine o_iloadN P (hb hby de22_15) rfl (pc' := 16) rfl ?_
  refine o_iconst P (1 : Int32) (hb hby de22_16) rfl (pc' := 17) rfl ?_
  refine o_iadd P (hb hby de22_17) (pc' := 18) rfl ?_
  show OG p e below m _ T 18 _ [(.int 1), (.ref p2)]
  refine o_callV P (W := 0) (a := p2) (ow hw 97 rfl) (ow hw 98 rfl) (o_nfSl (ow hw 100 rfl)) (ow hw 100 rfl) (ow hw 99 rfl) (ow hw 45 rfl) (ow hw 101 rfl) (by decide) F_p2.exa (ct_e26 l Z a0 hw EL n0 p2 p3  od oz hg h2 F_p2 A_p3 ne_p2_p3) o_sf0 (by rw [hml]; rfl) (by decide) (by decide) (argsL := [(.int 1)]) (rest := []) (lenOf pd_4 rfl) rfl rfl (Nat.le_of_eq rfl) (hb hby de22_18) (pc' := 21) rfl (by decide) (by decide) ?_
  clear P; intro T h4 v4 P K4 q4
  obtain ⟨rfl, rfl⟩ := q4; clear K4
  show OG p e below m _ T 21 _ [(.int 0)]
  refine o_if_eq P (hb hby de22_21) (by decide) (pc' := 25) (by decide) (pcf := 24) rfl (fun _ => ?_) (fun q => absurd (by decide) q)
  refine o_aloadN P (hb hby de22_25) rfl rfl (pc' := 26) rfl ?_
  refine o_getF P (ow hw 64 rfl) Via.refl (F_p0.fld 1 rfl) (hb hby de22_26) (pc' := 29) rfl ?_
  clear P; intro T P
  refine o_iloadN P (hb hby de22_29) rfl (pc' := 30) rfl ?_
  refine o_callV P (W := 0) (a := p2) (ow hw 183 rfl) (ow hw 184 rfl) (o_nfSl (ow hw 186 rfl)) (ow hw 186 rfl) (ow hw 185 rfl) (ow hw 45 rfl) (ow hw 187 rfl) (by decide) F_p2.exa (ct_e32 l Z a0 hw EL n0 p2 p3  od oz hg h4 F_p2 A_p3 ne_p2_p3) o_sf0 (by rw [hml]; rfl) (by decide) (by decide) (argsL := [(.int 0)]) (rest := []) (lenOf pd_0 rfl) rfl rfl (Nat.le_of_eq rfl) (hb hby de22_30) (pc' := 33) rfl (by decide) (by decide) ?_
  clear P; intro T h6 v6 P K6 q6
  obtain ⟨rfl, rfl⟩ := q6; clear K6
  show OG p e below m _ T 33 _ [(.int 0)]
  refine o_istoreN P (hb hby de22_33) (L' := #[.val (.ref p0), .val (.int 0), .val (.int 0), .unset, .unset, .unset, .unset, .unset, .unset, .unset, .unset, .unset]) rfl (pc' := 34) rfl ?_
  refine o_aloadN P (hb hby de22_34) rfl rfl (pc' := 35) rfl ?_
  refine o_getF P (ow hw 64 rfl) Via.refl (F_p0.fld 1 rfl) (hb hby de22_35) (pc' := 38) rfl ?_
  clear P; intro T P
  refine o_iloadN P (hb hby de22_38) rfl (pc' := 39) rfl ?_
  refine o_iconst P (1 : Int32) (hb hby de22_39) rfl (pc' := 40) rfl ?_
  refine o_iadd P (hb hby de22_40) (pc' := 41) rfl ?_
  show OG p e below m _ T 41 _ [(.int 1), (.ref p2)]
  refine o_callV P (W := 0) (a := p2) (ow hw 198 rfl) (ow hw 199 rfl) (o_nfSl (ow hw 201 rfl)) (ow hw 201 rfl) (ow hw 200 rfl) (ow hw 45 rfl) (ow hw 202 rfl) (by decide) F_p2.exa (ct_e38 l Z a0 hw EL n0 p2 p3  od oz hg h6 F_p2 A_p3 ne_p2_p3) o_sf0 (by rw [hml]; rfl) (by decide) (by decide) (argsL := [(.int 1)]) (rest := []) (lenOf pd_0 rfl) rfl rfl (Nat.le_of_eq rfl) (hb hby de22_41) (pc' := 44) rfl (by decide) (by decide) ?_
  clear P; intro T h8 v8 P K8 q8
  obtain ⟨rfl, rfl⟩ := q8; clear K8
  show OG p e below m _ T 44 _ [(.int 13)]
  refine o_istoreN P (hb hby de22_44) (L' := #[.val (.ref p0), .val (.int 0), .val (.int 0), .val (.int 13), .unset, .unset, .unset, .unset, .unset, .unset, .unset, .unset]) rfl (pc' := 45) rfl ?_
  refine o_iconst P (0 : Int32) (hb hby de22_45) rfl (pc' := 46) rfl ?_
  refine o_istore P (hb hby de22_46) (L' := #[.val (.ref p0), .val (.int 0), .val (.int 0), .val (.int 13), .val (.int 0), .unset, .unset, .unset, .unset, .unset, .unset, .unset]) rfl (pc' := 48) rfl ?_
  refine o_iloadN P (hb hby de22_48) rfl (pc' := 49) rfl ?_
  refine o_iloadN P (hb hby de22_49) rfl (pc' := 50) rfl ?_
  refine o_isub P (hb hby de22_50) (pc' := 51) rfl ?_
  show OG p e below m _ T 51 _ [(.int 13)]
  refine o_sipush P (256 : Int32) (hb hby de22_51) rfl (pc' := 54) rfl ?_
  refine o_icmp_le P (hb hby de22_54) (by decide) (pc' := 303) (by decide) (pcf := 57) rfl (fun _ => ?_) (fun q => absurd q (by decide))
  refine o_aloadN P (hb hby de22_303) rfl rfl (pc' := 304) rfl ?_
  refine o_getF P (ow hw 41 rfl) Via.refl (F_p0.fld 0 rfl) (hb hby de22_304) (pc' := 307) rfl ?_
  clear P; intro T P
  refine o_iloadN P (hb hby de22_307) rfl (pc' := 308) rfl ?_
  refine o_iloadN P (hb hby de22_308) rfl (pc' := 309) rfl ?_
  have hn_9 := P.n0le; have hk_9 := P.keep0.1
  refine o_callS P (W := 0) (ow hw 209 rfl) (ow hw 210 rfl) (ow hw 118 rfl) (ow hw 211 rfl) (by decide) (ct_e46 l Z a0 hw EL n0 p1 x0 x1 od oz hg h8 A_p1 ) (o_sfS (List.Mem.head _) o_sf0) (by rw [hml]; rfl) (by decide) (by decide) (argsL := [(.ref p1), (.int 0), (.int 13)]) (rest := []) (lenOf pd_7 rfl) rfl rfl (Nat.le_of_eq rfl) (hb hby de22_309) (pc' := 312) rfl (by decide) (by decide) ?_
  clear P; intro T h10 v10 P K10 q10
  obtain ⟨rfl, Q_p1, -⟩ := q10
  replace F_p0 := F_p0.keep K10 (ninS ne_p0_p1 nin0)
  replace F_p2 := F_p2.keep K10 (ninS (Ne.symm ne_p1_p2) nin0)
  replace A_p3 := A_p3.keep K10 (ninS (Ne.symm ne_p1_p3) nin0)
  clear A_p1
  have A_p1 := Q_p1; clear Q_p1
  clear K10 hn_9 hk_9
  show OG p e below m _ T 312 _ []
  refine o_aloadN P (hb hby de22_312) rfl rfl (pc' := 313) rfl ?_
  refine o_getF P (ow hw 64 rfl) Via.refl (F_p0.fld 1 rfl) (hb hby de22_313) (pc' := 316) rfl ?_
  clear P; intro T P
  refine o_iloadN P (hb hby de22_316) rfl (pc' := 317) rfl ?_
  refine o_iloadN P (hb hby de22_317) rfl (pc' := 318) rfl ?_
  refine o_iconst P (1 : Int32) (hb hby de22_318) rfl (pc' := 319) rfl ?_
  refine o_iadd P (hb hby de22_319) (pc' := 320) rfl ?_
  show OG p e below m _ T 320 _ [(.int 14), (.int 0), (.ref p2)]
  have hn_11 := P.n0le; have hk_11 := P.keep0.1
  refine o_callV P (W := 0) (a := p2) (ow hw 225 rfl) (ow hw 226 rfl) (o_nfSl (ow hw 228 rfl)) (ow hw 228 rfl) (ow hw 227 rfl) (ow hw 45 rfl) (ow hw 229 rfl) (by decide) F_p2.exa (ct_e52 l Z a0 hw EL n0 p2 p3  od oz hg h10 F_p2 A_p3 ne_p2_p3) (o_sfS (List.Mem.tail _ (List.Mem.head _)) o_sf0) (by rw [hml]; rfl) (by decide) (by decide) (argsL := [(.int 0), (.int 14)]) (rest := []) (lenOf pd_10 rfl) rfl rfl (Nat.le_of_eq rfl) (hb hby de22_320) (pc' := 323) rfl (by decide) (by decide) ?_
  clear P; intro T h12 v12 P K12 q12
  obtain ⟨rfl, Q_p3, -⟩ := q12
  replace F_p0 := F_p0.keep K12 (ninS ne_p0_p3 nin0)
  replace F_p2 := F_p2.keep K12 (ninS ne_p2_p3 nin0)
  replace A_p1 := A_p1.keep K12 (ninS ne_p1_p3 nin0)
  clear A_p3
  have A_p3 := Q_p3; clear Q_p3
  clear K12 hn_11 hk_11
  show OG p e below m _ T 323 _ []
  exact o_ret0 P hret (hb hby de22_323) (by decide) (by decide) ⟨rfl, A_p1, A_p3, trivial⟩
theorem ef_ct_e54 (x0 : Addr) (x1 : Int32) (m : MethodId) : entryFrame m #[(.ref x0), (.int x1)] 2 = mkF m 0 #[.val (.ref x0), .val (.int x1)] [] := by first | (simp [entryFrame, mkF, argsToLocals, o_catR, o_catN, o_catI, o_catJ, o_catD]; done) | rfl
theorem ct_e54 (l : Launch) (Z : State) (a0 : Array Value) (hw : OHw Z a0) (EL : List (String × Nat)) (n0 : Nat) (p0 : Addr) (p1 : Addr) (p2 : Addr) (p3 : Addr) (x0 : Int64) (x1 : Int64) (od oz : Addr) (hg : OGp Z od oz) (h0 : Heap) (F_p0 : OObj Z h0 p0 kS [(kS, "values", "[J", (.ref p1)), (kS, "cuts", "Ljava/util/BitSet;", (.ref p2))]) (A_p1 : OArr Z h0 p1 .long [(.long x0), (.long x1), (.long x1), (.long x0), (.long x1), (.long x1), (.long x0), (.long x1), (.long x0), (.long x1), (.long x1), (.long x0), (.long x1), (.long 0), (.long 0), (.long 0)]) (F_p2 : OObj Z h0 p2 kB [(kB, "wordsInUse", "I", (.int 1)), (kB, "sizeIsSticky", "Z", (.int 1)), (kB, "words", "[J", (.ref p3))]) (A_p3 : OArr Z h0 p3 .long [(.long 8193)]) (ne_p0_p1 : p0 ≠ p1) (ne_p0_p2 : p0 ≠ p2) (ne_p0_p3 : p0 ≠ p3) (ne_p1_p2 : p1 ≠ p2) (ne_p1_p3 : p1 ≠ p3) (ne_p2_p3 : p2 ≠ p3) :
    OCt l Z a0 EL n0 (⟨kS, "valueAt", "(I)J"⟩ : MethodName) prog_15_method_2_code 2 (some .long) ({ frames := 5, cells := 0, slots := 0, locals := 109 } : Room) [] #[(.ref p0), (.int 0)] h0 [p1, p3] (fun w vm h => w = some (.long (og [x0, x1, x1, x0, x1, x1, x0, x1, x0, x1, x1, x0, x1] 0)) ∧ OArr Z h p1 .long [(.long (og [x0, x1, x1, x0, x1, x1, x0, x1, x0, x1, x1, x0, x1] 0)), (.long (og [x0, x1, x1, x0, x1, x1, x0, x1, x0, x1, x1, x0, x1] 1)), (.long (og [x0, x1, x1, x0, x1, x1, x0, x1, x0, x1, x1, x0, x1] 2)), (.long (og [x0, x1, x1, x0, x1, x1, x0, x1, x0, x1, x1, x0, x1] 3)), (.long (og [x0, x1, x1, x0, x1, x1, x0, x1, x0, x1, x1, x0, x1] 4)), (.long (og [x0, x1, x1, x0, x1, x1, x0, x1, x0, x1, x1, x0, x1] 5)), (.long (og [x0, x1, x1, x0, x1, x1, x0, x1, x0, x1, x1, x0, x1] 6)), (.long (og [x0, x1, x1, x0, x1, x1, x0, x1, x0, x1, x1, x0, x1] 7)), (.long (og [x0, x1, x1, x0, x1, x1, x0, x1, x0, x1, x1, x0, x1] 8)), (.long (og [x0, x1, x1, x0, x1, x1, x0, x1, x0, x1, x1, x0, x1] 9)), (.long (og [x0, x1, x1, x0, x1, x1, x0, x1, x0, x1, x1, x0, x1] 10)), (.long (og [x0, x1, x1, x0, x1, x1, x0, x1, x0, x1, x1, x0, x1] 11)), (.long (og [x0, x1, x1, x0, x1, x1, x0, x1, x0, x1, x1, x0, x1] 12)), (.long 0), (.long 0), (.long 0)] ∧ OArr Z h p3 .long [(.long 16383)] ∧ True) := by
  refine OCt.body (plainFor_of_name pn_e1) (ef_ct_e54 p0 ((0 : Int32))) ?_
  intro p e s m below meth c T hby hml hret hnm hsh P
  refine o_aloadN P (hb hby de21_0) rfl rfl (pc' := 1) rfl ?_
  refine o_iloadN P (hb hby de21_1) rfl (pc' := 2) rfl ?_
  have hn_1 := P.n0le; have hk_1 := P.keep0.1
  refine o_callQ P (W := 0) (a := p0) (ow hw 93 rfl) (ow hw 94 rfl) (ow hw 35 rfl) (ow hw 95 rfl) (ow hw 36 rfl) (ow hw 96 rfl) (by decide) F_p0.exa (ct_e53 l Z a0 hw EL n0 p0 p1 p2 p3 x0 x1 od oz hg h0 F_p0 A_p1 F_p2 A_p3 ne_p0_p1 ne_p0_p2 ne_p0_p3 ne_p1_p2 ne_p1_p3 ne_p2_p3) (o_sfS (List.Mem.head _) (o_sfS (List.Mem.tail _ (List.Mem.head _)) o_sf0)) (by rw [hml]; rfl) (by decide) (by decide) (argsL := [(.int 0)]) (rest := []) (lenOf pd_1 rfl) rfl rfl (Nat.le_of_eq rfl) (hb hby de21_2) (pc' := 5) rfl (by decide) (by decide) ?_
  clear P; intro T h2 v2 P K2 q2
  obtain ⟨rfl, Q_p1, Q_p3, -⟩ := q2
  replace F_p0 := F_p0.keep K2 (ninS ne_p0_p1 (ninS ne_p0_p3 nin0))
  replace F_p2 := F_p2.keep K2 (ninS (Ne.symm ne_p1_p2) (ninS ne_p2_p3 nin0))
  clear A_p1
  have A_p1 := Q_p1; clear Q_p1
  clear A_p3
  have A_p3 := Q_p3; clear Q_p3
  clear K2 hn_1 hk_1
  show OG p e below m _ T 5 _ []
  refine o_aloadN P (hb hby de21_5) rfl rfl (pc' := 6) rfl ?_
  refine o_getF P (ow hw 41 rfl) Via.refl (F_p0.fld 0 rfl) (hb hby de21_6) (pc' := 9) rfl ?_
  clear P; intro T P
  refine o_iloadN P (hb hby de21_9) rfl (pc' := 10) rfl ?_
  refine o_laload P (v := (.long (og [x0, x1, x1, x0, x1, x1, x0, x1, x0, x1, x1, x0, x1] 0))) A_p1 (by decide) rfl (hb hby de21_10) (pc' := 11) rfl ?_
  exact o_retL P hret (hb hby de21_11) (by decide) (by decide) ⟨rfl, A_p1, A_p3, trivial⟩
theorem ef_ct_e55 (x0 : Addr) (x1 : Int32) (m : MethodId) : entryFrame m #[(.ref x0), (.int x1)] 3 = mkF m 0 #[.val (.ref x0), .val (.int x1), .unset] [] := by first | (simp [entryFrame, mkF, argsToLocals, o_catR, o_catN, o_catI, o_catJ, o_catD]; done) | rfl
theorem ct_e55 (l : Launch) (Z : State) (a0 : Array Value) (hw : OHw Z a0) (EL : List (String × Nat)) (n0 : Nat) (p0 : Addr) (p1 : Addr) (x0 : Int32) (od oz : Addr) (hg : OGp Z od oz) (hr0 : 1 ≤ x0.toInt) (hr1 : x0.toInt ≤ 12) (h0 : Heap) (F_p0 : OObj Z h0 p0 kB [(kB, "wordsInUse", "I", (.int 1)), (kB, "sizeIsSticky", "Z", (.int 1)), (kB, "words", "[J", (.ref p1))]) (A_p1 : OArr Z h0 p1 .long [(.long 8193)]) (ne_p0_p1 : p0 ≠ p1) :
    OCt l Z a0 EL n0 (⟨kB, "get", "(I)Z"⟩ : MethodName) jdk_92_method_26_code 3 (some .boolean) ({ frames := 1, cells := 0, slots := 0, locals := 12 } : Room) [] #[(.ref p0), (.int x0)] h0 [] (fun w vm h => w = some (.int 0) ∧ h = h0) := by
  refine OCt.body (plainFor_of_name pn_e0) (ef_ct_e55 p0 x0) ?_
  intro p e s m below meth c T hby hml hret hnm hsh P
  refine o_iloadN P (hb hby de23_0) rfl (pc' := 1) rfl ?_
  refine o_if_ge P (hb hby de23_1) (by decide) (pc' := 31) (by decide) (pcf := 4) rfl (fun _ => ?_) (fun q => absurd q (own_nn x0 (by omega)))
  refine o_aloadN P (hb hby de23_31) rfl rfl (pc' := 32) rfl ?_
  refine o_callP P (W := 0) (a := p0) (ow hw 81 rfl) (ow hw 82 rfl) (ow hw 84 rfl) (ow hw 83 rfl) (ow hw 45 rfl) (ow hw 85 rfl) (by decide) F_p0.exa (ct_e18 l Z a0 hw EL n0 p0 p1  od oz hg h0 F_p0 A_p1 ne_p0_p1) o_sf0 (by rw [hml]; rfl) (by decide) (by decide) (argsL := []) (rest := []) (lenOf pd_2 rfl) rfl rfl (Nat.le_of_eq rfl) (hb hby de23_32) (pc' := 35) rfl (by decide) (by decide) ?_
  clear P; intro T h2 v2 P K2 q2
  obtain ⟨rfl, rfl⟩ := q2; clear K2
  show OG p e below m _ T 35 _ []
  refine o_iloadN P (hb hby de23_35) rfl (pc' := 36) rfl ?_
  refine o_callS P (W := 0) (ow hw 59 rfl) (ow hw 60 rfl) (ow hw 45 rfl) (ow hw 61 rfl) (by decide) (ct_wi l Z a0 hw EL n0 x0 (by omega) (by omega) h2) o_sf0 (by rw [hml]; rfl) (by decide) (by decide) (argsL := [(.int x0)]) (rest := []) (lenOf pd_0 rfl) rfl rfl (Nat.le_of_eq rfl) (hb hby de23_36) (pc' := 39) rfl (by decide) (by decide) ?_
  clear P; intro T h3 v3 P K3 q3
  obtain ⟨rfl, rfl⟩ := q3; clear K3
  show OG p e below m _ T 39 _ [(.int 0)]
  refine o_istoreN P (hb hby de23_39) (L' := #[.val (.ref p0), .val (.int x0), .val (.int 0)]) rfl (pc' := 40) rfl ?_
  refine o_iloadN P (hb hby de23_40) rfl (pc' := 41) rfl ?_
  refine o_aloadN P (hb hby de23_41) rfl rfl (pc' := 42) rfl ?_
  refine o_getF P (ow hw 50 rfl) Via.refl (F_p0.fld 0 rfl) (hb hby de23_42) (pc' := 45) rfl ?_
  clear P; intro T P
  refine o_icmp_ge P (hb hby de23_45) (by decide) (pc' := 67) (by decide) (pcf := 48) rfl (fun q => absurd (by decide) q) (fun _ => ?_)
  refine o_aloadN P (hb hby de23_48) rfl rfl (pc' := 49) rfl ?_
  refine o_getF P (ow hw 62 rfl) Via.refl (F_p0.fld 2 rfl) (hb hby de23_49) (pc' := 52) rfl ?_
  clear P; intro T P
  refine o_iloadN P (hb hby de23_52) rfl (pc' := 53) rfl ?_
  refine o_laload P (v := (.long 8193)) A_p1 (by decide) rfl (hb hby de23_53) (pc' := 54) rfl ?_
  refine o_lconst P (1 : Int64) (hb hby de23_54) rfl (pc' := 55) rfl ?_
  refine o_iloadN P (hb hby de23_55) rfl (pc' := 56) rfl ?_
  refine o_lshl P (hb hby de23_56) (pc' := 57) rfl ?_
  refine o_land P (hb hby de23_57) (pc' := 58) rfl ?_
  refine o_lconst P (0 : Int64) (hb hby de23_58) rfl (pc' := 59) rfl ?_
  refine o_lcmp P (hb hby de23_59) (pc' := 60) rfl ?_
  rw [own_bit13 x0 hr0 hr1]
  show OG p e below m _ T 60 _ [(.int 0)]
  refine o_if_eq P (hb hby de23_60) (by decide) (pc' := 67) (by decide) (pcf := 63) rfl (fun _ => ?_) (fun q => absurd (by decide) q)
  refine o_iconst P (0 : Int32) (hb hby de23_67) rfl (pc' := 68) rfl ?_
  exact o_retI P hret (by simp) rfl (hb hby de23_68) (by decide) (by decide) ⟨rfl, rfl⟩
theorem ef_ct_e56 (x0 : Addr) (x1 : Int32) (m : MethodId) : entryFrame m #[(.ref x0), (.int x1)] 5 = mkF m 0 #[.val (.ref x0), .val (.int x1), .unset, .unset, .unset] [] := by first | (simp [entryFrame, mkF, argsToLocals, o_catR, o_catN, o_catI, o_catJ, o_catD]; done) | rfl
theorem ct_e56 (l : Launch) (Z : State) (a0 : Array Value) (hw : OHw Z a0) (EL : List (String × Nat)) (n0 : Nat) (p0 : Addr) (p1 : Addr) (x0 : Int32) (od oz : Addr) (hg : OGp Z od oz) (hr0 : 1 ≤ x0.toInt) (hr1 : x0.toInt ≤ 12) (h0 : Heap) (F_p0 : OObj Z h0 p0 kB [(kB, "wordsInUse", "I", (.int 1)), (kB, "sizeIsSticky", "Z", (.int 1)), (kB, "words", "[J", (.ref p1))]) (A_p1 : OArr Z h0 p1 .long [(.long 8193)]) (ne_p0_p1 : p0 ≠ p1) :
    OCt l Z a0 EL n0 (⟨kB, "previousSetBit", "(I)I"⟩ : MethodName) jdk_92_method_30_code 5 (some .int) ({ frames := 2, cells := 0, slots := 0, locals := 29 } : Room) [] #[(.ref p0), (.int x0)] h0 [] (fun w vm h => w = some (.int 0) ∧ h = h0) := by
  refine OCt.body (plainFor_of_name pn_e0) (ef_ct_e56 p0 x0) ?_
  intro p e s m below meth c T hby hml hret hnm hsh P
  refine o_iloadN P (hb hby de27_0) rfl (pc' := 1) rfl ?_
  refine o_if_ge P (hb hby de27_1) (by decide) (pc' := 38) (by decide) (pcf := 4) rfl (fun _ => ?_) (fun q => absurd q (own_nn x0 (by omega)))
  refine o_aloadN P (hb hby de27_38) rfl rfl (pc' := 39) rfl ?_
  refine o_callP P (W := 0) (a := p0) (ow hw 81 rfl) (ow hw 82 rfl) (ow hw 84 rfl) (ow hw 83 rfl) (ow hw 45 rfl) (ow hw 85 rfl) (by decide) F_p0.exa (ct_e18 l Z a0 hw EL n0 p0 p1  od oz hg h0 F_p0 A_p1 ne_p0_p1) o_sf0 (by rw [hml]; rfl) (by decide) (by decide) (argsL := []) (rest := []) (lenOf pd_2 rfl) rfl rfl (Nat.le_of_eq rfl) (hb hby de27_39) (pc' := 42) rfl (by decide) (by decide) ?_
  clear P; intro T h2 v2 P K2 q2
  obtain ⟨rfl, rfl⟩ := q2; clear K2
  show OG p e below m _ T 42 _ []
  refine o_iloadN P (hb hby de27_42) rfl (pc' := 43) rfl ?_
  refine o_callS P (W := 0) (ow hw 59 rfl) (ow hw 60 rfl) (ow hw 45 rfl) (ow hw 61 rfl) (by decide) (ct_wi l Z a0 hw EL n0 x0 (by omega) (by omega) h2) o_sf0 (by rw [hml]; rfl) (by decide) (by decide) (argsL := [(.int x0)]) (rest := []) (lenOf pd_0 rfl) rfl rfl (Nat.le_of_eq rfl) (hb hby de27_43) (pc' := 46) rfl (by decide) (by decide) ?_
  clear P; intro T h3 v3 P K3 q3
  obtain ⟨rfl, rfl⟩ := q3; clear K3
  show OG p e below m _ T 46 _ [(.int 0)]
  refine o_istoreN P (hb hby de27_46) (L' := #[.val (.ref p0), .val (.int x0), .val (.int 0), .unset, .unset]) rfl (pc' := 47) rfl ?_
  refine o_iloadN P (hb hby de27_47) rfl (pc' := 48) rfl ?_
  refine o_aloadN P (hb hby de27_48) rfl rfl (pc' := 49) rfl ?_
  refine o_getF P (ow hw 50 rfl) Via.refl (F_p0.fld 0 rfl) (hb hby de27_49) (pc' := 52) rfl ?_
  clear P; intro T P
  refine o_icmp_lt P (hb hby de27_52) (by decide) (pc' := 62) (by decide) (pcf := 55) rfl (fun _ => ?_) (fun q => absurd (by decide) q)
  refine o_aloadN P (hb hby de27_62) rfl rfl (pc' := 63) rfl ?_
  refine o_getF P (ow hw 62 rfl) Via.refl (F_p0.fld 2 rfl) (hb hby de27_63) (pc' := 66) rfl ?_
  clear P; intro T P
  refine o_iloadN P (hb hby de27_66) rfl (pc' := 67) rfl ?_
  refine o_laload P (v := (.long 8193)) A_p1 (by decide) rfl (hb hby de27_67) (pc' := 68) rfl ?_
  refine o_ldc2L P (ow hw 188 rfl) (hb hby de27_68) (pc' := 71) rfl ?_
  refine o_iloadN P (hb hby de27_71) rfl (pc' := 72) rfl ?_
  refine o_iconst P (1 : Int32) (hb hby de27_72) rfl (pc' := 73) rfl ?_
  refine o_iadd P (hb hby de27_73) (pc' := 74) rfl ?_
  refine o_ineg P (hb hby de27_74) (pc' := 75) rfl ?_
  refine o_lushr P (hb hby de27_75) (pc' := 76) rfl ?_
  refine o_land P (hb hby de27_76) (pc' := 77) rfl ?_
  refine o_lstoreN P (hb hby de27_77) (L' := #[.val (.ref p0), .val (.int x0), .val (.int 0), .val (.long ((8193 : Int64) &&& (((-1 : Int64).toUInt64 >>> ((-(x0 + (1 : Int32))) &&& 0x3f).toInt64.toUInt64).toInt64))), .second]) rfl (pc' := 78) rfl ?_
  refine o_lloadN P (hb hby de27_78) rfl (pc' := 79) rfl ?_
  refine o_lconst P (0 : Int64) (hb hby de27_79) rfl (pc' := 80) rfl ?_
  refine o_lcmp P (hb hby de27_80) (pc' := 81) rfl ?_
  rw [own_prev13 x0 hr0 hr1]
  show OG p e below m _ T 81 _ [(.int 1)]
  refine o_if_eq P (hb hby de27_81) (by decide) (pc' := 98) (by decide) (pcf := 84) rfl (fun q => absurd q (by decide)) (fun _ => ?_)
  refine o_iloadN P (hb hby de27_84) rfl (pc' := 85) rfl ?_
  refine o_iconst P (1 : Int32) (hb hby de27_85) rfl (pc' := 86) rfl ?_
  refine o_iadd P (hb hby de27_86) (pc' := 87) rfl ?_
  show OG p e below m _ T 87 _ [(.int 1)]
  refine o_bipush P (64 : Int32) (hb hby de27_87) rfl (pc' := 89) rfl ?_
  refine o_imul P (hb hby de27_89) (pc' := 90) rfl ?_
  show OG p e below m _ T 90 _ [(.int 64)]
  refine o_iconst P (1 : Int32) (hb hby de27_90) rfl (pc' := 91) rfl ?_
  refine o_isub P (hb hby de27_91) (pc' := 92) rfl ?_
  show OG p e below m _ T 92 _ [(.int 63)]
  refine o_lloadN P (hb hby de27_92) rfl (pc' := 93) rfl ?_
  refine o_callS P (W := 1) (ow hw 189 rfl) (ow hw 190 rfl) (ow hw 191 rfl) (ow hw 192 rfl) (by decide) (ct_e31 l Z a0 hw EL n0   od oz hg h3  ) o_sf0 (by rw [hml]; rfl) (by decide) (by decide) (argsL := [(.long 1)]) (rest := [(.int 63)]) (lenOf pd_5 rfl) rfl rfl (Nat.le_of_eq rfl) (hb hby de27_93) (pc' := 96) rfl (by decide) (by decide) ?_
  clear P; intro T h5 v5 P K5 q5
  obtain ⟨rfl, rfl⟩ := q5; clear K5
  show OG p e below m _ T 96 _ [(.int 63), (.int 63)]
  refine o_isub P (hb hby de27_96) (pc' := 97) rfl ?_
  show OG p e below m _ T 97 _ [(.int 0)]
  exact o_retI P hret (by simp) rfl (hb hby de27_97) (by decide) (by decide) ⟨rfl, rfl⟩
theorem ef_ct_e57 (x0 : Addr) (x1 : Int32) (m : MethodId) : entryFrame m #[(.ref x0), (.int x1)] 5 = mkF m 0 #[.val (.ref x0), .val (.int x1), .unset, .unset, .unset] [] := by first | (simp [entryFrame, mkF, argsToLocals, o_catR, o_catN, o_catI, o_catJ, o_catD]; done) | rfl
theorem ct_e57 (l : Launch) (Z : State) (a0 : Array Value) (hw : OHw Z a0) (EL : List (String × Nat)) (n0 : Nat) (p0 : Addr) (p1 : Addr) (x0 : Int32) (od oz : Addr) (hg : OGp Z od oz) (hr0 : 2 ≤ x0.toInt) (hr1 : x0.toInt ≤ 13) (h0 : Heap) (F_p0 : OObj Z h0 p0 kB [(kB, "wordsInUse", "I", (.int 1)), (kB, "sizeIsSticky", "Z", (.int 1)), (kB, "words", "[J", (.ref p1))]) (A_p1 : OArr Z h0 p1 .long [(.long 8193)]) (ne_p0_p1 : p0 ≠ p1) :
    OCt l Z a0 EL n0 (⟨kB, "nextSetBit", "(I)I"⟩ : MethodName) jdk_92_method_28_code 5 (some .int) ({ frames := 2, cells := 0, slots := 0, locals := 28 } : Room) [] #[(.ref p0), (.int x0)] h0 [] (fun w vm h => w = some (.int 13) ∧ h = h0) := by
  refine OCt.body (plainFor_of_name pn_e0) (ef_ct_e57 p0 x0) ?_
  intro p e s m below meth c T hby hml hret hnm hsh P
  refine o_iloadN P (hb hby de33_0) rfl (pc' := 1) rfl ?_
  refine o_if_ge P (hb hby de33_1) (by decide) (pc' := 31) (by decide) (pcf := 4) rfl (fun _ => ?_) (fun q => absurd q (own_nn x0 (by omega)))
  refine o_aloadN P (hb hby de33_31) rfl rfl (pc' := 32) rfl ?_
  refine o_callP P (W := 0) (a := p0) (ow hw 81 rfl) (ow hw 82 rfl) (ow hw 84 rfl) (ow hw 83 rfl) (ow hw 45 rfl) (ow hw 85 rfl) (by decide) F_p0.exa (ct_e18 l Z a0 hw EL n0 p0 p1  od oz hg h0 F_p0 A_p1 ne_p0_p1) o_sf0 (by rw [hml]; rfl) (by decide) (by decide) (argsL := []) (rest := []) (lenOf pd_2 rfl) rfl rfl (Nat.le_of_eq rfl) (hb hby de33_32) (pc' := 35) rfl (by decide) (by decide) ?_
  clear P; intro T h2 v2 P K2 q2
  obtain ⟨rfl, rfl⟩ := q2; clear K2
  show OG p e below m _ T 35 _ []
  refine o_iloadN P (hb hby de33_35) rfl (pc' := 36) rfl ?_
  refine o_callS P (W := 0) (ow hw 59 rfl) (ow hw 60 rfl) (ow hw 45 rfl) (ow hw 61 rfl) (by decide) (ct_wi l Z a0 hw EL n0 x0 (by omega) (by omega) h2) o_sf0 (by rw [hml]; rfl) (by decide) (by decide) (argsL := [(.int x0)]) (rest := []) (lenOf pd_0 rfl) rfl rfl (Nat.le_of_eq rfl) (hb hby de33_36) (pc' := 39) rfl (by decide) (by decide) ?_
  clear P; intro T h3 v3 P K3 q3
  obtain ⟨rfl, rfl⟩ := q3; clear K3
  show OG p e below m _ T 39 _ [(.int 0)]
  refine o_istoreN P (hb hby de33_39) (L' := #[.val (.ref p0), .val (.int x0), .val (.int 0), .unset, .unset]) rfl (pc' := 40) rfl ?_
  refine o_iloadN P (hb hby de33_40) rfl (pc' := 41) rfl ?_
  refine o_aloadN P (hb hby de33_41) rfl rfl (pc' := 42) rfl ?_
  refine o_getF P (ow hw 50 rfl) Via.refl (F_p0.fld 0 rfl) (hb hby de33_42) (pc' := 45) rfl ?_
  clear P; intro T P
  refine o_icmp_lt P (hb hby de33_45) (by decide) (pc' := 50) (by decide) (pcf := 48) rfl (fun _ => ?_) (fun q => absurd (by decide) q)
  refine o_aloadN P (hb hby de33_50) rfl rfl (pc' := 51) rfl ?_
  refine o_getF P (ow hw 62 rfl) Via.refl (F_p0.fld 2 rfl) (hb hby de33_51) (pc' := 54) rfl ?_
  clear P; intro T P
  refine o_iloadN P (hb hby de33_54) rfl (pc' := 55) rfl ?_
  refine o_laload P (v := (.long 8193)) A_p1 (by decide) rfl (hb hby de33_55) (pc' := 56) rfl ?_
  refine o_ldc2L P (ow hw 188 rfl) (hb hby de33_56) (pc' := 59) rfl ?_
  refine o_iloadN P (hb hby de33_59) rfl (pc' := 60) rfl ?_
  refine o_lshl P (hb hby de33_60) (pc' := 61) rfl ?_
  refine o_land P (hb hby de33_61) (pc' := 62) rfl ?_
  refine o_lstoreN P (hb hby de33_62) (L' := #[.val (.ref p0), .val (.int x0), .val (.int 0), .val (.long ((8193 : Int64) &&& ((-1 : Int64) <<< (x0 &&& 0x3f).toInt64))), .second]) rfl (pc' := 63) rfl ?_
  refine o_lloadN P (hb hby de33_63) rfl (pc' := 64) rfl ?_
  refine o_lconst P (0 : Int64) (hb hby de33_64) rfl (pc' := 65) rfl ?_
  refine o_lcmp P (hb hby de33_65) (pc' := 66) rfl ?_
  rw [own_next13 x0 hr0 hr1]
  show OG p e below m _ T 66 _ [(.int 1)]
  refine o_if_eq P (hb hby de33_66) (by decide) (pc' := 79) (by decide) (pcf := 69) rfl (fun q => absurd q (by decide)) (fun _ => ?_)
  refine o_iloadN P (hb hby de33_69) rfl (pc' := 70) rfl ?_
  refine o_bipush P (64 : Int32) (hb hby de33_70) rfl (pc' := 72) rfl ?_
  refine o_imul P (hb hby de33_72) (pc' := 73) rfl ?_
  show OG p e below m _ T 73 _ [(.int 0)]
  refine o_lloadN P (hb hby de33_73) rfl (pc' := 74) rfl ?_
  refine o_callS P (W := 1) (ow hw 203 rfl) (ow hw 204 rfl) (ow hw 191 rfl) (ow hw 205 rfl) (by decide) (ct_e37 l Z a0 hw EL n0   od oz hg h3  ) o_sf0 (by rw [hml]; rfl) (by decide) (by decide) (argsL := [(.long 8192)]) (rest := [(.int 0)]) (lenOf pd_5 rfl) rfl rfl (Nat.le_of_eq rfl) (hb hby de33_74) (pc' := 77) rfl (by decide) (by decide) ?_
  clear P; intro T h5 v5 P K5 q5
  obtain ⟨rfl, rfl⟩ := q5; clear K5
  show OG p e below m _ T 77 _ [(.int 13), (.int 0)]
  refine o_iadd P (hb hby de33_77) (pc' := 78) rfl ?_
  show OG p e below m _ T 78 _ [(.int 13)]
  exact o_retI P hret (by simp) rfl (hb hby de33_78) (by decide) (by decide) ⟨rfl, rfl⟩
theorem ef_ct_e58 (x0 : Addr) (x1 : Int32) (m : MethodId) : entryFrame m #[(.ref x0), (.int x1)] 12 = mkF m 0 #[.val (.ref x0), .val (.int x1), .unset, .unset, .unset, .unset, .unset, .unset, .unset, .unset, .unset, .unset] [] := by first | (simp [entryFrame, mkF, argsToLocals, o_catR, o_catN, o_catI, o_catJ, o_catD]; done) | rfl
theorem ct_e58 (l : Launch) (Z : State) (a0 : Array Value) (hw : OHw Z a0) (EL : List (String × Nat)) (n0 : Nat) (p0 : Addr) (p1 : Addr) (p2 : Addr) (p3 : Addr) (x0 : Int32) (x1 : Int64) (x2 : Int64) (od oz : Addr) (hg : OGp Z od oz) (hr0 : 1 ≤ x0.toInt) (hr1 : x0.toInt ≤ 12) (h0 : Heap) (F_p0 : OObj Z h0 p0 kS [(kS, "values", "[J", (.ref p1)), (kS, "cuts", "Ljava/util/BitSet;", (.ref p2))]) (A_p1 : OArr Z h0 p1 .long [(.long x1), (.long x2), (.long x2), (.long x1), (.long x2), (.long x2), (.long x1), (.long x2), (.long x1), (.long x2), (.long x2), (.long x1), (.long x2), (.long 0), (.long 0), (.long 0)]) (F_p2 : OObj Z h0 p2 kB [(kB, "wordsInUse", "I", (.int 1)), (kB, "sizeIsSticky", "Z", (.int 1)), (kB, "words", "[J", (.ref p3))]) (A_p3 : OArr Z h0 p3 .long [(.long 8193)]) (ne_p0_p1 : p0 ≠ p1) (ne_p0_p2 : p0 ≠ p2) (ne_p0_p3 : p0 ≠ p3) (ne_p1_p2 : p1 ≠ p2) (ne_p1_p3 : p1 ≠ p3) (ne_p2_p3 : p2 ≠ p3) :
    OCt l Z a0 EL n0 (⟨kS, "settle", "(I)V"⟩ : MethodName) prog_15_method_3_code 12 none ({ frames := 4, cells := 0, slots := 0, locals := 86 } : Room) [] #[(.ref p0), (.int x0)] h0 [p1, p3] (fun w vm h => w = none ∧ OArr Z h p1 .long [(.long (og [x1, x2, x2, x1, x2, x2, x1, x2, x1, x2, x2, x1, x2] 0)), (.long (og [x1, x2, x2, x1, x2, x2, x1, x2, x1, x2, x2, x1, x2] 1)), (.long (og [x1, x2, x2, x1, x2, x2, x1, x2, x1, x2, x2, x1, x2] 2)), (.long (og [x1, x2, x2, x1, x2, x2, x1, x2, x1, x2, x2, x1, x2] 3)), (.long (og [x1, x2, x2, x1, x2, x2, x1, x2, x1, x2, x2, x1, x2] 4)), (.long (og [x1, x2, x2, x1, x2, x2, x1, x2, x1, x2, x2, x1, x2] 5)), (.long (og [x1, x2, x2, x1, x2, x2, x1, x2, x1, x2, x2, x1, x2] 6)), (.long (og [x1, x2, x2, x1, x2, x2, x1, x2, x1, x2, x2, x1, x2] 7)), (.long (og [x1, x2, x2, x1, x2, x2, x1, x2, x1, x2, x2, x1, x2] 8)), (.long (og [x1, x2, x2, x1, x2, x2, x1, x2, x1, x2, x2, x1, x2] 9)), (.long (og [x1, x2, x2, x1, x2, x2, x1, x2, x1, x2, x2, x1, x2] 10)), (.long (og [x1, x2, x2, x1, x2, x2, x1, x2, x1, x2, x2, x1, x2] 11)), (.long (og [x1, x2, x2, x1, x2, x2, x1, x2, x1, x2, x2, x1, x2] 12)), (.long 0), (.long 0), (.long 0)] ∧ OArr Z h p3 .long [(.long 16383)] ∧ True) := by
  refine OCt.body (plainFor_of_name pn_e1) (ef_ct_e58 p0 x0) ?_
  intro p e s m below meth c T hby hml hret hnm hsh P
  refine o_aloadN P (hb hby de22_0) rfl rfl (pc' := 1) rfl ?_
  refine o_getF P (ow hw 64 rfl) Via.refl (F_p0.fld 1 rfl) (hb hby de22_1) (pc' := 4) rfl ?_
  clear P; intro T P
  refine o_iloadN P (hb hby de22_4) rfl (pc' := 5) rfl ?_
  refine o_callV P (W := 0) (a := p2) (ow hw 97 rfl) (ow hw 98 rfl) (o_nfSl (ow hw 100 rfl)) (ow hw 100 rfl) (ow hw 99 rfl) (ow hw 45 rfl) (ow hw 101 rfl) (by decide) F_p2.exa (ct_e55 l Z a0 hw EL n0 p2 p3 x0 od oz hg hr0 hr1 h0 F_p2 A_p3 ne_p2_p3) o_sf0 (by rw [hml]; rfl) (by decide) (by decide) (argsL := [(.int x0)]) (rest := []) (lenOf pd_4 rfl) rfl rfl (Nat.le_of_eq rfl) (hb hby de22_5) (pc' := 8) rfl (by decide) (by decide) ?_
  clear P; intro T h2 v2 P K2 q2
  obtain ⟨rfl, rfl⟩ := q2; clear K2
  show OG p e below m _ T 8 _ [(.int 0)]
  refine o_if_eq P (hb hby de22_8) (by decide) (pc' := 25) (by decide) (pcf := 11) rfl (fun _ => ?_) (fun q => absurd (by decide) q)
  refine o_aloadN P (hb hby de22_25) rfl rfl (pc' := 26) rfl ?_
  refine o_getF P (ow hw 64 rfl) Via.refl (F_p0.fld 1 rfl) (hb hby de22_26) (pc' := 29) rfl ?_
  clear P; intro T P
  refine o_iloadN P (hb hby de22_29) rfl (pc' := 30) rfl ?_
  refine o_callV P (W := 0) (a := p2) (ow hw 183 rfl) (ow hw 184 rfl) (o_nfSl (ow hw 186 rfl)) (ow hw 186 rfl) (ow hw 185 rfl) (ow hw 45 rfl) (ow hw 187 rfl) (by decide) F_p2.exa (ct_e56 l Z a0 hw EL n0 p2 p3 x0 od oz hg hr0 hr1 h2 F_p2 A_p3 ne_p2_p3) o_sf0 (by rw [hml]; rfl) (by decide) (by decide) (argsL := [(.int x0)]) (rest := []) (lenOf pd_0 rfl) rfl rfl (Nat.le_of_eq rfl) (hb hby de22_30) (pc' := 33) rfl (by decide) (by decide) ?_
  clear P; intro T h4 v4 P K4 q4
  obtain ⟨rfl, rfl⟩ := q4; clear K4
  show OG p e below m _ T 33 _ [(.int 0)]
  refine o_istoreN P (hb hby de22_33) (L' := #[.val (.ref p0), .val (.int x0), .val (.int 0), .unset, .unset, .unset, .unset, .unset, .unset, .unset, .unset, .unset]) rfl (pc' := 34) rfl ?_
  refine o_aloadN P (hb hby de22_34) rfl rfl (pc' := 35) rfl ?_
  refine o_getF P (ow hw 64 rfl) Via.refl (F_p0.fld 1 rfl) (hb hby de22_35) (pc' := 38) rfl ?_
  clear P; intro T P
  refine o_iloadN P (hb hby de22_38) rfl (pc' := 39) rfl ?_
  refine o_iconst P (1 : Int32) (hb hby de22_39) rfl (pc' := 40) rfl ?_
  refine o_iadd P (hb hby de22_40) (pc' := 41) rfl ?_
  refine o_callV P (W := 0) (a := p2) (ow hw 198 rfl) (ow hw 199 rfl) (o_nfSl (ow hw 201 rfl)) (ow hw 201 rfl) (ow hw 200 rfl) (ow hw 45 rfl) (ow hw 202 rfl) (by decide) F_p2.exa (ct_e57 l Z a0 hw EL n0 p2 p3 ((x0 + (1 : Int32))) od oz hg (own_s1 x0 hr0 (by omega)).1 (by have := (own_s1 x0 hr0 (by omega)).2; omega) h4 F_p2 A_p3 ne_p2_p3) o_sf0 (by rw [hml]; rfl) (by decide) (by decide) (argsL := [(.int (x0 + (1 : Int32)))]) (rest := []) (lenOf pd_0 rfl) rfl rfl (Nat.le_of_eq rfl) (hb hby de22_41) (pc' := 44) rfl (by decide) (by decide) ?_
  clear P; intro T h6 v6 P K6 q6
  obtain ⟨rfl, rfl⟩ := q6; clear K6
  show OG p e below m _ T 44 _ [(.int 13)]
  refine o_istoreN P (hb hby de22_44) (L' := #[.val (.ref p0), .val (.int x0), .val (.int 0), .val (.int 13), .unset, .unset, .unset, .unset, .unset, .unset, .unset, .unset]) rfl (pc' := 45) rfl ?_
  refine o_iconst P (0 : Int32) (hb hby de22_45) rfl (pc' := 46) rfl ?_
  refine o_istore P (hb hby de22_46) (L' := #[.val (.ref p0), .val (.int x0), .val (.int 0), .val (.int 13), .val (.int 0), .unset, .unset, .unset, .unset, .unset, .unset, .unset]) rfl (pc' := 48) rfl ?_
  refine o_iloadN P (hb hby de22_48) rfl (pc' := 49) rfl ?_
  refine o_iloadN P (hb hby de22_49) rfl (pc' := 50) rfl ?_
  refine o_isub P (hb hby de22_50) (pc' := 51) rfl ?_
  show OG p e below m _ T 51 _ [(.int 13)]
  refine o_sipush P (256 : Int32) (hb hby de22_51) rfl (pc' := 54) rfl ?_
  refine o_icmp_le P (hb hby de22_54) (by decide) (pc' := 303) (by decide) (pcf := 57) rfl (fun _ => ?_) (fun q => absurd q (by decide))
  refine o_aloadN P (hb hby de22_303) rfl rfl (pc' := 304) rfl ?_
  refine o_getF P (ow hw 41 rfl) Via.refl (F_p0.fld 0 rfl) (hb hby de22_304) (pc' := 307) rfl ?_
  clear P; intro T P
  refine o_iloadN P (hb hby de22_307) rfl (pc' := 308) rfl ?_
  refine o_iloadN P (hb hby de22_308) rfl (pc' := 309) rfl ?_
  have hn_7 := P.n0le; have hk_7 := P.keep0.1
  refine o_callS P (W := 0) (ow hw 209 rfl) (ow hw 210 rfl) (ow hw 118 rfl) (ow hw 211 rfl) (by decide) (ct_e46 l Z a0 hw EL n0 p1 x1 x2 od oz hg h6 A_p1 ) (o_sfS (List.Mem.head _) o_sf0) (by rw [hml]; rfl) (by decide) (by decide) (argsL := [(.ref p1), (.int 0), (.int 13)]) (rest := []) (lenOf pd_7 rfl) rfl rfl (Nat.le_of_eq rfl) (hb hby de22_309) (pc' := 312) rfl (by decide) (by decide) ?_
  clear P; intro T h8 v8 P K8 q8
  obtain ⟨rfl, Q_p1, -⟩ := q8
  replace F_p0 := F_p0.keep K8 (ninS ne_p0_p1 nin0)
  replace F_p2 := F_p2.keep K8 (ninS (Ne.symm ne_p1_p2) nin0)
  replace A_p3 := A_p3.keep K8 (ninS (Ne.symm ne_p1_p3) nin0)
  clear A_p1
  have A_p1 := Q_p1; clear Q_p1
  clear K8 hn_7 hk_7
  show OG p e below m _ T 312 _ []
  refine o_aloadN P (hb hby de22_312) rfl rfl (pc' := 313) rfl ?_
  refine o_getF P (ow hw 64 rfl) Via.refl (F_p0.fld 1 rfl) (hb hby de22_313) (pc' := 316) rfl ?_
  clear P; intro T P
  refine o_iloadN P (hb hby de22_316) rfl (pc' := 317) rfl ?_
  refine o_iloadN P (hb hby de22_317) rfl (pc' := 318) rfl ?_
  refine o_iconst P (1 : Int32) (hb hby de22_318) rfl (pc' := 319) rfl ?_
  refine o_iadd P (hb hby de22_319) (pc' := 320) rfl ?_
  show OG p e below m _ T 320 _ [(.int 14), (.int 0), (.ref p2)]
  have hn_9 := P.n0le; have hk_9 := P.keep0.1
  refine o_callV P (W := 0) (a := p2) (ow hw 225 rfl) (ow hw 226 rfl) (o_nfSl (ow hw 228 rfl)) (ow hw 228 rfl) (ow hw 227 rfl) (ow hw 45 rfl) (ow hw 229 rfl) (by decide) F_p2.exa (ct_e52 l Z a0 hw EL n0 p2 p3  od oz hg h8 F_p2 A_p3 ne_p2_p3) (o_sfS (List.Mem.tail _ (List.Mem.head _)) o_sf0) (by rw [hml]; rfl) (by decide) (by decide) (argsL := [(.int 0), (.int 14)]) (rest := []) (lenOf pd_10 rfl) rfl rfl (Nat.le_of_eq rfl) (hb hby de22_320) (pc' := 323) rfl (by decide) (by decide) ?_
  clear P; intro T h10 v10 P K10 q10
  obtain ⟨rfl, Q_p3, -⟩ := q10
  replace F_p0 := F_p0.keep K10 (ninS ne_p0_p3 nin0)
  replace F_p2 := F_p2.keep K10 (ninS ne_p2_p3 nin0)
  replace A_p1 := A_p1.keep K10 (ninS ne_p1_p3 nin0)
  clear A_p3
  have A_p3 := Q_p3; clear Q_p3
  clear K10 hn_9 hk_9
  show OG p e below m _ T 323 _ []
  exact o_ret0 P hret (hb hby de22_323) (by decide) (by decide) ⟨rfl, A_p1, A_p3, trivial⟩
theorem ef_ct_e59 (x0 : Addr) (x1 : Int32) (m : MethodId) : entryFrame m #[(.ref x0), (.int x1)] 2 = mkF m 0 #[.val (.ref x0), .val (.int x1)] [] := by first | (simp [entryFrame, mkF, argsToLocals, o_catR, o_catN, o_catI, o_catJ, o_catD]; done) | rfl
theorem ct_e59 (l : Launch) (Z : State) (a0 : Array Value) (hw : OHw Z a0) (EL : List (String × Nat)) (n0 : Nat) (p0 : Addr) (p1 : Addr) (p2 : Addr) (p3 : Addr) (x0 : Int32) (x1 : Int64) (x2 : Int64) (od oz : Addr) (hg : OGp Z od oz) (hr0 : 1 ≤ x0.toInt) (hr1 : x0.toInt ≤ 12) (h0 : Heap) (F_p0 : OObj Z h0 p0 kS [(kS, "values", "[J", (.ref p1)), (kS, "cuts", "Ljava/util/BitSet;", (.ref p2))]) (A_p1 : OArr Z h0 p1 .long [(.long x1), (.long x2), (.long x2), (.long x1), (.long x2), (.long x2), (.long x1), (.long x2), (.long x1), (.long x2), (.long x2), (.long x1), (.long x2), (.long 0), (.long 0), (.long 0)]) (F_p2 : OObj Z h0 p2 kB [(kB, "wordsInUse", "I", (.int 1)), (kB, "sizeIsSticky", "Z", (.int 1)), (kB, "words", "[J", (.ref p3))]) (A_p3 : OArr Z h0 p3 .long [(.long 8193)]) (ne_p0_p1 : p0 ≠ p1) (ne_p0_p2 : p0 ≠ p2) (ne_p0_p3 : p0 ≠ p3) (ne_p1_p2 : p1 ≠ p2) (ne_p1_p3 : p1 ≠ p3) (ne_p2_p3 : p2 ≠ p3) :
    OCt l Z a0 EL n0 (⟨kS, "valueAt", "(I)J"⟩ : MethodName) prog_15_method_2_code 2 (some .long) ({ frames := 5, cells := 0, slots := 0, locals := 109 } : Room) [] #[(.ref p0), (.int x0)] h0 [p1, p3] (fun w vm h => w = some (.long (og [x1, x2, x2, x1, x2, x2, x1, x2, x1, x2, x2, x1, x2] x0.toNatClampNeg)) ∧ OArr Z h p1 .long [(.long (og [x1, x2, x2, x1, x2, x2, x1, x2, x1, x2, x2, x1, x2] 0)), (.long (og [x1, x2, x2, x1, x2, x2, x1, x2, x1, x2, x2, x1, x2] 1)), (.long (og [x1, x2, x2, x1, x2, x2, x1, x2, x1, x2, x2, x1, x2] 2)), (.long (og [x1, x2, x2, x1, x2, x2, x1, x2, x1, x2, x2, x1, x2] 3)), (.long (og [x1, x2, x2, x1, x2, x2, x1, x2, x1, x2, x2, x1, x2] 4)), (.long (og [x1, x2, x2, x1, x2, x2, x1, x2, x1, x2, x2, x1, x2] 5)), (.long (og [x1, x2, x2, x1, x2, x2, x1, x2, x1, x2, x2, x1, x2] 6)), (.long (og [x1, x2, x2, x1, x2, x2, x1, x2, x1, x2, x2, x1, x2] 7)), (.long (og [x1, x2, x2, x1, x2, x2, x1, x2, x1, x2, x2, x1, x2] 8)), (.long (og [x1, x2, x2, x1, x2, x2, x1, x2, x1, x2, x2, x1, x2] 9)), (.long (og [x1, x2, x2, x1, x2, x2, x1, x2, x1, x2, x2, x1, x2] 10)), (.long (og [x1, x2, x2, x1, x2, x2, x1, x2, x1, x2, x2, x1, x2] 11)), (.long (og [x1, x2, x2, x1, x2, x2, x1, x2, x1, x2, x2, x1, x2] 12)), (.long 0), (.long 0), (.long 0)] ∧ OArr Z h p3 .long [(.long 16383)] ∧ True) := by
  refine OCt.body (plainFor_of_name pn_e1) (ef_ct_e59 p0 x0) ?_
  intro p e s m below meth c T hby hml hret hnm hsh P
  refine o_aloadN P (hb hby de21_0) rfl rfl (pc' := 1) rfl ?_
  refine o_iloadN P (hb hby de21_1) rfl (pc' := 2) rfl ?_
  have hn_1 := P.n0le; have hk_1 := P.keep0.1
  refine o_callQ P (W := 0) (a := p0) (ow hw 93 rfl) (ow hw 94 rfl) (ow hw 35 rfl) (ow hw 95 rfl) (ow hw 36 rfl) (ow hw 96 rfl) (by decide) F_p0.exa (ct_e58 l Z a0 hw EL n0 p0 p1 p2 p3 x0 x1 x2 od oz hg hr0 hr1 h0 F_p0 A_p1 F_p2 A_p3 ne_p0_p1 ne_p0_p2 ne_p0_p3 ne_p1_p2 ne_p1_p3 ne_p2_p3) (o_sfS (List.Mem.head _) (o_sfS (List.Mem.tail _ (List.Mem.head _)) o_sf0)) (by rw [hml]; rfl) (by decide) (by decide) (argsL := [(.int x0)]) (rest := []) (lenOf pd_1 rfl) rfl rfl (Nat.le_of_eq rfl) (hb hby de21_2) (pc' := 5) rfl (by decide) (by decide) ?_
  clear P; intro T h2 v2 P K2 q2
  obtain ⟨rfl, Q_p1, Q_p3, -⟩ := q2
  replace F_p0 := F_p0.keep K2 (ninS ne_p0_p1 (ninS ne_p0_p3 nin0))
  replace F_p2 := F_p2.keep K2 (ninS (Ne.symm ne_p1_p2) (ninS ne_p2_p3 nin0))
  clear A_p1
  have A_p1 := Q_p1; clear Q_p1
  clear A_p3
  have A_p3 := Q_p3; clear Q_p3
  clear K2 hn_1 hk_1
  show OG p e below m _ T 5 _ []
  refine o_aloadN P (hb hby de21_5) rfl rfl (pc' := 6) rfl ?_
  refine o_getF P (ow hw 41 rfl) Via.refl (F_p0.fld 0 rfl) (hb hby de21_6) (pc' := 9) rfl ?_
  clear P; intro T P
  refine o_iloadN P (hb hby de21_9) rfl (pc' := 10) rfl ?_
  refine o_laload P (v := (.long (og [x1, x2, x2, x1, x2, x2, x1, x2, x1, x2, x2, x1, x2] x0.toNatClampNeg))) A_p1 (own_nn x0 (by omega)) (by rcases own_rng13 x0 (by omega) (by omega) with rfl | rfl | rfl | rfl | rfl | rfl | rfl | rfl | rfl | rfl | rfl | rfl | rfl <;> rfl) (hb hby de21_10) (pc' := 11) rfl ?_
  exact o_retL P hret (hb hby de21_11) (by decide) (by decide) ⟨rfl, A_p1, A_p3, trivial⟩
theorem pn_e6 : plainName kK = true := by first | (simp [plainName, overriddenIn]; done) | decide +kernel
theorem ct_at13od (l : Launch) (Z : State) (a0 : Array Value) (hw : OHw Z a0) (EL : List (String × Nat)) (n0 : Nat) (p0 p1 : Addr) (x0 : Int32) (vx vy : Int64) (od oz : Addr) (hg : OGp Z od oz) (hp0 : 1 ≤ x0.toInt) (hp1 : x0.toInt ≤ 13) (h0 : Heap) (F_p0 : OObj Z h0 p0 kK [(kK, "keys", "[J", (.ref p1)), (kK, "size", "I", (.int 13)), (kK, "selection", kSd, .null)]) (A_p1 : OArr Z h0 p1 .long [(.long vx), (.long vy), (.long vy), (.long vx), (.long vy), (.long vy), (.long vx), (.long vy), (.long vx), (.long vy), (.long vy), (.long vx), (.long vy), (.long 0), (.long 0), (.long 0)]) (ne_p0_p1 : p0 ≠ p1) :
    OCt l Z a0 EL n0 (⟨kK, "at", "(ILcom/example/centile/centile/function/Order;)J"⟩ : MethodName) prog_11_method_6_code 4 (some .long) ({ frames := 6, cells := 3, slots := 6, locals := 122 } : Room) [] #[(.ref p0), (.int x0), (.ref od)] h0 [p0, p1] (fun w vm h => w = some (.long (og [vx, vy, vy, vx, vy, vy, vx, vy, vx, vy, vy, vx, vy] ((x0 - (1 : Int32))).toNatClampNeg))) := by
  refine OCt.body (plainFor_of_name pn_e6) (ef_at13od p0 x0 od) ?_
  intro p e s m below meth c T hby hml hret hnm hsh P
  refine o_aloadN P (hb hby de1_0) rfl rfl (pc' := 1) rfl ?_
  refine o_getF P (ow hw 27 rfl) Via.refl (F_p0.fld 2 rfl) (hb hby de1_1) (pc' := 4) rfl ?_
  clear P; intro T P
  refine o_ifnonnullN P (hb hby de1_4) (pc' := 7) rfl ?_
  refine o_aloadN P (hb hby de1_7) rfl rfl (pc' := 8) rfl ?_
  have hz_b1 := P.keep0.1
  refine o_new P [(kS, "values", "[J", .null), (kS, "cuts", "Ljava/util/BitSet;", .null)] (ow hw 34 rfl) (ow hw 35 rfl) (ow hw 36 rfl) (OLd.cons (Or.inr (ow hw 42 rfl)) (ty := (.array .long)) (by decide) rfl (OLd.cons (Or.inr (ow hw 65 rfl)) (ty := (.object kB)) (by decide) rfl OLd.nil)) (by decide +kernel) (hb hby de1_8) (pc' := 11) rfl (by decide) (by decide) ?_
  clear P; intro T h1 b1 P K1 hb_b1 F_b1
  have sz_b1 := Nat.le_trans hz_b1 hb_b1
  clear hz_b1
  have ne_p0_b1 := F_p0.nb hb_b1
  have ne_p1_b1 := A_p1.nb hb_b1
  replace F_p0 := F_p0.keep K1 nin0
  replace A_p1 := A_p1.keep K1 nin0
  clear K1
  refine o_dup P (hb hby de1_11) rfl (pc' := 12) rfl ?_
  refine o_aloadN P (hb hby de1_12) rfl rfl (pc' := 13) rfl ?_
  refine o_getF P (ow hw 13 rfl) Via.refl (F_p0.fld 0 rfl) (hb hby de1_13) (pc' := 16) rfl ?_
  clear P; intro T P
  refine o_aloadN P (hb hby de1_16) rfl rfl (pc' := 17) rfl ?_
  refine o_getF P (ow hw 25 rfl) Via.refl (F_p0.fld 1 rfl) (hb hby de1_17) (pc' := 20) rfl ?_
  clear P; intro T P
  have hn_2 := P.n0le; have hk_2 := P.keep0.1
  refine o_callI P (W := 2) (a := b1) rfl (ow hw 37 rfl) (ow hw 38 rfl) (ow hw 36 rfl) (ow hw 39 rfl) (by decide) (ct_e20 l Z a0 hw EL n0 b1 p1 vx vy od oz hg h1 F_b1 A_p1 (Ne.symm ne_p1_b1)) (o_sfS (List.Mem.head _) o_sf0) (by rw [hml]; rfl) (by decide) (by decide) (argsL := [(.ref p1), (.int 13)]) (rest := [(.ref b1), (.ref p0)]) (lenOf pd_3 rfl) rfl rfl (Nat.le_of_eq rfl) (hb hby de1_20) (pc' := 23) rfl (by decide) (by decide) ?_
  clear P; intro T h3 v3 P K3 q3
  obtain ⟨n0_2, n1_2, rfl, g_n0_2, g_n1_2, ne_n0_2_n1_2, Q_b1, Q_n0_2, Q_n1_2, -⟩ := q3
  have ne_p0_n0_2 := F_p0.nb g_n0_2
  have ne_b1_n0_2 := F_b1.nb g_n0_2
  have ne_p1_n0_2 := A_p1.nb g_n0_2
  have sz_n0_2 := Nat.le_trans hk_2 g_n0_2
  have ne_p0_n1_2 := F_p0.nb g_n1_2
  have ne_b1_n1_2 := F_b1.nb g_n1_2
  have ne_p1_n1_2 := A_p1.nb g_n1_2
  have sz_n1_2 := Nat.le_trans hk_2 g_n1_2
  replace F_p0 := F_p0.keep K3 (ninS ne_p0_b1 nin0)
  replace A_p1 := A_p1.keep K3 (ninS ne_p1_b1 nin0)
  clear F_b1
  have F_b1 := Q_b1; clear Q_b1
  have F_n0_2 := Q_n0_2; clear Q_n0_2
  have A_n1_2 := Q_n1_2; clear Q_n1_2
  replace P := P.moreO F_n0_2.exa (by decide) (by decide) (Nat.le_trans hn_2 g_n0_2) sz_n0_2
  replace P := P.moreA A_n1_2 (fun q => by cases q) (Nat.le_trans hn_2 g_n1_2) sz_n1_2
  clear K3 hn_2 hk_2
  show OG p e below m _ T 23 _ [(.ref b1), (.ref p0)]
  refine o_putF P (v' := (.ref b1)) (ty := (.object kS)) (ow hw 27 rfl) Via.refl (F_p0.fld 2 rfl) F_p0.exa (Or.inl (ow hw 28 rfl)) (ow hw 4 rfl) (by decide) rfl rfl (List.Mem.tail _ (List.Mem.tail _ (List.Mem.tail _ (List.Mem.head _)))) (hb hby de1_23) (pc' := 26) rfl ?_
  clear P; intro T h4 P W4
  replace F_b1 := F_b1.oth W4 (Ne.symm ne_p0_b1)
  replace F_n0_2 := F_n0_2.oth W4 (Ne.symm ne_p0_n0_2)
  replace A_p1 := A_p1.oth W4 (Ne.symm ne_p0_p1)
  replace A_n1_2 := A_n1_2.oth W4 (Ne.symm ne_p0_n1_2)
  replace F_p0 : OObj Z h4 p0 kK [(kK, "keys", "[J", (.ref p1)), (kK, "size", "I", (.int 13)), (kK, "selection", kSd, (.ref b1))] := F_p0.put 2 rfl W4
  clear W4
  refine o_aloadN P (hb hby de1_26) rfl rfl (pc' := 27) rfl ?_
  refine o_getS P (ow hw 87 rfl) Via.refl hg.2.1 (hb hby de1_27) (pc' := 30) rfl ?_
  clear P; intro T P
  refine o_acmp P true (hb hby de1_30) rfl rfl (decide_eq_true rfl) (by decide) (pc' := 33) rfl ?_
  refine o_iloadN P (hb hby de1_33) rfl (pc' := 34) rfl ?_
  refine o_iconst P (1 : Int32) (hb hby de1_34) rfl (pc' := 35) rfl ?_
  refine o_isub P (hb hby de1_35) (pc' := 36) rfl ?_
  refine o_goto P (hb hby de1_36) (by decide) (pc' := 45) (by decide) ?_
  refine o_istoreN P (hb hby de1_45) (L' := #[.val (.ref p0), .val (.int x0), .val (.ref od), .val (.int (x0 - (1 : Int32)))]) rfl (pc' := 46) rfl ?_
  have hR := own_ra13 x0 hp0 hp1
  generalize hre : (x0 - (1 : Int32)) = r at hR ⊢
  by_cases hr : r = 0
  · subst hr
    refine o_aloadN P (hb hby de1_46) rfl rfl (pc' := 47) rfl ?_
    refine o_getF P (ow hw 27 rfl) Via.refl (F_p0.fld 2 rfl) (hb hby de1_47) (pc' := 50) rfl ?_
    clear P; intro T P
    refine o_iloadN P (hb hby de1_50) rfl (pc' := 51) rfl ?_
    have hn_5 := P.n0le; have hk_5 := P.keep0.1
    refine o_callV P (W := 0) (a := b1) (ow hw 88 rfl) (ow hw 89 rfl) (o_nfSl (ow hw 91 rfl)) (ow hw 91 rfl) (ow hw 90 rfl) (ow hw 36 rfl) (ow hw 92 rfl) (by decide) F_b1.exa (ct_e54 l Z a0 hw EL n0 b1 p1 n0_2 n1_2 vx vy od oz hg h4 F_b1 A_p1 F_n0_2 A_n1_2 (Ne.symm ne_p1_b1) ne_b1_n0_2 ne_b1_n1_2 ne_p1_n0_2 ne_p1_n1_2 ne_n0_2_n1_2) (o_sfS (List.Mem.tail _ (List.Mem.tail _ (List.Mem.tail _ (List.Mem.tail _ (List.Mem.head _))))) (o_sfS (List.Mem.head _) o_sf0)) (by rw [hml]; rfl) (by decide) (by decide) (argsL := [(.int 0)]) (rest := []) (lenOf pd_11 rfl) rfl rfl (Nat.le_of_eq rfl) (hb hby de1_51) (pc' := 54) rfl (by decide) (by decide) ?_
    clear P; intro T h6 v6 P K6 q6
    obtain ⟨rfl, Q_p1, Q_n1_2, -⟩ := q6
    replace F_p0 := F_p0.keep K6 (ninS ne_p0_p1 (ninS ne_p0_n1_2 nin0))
    replace F_b1 := F_b1.keep K6 (ninS (Ne.symm ne_p1_b1) (ninS ne_b1_n1_2 nin0))
    replace F_n0_2 := F_n0_2.keep K6 (ninS (Ne.symm ne_p1_n0_2) (ninS ne_n0_2_n1_2 nin0))
    clear A_p1
    have A_p1 := Q_p1; clear Q_p1
    clear A_n1_2
    have A_n1_2 := Q_n1_2; clear Q_n1_2
    clear K6 hn_5 hk_5
    show OG p e below m _ T 54 _ [(.long (og [vx, vy, vy, vx, vy, vy, vx, vy, vx, vy, vy, vx, vy] 0))]
    exact o_retL P hret (hb hby de1_54) (by decide) (by decide) rfl
  · have hr1' := own_pos r hR.1 hr
    refine o_aloadN P (hb hby de1_46) rfl rfl (pc' := 47) rfl ?_
    refine o_getF P (ow hw 27 rfl) Via.refl (F_p0.fld 2 rfl) (hb hby de1_47) (pc' := 50) rfl ?_
    clear P; intro T P
    refine o_iloadN P (hb hby de1_50) rfl (pc' := 51) rfl ?_
    have hn_5 := P.n0le; have hk_5 := P.keep0.1
    refine o_callV P (W := 0) (a := b1) (ow hw 88 rfl) (ow hw 89 rfl) (o_nfSl (ow hw 91 rfl)) (ow hw 91 rfl) (ow hw 90 rfl) (ow hw 36 rfl) (ow hw 92 rfl) (by decide) F_b1.exa (ct_e59 l Z a0 hw EL n0 b1 p1 n0_2 n1_2 r vx vy od oz hg hr1' hR.2 h4 F_b1 A_p1 F_n0_2 A_n1_2 (Ne.symm ne_p1_b1) ne_b1_n0_2 ne_b1_n1_2 ne_p1_n0_2 ne_p1_n1_2 ne_n0_2_n1_2) (o_sfS (List.Mem.tail _ (List.Mem.tail _ (List.Mem.tail _ (List.Mem.tail _ (List.Mem.head _))))) (o_sfS (List.Mem.head _) o_sf0)) (by rw [hml]; rfl) (by decide) (by decide) (argsL := [(.int r)]) (rest := []) (lenOf pd_11 rfl) rfl rfl (Nat.le_of_eq rfl) (hb hby de1_51) (pc' := 54) rfl (by decide) (by decide) ?_
    clear P; intro T h6 v6 P K6 q6
    obtain ⟨rfl, Q_p1, Q_n1_2, -⟩ := q6
    replace F_p0 := F_p0.keep K6 (ninS ne_p0_p1 (ninS ne_p0_n1_2 nin0))
    replace F_b1 := F_b1.keep K6 (ninS (Ne.symm ne_p1_b1) (ninS ne_b1_n1_2 nin0))
    replace F_n0_2 := F_n0_2.keep K6 (ninS (Ne.symm ne_p1_n0_2) (ninS ne_n0_2_n1_2 nin0))
    clear A_p1
    have A_p1 := Q_p1; clear Q_p1
    clear A_n1_2
    have A_n1_2 := Q_n1_2; clear Q_n1_2
    clear K6 hn_5 hk_5
    show OG p e below m _ T 54 _ [(.long (og [vx, vy, vy, vx, vy, vy, vx, vy, vx, vy, vy, vx, vy] r.toNatClampNeg))]
    exact o_retL P hret (hb hby de1_54) (by decide) (by decide) rfl
theorem ef_at13oz (x0 : Addr) (x1 : Int32) (x2 : Addr) (m : MethodId) : entryFrame m #[(.ref x0), (.int x1), (.ref x2)] 4 = mkF m 0 #[.val (.ref x0), .val (.int x1), .val (.ref x2), .unset] [] := by first | (simp [entryFrame, mkF, argsToLocals, o_catR, o_catN, o_catI, o_catJ, o_catD]; done) | rfl
theorem ct_at13oz (l : Launch) (Z : State) (a0 : Array Value) (hw : OHw Z a0) (EL : List (String × Nat)) (n0 : Nat) (p0 p1 : Addr) (x0 : Int32) (vx vy : Int64) (od oz : Addr) (hg : OGp Z od oz) (hp0 : 1 ≤ x0.toInt) (hp1 : x0.toInt ≤ 13) (h0 : Heap) (F_p0 : OObj Z h0 p0 kK [(kK, "keys", "[J", (.ref p1)), (kK, "size", "I", (.int 13)), (kK, "selection", kSd, .null)]) (A_p1 : OArr Z h0 p1 .long [(.long vx), (.long vy), (.long vy), (.long vx), (.long vy), (.long vy), (.long vx), (.long vy), (.long vx), (.long vy), (.long vy), (.long vx), (.long vy), (.long 0), (.long 0), (.long 0)]) (ne_p0_p1 : p0 ≠ p1) :
    OCt l Z a0 EL n0 (⟨kK, "at", "(ILcom/example/centile/centile/function/Order;)J"⟩ : MethodName) prog_11_method_6_code 4 (some .long) ({ frames := 6, cells := 3, slots := 6, locals := 122 } : Room) [] #[(.ref p0), (.int x0), (.ref oz)] h0 [p0, p1] (fun w vm h => w = some (.long (og [vx, vy, vy, vx, vy, vy, vx, vy, vx, vy, vy, vx, vy] (((13 : Int32) - x0)).toNatClampNeg))) := by
  refine OCt.body (plainFor_of_name pn_e6) (ef_at13oz p0 x0 oz) ?_
  intro p e s m below meth c T hby hml hret hnm hsh P
  refine o_aloadN P (hb hby de1_0) rfl rfl (pc' := 1) rfl ?_
  refine o_getF P (ow hw 27 rfl) Via.refl (F_p0.fld 2 rfl) (hb hby de1_1) (pc' := 4) rfl ?_
  clear P; intro T P
  refine o_ifnonnullN P (hb hby de1_4) (pc' := 7) rfl ?_
  refine o_aloadN P (hb hby de1_7) rfl rfl (pc' := 8) rfl ?_
  have hz_b1 := P.keep0.1
  refine o_new P [(kS, "values", "[J", .null), (kS, "cuts", "Ljava/util/BitSet;", .null)] (ow hw 34 rfl) (ow hw 35 rfl) (ow hw 36 rfl) (OLd.cons (Or.inr (ow hw 42 rfl)) (ty := (.array .long)) (by decide) rfl (OLd.cons (Or.inr (ow hw 65 rfl)) (ty := (.object kB)) (by decide) rfl OLd.nil)) (by decide +kernel) (hb hby de1_8) (pc' := 11) rfl (by decide) (by decide) ?_
  clear P; intro T h1 b1 P K1 hb_b1 F_b1
  have sz_b1 := Nat.le_trans hz_b1 hb_b1
  clear hz_b1
  have ne_p0_b1 := F_p0.nb hb_b1
  have ne_p1_b1 := A_p1.nb hb_b1
  replace F_p0 := F_p0.keep K1 nin0
  replace A_p1 := A_p1.keep K1 nin0
  clear K1
  refine o_dup P (hb hby de1_11) rfl (pc' := 12) rfl ?_
  refine o_aloadN P (hb hby de1_12) rfl rfl (pc' := 13) rfl ?_
  refine o_getF P (ow hw 13 rfl) Via.refl (F_p0.fld 0 rfl) (hb hby de1_13) (pc' := 16) rfl ?_
  clear P; intro T P
  refine o_aloadN P (hb hby de1_16) rfl rfl (pc' := 17) rfl ?_
  refine o_getF P (ow hw 25 rfl) Via.refl (F_p0.fld 1 rfl) (hb hby de1_17) (pc' := 20) rfl ?_
  clear P; intro T P
  have hn_2 := P.n0le; have hk_2 := P.keep0.1
  refine o_callI P (W := 2) (a := b1) rfl (ow hw 37 rfl) (ow hw 38 rfl) (ow hw 36 rfl) (ow hw 39 rfl) (by decide) (ct_e20 l Z a0 hw EL n0 b1 p1 vx vy od oz hg h1 F_b1 A_p1 (Ne.symm ne_p1_b1)) (o_sfS (List.Mem.head _) o_sf0) (by rw [hml]; rfl) (by decide) (by decide) (argsL := [(.ref p1), (.int 13)]) (rest := [(.ref b1), (.ref p0)]) (lenOf pd_3 rfl) rfl rfl (Nat.le_of_eq rfl) (hb hby de1_20) (pc' := 23) rfl (by decide) (by decide) ?_
  clear P; intro T h3 v3 P K3 q3
  obtain ⟨n0_2, n1_2, rfl, g_n0_2, g_n1_2, ne_n0_2_n1_2, Q_b1, Q_n0_2, Q_n1_2, -⟩ := q3
  have ne_p0_n0_2 := F_p0.nb g_n0_2
  have ne_b1_n0_2 := F_b1.nb g_n0_2
  have ne_p1_n0_2 := A_p1.nb g_n0_2
  have sz_n0_2 := Nat.le_trans hk_2 g_n0_2
  have ne_p0_n1_2 := F_p0.nb g_n1_2
  have ne_b1_n1_2 := F_b1.nb g_n1_2
  have ne_p1_n1_2 := A_p1.nb g_n1_2
  have sz_n1_2 := Nat.le_trans hk_2 g_n1_2
  replace F_p0 := F_p0.keep K3 (ninS ne_p0_b1 nin0)
  replace A_p1 := A_p1.keep K3 (ninS ne_p1_b1 nin0)
  clear F_b1
  have F_b1 := Q_b1; clear Q_b1
  have F_n0_2 := Q_n0_2; clear Q_n0_2
  have A_n1_2 := Q_n1_2; clear Q_n1_2
  replace P := P.moreO F_n0_2.exa (by decide) (by decide) (Nat.le_trans hn_2 g_n0_2) sz_n0_2
  replace P := P.moreA A_n1_2 (fun q => by cases q) (Nat.le_trans hn_2 g_n1_2) sz_n1_2
  clear K3 hn_2 hk_2
  show OG p e below m _ T 23 _ [(.ref b1), (.ref p0)]
  refine o_putF P (v' := (.ref b1)) (ty := (.object kS)) (ow hw 27 rfl) Via.refl (F_p0.fld 2 rfl) F_p0.exa (Or.inl (ow hw 28 rfl)) (ow hw 4 rfl) (by decide) rfl rfl (List.Mem.tail _ (List.Mem.tail _ (List.Mem.tail _ (List.Mem.head _)))) (hb hby de1_23) (pc' := 26) rfl ?_
  clear P; intro T h4 P W4
  replace F_b1 := F_b1.oth W4 (Ne.symm ne_p0_b1)
  replace F_n0_2 := F_n0_2.oth W4 (Ne.symm ne_p0_n0_2)
  replace A_p1 := A_p1.oth W4 (Ne.symm ne_p0_p1)
  replace A_n1_2 := A_n1_2.oth W4 (Ne.symm ne_p0_n1_2)
  replace F_p0 : OObj Z h4 p0 kK [(kK, "keys", "[J", (.ref p1)), (kK, "size", "I", (.int 13)), (kK, "selection", kSd, (.ref b1))] := F_p0.put 2 rfl W4
  clear W4
  refine o_aloadN P (hb hby de1_26) rfl rfl (pc' := 27) rfl ?_
  refine o_getS P (ow hw 87 rfl) Via.refl hg.2.1 (hb hby de1_27) (pc' := 30) rfl ?_
  clear P; intro T P
  refine o_acmp P false (hb hby de1_30) rfl rfl (decide_eq_false fun q => hg.2.2.2 (Value.ref.inj q)) (by decide) (pc' := 39) rfl ?_
  refine o_aloadN P (hb hby de1_39) rfl rfl (pc' := 40) rfl ?_
  refine o_getF P (ow hw 25 rfl) Via.refl (F_p0.fld 1 rfl) (hb hby de1_40) (pc' := 43) rfl ?_
  clear P; intro T P
  refine o_iloadN P (hb hby de1_43) rfl (pc' := 44) rfl ?_
  refine o_isub P (hb hby de1_44) (pc' := 45) rfl ?_
  refine o_istoreN P (hb hby de1_45) (L' := #[.val (.ref p0), .val (.int x0), .val (.ref oz), .val (.int ((13 : Int32) - x0))]) rfl (pc' := 46) rfl ?_
  have hR := own_rz13 x0 hp0 hp1
  generalize hre : ((13 : Int32) - x0) = r at hR ⊢
  by_cases hr : r = 0
  · subst hr
    refine o_aloadN P (hb hby de1_46) rfl rfl (pc' := 47) rfl ?_
    refine o_getF P (ow hw 27 rfl) Via.refl (F_p0.fld 2 rfl) (hb hby de1_47) (pc' := 50) rfl ?_
    clear P; intro T P
    refine o_iloadN P (hb hby de1_50) rfl (pc' := 51) rfl ?_
    have hn_5 := P.n0le; have hk_5 := P.keep0.1
    refine o_callV P (W := 0) (a := b1) (ow hw 88 rfl) (ow hw 89 rfl) (o_nfSl (ow hw 91 rfl)) (ow hw 91 rfl) (ow hw 90 rfl) (ow hw 36 rfl) (ow hw 92 rfl) (by decide) F_b1.exa (ct_e54 l Z a0 hw EL n0 b1 p1 n0_2 n1_2 vx vy od oz hg h4 F_b1 A_p1 F_n0_2 A_n1_2 (Ne.symm ne_p1_b1) ne_b1_n0_2 ne_b1_n1_2 ne_p1_n0_2 ne_p1_n1_2 ne_n0_2_n1_2) (o_sfS (List.Mem.tail _ (List.Mem.tail _ (List.Mem.tail _ (List.Mem.tail _ (List.Mem.head _))))) (o_sfS (List.Mem.head _) o_sf0)) (by rw [hml]; rfl) (by decide) (by decide) (argsL := [(.int 0)]) (rest := []) (lenOf pd_11 rfl) rfl rfl (Nat.le_of_eq rfl) (hb hby de1_51) (pc' := 54) rfl (by decide) (by decide) ?_
    clear P; intro T h6 v6 P K6 q6
    obtain ⟨rfl, Q_p1, Q_n1_2, -⟩ := q6
    replace F_p0 := F_p0.keep K6 (ninS ne_p0_p1 (ninS ne_p0_n1_2 nin0))
    replace F_b1 := F_b1.keep K6 (ninS (Ne.symm ne_p1_b1) (ninS ne_b1_n1_2 nin0))
    replace F_n0_2 := F_n0_2.keep K6 (ninS (Ne.symm ne_p1_n0_2) (ninS ne_n0_2_n1_2 nin0))
    clear A_p1
    have A_p1 := Q_p1; clear Q_p1
    clear A_n1_2
    have A_n1_2 := Q_n1_2; clear Q_n1_2
    clear K6 hn_5 hk_5
    show OG p e below m _ T 54 _ [(.long (og [vx, vy, vy, vx, vy, vy, vx, vy, vx, vy, vy, vx, vy] 0))]
    exact o_retL P hret (hb hby de1_54) (by decide) (by decide) rfl
  · have hr1' := own_pos r hR.1 hr
    refine o_aloadN P (hb hby de1_46) rfl rfl (pc' := 47) rfl ?_
    refine o_getF P (ow hw 27 rfl) Via.refl (F_p0.fld 2 rfl) (hb hby de1_47) (pc' := 50) rfl ?_
    clear P; intro T P
    refine o_iloadN P (hb hby de1_50) rfl (pc' := 51) rfl ?_
    have hn_5 := P.n0le; have hk_5 := P.keep0.1
    refine o_callV P (W := 0) (a := b1) (ow hw 88 rfl) (ow hw 89 rfl) (o_nfSl (ow hw 91 rfl)) (ow hw 91 rfl) (ow hw 90 rfl) (ow hw 36 rfl) (ow hw 92 rfl) (by decide) F_b1.exa (ct_e59 l Z a0 hw EL n0 b1 p1 n0_2 n1_2 r vx vy od oz hg hr1' hR.2 h4 F_b1 A_p1 F_n0_2 A_n1_2 (Ne.symm ne_p1_b1) ne_b1_n0_2 ne_b1_n1_2 ne_p1_n0_2 ne_p1_n1_2 ne_n0_2_n1_2) (o_sfS (List.Mem.tail _ (List.Mem.tail _ (List.Mem.tail _ (List.Mem.tail _ (List.Mem.head _))))) (o_sfS (List.Mem.head _) o_sf0)) (by rw [hml]; rfl) (by decide) (by decide) (argsL := [(.int r)]) (rest := []) (lenOf pd_11 rfl) rfl rfl (Nat.le_of_eq rfl) (hb hby de1_51) (pc' := 54) rfl (by decide) (by decide) ?_
    clear P; intro T h6 v6 P K6 q6
    obtain ⟨rfl, Q_p1, Q_n1_2, -⟩ := q6
    replace F_p0 := F_p0.keep K6 (ninS ne_p0_p1 (ninS ne_p0_n1_2 nin0))
    replace F_b1 := F_b1.keep K6 (ninS (Ne.symm ne_p1_b1) (ninS ne_b1_n1_2 nin0))
    replace F_n0_2 := F_n0_2.keep K6 (ninS (Ne.symm ne_p1_n0_2) (ninS ne_n0_2_n1_2 nin0))
    clear A_p1
    have A_p1 := Q_p1; clear Q_p1
    clear A_n1_2
    have A_n1_2 := Q_n1_2; clear Q_n1_2
    clear K6 hn_5 hk_5
    show OG p e below m _ T 54 _ [(.long (og [vx, vy, vy, vx, vy, vy, vx, vy, vx, vy, vy, vx, vy] r.toNatClampNeg))]
    exact o_retL P hret (hb hby de1_54) (by decide) (by decide) rfl
theorem ef_at5od (x0 : Addr) (x1 : Int32) (x2 : Addr) (m : MethodId) : entryFrame m #[(.ref x0), (.int x1), (.ref x2)] 4 = mkF m 0 #[.val (.ref x0), .val (.int x1), .val (.ref x2), .unset] [] := by first | (simp [entryFrame, mkF, argsToLocals, o_catR, o_catN, o_catI, o_catJ, o_catD]; done) | rfl
theorem ef_ct_e60 (x0 : Int32) (m : MethodId) : entryFrame m #[(.int x0)] 1 = mkF m 0 #[.val (.int x0)] [] := by first | (simp [entryFrame, mkF, argsToLocals, o_catR, o_catN, o_catI, o_catJ, o_catD]; done) | rfl
theorem ct_e60 (l : Launch) (Z : State) (a0 : Array Value) (hw : OHw Z a0) (EL : List (String × Nat)) (n0 : Nat)   (od oz : Addr) (hg : OGp Z od oz) (h0 : Heap)   :
    OCt l Z a0 EL n0 (⟨kB, "wordIndex", "(I)I"⟩ : MethodName) jdk_92_method_1_code 1 (some .int) ({ frames := 0, cells := 0, slots := 0, locals := 0 } : Room) [] #[(.int 5)] h0 [] (fun w vm h => w = some (.int 0) ∧ h = h0) := by
  refine OCt.body (plainFor_of_name pn_e0) (ef_ct_e60 ((5 : Int32))) ?_
  intro p e s m below meth c T hby hml hret hnm hsh P
  refine o_iloadN P (hb hby dwi_0) rfl (pc' := 1) rfl ?_
  refine o_bipush P (6 : Int32) (hb hby dwi_1) rfl (pc' := 3) rfl ?_
  refine o_ishr P (hb hby dwi_3) (pc' := 4) rfl ?_
  show OG p e below m _ T 4 _ [(.int 0)]
  exact o_retI P hret (by simp) rfl (hb hby dwi_4) (by decide) (by decide) ⟨rfl, rfl⟩
theorem ef_ct_e61 (x0 : Addr) (x1 : Int32) (m : MethodId) : entryFrame m #[(.ref x0), (.int x1)] 2 = mkF m 0 #[.val (.ref x0), .val (.int x1)] [] := by first | (simp [entryFrame, mkF, argsToLocals, o_catR, o_catN, o_catI, o_catJ, o_catD]; done) | rfl
theorem ct_e61 (l : Launch) (Z : State) (a0 : Array Value) (hw : OHw Z a0) (EL : List (String × Nat)) (n0 : Nat) (p0 : Addr)  (od oz : Addr) (hg : OGp Z od oz) (h0 : Heap) (F_p0 : OObj Z h0 p0 kB [(kB, "wordsInUse", "I", (.int 0)), (kB, "sizeIsSticky", "Z", (.int 0)), (kB, "words", "[J", .null)])  :
    OCt l Z a0 EL n0 (⟨kB, "initWords", "(I)V"⟩ : MethodName) jdk_92_method_6_code 2 none ({ frames := 1, cells := 1, slots := 1, locals := 13 } : Room) [] #[(.ref p0), (.int 6)] h0 [p0] (fun w vm h => ∃ n0 : Addr, w = none ∧ h0.size ≤ n0 ∧ OObj Z h p0 kB [(kB, "wordsInUse", "I", (.int 0)), (kB, "sizeIsSticky", "Z", (.int 0)), (kB, "words", "[J", (.ref n0))] ∧ OArr Z h n0 .long [(.long 0)] ∧ True) := by
  refine OCt.body (plainFor_of_name pn_e0) (ef_ct_e61 p0 ((6 : Int32))) ?_
  intro p e s m below meth c T hby hml hret hnm hsh P
  refine o_aloadN P (hb hby de4_0) rfl rfl (pc' := 1) rfl ?_
  refine o_iloadN P (hb hby de4_1) rfl (pc' := 2) rfl ?_
  refine o_iconst P (1 : Int32) (hb hby de4_2) rfl (pc' := 3) rfl ?_
  refine o_isub P (hb hby de4_3) (pc' := 4) rfl ?_
  show OG p e below m _ T 4 _ [(.int 5), (.ref p0)]
  refine o_callS P (W := 1) (ow hw 59 rfl) (ow hw 60 rfl) (ow hw 45 rfl) (ow hw 61 rfl) (by decide) (ct_e60 l Z a0 hw EL n0   od oz hg h0  ) o_sf0 (by rw [hml]; rfl) (by decide) (by decide) (argsL := [(.int 5)]) (rest := [(.ref p0)]) (lenOf pd_0 rfl) rfl rfl (Nat.le_of_eq rfl) (hb hby de4_4) (pc' := 7) rfl (by decide) (by decide) ?_
  clear P; intro T h2 v2 P K2 q2
  obtain ⟨rfl, rfl⟩ := q2; clear K2
  show OG p e below m _ T 7 _ [(.int 0), (.ref p0)]
  refine o_iconst P (1 : Int32) (hb hby de4_7) rfl (pc' := 8) rfl ?_
  refine o_iadd P (hb hby de4_8) (pc' := 9) rfl ?_
  show OG p e below m _ T 9 _ [(.int 1), (.ref p0)]
  have hz_b3 := P.keep0.1
  refine o_newarr P (cap := 1) (ow hw 12 rfl) (hb hby de4_9) (by decide) (by decide) (by decide) (pc' := 11) rfl (by decide) (by decide) ?_
  clear P; intro T h3 b3 P K3 hb_b3 A_b3
  have sz_b3 := Nat.le_trans hz_b3 hb_b3
  clear hz_b3
  have ne_p0_b3 := F_p0.nb hb_b3
  replace F_p0 := F_p0.keep K3 nin0
  clear K3
  replace A_b3 : OArr Z h3 b3 .long [(.long 0)] := A_b3
  refine o_putF P (v' := (.ref b3)) (ty := (.array .long)) (ow hw 62 rfl) Via.refl (F_p0.fld 2 rfl) F_p0.exa (Or.inl (ow hw 63 rfl)) (ow hw 44 rfl) (by decide) rfl rfl (List.Mem.tail _ (List.Mem.head _)) (hb hby de4_11) (pc' := 14) rfl ?_
  clear P; intro T h4 P W4
  replace A_b3 := A_b3.oth W4 (Ne.symm ne_p0_b3)
  replace F_p0 : OObj Z h4 p0 kB [(kB, "wordsInUse", "I", (.int 0)), (kB, "sizeIsSticky", "Z", (.int 0)), (kB, "words", "[J", (.ref b3))] := F_p0.put 2 rfl W4
  clear W4
  exact o_ret0 P hret (hb hby de4_14) (by decide) (by decide) ⟨b3, rfl, hsh ▸ sz_b3, F_p0, A_b3, trivial⟩
theorem ef_ct_e62 (x0 : Addr) (x1 : Int32) (m : MethodId) : entryFrame m #[(.ref x0), (.int x1)] 2 = mkF m 0 #[.val (.ref x0), .val (.int x1)] [] := by first | (simp [entryFrame, mkF, argsToLocals, o_catR, o_catN, o_catI, o_catJ, o_catD]; done) | rfl
theorem ct_e62 (l : Launch) (Z : State) (a0 : Array Value) (hw : OHw Z a0) (EL : List (String × Nat)) (n0 : Nat) (p0 : Addr)  (od oz : Addr) (hg : OGp Z od oz) (h0 : Heap) (F_p0 : OObj Z h0 p0 kB [(kB, "wordsInUse", "I", (.int 0)), (kB, "sizeIsSticky", "Z", (.int 0)), (kB, "words", "[J", .null)])  :
    OCt l Z a0 EL n0 (⟨kB, "<init>", "(I)V"⟩ : MethodName) jdk_92_method_5_code 2 none ({ frames := 2, cells := 1, slots := 1, locals := 26 } : Room) [] #[(.ref p0), (.int 6)] h0 [p0] (fun w vm h => ∃ n0 : Addr, w = none ∧ h0.size ≤ n0 ∧ OObj Z h p0 kB [(kB, "wordsInUse", "I", (.int 0)), (kB, "sizeIsSticky", "Z", (.int 1)), (kB, "words", "[J", (.ref n0))] ∧ OArr Z h n0 .long [(.long 0)] ∧ True) := by
  refine OCt.body (plainFor_of_name pn_e0) (ef_ct_e62 p0 ((6 : Int32))) ?_
  intro p e s m below meth c T hby hml hret hnm hsh P
  refine o_aloadN P (hb hby de3_0) rfl rfl (pc' := 1) rfl ?_
  refine o_initO P (W := 0) (ow hw 49 rfl) (ow hw 10 rfl) (ow hw 11 rfl) (by rw [hml]; rfl) (by decide) (Nat.le_of_eq rfl) (by decide) (hb hby de3_1) (pc' := 4) rfl ?_
  clear P; intro T P
  refine o_aloadN P (hb hby de3_4) rfl rfl (pc' := 5) rfl ?_
  refine o_iconst P (0 : Int32) (hb hby de3_5) rfl (pc' := 6) rfl ?_
  refine o_putF P (v' := (.int 0)) (ty := .int) (ow hw 50 rfl) Via.refl (F_p0.fld 0 rfl) F_p0.exa (Or.inl (ow hw 51 rfl)) (ow hw 44 rfl) (by decide) rfl rfl (List.Mem.head _) (hb hby de3_6) (pc' := 9) rfl ?_
  clear P; intro T h1 P W1
  replace F_p0 : OObj Z h1 p0 kB [(kB, "wordsInUse", "I", (.int 0)), (kB, "sizeIsSticky", "Z", (.int 0)), (kB, "words", "[J", .null)] := F_p0.put 0 rfl W1
  clear W1
  refine o_aloadN P (hb hby de3_9) rfl rfl (pc' := 10) rfl ?_
  refine o_iconst P (0 : Int32) (hb hby de3_10) rfl (pc' := 11) rfl ?_
  refine o_putF P (v' := (.int 0)) (ty := .boolean) (ow hw 52 rfl) Via.refl (F_p0.fld 1 rfl) F_p0.exa (Or.inl (ow hw 53 rfl)) (ow hw 44 rfl) (by decide) rfl rfl (List.Mem.head _) (hb hby de3_11) (pc' := 14) rfl ?_
  clear P; intro T h2 P W2
  replace F_p0 : OObj Z h2 p0 kB [(kB, "wordsInUse", "I", (.int 0)), (kB, "sizeIsSticky", "Z", (.int 0)), (kB, "words", "[J", .null)] := F_p0.put 1 rfl W2
  clear W2
  refine o_iloadN P (hb hby de3_14) rfl (pc' := 15) rfl ?_
  refine o_if_ge P (hb hby de3_15) (by decide) (pc' := 45) (by decide) (pcf := 18) rfl (fun _ => ?_) (fun q => absurd q (by decide))
  refine o_aloadN P (hb hby de3_45) rfl rfl (pc' := 46) rfl ?_
  refine o_iloadN P (hb hby de3_46) rfl (pc' := 47) rfl ?_
  have hn_3 := P.n0le; have hk_3 := P.keep0.1
  refine o_callP P (W := 0) (a := p0) (ow hw 54 rfl) (ow hw 55 rfl) (ow hw 57 rfl) (ow hw 56 rfl) (ow hw 45 rfl) (ow hw 58 rfl) (by decide) F_p0.exa (ct_e61 l Z a0 hw EL n0 p0  od oz hg h2 F_p0 ) (o_sfS (List.Mem.head _) o_sf0) (by rw [hml]; rfl) (by decide) (by decide) (argsL := [(.int 6)]) (rest := []) (lenOf pd_1 rfl) rfl rfl (Nat.le_of_eq rfl) (hb hby de3_47) (pc' := 50) rfl (by decide) (by decide) ?_
  clear P; intro T h4 v4 P K4 q4
  obtain ⟨n0_3, rfl, g_n0_3, Q_p0, Q_n0_3, -⟩ := q4
  have ne_p0_n0_3 := F_p0.nb g_n0_3
  have sz_n0_3 := Nat.le_trans hk_3 g_n0_3
  clear F_p0
  have F_p0 := Q_p0; clear Q_p0
  have A_n0_3 := Q_n0_3; clear Q_n0_3
  replace P := P.moreA A_n0_3 (fun q => by cases q) (Nat.le_trans hn_3 g_n0_3) sz_n0_3
  clear K4 hn_3 hk_3
  show OG p e below m _ T 50 _ []
  refine o_aloadN P (hb hby de3_50) rfl rfl (pc' := 51) rfl ?_
  refine o_iconst P (1 : Int32) (hb hby de3_51) rfl (pc' := 52) rfl ?_
  refine o_putF P (v' := (.int 1)) (ty := .boolean) (ow hw 52 rfl) Via.refl (F_p0.fld 1 rfl) F_p0.exa (Or.inl (ow hw 53 rfl)) (ow hw 44 rfl) (by decide) rfl rfl (List.Mem.tail _ (List.Mem.head _)) (hb hby de3_52) (pc' := 55) rfl ?_
  clear P; intro T h5 P W5
  replace A_n0_3 := A_n0_3.oth W5 (Ne.symm ne_p0_n0_3)
  replace F_p0 : OObj Z h5 p0 kB [(kB, "wordsInUse", "I", (.int 0)), (kB, "sizeIsSticky", "Z", (.int 1)), (kB, "words", "[J", (.ref n0_3))] := F_p0.put 1 rfl W5
  clear W5
  exact o_ret0 P hret (hb hby de3_55) (by decide) (by decide) ⟨n0_3, rfl, hsh ▸ sz_n0_3, F_p0, A_n0_3, trivial⟩
theorem ef_ct_e63 (x0 : Addr) (m : MethodId) : entryFrame m #[(.ref x0)] 1 = mkF m 0 #[.val (.ref x0)] [] := by first | (simp [entryFrame, mkF, argsToLocals, o_catR, o_catN, o_catI, o_catJ, o_catD]; done) | rfl
theorem ct_e63 (l : Launch) (Z : State) (a0 : Array Value) (hw : OHw Z a0) (EL : List (String × Nat)) (n0 : Nat) (p0 : Addr) (p1 : Addr)  (od oz : Addr) (hg : OGp Z od oz) (h0 : Heap) (F_p0 : OObj Z h0 p0 kB [(kB, "wordsInUse", "I", (.int 1)), (kB, "sizeIsSticky", "Z", (.int 1)), (kB, "words", "[J", (.ref p1))]) (A_p1 : OArr Z h0 p1 .long [(.long 33)]) (ne_p0_p1 : p0 ≠ p1) :
    OCt l Z a0 EL n0 (⟨kB, "checkInvariants", "()V"⟩ : MethodName) jdk_92_method_2_code 1 none ({ frames := 0, cells := 0, slots := 0, locals := 0 } : Room) [] #[(.ref p0)] h0 [] (fun w vm h => w = none ∧ h = h0) := by
  refine OCt.body (plainFor_of_name pn_e0) (ef_ct_e63 p0) ?_
  intro p e s m below meth c T hby hml hret hnm hsh P
  refine o_getS P (ow hw 86 rfl) Via.refl hg.1 (hb hby de14_0) (pc' := 3) rfl ?_
  clear P; intro T P
  refine o_if_ne P (hb hby de14_3) (by decide) (pc' := 37) (by decide) (pcf := 6) rfl (fun _ => ?_) (fun q => absurd q (by decide))
  refine o_getS P (ow hw 86 rfl) Via.refl hg.1 (hb hby de14_37) (pc' := 40) rfl ?_
  clear P; intro T P
  refine o_if_ne P (hb hby de14_40) (by decide) (pc' := 70) (by decide) (pcf := 43) rfl (fun _ => ?_) (fun q => absurd q (by decide))
  refine o_getS P (ow hw 86 rfl) Via.refl hg.1 (hb hby de14_70) (pc' := 73) rfl ?_
  clear P; intro T P
  refine o_if_ne P (hb hby de14_73) (by decide) (pc' := 110) (by decide) (pcf := 76) rfl (fun _ => ?_) (fun q => absurd q (by decide))
  exact o_ret0 P hret (hb hby de14_110) (by decide) (by decide) ⟨rfl, rfl⟩
theorem ef_ct_e64 (x0 : Addr) (x1 : Int32) (m : MethodId) : entryFrame m #[(.ref x0), (.int x1)] 3 = mkF m 0 #[.val (.ref x0), .val (.int x1), .unset] [] := by first | (simp [entryFrame, mkF, argsToLocals, o_catR, o_catN, o_catI, o_catJ, o_catD]; done) | rfl
theorem ct_e64 (l : Launch) (Z : State) (a0 : Array Value) (hw : OHw Z a0) (EL : List (String × Nat)) (n0 : Nat) (p0 : Addr) (p1 : Addr)  (od oz : Addr) (hg : OGp Z od oz) (h0 : Heap) (F_p0 : OObj Z h0 p0 kB [(kB, "wordsInUse", "I", (.int 1)), (kB, "sizeIsSticky", "Z", (.int 1)), (kB, "words", "[J", (.ref p1))]) (A_p1 : OArr Z h0 p1 .long [(.long 1)]) (ne_p0_p1 : p0 ≠ p1) :
    OCt l Z a0 EL n0 (⟨kB, "set", "(I)V"⟩ : MethodName) jdk_92_method_19_code 3 none ({ frames := 1, cells := 0, slots := 0, locals := 14 } : Room) [] #[(.ref p0), (.int 5)] h0 [p1] (fun w vm h => w = none ∧ OArr Z h p1 .long [(.long 33)] ∧ True) := by
  refine OCt.body (plainFor_of_name pn_e0) (ef_ct_e64 p0 ((5 : Int32))) ?_
  intro p e s m below meth c T hby hml hret hnm hsh P
  refine o_iloadN P (hb hby de8_0) rfl (pc' := 1) rfl ?_
  refine o_if_ge P (hb hby de8_1) (by decide) (pc' := 31) (by decide) (pcf := 4) rfl (fun _ => ?_) (fun q => absurd q (by decide))
  refine o_iloadN P (hb hby de8_31) rfl (pc' := 32) rfl ?_
  refine o_callS P (W := 0) (ow hw 59 rfl) (ow hw 60 rfl) (ow hw 45 rfl) (ow hw 61 rfl) (by decide) (ct_e60 l Z a0 hw EL n0   od oz hg h0  ) o_sf0 (by rw [hml]; rfl) (by decide) (by decide) (argsL := [(.int 5)]) (rest := []) (lenOf pd_0 rfl) rfl rfl (Nat.le_of_eq rfl) (hb hby de8_32) (pc' := 35) rfl (by decide) (by decide) ?_
  clear P; intro T h2 v2 P K2 q2
  obtain ⟨rfl, rfl⟩ := q2; clear K2
  show OG p e below m _ T 35 _ [(.int 0)]
  refine o_istoreN P (hb hby de8_35) (L' := #[.val (.ref p0), .val (.int 5), .val (.int 0)]) rfl (pc' := 36) rfl ?_
  refine o_aloadN P (hb hby de8_36) rfl rfl (pc' := 37) rfl ?_
  refine o_iloadN P (hb hby de8_37) rfl (pc' := 38) rfl ?_
  refine o_callP P (W := 0) (a := p0) (ow hw 71 rfl) (ow hw 72 rfl) (ow hw 74 rfl) (ow hw 73 rfl) (ow hw 45 rfl) (ow hw 75 rfl) (by decide) F_p0.exa (ct_e17 l Z a0 hw EL n0 p0 p1  od oz hg h2 F_p0 A_p1 ne_p0_p1) o_sf0 (by rw [hml]; rfl) (by decide) (by decide) (argsL := [(.int 0)]) (rest := []) (lenOf pd_1 rfl) rfl rfl (Nat.le_of_eq rfl) (hb hby de8_38) (pc' := 41) rfl (by decide) (by decide) ?_
  clear P; intro T h4 v4 P K4 q4
  obtain ⟨rfl, rfl⟩ := q4; clear K4
  show OG p e below m _ T 41 _ []
  refine o_aloadN P (hb hby de8_41) rfl rfl (pc' := 42) rfl ?_
  refine o_getF P (ow hw 62 rfl) Via.refl (F_p0.fld 2 rfl) (hb hby de8_42) (pc' := 45) rfl ?_
  clear P; intro T P
  refine o_iloadN P (hb hby de8_45) rfl (pc' := 46) rfl ?_
  refine o_dup2 P (hb hby de8_46) rfl rfl (pc' := 47) rfl ?_
  refine o_laload P (v := (.long 1)) A_p1 (by decide) rfl (hb hby de8_47) (pc' := 48) rfl ?_
  refine o_lconst P (1 : Int64) (hb hby de8_48) rfl (pc' := 49) rfl ?_
  refine o_iloadN P (hb hby de8_49) rfl (pc' := 50) rfl ?_
  refine o_lshl P (hb hby de8_50) (pc' := 51) rfl ?_
  show OG p e below m _ T 51 _ [(.long 32), (.long 1), (.int 0), (.ref p1)]
  refine o_lor P (hb hby de8_51) (pc' := 52) rfl ?_
  show OG p e below m _ T 52 _ [(.long 33), (.int 0), (.ref p1)]
  refine o_lastore P (v := (.long 33)) A_p1 (List.Mem.head _) (by decide) (of_decide_eq_true rfl) rfl (hb hby de8_52) (pc' := 53) rfl ?_
  clear P; clear A_p1; intro T h5 P W5 A_p1
  replace F_p0 := F_p0.oth W5 ne_p0_p1
  clear W5
  replace A_p1 : OArr Z h5 p1 .long [(.long 33)] := A_p1
  refine o_aloadN P (hb hby de8_53) rfl rfl (pc' := 54) rfl ?_
  refine o_callP P (W := 0) (a := p0) (ow hw 81 rfl) (ow hw 82 rfl) (ow hw 84 rfl) (ow hw 83 rfl) (ow hw 45 rfl) (ow hw 85 rfl) (by decide) F_p0.exa (ct_e63 l Z a0 hw EL n0 p0 p1  od oz hg h5 F_p0 A_p1 ne_p0_p1) o_sf0 (by rw [hml]; rfl) (by decide) (by decide) (argsL := []) (rest := []) (lenOf pd_2 rfl) rfl rfl (Nat.le_of_eq rfl) (hb hby de8_54) (pc' := 57) rfl (by decide) (by decide) ?_
  clear P; intro T h7 v7 P K7 q7
  obtain ⟨rfl, rfl⟩ := q7; clear K7
  show OG p e below m _ T 57 _ []
  exact o_ret0 P hret (hb hby de8_57) (by decide) (by decide) ⟨rfl, A_p1, trivial⟩
theorem ef_ct_e65 (x0 : Addr) (x1 : Addr) (x2 : Int32) (m : MethodId) : entryFrame m #[(.ref x0), (.ref x1), (.int x2)] 3 = mkF m 0 #[.val (.ref x0), .val (.ref x1), .val (.int x2)] [] := by first | (simp [entryFrame, mkF, argsToLocals, o_catR, o_catN, o_catI, o_catJ, o_catD]; done) | rfl
theorem ct_e65 (l : Launch) (Z : State) (a0 : Array Value) (hw : OHw Z a0) (EL : List (String × Nat)) (n0 : Nat) (p0 : Addr) (p1 : Addr) (x0 : Int64) (od oz : Addr) (hg : OGp Z od oz) (h0 : Heap) (F_p0 : OObj Z h0 p0 kS [(kS, "values", "[J", .null), (kS, "cuts", "Ljava/util/BitSet;", .null)]) (A_p1 : OArr Z h0 p1 .long [(.long x0), (.long x0), (.long x0), (.long x0), (.long x0), (.long 0), (.long 0), (.long 0), (.long 0), (.long 0), (.long 0), (.long 0), (.long 0), (.long 0), (.long 0), (.long 0)]) (ne_p0_p1 : p0 ≠ p1) :
    OCt l Z a0 EL n0 (⟨kS, "<init>", "([JI)V"⟩ : MethodName) prog_15_method_1_code 3 none ({ frames := 3, cells := 2, slots := 4, locals := 42 } : Room) [] #[(.ref p0), (.ref p1), (.int 5)] h0 [p0] (fun w vm h => ∃ n0 n1 : Addr, w = none ∧ h0.size ≤ n0 ∧ h0.size ≤ n1 ∧ n0 ≠ n1 ∧ OObj Z h p0 kS [(kS, "values", "[J", (.ref p1)), (kS, "cuts", "Ljava/util/BitSet;", (.ref n0))] ∧ OObj Z h n0 kB [(kB, "wordsInUse", "I", (.int 1)), (kB, "sizeIsSticky", "Z", (.int 1)), (kB, "words", "[J", (.ref n1))] ∧ OArr Z h n1 .long [(.long 33)] ∧ True) := by
  refine OCt.body (plainFor_of_name pn_e1) (ef_ct_e65 p0 p1 ((5 : Int32))) ?_
  intro p e s m below meth c T hby hml hret hnm hsh P
  refine o_aloadN P (hb hby de2_0) rfl rfl (pc' := 1) rfl ?_
  refine o_initO P (W := 0) (ow hw 40 rfl) (ow hw 10 rfl) (ow hw 11 rfl) (by rw [hml]; rfl) (by decide) (Nat.le_of_eq rfl) (by decide) (hb hby de2_1) (pc' := 4) rfl ?_
  clear P; intro T P
  refine o_aloadN P (hb hby de2_4) rfl rfl (pc' := 5) rfl ?_
  refine o_aloadN P (hb hby de2_5) rfl rfl (pc' := 6) rfl ?_
  refine o_putF P (v' := (.ref p1)) (ty := (.array .long)) (ow hw 41 rfl) Via.refl (F_p0.fld 0 rfl) F_p0.exa (Or.inr ⟨(ow hw 42 rfl), rfl, hnm⟩) (ow hw 35 rfl) (by decide) rfl rfl (List.Mem.head _) (hb hby de2_6) (pc' := 9) rfl ?_
  clear P; intro T h1 P W1
  replace A_p1 := A_p1.oth W1 (Ne.symm ne_p0_p1)
  replace F_p0 : OObj Z h1 p0 kS [(kS, "values", "[J", (.ref p1)), (kS, "cuts", "Ljava/util/BitSet;", .null)] := F_p0.put 0 rfl W1
  clear W1
  refine o_aloadN P (hb hby de2_9) rfl rfl (pc' := 10) rfl ?_
  have hz_b2 := P.keep0.1
  refine o_new P [(kB, "wordsInUse", "I", (.int 0)), (kB, "sizeIsSticky", "Z", (.int 0)), (kB, "words", "[J", .null)] (ow hw 43 rfl) (ow hw 44 rfl) (ow hw 45 rfl) (OLd.cons (Or.inl (ow hw 51 rfl)) (ty := .int) (by decide) rfl (OLd.cons (Or.inl (ow hw 53 rfl)) (ty := .boolean) (by decide) rfl (OLd.cons (Or.inl (ow hw 63 rfl)) (ty := (.array .long)) (by decide) rfl OLd.nil))) (by decide +kernel) (hb hby de2_10) (pc' := 13) rfl (by decide) (by decide) ?_
  clear P; intro T h2 b2 P K2 hb_b2 F_b2
  have sz_b2 := Nat.le_trans hz_b2 hb_b2
  clear hz_b2
  have ne_p0_b2 := F_p0.nb hb_b2
  have ne_p1_b2 := A_p1.nb hb_b2
  replace F_p0 := F_p0.keep K2 nin0
  replace A_p1 := A_p1.keep K2 nin0
  clear K2
  refine o_dup P (hb hby de2_13) rfl (pc' := 14) rfl ?_
  refine o_iloadN P (hb hby de2_14) rfl (pc' := 15) rfl ?_
  refine o_iconst P (1 : Int32) (hb hby de2_15) rfl (pc' := 16) rfl ?_
  refine o_iadd P (hb hby de2_16) (pc' := 17) rfl ?_
  show OG p e below m _ T 17 _ [(.int 6), (.ref b2), (.ref b2), (.ref p0)]
  have hn_3 := P.n0le; have hk_3 := P.keep0.1
  refine o_callI P (W := 2) (a := b2) rfl (ow hw 46 rfl) (ow hw 47 rfl) (ow hw 45 rfl) (ow hw 48 rfl) (by decide) (ct_e62 l Z a0 hw EL n0 b2  od oz hg h2 F_b2 ) (o_sfS (List.Mem.head _) o_sf0) (by rw [hml]; rfl) (by decide) (by decide) (argsL := [(.int 6)]) (rest := [(.ref b2), (.ref p0)]) (lenOf pd_1 rfl) rfl rfl (Nat.le_of_eq rfl) (hb hby de2_17) (pc' := 20) rfl (by decide) (by decide) ?_
  clear P; intro T h4 v4 P K4 q4
  obtain ⟨n0_3, rfl, g_n0_3, Q_b2, Q_n0_3, -⟩ := q4
  have ne_p0_n0_3 := F_p0.nb g_n0_3
  have ne_b2_n0_3 := F_b2.nb g_n0_3
  have ne_p1_n0_3 := A_p1.nb g_n0_3
  have sz_n0_3 := Nat.le_trans hk_3 g_n0_3
  replace F_p0 := F_p0.keep K4 (ninS ne_p0_b2 nin0)
  replace A_p1 := A_p1.keep K4 (ninS ne_p1_b2 nin0)
  clear F_b2
  have F_b2 := Q_b2; clear Q_b2
  have A_n0_3 := Q_n0_3; clear Q_n0_3
  replace P := P.moreA A_n0_3 (fun q => by cases q) (Nat.le_trans hn_3 g_n0_3) sz_n0_3
  clear K4 hn_3 hk_3
  show OG p e below m _ T 20 _ [(.ref b2), (.ref p0)]
  refine o_putF P (v' := (.ref b2)) (ty := (.object kB)) (ow hw 64 rfl) Via.refl (F_p0.fld 1 rfl) F_p0.exa (Or.inr ⟨(ow hw 65 rfl), rfl, hnm⟩) (ow hw 35 rfl) (by decide) rfl rfl (List.Mem.tail _ (List.Mem.tail _ (List.Mem.head _))) (hb hby de2_20) (pc' := 23) rfl ?_
  clear P; intro T h5 P W5
  replace F_b2 := F_b2.oth W5 (Ne.symm ne_p0_b2)
  replace A_p1 := A_p1.oth W5 (Ne.symm ne_p0_p1)
  replace A_n0_3 := A_n0_3.oth W5 (Ne.symm ne_p0_n0_3)
  replace F_p0 : OObj Z h5 p0 kS [(kS, "values", "[J", (.ref p1)), (kS, "cuts", "Ljava/util/BitSet;", (.ref b2))] := F_p0.put 1 rfl W5
  clear W5
  refine o_aloadN P (hb hby de2_23) rfl rfl (pc' := 24) rfl ?_
  refine o_getF P (ow hw 64 rfl) Via.refl (F_p0.fld 1 rfl) (hb hby de2_24) (pc' := 27) rfl ?_
  clear P; intro T P
  refine o_iconst P (0 : Int32) (hb hby de2_27) rfl (pc' := 28) rfl ?_
  have hn_6 := P.n0le; have hk_6 := P.keep0.1
  refine o_callV P (W := 0) (a := b2) (ow hw 66 rfl) (ow hw 67 rfl) (o_nfSl (ow hw 69 rfl)) (ow hw 69 rfl) (ow hw 68 rfl) (ow hw 45 rfl) (ow hw 70 rfl) (by decide) F_b2.exa (ct_e16 l Z a0 hw EL n0 b2 n0_3  od oz hg h5 F_b2 A_n0_3 ne_b2_n0_3) (o_sfS (List.Mem.tail _ (List.Mem.head _)) (o_sfS (List.Mem.head _) o_sf0)) (by rw [hml]; rfl) (by decide) (by decide) (argsL := [(.int 0)]) (rest := []) (lenOf pd_1 rfl) rfl rfl (Nat.le_of_eq rfl) (hb hby de2_28) (pc' := 31) rfl (by decide) (by decide) ?_
  clear P; intro T h7 v7 P K7 q7
  obtain ⟨rfl, Q_b2, Q_n0_3, -⟩ := q7
  replace F_p0 := F_p0.keep K7 (ninS ne_p0_b2 (ninS ne_p0_n0_3 nin0))
  replace A_p1 := A_p1.keep K7 (ninS ne_p1_b2 (ninS ne_p1_n0_3 nin0))
  clear F_b2
  have F_b2 := Q_b2; clear Q_b2
  clear A_n0_3
  have A_n0_3 := Q_n0_3; clear Q_n0_3
  clear K7 hn_6 hk_6
  show OG p e below m _ T 31 _ []
  refine o_aloadN P (hb hby de2_31) rfl rfl (pc' := 32) rfl ?_
  refine o_getF P (ow hw 64 rfl) Via.refl (F_p0.fld 1 rfl) (hb hby de2_32) (pc' := 35) rfl ?_
  clear P; intro T P
  refine o_iloadN P (hb hby de2_35) rfl (pc' := 36) rfl ?_
  have hn_8 := P.n0le; have hk_8 := P.keep0.1
  refine o_callV P (W := 0) (a := b2) (ow hw 66 rfl) (ow hw 67 rfl) (o_nfSl (ow hw 69 rfl)) (ow hw 69 rfl) (ow hw 68 rfl) (ow hw 45 rfl) (ow hw 70 rfl) (by decide) F_b2.exa (ct_e64 l Z a0 hw EL n0 b2 n0_3  od oz hg h7 F_b2 A_n0_3 ne_b2_n0_3) (o_sfS (List.Mem.head _) o_sf0) (by rw [hml]; rfl) (by decide) (by decide) (argsL := [(.int 5)]) (rest := []) (lenOf pd_1 rfl) rfl rfl (Nat.le_of_eq rfl) (hb hby de2_36) (pc' := 39) rfl (by decide) (by decide) ?_
  clear P; intro T h9 v9 P K9 q9
  obtain ⟨rfl, Q_n0_3, -⟩ := q9
  replace F_p0 := F_p0.keep K9 (ninS ne_p0_n0_3 nin0)
  replace F_b2 := F_b2.keep K9 (ninS ne_b2_n0_3 nin0)
  replace A_p1 := A_p1.keep K9 (ninS ne_p1_n0_3 nin0)
  clear A_n0_3
  have A_n0_3 := Q_n0_3; clear Q_n0_3
  clear K9 hn_8 hk_8
  show OG p e below m _ T 39 _ []
  exact o_ret0 P hret (hb hby de2_39) (by decide) (by decide) ⟨b2, n0_3, rfl, hsh ▸ sz_b2, hsh ▸ sz_n0_3, ne_b2_n0_3, F_p0, F_b2, A_n0_3, trivial⟩
theorem ef_ct_e66 (x0 : Addr) (x1 : Int32) (m : MethodId) : entryFrame m #[(.ref x0), (.int x1)] 3 = mkF m 0 #[.val (.ref x0), .val (.int x1), .unset] [] := by first | (simp [entryFrame, mkF, argsToLocals, o_catR, o_catN, o_catI, o_catJ, o_catD]; done) | rfl
theorem ct_e66 (l : Launch) (Z : State) (a0 : Array Value) (hw : OHw Z a0) (EL : List (String × Nat)) (n0 : Nat) (p0 : Addr) (p1 : Addr)  (od oz : Addr) (hg : OGp Z od oz) (h0 : Heap) (F_p0 : OObj Z h0 p0 kB [(kB, "wordsInUse", "I", (.int 1)), (kB, "sizeIsSticky", "Z", (.int 1)), (kB, "words", "[J", (.ref p1))]) (A_p1 : OArr Z h0 p1 .long [(.long 33)]) (ne_p0_p1 : p0 ≠ p1) :
    OCt l Z a0 EL n0 (⟨kB, "get", "(I)Z"⟩ : MethodName) jdk_92_method_26_code 3 (some .boolean) ({ frames := 1, cells := 0, slots := 0, locals := 12 } : Room) [] #[(.ref p0), (.int 0)] h0 [] (fun w vm h => w = some (.int 1) ∧ h = h0) := by
  refine OCt.body (plainFor_of_name pn_e0) (ef_ct_e66 p0 ((0 : Int32))) ?_
  intro p e s m below meth c T hby hml hret hnm hsh P
  refine o_iloadN P (hb hby de23_0) rfl (pc' := 1) rfl ?_
  refine o_if_ge P (hb hby de23_1) (by decide) (pc' := 31) (by decide) (pcf := 4) rfl (fun _ => ?_) (fun q => absurd q (by decide))
  refine o_aloadN P (hb hby de23_31) rfl rfl (pc' := 32) rfl ?_
  refine o_callP P (W := 0) (a := p0) (ow hw 81 rfl) (ow hw 82 rfl) (ow hw 84 rfl) (ow hw 83 rfl) (ow hw 45 rfl) (ow hw 85 rfl) (by decide) F_p0.exa (ct_e63 l Z a0 hw EL n0 p0 p1  od oz hg h0 F_p0 A_p1 ne_p0_p1) o_sf0 (by rw [hml]; rfl) (by decide) (by decide) (argsL := []) (rest := []) (lenOf pd_2 rfl) rfl rfl (Nat.le_of_eq rfl) (hb hby de23_32) (pc' := 35) rfl (by decide) (by decide) ?_
  clear P; intro T h2 v2 P K2 q2
  obtain ⟨rfl, rfl⟩ := q2; clear K2
  show OG p e below m _ T 35 _ []
  refine o_iloadN P (hb hby de23_35) rfl (pc' := 36) rfl ?_
  refine o_callS P (W := 0) (ow hw 59 rfl) (ow hw 60 rfl) (ow hw 45 rfl) (ow hw 61 rfl) (by decide) (ct_e9 l Z a0 hw EL n0   od oz hg h2  ) o_sf0 (by rw [hml]; rfl) (by decide) (by decide) (argsL := [(.int 0)]) (rest := []) (lenOf pd_0 rfl) rfl rfl (Nat.le_of_eq rfl) (hb hby de23_36) (pc' := 39) rfl (by decide) (by decide) ?_
  clear P; intro T h4 v4 P K4 q4
  obtain ⟨rfl, rfl⟩ := q4; clear K4
  show OG p e below m _ T 39 _ [(.int 0)]
  refine o_istoreN P (hb hby de23_39) (L' := #[.val (.ref p0), .val (.int 0), .val (.int 0)]) rfl (pc' := 40) rfl ?_
  refine o_iloadN P (hb hby de23_40) rfl (pc' := 41) rfl ?_
  refine o_aloadN P (hb hby de23_41) rfl rfl (pc' := 42) rfl ?_
  refine o_getF P (ow hw 50 rfl) Via.refl (F_p0.fld 0 rfl) (hb hby de23_42) (pc' := 45) rfl ?_
  clear P; intro T P
  refine o_icmp_ge P (hb hby de23_45) (by decide) (pc' := 67) (by decide) (pcf := 48) rfl (fun q => absurd (by decide) q) (fun _ => ?_)
  refine o_aloadN P (hb hby de23_48) rfl rfl (pc' := 49) rfl ?_
  refine o_getF P (ow hw 62 rfl) Via.refl (F_p0.fld 2 rfl) (hb hby de23_49) (pc' := 52) rfl ?_
  clear P; intro T P
  refine o_iloadN P (hb hby de23_52) rfl (pc' := 53) rfl ?_
  refine o_laload P (v := (.long 33)) A_p1 (by decide) rfl (hb hby de23_53) (pc' := 54) rfl ?_
  refine o_lconst P (1 : Int64) (hb hby de23_54) rfl (pc' := 55) rfl ?_
  refine o_iloadN P (hb hby de23_55) rfl (pc' := 56) rfl ?_
  refine o_lshl P (hb hby de23_56) (pc' := 57) rfl ?_
  show OG p e below m _ T 57 _ [(.long 1), (.long 33)]
  refine o_land P (hb hby de23_57) (pc' := 58) rfl ?_
  show OG p e below m _ T 58 _ [(.long 1)]
  refine o_lconst P (0 : Int64) (hb hby de23_58) rfl (pc' := 59) rfl ?_
  refine o_lcmp P (hb hby de23_59) (pc' := 60) rfl ?_
  show OG p e below m _ T 60 _ [(.int 1)]
  refine o_if_eq P (hb hby de23_60) (by decide) (pc' := 67) (by decide) (pcf := 63) rfl (fun q => absurd q (by decide)) (fun _ => ?_)
  refine o_iconst P (1 : Int32) (hb hby de23_63) rfl (pc' := 64) rfl ?_
  refine o_goto P (hb hby de23_64) (by decide) (pc' := 68) (by decide) ?_
  exact o_retI P hret (by simp) rfl (hb hby de23_68) (by decide) (by decide) ⟨rfl, rfl⟩
theorem ef_ct_e67 (x0 : Addr) (x1 : Int32) (m : MethodId) : entryFrame m #[(.ref x0), (.int x1)] 3 = mkF m 0 #[.val (.ref x0), .val (.int x1), .unset] [] := by first | (simp [entryFrame, mkF, argsToLocals, o_catR, o_catN, o_catI, o_catJ, o_catD]; done) | rfl
theorem ct_e67 (l : Launch) (Z : State) (a0 : Array Value) (hw : OHw Z a0) (EL : List (String × Nat)) (n0 : Nat) (p0 : Addr) (p1 : Addr)  (od oz : Addr) (hg : OGp Z od oz) (h0 : Heap) (F_p0 : OObj Z h0 p0 kB [(kB, "wordsInUse", "I", (.int 1)), (kB, "sizeIsSticky", "Z", (.int 1)), (kB, "words", "[J", (.ref p1))]) (A_p1 : OArr Z h0 p1 .long [(.long 33)]) (ne_p0_p1 : p0 ≠ p1) :
    OCt l Z a0 EL n0 (⟨kB, "get", "(I)Z"⟩ : MethodName) jdk_92_method_26_code 3 (some .boolean) ({ frames := 1, cells := 0, slots := 0, locals := 12 } : Room) [] #[(.ref p0), (.int 1)] h0 [] (fun w vm h => w = some (.int 0) ∧ h = h0) := by
  refine OCt.body (plainFor_of_name pn_e0) (ef_ct_e67 p0 ((1 : Int32))) ?_
  intro p e s m below meth c T hby hml hret hnm hsh P
  refine o_iloadN P (hb hby de23_0) rfl (pc' := 1) rfl ?_
  refine o_if_ge P (hb hby de23_1) (by decide) (pc' := 31) (by decide) (pcf := 4) rfl (fun _ => ?_) (fun q => absurd q (by decide))
  refine o_aloadN P (hb hby de23_31) rfl rfl (pc' := 32) rfl ?_
  refine o_callP P (W := 0) (a := p0) (ow hw 81 rfl) (ow hw 82 rfl) (ow hw 84 rfl) (ow hw 83 rfl) (ow hw 45 rfl) (ow hw 85 rfl) (by decide) F_p0.exa (ct_e63 l Z a0 hw EL n0 p0 p1  od oz hg h0 F_p0 A_p1 ne_p0_p1) o_sf0 (by rw [hml]; rfl) (by decide) (by decide) (argsL := []) (rest := []) (lenOf pd_2 rfl) rfl rfl (Nat.le_of_eq rfl) (hb hby de23_32) (pc' := 35) rfl (by decide) (by decide) ?_
  clear P; intro T h2 v2 P K2 q2
  obtain ⟨rfl, rfl⟩ := q2; clear K2
  show OG p e below m _ T 35 _ []
  refine o_iloadN P (hb hby de23_35) rfl (pc' := 36) rfl ?_
  refine o_callS P (W := 0) (ow hw 59 rfl) (ow hw 60 rfl) (ow hw 45 rfl) (ow hw 61 rfl) (by decide) (ct_e25 l Z a0 hw EL n0   od oz hg h2  ) o_sf0 (by rw [hml]; rfl) (by decide) (by decide) (argsL := [(.int 1)]) (rest := []) (lenOf pd_0 rfl) rfl rfl (Nat.le_of_eq rfl) (hb hby de23_36) (pc' := 39) rfl (by decide) (by decide) ?_
  clear P; intro T h4 v4 P K4 q4
  obtain ⟨rfl, rfl⟩ := q4; clear K4
  show OG p e below m _ T 39 _ [(.int 0)]
  refine o_istoreN P (hb hby de23_39) (L' := #[.val (.ref p0), .val (.int 1), .val (.int 0)]) rfl (pc' := 40) rfl ?_
  refine o_iloadN P (hb hby de23_40) rfl (pc' := 41) rfl ?_
  refine o_aloadN P (hb hby de23_41) rfl rfl (pc' := 42) rfl ?_
  refine o_getF P (ow hw 50 rfl) Via.refl (F_p0.fld 0 rfl) (hb hby de23_42) (pc' := 45) rfl ?_
  clear P; intro T P
  refine o_icmp_ge P (hb hby de23_45) (by decide) (pc' := 67) (by decide) (pcf := 48) rfl (fun q => absurd (by decide) q) (fun _ => ?_)
  refine o_aloadN P (hb hby de23_48) rfl rfl (pc' := 49) rfl ?_
  refine o_getF P (ow hw 62 rfl) Via.refl (F_p0.fld 2 rfl) (hb hby de23_49) (pc' := 52) rfl ?_
  clear P; intro T P
  refine o_iloadN P (hb hby de23_52) rfl (pc' := 53) rfl ?_
  refine o_laload P (v := (.long 33)) A_p1 (by decide) rfl (hb hby de23_53) (pc' := 54) rfl ?_
  refine o_lconst P (1 : Int64) (hb hby de23_54) rfl (pc' := 55) rfl ?_
  refine o_iloadN P (hb hby de23_55) rfl (pc' := 56) rfl ?_
  refine o_lshl P (hb hby de23_56) (pc' := 57) rfl ?_
  show OG p e below m _ T 57 _ [(.long 2), (.long 33)]
  refine o_land P (hb hby de23_57) (pc' := 58) rfl ?_
  show OG p e below m _ T 58 _ [(.long 0)]
  refine o_lconst P (0 : Int64) (hb hby de23_58) rfl (pc' := 59) rfl ?_
  refine o_lcmp P (hb hby de23_59) (pc' := 60) rfl ?_
  show OG p e below m _ T 60 _ [(.int 0)]
  refine o_if_eq P (hb hby de23_60) (by decide) (pc' := 67) (by decide) (pcf := 63) rfl (fun _ => ?_) (fun q => absurd (by decide) q)
  refine o_iconst P (0 : Int32) (hb hby de23_67) rfl (pc' := 68) rfl ?_
  exact o_retI P hret (by simp) rfl (hb hby de23_68) (by decide) (by decide) ⟨rfl, rfl⟩
theorem ef_ct_e68 (x0 : Addr) (x1 : Int32) (m : MethodId) : entryFrame m #[(.ref x0), (.int x1)] 5 = mkF m 0 #[.val (.ref x0), .val (.int x1), .unset, .unset, .unset] [] := by first | (simp [entryFrame, mkF, argsToLocals, o_catR, o_catN, o_catI, o_catJ, o_catD]; done) | rfl
theorem ct_e68 (l : Launch) (Z : State) (a0 : Array Value) (hw : OHw Z a0) (EL : List (String × Nat)) (n0 : Nat) (p0 : Addr) (p1 : Addr)  (od oz : Addr) (hg : OGp Z od oz) (h0 : Heap) (F_p0 : OObj Z h0 p0 kB [(kB, "wordsInUse", "I", (.int 1)), (kB, "sizeIsSticky", "Z", (.int 1)), (kB, "words", "[J", (.ref p1))]) (A_p1 : OArr Z h0 p1 .long [(.long 33)]) (ne_p0_p1 : p0 ≠ p1) :
    OCt l Z a0 EL n0 (⟨kB, "previousSetBit", "(I)I"⟩ : MethodName) jdk_92_method_30_code 5 (some .int) ({ frames := 2, cells := 0, slots := 0, locals := 29 } : Room) [] #[(.ref p0), (.int 0)] h0 [] (fun w vm h => w = some (.int 0) ∧ h = h0) := by
  refine OCt.body (plainFor_of_name pn_e0) (ef_ct_e68 p0 ((0 : Int32))) ?_
  intro p e s m below meth c T hby hml hret hnm hsh P
  refine o_iloadN P (hb hby de27_0) rfl (pc' := 1) rfl ?_
  refine o_if_ge P (hb hby de27_1) (by decide) (pc' := 38) (by decide) (pcf := 4) rfl (fun _ => ?_) (fun q => absurd q (by decide))
  refine o_aloadN P (hb hby de27_38) rfl rfl (pc' := 39) rfl ?_
  refine o_callP P (W := 0) (a := p0) (ow hw 81 rfl) (ow hw 82 rfl) (ow hw 84 rfl) (ow hw 83 rfl) (ow hw 45 rfl) (ow hw 85 rfl) (by decide) F_p0.exa (ct_e63 l Z a0 hw EL n0 p0 p1  od oz hg h0 F_p0 A_p1 ne_p0_p1) o_sf0 (by rw [hml]; rfl) (by decide) (by decide) (argsL := []) (rest := []) (lenOf pd_2 rfl) rfl rfl (Nat.le_of_eq rfl) (hb hby de27_39) (pc' := 42) rfl (by decide) (by decide) ?_
  clear P; intro T h2 v2 P K2 q2
  obtain ⟨rfl, rfl⟩ := q2; clear K2
  show OG p e below m _ T 42 _ []
  refine o_iloadN P (hb hby de27_42) rfl (pc' := 43) rfl ?_
  refine o_callS P (W := 0) (ow hw 59 rfl) (ow hw 60 rfl) (ow hw 45 rfl) (ow hw 61 rfl) (by decide) (ct_e9 l Z a0 hw EL n0   od oz hg h2  ) o_sf0 (by rw [hml]; rfl) (by decide) (by decide) (argsL := [(.int 0)]) (rest := []) (lenOf pd_0 rfl) rfl rfl (Nat.le_of_eq rfl) (hb hby de27_43) (pc' := 46) rfl (by decide) (by decide) ?_
  clear P; intro T h4 v4 P K4 q4
  obtain ⟨rfl, rfl⟩ := q4; clear K4
  show OG p e below m _ T 46 _ [(.int 0)]
  refine o_istoreN P (hb hby de27_46) (L' := #[.val (.ref p0), .val (.int 0), .val (.int 0), .unset, .unset]) rfl (pc' := 47) rfl ?_
  refine o_iloadN P (hb hby de27_47) rfl (pc' := 48) rfl ?_
  refine o_aloadN P (hb hby de27_48) rfl rfl (pc' := 49) rfl ?_
  refine o_getF P (ow hw 50 rfl) Via.refl (F_p0.fld 0 rfl) (hb hby de27_49) (pc' := 52) rfl ?_
  clear P; intro T P
  refine o_icmp_lt P (hb hby de27_52) (by decide) (pc' := 62) (by decide) (pcf := 55) rfl (fun _ => ?_) (fun q => absurd (by decide) q)
  refine o_aloadN P (hb hby de27_62) rfl rfl (pc' := 63) rfl ?_
  refine o_getF P (ow hw 62 rfl) Via.refl (F_p0.fld 2 rfl) (hb hby de27_63) (pc' := 66) rfl ?_
  clear P; intro T P
  refine o_iloadN P (hb hby de27_66) rfl (pc' := 67) rfl ?_
  refine o_laload P (v := (.long 33)) A_p1 (by decide) rfl (hb hby de27_67) (pc' := 68) rfl ?_
  refine o_ldc2L P (ow hw 188 rfl) (hb hby de27_68) (pc' := 71) rfl ?_
  refine o_iloadN P (hb hby de27_71) rfl (pc' := 72) rfl ?_
  refine o_iconst P (1 : Int32) (hb hby de27_72) rfl (pc' := 73) rfl ?_
  refine o_iadd P (hb hby de27_73) (pc' := 74) rfl ?_
  show OG p e below m _ T 74 _ [(.int 1), (.long (-1)), (.long 33)]
  refine o_ineg P (hb hby de27_74) (pc' := 75) rfl ?_
  show OG p e below m _ T 75 _ [(.int (-1)), (.long (-1)), (.long 33)]
  refine o_lushr P (hb hby de27_75) (pc' := 76) rfl ?_
  show OG p e below m _ T 76 _ [(.long 1), (.long 33)]
  refine o_land P (hb hby de27_76) (pc' := 77) rfl ?_
  show OG p e below m _ T 77 _ [(.long 1)]
  refine o_lstoreN P (hb hby de27_77) (L' := #[.val (.ref p0), .val (.int 0), .val (.int 0), .val (.long 1), .second]) rfl (pc' := 78) rfl ?_
  refine o_lloadN P (hb hby de27_78) rfl (pc' := 79) rfl ?_
  refine o_lconst P (0 : Int64) (hb hby de27_79) rfl (pc' := 80) rfl ?_
  refine o_lcmp P (hb hby de27_80) (pc' := 81) rfl ?_
  show OG p e below m _ T 81 _ [(.int 1)]
  refine o_if_eq P (hb hby de27_81) (by decide) (pc' := 98) (by decide) (pcf := 84) rfl (fun q => absurd q (by decide)) (fun _ => ?_)
  refine o_iloadN P (hb hby de27_84) rfl (pc' := 85) rfl ?_
  refine o_iconst P (1 : Int32) (hb hby de27_85) rfl (pc' := 86) rfl ?_
  refine o_iadd P (hb hby de27_86) (pc' := 87) rfl ?_
  show OG p e below m _ T 87 _ [(.int 1)]
  refine o_bipush P (64 : Int32) (hb hby de27_87) rfl (pc' := 89) rfl ?_
  refine o_imul P (hb hby de27_89) (pc' := 90) rfl ?_
  show OG p e below m _ T 90 _ [(.int 64)]
  refine o_iconst P (1 : Int32) (hb hby de27_90) rfl (pc' := 91) rfl ?_
  refine o_isub P (hb hby de27_91) (pc' := 92) rfl ?_
  show OG p e below m _ T 92 _ [(.int 63)]
  refine o_lloadN P (hb hby de27_92) rfl (pc' := 93) rfl ?_
  refine o_callS P (W := 1) (ow hw 189 rfl) (ow hw 190 rfl) (ow hw 191 rfl) (ow hw 192 rfl) (by decide) (ct_e31 l Z a0 hw EL n0   od oz hg h4  ) o_sf0 (by rw [hml]; rfl) (by decide) (by decide) (argsL := [(.long 1)]) (rest := [(.int 63)]) (lenOf pd_5 rfl) rfl rfl (Nat.le_of_eq rfl) (hb hby de27_93) (pc' := 96) rfl (by decide) (by decide) ?_
  clear P; intro T h6 v6 P K6 q6
  obtain ⟨rfl, rfl⟩ := q6; clear K6
  show OG p e below m _ T 96 _ [(.int 63), (.int 63)]
  refine o_isub P (hb hby de27_96) (pc' := 97) rfl ?_
  show OG p e below m _ T 97 _ [(.int 0)]
  exact o_retI P hret (by simp) rfl (hb hby de27_97) (by decide) (by decide) ⟨rfl, rfl⟩
theorem ef_ct_e69 (x0 : Int32) (m : MethodId) : entryFrame m #[(.int x0)] 2 = mkF m 0 #[.val (.int x0), .unset] [] := by first | (simp [entryFrame, mkF, argsToLocals, o_catR, o_catN, o_catI, o_catJ, o_catD]; done) | rfl
theorem ct_e69 (l : Launch) (Z : State) (a0 : Array Value) (hw : OHw Z a0) (EL : List (String × Nat)) (n0 : Nat)   (od oz : Addr) (hg : OGp Z od oz) (h0 : Heap)   :
    OCt l Z a0 EL n0 (⟨"java/lang/Integer", "numberOfTrailingZeros", "(I)I"⟩ : MethodName) jdk_33_method_48_code 2 (some .int) ({ frames := 0, cells := 0, slots := 0, locals := 0 } : Room) [] #[(.int 32)] h0 [] (fun w vm h => w = some (.int 5) ∧ h = h0) := by
  refine OCt.body (plainFor_of_name pn_e2) (ef_ct_e69 ((32 : Int32))) ?_
  intro p e s m below meth c T hby hml hret hnm hsh P
  refine o_iloadN P (hb hby de35_0) rfl (pc' := 1) rfl ?_
  refine o_iconst P (-1 : Int32) (hb hby de35_1) rfl (pc' := 2) rfl ?_
  refine o_ixor P (hb hby de35_2) (pc' := 3) rfl ?_
  show OG p e below m _ T 3 _ [(.int (-33))]
  refine o_iloadN P (hb hby de35_3) rfl (pc' := 4) rfl ?_
  refine o_iconst P (1 : Int32) (hb hby de35_4) rfl (pc' := 5) rfl ?_
  refine o_isub P (hb hby de35_5) (pc' := 6) rfl ?_
  show OG p e below m _ T 6 _ [(.int 31), (.int (-33))]
  refine o_iand P (hb hby de35_6) (pc' := 7) rfl ?_
  show OG p e below m _ T 7 _ [(.int 31)]
  refine o_istoreN P (hb hby de35_7) (L' := #[.val (.int 31), .unset]) rfl (pc' := 8) rfl ?_
  refine o_iloadN P (hb hby de35_8) rfl (pc' := 9) rfl ?_
  refine o_if_gt P (hb hby de35_9) (by decide) (pc' := 17) (by decide) (pcf := 12) rfl (fun _ => ?_) (fun q => absurd (by decide) q)
  refine o_iconst P (1 : Int32) (hb hby de35_17) rfl (pc' := 18) rfl ?_
  refine o_istoreN P (hb hby de35_18) (L' := #[.val (.int 31), .val (.int 1)]) rfl (pc' := 19) rfl ?_
  refine o_iloadN P (hb hby de35_19) rfl (pc' := 20) rfl ?_
  refine o_ldcWI P (ow hw 197 rfl) (hb hby de35_20) (pc' := 23) rfl ?_
  refine o_icmp_le P (hb hby de35_23) (by decide) (pc' := 34) (by decide) (pcf := 26) rfl (fun _ => ?_) (fun q => absurd q (by decide))
  refine o_iloadN P (hb hby de35_34) rfl (pc' := 35) rfl ?_
  refine o_sipush P (256 : Int32) (hb hby de35_35) rfl (pc' := 38) rfl ?_
  refine o_icmp_le P (hb hby de35_38) (by decide) (pc' := 49) (by decide) (pcf := 41) rfl (fun _ => ?_) (fun q => absurd q (by decide))
  refine o_iloadN P (hb hby de35_49) rfl (pc' := 50) rfl ?_
  refine o_bipush P (16 : Int32) (hb hby de35_50) rfl (pc' := 52) rfl ?_
  refine o_icmp_le P (hb hby de35_52) (by decide) (pc' := 62) (by decide) (pcf := 55) rfl (fun q => absurd (by decide) q) (fun _ => ?_)
  refine o_iinc P (4 : Int32) (hb hby de35_55) rfl rfl (L' := #[.val (.int 31), .val (.int 5)]) rfl (pc' := 58) rfl ?_
  refine o_iloadN P (hb hby de35_58) rfl (pc' := 59) rfl ?_
  refine o_iconst P (4 : Int32) (hb hby de35_59) rfl (pc' := 60) rfl ?_
  refine o_iushr P (hb hby de35_60) (pc' := 61) rfl ?_
  show OG p e below m _ T 61 _ [(.int 1)]
  refine o_istoreN P (hb hby de35_61) (L' := #[.val (.int 1), .val (.int 5)]) rfl (pc' := 62) rfl ?_
  refine o_iloadN P (hb hby de35_62) rfl (pc' := 63) rfl ?_
  refine o_iconst P (4 : Int32) (hb hby de35_63) rfl (pc' := 64) rfl ?_
  refine o_icmp_le P (hb hby de35_64) (by decide) (pc' := 74) (by decide) (pcf := 67) rfl (fun _ => ?_) (fun q => absurd q (by decide))
  refine o_iloadN P (hb hby de35_74) rfl (pc' := 75) rfl ?_
  refine o_iloadN P (hb hby de35_75) rfl (pc' := 76) rfl ?_
  refine o_iconst P (1 : Int32) (hb hby de35_76) rfl (pc' := 77) rfl ?_
  refine o_iushr P (hb hby de35_77) (pc' := 78) rfl ?_
  show OG p e below m _ T 78 _ [(.int 0), (.int 5)]
  refine o_iadd P (hb hby de35_78) (pc' := 79) rfl ?_
  show OG p e below m _ T 79 _ [(.int 5)]
  exact o_retI P hret (by simp) rfl (hb hby de35_79) (by decide) (by decide) ⟨rfl, rfl⟩
theorem ef_ct_e70 (x0 : Int64) (m : MethodId) : entryFrame m #[(.long x0)] 3 = mkF m 0 #[.val (.long x0), .second, .unset] [] := by first | (simp [entryFrame, mkF, argsToLocals, o_catR, o_catN, o_catI, o_catJ, o_catD]; done) | rfl
theorem ct_e70 (l : Launch) (Z : State) (a0 : Array Value) (hw : OHw Z a0) (EL : List (String × Nat)) (n0 : Nat)   (od oz : Addr) (hg : OGp Z od oz) (h0 : Heap)   :
    OCt l Z a0 EL n0 (⟨"java/lang/Long", "numberOfTrailingZeros", "(J)I"⟩ : MethodName) jdk_35_method_49_code 3 (some .int) ({ frames := 1, cells := 0, slots := 0, locals := 13 } : Room) [] #[(.long 32)] h0 [] (fun w vm h => w = some (.int 5) ∧ h = h0) := by
  refine OCt.body (plainFor_of_name pn_e3) (ef_ct_e70 ((32 : Int64))) ?_
  intro p e s m below meth c T hby hml hret hnm hsh P
  refine o_lloadN P (hb hby de34_0) rfl (pc' := 1) rfl ?_
  refine o_l2i P (hb hby de34_1) (pc' := 2) rfl ?_
  show OG p e below m _ T 2 _ [(.int 32)]
  refine o_istoreN P (hb hby de34_2) (L' := #[.val (.long 32), .second, .val (.int 32)]) rfl (pc' := 3) rfl ?_
  refine o_iloadN P (hb hby de34_3) rfl (pc' := 4) rfl ?_
  refine o_if_ne P (hb hby de34_4) (by decide) (pc' := 21) (by decide) (pcf := 7) rfl (fun _ => ?_) (fun q => absurd q (by decide))
  refine o_iloadN P (hb hby de34_21) rfl (pc' := 22) rfl ?_
  refine o_callS P (W := 0) (ow hw 206 rfl) (ow hw 207 rfl) (ow hw 195 rfl) (ow hw 208 rfl) (by decide) (ct_e69 l Z a0 hw EL n0   od oz hg h0  ) o_sf0 (by rw [hml]; rfl) (by decide) (by decide) (argsL := [(.int 32)]) (rest := []) (lenOf pd_0 rfl) rfl rfl (Nat.le_of_eq rfl) (hb hby de34_22) (pc' := 25) rfl (by decide) (by decide) ?_
  clear P; intro T h2 v2 P K2 q2
  obtain ⟨rfl, rfl⟩ := q2; clear K2
  show OG p e below m _ T 25 _ [(.int 5)]
  exact o_retI P hret (by simp) rfl (hb hby de34_25) (by decide) (by decide) ⟨rfl, rfl⟩
theorem ef_ct_e71 (x0 : Addr) (x1 : Int32) (m : MethodId) : entryFrame m #[(.ref x0), (.int x1)] 5 = mkF m 0 #[.val (.ref x0), .val (.int x1), .unset, .unset, .unset] [] := by first | (simp [entryFrame, mkF, argsToLocals, o_catR, o_catN, o_catI, o_catJ, o_catD]; done) | rfl
theorem ct_e71 (l : Launch) (Z : State) (a0 : Array Value) (hw : OHw Z a0) (EL : List (String × Nat)) (n0 : Nat) (p0 : Addr) (p1 : Addr)  (od oz : Addr) (hg : OGp Z od oz) (h0 : Heap) (F_p0 : OObj Z h0 p0 kB [(kB, "wordsInUse", "I", (.int 1)), (kB, "sizeIsSticky", "Z", (.int 1)), (kB, "words", "[J", (.ref p1))]) (A_p1 : OArr Z h0 p1 .long [(.long 33)]) (ne_p0_p1 : p0 ≠ p1) :
    OCt l Z a0 EL n0 (⟨kB, "nextSetBit", "(I)I"⟩ : MethodName) jdk_92_method_28_code 5 (some .int) ({ frames := 2, cells := 0, slots := 0, locals := 28 } : Room) [] #[(.ref p0), (.int 1)] h0 [] (fun w vm h => w = some (.int 5) ∧ h = h0) := by
  refine OCt.body (plainFor_of_name pn_e0) (ef_ct_e71 p0 ((1 : Int32))) ?_
  intro p e s m below meth c T hby hml hret hnm hsh P
  refine o_iloadN P (hb hby de33_0) rfl (pc' := 1) rfl ?_
  refine o_if_ge P (hb hby de33_1) (by decide) (pc' := 31) (by decide) (pcf := 4) rfl (fun _ => ?_) (fun q => absurd q (by decide))
  refine o_aloadN P (hb hby de33_31) rfl rfl (pc' := 32) rfl ?_
  refine o_callP P (W := 0) (a := p0) (ow hw 81 rfl) (ow hw 82 rfl) (ow hw 84 rfl) (ow hw 83 rfl) (ow hw 45 rfl) (ow hw 85 rfl) (by decide) F_p0.exa (ct_e63 l Z a0 hw EL n0 p0 p1  od oz hg h0 F_p0 A_p1 ne_p0_p1) o_sf0 (by rw [hml]; rfl) (by decide) (by decide) (argsL := []) (rest := []) (lenOf pd_2 rfl) rfl rfl (Nat.le_of_eq rfl) (hb hby de33_32) (pc' := 35) rfl (by decide) (by decide) ?_
  clear P; intro T h2 v2 P K2 q2
  obtain ⟨rfl, rfl⟩ := q2; clear K2
  show OG p e below m _ T 35 _ []
  refine o_iloadN P (hb hby de33_35) rfl (pc' := 36) rfl ?_
  refine o_callS P (W := 0) (ow hw 59 rfl) (ow hw 60 rfl) (ow hw 45 rfl) (ow hw 61 rfl) (by decide) (ct_e25 l Z a0 hw EL n0   od oz hg h2  ) o_sf0 (by rw [hml]; rfl) (by decide) (by decide) (argsL := [(.int 1)]) (rest := []) (lenOf pd_0 rfl) rfl rfl (Nat.le_of_eq rfl) (hb hby de33_36) (pc' := 39) rfl (by decide) (by decide) ?_
  clear P; intro T h4 v4 P K4 q4
  obtain ⟨rfl, rfl⟩ := q4; clear K4
  show OG p e below m _ T 39 _ [(.int 0)]
  refine o_istoreN P (hb hby de33_39) (L' := #[.val (.ref p0), .val (.int 1), .val (.int 0), .unset, .unset]) rfl (pc' := 40) rfl ?_
  refine o_iloadN P (hb hby de33_40) rfl (pc' := 41) rfl ?_
  refine o_aloadN P (hb hby de33_41) rfl rfl (pc' := 42) rfl ?_
  refine o_getF P (ow hw 50 rfl) Via.refl (F_p0.fld 0 rfl) (hb hby de33_42) (pc' := 45) rfl ?_
  clear P; intro T P
  refine o_icmp_lt P (hb hby de33_45) (by decide) (pc' := 50) (by decide) (pcf := 48) rfl (fun _ => ?_) (fun q => absurd (by decide) q)
  refine o_aloadN P (hb hby de33_50) rfl rfl (pc' := 51) rfl ?_
  refine o_getF P (ow hw 62 rfl) Via.refl (F_p0.fld 2 rfl) (hb hby de33_51) (pc' := 54) rfl ?_
  clear P; intro T P
  refine o_iloadN P (hb hby de33_54) rfl (pc' := 55) rfl ?_
  refine o_laload P (v := (.long 33)) A_p1 (by decide) rfl (hb hby de33_55) (pc' := 56) rfl ?_
  refine o_ldc2L P (ow hw 188 rfl) (hb hby de33_56) (pc' := 59) rfl ?_
  refine o_iloadN P (hb hby de33_59) rfl (pc' := 60) rfl ?_
  refine o_lshl P (hb hby de33_60) (pc' := 61) rfl ?_
  show OG p e below m _ T 61 _ [(.long (-2)), (.long 33)]
  refine o_land P (hb hby de33_61) (pc' := 62) rfl ?_
  show OG p e below m _ T 62 _ [(.long 32)]
  refine o_lstoreN P (hb hby de33_62) (L' := #[.val (.ref p0), .val (.int 1), .val (.int 0), .val (.long 32), .second]) rfl (pc' := 63) rfl ?_
  refine o_lloadN P (hb hby de33_63) rfl (pc' := 64) rfl ?_
  refine o_lconst P (0 : Int64) (hb hby de33_64) rfl (pc' := 65) rfl ?_
  refine o_lcmp P (hb hby de33_65) (pc' := 66) rfl ?_
  show OG p e below m _ T 66 _ [(.int 1)]
  refine o_if_eq P (hb hby de33_66) (by decide) (pc' := 79) (by decide) (pcf := 69) rfl (fun q => absurd q (by decide)) (fun _ => ?_)
  refine o_iloadN P (hb hby de33_69) rfl (pc' := 70) rfl ?_
  refine o_bipush P (64 : Int32) (hb hby de33_70) rfl (pc' := 72) rfl ?_
  refine o_imul P (hb hby de33_72) (pc' := 73) rfl ?_
  show OG p e below m _ T 73 _ [(.int 0)]
  refine o_lloadN P (hb hby de33_73) rfl (pc' := 74) rfl ?_
  refine o_callS P (W := 1) (ow hw 203 rfl) (ow hw 204 rfl) (ow hw 191 rfl) (ow hw 205 rfl) (by decide) (ct_e70 l Z a0 hw EL n0   od oz hg h4  ) o_sf0 (by rw [hml]; rfl) (by decide) (by decide) (argsL := [(.long 32)]) (rest := [(.int 0)]) (lenOf pd_5 rfl) rfl rfl (Nat.le_of_eq rfl) (hb hby de33_74) (pc' := 77) rfl (by decide) (by decide) ?_
  clear P; intro T h6 v6 P K6 q6
  obtain ⟨rfl, rfl⟩ := q6; clear K6
  show OG p e below m _ T 77 _ [(.int 5), (.int 0)]
  refine o_iadd P (hb hby de33_77) (pc' := 78) rfl ?_
  show OG p e below m _ T 78 _ [(.int 5)]
  exact o_retI P hret (by simp) rfl (hb hby de33_78) (by decide) (by decide) ⟨rfl, rfl⟩
theorem ef_ct_e72 (x0 : Int32) (x1 : Int32) (x2 : Int32) (m : MethodId) : entryFrame m #[(.int x0), (.int x1), (.int x2)] 3 = mkF m 0 #[.val (.int x0), .val (.int x1), .val (.int x2)] [] := by first | (simp [entryFrame, mkF, argsToLocals, o_catR, o_catN, o_catI, o_catJ, o_catD]; done) | rfl
theorem ct_e72 (l : Launch) (Z : State) (a0 : Array Value) (hw : OHw Z a0) (EL : List (String × Nat)) (n0 : Nat)   (od oz : Addr) (hg : OGp Z od oz) (h0 : Heap)   :
    OCt l Z a0 EL n0 (⟨"java/util/Arrays", "rangeCheck", "(III)V"⟩ : MethodName) jdk_65_method_30_code 3 none ({ frames := 0, cells := 0, slots := 0, locals := 0 } : Room) [] #[(.int 16), (.int 0), (.int 5)] h0 [] (fun w vm h => w = none ∧ h = h0) := by
  refine OCt.body (plainFor_of_name pn_e4) (ef_ct_e72 ((16 : Int32)) ((0 : Int32)) ((5 : Int32))) ?_
  intro p e s m below meth c T hby hml hret hnm hsh P
  refine o_iloadN P (hb hby de40_0) rfl (pc' := 1) rfl ?_
  refine o_iloadN P (hb hby de40_1) rfl (pc' := 2) rfl ?_
  refine o_icmp_le P (hb hby de40_2) (by decide) (pc' := 46) (by decide) (pcf := 5) rfl (fun _ => ?_) (fun q => absurd q (by decide))
  refine o_iloadN P (hb hby de40_46) rfl (pc' := 47) rfl ?_
  refine o_if_ge P (hb hby de40_47) (by decide) (pc' := 59) (by decide) (pcf := 50) rfl (fun _ => ?_) (fun q => absurd q (by decide))
  refine o_iloadN P (hb hby de40_59) rfl (pc' := 60) rfl ?_
  refine o_iloadN P (hb hby de40_60) rfl (pc' := 61) rfl ?_
  refine o_icmp_le P (hb hby de40_61) (by decide) (pc' := 73) (by decide) (pcf := 64) rfl (fun _ => ?_) (fun q => absurd q (by decide))
  exact o_ret0 P hret (hb hby de40_73) (by decide) (by decide) ⟨rfl, rfl⟩
theorem ef_ct_e73 (x1 : Addr) (x2 : Int32) (x3 : Int32) (x4 : Int32) (m : MethodId) : entryFrame m #[.null, (.ref x1), (.int x2), (.int x3), (.int x4)] 25 = mkF m 0 #[.val .null, .val (.ref x1), .val (.int x2), .val (.int x3), .val (.int x4), .unset, .unset, .unset, .unset, .unset, .unset, .unset, .unset, .unset, .unset, .unset, .unset, .unset, .unset, .unset, .unset, .unset, .unset, .unset, .unset] [] := by first | (simp [entryFrame, mkF, argsToLocals, o_catR, o_catN, o_catI, o_catJ, o_catD]; done) | rfl
theorem ct_e73 (l : Launch) (Z : State) (a0 : Array Value) (hw : OHw Z a0) (EL : List (String × Nat)) (n0 : Nat) (p0 : Addr) (x0 : Int64) (od oz : Addr) (hg : OGp Z od oz) (h0 : Heap) (A_p0 : OArr Z h0 p0 .long [(.long x0), (.long x0), (.long x0), (.long x0), (.long x0), (.long 0), (.long 0), (.long 0), (.long 0), (.long 0), (.long 0), (.long 0), (.long 0), (.long 0), (.long 0), (.long 0)])  :
    OCt l Z a0 EL n0 (⟨kD, "sort", "(Ljava/util/DualPivotQuicksort$Sorter;[JIII)V"⟩ : MethodName) jdk_2529_method_13_code 25 none ({ frames := 1, cells := 0, slots := 0, locals := 18 } : Room) [] #[.null, (.ref p0), (.int 0), (.int 0), (.int 5)] h0 [p0] (fun w vm h => w = none ∧ OArr Z h p0 .long [(.long (og [x0, x0, x0, x0, x0] 0)), (.long (og [x0, x0, x0, x0, x0] 1)), (.long (og [x0, x0, x0, x0, x0] 2)), (.long (og [x0, x0, x0, x0, x0] 3)), (.long (og [x0, x0, x0, x0, x0] 4)), (.long 0), (.long 0), (.long 0), (.long 0), (.long 0), (.long 0), (.long 0), (.long 0), (.long 0), (.long 0), (.long 0)] ∧ True) := by
  refine OCt.body (plainFor_of_name pn_e5) (ef_ct_e73 p0 ((0 : Int32)) ((0 : Int32)) ((5 : Int32))) ?_
  intro p e s m below meth c T hby hml hret hnm hsh P
  refine o_iload P (hb hby de43_0) rfl (pc' := 2) rfl ?_
  refine o_iconst P (1 : Int32) (hb hby de43_2) rfl (pc' := 3) rfl ?_
  refine o_isub P (hb hby de43_3) (pc' := 4) rfl ?_
  show OG p e below m _ T 4 _ [(.int 4)]
  refine o_istore P (hb hby de43_4) (L' := #[.val .null, .val (.ref p0), .val (.int 0), .val (.int 0), .val (.int 5), .val (.int 4), .unset, .unset, .unset, .unset, .unset, .unset, .unset, .unset, .unset, .unset, .unset, .unset, .unset, .unset, .unset, .unset, .unset, .unset, .unset]) rfl (pc' := 6) rfl ?_
  refine o_iload P (hb hby de43_6) rfl (pc' := 8) rfl ?_
  refine o_iloadN P (hb hby de43_8) rfl (pc' := 9) rfl ?_
  refine o_isub P (hb hby de43_9) (pc' := 10) rfl ?_
  show OG p e below m _ T 10 _ [(.int 5)]
  refine o_istore P (hb hby de43_10) (L' := #[.val .null, .val (.ref p0), .val (.int 0), .val (.int 0), .val (.int 5), .val (.int 4), .val (.int 5), .unset, .unset, .unset, .unset, .unset, .unset, .unset, .unset, .unset, .unset, .unset, .unset, .unset, .unset, .unset, .unset, .unset, .unset]) rfl (pc' := 12) rfl ?_
  refine o_iload P (hb hby de43_12) rfl (pc' := 14) rfl ?_
  refine o_bipush P (65 : Int32) (hb hby de43_14) rfl (pc' := 16) rfl ?_
  refine o_iloadN P (hb hby de43_16) rfl (pc' := 17) rfl ?_
  refine o_iadd P (hb hby de43_17) (pc' := 18) rfl ?_
  show OG p e below m _ T 18 _ [(.int 65), (.int 5)]
  refine o_icmp_ge P (hb hby de43_18) (by decide) (pc' := 46) (by decide) (pcf := 21) rfl (fun q => absurd (by decide) q) (fun _ => ?_)
  refine o_iloadN P (hb hby de43_21) rfl (pc' := 22) rfl ?_
  refine o_iconst P (1 : Int32) (hb hby de43_22) rfl (pc' := 23) rfl ?_
  refine o_iand P (hb hby de43_23) (pc' := 24) rfl ?_
  show OG p e below m _ T 24 _ [(.int 0)]
  refine o_if_le P (hb hby de43_24) (by decide) (pc' := 46) (by decide) (pcf := 27) rfl (fun _ => ?_) (fun q => absurd q (by decide))
  refine o_iload P (hb hby de43_46) rfl (pc' := 48) rfl ?_
  refine o_bipush P (44 : Int32) (hb hby de43_48) rfl (pc' := 50) rfl ?_
  refine o_icmp_ge P (hb hby de43_50) (by decide) (pc' := 61) (by decide) (pcf := 53) rfl (fun q => absurd (by decide) q) (fun _ => ?_)
  refine o_aloadN P (hb hby de43_53) rfl rfl (pc' := 54) rfl ?_
  refine o_iloadN P (hb hby de43_54) rfl (pc' := 55) rfl ?_
  refine o_iload P (hb hby de43_55) rfl (pc' := 57) rfl ?_
  refine o_callS P (W := 0) (ow hw 222 rfl) (ow hw 223 rfl) (ow hw 217 rfl) (ow hw 224 rfl) (by decide) (ct_isort l Z a0 hw EL n0 p0 [x0, x0, x0, x0, x0] [(.long 0), (.long 0), (.long 0), (.long 0), (.long 0), (.long 0), (.long 0), (.long 0), (.long 0), (.long 0), (.long 0)] (5 : Int32) (by simp) (of_decide_eq_true rfl) rfl h0 A_p0) (o_sfS (List.Mem.head _) o_sf0) (by rw [hml]; rfl) (by decide) (by decide) (argsL := [(.ref p0), (.int 0), (.int 5)]) (rest := []) (lenOf pd_7 rfl) rfl rfl (Nat.le_of_eq rfl) (hb hby de43_57) (pc' := 60) rfl (by decide) (by decide) ?_
  clear P; intro T h1 v1 P K1 q1
  obtain ⟨rfl, A'⟩ := q1
  clear A_p0; have A_p0 : OArr Z h1 p0 .long [(.long (og [x0, x0, x0, x0, x0] 0)), (.long (og [x0, x0, x0, x0, x0] 1)), (.long (og [x0, x0, x0, x0, x0] 2)), (.long (og [x0, x0, x0, x0, x0] 3)), (.long (og [x0, x0, x0, x0, x0] 4)), (.long 0), (.long 0), (.long 0), (.long 0), (.long 0), (.long 0), (.long 0), (.long 0), (.long 0), (.long 0), (.long 0)] := A'.eq (by rw [own_lst5 (l := osort [x0, x0, x0, x0, x0]) (osort_len [x0, x0, x0, x0, x0])]; rfl); clear A' K1
  show OG p e below m _ T 60 _ []
  exact o_ret0 P hret (hb hby de43_60) (by decide) (by decide) ⟨rfl, A_p0, trivial⟩
theorem ef_ct_e74 (x0 : Addr) (x1 : Int32) (x2 : Int32) (x3 : Int32) (m : MethodId) : entryFrame m #[(.ref x0), (.int x1), (.int x2), (.int x3)] 7 = mkF m 0 #[.val (.ref x0), .val (.int x1), .val (.int x2), .val (.int x3), .unset, .unset, .unset] [] := by first | (simp [entryFrame, mkF, argsToLocals, o_catR, o_catN, o_catI, o_catJ, o_catD]; done) | rfl
theorem ct_e74 (l : Launch) (Z : State) (a0 : Array Value) (hw : OHw Z a0) (EL : List (String × Nat)) (n0 : Nat) (p0 : Addr) (x0 : Int64) (od oz : Addr) (hg : OGp Z od oz) (h0 : Heap) (A_p0 : OArr Z h0 p0 .long [(.long x0), (.long x0), (.long x0), (.long x0), (.long x0), (.long 0), (.long 0), (.long 0), (.long 0), (.long 0), (.long 0), (.long 0), (.long 0), (.long 0), (.long 0), (.long 0)])  :
    OCt l Z a0 EL n0 (⟨kD, "sort", "([JIII)V"⟩ : MethodName) jdk_2529_method_12_code 7 none ({ frames := 2, cells := 0, slots := 0, locals := 54 } : Room) [] #[(.ref p0), (.int 0), (.int 0), (.int 5)] h0 [p0] (fun w vm h => w = none ∧ OArr Z h p0 .long [(.long (og [x0, x0, x0, x0, x0] 0)), (.long (og [x0, x0, x0, x0, x0] 1)), (.long (og [x0, x0, x0, x0, x0] 2)), (.long (og [x0, x0, x0, x0, x0] 3)), (.long (og [x0, x0, x0, x0, x0] 4)), (.long 0), (.long 0), (.long 0), (.long 0), (.long 0), (.long 0), (.long 0), (.long 0), (.long 0), (.long 0), (.long 0)] ∧ True) := by
  refine OCt.body (plainFor_of_name pn_e5) (ef_ct_e74 p0 ((0 : Int32)) ((0 : Int32)) ((5 : Int32))) ?_
  intro p e s m below meth c T hby hml hret hnm hsh P
  refine o_iloadN P (hb hby de42_0) rfl (pc' := 1) rfl ?_
  refine o_iloadN P (hb hby de42_1) rfl (pc' := 2) rfl ?_
  refine o_isub P (hb hby de42_2) (pc' := 3) rfl ?_
  show OG p e below m _ T 3 _ [(.int 5)]
  refine o_istore P (hb hby de42_3) (L' := #[.val (.ref p0), .val (.int 0), .val (.int 0), .val (.int 5), .val (.int 5), .unset, .unset]) rfl (pc' := 5) rfl ?_
  refine o_iloadN P (hb hby de42_5) rfl (pc' := 6) rfl ?_
  refine o_iconst P (1 : Int32) (hb hby de42_6) rfl (pc' := 7) rfl ?_
  refine o_icmp_le P (hb hby de42_7) (by decide) (pc' := 68) (by decide) (pcf := 10) rfl (fun _ => ?_) (fun q => absurd q (by decide))
  refine o_aconstNull P (hb hby de42_68) (pc' := 69) rfl ?_
  refine o_aloadN P (hb hby de42_69) rfl rfl (pc' := 70) rfl ?_
  refine o_iconst P (0 : Int32) (hb hby de42_70) rfl (pc' := 71) rfl ?_
  refine o_iloadN P (hb hby de42_71) rfl (pc' := 72) rfl ?_
  refine o_iloadN P (hb hby de42_72) rfl (pc' := 73) rfl ?_
  have hn_1 := P.n0le; have hk_1 := P.keep0.1
  refine o_callS P (W := 0) (ow hw 219 rfl) (ow hw 220 rfl) (ow hw 217 rfl) (ow hw 221 rfl) (by decide) (ct_e73 l Z a0 hw EL n0 p0 x0 od oz hg h0 A_p0 ) (o_sfS (List.Mem.head _) o_sf0) (by rw [hml]; rfl) (by decide) (by decide) (argsL := [.null, (.ref p0), (.int 0), (.int 0), (.int 5)]) (rest := []) (lenOf pd_8 rfl) rfl rfl (Nat.le_of_eq rfl) (hb hby de42_73) (pc' := 76) rfl (by decide) (by decide) ?_
  clear P; intro T h2 v2 P K2 q2
  obtain ⟨rfl, Q_p0, -⟩ := q2
  clear A_p0
  have A_p0 := Q_p0; clear Q_p0
  clear K2 hn_1 hk_1
  show OG p e below m _ T 76 _ []
  exact o_ret0 P hret (hb hby de42_76) (by decide) (by decide) ⟨rfl, A_p0, trivial⟩
theorem ef_ct_e75 (x0 : Addr) (x1 : Int32) (x2 : Int32) (m : MethodId) : entryFrame m #[(.ref x0), (.int x1), (.int x2)] 3 = mkF m 0 #[.val (.ref x0), .val (.int x1), .val (.int x2)] [] := by first | (simp [entryFrame, mkF, argsToLocals, o_catR, o_catN, o_catI, o_catJ, o_catD]; done) | rfl
theorem ct_e75 (l : Launch) (Z : State) (a0 : Array Value) (hw : OHw Z a0) (EL : List (String × Nat)) (n0 : Nat) (p0 : Addr) (x0 : Int64) (od oz : Addr) (hg : OGp Z od oz) (h0 : Heap) (A_p0 : OArr Z h0 p0 .long [(.long x0), (.long x0), (.long x0), (.long x0), (.long x0), (.long 0), (.long 0), (.long 0), (.long 0), (.long 0), (.long 0), (.long 0), (.long 0), (.long 0), (.long 0), (.long 0)])  :
    OCt l Z a0 EL n0 (⟨"java/util/Arrays", "sort", "([JII)V"⟩ : MethodName) jdk_65_method_5_code 3 none ({ frames := 3, cells := 0, slots := 0, locals := 72 } : Room) [] #[(.ref p0), (.int 0), (.int 5)] h0 [p0] (fun w vm h => w = none ∧ OArr Z h p0 .long [(.long (og [x0, x0, x0, x0, x0] 0)), (.long (og [x0, x0, x0, x0, x0] 1)), (.long (og [x0, x0, x0, x0, x0] 2)), (.long (og [x0, x0, x0, x0, x0] 3)), (.long (og [x0, x0, x0, x0, x0] 4)), (.long 0), (.long 0), (.long 0), (.long 0), (.long 0), (.long 0), (.long 0), (.long 0), (.long 0), (.long 0), (.long 0)] ∧ True) := by
  refine OCt.body (plainFor_of_name pn_e4) (ef_ct_e75 p0 ((0 : Int32)) ((5 : Int32))) ?_
  intro p e s m below meth c T hby hml hret hnm hsh P
  refine o_aloadN P (hb hby de39_0) rfl rfl (pc' := 1) rfl ?_
  refine o_arrlen P A_p0 (hb hby de39_1) (n := (16 : Int32)) rfl (pc' := 2) rfl ?_
  refine o_iloadN P (hb hby de39_2) rfl (pc' := 3) rfl ?_
  refine o_iloadN P (hb hby de39_3) rfl (pc' := 4) rfl ?_
  refine o_callS P (W := 0) (ow hw 212 rfl) (ow hw 213 rfl) (ow hw 118 rfl) (ow hw 214 rfl) (by decide) (ct_e72 l Z a0 hw EL n0   od oz hg h0  ) o_sf0 (by rw [hml]; rfl) (by decide) (by decide) (argsL := [(.int 16), (.int 0), (.int 5)]) (rest := []) (lenOf pd_6 rfl) rfl rfl (Nat.le_of_eq rfl) (hb hby de39_4) (pc' := 7) rfl (by decide) (by decide) ?_
  clear P; intro T h2 v2 P K2 q2
  obtain ⟨rfl, rfl⟩ := q2; clear K2
  show OG p e below m _ T 7 _ []
  refine o_aloadN P (hb hby de39_7) rfl rfl (pc' := 8) rfl ?_
  refine o_iconst P (0 : Int32) (hb hby de39_8) rfl (pc' := 9) rfl ?_
  refine o_iloadN P (hb hby de39_9) rfl (pc' := 10) rfl ?_
  refine o_iloadN P (hb hby de39_10) rfl (pc' := 11) rfl ?_
  have hn_3 := P.n0le; have hk_3 := P.keep0.1
  refine o_callS P (W := 0) (ow hw 215 rfl) (ow hw 216 rfl) (ow hw 217 rfl) (ow hw 218 rfl) (by decide) (ct_e74 l Z a0 hw EL n0 p0 x0 od oz hg h2 A_p0 ) (o_sfS (List.Mem.head _) o_sf0) (by rw [hml]; rfl) (by decide) (by decide) (argsL := [(.ref p0), (.int 0), (.int 0), (.int 5)]) (rest := []) (lenOf pd_9 rfl) rfl rfl (Nat.le_of_eq rfl) (hb hby de39_11) (pc' := 14) rfl (by decide) (by decide) ?_
  clear P; intro T h4 v4 P K4 q4
  obtain ⟨rfl, Q_p0, -⟩ := q4
  clear A_p0
  have A_p0 := Q_p0; clear Q_p0
  clear K4 hn_3 hk_3
  show OG p e below m _ T 14 _ []
  exact o_ret0 P hret (hb hby de39_14) (by decide) (by decide) ⟨rfl, A_p0, trivial⟩
theorem ef_ct_e76 (x0 : Int32) (x1 : Int32) (m : MethodId) : entryFrame m #[(.int x0), (.int x1)] 2 = mkF m 0 #[.val (.int x0), .val (.int x1)] [] := by first | (simp [entryFrame, mkF, argsToLocals, o_catR, o_catN, o_catI, o_catJ, o_catD]; done) | rfl
theorem ct_e76 (l : Launch) (Z : State) (a0 : Array Value) (hw : OHw Z a0) (EL : List (String × Nat)) (n0 : Nat)   (od oz : Addr) (hg : OGp Z od oz) (h0 : Heap)   :
    OCt l Z a0 EL n0 (⟨kB, "checkRange", "(II)V"⟩ : MethodName) jdk_92_method_16_code 2 none ({ frames := 0, cells := 0, slots := 0, locals := 0 } : Room) [] #[(.int 0), (.int 6)] h0 [] (fun w vm h => w = none ∧ h = h0) := by
  refine OCt.body (plainFor_of_name pn_e0) (ef_ct_e76 ((0 : Int32)) ((6 : Int32))) ?_
  intro p e s m below meth c T hby hml hret hnm hsh P
  refine o_iloadN P (hb hby de48_0) rfl (pc' := 1) rfl ?_
  refine o_if_ge P (hb hby de48_1) (by decide) (pc' := 31) (by decide) (pcf := 4) rfl (fun _ => ?_) (fun q => absurd q (by decide))
  refine o_iloadN P (hb hby de48_31) rfl (pc' := 32) rfl ?_
  refine o_if_ge P (hb hby de48_32) (by decide) (pc' := 62) (by decide) (pcf := 35) rfl (fun _ => ?_) (fun q => absurd q (by decide))
  refine o_iloadN P (hb hby de48_62) rfl (pc' := 63) rfl ?_
  refine o_iloadN P (hb hby de48_63) rfl (pc' := 64) rfl ?_
  refine o_icmp_le P (hb hby de48_64) (by decide) (pc' := 103) (by decide) (pcf := 67) rfl (fun _ => ?_) (fun q => absurd q (by decide))
  exact o_ret0 P hret (hb hby de48_103) (by decide) (by decide) ⟨rfl, rfl⟩
theorem ef_ct_e77 (x0 : Addr) (x1 : Int32) (m : MethodId) : entryFrame m #[(.ref x0), (.int x1)] 3 = mkF m 0 #[.val (.ref x0), .val (.int x1), .unset] [] := by first | (simp [entryFrame, mkF, argsToLocals, o_catR, o_catN, o_catI, o_catJ, o_catD]; done) | rfl
theorem ct_e77 (l : Launch) (Z : State) (a0 : Array Value) (hw : OHw Z a0) (EL : List (String × Nat)) (n0 : Nat) (p0 : Addr) (p1 : Addr)  (od oz : Addr) (hg : OGp Z od oz) (h0 : Heap) (F_p0 : OObj Z h0 p0 kB [(kB, "wordsInUse", "I", (.int 1)), (kB, "sizeIsSticky", "Z", (.int 1)), (kB, "words", "[J", (.ref p1))]) (A_p1 : OArr Z h0 p1 .long [(.long 33)]) (ne_p0_p1 : p0 ≠ p1) :
    OCt l Z a0 EL n0 (⟨kB, "expandTo", "(I)V"⟩ : MethodName) jdk_92_method_15_code 3 none ({ frames := 0, cells := 0, slots := 0, locals := 0 } : Room) [] #[(.ref p0), (.int 0)] h0 [] (fun w vm h => w = none ∧ h = h0) := by
  refine OCt.body (plainFor_of_name pn_e0) (ef_ct_e77 p0 ((0 : Int32))) ?_
  intro p e s m below meth c T hby hml hret hnm hsh P
  refine o_iloadN P (hb hby de10_0) rfl (pc' := 1) rfl ?_
  refine o_iconst P (1 : Int32) (hb hby de10_1) rfl (pc' := 2) rfl ?_
  refine o_iadd P (hb hby de10_2) (pc' := 3) rfl ?_
  show OG p e below m _ T 3 _ [(.int 1)]
  refine o_istoreN P (hb hby de10_3) (L' := #[.val (.ref p0), .val (.int 0), .val (.int 1)]) rfl (pc' := 4) rfl ?_
  refine o_aloadN P (hb hby de10_4) rfl rfl (pc' := 5) rfl ?_
  refine o_getF P (ow hw 50 rfl) Via.refl (F_p0.fld 0 rfl) (hb hby de10_5) (pc' := 8) rfl ?_
  clear P; intro T P
  refine o_iloadN P (hb hby de10_8) rfl (pc' := 9) rfl ?_
  refine o_icmp_ge P (hb hby de10_9) (by decide) (pc' := 22) (by decide) (pcf := 12) rfl (fun _ => ?_) (fun q => absurd q (by decide))
  exact o_ret0 P hret (hb hby de10_22) (by decide) (by decide) ⟨rfl, rfl⟩
theorem ef_ct_e78 (x0 : Addr) (m : MethodId) : entryFrame m #[(.ref x0)] 1 = mkF m 0 #[.val (.ref x0)] [] := by first | (simp [entryFrame, mkF, argsToLocals, o_catR, o_catN, o_catI, o_catJ, o_catD]; done) | rfl
theorem ct_e78 (l : Launch) (Z : State) (a0 : Array Value) (hw : OHw Z a0) (EL : List (String × Nat)) (n0 : Nat) (p0 : Addr) (p1 : Addr)  (od oz : Addr) (hg : OGp Z od oz) (h0 : Heap) (F_p0 : OObj Z h0 p0 kB [(kB, "wordsInUse", "I", (.int 1)), (kB, "sizeIsSticky", "Z", (.int 1)), (kB, "words", "[J", (.ref p1))]) (A_p1 : OArr Z h0 p1 .long [(.long 63)]) (ne_p0_p1 : p0 ≠ p1) :
    OCt l Z a0 EL n0 (⟨kB, "checkInvariants", "()V"⟩ : MethodName) jdk_92_method_2_code 1 none ({ frames := 0, cells := 0, slots := 0, locals := 0 } : Room) [] #[(.ref p0)] h0 [] (fun w vm h => w = none ∧ h = h0) := by
  refine OCt.body (plainFor_of_name pn_e0) (ef_ct_e78 p0) ?_
  intro p e s m below meth c T hby hml hret hnm hsh P
  refine o_getS P (ow hw 86 rfl) Via.refl hg.1 (hb hby de14_0) (pc' := 3) rfl ?_
  clear P; intro T P
  refine o_if_ne P (hb hby de14_3) (by decide) (pc' := 37) (by decide) (pcf := 6) rfl (fun _ => ?_) (fun q => absurd q (by decide))
  refine o_getS P (ow hw 86 rfl) Via.refl hg.1 (hb hby de14_37) (pc' := 40) rfl ?_
  clear P; intro T P
  refine o_if_ne P (hb hby de14_40) (by decide) (pc' := 70) (by decide) (pcf := 43) rfl (fun _ => ?_) (fun q => absurd q (by decide))
  refine o_getS P (ow hw 86 rfl) Via.refl hg.1 (hb hby de14_70) (pc' := 73) rfl ?_
  clear P; intro T P
  refine o_if_ne P (hb hby de14_73) (by decide) (pc' := 110) (by decide) (pcf := 76) rfl (fun _ => ?_) (fun q => absurd q (by decide))
  exact o_ret0 P hret (hb hby de14_110) (by decide) (by decide) ⟨rfl, rfl⟩
theorem ef_ct_e79 (x0 : Addr) (x1 : Int32) (x2 : Int32) (m : MethodId) : entryFrame m #[(.ref x0), (.int x1), (.int x2)] 10 = mkF m 0 #[.val (.ref x0), .val (.int x1), .val (.int x2), .unset, .unset, .unset, .unset, .unset, .unset, .unset] [] := by first | (simp [entryFrame, mkF, argsToLocals, o_catR, o_catN, o_catI, o_catJ, o_catD]; done) | rfl
theorem ct_e79 (l : Launch) (Z : State) (a0 : Array Value) (hw : OHw Z a0) (EL : List (String × Nat)) (n0 : Nat) (p0 : Addr) (p1 : Addr)  (od oz : Addr) (hg : OGp Z od oz) (h0 : Heap) (F_p0 : OObj Z h0 p0 kB [(kB, "wordsInUse", "I", (.int 1)), (kB, "sizeIsSticky", "Z", (.int 1)), (kB, "words", "[J", (.ref p1))]) (A_p1 : OArr Z h0 p1 .long [(.long 33)]) (ne_p0_p1 : p0 ≠ p1) :
    OCt l Z a0 EL n0 (⟨kB, "set", "(II)V"⟩ : MethodName) jdk_92_method_21_code 10 none ({ frames := 1, cells := 0, slots := 0, locals := 14 } : Room) [] #[(.ref p0), (.int 0), (.int 6)] h0 [p1] (fun w vm h => w = none ∧ OArr Z h p1 .long [(.long 63)] ∧ True) := by
  refine OCt.body (plainFor_of_name pn_e0) (ef_ct_e79 p0 ((0 : Int32)) ((6 : Int32))) ?_
  intro p e s m below meth c T hby hml hret hnm hsh P
  refine o_iloadN P (hb hby de47_0) rfl (pc' := 1) rfl ?_
  refine o_iloadN P (hb hby de47_1) rfl (pc' := 2) rfl ?_
  refine o_callS P (W := 0) (ow hw 230 rfl) (ow hw 231 rfl) (ow hw 45 rfl) (ow hw 232 rfl) (by decide) (ct_e76 l Z a0 hw EL n0   od oz hg h0  ) o_sf0 (by rw [hml]; rfl) (by decide) (by decide) (argsL := [(.int 0), (.int 6)]) (rest := []) (lenOf pd_10 rfl) rfl rfl (Nat.le_of_eq rfl) (hb hby de47_2) (pc' := 5) rfl (by decide) (by decide) ?_
  clear P; intro T h2 v2 P K2 q2
  obtain ⟨rfl, rfl⟩ := q2; clear K2
  show OG p e below m _ T 5 _ []
  refine o_iloadN P (hb hby de47_5) rfl (pc' := 6) rfl ?_
  refine o_iloadN P (hb hby de47_6) rfl (pc' := 7) rfl ?_
  refine o_icmp_ne P (hb hby de47_7) (by decide) (pc' := 11) (by decide) (pcf := 10) rfl (fun _ => ?_) (fun q => absurd q (by decide))
  refine o_iloadN P (hb hby de47_11) rfl (pc' := 12) rfl ?_
  refine o_callS P (W := 0) (ow hw 59 rfl) (ow hw 60 rfl) (ow hw 45 rfl) (ow hw 61 rfl) (by decide) (ct_e9 l Z a0 hw EL n0   od oz hg h2  ) o_sf0 (by rw [hml]; rfl) (by decide) (by decide) (argsL := [(.int 0)]) (rest := []) (lenOf pd_0 rfl) rfl rfl (Nat.le_of_eq rfl) (hb hby de47_12) (pc' := 15) rfl (by decide) (by decide) ?_
  clear P; intro T h4 v4 P K4 q4
  obtain ⟨rfl, rfl⟩ := q4; clear K4
  show OG p e below m _ T 15 _ [(.int 0)]
  refine o_istoreN P (hb hby de47_15) (L' := #[.val (.ref p0), .val (.int 0), .val (.int 6), .val (.int 0), .unset, .unset, .unset, .unset, .unset, .unset]) rfl (pc' := 16) rfl ?_
  refine o_iloadN P (hb hby de47_16) rfl (pc' := 17) rfl ?_
  refine o_iconst P (1 : Int32) (hb hby de47_17) rfl (pc' := 18) rfl ?_
  refine o_isub P (hb hby de47_18) (pc' := 19) rfl ?_
  show OG p e below m _ T 19 _ [(.int 5)]
  refine o_callS P (W := 0) (ow hw 59 rfl) (ow hw 60 rfl) (ow hw 45 rfl) (ow hw 61 rfl) (by decide) (ct_e60 l Z a0 hw EL n0   od oz hg h4  ) o_sf0 (by rw [hml]; rfl) (by decide) (by decide) (argsL := [(.int 5)]) (rest := []) (lenOf pd_0 rfl) rfl rfl (Nat.le_of_eq rfl) (hb hby de47_19) (pc' := 22) rfl (by decide) (by decide) ?_
  clear P; intro T h6 v6 P K6 q6
  obtain ⟨rfl, rfl⟩ := q6; clear K6
  show OG p e below m _ T 22 _ [(.int 0)]
  refine o_istore P (hb hby de47_22) (L' := #[.val (.ref p0), .val (.int 0), .val (.int 6), .val (.int 0), .val (.int 0), .unset, .unset, .unset, .unset, .unset]) rfl (pc' := 24) rfl ?_
  refine o_aloadN P (hb hby de47_24) rfl rfl (pc' := 25) rfl ?_
  refine o_iload P (hb hby de47_25) rfl (pc' := 27) rfl ?_
  refine o_callP P (W := 0) (a := p0) (ow hw 71 rfl) (ow hw 72 rfl) (ow hw 74 rfl) (ow hw 73 rfl) (ow hw 45 rfl) (ow hw 75 rfl) (by decide) F_p0.exa (ct_e77 l Z a0 hw EL n0 p0 p1  od oz hg h6 F_p0 A_p1 ne_p0_p1) o_sf0 (by rw [hml]; rfl) (by decide) (by decide) (argsL := [(.int 0)]) (rest := []) (lenOf pd_1 rfl) rfl rfl (Nat.le_of_eq rfl) (hb hby de47_27) (pc' := 30) rfl (by decide) (by decide) ?_
  clear P; intro T h8 v8 P K8 q8
  obtain ⟨rfl, rfl⟩ := q8; clear K8
  show OG p e below m _ T 30 _ []
  refine o_ldc2L P (ow hw 188 rfl) (hb hby de47_30) (pc' := 33) rfl ?_
  refine o_iloadN P (hb hby de47_33) rfl (pc' := 34) rfl ?_
  refine o_lshl P (hb hby de47_34) (pc' := 35) rfl ?_
  show OG p e below m _ T 35 _ [(.long (-1))]
  refine o_lstore P (hb hby de47_35) (L' := #[.val (.ref p0), .val (.int 0), .val (.int 6), .val (.int 0), .val (.int 0), .val (.long (-1)), .second, .unset, .unset, .unset]) rfl (pc' := 37) rfl ?_
  refine o_ldc2L P (ow hw 188 rfl) (hb hby de47_37) (pc' := 40) rfl ?_
  refine o_iloadN P (hb hby de47_40) rfl (pc' := 41) rfl ?_
  refine o_ineg P (hb hby de47_41) (pc' := 42) rfl ?_
  show OG p e below m _ T 42 _ [(.int (-6)), (.long (-1))]
  refine o_lushr P (hb hby de47_42) (pc' := 43) rfl ?_
  show OG p e below m _ T 43 _ [(.long 63)]
  refine o_lstore P (hb hby de47_43) (L' := #[.val (.ref p0), .val (.int 0), .val (.int 6), .val (.int 0), .val (.int 0), .val (.long (-1)), .second, .val (.long 63), .second, .unset]) rfl (pc' := 45) rfl ?_
  refine o_iloadN P (hb hby de47_45) rfl (pc' := 46) rfl ?_
  refine o_iload P (hb hby de47_46) rfl (pc' := 48) rfl ?_
  refine o_icmp_ne P (hb hby de47_48) (by decide) (pc' := 68) (by decide) (pcf := 51) rfl (fun q => absurd (by decide) q) (fun _ => ?_)
  refine o_aloadN P (hb hby de47_51) rfl rfl (pc' := 52) rfl ?_
  refine o_getF P (ow hw 62 rfl) Via.refl (F_p0.fld 2 rfl) (hb hby de47_52) (pc' := 55) rfl ?_
  clear P; intro T P
  refine o_iloadN P (hb hby de47_55) rfl (pc' := 56) rfl ?_
  refine o_dup2 P (hb hby de47_56) rfl rfl (pc' := 57) rfl ?_
  refine o_laload P (v := (.long 33)) A_p1 (by decide) rfl (hb hby de47_57) (pc' := 58) rfl ?_
  refine o_lload P (hb hby de47_58) rfl (pc' := 60) rfl ?_
  refine o_lload P (hb hby de47_60) rfl (pc' := 62) rfl ?_
  refine o_land P (hb hby de47_62) (pc' := 63) rfl ?_
  show OG p e below m _ T 63 _ [(.long 63), (.long 33), (.int 0), (.ref p1)]
  refine o_lor P (hb hby de47_63) (pc' := 64) rfl ?_
  show OG p e below m _ T 64 _ [(.long 63), (.int 0), (.ref p1)]
  refine o_lastore P (v := (.long 63)) A_p1 (List.Mem.head _) (by decide) (of_decide_eq_true rfl) rfl (hb hby de47_64) (pc' := 65) rfl ?_
  clear P; clear A_p1; intro T h9 P W9 A_p1
  replace F_p0 := F_p0.oth W9 ne_p0_p1
  clear W9
  replace A_p1 : OArr Z h9 p1 .long [(.long 63)] := A_p1
  refine o_goto P (hb hby de47_65) (by decide) (pc' := 119) (by decide) ?_
  refine o_aloadN P (hb hby de47_119) rfl rfl (pc' := 120) rfl ?_
  refine o_callP P (W := 0) (a := p0) (ow hw 81 rfl) (ow hw 82 rfl) (ow hw 84 rfl) (ow hw 83 rfl) (ow hw 45 rfl) (ow hw 85 rfl) (by decide) F_p0.exa (ct_e78 l Z a0 hw EL n0 p0 p1  od oz hg h9 F_p0 A_p1 ne_p0_p1) o_sf0 (by rw [hml]; rfl) (by decide) (by decide) (argsL := []) (rest := []) (lenOf pd_2 rfl) rfl rfl (Nat.le_of_eq rfl) (hb hby de47_120) (pc' := 123) rfl (by decide) (by decide) ?_
  clear P; intro T h11 v11 P K11 q11
  obtain ⟨rfl, rfl⟩ := q11; clear K11
  show OG p e below m _ T 123 _ []
  exact o_ret0 P hret (hb hby de47_123) (by decide) (by decide) ⟨rfl, A_p1, trivial⟩
theorem ef_ct_e80 (x0 : Addr) (x1 : Int32) (m : MethodId) : entryFrame m #[(.ref x0), (.int x1)] 12 = mkF m 0 #[.val (.ref x0), .val (.int x1), .unset, .unset, .unset, .unset, .unset, .unset, .unset, .unset, .unset, .unset] [] := by first | (simp [entryFrame, mkF, argsToLocals, o_catR, o_catN, o_catI, o_catJ, o_catD]; done) | rfl
theorem ct_e80 (l : Launch) (Z : State) (a0 : Array Value) (hw : OHw Z a0) (EL : List (String × Nat)) (n0 : Nat) (p0 : Addr) (p1 : Addr) (p2 : Addr) (p3 : Addr) (x0 : Int64) (od oz : Addr) (hg : OGp Z od oz) (h0 : Heap) (F_p0 : OObj Z h0 p0 kS [(kS, "values", "[J", (.ref p1)), (kS, "cuts", "Ljava/util/BitSet;", (.ref p2))]) (A_p1 : OArr Z h0 p1 .long [(.long x0), (.long x0), (.long x0), (.long x0), (.long x0), (.long 0), (.long 0), (.long 0), (.long 0), (.long 0), (.long 0), (.long 0), (.long 0), (.long 0), (.long 0), (.long 0)]) (F_p2 : OObj Z h0 p2 kB [(kB, "wordsInUse", "I", (.int 1)), (kB, "sizeIsSticky", "Z", (.int 1)), (kB, "words", "[J", (.ref p3))]) (A_p3 : OArr Z h0 p3 .long [(.long 33)]) (ne_p0_p1 : p0 ≠ p1) (ne_p0_p2 : p0 ≠ p2) (ne_p0_p3 : p0 ≠ p3) (ne_p1_p2 : p1 ≠ p2) (ne_p1_p3 : p1 ≠ p3) (ne_p2_p3 : p2 ≠ p3) :
    OCt l Z a0 EL n0 (⟨kS, "settle", "(I)V"⟩ : MethodName) prog_15_method_3_code 12 none ({ frames := 4, cells := 0, slots := 0, locals := 86 } : Room) [] #[(.ref p0), (.int 0)] h0 [p1, p3] (fun w vm h => w = none ∧ OArr Z h p1 .long [(.long (og [x0, x0, x0, x0, x0] 0)), (.long (og [x0, x0, x0, x0, x0] 1)), (.long (og [x0, x0, x0, x0, x0] 2)), (.long (og [x0, x0, x0, x0, x0] 3)), (.long (og [x0, x0, x0, x0, x0] 4)), (.long 0), (.long 0), (.long 0), (.long 0), (.long 0), (.long 0), (.long 0), (.long 0), (.long 0), (.long 0), (.long 0)] ∧ OArr Z h p3 .long [(.long 63)] ∧ True) := by
  refine OCt.body (plainFor_of_name pn_e1) (ef_ct_e80 p0 ((0 : Int32))) ?_
  intro p e s m below meth c T hby hml hret hnm hsh P
  refine o_aloadN P (hb hby de22_0) rfl rfl (pc' := 1) rfl ?_
  refine o_getF P (ow hw 64 rfl) Via.refl (F_p0.fld 1 rfl) (hb hby de22_1) (pc' := 4) rfl ?_
  clear P; intro T P
  refine o_iloadN P (hb hby de22_4) rfl (pc' := 5) rfl ?_
  refine o_callV P (W := 0) (a := p2) (ow hw 97 rfl) (ow hw 98 rfl) (o_nfSl (ow hw 100 rfl)) (ow hw 100 rfl) (ow hw 99 rfl) (ow hw 45 rfl) (ow hw 101 rfl) (by decide) F_p2.exa (ct_e66 l Z a0 hw EL n0 p2 p3  od oz hg h0 F_p2 A_p3 ne_p2_p3) o_sf0 (by rw [hml]; rfl) (by decide) (by decide) (argsL := [(.int 0)]) (rest := []) (lenOf pd_4 rfl) rfl rfl (Nat.le_of_eq rfl) (hb hby de22_5) (pc' := 8) rfl (by decide) (by decide) ?_
  clear P; intro T h2 v2 P K2 q2
  obtain ⟨rfl, rfl⟩ := q2; clear K2
  show OG p e below m _ T 8 _ [(.int 1)]
  refine o_if_eq P (hb hby de22_8) (by decide) (pc' := 25) (by decide) (pcf := 11) rfl (fun q => absurd q (by decide)) (fun _ => ?_)
  refine o_aloadN P (hb hby de22_11) rfl rfl (pc' := 12) rfl ?_
  refine o_getF P (ow hw 64 rfl) Via.refl (F_p0.fld 1 rfl) (hb hby de22_12) (pc' := 15) rfl ?_
  clear P; intro T P
  refine o_iloadN P (hb hby de22_15) rfl (pc' := 16) rfl ?_
  refine o_iconst P (1 : Int32) (hb hby de22_16) rfl (pc' := 17) rfl ?_
  refine o_iadd P (hb hby de22_17) (pc' := 18) rfl ?_
  show OG p e below m _ T 18 _ [(.int 1), (.ref p2)]
  refine o_callV P (W := 0) (a := p2) (ow hw 97 rfl) (ow hw 98 rfl) (o_nfSl (ow hw 100 rfl)) (ow hw 100 rfl) (ow hw 99 rfl) (ow hw 45 rfl) (ow hw 101 rfl) (by decide) F_p2.exa (ct_e67 l Z a0 hw EL n0 p2 p3  od oz hg h2 F_p2 A_p3 ne_p2_p3) o_sf0 (by rw [hml]; rfl) (by decide) (by decide) (argsL := [(.int 1)]) (rest := []) (lenOf pd_4 rfl) rfl rfl (Nat.le_of_eq rfl) (hb hby de22_18) (pc' := 21) rfl (by decide) (by decide) ?_
  clear P; intro T h4 v4 P K4 q4
  obtain ⟨rfl, rfl⟩ := q4; clear K4
  show OG p e below m _ T 21 _ [(.int 0)]
  refine o_if_eq P (hb hby de22_21) (by decide) (pc' := 25) (by decide) (pcf := 24) rfl (fun _ => ?_) (fun q => absurd (by decide) q)
  refine o_aloadN P (hb hby de22_25) rfl rfl (pc' := 26) rfl ?_
  refine o_getF P (ow hw 64 rfl) Via.refl (F_p0.fld 1 rfl) (hb hby de22_26) (pc' := 29) rfl ?_
  clear P; intro T P
  refine o_iloadN P (hb hby de22_29) rfl (pc' := 30) rfl ?_
  refine o_callV P (W := 0) (a := p2) (ow hw 183 rfl) (ow hw 184 rfl) (o_nfSl (ow hw 186 rfl)) (ow hw 186 rfl) (ow hw 185 rfl) (ow hw 45 rfl) (ow hw 187 rfl) (by decide) F_p2.exa (ct_e68 l Z a0 hw EL n0 p2 p3  od oz hg h4 F_p2 A_p3 ne_p2_p3) o_sf0 (by rw [hml]; rfl) (by decide) (by decide) (argsL := [(.int 0)]) (rest := []) (lenOf pd_0 rfl) rfl rfl (Nat.le_of_eq rfl) (hb hby de22_30) (pc' := 33) rfl (by decide) (by decide) ?_
  clear P; intro T h6 v6 P K6 q6
  obtain ⟨rfl, rfl⟩ := q6; clear K6
  show OG p e below m _ T 33 _ [(.int 0)]
  refine o_istoreN P (hb hby de22_33) (L' := #[.val (.ref p0), .val (.int 0), .val (.int 0), .unset, .unset, .unset, .unset, .unset, .unset, .unset, .unset, .unset]) rfl (pc' := 34) rfl ?_
  refine o_aloadN P (hb hby de22_34) rfl rfl (pc' := 35) rfl ?_
  refine o_getF P (ow hw 64 rfl) Via.refl (F_p0.fld 1 rfl) (hb hby de22_35) (pc' := 38) rfl ?_
  clear P; intro T P
  refine o_iloadN P (hb hby de22_38) rfl (pc' := 39) rfl ?_
  refine o_iconst P (1 : Int32) (hb hby de22_39) rfl (pc' := 40) rfl ?_
  refine o_iadd P (hb hby de22_40) (pc' := 41) rfl ?_
  show OG p e below m _ T 41 _ [(.int 1), (.ref p2)]
  refine o_callV P (W := 0) (a := p2) (ow hw 198 rfl) (ow hw 199 rfl) (o_nfSl (ow hw 201 rfl)) (ow hw 201 rfl) (ow hw 200 rfl) (ow hw 45 rfl) (ow hw 202 rfl) (by decide) F_p2.exa (ct_e71 l Z a0 hw EL n0 p2 p3  od oz hg h6 F_p2 A_p3 ne_p2_p3) o_sf0 (by rw [hml]; rfl) (by decide) (by decide) (argsL := [(.int 1)]) (rest := []) (lenOf pd_0 rfl) rfl rfl (Nat.le_of_eq rfl) (hb hby de22_41) (pc' := 44) rfl (by decide) (by decide) ?_
  clear P; intro T h8 v8 P K8 q8
  obtain ⟨rfl, rfl⟩ := q8; clear K8
  show OG p e below m _ T 44 _ [(.int 5)]
  refine o_istoreN P (hb hby de22_44) (L' := #[.val (.ref p0), .val (.int 0), .val (.int 0), .val (.int 5), .unset, .unset, .unset, .unset, .unset, .unset, .unset, .unset]) rfl (pc' := 45) rfl ?_
  refine o_iconst P (0 : Int32) (hb hby de22_45) rfl (pc' := 46) rfl ?_
  refine o_istore P (hb hby de22_46) (L' := #[.val (.ref p0), .val (.int 0), .val (.int 0), .val (.int 5), .val (.int 0), .unset, .unset, .unset, .unset, .unset, .unset, .unset]) rfl (pc' := 48) rfl ?_
  refine o_iloadN P (hb hby de22_48) rfl (pc' := 49) rfl ?_
  refine o_iloadN P (hb hby de22_49) rfl (pc' := 50) rfl ?_
  refine o_isub P (hb hby de22_50) (pc' := 51) rfl ?_
  show OG p e below m _ T 51 _ [(.int 5)]
  refine o_sipush P (256 : Int32) (hb hby de22_51) rfl (pc' := 54) rfl ?_
  refine o_icmp_le P (hb hby de22_54) (by decide) (pc' := 303) (by decide) (pcf := 57) rfl (fun _ => ?_) (fun q => absurd q (by decide))
  refine o_aloadN P (hb hby de22_303) rfl rfl (pc' := 304) rfl ?_
  refine o_getF P (ow hw 41 rfl) Via.refl (F_p0.fld 0 rfl) (hb hby de22_304) (pc' := 307) rfl ?_
  clear P; intro T P
  refine o_iloadN P (hb hby de22_307) rfl (pc' := 308) rfl ?_
  refine o_iloadN P (hb hby de22_308) rfl (pc' := 309) rfl ?_
  have hn_9 := P.n0le; have hk_9 := P.keep0.1
  refine o_callS P (W := 0) (ow hw 209 rfl) (ow hw 210 rfl) (ow hw 118 rfl) (ow hw 211 rfl) (by decide) (ct_e75 l Z a0 hw EL n0 p1 x0 od oz hg h8 A_p1 ) (o_sfS (List.Mem.head _) o_sf0) (by rw [hml]; rfl) (by decide) (by decide) (argsL := [(.ref p1), (.int 0), (.int 5)]) (rest := []) (lenOf pd_7 rfl) rfl rfl (Nat.le_of_eq rfl) (hb hby de22_309) (pc' := 312) rfl (by decide) (by decide) ?_
  clear P; intro T h10 v10 P K10 q10
  obtain ⟨rfl, Q_p1, -⟩ := q10
  replace F_p0 := F_p0.keep K10 (ninS ne_p0_p1 nin0)
  replace F_p2 := F_p2.keep K10 (ninS (Ne.symm ne_p1_p2) nin0)
  replace A_p3 := A_p3.keep K10 (ninS (Ne.symm ne_p1_p3) nin0)
  clear A_p1
  have A_p1 := Q_p1; clear Q_p1
  clear K10 hn_9 hk_9
  show OG p e below m _ T 312 _ []
  refine o_aloadN P (hb hby de22_312) rfl rfl (pc' := 313) rfl ?_
  refine o_getF P (ow hw 64 rfl) Via.refl (F_p0.fld 1 rfl) (hb hby de22_313) (pc' := 316) rfl ?_
  clear P; intro T P
  refine o_iloadN P (hb hby de22_316) rfl (pc' := 317) rfl ?_
  refine o_iloadN P (hb hby de22_317) rfl (pc' := 318) rfl ?_
  refine o_iconst P (1 : Int32) (hb hby de22_318) rfl (pc' := 319) rfl ?_
  refine o_iadd P (hb hby de22_319) (pc' := 320) rfl ?_
  show OG p e below m _ T 320 _ [(.int 6), (.int 0), (.ref p2)]
  have hn_11 := P.n0le; have hk_11 := P.keep0.1
  refine o_callV P (W := 0) (a := p2) (ow hw 225 rfl) (ow hw 226 rfl) (o_nfSl (ow hw 228 rfl)) (ow hw 228 rfl) (ow hw 227 rfl) (ow hw 45 rfl) (ow hw 229 rfl) (by decide) F_p2.exa (ct_e79 l Z a0 hw EL n0 p2 p3  od oz hg h10 F_p2 A_p3 ne_p2_p3) (o_sfS (List.Mem.tail _ (List.Mem.head _)) o_sf0) (by rw [hml]; rfl) (by decide) (by decide) (argsL := [(.int 0), (.int 6)]) (rest := []) (lenOf pd_10 rfl) rfl rfl (Nat.le_of_eq rfl) (hb hby de22_320) (pc' := 323) rfl (by decide) (by decide) ?_
  clear P; intro T h12 v12 P K12 q12
  obtain ⟨rfl, Q_p3, -⟩ := q12
  replace F_p0 := F_p0.keep K12 (ninS ne_p0_p3 nin0)
  replace F_p2 := F_p2.keep K12 (ninS ne_p2_p3 nin0)
  replace A_p1 := A_p1.keep K12 (ninS ne_p1_p3 nin0)
  clear A_p3
  have A_p3 := Q_p3; clear Q_p3
  clear K12 hn_11 hk_11
  show OG p e below m _ T 323 _ []
  exact o_ret0 P hret (hb hby de22_323) (by decide) (by decide) ⟨rfl, A_p1, A_p3, trivial⟩
theorem ef_ct_e81 (x0 : Addr) (x1 : Int32) (m : MethodId) : entryFrame m #[(.ref x0), (.int x1)] 2 = mkF m 0 #[.val (.ref x0), .val (.int x1)] [] := by first | (simp [entryFrame, mkF, argsToLocals, o_catR, o_catN, o_catI, o_catJ, o_catD]; done) | rfl
theorem ct_e81 (l : Launch) (Z : State) (a0 : Array Value) (hw : OHw Z a0) (EL : List (String × Nat)) (n0 : Nat) (p0 : Addr) (p1 : Addr) (p2 : Addr) (p3 : Addr) (x0 : Int64) (od oz : Addr) (hg : OGp Z od oz) (h0 : Heap) (F_p0 : OObj Z h0 p0 kS [(kS, "values", "[J", (.ref p1)), (kS, "cuts", "Ljava/util/BitSet;", (.ref p2))]) (A_p1 : OArr Z h0 p1 .long [(.long x0), (.long x0), (.long x0), (.long x0), (.long x0), (.long 0), (.long 0), (.long 0), (.long 0), (.long 0), (.long 0), (.long 0), (.long 0), (.long 0), (.long 0), (.long 0)]) (F_p2 : OObj Z h0 p2 kB [(kB, "wordsInUse", "I", (.int 1)), (kB, "sizeIsSticky", "Z", (.int 1)), (kB, "words", "[J", (.ref p3))]) (A_p3 : OArr Z h0 p3 .long [(.long 33)]) (ne_p0_p1 : p0 ≠ p1) (ne_p0_p2 : p0 ≠ p2) (ne_p0_p3 : p0 ≠ p3) (ne_p1_p2 : p1 ≠ p2) (ne_p1_p3 : p1 ≠ p3) (ne_p2_p3 : p2 ≠ p3) :
    OCt l Z a0 EL n0 (⟨kS, "valueAt", "(I)J"⟩ : MethodName) prog_15_method_2_code 2 (some .long) ({ frames := 5, cells := 0, slots := 0, locals := 109 } : Room) [] #[(.ref p0), (.int 0)] h0 [p1, p3] (fun w vm h => w = some (.long (og [x0, x0, x0, x0, x0] 0)) ∧ OArr Z h p1 .long [(.long (og [x0, x0, x0, x0, x0] 0)), (.long (og [x0, x0, x0, x0, x0] 1)), (.long (og [x0, x0, x0, x0, x0] 2)), (.long (og [x0, x0, x0, x0, x0] 3)), (.long (og [x0, x0, x0, x0, x0] 4)), (.long 0), (.long 0), (.long 0), (.long 0), (.long 0), (.long 0), (.long 0), (.long 0), (.long 0), (.long 0), (.long 0)] ∧ OArr Z h p3 .long [(.long 63)] ∧ True) := by
  refine OCt.body (plainFor_of_name pn_e1) (ef_ct_e81 p0 ((0 : Int32))) ?_
  intro p e s m below meth c T hby hml hret hnm hsh P
  refine o_aloadN P (hb hby de21_0) rfl rfl (pc' := 1) rfl ?_
  refine o_iloadN P (hb hby de21_1) rfl (pc' := 2) rfl ?_
  have hn_1 := P.n0le; have hk_1 := P.keep0.1
  refine o_callQ P (W := 0) (a := p0) (ow hw 93 rfl) (ow hw 94 rfl) (ow hw 35 rfl) (ow hw 95 rfl) (ow hw 36 rfl) (ow hw 96 rfl) (by decide) F_p0.exa (ct_e80 l Z a0 hw EL n0 p0 p1 p2 p3 x0 od oz hg h0 F_p0 A_p1 F_p2 A_p3 ne_p0_p1 ne_p0_p2 ne_p0_p3 ne_p1_p2 ne_p1_p3 ne_p2_p3) (o_sfS (List.Mem.head _) (o_sfS (List.Mem.tail _ (List.Mem.head _)) o_sf0)) (by rw [hml]; rfl) (by decide) (by decide) (argsL := [(.int 0)]) (rest := []) (lenOf pd_1 rfl) rfl rfl (Nat.le_of_eq rfl) (hb hby de21_2) (pc' := 5) rfl (by decide) (by decide) ?_
  clear P; intro T h2 v2 P K2 q2
  obtain ⟨rfl, Q_p1, Q_p3, -⟩ := q2
  replace F_p0 := F_p0.keep K2 (ninS ne_p0_p1 (ninS ne_p0_p3 nin0))
  replace F_p2 := F_p2.keep K2 (ninS (Ne.symm ne_p1_p2) (ninS ne_p2_p3 nin0))
  clear A_p1
  have A_p1 := Q_p1; clear Q_p1
  clear A_p3
  have A_p3 := Q_p3; clear Q_p3
  clear K2 hn_1 hk_1
  show OG p e below m _ T 5 _ []
  refine o_aloadN P (hb hby de21_5) rfl rfl (pc' := 6) rfl ?_
  refine o_getF P (ow hw 41 rfl) Via.refl (F_p0.fld 0 rfl) (hb hby de21_6) (pc' := 9) rfl ?_
  clear P; intro T P
  refine o_iloadN P (hb hby de21_9) rfl (pc' := 10) rfl ?_
  refine o_laload P (v := (.long (og [x0, x0, x0, x0, x0] 0))) A_p1 (by decide) rfl (hb hby de21_10) (pc' := 11) rfl ?_
  exact o_retL P hret (hb hby de21_11) (by decide) (by decide) ⟨rfl, A_p1, A_p3, trivial⟩
theorem ef_ct_e82 (x0 : Addr) (x1 : Int32) (m : MethodId) : entryFrame m #[(.ref x0), (.int x1)] 3 = mkF m 0 #[.val (.ref x0), .val (.int x1), .unset] [] := by first | (simp [entryFrame, mkF, argsToLocals, o_catR, o_catN, o_catI, o_catJ, o_catD]; done) | rfl
theorem ct_e82 (l : Launch) (Z : State) (a0 : Array Value) (hw : OHw Z a0) (EL : List (String × Nat)) (n0 : Nat) (p0 : Addr) (p1 : Addr) (x0 : Int32) (od oz : Addr) (hg : OGp Z od oz) (hr0 : 1 ≤ x0.toInt) (hr1 : x0.toInt ≤ 4) (h0 : Heap) (F_p0 : OObj Z h0 p0 kB [(kB, "wordsInUse", "I", (.int 1)), (kB, "sizeIsSticky", "Z", (.int 1)), (kB, "words", "[J", (.ref p1))]) (A_p1 : OArr Z h0 p1 .long [(.long 33)]) (ne_p0_p1 : p0 ≠ p1) :
    OCt l Z a0 EL n0 (⟨kB, "get", "(I)Z"⟩ : MethodName) jdk_92_method_26_code 3 (some .boolean) ({ frames := 1, cells := 0, slots := 0, locals := 12 } : Room) [] #[(.ref p0), (.int x0)] h0 [] (fun w vm h => w = some (.int 0) ∧ h = h0) := by
  refine OCt.body (plainFor_of_name pn_e0) (ef_ct_e82 p0 x0) ?_
  intro p e s m below meth c T hby hml hret hnm hsh P
  refine o_iloadN P (hb hby de23_0) rfl (pc' := 1) rfl ?_
  refine o_if_ge P (hb hby de23_1) (by decide) (pc' := 31) (by decide) (pcf := 4) rfl (fun _ => ?_) (fun q => absurd q (own_nn x0 (by omega)))
  refine o_aloadN P (hb hby de23_31) rfl rfl (pc' := 32) rfl ?_
  refine o_callP P (W := 0) (a := p0) (ow hw 81 rfl) (ow hw 82 rfl) (ow hw 84 rfl) (ow hw 83 rfl) (ow hw 45 rfl) (ow hw 85 rfl) (by decide) F_p0.exa (ct_e63 l Z a0 hw EL n0 p0 p1  od oz hg h0 F_p0 A_p1 ne_p0_p1) o_sf0 (by rw [hml]; rfl) (by decide) (by decide) (argsL := []) (rest := []) (lenOf pd_2 rfl) rfl rfl (Nat.le_of_eq rfl) (hb hby de23_32) (pc' := 35) rfl (by decide) (by decide) ?_
  clear P; intro T h2 v2 P K2 q2
  obtain ⟨rfl, rfl⟩ := q2; clear K2
  show OG p e below m _ T 35 _ []
  refine o_iloadN P (hb hby de23_35) rfl (pc' := 36) rfl ?_
  refine o_callS P (W := 0) (ow hw 59 rfl) (ow hw 60 rfl) (ow hw 45 rfl) (ow hw 61 rfl) (by decide) (ct_wi l Z a0 hw EL n0 x0 (by omega) (by omega) h2) o_sf0 (by rw [hml]; rfl) (by decide) (by decide) (argsL := [(.int x0)]) (rest := []) (lenOf pd_0 rfl) rfl rfl (Nat.le_of_eq rfl) (hb hby de23_36) (pc' := 39) rfl (by decide) (by decide) ?_
  clear P; intro T h3 v3 P K3 q3
  obtain ⟨rfl, rfl⟩ := q3; clear K3
  show OG p e below m _ T 39 _ [(.int 0)]
  refine o_istoreN P (hb hby de23_39) (L' := #[.val (.ref p0), .val (.int x0), .val (.int 0)]) rfl (pc' := 40) rfl ?_
  refine o_iloadN P (hb hby de23_40) rfl (pc' := 41) rfl ?_
  refine o_aloadN P (hb hby de23_41) rfl rfl (pc' := 42) rfl ?_
  refine o_getF P (ow hw 50 rfl) Via.refl (F_p0.fld 0 rfl) (hb hby de23_42) (pc' := 45) rfl ?_
  clear P; intro T P
  refine o_icmp_ge P (hb hby de23_45) (by decide) (pc' := 67) (by decide) (pcf := 48) rfl (fun q => absurd (by decide) q) (fun _ => ?_)
  refine o_aloadN P (hb hby de23_48) rfl rfl (pc' := 49) rfl ?_
  refine o_getF P (ow hw 62 rfl) Via.refl (F_p0.fld 2 rfl) (hb hby de23_49) (pc' := 52) rfl ?_
  clear P; intro T P
  refine o_iloadN P (hb hby de23_52) rfl (pc' := 53) rfl ?_
  refine o_laload P (v := (.long 33)) A_p1 (by decide) rfl (hb hby de23_53) (pc' := 54) rfl ?_
  refine o_lconst P (1 : Int64) (hb hby de23_54) rfl (pc' := 55) rfl ?_
  refine o_iloadN P (hb hby de23_55) rfl (pc' := 56) rfl ?_
  refine o_lshl P (hb hby de23_56) (pc' := 57) rfl ?_
  refine o_land P (hb hby de23_57) (pc' := 58) rfl ?_
  refine o_lconst P (0 : Int64) (hb hby de23_58) rfl (pc' := 59) rfl ?_
  refine o_lcmp P (hb hby de23_59) (pc' := 60) rfl ?_
  rw [own_bit5 x0 hr0 hr1]
  show OG p e below m _ T 60 _ [(.int 0)]
  refine o_if_eq P (hb hby de23_60) (by decide) (pc' := 67) (by decide) (pcf := 63) rfl (fun _ => ?_) (fun q => absurd (by decide) q)
  refine o_iconst P (0 : Int32) (hb hby de23_67) rfl (pc' := 68) rfl ?_
  exact o_retI P hret (by simp) rfl (hb hby de23_68) (by decide) (by decide) ⟨rfl, rfl⟩
theorem ef_ct_e83 (x0 : Addr) (x1 : Int32) (m : MethodId) : entryFrame m #[(.ref x0), (.int x1)] 5 = mkF m 0 #[.val (.ref x0), .val (.int x1), .unset, .unset, .unset] [] := by first | (simp [entryFrame, mkF, argsToLocals, o_catR, o_catN, o_catI, o_catJ, o_catD]; done) | rfl
theorem ct_e83 (l : Launch) (Z : State) (a0 : Array Value) (hw : OHw Z a0) (EL : List (String × Nat)) (n0 : Nat) (p0 : Addr) (p1 : Addr) (x0 : Int32) (od oz : Addr) (hg : OGp Z od oz) (hr0 : 1 ≤ x0.toInt) (hr1 : x0.toInt ≤ 4) (h0 : Heap) (F_p0 : OObj Z h0 p0 kB [(kB, "wordsInUse", "I", (.int 1)), (kB, "sizeIsSticky", "Z", (.int 1)), (kB, "words", "[J", (.ref p1))]) (A_p1 : OArr Z h0 p1 .long [(.long 33)]) (ne_p0_p1 : p0 ≠ p1) :
    OCt l Z a0 EL n0 (⟨kB, "previousSetBit", "(I)I"⟩ : MethodName) jdk_92_method_30_code 5 (some .int) ({ frames := 2, cells := 0, slots := 0, locals := 29 } : Room) [] #[(.ref p0), (.int x0)] h0 [] (fun w vm h => w = some (.int 0) ∧ h = h0) := by
  refine OCt.body (plainFor_of_name pn_e0) (ef_ct_e83 p0 x0) ?_
  intro p e s m below meth c T hby hml hret hnm hsh P
  refine o_iloadN P (hb hby de27_0) rfl (pc' := 1) rfl ?_
  refine o_if_ge P (hb hby de27_1) (by decide) (pc' := 38) (by decide) (pcf := 4) rfl (fun _ => ?_) (fun q => absurd q (own_nn x0 (by omega)))
  refine o_aloadN P (hb hby de27_38) rfl rfl (pc' := 39) rfl ?_
  refine o_callP P (W := 0) (a := p0) (ow hw 81 rfl) (ow hw 82 rfl) (ow hw 84 rfl) (ow hw 83 rfl) (ow hw 45 rfl) (ow hw 85 rfl) (by decide) F_p0.exa (ct_e63 l Z a0 hw EL n0 p0 p1  od oz hg h0 F_p0 A_p1 ne_p0_p1) o_sf0 (by rw [hml]; rfl) (by decide) (by decide) (argsL := []) (rest := []) (lenOf pd_2 rfl) rfl rfl (Nat.le_of_eq rfl) (hb hby de27_39) (pc' := 42) rfl (by decide) (by decide) ?_
  clear P; intro T h2 v2 P K2 q2
  obtain ⟨rfl, rfl⟩ := q2; clear K2
  show OG p e below m _ T 42 _ []
  refine o_iloadN P (hb hby de27_42) rfl (pc' := 43) rfl ?_
  refine o_callS P (W := 0) (ow hw 59 rfl) (ow hw 60 rfl) (ow hw 45 rfl) (ow hw 61 rfl) (by decide) (ct_wi l Z a0 hw EL n0 x0 (by omega) (by omega) h2) o_sf0 (by rw [hml]; rfl) (by decide) (by decide) (argsL := [(.int x0)]) (rest := []) (lenOf pd_0 rfl) rfl rfl (Nat.le_of_eq rfl) (hb hby de27_43) (pc' := 46) rfl (by decide) (by decide) ?_
  clear P; intro T h3 v3 P K3 q3
  obtain ⟨rfl, rfl⟩ := q3; clear K3
  show OG p e below m _ T 46 _ [(.int 0)]
  refine o_istoreN P (hb hby de27_46) (L' := #[.val (.ref p0), .val (.int x0), .val (.int 0), .unset, .unset]) rfl (pc' := 47) rfl ?_
  refine o_iloadN P (hb hby de27_47) rfl (pc' := 48) rfl ?_
  refine o_aloadN P (hb hby de27_48) rfl rfl (pc' := 49) rfl ?_
  refine o_getF P (ow hw 50 rfl) Via.refl (F_p0.fld 0 rfl) (hb hby de27_49) (pc' := 52) rfl ?_
  clear P; intro T P
  refine o_icmp_lt P (hb hby de27_52) (by decide) (pc' := 62) (by decide) (pcf := 55) rfl (fun _ => ?_) (fun q => absurd (by decide) q)
  refine o_aloadN P (hb hby de27_62) rfl rfl (pc' := 63) rfl ?_
  refine o_getF P (ow hw 62 rfl) Via.refl (F_p0.fld 2 rfl) (hb hby de27_63) (pc' := 66) rfl ?_
  clear P; intro T P
  refine o_iloadN P (hb hby de27_66) rfl (pc' := 67) rfl ?_
  refine o_laload P (v := (.long 33)) A_p1 (by decide) rfl (hb hby de27_67) (pc' := 68) rfl ?_
  refine o_ldc2L P (ow hw 188 rfl) (hb hby de27_68) (pc' := 71) rfl ?_
  refine o_iloadN P (hb hby de27_71) rfl (pc' := 72) rfl ?_
  refine o_iconst P (1 : Int32) (hb hby de27_72) rfl (pc' := 73) rfl ?_
  refine o_iadd P (hb hby de27_73) (pc' := 74) rfl ?_
  refine o_ineg P (hb hby de27_74) (pc' := 75) rfl ?_
  refine o_lushr P (hb hby de27_75) (pc' := 76) rfl ?_
  refine o_land P (hb hby de27_76) (pc' := 77) rfl ?_
  refine o_lstoreN P (hb hby de27_77) (L' := #[.val (.ref p0), .val (.int x0), .val (.int 0), .val (.long ((33 : Int64) &&& (((-1 : Int64).toUInt64 >>> ((-(x0 + (1 : Int32))) &&& 0x3f).toInt64.toUInt64).toInt64))), .second]) rfl (pc' := 78) rfl ?_
  refine o_lloadN P (hb hby de27_78) rfl (pc' := 79) rfl ?_
  refine o_lconst P (0 : Int64) (hb hby de27_79) rfl (pc' := 80) rfl ?_
  refine o_lcmp P (hb hby de27_80) (pc' := 81) rfl ?_
  rw [own_prev5 x0 hr0 hr1]
  show OG p e below m _ T 81 _ [(.int 1)]
  refine o_if_eq P (hb hby de27_81) (by decide) (pc' := 98) (by decide) (pcf := 84) rfl (fun q => absurd q (by decide)) (fun _ => ?_)
  refine o_iloadN P (hb hby de27_84) rfl (pc' := 85) rfl ?_
  refine o_iconst P (1 : Int32) (hb hby de27_85) rfl (pc' := 86) rfl ?_
  refine o_iadd P (hb hby de27_86) (pc' := 87) rfl ?_
  show OG p e below m _ T 87 _ [(.int 1)]
  refine o_bipush P (64 : Int32) (hb hby de27_87) rfl (pc' := 89) rfl ?_
  refine o_imul P (hb hby de27_89) (pc' := 90) rfl ?_
  show OG p e below m _ T 90 _ [(.int 64)]
  refine o_iconst P (1 : Int32) (hb hby de27_90) rfl (pc' := 91) rfl ?_
  refine o_isub P (hb hby de27_91) (pc' := 92) rfl ?_
  show OG p e below m _ T 92 _ [(.int 63)]
  refine o_lloadN P (hb hby de27_92) rfl (pc' := 93) rfl ?_
  refine o_callS P (W := 1) (ow hw 189 rfl) (ow hw 190 rfl) (ow hw 191 rfl) (ow hw 192 rfl) (by decide) (ct_e31 l Z a0 hw EL n0   od oz hg h3  ) o_sf0 (by rw [hml]; rfl) (by decide) (by decide) (argsL := [(.long 1)]) (rest := [(.int 63)]) (lenOf pd_5 rfl) rfl rfl (Nat.le_of_eq rfl) (hb hby de27_93) (pc' := 96) rfl (by decide) (by decide) ?_
  clear P; intro T h5 v5 P K5 q5
  obtain ⟨rfl, rfl⟩ := q5; clear K5
  show OG p e below m _ T 96 _ [(.int 63), (.int 63)]
  refine o_isub P (hb hby de27_96) (pc' := 97) rfl ?_
  show OG p e below m _ T 97 _ [(.int 0)]
  exact o_retI P hret (by simp) rfl (hb hby de27_97) (by decide) (by decide) ⟨rfl, rfl⟩
theorem ef_ct_e84 (x0 : Addr) (x1 : Int32) (m : MethodId) : entryFrame m #[(.ref x0), (.int x1)] 5 = mkF m 0 #[.val (.ref x0), .val (.int x1), .unset, .unset, .unset] [] := by first | (simp [entryFrame, mkF, argsToLocals, o_catR, o_catN, o_catI, o_catJ, o_catD]; done) | rfl
theorem ct_e84 (l : Launch) (Z : State) (a0 : Array Value) (hw : OHw Z a0) (EL : List (String × Nat)) (n0 : Nat) (p0 : Addr) (p1 : Addr) (x0 : Int32) (od oz : Addr) (hg : OGp Z od oz) (hr0 : 2 ≤ x0.toInt) (hr1 : x0.toInt ≤ 5) (h0 : Heap) (F_p0 : OObj Z h0 p0 kB [(kB, "wordsInUse", "I", (.int 1)), (kB, "sizeIsSticky", "Z", (.int 1)), (kB, "words", "[J", (.ref p1))]) (A_p1 : OArr Z h0 p1 .long [(.long 33)]) (ne_p0_p1 : p0 ≠ p1) :
    OCt l Z a0 EL n0 (⟨kB, "nextSetBit", "(I)I"⟩ : MethodName) jdk_92_method_28_code 5 (some .int) ({ frames := 2, cells := 0, slots := 0, locals := 28 } : Room) [] #[(.ref p0), (.int x0)] h0 [] (fun w vm h => w = some (.int 5) ∧ h = h0) := by
  refine OCt.body (plainFor_of_name pn_e0) (ef_ct_e84 p0 x0) ?_
  intro p e s m below meth c T hby hml hret hnm hsh P
  refine o_iloadN P (hb hby de33_0) rfl (pc' := 1) rfl ?_
  refine o_if_ge P (hb hby de33_1) (by decide) (pc' := 31) (by decide) (pcf := 4) rfl (fun _ => ?_) (fun q => absurd q (own_nn x0 (by omega)))
  refine o_aloadN P (hb hby de33_31) rfl rfl (pc' := 32) rfl ?_
  refine o_callP P (W := 0) (a := p0) (ow hw 81 rfl) (ow hw 82 rfl) (ow hw 84 rfl) (ow hw 83 rfl) (ow hw 45 rfl) (ow hw 85 rfl) (by decide) F_p0.exa (ct_e63 l Z a0 hw EL n0 p0 p1  od oz hg h0 F_p0 A_p1 ne_p0_p1) o_sf0 (by rw [hml]; rfl) (by decide) (by decide) (argsL := []) (rest := []) (lenOf pd_2 rfl) rfl rfl (Nat.le_of_eq rfl) (hb hby de33_32) (pc' := 35) rfl (by decide) (by decide) ?_
  clear P; intro T h2 v2 P K2 q2
  obtain ⟨rfl, rfl⟩ := q2; clear K2
  show OG p e below m _ T 35 _ []
  refine o_iloadN P (hb hby de33_35) rfl (pc' := 36) rfl ?_
  refine o_callS P (W := 0) (ow hw 59 rfl) (ow hw 60 rfl) (ow hw 45 rfl) (ow hw 61 rfl) (by decide) (ct_wi l Z a0 hw EL n0 x0 (by omega) (by omega) h2) o_sf0 (by rw [hml]; rfl) (by decide) (by decide) (argsL := [(.int x0)]) (rest := []) (lenOf pd_0 rfl) rfl rfl (Nat.le_of_eq rfl) (hb hby de33_36) (pc' := 39) rfl (by decide) (by decide) ?_
  clear P; intro T h3 v3 P K3 q3
  obtain ⟨rfl, rfl⟩ := q3; clear K3
  show OG p e below m _ T 39 _ [(.int 0)]
  refine o_istoreN P (hb hby de33_39) (L' := #[.val (.ref p0), .val (.int x0), .val (.int 0), .unset, .unset]) rfl (pc' := 40) rfl ?_
  refine o_iloadN P (hb hby de33_40) rfl (pc' := 41) rfl ?_
  refine o_aloadN P (hb hby de33_41) rfl rfl (pc' := 42) rfl ?_
  refine o_getF P (ow hw 50 rfl) Via.refl (F_p0.fld 0 rfl) (hb hby de33_42) (pc' := 45) rfl ?_
  clear P; intro T P
  refine o_icmp_lt P (hb hby de33_45) (by decide) (pc' := 50) (by decide) (pcf := 48) rfl (fun _ => ?_) (fun q => absurd (by decide) q)
  refine o_aloadN P (hb hby de33_50) rfl rfl (pc' := 51) rfl ?_
  refine o_getF P (ow hw 62 rfl) Via.refl (F_p0.fld 2 rfl) (hb hby de33_51) (pc' := 54) rfl ?_
  clear P; intro T P
  refine o_iloadN P (hb hby de33_54) rfl (pc' := 55) rfl ?_
  refine o_laload P (v := (.long 33)) A_p1 (by decide) rfl (hb hby de33_55) (pc' := 56) rfl ?_
  refine o_ldc2L P (ow hw 188 rfl) (hb hby de33_56) (pc' := 59) rfl ?_
  refine o_iloadN P (hb hby de33_59) rfl (pc' := 60) rfl ?_
  refine o_lshl P (hb hby de33_60) (pc' := 61) rfl ?_
  refine o_land P (hb hby de33_61) (pc' := 62) rfl ?_
  refine o_lstoreN P (hb hby de33_62) (L' := #[.val (.ref p0), .val (.int x0), .val (.int 0), .val (.long ((33 : Int64) &&& ((-1 : Int64) <<< (x0 &&& 0x3f).toInt64))), .second]) rfl (pc' := 63) rfl ?_
  refine o_lloadN P (hb hby de33_63) rfl (pc' := 64) rfl ?_
  refine o_lconst P (0 : Int64) (hb hby de33_64) rfl (pc' := 65) rfl ?_
  refine o_lcmp P (hb hby de33_65) (pc' := 66) rfl ?_
  rw [own_next5 x0 hr0 hr1]
  show OG p e below m _ T 66 _ [(.int 1)]
  refine o_if_eq P (hb hby de33_66) (by decide) (pc' := 79) (by decide) (pcf := 69) rfl (fun q => absurd q (by decide)) (fun _ => ?_)
  refine o_iloadN P (hb hby de33_69) rfl (pc' := 70) rfl ?_
  refine o_bipush P (64 : Int32) (hb hby de33_70) rfl (pc' := 72) rfl ?_
  refine o_imul P (hb hby de33_72) (pc' := 73) rfl ?_
  show OG p e below m _ T 73 _ [(.int 0)]
  refine o_lloadN P (hb hby de33_73) rfl (pc' := 74) rfl ?_
  refine o_callS P (W := 1) (ow hw 203 rfl) (ow hw 204 rfl) (ow hw 191 rfl) (ow hw 205 rfl) (by decide) (ct_e70 l Z a0 hw EL n0   od oz hg h3  ) o_sf0 (by rw [hml]; rfl) (by decide) (by decide) (argsL := [(.long 32)]) (rest := [(.int 0)]) (lenOf pd_5 rfl) rfl rfl (Nat.le_of_eq rfl) (hb hby de33_74) (pc' := 77) rfl (by decide) (by decide) ?_
  clear P; intro T h5 v5 P K5 q5
  obtain ⟨rfl, rfl⟩ := q5; clear K5
  show OG p e below m _ T 77 _ [(.int 5), (.int 0)]
  refine o_iadd P (hb hby de33_77) (pc' := 78) rfl ?_
  show OG p e below m _ T 78 _ [(.int 5)]
  exact o_retI P hret (by simp) rfl (hb hby de33_78) (by decide) (by decide) ⟨rfl, rfl⟩
theorem ef_ct_e85 (x0 : Addr) (x1 : Int32) (m : MethodId) : entryFrame m #[(.ref x0), (.int x1)] 12 = mkF m 0 #[.val (.ref x0), .val (.int x1), .unset, .unset, .unset, .unset, .unset, .unset, .unset, .unset, .unset, .unset] [] := by first | (simp [entryFrame, mkF, argsToLocals, o_catR, o_catN, o_catI, o_catJ, o_catD]; done) | rfl
theorem ct_e85 (l : Launch) (Z : State) (a0 : Array Value) (hw : OHw Z a0) (EL : List (String × Nat)) (n0 : Nat) (p0 : Addr) (p1 : Addr) (p2 : Addr) (p3 : Addr) (x0 : Int32) (x1 : Int64) (od oz : Addr) (hg : OGp Z od oz) (hr0 : 1 ≤ x0.toInt) (hr1 : x0.toInt ≤ 4) (h0 : Heap) (F_p0 : OObj Z h0 p0 kS [(kS, "values", "[J", (.ref p1)), (kS, "cuts", "Ljava/util/BitSet;", (.ref p2))]) (A_p1 : OArr Z h0 p1 .long [(.long x1), (.long x1), (.long x1), (.long x1), (.long x1), (.long 0), (.long 0), (.long 0), (.long 0), (.long 0), (.long 0), (.long 0), (.long 0), (.long 0), (.long 0), (.long 0)]) (F_p2 : OObj Z h0 p2 kB [(kB, "wordsInUse", "I", (.int 1)), (kB, "sizeIsSticky", "Z", (.int 1)), (kB, "words", "[J", (.ref p3))]) (A_p3 : OArr Z h0 p3 .long [(.long 33)]) (ne_p0_p1 : p0 ≠ p1) (ne_p0_p2 : p0 ≠ p2) (ne_p0_p3 : p0 ≠ p3) (ne_p1_p2 : p1 ≠ p2) (ne_p1_p3 : p1 ≠ p3) (ne_p2_p3 : p2 ≠ p3) :
    OCt l Z a0 EL n0 (⟨kS, "settle", "(I)V"⟩ : MethodName) prog_15_method_3_code 12 none ({ frames := 4, cells := 0, slots := 0, locals := 86 } : Room) [] #[(.ref p0), (.int x0)] h0 [p1, p3] (fun w vm h => w = none ∧ OArr Z h p1 .long [(.long (og [x1, x1, x1, x1, x1] 0)), (.long (og [x1, x1, x1, x1, x1] 1)), (.long (og [x1, x1, x1, x1, x1] 2)), (.long (og [x1, x1, x1, x1, x1] 3)), (.long (og [x1, x1, x1, x1, x1] 4)), (.long 0), (.long 0), (.long 0), (.long 0), (.long 0), (.long 0), (.long 0), (.long 0), (.long 0), (.long 0), (.long 0)] ∧ OArr Z h p3 .long [(.long 63)] ∧ True) := by
  refine OCt.body (plainFor_of_name pn_e1) (ef_ct_e85 p0 x0) ?_
  intro p e s m below meth c T hby hml hret hnm hsh P
  refine o_aloadN P (hb hby de22_0) rfl rfl (pc' := 1) rfl ?_
  refine o_getF P (ow hw 64 rfl) Via.refl (F_p0.fld 1 rfl) (hb hby de22_1) (pc' := 4) rfl ?_
  clear P; intro T P
  refine o_iloadN P (hb hby de22_4) rfl (pc' := 5) rfl ?_
  refine o_callV P (W := 0) (a := p2) (ow hw 97 rfl) (ow hw 98 rfl) (o_nfSl (ow hw 100 rfl)) (ow hw 100 rfl) (ow hw 99 rfl) (ow hw 45 rfl) (ow hw 101 rfl) (by decide) F_p2.exa (ct_e82 l Z a0 hw EL n0 p2 p3 x0 od oz hg hr0 hr1 h0 F_p2 A_p3 ne_p2_p3) o_sf0 (by rw [hml]; rfl) (by decide) (by decide) (argsL := [(.int x0)]) (rest := []) (lenOf pd_4 rfl) rfl rfl (Nat.le_of_eq rfl) (hb hby de22_5) (pc' := 8) rfl (by decide) (by decide) ?_
  clear P; intro T h2 v2 P K2 q2
  obtain ⟨rfl, rfl⟩ := q2; clear K2
  show OG p e below m _ T 8 _ [(.int 0)]
  refine o_if_eq P (hb hby de22_8) (by decide) (pc' := 25) (by decide) (pcf := 11) rfl (fun _ => ?_) (fun q => absurd (by decide) q)
  refine o_aloadN P (hb hby de22_25) rfl rfl (pc' := 26) rfl ?_
  refine o_getF P (ow hw 64 rfl) Via.refl (F_p0.fld 1 rfl) (hb hby de22_26) (pc' := 29) rfl ?_
  clear P; intro T P
  refine o_iloadN P (hb hby de22_29) rfl (pc' := 30) rfl ?_
  refine o_callV P (W := 0) (a := p2) (ow hw 183 rfl) (ow hw 184 rfl) (o_nfSl (ow hw 186 rfl)) (ow hw 186 rfl) (ow hw 185 rfl) (ow hw 45 rfl) (ow hw 187 rfl) (by decide) F_p2.exa (ct_e83 l Z a0 hw EL n0 p2 p3 x0 od oz hg hr0 hr1 h2 F_p2 A_p3 ne_p2_p3) o_sf0 (by rw [hml]; rfl) (by decide) (by decide) (argsL := [(.int x0)]) (rest := []) (lenOf pd_0 rfl) rfl rfl (Nat.le_of_eq rfl) (hb hby de22_30) (pc' := 33) rfl (by decide) (by decide) ?_
  clear P; intro T h4 v4 P K4 q4
  obtain ⟨rfl, rfl⟩ := q4; clear K4
  show OG p e below m _ T 33 _ [(.int 0)]
  refine o_istoreN P (hb hby de22_33) (L' := #[.val (.ref p0), .val (.int x0), .val (.int 0), .unset, .unset, .unset, .unset, .unset, .unset, .unset, .unset, .unset]) rfl (pc' := 34) rfl ?_
  refine o_aloadN P (hb hby de22_34) rfl rfl (pc' := 35) rfl ?_
  refine o_getF P (ow hw 64 rfl) Via.refl (F_p0.fld 1 rfl) (hb hby de22_35) (pc' := 38) rfl ?_
  clear P; intro T P
  refine o_iloadN P (hb hby de22_38) rfl (pc' := 39) rfl ?_
  refine o_iconst P (1 : Int32) (hb hby de22_39) rfl (pc' := 40) rfl ?_
  refine o_iadd P (hb hby de22_40) (pc' := 41) rfl ?_
  refine o_callV P (W := 0) (a := p2) (ow hw 198 rfl) (ow hw 199 rfl) (o_nfSl (ow hw 201 rfl)) (ow hw 201 rfl) (ow hw 200 rfl) (ow hw 45 rfl) (ow hw 202 rfl) (by decide) F_p2.exa (ct_e84 l Z a0 hw EL n0 p2 p3 ((x0 + (1 : Int32))) od oz hg (own_s1 x0 hr0 (by omega)).1 (by have := (own_s1 x0 hr0 (by omega)).2; omega) h4 F_p2 A_p3 ne_p2_p3) o_sf0 (by rw [hml]; rfl) (by decide) (by decide) (argsL := [(.int (x0 + (1 : Int32)))]) (rest := []) (lenOf pd_0 rfl) rfl rfl (Nat.le_of_eq rfl) (hb hby de22_41) (pc' := 44) rfl (by decide) (by decide) ?_
  clear P; intro T h6 v6 P K6 q6
  obtain ⟨rfl, rfl⟩ := q6; clear K6
  show OG p e below m _ T 44 _ [(.int 5)]
  refine o_istoreN P (hb hby de22_44) (L' := #[.val (.ref p0), .val (.int x0), .val (.int 0), .val (.int 5), .unset, .unset, .unset, .unset, .unset, .unset, .unset, .unset]) rfl (pc' := 45) rfl ?_
  refine o_iconst P (0 : Int32) (hb hby de22_45) rfl (pc' := 46) rfl ?_
  refine o_istore P (hb hby de22_46) (L' := #[.val (.ref p0), .val (.int x0), .val (.int 0), .val (.int 5), .val (.int 0), .unset, .unset, .unset, .unset, .unset, .unset, .unset]) rfl (pc' := 48) rfl ?_
  refine o_iloadN P (hb hby de22_48) rfl (pc' := 49) rfl ?_
  refine o_iloadN P (hb hby de22_49) rfl (pc' := 50) rfl ?_
  refine o_isub P (hb hby de22_50) (pc' := 51) rfl ?_
  show OG p e below m _ T 51 _ [(.int 5)]
  refine o_sipush P (256 : Int32) (hb hby de22_51) rfl (pc' := 54) rfl ?_
  refine o_icmp_le P (hb hby de22_54) (by decide) (pc' := 303) (by decide) (pcf := 57) rfl (fun _ => ?_) (fun q => absurd q (by decide))
  refine o_aloadN P (hb hby de22_303) rfl rfl (pc' := 304) rfl ?_
  refine o_getF P (ow hw 41 rfl) Via.refl (F_p0.fld 0 rfl) (hb hby de22_304) (pc' := 307) rfl ?_
  clear P; intro T P
  refine o_iloadN P (hb hby de22_307) rfl (pc' := 308) rfl ?_
  refine o_iloadN P (hb hby de22_308) rfl (pc' := 309) rfl ?_
  have hn_7 := P.n0le; have hk_7 := P.keep0.1
  refine o_callS P (W := 0) (ow hw 209 rfl) (ow hw 210 rfl) (ow hw 118 rfl) (ow hw 211 rfl) (by decide) (ct_e75 l Z a0 hw EL n0 p1 x1 od oz hg h6 A_p1 ) (o_sfS (List.Mem.head _) o_sf0) (by rw [hml]; rfl) (by decide) (by decide) (argsL := [(.ref p1), (.int 0), (.int 5)]) (rest := []) (lenOf pd_7 rfl) rfl rfl (Nat.le_of_eq rfl) (hb hby de22_309) (pc' := 312) rfl (by decide) (by decide) ?_
  clear P; intro T h8 v8 P K8 q8
  obtain ⟨rfl, Q_p1, -⟩ := q8
  replace F_p0 := F_p0.keep K8 (ninS ne_p0_p1 nin0)
  replace F_p2 := F_p2.keep K8 (ninS (Ne.symm ne_p1_p2) nin0)
  replace A_p3 := A_p3.keep K8 (ninS (Ne.symm ne_p1_p3) nin0)
  clear A_p1
  have A_p1 := Q_p1; clear Q_p1
  clear K8 hn_7 hk_7
  show OG p e below m _ T 312 _ []
  refine o_aloadN P (hb hby de22_312) rfl rfl (pc' := 313) rfl ?_
  refine o_getF P (ow hw 64 rfl) Via.refl (F_p0.fld 1 rfl) (hb hby de22_313) (pc' := 316) rfl ?_
  clear P; intro T P
  refine o_iloadN P (hb hby de22_316) rfl (pc' := 317) rfl ?_
  refine o_iloadN P (hb hby de22_317) rfl (pc' := 318) rfl ?_
  refine o_iconst P (1 : Int32) (hb hby de22_318) rfl (pc' := 319) rfl ?_
  refine o_iadd P (hb hby de22_319) (pc' := 320) rfl ?_
  show OG p e below m _ T 320 _ [(.int 6), (.int 0), (.ref p2)]
  have hn_9 := P.n0le; have hk_9 := P.keep0.1
  refine o_callV P (W := 0) (a := p2) (ow hw 225 rfl) (ow hw 226 rfl) (o_nfSl (ow hw 228 rfl)) (ow hw 228 rfl) (ow hw 227 rfl) (ow hw 45 rfl) (ow hw 229 rfl) (by decide) F_p2.exa (ct_e79 l Z a0 hw EL n0 p2 p3  od oz hg h8 F_p2 A_p3 ne_p2_p3) (o_sfS (List.Mem.tail _ (List.Mem.head _)) o_sf0) (by rw [hml]; rfl) (by decide) (by decide) (argsL := [(.int 0), (.int 6)]) (rest := []) (lenOf pd_10 rfl) rfl rfl (Nat.le_of_eq rfl) (hb hby de22_320) (pc' := 323) rfl (by decide) (by decide) ?_
  clear P; intro T h10 v10 P K10 q10
  obtain ⟨rfl, Q_p3, -⟩ := q10
  replace F_p0 := F_p0.keep K10 (ninS ne_p0_p3 nin0)
  replace F_p2 := F_p2.keep K10 (ninS ne_p2_p3 nin0)
  replace A_p1 := A_p1.keep K10 (ninS ne_p1_p3 nin0)
  clear A_p3
  have A_p3 := Q_p3; clear Q_p3
  clear K10 hn_9 hk_9
  show OG p e below m _ T 323 _ []
  exact o_ret0 P hret (hb hby de22_323) (by decide) (by decide) ⟨rfl, A_p1, A_p3, trivial⟩
theorem ef_ct_e86 (x0 : Addr) (x1 : Int32) (m : MethodId) : entryFrame m #[(.ref x0), (.int x1)] 2 = mkF m 0 #[.val (.ref x0), .val (.int x1)] [] := by first | (simp [entryFrame, mkF, argsToLocals, o_catR, o_catN, o_catI, o_catJ, o_catD]; done) | rfl
theorem ct_e86 (l : Launch) (Z : State) (a0 : Array Value) (hw : OHw Z a0) (EL : List (String × Nat)) (n0 : Nat) (p0 : Addr) (p1 : Addr) (p2 : Addr) (p3 : Addr) (x0 : Int32) (x1 : Int64) (od oz : Addr) (hg : OGp Z od oz) (hr0 : 1 ≤ x0.toInt) (hr1 : x0.toInt ≤ 4) (h0 : Heap) (F_p0 : OObj Z h0 p0 kS [(kS, "values", "[J", (.ref p1)), (kS, "cuts", "Ljava/util/BitSet;", (.ref p2))]) (A_p1 : OArr Z h0 p1 .long [(.long x1), (.long x1), (.long x1), (.long x1), (.long x1), (.long 0), (.long 0), (.long 0), (.long 0), (.long 0), (.long 0), (.long 0), (.long 0), (.long 0), (.long 0), (.long 0)]) (F_p2 : OObj Z h0 p2 kB [(kB, "wordsInUse", "I", (.int 1)), (kB, "sizeIsSticky", "Z", (.int 1)), (kB, "words", "[J", (.ref p3))]) (A_p3 : OArr Z h0 p3 .long [(.long 33)]) (ne_p0_p1 : p0 ≠ p1) (ne_p0_p2 : p0 ≠ p2) (ne_p0_p3 : p0 ≠ p3) (ne_p1_p2 : p1 ≠ p2) (ne_p1_p3 : p1 ≠ p3) (ne_p2_p3 : p2 ≠ p3) :
    OCt l Z a0 EL n0 (⟨kS, "valueAt", "(I)J"⟩ : MethodName) prog_15_method_2_code 2 (some .long) ({ frames := 5, cells := 0, slots := 0, locals := 109 } : Room) [] #[(.ref p0), (.int x0)] h0 [p1, p3] (fun w vm h => w = some (.long (og [x1, x1, x1, x1, x1] x0.toNatClampNeg)) ∧ OArr Z h p1 .long [(.long (og [x1, x1, x1, x1, x1] 0)), (.long (og [x1, x1, x1, x1, x1] 1)), (.long (og [x1, x1, x1, x1, x1] 2)), (.long (og [x1, x1, x1, x1, x1] 3)), (.long (og [x1, x1, x1, x1, x1] 4)), (.long 0), (.long 0), (.long 0), (.long 0), (.long 0), (.long 0), (.long 0), (.long 0), (.long 0), (.long 0), (.long 0)] ∧ OArr Z h p3 .long [(.long 63)] ∧ True) := by
  refine OCt.body (plainFor_of_name pn_e1) (ef_ct_e86 p0 x0) ?_
  intro p e s m below meth c T hby hml hret hnm hsh P
  refine o_aloadN P (hb hby de21_0) rfl rfl (pc' := 1) rfl ?_
  refine o_iloadN P (hb hby de21_1) rfl (pc' := 2) rfl ?_
  have hn_1 := P.n0le; have hk_1 := P.keep0.1
  refine o_callQ P (W := 0) (a := p0) (ow hw 93 rfl) (ow hw 94 rfl) (ow hw 35 rfl) (ow hw 95 rfl) (ow hw 36 rfl) (ow hw 96 rfl) (by decide) F_p0.exa (ct_e85 l Z a0 hw EL n0 p0 p1 p2 p3 x0 x1 od oz hg hr0 hr1 h0 F_p0 A_p1 F_p2 A_p3 ne_p0_p1 ne_p0_p2 ne_p0_p3 ne_p1_p2 ne_p1_p3 ne_p2_p3) (o_sfS (List.Mem.head _) (o_sfS (List.Mem.tail _ (List.Mem.head _)) o_sf0)) (by rw [hml]; rfl) (by decide) (by decide) (argsL := [(.int x0)]) (rest := []) (lenOf pd_1 rfl) rfl rfl (Nat.le_of_eq rfl) (hb hby de21_2) (pc' := 5) rfl (by decide) (by decide) ?_
  clear P; intro T h2 v2 P K2 q2
  obtain ⟨rfl, Q_p1, Q_p3, -⟩ := q2
  replace F_p0 := F_p0.keep K2 (ninS ne_p0_p1 (ninS ne_p0_p3 nin0))
  replace F_p2 := F_p2.keep K2 (ninS (Ne.symm ne_p1_p2) (ninS ne_p2_p3 nin0))
  clear A_p1
  have A_p1 := Q_p1; clear Q_p1
  clear A_p3
  have A_p3 := Q_p3; clear Q_p3
  clear K2 hn_1 hk_1
  show OG p e below m _ T 5 _ []
  refine o_aloadN P (hb hby de21_5) rfl rfl (pc' := 6) rfl ?_
  refine o_getF P (ow hw 41 rfl) Via.refl (F_p0.fld 0 rfl) (hb hby de21_6) (pc' := 9) rfl ?_
  clear P; intro T P
  refine o_iloadN P (hb hby de21_9) rfl (pc' := 10) rfl ?_
  refine o_laload P (v := (.long (og [x1, x1, x1, x1, x1] x0.toNatClampNeg))) A_p1 (own_nn x0 (by omega)) (by rcases own_rng5 x0 (by omega) (by omega) with rfl | rfl | rfl | rfl | rfl <;> rfl) (hb hby de21_10) (pc' := 11) rfl ?_
  exact o_retL P hret (hb hby de21_11) (by decide) (by decide) ⟨rfl, A_p1, A_p3, trivial⟩
theorem ct_at5od (l : Launch) (Z : State) (a0 : Array Value) (hw : OHw Z a0) (EL : List (String × Nat)) (n0 : Nat) (p0 p1 : Addr) (x0 : Int32) (vx vy : Int64) (od oz : Addr) (hg : OGp Z od oz) (hp0 : 1 ≤ x0.toInt) (hp1 : x0.toInt ≤ 5) (h0 : Heap) (F_p0 : OObj Z h0 p0 kK [(kK, "keys", "[J", (.ref p1)), (kK, "size", "I", (.int 5)), (kK, "selection", kSd, .null)]) (A_p1 : OArr Z h0 p1 .long [(.long vx), (.long vx), (.long vx), (.long vx), (.long vx), (.long 0), (.long 0), (.long 0), (.long 0), (.long 0), (.long 0), (.long 0), (.long 0), (.long 0), (.long 0), (.long 0)]) (ne_p0_p1 : p0 ≠ p1) :
    OCt l Z a0 EL n0 (⟨kK, "at", "(ILcom/example/centile/centile/function/Order;)J"⟩ : MethodName) prog_11_method_6_code 4 (some .long) ({ frames := 6, cells := 3, slots := 6, locals := 122 } : Room) [] #[(.ref p0), (.int x0), (.ref od)] h0 [p0, p1] (fun w vm h => w = some (.long (og [vx, vx, vx, vx, vx] ((x0 - (1 : Int32))).toNatClampNeg))) := by
  refine OCt.body (plainFor_of_name pn_e6) (ef_at5od p0 x0 od) ?_
  intro p e s m below meth c T hby hml hret hnm hsh P
  refine o_aloadN P (hb hby de1_0) rfl rfl (pc' := 1) rfl ?_
  refine o_getF P (ow hw 27 rfl) Via.refl (F_p0.fld 2 rfl) (hb hby de1_1) (pc' := 4) rfl ?_
  clear P; intro T P
  refine o_ifnonnullN P (hb hby de1_4) (pc' := 7) rfl ?_
  refine o_aloadN P (hb hby de1_7) rfl rfl (pc' := 8) rfl ?_
  have hz_b1 := P.keep0.1
  refine o_new P [(kS, "values", "[J", .null), (kS, "cuts", "Ljava/util/BitSet;", .null)] (ow hw 34 rfl) (ow hw 35 rfl) (ow hw 36 rfl) (OLd.cons (Or.inr (ow hw 42 rfl)) (ty := (.array .long)) (by decide) rfl (OLd.cons (Or.inr (ow hw 65 rfl)) (ty := (.object kB)) (by decide) rfl OLd.nil)) (by decide +kernel) (hb hby de1_8) (pc' := 11) rfl (by decide) (by decide) ?_
  clear P; intro T h1 b1 P K1 hb_b1 F_b1
  have sz_b1 := Nat.le_trans hz_b1 hb_b1
  clear hz_b1
  have ne_p0_b1 := F_p0.nb hb_b1
  have ne_p1_b1 := A_p1.nb hb_b1
  replace F_p0 := F_p0.keep K1 nin0
  replace A_p1 := A_p1.keep K1 nin0
  clear K1
  refine o_dup P (hb hby de1_11) rfl (pc' := 12) rfl ?_
  refine o_aloadN P (hb hby de1_12) rfl rfl (pc' := 13) rfl ?_
  refine o_getF P (ow hw 13 rfl) Via.refl (F_p0.fld 0 rfl) (hb hby de1_13) (pc' := 16) rfl ?_
  clear P; intro T P
  refine o_aloadN P (hb hby de1_16) rfl rfl (pc' := 17) rfl ?_
  refine o_getF P (ow hw 25 rfl) Via.refl (F_p0.fld 1 rfl) (hb hby de1_17) (pc' := 20) rfl ?_
  clear P; intro T P
  have hn_2 := P.n0le; have hk_2 := P.keep0.1
  refine o_callI P (W := 2) (a := b1) rfl (ow hw 37 rfl) (ow hw 38 rfl) (ow hw 36 rfl) (ow hw 39 rfl) (by decide) (ct_e65 l Z a0 hw EL n0 b1 p1 vx od oz hg h1 F_b1 A_p1 (Ne.symm ne_p1_b1)) (o_sfS (List.Mem.head _) o_sf0) (by rw [hml]; rfl) (by decide) (by decide) (argsL := [(.ref p1), (.int 5)]) (rest := [(.ref b1), (.ref p0)]) (lenOf pd_3 rfl) rfl rfl (Nat.le_of_eq rfl) (hb hby de1_20) (pc' := 23) rfl (by decide) (by decide) ?_
  clear P; intro T h3 v3 P K3 q3
  obtain ⟨n0_2, n1_2, rfl, g_n0_2, g_n1_2, ne_n0_2_n1_2, Q_b1, Q_n0_2, Q_n1_2, -⟩ := q3
  have ne_p0_n0_2 := F_p0.nb g_n0_2
  have ne_b1_n0_2 := F_b1.nb g_n0_2
  have ne_p1_n0_2 := A_p1.nb g_n0_2
  have sz_n0_2 := Nat.le_trans hk_2 g_n0_2
  have ne_p0_n1_2 := F_p0.nb g_n1_2
  have ne_b1_n1_2 := F_b1.nb g_n1_2
  have ne_p1_n1_2 := A_p1.nb g_n1_2
  have sz_n1_2 := Nat.le_trans hk_2 g_n1_2
  replace F_p0 := F_p0.keep K3 (ninS ne_p0_b1 nin0)
  replace A_p1 := A_p1.keep K3 (ninS ne_p1_b1 nin0)
  clear F_b1
  have F_b1 := Q_b1; clear Q_b1
  have F_n0_2 := Q_n0_2; clear Q_n0_2
  have A_n1_2 := Q_n1_2; clear Q_n1_2
  replace P := P.moreO F_n0_2.exa (by decide) (by decide) (Nat.le_trans hn_2 g_n0_2) sz_n0_2
  replace P := P.moreA A_n1_2 (fun q => by cases q) (Nat.le_trans hn_2 g_n1_2) sz_n1_2
  clear K3 hn_2 hk_2
  show OG p e below m _ T 23 _ [(.ref b1), (.ref p0)]
  refine o_putF P (v' := (.ref b1)) (ty := (.object kS)) (ow hw 27 rfl) Via.refl (F_p0.fld 2 rfl) F_p0.exa (Or.inl (ow hw 28 rfl)) (ow hw 4 rfl) (by decide) rfl rfl (List.Mem.tail _ (List.Mem.tail _ (List.Mem.tail _ (List.Mem.head _)))) (hb hby de1_23) (pc' := 26) rfl ?_
  clear P; intro T h4 P W4
  replace F_b1 := F_b1.oth W4 (Ne.symm ne_p0_b1)
  replace F_n0_2 := F_n0_2.oth W4 (Ne.symm ne_p0_n0_2)
  replace A_p1 := A_p1.oth W4 (Ne.symm ne_p0_p1)
  replace A_n1_2 := A_n1_2.oth W4 (Ne.symm ne_p0_n1_2)
  replace F_p0 : OObj Z h4 p0 kK [(kK, "keys", "[J", (.ref p1)), (kK, "size", "I", (.int 5)), (kK, "selection", kSd, (.ref b1))] := F_p0.put 2 rfl W4
  clear W4
  refine o_aloadN P (hb hby de1_26) rfl rfl (pc' := 27) rfl ?_
  refine o_getS P (ow hw 87 rfl) Via.refl hg.2.1 (hb hby de1_27) (pc' := 30) rfl ?_
  clear P; intro T P
  refine o_acmp P true (hb hby de1_30) rfl rfl (decide_eq_true rfl) (by decide) (pc' := 33) rfl ?_
  refine o_iloadN P (hb hby de1_33) rfl (pc' := 34) rfl ?_
  refine o_iconst P (1 : Int32) (hb hby de1_34) rfl (pc' := 35) rfl ?_
  refine o_isub P (hb hby de1_35) (pc' := 36) rfl ?_
  refine o_goto P (hb hby de1_36) (by decide) (pc' := 45) (by decide) ?_
  refine o_istoreN P (hb hby de1_45) (L' := #[.val (.ref p0), .val (.int x0), .val (.ref od), .val (.int (x0 - (1 : Int32)))]) rfl (pc' := 46) rfl ?_
  have hR := own_ra5 x0 hp0 hp1
  generalize hre : (x0 - (1 : Int32)) = r at hR ⊢
  by_cases hr : r = 0
  · subst hr
    refine o_aloadN P (hb hby de1_46) rfl rfl (pc' := 47) rfl ?_
    refine o_getF P (ow hw 27 rfl) Via.refl (F_p0.fld 2 rfl) (hb hby de1_47) (pc' := 50) rfl ?_
    clear P; intro T P
    refine o_iloadN P (hb hby de1_50) rfl (pc' := 51) rfl ?_
    have hn_5 := P.n0le; have hk_5 := P.keep0.1
    refine o_callV P (W := 0) (a := b1) (ow hw 88 rfl) (ow hw 89 rfl) (o_nfSl (ow hw 91 rfl)) (ow hw 91 rfl) (ow hw 90 rfl) (ow hw 36 rfl) (ow hw 92 rfl) (by decide) F_b1.exa (ct_e81 l Z a0 hw EL n0 b1 p1 n0_2 n1_2 vx od oz hg h4 F_b1 A_p1 F_n0_2 A_n1_2 (Ne.symm ne_p1_b1) ne_b1_n0_2 ne_b1_n1_2 ne_p1_n0_2 ne_p1_n1_2 ne_n0_2_n1_2) (o_sfS (List.Mem.tail _ (List.Mem.tail _ (List.Mem.tail _ (List.Mem.tail _ (List.Mem.head _))))) (o_sfS (List.Mem.head _) o_sf0)) (by rw [hml]; rfl) (by decide) (by decide) (argsL := [(.int 0)]) (rest := []) (lenOf pd_11 rfl) rfl rfl (Nat.le_of_eq rfl) (hb hby de1_51) (pc' := 54) rfl (by decide) (by decide) ?_
    clear P; intro T h6 v6 P K6 q6
    obtain ⟨rfl, Q_p1, Q_n1_2, -⟩ := q6
    replace F_p0 := F_p0.keep K6 (ninS ne_p0_p1 (ninS ne_p0_n1_2 nin0))
    replace F_b1 := F_b1.keep K6 (ninS (Ne.symm ne_p1_b1) (ninS ne_b1_n1_2 nin0))
    replace F_n0_2 := F_n0_2.keep K6 (ninS (Ne.symm ne_p1_n0_2) (ninS ne_n0_2_n1_2 nin0))
    clear A_p1
    have A_p1 := Q_p1; clear Q_p1
    clear A_n1_2
    have A_n1_2 := Q_n1_2; clear Q_n1_2
    clear K6 hn_5 hk_5
    show OG p e below m _ T 54 _ [(.long (og [vx, vx, vx, vx, vx] 0))]
    exact o_retL P hret (hb hby de1_54) (by decide) (by decide) rfl
  · have hr1' := own_pos r hR.1 hr
    refine o_aloadN P (hb hby de1_46) rfl rfl (pc' := 47) rfl ?_
    refine o_getF P (ow hw 27 rfl) Via.refl (F_p0.fld 2 rfl) (hb hby de1_47) (pc' := 50) rfl ?_
    clear P; intro T P
    refine o_iloadN P (hb hby de1_50) rfl (pc' := 51) rfl ?_
    have hn_5 := P.n0le; have hk_5 := P.keep0.1
    refine o_callV P (W := 0) (a := b1) (ow hw 88 rfl) (ow hw 89 rfl) (o_nfSl (ow hw 91 rfl)) (ow hw 91 rfl) (ow hw 90 rfl) (ow hw 36 rfl) (ow hw 92 rfl) (by decide) F_b1.exa (ct_e86 l Z a0 hw EL n0 b1 p1 n0_2 n1_2 r vx od oz hg hr1' hR.2 h4 F_b1 A_p1 F_n0_2 A_n1_2 (Ne.symm ne_p1_b1) ne_b1_n0_2 ne_b1_n1_2 ne_p1_n0_2 ne_p1_n1_2 ne_n0_2_n1_2) (o_sfS (List.Mem.tail _ (List.Mem.tail _ (List.Mem.tail _ (List.Mem.tail _ (List.Mem.head _))))) (o_sfS (List.Mem.head _) o_sf0)) (by rw [hml]; rfl) (by decide) (by decide) (argsL := [(.int r)]) (rest := []) (lenOf pd_11 rfl) rfl rfl (Nat.le_of_eq rfl) (hb hby de1_51) (pc' := 54) rfl (by decide) (by decide) ?_
    clear P; intro T h6 v6 P K6 q6
    obtain ⟨rfl, Q_p1, Q_n1_2, -⟩ := q6
    replace F_p0 := F_p0.keep K6 (ninS ne_p0_p1 (ninS ne_p0_n1_2 nin0))
    replace F_b1 := F_b1.keep K6 (ninS (Ne.symm ne_p1_b1) (ninS ne_b1_n1_2 nin0))
    replace F_n0_2 := F_n0_2.keep K6 (ninS (Ne.symm ne_p1_n0_2) (ninS ne_n0_2_n1_2 nin0))
    clear A_p1
    have A_p1 := Q_p1; clear Q_p1
    clear A_n1_2
    have A_n1_2 := Q_n1_2; clear Q_n1_2
    clear K6 hn_5 hk_5
    show OG p e below m _ T 54 _ [(.long (og [vx, vx, vx, vx, vx] r.toNatClampNeg))]
    exact o_retL P hret (hb hby de1_54) (by decide) (by decide) rfl
theorem ef_at5oz (x0 : Addr) (x1 : Int32) (x2 : Addr) (m : MethodId) : entryFrame m #[(.ref x0), (.int x1), (.ref x2)] 4 = mkF m 0 #[.val (.ref x0), .val (.int x1), .val (.ref x2), .unset] [] := by first | (simp [entryFrame, mkF, argsToLocals, o_catR, o_catN, o_catI, o_catJ, o_catD]; done) | rfl
theorem ct_at5oz (l : Launch) (Z : State) (a0 : Array Value) (hw : OHw Z a0) (EL : List (String × Nat)) (n0 : Nat) (p0 p1 : Addr) (x0 : Int32) (vx vy : Int64) (od oz : Addr) (hg : OGp Z od oz) (hp0 : 1 ≤ x0.toInt) (hp1 : x0.toInt ≤ 5) (h0 : Heap) (F_p0 : OObj Z h0 p0 kK [(kK, "keys", "[J", (.ref p1)), (kK, "size", "I", (.int 5)), (kK, "selection", kSd, .null)]) (A_p1 : OArr Z h0 p1 .long [(.long vx), (.long vx), (.long vx), (.long vx), (.long vx), (.long 0), (.long 0), (.long 0), (.long 0), (.long 0), (.long 0), (.long 0), (.long 0), (.long 0), (.long 0), (.long 0)]) (ne_p0_p1 : p0 ≠ p1) :
    OCt l Z a0 EL n0 (⟨kK, "at", "(ILcom/example/centile/centile/function/Order;)J"⟩ : MethodName) prog_11_method_6_code 4 (some .long) ({ frames := 6, cells := 3, slots := 6, locals := 122 } : Room) [] #[(.ref p0), (.int x0), (.ref oz)] h0 [p0, p1] (fun w vm h => w = some (.long (og [vx, vx, vx, vx, vx] (((5 : Int32) - x0)).toNatClampNeg))) := by
  refine OCt.body (plainFor_of_name pn_e6) (ef_at5oz p0 x0 oz) ?_
  intro p e s m below meth c T hby hml hret hnm hsh P
  refine o_aloadN P (hb hby de1_0) rfl rfl (pc' := 1) rfl ?_
  refine o_getF P (ow hw 27 rfl) Via.refl (F_p0.fld 2 rfl) (hb hby de1_1) (pc' := 4) rfl ?_
  clear P; intro T P
  refine o_ifnonnullN P (hb hby de1_4) (pc' := 7) rfl ?_
  refine o_aloadN P (hb hby de1_7) rfl rfl (pc' := 8) rfl ?_
  have hz_b1 := P.keep0.1
  refine o_new P [(kS, "values", "[J", .null), (kS, "cuts", "Ljava/util/BitSet;", .null)] (ow hw 34 rfl) (ow hw 35 rfl) (ow hw 36 rfl) (OLd.cons (Or.inr (ow hw 42 rfl)) (ty := (.array .long)) (by decide) rfl (OLd.cons (Or.inr (ow hw 65 rfl)) (ty := (.object kB)) (by decide) rfl OLd.nil)) (by decide +kernel) (hb hby de1_8) (pc' := 11) rfl (by decide) (by decide) ?_
  clear P; intro T h1 b1 P K1 hb_b1 F_b1
  have sz_b1 := Nat.le_trans hz_b1 hb_b1
  clear hz_b1
  have ne_p0_b1 := F_p0.nb hb_b1
  have ne_p1_b1 := A_p1.nb hb_b1
  replace F_p0 := F_p0.keep K1 nin0
  replace A_p1 := A_p1.keep K1 nin0
  clear K1
  refine o_dup P (hb hby de1_11) rfl (pc' := 12) rfl ?_
  refine o_aloadN P (hb hby de1_12) rfl rfl (pc' := 13) rfl ?_
  refine o_getF P (ow hw 13 rfl) Via.refl (F_p0.fld 0 rfl) (hb hby de1_13) (pc' := 16) rfl ?_
  clear P; intro T P
  refine o_aloadN P (hb hby de1_16) rfl rfl (pc' := 17) rfl ?_
  refine o_getF P (ow hw 25 rfl) Via.refl (F_p0.fld 1 rfl) (hb hby de1_17) (pc' := 20) rfl ?_
  clear P; intro T P
  have hn_2 := P.n0le; have hk_2 := P.keep0.1
  refine o_callI P (W := 2) (a := b1) rfl (ow hw 37 rfl) (ow hw 38 rfl) (ow hw 36 rfl) (ow hw 39 rfl) (by decide) (ct_e65 l Z a0 hw EL n0 b1 p1 vx od oz hg h1 F_b1 A_p1 (Ne.symm ne_p1_b1)) (o_sfS (List.Mem.head _) o_sf0) (by rw [hml]; rfl) (by decide) (by decide) (argsL := [(.ref p1), (.int 5)]) (rest := [(.ref b1), (.ref p0)]) (lenOf pd_3 rfl) rfl rfl (Nat.le_of_eq rfl) (hb hby de1_20) (pc' := 23) rfl (by decide) (by decide) ?_
  clear P; intro T h3 v3 P K3 q3
  obtain ⟨n0_2, n1_2, rfl, g_n0_2, g_n1_2, ne_n0_2_n1_2, Q_b1, Q_n0_2, Q_n1_2, -⟩ := q3
  have ne_p0_n0_2 := F_p0.nb g_n0_2
  have ne_b1_n0_2 := F_b1.nb g_n0_2
  have ne_p1_n0_2 := A_p1.nb g_n0_2
  have sz_n0_2 := Nat.le_trans hk_2 g_n0_2
  have ne_p0_n1_2 := F_p0.nb g_n1_2
  have ne_b1_n1_2 := F_b1.nb g_n1_2
  have ne_p1_n1_2 := A_p1.nb g_n1_2
  have sz_n1_2 := Nat.le_trans hk_2 g_n1_2
  replace F_p0 := F_p0.keep K3 (ninS ne_p0_b1 nin0)
  replace A_p1 := A_p1.keep K3 (ninS ne_p1_b1 nin0)
  clear F_b1
  have F_b1 := Q_b1; clear Q_b1
  have F_n0_2 := Q_n0_2; clear Q_n0_2
  have A_n1_2 := Q_n1_2; clear Q_n1_2
  replace P := P.moreO F_n0_2.exa (by decide) (by decide) (Nat.le_trans hn_2 g_n0_2) sz_n0_2
  replace P := P.moreA A_n1_2 (fun q => by cases q) (Nat.le_trans hn_2 g_n1_2) sz_n1_2
  clear K3 hn_2 hk_2
  show OG p e below m _ T 23 _ [(.ref b1), (.ref p0)]
  refine o_putF P (v' := (.ref b1)) (ty := (.object kS)) (ow hw 27 rfl) Via.refl (F_p0.fld 2 rfl) F_p0.exa (Or.inl (ow hw 28 rfl)) (ow hw 4 rfl) (by decide) rfl rfl (List.Mem.tail _ (List.Mem.tail _ (List.Mem.tail _ (List.Mem.head _)))) (hb hby de1_23) (pc' := 26) rfl ?_
  clear P; intro T h4 P W4
  replace F_b1 := F_b1.oth W4 (Ne.symm ne_p0_b1)
  replace F_n0_2 := F_n0_2.oth W4 (Ne.symm ne_p0_n0_2)
  replace A_p1 := A_p1.oth W4 (Ne.symm ne_p0_p1)
  replace A_n1_2 := A_n1_2.oth W4 (Ne.symm ne_p0_n1_2)
  replace F_p0 : OObj Z h4 p0 kK [(kK, "keys", "[J", (.ref p1)), (kK, "size", "I", (.int 5)), (kK, "selection", kSd, (.ref b1))] := F_p0.put 2 rfl W4
  clear W4
  refine o_aloadN P (hb hby de1_26) rfl rfl (pc' := 27) rfl ?_
  refine o_getS P (ow hw 87 rfl) Via.refl hg.2.1 (hb hby de1_27) (pc' := 30) rfl ?_
  clear P; intro T P
  refine o_acmp P false (hb hby de1_30) rfl rfl (decide_eq_false fun q => hg.2.2.2 (Value.ref.inj q)) (by decide) (pc' := 39) rfl ?_
  refine o_aloadN P (hb hby de1_39) rfl rfl (pc' := 40) rfl ?_
  refine o_getF P (ow hw 25 rfl) Via.refl (F_p0.fld 1 rfl) (hb hby de1_40) (pc' := 43) rfl ?_
  clear P; intro T P
  refine o_iloadN P (hb hby de1_43) rfl (pc' := 44) rfl ?_
  refine o_isub P (hb hby de1_44) (pc' := 45) rfl ?_
  refine o_istoreN P (hb hby de1_45) (L' := #[.val (.ref p0), .val (.int x0), .val (.ref oz), .val (.int ((5 : Int32) - x0))]) rfl (pc' := 46) rfl ?_
  have hR := own_rz5 x0 hp0 hp1
  generalize hre : ((5 : Int32) - x0) = r at hR ⊢
  by_cases hr : r = 0
  · subst hr
    refine o_aloadN P (hb hby de1_46) rfl rfl (pc' := 47) rfl ?_
    refine o_getF P (ow hw 27 rfl) Via.refl (F_p0.fld 2 rfl) (hb hby de1_47) (pc' := 50) rfl ?_
    clear P; intro T P
    refine o_iloadN P (hb hby de1_50) rfl (pc' := 51) rfl ?_
    have hn_5 := P.n0le; have hk_5 := P.keep0.1
    refine o_callV P (W := 0) (a := b1) (ow hw 88 rfl) (ow hw 89 rfl) (o_nfSl (ow hw 91 rfl)) (ow hw 91 rfl) (ow hw 90 rfl) (ow hw 36 rfl) (ow hw 92 rfl) (by decide) F_b1.exa (ct_e81 l Z a0 hw EL n0 b1 p1 n0_2 n1_2 vx od oz hg h4 F_b1 A_p1 F_n0_2 A_n1_2 (Ne.symm ne_p1_b1) ne_b1_n0_2 ne_b1_n1_2 ne_p1_n0_2 ne_p1_n1_2 ne_n0_2_n1_2) (o_sfS (List.Mem.tail _ (List.Mem.tail _ (List.Mem.tail _ (List.Mem.tail _ (List.Mem.head _))))) (o_sfS (List.Mem.head _) o_sf0)) (by rw [hml]; rfl) (by decide) (by decide) (argsL := [(.int 0)]) (rest := []) (lenOf pd_11 rfl) rfl rfl (Nat.le_of_eq rfl) (hb hby de1_51) (pc' := 54) rfl (by decide) (by decide) ?_
    clear P; intro T h6 v6 P K6 q6
    obtain ⟨rfl, Q_p1, Q_n1_2, -⟩ := q6
    replace F_p0 := F_p0.keep K6 (ninS ne_p0_p1 (ninS ne_p0_n1_2 nin0))
    replace F_b1 := F_b1.keep K6 (ninS (Ne.symm ne_p1_b1) (ninS ne_b1_n1_2 nin0))
    replace F_n0_2 := F_n0_2.keep K6 (ninS (Ne.symm ne_p1_n0_2) (ninS ne_n0_2_n1_2 nin0))
    clear A_p1
    have A_p1 := Q_p1; clear Q_p1
    clear A_n1_2
    have A_n1_2 := Q_n1_2; clear Q_n1_2
    clear K6 hn_5 hk_5
    show OG p e below m _ T 54 _ [(.long (og [vx, vx, vx, vx, vx] 0))]
    exact o_retL P hret (hb hby de1_54) (by decide) (by decide) rfl
  · have hr1' := own_pos r hR.1 hr
    refine o_aloadN P (hb hby de1_46) rfl rfl (pc' := 47) rfl ?_
    refine o_getF P (ow hw 27 rfl) Via.refl (F_p0.fld 2 rfl) (hb hby de1_47) (pc' := 50) rfl ?_
    clear P; intro T P
    refine o_iloadN P (hb hby de1_50) rfl (pc' := 51) rfl ?_
    have hn_5 := P.n0le; have hk_5 := P.keep0.1
    refine o_callV P (W := 0) (a := b1) (ow hw 88 rfl) (ow hw 89 rfl) (o_nfSl (ow hw 91 rfl)) (ow hw 91 rfl) (ow hw 90 rfl) (ow hw 36 rfl) (ow hw 92 rfl) (by decide) F_b1.exa (ct_e86 l Z a0 hw EL n0 b1 p1 n0_2 n1_2 r vx od oz hg hr1' hR.2 h4 F_b1 A_p1 F_n0_2 A_n1_2 (Ne.symm ne_p1_b1) ne_b1_n0_2 ne_b1_n1_2 ne_p1_n0_2 ne_p1_n1_2 ne_n0_2_n1_2) (o_sfS (List.Mem.tail _ (List.Mem.tail _ (List.Mem.tail _ (List.Mem.tail _ (List.Mem.head _))))) (o_sfS (List.Mem.head _) o_sf0)) (by rw [hml]; rfl) (by decide) (by decide) (argsL := [(.int r)]) (rest := []) (lenOf pd_11 rfl) rfl rfl (Nat.le_of_eq rfl) (hb hby de1_51) (pc' := 54) rfl (by decide) (by decide) ?_
    clear P; intro T h6 v6 P K6 q6
    obtain ⟨rfl, Q_p1, Q_n1_2, -⟩ := q6
    replace F_p0 := F_p0.keep K6 (ninS ne_p0_p1 (ninS ne_p0_n1_2 nin0))
    replace F_b1 := F_b1.keep K6 (ninS (Ne.symm ne_p1_b1) (ninS ne_b1_n1_2 nin0))
    replace F_n0_2 := F_n0_2.keep K6 (ninS (Ne.symm ne_p1_n0_2) (ninS ne_n0_2_n1_2 nin0))
    clear A_p1
    have A_p1 := Q_p1; clear Q_p1
    clear A_n1_2
    have A_n1_2 := Q_n1_2; clear Q_n1_2
    clear K6 hn_5 hk_5
    show OG p e below m _ T 54 _ [(.long (og [vx, vx, vx, vx, vx] r.toNatClampNeg))]
    exact o_retL P hret (hb hby de1_54) (by decide) (by decide) rfl
theorem de87_0 : decode prog_11_method_3_code 0 = .ok (.aload_n 0, 1) := by decide +kernel
theorem de87_1 : decode prog_11_method_3_code 1 = .ok (.getfield 9, 3) := by decide +kernel
theorem de87_4 : decode prog_11_method_3_code 4 = .ok (.iload_n 1, 1) := by decide +kernel
theorem de87_5 : decode prog_11_method_3_code 5 = .ok (.laload, 1) := by decide +kernel
theorem de87_6 : decode prog_11_method_3_code 6 = .ok (.lreturn, 1) := by decide +kernel
theorem ef_getA13 (x0 : Addr) (x1 : Int32) (m : MethodId) : entryFrame m #[(.ref x0), (.int x1)] 2 = mkF m 0 #[.val (.ref x0), .val (.int x1)] [] := by first | (simp [entryFrame, mkF, argsToLocals, o_catR, o_catN, o_catI, o_catJ, o_catD]; done) | rfl
theorem ct_getA13 (l : Launch) (Z : State) (a0 : Array Value) (hw : OHw Z a0) (EL : List (String × Nat)) (n0 : Nat) (p0 p1 : Addr) (r : Int32) (vx vy : Int64) (hr : 0 ≤ r.toInt ∧ r.toInt < 13) (h0 : Heap) (F_p0 : OObj Z h0 p0 kK [(kK, "keys", "[J", (.ref p1)), (kK, "size", "I", (.int 13)), (kK, "selection", kSd, .null)]) (A_p1 : OArr Z h0 p1 .long [(.long vx), (.long vy), (.long vy), (.long vx), (.long vy), (.long vy), (.long vx), (.long vy), (.long vx), (.long vy), (.long vy), (.long vx), (.long vy), (.long 0), (.long 0), (.long 0)]) :
    OCt l Z a0 EL n0 (⟨kK, "get", "(I)J"⟩ : MethodName) prog_11_method_3_code 2 (some .long) ({ frames := 0, cells := 0, slots := 0, locals := 0 } : Room) [] #[(.ref p0), (.int r)] h0 [] (fun w vm h => w = some (.long (opk [false, true, true, false, true, true, false, true, false, true, true, false, true] vx vy r.toNatClampNeg)) ∧ h = h0) := by
  refine OCt.body (plainFor_of_name pn_e6) (ef_getA13 p0 r) ?_
  intro p e s m below meth c T hby hml hret hnm hsh P
  refine o_aloadN P (hb hby de87_0) rfl rfl (pc' := 1) rfl ?_
  refine o_getF P (ow hw 13 rfl) Via.refl (F_p0.fld 0 rfl) (hb hby de87_1) (pc' := 4) rfl ?_
  clear P; intro T P
  refine o_iloadN P (hb hby de87_4) rfl (pc' := 5) rfl ?_
  refine o_laload P (v := (.long (opk [false, true, true, false, true, true, false, true, false, true, true, false, true] vx vy r.toNatClampNeg))) A_p1 (own_nn r (by omega)) (by rcases own_rng13 r (by omega) (by omega) with rfl | rfl | rfl | rfl | rfl | rfl | rfl | rfl | rfl | rfl | rfl | rfl | rfl <;> rfl) (hb hby de87_5) (pc' := 6) rfl ?_
  exact o_retL P hret (hb hby de87_6) (by decide) (by decide) ⟨rfl, rfl⟩
theorem ef_getB13 (x0 : Addr) (x1 : Int32) (m : MethodId) : entryFrame m #[(.ref x0), (.int x1)] 2 = mkF m 0 #[.val (.ref x0), .val (.int x1)] [] := by first | (simp [entryFrame, mkF, argsToLocals, o_catR, o_catN, o_catI, o_catJ, o_catD]; done) | rfl
theorem ct_getB13 (l : Launch) (Z : State) (a0 : Array Value) (hw : OHw Z a0) (EL : List (String × Nat)) (n0 : Nat) (p0 p1 : Addr) (r : Int32) (vx vy : Int64) (hr : 0 ≤ r.toInt ∧ r.toInt < 21) (h0 : Heap) (F_p0 : OObj Z h0 p0 kK [(kK, "keys", "[J", (.ref p1)), (kK, "size", "I", (.int 21)), (kK, "selection", kSd, .null)]) (A_p1 : OArr Z h0 p1 .long [(.long vy), (.long vx), (.long vy), (.long vx), (.long vy), (.long vy), (.long vx), (.long vy), (.long vx), (.long vy), (.long vy), (.long vx), (.long vy), (.long vy), (.long vx), (.long vy), (.long vx), (.long vy), (.long vy), (.long vx), (.long vy), (.long 0), (.long 0), (.long 0), (.long 0), (.long 0), (.long 0), (.long 0), (.long 0), (.long 0), (.long 0), (.long 0)]) :
    OCt l Z a0 EL n0 (⟨kK, "get", "(I)J"⟩ : MethodName) prog_11_method_3_code 2 (some .long) ({ frames := 0, cells := 0, slots := 0, locals := 0 } : Room) [] #[(.ref p0), (.int r)] h0 [] (fun w vm h => w = some (.long (opk [true, false, true, false, true, true, false, true, false, true, true, false, true, true, false, true, false, true, true, false, true] vx vy r.toNatClampNeg)) ∧ h = h0) := by
  refine OCt.body (plainFor_of_name pn_e6) (ef_getB13 p0 r) ?_
  intro p e s m below meth c T hby hml hret hnm hsh P
  refine o_aloadN P (hb hby de87_0) rfl rfl (pc' := 1) rfl ?_
  refine o_getF P (ow hw 13 rfl) Via.refl (F_p0.fld 0 rfl) (hb hby de87_1) (pc' := 4) rfl ?_
  clear P; intro T P
  refine o_iloadN P (hb hby de87_4) rfl (pc' := 5) rfl ?_
  refine o_laload P (v := (.long (opk [true, false, true, false, true, true, false, true, false, true, true, false, true, true, false, true, false, true, true, false, true] vx vy r.toNatClampNeg))) A_p1 (own_nn r (by omega)) (by rcases own_rng21 r (by omega) (by omega) with rfl | rfl | rfl | rfl | rfl | rfl | rfl | rfl | rfl | rfl | rfl | rfl | rfl | rfl | rfl | rfl | rfl | rfl | rfl | rfl | rfl <;> rfl) (hb hby de87_5) (pc' := 6) rfl ?_
  exact o_retL P hret (hb hby de87_6) (by decide) (by decide) ⟨rfl, rfl⟩
theorem ef_getA5 (x0 : Addr) (x1 : Int32) (m : MethodId) : entryFrame m #[(.ref x0), (.int x1)] 2 = mkF m 0 #[.val (.ref x0), .val (.int x1)] [] := by first | (simp [entryFrame, mkF, argsToLocals, o_catR, o_catN, o_catI, o_catJ, o_catD]; done) | rfl
theorem ct_getA5 (l : Launch) (Z : State) (a0 : Array Value) (hw : OHw Z a0) (EL : List (String × Nat)) (n0 : Nat) (p0 p1 : Addr) (r : Int32) (vx vy : Int64) (hr : 0 ≤ r.toInt ∧ r.toInt < 5) (h0 : Heap) (F_p0 : OObj Z h0 p0 kK [(kK, "keys", "[J", (.ref p1)), (kK, "size", "I", (.int 5)), (kK, "selection", kSd, .null)]) (A_p1 : OArr Z h0 p1 .long [(.long vx), (.long vx), (.long vx), (.long vx), (.long vx), (.long 0), (.long 0), (.long 0), (.long 0), (.long 0), (.long 0), (.long 0), (.long 0), (.long 0), (.long 0), (.long 0)]) :
    OCt l Z a0 EL n0 (⟨kK, "get", "(I)J"⟩ : MethodName) prog_11_method_3_code 2 (some .long) ({ frames := 0, cells := 0, slots := 0, locals := 0 } : Room) [] #[(.ref p0), (.int r)] h0 [] (fun w vm h => w = some (.long (opk [false, false, false, false, false] vx vy r.toNatClampNeg)) ∧ h = h0) := by
  refine OCt.body (plainFor_of_name pn_e6) (ef_getA5 p0 r) ?_
  intro p e s m below meth c T hby hml hret hnm hsh P
  refine o_aloadN P (hb hby de87_0) rfl rfl (pc' := 1) rfl ?_
  refine o_getF P (ow hw 13 rfl) Via.refl (F_p0.fld 0 rfl) (hb hby de87_1) (pc' := 4) rfl ?_
  clear P; intro T P
  refine o_iloadN P (hb hby de87_4) rfl (pc' := 5) rfl ?_
  refine o_laload P (v := (.long (opk [false, false, false, false, false] vx vy r.toNatClampNeg))) A_p1 (own_nn r (by omega)) (by rcases own_rng5 r (by omega) (by omega) with rfl | rfl | rfl | rfl | rfl <;> rfl) (hb hby de87_5) (pc' := 6) rfl ?_
  exact o_retL P hret (hb hby de87_6) (by decide) (by decide) ⟨rfl, rfl⟩
theorem ef_getB5 (x0 : Addr) (x1 : Int32) (m : MethodId) : entryFrame m #[(.ref x0), (.int x1)] 2 = mkF m 0 #[.val (.ref x0), .val (.int x1)] [] := by first | (simp [entryFrame, mkF, argsToLocals, o_catR, o_catN, o_catI, o_catJ, o_catD]; done) | rfl
theorem ct_getB5 (l : Launch) (Z : State) (a0 : Array Value) (hw : OHw Z a0) (EL : List (String × Nat)) (n0 : Nat) (p0 p1 : Addr) (r : Int32) (vx vy : Int64) (hr : 0 ≤ r.toInt ∧ r.toInt < 8) (h0 : Heap) (F_p0 : OObj Z h0 p0 kK [(kK, "keys", "[J", (.ref p1)), (kK, "size", "I", (.int 8)), (kK, "selection", kSd, .null)]) (A_p1 : OArr Z h0 p1 .long [(.long vx), (.long vx), (.long vx), (.long vx), (.long vx), (.long vx), (.long vx), (.long vx), (.long 0), (.long 0), (.long 0), (.long 0), (.long 0), (.long 0), (.long 0), (.long 0)]) :
    OCt l Z a0 EL n0 (⟨kK, "get", "(I)J"⟩ : MethodName) prog_11_method_3_code 2 (some .long) ({ frames := 0, cells := 0, slots := 0, locals := 0 } : Room) [] #[(.ref p0), (.int r)] h0 [] (fun w vm h => w = some (.long (opk [false, false, false, false, false, false, false, false] vx vy r.toNatClampNeg)) ∧ h = h0) := by
  refine OCt.body (plainFor_of_name pn_e6) (ef_getB5 p0 r) ?_
  intro p e s m below meth c T hby hml hret hnm hsh P
  refine o_aloadN P (hb hby de87_0) rfl rfl (pc' := 1) rfl ?_
  refine o_getF P (ow hw 13 rfl) Via.refl (F_p0.fld 0 rfl) (hb hby de87_1) (pc' := 4) rfl ?_
  clear P; intro T P
  refine o_iloadN P (hb hby de87_4) rfl (pc' := 5) rfl ?_
  refine o_laload P (v := (.long (opk [false, false, false, false, false, false, false, false] vx vy r.toNatClampNeg))) A_p1 (own_nn r (by omega)) (by rcases own_rng8 r (by omega) (by omega) with rfl | rfl | rfl | rfl | rfl | rfl | rfl | rfl <;> rfl) (hb hby de87_5) (pc' := 6) rfl ?_
  exact o_retL P hret (hb hby de87_6) (by decide) (by decide) ⟨rfl, rfl⟩
theorem dpk_0 : decode method_2_code 0 = .ok (.aload_n 0, 1) := by decide +kernel
theorem dpk_1 : decode method_2_code 1 = .ok (.iload_n 1, 1) := by decide +kernel
theorem dpk_2 : decode method_2_code 2 = .ok (.invokevirtual 7, 3) := by decide +kernel
theorem dpk_5 : decode method_2_code 5 = .ok (.bipush 121, 2) := by decide +kernel
theorem dpk_7 : decode method_2_code 7 = .ok (.if_icmp .ne 8, 3) := by decide +kernel
theorem dpk_10 : decode method_2_code 10 = .ok (.lload 4, 2) := by decide +kernel
theorem dpk_12 : decode method_2_code 12 = .ok (.goto 4, 3) := by decide +kernel
theorem dpk_15 : decode method_2_code 15 = .ok (.lload_n 2, 1) := by decide +kernel
theorem dpk_16 : decode method_2_code 16 = .ok (.lreturn, 1) := by decide +kernel
theorem ef_pk (x0 : Addr) (x1 : Int32) (x2 : Int64) (x3 : Int64) (m : MethodId) : entryFrame m #[(.ref x0), (.int x1), (.long x2), (.long x3)] 6 = mkF m 0 #[.val (.ref x0), .val (.int x1), .val (.long x2), .second, .val (.long x3), .second] [] := by first | (simp [entryFrame, mkF, argsToLocals, o_catR, o_catN, o_catI, o_catJ, o_catD]; done) | rfl
theorem de88_0 : decode prog_11_method_2_code 0 = .ok (.aload_n 0, 1) := by decide +kernel
theorem de88_1 : decode prog_11_method_2_code 1 = .ok (.getfield 15, 3) := by decide +kernel
theorem de88_4 : decode prog_11_method_2_code 4 = .ok (.ireturn, 1) := by decide +kernel
theorem ef_ct_e89 (x0 : Addr) (m : MethodId) : entryFrame m #[(.ref x0)] 1 = mkF m 0 #[.val (.ref x0)] [] := by first | (simp [entryFrame, mkF, argsToLocals, o_catR, o_catN, o_catI, o_catJ, o_catD]; done) | rfl
theorem ct_e89 (l : Launch) (Z : State) (a0 : Array Value) (hw : OHw Z a0) (EL : List (String × Nat)) (n0 : Nat) (p0 : Addr) (p1 : Addr) (x0 : Int64) (x1 : Int64) (od oz : Addr) (hg : OGp Z od oz) (h0 : Heap) (F_p0 : OObj Z h0 p0 kK [(kK, "keys", "[J", (.ref p1)), (kK, "size", "I", (.int 13)), (kK, "selection", kSd, .null)]) (A_p1 : OArr Z h0 p1 .long [(.long x0), (.long x1), (.long x1), (.long x0), (.long x1), (.long x1), (.long x0), (.long x1), (.long x0), (.long x1), (.long x1), (.long x0), (.long x1), (.long 0), (.long 0), (.long 0)]) (ne_p0_p1 : p0 ≠ p1) :
    OCt l Z a0 EL n0 (⟨kK, "size", "()I"⟩ : MethodName) prog_11_method_2_code 1 (some .int) ({ frames := 0, cells := 0, slots := 0, locals := 0 } : Room) [] #[(.ref p0)] h0 [] (fun w vm h => w = some (.int 13) ∧ h = h0) := by
  refine OCt.body (plainFor_of_name pn_e6) (ef_ct_e89 p0) ?_
  intro p e s m below meth c T hby hml hret hnm hsh P
  refine o_aloadN P (hb hby de88_0) rfl rfl (pc' := 1) rfl ?_
  refine o_getF P (ow hw 25 rfl) Via.refl (F_p0.fld 1 rfl) (hb hby de88_1) (pc' := 4) rfl ?_
  clear P; intro T P
  exact o_retI P hret (by simp) rfl (hb hby de88_4) (by decide) (by decide) ⟨rfl, rfl⟩
theorem ef_ct_e90 (x0 : Addr) (m : MethodId) : entryFrame m #[(.ref x0)] 1 = mkF m 0 #[.val (.ref x0)] [] := by first | (simp [entryFrame, mkF, argsToLocals, o_catR, o_catN, o_catI, o_catJ, o_catD]; done) | rfl
theorem ct_e90 (l : Launch) (Z : State) (a0 : Array Value) (hw : OHw Z a0) (EL : List (String × Nat)) (n0 : Nat) (p0 : Addr) (p1 : Addr) (x0 : Int64) (x1 : Int64) (od oz : Addr) (hg : OGp Z od oz) (h0 : Heap) (F_p0 : OObj Z h0 p0 kK [(kK, "keys", "[J", (.ref p1)), (kK, "size", "I", (.int 21)), (kK, "selection", kSd, .null)]) (A_p1 : OArr Z h0 p1 .long [(.long x0), (.long x1), (.long x0), (.long x1), (.long x0), (.long x0), (.long x1), (.long x0), (.long x1), (.long x0), (.long x0), (.long x1), (.long x0), (.long x0), (.long x1), (.long x0), (.long x1), (.long x0), (.long x0), (.long x1), (.long x0), (.long 0), (.long 0), (.long 0), (.long 0), (.long 0), (.long 0), (.long 0), (.long 0), (.long 0), (.long 0), (.long 0)]) (ne_p0_p1 : p0 ≠ p1) :
    OCt l Z a0 EL n0 (⟨kK, "size", "()I"⟩ : MethodName) prog_11_method_2_code 1 (some .int) ({ frames := 0, cells := 0, slots := 0, locals := 0 } : Room) [] #[(.ref p0)] h0 [] (fun w vm h => w = some (.int 21) ∧ h = h0) := by
  refine OCt.body (plainFor_of_name pn_e6) (ef_ct_e90 p0) ?_
  intro p e s m below meth c T hby hml hret hnm hsh P
  refine o_aloadN P (hb hby de88_0) rfl rfl (pc' := 1) rfl ?_
  refine o_getF P (ow hw 25 rfl) Via.refl (F_p0.fld 1 rfl) (hb hby de88_1) (pc' := 4) rfl ?_
  clear P; intro T P
  exact o_retI P hret (by simp) rfl (hb hby de88_4) (by decide) (by decide) ⟨rfl, rfl⟩
theorem ef_ct_e91 (x0 : Addr) (m : MethodId) : entryFrame m #[(.ref x0)] 1 = mkF m 0 #[.val (.ref x0)] [] := by first | (simp [entryFrame, mkF, argsToLocals, o_catR, o_catN, o_catI, o_catJ, o_catD]; done) | rfl
theorem ct_e91 (l : Launch) (Z : State) (a0 : Array Value) (hw : OHw Z a0) (EL : List (String × Nat)) (n0 : Nat) (p0 : Addr) (p1 : Addr) (x0 : Int64) (od oz : Addr) (hg : OGp Z od oz) (h0 : Heap) (F_p0 : OObj Z h0 p0 kK [(kK, "keys", "[J", (.ref p1)), (kK, "size", "I", (.int 5)), (kK, "selection", kSd, .null)]) (A_p1 : OArr Z h0 p1 .long [(.long x0), (.long x0), (.long x0), (.long x0), (.long x0), (.long 0), (.long 0), (.long 0), (.long 0), (.long 0), (.long 0), (.long 0), (.long 0), (.long 0), (.long 0), (.long 0)]) (ne_p0_p1 : p0 ≠ p1) :
    OCt l Z a0 EL n0 (⟨kK, "size", "()I"⟩ : MethodName) prog_11_method_2_code 1 (some .int) ({ frames := 0, cells := 0, slots := 0, locals := 0 } : Room) [] #[(.ref p0)] h0 [] (fun w vm h => w = some (.int 5) ∧ h = h0) := by
  refine OCt.body (plainFor_of_name pn_e6) (ef_ct_e91 p0) ?_
  intro p e s m below meth c T hby hml hret hnm hsh P
  refine o_aloadN P (hb hby de88_0) rfl rfl (pc' := 1) rfl ?_
  refine o_getF P (ow hw 25 rfl) Via.refl (F_p0.fld 1 rfl) (hb hby de88_1) (pc' := 4) rfl ?_
  clear P; intro T P
  exact o_retI P hret (by simp) rfl (hb hby de88_4) (by decide) (by decide) ⟨rfl, rfl⟩
theorem ef_ct_e92 (x0 : Addr) (m : MethodId) : entryFrame m #[(.ref x0)] 1 = mkF m 0 #[.val (.ref x0)] [] := by first | (simp [entryFrame, mkF, argsToLocals, o_catR, o_catN, o_catI, o_catJ, o_catD]; done) | rfl
theorem ct_e92 (l : Launch) (Z : State) (a0 : Array Value) (hw : OHw Z a0) (EL : List (String × Nat)) (n0 : Nat) (p0 : Addr) (p1 : Addr) (x0 : Int64) (od oz : Addr) (hg : OGp Z od oz) (h0 : Heap) (F_p0 : OObj Z h0 p0 kK [(kK, "keys", "[J", (.ref p1)), (kK, "size", "I", (.int 8)), (kK, "selection", kSd, .null)]) (A_p1 : OArr Z h0 p1 .long [(.long x0), (.long x0), (.long x0), (.long x0), (.long x0), (.long x0), (.long x0), (.long x0), (.long 0), (.long 0), (.long 0), (.long 0), (.long 0), (.long 0), (.long 0), (.long 0)]) (ne_p0_p1 : p0 ≠ p1) :
    OCt l Z a0 EL n0 (⟨kK, "size", "()I"⟩ : MethodName) prog_11_method_2_code 1 (some .int) ({ frames := 0, cells := 0, slots := 0, locals := 0 } : Room) [] #[(.ref p0)] h0 [] (fun w vm h => w = some (.int 8) ∧ h = h0) := by
  refine OCt.body (plainFor_of_name pn_e6) (ef_ct_e92 p0) ?_
  intro p e s m below meth c T hby hml hret hnm hsh P
  refine o_aloadN P (hb hby de88_0) rfl rfl (pc' := 1) rfl ?_
  refine o_getF P (ow hw 25 rfl) Via.refl (F_p0.fld 1 rfl) (hb hby de88_1) (pc' := 4) rfl ?_
  clear P; intro T P
  exact o_retI P hret (by simp) rfl (hb hby de88_4) (by decide) (by decide) ⟨rfl, rfl⟩
theorem de93_0 : decode prog_11_method_1_code 0 = .ok (.aload_n 0, 1) := by decide +kernel
theorem de93_1 : decode prog_11_method_1_code 1 = .ok (.invokespecial 3, 3) := by decide +kernel
theorem de93_4 : decode prog_11_method_1_code 4 = .ok (.aload_n 0, 1) := by decide +kernel
theorem de93_5 : decode prog_11_method_1_code 5 = .ok (.bipush 16, 2) := by decide +kernel
theorem de93_7 : decode prog_11_method_1_code 7 = .ok (.newarray .long, 2) := by decide +kernel
theorem de93_9 : decode prog_11_method_1_code 9 = .ok (.putfield 9, 3) := by decide +kernel
theorem de93_12 : decode prog_11_method_1_code 12 = .ok (.return_, 1) := by decide +kernel
theorem ef_ct_e94 (x0 : Addr) (m : MethodId) : entryFrame m #[(.ref x0)] 1 = mkF m 0 #[.val (.ref x0)] [] := by first | (simp [entryFrame, mkF, argsToLocals, o_catR, o_catN, o_catI, o_catJ, o_catD]; done) | rfl
theorem ct_e94 (l : Launch) (Z : State) (a0 : Array Value) (hw : OHw Z a0) (EL : List (String × Nat)) (n0 : Nat) (p0 : Addr)  (od oz : Addr) (hg : OGp Z od oz) (h0 : Heap) (F_p0 : OObj Z h0 p0 kK [(kK, "keys", "[J", .null), (kK, "size", "I", (.int 0)), (kK, "selection", kSd, .null)])  :
    OCt l Z a0 EL n0 (⟨kK, "<init>", "()V"⟩ : MethodName) prog_11_method_1_code 1 none ({ frames := 1, cells := 1, slots := 16, locals := 12 } : Room) [] #[(.ref p0)] h0 [p0] (fun w vm h => ∃ n0 : Addr, w = none ∧ h0.size ≤ n0 ∧ OObj Z h p0 kK [(kK, "keys", "[J", (.ref n0)), (kK, "size", "I", (.int 0)), (kK, "selection", kSd, .null)] ∧ OArr Z h n0 .long [(.long 0), (.long 0), (.long 0), (.long 0), (.long 0), (.long 0), (.long 0), (.long 0), (.long 0), (.long 0), (.long 0), (.long 0), (.long 0), (.long 0), (.long 0), (.long 0)] ∧ True) := by
  refine OCt.body (plainFor_of_name pn_e6) (ef_ct_e94 p0) ?_
  intro p e s m below meth c T hby hml hret hnm hsh P
  refine o_aloadN P (hb hby de93_0) rfl rfl (pc' := 1) rfl ?_
  refine o_initO P (W := 0) (ow hw 9 rfl) (ow hw 10 rfl) (ow hw 11 rfl) (by rw [hml]; rfl) (by decide) (Nat.le_of_eq rfl) (by decide) (hb hby de93_1) (pc' := 4) rfl ?_
  clear P; intro T P
  refine o_aloadN P (hb hby de93_4) rfl rfl (pc' := 5) rfl ?_
  refine o_bipush P (16 : Int32) (hb hby de93_5) rfl (pc' := 7) rfl ?_
  have hz_b1 := P.keep0.1
  refine o_newarr P (cap := 16) (ow hw 12 rfl) (hb hby de93_7) (by decide) (by decide) (by decide) (pc' := 9) rfl (by decide) (by decide) ?_
  clear P; intro T h1 b1 P K1 hb_b1 A_b1
  have sz_b1 := Nat.le_trans hz_b1 hb_b1
  clear hz_b1
  have ne_p0_b1 := F_p0.nb hb_b1
  replace F_p0 := F_p0.keep K1 nin0
  clear K1
  replace A_b1 : OArr Z h1 b1 .long [(.long 0), (.long 0), (.long 0), (.long 0), (.long 0), (.long 0), (.long 0), (.long 0), (.long 0), (.long 0), (.long 0), (.long 0), (.long 0), (.long 0), (.long 0), (.long 0)] := A_b1
  refine o_putF P (v' := (.ref b1)) (ty := (.array .long)) (ow hw 13 rfl) Via.refl (F_p0.fld 0 rfl) F_p0.exa (Or.inl (ow hw 14 rfl)) (ow hw 4 rfl) (by decide) rfl rfl (List.Mem.tail _ (List.Mem.head _)) (hb hby de93_9) (pc' := 12) rfl ?_
  clear P; intro T h2 P W2
  replace A_b1 := A_b1.oth W2 (Ne.symm ne_p0_b1)
  replace F_p0 : OObj Z h2 p0 kK [(kK, "keys", "[J", (.ref b1)), (kK, "size", "I", (.int 0)), (kK, "selection", kSd, .null)] := F_p0.put 0 rfl W2
  clear W2
  exact o_ret0 P hret (hb hby de93_12) (by decide) (by decide) ⟨b1, rfl, hsh ▸ sz_b1, F_p0, A_b1, trivial⟩
theorem de95_0 : decode prog_11_method_4_code 0 = .ok (.aload_n 0, 1) := by decide +kernel
theorem de95_1 : decode prog_11_method_4_code 1 = .ok (.iconst 1, 1) := by decide +kernel
theorem de95_2 : decode prog_11_method_4_code 2 = .ok (.invokevirtual 19, 3) := by decide +kernel
theorem de95_5 : decode prog_11_method_4_code 5 = .ok (.aload_n 0, 1) := by decide +kernel
theorem de95_6 : decode prog_11_method_4_code 6 = .ok (.getfield 9, 3) := by decide +kernel
theorem de95_9 : decode prog_11_method_4_code 9 = .ok (.aload_n 0, 1) := by decide +kernel
theorem de95_10 : decode prog_11_method_4_code 10 = .ok (.dup, 1) := by decide +kernel
theorem de95_11 : decode prog_11_method_4_code 11 = .ok (.getfield 15, 3) := by decide +kernel
theorem de95_14 : decode prog_11_method_4_code 14 = .ok (.dup_x1, 1) := by decide +kernel
theorem de95_15 : decode prog_11_method_4_code 15 = .ok (.iconst 1, 1) := by decide +kernel
theorem de95_16 : decode prog_11_method_4_code 16 = .ok (.iadd, 1) := by decide +kernel
theorem de95_17 : decode prog_11_method_4_code 17 = .ok (.putfield 15, 3) := by decide +kernel
theorem de95_20 : decode prog_11_method_4_code 20 = .ok (.lload_n 1, 1) := by decide +kernel
theorem de95_21 : decode prog_11_method_4_code 21 = .ok (.lastore, 1) := by decide +kernel
theorem de95_22 : decode prog_11_method_4_code 22 = .ok (.aload_n 0, 1) := by decide +kernel
theorem de95_23 : decode prog_11_method_4_code 23 = .ok (.aconst_null, 1) := by decide +kernel
theorem de95_24 : decode prog_11_method_4_code 24 = .ok (.putfield 23, 3) := by decide +kernel
theorem de95_27 : decode prog_11_method_4_code 27 = .ok (.return_, 1) := by decide +kernel
theorem de96_0 : decode prog_11_method_7_code 0 = .ok (.iload_n 1, 1) := by decide +kernel
theorem de96_1 : decode prog_11_method_7_code 1 = .ok (.ldc 48, 2) := by decide +kernel
theorem de96_3 : decode prog_11_method_7_code 3 = .ok (.aload_n 0, 1) := by decide +kernel
theorem de96_4 : decode prog_11_method_7_code 4 = .ok (.getfield 15, 3) := by decide +kernel
theorem de96_7 : decode prog_11_method_7_code 7 = .ok (.isub, 1) := by decide +kernel
theorem de96_8 : decode prog_11_method_7_code 8 = .ok (.if_icmp .le 13, 3) := by decide +kernel
theorem de96_21 : decode prog_11_method_7_code 21 = .ok (.aload_n 0, 1) := by decide +kernel
theorem de96_22 : decode prog_11_method_7_code 22 = .ok (.getfield 15, 3) := by decide +kernel
theorem de96_25 : decode prog_11_method_7_code 25 = .ok (.iload_n 1, 1) := by decide +kernel
theorem de96_26 : decode prog_11_method_7_code 26 = .ok (.iadd, 1) := by decide +kernel
theorem de96_27 : decode prog_11_method_7_code 27 = .ok (.istore_n 2, 1) := by decide +kernel
theorem de96_28 : decode prog_11_method_7_code 28 = .ok (.iload_n 2, 1) := by decide +kernel
theorem de96_29 : decode prog_11_method_7_code 29 = .ok (.aload_n 0, 1) := by decide +kernel
theorem de96_30 : decode prog_11_method_7_code 30 = .ok (.getfield 9, 3) := by decide +kernel
theorem de96_33 : decode prog_11_method_7_code 33 = .ok (.arraylength, 1) := by decide +kernel
theorem de96_34 : decode prog_11_method_7_code 34 = .ok (.if_icmp .le 42, 3) := by decide +kernel
theorem de96_37 : decode prog_11_method_7_code 37 = .ok (.aload_n 0, 1) := by decide +kernel
theorem de96_38 : decode prog_11_method_7_code 38 = .ok (.getfield 9, 3) := by decide +kernel
theorem de96_41 : decode prog_11_method_7_code 41 = .ok (.arraylength, 1) := by decide +kernel
theorem de96_42 : decode prog_11_method_7_code 42 = .ok (.ldc 56, 2) := by decide +kernel
theorem de96_44 : decode prog_11_method_7_code 44 = .ok (.if_icmp .le 8, 3) := by decide +kernel
theorem de96_52 : decode prog_11_method_7_code 52 = .ok (.aload_n 0, 1) := by decide +kernel
theorem de96_53 : decode prog_11_method_7_code 53 = .ok (.getfield 9, 3) := by decide +kernel
theorem de96_56 : decode prog_11_method_7_code 56 = .ok (.arraylength, 1) := by decide +kernel
theorem de96_57 : decode prog_11_method_7_code 57 = .ok (.iconst 2, 1) := by decide +kernel
theorem de96_58 : decode prog_11_method_7_code 58 = .ok (.imul, 1) := by decide +kernel
theorem de96_59 : decode prog_11_method_7_code 59 = .ok (.istore_n 3, 1) := by decide +kernel
theorem de96_60 : decode prog_11_method_7_code 60 = .ok (.aload_n 0, 1) := by decide +kernel
theorem de96_61 : decode prog_11_method_7_code 61 = .ok (.aload_n 0, 1) := by decide +kernel
theorem de96_62 : decode prog_11_method_7_code 62 = .ok (.getfield 9, 3) := by decide +kernel
theorem de96_65 : decode prog_11_method_7_code 65 = .ok (.iload_n 2, 1) := by decide +kernel
theorem de96_66 : decode prog_11_method_7_code 66 = .ok (.iload_n 3, 1) := by decide +kernel
theorem de96_67 : decode prog_11_method_7_code 67 = .ok (.invokestatic 57, 3) := by decide +kernel
theorem de96_70 : decode prog_11_method_7_code 70 = .ok (.invokestatic 63, 3) := by decide +kernel
theorem de96_73 : decode prog_11_method_7_code 73 = .ok (.putfield 9, 3) := by decide +kernel
theorem de96_76 : decode prog_11_method_7_code 76 = .ok (.return_, 1) := by decide +kernel
theorem ef_ct_e97 (x0 : Addr) (x1 : Int32) (m : MethodId) : entryFrame m #[(.ref x0), (.int x1)] 4 = mkF m 0 #[.val (.ref x0), .val (.int x1), .unset, .unset] [] := by first | (simp [entryFrame, mkF, argsToLocals, o_catR, o_catN, o_catI, o_catJ, o_catD]; done) | rfl
theorem ct_e97 (l : Launch) (Z : State) (a0 : Array Value) (hw : OHw Z a0) (EL : List (String × Nat)) (n0 : Nat) (p0 : Addr) (p1 : Addr)  (od oz : Addr) (hg : OGp Z od oz) (h0 : Heap) (F_p0 : OObj Z h0 p0 kK [(kK, "keys", "[J", (.ref p1)), (kK, "size", "I", (.int 0)), (kK, "selection", kSd, .null)]) (A_p1 : OArr Z h0 p1 .long [(.long 0), (.long 0), (.long 0), (.long 0), (.long 0), (.long 0), (.long 0), (.long 0), (.long 0), (.long 0), (.long 0), (.long 0), (.long 0), (.long 0), (.long 0), (.long 0)]) (ne_p0_p1 : p0 ≠ p1) :
    OCt l Z a0 EL n0 (⟨kK, "ensureRoom", "(I)V"⟩ : MethodName) prog_11_method_7_code 4 none ({ frames := 0, cells := 0, slots := 0, locals := 0 } : Room) [] #[(.ref p0), (.int 1)] h0 [] (fun w vm h => w = none ∧ h = h0) := by
  refine OCt.body (plainFor_of_name pn_e6) (ef_ct_e97 p0 ((1 : Int32))) ?_
  intro p e s m below meth c T hby hml hret hnm hsh P
  refine o_iloadN P (hb hby de96_0) rfl (pc' := 1) rfl ?_
  refine o_ldcI P (ow hw 24 rfl) (hb hby de96_1) (pc' := 3) rfl ?_
  refine o_aloadN P (hb hby de96_3) rfl rfl (pc' := 4) rfl ?_
  refine o_getF P (ow hw 25 rfl) Via.refl (F_p0.fld 1 rfl) (hb hby de96_4) (pc' := 7) rfl ?_
  clear P; intro T P
  refine o_isub P (hb hby de96_7) (pc' := 8) rfl ?_
  show OG p e below m _ T 8 _ [(.int 2147483639), (.int 1)]
  refine o_icmp_le P (hb hby de96_8) (by decide) (pc' := 21) (by decide) (pcf := 11) rfl (fun _ => ?_) (fun q => absurd q (by decide))
  refine o_aloadN P (hb hby de96_21) rfl rfl (pc' := 22) rfl ?_
  refine o_getF P (ow hw 25 rfl) Via.refl (F_p0.fld 1 rfl) (hb hby de96_22) (pc' := 25) rfl ?_
  clear P; intro T P
  refine o_iloadN P (hb hby de96_25) rfl (pc' := 26) rfl ?_
  refine o_iadd P (hb hby de96_26) (pc' := 27) rfl ?_
  show OG p e below m _ T 27 _ [(.int 1)]
  refine o_istoreN P (hb hby de96_27) (L' := #[.val (.ref p0), .val (.int 1), .val (.int 1), .unset]) rfl (pc' := 28) rfl ?_
  refine o_iloadN P (hb hby de96_28) rfl (pc' := 29) rfl ?_
  refine o_aloadN P (hb hby de96_29) rfl rfl (pc' := 30) rfl ?_
  refine o_getF P (ow hw 13 rfl) Via.refl (F_p0.fld 0 rfl) (hb hby de96_30) (pc' := 33) rfl ?_
  clear P; intro T P
  refine o_arrlen P A_p1 (hb hby de96_33) (n := (16 : Int32)) rfl (pc' := 34) rfl ?_
  refine o_icmp_le P (hb hby de96_34) (by decide) (pc' := 76) (by decide) (pcf := 37) rfl (fun _ => ?_) (fun q => absurd q (by decide))
  exact o_ret0 P hret (hb hby de96_76) (by decide) (by decide) ⟨rfl, rfl⟩
theorem ef_ct_e98 (x0 : Addr) (x1 : Int64) (m : MethodId) : entryFrame m #[(.ref x0), (.long x1)] 3 = mkF m 0 #[.val (.ref x0), .val (.long x1), .second] [] := by first | (simp [entryFrame, mkF, argsToLocals, o_catR, o_catN, o_catI, o_catJ, o_catD]; done) | rfl
theorem ct_e98 (l : Launch) (Z : State) (a0 : Array Value) (hw : OHw Z a0) (EL : List (String × Nat)) (n0 : Nat) (p0 : Addr) (p1 : Addr) (x0 : Int64) (od oz : Addr) (hg : OGp Z od oz) (h0 : Heap) (F_p0 : OObj Z h0 p0 kK [(kK, "keys", "[J", (.ref p1)), (kK, "size", "I", (.int 0)), (kK, "selection", kSd, .null)]) (A_p1 : OArr Z h0 p1 .long [(.long 0), (.long 0), (.long 0), (.long 0), (.long 0), (.long 0), (.long 0), (.long 0), (.long 0), (.long 0), (.long 0), (.long 0), (.long 0), (.long 0), (.long 0), (.long 0)]) (ne_p0_p1 : p0 ≠ p1) :
    OCt l Z a0 EL n0 (⟨kK, "add", "(J)V"⟩ : MethodName) prog_11_method_4_code 3 none ({ frames := 1, cells := 0, slots := 0, locals := 15 } : Room) [] #[(.ref p0), (.long x0)] h0 [p0, p1] (fun w vm h => w = none ∧ OObj Z h p0 kK [(kK, "keys", "[J", (.ref p1)), (kK, "size", "I", (.int 1)), (kK, "selection", kSd, .null)] ∧ OArr Z h p1 .long [(.long x0), (.long 0), (.long 0), (.long 0), (.long 0), (.long 0), (.long 0), (.long 0), (.long 0), (.long 0), (.long 0), (.long 0), (.long 0), (.long 0), (.long 0), (.long 0)] ∧ True) := by
  refine OCt.body (plainFor_of_name pn_e6) (ef_ct_e98 p0 x0) ?_
  intro p e s m below meth c T hby hml hret hnm hsh P
  refine o_aloadN P (hb hby de95_0) rfl rfl (pc' := 1) rfl ?_
  refine o_iconst P (1 : Int32) (hb hby de95_1) rfl (pc' := 2) rfl ?_
  refine o_callQ P (W := 0) (a := p0) (ow hw 20 rfl) (ow hw 21 rfl) (ow hw 4 rfl) (ow hw 22 rfl) (ow hw 5 rfl) (ow hw 23 rfl) (by decide) F_p0.exa (ct_e97 l Z a0 hw EL n0 p0 p1  od oz hg h0 F_p0 A_p1 ne_p0_p1) o_sf0 (by rw [hml]; rfl) (by decide) (by decide) (argsL := [(.int 1)]) (rest := []) (lenOf pd_1 rfl) rfl rfl (Nat.le_of_eq rfl) (hb hby de95_2) (pc' := 5) rfl (by decide) (by decide) ?_
  clear P; intro T h2 v2 P K2 q2
  obtain ⟨rfl, rfl⟩ := q2; clear K2
  show OG p e below m _ T 5 _ []
  refine o_aloadN P (hb hby de95_5) rfl rfl (pc' := 6) rfl ?_
  refine o_getF P (ow hw 13 rfl) Via.refl (F_p0.fld 0 rfl) (hb hby de95_6) (pc' := 9) rfl ?_
  clear P; intro T P
  refine o_aloadN P (hb hby de95_9) rfl rfl (pc' := 10) rfl ?_
  refine o_dup P (hb hby de95_10) rfl (pc' := 11) rfl ?_
  refine o_getF P (ow hw 25 rfl) Via.refl (F_p0.fld 1 rfl) (hb hby de95_11) (pc' := 14) rfl ?_
  clear P; intro T P
  refine o_dupX1 P (hb hby de95_14) rfl rfl (pc' := 15) rfl ?_
  refine o_iconst P (1 : Int32) (hb hby de95_15) rfl (pc' := 16) rfl ?_
  refine o_iadd P (hb hby de95_16) (pc' := 17) rfl ?_
  show OG p e below m _ T 17 _ [(.int 1), (.ref p0), (.int 0), (.ref p1)]
  refine o_putF P (v' := (.int 1)) (ty := .int) (ow hw 25 rfl) Via.refl (F_p0.fld 1 rfl) F_p0.exa (Or.inl (ow hw 26 rfl)) (ow hw 4 rfl) (by decide) rfl rfl (List.Mem.head _) (hb hby de95_17) (pc' := 20) rfl ?_
  clear P; intro T h3 P W3
  replace A_p1 := A_p1.oth W3 (Ne.symm ne_p0_p1)
  replace F_p0 : OObj Z h3 p0 kK [(kK, "keys", "[J", (.ref p1)), (kK, "size", "I", (.int 1)), (kK, "selection", kSd, .null)] := F_p0.put 1 rfl W3
  clear W3
  refine o_lloadN P (hb hby de95_20) rfl (pc' := 21) rfl ?_
  refine o_lastore P (v := (.long x0)) A_p1 (List.Mem.tail _ (List.Mem.head _)) (by decide) (of_decide_eq_true rfl) rfl (hb hby de95_21) (pc' := 22) rfl ?_
  clear P; clear A_p1; intro T h4 P W4 A_p1
  replace F_p0 := F_p0.oth W4 ne_p0_p1
  clear W4
  replace A_p1 : OArr Z h4 p1 .long [(.long x0), (.long 0), (.long 0), (.long 0), (.long 0), (.long 0), (.long 0), (.long 0), (.long 0), (.long 0), (.long 0), (.long 0), (.long 0), (.long 0), (.long 0), (.long 0)] := A_p1
  refine o_aloadN P (hb hby de95_22) rfl rfl (pc' := 23) rfl ?_
  refine o_aconstNull P (hb hby de95_23) (pc' := 24) rfl ?_
  refine o_putF P (v' := .null) (ty := (.object kS)) (ow hw 27 rfl) Via.refl (F_p0.fld 2 rfl) F_p0.exa (Or.inl (ow hw 28 rfl)) (ow hw 4 rfl) (by decide) rfl rfl (List.Mem.head _) (hb hby de95_24) (pc' := 27) rfl ?_
  clear P; intro T h5 P W5
  replace A_p1 := A_p1.oth W5 (Ne.symm ne_p0_p1)
  replace F_p0 : OObj Z h5 p0 kK [(kK, "keys", "[J", (.ref p1)), (kK, "size", "I", (.int 1)), (kK, "selection", kSd, .null)] := F_p0.put 2 rfl W5
  clear W5
  exact o_ret0 P hret (hb hby de95_27) (by decide) (by decide) ⟨rfl, F_p0, A_p1, trivial⟩
theorem ef_ct_e99 (x0 : Addr) (x1 : Int32) (m : MethodId) : entryFrame m #[(.ref x0), (.int x1)] 2 = mkF m 0 #[.val (.ref x0), .val (.int x1)] [] := by first | (simp [entryFrame, mkF, argsToLocals, o_catR, o_catN, o_catI, o_catJ, o_catD]; done) | rfl
theorem ct_e99 (l : Launch) (Z : State) (a0 : Array Value) (hw : OHw Z a0) (EL : List (String × Nat)) (n0 : Nat) (p0 : Addr)  (od oz : Addr) (hg : OGp Z od oz) (h0 : Heap) (F_p0 : OObj Z h0 p0 kB [(kB, "wordsInUse", "I", (.int 0)), (kB, "sizeIsSticky", "Z", (.int 0)), (kB, "words", "[J", .null)])  :
    OCt l Z a0 EL n0 (⟨kB, "initWords", "(I)V"⟩ : MethodName) jdk_92_method_6_code 2 none ({ frames := 1, cells := 1, slots := 1, locals := 13 } : Room) [] #[(.ref p0), (.int 2)] h0 [p0] (fun w vm h => ∃ n0 : Addr, w = none ∧ h0.size ≤ n0 ∧ OObj Z h p0 kB [(kB, "wordsInUse", "I", (.int 0)), (kB, "sizeIsSticky", "Z", (.int 0)), (kB, "words", "[J", (.ref n0))] ∧ OArr Z h n0 .long [(.long 0)] ∧ True) := by
  refine OCt.body (plainFor_of_name pn_e0) (ef_ct_e99 p0 ((2 : Int32))) ?_
  intro p e s m below meth c T hby hml hret hnm hsh P
  refine o_aloadN P (hb hby de4_0) rfl rfl (pc' := 1) rfl ?_
  refine o_iloadN P (hb hby de4_1) rfl (pc' := 2) rfl ?_
  refine o_iconst P (1 : Int32) (hb hby de4_2) rfl (pc' := 3) rfl ?_
  refine o_isub P (hb hby de4_3) (pc' := 4) rfl ?_
  show OG p e below m _ T 4 _ [(.int 1), (.ref p0)]
  refine o_callS P (W := 1) (ow hw 59 rfl) (ow hw 60 rfl) (ow hw 45 rfl) (ow hw 61 rfl) (by decide) (ct_e25 l Z a0 hw EL n0   od oz hg h0  ) o_sf0 (by rw [hml]; rfl) (by decide) (by decide) (argsL := [(.int 1)]) (rest := [(.ref p0)]) (lenOf pd_0 rfl) rfl rfl (Nat.le_of_eq rfl) (hb hby de4_4) (pc' := 7) rfl (by decide) (by decide) ?_
  clear P; intro T h2 v2 P K2 q2
  obtain ⟨rfl, rfl⟩ := q2; clear K2
  show OG p e below m _ T 7 _ [(.int 0), (.ref p0)]
  refine o_iconst P (1 : Int32) (hb hby de4_7) rfl (pc' := 8) rfl ?_
  refine o_iadd P (hb hby de4_8) (pc' := 9) rfl ?_
  show OG p e below m _ T 9 _ [(.int 1), (.ref p0)]
  have hz_b3 := P.keep0.1
  refine o_newarr P (cap := 1) (ow hw 12 rfl) (hb hby de4_9) (by decide) (by decide) (by decide) (pc' := 11) rfl (by decide) (by decide) ?_
  clear P; intro T h3 b3 P K3 hb_b3 A_b3
  have sz_b3 := Nat.le_trans hz_b3 hb_b3
  clear hz_b3
  have ne_p0_b3 := F_p0.nb hb_b3
  replace F_p0 := F_p0.keep K3 nin0
  clear K3
  replace A_b3 : OArr Z h3 b3 .long [(.long 0)] := A_b3
  refine o_putF P (v' := (.ref b3)) (ty := (.array .long)) (ow hw 62 rfl) Via.refl (F_p0.fld 2 rfl) F_p0.exa (Or.inl (ow hw 63 rfl)) (ow hw 44 rfl) (by decide) rfl rfl (List.Mem.tail _ (List.Mem.head _)) (hb hby de4_11) (pc' := 14) rfl ?_
  clear P; intro T h4 P W4
  replace A_b3 := A_b3.oth W4 (Ne.symm ne_p0_b3)
  replace F_p0 : OObj Z h4 p0 kB [(kB, "wordsInUse", "I", (.int 0)), (kB, "sizeIsSticky", "Z", (.int 0)), (kB, "words", "[J", (.ref b3))] := F_p0.put 2 rfl W4
  clear W4
  exact o_ret0 P hret (hb hby de4_14) (by decide) (by decide) ⟨b3, rfl, hsh ▸ sz_b3, F_p0, A_b3, trivial⟩
theorem ef_ct_e100 (x0 : Addr) (x1 : Int32) (m : MethodId) : entryFrame m #[(.ref x0), (.int x1)] 2 = mkF m 0 #[.val (.ref x0), .val (.int x1)] [] := by first | (simp [entryFrame, mkF, argsToLocals, o_catR, o_catN, o_catI, o_catJ, o_catD]; done) | rfl
theorem ct_e100 (l : Launch) (Z : State) (a0 : Array Value) (hw : OHw Z a0) (EL : List (String × Nat)) (n0 : Nat) (p0 : Addr)  (od oz : Addr) (hg : OGp Z od oz) (h0 : Heap) (F_p0 : OObj Z h0 p0 kB [(kB, "wordsInUse", "I", (.int 0)), (kB, "sizeIsSticky", "Z", (.int 0)), (kB, "words", "[J", .null)])  :
    OCt l Z a0 EL n0 (⟨kB, "<init>", "(I)V"⟩ : MethodName) jdk_92_method_5_code 2 none ({ frames := 2, cells := 1, slots := 1, locals := 26 } : Room) [] #[(.ref p0), (.int 2)] h0 [p0] (fun w vm h => ∃ n0 : Addr, w = none ∧ h0.size ≤ n0 ∧ OObj Z h p0 kB [(kB, "wordsInUse", "I", (.int 0)), (kB, "sizeIsSticky", "Z", (.int 1)), (kB, "words", "[J", (.ref n0))] ∧ OArr Z h n0 .long [(.long 0)] ∧ True) := by
  refine OCt.body (plainFor_of_name pn_e0) (ef_ct_e100 p0 ((2 : Int32))) ?_
  intro p e s m below meth c T hby hml hret hnm hsh P
  refine o_aloadN P (hb hby de3_0) rfl rfl (pc' := 1) rfl ?_
  refine o_initO P (W := 0) (ow hw 49 rfl) (ow hw 10 rfl) (ow hw 11 rfl) (by rw [hml]; rfl) (by decide) (Nat.le_of_eq rfl) (by decide) (hb hby de3_1) (pc' := 4) rfl ?_
  clear P; intro T P
  refine o_aloadN P (hb hby de3_4) rfl rfl (pc' := 5) rfl ?_
  refine o_iconst P (0 : Int32) (hb hby de3_5) rfl (pc' := 6) rfl ?_
  refine o_putF P (v' := (.int 0)) (ty := .int) (ow hw 50 rfl) Via.refl (F_p0.fld 0 rfl) F_p0.exa (Or.inl (ow hw 51 rfl)) (ow hw 44 rfl) (by decide) rfl rfl (List.Mem.head _) (hb hby de3_6) (pc' := 9) rfl ?_
  clear P; intro T h1 P W1
  replace F_p0 : OObj Z h1 p0 kB [(kB, "wordsInUse", "I", (.int 0)), (kB, "sizeIsSticky", "Z", (.int 0)), (kB, "words", "[J", .null)] := F_p0.put 0 rfl W1
  clear W1
  refine o_aloadN P (hb hby de3_9) rfl rfl (pc' := 10) rfl ?_
  refine o_iconst P (0 : Int32) (hb hby de3_10) rfl (pc' := 11) rfl ?_
  refine o_putF P (v' := (.int 0)) (ty := .boolean) (ow hw 52 rfl) Via.refl (F_p0.fld 1 rfl) F_p0.exa (Or.inl (ow hw 53 rfl)) (ow hw 44 rfl) (by decide) rfl rfl (List.Mem.head _) (hb hby de3_11) (pc' := 14) rfl ?_
  clear P; intro T h2 P W2
  replace F_p0 : OObj Z h2 p0 kB [(kB, "wordsInUse", "I", (.int 0)), (kB, "sizeIsSticky", "Z", (.int 0)), (kB, "words", "[J", .null)] := F_p0.put 1 rfl W2
  clear W2
  refine o_iloadN P (hb hby de3_14) rfl (pc' := 15) rfl ?_
  refine o_if_ge P (hb hby de3_15) (by decide) (pc' := 45) (by decide) (pcf := 18) rfl (fun _ => ?_) (fun q => absurd q (by decide))
  refine o_aloadN P (hb hby de3_45) rfl rfl (pc' := 46) rfl ?_
  refine o_iloadN P (hb hby de3_46) rfl (pc' := 47) rfl ?_
  have hn_3 := P.n0le; have hk_3 := P.keep0.1
  refine o_callP P (W := 0) (a := p0) (ow hw 54 rfl) (ow hw 55 rfl) (ow hw 57 rfl) (ow hw 56 rfl) (ow hw 45 rfl) (ow hw 58 rfl) (by decide) F_p0.exa (ct_e99 l Z a0 hw EL n0 p0  od oz hg h2 F_p0 ) (o_sfS (List.Mem.head _) o_sf0) (by rw [hml]; rfl) (by decide) (by decide) (argsL := [(.int 2)]) (rest := []) (lenOf pd_1 rfl) rfl rfl (Nat.le_of_eq rfl) (hb hby de3_47) (pc' := 50) rfl (by decide) (by decide) ?_
  clear P; intro T h4 v4 P K4 q4
  obtain ⟨n0_3, rfl, g_n0_3, Q_p0, Q_n0_3, -⟩ := q4
  have ne_p0_n0_3 := F_p0.nb g_n0_3
  have sz_n0_3 := Nat.le_trans hk_3 g_n0_3
  clear F_p0
  have F_p0 := Q_p0; clear Q_p0
  have A_n0_3 := Q_n0_3; clear Q_n0_3
  replace P := P.moreA A_n0_3 (fun q => by cases q) (Nat.le_trans hn_3 g_n0_3) sz_n0_3
  clear K4 hn_3 hk_3
  show OG p e below m _ T 50 _ []
  refine o_aloadN P (hb hby de3_50) rfl rfl (pc' := 51) rfl ?_
  refine o_iconst P (1 : Int32) (hb hby de3_51) rfl (pc' := 52) rfl ?_
  refine o_putF P (v' := (.int 1)) (ty := .boolean) (ow hw 52 rfl) Via.refl (F_p0.fld 1 rfl) F_p0.exa (Or.inl (ow hw 53 rfl)) (ow hw 44 rfl) (by decide) rfl rfl (List.Mem.tail _ (List.Mem.head _)) (hb hby de3_52) (pc' := 55) rfl ?_
  clear P; intro T h5 P W5
  replace A_n0_3 := A_n0_3.oth W5 (Ne.symm ne_p0_n0_3)
  replace F_p0 : OObj Z h5 p0 kB [(kB, "wordsInUse", "I", (.int 0)), (kB, "sizeIsSticky", "Z", (.int 1)), (kB, "words", "[J", (.ref n0_3))] := F_p0.put 1 rfl W5
  clear W5
  exact o_ret0 P hret (hb hby de3_55) (by decide) (by decide) ⟨n0_3, rfl, hsh ▸ sz_n0_3, F_p0, A_n0_3, trivial⟩
theorem ef_ct_e101 (x0 : Addr) (m : MethodId) : entryFrame m #[(.ref x0)] 1 = mkF m 0 #[.val (.ref x0)] [] := by first | (simp [entryFrame, mkF, argsToLocals, o_catR, o_catN, o_catI, o_catJ, o_catD]; done) | rfl
theorem ct_e101 (l : Launch) (Z : State) (a0 : Array Value) (hw : OHw Z a0) (EL : List (String × Nat)) (n0 : Nat) (p0 : Addr) (p1 : Addr)  (od oz : Addr) (hg : OGp Z od oz) (h0 : Heap) (F_p0 : OObj Z h0 p0 kB [(kB, "wordsInUse", "I", (.int 1)), (kB, "sizeIsSticky", "Z", (.int 1)), (kB, "words", "[J", (.ref p1))]) (A_p1 : OArr Z h0 p1 .long [(.long 3)]) (ne_p0_p1 : p0 ≠ p1) :
    OCt l Z a0 EL n0 (⟨kB, "checkInvariants", "()V"⟩ : MethodName) jdk_92_method_2_code 1 none ({ frames := 0, cells := 0, slots := 0, locals := 0 } : Room) [] #[(.ref p0)] h0 [] (fun w vm h => w = none ∧ h = h0) := by
  refine OCt.body (plainFor_of_name pn_e0) (ef_ct_e101 p0) ?_
  intro p e s m below meth c T hby hml hret hnm hsh P
  refine o_getS P (ow hw 86 rfl) Via.refl hg.1 (hb hby de14_0) (pc' := 3) rfl ?_
  clear P; intro T P
  refine o_if_ne P (hb hby de14_3) (by decide) (pc' := 37) (by decide) (pcf := 6) rfl (fun _ => ?_) (fun q => absurd q (by decide))
  refine o_getS P (ow hw 86 rfl) Via.refl hg.1 (hb hby de14_37) (pc' := 40) rfl ?_
  clear P; intro T P
  refine o_if_ne P (hb hby de14_40) (by decide) (pc' := 70) (by decide) (pcf := 43) rfl (fun _ => ?_) (fun q => absurd q (by decide))
  refine o_getS P (ow hw 86 rfl) Via.refl hg.1 (hb hby de14_70) (pc' := 73) rfl ?_
  clear P; intro T P
  refine o_if_ne P (hb hby de14_73) (by decide) (pc' := 110) (by decide) (pcf := 76) rfl (fun _ => ?_) (fun q => absurd q (by decide))
  exact o_ret0 P hret (hb hby de14_110) (by decide) (by decide) ⟨rfl, rfl⟩
theorem ef_ct_e102 (x0 : Addr) (x1 : Int32) (m : MethodId) : entryFrame m #[(.ref x0), (.int x1)] 3 = mkF m 0 #[.val (.ref x0), .val (.int x1), .unset] [] := by first | (simp [entryFrame, mkF, argsToLocals, o_catR, o_catN, o_catI, o_catJ, o_catD]; done) | rfl
theorem ct_e102 (l : Launch) (Z : State) (a0 : Array Value) (hw : OHw Z a0) (EL : List (String × Nat)) (n0 : Nat) (p0 : Addr) (p1 : Addr)  (od oz : Addr) (hg : OGp Z od oz) (h0 : Heap) (F_p0 : OObj Z h0 p0 kB [(kB, "wordsInUse", "I", (.int 1)), (kB, "sizeIsSticky", "Z", (.int 1)), (kB, "words", "[J", (.ref p1))]) (A_p1 : OArr Z h0 p1 .long [(.long 1)]) (ne_p0_p1 : p0 ≠ p1) :
    OCt l Z a0 EL n0 (⟨kB, "set", "(I)V"⟩ : MethodName) jdk_92_method_19_code 3 none ({ frames := 1, cells := 0, slots := 0, locals := 14 } : Room) [] #[(.ref p0), (.int 1)] h0 [p1] (fun w vm h => w = none ∧ OArr Z h p1 .long [(.long 3)] ∧ True) := by
  refine OCt.body (plainFor_of_name pn_e0) (ef_ct_e102 p0 ((1 : Int32))) ?_
  intro p e s m below meth c T hby hml hret hnm hsh P
  refine o_iloadN P (hb hby de8_0) rfl (pc' := 1) rfl ?_
  refine o_if_ge P (hb hby de8_1) (by decide) (pc' := 31) (by decide) (pcf := 4) rfl (fun _ => ?_) (fun q => absurd q (by decide))
  refine o_iloadN P (hb hby de8_31) rfl (pc' := 32) rfl ?_
  refine o_callS P (W := 0) (ow hw 59 rfl) (ow hw 60 rfl) (ow hw 45 rfl) (ow hw 61 rfl) (by decide) (ct_e25 l Z a0 hw EL n0   od oz hg h0  ) o_sf0 (by rw [hml]; rfl) (by decide) (by decide) (argsL := [(.int 1)]) (rest := []) (lenOf pd_0 rfl) rfl rfl (Nat.le_of_eq rfl) (hb hby de8_32) (pc' := 35) rfl (by decide) (by decide) ?_
  clear P; intro T h2 v2 P K2 q2
  obtain ⟨rfl, rfl⟩ := q2; clear K2
  show OG p e below m _ T 35 _ [(.int 0)]
  refine o_istoreN P (hb hby de8_35) (L' := #[.val (.ref p0), .val (.int 1), .val (.int 0)]) rfl (pc' := 36) rfl ?_
  refine o_aloadN P (hb hby de8_36) rfl rfl (pc' := 37) rfl ?_
  refine o_iloadN P (hb hby de8_37) rfl (pc' := 38) rfl ?_
  refine o_callP P (W := 0) (a := p0) (ow hw 71 rfl) (ow hw 72 rfl) (ow hw 74 rfl) (ow hw 73 rfl) (ow hw 45 rfl) (ow hw 75 rfl) (by decide) F_p0.exa (ct_e17 l Z a0 hw EL n0 p0 p1  od oz hg h2 F_p0 A_p1 ne_p0_p1) o_sf0 (by rw [hml]; rfl) (by decide) (by decide) (argsL := [(.int 0)]) (rest := []) (lenOf pd_1 rfl) rfl rfl (Nat.le_of_eq rfl) (hb hby de8_38) (pc' := 41) rfl (by decide) (by decide) ?_
  clear P; intro T h4 v4 P K4 q4
  obtain ⟨rfl, rfl⟩ := q4; clear K4
  show OG p e below m _ T 41 _ []
  refine o_aloadN P (hb hby de8_41) rfl rfl (pc' := 42) rfl ?_
  refine o_getF P (ow hw 62 rfl) Via.refl (F_p0.fld 2 rfl) (hb hby de8_42) (pc' := 45) rfl ?_
  clear P; intro T P
  refine o_iloadN P (hb hby de8_45) rfl (pc' := 46) rfl ?_
  refine o_dup2 P (hb hby de8_46) rfl rfl (pc' := 47) rfl ?_
  refine o_laload P (v := (.long 1)) A_p1 (by decide) rfl (hb hby de8_47) (pc' := 48) rfl ?_
  refine o_lconst P (1 : Int64) (hb hby de8_48) rfl (pc' := 49) rfl ?_
  refine o_iloadN P (hb hby de8_49) rfl (pc' := 50) rfl ?_
  refine o_lshl P (hb hby de8_50) (pc' := 51) rfl ?_
  show OG p e below m _ T 51 _ [(.long 2), (.long 1), (.int 0), (.ref p1)]
  refine o_lor P (hb hby de8_51) (pc' := 52) rfl ?_
  show OG p e below m _ T 52 _ [(.long 3), (.int 0), (.ref p1)]
  refine o_lastore P (v := (.long 3)) A_p1 (List.Mem.head _) (by decide) (of_decide_eq_true rfl) rfl (hb hby de8_52) (pc' := 53) rfl ?_
  clear P; clear A_p1; intro T h5 P W5 A_p1
  replace F_p0 := F_p0.oth W5 ne_p0_p1
  clear W5
  replace A_p1 : OArr Z h5 p1 .long [(.long 3)] := A_p1
  refine o_aloadN P (hb hby de8_53) rfl rfl (pc' := 54) rfl ?_
  refine o_callP P (W := 0) (a := p0) (ow hw 81 rfl) (ow hw 82 rfl) (ow hw 84 rfl) (ow hw 83 rfl) (ow hw 45 rfl) (ow hw 85 rfl) (by decide) F_p0.exa (ct_e101 l Z a0 hw EL n0 p0 p1  od oz hg h5 F_p0 A_p1 ne_p0_p1) o_sf0 (by rw [hml]; rfl) (by decide) (by decide) (argsL := []) (rest := []) (lenOf pd_2 rfl) rfl rfl (Nat.le_of_eq rfl) (hb hby de8_54) (pc' := 57) rfl (by decide) (by decide) ?_
  clear P; intro T h7 v7 P K7 q7
  obtain ⟨rfl, rfl⟩ := q7; clear K7
  show OG p e below m _ T 57 _ []
  exact o_ret0 P hret (hb hby de8_57) (by decide) (by decide) ⟨rfl, A_p1, trivial⟩
theorem ef_ct_e103 (x0 : Addr) (x1 : Addr) (x2 : Int32) (m : MethodId) : entryFrame m #[(.ref x0), (.ref x1), (.int x2)] 3 = mkF m 0 #[.val (.ref x0), .val (.ref x1), .val (.int x2)] [] := by first | (simp [entryFrame, mkF, argsToLocals, o_catR, o_catN, o_catI, o_catJ, o_catD]; done) | rfl
theorem ct_e103 (l : Launch) (Z : State) (a0 : Array Value) (hw : OHw Z a0) (EL : List (String × Nat)) (n0 : Nat) (p0 : Addr) (p1 : Addr) (x0 : Int64) (od oz : Addr) (hg : OGp Z od oz) (h0 : Heap) (F_p0 : OObj Z h0 p0 kS [(kS, "values", "[J", .null), (kS, "cuts", "Ljava/util/BitSet;", .null)]) (A_p1 : OArr Z h0 p1 .long [(.long x0), (.long 0), (.long 0), (.long 0), (.long 0), (.long 0), (.long 0), (.long 0), (.long 0), (.long 0), (.long 0), (.long 0), (.long 0), (.long 0), (.long 0), (.long 0)]) (ne_p0_p1 : p0 ≠ p1) :
    OCt l Z a0 EL n0 (⟨kS, "<init>", "([JI)V"⟩ : MethodName) prog_15_method_1_code 3 none ({ frames := 3, cells := 2, slots := 4, locals := 42 } : Room) [] #[(.ref p0), (.ref p1), (.int 1)] h0 [p0] (fun w vm h => ∃ n0 n1 : Addr, w = none ∧ h0.size ≤ n0 ∧ h0.size ≤ n1 ∧ n0 ≠ n1 ∧ OObj Z h p0 kS [(kS, "values", "[J", (.ref p1)), (kS, "cuts", "Ljava/util/BitSet;", (.ref n0))] ∧ OObj Z h n0 kB [(kB, "wordsInUse", "I", (.int 1)), (kB, "sizeIsSticky", "Z", (.int 1)), (kB, "words", "[J", (.ref n1))] ∧ OArr Z h n1 .long [(.long 3)] ∧ True) := by
  refine OCt.body (plainFor_of_name pn_e1) (ef_ct_e103 p0 p1 ((1 : Int32))) ?_
  intro p e s m below meth c T hby hml hret hnm hsh P
  refine o_aloadN P (hb hby de2_0) rfl rfl (pc' := 1) rfl ?_
  refine o_initO P (W := 0) (ow hw 40 rfl) (ow hw 10 rfl) (ow hw 11 rfl) (by rw [hml]; rfl) (by decide) (Nat.le_of_eq rfl) (by decide) (hb hby de2_1) (pc' := 4) rfl ?_
  clear P; intro T P
  refine o_aloadN P (hb hby de2_4) rfl rfl (pc' := 5) rfl ?_
  refine o_aloadN P (hb hby de2_5) rfl rfl (pc' := 6) rfl ?_
  refine o_putF P (v' := (.ref p1)) (ty := (.array .long)) (ow hw 41 rfl) Via.refl (F_p0.fld 0 rfl) F_p0.exa (Or.inr ⟨(ow hw 42 rfl), rfl, hnm⟩) (ow hw 35 rfl) (by decide) rfl rfl (List.Mem.head _) (hb hby de2_6) (pc' := 9) rfl ?_
  clear P; intro T h1 P W1
  replace A_p1 := A_p1.oth W1 (Ne.symm ne_p0_p1)
  replace F_p0 : OObj Z h1 p0 kS [(kS, "values", "[J", (.ref p1)), (kS, "cuts", "Ljava/util/BitSet;", .null)] := F_p0.put 0 rfl W1
  clear W1
  refine o_aloadN P (hb hby de2_9) rfl rfl (pc' := 10) rfl ?_
  have hz_b2 := P.keep0.1
  refine o_new P [(kB, "wordsInUse", "I", (.int 0)), (kB, "sizeIsSticky", "Z", (.int 0)), (kB, "words", "[J", .null)] (ow hw 43 rfl) (ow hw 44 rfl) (ow hw 45 rfl) (OLd.cons (Or.inl (ow hw 51 rfl)) (ty := .int) (by decide) rfl (OLd.cons (Or.inl (ow hw 53 rfl)) (ty := .boolean) (by decide) rfl (OLd.cons (Or.inl (ow hw 63 rfl)) (ty := (.array .long)) (by decide) rfl OLd.nil))) (by decide +kernel) (hb hby de2_10) (pc' := 13) rfl (by decide) (by decide) ?_
  clear P; intro T h2 b2 P K2 hb_b2 F_b2
  have sz_b2 := Nat.le_trans hz_b2 hb_b2
  clear hz_b2
  have ne_p0_b2 := F_p0.nb hb_b2
  have ne_p1_b2 := A_p1.nb hb_b2
  replace F_p0 := F_p0.keep K2 nin0
  replace A_p1 := A_p1.keep K2 nin0
  clear K2
  refine o_dup P (hb hby de2_13) rfl (pc' := 14) rfl ?_
  refine o_iloadN P (hb hby de2_14) rfl (pc' := 15) rfl ?_
  refine o_iconst P (1 : Int32) (hb hby de2_15) rfl (pc' := 16) rfl ?_
  refine o_iadd P (hb hby de2_16) (pc' := 17) rfl ?_
  show OG p e below m _ T 17 _ [(.int 2), (.ref b2), (.ref b2), (.ref p0)]
  have hn_3 := P.n0le; have hk_3 := P.keep0.1
  refine o_callI P (W := 2) (a := b2) rfl (ow hw 46 rfl) (ow hw 47 rfl) (ow hw 45 rfl) (ow hw 48 rfl) (by decide) (ct_e100 l Z a0 hw EL n0 b2  od oz hg h2 F_b2 ) (o_sfS (List.Mem.head _) o_sf0) (by rw [hml]; rfl) (by decide) (by decide) (argsL := [(.int 2)]) (rest := [(.ref b2), (.ref p0)]) (lenOf pd_1 rfl) rfl rfl (Nat.le_of_eq rfl) (hb hby de2_17) (pc' := 20) rfl (by decide) (by decide) ?_
  clear P; intro T h4 v4 P K4 q4
  obtain ⟨n0_3, rfl, g_n0_3, Q_b2, Q_n0_3, -⟩ := q4
  have ne_p0_n0_3 := F_p0.nb g_n0_3
  have ne_b2_n0_3 := F_b2.nb g_n0_3
  have ne_p1_n0_3 := A_p1.nb g_n0_3
  have sz_n0_3 := Nat.le_trans hk_3 g_n0_3
  replace F_p0 := F_p0.keep K4 (ninS ne_p0_b2 nin0)
  replace A_p1 := A_p1.keep K4 (ninS ne_p1_b2 nin0)
  clear F_b2
  have F_b2 := Q_b2; clear Q_b2
  have A_n0_3 := Q_n0_3; clear Q_n0_3
  replace P := P.moreA A_n0_3 (fun q => by cases q) (Nat.le_trans hn_3 g_n0_3) sz_n0_3
  clear K4 hn_3 hk_3
  show OG p e below m _ T 20 _ [(.ref b2), (.ref p0)]
  refine o_putF P (v' := (.ref b2)) (ty := (.object kB)) (ow hw 64 rfl) Via.refl (F_p0.fld 1 rfl) F_p0.exa (Or.inr ⟨(ow hw 65 rfl), rfl, hnm⟩) (ow hw 35 rfl) (by decide) rfl rfl (List.Mem.tail _ (List.Mem.tail _ (List.Mem.head _))) (hb hby de2_20) (pc' := 23) rfl ?_
  clear P; intro T h5 P W5
  replace F_b2 := F_b2.oth W5 (Ne.symm ne_p0_b2)
  replace A_p1 := A_p1.oth W5 (Ne.symm ne_p0_p1)
  replace A_n0_3 := A_n0_3.oth W5 (Ne.symm ne_p0_n0_3)
  replace F_p0 : OObj Z h5 p0 kS [(kS, "values", "[J", (.ref p1)), (kS, "cuts", "Ljava/util/BitSet;", (.ref b2))] := F_p0.put 1 rfl W5
  clear W5
  refine o_aloadN P (hb hby de2_23) rfl rfl (pc' := 24) rfl ?_
  refine o_getF P (ow hw 64 rfl) Via.refl (F_p0.fld 1 rfl) (hb hby de2_24) (pc' := 27) rfl ?_
  clear P; intro T P
  refine o_iconst P (0 : Int32) (hb hby de2_27) rfl (pc' := 28) rfl ?_
  have hn_6 := P.n0le; have hk_6 := P.keep0.1
  refine o_callV P (W := 0) (a := b2) (ow hw 66 rfl) (ow hw 67 rfl) (o_nfSl (ow hw 69 rfl)) (ow hw 69 rfl) (ow hw 68 rfl) (ow hw 45 rfl) (ow hw 70 rfl) (by decide) F_b2.exa (ct_e16 l Z a0 hw EL n0 b2 n0_3  od oz hg h5 F_b2 A_n0_3 ne_b2_n0_3) (o_sfS (List.Mem.tail _ (List.Mem.head _)) (o_sfS (List.Mem.head _) o_sf0)) (by rw [hml]; rfl) (by decide) (by decide) (argsL := [(.int 0)]) (rest := []) (lenOf pd_1 rfl) rfl rfl (Nat.le_of_eq rfl) (hb hby de2_28) (pc' := 31) rfl (by decide) (by decide) ?_
  clear P; intro T h7 v7 P K7 q7
  obtain ⟨rfl, Q_b2, Q_n0_3, -⟩ := q7
  replace F_p0 := F_p0.keep K7 (ninS ne_p0_b2 (ninS ne_p0_n0_3 nin0))
  replace A_p1 := A_p1.keep K7 (ninS ne_p1_b2 (ninS ne_p1_n0_3 nin0))
  clear F_b2
  have F_b2 := Q_b2; clear Q_b2
  clear A_n0_3
  have A_n0_3 := Q_n0_3; clear Q_n0_3
  clear K7 hn_6 hk_6
  show OG p e below m _ T 31 _ []
  refine o_aloadN P (hb hby de2_31) rfl rfl (pc' := 32) rfl ?_
  refine o_getF P (ow hw 64 rfl) Via.refl (F_p0.fld 1 rfl) (hb hby de2_32) (pc' := 35) rfl ?_
  clear P; intro T P
  refine o_iloadN P (hb hby de2_35) rfl (pc' := 36) rfl ?_
  have hn_8 := P.n0le; have hk_8 := P.keep0.1
  refine o_callV P (W := 0) (a := b2) (ow hw 66 rfl) (ow hw 67 rfl) (o_nfSl (ow hw 69 rfl)) (ow hw 69 rfl) (ow hw 68 rfl) (ow hw 45 rfl) (ow hw 70 rfl) (by decide) F_b2.exa (ct_e102 l Z a0 hw EL n0 b2 n0_3  od oz hg h7 F_b2 A_n0_3 ne_b2_n0_3) (o_sfS (List.Mem.head _) o_sf0) (by rw [hml]; rfl) (by decide) (by decide) (argsL := [(.int 1)]) (rest := []) (lenOf pd_1 rfl) rfl rfl (Nat.le_of_eq rfl) (hb hby de2_36) (pc' := 39) rfl (by decide) (by decide) ?_
  clear P; intro T h9 v9 P K9 q9
  obtain ⟨rfl, Q_n0_3, -⟩ := q9
  replace F_p0 := F_p0.keep K9 (ninS ne_p0_n0_3 nin0)
  replace F_b2 := F_b2.keep K9 (ninS ne_b2_n0_3 nin0)
  replace A_p1 := A_p1.keep K9 (ninS ne_p1_n0_3 nin0)
  clear A_n0_3
  have A_n0_3 := Q_n0_3; clear Q_n0_3
  clear K9 hn_8 hk_8
  show OG p e below m _ T 39 _ []
  exact o_ret0 P hret (hb hby de2_39) (by decide) (by decide) ⟨b2, n0_3, rfl, hsh ▸ sz_b2, hsh ▸ sz_n0_3, ne_b2_n0_3, F_p0, F_b2, A_n0_3, trivial⟩
theorem ef_ct_e104 (x0 : Addr) (x1 : Int32) (m : MethodId) : entryFrame m #[(.ref x0), (.int x1)] 3 = mkF m 0 #[.val (.ref x0), .val (.int x1), .unset] [] := by first | (simp [entryFrame, mkF, argsToLocals, o_catR, o_catN, o_catI, o_catJ, o_catD]; done) | rfl
theorem ct_e104 (l : Launch) (Z : State) (a0 : Array Value) (hw : OHw Z a0) (EL : List (String × Nat)) (n0 : Nat) (p0 : Addr) (p1 : Addr)  (od oz : Addr) (hg : OGp Z od oz) (h0 : Heap) (F_p0 : OObj Z h0 p0 kB [(kB, "wordsInUse", "I", (.int 1)), (kB, "sizeIsSticky", "Z", (.int 1)), (kB, "words", "[J", (.ref p1))]) (A_p1 : OArr Z h0 p1 .long [(.long 3)]) (ne_p0_p1 : p0 ≠ p1) :
    OCt l Z a0 EL n0 (⟨kB, "get", "(I)Z"⟩ : MethodName) jdk_92_method_26_code 3 (some .boolean) ({ frames := 1, cells := 0, slots := 0, locals := 12 } : Room) [] #[(.ref p0), (.int 0)] h0 [] (fun w vm h => w = some (.int 1) ∧ h = h0) := by
  refine OCt.body (plainFor_of_name pn_e0) (ef_ct_e104 p0 ((0 : Int32))) ?_
  intro p e s m below meth c T hby hml hret hnm hsh P
  refine o_iloadN P (hb hby de23_0) rfl (pc' := 1) rfl ?_
  refine o_if_ge P (hb hby de23_1) (by decide) (pc' := 31) (by decide) (pcf := 4) rfl (fun _ => ?_) (fun q => absurd q (by decide))
  refine o_aloadN P (hb hby de23_31) rfl rfl (pc' := 32) rfl ?_
  refine o_callP P (W := 0) (a := p0) (ow hw 81 rfl) (ow hw 82 rfl) (ow hw 84 rfl) (ow hw 83 rfl) (ow hw 45 rfl) (ow hw 85 rfl) (by decide) F_p0.exa (ct_e101 l Z a0 hw EL n0 p0 p1  od oz hg h0 F_p0 A_p1 ne_p0_p1) o_sf0 (by rw [hml]; rfl) (by decide) (by decide) (argsL := []) (rest := []) (lenOf pd_2 rfl) rfl rfl (Nat.le_of_eq rfl) (hb hby de23_32) (pc' := 35) rfl (by decide) (by decide) ?_
  clear P; intro T h2 v2 P K2 q2
  obtain ⟨rfl, rfl⟩ := q2; clear K2
  show OG p e below m _ T 35 _ []
  refine o_iloadN P (hb hby de23_35) rfl (pc' := 36) rfl ?_
  refine o_callS P (W := 0) (ow hw 59 rfl) (ow hw 60 rfl) (ow hw 45 rfl) (ow hw 61 rfl) (by decide) (ct_e9 l Z a0 hw EL n0   od oz hg h2  ) o_sf0 (by rw [hml]; rfl) (by decide) (by decide) (argsL := [(.int 0)]) (rest := []) (lenOf pd_0 rfl) rfl rfl (Nat.le_of_eq rfl) (hb hby de23_36) (pc' := 39) rfl (by decide) (by decide) ?_
  clear P; intro T h4 v4 P K4 q4
  obtain ⟨rfl, rfl⟩ := q4; clear K4
  show OG p e below m _ T 39 _ [(.int 0)]
  refine o_istoreN P (hb hby de23_39) (L' := #[.val (.ref p0), .val (.int 0), .val (.int 0)]) rfl (pc' := 40) rfl ?_
  refine o_iloadN P (hb hby de23_40) rfl (pc' := 41) rfl ?_
  refine o_aloadN P (hb hby de23_41) rfl rfl (pc' := 42) rfl ?_
  refine o_getF P (ow hw 50 rfl) Via.refl (F_p0.fld 0 rfl) (hb hby de23_42) (pc' := 45) rfl ?_
  clear P; intro T P
  refine o_icmp_ge P (hb hby de23_45) (by decide) (pc' := 67) (by decide) (pcf := 48) rfl (fun q => absurd (by decide) q) (fun _ => ?_)
  refine o_aloadN P (hb hby de23_48) rfl rfl (pc' := 49) rfl ?_
  refine o_getF P (ow hw 62 rfl) Via.refl (F_p0.fld 2 rfl) (hb hby de23_49) (pc' := 52) rfl ?_
  clear P; intro T P
  refine o_iloadN P (hb hby de23_52) rfl (pc' := 53) rfl ?_
  refine o_laload P (v := (.long 3)) A_p1 (by decide) rfl (hb hby de23_53) (pc' := 54) rfl ?_
  refine o_lconst P (1 : Int64) (hb hby de23_54) rfl (pc' := 55) rfl ?_
  refine o_iloadN P (hb hby de23_55) rfl (pc' := 56) rfl ?_
  refine o_lshl P (hb hby de23_56) (pc' := 57) rfl ?_
  show OG p e below m _ T 57 _ [(.long 1), (.long 3)]
  refine o_land P (hb hby de23_57) (pc' := 58) rfl ?_
  show OG p e below m _ T 58 _ [(.long 1)]
  refine o_lconst P (0 : Int64) (hb hby de23_58) rfl (pc' := 59) rfl ?_
  refine o_lcmp P (hb hby de23_59) (pc' := 60) rfl ?_
  show OG p e below m _ T 60 _ [(.int 1)]
  refine o_if_eq P (hb hby de23_60) (by decide) (pc' := 67) (by decide) (pcf := 63) rfl (fun q => absurd q (by decide)) (fun _ => ?_)
  refine o_iconst P (1 : Int32) (hb hby de23_63) rfl (pc' := 64) rfl ?_
  refine o_goto P (hb hby de23_64) (by decide) (pc' := 68) (by decide) ?_
  exact o_retI P hret (by simp) rfl (hb hby de23_68) (by decide) (by decide) ⟨rfl, rfl⟩
theorem ef_ct_e105 (x0 : Addr) (x1 : Int32) (m : MethodId) : entryFrame m #[(.ref x0), (.int x1)] 3 = mkF m 0 #[.val (.ref x0), .val (.int x1), .unset] [] := by first | (simp [entryFrame, mkF, argsToLocals, o_catR, o_catN, o_catI, o_catJ, o_catD]; done) | rfl
theorem ct_e105 (l : Launch) (Z : State) (a0 : Array Value) (hw : OHw Z a0) (EL : List (String × Nat)) (n0 : Nat) (p0 : Addr) (p1 : Addr)  (od oz : Addr) (hg : OGp Z od oz) (h0 : Heap) (F_p0 : OObj Z h0 p0 kB [(kB, "wordsInUse", "I", (.int 1)), (kB, "sizeIsSticky", "Z", (.int 1)), (kB, "words", "[J", (.ref p1))]) (A_p1 : OArr Z h0 p1 .long [(.long 3)]) (ne_p0_p1 : p0 ≠ p1) :
    OCt l Z a0 EL n0 (⟨kB, "get", "(I)Z"⟩ : MethodName) jdk_92_method_26_code 3 (some .boolean) ({ frames := 1, cells := 0, slots := 0, locals := 12 } : Room) [] #[(.ref p0), (.int 1)] h0 [] (fun w vm h => w = some (.int 1) ∧ h = h0) := by
  refine OCt.body (plainFor_of_name pn_e0) (ef_ct_e105 p0 ((1 : Int32))) ?_
  intro p e s m below meth c T hby hml hret hnm hsh P
  refine o_iloadN P (hb hby de23_0) rfl (pc' := 1) rfl ?_
  refine o_if_ge P (hb hby de23_1) (by decide) (pc' := 31) (by decide) (pcf := 4) rfl (fun _ => ?_) (fun q => absurd q (by decide))
  refine o_aloadN P (hb hby de23_31) rfl rfl (pc' := 32) rfl ?_
  refine o_callP P (W := 0) (a := p0) (ow hw 81 rfl) (ow hw 82 rfl) (ow hw 84 rfl) (ow hw 83 rfl) (ow hw 45 rfl) (ow hw 85 rfl) (by decide) F_p0.exa (ct_e101 l Z a0 hw EL n0 p0 p1  od oz hg h0 F_p0 A_p1 ne_p0_p1) o_sf0 (by rw [hml]; rfl) (by decide) (by decide) (argsL := []) (rest := []) (lenOf pd_2 rfl) rfl rfl (Nat.le_of_eq rfl) (hb hby de23_32) (pc' := 35) rfl (by decide) (by decide) ?_
  clear P; intro T h2 v2 P K2 q2
  obtain ⟨rfl, rfl⟩ := q2; clear K2
  show OG p e below m _ T 35 _ []
  refine o_iloadN P (hb hby de23_35) rfl (pc' := 36) rfl ?_
  refine o_callS P (W := 0) (ow hw 59 rfl) (ow hw 60 rfl) (ow hw 45 rfl) (ow hw 61 rfl) (by decide) (ct_e25 l Z a0 hw EL n0   od oz hg h2  ) o_sf0 (by rw [hml]; rfl) (by decide) (by decide) (argsL := [(.int 1)]) (rest := []) (lenOf pd_0 rfl) rfl rfl (Nat.le_of_eq rfl) (hb hby de23_36) (pc' := 39) rfl (by decide) (by decide) ?_
  clear P; intro T h4 v4 P K4 q4
  obtain ⟨rfl, rfl⟩ := q4; clear K4
  show OG p e below m _ T 39 _ [(.int 0)]
  refine o_istoreN P (hb hby de23_39) (L' := #[.val (.ref p0), .val (.int 1), .val (.int 0)]) rfl (pc' := 40) rfl ?_
  refine o_iloadN P (hb hby de23_40) rfl (pc' := 41) rfl ?_
  refine o_aloadN P (hb hby de23_41) rfl rfl (pc' := 42) rfl ?_
  refine o_getF P (ow hw 50 rfl) Via.refl (F_p0.fld 0 rfl) (hb hby de23_42) (pc' := 45) rfl ?_
  clear P; intro T P
  refine o_icmp_ge P (hb hby de23_45) (by decide) (pc' := 67) (by decide) (pcf := 48) rfl (fun q => absurd (by decide) q) (fun _ => ?_)
  refine o_aloadN P (hb hby de23_48) rfl rfl (pc' := 49) rfl ?_
  refine o_getF P (ow hw 62 rfl) Via.refl (F_p0.fld 2 rfl) (hb hby de23_49) (pc' := 52) rfl ?_
  clear P; intro T P
  refine o_iloadN P (hb hby de23_52) rfl (pc' := 53) rfl ?_
  refine o_laload P (v := (.long 3)) A_p1 (by decide) rfl (hb hby de23_53) (pc' := 54) rfl ?_
  refine o_lconst P (1 : Int64) (hb hby de23_54) rfl (pc' := 55) rfl ?_
  refine o_iloadN P (hb hby de23_55) rfl (pc' := 56) rfl ?_
  refine o_lshl P (hb hby de23_56) (pc' := 57) rfl ?_
  show OG p e below m _ T 57 _ [(.long 2), (.long 3)]
  refine o_land P (hb hby de23_57) (pc' := 58) rfl ?_
  show OG p e below m _ T 58 _ [(.long 2)]
  refine o_lconst P (0 : Int64) (hb hby de23_58) rfl (pc' := 59) rfl ?_
  refine o_lcmp P (hb hby de23_59) (pc' := 60) rfl ?_
  show OG p e below m _ T 60 _ [(.int 1)]
  refine o_if_eq P (hb hby de23_60) (by decide) (pc' := 67) (by decide) (pcf := 63) rfl (fun q => absurd q (by decide)) (fun _ => ?_)
  refine o_iconst P (1 : Int32) (hb hby de23_63) rfl (pc' := 64) rfl ?_
  refine o_goto P (hb hby de23_64) (by decide) (pc' := 68) (by decide) ?_
  exact o_retI P hret (by simp) rfl (hb hby de23_68) (by decide) (by decide) ⟨rfl, rfl⟩
theorem ef_ct_e106 (x0 : Addr) (x1 : Int32) (m : MethodId) : entryFrame m #[(.ref x0), (.int x1)] 12 = mkF m 0 #[.val (.ref x0), .val (.int x1), .unset, .unset, .unset, .unset, .unset, .unset, .unset, .unset, .unset, .unset] [] := by first | (simp [entryFrame, mkF, argsToLocals, o_catR, o_catN, o_catI, o_catJ, o_catD]; done) | rfl
theorem ct_e106 (l : Launch) (Z : State) (a0 : Array Value) (hw : OHw Z a0) (EL : List (String × Nat)) (n0 : Nat) (p0 : Addr) (p1 : Addr) (p2 : Addr) (p3 : Addr) (x0 : Int64) (od oz : Addr) (hg : OGp Z od oz) (h0 : Heap) (F_p0 : OObj Z h0 p0 kS [(kS, "values", "[J", (.ref p1)), (kS, "cuts", "Ljava/util/BitSet;", (.ref p2))]) (A_p1 : OArr Z h0 p1 .long [(.long x0), (.long 0), (.long 0), (.long 0), (.long 0), (.long 0), (.long 0), (.long 0), (.long 0), (.long 0), (.long 0), (.long 0), (.long 0), (.long 0), (.long 0), (.long 0)]) (F_p2 : OObj Z h0 p2 kB [(kB, "wordsInUse", "I", (.int 1)), (kB, "sizeIsSticky", "Z", (.int 1)), (kB, "words", "[J", (.ref p3))]) (A_p3 : OArr Z h0 p3 .long [(.long 3)]) (ne_p0_p1 : p0 ≠ p1) (ne_p0_p2 : p0 ≠ p2) (ne_p0_p3 : p0 ≠ p3) (ne_p1_p2 : p1 ≠ p2) (ne_p1_p3 : p1 ≠ p3) (ne_p2_p3 : p2 ≠ p3) :
    OCt l Z a0 EL n0 (⟨kS, "settle", "(I)V"⟩ : MethodName) prog_15_method_3_code 12 none ({ frames := 2, cells := 0, slots := 0, locals := 26 } : Room) [] #[(.ref p0), (.int 0)] h0 [] (fun w vm h => w = none ∧ h = h0) := by
  refine OCt.body (plainFor_of_name pn_e1) (ef_ct_e106 p0 ((0 : Int32))) ?_
  intro p e s m below meth c T hby hml hret hnm hsh P
  refine o_aloadN P (hb hby de22_0) rfl rfl (pc' := 1) rfl ?_
  refine o_getF P (ow hw 64 rfl) Via.refl (F_p0.fld 1 rfl) (hb hby de22_1) (pc' := 4) rfl ?_
  clear P; intro T P
  refine o_iloadN P (hb hby de22_4) rfl (pc' := 5) rfl ?_
  refine o_callV P (W := 0) (a := p2) (ow hw 97 rfl) (ow hw 98 rfl) (o_nfSl (ow hw 100 rfl)) (ow hw 100 rfl) (ow hw 99 rfl) (ow hw 45 rfl) (ow hw 101 rfl) (by decide) F_p2.exa (ct_e104 l Z a0 hw EL n0 p2 p3  od oz hg h0 F_p2 A_p3 ne_p2_p3) o_sf0 (by rw [hml]; rfl) (by decide) (by decide) (argsL := [(.int 0)]) (rest := []) (lenOf pd_4 rfl) rfl rfl (Nat.le_of_eq rfl) (hb hby de22_5) (pc' := 8) rfl (by decide) (by decide) ?_
  clear P; intro T h2 v2 P K2 q2
  obtain ⟨rfl, rfl⟩ := q2; clear K2
  show OG p e below m _ T 8 _ [(.int 1)]
  refine o_if_eq P (hb hby de22_8) (by decide) (pc' := 25) (by decide) (pcf := 11) rfl (fun q => absurd q (by decide)) (fun _ => ?_)
  refine o_aloadN P (hb hby de22_11) rfl rfl (pc' := 12) rfl ?_
  refine o_getF P (ow hw 64 rfl) Via.refl (F_p0.fld 1 rfl) (hb hby de22_12) (pc' := 15) rfl ?_
  clear P; intro T P
  refine o_iloadN P (hb hby de22_15) rfl (pc' := 16) rfl ?_
  refine o_iconst P (1 : Int32) (hb hby de22_16) rfl (pc' := 17) rfl ?_
  refine o_iadd P (hb hby de22_17) (pc' := 18) rfl ?_
  show OG p e below m _ T 18 _ [(.int 1), (.ref p2)]
  refine o_callV P (W := 0) (a := p2) (ow hw 97 rfl) (ow hw 98 rfl) (o_nfSl (ow hw 100 rfl)) (ow hw 100 rfl) (ow hw 99 rfl) (ow hw 45 rfl) (ow hw 101 rfl) (by decide) F_p2.exa (ct_e105 l Z a0 hw EL n0 p2 p3  od oz hg h2 F_p2 A_p3 ne_p2_p3) o_sf0 (by rw [hml]; rfl) (by decide) (by decide) (argsL := [(.int 1)]) (rest := []) (lenOf pd_4 rfl) rfl rfl (Nat.le_of_eq rfl) (hb hby de22_18) (pc' := 21) rfl (by decide) (by decide) ?_
  clear P; intro T h4 v4 P K4 q4
  obtain ⟨rfl, rfl⟩ := q4; clear K4
  show OG p e below m _ T 21 _ [(.int 1)]
  refine o_if_eq P (hb hby de22_21) (by decide) (pc' := 25) (by decide) (pcf := 24) rfl (fun q => absurd q (by decide)) (fun _ => ?_)
  exact o_ret0 P hret (hb hby de22_24) (by decide) (by decide) ⟨rfl, rfl⟩
theorem ef_ct_e107 (x0 : Addr) (x1 : Int32) (m : MethodId) : entryFrame m #[(.ref x0), (.int x1)] 2 = mkF m 0 #[.val (.ref x0), .val (.int x1)] [] := by first | (simp [entryFrame, mkF, argsToLocals, o_catR, o_catN, o_catI, o_catJ, o_catD]; done) | rfl
theorem ct_e107 (l : Launch) (Z : State) (a0 : Array Value) (hw : OHw Z a0) (EL : List (String × Nat)) (n0 : Nat) (p0 : Addr) (p1 : Addr) (p2 : Addr) (p3 : Addr) (x0 : Int64) (od oz : Addr) (hg : OGp Z od oz) (h0 : Heap) (F_p0 : OObj Z h0 p0 kS [(kS, "values", "[J", (.ref p1)), (kS, "cuts", "Ljava/util/BitSet;", (.ref p2))]) (A_p1 : OArr Z h0 p1 .long [(.long x0), (.long 0), (.long 0), (.long 0), (.long 0), (.long 0), (.long 0), (.long 0), (.long 0), (.long 0), (.long 0), (.long 0), (.long 0), (.long 0), (.long 0), (.long 0)]) (F_p2 : OObj Z h0 p2 kB [(kB, "wordsInUse", "I", (.int 1)), (kB, "sizeIsSticky", "Z", (.int 1)), (kB, "words", "[J", (.ref p3))]) (A_p3 : OArr Z h0 p3 .long [(.long 3)]) (ne_p0_p1 : p0 ≠ p1) (ne_p0_p2 : p0 ≠ p2) (ne_p0_p3 : p0 ≠ p3) (ne_p1_p2 : p1 ≠ p2) (ne_p1_p3 : p1 ≠ p3) (ne_p2_p3 : p2 ≠ p3) :
    OCt l Z a0 EL n0 (⟨kS, "valueAt", "(I)J"⟩ : MethodName) prog_15_method_2_code 2 (some .long) ({ frames := 3, cells := 0, slots := 0, locals := 49 } : Room) [] #[(.ref p0), (.int 0)] h0 [] (fun w vm h => w = some (.long x0) ∧ h = h0) := by
  refine OCt.body (plainFor_of_name pn_e1) (ef_ct_e107 p0 ((0 : Int32))) ?_
  intro p e s m below meth c T hby hml hret hnm hsh P
  refine o_aloadN P (hb hby de21_0) rfl rfl (pc' := 1) rfl ?_
  refine o_iloadN P (hb hby de21_1) rfl (pc' := 2) rfl ?_
  refine o_callQ P (W := 0) (a := p0) (ow hw 93 rfl) (ow hw 94 rfl) (ow hw 35 rfl) (ow hw 95 rfl) (ow hw 36 rfl) (ow hw 96 rfl) (by decide) F_p0.exa (ct_e106 l Z a0 hw EL n0 p0 p1 p2 p3 x0 od oz hg h0 F_p0 A_p1 F_p2 A_p3 ne_p0_p1 ne_p0_p2 ne_p0_p3 ne_p1_p2 ne_p1_p3 ne_p2_p3) o_sf0 (by rw [hml]; rfl) (by decide) (by decide) (argsL := [(.int 0)]) (rest := []) (lenOf pd_1 rfl) rfl rfl (Nat.le_of_eq rfl) (hb hby de21_2) (pc' := 5) rfl (by decide) (by decide) ?_
  clear P; intro T h2 v2 P K2 q2
  obtain ⟨rfl, rfl⟩ := q2; clear K2
  show OG p e below m _ T 5 _ []
  refine o_aloadN P (hb hby de21_5) rfl rfl (pc' := 6) rfl ?_
  refine o_getF P (ow hw 41 rfl) Via.refl (F_p0.fld 0 rfl) (hb hby de21_6) (pc' := 9) rfl ?_
  clear P; intro T P
  refine o_iloadN P (hb hby de21_9) rfl (pc' := 10) rfl ?_
  refine o_laload P (v := (.long x0)) A_p1 (by decide) rfl (hb hby de21_10) (pc' := 11) rfl ?_
  exact o_retL P hret (hb hby de21_11) (by decide) (by decide) ⟨rfl, rfl⟩
theorem ef_ct_e108 (x0 : Addr) (x1 : Int32) (x2 : Addr) (m : MethodId) : entryFrame m #[(.ref x0), (.int x1), (.ref x2)] 4 = mkF m 0 #[.val (.ref x0), .val (.int x1), .val (.ref x2), .unset] [] := by first | (simp [entryFrame, mkF, argsToLocals, o_catR, o_catN, o_catI, o_catJ, o_catD]; done) | rfl
theorem ct_e108 (l : Launch) (Z : State) (a0 : Array Value) (hw : OHw Z a0) (EL : List (String × Nat)) (n0 : Nat) (p0 : Addr) (p1 : Addr) (x0 : Int64) (od oz : Addr) (hg : OGp Z od oz) (h0 : Heap) (F_p0 : OObj Z h0 p0 kK [(kK, "keys", "[J", (.ref p1)), (kK, "size", "I", (.int 1)), (kK, "selection", kSd, .null)]) (A_p1 : OArr Z h0 p1 .long [(.long x0), (.long 0), (.long 0), (.long 0), (.long 0), (.long 0), (.long 0), (.long 0), (.long 0), (.long 0), (.long 0), (.long 0), (.long 0), (.long 0), (.long 0), (.long 0)]) (ne_p0_p1 : p0 ≠ p1) :
    OCt l Z a0 EL n0 (⟨kK, "at", "(ILcom/example/centile/centile/function/Order;)J"⟩ : MethodName) prog_11_method_6_code 4 (some .long) ({ frames := 4, cells := 3, slots := 6, locals := 62 } : Room) [] #[(.ref p0), (.int 1), (.ref od)] h0 [p0] (fun w vm h => ∃ n0 n1 n2 : Addr, w = some (.long x0) ∧ h0.size ≤ n0 ∧ h0.size ≤ n1 ∧ h0.size ≤ n2 ∧ n0 ≠ n1 ∧ n0 ≠ n2 ∧ n1 ≠ n2 ∧ OObj Z h p0 kK [(kK, "keys", "[J", (.ref p1)), (kK, "size", "I", (.int 1)), (kK, "selection", kSd, (.ref n0))] ∧ OObj Z h n0 kS [(kS, "values", "[J", (.ref p1)), (kS, "cuts", "Ljava/util/BitSet;", (.ref n1))] ∧ OObj Z h n1 kB [(kB, "wordsInUse", "I", (.int 1)), (kB, "sizeIsSticky", "Z", (.int 1)), (kB, "words", "[J", (.ref n2))] ∧ OArr Z h n2 .long [(.long 3)] ∧ True) := by
  refine OCt.body (plainFor_of_name pn_e6) (ef_ct_e108 p0 ((1 : Int32)) od) ?_
  intro p e s m below meth c T hby hml hret hnm hsh P
  refine o_aloadN P (hb hby de1_0) rfl rfl (pc' := 1) rfl ?_
  refine o_getF P (ow hw 27 rfl) Via.refl (F_p0.fld 2 rfl) (hb hby de1_1) (pc' := 4) rfl ?_
  clear P; intro T P
  refine o_ifnonnullN P (hb hby de1_4) (pc' := 7) rfl ?_
  refine o_aloadN P (hb hby de1_7) rfl rfl (pc' := 8) rfl ?_
  have hz_b1 := P.keep0.1
  refine o_new P [(kS, "values", "[J", .null), (kS, "cuts", "Ljava/util/BitSet;", .null)] (ow hw 34 rfl) (ow hw 35 rfl) (ow hw 36 rfl) (OLd.cons (Or.inr (ow hw 42 rfl)) (ty := (.array .long)) (by decide) rfl (OLd.cons (Or.inr (ow hw 65 rfl)) (ty := (.object kB)) (by decide) rfl OLd.nil)) (by decide +kernel) (hb hby de1_8) (pc' := 11) rfl (by decide) (by decide) ?_
  clear P; intro T h1 b1 P K1 hb_b1 F_b1
  have sz_b1 := Nat.le_trans hz_b1 hb_b1
  clear hz_b1
  have ne_p0_b1 := F_p0.nb hb_b1
  have ne_p1_b1 := A_p1.nb hb_b1
  replace F_p0 := F_p0.keep K1 nin0
  replace A_p1 := A_p1.keep K1 nin0
  clear K1
  refine o_dup P (hb hby de1_11) rfl (pc' := 12) rfl ?_
  refine o_aloadN P (hb hby de1_12) rfl rfl (pc' := 13) rfl ?_
  refine o_getF P (ow hw 13 rfl) Via.refl (F_p0.fld 0 rfl) (hb hby de1_13) (pc' := 16) rfl ?_
  clear P; intro T P
  refine o_aloadN P (hb hby de1_16) rfl rfl (pc' := 17) rfl ?_
  refine o_getF P (ow hw 25 rfl) Via.refl (F_p0.fld 1 rfl) (hb hby de1_17) (pc' := 20) rfl ?_
  clear P; intro T P
  have hn_2 := P.n0le; have hk_2 := P.keep0.1
  refine o_callI P (W := 2) (a := b1) rfl (ow hw 37 rfl) (ow hw 38 rfl) (ow hw 36 rfl) (ow hw 39 rfl) (by decide) (ct_e103 l Z a0 hw EL n0 b1 p1 x0 od oz hg h1 F_b1 A_p1 (Ne.symm ne_p1_b1)) (o_sfS (List.Mem.head _) o_sf0) (by rw [hml]; rfl) (by decide) (by decide) (argsL := [(.ref p1), (.int 1)]) (rest := [(.ref b1), (.ref p0)]) (lenOf pd_3 rfl) rfl rfl (Nat.le_of_eq rfl) (hb hby de1_20) (pc' := 23) rfl (by decide) (by decide) ?_
  clear P; intro T h3 v3 P K3 q3
  obtain ⟨n0_2, n1_2, rfl, g_n0_2, g_n1_2, ne_n0_2_n1_2, Q_b1, Q_n0_2, Q_n1_2, -⟩ := q3
  have ne_p0_n0_2 := F_p0.nb g_n0_2
  have ne_b1_n0_2 := F_b1.nb g_n0_2
  have ne_p1_n0_2 := A_p1.nb g_n0_2
  have sz_n0_2 := Nat.le_trans hk_2 g_n0_2
  have ne_p0_n1_2 := F_p0.nb g_n1_2
  have ne_b1_n1_2 := F_b1.nb g_n1_2
  have ne_p1_n1_2 := A_p1.nb g_n1_2
  have sz_n1_2 := Nat.le_trans hk_2 g_n1_2
  replace F_p0 := F_p0.keep K3 (ninS ne_p0_b1 nin0)
  replace A_p1 := A_p1.keep K3 (ninS ne_p1_b1 nin0)
  clear F_b1
  have F_b1 := Q_b1; clear Q_b1
  have F_n0_2 := Q_n0_2; clear Q_n0_2
  have A_n1_2 := Q_n1_2; clear Q_n1_2
  replace P := P.moreO F_n0_2.exa (by decide) (by decide) (Nat.le_trans hn_2 g_n0_2) sz_n0_2
  replace P := P.moreA A_n1_2 (fun q => by cases q) (Nat.le_trans hn_2 g_n1_2) sz_n1_2
  clear K3 hn_2 hk_2
  show OG p e below m _ T 23 _ [(.ref b1), (.ref p0)]
  refine o_putF P (v' := (.ref b1)) (ty := (.object kS)) (ow hw 27 rfl) Via.refl (F_p0.fld 2 rfl) F_p0.exa (Or.inl (ow hw 28 rfl)) (ow hw 4 rfl) (by decide) rfl rfl (List.Mem.tail _ (List.Mem.tail _ (List.Mem.tail _ (List.Mem.head _)))) (hb hby de1_23) (pc' := 26) rfl ?_
  clear P; intro T h4 P W4
  replace F_b1 := F_b1.oth W4 (Ne.symm ne_p0_b1)
  replace F_n0_2 := F_n0_2.oth W4 (Ne.symm ne_p0_n0_2)
  replace A_p1 := A_p1.oth W4 (Ne.symm ne_p0_p1)
  replace A_n1_2 := A_n1_2.oth W4 (Ne.symm ne_p0_n1_2)
  replace F_p0 : OObj Z h4 p0 kK [(kK, "keys", "[J", (.ref p1)), (kK, "size", "I", (.int 1)), (kK, "selection", kSd, (.ref b1))] := F_p0.put 2 rfl W4
  clear W4
  refine o_aloadN P (hb hby de1_26) rfl rfl (pc' := 27) rfl ?_
  refine o_getS P (ow hw 87 rfl) Via.refl hg.2.1 (hb hby de1_27) (pc' := 30) rfl ?_
  clear P; intro T P
  refine o_acmp P true (hb hby de1_30) rfl rfl (decide_eq_true rfl) (by decide) (pc' := 33) rfl ?_
  refine o_iloadN P (hb hby de1_33) rfl (pc' := 34) rfl ?_
  refine o_iconst P (1 : Int32) (hb hby de1_34) rfl (pc' := 35) rfl ?_
  refine o_isub P (hb hby de1_35) (pc' := 36) rfl ?_
  show OG p e below m _ T 36 _ [(.int 0)]
  refine o_goto P (hb hby de1_36) (by decide) (pc' := 45) (by decide) ?_
  refine o_istoreN P (hb hby de1_45) (L' := #[.val (.ref p0), .val (.int 1), .val (.ref od), .val (.int 0)]) rfl (pc' := 46) rfl ?_
  refine o_aloadN P (hb hby de1_46) rfl rfl (pc' := 47) rfl ?_
  refine o_getF P (ow hw 27 rfl) Via.refl (F_p0.fld 2 rfl) (hb hby de1_47) (pc' := 50) rfl ?_
  clear P; intro T P
  refine o_iloadN P (hb hby de1_50) rfl (pc' := 51) rfl ?_
  refine o_callV P (W := 0) (a := b1) (ow hw 88 rfl) (ow hw 89 rfl) (o_nfSl (ow hw 91 rfl)) (ow hw 91 rfl) (ow hw 90 rfl) (ow hw 36 rfl) (ow hw 92 rfl) (by decide) F_b1.exa (ct_e107 l Z a0 hw EL n0 b1 p1 n0_2 n1_2 x0 od oz hg h4 F_b1 A_p1 F_n0_2 A_n1_2 (Ne.symm ne_p1_b1) ne_b1_n0_2 ne_b1_n1_2 ne_p1_n0_2 ne_p1_n1_2 ne_n0_2_n1_2) o_sf0 (by rw [hml]; rfl) (by decide) (by decide) (argsL := [(.int 0)]) (rest := []) (lenOf pd_11 rfl) rfl rfl (Nat.le_of_eq rfl) (hb hby de1_51) (pc' := 54) rfl (by decide) (by decide) ?_
  clear P; intro T h6 v6 P K6 q6
  obtain ⟨rfl, rfl⟩ := q6; clear K6
  show OG p e below m _ T 54 _ [(.long x0)]
  exact o_retL P hret (hb hby de1_54) (by decide) (by decide) ⟨b1, n0_2, n1_2, rfl, hsh ▸ sz_b1, hsh ▸ sz_n0_2, hsh ▸ sz_n1_2, ne_b1_n0_2, ne_b1_n1_2, ne_n0_2_n1_2, F_p0, F_b1, F_n0_2, A_n1_2, trivial⟩
theorem de109_0 : decode prog_11_method_5_code 0 = .ok (.aload_n 1, 1) := by decide +kernel
theorem de109_1 : decode prog_11_method_5_code 1 = .ok (.getfield 15, 3) := by decide +kernel
theorem de109_4 : decode prog_11_method_5_code 4 = .ok (.istore_n 2, 1) := by decide +kernel
theorem de109_5 : decode prog_11_method_5_code 5 = .ok (.iload_n 2, 1) := by decide +kernel
theorem de109_6 : decode prog_11_method_5_code 6 = .ok (.ifCond .le 40, 3) := by decide +kernel
theorem de109_9 : decode prog_11_method_5_code 9 = .ok (.aload_n 0, 1) := by decide +kernel
theorem de109_10 : decode prog_11_method_5_code 10 = .ok (.iload_n 2, 1) := by decide +kernel
theorem de109_11 : decode prog_11_method_5_code 11 = .ok (.invokevirtual 19, 3) := by decide +kernel
theorem de109_14 : decode prog_11_method_5_code 14 = .ok (.aload_n 1, 1) := by decide +kernel
theorem de109_15 : decode prog_11_method_5_code 15 = .ok (.getfield 9, 3) := by decide +kernel
theorem de109_18 : decode prog_11_method_5_code 18 = .ok (.iconst 0, 1) := by decide +kernel
theorem de109_19 : decode prog_11_method_5_code 19 = .ok (.aload_n 0, 1) := by decide +kernel
theorem de109_20 : decode prog_11_method_5_code 20 = .ok (.getfield 9, 3) := by decide +kernel
theorem de109_23 : decode prog_11_method_5_code 23 = .ok (.aload_n 0, 1) := by decide +kernel
theorem de109_24 : decode prog_11_method_5_code 24 = .ok (.getfield 15, 3) := by decide +kernel
theorem de109_27 : decode prog_11_method_5_code 27 = .ok (.iload_n 2, 1) := by decide +kernel
theorem de109_28 : decode prog_11_method_5_code 28 = .ok (.invokestatic 27, 3) := by decide +kernel
theorem de109_31 : decode prog_11_method_5_code 31 = .ok (.aload_n 0, 1) := by decide +kernel
theorem de109_32 : decode prog_11_method_5_code 32 = .ok (.dup, 1) := by decide +kernel
theorem de109_33 : decode prog_11_method_5_code 33 = .ok (.getfield 15, 3) := by decide +kernel
theorem de109_36 : decode prog_11_method_5_code 36 = .ok (.iload_n 2, 1) := by decide +kernel
theorem de109_37 : decode prog_11_method_5_code 37 = .ok (.iadd, 1) := by decide +kernel
theorem de109_38 : decode prog_11_method_5_code 38 = .ok (.putfield 15, 3) := by decide +kernel
theorem de109_41 : decode prog_11_method_5_code 41 = .ok (.aload_n 0, 1) := by decide +kernel
theorem de109_42 : decode prog_11_method_5_code 42 = .ok (.aconst_null, 1) := by decide +kernel
theorem de109_43 : decode prog_11_method_5_code 43 = .ok (.putfield 23, 3) := by decide +kernel
theorem de109_46 : decode prog_11_method_5_code 46 = .ok (.return_, 1) := by decide +kernel
theorem ef_ct_e110 (x0 : Addr) (x1 : Int32) (m : MethodId) : entryFrame m #[(.ref x0), (.int x1)] 4 = mkF m 0 #[.val (.ref x0), .val (.int x1), .unset, .unset] [] := by first | (simp [entryFrame, mkF, argsToLocals, o_catR, o_catN, o_catI, o_catJ, o_catD]; done) | rfl
theorem ct_e110 (l : Launch) (Z : State) (a0 : Array Value) (hw : OHw Z a0) (EL : List (String × Nat)) (n0 : Nat) (p0 : Addr) (p1 : Addr) (p2 : Addr) (p3 : Addr) (p4 : Addr) (x0 : Int64) (od oz : Addr) (hg : OGp Z od oz) (h0 : Heap) (F_p0 : OObj Z h0 p0 kK [(kK, "keys", "[J", (.ref p1)), (kK, "size", "I", (.int 1)), (kK, "selection", kSd, (.ref p2))]) (A_p1 : OArr Z h0 p1 .long [(.long x0), (.long 0), (.long 0), (.long 0), (.long 0), (.long 0), (.long 0), (.long 0), (.long 0), (.long 0), (.long 0), (.long 0), (.long 0), (.long 0), (.long 0), (.long 0)]) (F_p2 : OObj Z h0 p2 kS [(kS, "values", "[J", (.ref p1)), (kS, "cuts", "Ljava/util/BitSet;", (.ref p3))]) (F_p3 : OObj Z h0 p3 kB [(kB, "wordsInUse", "I", (.int 1)), (kB, "sizeIsSticky", "Z", (.int 1)), (kB, "words", "[J", (.ref p4))]) (A_p4 : OArr Z h0 p4 .long [(.long 3)]) (ne_p0_p1 : p0 ≠ p1) (ne_p0_p2 : p0 ≠ p2) (ne_p0_p3 : p0 ≠ p3) (ne_p0_p4 : p0 ≠ p4) (ne_p1_p2 : p1 ≠ p2) (ne_p1_p3 : p1 ≠ p3) (ne_p1_p4 : p1 ≠ p4) (ne_p2_p3 : p2 ≠ p3) (ne_p2_p4 : p2 ≠ p4) (ne_p3_p4 : p3 ≠ p4) :
    OCt l Z a0 EL n0 (⟨kK, "ensureRoom", "(I)V"⟩ : MethodName) prog_11_method_7_code 4 none ({ frames := 0, cells := 0, slots := 0, locals := 0 } : Room) [] #[(.ref p0), (.int 1)] h0 [] (fun w vm h => w = none ∧ h = h0) := by
  refine OCt.body (plainFor_of_name pn_e6) (ef_ct_e110 p0 ((1 : Int32))) ?_
  intro p e s m below meth c T hby hml hret hnm hsh P
  refine o_iloadN P (hb hby de96_0) rfl (pc' := 1) rfl ?_
  refine o_ldcI P (ow hw 24 rfl) (hb hby de96_1) (pc' := 3) rfl ?_
  refine o_aloadN P (hb hby de96_3) rfl rfl (pc' := 4) rfl ?_
  refine o_getF P (ow hw 25 rfl) Via.refl (F_p0.fld 1 rfl) (hb hby de96_4) (pc' := 7) rfl ?_
  clear P; intro T P
  refine o_isub P (hb hby de96_7) (pc' := 8) rfl ?_
  show OG p e below m _ T 8 _ [(.int 2147483638), (.int 1)]
  refine o_icmp_le P (hb hby de96_8) (by decide) (pc' := 21) (by decide) (pcf := 11) rfl (fun _ => ?_) (fun q => absurd q (by decide))
  refine o_aloadN P (hb hby de96_21) rfl rfl (pc' := 22) rfl ?_
  refine o_getF P (ow hw 25 rfl) Via.refl (F_p0.fld 1 rfl) (hb hby de96_22) (pc' := 25) rfl ?_
  clear P; intro T P
  refine o_iloadN P (hb hby de96_25) rfl (pc' := 26) rfl ?_
  refine o_iadd P (hb hby de96_26) (pc' := 27) rfl ?_
  show OG p e below m _ T 27 _ [(.int 2)]
  refine o_istoreN P (hb hby de96_27) (L' := #[.val (.ref p0), .val (.int 1), .val (.int 2), .unset]) rfl (pc' := 28) rfl ?_
  refine o_iloadN P (hb hby de96_28) rfl (pc' := 29) rfl ?_
  refine o_aloadN P (hb hby de96_29) rfl rfl (pc' := 30) rfl ?_
  refine o_getF P (ow hw 13 rfl) Via.refl (F_p0.fld 0 rfl) (hb hby de96_30) (pc' := 33) rfl ?_
  clear P; intro T P
  refine o_arrlen P A_p1 (hb hby de96_33) (n := (16 : Int32)) rfl (pc' := 34) rfl ?_
  refine o_icmp_le P (hb hby de96_34) (by decide) (pc' := 76) (by decide) (pcf := 37) rfl (fun _ => ?_) (fun q => absurd q (by decide))
  exact o_ret0 P hret (hb hby de96_76) (by decide) (by decide) ⟨rfl, rfl⟩
theorem ef_ct_e111 (x0 : Addr) (x1 : Addr) (m : MethodId) : entryFrame m #[(.ref x0), (.ref x1)] 3 = mkF m 0 #[.val (.ref x0), .val (.ref x1), .unset] [] := by first | (simp [entryFrame, mkF, argsToLocals, o_catR, o_catN, o_catI, o_catJ, o_catD]; done) | rfl
theorem ct_e111 (l : Launch) (Z : State) (a0 : Array Value) (hw : OHw Z a0) (EL : List (String × Nat)) (n0 : Nat) (p0 : Addr) (p1 : Addr) (p2 : Addr) (p3 : Addr) (p4 : Addr) (p5 : Addr) (p6 : Addr) (x0 : Int64) (x1 : Int64) (od oz : Addr) (hg : OGp Z od oz) (h0 : Heap) (F_p0 : OObj Z h0 p0 kK [(kK, "keys", "[J", (.ref p2)), (kK, "size", "I", (.int 1)), (kK, "selection", kSd, (.ref p3))]) (F_p1 : OObj Z h0 p1 kK [(kK, "keys", "[J", (.ref p4)), (kK, "size", "I", (.int 1)), (kK, "selection", kSd, .null)]) (A_p2 : OArr Z h0 p2 .long [(.long x0), (.long 0), (.long 0), (.long 0), (.long 0), (.long 0), (.long 0), (.long 0), (.long 0), (.long 0), (.long 0), (.long 0), (.long 0), (.long 0), (.long 0), (.long 0)]) (F_p3 : OObj Z h0 p3 kS [(kS, "values", "[J", (.ref p2)), (kS, "cuts", "Ljava/util/BitSet;", (.ref p5))]) (A_p4 : OArr Z h0 p4 .long [(.long x1), (.long 0), (.long 0), (.long 0), (.long 0), (.long 0), (.long 0), (.long 0), (.long 0), (.long 0), (.long 0), (.long 0), (.long 0), (.long 0), (.long 0), (.long 0)]) (F_p5 : OObj Z h0 p5 kB [(kB, "wordsInUse", "I", (.int 1)), (kB, "sizeIsSticky", "Z", (.int 1)), (kB, "words", "[J", (.ref p6))]) (A_p6 : OArr Z h0 p6 .long [(.long 3)]) (ne_p0_p1 : p0 ≠ p1) (ne_p0_p2 : p0 ≠ p2) (ne_p0_p3 : p0 ≠ p3) (ne_p0_p4 : p0 ≠ p4) (ne_p0_p5 : p0 ≠ p5) (ne_p0_p6 : p0 ≠ p6) (ne_p1_p2 : p1 ≠ p2) (ne_p1_p3 : p1 ≠ p3) (ne_p1_p4 : p1 ≠ p4) (ne_p1_p5 : p1 ≠ p5) (ne_p1_p6 : p1 ≠ p6) (ne_p2_p3 : p2 ≠ p3) (ne_p2_p4 : p2 ≠ p4) (ne_p2_p5 : p2 ≠ p5) (ne_p2_p6 : p2 ≠ p6) (ne_p3_p4 : p3 ≠ p4) (ne_p3_p5 : p3 ≠ p5) (ne_p3_p6 : p3 ≠ p6) (ne_p4_p5 : p4 ≠ p5) (ne_p4_p6 : p4 ≠ p6) (ne_p5_p6 : p5 ≠ p6) :
    OCt l Z a0 EL n0 (⟨kK, "addAll", "(Lcom/example/centile/centile/function/Keys;)V"⟩ : MethodName) prog_11_method_5_code 3 none ({ frames := 1, cells := 0, slots := 0, locals := 24 } : Room) [] #[(.ref p0), (.ref p1)] h0 [p0, p2] (fun w vm h => w = none ∧ OObj Z h p0 kK [(kK, "keys", "[J", (.ref p2)), (kK, "size", "I", (.int 2)), (kK, "selection", kSd, .null)] ∧ OArr Z h p2 .long [(.long x0), (.long x1), (.long 0), (.long 0), (.long 0), (.long 0), (.long 0), (.long 0), (.long 0), (.long 0), (.long 0), (.long 0), (.long 0), (.long 0), (.long 0), (.long 0)] ∧ True) := by
  refine OCt.body (plainFor_of_name pn_e6) (ef_ct_e111 p0 p1) ?_
  intro p e s m below meth c T hby hml hret hnm hsh P
  refine o_aloadN P (hb hby de109_0) rfl rfl (pc' := 1) rfl ?_
  refine o_getF P (ow hw 25 rfl) Via.refl (F_p1.fld 1 rfl) (hb hby de109_1) (pc' := 4) rfl ?_
  clear P; intro T P
  refine o_istoreN P (hb hby de109_4) (L' := #[.val (.ref p0), .val (.ref p1), .val (.int 1)]) rfl (pc' := 5) rfl ?_
  refine o_iloadN P (hb hby de109_5) rfl (pc' := 6) rfl ?_
  refine o_if_le P (hb hby de109_6) (by decide) (pc' := 46) (by decide) (pcf := 9) rfl (fun q => absurd (by decide) q) (fun _ => ?_)
  refine o_aloadN P (hb hby de109_9) rfl rfl (pc' := 10) rfl ?_
  refine o_iloadN P (hb hby de109_10) rfl (pc' := 11) rfl ?_
  refine o_callQ P (W := 0) (a := p0) (ow hw 20 rfl) (ow hw 21 rfl) (ow hw 4 rfl) (ow hw 22 rfl) (ow hw 5 rfl) (ow hw 23 rfl) (by decide) F_p0.exa (ct_e110 l Z a0 hw EL n0 p0 p2 p3 p5 p6 x0 od oz hg h0 F_p0 A_p2 F_p3 F_p5 A_p6 ne_p0_p2 ne_p0_p3 ne_p0_p5 ne_p0_p6 ne_p2_p3 ne_p2_p5 ne_p2_p6 ne_p3_p5 ne_p3_p6 ne_p5_p6) o_sf0 (by rw [hml]; rfl) (by decide) (by decide) (argsL := [(.int 1)]) (rest := []) (lenOf pd_1 rfl) rfl rfl (Nat.le_of_eq rfl) (hb hby de109_11) (pc' := 14) rfl (by decide) (by decide) ?_
  clear P; intro T h2 v2 P K2 q2
  obtain ⟨rfl, rfl⟩ := q2; clear K2
  show OG p e below m _ T 14 _ []
  refine o_aloadN P (hb hby de109_14) rfl rfl (pc' := 15) rfl ?_
  refine o_getF P (ow hw 13 rfl) Via.refl (F_p1.fld 0 rfl) (hb hby de109_15) (pc' := 18) rfl ?_
  clear P; intro T P
  refine o_iconst P (0 : Int32) (hb hby de109_18) rfl (pc' := 19) rfl ?_
  refine o_aloadN P (hb hby de109_19) rfl rfl (pc' := 20) rfl ?_
  refine o_getF P (ow hw 13 rfl) Via.refl (F_p0.fld 0 rfl) (hb hby de109_20) (pc' := 23) rfl ?_
  clear P; intro T P
  refine o_aloadN P (hb hby de109_23) rfl rfl (pc' := 24) rfl ?_
  refine o_getF P (ow hw 25 rfl) Via.refl (F_p0.fld 1 rfl) (hb hby de109_24) (pc' := 27) rfl ?_
  clear P; intro T P
  refine o_iloadN P (hb hby de109_27) rfl (pc' := 28) rfl ?_
  refine o_cpA P (W := 0) (us := [(.long x1)]) (ow hw 107 rfl) (ow hw 110 rfl) (ow hw 108 rfl) (ow hw 109 rfl) A_p4 A_p2 (List.Mem.tail _ (List.Mem.head _)) (Or.inl ⟨rfl, rfl⟩) (by decide) (by decide) (by decide) (of_decide_eq_true rfl) (of_decide_eq_true rfl) rfl (by rw [hml]; rfl) (by decide) (Nat.le_of_eq rfl) (by decide) (hb hby de109_28) (pc' := 31) rfl ?_
  clear P; intro T h3 P K3 A'
  replace F_p0 := F_p0.keep K3 (ninS ne_p0_p2 nin0)
  replace F_p1 := F_p1.keep K3 (ninS ne_p1_p2 nin0)
  replace F_p3 := F_p3.keep K3 (ninS (Ne.symm ne_p2_p3) nin0)
  replace F_p5 := F_p5.keep K3 (ninS (Ne.symm ne_p2_p5) nin0)
  replace A_p4 := A_p4.keep K3 (ninS (Ne.symm ne_p2_p4) nin0)
  replace A_p6 := A_p6.keep K3 (ninS (Ne.symm ne_p2_p6) nin0)
  clear A_p2; have A_p2 : OArr Z h3 p2 .long [(.long x0), (.long x1), (.long 0), (.long 0), (.long 0), (.long 0), (.long 0), (.long 0), (.long 0), (.long 0), (.long 0), (.long 0), (.long 0), (.long 0), (.long 0), (.long 0)] := A'; clear A' K3
  refine o_aloadN P (hb hby de109_31) rfl rfl (pc' := 32) rfl ?_
  refine o_dup P (hb hby de109_32) rfl (pc' := 33) rfl ?_
  refine o_getF P (ow hw 25 rfl) Via.refl (F_p0.fld 1 rfl) (hb hby de109_33) (pc' := 36) rfl ?_
  clear P; intro T P
  refine o_iloadN P (hb hby de109_36) rfl (pc' := 37) rfl ?_
  refine o_iadd P (hb hby de109_37) (pc' := 38) rfl ?_
  show OG p e below m _ T 38 _ [(.int 2), (.ref p0)]
  refine o_putF P (v' := (.int 2)) (ty := .int) (ow hw 25 rfl) Via.refl (F_p0.fld 1 rfl) F_p0.exa (Or.inl (ow hw 26 rfl)) (ow hw 4 rfl) (by decide) rfl rfl (List.Mem.head _) (hb hby de109_38) (pc' := 41) rfl ?_
  clear P; intro T h4 P W4
  replace F_p1 := F_p1.oth W4 (Ne.symm ne_p0_p1)
  replace F_p3 := F_p3.oth W4 (Ne.symm ne_p0_p3)
  replace F_p5 := F_p5.oth W4 (Ne.symm ne_p0_p5)
  replace A_p2 := A_p2.oth W4 (Ne.symm ne_p0_p2)
  replace A_p4 := A_p4.oth W4 (Ne.symm ne_p0_p4)
  replace A_p6 := A_p6.oth W4 (Ne.symm ne_p0_p6)
  replace F_p0 : OObj Z h4 p0 kK [(kK, "keys", "[J", (.ref p2)), (kK, "size", "I", (.int 2)), (kK, "selection", kSd, (.ref p3))] := F_p0.put 1 rfl W4
  clear W4
  refine o_aloadN P (hb hby de109_41) rfl rfl (pc' := 42) rfl ?_
  refine o_aconstNull P (hb hby de109_42) (pc' := 43) rfl ?_
  refine o_putF P (v' := .null) (ty := (.object kS)) (ow hw 27 rfl) Via.refl (F_p0.fld 2 rfl) F_p0.exa (Or.inl (ow hw 28 rfl)) (ow hw 4 rfl) (by decide) rfl rfl (List.Mem.head _) (hb hby de109_43) (pc' := 46) rfl ?_
  clear P; intro T h5 P W5
  replace F_p1 := F_p1.oth W5 (Ne.symm ne_p0_p1)
  replace F_p3 := F_p3.oth W5 (Ne.symm ne_p0_p3)
  replace F_p5 := F_p5.oth W5 (Ne.symm ne_p0_p5)
  replace A_p2 := A_p2.oth W5 (Ne.symm ne_p0_p2)
  replace A_p4 := A_p4.oth W5 (Ne.symm ne_p0_p4)
  replace A_p6 := A_p6.oth W5 (Ne.symm ne_p0_p6)
  replace F_p0 : OObj Z h5 p0 kK [(kK, "keys", "[J", (.ref p2)), (kK, "size", "I", (.int 2)), (kK, "selection", kSd, .null)] := F_p0.put 2 rfl W5
  clear W5
  exact o_ret0 P hret (hb hby de109_46) (by decide) (by decide) ⟨rfl, F_p0, A_p2, trivial⟩
theorem ef_ct_e112 (x0 : Addr) (x1 : Int32) (m : MethodId) : entryFrame m #[(.ref x0), (.int x1)] 4 = mkF m 0 #[.val (.ref x0), .val (.int x1), .unset, .unset] [] := by first | (simp [entryFrame, mkF, argsToLocals, o_catR, o_catN, o_catI, o_catJ, o_catD]; done) | rfl
theorem ct_e112 (l : Launch) (Z : State) (a0 : Array Value) (hw : OHw Z a0) (EL : List (String × Nat)) (n0 : Nat) (p0 : Addr) (p1 : Addr) (x0 : Int64) (od oz : Addr) (hg : OGp Z od oz) (h0 : Heap) (F_p0 : OObj Z h0 p0 kK [(kK, "keys", "[J", (.ref p1)), (kK, "size", "I", (.int 1)), (kK, "selection", kSd, .null)]) (A_p1 : OArr Z h0 p1 .long [(.long x0), (.long 0), (.long 0), (.long 0), (.long 0), (.long 0), (.long 0), (.long 0), (.long 0), (.long 0), (.long 0), (.long 0), (.long 0), (.long 0), (.long 0), (.long 0)]) (ne_p0_p1 : p0 ≠ p1) :
    OCt l Z a0 EL n0 (⟨kK, "ensureRoom", "(I)V"⟩ : MethodName) prog_11_method_7_code 4 none ({ frames := 0, cells := 0, slots := 0, locals := 0 } : Room) [] #[(.ref p0), (.int 2)] h0 [] (fun w vm h => w = none ∧ h = h0) := by
  refine OCt.body (plainFor_of_name pn_e6) (ef_ct_e112 p0 ((2 : Int32))) ?_
  intro p e s m below meth c T hby hml hret hnm hsh P
  refine o_iloadN P (hb hby de96_0) rfl (pc' := 1) rfl ?_
  refine o_ldcI P (ow hw 24 rfl) (hb hby de96_1) (pc' := 3) rfl ?_
  refine o_aloadN P (hb hby de96_3) rfl rfl (pc' := 4) rfl ?_
  refine o_getF P (ow hw 25 rfl) Via.refl (F_p0.fld 1 rfl) (hb hby de96_4) (pc' := 7) rfl ?_
  clear P; intro T P
  refine o_isub P (hb hby de96_7) (pc' := 8) rfl ?_
  show OG p e below m _ T 8 _ [(.int 2147483638), (.int 2)]
  refine o_icmp_le P (hb hby de96_8) (by decide) (pc' := 21) (by decide) (pcf := 11) rfl (fun _ => ?_) (fun q => absurd q (by decide))
  refine o_aloadN P (hb hby de96_21) rfl rfl (pc' := 22) rfl ?_
  refine o_getF P (ow hw 25 rfl) Via.refl (F_p0.fld 1 rfl) (hb hby de96_22) (pc' := 25) rfl ?_
  clear P; intro T P
  refine o_iloadN P (hb hby de96_25) rfl (pc' := 26) rfl ?_
  refine o_iadd P (hb hby de96_26) (pc' := 27) rfl ?_
  show OG p e below m _ T 27 _ [(.int 3)]
  refine o_istoreN P (hb hby de96_27) (L' := #[.val (.ref p0), .val (.int 2), .val (.int 3), .unset]) rfl (pc' := 28) rfl ?_
  refine o_iloadN P (hb hby de96_28) rfl (pc' := 29) rfl ?_
  refine o_aloadN P (hb hby de96_29) rfl rfl (pc' := 30) rfl ?_
  refine o_getF P (ow hw 13 rfl) Via.refl (F_p0.fld 0 rfl) (hb hby de96_30) (pc' := 33) rfl ?_
  clear P; intro T P
  refine o_arrlen P A_p1 (hb hby de96_33) (n := (16 : Int32)) rfl (pc' := 34) rfl ?_
  refine o_icmp_le P (hb hby de96_34) (by decide) (pc' := 76) (by decide) (pcf := 37) rfl (fun _ => ?_) (fun q => absurd q (by decide))
  exact o_ret0 P hret (hb hby de96_76) (by decide) (by decide) ⟨rfl, rfl⟩
theorem ef_ct_e113 (x0 : Addr) (x1 : Addr) (m : MethodId) : entryFrame m #[(.ref x0), (.ref x1)] 3 = mkF m 0 #[.val (.ref x0), .val (.ref x1), .unset] [] := by first | (simp [entryFrame, mkF, argsToLocals, o_catR, o_catN, o_catI, o_catJ, o_catD]; done) | rfl
theorem ct_e113 (l : Launch) (Z : State) (a0 : Array Value) (hw : OHw Z a0) (EL : List (String × Nat)) (n0 : Nat) (p0 : Addr) (p1 : Addr) (p2 : Addr) (p3 : Addr) (x0 : Int64) (x1 : Int64) (od oz : Addr) (hg : OGp Z od oz) (h0 : Heap) (F_p0 : OObj Z h0 p0 kK [(kK, "keys", "[J", (.ref p2)), (kK, "size", "I", (.int 1)), (kK, "selection", kSd, .null)]) (F_p1 : OObj Z h0 p1 kK [(kK, "keys", "[J", (.ref p3)), (kK, "size", "I", (.int 2)), (kK, "selection", kSd, .null)]) (A_p2 : OArr Z h0 p2 .long [(.long x0), (.long 0), (.long 0), (.long 0), (.long 0), (.long 0), (.long 0), (.long 0), (.long 0), (.long 0), (.long 0), (.long 0), (.long 0), (.long 0), (.long 0), (.long 0)]) (A_p3 : OArr Z h0 p3 .long [(.long x1), (.long x0), (.long 0), (.long 0), (.long 0), (.long 0), (.long 0), (.long 0), (.long 0), (.long 0), (.long 0), (.long 0), (.long 0), (.long 0), (.long 0), (.long 0)]) (ne_p0_p1 : p0 ≠ p1) (ne_p0_p2 : p0 ≠ p2) (ne_p0_p3 : p0 ≠ p3) (ne_p1_p2 : p1 ≠ p2) (ne_p1_p3 : p1 ≠ p3) (ne_p2_p3 : p2 ≠ p3) :
    OCt l Z a0 EL n0 (⟨kK, "addAll", "(Lcom/example/centile/centile/function/Keys;)V"⟩ : MethodName) prog_11_method_5_code 3 none ({ frames := 1, cells := 0, slots := 0, locals := 24 } : Room) [] #[(.ref p0), (.ref p1)] h0 [p0, p2] (fun w vm h => w = none ∧ OObj Z h p0 kK [(kK, "keys", "[J", (.ref p2)), (kK, "size", "I", (.int 3)), (kK, "selection", kSd, .null)] ∧ OArr Z h p2 .long [(.long x0), (.long x1), (.long x0), (.long 0), (.long 0), (.long 0), (.long 0), (.long 0), (.long 0), (.long 0), (.long 0), (.long 0), (.long 0), (.long 0), (.long 0), (.long 0)] ∧ True) := by
  refine OCt.body (plainFor_of_name pn_e6) (ef_ct_e113 p0 p1) ?_
  intro p e s m below meth c T hby hml hret hnm hsh P
  refine o_aloadN P (hb hby de109_0) rfl rfl (pc' := 1) rfl ?_
  refine o_getF P (ow hw 25 rfl) Via.refl (F_p1.fld 1 rfl) (hb hby de109_1) (pc' := 4) rfl ?_
  clear P; intro T P
  refine o_istoreN P (hb hby de109_4) (L' := #[.val (.ref p0), .val (.ref p1), .val (.int 2)]) rfl (pc' := 5) rfl ?_
  refine o_iloadN P (hb hby de109_5) rfl (pc' := 6) rfl ?_
  refine o_if_le P (hb hby de109_6) (by decide) (pc' := 46) (by decide) (pcf := 9) rfl (fun q => absurd (by decide) q) (fun _ => ?_)
  refine o_aloadN P (hb hby de109_9) rfl rfl (pc' := 10) rfl ?_
  refine o_iloadN P (hb hby de109_10) rfl (pc' := 11) rfl ?_
  refine o_callQ P (W := 0) (a := p0) (ow hw 20 rfl) (ow hw 21 rfl) (ow hw 4 rfl) (ow hw 22 rfl) (ow hw 5 rfl) (ow hw 23 rfl) (by decide) F_p0.exa (ct_e112 l Z a0 hw EL n0 p0 p2 x0 od oz hg h0 F_p0 A_p2 ne_p0_p2) o_sf0 (by rw [hml]; rfl) (by decide) (by decide) (argsL := [(.int 2)]) (rest := []) (lenOf pd_1 rfl) rfl rfl (Nat.le_of_eq rfl) (hb hby de109_11) (pc' := 14) rfl (by decide) (by decide) ?_
  clear P; intro T h2 v2 P K2 q2
  obtain ⟨rfl, rfl⟩ := q2; clear K2
  show OG p e below m _ T 14 _ []
  refine o_aloadN P (hb hby de109_14) rfl rfl (pc' := 15) rfl ?_
  refine o_getF P (ow hw 13 rfl) Via.refl (F_p1.fld 0 rfl) (hb hby de109_15) (pc' := 18) rfl ?_
  clear P; intro T P
  refine o_iconst P (0 : Int32) (hb hby de109_18) rfl (pc' := 19) rfl ?_
  refine o_aloadN P (hb hby de109_19) rfl rfl (pc' := 20) rfl ?_
  refine o_getF P (ow hw 13 rfl) Via.refl (F_p0.fld 0 rfl) (hb hby de109_20) (pc' := 23) rfl ?_
  clear P; intro T P
  refine o_aloadN P (hb hby de109_23) rfl rfl (pc' := 24) rfl ?_
  refine o_getF P (ow hw 25 rfl) Via.refl (F_p0.fld 1 rfl) (hb hby de109_24) (pc' := 27) rfl ?_
  clear P; intro T P
  refine o_iloadN P (hb hby de109_27) rfl (pc' := 28) rfl ?_
  refine o_cpA P (W := 0) (us := [(.long x1), (.long x0)]) (ow hw 107 rfl) (ow hw 110 rfl) (ow hw 108 rfl) (ow hw 109 rfl) A_p3 A_p2 (List.Mem.tail _ (List.Mem.head _)) (Or.inl ⟨rfl, rfl⟩) (by decide) (by decide) (by decide) (of_decide_eq_true rfl) (of_decide_eq_true rfl) rfl (by rw [hml]; rfl) (by decide) (Nat.le_of_eq rfl) (by decide) (hb hby de109_28) (pc' := 31) rfl ?_
  clear P; intro T h3 P K3 A'
  replace F_p0 := F_p0.keep K3 (ninS ne_p0_p2 nin0)
  replace F_p1 := F_p1.keep K3 (ninS ne_p1_p2 nin0)
  replace A_p3 := A_p3.keep K3 (ninS (Ne.symm ne_p2_p3) nin0)
  clear A_p2; have A_p2 : OArr Z h3 p2 .long [(.long x0), (.long x1), (.long x0), (.long 0), (.long 0), (.long 0), (.long 0), (.long 0), (.long 0), (.long 0), (.long 0), (.long 0), (.long 0), (.long 0), (.long 0), (.long 0)] := A'; clear A' K3
  refine o_aloadN P (hb hby de109_31) rfl rfl (pc' := 32) rfl ?_
  refine o_dup P (hb hby de109_32) rfl (pc' := 33) rfl ?_
  refine o_getF P (ow hw 25 rfl) Via.refl (F_p0.fld 1 rfl) (hb hby de109_33) (pc' := 36) rfl ?_
  clear P; intro T P
  refine o_iloadN P (hb hby de109_36) rfl (pc' := 37) rfl ?_
  refine o_iadd P (hb hby de109_37) (pc' := 38) rfl ?_
  show OG p e below m _ T 38 _ [(.int 3), (.ref p0)]
  refine o_putF P (v' := (.int 3)) (ty := .int) (ow hw 25 rfl) Via.refl (F_p0.fld 1 rfl) F_p0.exa (Or.inl (ow hw 26 rfl)) (ow hw 4 rfl) (by decide) rfl rfl (List.Mem.head _) (hb hby de109_38) (pc' := 41) rfl ?_
  clear P; intro T h4 P W4
  replace F_p1 := F_p1.oth W4 (Ne.symm ne_p0_p1)
  replace A_p2 := A_p2.oth W4 (Ne.symm ne_p0_p2)
  replace A_p3 := A_p3.oth W4 (Ne.symm ne_p0_p3)
  replace F_p0 : OObj Z h4 p0 kK [(kK, "keys", "[J", (.ref p2)), (kK, "size", "I", (.int 3)), (kK, "selection", kSd, .null)] := F_p0.put 1 rfl W4
  clear W4
  refine o_aloadN P (hb hby de109_41) rfl rfl (pc' := 42) rfl ?_
  refine o_aconstNull P (hb hby de109_42) (pc' := 43) rfl ?_
  refine o_putF P (v' := .null) (ty := (.object kS)) (ow hw 27 rfl) Via.refl (F_p0.fld 2 rfl) F_p0.exa (Or.inl (ow hw 28 rfl)) (ow hw 4 rfl) (by decide) rfl rfl (List.Mem.head _) (hb hby de109_43) (pc' := 46) rfl ?_
  clear P; intro T h5 P W5
  replace F_p1 := F_p1.oth W5 (Ne.symm ne_p0_p1)
  replace A_p2 := A_p2.oth W5 (Ne.symm ne_p0_p2)
  replace A_p3 := A_p3.oth W5 (Ne.symm ne_p0_p3)
  replace F_p0 : OObj Z h5 p0 kK [(kK, "keys", "[J", (.ref p2)), (kK, "size", "I", (.int 3)), (kK, "selection", kSd, .null)] := F_p0.put 2 rfl W5
  clear W5
  exact o_ret0 P hret (hb hby de109_46) (by decide) (by decide) ⟨rfl, F_p0, A_p2, trivial⟩
theorem ef_ct_e114 (x0 : Addr) (x1 : Int32) (m : MethodId) : entryFrame m #[(.ref x0), (.int x1)] 4 = mkF m 0 #[.val (.ref x0), .val (.int x1), .unset, .unset] [] := by first | (simp [entryFrame, mkF, argsToLocals, o_catR, o_catN, o_catI, o_catJ, o_catD]; done) | rfl
theorem ct_e114 (l : Launch) (Z : State) (a0 : Array Value) (hw : OHw Z a0) (EL : List (String × Nat)) (n0 : Nat) (p0 : Addr) (p1 : Addr) (x0 : Int64) (x1 : Int64) (od oz : Addr) (hg : OGp Z od oz) (h0 : Heap) (F_p0 : OObj Z h0 p0 kK [(kK, "keys", "[J", (.ref p1)), (kK, "size", "I", (.int 2)), (kK, "selection", kSd, .null)]) (A_p1 : OArr Z h0 p1 .long [(.long x0), (.long x1), (.long 0), (.long 0), (.long 0), (.long 0), (.long 0), (.long 0), (.long 0), (.long 0), (.long 0), (.long 0), (.long 0), (.long 0), (.long 0), (.long 0)]) (ne_p0_p1 : p0 ≠ p1) :
    OCt l Z a0 EL n0 (⟨kK, "ensureRoom", "(I)V"⟩ : MethodName) prog_11_method_7_code 4 none ({ frames := 0, cells := 0, slots := 0, locals := 0 } : Room) [] #[(.ref p0), (.int 3)] h0 [] (fun w vm h => w = none ∧ h = h0) := by
  refine OCt.body (plainFor_of_name pn_e6) (ef_ct_e114 p0 ((3 : Int32))) ?_
  intro p e s m below meth c T hby hml hret hnm hsh P
  refine o_iloadN P (hb hby de96_0) rfl (pc' := 1) rfl ?_
  refine o_ldcI P (ow hw 24 rfl) (hb hby de96_1) (pc' := 3) rfl ?_
  refine o_aloadN P (hb hby de96_3) rfl rfl (pc' := 4) rfl ?_
  refine o_getF P (ow hw 25 rfl) Via.refl (F_p0.fld 1 rfl) (hb hby de96_4) (pc' := 7) rfl ?_
  clear P; intro T P
  refine o_isub P (hb hby de96_7) (pc' := 8) rfl ?_
  show OG p e below m _ T 8 _ [(.int 2147483637), (.int 3)]
  refine o_icmp_le P (hb hby de96_8) (by decide) (pc' := 21) (by decide) (pcf := 11) rfl (fun _ => ?_) (fun q => absurd q (by decide))
  refine o_aloadN P (hb hby de96_21) rfl rfl (pc' := 22) rfl ?_
  refine o_getF P (ow hw 25 rfl) Via.refl (F_p0.fld 1 rfl) (hb hby de96_22) (pc' := 25) rfl ?_
  clear P; intro T P
  refine o_iloadN P (hb hby de96_25) rfl (pc' := 26) rfl ?_
  refine o_iadd P (hb hby de96_26) (pc' := 27) rfl ?_
  show OG p e below m _ T 27 _ [(.int 5)]
  refine o_istoreN P (hb hby de96_27) (L' := #[.val (.ref p0), .val (.int 3), .val (.int 5), .unset]) rfl (pc' := 28) rfl ?_
  refine o_iloadN P (hb hby de96_28) rfl (pc' := 29) rfl ?_
  refine o_aloadN P (hb hby de96_29) rfl rfl (pc' := 30) rfl ?_
  refine o_getF P (ow hw 13 rfl) Via.refl (F_p0.fld 0 rfl) (hb hby de96_30) (pc' := 33) rfl ?_
  clear P; intro T P
  refine o_arrlen P A_p1 (hb hby de96_33) (n := (16 : Int32)) rfl (pc' := 34) rfl ?_
  refine o_icmp_le P (hb hby de96_34) (by decide) (pc' := 76) (by decide) (pcf := 37) rfl (fun _ => ?_) (fun q => absurd q (by decide))
  exact o_ret0 P hret (hb hby de96_76) (by decide) (by decide) ⟨rfl, rfl⟩
theorem ef_ct_e115 (x0 : Addr) (x1 : Addr) (m : MethodId) : entryFrame m #[(.ref x0), (.ref x1)] 3 = mkF m 0 #[.val (.ref x0), .val (.ref x1), .unset] [] := by first | (simp [entryFrame, mkF, argsToLocals, o_catR, o_catN, o_catI, o_catJ, o_catD]; done) | rfl
theorem ct_e115 (l : Launch) (Z : State) (a0 : Array Value) (hw : OHw Z a0) (EL : List (String × Nat)) (n0 : Nat) (p0 : Addr) (p1 : Addr) (p2 : Addr) (p3 : Addr) (x0 : Int64) (x1 : Int64) (od oz : Addr) (hg : OGp Z od oz) (h0 : Heap) (F_p0 : OObj Z h0 p0 kK [(kK, "keys", "[J", (.ref p2)), (kK, "size", "I", (.int 2)), (kK, "selection", kSd, .null)]) (F_p1 : OObj Z h0 p1 kK [(kK, "keys", "[J", (.ref p3)), (kK, "size", "I", (.int 3)), (kK, "selection", kSd, .null)]) (A_p2 : OArr Z h0 p2 .long [(.long x0), (.long x1), (.long 0), (.long 0), (.long 0), (.long 0), (.long 0), (.long 0), (.long 0), (.long 0), (.long 0), (.long 0), (.long 0), (.long 0), (.long 0), (.long 0)]) (A_p3 : OArr Z h0 p3 .long [(.long x1), (.long x0), (.long x1), (.long 0), (.long 0), (.long 0), (.long 0), (.long 0), (.long 0), (.long 0), (.long 0), (.long 0), (.long 0), (.long 0), (.long 0), (.long 0)]) (ne_p0_p1 : p0 ≠ p1) (ne_p0_p2 : p0 ≠ p2) (ne_p0_p3 : p0 ≠ p3) (ne_p1_p2 : p1 ≠ p2) (ne_p1_p3 : p1 ≠ p3) (ne_p2_p3 : p2 ≠ p3) :
    OCt l Z a0 EL n0 (⟨kK, "addAll", "(Lcom/example/centile/centile/function/Keys;)V"⟩ : MethodName) prog_11_method_5_code 3 none ({ frames := 1, cells := 0, slots := 0, locals := 24 } : Room) [] #[(.ref p0), (.ref p1)] h0 [p0, p2] (fun w vm h => w = none ∧ OObj Z h p0 kK [(kK, "keys", "[J", (.ref p2)), (kK, "size", "I", (.int 5)), (kK, "selection", kSd, .null)] ∧ OArr Z h p2 .long [(.long x0), (.long x1), (.long x1), (.long x0), (.long x1), (.long 0), (.long 0), (.long 0), (.long 0), (.long 0), (.long 0), (.long 0), (.long 0), (.long 0), (.long 0), (.long 0)] ∧ True) := by
  refine OCt.body (plainFor_of_name pn_e6) (ef_ct_e115 p0 p1) ?_
  intro p e s m below meth c T hby hml hret hnm hsh P
  refine o_aloadN P (hb hby de109_0) rfl rfl (pc' := 1) rfl ?_
  refine o_getF P (ow hw 25 rfl) Via.refl (F_p1.fld 1 rfl) (hb hby de109_1) (pc' := 4) rfl ?_
  clear P; intro T P
  refine o_istoreN P (hb hby de109_4) (L' := #[.val (.ref p0), .val (.ref p1), .val (.int 3)]) rfl (pc' := 5) rfl ?_
  refine o_iloadN P (hb hby de109_5) rfl (pc' := 6) rfl ?_
  refine o_if_le P (hb hby de109_6) (by decide) (pc' := 46) (by decide) (pcf := 9) rfl (fun q => absurd (by decide) q) (fun _ => ?_)
  refine o_aloadN P (hb hby de109_9) rfl rfl (pc' := 10) rfl ?_
  refine o_iloadN P (hb hby de109_10) rfl (pc' := 11) rfl ?_
  refine o_callQ P (W := 0) (a := p0) (ow hw 20 rfl) (ow hw 21 rfl) (ow hw 4 rfl) (ow hw 22 rfl) (ow hw 5 rfl) (ow hw 23 rfl) (by decide) F_p0.exa (ct_e114 l Z a0 hw EL n0 p0 p2 x0 x1 od oz hg h0 F_p0 A_p2 ne_p0_p2) o_sf0 (by rw [hml]; rfl) (by decide) (by decide) (argsL := [(.int 3)]) (rest := []) (lenOf pd_1 rfl) rfl rfl (Nat.le_of_eq rfl) (hb hby de109_11) (pc' := 14) rfl (by decide) (by decide) ?_
  clear P; intro T h2 v2 P K2 q2
  obtain ⟨rfl, rfl⟩ := q2; clear K2
  show OG p e below m _ T 14 _ []
  refine o_aloadN P (hb hby de109_14) rfl rfl (pc' := 15) rfl ?_
  refine o_getF P (ow hw 13 rfl) Via.refl (F_p1.fld 0 rfl) (hb hby de109_15) (pc' := 18) rfl ?_
  clear P; intro T P
  refine o_iconst P (0 : Int32) (hb hby de109_18) rfl (pc' := 19) rfl ?_
  refine o_aloadN P (hb hby de109_19) rfl rfl (pc' := 20) rfl ?_
  refine o_getF P (ow hw 13 rfl) Via.refl (F_p0.fld 0 rfl) (hb hby de109_20) (pc' := 23) rfl ?_
  clear P; intro T P
  refine o_aloadN P (hb hby de109_23) rfl rfl (pc' := 24) rfl ?_
  refine o_getF P (ow hw 25 rfl) Via.refl (F_p0.fld 1 rfl) (hb hby de109_24) (pc' := 27) rfl ?_
  clear P; intro T P
  refine o_iloadN P (hb hby de109_27) rfl (pc' := 28) rfl ?_
  refine o_cpA P (W := 0) (us := [(.long x1), (.long x0), (.long x1)]) (ow hw 107 rfl) (ow hw 110 rfl) (ow hw 108 rfl) (ow hw 109 rfl) A_p3 A_p2 (List.Mem.tail _ (List.Mem.head _)) (Or.inl ⟨rfl, rfl⟩) (by decide) (by decide) (by decide) (of_decide_eq_true rfl) (of_decide_eq_true rfl) rfl (by rw [hml]; rfl) (by decide) (Nat.le_of_eq rfl) (by decide) (hb hby de109_28) (pc' := 31) rfl ?_
  clear P; intro T h3 P K3 A'
  replace F_p0 := F_p0.keep K3 (ninS ne_p0_p2 nin0)
  replace F_p1 := F_p1.keep K3 (ninS ne_p1_p2 nin0)
  replace A_p3 := A_p3.keep K3 (ninS (Ne.symm ne_p2_p3) nin0)
  clear A_p2; have A_p2 : OArr Z h3 p2 .long [(.long x0), (.long x1), (.long x1), (.long x0), (.long x1), (.long 0), (.long 0), (.long 0), (.long 0), (.long 0), (.long 0), (.long 0), (.long 0), (.long 0), (.long 0), (.long 0)] := A'; clear A' K3
  refine o_aloadN P (hb hby de109_31) rfl rfl (pc' := 32) rfl ?_
  refine o_dup P (hb hby de109_32) rfl (pc' := 33) rfl ?_
  refine o_getF P (ow hw 25 rfl) Via.refl (F_p0.fld 1 rfl) (hb hby de109_33) (pc' := 36) rfl ?_
  clear P; intro T P
  refine o_iloadN P (hb hby de109_36) rfl (pc' := 37) rfl ?_
  refine o_iadd P (hb hby de109_37) (pc' := 38) rfl ?_
  show OG p e below m _ T 38 _ [(.int 5), (.ref p0)]
  refine o_putF P (v' := (.int 5)) (ty := .int) (ow hw 25 rfl) Via.refl (F_p0.fld 1 rfl) F_p0.exa (Or.inl (ow hw 26 rfl)) (ow hw 4 rfl) (by decide) rfl rfl (List.Mem.head _) (hb hby de109_38) (pc' := 41) rfl ?_
  clear P; intro T h4 P W4
  replace F_p1 := F_p1.oth W4 (Ne.symm ne_p0_p1)
  replace A_p2 := A_p2.oth W4 (Ne.symm ne_p0_p2)
  replace A_p3 := A_p3.oth W4 (Ne.symm ne_p0_p3)
  replace F_p0 : OObj Z h4 p0 kK [(kK, "keys", "[J", (.ref p2)), (kK, "size", "I", (.int 5)), (kK, "selection", kSd, .null)] := F_p0.put 1 rfl W4
  clear W4
  refine o_aloadN P (hb hby de109_41) rfl rfl (pc' := 42) rfl ?_
  refine o_aconstNull P (hb hby de109_42) (pc' := 43) rfl ?_
  refine o_putF P (v' := .null) (ty := (.object kS)) (ow hw 27 rfl) Via.refl (F_p0.fld 2 rfl) F_p0.exa (Or.inl (ow hw 28 rfl)) (ow hw 4 rfl) (by decide) rfl rfl (List.Mem.head _) (hb hby de109_43) (pc' := 46) rfl ?_
  clear P; intro T h5 P W5
  replace F_p1 := F_p1.oth W5 (Ne.symm ne_p0_p1)
  replace A_p2 := A_p2.oth W5 (Ne.symm ne_p0_p2)
  replace A_p3 := A_p3.oth W5 (Ne.symm ne_p0_p3)
  replace F_p0 : OObj Z h5 p0 kK [(kK, "keys", "[J", (.ref p2)), (kK, "size", "I", (.int 5)), (kK, "selection", kSd, .null)] := F_p0.put 2 rfl W5
  clear W5
  exact o_ret0 P hret (hb hby de109_46) (by decide) (by decide) ⟨rfl, F_p0, A_p2, trivial⟩
theorem ef_ct_e116 (x0 : Addr) (x1 : Int32) (m : MethodId) : entryFrame m #[(.ref x0), (.int x1)] 4 = mkF m 0 #[.val (.ref x0), .val (.int x1), .unset, .unset] [] := by first | (simp [entryFrame, mkF, argsToLocals, o_catR, o_catN, o_catI, o_catJ, o_catD]; done) | rfl
theorem ct_e116 (l : Launch) (Z : State) (a0 : Array Value) (hw : OHw Z a0) (EL : List (String × Nat)) (n0 : Nat) (p0 : Addr) (p1 : Addr) (x0 : Int64) (x1 : Int64) (od oz : Addr) (hg : OGp Z od oz) (h0 : Heap) (F_p0 : OObj Z h0 p0 kK [(kK, "keys", "[J", (.ref p1)), (kK, "size", "I", (.int 3)), (kK, "selection", kSd, .null)]) (A_p1 : OArr Z h0 p1 .long [(.long x0), (.long x1), (.long x0), (.long 0), (.long 0), (.long 0), (.long 0), (.long 0), (.long 0), (.long 0), (.long 0), (.long 0), (.long 0), (.long 0), (.long 0), (.long 0)]) (ne_p0_p1 : p0 ≠ p1) :
    OCt l Z a0 EL n0 (⟨kK, "ensureRoom", "(I)V"⟩ : MethodName) prog_11_method_7_code 4 none ({ frames := 0, cells := 0, slots := 0, locals := 0 } : Room) [] #[(.ref p0), (.int 5)] h0 [] (fun w vm h => w = none ∧ h = h0) := by
  refine OCt.body (plainFor_of_name pn_e6) (ef_ct_e116 p0 ((5 : Int32))) ?_
  intro p e s m below meth c T hby hml hret hnm hsh P
  refine o_iloadN P (hb hby de96_0) rfl (pc' := 1) rfl ?_
  refine o_ldcI P (ow hw 24 rfl) (hb hby de96_1) (pc' := 3) rfl ?_
  refine o_aloadN P (hb hby de96_3) rfl rfl (pc' := 4) rfl ?_
  refine o_getF P (ow hw 25 rfl) Via.refl (F_p0.fld 1 rfl) (hb hby de96_4) (pc' := 7) rfl ?_
  clear P; intro T P
  refine o_isub P (hb hby de96_7) (pc' := 8) rfl ?_
  show OG p e below m _ T 8 _ [(.int 2147483636), (.int 5)]
  refine o_icmp_le P (hb hby de96_8) (by decide) (pc' := 21) (by decide) (pcf := 11) rfl (fun _ => ?_) (fun q => absurd q (by decide))
  refine o_aloadN P (hb hby de96_21) rfl rfl (pc' := 22) rfl ?_
  refine o_getF P (ow hw 25 rfl) Via.refl (F_p0.fld 1 rfl) (hb hby de96_22) (pc' := 25) rfl ?_
  clear P; intro T P
  refine o_iloadN P (hb hby de96_25) rfl (pc' := 26) rfl ?_
  refine o_iadd P (hb hby de96_26) (pc' := 27) rfl ?_
  show OG p e below m _ T 27 _ [(.int 8)]
  refine o_istoreN P (hb hby de96_27) (L' := #[.val (.ref p0), .val (.int 5), .val (.int 8), .unset]) rfl (pc' := 28) rfl ?_
  refine o_iloadN P (hb hby de96_28) rfl (pc' := 29) rfl ?_
  refine o_aloadN P (hb hby de96_29) rfl rfl (pc' := 30) rfl ?_
  refine o_getF P (ow hw 13 rfl) Via.refl (F_p0.fld 0 rfl) (hb hby de96_30) (pc' := 33) rfl ?_
  clear P; intro T P
  refine o_arrlen P A_p1 (hb hby de96_33) (n := (16 : Int32)) rfl (pc' := 34) rfl ?_
  refine o_icmp_le P (hb hby de96_34) (by decide) (pc' := 76) (by decide) (pcf := 37) rfl (fun _ => ?_) (fun q => absurd q (by decide))
  exact o_ret0 P hret (hb hby de96_76) (by decide) (by decide) ⟨rfl, rfl⟩
theorem ef_ct_e117 (x0 : Addr) (x1 : Addr) (m : MethodId) : entryFrame m #[(.ref x0), (.ref x1)] 3 = mkF m 0 #[.val (.ref x0), .val (.ref x1), .unset] [] := by first | (simp [entryFrame, mkF, argsToLocals, o_catR, o_catN, o_catI, o_catJ, o_catD]; done) | rfl
theorem ct_e117 (l : Launch) (Z : State) (a0 : Array Value) (hw : OHw Z a0) (EL : List (String × Nat)) (n0 : Nat) (p0 : Addr) (p1 : Addr) (p2 : Addr) (p3 : Addr) (x0 : Int64) (x1 : Int64) (od oz : Addr) (hg : OGp Z od oz) (h0 : Heap) (F_p0 : OObj Z h0 p0 kK [(kK, "keys", "[J", (.ref p2)), (kK, "size", "I", (.int 3)), (kK, "selection", kSd, .null)]) (F_p1 : OObj Z h0 p1 kK [(kK, "keys", "[J", (.ref p3)), (kK, "size", "I", (.int 5)), (kK, "selection", kSd, .null)]) (A_p2 : OArr Z h0 p2 .long [(.long x0), (.long x1), (.long x0), (.long 0), (.long 0), (.long 0), (.long 0), (.long 0), (.long 0), (.long 0), (.long 0), (.long 0), (.long 0), (.long 0), (.long 0), (.long 0)]) (A_p3 : OArr Z h0 p3 .long [(.long x1), (.long x0), (.long x0), (.long x1), (.long x0), (.long 0), (.long 0), (.long 0), (.long 0), (.long 0), (.long 0), (.long 0), (.long 0), (.long 0), (.long 0), (.long 0)]) (ne_p0_p1 : p0 ≠ p1) (ne_p0_p2 : p0 ≠ p2) (ne_p0_p3 : p0 ≠ p3) (ne_p1_p2 : p1 ≠ p2) (ne_p1_p3 : p1 ≠ p3) (ne_p2_p3 : p2 ≠ p3) :
    OCt l Z a0 EL n0 (⟨kK, "addAll", "(Lcom/example/centile/centile/function/Keys;)V"⟩ : MethodName) prog_11_method_5_code 3 none ({ frames := 1, cells := 0, slots := 0, locals := 24 } : Room) [] #[(.ref p0), (.ref p1)] h0 [p0, p2] (fun w vm h => w = none ∧ OObj Z h p0 kK [(kK, "keys", "[J", (.ref p2)), (kK, "size", "I", (.int 8)), (kK, "selection", kSd, .null)] ∧ OArr Z h p2 .long [(.long x0), (.long x1), (.long x0), (.long x1), (.long x0), (.long x0), (.long x1), (.long x0), (.long 0), (.long 0), (.long 0), (.long 0), (.long 0), (.long 0), (.long 0), (.long 0)] ∧ True) := by
  refine OCt.body (plainFor_of_name pn_e6) (ef_ct_e117 p0 p1) ?_
  intro p e s m below meth c T hby hml hret hnm hsh P
  refine o_aloadN P (hb hby de109_0) rfl rfl (pc' := 1) rfl ?_
  refine o_getF P (ow hw 25 rfl) Via.refl (F_p1.fld 1 rfl) (hb hby de109_1) (pc' := 4) rfl ?_
  clear P; intro T P
  refine o_istoreN P (hb hby de109_4) (L' := #[.val (.ref p0), .val (.ref p1), .val (.int 5)]) rfl (pc' := 5) rfl ?_
  refine o_iloadN P (hb hby de109_5) rfl (pc' := 6) rfl ?_
  refine o_if_le P (hb hby de109_6) (by decide) (pc' := 46) (by decide) (pcf := 9) rfl (fun q => absurd (by decide) q) (fun _ => ?_)
  refine o_aloadN P (hb hby de109_9) rfl rfl (pc' := 10) rfl ?_
  refine o_iloadN P (hb hby de109_10) rfl (pc' := 11) rfl ?_
  refine o_callQ P (W := 0) (a := p0) (ow hw 20 rfl) (ow hw 21 rfl) (ow hw 4 rfl) (ow hw 22 rfl) (ow hw 5 rfl) (ow hw 23 rfl) (by decide) F_p0.exa (ct_e116 l Z a0 hw EL n0 p0 p2 x0 x1 od oz hg h0 F_p0 A_p2 ne_p0_p2) o_sf0 (by rw [hml]; rfl) (by decide) (by decide) (argsL := [(.int 5)]) (rest := []) (lenOf pd_1 rfl) rfl rfl (Nat.le_of_eq rfl) (hb hby de109_11) (pc' := 14) rfl (by decide) (by decide) ?_
  clear P; intro T h2 v2 P K2 q2
  obtain ⟨rfl, rfl⟩ := q2; clear K2
  show OG p e below m _ T 14 _ []
  refine o_aloadN P (hb hby de109_14) rfl rfl (pc' := 15) rfl ?_
  refine o_getF P (ow hw 13 rfl) Via.refl (F_p1.fld 0 rfl) (hb hby de109_15) (pc' := 18) rfl ?_
  clear P; intro T P
  refine o_iconst P (0 : Int32) (hb hby de109_18) rfl (pc' := 19) rfl ?_
  refine o_aloadN P (hb hby de109_19) rfl rfl (pc' := 20) rfl ?_
  refine o_getF P (ow hw 13 rfl) Via.refl (F_p0.fld 0 rfl) (hb hby de109_20) (pc' := 23) rfl ?_
  clear P; intro T P
  refine o_aloadN P (hb hby de109_23) rfl rfl (pc' := 24) rfl ?_
  refine o_getF P (ow hw 25 rfl) Via.refl (F_p0.fld 1 rfl) (hb hby de109_24) (pc' := 27) rfl ?_
  clear P; intro T P
  refine o_iloadN P (hb hby de109_27) rfl (pc' := 28) rfl ?_
  refine o_cpA P (W := 0) (us := [(.long x1), (.long x0), (.long x0), (.long x1), (.long x0)]) (ow hw 107 rfl) (ow hw 110 rfl) (ow hw 108 rfl) (ow hw 109 rfl) A_p3 A_p2 (List.Mem.tail _ (List.Mem.head _)) (Or.inl ⟨rfl, rfl⟩) (by decide) (by decide) (by decide) (of_decide_eq_true rfl) (of_decide_eq_true rfl) rfl (by rw [hml]; rfl) (by decide) (Nat.le_of_eq rfl) (by decide) (hb hby de109_28) (pc' := 31) rfl ?_
  clear P; intro T h3 P K3 A'
  replace F_p0 := F_p0.keep K3 (ninS ne_p0_p2 nin0)
  replace F_p1 := F_p1.keep K3 (ninS ne_p1_p2 nin0)
  replace A_p3 := A_p3.keep K3 (ninS (Ne.symm ne_p2_p3) nin0)
  clear A_p2; have A_p2 : OArr Z h3 p2 .long [(.long x0), (.long x1), (.long x0), (.long x1), (.long x0), (.long x0), (.long x1), (.long x0), (.long 0), (.long 0), (.long 0), (.long 0), (.long 0), (.long 0), (.long 0), (.long 0)] := A'; clear A' K3
  refine o_aloadN P (hb hby de109_31) rfl rfl (pc' := 32) rfl ?_
  refine o_dup P (hb hby de109_32) rfl (pc' := 33) rfl ?_
  refine o_getF P (ow hw 25 rfl) Via.refl (F_p0.fld 1 rfl) (hb hby de109_33) (pc' := 36) rfl ?_
  clear P; intro T P
  refine o_iloadN P (hb hby de109_36) rfl (pc' := 37) rfl ?_
  refine o_iadd P (hb hby de109_37) (pc' := 38) rfl ?_
  show OG p e below m _ T 38 _ [(.int 8), (.ref p0)]
  refine o_putF P (v' := (.int 8)) (ty := .int) (ow hw 25 rfl) Via.refl (F_p0.fld 1 rfl) F_p0.exa (Or.inl (ow hw 26 rfl)) (ow hw 4 rfl) (by decide) rfl rfl (List.Mem.head _) (hb hby de109_38) (pc' := 41) rfl ?_
  clear P; intro T h4 P W4
  replace F_p1 := F_p1.oth W4 (Ne.symm ne_p0_p1)
  replace A_p2 := A_p2.oth W4 (Ne.symm ne_p0_p2)
  replace A_p3 := A_p3.oth W4 (Ne.symm ne_p0_p3)
  replace F_p0 : OObj Z h4 p0 kK [(kK, "keys", "[J", (.ref p2)), (kK, "size", "I", (.int 8)), (kK, "selection", kSd, .null)] := F_p0.put 1 rfl W4
  clear W4
  refine o_aloadN P (hb hby de109_41) rfl rfl (pc' := 42) rfl ?_
  refine o_aconstNull P (hb hby de109_42) (pc' := 43) rfl ?_
  refine o_putF P (v' := .null) (ty := (.object kS)) (ow hw 27 rfl) Via.refl (F_p0.fld 2 rfl) F_p0.exa (Or.inl (ow hw 28 rfl)) (ow hw 4 rfl) (by decide) rfl rfl (List.Mem.head _) (hb hby de109_43) (pc' := 46) rfl ?_
  clear P; intro T h5 P W5
  replace F_p1 := F_p1.oth W5 (Ne.symm ne_p0_p1)
  replace A_p2 := A_p2.oth W5 (Ne.symm ne_p0_p2)
  replace A_p3 := A_p3.oth W5 (Ne.symm ne_p0_p3)
  replace F_p0 : OObj Z h5 p0 kK [(kK, "keys", "[J", (.ref p2)), (kK, "size", "I", (.int 8)), (kK, "selection", kSd, .null)] := F_p0.put 2 rfl W5
  clear W5
  exact o_ret0 P hret (hb hby de109_46) (by decide) (by decide) ⟨rfl, F_p0, A_p2, trivial⟩
theorem ef_ct_e118 (x0 : Addr) (x1 : Int32) (m : MethodId) : entryFrame m #[(.ref x0), (.int x1)] 4 = mkF m 0 #[.val (.ref x0), .val (.int x1), .unset, .unset] [] := by first | (simp [entryFrame, mkF, argsToLocals, o_catR, o_catN, o_catI, o_catJ, o_catD]; done) | rfl
theorem ct_e118 (l : Launch) (Z : State) (a0 : Array Value) (hw : OHw Z a0) (EL : List (String × Nat)) (n0 : Nat) (p0 : Addr) (p1 : Addr) (x0 : Int64) (x1 : Int64) (od oz : Addr) (hg : OGp Z od oz) (h0 : Heap) (F_p0 : OObj Z h0 p0 kK [(kK, "keys", "[J", (.ref p1)), (kK, "size", "I", (.int 5)), (kK, "selection", kSd, .null)]) (A_p1 : OArr Z h0 p1 .long [(.long x0), (.long x1), (.long x1), (.long x0), (.long x1), (.long 0), (.long 0), (.long 0), (.long 0), (.long 0), (.long 0), (.long 0), (.long 0), (.long 0), (.long 0), (.long 0)]) (ne_p0_p1 : p0 ≠ p1) :
    OCt l Z a0 EL n0 (⟨kK, "ensureRoom", "(I)V"⟩ : MethodName) prog_11_method_7_code 4 none ({ frames := 0, cells := 0, slots := 0, locals := 0 } : Room) [] #[(.ref p0), (.int 8)] h0 [] (fun w vm h => w = none ∧ h = h0) := by
  refine OCt.body (plainFor_of_name pn_e6) (ef_ct_e118 p0 ((8 : Int32))) ?_
  intro p e s m below meth c T hby hml hret hnm hsh P
  refine o_iloadN P (hb hby de96_0) rfl (pc' := 1) rfl ?_
  refine o_ldcI P (ow hw 24 rfl) (hb hby de96_1) (pc' := 3) rfl ?_
  refine o_aloadN P (hb hby de96_3) rfl rfl (pc' := 4) rfl ?_
  refine o_getF P (ow hw 25 rfl) Via.refl (F_p0.fld 1 rfl) (hb hby de96_4) (pc' := 7) rfl ?_
  clear P; intro T P
  refine o_isub P (hb hby de96_7) (pc' := 8) rfl ?_
  show OG p e below m _ T 8 _ [(.int 2147483634), (.int 8)]
  refine o_icmp_le P (hb hby de96_8) (by decide) (pc' := 21) (by decide) (pcf := 11) rfl (fun _ => ?_) (fun q => absurd q (by decide))
  refine o_aloadN P (hb hby de96_21) rfl rfl (pc' := 22) rfl ?_
  refine o_getF P (ow hw 25 rfl) Via.refl (F_p0.fld 1 rfl) (hb hby de96_22) (pc' := 25) rfl ?_
  clear P; intro T P
  refine o_iloadN P (hb hby de96_25) rfl (pc' := 26) rfl ?_
  refine o_iadd P (hb hby de96_26) (pc' := 27) rfl ?_
  show OG p e below m _ T 27 _ [(.int 13)]
  refine o_istoreN P (hb hby de96_27) (L' := #[.val (.ref p0), .val (.int 8), .val (.int 13), .unset]) rfl (pc' := 28) rfl ?_
  refine o_iloadN P (hb hby de96_28) rfl (pc' := 29) rfl ?_
  refine o_aloadN P (hb hby de96_29) rfl rfl (pc' := 30) rfl ?_
  refine o_getF P (ow hw 13 rfl) Via.refl (F_p0.fld 0 rfl) (hb hby de96_30) (pc' := 33) rfl ?_
  clear P; intro T P
  refine o_arrlen P A_p1 (hb hby de96_33) (n := (16 : Int32)) rfl (pc' := 34) rfl ?_
  refine o_icmp_le P (hb hby de96_34) (by decide) (pc' := 76) (by decide) (pcf := 37) rfl (fun _ => ?_) (fun q => absurd q (by decide))
  exact o_ret0 P hret (hb hby de96_76) (by decide) (by decide) ⟨rfl, rfl⟩
theorem ef_ct_e119 (x0 : Addr) (x1 : Addr) (m : MethodId) : entryFrame m #[(.ref x0), (.ref x1)] 3 = mkF m 0 #[.val (.ref x0), .val (.ref x1), .unset] [] := by first | (simp [entryFrame, mkF, argsToLocals, o_catR, o_catN, o_catI, o_catJ, o_catD]; done) | rfl
theorem ct_e119 (l : Launch) (Z : State) (a0 : Array Value) (hw : OHw Z a0) (EL : List (String × Nat)) (n0 : Nat) (p0 : Addr) (p1 : Addr) (p2 : Addr) (p3 : Addr) (x0 : Int64) (x1 : Int64) (od oz : Addr) (hg : OGp Z od oz) (h0 : Heap) (F_p0 : OObj Z h0 p0 kK [(kK, "keys", "[J", (.ref p2)), (kK, "size", "I", (.int 5)), (kK, "selection", kSd, .null)]) (F_p1 : OObj Z h0 p1 kK [(kK, "keys", "[J", (.ref p3)), (kK, "size", "I", (.int 8)), (kK, "selection", kSd, .null)]) (A_p2 : OArr Z h0 p2 .long [(.long x0), (.long x1), (.long x1), (.long x0), (.long x1), (.long 0), (.long 0), (.long 0), (.long 0), (.long 0), (.long 0), (.long 0), (.long 0), (.long 0), (.long 0), (.long 0)]) (A_p3 : OArr Z h0 p3 .long [(.long x1), (.long x0), (.long x1), (.long x0), (.long x1), (.long x1), (.long x0), (.long x1), (.long 0), (.long 0), (.long 0), (.long 0), (.long 0), (.long 0), (.long 0), (.long 0)]) (ne_p0_p1 : p0 ≠ p1) (ne_p0_p2 : p0 ≠ p2) (ne_p0_p3 : p0 ≠ p3) (ne_p1_p2 : p1 ≠ p2) (ne_p1_p3 : p1 ≠ p3) (ne_p2_p3 : p2 ≠ p3) :
    OCt l Z a0 EL n0 (⟨kK, "addAll", "(Lcom/example/centile/centile/function/Keys;)V"⟩ : MethodName) prog_11_method_5_code 3 none ({ frames := 1, cells := 0, slots := 0, locals := 24 } : Room) [] #[(.ref p0), (.ref p1)] h0 [p0, p2] (fun w vm h => w = none ∧ OObj Z h p0 kK [(kK, "keys", "[J", (.ref p2)), (kK, "size", "I", (.int 13)), (kK, "selection", kSd, .null)] ∧ OArr Z h p2 .long [(.long x0), (.long x1), (.long x1), (.long x0), (.long x1), (.long x1), (.long x0), (.long x1), (.long x0), (.long x1), (.long x1), (.long x0), (.long x1), (.long 0), (.long 0), (.long 0)] ∧ True) := by
  refine OCt.body (plainFor_of_name pn_e6) (ef_ct_e119 p0 p1) ?_
  intro p e s m below meth c T hby hml hret hnm hsh P
  refine o_aloadN P (hb hby de109_0) rfl rfl (pc' := 1) rfl ?_
  refine o_getF P (ow hw 25 rfl) Via.refl (F_p1.fld 1 rfl) (hb hby de109_1) (pc' := 4) rfl ?_
  clear P; intro T P
  refine o_istoreN P (hb hby de109_4) (L' := #[.val (.ref p0), .val (.ref p1), .val (.int 8)]) rfl (pc' := 5) rfl ?_
  refine o_iloadN P (hb hby de109_5) rfl (pc' := 6) rfl ?_
  refine o_if_le P (hb hby de109_6) (by decide) (pc' := 46) (by decide) (pcf := 9) rfl (fun q => absurd (by decide) q) (fun _ => ?_)
  refine o_aloadN P (hb hby de109_9) rfl rfl (pc' := 10) rfl ?_
  refine o_iloadN P (hb hby de109_10) rfl (pc' := 11) rfl ?_
  refine o_callQ P (W := 0) (a := p0) (ow hw 20 rfl) (ow hw 21 rfl) (ow hw 4 rfl) (ow hw 22 rfl) (ow hw 5 rfl) (ow hw 23 rfl) (by decide) F_p0.exa (ct_e118 l Z a0 hw EL n0 p0 p2 x0 x1 od oz hg h0 F_p0 A_p2 ne_p0_p2) o_sf0 (by rw [hml]; rfl) (by decide) (by decide) (argsL := [(.int 8)]) (rest := []) (lenOf pd_1 rfl) rfl rfl (Nat.le_of_eq rfl) (hb hby de109_11) (pc' := 14) rfl (by decide) (by decide) ?_
  clear P; intro T h2 v2 P K2 q2
  obtain ⟨rfl, rfl⟩ := q2; clear K2
  show OG p e below m _ T 14 _ []
  refine o_aloadN P (hb hby de109_14) rfl rfl (pc' := 15) rfl ?_
  refine o_getF P (ow hw 13 rfl) Via.refl (F_p1.fld 0 rfl) (hb hby de109_15) (pc' := 18) rfl ?_
  clear P; intro T P
  refine o_iconst P (0 : Int32) (hb hby de109_18) rfl (pc' := 19) rfl ?_
  refine o_aloadN P (hb hby de109_19) rfl rfl (pc' := 20) rfl ?_
  refine o_getF P (ow hw 13 rfl) Via.refl (F_p0.fld 0 rfl) (hb hby de109_20) (pc' := 23) rfl ?_
  clear P; intro T P
  refine o_aloadN P (hb hby de109_23) rfl rfl (pc' := 24) rfl ?_
  refine o_getF P (ow hw 25 rfl) Via.refl (F_p0.fld 1 rfl) (hb hby de109_24) (pc' := 27) rfl ?_
  clear P; intro T P
  refine o_iloadN P (hb hby de109_27) rfl (pc' := 28) rfl ?_
  refine o_cpA P (W := 0) (us := [(.long x1), (.long x0), (.long x1), (.long x0), (.long x1), (.long x1), (.long x0), (.long x1)]) (ow hw 107 rfl) (ow hw 110 rfl) (ow hw 108 rfl) (ow hw 109 rfl) A_p3 A_p2 (List.Mem.tail _ (List.Mem.head _)) (Or.inl ⟨rfl, rfl⟩) (by decide) (by decide) (by decide) (of_decide_eq_true rfl) (of_decide_eq_true rfl) rfl (by rw [hml]; rfl) (by decide) (Nat.le_of_eq rfl) (by decide) (hb hby de109_28) (pc' := 31) rfl ?_
  clear P; intro T h3 P K3 A'
  replace F_p0 := F_p0.keep K3 (ninS ne_p0_p2 nin0)
  replace F_p1 := F_p1.keep K3 (ninS ne_p1_p2 nin0)
  replace A_p3 := A_p3.keep K3 (ninS (Ne.symm ne_p2_p3) nin0)
  clear A_p2; have A_p2 : OArr Z h3 p2 .long [(.long x0), (.long x1), (.long x1), (.long x0), (.long x1), (.long x1), (.long x0), (.long x1), (.long x0), (.long x1), (.long x1), (.long x0), (.long x1), (.long 0), (.long 0), (.long 0)] := A'; clear A' K3
  refine o_aloadN P (hb hby de109_31) rfl rfl (pc' := 32) rfl ?_
  refine o_dup P (hb hby de109_32) rfl (pc' := 33) rfl ?_
  refine o_getF P (ow hw 25 rfl) Via.refl (F_p0.fld 1 rfl) (hb hby de109_33) (pc' := 36) rfl ?_
  clear P; intro T P
  refine o_iloadN P (hb hby de109_36) rfl (pc' := 37) rfl ?_
  refine o_iadd P (hb hby de109_37) (pc' := 38) rfl ?_
  show OG p e below m _ T 38 _ [(.int 13), (.ref p0)]
  refine o_putF P (v' := (.int 13)) (ty := .int) (ow hw 25 rfl) Via.refl (F_p0.fld 1 rfl) F_p0.exa (Or.inl (ow hw 26 rfl)) (ow hw 4 rfl) (by decide) rfl rfl (List.Mem.head _) (hb hby de109_38) (pc' := 41) rfl ?_
  clear P; intro T h4 P W4
  replace F_p1 := F_p1.oth W4 (Ne.symm ne_p0_p1)
  replace A_p2 := A_p2.oth W4 (Ne.symm ne_p0_p2)
  replace A_p3 := A_p3.oth W4 (Ne.symm ne_p0_p3)
  replace F_p0 : OObj Z h4 p0 kK [(kK, "keys", "[J", (.ref p2)), (kK, "size", "I", (.int 13)), (kK, "selection", kSd, .null)] := F_p0.put 1 rfl W4
  clear W4
  refine o_aloadN P (hb hby de109_41) rfl rfl (pc' := 42) rfl ?_
  refine o_aconstNull P (hb hby de109_42) (pc' := 43) rfl ?_
  refine o_putF P (v' := .null) (ty := (.object kS)) (ow hw 27 rfl) Via.refl (F_p0.fld 2 rfl) F_p0.exa (Or.inl (ow hw 28 rfl)) (ow hw 4 rfl) (by decide) rfl rfl (List.Mem.head _) (hb hby de109_43) (pc' := 46) rfl ?_
  clear P; intro T h5 P W5
  replace F_p1 := F_p1.oth W5 (Ne.symm ne_p0_p1)
  replace A_p2 := A_p2.oth W5 (Ne.symm ne_p0_p2)
  replace A_p3 := A_p3.oth W5 (Ne.symm ne_p0_p3)
  replace F_p0 : OObj Z h5 p0 kK [(kK, "keys", "[J", (.ref p2)), (kK, "size", "I", (.int 13)), (kK, "selection", kSd, .null)] := F_p0.put 2 rfl W5
  clear W5
  exact o_ret0 P hret (hb hby de109_46) (by decide) (by decide) ⟨rfl, F_p0, A_p2, trivial⟩
theorem de120_0 : decode jdk_29_method_65_code 0 = .ok (.iload_n 0, 1) := by decide +kernel
theorem de120_1 : decode jdk_29_method_65_code 1 = .ok (.iload_n 1, 1) := by decide +kernel
theorem de120_2 : decode jdk_29_method_65_code 2 = .ok (.if_icmp .lt 7, 3) := by decide +kernel
theorem de120_9 : decode jdk_29_method_65_code 9 = .ok (.iload_n 1, 1) := by decide +kernel
theorem de120_10 : decode jdk_29_method_65_code 10 = .ok (.ireturn, 1) := by decide +kernel
theorem ef_ct_e121 (x0 : Int32) (x1 : Int32) (m : MethodId) : entryFrame m #[(.int x0), (.int x1)] 2 = mkF m 0 #[.val (.int x0), .val (.int x1)] [] := by first | (simp [entryFrame, mkF, argsToLocals, o_catR, o_catN, o_catI, o_catJ, o_catD]; done) | rfl
theorem ct_e121 (l : Launch) (Z : State) (a0 : Array Value) (hw : OHw Z a0) (EL : List (String × Nat)) (n0 : Nat)   (od oz : Addr) (hg : OGp Z od oz) (h0 : Heap)   :
    OCt l Z a0 EL n0 (⟨"java/lang/Math", "max", "(II)I"⟩ : MethodName) jdk_29_method_65_code 2 (some .int) ({ frames := 0, cells := 0, slots := 0, locals := 0 } : Room) [] #[(.int 21), (.int 32)] h0 [] (fun w vm h => w = some (.int 32) ∧ h = h0) := by
  refine OCt.body (Jvm.Free.JP.mathPlain rfl (by decide +kernel)) (ef_ct_e121 ((21 : Int32)) ((32 : Int32))) ?_
  intro p e s m below meth c T hby hml hret hnm hsh P
  refine o_iloadN P (hb hby de120_0) rfl (pc' := 1) rfl ?_
  refine o_iloadN P (hb hby de120_1) rfl (pc' := 2) rfl ?_
  refine o_icmp_lt P (hb hby de120_2) (by decide) (pc' := 9) (by decide) (pcf := 5) rfl (fun _ => ?_) (fun q => absurd (by decide) q)
  refine o_iloadN P (hb hby de120_9) rfl (pc' := 10) rfl ?_
  exact o_retI P hret (by simp) rfl (hb hby de120_10) (by decide) (by decide) ⟨rfl, rfl⟩
theorem de122_0 : decode jdk_65_method_124_code 0 = .ok (.iload_n 1, 1) := by decide +kernel
theorem de122_1 : decode jdk_65_method_124_code 1 = .ok (.aload_n 0, 1) := by decide +kernel
theorem de122_2 : decode jdk_65_method_124_code 2 = .ok (.arraylength, 1) := by decide +kernel
theorem de122_3 : decode jdk_65_method_124_code 3 = .ok (.if_icmp .ne 11, 3) := by decide +kernel
theorem de122_14 : decode jdk_65_method_124_code 14 = .ok (.iload_n 1, 1) := by decide +kernel
theorem de122_15 : decode jdk_65_method_124_code 15 = .ok (.newarray .long, 2) := by decide +kernel
theorem de122_17 : decode jdk_65_method_124_code 17 = .ok (.astore_n 2, 1) := by decide +kernel
theorem de122_18 : decode jdk_65_method_124_code 18 = .ok (.aload_n 0, 1) := by decide +kernel
theorem de122_19 : decode jdk_65_method_124_code 19 = .ok (.iconst 0, 1) := by decide +kernel
theorem de122_20 : decode jdk_65_method_124_code 20 = .ok (.aload_n 2, 1) := by decide +kernel
theorem de122_21 : decode jdk_65_method_124_code 21 = .ok (.iconst 0, 1) := by decide +kernel
theorem de122_22 : decode jdk_65_method_124_code 22 = .ok (.aload_n 0, 1) := by decide +kernel
theorem de122_23 : decode jdk_65_method_124_code 23 = .ok (.arraylength, 1) := by decide +kernel
theorem de122_24 : decode jdk_65_method_124_code 24 = .ok (.iload_n 1, 1) := by decide +kernel
theorem de122_25 : decode jdk_65_method_124_code 25 = .ok (.invokestatic 304, 3) := by decide +kernel
theorem de122_28 : decode jdk_65_method_124_code 28 = .ok (.invokestatic 150, 3) := by decide +kernel
theorem de122_31 : decode jdk_65_method_124_code 31 = .ok (.aload_n 2, 1) := by decide +kernel
theorem de122_32 : decode jdk_65_method_124_code 32 = .ok (.areturn, 1) := by decide +kernel
theorem de123_0 : decode jdk_29_method_69_code 0 = .ok (.iload_n 0, 1) := by decide +kernel
theorem de123_1 : decode jdk_29_method_69_code 1 = .ok (.iload_n 1, 1) := by decide +kernel
theorem de123_2 : decode jdk_29_method_69_code 2 = .ok (.if_icmp .gt 7, 3) := by decide +kernel
theorem de123_5 : decode jdk_29_method_69_code 5 = .ok (.iload_n 0, 1) := by decide +kernel
theorem de123_6 : decode jdk_29_method_69_code 6 = .ok (.goto 4, 3) := by decide +kernel
theorem de123_10 : decode jdk_29_method_69_code 10 = .ok (.ireturn, 1) := by decide +kernel
theorem ef_ct_e124 (x0 : Int32) (x1 : Int32) (m : MethodId) : entryFrame m #[(.int x0), (.int x1)] 2 = mkF m 0 #[.val (.int x0), .val (.int x1)] [] := by first | (simp [entryFrame, mkF, argsToLocals, o_catR, o_catN, o_catI, o_catJ, o_catD]; done) | rfl
theorem ct_e124 (l : Launch) (Z : State) (a0 : Array Value) (hw : OHw Z a0) (EL : List (String × Nat)) (n0 : Nat)   (od oz : Addr) (hg : OGp Z od oz) (h0 : Heap)   :
    OCt l Z a0 EL n0 (⟨"java/lang/Math", "min", "(II)I"⟩ : MethodName) jdk_29_method_69_code 2 (some .int) ({ frames := 0, cells := 0, slots := 0, locals := 0 } : Room) [] #[(.int 16), (.int 32)] h0 [] (fun w vm h => w = some (.int 16) ∧ h = h0) := by
  refine OCt.body (Jvm.Free.JP.mathPlain rfl (by decide +kernel)) (ef_ct_e124 ((16 : Int32)) ((32 : Int32))) ?_
  intro p e s m below meth c T hby hml hret hnm hsh P
  refine o_iloadN P (hb hby de123_0) rfl (pc' := 1) rfl ?_
  refine o_iloadN P (hb hby de123_1) rfl (pc' := 2) rfl ?_
  refine o_icmp_gt P (hb hby de123_2) (by decide) (pc' := 9) (by decide) (pcf := 5) rfl (fun q => absurd q (by decide)) (fun _ => ?_)
  refine o_iloadN P (hb hby de123_5) rfl (pc' := 6) rfl ?_
  refine o_goto P (hb hby de123_6) (by decide) (pc' := 10) (by decide) ?_
  exact o_retI P hret (by simp) rfl (hb hby de123_10) (by decide) (by decide) ⟨rfl, rfl⟩
theorem ef_ct_e125 (x0 : Addr) (x1 : Int32) (m : MethodId) : entryFrame m #[(.ref x0), (.int x1)] 3 = mkF m 0 #[.val (.ref x0), .val (.int x1), .unset] [] := by first | (simp [entryFrame, mkF, argsToLocals, o_catR, o_catN, o_catI, o_catJ, o_catD]; done) | rfl
theorem ct_e125 (l : Launch) (Z : State) (a0 : Array Value) (hw : OHw Z a0) (EL : List (String × Nat)) (n0 : Nat) (p0 : Addr) (x0 : Int64) (x1 : Int64) (od oz : Addr) (hg : OGp Z od oz) (h0 : Heap) (A_p0 : OArr Z h0 p0 .long [(.long x0), (.long x1), (.long x0), (.long x1), (.long x0), (.long x0), (.long x1), (.long x0), (.long 0), (.long 0), (.long 0), (.long 0), (.long 0), (.long 0), (.long 0), (.long 0)])  :
    OCt l Z a0 EL n0 (⟨"java/util/Arrays", "copyOf", "([JI)[J"⟩ : MethodName) jdk_65_method_124_code 3 (some (.array .long)) ({ frames := 1, cells := 1, slots := 32, locals := 24 } : Room) [] #[(.ref p0), (.int 32)] h0 [] (fun w vm h => ∃ n0 : Addr, w = some (.ref n0) ∧ h0.size ≤ n0 ∧ OArr Z h n0 .long [(.long x0), (.long x1), (.long x0), (.long x1), (.long x0), (.long x0), (.long x1), (.long x0), (.long 0), (.long 0), (.long 0), (.long 0), (.long 0), (.long 0), (.long 0), (.long 0), (.long 0), (.long 0), (.long 0), (.long 0), (.long 0), (.long 0), (.long 0), (.long 0), (.long 0), (.long 0), (.long 0), (.long 0), (.long 0), (.long 0), (.long 0), (.long 0)] ∧ True) := by
  refine OCt.body (plainFor_of_name pn_e4) (ef_ct_e125 p0 ((32 : Int32))) ?_
  intro p e s m below meth c T hby hml hret hnm hsh P
  refine o_iloadN P (hb hby de122_0) rfl (pc' := 1) rfl ?_
  refine o_aloadN P (hb hby de122_1) rfl rfl (pc' := 2) rfl ?_
  refine o_arrlen P A_p0 (hb hby de122_2) (n := (16 : Int32)) rfl (pc' := 3) rfl ?_
  refine o_icmp_ne P (hb hby de122_3) (by decide) (pc' := 14) (by decide) (pcf := 6) rfl (fun _ => ?_) (fun q => absurd q (by decide))
  refine o_iloadN P (hb hby de122_14) rfl (pc' := 15) rfl ?_
  have hz_b1 := P.keep0.1
  refine o_newarr P (cap := 32) (ow hw 12 rfl) (hb hby de122_15) (by decide) (by decide) (by decide) (pc' := 17) rfl (by decide) (by decide) ?_
  clear P; intro T h1 b1 P K1 hb_b1 A_b1
  have sz_b1 := Nat.le_trans hz_b1 hb_b1
  clear hz_b1
  have ne_p0_b1 := A_p0.nb hb_b1
  replace A_p0 := A_p0.keep K1 nin0
  clear K1
  replace A_b1 : OArr Z h1 b1 .long [(.long 0), (.long 0), (.long 0), (.long 0), (.long 0), (.long 0), (.long 0), (.long 0), (.long 0), (.long 0), (.long 0), (.long 0), (.long 0), (.long 0), (.long 0), (.long 0), (.long 0), (.long 0), (.long 0), (.long 0), (.long 0), (.long 0), (.long 0), (.long 0), (.long 0), (.long 0), (.long 0), (.long 0), (.long 0), (.long 0), (.long 0), (.long 0)] := A_b1
  refine o_astoreN P (hb hby de122_17) rfl (L' := #[.val (.ref p0), .val (.int 32), .val (.ref b1)]) rfl (pc' := 18) rfl ?_
  refine o_aloadN P (hb hby de122_18) rfl rfl (pc' := 19) rfl ?_
  refine o_iconst P (0 : Int32) (hb hby de122_19) rfl (pc' := 20) rfl ?_
  refine o_aloadN P (hb hby de122_20) rfl rfl (pc' := 21) rfl ?_
  refine o_iconst P (0 : Int32) (hb hby de122_21) rfl (pc' := 22) rfl ?_
  refine o_aloadN P (hb hby de122_22) rfl rfl (pc' := 23) rfl ?_
  refine o_arrlen P A_p0 (hb hby de122_23) (n := (16 : Int32)) rfl (pc' := 24) rfl ?_
  refine o_iloadN P (hb hby de122_24) rfl (pc' := 25) rfl ?_
  refine o_callS P (W := 4) (ow hw 120 rfl) (ow hw 121 rfl) (ow hw 114 rfl) (ow hw 122 rfl) (by decide) (ct_e124 l Z a0 hw EL n0   od oz hg h1  ) o_sf0 (by rw [hml]; rfl) (by decide) (by decide) (argsL := [(.int 16), (.int 32)]) (rest := [(.int 0), (.ref b1), (.int 0), (.ref p0)]) (lenOf pd_22 rfl) rfl rfl (Nat.le_of_eq rfl) (hb hby de122_25) (pc' := 28) rfl (by decide) (by decide) ?_
  clear P; intro T h3 v3 P K3 q3
  obtain ⟨rfl, rfl⟩ := q3; clear K3
  show OG p e below m _ T 28 _ [(.int 16), (.int 0), (.ref b1), (.int 0), (.ref p0)]
  refine o_cpA P (W := 0) (us := [(.long x0), (.long x1), (.long x0), (.long x1), (.long x0), (.long x0), (.long x1), (.long x0), (.long 0), (.long 0), (.long 0), (.long 0), (.long 0), (.long 0), (.long 0), (.long 0)]) (ow hw 123 rfl) (ow hw 110 rfl) (ow hw 108 rfl) (ow hw 109 rfl) A_p0 A_b1 (List.Mem.head _) (Or.inl ⟨rfl, rfl⟩) (by decide) (by decide) (by decide) (of_decide_eq_true rfl) (of_decide_eq_true rfl) rfl (by rw [hml]; rfl) (by decide) (Nat.le_of_eq rfl) (by decide) (hb hby de122_28) (pc' := 31) rfl ?_
  clear P; intro T h4 P K4 A'
  replace A_p0 := A_p0.keep K4 (ninS ne_p0_b1 nin0)
  clear A_b1; have A_b1 : OArr Z h4 b1 .long [(.long x0), (.long x1), (.long x0), (.long x1), (.long x0), (.long x0), (.long x1), (.long x0), (.long 0), (.long 0), (.long 0), (.long 0), (.long 0), (.long 0), (.long 0), (.long 0), (.long 0), (.long 0), (.long 0), (.long 0), (.long 0), (.long 0), (.long 0), (.long 0), (.long 0), (.long 0), (.long 0), (.long 0), (.long 0), (.long 0), (.long 0), (.long 0)] := A'; clear A' K4
  refine o_aloadN P (hb hby de122_31) rfl rfl (pc' := 32) rfl ?_
  exact o_retA P hret rfl rfl rfl (hb hby de122_32) (by decide) (by decide) ⟨b1, rfl, hsh ▸ sz_b1, A_b1, trivial⟩
theorem ef_ct_e126 (x0 : Addr) (x1 : Int32) (m : MethodId) : entryFrame m #[(.ref x0), (.int x1)] 4 = mkF m 0 #[.val (.ref x0), .val (.int x1), .unset, .unset] [] := by first | (simp [entryFrame, mkF, argsToLocals, o_catR, o_catN, o_catI, o_catJ, o_catD]; done) | rfl
theorem ct_e126 (l : Launch) (Z : State) (a0 : Array Value) (hw : OHw Z a0) (EL : List (String × Nat)) (n0 : Nat) (p0 : Addr) (p1 : Addr) (x0 : Int64) (x1 : Int64) (od oz : Addr) (hg : OGp Z od oz) (h0 : Heap) (F_p0 : OObj Z h0 p0 kK [(kK, "keys", "[J", (.ref p1)), (kK, "size", "I", (.int 8)), (kK, "selection", kSd, .null)]) (A_p1 : OArr Z h0 p1 .long [(.long x0), (.long x1), (.long x0), (.long x1), (.long x0), (.long x0), (.long x1), (.long x0), (.long 0), (.long 0), (.long 0), (.long 0), (.long 0), (.long 0), (.long 0), (.long 0)]) (ne_p0_p1 : p0 ≠ p1) :
    OCt l Z a0 EL n0 (⟨kK, "ensureRoom", "(I)V"⟩ : MethodName) prog_11_method_7_code 4 none ({ frames := 2, cells := 1, slots := 32, locals := 39 } : Room) [] #[(.ref p0), (.int 13)] h0 [p0] (fun w vm h => ∃ n0 : Addr, w = none ∧ h0.size ≤ n0 ∧ OObj Z h p0 kK [(kK, "keys", "[J", (.ref n0)), (kK, "size", "I", (.int 8)), (kK, "selection", kSd, .null)] ∧ OArr Z h n0 .long [(.long x0), (.long x1), (.long x0), (.long x1), (.long x0), (.long x0), (.long x1), (.long x0), (.long 0), (.long 0), (.long 0), (.long 0), (.long 0), (.long 0), (.long 0), (.long 0), (.long 0), (.long 0), (.long 0), (.long 0), (.long 0), (.long 0), (.long 0), (.long 0), (.long 0), (.long 0), (.long 0), (.long 0), (.long 0), (.long 0), (.long 0), (.long 0)] ∧ True) := by
  refine OCt.body (plainFor_of_name pn_e6) (ef_ct_e126 p0 ((13 : Int32))) ?_
  intro p e s m below meth c T hby hml hret hnm hsh P
  refine o_iloadN P (hb hby de96_0) rfl (pc' := 1) rfl ?_
  refine o_ldcI P (ow hw 24 rfl) (hb hby de96_1) (pc' := 3) rfl ?_
  refine o_aloadN P (hb hby de96_3) rfl rfl (pc' := 4) rfl ?_
  refine o_getF P (ow hw 25 rfl) Via.refl (F_p0.fld 1 rfl) (hb hby de96_4) (pc' := 7) rfl ?_
  clear P; intro T P
  refine o_isub P (hb hby de96_7) (pc' := 8) rfl ?_
  show OG p e below m _ T 8 _ [(.int 2147483631), (.int 13)]
  refine o_icmp_le P (hb hby de96_8) (by decide) (pc' := 21) (by decide) (pcf := 11) rfl (fun _ => ?_) (fun q => absurd q (by decide))
  refine o_aloadN P (hb hby de96_21) rfl rfl (pc' := 22) rfl ?_
  refine o_getF P (ow hw 25 rfl) Via.refl (F_p0.fld 1 rfl) (hb hby de96_22) (pc' := 25) rfl ?_
  clear P; intro T P
  refine o_iloadN P (hb hby de96_25) rfl (pc' := 26) rfl ?_
  refine o_iadd P (hb hby de96_26) (pc' := 27) rfl ?_
  show OG p e below m _ T 27 _ [(.int 21)]
  refine o_istoreN P (hb hby de96_27) (L' := #[.val (.ref p0), .val (.int 13), .val (.int 21), .unset]) rfl (pc' := 28) rfl ?_
  refine o_iloadN P (hb hby de96_28) rfl (pc' := 29) rfl ?_
  refine o_aloadN P (hb hby de96_29) rfl rfl (pc' := 30) rfl ?_
  refine o_getF P (ow hw 13 rfl) Via.refl (F_p0.fld 0 rfl) (hb hby de96_30) (pc' := 33) rfl ?_
  clear P; intro T P
  refine o_arrlen P A_p1 (hb hby de96_33) (n := (16 : Int32)) rfl (pc' := 34) rfl ?_
  refine o_icmp_le P (hb hby de96_34) (by decide) (pc' := 76) (by decide) (pcf := 37) rfl (fun q => absurd (by decide) q) (fun _ => ?_)
  refine o_aloadN P (hb hby de96_37) rfl rfl (pc' := 38) rfl ?_
  refine o_getF P (ow hw 13 rfl) Via.refl (F_p0.fld 0 rfl) (hb hby de96_38) (pc' := 41) rfl ?_
  clear P; intro T P
  refine o_arrlen P A_p1 (hb hby de96_41) (n := (16 : Int32)) rfl (pc' := 42) rfl ?_
  refine o_ldcI P (ow hw 111 rfl) (hb hby de96_42) (pc' := 44) rfl ?_
  refine o_icmp_le P (hb hby de96_44) (by decide) (pc' := 52) (by decide) (pcf := 47) rfl (fun _ => ?_) (fun q => absurd q (by decide))
  refine o_aloadN P (hb hby de96_52) rfl rfl (pc' := 53) rfl ?_
  refine o_getF P (ow hw 13 rfl) Via.refl (F_p0.fld 0 rfl) (hb hby de96_53) (pc' := 56) rfl ?_
  clear P; intro T P
  refine o_arrlen P A_p1 (hb hby de96_56) (n := (16 : Int32)) rfl (pc' := 57) rfl ?_
  refine o_iconst P (2 : Int32) (hb hby de96_57) rfl (pc' := 58) rfl ?_
  refine o_imul P (hb hby de96_58) (pc' := 59) rfl ?_
  show OG p e below m _ T 59 _ [(.int 32)]
  refine o_istoreN P (hb hby de96_59) (L' := #[.val (.ref p0), .val (.int 13), .val (.int 21), .val (.int 32)]) rfl (pc' := 60) rfl ?_
  refine o_aloadN P (hb hby de96_60) rfl rfl (pc' := 61) rfl ?_
  refine o_aloadN P (hb hby de96_61) rfl rfl (pc' := 62) rfl ?_
  refine o_getF P (ow hw 13 rfl) Via.refl (F_p0.fld 0 rfl) (hb hby de96_62) (pc' := 65) rfl ?_
  clear P; intro T P
  refine o_iloadN P (hb hby de96_65) rfl (pc' := 66) rfl ?_
  refine o_iloadN P (hb hby de96_66) rfl (pc' := 67) rfl ?_
  refine o_callS P (W := 2) (ow hw 112 rfl) (ow hw 113 rfl) (ow hw 114 rfl) (ow hw 115 rfl) (by decide) (ct_e121 l Z a0 hw EL n0   od oz hg h0  ) o_sf0 (by rw [hml]; rfl) (by decide) (by decide) (argsL := [(.int 21), (.int 32)]) (rest := [(.ref p1), (.ref p0)]) (lenOf pd_22 rfl) rfl rfl (Nat.le_of_eq rfl) (hb hby de96_67) (pc' := 70) rfl (by decide) (by decide) ?_
  clear P; intro T h2 v2 P K2 q2
  obtain ⟨rfl, rfl⟩ := q2; clear K2
  show OG p e below m _ T 70 _ [(.int 32), (.ref p1), (.ref p0)]
  have hn_3 := P.n0le; have hk_3 := P.keep0.1
  refine o_callS P (W := 1) (ow hw 116 rfl) (ow hw 117 rfl) (ow hw 118 rfl) (ow hw 119 rfl) (by decide) (ct_e125 l Z a0 hw EL n0 p1 x0 x1 od oz hg h2 A_p1 ) o_sf0 (by rw [hml]; rfl) (by decide) (by decide) (argsL := [(.ref p1), (.int 32)]) (rest := [(.ref p0)]) (lenOf pd_23 rfl) rfl rfl (Nat.le_of_eq rfl) (hb hby de96_70) (pc' := 73) rfl (by decide) (by decide) ?_
  clear P; intro T h4 v4 P K4 q4
  obtain ⟨n0_3, rfl, g_n0_3, Q_n0_3, -⟩ := q4
  have ne_p0_n0_3 := F_p0.nb g_n0_3
  have ne_p1_n0_3 := A_p1.nb g_n0_3
  have sz_n0_3 := Nat.le_trans hk_3 g_n0_3
  replace F_p0 := F_p0.keep K4 nin0
  replace A_p1 := A_p1.keep K4 nin0
  have A_n0_3 := Q_n0_3; clear Q_n0_3
  replace P := P.moreA A_n0_3 (fun q => by cases q) (Nat.le_trans hn_3 g_n0_3) sz_n0_3
  clear K4 hn_3 hk_3
  show OG p e below m _ T 73 _ [(.ref n0_3), (.ref p0)]
  refine o_putF P (v' := (.ref n0_3)) (ty := (.array .long)) (ow hw 13 rfl) Via.refl (F_p0.fld 0 rfl) F_p0.exa (Or.inl (ow hw 14 rfl)) (ow hw 4 rfl) (by decide) rfl rfl (List.Mem.tail _ (List.Mem.head _)) (hb hby de96_73) (pc' := 76) rfl ?_
  clear P; intro T h5 P W5
  replace A_p1 := A_p1.oth W5 (Ne.symm ne_p0_p1)
  replace A_n0_3 := A_n0_3.oth W5 (Ne.symm ne_p0_n0_3)
  replace F_p0 : OObj Z h5 p0 kK [(kK, "keys", "[J", (.ref n0_3)), (kK, "size", "I", (.int 8)), (kK, "selection", kSd, .null)] := F_p0.put 0 rfl W5
  clear W5
  exact o_ret0 P hret (hb hby de96_76) (by decide) (by decide) ⟨n0_3, rfl, hsh ▸ sz_n0_3, F_p0, A_n0_3, trivial⟩
theorem ef_ct_e127 (x0 : Addr) (x1 : Addr) (m : MethodId) : entryFrame m #[(.ref x0), (.ref x1)] 3 = mkF m 0 #[.val (.ref x0), .val (.ref x1), .unset] [] := by first | (simp [entryFrame, mkF, argsToLocals, o_catR, o_catN, o_catI, o_catJ, o_catD]; done) | rfl
theorem ct_e127 (l : Launch) (Z : State) (a0 : Array Value) (hw : OHw Z a0) (EL : List (String × Nat)) (n0 : Nat) (p0 : Addr) (p1 : Addr) (p2 : Addr) (p3 : Addr) (x0 : Int64) (x1 : Int64) (od oz : Addr) (hg : OGp Z od oz) (h0 : Heap) (F_p0 : OObj Z h0 p0 kK [(kK, "keys", "[J", (.ref p2)), (kK, "size", "I", (.int 8)), (kK, "selection", kSd, .null)]) (F_p1 : OObj Z h0 p1 kK [(kK, "keys", "[J", (.ref p3)), (kK, "size", "I", (.int 13)), (kK, "selection", kSd, .null)]) (A_p2 : OArr Z h0 p2 .long [(.long x0), (.long x1), (.long x0), (.long x1), (.long x0), (.long x0), (.long x1), (.long x0), (.long 0), (.long 0), (.long 0), (.long 0), (.long 0), (.long 0), (.long 0), (.long 0)]) (A_p3 : OArr Z h0 p3 .long [(.long x1), (.long x0), (.long x0), (.long x1), (.long x0), (.long x0), (.long x1), (.long x0), (.long x1), (.long x0), (.long x0), (.long x1), (.long x0), (.long 0), (.long 0), (.long 0)]) (ne_p0_p1 : p0 ≠ p1) (ne_p0_p2 : p0 ≠ p2) (ne_p0_p3 : p0 ≠ p3) (ne_p1_p2 : p1 ≠ p2) (ne_p1_p3 : p1 ≠ p3) (ne_p2_p3 : p2 ≠ p3) :
    OCt l Z a0 EL n0 (⟨kK, "addAll", "(Lcom/example/centile/centile/function/Keys;)V"⟩ : MethodName) prog_11_method_5_code 3 none ({ frames := 3, cells := 1, slots := 32, locals := 54 } : Room) [] #[(.ref p0), (.ref p1)] h0 [p0] (fun w vm h => ∃ n0 : Addr, w = none ∧ h0.size ≤ n0 ∧ OObj Z h p0 kK [(kK, "keys", "[J", (.ref n0)), (kK, "size", "I", (.int 21)), (kK, "selection", kSd, .null)] ∧ OArr Z h n0 .long [(.long x0), (.long x1), (.long x0), (.long x1), (.long x0), (.long x0), (.long x1), (.long x0), (.long x1), (.long x0), (.long x0), (.long x1), (.long x0), (.long x0), (.long x1), (.long x0), (.long x1), (.long x0), (.long x0), (.long x1), (.long x0), (.long 0), (.long 0), (.long 0), (.long 0), (.long 0), (.long 0), (.long 0), (.long 0), (.long 0), (.long 0), (.long 0)] ∧ True) := by
  refine OCt.body (plainFor_of_name pn_e6) (ef_ct_e127 p0 p1) ?_
  intro p e s m below meth c T hby hml hret hnm hsh P
  refine o_aloadN P (hb hby de109_0) rfl rfl (pc' := 1) rfl ?_
  refine o_getF P (ow hw 25 rfl) Via.refl (F_p1.fld 1 rfl) (hb hby de109_1) (pc' := 4) rfl ?_
  clear P; intro T P
  refine o_istoreN P (hb hby de109_4) (L' := #[.val (.ref p0), .val (.ref p1), .val (.int 13)]) rfl (pc' := 5) rfl ?_
  refine o_iloadN P (hb hby de109_5) rfl (pc' := 6) rfl ?_
  refine o_if_le P (hb hby de109_6) (by decide) (pc' := 46) (by decide) (pcf := 9) rfl (fun q => absurd (by decide) q) (fun _ => ?_)
  refine o_aloadN P (hb hby de109_9) rfl rfl (pc' := 10) rfl ?_
  refine o_iloadN P (hb hby de109_10) rfl (pc' := 11) rfl ?_
  have hn_1 := P.n0le; have hk_1 := P.keep0.1
  refine o_callQ P (W := 0) (a := p0) (ow hw 20 rfl) (ow hw 21 rfl) (ow hw 4 rfl) (ow hw 22 rfl) (ow hw 5 rfl) (ow hw 23 rfl) (by decide) F_p0.exa (ct_e126 l Z a0 hw EL n0 p0 p2 x0 x1 od oz hg h0 F_p0 A_p2 ne_p0_p2) (o_sfS (List.Mem.head _) o_sf0) (by rw [hml]; rfl) (by decide) (by decide) (argsL := [(.int 13)]) (rest := []) (lenOf pd_1 rfl) rfl rfl (Nat.le_of_eq rfl) (hb hby de109_11) (pc' := 14) rfl (by decide) (by decide) ?_
  clear P; intro T h2 v2 P K2 q2
  obtain ⟨n0_1, rfl, g_n0_1, Q_p0, Q_n0_1, -⟩ := q2
  have ne_p0_n0_1 := F_p0.nb g_n0_1
  have ne_p1_n0_1 := F_p1.nb g_n0_1
  have ne_p2_n0_1 := A_p2.nb g_n0_1
  have ne_p3_n0_1 := A_p3.nb g_n0_1
  have sz_n0_1 := Nat.le_trans hk_1 g_n0_1
  replace F_p1 := F_p1.keep K2 (ninS (Ne.symm ne_p0_p1) nin0)
  replace A_p2 := A_p2.keep K2 (ninS (Ne.symm ne_p0_p2) nin0)
  replace A_p3 := A_p3.keep K2 (ninS (Ne.symm ne_p0_p3) nin0)
  clear F_p0
  have F_p0 := Q_p0; clear Q_p0
  have A_n0_1 := Q_n0_1; clear Q_n0_1
  replace P := P.moreA A_n0_1 (fun q => by cases q) (Nat.le_trans hn_1 g_n0_1) sz_n0_1
  clear K2 hn_1 hk_1
  show OG p e below m _ T 14 _ []
  refine o_aloadN P (hb hby de109_14) rfl rfl (pc' := 15) rfl ?_
  refine o_getF P (ow hw 13 rfl) Via.refl (F_p1.fld 0 rfl) (hb hby de109_15) (pc' := 18) rfl ?_
  clear P; intro T P
  refine o_iconst P (0 : Int32) (hb hby de109_18) rfl (pc' := 19) rfl ?_
  refine o_aloadN P (hb hby de109_19) rfl rfl (pc' := 20) rfl ?_
  refine o_getF P (ow hw 13 rfl) Via.refl (F_p0.fld 0 rfl) (hb hby de109_20) (pc' := 23) rfl ?_
  clear P; intro T P
  refine o_aloadN P (hb hby de109_23) rfl rfl (pc' := 24) rfl ?_
  refine o_getF P (ow hw 25 rfl) Via.refl (F_p0.fld 1 rfl) (hb hby de109_24) (pc' := 27) rfl ?_
  clear P; intro T P
  refine o_iloadN P (hb hby de109_27) rfl (pc' := 28) rfl ?_
  refine o_cpA P (W := 0) (us := [(.long x1), (.long x0), (.long x0), (.long x1), (.long x0), (.long x0), (.long x1), (.long x0), (.long x1), (.long x0), (.long x0), (.long x1), (.long x0)]) (ow hw 107 rfl) (ow hw 110 rfl) (ow hw 108 rfl) (ow hw 109 rfl) A_p3 A_n0_1 (List.Mem.head _) (Or.inl ⟨rfl, rfl⟩) (by decide) (by decide) (by decide) (of_decide_eq_true rfl) (of_decide_eq_true rfl) rfl (by rw [hml]; rfl) (by decide) (Nat.le_of_eq rfl) (by decide) (hb hby de109_28) (pc' := 31) rfl ?_
  clear P; intro T h3 P K3 A'
  replace F_p0 := F_p0.keep K3 (ninS ne_p0_n0_1 nin0)
  replace F_p1 := F_p1.keep K3 (ninS ne_p1_n0_1 nin0)
  replace A_p2 := A_p2.keep K3 (ninS ne_p2_n0_1 nin0)
  replace A_p3 := A_p3.keep K3 (ninS ne_p3_n0_1 nin0)
  clear A_n0_1; have A_n0_1 : OArr Z h3 n0_1 .long [(.long x0), (.long x1), (.long x0), (.long x1), (.long x0), (.long x0), (.long x1), (.long x0), (.long x1), (.long x0), (.long x0), (.long x1), (.long x0), (.long x0), (.long x1), (.long x0), (.long x1), (.long x0), (.long x0), (.long x1), (.long x0), (.long 0), (.long 0), (.long 0), (.long 0), (.long 0), (.long 0), (.long 0), (.long 0), (.long 0), (.long 0), (.long 0)] := A'; clear A' K3
  refine o_aloadN P (hb hby de109_31) rfl rfl (pc' := 32) rfl ?_
  refine o_dup P (hb hby de109_32) rfl (pc' := 33) rfl ?_
  refine o_getF P (ow hw 25 rfl) Via.refl (F_p0.fld 1 rfl) (hb hby de109_33) (pc' := 36) rfl ?_
  clear P; intro T P
  refine o_iloadN P (hb hby de109_36) rfl (pc' := 37) rfl ?_
  refine o_iadd P (hb hby de109_37) (pc' := 38) rfl ?_
  show OG p e below m _ T 38 _ [(.int 21), (.ref p0)]
  refine o_putF P (v' := (.int 21)) (ty := .int) (ow hw 25 rfl) Via.refl (F_p0.fld 1 rfl) F_p0.exa (Or.inl (ow hw 26 rfl)) (ow hw 4 rfl) (by decide) rfl rfl (List.Mem.tail _ (List.Mem.head _)) (hb hby de109_38) (pc' := 41) rfl ?_
  clear P; intro T h4 P W4
  replace F_p1 := F_p1.oth W4 (Ne.symm ne_p0_p1)
  replace A_p2 := A_p2.oth W4 (Ne.symm ne_p0_p2)
  replace A_p3 := A_p3.oth W4 (Ne.symm ne_p0_p3)
  replace A_n0_1 := A_n0_1.oth W4 (Ne.symm ne_p0_n0_1)
  replace F_p0 : OObj Z h4 p0 kK [(kK, "keys", "[J", (.ref n0_1)), (kK, "size", "I", (.int 21)), (kK, "selection", kSd, .null)] := F_p0.put 1 rfl W4
  clear W4
  refine o_aloadN P (hb hby de109_41) rfl rfl (pc' := 42) rfl ?_
  refine o_aconstNull P (hb hby de109_42) (pc' := 43) rfl ?_
  refine o_putF P (v' := .null) (ty := (.object kS)) (ow hw 27 rfl) Via.refl (F_p0.fld 2 rfl) F_p0.exa (Or.inl (ow hw 28 rfl)) (ow hw 4 rfl) (by decide) rfl rfl (List.Mem.tail _ (List.Mem.head _)) (hb hby de109_43) (pc' := 46) rfl ?_
  clear P; intro T h5 P W5
  replace F_p1 := F_p1.oth W5 (Ne.symm ne_p0_p1)
  replace A_p2 := A_p2.oth W5 (Ne.symm ne_p0_p2)
  replace A_p3 := A_p3.oth W5 (Ne.symm ne_p0_p3)
  replace A_n0_1 := A_n0_1.oth W5 (Ne.symm ne_p0_n0_1)
  replace F_p0 : OObj Z h5 p0 kK [(kK, "keys", "[J", (.ref n0_1)), (kK, "size", "I", (.int 21)), (kK, "selection", kSd, .null)] := F_p0.put 2 rfl W5
  clear W5
  exact o_ret0 P hret (hb hby de109_46) (by decide) (by decide) ⟨n0_1, rfl, hsh ▸ sz_n0_1, F_p0, A_n0_1, trivial⟩
theorem ef_ct_e128 (x0 : Addr) (x1 : Int32) (x2 : Addr) (m : MethodId) : entryFrame m #[(.ref x0), (.int x1), (.ref x2)] 4 = mkF m 0 #[.val (.ref x0), .val (.int x1), .val (.ref x2), .unset] [] := by first | (simp [entryFrame, mkF, argsToLocals, o_catR, o_catN, o_catI, o_catJ, o_catD]; done) | rfl
theorem ct_e128 (l : Launch) (Z : State) (a0 : Array Value) (hw : OHw Z a0) (EL : List (String × Nat)) (n0 : Nat) (p0 : Addr) (p1 : Addr) (x0 : Int64) (od oz : Addr) (hg : OGp Z od oz) (h0 : Heap) (F_p0 : OObj Z h0 p0 kK [(kK, "keys", "[J", (.ref p1)), (kK, "size", "I", (.int 1)), (kK, "selection", kSd, .null)]) (A_p1 : OArr Z h0 p1 .long [(.long x0), (.long 0), (.long 0), (.long 0), (.long 0), (.long 0), (.long 0), (.long 0), (.long 0), (.long 0), (.long 0), (.long 0), (.long 0), (.long 0), (.long 0), (.long 0)]) (ne_p0_p1 : p0 ≠ p1) :
    OCt l Z a0 EL n0 (⟨kK, "at", "(ILcom/example/centile/centile/function/Order;)J"⟩ : MethodName) prog_11_method_6_code 4 (some .long) ({ frames := 4, cells := 3, slots := 6, locals := 62 } : Room) [] #[(.ref p0), (.int 1), (.ref oz)] h0 [p0] (fun w vm h => ∃ n0 n1 n2 : Addr, w = some (.long x0) ∧ h0.size ≤ n0 ∧ h0.size ≤ n1 ∧ h0.size ≤ n2 ∧ n0 ≠ n1 ∧ n0 ≠ n2 ∧ n1 ≠ n2 ∧ OObj Z h p0 kK [(kK, "keys", "[J", (.ref p1)), (kK, "size", "I", (.int 1)), (kK, "selection", kSd, (.ref n0))] ∧ OObj Z h n0 kS [(kS, "values", "[J", (.ref p1)), (kS, "cuts", "Ljava/util/BitSet;", (.ref n1))] ∧ OObj Z h n1 kB [(kB, "wordsInUse", "I", (.int 1)), (kB, "sizeIsSticky", "Z", (.int 1)), (kB, "words", "[J", (.ref n2))] ∧ OArr Z h n2 .long [(.long 3)] ∧ True) := by
  refine OCt.body (plainFor_of_name pn_e6) (ef_ct_e128 p0 ((1 : Int32)) oz) ?_
  intro p e s m below meth c T hby hml hret hnm hsh P
  refine o_aloadN P (hb hby de1_0) rfl rfl (pc' := 1) rfl ?_
  refine o_getF P (ow hw 27 rfl) Via.refl (F_p0.fld 2 rfl) (hb hby de1_1) (pc' := 4) rfl ?_
  clear P; intro T P
  refine o_ifnonnullN P (hb hby de1_4) (pc' := 7) rfl ?_
  refine o_aloadN P (hb hby de1_7) rfl rfl (pc' := 8) rfl ?_
  have hz_b1 := P.keep0.1
  refine o_new P [(kS, "values", "[J", .null), (kS, "cuts", "Ljava/util/BitSet;", .null)] (ow hw 34 rfl) (ow hw 35 rfl) (ow hw 36 rfl) (OLd.cons (Or.inr (ow hw 42 rfl)) (ty := (.array .long)) (by decide) rfl (OLd.cons (Or.inr (ow hw 65 rfl)) (ty := (.object kB)) (by decide) rfl OLd.nil)) (by decide +kernel) (hb hby de1_8) (pc' := 11) rfl (by decide) (by decide) ?_
  clear P; intro T h1 b1 P K1 hb_b1 F_b1
  have sz_b1 := Nat.le_trans hz_b1 hb_b1
  clear hz_b1
  have ne_p0_b1 := F_p0.nb hb_b1
  have ne_p1_b1 := A_p1.nb hb_b1
  replace F_p0 := F_p0.keep K1 nin0
  replace A_p1 := A_p1.keep K1 nin0
  clear K1
  refine o_dup P (hb hby de1_11) rfl (pc' := 12) rfl ?_
  refine o_aloadN P (hb hby de1_12) rfl rfl (pc' := 13) rfl ?_
  refine o_getF P (ow hw 13 rfl) Via.refl (F_p0.fld 0 rfl) (hb hby de1_13) (pc' := 16) rfl ?_
  clear P; intro T P
  refine o_aloadN P (hb hby de1_16) rfl rfl (pc' := 17) rfl ?_
  refine o_getF P (ow hw 25 rfl) Via.refl (F_p0.fld 1 rfl) (hb hby de1_17) (pc' := 20) rfl ?_
  clear P; intro T P
  have hn_2 := P.n0le; have hk_2 := P.keep0.1
  refine o_callI P (W := 2) (a := b1) rfl (ow hw 37 rfl) (ow hw 38 rfl) (ow hw 36 rfl) (ow hw 39 rfl) (by decide) (ct_e103 l Z a0 hw EL n0 b1 p1 x0 od oz hg h1 F_b1 A_p1 (Ne.symm ne_p1_b1)) (o_sfS (List.Mem.head _) o_sf0) (by rw [hml]; rfl) (by decide) (by decide) (argsL := [(.ref p1), (.int 1)]) (rest := [(.ref b1), (.ref p0)]) (lenOf pd_3 rfl) rfl rfl (Nat.le_of_eq rfl) (hb hby de1_20) (pc' := 23) rfl (by decide) (by decide) ?_
  clear P; intro T h3 v3 P K3 q3
  obtain ⟨n0_2, n1_2, rfl, g_n0_2, g_n1_2, ne_n0_2_n1_2, Q_b1, Q_n0_2, Q_n1_2, -⟩ := q3
  have ne_p0_n0_2 := F_p0.nb g_n0_2
  have ne_b1_n0_2 := F_b1.nb g_n0_2
  have ne_p1_n0_2 := A_p1.nb g_n0_2
  have sz_n0_2 := Nat.le_trans hk_2 g_n0_2
  have ne_p0_n1_2 := F_p0.nb g_n1_2
  have ne_b1_n1_2 := F_b1.nb g_n1_2
  have ne_p1_n1_2 := A_p1.nb g_n1_2
  have sz_n1_2 := Nat.le_trans hk_2 g_n1_2
  replace F_p0 := F_p0.keep K3 (ninS ne_p0_b1 nin0)
  replace A_p1 := A_p1.keep K3 (ninS ne_p1_b1 nin0)
  clear F_b1
  have F_b1 := Q_b1; clear Q_b1
  have F_n0_2 := Q_n0_2; clear Q_n0_2
  have A_n1_2 := Q_n1_2; clear Q_n1_2
  replace P := P.moreO F_n0_2.exa (by decide) (by decide) (Nat.le_trans hn_2 g_n0_2) sz_n0_2
  replace P := P.moreA A_n1_2 (fun q => by cases q) (Nat.le_trans hn_2 g_n1_2) sz_n1_2
  clear K3 hn_2 hk_2
  show OG p e below m _ T 23 _ [(.ref b1), (.ref p0)]
  refine o_putF P (v' := (.ref b1)) (ty := (.object kS)) (ow hw 27 rfl) Via.refl (F_p0.fld 2 rfl) F_p0.exa (Or.inl (ow hw 28 rfl)) (ow hw 4 rfl) (by decide) rfl rfl (List.Mem.tail _ (List.Mem.tail _ (List.Mem.tail _ (List.Mem.head _)))) (hb hby de1_23) (pc' := 26) rfl ?_
  clear P; intro T h4 P W4
  replace F_b1 := F_b1.oth W4 (Ne.symm ne_p0_b1)
  replace F_n0_2 := F_n0_2.oth W4 (Ne.symm ne_p0_n0_2)
  replace A_p1 := A_p1.oth W4 (Ne.symm ne_p0_p1)
  replace A_n1_2 := A_n1_2.oth W4 (Ne.symm ne_p0_n1_2)
  replace F_p0 : OObj Z h4 p0 kK [(kK, "keys", "[J", (.ref p1)), (kK, "size", "I", (.int 1)), (kK, "selection", kSd, (.ref b1))] := F_p0.put 2 rfl W4
  clear W4
  refine o_aloadN P (hb hby de1_26) rfl rfl (pc' := 27) rfl ?_
  refine o_getS P (ow hw 87 rfl) Via.refl hg.2.1 (hb hby de1_27) (pc' := 30) rfl ?_
  clear P; intro T P
  refine o_acmp P false (hb hby de1_30) rfl rfl (decide_eq_false fun q => hg.2.2.2 (Value.ref.inj q)) (by decide) (pc' := 39) rfl ?_
  refine o_aloadN P (hb hby de1_39) rfl rfl (pc' := 40) rfl ?_
  refine o_getF P (ow hw 25 rfl) Via.refl (F_p0.fld 1 rfl) (hb hby de1_40) (pc' := 43) rfl ?_
  clear P; intro T P
  refine o_iloadN P (hb hby de1_43) rfl (pc' := 44) rfl ?_
  refine o_isub P (hb hby de1_44) (pc' := 45) rfl ?_
  show OG p e below m _ T 45 _ [(.int 0)]
  refine o_istoreN P (hb hby de1_45) (L' := #[.val (.ref p0), .val (.int 1), .val (.ref oz), .val (.int 0)]) rfl (pc' := 46) rfl ?_
  refine o_aloadN P (hb hby de1_46) rfl rfl (pc' := 47) rfl ?_
  refine o_getF P (ow hw 27 rfl) Via.refl (F_p0.fld 2 rfl) (hb hby de1_47) (pc' := 50) rfl ?_
  clear P; intro T P
  refine o_iloadN P (hb hby de1_50) rfl (pc' := 51) rfl ?_
  refine o_callV P (W := 0) (a := b1) (ow hw 88 rfl) (ow hw 89 rfl) (o_nfSl (ow hw 91 rfl)) (ow hw 91 rfl) (ow hw 90 rfl) (ow hw 36 rfl) (ow hw 92 rfl) (by decide) F_b1.exa (ct_e107 l Z a0 hw EL n0 b1 p1 n0_2 n1_2 x0 od oz hg h4 F_b1 A_p1 F_n0_2 A_n1_2 (Ne.symm ne_p1_b1) ne_b1_n0_2 ne_b1_n1_2 ne_p1_n0_2 ne_p1_n1_2 ne_n0_2_n1_2) o_sf0 (by rw [hml]; rfl) (by decide) (by decide) (argsL := [(.int 0)]) (rest := []) (lenOf pd_11 rfl) rfl rfl (Nat.le_of_eq rfl) (hb hby de1_51) (pc' := 54) rfl (by decide) (by decide) ?_
  clear P; intro T h6 v6 P K6 q6
  obtain ⟨rfl, rfl⟩ := q6; clear K6
  show OG p e below m _ T 54 _ [(.long x0)]
  exact o_retL P hret (hb hby de1_54) (by decide) (by decide) ⟨b1, n0_2, n1_2, rfl, hsh ▸ sz_b1, hsh ▸ sz_n0_2, hsh ▸ sz_n1_2, ne_b1_n0_2, ne_b1_n1_2, ne_n0_2_n1_2, F_p0, F_b1, F_n0_2, A_n1_2, trivial⟩
theorem ef_ct_e129 (x0 : Addr) (x1 : Addr) (m : MethodId) : entryFrame m #[(.ref x0), (.ref x1)] 3 = mkF m 0 #[.val (.ref x0), .val (.ref x1), .unset] [] := by first | (simp [entryFrame, mkF, argsToLocals, o_catR, o_catN, o_catI, o_catJ, o_catD]; done) | rfl
theorem ct_e129 (l : Launch) (Z : State) (a0 : Array Value) (hw : OHw Z a0) (EL : List (String × Nat)) (n0 : Nat) (p0 : Addr) (p1 : Addr) (p2 : Addr) (p3 : Addr) (p4 : Addr) (p5 : Addr) (p6 : Addr) (x0 : Int64) (od oz : Addr) (hg : OGp Z od oz) (h0 : Heap) (F_p0 : OObj Z h0 p0 kK [(kK, "keys", "[J", (.ref p2)), (kK, "size", "I", (.int 1)), (kK, "selection", kSd, (.ref p3))]) (F_p1 : OObj Z h0 p1 kK [(kK, "keys", "[J", (.ref p4)), (kK, "size", "I", (.int 0)), (kK, "selection", kSd, .null)]) (A_p2 : OArr Z h0 p2 .long [(.long x0), (.long 0), (.long 0), (.long 0), (.long 0), (.long 0), (.long 0), (.long 0), (.long 0), (.long 0), (.long 0), (.long 0), (.long 0), (.long 0), (.long 0), (.long 0)]) (F_p3 : OObj Z h0 p3 kS [(kS, "values", "[J", (.ref p2)), (kS, "cuts", "Ljava/util/BitSet;", (.ref p5))]) (A_p4 : OArr Z h0 p4 .long [(.long 0), (.long 0), (.long 0), (.long 0), (.long 0), (.long 0), (.long 0), (.long 0), (.long 0), (.long 0), (.long 0), (.long 0), (.long 0), (.long 0), (.long 0), (.long 0)]) (F_p5 : OObj Z h0 p5 kB [(kB, "wordsInUse", "I", (.int 1)), (kB, "sizeIsSticky", "Z", (.int 1)), (kB, "words", "[J", (.ref p6))]) (A_p6 : OArr Z h0 p6 .long [(.long 3)]) (ne_p0_p1 : p0 ≠ p1) (ne_p0_p2 : p0 ≠ p2) (ne_p0_p3 : p0 ≠ p3) (ne_p0_p4 : p0 ≠ p4) (ne_p0_p5 : p0 ≠ p5) (ne_p0_p6 : p0 ≠ p6) (ne_p1_p2 : p1 ≠ p2) (ne_p1_p3 : p1 ≠ p3) (ne_p1_p4 : p1 ≠ p4) (ne_p1_p5 : p1 ≠ p5) (ne_p1_p6 : p1 ≠ p6) (ne_p2_p3 : p2 ≠ p3) (ne_p2_p4 : p2 ≠ p4) (ne_p2_p5 : p2 ≠ p5) (ne_p2_p6 : p2 ≠ p6) (ne_p3_p4 : p3 ≠ p4) (ne_p3_p5 : p3 ≠ p5) (ne_p3_p6 : p3 ≠ p6) (ne_p4_p5 : p4 ≠ p5) (ne_p4_p6 : p4 ≠ p6) (ne_p5_p6 : p5 ≠ p6) :
    OCt l Z a0 EL n0 (⟨kK, "addAll", "(Lcom/example/centile/centile/function/Keys;)V"⟩ : MethodName) prog_11_method_5_code 3 none ({ frames := 0, cells := 0, slots := 0, locals := 0 } : Room) [] #[(.ref p0), (.ref p1)] h0 [] (fun w vm h => w = none ∧ h = h0) := by
  refine OCt.body (plainFor_of_name pn_e6) (ef_ct_e129 p0 p1) ?_
  intro p e s m below meth c T hby hml hret hnm hsh P
  refine o_aloadN P (hb hby de109_0) rfl rfl (pc' := 1) rfl ?_
  refine o_getF P (ow hw 25 rfl) Via.refl (F_p1.fld 1 rfl) (hb hby de109_1) (pc' := 4) rfl ?_
  clear P; intro T P
  refine o_istoreN P (hb hby de109_4) (L' := #[.val (.ref p0), .val (.ref p1), .val (.int 0)]) rfl (pc' := 5) rfl ?_
  refine o_iloadN P (hb hby de109_5) rfl (pc' := 6) rfl ?_
  refine o_if_le P (hb hby de109_6) (by decide) (pc' := 46) (by decide) (pcf := 9) rfl (fun _ => ?_) (fun q => absurd q (by decide))
  exact o_ret0 P hret (hb hby de109_46) (by decide) (by decide) ⟨rfl, rfl⟩
theorem ef_ct_e130 (x0 : Addr) (x1 : Addr) (m : MethodId) : entryFrame m #[(.ref x0), (.ref x1)] 3 = mkF m 0 #[.val (.ref x0), .val (.ref x1), .unset] [] := by first | (simp [entryFrame, mkF, argsToLocals, o_catR, o_catN, o_catI, o_catJ, o_catD]; done) | rfl
theorem ct_e130 (l : Launch) (Z : State) (a0 : Array Value) (hw : OHw Z a0) (EL : List (String × Nat)) (n0 : Nat) (p0 : Addr) (p1 : Addr) (p2 : Addr) (p3 : Addr) (p4 : Addr) (p5 : Addr) (p6 : Addr) (x0 : Int64) (od oz : Addr) (hg : OGp Z od oz) (h0 : Heap) (F_p0 : OObj Z h0 p0 kK [(kK, "keys", "[J", (.ref p2)), (kK, "size", "I", (.int 0)), (kK, "selection", kSd, .null)]) (F_p1 : OObj Z h0 p1 kK [(kK, "keys", "[J", (.ref p3)), (kK, "size", "I", (.int 1)), (kK, "selection", kSd, (.ref p4))]) (A_p2 : OArr Z h0 p2 .long [(.long 0), (.long 0), (.long 0), (.long 0), (.long 0), (.long 0), (.long 0), (.long 0), (.long 0), (.long 0), (.long 0), (.long 0), (.long 0), (.long 0), (.long 0), (.long 0)]) (A_p3 : OArr Z h0 p3 .long [(.long x0), (.long 0), (.long 0), (.long 0), (.long 0), (.long 0), (.long 0), (.long 0), (.long 0), (.long 0), (.long 0), (.long 0), (.long 0), (.long 0), (.long 0), (.long 0)]) (F_p4 : OObj Z h0 p4 kS [(kS, "values", "[J", (.ref p3)), (kS, "cuts", "Ljava/util/BitSet;", (.ref p5))]) (F_p5 : OObj Z h0 p5 kB [(kB, "wordsInUse", "I", (.int 1)), (kB, "sizeIsSticky", "Z", (.int 1)), (kB, "words", "[J", (.ref p6))]) (A_p6 : OArr Z h0 p6 .long [(.long 3)]) (ne_p0_p1 : p0 ≠ p1) (ne_p0_p2 : p0 ≠ p2) (ne_p0_p3 : p0 ≠ p3) (ne_p0_p4 : p0 ≠ p4) (ne_p0_p5 : p0 ≠ p5) (ne_p0_p6 : p0 ≠ p6) (ne_p1_p2 : p1 ≠ p2) (ne_p1_p3 : p1 ≠ p3) (ne_p1_p4 : p1 ≠ p4) (ne_p1_p5 : p1 ≠ p5) (ne_p1_p6 : p1 ≠ p6) (ne_p2_p3 : p2 ≠ p3) (ne_p2_p4 : p2 ≠ p4) (ne_p2_p5 : p2 ≠ p5) (ne_p2_p6 : p2 ≠ p6) (ne_p3_p4 : p3 ≠ p4) (ne_p3_p5 : p3 ≠ p5) (ne_p3_p6 : p3 ≠ p6) (ne_p4_p5 : p4 ≠ p5) (ne_p4_p6 : p4 ≠ p6) (ne_p5_p6 : p5 ≠ p6) :
    OCt l Z a0 EL n0 (⟨kK, "addAll", "(Lcom/example/centile/centile/function/Keys;)V"⟩ : MethodName) prog_11_method_5_code 3 none ({ frames := 1, cells := 0, slots := 0, locals := 24 } : Room) [] #[(.ref p0), (.ref p1)] h0 [p0, p2] (fun w vm h => w = none ∧ OObj Z h p0 kK [(kK, "keys", "[J", (.ref p2)), (kK, "size", "I", (.int 1)), (kK, "selection", kSd, .null)] ∧ OArr Z h p2 .long [(.long x0), (.long 0), (.long 0), (.long 0), (.long 0), (.long 0), (.long 0), (.long 0), (.long 0), (.long 0), (.long 0), (.long 0), (.long 0), (.long 0), (.long 0), (.long 0)] ∧ True) := by
  refine OCt.body (plainFor_of_name pn_e6) (ef_ct_e130 p0 p1) ?_
  intro p e s m below meth c T hby hml hret hnm hsh P
  refine o_aloadN P (hb hby de109_0) rfl rfl (pc' := 1) rfl ?_
  refine o_getF P (ow hw 25 rfl) Via.refl (F_p1.fld 1 rfl) (hb hby de109_1) (pc' := 4) rfl ?_
  clear P; intro T P
  refine o_istoreN P (hb hby de109_4) (L' := #[.val (.ref p0), .val (.ref p1), .val (.int 1)]) rfl (pc' := 5) rfl ?_
  refine o_iloadN P (hb hby de109_5) rfl (pc' := 6) rfl ?_
  refine o_if_le P (hb hby de109_6) (by decide) (pc' := 46) (by decide) (pcf := 9) rfl (fun q => absurd (by decide) q) (fun _ => ?_)
  refine o_aloadN P (hb hby de109_9) rfl rfl (pc' := 10) rfl ?_
  refine o_iloadN P (hb hby de109_10) rfl (pc' := 11) rfl ?_
  refine o_callQ P (W := 0) (a := p0) (ow hw 20 rfl) (ow hw 21 rfl) (ow hw 4 rfl) (ow hw 22 rfl) (ow hw 5 rfl) (ow hw 23 rfl) (by decide) F_p0.exa (ct_e97 l Z a0 hw EL n0 p0 p2  od oz hg h0 F_p0 A_p2 ne_p0_p2) o_sf0 (by rw [hml]; rfl) (by decide) (by decide) (argsL := [(.int 1)]) (rest := []) (lenOf pd_1 rfl) rfl rfl (Nat.le_of_eq rfl) (hb hby de109_11) (pc' := 14) rfl (by decide) (by decide) ?_
  clear P; intro T h2 v2 P K2 q2
  obtain ⟨rfl, rfl⟩ := q2; clear K2
  show OG p e below m _ T 14 _ []
  refine o_aloadN P (hb hby de109_14) rfl rfl (pc' := 15) rfl ?_
  refine o_getF P (ow hw 13 rfl) Via.refl (F_p1.fld 0 rfl) (hb hby de109_15) (pc' := 18) rfl ?_
  clear P; intro T P
  refine o_iconst P (0 : Int32) (hb hby de109_18) rfl (pc' := 19) rfl ?_
  refine o_aloadN P (hb hby de109_19) rfl rfl (pc' := 20) rfl ?_
  refine o_getF P (ow hw 13 rfl) Via.refl (F_p0.fld 0 rfl) (hb hby de109_20) (pc' := 23) rfl ?_
  clear P; intro T P
  refine o_aloadN P (hb hby de109_23) rfl rfl (pc' := 24) rfl ?_
  refine o_getF P (ow hw 25 rfl) Via.refl (F_p0.fld 1 rfl) (hb hby de109_24) (pc' := 27) rfl ?_
  clear P; intro T P
  refine o_iloadN P (hb hby de109_27) rfl (pc' := 28) rfl ?_
  refine o_cpA P (W := 0) (us := [(.long x0)]) (ow hw 107 rfl) (ow hw 110 rfl) (ow hw 108 rfl) (ow hw 109 rfl) A_p3 A_p2 (List.Mem.tail _ (List.Mem.head _)) (Or.inl ⟨rfl, rfl⟩) (by decide) (by decide) (by decide) (of_decide_eq_true rfl) (of_decide_eq_true rfl) rfl (by rw [hml]; rfl) (by decide) (Nat.le_of_eq rfl) (by decide) (hb hby de109_28) (pc' := 31) rfl ?_
  clear P; intro T h3 P K3 A'
  replace F_p0 := F_p0.keep K3 (ninS ne_p0_p2 nin0)
  replace F_p1 := F_p1.keep K3 (ninS ne_p1_p2 nin0)
  replace F_p4 := F_p4.keep K3 (ninS (Ne.symm ne_p2_p4) nin0)
  replace F_p5 := F_p5.keep K3 (ninS (Ne.symm ne_p2_p5) nin0)
  replace A_p3 := A_p3.keep K3 (ninS (Ne.symm ne_p2_p3) nin0)
  replace A_p6 := A_p6.keep K3 (ninS (Ne.symm ne_p2_p6) nin0)
  clear A_p2; have A_p2 : OArr Z h3 p2 .long [(.long x0), (.long 0), (.long 0), (.long 0), (.long 0), (.long 0), (.long 0), (.long 0), (.long 0), (.long 0), (.long 0), (.long 0), (.long 0), (.long 0), (.long 0), (.long 0)] := A'; clear A' K3
  refine o_aloadN P (hb hby de109_31) rfl rfl (pc' := 32) rfl ?_
  refine o_dup P (hb hby de109_32) rfl (pc' := 33) rfl ?_
  refine o_getF P (ow hw 25 rfl) Via.refl (F_p0.fld 1 rfl) (hb hby de109_33) (pc' := 36) rfl ?_
  clear P; intro T P
  refine o_iloadN P (hb hby de109_36) rfl (pc' := 37) rfl ?_
  refine o_iadd P (hb hby de109_37) (pc' := 38) rfl ?_
  show OG p e below m _ T 38 _ [(.int 1), (.ref p0)]
  refine o_putF P (v' := (.int 1)) (ty := .int) (ow hw 25 rfl) Via.refl (F_p0.fld 1 rfl) F_p0.exa (Or.inl (ow hw 26 rfl)) (ow hw 4 rfl) (by decide) rfl rfl (List.Mem.head _) (hb hby de109_38) (pc' := 41) rfl ?_
  clear P; intro T h4 P W4
  replace F_p1 := F_p1.oth W4 (Ne.symm ne_p0_p1)
  replace F_p4 := F_p4.oth W4 (Ne.symm ne_p0_p4)
  replace F_p5 := F_p5.oth W4 (Ne.symm ne_p0_p5)
  replace A_p2 := A_p2.oth W4 (Ne.symm ne_p0_p2)
  replace A_p3 := A_p3.oth W4 (Ne.symm ne_p0_p3)
  replace A_p6 := A_p6.oth W4 (Ne.symm ne_p0_p6)
  replace F_p0 : OObj Z h4 p0 kK [(kK, "keys", "[J", (.ref p2)), (kK, "size", "I", (.int 1)), (kK, "selection", kSd, .null)] := F_p0.put 1 rfl W4
  clear W4
  refine o_aloadN P (hb hby de109_41) rfl rfl (pc' := 42) rfl ?_
  refine o_aconstNull P (hb hby de109_42) (pc' := 43) rfl ?_
  refine o_putF P (v' := .null) (ty := (.object kS)) (ow hw 27 rfl) Via.refl (F_p0.fld 2 rfl) F_p0.exa (Or.inl (ow hw 28 rfl)) (ow hw 4 rfl) (by decide) rfl rfl (List.Mem.head _) (hb hby de109_43) (pc' := 46) rfl ?_
  clear P; intro T h5 P W5
  replace F_p1 := F_p1.oth W5 (Ne.symm ne_p0_p1)
  replace F_p4 := F_p4.oth W5 (Ne.symm ne_p0_p4)
  replace F_p5 := F_p5.oth W5 (Ne.symm ne_p0_p5)
  replace A_p2 := A_p2.oth W5 (Ne.symm ne_p0_p2)
  replace A_p3 := A_p3.oth W5 (Ne.symm ne_p0_p3)
  replace A_p6 := A_p6.oth W5 (Ne.symm ne_p0_p6)
  replace F_p0 : OObj Z h5 p0 kK [(kK, "keys", "[J", (.ref p2)), (kK, "size", "I", (.int 1)), (kK, "selection", kSd, .null)] := F_p0.put 2 rfl W5
  clear W5
  exact o_ret0 P hret (hb hby de109_46) (by decide) (by decide) ⟨rfl, F_p0, A_p2, trivial⟩
theorem ef_ct_e131 (x0 : Addr) (x1 : Addr) (m : MethodId) : entryFrame m #[(.ref x0), (.ref x1)] 3 = mkF m 0 #[.val (.ref x0), .val (.ref x1), .unset] [] := by first | (simp [entryFrame, mkF, argsToLocals, o_catR, o_catN, o_catI, o_catJ, o_catD]; done) | rfl
theorem ct_e131 (l : Launch) (Z : State) (a0 : Array Value) (hw : OHw Z a0) (EL : List (String × Nat)) (n0 : Nat) (p0 : Addr) (p1 : Addr) (p2 : Addr) (p3 : Addr) (p4 : Addr) (p5 : Addr) (p6 : Addr) (x0 : Int64) (od oz : Addr) (hg : OGp Z od oz) (h0 : Heap) (F_p0 : OObj Z h0 p0 kK [(kK, "keys", "[J", (.ref p2)), (kK, "size", "I", (.int 1)), (kK, "selection", kSd, (.ref p3))]) (F_p1 : OObj Z h0 p1 kK [(kK, "keys", "[J", (.ref p4)), (kK, "size", "I", (.int 1)), (kK, "selection", kSd, .null)]) (A_p2 : OArr Z h0 p2 .long [(.long x0), (.long 0), (.long 0), (.long 0), (.long 0), (.long 0), (.long 0), (.long 0), (.long 0), (.long 0), (.long 0), (.long 0), (.long 0), (.long 0), (.long 0), (.long 0)]) (F_p3 : OObj Z h0 p3 kS [(kS, "values", "[J", (.ref p2)), (kS, "cuts", "Ljava/util/BitSet;", (.ref p5))]) (A_p4 : OArr Z h0 p4 .long [(.long x0), (.long 0), (.long 0), (.long 0), (.long 0), (.long 0), (.long 0), (.long 0), (.long 0), (.long 0), (.long 0), (.long 0), (.long 0), (.long 0), (.long 0), (.long 0)]) (F_p5 : OObj Z h0 p5 kB [(kB, "wordsInUse", "I", (.int 1)), (kB, "sizeIsSticky", "Z", (.int 1)), (kB, "words", "[J", (.ref p6))]) (A_p6 : OArr Z h0 p6 .long [(.long 3)]) (ne_p0_p1 : p0 ≠ p1) (ne_p0_p2 : p0 ≠ p2) (ne_p0_p3 : p0 ≠ p3) (ne_p0_p4 : p0 ≠ p4) (ne_p0_p5 : p0 ≠ p5) (ne_p0_p6 : p0 ≠ p6) (ne_p1_p2 : p1 ≠ p2) (ne_p1_p3 : p1 ≠ p3) (ne_p1_p4 : p1 ≠ p4) (ne_p1_p5 : p1 ≠ p5) (ne_p1_p6 : p1 ≠ p6) (ne_p2_p3 : p2 ≠ p3) (ne_p2_p4 : p2 ≠ p4) (ne_p2_p5 : p2 ≠ p5) (ne_p2_p6 : p2 ≠ p6) (ne_p3_p4 : p3 ≠ p4) (ne_p3_p5 : p3 ≠ p5) (ne_p3_p6 : p3 ≠ p6) (ne_p4_p5 : p4 ≠ p5) (ne_p4_p6 : p4 ≠ p6) (ne_p5_p6 : p5 ≠ p6) :
    OCt l Z a0 EL n0 (⟨kK, "addAll", "(Lcom/example/centile/centile/function/Keys;)V"⟩ : MethodName) prog_11_method_5_code 3 none ({ frames := 1, cells := 0, slots := 0, locals := 24 } : Room) [] #[(.ref p0), (.ref p1)] h0 [p0, p2] (fun w vm h => w = none ∧ OObj Z h p0 kK [(kK, "keys", "[J", (.ref p2)), (kK, "size", "I", (.int 2)), (kK, "selection", kSd, .null)] ∧ OArr Z h p2 .long [(.long x0), (.long x0), (.long 0), (.long 0), (.long 0), (.long 0), (.long 0), (.long 0), (.long 0), (.long 0), (.long 0), (.long 0), (.long 0), (.long 0), (.long 0), (.long 0)] ∧ True) := by
  refine OCt.body (plainFor_of_name pn_e6) (ef_ct_e131 p0 p1) ?_
  intro p e s m below meth c T hby hml hret hnm hsh P
  refine o_aloadN P (hb hby de109_0) rfl rfl (pc' := 1) rfl ?_
  refine o_getF P (ow hw 25 rfl) Via.refl (F_p1.fld 1 rfl) (hb hby de109_1) (pc' := 4) rfl ?_
  clear P; intro T P
  refine o_istoreN P (hb hby de109_4) (L' := #[.val (.ref p0), .val (.ref p1), .val (.int 1)]) rfl (pc' := 5) rfl ?_
  refine o_iloadN P (hb hby de109_5) rfl (pc' := 6) rfl ?_
  refine o_if_le P (hb hby de109_6) (by decide) (pc' := 46) (by decide) (pcf := 9) rfl (fun q => absurd (by decide) q) (fun _ => ?_)
  refine o_aloadN P (hb hby de109_9) rfl rfl (pc' := 10) rfl ?_
  refine o_iloadN P (hb hby de109_10) rfl (pc' := 11) rfl ?_
  refine o_callQ P (W := 0) (a := p0) (ow hw 20 rfl) (ow hw 21 rfl) (ow hw 4 rfl) (ow hw 22 rfl) (ow hw 5 rfl) (ow hw 23 rfl) (by decide) F_p0.exa (ct_e110 l Z a0 hw EL n0 p0 p2 p3 p5 p6 x0 od oz hg h0 F_p0 A_p2 F_p3 F_p5 A_p6 ne_p0_p2 ne_p0_p3 ne_p0_p5 ne_p0_p6 ne_p2_p3 ne_p2_p5 ne_p2_p6 ne_p3_p5 ne_p3_p6 ne_p5_p6) o_sf0 (by rw [hml]; rfl) (by decide) (by decide) (argsL := [(.int 1)]) (rest := []) (lenOf pd_1 rfl) rfl rfl (Nat.le_of_eq rfl) (hb hby de109_11) (pc' := 14) rfl (by decide) (by decide) ?_
  clear P; intro T h2 v2 P K2 q2
  obtain ⟨rfl, rfl⟩ := q2; clear K2
  show OG p e below m _ T 14 _ []
  refine o_aloadN P (hb hby de109_14) rfl rfl (pc' := 15) rfl ?_
  refine o_getF P (ow hw 13 rfl) Via.refl (F_p1.fld 0 rfl) (hb hby de109_15) (pc' := 18) rfl ?_
  clear P; intro T P
  refine o_iconst P (0 : Int32) (hb hby de109_18) rfl (pc' := 19) rfl ?_
  refine o_aloadN P (hb hby de109_19) rfl rfl (pc' := 20) rfl ?_
  refine o_getF P (ow hw 13 rfl) Via.refl (F_p0.fld 0 rfl) (hb hby de109_20) (pc' := 23) rfl ?_
  clear P; intro T P
  refine o_aloadN P (hb hby de109_23) rfl rfl (pc' := 24) rfl ?_
  refine o_getF P (ow hw 25 rfl) Via.refl (F_p0.fld 1 rfl) (hb hby de109_24) (pc' := 27) rfl ?_
  clear P; intro T P
  refine o_iloadN P (hb hby de109_27) rfl (pc' := 28) rfl ?_
  refine o_cpA P (W := 0) (us := [(.long x0)]) (ow hw 107 rfl) (ow hw 110 rfl) (ow hw 108 rfl) (ow hw 109 rfl) A_p4 A_p2 (List.Mem.tail _ (List.Mem.head _)) (Or.inl ⟨rfl, rfl⟩) (by decide) (by decide) (by decide) (of_decide_eq_true rfl) (of_decide_eq_true rfl) rfl (by rw [hml]; rfl) (by decide) (Nat.le_of_eq rfl) (by decide) (hb hby de109_28) (pc' := 31) rfl ?_
  clear P; intro T h3 P K3 A'
  replace F_p0 := F_p0.keep K3 (ninS ne_p0_p2 nin0)
  replace F_p1 := F_p1.keep K3 (ninS ne_p1_p2 nin0)
  replace F_p3 := F_p3.keep K3 (ninS (Ne.symm ne_p2_p3) nin0)
  replace F_p5 := F_p5.keep K3 (ninS (Ne.symm ne_p2_p5) nin0)
  replace A_p4 := A_p4.keep K3 (ninS (Ne.symm ne_p2_p4) nin0)
  replace A_p6 := A_p6.keep K3 (ninS (Ne.symm ne_p2_p6) nin0)
  clear A_p2; have A_p2 : OArr Z h3 p2 .long [(.long x0), (.long x0), (.long 0), (.long 0), (.long 0), (.long 0), (.long 0), (.long 0), (.long 0), (.long 0), (.long 0), (.long 0), (.long 0), (.long 0), (.long 0), (.long 0)] := A'; clear A' K3
  refine o_aloadN P (hb hby de109_31) rfl rfl (pc' := 32) rfl ?_
  refine o_dup P (hb hby de109_32) rfl (pc' := 33) rfl ?_
  refine o_getF P (ow hw 25 rfl) Via.refl (F_p0.fld 1 rfl) (hb hby de109_33) (pc' := 36) rfl ?_
  clear P; intro T P
  refine o_iloadN P (hb hby de109_36) rfl (pc' := 37) rfl ?_
  refine o_iadd P (hb hby de109_37) (pc' := 38) rfl ?_
  show OG p e below m _ T 38 _ [(.int 2), (.ref p0)]
  refine o_putF P (v' := (.int 2)) (ty := .int) (ow hw 25 rfl) Via.refl (F_p0.fld 1 rfl) F_p0.exa (Or.inl (ow hw 26 rfl)) (ow hw 4 rfl) (by decide) rfl rfl (List.Mem.head _) (hb hby de109_38) (pc' := 41) rfl ?_
  clear P; intro T h4 P W4
  replace F_p1 := F_p1.oth W4 (Ne.symm ne_p0_p1)
  replace F_p3 := F_p3.oth W4 (Ne.symm ne_p0_p3)
  replace F_p5 := F_p5.oth W4 (Ne.symm ne_p0_p5)
  replace A_p2 := A_p2.oth W4 (Ne.symm ne_p0_p2)
  replace A_p4 := A_p4.oth W4 (Ne.symm ne_p0_p4)
  replace A_p6 := A_p6.oth W4 (Ne.symm ne_p0_p6)
  replace F_p0 : OObj Z h4 p0 kK [(kK, "keys", "[J", (.ref p2)), (kK, "size", "I", (.int 2)), (kK, "selection", kSd, (.ref p3))] := F_p0.put 1 rfl W4
  clear W4
  refine o_aloadN P (hb hby de109_41) rfl rfl (pc' := 42) rfl ?_
  refine o_aconstNull P (hb hby de109_42) (pc' := 43) rfl ?_
  refine o_putF P (v' := .null) (ty := (.object kS)) (ow hw 27 rfl) Via.refl (F_p0.fld 2 rfl) F_p0.exa (Or.inl (ow hw 28 rfl)) (ow hw 4 rfl) (by decide) rfl rfl (List.Mem.head _) (hb hby de109_43) (pc' := 46) rfl ?_
  clear P; intro T h5 P W5
  replace F_p1 := F_p1.oth W5 (Ne.symm ne_p0_p1)
  replace F_p3 := F_p3.oth W5 (Ne.symm ne_p0_p3)
  replace F_p5 := F_p5.oth W5 (Ne.symm ne_p0_p5)
  replace A_p2 := A_p2.oth W5 (Ne.symm ne_p0_p2)
  replace A_p4 := A_p4.oth W5 (Ne.symm ne_p0_p4)
  replace A_p6 := A_p6.oth W5 (Ne.symm ne_p0_p6)
  replace F_p0 : OObj Z h5 p0 kK [(kK, "keys", "[J", (.ref p2)), (kK, "size", "I", (.int 2)), (kK, "selection", kSd, .null)] := F_p0.put 2 rfl W5
  clear W5
  exact o_ret0 P hret (hb hby de109_46) (by decide) (by decide) ⟨rfl, F_p0, A_p2, trivial⟩
theorem ef_ct_e132 (x0 : Addr) (x1 : Addr) (m : MethodId) : entryFrame m #[(.ref x0), (.ref x1)] 3 = mkF m 0 #[.val (.ref x0), .val (.ref x1), .unset] [] := by first | (simp [entryFrame, mkF, argsToLocals, o_catR, o_catN, o_catI, o_catJ, o_catD]; done) | rfl
theorem ct_e132 (l : Launch) (Z : State) (a0 : Array Value) (hw : OHw Z a0) (EL : List (String × Nat)) (n0 : Nat) (p0 : Addr) (p1 : Addr) (p2 : Addr) (p3 : Addr) (x0 : Int64) (od oz : Addr) (hg : OGp Z od oz) (h0 : Heap) (F_p0 : OObj Z h0 p0 kK [(kK, "keys", "[J", (.ref p2)), (kK, "size", "I", (.int 1)), (kK, "selection", kSd, .null)]) (F_p1 : OObj Z h0 p1 kK [(kK, "keys", "[J", (.ref p3)), (kK, "size", "I", (.int 2)), (kK, "selection", kSd, .null)]) (A_p2 : OArr Z h0 p2 .long [(.long x0), (.long 0), (.long 0), (.long 0), (.long 0), (.long 0), (.long 0), (.long 0), (.long 0), (.long 0), (.long 0), (.long 0), (.long 0), (.long 0), (.long 0), (.long 0)]) (A_p3 : OArr Z h0 p3 .long [(.long x0), (.long x0), (.long 0), (.long 0), (.long 0), (.long 0), (.long 0), (.long 0), (.long 0), (.long 0), (.long 0), (.long 0), (.long 0), (.long 0), (.long 0), (.long 0)]) (ne_p0_p1 : p0 ≠ p1) (ne_p0_p2 : p0 ≠ p2) (ne_p0_p3 : p0 ≠ p3) (ne_p1_p2 : p1 ≠ p2) (ne_p1_p3 : p1 ≠ p3) (ne_p2_p3 : p2 ≠ p3) :
    OCt l Z a0 EL n0 (⟨kK, "addAll", "(Lcom/example/centile/centile/function/Keys;)V"⟩ : MethodName) prog_11_method_5_code 3 none ({ frames := 1, cells := 0, slots := 0, locals := 24 } : Room) [] #[(.ref p0), (.ref p1)] h0 [p0, p2] (fun w vm h => w = none ∧ OObj Z h p0 kK [(kK, "keys", "[J", (.ref p2)), (kK, "size", "I", (.int 3)), (kK, "selection", kSd, .null)] ∧ OArr Z h p2 .long [(.long x0), (.long x0), (.long x0), (.long 0), (.long 0), (.long 0), (.long 0), (.long 0), (.long 0), (.long 0), (.long 0), (.long 0), (.long 0), (.long 0), (.long 0), (.long 0)] ∧ True) := by
  refine OCt.body (plainFor_of_name pn_e6) (ef_ct_e132 p0 p1) ?_
  intro p e s m below meth c T hby hml hret hnm hsh P
  refine o_aloadN P (hb hby de109_0) rfl rfl (pc' := 1) rfl ?_
  refine o_getF P (ow hw 25 rfl) Via.refl (F_p1.fld 1 rfl) (hb hby de109_1) (pc' := 4) rfl ?_
  clear P; intro T P
  refine o_istoreN P (hb hby de109_4) (L' := #[.val (.ref p0), .val (.ref p1), .val (.int 2)]) rfl (pc' := 5) rfl ?_
  refine o_iloadN P (hb hby de109_5) rfl (pc' := 6) rfl ?_
  refine o_if_le P (hb hby de109_6) (by decide) (pc' := 46) (by decide) (pcf := 9) rfl (fun q => absurd (by decide) q) (fun _ => ?_)
  refine o_aloadN P (hb hby de109_9) rfl rfl (pc' := 10) rfl ?_
  refine o_iloadN P (hb hby de109_10) rfl (pc' := 11) rfl ?_
  refine o_callQ P (W := 0) (a := p0) (ow hw 20 rfl) (ow hw 21 rfl) (ow hw 4 rfl) (ow hw 22 rfl) (ow hw 5 rfl) (ow hw 23 rfl) (by decide) F_p0.exa (ct_e112 l Z a0 hw EL n0 p0 p2 x0 od oz hg h0 F_p0 A_p2 ne_p0_p2) o_sf0 (by rw [hml]; rfl) (by decide) (by decide) (argsL := [(.int 2)]) (rest := []) (lenOf pd_1 rfl) rfl rfl (Nat.le_of_eq rfl) (hb hby de109_11) (pc' := 14) rfl (by decide) (by decide) ?_
  clear P; intro T h2 v2 P K2 q2
  obtain ⟨rfl, rfl⟩ := q2; clear K2
  show OG p e below m _ T 14 _ []
  refine o_aloadN P (hb hby de109_14) rfl rfl (pc' := 15) rfl ?_
  refine o_getF P (ow hw 13 rfl) Via.refl (F_p1.fld 0 rfl) (hb hby de109_15) (pc' := 18) rfl ?_
  clear P; intro T P
  refine o_iconst P (0 : Int32) (hb hby de109_18) rfl (pc' := 19) rfl ?_
  refine o_aloadN P (hb hby de109_19) rfl rfl (pc' := 20) rfl ?_
  refine o_getF P (ow hw 13 rfl) Via.refl (F_p0.fld 0 rfl) (hb hby de109_20) (pc' := 23) rfl ?_
  clear P; intro T P
  refine o_aloadN P (hb hby de109_23) rfl rfl (pc' := 24) rfl ?_
  refine o_getF P (ow hw 25 rfl) Via.refl (F_p0.fld 1 rfl) (hb hby de109_24) (pc' := 27) rfl ?_
  clear P; intro T P
  refine o_iloadN P (hb hby de109_27) rfl (pc' := 28) rfl ?_
  refine o_cpA P (W := 0) (us := [(.long x0), (.long x0)]) (ow hw 107 rfl) (ow hw 110 rfl) (ow hw 108 rfl) (ow hw 109 rfl) A_p3 A_p2 (List.Mem.tail _ (List.Mem.head _)) (Or.inl ⟨rfl, rfl⟩) (by decide) (by decide) (by decide) (of_decide_eq_true rfl) (of_decide_eq_true rfl) rfl (by rw [hml]; rfl) (by decide) (Nat.le_of_eq rfl) (by decide) (hb hby de109_28) (pc' := 31) rfl ?_
  clear P; intro T h3 P K3 A'
  replace F_p0 := F_p0.keep K3 (ninS ne_p0_p2 nin0)
  replace F_p1 := F_p1.keep K3 (ninS ne_p1_p2 nin0)
  replace A_p3 := A_p3.keep K3 (ninS (Ne.symm ne_p2_p3) nin0)
  clear A_p2; have A_p2 : OArr Z h3 p2 .long [(.long x0), (.long x0), (.long x0), (.long 0), (.long 0), (.long 0), (.long 0), (.long 0), (.long 0), (.long 0), (.long 0), (.long 0), (.long 0), (.long 0), (.long 0), (.long 0)] := A'; clear A' K3
  refine o_aloadN P (hb hby de109_31) rfl rfl (pc' := 32) rfl ?_
  refine o_dup P (hb hby de109_32) rfl (pc' := 33) rfl ?_
  refine o_getF P (ow hw 25 rfl) Via.refl (F_p0.fld 1 rfl) (hb hby de109_33) (pc' := 36) rfl ?_
  clear P; intro T P
  refine o_iloadN P (hb hby de109_36) rfl (pc' := 37) rfl ?_
  refine o_iadd P (hb hby de109_37) (pc' := 38) rfl ?_
  show OG p e below m _ T 38 _ [(.int 3), (.ref p0)]
  refine o_putF P (v' := (.int 3)) (ty := .int) (ow hw 25 rfl) Via.refl (F_p0.fld 1 rfl) F_p0.exa (Or.inl (ow hw 26 rfl)) (ow hw 4 rfl) (by decide) rfl rfl (List.Mem.head _) (hb hby de109_38) (pc' := 41) rfl ?_
  clear P; intro T h4 P W4
  replace F_p1 := F_p1.oth W4 (Ne.symm ne_p0_p1)
  replace A_p2 := A_p2.oth W4 (Ne.symm ne_p0_p2)
  replace A_p3 := A_p3.oth W4 (Ne.symm ne_p0_p3)
  replace F_p0 : OObj Z h4 p0 kK [(kK, "keys", "[J", (.ref p2)), (kK, "size", "I", (.int 3)), (kK, "selection", kSd, .null)] := F_p0.put 1 rfl W4
  clear W4
  refine o_aloadN P (hb hby de109_41) rfl rfl (pc' := 42) rfl ?_
  refine o_aconstNull P (hb hby de109_42) (pc' := 43) rfl ?_
  refine o_putF P (v' := .null) (ty := (.object kS)) (ow hw 27 rfl) Via.refl (F_p0.fld 2 rfl) F_p0.exa (Or.inl (ow hw 28 rfl)) (ow hw 4 rfl) (by decide) rfl rfl (List.Mem.head _) (hb hby de109_43) (pc' := 46) rfl ?_
  clear P; intro T h5 P W5
  replace F_p1 := F_p1.oth W5 (Ne.symm ne_p0_p1)
  replace A_p2 := A_p2.oth W5 (Ne.symm ne_p0_p2)
  replace A_p3 := A_p3.oth W5 (Ne.symm ne_p0_p3)
  replace F_p0 : OObj Z h5 p0 kK [(kK, "keys", "[J", (.ref p2)), (kK, "size", "I", (.int 3)), (kK, "selection", kSd, .null)] := F_p0.put 2 rfl W5
  clear W5
  exact o_ret0 P hret (hb hby de109_46) (by decide) (by decide) ⟨rfl, F_p0, A_p2, trivial⟩
theorem ef_ct_e133 (x0 : Addr) (x1 : Int32) (m : MethodId) : entryFrame m #[(.ref x0), (.int x1)] 4 = mkF m 0 #[.val (.ref x0), .val (.int x1), .unset, .unset] [] := by first | (simp [entryFrame, mkF, argsToLocals, o_catR, o_catN, o_catI, o_catJ, o_catD]; done) | rfl
theorem ct_e133 (l : Launch) (Z : State) (a0 : Array Value) (hw : OHw Z a0) (EL : List (String × Nat)) (n0 : Nat) (p0 : Addr) (p1 : Addr) (x0 : Int64) (od oz : Addr) (hg : OGp Z od oz) (h0 : Heap) (F_p0 : OObj Z h0 p0 kK [(kK, "keys", "[J", (.ref p1)), (kK, "size", "I", (.int 2)), (kK, "selection", kSd, .null)]) (A_p1 : OArr Z h0 p1 .long [(.long x0), (.long x0), (.long 0), (.long 0), (.long 0), (.long 0), (.long 0), (.long 0), (.long 0), (.long 0), (.long 0), (.long 0), (.long 0), (.long 0), (.long 0), (.long 0)]) (ne_p0_p1 : p0 ≠ p1) :
    OCt l Z a0 EL n0 (⟨kK, "ensureRoom", "(I)V"⟩ : MethodName) prog_11_method_7_code 4 none ({ frames := 0, cells := 0, slots := 0, locals := 0 } : Room) [] #[(.ref p0), (.int 3)] h0 [] (fun w vm h => w = none ∧ h = h0) := by
  refine OCt.body (plainFor_of_name pn_e6) (ef_ct_e133 p0 ((3 : Int32))) ?_
  intro p e s m below meth c T hby hml hret hnm hsh P
  refine o_iloadN P (hb hby de96_0) rfl (pc' := 1) rfl ?_
  refine o_ldcI P (ow hw 24 rfl) (hb hby de96_1) (pc' := 3) rfl ?_
  refine o_aloadN P (hb hby de96_3) rfl rfl (pc' := 4) rfl ?_
  refine o_getF P (ow hw 25 rfl) Via.refl (F_p0.fld 1 rfl) (hb hby de96_4) (pc' := 7) rfl ?_
  clear P; intro T P
  refine o_isub P (hb hby de96_7) (pc' := 8) rfl ?_
  show OG p e below m _ T 8 _ [(.int 2147483637), (.int 3)]
  refine o_icmp_le P (hb hby de96_8) (by decide) (pc' := 21) (by decide) (pcf := 11) rfl (fun _ => ?_) (fun q => absurd q (by decide))
  refine o_aloadN P (hb hby de96_21) rfl rfl (pc' := 22) rfl ?_
  refine o_getF P (ow hw 25 rfl) Via.refl (F_p0.fld 1 rfl) (hb hby de96_22) (pc' := 25) rfl ?_
  clear P; intro T P
  refine o_iloadN P (hb hby de96_25) rfl (pc' := 26) rfl ?_
  refine o_iadd P (hb hby de96_26) (pc' := 27) rfl ?_
  show OG p e below m _ T 27 _ [(.int 5)]
  refine o_istoreN P (hb hby de96_27) (L' := #[.val (.ref p0), .val (.int 3), .val (.int 5), .unset]) rfl (pc' := 28) rfl ?_
  refine o_iloadN P (hb hby de96_28) rfl (pc' := 29) rfl ?_
  refine o_aloadN P (hb hby de96_29) rfl rfl (pc' := 30) rfl ?_
  refine o_getF P (ow hw 13 rfl) Via.refl (F_p0.fld 0 rfl) (hb hby de96_30) (pc' := 33) rfl ?_
  clear P; intro T P
  refine o_arrlen P A_p1 (hb hby de96_33) (n := (16 : Int32)) rfl (pc' := 34) rfl ?_
  refine o_icmp_le P (hb hby de96_34) (by decide) (pc' := 76) (by decide) (pcf := 37) rfl (fun _ => ?_) (fun q => absurd q (by decide))
  exact o_ret0 P hret (hb hby de96_76) (by decide) (by decide) ⟨rfl, rfl⟩
theorem ef_ct_e134 (x0 : Addr) (x1 : Addr) (m : MethodId) : entryFrame m #[(.ref x0), (.ref x1)] 3 = mkF m 0 #[.val (.ref x0), .val (.ref x1), .unset] [] := by first | (simp [entryFrame, mkF, argsToLocals, o_catR, o_catN, o_catI, o_catJ, o_catD]; done) | rfl
theorem ct_e134 (l : Launch) (Z : State) (a0 : Array Value) (hw : OHw Z a0) (EL : List (String × Nat)) (n0 : Nat) (p0 : Addr) (p1 : Addr) (p2 : Addr) (p3 : Addr) (x0 : Int64) (od oz : Addr) (hg : OGp Z od oz) (h0 : Heap) (F_p0 : OObj Z h0 p0 kK [(kK, "keys", "[J", (.ref p2)), (kK, "size", "I", (.int 2)), (kK, "selection", kSd, .null)]) (F_p1 : OObj Z h0 p1 kK [(kK, "keys", "[J", (.ref p3)), (kK, "size", "I", (.int 3)), (kK, "selection", kSd, .null)]) (A_p2 : OArr Z h0 p2 .long [(.long x0), (.long x0), (.long 0), (.long 0), (.long 0), (.long 0), (.long 0), (.long 0), (.long 0), (.long 0), (.long 0), (.long 0), (.long 0), (.long 0), (.long 0), (.long 0)]) (A_p3 : OArr Z h0 p3 .long [(.long x0), (.long x0), (.long x0), (.long 0), (.long 0), (.long 0), (.long 0), (.long 0), (.long 0), (.long 0), (.long 0), (.long 0), (.long 0), (.long 0), (.long 0), (.long 0)]) (ne_p0_p1 : p0 ≠ p1) (ne_p0_p2 : p0 ≠ p2) (ne_p0_p3 : p0 ≠ p3) (ne_p1_p2 : p1 ≠ p2) (ne_p1_p3 : p1 ≠ p3) (ne_p2_p3 : p2 ≠ p3) :
    OCt l Z a0 EL n0 (⟨kK, "addAll", "(Lcom/example/centile/centile/function/Keys;)V"⟩ : MethodName) prog_11_method_5_code 3 none ({ frames := 1, cells := 0, slots := 0, locals := 24 } : Room) [] #[(.ref p0), (.ref p1)] h0 [p0, p2] (fun w vm h => w = none ∧ OObj Z h p0 kK [(kK, "keys", "[J", (.ref p2)), (kK, "size", "I", (.int 5)), (kK, "selection", kSd, .null)] ∧ OArr Z h p2 .long [(.long x0), (.long x0), (.long x0), (.long x0), (.long x0), (.long 0), (.long 0), (.long 0), (.long 0), (.long 0), (.long 0), (.long 0), (.long 0), (.long 0), (.long 0), (.long 0)] ∧ True) := by
  refine OCt.body (plainFor_of_name pn_e6) (ef_ct_e134 p0 p1) ?_
  intro p e s m below meth c T hby hml hret hnm hsh P
  refine o_aloadN P (hb hby de109_0) rfl rfl (pc' := 1) rfl ?_
  refine o_getF P (ow hw 25 rfl) Via.refl (F_p1.fld 1 rfl) (hb hby de109_1) (pc' := 4) rfl ?_
  clear P; intro T P
  refine o_istoreN P (hb hby de109_4) (L' := #[.val (.ref p0), .val (.ref p1), .val (.int 3)]) rfl (pc' := 5) rfl ?_
  refine o_iloadN P (hb hby de109_5) rfl (pc' := 6) rfl ?_
  refine o_if_le P (hb hby de109_6) (by decide) (pc' := 46) (by decide) (pcf := 9) rfl (fun q => absurd (by decide) q) (fun _ => ?_)
  refine o_aloadN P (hb hby de109_9) rfl rfl (pc' := 10) rfl ?_
  refine o_iloadN P (hb hby de109_10) rfl (pc' := 11) rfl ?_
  refine o_callQ P (W := 0) (a := p0) (ow hw 20 rfl) (ow hw 21 rfl) (ow hw 4 rfl) (ow hw 22 rfl) (ow hw 5 rfl) (ow hw 23 rfl) (by decide) F_p0.exa (ct_e133 l Z a0 hw EL n0 p0 p2 x0 od oz hg h0 F_p0 A_p2 ne_p0_p2) o_sf0 (by rw [hml]; rfl) (by decide) (by decide) (argsL := [(.int 3)]) (rest := []) (lenOf pd_1 rfl) rfl rfl (Nat.le_of_eq rfl) (hb hby de109_11) (pc' := 14) rfl (by decide) (by decide) ?_
  clear P; intro T h2 v2 P K2 q2
  obtain ⟨rfl, rfl⟩ := q2; clear K2
  show OG p e below m _ T 14 _ []
  refine o_aloadN P (hb hby de109_14) rfl rfl (pc' := 15) rfl ?_
  refine o_getF P (ow hw 13 rfl) Via.refl (F_p1.fld 0 rfl) (hb hby de109_15) (pc' := 18) rfl ?_
  clear P; intro T P
  refine o_iconst P (0 : Int32) (hb hby de109_18) rfl (pc' := 19) rfl ?_
  refine o_aloadN P (hb hby de109_19) rfl rfl (pc' := 20) rfl ?_
  refine o_getF P (ow hw 13 rfl) Via.refl (F_p0.fld 0 rfl) (hb hby de109_20) (pc' := 23) rfl ?_
  clear P; intro T P
  refine o_aloadN P (hb hby de109_23) rfl rfl (pc' := 24) rfl ?_
  refine o_getF P (ow hw 25 rfl) Via.refl (F_p0.fld 1 rfl) (hb hby de109_24) (pc' := 27) rfl ?_
  clear P; intro T P
  refine o_iloadN P (hb hby de109_27) rfl (pc' := 28) rfl ?_
  refine o_cpA P (W := 0) (us := [(.long x0), (.long x0), (.long x0)]) (ow hw 107 rfl) (ow hw 110 rfl) (ow hw 108 rfl) (ow hw 109 rfl) A_p3 A_p2 (List.Mem.tail _ (List.Mem.head _)) (Or.inl ⟨rfl, rfl⟩) (by decide) (by decide) (by decide) (of_decide_eq_true rfl) (of_decide_eq_true rfl) rfl (by rw [hml]; rfl) (by decide) (Nat.le_of_eq rfl) (by decide) (hb hby de109_28) (pc' := 31) rfl ?_
  clear P; intro T h3 P K3 A'
  replace F_p0 := F_p0.keep K3 (ninS ne_p0_p2 nin0)
  replace F_p1 := F_p1.keep K3 (ninS ne_p1_p2 nin0)
  replace A_p3 := A_p3.keep K3 (ninS (Ne.symm ne_p2_p3) nin0)
  clear A_p2; have A_p2 : OArr Z h3 p2 .long [(.long x0), (.long x0), (.long x0), (.long x0), (.long x0), (.long 0), (.long 0), (.long 0), (.long 0), (.long 0), (.long 0), (.long 0), (.long 0), (.long 0), (.long 0), (.long 0)] := A'; clear A' K3
  refine o_aloadN P (hb hby de109_31) rfl rfl (pc' := 32) rfl ?_
  refine o_dup P (hb hby de109_32) rfl (pc' := 33) rfl ?_
  refine o_getF P (ow hw 25 rfl) Via.refl (F_p0.fld 1 rfl) (hb hby de109_33) (pc' := 36) rfl ?_
  clear P; intro T P
  refine o_iloadN P (hb hby de109_36) rfl (pc' := 37) rfl ?_
  refine o_iadd P (hb hby de109_37) (pc' := 38) rfl ?_
  show OG p e below m _ T 38 _ [(.int 5), (.ref p0)]
  refine o_putF P (v' := (.int 5)) (ty := .int) (ow hw 25 rfl) Via.refl (F_p0.fld 1 rfl) F_p0.exa (Or.inl (ow hw 26 rfl)) (ow hw 4 rfl) (by decide) rfl rfl (List.Mem.head _) (hb hby de109_38) (pc' := 41) rfl ?_
  clear P; intro T h4 P W4
  replace F_p1 := F_p1.oth W4 (Ne.symm ne_p0_p1)
  replace A_p2 := A_p2.oth W4 (Ne.symm ne_p0_p2)
  replace A_p3 := A_p3.oth W4 (Ne.symm ne_p0_p3)
  replace F_p0 : OObj Z h4 p0 kK [(kK, "keys", "[J", (.ref p2)), (kK, "size", "I", (.int 5)), (kK, "selection", kSd, .null)] := F_p0.put 1 rfl W4
  clear W4
  refine o_aloadN P (hb hby de109_41) rfl rfl (pc' := 42) rfl ?_
  refine o_aconstNull P (hb hby de109_42) (pc' := 43) rfl ?_
  refine o_putF P (v' := .null) (ty := (.object kS)) (ow hw 27 rfl) Via.refl (F_p0.fld 2 rfl) F_p0.exa (Or.inl (ow hw 28 rfl)) (ow hw 4 rfl) (by decide) rfl rfl (List.Mem.head _) (hb hby de109_43) (pc' := 46) rfl ?_
  clear P; intro T h5 P W5
  replace F_p1 := F_p1.oth W5 (Ne.symm ne_p0_p1)
  replace A_p2 := A_p2.oth W5 (Ne.symm ne_p0_p2)
  replace A_p3 := A_p3.oth W5 (Ne.symm ne_p0_p3)
  replace F_p0 : OObj Z h5 p0 kK [(kK, "keys", "[J", (.ref p2)), (kK, "size", "I", (.int 5)), (kK, "selection", kSd, .null)] := F_p0.put 2 rfl W5
  clear W5
  exact o_ret0 P hret (hb hby de109_46) (by decide) (by decide) ⟨rfl, F_p0, A_p2, trivial⟩
theorem ef_ct_e135 (x0 : Addr) (x1 : Int32) (m : MethodId) : entryFrame m #[(.ref x0), (.int x1)] 4 = mkF m 0 #[.val (.ref x0), .val (.int x1), .unset, .unset] [] := by first | (simp [entryFrame, mkF, argsToLocals, o_catR, o_catN, o_catI, o_catJ, o_catD]; done) | rfl
theorem ct_e135 (l : Launch) (Z : State) (a0 : Array Value) (hw : OHw Z a0) (EL : List (String × Nat)) (n0 : Nat) (p0 : Addr) (p1 : Addr) (x0 : Int64) (od oz : Addr) (hg : OGp Z od oz) (h0 : Heap) (F_p0 : OObj Z h0 p0 kK [(kK, "keys", "[J", (.ref p1)), (kK, "size", "I", (.int 3)), (kK, "selection", kSd, .null)]) (A_p1 : OArr Z h0 p1 .long [(.long x0), (.long x0), (.long x0), (.long 0), (.long 0), (.long 0), (.long 0), (.long 0), (.long 0), (.long 0), (.long 0), (.long 0), (.long 0), (.long 0), (.long 0), (.long 0)]) (ne_p0_p1 : p0 ≠ p1) :
    OCt l Z a0 EL n0 (⟨kK, "ensureRoom", "(I)V"⟩ : MethodName) prog_11_method_7_code 4 none ({ frames := 0, cells := 0, slots := 0, locals := 0 } : Room) [] #[(.ref p0), (.int 5)] h0 [] (fun w vm h => w = none ∧ h = h0) := by
  refine OCt.body (plainFor_of_name pn_e6) (ef_ct_e135 p0 ((5 : Int32))) ?_
  intro p e s m below meth c T hby hml hret hnm hsh P
  refine o_iloadN P (hb hby de96_0) rfl (pc' := 1) rfl ?_
  refine o_ldcI P (ow hw 24 rfl) (hb hby de96_1) (pc' := 3) rfl ?_
  refine o_aloadN P (hb hby de96_3) rfl rfl (pc' := 4) rfl ?_
  refine o_getF P (ow hw 25 rfl) Via.refl (F_p0.fld 1 rfl) (hb hby de96_4) (pc' := 7) rfl ?_
  clear P; intro T P
  refine o_isub P (hb hby de96_7) (pc' := 8) rfl ?_
  show OG p e below m _ T 8 _ [(.int 2147483636), (.int 5)]
  refine o_icmp_le P (hb hby de96_8) (by decide) (pc' := 21) (by decide) (pcf := 11) rfl (fun _ => ?_) (fun q => absurd q (by decide))
  refine o_aloadN P (hb hby de96_21) rfl rfl (pc' := 22) rfl ?_
  refine o_getF P (ow hw 25 rfl) Via.refl (F_p0.fld 1 rfl) (hb hby de96_22) (pc' := 25) rfl ?_
  clear P; intro T P
  refine o_iloadN P (hb hby de96_25) rfl (pc' := 26) rfl ?_
  refine o_iadd P (hb hby de96_26) (pc' := 27) rfl ?_
  show OG p e below m _ T 27 _ [(.int 8)]
  refine o_istoreN P (hb hby de96_27) (L' := #[.val (.ref p0), .val (.int 5), .val (.int 8), .unset]) rfl (pc' := 28) rfl ?_
  refine o_iloadN P (hb hby de96_28) rfl (pc' := 29) rfl ?_
  refine o_aloadN P (hb hby de96_29) rfl rfl (pc' := 30) rfl ?_
  refine o_getF P (ow hw 13 rfl) Via.refl (F_p0.fld 0 rfl) (hb hby de96_30) (pc' := 33) rfl ?_
  clear P; intro T P
  refine o_arrlen P A_p1 (hb hby de96_33) (n := (16 : Int32)) rfl (pc' := 34) rfl ?_
  refine o_icmp_le P (hb hby de96_34) (by decide) (pc' := 76) (by decide) (pcf := 37) rfl (fun _ => ?_) (fun q => absurd q (by decide))
  exact o_ret0 P hret (hb hby de96_76) (by decide) (by decide) ⟨rfl, rfl⟩
theorem ef_ct_e136 (x0 : Addr) (x1 : Addr) (m : MethodId) : entryFrame m #[(.ref x0), (.ref x1)] 3 = mkF m 0 #[.val (.ref x0), .val (.ref x1), .unset] [] := by first | (simp [entryFrame, mkF, argsToLocals, o_catR, o_catN, o_catI, o_catJ, o_catD]; done) | rfl
theorem ct_e136 (l : Launch) (Z : State) (a0 : Array Value) (hw : OHw Z a0) (EL : List (String × Nat)) (n0 : Nat) (p0 : Addr) (p1 : Addr) (p2 : Addr) (p3 : Addr) (x0 : Int64) (od oz : Addr) (hg : OGp Z od oz) (h0 : Heap) (F_p0 : OObj Z h0 p0 kK [(kK, "keys", "[J", (.ref p2)), (kK, "size", "I", (.int 3)), (kK, "selection", kSd, .null)]) (F_p1 : OObj Z h0 p1 kK [(kK, "keys", "[J", (.ref p3)), (kK, "size", "I", (.int 5)), (kK, "selection", kSd, .null)]) (A_p2 : OArr Z h0 p2 .long [(.long x0), (.long x0), (.long x0), (.long 0), (.long 0), (.long 0), (.long 0), (.long 0), (.long 0), (.long 0), (.long 0), (.long 0), (.long 0), (.long 0), (.long 0), (.long 0)]) (A_p3 : OArr Z h0 p3 .long [(.long x0), (.long x0), (.long x0), (.long x0), (.long x0), (.long 0), (.long 0), (.long 0), (.long 0), (.long 0), (.long 0), (.long 0), (.long 0), (.long 0), (.long 0), (.long 0)]) (ne_p0_p1 : p0 ≠ p1) (ne_p0_p2 : p0 ≠ p2) (ne_p0_p3 : p0 ≠ p3) (ne_p1_p2 : p1 ≠ p2) (ne_p1_p3 : p1 ≠ p3) (ne_p2_p3 : p2 ≠ p3) :
    OCt l Z a0 EL n0 (⟨kK, "addAll", "(Lcom/example/centile/centile/function/Keys;)V"⟩ : MethodName) prog_11_method_5_code 3 none ({ frames := 1, cells := 0, slots := 0, locals := 24 } : Room) [] #[(.ref p0), (.ref p1)] h0 [p0, p2] (fun w vm h => w = none ∧ OObj Z h p0 kK [(kK, "keys", "[J", (.ref p2)), (kK, "size", "I", (.int 8)), (kK, "selection", kSd, .null)] ∧ OArr Z h p2 .long [(.long x0), (.long x0), (.long x0), (.long x0), (.long x0), (.long x0), (.long x0), (.long x0), (.long 0), (.long 0), (.long 0), (.long 0), (.long 0), (.long 0), (.long 0), (.long 0)] ∧ True) := by
  refine OCt.body (plainFor_of_name pn_e6) (ef_ct_e136 p0 p1) ?_
  intro p e s m below meth c T hby hml hret hnm hsh P
  refine o_aloadN P (hb hby de109_0) rfl rfl (pc' := 1) rfl ?_
  refine o_getF P (ow hw 25 rfl) Via.refl (F_p1.fld 1 rfl) (hb hby de109_1) (pc' := 4) rfl ?_
  clear P; intro T P
  refine o_istoreN P (hb hby de109_4) (L' := #[.val (.ref p0), .val (.ref p1), .val (.int 5)]) rfl (pc' := 5) rfl ?_
  refine o_iloadN P (hb hby de109_5) rfl (pc' := 6) rfl ?_
  refine o_if_le P (hb hby de109_6) (by decide) (pc' := 46) (by decide) (pcf := 9) rfl (fun q => absurd (by decide) q) (fun _ => ?_)
  refine o_aloadN P (hb hby de109_9) rfl rfl (pc' := 10) rfl ?_
  refine o_iloadN P (hb hby de109_10) rfl (pc' := 11) rfl ?_
  refine o_callQ P (W := 0) (a := p0) (ow hw 20 rfl) (ow hw 21 rfl) (ow hw 4 rfl) (ow hw 22 rfl) (ow hw 5 rfl) (ow hw 23 rfl) (by decide) F_p0.exa (ct_e135 l Z a0 hw EL n0 p0 p2 x0 od oz hg h0 F_p0 A_p2 ne_p0_p2) o_sf0 (by rw [hml]; rfl) (by decide) (by decide) (argsL := [(.int 5)]) (rest := []) (lenOf pd_1 rfl) rfl rfl (Nat.le_of_eq rfl) (hb hby de109_11) (pc' := 14) rfl (by decide) (by decide) ?_
  clear P; intro T h2 v2 P K2 q2
  obtain ⟨rfl, rfl⟩ := q2; clear K2
  show OG p e below m _ T 14 _ []
  refine o_aloadN P (hb hby de109_14) rfl rfl (pc' := 15) rfl ?_
  refine o_getF P (ow hw 13 rfl) Via.refl (F_p1.fld 0 rfl) (hb hby de109_15) (pc' := 18) rfl ?_
  clear P; intro T P
  refine o_iconst P (0 : Int32) (hb hby de109_18) rfl (pc' := 19) rfl ?_
  refine o_aloadN P (hb hby de109_19) rfl rfl (pc' := 20) rfl ?_
  refine o_getF P (ow hw 13 rfl) Via.refl (F_p0.fld 0 rfl) (hb hby de109_20) (pc' := 23) rfl ?_
  clear P; intro T P
  refine o_aloadN P (hb hby de109_23) rfl rfl (pc' := 24) rfl ?_
  refine o_getF P (ow hw 25 rfl) Via.refl (F_p0.fld 1 rfl) (hb hby de109_24) (pc' := 27) rfl ?_
  clear P; intro T P
  refine o_iloadN P (hb hby de109_27) rfl (pc' := 28) rfl ?_
  refine o_cpA P (W := 0) (us := [(.long x0), (.long x0), (.long x0), (.long x0), (.long x0)]) (ow hw 107 rfl) (ow hw 110 rfl) (ow hw 108 rfl) (ow hw 109 rfl) A_p3 A_p2 (List.Mem.tail _ (List.Mem.head _)) (Or.inl ⟨rfl, rfl⟩) (by decide) (by decide) (by decide) (of_decide_eq_true rfl) (of_decide_eq_true rfl) rfl (by rw [hml]; rfl) (by decide) (Nat.le_of_eq rfl) (by decide) (hb hby de109_28) (pc' := 31) rfl ?_
  clear P; intro T h3 P K3 A'
  replace F_p0 := F_p0.keep K3 (ninS ne_p0_p2 nin0)
  replace F_p1 := F_p1.keep K3 (ninS ne_p1_p2 nin0)
  replace A_p3 := A_p3.keep K3 (ninS (Ne.symm ne_p2_p3) nin0)
  clear A_p2; have A_p2 : OArr Z h3 p2 .long [(.long x0), (.long x0), (.long x0), (.long x0), (.long x0), (.long x0), (.long x0), (.long x0), (.long 0), (.long 0), (.long 0), (.long 0), (.long 0), (.long 0), (.long 0), (.long 0)] := A'; clear A' K3
  refine o_aloadN P (hb hby de109_31) rfl rfl (pc' := 32) rfl ?_
  refine o_dup P (hb hby de109_32) rfl (pc' := 33) rfl ?_
  refine o_getF P (ow hw 25 rfl) Via.refl (F_p0.fld 1 rfl) (hb hby de109_33) (pc' := 36) rfl ?_
  clear P; intro T P
  refine o_iloadN P (hb hby de109_36) rfl (pc' := 37) rfl ?_
  refine o_iadd P (hb hby de109_37) (pc' := 38) rfl ?_
  show OG p e below m _ T 38 _ [(.int 8), (.ref p0)]
  refine o_putF P (v' := (.int 8)) (ty := .int) (ow hw 25 rfl) Via.refl (F_p0.fld 1 rfl) F_p0.exa (Or.inl (ow hw 26 rfl)) (ow hw 4 rfl) (by decide) rfl rfl (List.Mem.head _) (hb hby de109_38) (pc' := 41) rfl ?_
  clear P; intro T h4 P W4
  replace F_p1 := F_p1.oth W4 (Ne.symm ne_p0_p1)
  replace A_p2 := A_p2.oth W4 (Ne.symm ne_p0_p2)
  replace A_p3 := A_p3.oth W4 (Ne.symm ne_p0_p3)
  replace F_p0 : OObj Z h4 p0 kK [(kK, "keys", "[J", (.ref p2)), (kK, "size", "I", (.int 8)), (kK, "selection", kSd, .null)] := F_p0.put 1 rfl W4
  clear W4
  refine o_aloadN P (hb hby de109_41) rfl rfl (pc' := 42) rfl ?_
  refine o_aconstNull P (hb hby de109_42) (pc' := 43) rfl ?_
  refine o_putF P (v' := .null) (ty := (.object kS)) (ow hw 27 rfl) Via.refl (F_p0.fld 2 rfl) F_p0.exa (Or.inl (ow hw 28 rfl)) (ow hw 4 rfl) (by decide) rfl rfl (List.Mem.head _) (hb hby de109_43) (pc' := 46) rfl ?_
  clear P; intro T h5 P W5
  replace F_p1 := F_p1.oth W5 (Ne.symm ne_p0_p1)
  replace A_p2 := A_p2.oth W5 (Ne.symm ne_p0_p2)
  replace A_p3 := A_p3.oth W5 (Ne.symm ne_p0_p3)
  replace F_p0 : OObj Z h5 p0 kK [(kK, "keys", "[J", (.ref p2)), (kK, "size", "I", (.int 8)), (kK, "selection", kSd, .null)] := F_p0.put 2 rfl W5
  clear W5
  exact o_ret0 P hret (hb hby de109_46) (by decide) (by decide) ⟨rfl, F_p0, A_p2, trivial⟩
theorem pn_S : plainName "java/lang/String" = true := by first | (simp [plainName, overriddenIn]; done) | decide +kernel
theorem pn_L1 : plainName "java/lang/StringLatin1" = true := by first | (simp [plainName, overriddenIn]; done) | decide +kernel
theorem dsh_0 : decode jdk_42_method_152_code 0 = .ok (.getstatic 38, 3) := by decide +kernel
theorem dsh_3 : decode jdk_42_method_152_code 3 = .ok (.ifCond .eq 10, 3) := by decide +kernel
theorem dsh_6 : decode jdk_42_method_152_code 6 = .ok (.aload_n 0, 1) := by decide +kernel
theorem dsh_7 : decode jdk_42_method_152_code 7 = .ok (.getfield 15, 3) := by decide +kernel
theorem dsh_10 : decode jdk_42_method_152_code 10 = .ok (.goto 4, 3) := by decide +kernel
theorem dsh_14 : decode jdk_42_method_152_code 14 = .ok (.ireturn, 1) := by decide +kernel
theorem ef_sh (x0 : Addr) (m : MethodId) : entryFrame m #[(.ref x0)] 1 = mkF m 0 #[.val (.ref x0)] [] := by first | (simp [entryFrame, mkF, argsToLocals, o_catR, o_catN, o_catI, o_catJ, o_catD]; done) | rfl
theorem ct_coderM (l : Launch) (Z : State) (a0 : Array Value) (hw : OHw Z a0) (EL : List (String × Nat)) (n0 : Nat) (a x : Addr) (cv : Int32) (hcs : Sta Z Z.heap "java/lang/String" "COMPACT_STRINGS" "Z" (.int cv)) (hcv : ¬ cv = 0) (h0 : Heap) (F_a : OObj Z h0 a "java/lang/String" [("java/lang/String", "value", "[B", (.ref x)), ("java/lang/String", "coder", "B", (.int 0))]) :
    OCt l Z a0 EL n0 (⟨"java/lang/String", "coder", "()B"⟩ : MethodName) jdk_42_method_152_code 1 (some .byte) ({ frames := 0, cells := 0, slots := 0, locals := 0 } : Room) [] #[(.ref a)] h0 [] (fun w vm h => w = some (.int 0) ∧ h = h0) := by
  refine OCt.body (plainFor_of_name pn_S) (ef_sh a) ?_
  intro p e s m below meth c T hby hml hret hnm hsh P
  refine o_getS P (ow hw 144 rfl) Via.refl hcs (hb hby dsh_0) (pc' := 3) rfl ?_
  clear P; intro T P
  refine o_if_eq P (hb hby dsh_3) (by decide) (pc' := 13) (by decide) (pcf := 6) rfl (fun q => absurd q hcv) (fun _ => ?_)
  refine o_aloadN P (hb hby dsh_6) rfl rfl (pc' := 7) rfl ?_
  refine o_getF P (ow hw 145 rfl) Via.refl (F_a.fld 1 rfl) (hb hby dsh_7) (pc' := 10) rfl ?_
  clear P; intro T P
  refine o_goto P (hb hby dsh_10) (by decide) (pc' := 14) (by decide) ?_
  exact o_retI P hret (by simp) rfl (hb hby dsh_14) (by decide) (by decide) ⟨rfl, rfl⟩
theorem dsm9_0 : decode jdk_42_method_54_code 0 = .ok (.aload_n 0, 1) := by decide +kernel
theorem dsm9_1 : decode jdk_42_method_54_code 1 = .ok (.getfield 9, 3) := by decide +kernel
theorem dsm9_4 : decode jdk_42_method_54_code 4 = .ok (.arraylength, 1) := by decide +kernel
theorem dsm9_5 : decode jdk_42_method_54_code 5 = .ok (.aload_n 0, 1) := by decide +kernel
theorem dsm9_6 : decode jdk_42_method_54_code 6 = .ok (.invokevirtual 335, 3) := by decide +kernel
theorem dsm9_9 : decode jdk_42_method_54_code 9 = .ok (.ishr, 1) := by decide +kernel
theorem dsm9_10 : decode jdk_42_method_54_code 10 = .ok (.ireturn, 1) := by decide +kernel
theorem ef_sm9 (x0 : Addr) (m : MethodId) : entryFrame m #[(.ref x0)] 1 = mkF m 0 #[.val (.ref x0)] [] := by first | (simp [entryFrame, mkF, argsToLocals, o_catR, o_catN, o_catI, o_catJ, o_catD]; done) | rfl
theorem ct_len (l : Launch) (Z : State) (a0 : Array Value) (hw : OHw Z a0) (EL : List (String × Nat)) (n0 : Nat) (a x : Addr) (us : List Int32) (cv : Int32) (hcs : Sta Z Z.heap "java/lang/String" "COMPACT_STRINGS" "Z" (.int cv)) (hcv : ¬ cv = 0) (h0 : Heap) (G_a : OStr Z h0 a x (och us)) :
    OCt l Z a0 EL n0 (⟨"java/lang/String", "length", "()I"⟩ : MethodName) jdk_42_method_54_code 1 (some .int) ({ frames := 1, cells := 0, slots := 0, locals := 13 } : Room) [] #[(.ref a)] h0 [] (fun w vm h => w = some (.int us.length.toInt32) ∧ h = h0) := by
  refine OCt.body (plainFor_of_name pn_S) (ef_sm9 a) ?_
  intro p e s m below meth c T hby hml hret hnm hsh P
  obtain ⟨F_a, A_x⟩ := G_a
  refine o_aloadN P (hb hby dsm9_0) rfl rfl (pc' := 1) rfl ?_
  refine o_getF P (ow hw 138 rfl) Via.refl (F_a.fld 0 rfl) (hb hby dsm9_1) (pc' := 4) rfl ?_
  clear P; intro T P
  refine o_arrlen P A_x (hb hby dsm9_4) (n := us.length.toInt32) (by simp) (pc' := 5) rfl ?_
  refine o_aloadN P (hb hby dsm9_5) rfl rfl (pc' := 6) rfl ?_
  refine o_callV P (W := 1) (a := a) (ow hw 139 rfl) (ow hw 140 rfl) (o_nfSl (ow hw 142 rfl)) (ow hw 142 rfl) (ow hw 141 rfl) (ow hw 125 rfl) (ow hw 143 rfl) (by decide) F_a.exa (ct_coderM l Z a0 hw EL n0 a x cv hcs hcv h0 F_a) o_sf0 (by rw [hml]; rfl) (by decide) (by decide) (argsL := []) (rest := [(.int us.length.toInt32)]) (lenOf pd_12 rfl) rfl rfl (Nat.le_of_eq rfl) (hb hby dsm9_6) (pc' := 9) rfl (by decide) (by decide) ?_
  clear P; intro T h1 v1 P K1 q1
  obtain ⟨rfl, rfl⟩ := q1; clear K1
  show OG p e below m _ T 9 _ [(.int 0), (.int us.length.toInt32)]
  refine o_ishr P (hb hby dsm9_9) (pc' := 10) rfl ?_
  rw [show us.length.toInt32 >>> ((0 : Int32) &&& 31) = us.length.toInt32 from by simp]
  exact o_retI P hret (by simp) rfl (hb hby dsm9_10) (by decide) (by decide) ⟨rfl, rfl⟩
theorem dsa_0 : decode jdk_42_method_154_code 0 = .ok (.getstatic 38, 3) := by decide +kernel
theorem dsa_3 : decode jdk_42_method_154_code 3 = .ok (.ifCond .eq 14, 3) := by decide +kernel
theorem dsa_6 : decode jdk_42_method_154_code 6 = .ok (.aload_n 0, 1) := by decide +kernel
theorem dsa_7 : decode jdk_42_method_154_code 7 = .ok (.getfield 15, 3) := by decide +kernel
theorem dsa_10 : decode jdk_42_method_154_code 10 = .ok (.ifCond .ne 7, 3) := by decide +kernel
theorem dsa_13 : decode jdk_42_method_154_code 13 = .ok (.iconst 1, 1) := by decide +kernel
theorem dsa_14 : decode jdk_42_method_154_code 14 = .ok (.goto 4, 3) := by decide +kernel
theorem dsa_18 : decode jdk_42_method_154_code 18 = .ok (.ireturn, 1) := by decide +kernel
theorem ef_sa (x0 : Addr) (m : MethodId) : entryFrame m #[(.ref x0)] 1 = mkF m 0 #[.val (.ref x0)] [] := by first | (simp [entryFrame, mkF, argsToLocals, o_catR, o_catN, o_catI, o_catJ, o_catD]; done) | rfl
theorem ct_isLat (l : Launch) (Z : State) (a0 : Array Value) (hw : OHw Z a0) (EL : List (String × Nat)) (n0 : Nat) (a x : Addr) (cv : Int32) (hcs : Sta Z Z.heap "java/lang/String" "COMPACT_STRINGS" "Z" (.int cv)) (hcv : ¬ cv = 0) (h0 : Heap) (F_a : OObj Z h0 a "java/lang/String" [("java/lang/String", "value", "[B", (.ref x)), ("java/lang/String", "coder", "B", (.int 0))]) :
    OCt l Z a0 EL n0 (⟨"java/lang/String", "isLatin1", "()Z"⟩ : MethodName) jdk_42_method_154_code 1 (some .boolean) ({ frames := 0, cells := 0, slots := 0, locals := 0 } : Room) [] #[(.ref a)] h0 [] (fun w vm h => w = some (.int 1) ∧ h = h0) := by
  refine OCt.body (plainFor_of_name pn_S) (ef_sa a) ?_
  intro p e s m below meth c T hby hml hret hnm hsh P
  refine o_getS P (ow hw 144 rfl) Via.refl hcs (hb hby dsa_0) (pc' := 3) rfl ?_
  clear P; intro T P
  refine o_if_eq P (hb hby dsa_3) (by decide) (pc' := 17) (by decide) (pcf := 6) rfl (fun q => absurd q hcv) (fun _ => ?_)
  refine o_aloadN P (hb hby dsa_6) rfl rfl (pc' := 7) rfl ?_
  refine o_getF P (ow hw 145 rfl) Via.refl (F_a.fld 1 rfl) (hb hby dsa_7) (pc' := 10) rfl ?_
  clear P; intro T P
  refine o_if_ne P (hb hby dsa_10) (by decide) (pc' := 17) (by decide) (pcf := 13) rfl (fun q => absurd (by decide) q) (fun _ => ?_)
  refine o_iconst P (1 : Int32) (hb hby dsa_13) rfl (pc' := 14) rfl ?_
  refine o_goto P (hb hby dsa_14) (by decide) (pc' := 18) (by decide) ?_
  exact o_retI P hret (by simp) rfl (hb hby dsa_18) (by decide) (by decide) ⟨rfl, rfl⟩
theorem pn_P : plainName "jdk/internal/util/Preconditions" = true := by first | (simp [plainName, overriddenIn]; done) | decide +kernel
theorem dsb_0 : decode jdk_41_method_11_code 0 = .ok (.iload_n 0, 1) := by decide +kernel
theorem dsb_1 : decode jdk_41_method_11_code 1 = .ok (.ifCond .lt 8, 3) := by decide +kernel
theorem dsb_4 : decode jdk_41_method_11_code 4 = .ok (.iload_n 0, 1) := by decide +kernel
theorem dsb_5 : decode jdk_41_method_11_code 5 = .ok (.iload_n 1, 1) := by decide +kernel
theorem dsb_6 : decode jdk_41_method_11_code 6 = .ok (.if_icmp .lt 10, 3) := by decide +kernel
theorem dsb_16 : decode jdk_41_method_11_code 16 = .ok (.iload_n 0, 1) := by decide +kernel
theorem dsb_17 : decode jdk_41_method_11_code 17 = .ok (.ireturn, 1) := by decide +kernel
theorem ef_sb (i n : Int32) (v : Value) (hv : v.category = 1) (m : MethodId) : entryFrame m #[.int i, .int n, v] 3 = mkF m 0 #[.val (.int i), .val (.int n), .val v] [] := by first | (simp [entryFrame, mkF, argsToLocals, o_catI, hv]; done) | rfl
theorem ct_pcI (l : Launch) (Z : State) (a0 : Array Value) (hw : OHw Z a0) (EL : List (String × Nat)) (n0 : Nat) (i n : Int32) (fv : Value) (hfr : fv.isRef = true) (hi0 : ¬ i < 0) (hin : i < n) (h0 : Heap) :
    OCt l Z a0 EL n0 (⟨"jdk/internal/util/Preconditions", "checkIndex", "(IILjava/util/function/BiFunction;)I"⟩ : MethodName) jdk_41_method_11_code 3 (some .int) ({ frames := 0, cells := 0, slots := 0, locals := 0 } : Room) [] #[(.int i), (.int n), fv] h0 [] (fun w vm h => w = some (.int i) ∧ h = h0) := by
  refine OCt.body (plainFor_of_name pn_P) (ef_sb i n fv (Jvm.Free.XT.cat1 hfr)) ?_
  intro p e s m below meth c T hby hml hret hnm hsh P
  refine o_iloadN P (hb hby dsb_0) rfl (pc' := 1) rfl ?_
  refine o_if_lt P (hb hby dsb_1) (by decide) (pc' := 9) (by decide) (pcf := 4) rfl (fun q => absurd q hi0) (fun _ => ?_)
  refine o_iloadN P (hb hby dsb_4) rfl (pc' := 5) rfl ?_
  refine o_iloadN P (hb hby dsb_5) rfl (pc' := 6) rfl ?_
  refine o_icmp_lt P (hb hby dsb_6) (by decide) (pc' := 16) (by decide) (pcf := 9) rfl (fun _ => ?_) (fun q => absurd hin q)
  refine o_iloadN P (hb hby dsb_16) rfl (pc' := 17) rfl ?_
  exact o_retI P hret (by simp) rfl (hb hby dsb_17) (by decide) (by decide) ⟨rfl, rfl⟩
theorem dsd_0 : decode jdk_42_method_155_code 0 = .ok (.iload_n 0, 1) := by decide +kernel
theorem dsd_1 : decode jdk_42_method_155_code 1 = .ok (.iload_n 1, 1) := by decide +kernel
theorem dsd_2 : decode jdk_42_method_155_code 2 = .ok (.getstatic 1053, 3) := by decide +kernel
theorem dsd_5 : decode jdk_42_method_155_code 5 = .ok (.invokestatic 1059, 3) := by decide +kernel
theorem dsd_8 : decode jdk_42_method_155_code 8 = .ok (.pop, 1) := by decide +kernel
theorem dsd_9 : decode jdk_42_method_155_code 9 = .ok (.return_, 1) := by decide +kernel
theorem ef_sd (x0 : Int32) (x1 : Int32) (m : MethodId) : entryFrame m #[(.int x0), (.int x1)] 2 = mkF m 0 #[.val (.int x0), .val (.int x1)] [] := by first | (simp [entryFrame, mkF, argsToLocals, o_catR, o_catN, o_catI, o_catJ, o_catD]; done) | rfl
theorem ct_scI (l : Launch) (Z : State) (a0 : Array Value) (hw : OHw Z a0) (EL : List (String × Nat)) (n0 : Nat) (i n : Int32) (fv : Value) (hfv : Sta Z Z.heap "jdk/internal/util/Preconditions" "SIOOBE_FORMATTER" "Ljava/util/function/BiFunction;" fv) (hfr : fv.isRef = true) (hi0 : ¬ i < 0) (hin : i < n) (h0 : Heap) :
    OCt l Z a0 EL n0 (⟨"java/lang/String", "checkIndex", "(II)V"⟩ : MethodName) jdk_42_method_155_code 2 none ({ frames := 1, cells := 0, slots := 0, locals := 14 } : Room) [] #[(.int i), (.int n)] h0 [] (fun w vm h => w = none ∧ h = h0) := by
  refine OCt.body (plainFor_of_name pn_S) (ef_sd i n) ?_
  intro p e s m below meth c T hby hml hret hnm hsh P
  refine o_iloadN P (hb hby dsd_0) rfl (pc' := 1) rfl ?_
  refine o_iloadN P (hb hby dsd_1) rfl (pc' := 2) rfl ?_
  refine o_getS P (ow hw 178 rfl) Via.refl hfv (hb hby dsd_2) (pc' := 5) rfl ?_
  clear P; intro T P
  refine o_callS P (W := 0) (ow hw 180 rfl) (ow hw 181 rfl) (ow hw 179 rfl) (ow hw 182 rfl) (by decide) (ct_pcI l Z a0 hw EL n0 i n fv hfr hi0 hin h0) o_sf0 (by rw [hml]; rfl) (by decide) (by decide) (argsL := [(.int i), (.int n), fv]) (rest := []) (lenOf pd_13 rfl) rfl rfl (Nat.le_of_eq rfl) (hb hby dsd_5) (pc' := 8) rfl (by decide) (by decide) ?_
  clear P; intro T h1 v1 P K1 q1
  obtain ⟨rfl, rfl⟩ := q1; clear K1
  show OG p e below m _ T 8 _ [(.int i)]
  refine o_pop P (hb hby dsd_8) rfl (pc' := 9) rfl ?_
  exact o_ret0 P hret (hb hby dsd_9) (by decide) (by decide) ⟨rfl, rfl⟩
theorem dsf_0 : decode jdk_43_method_2_code 0 = .ok (.iload_n 1, 1) := by decide +kernel
theorem dsf_1 : decode jdk_43_method_2_code 1 = .ok (.aload_n 0, 1) := by decide +kernel
theorem dsf_2 : decode jdk_43_method_2_code 2 = .ok (.arraylength, 1) := by decide +kernel
theorem dsf_3 : decode jdk_43_method_2_code 3 = .ok (.invokestatic 9, 3) := by decide +kernel
theorem dsf_6 : decode jdk_43_method_2_code 6 = .ok (.aload_n 0, 1) := by decide +kernel
theorem dsf_7 : decode jdk_43_method_2_code 7 = .ok (.iload_n 1, 1) := by decide +kernel
theorem dsf_8 : decode jdk_43_method_2_code 8 = .ok (.baload, 1) := by decide +kernel
theorem dsf_9 : decode jdk_43_method_2_code 9 = .ok (.sipush 255, 3) := by decide +kernel
theorem dsf_12 : decode jdk_43_method_2_code 12 = .ok (.iand, 1) := by decide +kernel
theorem dsf_13 : decode jdk_43_method_2_code 13 = .ok (.i2c, 1) := by decide +kernel
theorem dsf_14 : decode jdk_43_method_2_code 14 = .ok (.ireturn, 1) := by decide +kernel
theorem ef_sf (x0 : Addr) (x1 : Int32) (m : MethodId) : entryFrame m #[(.ref x0), (.int x1)] 2 = mkF m 0 #[.val (.ref x0), .val (.int x1)] [] := by first | (simp [entryFrame, mkF, argsToLocals, o_catR, o_catN, o_catI, o_catJ, o_catD]; done) | rfl
theorem ct_l1cA (l : Launch) (Z : State) (a0 : Array Value) (hw : OHw Z a0) (EL : List (String × Nat)) (n0 : Nat) (x : Addr) (i u : Int32) (us : List Int32) (fv : Value) (hfv : Sta Z Z.heap "jdk/internal/util/Preconditions" "SIOOBE_FORMATTER" "Ljava/util/function/BiFunction;" fv) (hfr : fv.isRef = true) (hi0 : ¬ i < 0) (hu : us[i.toNatClampNeg]? = some u) (h0 : Heap) (A_x : OArr Z h0 x .byte (och us)) :
    OCt l Z a0 EL n0 (⟨"java/lang/StringLatin1", "charAt", "([BI)C"⟩ : MethodName) jdk_43_method_2_code 2 (some .char) ({ frames := 2, cells := 0, slots := 0, locals := 27 } : Room) [] #[(.ref x), (.int i)] h0 [] (fun w vm h => w = some (.int ((u &&& (255 : Int32)).toUInt32.toUInt16.toUInt32.toInt32)) ∧ h = h0) := by
  refine OCt.body (plainFor_of_name pn_L1) (ef_sf x i) ?_
  intro p e s m below meth c T hby hml hret hnm hsh P
  refine o_iloadN P (hb hby dsf_0) rfl (pc' := 1) rfl ?_
  refine o_aloadN P (hb hby dsf_1) rfl rfl (pc' := 2) rfl ?_
  refine o_arrlen P A_x (hb hby dsf_2) (n := us.length.toInt32) (by simp) (pc' := 3) rfl ?_
  have hn : us.length < 2147483648 := by simpa using A_x.len
  have hin : i < us.length.toInt32 := by rw [Int32.lt_iff_toInt_lt] at hi0 ⊢; have z : (0 : Int32).toInt = 0 := rfl; rw [oi_int hn]; have := (List.getElem?_eq_some_iff.mp hu).1; simp only [Int32.toNatClampNeg] at this; omega
  refine o_callS P (W := 0) (ow hw 175 rfl) (ow hw 176 rfl) (ow hw 125 rfl) (ow hw 177 rfl) (by decide) (ct_scI l Z a0 hw EL n0 i us.length.toInt32 fv hfv hfr hi0 hin h0) o_sf0 (by rw [hml]; rfl) (by decide) (by decide) (argsL := [(.int i), (.int us.length.toInt32)]) (rest := []) (lenOf pd_10 rfl) rfl rfl (Nat.le_of_eq rfl) (hb hby dsf_3) (pc' := 6) rfl (by decide) (by decide) ?_
  clear P; intro T h1 v1 P K1 q1
  obtain ⟨rfl, rfl⟩ := q1; clear K1
  show OG p e below m _ T 6 _ []
  refine o_aloadN P (hb hby dsf_6) rfl rfl (pc' := 7) rfl ?_
  refine o_iloadN P (hb hby dsf_7) rfl (pc' := 8) rfl ?_
  refine o_baload P (v := (.int u)) A_x hi0 (och_get hu) (hb hby dsf_8) (pc' := 9) rfl ?_
  refine o_sipush P (255 : Int32) (hb hby dsf_9) rfl (pc' := 12) rfl ?_
  refine o_iand P (hb hby dsf_12) (pc' := 13) rfl ?_
  refine o_i2c P (hb hby dsf_13) (pc' := 14) rfl ?_
  exact o_retI P hret (by simp) (Jvm.Free.XT.narrow_c _) (hb hby dsf_14) (by decide) (by decide) ⟨rfl, rfl⟩
theorem dsg_0 : decode jdk_42_method_56_code 0 = .ok (.aload_n 0, 1) := by decide +kernel
theorem dsg_1 : decode jdk_42_method_56_code 1 = .ok (.invokevirtual 492, 3) := by decide +kernel
theorem dsg_4 : decode jdk_42_method_56_code 4 = .ok (.ifCond .eq 12, 3) := by decide +kernel
theorem dsg_7 : decode jdk_42_method_56_code 7 = .ok (.aload_n 0, 1) := by decide +kernel
theorem dsg_8 : decode jdk_42_method_56_code 8 = .ok (.getfield 9, 3) := by decide +kernel
theorem dsg_11 : decode jdk_42_method_56_code 11 = .ok (.iload_n 1, 1) := by decide +kernel
theorem dsg_12 : decode jdk_42_method_56_code 12 = .ok (.invokestatic 495, 3) := by decide +kernel
theorem dsg_15 : decode jdk_42_method_56_code 15 = .ok (.ireturn, 1) := by decide +kernel
theorem ef_sg (x0 : Addr) (x1 : Int32) (m : MethodId) : entryFrame m #[(.ref x0), (.int x1)] 2 = mkF m 0 #[.val (.ref x0), .val (.int x1)] [] := by first | (simp [entryFrame, mkF, argsToLocals, o_catR, o_catN, o_catI, o_catJ, o_catD]; done) | rfl
theorem ct_charAt (l : Launch) (Z : State) (a0 : Array Value) (hw : OHw Z a0) (EL : List (String × Nat)) (n0 : Nat) (a x : Addr) (i u : Int32) (us : List Int32) (fv : Value) (hfv : Sta Z Z.heap "jdk/internal/util/Preconditions" "SIOOBE_FORMATTER" "Ljava/util/function/BiFunction;" fv) (hfr : fv.isRef = true) (hi0 : ¬ i < 0) (hu : us[i.toNatClampNeg]? = some u) (cv : Int32) (hcs : Sta Z Z.heap "java/lang/String" "COMPACT_STRINGS" "Z" (.int cv)) (hcv : ¬ cv = 0) (h0 : Heap) (G_a : OStr Z h0 a x (och us)) :
    OCt l Z a0 EL n0 (⟨"java/lang/String", "charAt", "(I)C"⟩ : MethodName) jdk_42_method_56_code 2 (some .char) ({ frames := 3, cells := 0, slots := 0, locals := 40 } : Room) [] #[(.ref a), (.int i)] h0 [] (fun w vm h => w = some (.int ((u &&& (255 : Int32)).toUInt32.toUInt16.toUInt32.toInt32)) ∧ h = h0) := by
  refine OCt.body (plainFor_of_name pn_S) (ef_sg a i) ?_
  intro p e s m below meth c T hby hml hret hnm hsh P
  obtain ⟨F_a, A_x⟩ := G_a
  refine o_aloadN P (hb hby dsg_0) rfl rfl (pc' := 1) rfl ?_
  refine o_callV P (W := 0) (a := a) (ow hw 166 rfl) (ow hw 167 rfl) (o_nfSl (ow hw 169 rfl)) (ow hw 169 rfl) (ow hw 168 rfl) (ow hw 125 rfl) (ow hw 170 rfl) (by decide) F_a.exa (ct_isLat l Z a0 hw EL n0 a x cv hcs hcv h0 F_a) o_sf0 (by rw [hml]; rfl) (by decide) (by decide) (argsL := []) (rest := []) (lenOf pd_14 rfl) rfl rfl (Nat.le_of_eq rfl) (hb hby dsg_1) (pc' := 4) rfl (by decide) (by decide) ?_
  clear P; intro T h1 v1 P K1 q1
  obtain ⟨rfl, rfl⟩ := q1; clear K1
  show OG p e below m _ T 4 _ [(.int 1)]
  refine o_if_eq P (hb hby dsg_4) (by decide) (pc' := 16) (by decide) (pcf := 7) rfl (fun q => absurd q (by decide)) (fun _ => ?_)
  refine o_aloadN P (hb hby dsg_7) rfl rfl (pc' := 8) rfl ?_
  refine o_getF P (ow hw 138 rfl) Via.refl (F_a.fld 0 rfl) (hb hby dsg_8) (pc' := 11) rfl ?_
  clear P; intro T P
  refine o_iloadN P (hb hby dsg_11) rfl (pc' := 12) rfl ?_
  refine o_callS P (W := 0) (ow hw 171 rfl) (ow hw 172 rfl) (ow hw 173 rfl) (ow hw 174 rfl) (by decide) (ct_l1cA l Z a0 hw EL n0 x i u us fv hfv hfr hi0 hu h1 A_x) o_sf0 (by rw [hml]; rfl) (by decide) (by decide) (argsL := [(.ref x), (.int i)]) (rest := []) (lenOf pd_15 rfl) rfl rfl (Nat.le_of_eq rfl) (hb hby dsg_12) (pc' := 15) rfl (by decide) (by decide) ?_
  clear P; intro T h2 v2 P K2 q2
  obtain ⟨rfl, rfl⟩ := q2; clear K2
  show OG p e below m _ T 15 _ [(.int ((u &&& (255 : Int32)).toUInt32.toUInt16.toUInt32.toInt32))]
  exact o_retI P hret (by simp) (Jvm.Free.XT.narrow_c _) (hb hby dsg_15) (by decide) (by decide) ⟨rfl, rfl⟩
theorem own_wS {Z : State} {a0 : Array Value} (hw : OHw Z a0) : ∀ a ∈ Bundle.stringAtoms, a.before a0 Z = true := fun a ha => by
  simp only [Bundle.stringAtoms, List.mem_cons, List.not_mem_nil, or_false] at ha
  rcases ha with rfl | rfl | rfl | rfl | rfl | rfl | rfl
  · exact (ow hw 125 rfl)
  · exact (ow hw 126 rfl)
  · exact (ow hw 127 rfl)
  · exact (ow hw 128 rfl)
  · exact (ow hw 129 rfl)
  · exact (ow hw 130 rfl)
  · exact (ow hw 131 rfl)
theorem ct_pick (l : Launch) (Z : State) (a0 : Array Value) (hw : OHw Z a0) (EL : List (String × Nat)) (n0 : Nat) (t tx : Addr) (r : Int32) (us : List Int32) (bs : List Bool) (vx vy : Int64) (fv : Value) (hfv : Sta Z Z.heap "jdk/internal/util/Preconditions" "SIOOBE_FORMATTER" "Ljava/util/function/BiFunction;" fv) (hfr : fv.isRef = true) (cv : Int32) (hcs : Sta Z Z.heap "java/lang/String" "COMPACT_STRINGS" "Z" (.int cv)) (hcv : ¬ cv = 0) (hr : ¬ r < 0) (hu : us[r.toNatClampNeg]? = some (bif bs.getD r.toNatClampNeg false then (121 : Int32) else 120)) (h0 : Heap) (G : OStr Z h0 t tx (och us)) :
    OCt l Z a0 EL n0 (⟨kW, "pick", "(Ljava/lang/String;IJJ)J"⟩ : MethodName) method_2_code 6 (some .long) ({ frames := 4, cells := 0, slots := 0, locals := 55 } : Room) [] #[(.ref t), (.int r), (.long vx), (.long vy)] h0 [] (fun w vm h => w = some (.long (opk bs vx vy r.toNatClampNeg)) ∧ h = h0) := by
  refine OCt.body (plainFor_of_name pn_LW) (ef_pk t r vx vy) ?_
  intro p e s m below meth c T hby hml hret hnm hsh P
  have F_t := G.1
  refine o_aloadN P (hb hby dpk_0) rfl rfl (pc' := 1) rfl ?_
  refine o_iloadN P (hb hby dpk_1) rfl (pc' := 2) rfl ?_
  refine o_callV P (W := 0) (a := t) (ow hw 161 rfl) (ow hw 162 rfl) (o_nfSl (ow hw 164 rfl)) (ow hw 164 rfl) (ow hw 163 rfl) (ow hw 125 rfl) (ow hw 165 rfl) (by decide) F_t.exa (ct_charAt l Z a0 hw EL n0 t tx r (bif bs.getD r.toNatClampNeg false then (121 : Int32) else 120) us fv hfv hfr hr hu cv hcs hcv h0 G) o_sf0 (by rw [hml]; rfl) (by decide) (by decide) (argsL := [(.int r)]) (rest := []) (lenOf pd_16 rfl) rfl rfl (Nat.le_of_eq rfl) (hb hby dpk_2) (pc' := 5) rfl (by decide) (by decide) ?_
  clear P; intro T h1 v1 P K1 q1
  obtain ⟨rfl, rfl⟩ := q1; clear K1
  by_cases hbs : bs.getD r.toNatClampNeg false = true
  · rw [hbs]
    show OG p e below m _ T 5 _ [(.int 121)]
    refine o_bipush P (121 : Int32) (hb hby dpk_5) rfl (pc' := 7) rfl ?_
    refine o_icmp_ne P (hb hby dpk_7) (by decide) (pc' := 15) (by decide) (pcf := 10) rfl (fun q => absurd (by decide) q) (fun _ => ?_)
    refine o_lload P (hb hby dpk_10) rfl (pc' := 12) rfl ?_
    refine o_goto P (hb hby dpk_12) (by decide) (pc' := 16) (by decide) ?_
    exact o_retL P hret (hb hby dpk_16) (by decide) (by decide) ⟨by unfold opk; rw [hbs]; rfl, rfl⟩
  · rw [Bool.not_eq_true] at hbs; rw [hbs]
    show OG p e below m _ T 5 _ [(.int 120)]
    refine o_bipush P (121 : Int32) (hb hby dpk_5) rfl (pc' := 7) rfl ?_
    refine o_icmp_ne P (hb hby dpk_7) (by decide) (pc' := 15) (by decide) (pcf := 10) rfl (fun _ => ?_) (fun q => absurd q (by decide))
    refine o_lloadN P (hb hby dpk_15) rfl (pc' := 16) rfl ?_
    exact o_retL P hret (hb hby dpk_16) (by decide) (by decide) ⟨by unfold opk; rw [hbs]; rfl, rfl⟩
theorem own_srtl {vx vy : Int64} (h : vx.toInt ≤ vy.toInt) : osort [vx, vy, vy, vx, vy, vy, vx, vy, vx, vy, vy, vx, vy] = [vx, vx, vx, vx, vx, vy, vy, vy, vy, vy, vy, vy, vy] := by
  have hp : ([false, true, true, false, true, true, false, true, false, true, true, false, true] : List Bool).Perm [false, false, false, false, false, true, true, true, true, true, true, true, true] := by decide
  have q := hp.map (fun b => bif b then vy else vx)
  refine (osort_eq q.symm ?_).symm
  show OSd [vx, vx, vx, vx, vx, vy, vy, vy, vy, vy, vy, vy, vy]
  simp [OSd, h]
theorem own_srtg {vx vy : Int64} (h : vy.toInt ≤ vx.toInt) : osort [vx, vy, vy, vx, vy, vy, vx, vy, vx, vy, vy, vx, vy] = [vy, vy, vy, vy, vy, vy, vy, vy, vx, vx, vx, vx, vx] := by
  have hp : ([false, true, true, false, true, true, false, true, false, true, true, false, true] : List Bool).Perm [true, true, true, true, true, true, true, true, false, false, false, false, false] := by decide
  have q := hp.map (fun b => bif b then vy else vx)
  refine (osort_eq q.symm ?_).symm
  show OSd [vy, vy, vy, vy, vy, vy, vy, vy, vx, vx, vx, vx, vx]
  simp [OSd, h]
theorem own_le {vx vy : Int64} (h : ¬ (0 : Int32) < lcmpW vx vy) : vx.toInt ≤ vy.toInt := by
  have q : ¬ vy < vx := fun z => h ((lw_gt vx vy).mpr z)
  rw [o64_lt] at q; omega
theorem own_ge {vx vy : Int64} (h : (0 : Int32) < lcmpW vx vy) : vy.toInt ≤ vx.toInt := by
  have q := (lw_gt vx vy).mp h
  rw [o64_lt] at q; omega
theorem own_fin13lh {vx vy : Int64} {r : Int32} (hxy : ¬ (0 : Int32) < lcmpW vx vy) (hk : ¬ r < (5 : Int32)) (hR : 0 ≤ r.toInt ∧ r.toInt ≤ 12) : og [vx, vy, vy, vx, vy, vy, vx, vy, vx, vy, vy, vx, vy] r.toNatClampNeg = vy := by
  have hle := (own_le hxy)
  unfold og; rw [own_srtl hle]
  rcases own_rng13 r hR.1 (by omega) with rfl | rfl | rfl | rfl | rfl | rfl | rfl | rfl | rfl | rfl | rfl | rfl | rfl <;> first | rfl | (exact absurd hk (by decide))
theorem own_fin13ll {vx vy : Int64} {r : Int32} (hxy : ¬ (0 : Int32) < lcmpW vx vy) (hk : r < (5 : Int32)) (hR : 0 ≤ r.toInt ∧ r.toInt ≤ 12) : og [vx, vy, vy, vx, vy, vy, vx, vy, vx, vy, vy, vx, vy] r.toNatClampNeg = vx := by
  have hle := (own_le hxy)
  unfold og; rw [own_srtl hle]
  rcases own_rng13 r hR.1 (by omega) with rfl | rfl | rfl | rfl | rfl | rfl | rfl | rfl | rfl | rfl | rfl | rfl | rfl <;> first | rfl | (exact absurd hk (by decide))
theorem own_fin13gh {vx vy : Int64} {r : Int32} (hxy : (0 : Int32) < lcmpW vx vy) (hk : ¬ r < (8 : Int32)) (hR : 0 ≤ r.toInt ∧ r.toInt ≤ 12) : og [vx, vy, vy, vx, vy, vy, vx, vy, vx, vy, vy, vx, vy] r.toNatClampNeg = vx := by
  have hle := (own_ge hxy)
  unfold og; rw [own_srtg hle]
  rcases own_rng13 r hR.1 (by omega) with rfl | rfl | rfl | rfl | rfl | rfl | rfl | rfl | rfl | rfl | rfl | rfl | rfl <;> first | rfl | (exact absurd hk (by decide))
theorem own_fin13gl {vx vy : Int64} {r : Int32} (hxy : (0 : Int32) < lcmpW vx vy) (hk : r < (8 : Int32)) (hR : 0 ≤ r.toInt ∧ r.toInt ≤ 12) : og [vx, vy, vy, vx, vy, vy, vx, vy, vx, vy, vy, vx, vy] r.toNatClampNeg = vy := by
  have hle := (own_ge hxy)
  unfold og; rw [own_srtg hle]
  rcases own_rng13 r hR.1 (by omega) with rfl | rfl | rfl | rfl | rfl | rfl | rfl | rfl | rfl | rfl | rfl | rfl | rfl <;> first | rfl | (exact absurd hk (by decide))
theorem own_lt5 {r : Int32} (hR : 0 ≤ r.toInt ∧ r.toInt ≤ 4) : r < (5 : Int32) := by
  rw [Int32.lt_iff_toInt_lt]; have z : (5 : Int32).toInt = 5 := rfl; omega
theorem own_fin5 {vx : Int64} {r : Int32} (hR : 0 ≤ r.toInt ∧ r.toInt ≤ 4) : og [vx, vx, vx, vx, vx] r.toNatClampNeg = vx := by
  have e : osort [vx, vx, vx, vx, vx] = [vx, vx, vx, vx, vx] := (osort_eq (List.Perm.refl _) (by simp [OSd])).symm
  unfold og; rw [e]
  rcases own_rng5 r hR.1 (by omega) with rfl | rfl | rfl | rfl | rfl <;> rfl
theorem law119_13od {p : Program} {e : Env} {s : State} {m : MethodId} {args : Array Value} {below : List Frame} {meth : Method} {c : Code} {T : State} {n0 : Nat} {h0 : Heap} {Ow : List Addr} (l : Launch) (Z : State) (a0 : Array Value) (hw : OHw Z a0) (EL : List (String × Nat)) (hby : c.code = code) (hml : c.maxLocals = maxLocals) (hret : meth.sig.returnType = ret) (vx vy : Int64) (fl ii jj pp : Int32) (od oz : Addr) (hg : OGp Z od oz) (cv : Int32) (hcs : Sta Z Z.heap "java/lang/String" "COMPACT_STRINGS" "Z" (.int cv)) (hcv : ¬ cv = 0) (fv : Value) (hfv : Sta Z Z.heap "jdk/internal/util/Preconditions" "SIOOBE_FORMATTER" "Ljava/util/function/BiFunction;" fv) (hfr : fv.isRef = true) (hm37 : (kW, 37) ∈ EL) (hm39 : (kW, 39) ∈ EL) (hm41 : (kW, 41) ∈ EL) (hm43 : (kW, 43) ∈ EL) (a ka b kb : Addr) (F_a : OObj Z h0 a kK [(kK, "keys", "[J", (.ref ka)), (kK, "size", "I", (.int 13)), (kK, "selection", kSd, .null)]) (A_ka : OArr Z h0 ka .long [(.long vx), (.long vy), (.long vy), (.long vx), (.long vy), (.long vy), (.long vx), (.long vy), (.long vx), (.long vy), (.long vy), (.long vx), (.long vy), (.long 0), (.long 0), (.long 0)]) (F_b : OObj Z h0 b kK [(kK, "keys", "[J", (.ref kb)), (kK, "size", "I", (.int 21)), (kK, "selection", kSd, .null)]) (A_kb : OArr Z h0 kb .long [(.long vy), (.long vx), (.long vy), (.long vx), (.long vy), (.long vy), (.long vx), (.long vy), (.long vx), (.long vy), (.long vy), (.long vx), (.long vy), (.long vy), (.long vx), (.long vy), (.long vx), (.long vy), (.long vy), (.long vx), (.long vy), (.long 0), (.long 0), (.long 0), (.long 0), (.long 0), (.long 0), (.long 0), (.long 0), (.long 0), (.long 0), (.long 0)]) (ne_a_ka : a ≠ ka) (ne_b_kb : b ≠ kb) (hao : a ∈ Ow) (hko : ka ∈ Ow) (P : OPn p l e room_1 s m args below meth c Z a0 EL n0 [] kW T h0 Ow 14 140) :
    OG p e below m (OFq Z EL n0 s [] room_1 (fun w vm h => w = some (.int 1))) T 119 #[.val (.long vx), .second, .val (.long vy), .second, .val (.int fl), .val (.int ii), .val (.int jj), .val (.int pp), .val (.int 0), .val (.ref od), .val (.ref a), .val (.ref b), .val (.long vx), .second, .unset, .unset, .unset, .unset, .unset, .unset, .unset, .unset, .unset, .unset, .unset] [] := by
  replace P := P.less (Ow' := [a, ka]) (fun x hx => by rcases List.mem_cons.mp hx with rfl | hx; exact hao; rw [List.mem_singleton.mp hx]; exact hko)
  refine o_iload P (hb hby at_119) rfl (pc' := 121) rfl ?_
  refine o_if_eq P (hb hby at_121) (by decide) (pc' := 129) (by decide) (pcf := 124) rfl (fun _ => ?_) (fun q => absurd (by decide) q)
  refine o_ldcS P (n := 52) (vs := och [120, 121, 121, 120, 121, 121, 120, 121, 120, 121, 121, 120, 121]) (ow hw 124 rfl) (own_wS hw) hm39 (Or.inr (ow hw 128 rfl)) (Or.inr (ow hw 129 rfl)) ⟨by decide, by decide +kernel⟩ (13 : Int32) (by decide) rfl (hb hby at_129) (pc' := 131) rfl (by decide) (by decide) (by decide) (by decide) ?_
  clear P; intro T h1 t tx P K1 G_t _
  replace F_a := F_a.keep K1 nin0
  replace F_b := F_b.keep K1 nin0
  replace A_ka := A_ka.keep K1 nin0
  replace A_kb := A_kb.keep K1 nin0
  clear K1
  refine o_astore P (hb hby at_131) rfl (L' := #[.val (.long vx), .second, .val (.long vy), .second, .val (.int fl), .val (.int ii), .val (.int jj), .val (.int pp), .val (.int 0), .val (.ref od), .val (.ref a), .val (.ref b), .val (.long vx), .second, .val (.ref t), .unset, .unset, .unset, .unset, .unset, .unset, .unset, .unset, .unset, .unset]) rfl (pc' := 133) rfl ?_
  refine o_iload P (hb hby at_133) rfl (pc' := 135) rfl ?_
  refine o_if_eq P (hb hby at_135) (by decide) (pc' := 143) (by decide) (pcf := 138) rfl (fun _ => ?_) (fun q => absurd (by decide) q)
  refine o_ldcS P (n := 84) (vs := och [121, 120, 121, 120, 121, 121, 120, 121, 120, 121, 121, 120, 121, 121, 120, 121, 120, 121, 121, 120, 121]) (ow hw 132 rfl) (own_wS hw) hm43 (Or.inr (ow hw 128 rfl)) (Or.inr (ow hw 129 rfl)) ⟨by decide, by decide +kernel⟩ (21 : Int32) (by decide) rfl (hb hby at_143) (pc' := 145) rfl (by decide) (by decide) (by decide) (by decide) ?_
  clear P; intro T h2 u ux P K2 G_u _
  replace G_t := G_t.keep K2 nin0 nin0
  replace F_a := F_a.keep K2 nin0
  replace F_b := F_b.keep K2 nin0
  replace A_ka := A_ka.keep K2 nin0
  replace A_kb := A_kb.keep K2 nin0
  clear K2
  refine o_astore P (hb hby at_145) rfl (L' := #[.val (.long vx), .second, .val (.long vy), .second, .val (.int fl), .val (.int ii), .val (.int jj), .val (.int pp), .val (.int 0), .val (.ref od), .val (.ref a), .val (.ref b), .val (.long vx), .second, .val (.ref t), .val (.ref u), .unset, .unset, .unset, .unset, .unset, .unset, .unset, .unset, .unset]) rfl (pc' := 147) rfl ?_
  refine o_aload P (hb hby at_147) rfl rfl (pc' := 149) rfl ?_
  have F_t := G_t.1
  refine o_callV P (W := 0) (a := t) (ow hw 133 rfl) (ow hw 134 rfl) (o_nfSl (ow hw 136 rfl)) (ow hw 136 rfl) (ow hw 135 rfl) (ow hw 125 rfl) (ow hw 137 rfl) (by decide) F_t.exa (ct_len l Z a0 hw EL n0 t tx [120, 121, 121, 120, 121, 121, 120, 121, 120, 121, 121, 120, 121] cv hcs hcv h2 G_t) o_sf0 (by rw [hml]; rfl) (by decide) (by decide) (argsL := []) (rest := []) (lenOf pd_17 rfl) rfl rfl (Nat.le_of_eq rfl) (hb hby at_149) (pc' := 152) rfl (by decide) (by decide) ?_
  clear P; intro T h3 v3 P K3 q3
  obtain ⟨rfl, rfl⟩ := q3; clear K3 F_t
  show OG p e below m _ T 152 _ [(.int 13)]
  refine o_istore P (hb hby at_152) (L' := #[.val (.long vx), .second, .val (.long vy), .second, .val (.int fl), .val (.int ii), .val (.int jj), .val (.int pp), .val (.int 0), .val (.ref od), .val (.ref a), .val (.ref b), .val (.long vx), .second, .val (.ref t), .val (.ref u), .val (.int 13), .unset, .unset, .unset, .unset, .unset, .unset, .unset, .unset]) rfl (pc' := 154) rfl ?_
  refine o_aload P (hb hby at_154) rfl rfl (pc' := 156) rfl ?_
  have F_u := G_u.1
  refine o_callV P (W := 0) (a := u) (ow hw 133 rfl) (ow hw 134 rfl) (o_nfSl (ow hw 136 rfl)) (ow hw 136 rfl) (ow hw 135 rfl) (ow hw 125 rfl) (ow hw 137 rfl) (by decide) F_u.exa (ct_len l Z a0 hw EL n0 u ux [121, 120, 121, 120, 121, 121, 120, 121, 120, 121, 121, 120, 121, 121, 120, 121, 120, 121, 121, 120, 121] cv hcs hcv h3 G_u) o_sf0 (by rw [hml]; rfl) (by decide) (by decide) (argsL := []) (rest := []) (lenOf pd_17 rfl) rfl rfl (Nat.le_of_eq rfl) (hb hby at_156) (pc' := 159) rfl (by decide) (by decide) ?_
  clear P; intro T h4 v4 P K4 q4
  obtain ⟨rfl, rfl⟩ := q4; clear K4 F_u
  show OG p e below m _ T 159 _ [(.int 21)]
  refine o_istore P (hb hby at_159) (L' := #[.val (.long vx), .second, .val (.long vy), .second, .val (.int fl), .val (.int ii), .val (.int jj), .val (.int pp), .val (.int 0), .val (.ref od), .val (.ref a), .val (.ref b), .val (.long vx), .second, .val (.ref t), .val (.ref u), .val (.int 13), .val (.int 21), .unset, .unset, .unset, .unset, .unset, .unset, .unset]) rfl (pc' := 161) rfl ?_
  refine o_aload P (hb hby at_161) rfl rfl (pc' := 163) rfl ?_
  refine o_callV P (W := 0) (a := a) (ow hw 146 rfl) (ow hw 147 rfl) (o_nfSl (ow hw 149 rfl)) (ow hw 149 rfl) (ow hw 148 rfl) (ow hw 5 rfl) (ow hw 150 rfl) (by decide) F_a.exa (ct_e89 l Z a0 hw EL n0 a ka vx vy od oz hg h4 F_a A_ka ne_a_ka) o_sf0 (by rw [hml]; rfl) (by decide) (by decide) (argsL := []) (rest := []) (lenOf pd_17 rfl) rfl rfl (Nat.le_of_eq rfl) (hb hby at_163) (pc' := 166) rfl (by decide) (by decide) ?_
  clear P; intro T h6 v6 P K6 q6
  obtain ⟨rfl, rfl⟩ := q6; clear K6
  show OG p e below m _ T 166 _ [(.int 13)]
  refine o_iload P (hb hby at_166) rfl (pc' := 168) rfl ?_
  refine o_icmp_ne P (hb hby at_168) (by decide) (pc' := 181) (by decide) (pcf := 171) rfl (fun q => absurd (by decide) q) (fun _ => ?_)
  refine o_aload P (hb hby at_171) rfl rfl (pc' := 173) rfl ?_
  refine o_callV P (W := 0) (a := b) (ow hw 146 rfl) (ow hw 147 rfl) (o_nfSl (ow hw 149 rfl)) (ow hw 149 rfl) (ow hw 148 rfl) (ow hw 5 rfl) (ow hw 150 rfl) (by decide) F_b.exa (ct_e90 l Z a0 hw EL n0 b kb vy vx od oz hg h6 F_b A_kb ne_b_kb) o_sf0 (by rw [hml]; rfl) (by decide) (by decide) (argsL := []) (rest := []) (lenOf pd_17 rfl) rfl rfl (Nat.le_of_eq rfl) (hb hby at_173) (pc' := 176) rfl (by decide) (by decide) ?_
  clear P; intro T h8 v8 P K8 q8
  obtain ⟨rfl, rfl⟩ := q8; clear K8
  show OG p e below m _ T 176 _ [(.int 21)]
  refine o_iload P (hb hby at_176) rfl (pc' := 178) rfl ?_
  refine o_icmp_eq P (hb hby at_178) (by decide) (pc' := 183) (by decide) (pcf := 181) rfl (fun _ => ?_) (fun q => absurd (by decide) q)
  refine o_iload P (hb hby at_183) rfl (pc' := 185) rfl ?_
  refine o_ldcI P (ow hw 151 rfl) (hb hby at_185) (pc' := 187) rfl ?_
  refine o_iand P (hb hby at_187) (pc' := 188) rfl ?_
  refine o_iload P (hb hby at_188) rfl (pc' := 190) rfl ?_
  refine o_irem P (hb hby at_190) (by decide) (pc' := 191) rfl ?_
  have hA := own_mod13 ii; generalize (ii &&& (2147483647 : Int32)) % (13 : Int32) = ia at hA ⊢
  refine o_istore P (hb hby at_191) (L' := #[.val (.long vx), .second, .val (.long vy), .second, .val (.int fl), .val (.int ii), .val (.int jj), .val (.int pp), .val (.int 0), .val (.ref od), .val (.ref a), .val (.ref b), .val (.long vx), .second, .val (.ref t), .val (.ref u), .val (.int 13), .val (.int 21), .val (.int ia), .unset, .unset, .unset, .unset, .unset, .unset]) rfl (pc' := 193) rfl ?_
  refine o_iload P (hb hby at_193) rfl (pc' := 195) rfl ?_
  refine o_ldcI P (ow hw 151 rfl) (hb hby at_195) (pc' := 197) rfl ?_
  refine o_iand P (hb hby at_197) (pc' := 198) rfl ?_
  refine o_iload P (hb hby at_198) rfl (pc' := 200) rfl ?_
  refine o_irem P (hb hby at_200) (by decide) (pc' := 201) rfl ?_
  have hB := own_mod21 jj; generalize (jj &&& (2147483647 : Int32)) % (21 : Int32) = jb at hB ⊢
  refine o_istore P (hb hby at_201) (L' := #[.val (.long vx), .second, .val (.long vy), .second, .val (.int fl), .val (.int ii), .val (.int jj), .val (.int pp), .val (.int 0), .val (.ref od), .val (.ref a), .val (.ref b), .val (.long vx), .second, .val (.ref t), .val (.ref u), .val (.int 13), .val (.int 21), .val (.int ia), .val (.int jb), .unset, .unset, .unset, .unset, .unset]) rfl (pc' := 203) rfl ?_
  refine o_aload P (hb hby at_203) rfl rfl (pc' := 205) rfl ?_
  refine o_iload P (hb hby at_205) rfl (pc' := 207) rfl ?_
  refine o_callV P (W := 0) (a := a) (ow hw 152 rfl) (ow hw 153 rfl) (o_nfSl (ow hw 155 rfl)) (ow hw 155 rfl) (ow hw 154 rfl) (ow hw 5 rfl) (ow hw 156 rfl) (by decide) F_a.exa (ct_getA13 l Z a0 hw EL n0 a ka ia vx vy hA h8 F_a A_ka) o_sf0 (by rw [hml]; rfl) (by decide) (by decide) (argsL := [(.int ia)]) (rest := []) (lenOf pd_11 rfl) rfl rfl (Nat.le_of_eq rfl) (hb hby at_207) (pc' := 210) rfl (by decide) (by decide) ?_
  clear P; intro T h9 v9 P K9 q9
  obtain ⟨rfl, rfl⟩ := q9; clear K9
  show OG p e below m _ T 210 _ [(.long (opk [false, true, true, false, true, true, false, true, false, true, true, false, true] vx vy ia.toNatClampNeg))]
  refine o_aload P (hb hby at_210) rfl rfl (pc' := 212) rfl ?_
  refine o_iload P (hb hby at_212) rfl (pc' := 214) rfl ?_
  refine o_lloadN P (hb hby at_214) rfl (pc' := 215) rfl ?_
  refine o_lloadN P (hb hby at_215) rfl (pc' := 216) rfl ?_
  refine o_callS P (W := 2) (ow hw 157 rfl) (ow hw 158 rfl) (ow hw 159 rfl) (ow hw 160 rfl) (by decide) (ct_pick l Z a0 hw EL n0 t tx ia [120, 121, 121, 120, 121, 121, 120, 121, 120, 121, 121, 120, 121] [false, true, true, false, true, true, false, true, false, true, true, false, true] vx vy fv hfv hfr cv hcs hcv (own_nn ia hA.1) (by rcases own_rng13 ia hA.1 (by omega) with rfl | rfl | rfl | rfl | rfl | rfl | rfl | rfl | rfl | rfl | rfl | rfl | rfl <;> rfl) h9 G_t) o_sf0 (by rw [hml]; rfl) (by decide) (by decide) (argsL := [(.ref t), (.int ia), (.long vx), (.long vy)]) (rest := [(.long (opk [false, true, true, false, true, true, false, true, false, true, true, false, true] vx vy ia.toNatClampNeg))]) (lenOf pd_18 rfl) rfl rfl (Nat.le_of_eq rfl) (hb hby at_216) (pc' := 219) rfl (by decide) (by decide) ?_
  clear P; intro T h10 v10 P K10 q10
  obtain ⟨rfl, rfl⟩ := q10; clear K10
  show OG p e below m _ T 219 _ [(.long (opk [false, true, true, false, true, true, false, true, false, true, true, false, true] vx vy ia.toNatClampNeg)), (.long (opk [false, true, true, false, true, true, false, true, false, true, true, false, true] vx vy ia.toNatClampNeg))]
  refine o_lcmp P (hb hby at_219) (pc' := 220) rfl ?_
  refine o_if_ne P (hb hby at_220) (by decide) (pc' := 247) (by decide) (pcf := 223) rfl (fun q => absurd ((lw_eq _ _).mpr rfl) q) (fun _ => ?_)
  refine o_aload P (hb hby at_223) rfl rfl (pc' := 225) rfl ?_
  refine o_iload P (hb hby at_225) rfl (pc' := 227) rfl ?_
  refine o_callV P (W := 0) (a := b) (ow hw 152 rfl) (ow hw 153 rfl) (o_nfSl (ow hw 155 rfl)) (ow hw 155 rfl) (ow hw 154 rfl) (ow hw 5 rfl) (ow hw 156 rfl) (by decide) F_b.exa (ct_getB13 l Z a0 hw EL n0 b kb jb vx vy hB h10 F_b A_kb) o_sf0 (by rw [hml]; rfl) (by decide) (by decide) (argsL := [(.int jb)]) (rest := []) (lenOf pd_11 rfl) rfl rfl (Nat.le_of_eq rfl) (hb hby at_227) (pc' := 230) rfl (by decide) (by decide) ?_
  clear P; intro T h11 v11 P K11 q11
  obtain ⟨rfl, rfl⟩ := q11; clear K11
  show OG p e below m _ T 230 _ [(.long (opk [true, false, true, false, true, true, false, true, false, true, true, false, true, true, false, true, false, true, true, false, true] vx vy jb.toNatClampNeg))]
  refine o_aload P (hb hby at_230) rfl rfl (pc' := 232) rfl ?_
  refine o_iload P (hb hby at_232) rfl (pc' := 234) rfl ?_
  refine o_lloadN P (hb hby at_234) rfl (pc' := 235) rfl ?_
  refine o_lloadN P (hb hby at_235) rfl (pc' := 236) rfl ?_
  refine o_callS P (W := 2) (ow hw 157 rfl) (ow hw 158 rfl) (ow hw 159 rfl) (ow hw 160 rfl) (by decide) (ct_pick l Z a0 hw EL n0 u ux jb [121, 120, 121, 120, 121, 121, 120, 121, 120, 121, 121, 120, 121, 121, 120, 121, 120, 121, 121, 120, 121] [true, false, true, false, true, true, false, true, false, true, true, false, true, true, false, true, false, true, true, false, true] vx vy fv hfv hfr cv hcs hcv (own_nn jb hB.1) (by rcases own_rng21 jb hB.1 (by omega) with rfl | rfl | rfl | rfl | rfl | rfl | rfl | rfl | rfl | rfl | rfl | rfl | rfl | rfl | rfl | rfl | rfl | rfl | rfl | rfl | rfl <;> rfl) h11 G_u) o_sf0 (by rw [hml]; rfl) (by decide) (by decide) (argsL := [(.ref u), (.int jb), (.long vx), (.long vy)]) (rest := [(.long (opk [true, false, true, false, true, true, false, true, false, true, true, false, true, true, false, true, false, true, true, false, true] vx vy jb.toNatClampNeg))]) (lenOf pd_18 rfl) rfl rfl (Nat.le_of_eq rfl) (hb hby at_236) (pc' := 239) rfl (by decide) (by decide) ?_
  clear P; intro T h12 v12 P K12 q12
  obtain ⟨rfl, rfl⟩ := q12; clear K12
  show OG p e below m _ T 239 _ [(.long (opk [true, false, true, false, true, true, false, true, false, true, true, false, true, true, false, true, false, true, true, false, true] vx vy jb.toNatClampNeg)), (.long (opk [true, false, true, false, true, true, false, true, false, true, true, false, true, true, false, true, false, true, true, false, true] vx vy jb.toNatClampNeg))]
  refine o_lcmp P (hb hby at_239) (pc' := 240) rfl ?_
  refine o_if_ne P (hb hby at_240) (by decide) (pc' := 247) (by decide) (pcf := 243) rfl (fun q => absurd ((lw_eq _ _).mpr rfl) q) (fun _ => ?_)
  refine o_iconst P (1 : Int32) (hb hby at_243) rfl (pc' := 244) rfl ?_
  refine o_goto P (hb hby at_244) (by decide) (pc' := 248) (by decide) ?_
  refine o_istore P (hb hby at_248) (L' := #[.val (.long vx), .second, .val (.long vy), .second, .val (.int fl), .val (.int ii), .val (.int jj), .val (.int pp), .val (.int 0), .val (.ref od), .val (.ref a), .val (.ref b), .val (.long vx), .second, .val (.ref t), .val (.ref u), .val (.int 13), .val (.int 21), .val (.int ia), .val (.int jb), .val (.int 1), .unset, .unset, .unset, .unset]) rfl (pc' := 250) rfl ?_
  refine o_iload P (hb hby at_250) rfl (pc' := 252) rfl ?_
  refine o_ldcI P (ow hw 151 rfl) (hb hby at_252) (pc' := 254) rfl ?_
  refine o_iand P (hb hby at_254) (pc' := 255) rfl ?_
  refine o_iload P (hb hby at_255) rfl (pc' := 257) rfl ?_
  refine o_irem P (hb hby at_257) (by decide) (pc' := 258) rfl ?_
  refine o_iconst P (1 : Int32) (hb hby at_258) rfl (pc' := 259) rfl ?_
  refine o_iadd P (hb hby at_259) (pc' := 260) rfl ?_
  have hP := own_posn13 pp; generalize ((pp &&& (2147483647 : Int32)) % (13 : Int32)) + (1 : Int32) = pz at hP ⊢
  refine o_istore P (hb hby at_260) (L' := #[.val (.long vx), .second, .val (.long vy), .second, .val (.int fl), .val (.int ii), .val (.int jj), .val (.int pp), .val (.int 0), .val (.ref od), .val (.ref a), .val (.ref b), .val (.long vx), .second, .val (.ref t), .val (.ref u), .val (.int 13), .val (.int 21), .val (.int ia), .val (.int jb), .val (.int 1), .val (.int pz), .unset, .unset, .unset]) rfl (pc' := 262) rfl ?_
  refine o_aload P (hb hby at_262) rfl rfl (pc' := 264) rfl ?_
  refine o_getS P (ow hw 0 rfl) Via.refl hg.2.1 (hb hby at_264) (pc' := 267) rfl ?_
  clear P; intro T P
  refine o_acmp P true (hb hby at_267) rfl rfl (decide_eq_true rfl) (by decide) (pc' := 270) rfl ?_
  refine o_iload P (hb hby at_270) rfl (pc' := 272) rfl ?_
  refine o_iconst P (1 : Int32) (hb hby at_272) rfl (pc' := 273) rfl ?_
  refine o_isub P (hb hby at_273) (pc' := 274) rfl ?_
  refine o_goto P (hb hby at_274) (by decide) (pc' := 282) (by decide) ?_
  refine o_istore P (hb hby at_282) (L' := #[.val (.long vx), .second, .val (.long vy), .second, .val (.int fl), .val (.int ii), .val (.int jj), .val (.int pp), .val (.int 0), .val (.ref od), .val (.ref a), .val (.ref b), .val (.long vx), .second, .val (.ref t), .val (.ref u), .val (.int 13), .val (.int 21), .val (.int ia), .val (.int jb), .val (.int 1), .val (.int pz), .val (.int (pz - (1 : Int32))), .unset, .unset]) rfl (pc' := 284) rfl ?_
  refine o_lloadN P (hb hby at_284) rfl (pc' := 285) rfl ?_
  refine o_lloadN P (hb hby at_285) rfl (pc' := 286) rfl ?_
  refine o_lcmp P (hb hby at_286) (pc' := 287) rfl ?_
  have hR := own_ra13 pz hP.1 hP.2
  refine o_if_gt P (hb hby at_287) (by decide) (pc' := 304) (by decide) (pcf := 290) rfl (fun hxy => ?_) (fun hxy => ?_)
  · refine o_iload P (hb hby at_304) rfl (pc' := 306) rfl ?_
    refine o_iload P (hb hby at_306) rfl (pc' := 308) rfl ?_
    refine o_iconst P (5 : Int32) (hb hby at_308) rfl (pc' := 309) rfl ?_
    refine o_isub P (hb hby at_309) (pc' := 310) rfl ?_
    show OG p e below m _ T 310 _ [(.int 8), (.int (pz - (1 : Int32)))]
    refine o_icmp_ge P (hb hby at_310) (by decide) (pc' := 317) (by decide) (pcf := 313) rfl (fun hk => ?_) (fun hk => ?_)
    · refine o_lloadN P (hb hby at_317) rfl (pc' := 318) rfl ?_
      refine o_lstore P (hb hby at_318) (L' := #[.val (.long vx), .second, .val (.long vy), .second, .val (.int fl), .val (.int ii), .val (.int jj), .val (.int pp), .val (.int 0), .val (.ref od), .val (.ref a), .val (.ref b), .val (.long vx), .second, .val (.ref t), .val (.ref u), .val (.int 13), .val (.int 21), .val (.int ia), .val (.int jb), .val (.int 1), .val (.int pz), .val (.int (pz - (1 : Int32))), .val (.long vx), .second]) rfl (pc' := 320) rfl ?_
      refine o_lload P (hb hby at_320) rfl (pc' := 322) rfl ?_
      refine o_lloadN P (hb hby at_322) rfl (pc' := 323) rfl ?_
      refine o_lcmp P (hb hby at_323) (pc' := 324) rfl ?_
      refine o_if_ne P (hb hby at_324) (by decide) (pc' := 351) (by decide) (pcf := 327) rfl (fun q => absurd ((lw_eq _ _).mpr rfl) q) (fun _ => ?_)
      refine o_iload P (hb hby at_327) rfl (pc' := 329) rfl ?_
      refine o_if_eq P (hb hby at_329) (by decide) (pc' := 351) (by decide) (pcf := 332) rfl (fun q => absurd q (by decide)) (fun _ => ?_)
      refine o_aload P (hb hby at_332) rfl rfl (pc' := 334) rfl ?_
      refine o_iload P (hb hby at_334) rfl (pc' := 336) rfl ?_
      refine o_aload P (hb hby at_336) rfl rfl (pc' := 338) rfl ?_
      refine o_callV P (W := 0) (a := a) (ow hw 29 rfl) (ow hw 30 rfl) (o_nfSl (ow hw 32 rfl)) (ow hw 32 rfl) (ow hw 31 rfl) (ow hw 5 rfl) (ow hw 33 rfl) (by decide) F_a.exa (ct_at13od l Z a0 hw EL n0 a ka pz vx vy od oz hg hP.1 hP.2 h12 F_a A_ka ne_a_ka) (o_sfS (List.Mem.head _) (o_sfS (List.Mem.tail _ (List.Mem.head _)) o_sf0)) (by rw [hml]; rfl) (by decide) (by decide) (argsL := [(.int pz), (.ref od)]) (rest := []) (lenOf pd_19 rfl) rfl rfl (Nat.le_of_eq rfl) (hb hby at_338) (pc' := 341) rfl (by decide) (by decide) ?_
      clear P; intro T h13 v13 P K13 q13
      subst q13
      show OG p e below m _ T 341 _ [(.long (og [vx, vy, vy, vx, vy, vy, vx, vy, vx, vy, vy, vx, vy] ((pz - (1 : Int32))).toNatClampNeg))]
      refine o_lload P (hb hby at_341) rfl (pc' := 343) rfl ?_
      refine o_lcmp P (hb hby at_343) (pc' := 344) rfl ?_
      refine o_if_ne P (hb hby at_344) (by decide) (pc' := 351) (by decide) (pcf := 347) rfl (fun q => absurd ((lw_eq _ _).mpr (own_fin13gh hxy hk hR)) q) (fun _ => ?_)
      refine o_iconst P (1 : Int32) (hb hby at_347) rfl (pc' := 348) rfl ?_
      refine o_goto P (hb hby at_348) (by decide) (pc' := 352) (by decide) ?_
      exact o_retI P hret (by simp) rfl (hb hby at_352) (by decide) (by decide) rfl
    · refine o_lloadN P (hb hby at_313) rfl (pc' := 314) rfl ?_
      refine o_goto P (hb hby at_314) (by decide) (pc' := 318) (by decide) ?_
      refine o_lstore P (hb hby at_318) (L' := #[.val (.long vx), .second, .val (.long vy), .second, .val (.int fl), .val (.int ii), .val (.int jj), .val (.int pp), .val (.int 0), .val (.ref od), .val (.ref a), .val (.ref b), .val (.long vx), .second, .val (.ref t), .val (.ref u), .val (.int 13), .val (.int 21), .val (.int ia), .val (.int jb), .val (.int 1), .val (.int pz), .val (.int (pz - (1 : Int32))), .val (.long vy), .second]) rfl (pc' := 320) rfl ?_
      refine o_lload P (hb hby at_320) rfl (pc' := 322) rfl ?_
      refine o_lloadN P (hb hby at_322) rfl (pc' := 323) rfl ?_
      refine o_lcmp P (hb hby at_323) (pc' := 324) rfl ?_
      refine o_if_ne P (hb hby at_324) (by decide) (pc' := 351) (by decide) (pcf := 327) rfl (fun q => absurd ((lw_eq _ _).mpr rfl) q) (fun _ => ?_)
      refine o_iload P (hb hby at_327) rfl (pc' := 329) rfl ?_
      refine o_if_eq P (hb hby at_329) (by decide) (pc' := 351) (by decide) (pcf := 332) rfl (fun q => absurd q (by decide)) (fun _ => ?_)
      refine o_aload P (hb hby at_332) rfl rfl (pc' := 334) rfl ?_
      refine o_iload P (hb hby at_334) rfl (pc' := 336) rfl ?_
      refine o_aload P (hb hby at_336) rfl rfl (pc' := 338) rfl ?_
      refine o_callV P (W := 0) (a := a) (ow hw 29 rfl) (ow hw 30 rfl) (o_nfSl (ow hw 32 rfl)) (ow hw 32 rfl) (ow hw 31 rfl) (ow hw 5 rfl) (ow hw 33 rfl) (by decide) F_a.exa (ct_at13od l Z a0 hw EL n0 a ka pz vx vy od oz hg hP.1 hP.2 h12 F_a A_ka ne_a_ka) (o_sfS (List.Mem.head _) (o_sfS (List.Mem.tail _ (List.Mem.head _)) o_sf0)) (by rw [hml]; rfl) (by decide) (by decide) (argsL := [(.int pz), (.ref od)]) (rest := []) (lenOf pd_19 rfl) rfl rfl (Nat.le_of_eq rfl) (hb hby at_338) (pc' := 341) rfl (by decide) (by decide) ?_
      clear P; intro T h13 v13 P K13 q13
      subst q13
      show OG p e below m _ T 341 _ [(.long (og [vx, vy, vy, vx, vy, vy, vx, vy, vx, vy, vy, vx, vy] ((pz - (1 : Int32))).toNatClampNeg))]
      refine o_lload P (hb hby at_341) rfl (pc' := 343) rfl ?_
      refine o_lcmp P (hb hby at_343) (pc' := 344) rfl ?_
      refine o_if_ne P (hb hby at_344) (by decide) (pc' := 351) (by decide) (pcf := 347) rfl (fun q => absurd ((lw_eq _ _).mpr (own_fin13gl hxy hk hR)) q) (fun _ => ?_)
      refine o_iconst P (1 : Int32) (hb hby at_347) rfl (pc' := 348) rfl ?_
      refine o_goto P (hb hby at_348) (by decide) (pc' := 352) (by decide) ?_
      exact o_retI P hret (by simp) rfl (hb hby at_352) (by decide) (by decide) rfl
  · refine o_iload P (hb hby at_290) rfl (pc' := 292) rfl ?_
    refine o_iconst P (5 : Int32) (hb hby at_292) rfl (pc' := 293) rfl ?_
    refine o_icmp_ge P (hb hby at_293) (by decide) (pc' := 300) (by decide) (pcf := 296) rfl (fun hk => ?_) (fun hk => ?_)
    · refine o_lloadN P (hb hby at_300) rfl (pc' := 301) rfl ?_
      refine o_goto P (hb hby at_301) (by decide) (pc' := 318) (by decide) ?_
      refine o_lstore P (hb hby at_318) (L' := #[.val (.long vx), .second, .val (.long vy), .second, .val (.int fl), .val (.int ii), .val (.int jj), .val (.int pp), .val (.int 0), .val (.ref od), .val (.ref a), .val (.ref b), .val (.long vx), .second, .val (.ref t), .val (.ref u), .val (.int 13), .val (.int 21), .val (.int ia), .val (.int jb), .val (.int 1), .val (.int pz), .val (.int (pz - (1 : Int32))), .val (.long vy), .second]) rfl (pc' := 320) rfl ?_
      refine o_lload P (hb hby at_320) rfl (pc' := 322) rfl ?_
      refine o_lloadN P (hb hby at_322) rfl (pc' := 323) rfl ?_
      refine o_lcmp P (hb hby at_323) (pc' := 324) rfl ?_
      refine o_if_ne P (hb hby at_324) (by decide) (pc' := 351) (by decide) (pcf := 327) rfl (fun q => absurd ((lw_eq _ _).mpr rfl) q) (fun _ => ?_)
      refine o_iload P (hb hby at_327) rfl (pc' := 329) rfl ?_
      refine o_if_eq P (hb hby at_329) (by decide) (pc' := 351) (by decide) (pcf := 332) rfl (fun q => absurd q (by decide)) (fun _ => ?_)
      refine o_aload P (hb hby at_332) rfl rfl (pc' := 334) rfl ?_
      refine o_iload P (hb hby at_334) rfl (pc' := 336) rfl ?_
      refine o_aload P (hb hby at_336) rfl rfl (pc' := 338) rfl ?_
      refine o_callV P (W := 0) (a := a) (ow hw 29 rfl) (ow hw 30 rfl) (o_nfSl (ow hw 32 rfl)) (ow hw 32 rfl) (ow hw 31 rfl) (ow hw 5 rfl) (ow hw 33 rfl) (by decide) F_a.exa (ct_at13od l Z a0 hw EL n0 a ka pz vx vy od oz hg hP.1 hP.2 h12 F_a A_ka ne_a_ka) (o_sfS (List.Mem.head _) (o_sfS (List.Mem.tail _ (List.Mem.head _)) o_sf0)) (by rw [hml]; rfl) (by decide) (by decide) (argsL := [(.int pz), (.ref od)]) (rest := []) (lenOf pd_19 rfl) rfl rfl (Nat.le_of_eq rfl) (hb hby at_338) (pc' := 341) rfl (by decide) (by decide) ?_
      clear P; intro T h13 v13 P K13 q13
      subst q13
      show OG p e below m _ T 341 _ [(.long (og [vx, vy, vy, vx, vy, vy, vx, vy, vx, vy, vy, vx, vy] ((pz - (1 : Int32))).toNatClampNeg))]
      refine o_lload P (hb hby at_341) rfl (pc' := 343) rfl ?_
      refine o_lcmp P (hb hby at_343) (pc' := 344) rfl ?_
      refine o_if_ne P (hb hby at_344) (by decide) (pc' := 351) (by decide) (pcf := 347) rfl (fun q => absurd ((lw_eq _ _).mpr (own_fin13lh hxy hk hR)) q) (fun _ => ?_)
      refine o_iconst P (1 : Int32) (hb hby at_347) rfl (pc' := 348) rfl ?_
      refine o_goto P (hb hby at_348) (by decide) (pc' := 352) (by decide) ?_
      exact o_retI P hret (by simp) rfl (hb hby at_352) (by decide) (by decide) rfl
    · refine o_lloadN P (hb hby at_296) rfl (pc' := 297) rfl ?_
      refine o_goto P (hb hby at_297) (by decide) (pc' := 318) (by decide) ?_
      refine o_lstore P (hb hby at_318) (L' := #[.val (.long vx), .second, .val (.long vy), .second, .val (.int fl), .val (.int ii), .val (.int jj), .val (.int pp), .val (.int 0), .val (.ref od), .val (.ref a), .val (.ref b), .val (.long vx), .second, .val (.ref t), .val (.ref u), .val (.int 13), .val (.int 21), .val (.int ia), .val (.int jb), .val (.int 1), .val (.int pz), .val (.int (pz - (1 : Int32))), .val (.long vx), .second]) rfl (pc' := 320) rfl ?_
      refine o_lload P (hb hby at_320) rfl (pc' := 322) rfl ?_
      refine o_lloadN P (hb hby at_322) rfl (pc' := 323) rfl ?_
      refine o_lcmp P (hb hby at_323) (pc' := 324) rfl ?_
      refine o_if_ne P (hb hby at_324) (by decide) (pc' := 351) (by decide) (pcf := 327) rfl (fun q => absurd ((lw_eq _ _).mpr rfl) q) (fun _ => ?_)
      refine o_iload P (hb hby at_327) rfl (pc' := 329) rfl ?_
      refine o_if_eq P (hb hby at_329) (by decide) (pc' := 351) (by decide) (pcf := 332) rfl (fun q => absurd q (by decide)) (fun _ => ?_)
      refine o_aload P (hb hby at_332) rfl rfl (pc' := 334) rfl ?_
      refine o_iload P (hb hby at_334) rfl (pc' := 336) rfl ?_
      refine o_aload P (hb hby at_336) rfl rfl (pc' := 338) rfl ?_
      refine o_callV P (W := 0) (a := a) (ow hw 29 rfl) (ow hw 30 rfl) (o_nfSl (ow hw 32 rfl)) (ow hw 32 rfl) (ow hw 31 rfl) (ow hw 5 rfl) (ow hw 33 rfl) (by decide) F_a.exa (ct_at13od l Z a0 hw EL n0 a ka pz vx vy od oz hg hP.1 hP.2 h12 F_a A_ka ne_a_ka) (o_sfS (List.Mem.head _) (o_sfS (List.Mem.tail _ (List.Mem.head _)) o_sf0)) (by rw [hml]; rfl) (by decide) (by decide) (argsL := [(.int pz), (.ref od)]) (rest := []) (lenOf pd_19 rfl) rfl rfl (Nat.le_of_eq rfl) (hb hby at_338) (pc' := 341) rfl (by decide) (by decide) ?_
      clear P; intro T h13 v13 P K13 q13
      subst q13
      show OG p e below m _ T 341 _ [(.long (og [vx, vy, vy, vx, vy, vy, vx, vy, vx, vy, vy, vx, vy] ((pz - (1 : Int32))).toNatClampNeg))]
      refine o_lload P (hb hby at_341) rfl (pc' := 343) rfl ?_
      refine o_lcmp P (hb hby at_343) (pc' := 344) rfl ?_
      refine o_if_ne P (hb hby at_344) (by decide) (pc' := 351) (by decide) (pcf := 347) rfl (fun q => absurd ((lw_eq _ _).mpr (own_fin13ll hxy hk hR)) q) (fun _ => ?_)
      refine o_iconst P (1 : Int32) (hb hby at_347) rfl (pc' := 348) rfl ?_
      refine o_goto P (hb hby at_348) (by decide) (pc' := 352) (by decide) ?_
      exact o_retI P hret (by simp) rfl (hb hby at_352) (by decide) (by decide) rfl
theorem law119_13oz {p : Program} {e : Env} {s : State} {m : MethodId} {args : Array Value} {below : List Frame} {meth : Method} {c : Code} {T : State} {n0 : Nat} {h0 : Heap} {Ow : List Addr} (l : Launch) (Z : State) (a0 : Array Value) (hw : OHw Z a0) (EL : List (String × Nat)) (hby : c.code = code) (hml : c.maxLocals = maxLocals) (hret : meth.sig.returnType = ret) (vx vy : Int64) (fl ii jj pp : Int32) (od oz : Addr) (hg : OGp Z od oz) (cv : Int32) (hcs : Sta Z Z.heap "java/lang/String" "COMPACT_STRINGS" "Z" (.int cv)) (hcv : ¬ cv = 0) (fv : Value) (hfv : Sta Z Z.heap "jdk/internal/util/Preconditions" "SIOOBE_FORMATTER" "Ljava/util/function/BiFunction;" fv) (hfr : fv.isRef = true) (hm37 : (kW, 37) ∈ EL) (hm39 : (kW, 39) ∈ EL) (hm41 : (kW, 41) ∈ EL) (hm43 : (kW, 43) ∈ EL) (a ka b kb : Addr) (F_a : OObj Z h0 a kK [(kK, "keys", "[J", (.ref ka)), (kK, "size", "I", (.int 13)), (kK, "selection", kSd, .null)]) (A_ka : OArr Z h0 ka .long [(.long vx), (.long vy), (.long vy), (.long vx), (.long vy), (.long vy), (.long vx), (.long vy), (.long vx), (.long vy), (.long vy), (.long vx), (.long vy), (.long 0), (.long 0), (.long 0)]) (F_b : OObj Z h0 b kK [(kK, "keys", "[J", (.ref kb)), (kK, "size", "I", (.int 21)), (kK, "selection", kSd, .null)]) (A_kb : OArr Z h0 kb .long [(.long vy), (.long vx), (.long vy), (.long vx), (.long vy), (.long vy), (.long vx), (.long vy), (.long vx), (.long vy), (.long vy), (.long vx), (.long vy), (.long vy), (.long vx), (.long vy), (.long vx), (.long vy), (.long vy), (.long vx), (.long vy), (.long 0), (.long 0), (.long 0), (.long 0), (.long 0), (.long 0), (.long 0), (.long 0), (.long 0), (.long 0), (.long 0)]) (ne_a_ka : a ≠ ka) (ne_b_kb : b ≠ kb) (hao : a ∈ Ow) (hko : ka ∈ Ow) (P : OPn p l e room_1 s m args below meth c Z a0 EL n0 [] kW T h0 Ow 14 140) :
    OG p e below m (OFq Z EL n0 s [] room_1 (fun w vm h => w = some (.int 1))) T 119 #[.val (.long vx), .second, .val (.long vy), .second, .val (.int fl), .val (.int ii), .val (.int jj), .val (.int pp), .val (.int 0), .val (.ref oz), .val (.ref a), .val (.ref b), .val (.long vx), .second, .unset, .unset, .unset, .unset, .unset, .unset, .unset, .unset, .unset, .unset, .unset] [] := by
  replace P := P.less (Ow' := [a, ka]) (fun x hx => by rcases List.mem_cons.mp hx with rfl | hx; exact hao; rw [List.mem_singleton.mp hx]; exact hko)
  refine o_iload P (hb hby at_119) rfl (pc' := 121) rfl ?_
  refine o_if_eq P (hb hby at_121) (by decide) (pc' := 129) (by decide) (pcf := 124) rfl (fun _ => ?_) (fun q => absurd (by decide) q)
  refine o_ldcS P (n := 52) (vs := och [120, 121, 121, 120, 121, 121, 120, 121, 120, 121, 121, 120, 121]) (ow hw 124 rfl) (own_wS hw) hm39 (Or.inr (ow hw 128 rfl)) (Or.inr (ow hw 129 rfl)) ⟨by decide, by decide +kernel⟩ (13 : Int32) (by decide) rfl (hb hby at_129) (pc' := 131) rfl (by decide) (by decide) (by decide) (by decide) ?_
  clear P; intro T h1 t tx P K1 G_t _
  replace F_a := F_a.keep K1 nin0
  replace F_b := F_b.keep K1 nin0
  replace A_ka := A_ka.keep K1 nin0
  replace A_kb := A_kb.keep K1 nin0
  clear K1
  refine o_astore P (hb hby at_131) rfl (L' := #[.val (.long vx), .second, .val (.long vy), .second, .val (.int fl), .val (.int ii), .val (.int jj), .val (.int pp), .val (.int 0), .val (.ref oz), .val (.ref a), .val (.ref b), .val (.long vx), .second, .val (.ref t), .unset, .unset, .unset, .unset, .unset, .unset, .unset, .unset, .unset, .unset]) rfl (pc' := 133) rfl ?_
  refine o_iload P (hb hby at_133) rfl (pc' := 135) rfl ?_
  refine o_if_eq P (hb hby at_135) (by decide) (pc' := 143) (by decide) (pcf := 138) rfl (fun _ => ?_) (fun q => absurd (by decide) q)
  refine o_ldcS P (n := 84) (vs := och [121, 120, 121, 120, 121, 121, 120, 121, 120, 121, 121, 120, 121, 121, 120, 121, 120, 121, 121, 120, 121]) (ow hw 132 rfl) (own_wS hw) hm43 (Or.inr (ow hw 128 rfl)) (Or.inr (ow hw 129 rfl)) ⟨by decide, by decide +kernel⟩ (21 : Int32) (by decide) rfl (hb hby at_143) (pc' := 145) rfl (by decide) (by decide) (by decide) (by decide) ?_
  clear P; intro T h2 u ux P K2 G_u _
  replace G_t := G_t.keep K2 nin0 nin0
  replace F_a := F_a.keep K2 nin0
  replace F_b := F_b.keep K2 nin0
  replace A_ka := A_ka.keep K2 nin0
  replace A_kb := A_kb.keep K2 nin0
  clear K2
  refine o_astore P (hb hby at_145) rfl (L' := #[.val (.long vx), .second, .val (.long vy), .second, .val (.int fl), .val (.int ii), .val (.int jj), .val (.int pp), .val (.int 0), .val (.ref oz), .val (.ref a), .val (.ref b), .val (.long vx), .second, .val (.ref t), .val (.ref u), .unset, .unset, .unset, .unset, .unset, .unset, .unset, .unset, .unset]) rfl (pc' := 147) rfl ?_
  refine o_aload P (hb hby at_147) rfl rfl (pc' := 149) rfl ?_
  have F_t := G_t.1
  refine o_callV P (W := 0) (a := t) (ow hw 133 rfl) (ow hw 134 rfl) (o_nfSl (ow hw 136 rfl)) (ow hw 136 rfl) (ow hw 135 rfl) (ow hw 125 rfl) (ow hw 137 rfl) (by decide) F_t.exa (ct_len l Z a0 hw EL n0 t tx [120, 121, 121, 120, 121, 121, 120, 121, 120, 121, 121, 120, 121] cv hcs hcv h2 G_t) o_sf0 (by rw [hml]; rfl) (by decide) (by decide) (argsL := []) (rest := []) (lenOf pd_17 rfl) rfl rfl (Nat.le_of_eq rfl) (hb hby at_149) (pc' := 152) rfl (by decide) (by decide) ?_
  clear P; intro T h3 v3 P K3 q3
  obtain ⟨rfl, rfl⟩ := q3; clear K3 F_t
  show OG p e below m _ T 152 _ [(.int 13)]
  refine o_istore P (hb hby at_152) (L' := #[.val (.long vx), .second, .val (.long vy), .second, .val (.int fl), .val (.int ii), .val (.int jj), .val (.int pp), .val (.int 0), .val (.ref oz), .val (.ref a), .val (.ref b), .val (.long vx), .second, .val (.ref t), .val (.ref u), .val (.int 13), .unset, .unset, .unset, .unset, .unset, .unset, .unset, .unset]) rfl (pc' := 154) rfl ?_
  refine o_aload P (hb hby at_154) rfl rfl (pc' := 156) rfl ?_
  have F_u := G_u.1
  refine o_callV P (W := 0) (a := u) (ow hw 133 rfl) (ow hw 134 rfl) (o_nfSl (ow hw 136 rfl)) (ow hw 136 rfl) (ow hw 135 rfl) (ow hw 125 rfl) (ow hw 137 rfl) (by decide) F_u.exa (ct_len l Z a0 hw EL n0 u ux [121, 120, 121, 120, 121, 121, 120, 121, 120, 121, 121, 120, 121, 121, 120, 121, 120, 121, 121, 120, 121] cv hcs hcv h3 G_u) o_sf0 (by rw [hml]; rfl) (by decide) (by decide) (argsL := []) (rest := []) (lenOf pd_17 rfl) rfl rfl (Nat.le_of_eq rfl) (hb hby at_156) (pc' := 159) rfl (by decide) (by decide) ?_
  clear P; intro T h4 v4 P K4 q4
  obtain ⟨rfl, rfl⟩ := q4; clear K4 F_u
  show OG p e below m _ T 159 _ [(.int 21)]
  refine o_istore P (hb hby at_159) (L' := #[.val (.long vx), .second, .val (.long vy), .second, .val (.int fl), .val (.int ii), .val (.int jj), .val (.int pp), .val (.int 0), .val (.ref oz), .val (.ref a), .val (.ref b), .val (.long vx), .second, .val (.ref t), .val (.ref u), .val (.int 13), .val (.int 21), .unset, .unset, .unset, .unset, .unset, .unset, .unset]) rfl (pc' := 161) rfl ?_
  refine o_aload P (hb hby at_161) rfl rfl (pc' := 163) rfl ?_
  refine o_callV P (W := 0) (a := a) (ow hw 146 rfl) (ow hw 147 rfl) (o_nfSl (ow hw 149 rfl)) (ow hw 149 rfl) (ow hw 148 rfl) (ow hw 5 rfl) (ow hw 150 rfl) (by decide) F_a.exa (ct_e89 l Z a0 hw EL n0 a ka vx vy od oz hg h4 F_a A_ka ne_a_ka) o_sf0 (by rw [hml]; rfl) (by decide) (by decide) (argsL := []) (rest := []) (lenOf pd_17 rfl) rfl rfl (Nat.le_of_eq rfl) (hb hby at_163) (pc' := 166) rfl (by decide) (by decide) ?_
  clear P; intro T h6 v6 P K6 q6
  obtain ⟨rfl, rfl⟩ := q6; clear K6
  show OG p e below m _ T 166 _ [(.int 13)]
  refine o_iload P (hb hby at_166) rfl (pc' := 168) rfl ?_
  refine o_icmp_ne P (hb hby at_168) (by decide) (pc' := 181) (by decide) (pcf := 171) rfl (fun q => absurd (by decide) q) (fun _ => ?_)
  refine o_aload P (hb hby at_171) rfl rfl (pc' := 173) rfl ?_
  refine o_callV P (W := 0) (a := b) (ow hw 146 rfl) (ow hw 147 rfl) (o_nfSl (ow hw 149 rfl)) (ow hw 149 rfl) (ow hw 148 rfl) (ow hw 5 rfl) (ow hw 150 rfl) (by decide) F_b.exa (ct_e90 l Z a0 hw EL n0 b kb vy vx od oz hg h6 F_b A_kb ne_b_kb) o_sf0 (by rw [hml]; rfl) (by decide) (by decide) (argsL := []) (rest := []) (lenOf pd_17 rfl) rfl rfl (Nat.le_of_eq rfl) (hb hby at_173) (pc' := 176) rfl (by decide) (by decide) ?_
  clear P; intro T h8 v8 P K8 q8
  obtain ⟨rfl, rfl⟩ := q8; clear K8
  show OG p e below m _ T 176 _ [(.int 21)]
  refine o_iload P (hb hby at_176) rfl (pc' := 178) rfl ?_
  refine o_icmp_eq P (hb hby at_178) (by decide) (pc' := 183) (by decide) (pcf := 181) rfl (fun _ => ?_) (fun q => absurd (by decide) q)
  refine o_iload P (hb hby at_183) rfl (pc' := 185) rfl ?_
  refine o_ldcI P (ow hw 151 rfl) (hb hby at_185) (pc' := 187) rfl ?_
  refine o_iand P (hb hby at_187) (pc' := 188) rfl ?_
  refine o_iload P (hb hby at_188) rfl (pc' := 190) rfl ?_
  refine o_irem P (hb hby at_190) (by decide) (pc' := 191) rfl ?_
  have hA := own_mod13 ii; generalize (ii &&& (2147483647 : Int32)) % (13 : Int32) = ia at hA ⊢
  refine o_istore P (hb hby at_191) (L' := #[.val (.long vx), .second, .val (.long vy), .second, .val (.int fl), .val (.int ii), .val (.int jj), .val (.int pp), .val (.int 0), .val (.ref oz), .val (.ref a), .val (.ref b), .val (.long vx), .second, .val (.ref t), .val (.ref u), .val (.int 13), .val (.int 21), .val (.int ia), .unset, .unset, .unset, .unset, .unset, .unset]) rfl (pc' := 193) rfl ?_
  refine o_iload P (hb hby at_193) rfl (pc' := 195) rfl ?_
  refine o_ldcI P (ow hw 151 rfl) (hb hby at_195) (pc' := 197) rfl ?_
  refine o_iand P (hb hby at_197) (pc' := 198) rfl ?_
  refine o_iload P (hb hby at_198) rfl (pc' := 200) rfl ?_
  refine o_irem P (hb hby at_200) (by decide) (pc' := 201) rfl ?_
  have hB := own_mod21 jj; generalize (jj &&& (2147483647 : Int32)) % (21 : Int32) = jb at hB ⊢
  refine o_istore P (hb hby at_201) (L' := #[.val (.long vx), .second, .val (.long vy), .second, .val (.int fl), .val (.int ii), .val (.int jj), .val (.int pp), .val (.int 0), .val (.ref oz), .val (.ref a), .val (.ref b), .val (.long vx), .second, .val (.ref t), .val (.ref u), .val (.int 13), .val (.int 21), .val (.int ia), .val (.int jb), .unset, .unset, .unset, .unset, .unset]) rfl (pc' := 203) rfl ?_
  refine o_aload P (hb hby at_203) rfl rfl (pc' := 205) rfl ?_
  refine o_iload P (hb hby at_205) rfl (pc' := 207) rfl ?_
  refine o_callV P (W := 0) (a := a) (ow hw 152 rfl) (ow hw 153 rfl) (o_nfSl (ow hw 155 rfl)) (ow hw 155 rfl) (ow hw 154 rfl) (ow hw 5 rfl) (ow hw 156 rfl) (by decide) F_a.exa (ct_getA13 l Z a0 hw EL n0 a ka ia vx vy hA h8 F_a A_ka) o_sf0 (by rw [hml]; rfl) (by decide) (by decide) (argsL := [(.int ia)]) (rest := []) (lenOf pd_11 rfl) rfl rfl (Nat.le_of_eq rfl) (hb hby at_207) (pc' := 210) rfl (by decide) (by decide) ?_
  clear P; intro T h9 v9 P K9 q9
  obtain ⟨rfl, rfl⟩ := q9; clear K9
  show OG p e below m _ T 210 _ [(.long (opk [false, true, true, false, true, true, false, true, false, true, true, false, true] vx vy ia.toNatClampNeg))]
  refine o_aload P (hb hby at_210) rfl rfl (pc' := 212) rfl ?_
  refine o_iload P (hb hby at_212) rfl (pc' := 214) rfl ?_
  refine o_lloadN P (hb hby at_214) rfl (pc' := 215) rfl ?_
  refine o_lloadN P (hb hby at_215) rfl (pc' := 216) rfl ?_
  refine o_callS P (W := 2) (ow hw 157 rfl) (ow hw 158 rfl) (ow hw 159 rfl) (ow hw 160 rfl) (by decide) (ct_pick l Z a0 hw EL n0 t tx ia [120, 121, 121, 120, 121, 121, 120, 121, 120, 121, 121, 120, 121] [false, true, true, false, true, true, false, true, false, true, true, false, true] vx vy fv hfv hfr cv hcs hcv (own_nn ia hA.1) (by rcases own_rng13 ia hA.1 (by omega) with rfl | rfl | rfl | rfl | rfl | rfl | rfl | rfl | rfl | rfl | rfl | rfl | rfl <;> rfl) h9 G_t) o_sf0 (by rw [hml]; rfl) (by decide) (by decide) (argsL := [(.ref t), (.int ia), (.long vx), (.long vy)]) (rest := [(.long (opk [false, true, true, false, true, true, false, true, false, true, true, false, true] vx vy ia.toNatClampNeg))]) (lenOf pd_18 rfl) rfl rfl (Nat.le_of_eq rfl) (hb hby at_216) (pc' := 219) rfl (by decide) (by decide) ?_
  clear P; intro T h10 v10 P K10 q10
  obtain ⟨rfl, rfl⟩ := q10; clear K10
  show OG p e below m _ T 219 _ [(.long (opk [false, true, true, false, true, true, false, true, false, true, true, false, true] vx vy ia.toNatClampNeg)), (.long (opk [false, true, true, false, true, true, false, true, false, true, true, false, true] vx vy ia.toNatClampNeg))]
  refine o_lcmp P (hb hby at_219) (pc' := 220) rfl ?_
  refine o_if_ne P (hb hby at_220) (by decide) (pc' := 247) (by decide) (pcf := 223) rfl (fun q => absurd ((lw_eq _ _).mpr rfl) q) (fun _ => ?_)
  refine o_aload P (hb hby at_223) rfl rfl (pc' := 225) rfl ?_
  refine o_iload P (hb hby at_225) rfl (pc' := 227) rfl ?_
  refine o_callV P (W := 0) (a := b) (ow hw 152 rfl) (ow hw 153 rfl) (o_nfSl (ow hw 155 rfl)) (ow hw 155 rfl) (ow hw 154 rfl) (ow hw 5 rfl) (ow hw 156 rfl) (by decide) F_b.exa (ct_getB13 l Z a0 hw EL n0 b kb jb vx vy hB h10 F_b A_kb) o_sf0 (by rw [hml]; rfl) (by decide) (by decide) (argsL := [(.int jb)]) (rest := []) (lenOf pd_11 rfl) rfl rfl (Nat.le_of_eq rfl) (hb hby at_227) (pc' := 230) rfl (by decide) (by decide) ?_
  clear P; intro T h11 v11 P K11 q11
  obtain ⟨rfl, rfl⟩ := q11; clear K11
  show OG p e below m _ T 230 _ [(.long (opk [true, false, true, false, true, true, false, true, false, true, true, false, true, true, false, true, false, true, true, false, true] vx vy jb.toNatClampNeg))]
  refine o_aload P (hb hby at_230) rfl rfl (pc' := 232) rfl ?_
  refine o_iload P (hb hby at_232) rfl (pc' := 234) rfl ?_
  refine o_lloadN P (hb hby at_234) rfl (pc' := 235) rfl ?_
  refine o_lloadN P (hb hby at_235) rfl (pc' := 236) rfl ?_
  refine o_callS P (W := 2) (ow hw 157 rfl) (ow hw 158 rfl) (ow hw 159 rfl) (ow hw 160 rfl) (by decide) (ct_pick l Z a0 hw EL n0 u ux jb [121, 120, 121, 120, 121, 121, 120, 121, 120, 121, 121, 120, 121, 121, 120, 121, 120, 121, 121, 120, 121] [true, false, true, false, true, true, false, true, false, true, true, false, true, true, false, true, false, true, true, false, true] vx vy fv hfv hfr cv hcs hcv (own_nn jb hB.1) (by rcases own_rng21 jb hB.1 (by omega) with rfl | rfl | rfl | rfl | rfl | rfl | rfl | rfl | rfl | rfl | rfl | rfl | rfl | rfl | rfl | rfl | rfl | rfl | rfl | rfl | rfl <;> rfl) h11 G_u) o_sf0 (by rw [hml]; rfl) (by decide) (by decide) (argsL := [(.ref u), (.int jb), (.long vx), (.long vy)]) (rest := [(.long (opk [true, false, true, false, true, true, false, true, false, true, true, false, true, true, false, true, false, true, true, false, true] vx vy jb.toNatClampNeg))]) (lenOf pd_18 rfl) rfl rfl (Nat.le_of_eq rfl) (hb hby at_236) (pc' := 239) rfl (by decide) (by decide) ?_
  clear P; intro T h12 v12 P K12 q12
  obtain ⟨rfl, rfl⟩ := q12; clear K12
  show OG p e below m _ T 239 _ [(.long (opk [true, false, true, false, true, true, false, true, false, true, true, false, true, true, false, true, false, true, true, false, true] vx vy jb.toNatClampNeg)), (.long (opk [true, false, true, false, true, true, false, true, false, true, true, false, true, true, false, true, false, true, true, false, true] vx vy jb.toNatClampNeg))]
  refine o_lcmp P (hb hby at_239) (pc' := 240) rfl ?_
  refine o_if_ne P (hb hby at_240) (by decide) (pc' := 247) (by decide) (pcf := 243) rfl (fun q => absurd ((lw_eq _ _).mpr rfl) q) (fun _ => ?_)
  refine o_iconst P (1 : Int32) (hb hby at_243) rfl (pc' := 244) rfl ?_
  refine o_goto P (hb hby at_244) (by decide) (pc' := 248) (by decide) ?_
  refine o_istore P (hb hby at_248) (L' := #[.val (.long vx), .second, .val (.long vy), .second, .val (.int fl), .val (.int ii), .val (.int jj), .val (.int pp), .val (.int 0), .val (.ref oz), .val (.ref a), .val (.ref b), .val (.long vx), .second, .val (.ref t), .val (.ref u), .val (.int 13), .val (.int 21), .val (.int ia), .val (.int jb), .val (.int 1), .unset, .unset, .unset, .unset]) rfl (pc' := 250) rfl ?_
  refine o_iload P (hb hby at_250) rfl (pc' := 252) rfl ?_
  refine o_ldcI P (ow hw 151 rfl) (hb hby at_252) (pc' := 254) rfl ?_
  refine o_iand P (hb hby at_254) (pc' := 255) rfl ?_
  refine o_iload P (hb hby at_255) rfl (pc' := 257) rfl ?_
  refine o_irem P (hb hby at_257) (by decide) (pc' := 258) rfl ?_
  refine o_iconst P (1 : Int32) (hb hby at_258) rfl (pc' := 259) rfl ?_
  refine o_iadd P (hb hby at_259) (pc' := 260) rfl ?_
  have hP := own_posn13 pp; generalize ((pp &&& (2147483647 : Int32)) % (13 : Int32)) + (1 : Int32) = pz at hP ⊢
  refine o_istore P (hb hby at_260) (L' := #[.val (.long vx), .second, .val (.long vy), .second, .val (.int fl), .val (.int ii), .val (.int jj), .val (.int pp), .val (.int 0), .val (.ref oz), .val (.ref a), .val (.ref b), .val (.long vx), .second, .val (.ref t), .val (.ref u), .val (.int 13), .val (.int 21), .val (.int ia), .val (.int jb), .val (.int 1), .val (.int pz), .unset, .unset, .unset]) rfl (pc' := 262) rfl ?_
  refine o_aload P (hb hby at_262) rfl rfl (pc' := 264) rfl ?_
  refine o_getS P (ow hw 0 rfl) Via.refl hg.2.1 (hb hby at_264) (pc' := 267) rfl ?_
  clear P; intro T P
  refine o_acmp P false (hb hby at_267) rfl rfl (decide_eq_false fun q => hg.2.2.2 (Value.ref.inj q)) (by decide) (pc' := 277) rfl ?_
  refine o_iload P (hb hby at_277) rfl (pc' := 279) rfl ?_
  refine o_iload P (hb hby at_279) rfl (pc' := 281) rfl ?_
  refine o_isub P (hb hby at_281) (pc' := 282) rfl ?_
  refine o_istore P (hb hby at_282) (L' := #[.val (.long vx), .second, .val (.long vy), .second, .val (.int fl), .val (.int ii), .val (.int jj), .val (.int pp), .val (.int 0), .val (.ref oz), .val (.ref a), .val (.ref b), .val (.long vx), .second, .val (.ref t), .val (.ref u), .val (.int 13), .val (.int 21), .val (.int ia), .val (.int jb), .val (.int 1), .val (.int pz), .val (.int ((13 : Int32) - pz)), .unset, .unset]) rfl (pc' := 284) rfl ?_
  refine o_lloadN P (hb hby at_284) rfl (pc' := 285) rfl ?_
  refine o_lloadN P (hb hby at_285) rfl (pc' := 286) rfl ?_
  refine o_lcmp P (hb hby at_286) (pc' := 287) rfl ?_
  have hR := own_rz13 pz hP.1 hP.2
  refine o_if_gt P (hb hby at_287) (by decide) (pc' := 304) (by decide) (pcf := 290) rfl (fun hxy => ?_) (fun hxy => ?_)
  · refine o_iload P (hb hby at_304) rfl (pc' := 306) rfl ?_
    refine o_iload P (hb hby at_306) rfl (pc' := 308) rfl ?_
    refine o_iconst P (5 : Int32) (hb hby at_308) rfl (pc' := 309) rfl ?_
    refine o_isub P (hb hby at_309) (pc' := 310) rfl ?_
    show OG p e below m _ T 310 _ [(.int 8), (.int ((13 : Int32) - pz))]
    refine o_icmp_ge P (hb hby at_310) (by decide) (pc' := 317) (by decide) (pcf := 313) rfl (fun hk => ?_) (fun hk => ?_)
    · refine o_lloadN P (hb hby at_317) rfl (pc' := 318) rfl ?_
      refine o_lstore P (hb hby at_318) (L' := #[.val (.long vx), .second, .val (.long vy), .second, .val (.int fl), .val (.int ii), .val (.int jj), .val (.int pp), .val (.int 0), .val (.ref oz), .val (.ref a), .val (.ref b), .val (.long vx), .second, .val (.ref t), .val (.ref u), .val (.int 13), .val (.int 21), .val (.int ia), .val (.int jb), .val (.int 1), .val (.int pz), .val (.int ((13 : Int32) - pz)), .val (.long vx), .second]) rfl (pc' := 320) rfl ?_
      refine o_lload P (hb hby at_320) rfl (pc' := 322) rfl ?_
      refine o_lloadN P (hb hby at_322) rfl (pc' := 323) rfl ?_
      refine o_lcmp P (hb hby at_323) (pc' := 324) rfl ?_
      refine o_if_ne P (hb hby at_324) (by decide) (pc' := 351) (by decide) (pcf := 327) rfl (fun q => absurd ((lw_eq _ _).mpr rfl) q) (fun _ => ?_)
      refine o_iload P (hb hby at_327) rfl (pc' := 329) rfl ?_
      refine o_if_eq P (hb hby at_329) (by decide) (pc' := 351) (by decide) (pcf := 332) rfl (fun q => absurd q (by decide)) (fun _ => ?_)
      refine o_aload P (hb hby at_332) rfl rfl (pc' := 334) rfl ?_
      refine o_iload P (hb hby at_334) rfl (pc' := 336) rfl ?_
      refine o_aload P (hb hby at_336) rfl rfl (pc' := 338) rfl ?_
      refine o_callV P (W := 0) (a := a) (ow hw 29 rfl) (ow hw 30 rfl) (o_nfSl (ow hw 32 rfl)) (ow hw 32 rfl) (ow hw 31 rfl) (ow hw 5 rfl) (ow hw 33 rfl) (by decide) F_a.exa (ct_at13oz l Z a0 hw EL n0 a ka pz vx vy od oz hg hP.1 hP.2 h12 F_a A_ka ne_a_ka) (o_sfS (List.Mem.head _) (o_sfS (List.Mem.tail _ (List.Mem.head _)) o_sf0)) (by rw [hml]; rfl) (by decide) (by decide) (argsL := [(.int pz), (.ref oz)]) (rest := []) (lenOf pd_19 rfl) rfl rfl (Nat.le_of_eq rfl) (hb hby at_338) (pc' := 341) rfl (by decide) (by decide) ?_
      clear P; intro T h13 v13 P K13 q13
      subst q13
      show OG p e below m _ T 341 _ [(.long (og [vx, vy, vy, vx, vy, vy, vx, vy, vx, vy, vy, vx, vy] (((13 : Int32) - pz)).toNatClampNeg))]
      refine o_lload P (hb hby at_341) rfl (pc' := 343) rfl ?_
      refine o_lcmp P (hb hby at_343) (pc' := 344) rfl ?_
      refine o_if_ne P (hb hby at_344) (by decide) (pc' := 351) (by decide) (pcf := 347) rfl (fun q => absurd ((lw_eq _ _).mpr (own_fin13gh hxy hk hR)) q) (fun _ => ?_)
      refine o_iconst P (1 : Int32) (hb hby at_347) rfl (pc' := 348) rfl ?_
      refine o_goto P (hb hby at_348) (by decide) (pc' := 352) (by decide) ?_
      exact o_retI P hret (by simp) rfl (hb hby at_352) (by decide) (by decide) rfl
    · refine o_lloadN P (hb hby at_313) rfl (pc' := 314) rfl ?_
      refine o_goto P (hb hby at_314) (by decide) (pc' := 318) (by decide) ?_
      refine o_lstore P (hb hby at_318) (L' := #[.val (.long vx), .second, .val (.long vy), .second, .val (.int fl), .val (.int ii), .val (.int jj), .val (.int pp), .val (.int 0), .val (.ref oz), .val (.ref a), .val (.ref b), .val (.long vx), .second, .val (.ref t), .val (.ref u), .val (.int 13), .val (.int 21), .val (.int ia), .val (.int jb), .val (.int 1), .val (.int pz), .val (.int ((13 : Int32) - pz)), .val (.long vy), .second]) rfl (pc' := 320) rfl ?_
      refine o_lload P (hb hby at_320) rfl (pc' := 322) rfl ?_
      refine o_lloadN P (hb hby at_322) rfl (pc' := 323) rfl ?_
      refine o_lcmp P (hb hby at_323) (pc' := 324) rfl ?_
      refine o_if_ne P (hb hby at_324) (by decide) (pc' := 351) (by decide) (pcf := 327) rfl (fun q => absurd ((lw_eq _ _).mpr rfl) q) (fun _ => ?_)
      refine o_iload P (hb hby at_327) rfl (pc' := 329) rfl ?_
      refine o_if_eq P (hb hby at_329) (by decide) (pc' := 351) (by decide) (pcf := 332) rfl (fun q => absurd q (by decide)) (fun _ => ?_)
      refine o_aload P (hb hby at_332) rfl rfl (pc' := 334) rfl ?_
      refine o_iload P (hb hby at_334) rfl (pc' := 336) rfl ?_
      refine o_aload P (hb hby at_336) rfl rfl (pc' := 338) rfl ?_
      refine o_callV P (W := 0) (a := a) (ow hw 29 rfl) (ow hw 30 rfl) (o_nfSl (ow hw 32 rfl)) (ow hw 32 rfl) (ow hw 31 rfl) (ow hw 5 rfl) (ow hw 33 rfl) (by decide) F_a.exa (ct_at13oz l Z a0 hw EL n0 a ka pz vx vy od oz hg hP.1 hP.2 h12 F_a A_ka ne_a_ka) (o_sfS (List.Mem.head _) (o_sfS (List.Mem.tail _ (List.Mem.head _)) o_sf0)) (by rw [hml]; rfl) (by decide) (by decide) (argsL := [(.int pz), (.ref oz)]) (rest := []) (lenOf pd_19 rfl) rfl rfl (Nat.le_of_eq rfl) (hb hby at_338) (pc' := 341) rfl (by decide) (by decide) ?_
      clear P; intro T h13 v13 P K13 q13
      subst q13
      show OG p e below m _ T 341 _ [(.long (og [vx, vy, vy, vx, vy, vy, vx, vy, vx, vy, vy, vx, vy] (((13 : Int32) - pz)).toNatClampNeg))]
      refine o_lload P (hb hby at_341) rfl (pc' := 343) rfl ?_
      refine o_lcmp P (hb hby at_343) (pc' := 344) rfl ?_
      refine o_if_ne P (hb hby at_344) (by decide) (pc' := 351) (by decide) (pcf := 347) rfl (fun q => absurd ((lw_eq _ _).mpr (own_fin13gl hxy hk hR)) q) (fun _ => ?_)
      refine o_iconst P (1 : Int32) (hb hby at_347) rfl (pc' := 348) rfl ?_
      refine o_goto P (hb hby at_348) (by decide) (pc' := 352) (by decide) ?_
      exact o_retI P hret (by simp) rfl (hb hby at_352) (by decide) (by decide) rfl
  · refine o_iload P (hb hby at_290) rfl (pc' := 292) rfl ?_
    refine o_iconst P (5 : Int32) (hb hby at_292) rfl (pc' := 293) rfl ?_
    refine o_icmp_ge P (hb hby at_293) (by decide) (pc' := 300) (by decide) (pcf := 296) rfl (fun hk => ?_) (fun hk => ?_)
    · refine o_lloadN P (hb hby at_300) rfl (pc' := 301) rfl ?_
      refine o_goto P (hb hby at_301) (by decide) (pc' := 318) (by decide) ?_
      refine o_lstore P (hb hby at_318) (L' := #[.val (.long vx), .second, .val (.long vy), .second, .val (.int fl), .val (.int ii), .val (.int jj), .val (.int pp), .val (.int 0), .val (.ref oz), .val (.ref a), .val (.ref b), .val (.long vx), .second, .val (.ref t), .val (.ref u), .val (.int 13), .val (.int 21), .val (.int ia), .val (.int jb), .val (.int 1), .val (.int pz), .val (.int ((13 : Int32) - pz)), .val (.long vy), .second]) rfl (pc' := 320) rfl ?_
      refine o_lload P (hb hby at_320) rfl (pc' := 322) rfl ?_
      refine o_lloadN P (hb hby at_322) rfl (pc' := 323) rfl ?_
      refine o_lcmp P (hb hby at_323) (pc' := 324) rfl ?_
      refine o_if_ne P (hb hby at_324) (by decide) (pc' := 351) (by decide) (pcf := 327) rfl (fun q => absurd ((lw_eq _ _).mpr rfl) q) (fun _ => ?_)
      refine o_iload P (hb hby at_327) rfl (pc' := 329) rfl ?_
      refine o_if_eq P (hb hby at_329) (by decide) (pc' := 351) (by decide) (pcf := 332) rfl (fun q => absurd q (by decide)) (fun _ => ?_)
      refine o_aload P (hb hby at_332) rfl rfl (pc' := 334) rfl ?_
      refine o_iload P (hb hby at_334) rfl (pc' := 336) rfl ?_
      refine o_aload P (hb hby at_336) rfl rfl (pc' := 338) rfl ?_
      refine o_callV P (W := 0) (a := a) (ow hw 29 rfl) (ow hw 30 rfl) (o_nfSl (ow hw 32 rfl)) (ow hw 32 rfl) (ow hw 31 rfl) (ow hw 5 rfl) (ow hw 33 rfl) (by decide) F_a.exa (ct_at13oz l Z a0 hw EL n0 a ka pz vx vy od oz hg hP.1 hP.2 h12 F_a A_ka ne_a_ka) (o_sfS (List.Mem.head _) (o_sfS (List.Mem.tail _ (List.Mem.head _)) o_sf0)) (by rw [hml]; rfl) (by decide) (by decide) (argsL := [(.int pz), (.ref oz)]) (rest := []) (lenOf pd_19 rfl) rfl rfl (Nat.le_of_eq rfl) (hb hby at_338) (pc' := 341) rfl (by decide) (by decide) ?_
      clear P; intro T h13 v13 P K13 q13
      subst q13
      show OG p e below m _ T 341 _ [(.long (og [vx, vy, vy, vx, vy, vy, vx, vy, vx, vy, vy, vx, vy] (((13 : Int32) - pz)).toNatClampNeg))]
      refine o_lload P (hb hby at_341) rfl (pc' := 343) rfl ?_
      refine o_lcmp P (hb hby at_343) (pc' := 344) rfl ?_
      refine o_if_ne P (hb hby at_344) (by decide) (pc' := 351) (by decide) (pcf := 347) rfl (fun q => absurd ((lw_eq _ _).mpr (own_fin13lh hxy hk hR)) q) (fun _ => ?_)
      refine o_iconst P (1 : Int32) (hb hby at_347) rfl (pc' := 348) rfl ?_
      refine o_goto P (hb hby at_348) (by decide) (pc' := 352) (by decide) ?_
      exact o_retI P hret (by simp) rfl (hb hby at_352) (by decide) (by decide) rfl
    · refine o_lloadN P (hb hby at_296) rfl (pc' := 297) rfl ?_
      refine o_goto P (hb hby at_297) (by decide) (pc' := 318) (by decide) ?_
      refine o_lstore P (hb hby at_318) (L' := #[.val (.long vx), .second, .val (.long vy), .second, .val (.int fl), .val (.int ii), .val (.int jj), .val (.int pp), .val (.int 0), .val (.ref oz), .val (.ref a), .val (.ref b), .val (.long vx), .second, .val (.ref t), .val (.ref u), .val (.int 13), .val (.int 21), .val (.int ia), .val (.int jb), .val (.int 1), .val (.int pz), .val (.int ((13 : Int32) - pz)), .val (.long vx), .second]) rfl (pc' := 320) rfl ?_
      refine o_lload P (hb hby at_320) rfl (pc' := 322) rfl ?_
      refine o_lloadN P (hb hby at_322) rfl (pc' := 323) rfl ?_
      refine o_lcmp P (hb hby at_323) (pc' := 324) rfl ?_
      refine o_if_ne P (hb hby at_324) (by decide) (pc' := 351) (by decide) (pcf := 327) rfl (fun q => absurd ((lw_eq _ _).mpr rfl) q) (fun _ => ?_)
      refine o_iload P (hb hby at_327) rfl (pc' := 329) rfl ?_
      refine o_if_eq P (hb hby at_329) (by decide) (pc' := 351) (by decide) (pcf := 332) rfl (fun q => absurd q (by decide)) (fun _ => ?_)
      refine o_aload P (hb hby at_332) rfl rfl (pc' := 334) rfl ?_
      refine o_iload P (hb hby at_334) rfl (pc' := 336) rfl ?_
      refine o_aload P (hb hby at_336) rfl rfl (pc' := 338) rfl ?_
      refine o_callV P (W := 0) (a := a) (ow hw 29 rfl) (ow hw 30 rfl) (o_nfSl (ow hw 32 rfl)) (ow hw 32 rfl) (ow hw 31 rfl) (ow hw 5 rfl) (ow hw 33 rfl) (by decide) F_a.exa (ct_at13oz l Z a0 hw EL n0 a ka pz vx vy od oz hg hP.1 hP.2 h12 F_a A_ka ne_a_ka) (o_sfS (List.Mem.head _) (o_sfS (List.Mem.tail _ (List.Mem.head _)) o_sf0)) (by rw [hml]; rfl) (by decide) (by decide) (argsL := [(.int pz), (.ref oz)]) (rest := []) (lenOf pd_19 rfl) rfl rfl (Nat.le_of_eq rfl) (hb hby at_338) (pc' := 341) rfl (by decide) (by decide) ?_
      clear P; intro T h13 v13 P K13 q13
      subst q13
      show OG p e below m _ T 341 _ [(.long (og [vx, vy, vy, vx, vy, vy, vx, vy, vx, vy, vy, vx, vy] (((13 : Int32) - pz)).toNatClampNeg))]
      refine o_lload P (hb hby at_341) rfl (pc' := 343) rfl ?_
      refine o_lcmp P (hb hby at_343) (pc' := 344) rfl ?_
      refine o_if_ne P (hb hby at_344) (by decide) (pc' := 351) (by decide) (pcf := 347) rfl (fun q => absurd ((lw_eq _ _).mpr (own_fin13ll hxy hk hR)) q) (fun _ => ?_)
      refine o_iconst P (1 : Int32) (hb hby at_347) rfl (pc' := 348) rfl ?_
      refine o_goto P (hb hby at_348) (by decide) (pc' := 352) (by decide) ?_
      exact o_retI P hret (by simp) rfl (hb hby at_352) (by decide) (by decide) rfl
theorem law119_5od {p : Program} {e : Env} {s : State} {m : MethodId} {args : Array Value} {below : List Frame} {meth : Method} {c : Code} {T : State} {n0 : Nat} {h0 : Heap} {Ow : List Addr} (l : Launch) (Z : State) (a0 : Array Value) (hw : OHw Z a0) (EL : List (String × Nat)) (hby : c.code = code) (hml : c.maxLocals = maxLocals) (hret : meth.sig.returnType = ret) (vx vy : Int64) (fl ii jj pp : Int32) (od oz : Addr) (hg : OGp Z od oz) (cv : Int32) (hcs : Sta Z Z.heap "java/lang/String" "COMPACT_STRINGS" "Z" (.int cv)) (hcv : ¬ cv = 0) (fv : Value) (hfv : Sta Z Z.heap "jdk/internal/util/Preconditions" "SIOOBE_FORMATTER" "Ljava/util/function/BiFunction;" fv) (hfr : fv.isRef = true) (hm37 : (kW, 37) ∈ EL) (hm39 : (kW, 39) ∈ EL) (hm41 : (kW, 41) ∈ EL) (hm43 : (kW, 43) ∈ EL) (a ka b kb : Addr) (F_a : OObj Z h0 a kK [(kK, "keys", "[J", (.ref ka)), (kK, "size", "I", (.int 5)), (kK, "selection", kSd, .null)]) (A_ka : OArr Z h0 ka .long [(.long vx), (.long vx), (.long vx), (.long vx), (.long vx), (.long 0), (.long 0), (.long 0), (.long 0), (.long 0), (.long 0), (.long 0), (.long 0), (.long 0), (.long 0), (.long 0)]) (F_b : OObj Z h0 b kK [(kK, "keys", "[J", (.ref kb)), (kK, "size", "I", (.int 8)), (kK, "selection", kSd, .null)]) (A_kb : OArr Z h0 kb .long [(.long vx), (.long vx), (.long vx), (.long vx), (.long vx), (.long vx), (.long vx), (.long vx), (.long 0), (.long 0), (.long 0), (.long 0), (.long 0), (.long 0), (.long 0), (.long 0)]) (ne_a_ka : a ≠ ka) (ne_b_kb : b ≠ kb) (hao : a ∈ Ow) (hko : ka ∈ Ow) (P : OPn p l e room_1 s m args below meth c Z a0 EL n0 [] kW T h0 Ow 14 140) :
    OG p e below m (OFq Z EL n0 s [] room_1 (fun w vm h => w = some (.int 1))) T 119 #[.val (.long vx), .second, .val (.long vy), .second, .val (.int fl), .val (.int ii), .val (.int jj), .val (.int pp), .val (.int 1), .val (.ref od), .val (.ref a), .val (.ref b), .val (.long vx), .second, .unset, .unset, .unset, .unset, .unset, .unset, .unset, .unset, .unset, .unset, .unset] [] := by
  replace P := P.less (Ow' := [a, ka]) (fun x hx => by rcases List.mem_cons.mp hx with rfl | hx; exact hao; rw [List.mem_singleton.mp hx]; exact hko)
  refine o_iload P (hb hby at_119) rfl (pc' := 121) rfl ?_
  refine o_if_eq P (hb hby at_121) (by decide) (pc' := 129) (by decide) (pcf := 124) rfl (fun q => absurd q (by decide)) (fun _ => ?_)
  refine o_ldcS P (n := 20) (vs := och [120, 120, 120, 120, 120]) (ow hw 235 rfl) (own_wS hw) hm37 (Or.inr (ow hw 128 rfl)) (Or.inr (ow hw 129 rfl)) ⟨by decide, by decide +kernel⟩ (5 : Int32) (by decide) rfl (hb hby at_124) (pc' := 126) rfl (by decide) (by decide) (by decide) (by decide) ?_
  clear P; intro T h1 t tx P K1 G_t _
  replace F_a := F_a.keep K1 nin0
  replace F_b := F_b.keep K1 nin0
  replace A_ka := A_ka.keep K1 nin0
  replace A_kb := A_kb.keep K1 nin0
  clear K1
  refine o_goto P (hb hby at_126) (by decide) (pc' := 131) (by decide) ?_
  refine o_astore P (hb hby at_131) rfl (L' := #[.val (.long vx), .second, .val (.long vy), .second, .val (.int fl), .val (.int ii), .val (.int jj), .val (.int pp), .val (.int 1), .val (.ref od), .val (.ref a), .val (.ref b), .val (.long vx), .second, .val (.ref t), .unset, .unset, .unset, .unset, .unset, .unset, .unset, .unset, .unset, .unset]) rfl (pc' := 133) rfl ?_
  refine o_iload P (hb hby at_133) rfl (pc' := 135) rfl ?_
  refine o_if_eq P (hb hby at_135) (by decide) (pc' := 143) (by decide) (pcf := 138) rfl (fun q => absurd q (by decide)) (fun _ => ?_)
  refine o_ldcS P (n := 32) (vs := och [120, 120, 120, 120, 120, 120, 120, 120]) (ow hw 236 rfl) (own_wS hw) hm41 (Or.inr (ow hw 128 rfl)) (Or.inr (ow hw 129 rfl)) ⟨by decide, by decide +kernel⟩ (8 : Int32) (by decide) rfl (hb hby at_138) (pc' := 140) rfl (by decide) (by decide) (by decide) (by decide) ?_
  clear P; intro T h2 u ux P K2 G_u _
  replace G_t := G_t.keep K2 nin0 nin0
  replace F_a := F_a.keep K2 nin0
  replace F_b := F_b.keep K2 nin0
  replace A_ka := A_ka.keep K2 nin0
  replace A_kb := A_kb.keep K2 nin0
  clear K2
  refine o_goto P (hb hby at_140) (by decide) (pc' := 145) (by decide) ?_
  refine o_astore P (hb hby at_145) rfl (L' := #[.val (.long vx), .second, .val (.long vy), .second, .val (.int fl), .val (.int ii), .val (.int jj), .val (.int pp), .val (.int 1), .val (.ref od), .val (.ref a), .val (.ref b), .val (.long vx), .second, .val (.ref t), .val (.ref u), .unset, .unset, .unset, .unset, .unset, .unset, .unset, .unset, .unset]) rfl (pc' := 147) rfl ?_
  refine o_aload P (hb hby at_147) rfl rfl (pc' := 149) rfl ?_
  have F_t := G_t.1
  refine o_callV P (W := 0) (a := t) (ow hw 133 rfl) (ow hw 134 rfl) (o_nfSl (ow hw 136 rfl)) (ow hw 136 rfl) (ow hw 135 rfl) (ow hw 125 rfl) (ow hw 137 rfl) (by decide) F_t.exa (ct_len l Z a0 hw EL n0 t tx [120, 120, 120, 120, 120] cv hcs hcv h2 G_t) o_sf0 (by rw [hml]; rfl) (by decide) (by decide) (argsL := []) (rest := []) (lenOf pd_17 rfl) rfl rfl (Nat.le_of_eq rfl) (hb hby at_149) (pc' := 152) rfl (by decide) (by decide) ?_
  clear P; intro T h3 v3 P K3 q3
  obtain ⟨rfl, rfl⟩ := q3; clear K3 F_t
  show OG p e below m _ T 152 _ [(.int 5)]
  refine o_istore P (hb hby at_152) (L' := #[.val (.long vx), .second, .val (.long vy), .second, .val (.int fl), .val (.int ii), .val (.int jj), .val (.int pp), .val (.int 1), .val (.ref od), .val (.ref a), .val (.ref b), .val (.long vx), .second, .val (.ref t), .val (.ref u), .val (.int 5), .unset, .unset, .unset, .unset, .unset, .unset, .unset, .unset]) rfl (pc' := 154) rfl ?_
  refine o_aload P (hb hby at_154) rfl rfl (pc' := 156) rfl ?_
  have F_u := G_u.1
  refine o_callV P (W := 0) (a := u) (ow hw 133 rfl) (ow hw 134 rfl) (o_nfSl (ow hw 136 rfl)) (ow hw 136 rfl) (ow hw 135 rfl) (ow hw 125 rfl) (ow hw 137 rfl) (by decide) F_u.exa (ct_len l Z a0 hw EL n0 u ux [120, 120, 120, 120, 120, 120, 120, 120] cv hcs hcv h3 G_u) o_sf0 (by rw [hml]; rfl) (by decide) (by decide) (argsL := []) (rest := []) (lenOf pd_17 rfl) rfl rfl (Nat.le_of_eq rfl) (hb hby at_156) (pc' := 159) rfl (by decide) (by decide) ?_
  clear P; intro T h4 v4 P K4 q4
  obtain ⟨rfl, rfl⟩ := q4; clear K4 F_u
  show OG p e below m _ T 159 _ [(.int 8)]
  refine o_istore P (hb hby at_159) (L' := #[.val (.long vx), .second, .val (.long vy), .second, .val (.int fl), .val (.int ii), .val (.int jj), .val (.int pp), .val (.int 1), .val (.ref od), .val (.ref a), .val (.ref b), .val (.long vx), .second, .val (.ref t), .val (.ref u), .val (.int 5), .val (.int 8), .unset, .unset, .unset, .unset, .unset, .unset, .unset]) rfl (pc' := 161) rfl ?_
  refine o_aload P (hb hby at_161) rfl rfl (pc' := 163) rfl ?_
  refine o_callV P (W := 0) (a := a) (ow hw 146 rfl) (ow hw 147 rfl) (o_nfSl (ow hw 149 rfl)) (ow hw 149 rfl) (ow hw 148 rfl) (ow hw 5 rfl) (ow hw 150 rfl) (by decide) F_a.exa (ct_e91 l Z a0 hw EL n0 a ka vx od oz hg h4 F_a A_ka ne_a_ka) o_sf0 (by rw [hml]; rfl) (by decide) (by decide) (argsL := []) (rest := []) (lenOf pd_17 rfl) rfl rfl (Nat.le_of_eq rfl) (hb hby at_163) (pc' := 166) rfl (by decide) (by decide) ?_
  clear P; intro T h6 v6 P K6 q6
  obtain ⟨rfl, rfl⟩ := q6; clear K6
  show OG p e below m _ T 166 _ [(.int 5)]
  refine o_iload P (hb hby at_166) rfl (pc' := 168) rfl ?_
  refine o_icmp_ne P (hb hby at_168) (by decide) (pc' := 181) (by decide) (pcf := 171) rfl (fun q => absurd (by decide) q) (fun _ => ?_)
  refine o_aload P (hb hby at_171) rfl rfl (pc' := 173) rfl ?_
  refine o_callV P (W := 0) (a := b) (ow hw 146 rfl) (ow hw 147 rfl) (o_nfSl (ow hw 149 rfl)) (ow hw 149 rfl) (ow hw 148 rfl) (ow hw 5 rfl) (ow hw 150 rfl) (by decide) F_b.exa (ct_e92 l Z a0 hw EL n0 b kb vx od oz hg h6 F_b A_kb ne_b_kb) o_sf0 (by rw [hml]; rfl) (by decide) (by decide) (argsL := []) (rest := []) (lenOf pd_17 rfl) rfl rfl (Nat.le_of_eq rfl) (hb hby at_173) (pc' := 176) rfl (by decide) (by decide) ?_
  clear P; intro T h8 v8 P K8 q8
  obtain ⟨rfl, rfl⟩ := q8; clear K8
  show OG p e below m _ T 176 _ [(.int 8)]
  refine o_iload P (hb hby at_176) rfl (pc' := 178) rfl ?_
  refine o_icmp_eq P (hb hby at_178) (by decide) (pc' := 183) (by decide) (pcf := 181) rfl (fun _ => ?_) (fun q => absurd (by decide) q)
  refine o_iload P (hb hby at_183) rfl (pc' := 185) rfl ?_
  refine o_ldcI P (ow hw 151 rfl) (hb hby at_185) (pc' := 187) rfl ?_
  refine o_iand P (hb hby at_187) (pc' := 188) rfl ?_
  refine o_iload P (hb hby at_188) rfl (pc' := 190) rfl ?_
  refine o_irem P (hb hby at_190) (by decide) (pc' := 191) rfl ?_
  have hA := own_mod5 ii; generalize (ii &&& (2147483647 : Int32)) % (5 : Int32) = ia at hA ⊢
  refine o_istore P (hb hby at_191) (L' := #[.val (.long vx), .second, .val (.long vy), .second, .val (.int fl), .val (.int ii), .val (.int jj), .val (.int pp), .val (.int 1), .val (.ref od), .val (.ref a), .val (.ref b), .val (.long vx), .second, .val (.ref t), .val (.ref u), .val (.int 5), .val (.int 8), .val (.int ia), .unset, .unset, .unset, .unset, .unset, .unset]) rfl (pc' := 193) rfl ?_
  refine o_iload P (hb hby at_193) rfl (pc' := 195) rfl ?_
  refine o_ldcI P (ow hw 151 rfl) (hb hby at_195) (pc' := 197) rfl ?_
  refine o_iand P (hb hby at_197) (pc' := 198) rfl ?_
  refine o_iload P (hb hby at_198) rfl (pc' := 200) rfl ?_
  refine o_irem P (hb hby at_200) (by decide) (pc' := 201) rfl ?_
  have hB := own_mod8 jj; generalize (jj &&& (2147483647 : Int32)) % (8 : Int32) = jb at hB ⊢
  refine o_istore P (hb hby at_201) (L' := #[.val (.long vx), .second, .val (.long vy), .second, .val (.int fl), .val (.int ii), .val (.int jj), .val (.int pp), .val (.int 1), .val (.ref od), .val (.ref a), .val (.ref b), .val (.long vx), .second, .val (.ref t), .val (.ref u), .val (.int 5), .val (.int 8), .val (.int ia), .val (.int jb), .unset, .unset, .unset, .unset, .unset]) rfl (pc' := 203) rfl ?_
  refine o_aload P (hb hby at_203) rfl rfl (pc' := 205) rfl ?_
  refine o_iload P (hb hby at_205) rfl (pc' := 207) rfl ?_
  refine o_callV P (W := 0) (a := a) (ow hw 152 rfl) (ow hw 153 rfl) (o_nfSl (ow hw 155 rfl)) (ow hw 155 rfl) (ow hw 154 rfl) (ow hw 5 rfl) (ow hw 156 rfl) (by decide) F_a.exa (ct_getA5 l Z a0 hw EL n0 a ka ia vx vy hA h8 F_a A_ka) o_sf0 (by rw [hml]; rfl) (by decide) (by decide) (argsL := [(.int ia)]) (rest := []) (lenOf pd_11 rfl) rfl rfl (Nat.le_of_eq rfl) (hb hby at_207) (pc' := 210) rfl (by decide) (by decide) ?_
  clear P; intro T h9 v9 P K9 q9
  obtain ⟨rfl, rfl⟩ := q9; clear K9
  show OG p e below m _ T 210 _ [(.long (opk [false, false, false, false, false] vx vy ia.toNatClampNeg))]
  refine o_aload P (hb hby at_210) rfl rfl (pc' := 212) rfl ?_
  refine o_iload P (hb hby at_212) rfl (pc' := 214) rfl ?_
  refine o_lloadN P (hb hby at_214) rfl (pc' := 215) rfl ?_
  refine o_lloadN P (hb hby at_215) rfl (pc' := 216) rfl ?_
  refine o_callS P (W := 2) (ow hw 157 rfl) (ow hw 158 rfl) (ow hw 159 rfl) (ow hw 160 rfl) (by decide) (ct_pick l Z a0 hw EL n0 t tx ia [120, 120, 120, 120, 120] [false, false, false, false, false] vx vy fv hfv hfr cv hcs hcv (own_nn ia hA.1) (by rcases own_rng5 ia hA.1 (by omega) with rfl | rfl | rfl | rfl | rfl <;> rfl) h9 G_t) o_sf0 (by rw [hml]; rfl) (by decide) (by decide) (argsL := [(.ref t), (.int ia), (.long vx), (.long vy)]) (rest := [(.long (opk [false, false, false, false, false] vx vy ia.toNatClampNeg))]) (lenOf pd_18 rfl) rfl rfl (Nat.le_of_eq rfl) (hb hby at_216) (pc' := 219) rfl (by decide) (by decide) ?_
  clear P; intro T h10 v10 P K10 q10
  obtain ⟨rfl, rfl⟩ := q10; clear K10
  show OG p e below m _ T 219 _ [(.long (opk [false, false, false, false, false] vx vy ia.toNatClampNeg)), (.long (opk [false, false, false, false, false] vx vy ia.toNatClampNeg))]
  refine o_lcmp P (hb hby at_219) (pc' := 220) rfl ?_
  refine o_if_ne P (hb hby at_220) (by decide) (pc' := 247) (by decide) (pcf := 223) rfl (fun q => absurd ((lw_eq _ _).mpr rfl) q) (fun _ => ?_)
  refine o_aload P (hb hby at_223) rfl rfl (pc' := 225) rfl ?_
  refine o_iload P (hb hby at_225) rfl (pc' := 227) rfl ?_
  refine o_callV P (W := 0) (a := b) (ow hw 152 rfl) (ow hw 153 rfl) (o_nfSl (ow hw 155 rfl)) (ow hw 155 rfl) (ow hw 154 rfl) (ow hw 5 rfl) (ow hw 156 rfl) (by decide) F_b.exa (ct_getB5 l Z a0 hw EL n0 b kb jb vx vy hB h10 F_b A_kb) o_sf0 (by rw [hml]; rfl) (by decide) (by decide) (argsL := [(.int jb)]) (rest := []) (lenOf pd_11 rfl) rfl rfl (Nat.le_of_eq rfl) (hb hby at_227) (pc' := 230) rfl (by decide) (by decide) ?_
  clear P; intro T h11 v11 P K11 q11
  obtain ⟨rfl, rfl⟩ := q11; clear K11
  show OG p e below m _ T 230 _ [(.long (opk [false, false, false, false, false, false, false, false] vx vy jb.toNatClampNeg))]
  refine o_aload P (hb hby at_230) rfl rfl (pc' := 232) rfl ?_
  refine o_iload P (hb hby at_232) rfl (pc' := 234) rfl ?_
  refine o_lloadN P (hb hby at_234) rfl (pc' := 235) rfl ?_
  refine o_lloadN P (hb hby at_235) rfl (pc' := 236) rfl ?_
  refine o_callS P (W := 2) (ow hw 157 rfl) (ow hw 158 rfl) (ow hw 159 rfl) (ow hw 160 rfl) (by decide) (ct_pick l Z a0 hw EL n0 u ux jb [120, 120, 120, 120, 120, 120, 120, 120] [false, false, false, false, false, false, false, false] vx vy fv hfv hfr cv hcs hcv (own_nn jb hB.1) (by rcases own_rng8 jb hB.1 (by omega) with rfl | rfl | rfl | rfl | rfl | rfl | rfl | rfl <;> rfl) h11 G_u) o_sf0 (by rw [hml]; rfl) (by decide) (by decide) (argsL := [(.ref u), (.int jb), (.long vx), (.long vy)]) (rest := [(.long (opk [false, false, false, false, false, false, false, false] vx vy jb.toNatClampNeg))]) (lenOf pd_18 rfl) rfl rfl (Nat.le_of_eq rfl) (hb hby at_236) (pc' := 239) rfl (by decide) (by decide) ?_
  clear P; intro T h12 v12 P K12 q12
  obtain ⟨rfl, rfl⟩ := q12; clear K12
  show OG p e below m _ T 239 _ [(.long (opk [false, false, false, false, false, false, false, false] vx vy jb.toNatClampNeg)), (.long (opk [false, false, false, false, false, false, false, false] vx vy jb.toNatClampNeg))]
  refine o_lcmp P (hb hby at_239) (pc' := 240) rfl ?_
  refine o_if_ne P (hb hby at_240) (by decide) (pc' := 247) (by decide) (pcf := 243) rfl (fun q => absurd ((lw_eq _ _).mpr rfl) q) (fun _ => ?_)
  refine o_iconst P (1 : Int32) (hb hby at_243) rfl (pc' := 244) rfl ?_
  refine o_goto P (hb hby at_244) (by decide) (pc' := 248) (by decide) ?_
  refine o_istore P (hb hby at_248) (L' := #[.val (.long vx), .second, .val (.long vy), .second, .val (.int fl), .val (.int ii), .val (.int jj), .val (.int pp), .val (.int 1), .val (.ref od), .val (.ref a), .val (.ref b), .val (.long vx), .second, .val (.ref t), .val (.ref u), .val (.int 5), .val (.int 8), .val (.int ia), .val (.int jb), .val (.int 1), .unset, .unset, .unset, .unset]) rfl (pc' := 250) rfl ?_
  refine o_iload P (hb hby at_250) rfl (pc' := 252) rfl ?_
  refine o_ldcI P (ow hw 151 rfl) (hb hby at_252) (pc' := 254) rfl ?_
  refine o_iand P (hb hby at_254) (pc' := 255) rfl ?_
  refine o_iload P (hb hby at_255) rfl (pc' := 257) rfl ?_
  refine o_irem P (hb hby at_257) (by decide) (pc' := 258) rfl ?_
  refine o_iconst P (1 : Int32) (hb hby at_258) rfl (pc' := 259) rfl ?_
  refine o_iadd P (hb hby at_259) (pc' := 260) rfl ?_
  have hP := own_posn5 pp; generalize ((pp &&& (2147483647 : Int32)) % (5 : Int32)) + (1 : Int32) = pz at hP ⊢
  refine o_istore P (hb hby at_260) (L' := #[.val (.long vx), .second, .val (.long vy), .second, .val (.int fl), .val (.int ii), .val (.int jj), .val (.int pp), .val (.int 1), .val (.ref od), .val (.ref a), .val (.ref b), .val (.long vx), .second, .val (.ref t), .val (.ref u), .val (.int 5), .val (.int 8), .val (.int ia), .val (.int jb), .val (.int 1), .val (.int pz), .unset, .unset, .unset]) rfl (pc' := 262) rfl ?_
  refine o_aload P (hb hby at_262) rfl rfl (pc' := 264) rfl ?_
  refine o_getS P (ow hw 0 rfl) Via.refl hg.2.1 (hb hby at_264) (pc' := 267) rfl ?_
  clear P; intro T P
  refine o_acmp P true (hb hby at_267) rfl rfl (decide_eq_true rfl) (by decide) (pc' := 270) rfl ?_
  refine o_iload P (hb hby at_270) rfl (pc' := 272) rfl ?_
  refine o_iconst P (1 : Int32) (hb hby at_272) rfl (pc' := 273) rfl ?_
  refine o_isub P (hb hby at_273) (pc' := 274) rfl ?_
  refine o_goto P (hb hby at_274) (by decide) (pc' := 282) (by decide) ?_
  refine o_istore P (hb hby at_282) (L' := #[.val (.long vx), .second, .val (.long vy), .second, .val (.int fl), .val (.int ii), .val (.int jj), .val (.int pp), .val (.int 1), .val (.ref od), .val (.ref a), .val (.ref b), .val (.long vx), .second, .val (.ref t), .val (.ref u), .val (.int 5), .val (.int 8), .val (.int ia), .val (.int jb), .val (.int 1), .val (.int pz), .val (.int (pz - (1 : Int32))), .unset, .unset]) rfl (pc' := 284) rfl ?_
  refine o_lloadN P (hb hby at_284) rfl (pc' := 285) rfl ?_
  refine o_lloadN P (hb hby at_285) rfl (pc' := 286) rfl ?_
  refine o_lcmp P (hb hby at_286) (pc' := 287) rfl ?_
  have hR := own_ra5 pz hP.1 hP.2
  refine o_if_gt P (hb hby at_287) (by decide) (pc' := 304) (by decide) (pcf := 290) rfl (fun hxy => ?_) (fun hxy => ?_)
  · refine o_iload P (hb hby at_304) rfl (pc' := 306) rfl ?_
    refine o_iload P (hb hby at_306) rfl (pc' := 308) rfl ?_
    refine o_iconst P (5 : Int32) (hb hby at_308) rfl (pc' := 309) rfl ?_
    refine o_isub P (hb hby at_309) (pc' := 310) rfl ?_
    show OG p e below m _ T 310 _ [(.int 0), (.int (pz - (1 : Int32)))]
    refine o_icmp_ge P (hb hby at_310) (by decide) (pc' := 317) (by decide) (pcf := 313) rfl (fun _ => ?_) (fun q => absurd q (own_nn _ hR.1))
    refine o_lloadN P (hb hby at_317) rfl (pc' := 318) rfl ?_
    refine o_lstore P (hb hby at_318) (L' := #[.val (.long vx), .second, .val (.long vy), .second, .val (.int fl), .val (.int ii), .val (.int jj), .val (.int pp), .val (.int 1), .val (.ref od), .val (.ref a), .val (.ref b), .val (.long vx), .second, .val (.ref t), .val (.ref u), .val (.int 5), .val (.int 8), .val (.int ia), .val (.int jb), .val (.int 1), .val (.int pz), .val (.int (pz - (1 : Int32))), .val (.long vx), .second]) rfl (pc' := 320) rfl ?_
    refine o_lload P (hb hby at_320) rfl (pc' := 322) rfl ?_
    refine o_lloadN P (hb hby at_322) rfl (pc' := 323) rfl ?_
    refine o_lcmp P (hb hby at_323) (pc' := 324) rfl ?_
    refine o_if_ne P (hb hby at_324) (by decide) (pc' := 351) (by decide) (pcf := 327) rfl (fun q => absurd ((lw_eq _ _).mpr rfl) q) (fun _ => ?_)
    refine o_iload P (hb hby at_327) rfl (pc' := 329) rfl ?_
    refine o_if_eq P (hb hby at_329) (by decide) (pc' := 351) (by decide) (pcf := 332) rfl (fun q => absurd q (by decide)) (fun _ => ?_)
    refine o_aload P (hb hby at_332) rfl rfl (pc' := 334) rfl ?_
    refine o_iload P (hb hby at_334) rfl (pc' := 336) rfl ?_
    refine o_aload P (hb hby at_336) rfl rfl (pc' := 338) rfl ?_
    refine o_callV P (W := 0) (a := a) (ow hw 29 rfl) (ow hw 30 rfl) (o_nfSl (ow hw 32 rfl)) (ow hw 32 rfl) (ow hw 31 rfl) (ow hw 5 rfl) (ow hw 33 rfl) (by decide) F_a.exa (ct_at5od l Z a0 hw EL n0 a ka pz vx vy od oz hg hP.1 hP.2 h12 F_a A_ka ne_a_ka) (o_sfS (List.Mem.head _) (o_sfS (List.Mem.tail _ (List.Mem.head _)) o_sf0)) (by rw [hml]; rfl) (by decide) (by decide) (argsL := [(.int pz), (.ref od)]) (rest := []) (lenOf pd_19 rfl) rfl rfl (Nat.le_of_eq rfl) (hb hby at_338) (pc' := 341) rfl (by decide) (by decide) ?_
    clear P; intro T h13 v13 P K13 q13
    subst q13
    show OG p e below m _ T 341 _ [(.long (og [vx, vx, vx, vx, vx] ((pz - (1 : Int32))).toNatClampNeg))]
    refine o_lload P (hb hby at_341) rfl (pc' := 343) rfl ?_
    refine o_lcmp P (hb hby at_343) (pc' := 344) rfl ?_
    refine o_if_ne P (hb hby at_344) (by decide) (pc' := 351) (by decide) (pcf := 347) rfl (fun q => absurd ((lw_eq _ _).mpr (own_fin5 hR)) q) (fun _ => ?_)
    refine o_iconst P (1 : Int32) (hb hby at_347) rfl (pc' := 348) rfl ?_
    refine o_goto P (hb hby at_348) (by decide) (pc' := 352) (by decide) ?_
    exact o_retI P hret (by simp) rfl (hb hby at_352) (by decide) (by decide) rfl
  · refine o_iload P (hb hby at_290) rfl (pc' := 292) rfl ?_
    refine o_iconst P (5 : Int32) (hb hby at_292) rfl (pc' := 293) rfl ?_
    refine o_icmp_ge P (hb hby at_293) (by decide) (pc' := 300) (by decide) (pcf := 296) rfl (fun q => absurd (own_lt5 hR) q) (fun _ => ?_)
    refine o_lloadN P (hb hby at_296) rfl (pc' := 297) rfl ?_
    refine o_goto P (hb hby at_297) (by decide) (pc' := 318) (by decide) ?_
    refine o_lstore P (hb hby at_318) (L' := #[.val (.long vx), .second, .val (.long vy), .second, .val (.int fl), .val (.int ii), .val (.int jj), .val (.int pp), .val (.int 1), .val (.ref od), .val (.ref a), .val (.ref b), .val (.long vx), .second, .val (.ref t), .val (.ref u), .val (.int 5), .val (.int 8), .val (.int ia), .val (.int jb), .val (.int 1), .val (.int pz), .val (.int (pz - (1 : Int32))), .val (.long vx), .second]) rfl (pc' := 320) rfl ?_
    refine o_lload P (hb hby at_320) rfl (pc' := 322) rfl ?_
    refine o_lloadN P (hb hby at_322) rfl (pc' := 323) rfl ?_
    refine o_lcmp P (hb hby at_323) (pc' := 324) rfl ?_
    refine o_if_ne P (hb hby at_324) (by decide) (pc' := 351) (by decide) (pcf := 327) rfl (fun q => absurd ((lw_eq _ _).mpr rfl) q) (fun _ => ?_)
    refine o_iload P (hb hby at_327) rfl (pc' := 329) rfl ?_
    refine o_if_eq P (hb hby at_329) (by decide) (pc' := 351) (by decide) (pcf := 332) rfl (fun q => absurd q (by decide)) (fun _ => ?_)
    refine o_aload P (hb hby at_332) rfl rfl (pc' := 334) rfl ?_
    refine o_iload P (hb hby at_334) rfl (pc' := 336) rfl ?_
    refine o_aload P (hb hby at_336) rfl rfl (pc' := 338) rfl ?_
    refine o_callV P (W := 0) (a := a) (ow hw 29 rfl) (ow hw 30 rfl) (o_nfSl (ow hw 32 rfl)) (ow hw 32 rfl) (ow hw 31 rfl) (ow hw 5 rfl) (ow hw 33 rfl) (by decide) F_a.exa (ct_at5od l Z a0 hw EL n0 a ka pz vx vy od oz hg hP.1 hP.2 h12 F_a A_ka ne_a_ka) (o_sfS (List.Mem.head _) (o_sfS (List.Mem.tail _ (List.Mem.head _)) o_sf0)) (by rw [hml]; rfl) (by decide) (by decide) (argsL := [(.int pz), (.ref od)]) (rest := []) (lenOf pd_19 rfl) rfl rfl (Nat.le_of_eq rfl) (hb hby at_338) (pc' := 341) rfl (by decide) (by decide) ?_
    clear P; intro T h13 v13 P K13 q13
    subst q13
    show OG p e below m _ T 341 _ [(.long (og [vx, vx, vx, vx, vx] ((pz - (1 : Int32))).toNatClampNeg))]
    refine o_lload P (hb hby at_341) rfl (pc' := 343) rfl ?_
    refine o_lcmp P (hb hby at_343) (pc' := 344) rfl ?_
    refine o_if_ne P (hb hby at_344) (by decide) (pc' := 351) (by decide) (pcf := 347) rfl (fun q => absurd ((lw_eq _ _).mpr (own_fin5 hR)) q) (fun _ => ?_)
    refine o_iconst P (1 : Int32) (hb hby at_347) rfl (pc' := 348) rfl ?_
    refine o_goto P (hb hby at_348) (by decide) (pc' := 352) (by decide) ?_
    exact o_retI P hret (by simp) rfl (hb hby at_352) (by decide) (by decide) rfl
theorem law119_5oz {p : Program} {e : Env} {s : State} {m : MethodId} {args : Array Value} {below : List Frame} {meth : Method} {c : Code} {T : State} {n0 : Nat} {h0 : Heap} {Ow : List Addr} (l : Launch) (Z : State) (a0 : Array Value) (hw : OHw Z a0) (EL : List (String × Nat)) (hby : c.code = code) (hml : c.maxLocals = maxLocals) (hret : meth.sig.returnType = ret) (vx vy : Int64) (fl ii jj pp : Int32) (od oz : Addr) (hg : OGp Z od oz) (cv : Int32) (hcs : Sta Z Z.heap "java/lang/String" "COMPACT_STRINGS" "Z" (.int cv)) (hcv : ¬ cv = 0) (fv : Value) (hfv : Sta Z Z.heap "jdk/internal/util/Preconditions" "SIOOBE_FORMATTER" "Ljava/util/function/BiFunction;" fv) (hfr : fv.isRef = true) (hm37 : (kW, 37) ∈ EL) (hm39 : (kW, 39) ∈ EL) (hm41 : (kW, 41) ∈ EL) (hm43 : (kW, 43) ∈ EL) (a ka b kb : Addr) (F_a : OObj Z h0 a kK [(kK, "keys", "[J", (.ref ka)), (kK, "size", "I", (.int 5)), (kK, "selection", kSd, .null)]) (A_ka : OArr Z h0 ka .long [(.long vx), (.long vx), (.long vx), (.long vx), (.long vx), (.long 0), (.long 0), (.long 0), (.long 0), (.long 0), (.long 0), (.long 0), (.long 0), (.long 0), (.long 0), (.long 0)]) (F_b : OObj Z h0 b kK [(kK, "keys", "[J", (.ref kb)), (kK, "size", "I", (.int 8)), (kK, "selection", kSd, .null)]) (A_kb : OArr Z h0 kb .long [(.long vx), (.long vx), (.long vx), (.long vx), (.long vx), (.long vx), (.long vx), (.long vx), (.long 0), (.long 0), (.long 0), (.long 0), (.long 0), (.long 0), (.long 0), (.long 0)]) (ne_a_ka : a ≠ ka) (ne_b_kb : b ≠ kb) (hao : a ∈ Ow) (hko : ka ∈ Ow) (P : OPn p l e room_1 s m args below meth c Z a0 EL n0 [] kW T h0 Ow 14 140) :
    OG p e below m (OFq Z EL n0 s [] room_1 (fun w vm h => w = some (.int 1))) T 119 #[.val (.long vx), .second, .val (.long vy), .second, .val (.int fl), .val (.int ii), .val (.int jj), .val (.int pp), .val (.int 1), .val (.ref oz), .val (.ref a), .val (.ref b), .val (.long vx), .second, .unset, .unset, .unset, .unset, .unset, .unset, .unset, .unset, .unset, .unset, .unset] [] := by
  replace P := P.less (Ow' := [a, ka]) (fun x hx => by rcases List.mem_cons.mp hx with rfl | hx; exact hao; rw [List.mem_singleton.mp hx]; exact hko)
  refine o_iload P (hb hby at_119) rfl (pc' := 121) rfl ?_
  refine o_if_eq P (hb hby at_121) (by decide) (pc' := 129) (by decide) (pcf := 124) rfl (fun q => absurd q (by decide)) (fun _ => ?_)
  refine o_ldcS P (n := 20) (vs := och [120, 120, 120, 120, 120]) (ow hw 235 rfl) (own_wS hw) hm37 (Or.inr (ow hw 128 rfl)) (Or.inr (ow hw 129 rfl)) ⟨by decide, by decide +kernel⟩ (5 : Int32) (by decide) rfl (hb hby at_124) (pc' := 126) rfl (by decide) (by decide) (by decide) (by decide) ?_
  clear P; intro T h1 t tx P K1 G_t _
  replace F_a := F_a.keep K1 nin0
  replace F_b := F_b.keep K1 nin0
  replace A_ka := A_ka.keep K1 nin0
  replace A_kb := A_kb.keep K1 nin0
  clear K1
  refine o_goto P (hb hby at_126) (by decide) (pc' := 131) (by decide) ?_
  refine o_astore P (hb hby at_131) rfl (L' := #[.val (.long vx), .second, .val (.long vy), .second, .val (.int fl), .val (.int ii), .val (.int jj), .val (.int pp), .val (.int 1), .val (.ref oz), .val (.ref a), .val (.ref b), .val (.long vx), .second, .val (.ref t), .unset, .unset, .unset, .unset, .unset, .unset, .unset, .unset, .unset, .unset]) rfl (pc' := 133) rfl ?_
  refine o_iload P (hb hby at_133) rfl (pc' := 135) rfl ?_
  refine o_if_eq P (hb hby at_135) (by decide) (pc' := 143) (by decide) (pcf := 138) rfl (fun q => absurd q (by decide)) (fun _ => ?_)
  refine o_ldcS P (n := 32) (vs := och [120, 120, 120, 120, 120, 120, 120, 120]) (ow hw 236 rfl) (own_wS hw) hm41 (Or.inr (ow hw 128 rfl)) (Or.inr (ow hw 129 rfl)) ⟨by decide, by decide +kernel⟩ (8 : Int32) (by decide) rfl (hb hby at_138) (pc' := 140) rfl (by decide) (by decide) (by decide) (by decide) ?_
  clear P; intro T h2 u ux P K2 G_u _
  replace G_t := G_t.keep K2 nin0 nin0
  replace F_a := F_a.keep K2 nin0
  replace F_b := F_b.keep K2 nin0
  replace A_ka := A_ka.keep K2 nin0
  replace A_kb := A_kb.keep K2 nin0
  clear K2
  refine o_goto P (hb hby at_140) (by decide) (pc' := 145) (by decide) ?_
  refine o_astore P (hb hby at_145) rfl (L' := #[.val (.long vx), .second, .val (.long vy), .second, .val (.int fl), .val (.int ii), .val (.int jj), .val (.int pp), .val (.int 1), .val (.ref oz), .val (.ref a), .val (.ref b), .val (.long vx), .second, .val (.ref t), .val (.ref u), .unset, .unset, .unset, .unset, .unset, .unset, .unset, .unset, .unset]) rfl (pc' := 147) rfl ?_
  refine o_aload P (hb hby at_147) rfl rfl (pc' := 149) rfl ?_
  have F_t := G_t.1
  refine o_callV P (W := 0) (a := t) (ow hw 133 rfl) (ow hw 134 rfl) (o_nfSl (ow hw 136 rfl)) (ow hw 136 rfl) (ow hw 135 rfl) (ow hw 125 rfl) (ow hw 137 rfl) (by decide) F_t.exa (ct_len l Z a0 hw EL n0 t tx [120, 120, 120, 120, 120] cv hcs hcv h2 G_t) o_sf0 (by rw [hml]; rfl) (by decide) (by decide) (argsL := []) (rest := []) (lenOf pd_17 rfl) rfl rfl (Nat.le_of_eq rfl) (hb hby at_149) (pc' := 152) rfl (by decide) (by decide) ?_
  clear P; intro T h3 v3 P K3 q3
  obtain ⟨rfl, rfl⟩ := q3; clear K3 F_t
  show OG p e below m _ T 152 _ [(.int 5)]
  refine o_istore P (hb hby at_152) (L' := #[.val (.long vx), .second, .val (.long vy), .second, .val (.int fl), .val (.int ii), .val (.int jj), .val (.int pp), .val (.int 1), .val (.ref oz), .val (.ref a), .val (.ref b), .val (.long vx), .second, .val (.ref t), .val (.ref u), .val (.int 5), .unset, .unset, .unset, .unset, .unset, .unset, .unset, .unset]) rfl (pc' := 154) rfl ?_
  refine o_aload P (hb hby at_154) rfl rfl (pc' := 156) rfl ?_
  have F_u := G_u.1
  refine o_callV P (W := 0) (a := u) (ow hw 133 rfl) (ow hw 134 rfl) (o_nfSl (ow hw 136 rfl)) (ow hw 136 rfl) (ow hw 135 rfl) (ow hw 125 rfl) (ow hw 137 rfl) (by decide) F_u.exa (ct_len l Z a0 hw EL n0 u ux [120, 120, 120, 120, 120, 120, 120, 120] cv hcs hcv h3 G_u) o_sf0 (by rw [hml]; rfl) (by decide) (by decide) (argsL := []) (rest := []) (lenOf pd_17 rfl) rfl rfl (Nat.le_of_eq rfl) (hb hby at_156) (pc' := 159) rfl (by decide) (by decide) ?_
  clear P; intro T h4 v4 P K4 q4
  obtain ⟨rfl, rfl⟩ := q4; clear K4 F_u
  show OG p e below m _ T 159 _ [(.int 8)]
  refine o_istore P (hb hby at_159) (L' := #[.val (.long vx), .second, .val (.long vy), .second, .val (.int fl), .val (.int ii), .val (.int jj), .val (.int pp), .val (.int 1), .val (.ref oz), .val (.ref a), .val (.ref b), .val (.long vx), .second, .val (.ref t), .val (.ref u), .val (.int 5), .val (.int 8), .unset, .unset, .unset, .unset, .unset, .unset, .unset]) rfl (pc' := 161) rfl ?_
  refine o_aload P (hb hby at_161) rfl rfl (pc' := 163) rfl ?_
  refine o_callV P (W := 0) (a := a) (ow hw 146 rfl) (ow hw 147 rfl) (o_nfSl (ow hw 149 rfl)) (ow hw 149 rfl) (ow hw 148 rfl) (ow hw 5 rfl) (ow hw 150 rfl) (by decide) F_a.exa (ct_e91 l Z a0 hw EL n0 a ka vx od oz hg h4 F_a A_ka ne_a_ka) o_sf0 (by rw [hml]; rfl) (by decide) (by decide) (argsL := []) (rest := []) (lenOf pd_17 rfl) rfl rfl (Nat.le_of_eq rfl) (hb hby at_163) (pc' := 166) rfl (by decide) (by decide) ?_
  clear P; intro T h6 v6 P K6 q6
  obtain ⟨rfl, rfl⟩ := q6; clear K6
  show OG p e below m _ T 166 _ [(.int 5)]
  refine o_iload P (hb hby at_166) rfl (pc' := 168) rfl ?_
  refine o_icmp_ne P (hb hby at_168) (by decide) (pc' := 181) (by decide) (pcf := 171) rfl (fun q => absurd (by decide) q) (fun _ => ?_)
  refine o_aload P (hb hby at_171) rfl rfl (pc' := 173) rfl ?_
  refine o_callV P (W := 0) (a := b) (ow hw 146 rfl) (ow hw 147 rfl) (o_nfSl (ow hw 149 rfl)) (ow hw 149 rfl) (ow hw 148 rfl) (ow hw 5 rfl) (ow hw 150 rfl) (by decide) F_b.exa (ct_e92 l Z a0 hw EL n0 b kb vx od oz hg h6 F_b A_kb ne_b_kb) o_sf0 (by rw [hml]; rfl) (by decide) (by decide) (argsL := []) (rest := []) (lenOf pd_17 rfl) rfl rfl (Nat.le_of_eq rfl) (hb hby at_173) (pc' := 176) rfl (by decide) (by decide) ?_
  clear P; intro T h8 v8 P K8 q8
  obtain ⟨rfl, rfl⟩ := q8; clear K8
  show OG p e below m _ T 176 _ [(.int 8)]
  refine o_iload P (hb hby at_176) rfl (pc' := 178) rfl ?_
  refine o_icmp_eq P (hb hby at_178) (by decide) (pc' := 183) (by decide) (pcf := 181) rfl (fun _ => ?_) (fun q => absurd (by decide) q)
  refine o_iload P (hb hby at_183) rfl (pc' := 185) rfl ?_
  refine o_ldcI P (ow hw 151 rfl) (hb hby at_185) (pc' := 187) rfl ?_
  refine o_iand P (hb hby at_187) (pc' := 188) rfl ?_
  refine o_iload P (hb hby at_188) rfl (pc' := 190) rfl ?_
  refine o_irem P (hb hby at_190) (by decide) (pc' := 191) rfl ?_
  have hA := own_mod5 ii; generalize (ii &&& (2147483647 : Int32)) % (5 : Int32) = ia at hA ⊢
  refine o_istore P (hb hby at_191) (L' := #[.val (.long vx), .second, .val (.long vy), .second, .val (.int fl), .val (.int ii), .val (.int jj), .val (.int pp), .val (.int 1), .val (.ref oz), .val (.ref a), .val (.ref b), .val (.long vx), .second, .val (.ref t), .val (.ref u), .val (.int 5), .val (.int 8), .val (.int ia), .unset, .unset, .unset, .unset, .unset, .unset]) rfl (pc' := 193) rfl ?_
  refine o_iload P (hb hby at_193) rfl (pc' := 195) rfl ?_
  refine o_ldcI P (ow hw 151 rfl) (hb hby at_195) (pc' := 197) rfl ?_
  refine o_iand P (hb hby at_197) (pc' := 198) rfl ?_
  refine o_iload P (hb hby at_198) rfl (pc' := 200) rfl ?_
  refine o_irem P (hb hby at_200) (by decide) (pc' := 201) rfl ?_
  have hB := own_mod8 jj; generalize (jj &&& (2147483647 : Int32)) % (8 : Int32) = jb at hB ⊢
  refine o_istore P (hb hby at_201) (L' := #[.val (.long vx), .second, .val (.long vy), .second, .val (.int fl), .val (.int ii), .val (.int jj), .val (.int pp), .val (.int 1), .val (.ref oz), .val (.ref a), .val (.ref b), .val (.long vx), .second, .val (.ref t), .val (.ref u), .val (.int 5), .val (.int 8), .val (.int ia), .val (.int jb), .unset, .unset, .unset, .unset, .unset]) rfl (pc' := 203) rfl ?_
  refine o_aload P (hb hby at_203) rfl rfl (pc' := 205) rfl ?_
  refine o_iload P (hb hby at_205) rfl (pc' := 207) rfl ?_
  refine o_callV P (W := 0) (a := a) (ow hw 152 rfl) (ow hw 153 rfl) (o_nfSl (ow hw 155 rfl)) (ow hw 155 rfl) (ow hw 154 rfl) (ow hw 5 rfl) (ow hw 156 rfl) (by decide) F_a.exa (ct_getA5 l Z a0 hw EL n0 a ka ia vx vy hA h8 F_a A_ka) o_sf0 (by rw [hml]; rfl) (by decide) (by decide) (argsL := [(.int ia)]) (rest := []) (lenOf pd_11 rfl) rfl rfl (Nat.le_of_eq rfl) (hb hby at_207) (pc' := 210) rfl (by decide) (by decide) ?_
  clear P; intro T h9 v9 P K9 q9
  obtain ⟨rfl, rfl⟩ := q9; clear K9
  show OG p e below m _ T 210 _ [(.long (opk [false, false, false, false, false] vx vy ia.toNatClampNeg))]
  refine o_aload P (hb hby at_210) rfl rfl (pc' := 212) rfl ?_
  refine o_iload P (hb hby at_212) rfl (pc' := 214) rfl ?_
  refine o_lloadN P (hb hby at_214) rfl (pc' := 215) rfl ?_
  refine o_lloadN P (hb hby at_215) rfl (pc' := 216) rfl ?_
  refine o_callS P (W := 2) (ow hw 157 rfl) (ow hw 158 rfl) (ow hw 159 rfl) (ow hw 160 rfl) (by decide) (ct_pick l Z a0 hw EL n0 t tx ia [120, 120, 120, 120, 120] [false, false, false, false, false] vx vy fv hfv hfr cv hcs hcv (own_nn ia hA.1) (by rcases own_rng5 ia hA.1 (by omega) with rfl | rfl | rfl | rfl | rfl <;> rfl) h9 G_t) o_sf0 (by rw [hml]; rfl) (by decide) (by decide) (argsL := [(.ref t), (.int ia), (.long vx), (.long vy)]) (rest := [(.long (opk [false, false, false, false, false] vx vy ia.toNatClampNeg))]) (lenOf pd_18 rfl) rfl rfl (Nat.le_of_eq rfl) (hb hby at_216) (pc' := 219) rfl (by decide) (by decide) ?_
  clear P; intro T h10 v10 P K10 q10
  obtain ⟨rfl, rfl⟩ := q10; clear K10
  show OG p e below m _ T 219 _ [(.long (opk [false, false, false, false, false] vx vy ia.toNatClampNeg)), (.long (opk [false, false, false, false, false] vx vy ia.toNatClampNeg))]
  refine o_lcmp P (hb hby at_219) (pc' := 220) rfl ?_
  refine o_if_ne P (hb hby at_220) (by decide) (pc' := 247) (by decide) (pcf := 223) rfl (fun q => absurd ((lw_eq _ _).mpr rfl) q) (fun _ => ?_)
  refine o_aload P (hb hby at_223) rfl rfl (pc' := 225) rfl ?_
  refine o_iload P (hb hby at_225) rfl (pc' := 227) rfl ?_
  refine o_callV P (W := 0) (a := b) (ow hw 152 rfl) (ow hw 153 rfl) (o_nfSl (ow hw 155 rfl)) (ow hw 155 rfl) (ow hw 154 rfl) (ow hw 5 rfl) (ow hw 156 rfl) (by decide) F_b.exa (ct_getB5 l Z a0 hw EL n0 b kb jb vx vy hB h10 F_b A_kb) o_sf0 (by rw [hml]; rfl) (by decide) (by decide) (argsL := [(.int jb)]) (rest := []) (lenOf pd_11 rfl) rfl rfl (Nat.le_of_eq rfl) (hb hby at_227) (pc' := 230) rfl (by decide) (by decide) ?_
  clear P; intro T h11 v11 P K11 q11
  obtain ⟨rfl, rfl⟩ := q11; clear K11
  show OG p e below m _ T 230 _ [(.long (opk [false, false, false, false, false, false, false, false] vx vy jb.toNatClampNeg))]
  refine o_aload P (hb hby at_230) rfl rfl (pc' := 232) rfl ?_
  refine o_iload P (hb hby at_232) rfl (pc' := 234) rfl ?_
  refine o_lloadN P (hb hby at_234) rfl (pc' := 235) rfl ?_
  refine o_lloadN P (hb hby at_235) rfl (pc' := 236) rfl ?_
  refine o_callS P (W := 2) (ow hw 157 rfl) (ow hw 158 rfl) (ow hw 159 rfl) (ow hw 160 rfl) (by decide) (ct_pick l Z a0 hw EL n0 u ux jb [120, 120, 120, 120, 120, 120, 120, 120] [false, false, false, false, false, false, false, false] vx vy fv hfv hfr cv hcs hcv (own_nn jb hB.1) (by rcases own_rng8 jb hB.1 (by omega) with rfl | rfl | rfl | rfl | rfl | rfl | rfl | rfl <;> rfl) h11 G_u) o_sf0 (by rw [hml]; rfl) (by decide) (by decide) (argsL := [(.ref u), (.int jb), (.long vx), (.long vy)]) (rest := [(.long (opk [false, false, false, false, false, false, false, false] vx vy jb.toNatClampNeg))]) (lenOf pd_18 rfl) rfl rfl (Nat.le_of_eq rfl) (hb hby at_236) (pc' := 239) rfl (by decide) (by decide) ?_
  clear P; intro T h12 v12 P K12 q12
  obtain ⟨rfl, rfl⟩ := q12; clear K12
  show OG p e below m _ T 239 _ [(.long (opk [false, false, false, false, false, false, false, false] vx vy jb.toNatClampNeg)), (.long (opk [false, false, false, false, false, false, false, false] vx vy jb.toNatClampNeg))]
  refine o_lcmp P (hb hby at_239) (pc' := 240) rfl ?_
  refine o_if_ne P (hb hby at_240) (by decide) (pc' := 247) (by decide) (pcf := 243) rfl (fun q => absurd ((lw_eq _ _).mpr rfl) q) (fun _ => ?_)
  refine o_iconst P (1 : Int32) (hb hby at_243) rfl (pc' := 244) rfl ?_
  refine o_goto P (hb hby at_244) (by decide) (pc' := 248) (by decide) ?_
  refine o_istore P (hb hby at_248) (L' := #[.val (.long vx), .second, .val (.long vy), .second, .val (.int fl), .val (.int ii), .val (.int jj), .val (.int pp), .val (.int 1), .val (.ref oz), .val (.ref a), .val (.ref b), .val (.long vx), .second, .val (.ref t), .val (.ref u), .val (.int 5), .val (.int 8), .val (.int ia), .val (.int jb), .val (.int 1), .unset, .unset, .unset, .unset]) rfl (pc' := 250) rfl ?_
  refine o_iload P (hb hby at_250) rfl (pc' := 252) rfl ?_
  refine o_ldcI P (ow hw 151 rfl) (hb hby at_252) (pc' := 254) rfl ?_
  refine o_iand P (hb hby at_254) (pc' := 255) rfl ?_
  refine o_iload P (hb hby at_255) rfl (pc' := 257) rfl ?_
  refine o_irem P (hb hby at_257) (by decide) (pc' := 258) rfl ?_
  refine o_iconst P (1 : Int32) (hb hby at_258) rfl (pc' := 259) rfl ?_
  refine o_iadd P (hb hby at_259) (pc' := 260) rfl ?_
  have hP := own_posn5 pp; generalize ((pp &&& (2147483647 : Int32)) % (5 : Int32)) + (1 : Int32) = pz at hP ⊢
  refine o_istore P (hb hby at_260) (L' := #[.val (.long vx), .second, .val (.long vy), .second, .val (.int fl), .val (.int ii), .val (.int jj), .val (.int pp), .val (.int 1), .val (.ref oz), .val (.ref a), .val (.ref b), .val (.long vx), .second, .val (.ref t), .val (.ref u), .val (.int 5), .val (.int 8), .val (.int ia), .val (.int jb), .val (.int 1), .val (.int pz), .unset, .unset, .unset]) rfl (pc' := 262) rfl ?_
  refine o_aload P (hb hby at_262) rfl rfl (pc' := 264) rfl ?_
  refine o_getS P (ow hw 0 rfl) Via.refl hg.2.1 (hb hby at_264) (pc' := 267) rfl ?_
  clear P; intro T P
  refine o_acmp P false (hb hby at_267) rfl rfl (decide_eq_false fun q => hg.2.2.2 (Value.ref.inj q)) (by decide) (pc' := 277) rfl ?_
  refine o_iload P (hb hby at_277) rfl (pc' := 279) rfl ?_
  refine o_iload P (hb hby at_279) rfl (pc' := 281) rfl ?_
  refine o_isub P (hb hby at_281) (pc' := 282) rfl ?_
  refine o_istore P (hb hby at_282) (L' := #[.val (.long vx), .second, .val (.long vy), .second, .val (.int fl), .val (.int ii), .val (.int jj), .val (.int pp), .val (.int 1), .val (.ref oz), .val (.ref a), .val (.ref b), .val (.long vx), .second, .val (.ref t), .val (.ref u), .val (.int 5), .val (.int 8), .val (.int ia), .val (.int jb), .val (.int 1), .val (.int pz), .val (.int ((5 : Int32) - pz)), .unset, .unset]) rfl (pc' := 284) rfl ?_
  refine o_lloadN P (hb hby at_284) rfl (pc' := 285) rfl ?_
  refine o_lloadN P (hb hby at_285) rfl (pc' := 286) rfl ?_
  refine o_lcmp P (hb hby at_286) (pc' := 287) rfl ?_
  have hR := own_rz5 pz hP.1 hP.2
  refine o_if_gt P (hb hby at_287) (by decide) (pc' := 304) (by decide) (pcf := 290) rfl (fun hxy => ?_) (fun hxy => ?_)
  · refine o_iload P (hb hby at_304) rfl (pc' := 306) rfl ?_
    refine o_iload P (hb hby at_306) rfl (pc' := 308) rfl ?_
    refine o_iconst P (5 : Int32) (hb hby at_308) rfl (pc' := 309) rfl ?_
    refine o_isub P (hb hby at_309) (pc' := 310) rfl ?_
    show OG p e below m _ T 310 _ [(.int 0), (.int ((5 : Int32) - pz))]
    refine o_icmp_ge P (hb hby at_310) (by decide) (pc' := 317) (by decide) (pcf := 313) rfl (fun _ => ?_) (fun q => absurd q (own_nn _ hR.1))
    refine o_lloadN P (hb hby at_317) rfl (pc' := 318) rfl ?_
    refine o_lstore P (hb hby at_318) (L' := #[.val (.long vx), .second, .val (.long vy), .second, .val (.int fl), .val (.int ii), .val (.int jj), .val (.int pp), .val (.int 1), .val (.ref oz), .val (.ref a), .val (.ref b), .val (.long vx), .second, .val (.ref t), .val (.ref u), .val (.int 5), .val (.int 8), .val (.int ia), .val (.int jb), .val (.int 1), .val (.int pz), .val (.int ((5 : Int32) - pz)), .val (.long vx), .second]) rfl (pc' := 320) rfl ?_
    refine o_lload P (hb hby at_320) rfl (pc' := 322) rfl ?_
    refine o_lloadN P (hb hby at_322) rfl (pc' := 323) rfl ?_
    refine o_lcmp P (hb hby at_323) (pc' := 324) rfl ?_
    refine o_if_ne P (hb hby at_324) (by decide) (pc' := 351) (by decide) (pcf := 327) rfl (fun q => absurd ((lw_eq _ _).mpr rfl) q) (fun _ => ?_)
    refine o_iload P (hb hby at_327) rfl (pc' := 329) rfl ?_
    refine o_if_eq P (hb hby at_329) (by decide) (pc' := 351) (by decide) (pcf := 332) rfl (fun q => absurd q (by decide)) (fun _ => ?_)
    refine o_aload P (hb hby at_332) rfl rfl (pc' := 334) rfl ?_
    refine o_iload P (hb hby at_334) rfl (pc' := 336) rfl ?_
    refine o_aload P (hb hby at_336) rfl rfl (pc' := 338) rfl ?_
    refine o_callV P (W := 0) (a := a) (ow hw 29 rfl) (ow hw 30 rfl) (o_nfSl (ow hw 32 rfl)) (ow hw 32 rfl) (ow hw 31 rfl) (ow hw 5 rfl) (ow hw 33 rfl) (by decide) F_a.exa (ct_at5oz l Z a0 hw EL n0 a ka pz vx vy od oz hg hP.1 hP.2 h12 F_a A_ka ne_a_ka) (o_sfS (List.Mem.head _) (o_sfS (List.Mem.tail _ (List.Mem.head _)) o_sf0)) (by rw [hml]; rfl) (by decide) (by decide) (argsL := [(.int pz), (.ref oz)]) (rest := []) (lenOf pd_19 rfl) rfl rfl (Nat.le_of_eq rfl) (hb hby at_338) (pc' := 341) rfl (by decide) (by decide) ?_
    clear P; intro T h13 v13 P K13 q13
    subst q13
    show OG p e below m _ T 341 _ [(.long (og [vx, vx, vx, vx, vx] (((5 : Int32) - pz)).toNatClampNeg))]
    refine o_lload P (hb hby at_341) rfl (pc' := 343) rfl ?_
    refine o_lcmp P (hb hby at_343) (pc' := 344) rfl ?_
    refine o_if_ne P (hb hby at_344) (by decide) (pc' := 351) (by decide) (pcf := 347) rfl (fun q => absurd ((lw_eq _ _).mpr (own_fin5 hR)) q) (fun _ => ?_)
    refine o_iconst P (1 : Int32) (hb hby at_347) rfl (pc' := 348) rfl ?_
    refine o_goto P (hb hby at_348) (by decide) (pc' := 352) (by decide) ?_
    exact o_retI P hret (by simp) rfl (hb hby at_352) (by decide) (by decide) rfl
  · refine o_iload P (hb hby at_290) rfl (pc' := 292) rfl ?_
    refine o_iconst P (5 : Int32) (hb hby at_292) rfl (pc' := 293) rfl ?_
    refine o_icmp_ge P (hb hby at_293) (by decide) (pc' := 300) (by decide) (pcf := 296) rfl (fun q => absurd (own_lt5 hR) q) (fun _ => ?_)
    refine o_lloadN P (hb hby at_296) rfl (pc' := 297) rfl ?_
    refine o_goto P (hb hby at_297) (by decide) (pc' := 318) (by decide) ?_
    refine o_lstore P (hb hby at_318) (L' := #[.val (.long vx), .second, .val (.long vy), .second, .val (.int fl), .val (.int ii), .val (.int jj), .val (.int pp), .val (.int 1), .val (.ref oz), .val (.ref a), .val (.ref b), .val (.long vx), .second, .val (.ref t), .val (.ref u), .val (.int 5), .val (.int 8), .val (.int ia), .val (.int jb), .val (.int 1), .val (.int pz), .val (.int ((5 : Int32) - pz)), .val (.long vx), .second]) rfl (pc' := 320) rfl ?_
    refine o_lload P (hb hby at_320) rfl (pc' := 322) rfl ?_
    refine o_lloadN P (hb hby at_322) rfl (pc' := 323) rfl ?_
    refine o_lcmp P (hb hby at_323) (pc' := 324) rfl ?_
    refine o_if_ne P (hb hby at_324) (by decide) (pc' := 351) (by decide) (pcf := 327) rfl (fun q => absurd ((lw_eq _ _).mpr rfl) q) (fun _ => ?_)
    refine o_iload P (hb hby at_327) rfl (pc' := 329) rfl ?_
    refine o_if_eq P (hb hby at_329) (by decide) (pc' := 351) (by decide) (pcf := 332) rfl (fun q => absurd q (by decide)) (fun _ => ?_)
    refine o_aload P (hb hby at_332) rfl rfl (pc' := 334) rfl ?_
    refine o_iload P (hb hby at_334) rfl (pc' := 336) rfl ?_
    refine o_aload P (hb hby at_336) rfl rfl (pc' := 338) rfl ?_
    refine o_callV P (W := 0) (a := a) (ow hw 29 rfl) (ow hw 30 rfl) (o_nfSl (ow hw 32 rfl)) (ow hw 32 rfl) (ow hw 31 rfl) (ow hw 5 rfl) (ow hw 33 rfl) (by decide) F_a.exa (ct_at5oz l Z a0 hw EL n0 a ka pz vx vy od oz hg hP.1 hP.2 h12 F_a A_ka ne_a_ka) (o_sfS (List.Mem.head _) (o_sfS (List.Mem.tail _ (List.Mem.head _)) o_sf0)) (by rw [hml]; rfl) (by decide) (by decide) (argsL := [(.int pz), (.ref oz)]) (rest := []) (lenOf pd_19 rfl) rfl rfl (Nat.le_of_eq rfl) (hb hby at_338) (pc' := 341) rfl (by decide) (by decide) ?_
    clear P; intro T h13 v13 P K13 q13
    subst q13
    show OG p e below m _ T 341 _ [(.long (og [vx, vx, vx, vx, vx] (((5 : Int32) - pz)).toNatClampNeg))]
    refine o_lload P (hb hby at_341) rfl (pc' := 343) rfl ?_
    refine o_lcmp P (hb hby at_343) (pc' := 344) rfl ?_
    refine o_if_ne P (hb hby at_344) (by decide) (pc' := 351) (by decide) (pcf := 347) rfl (fun q => absurd ((lw_eq _ _).mpr (own_fin5 hR)) q) (fun _ => ?_)
    refine o_iconst P (1 : Int32) (hb hby at_347) rfl (pc' := 348) rfl ?_
    refine o_goto P (hb hby at_348) (by decide) (pc' := 352) (by decide) ?_
    exact o_retI P hret (by simp) rfl (hb hby at_352) (by decide) (by decide) rfl
theorem ef_0 (x0 : Int64) (x1 : Int64) (x2 : Int32) (x3 : Int32) (x4 : Int32) (x5 : Int32) (m : MethodId) : entryFrame m #[(.long x0), (.long x1), (.int x2), (.int x3), (.int x4), (.int x5)] maxLocals = mkF m 0 #[.val (.long x0), .second, .val (.long x1), .second, .val (.int x2), .val (.int x3), .val (.int x4), .val (.int x5), .unset, .unset, .unset, .unset, .unset, .unset, .unset, .unset, .unset, .unset, .unset, .unset, .unset, .unset, .unset, .unset, .unset] [] := by first | (simp [entryFrame, mkF, argsToLocals, o_catR, o_catN, o_catI, o_catJ, o_catD, maxLocals]; done) | rfl
theorem rm0 (l : Launch) (Z : State) (a0 : Array Value) (hw : OHw Z a0) (EL : List (String × Nat)) (n0 : Nat) (vx vy : Int64) (fl ii jj pp : Int32) (od oz : Addr) (hg : OGp Z od oz) (cv : Int32) (hcs : Sta Z Z.heap "java/lang/String" "COMPACT_STRINGS" "Z" (.int cv)) (hcv : ¬ cv = 0) (fv : Value) (hfv : Sta Z Z.heap "jdk/internal/util/Preconditions" "SIOOBE_FORMATTER" "Ljava/util/function/BiFunction;" fv) (hfr : fv.isRef = true) (hm37 : (kW, 37) ∈ EL) (hm39 : (kW, 39) ∈ EL) (hm41 : (kW, 41) ∈ EL) (hm43 : (kW, 43) ∈ EL) (h0 : Heap) :
    OCt l Z a0 EL n0 x code maxLocals ret room_1 tables_1 #[(.long vx), (.long vy), (.int fl), (.int ii), (.int jj), (.int pp)] h0 [] (fun w vm h => w = some (.int 1)) := by
  refine OCt.body (plainFor_of_name pn_LW) (ef_0 vx vy fl ii jj pp) ?_
  intro p e s m below meth c T hby hml hret hnm hsh P
  refine o_iload P (hb hby at_0) rfl (pc' := 2) rfl ?_
  refine o_iconst P (1 : Int32) (hb hby at_2) rfl (pc' := 3) rfl ?_
  refine o_iand P (hb hby at_3) (pc' := 4) rfl ?_
  refine o_if_eq P (hb hby at_4) (by decide) (pc' := 11) (by decide) (pcf := 7) rfl (fun he => ?_) (fun he => ?_)
  · refine o_iconst P (0 : Int32) (hb hby at_11) rfl (pc' := 12) rfl ?_
    refine o_istore P (hb hby at_12) (L' := #[.val (.long vx), .second, .val (.long vy), .second, .val (.int fl), .val (.int ii), .val (.int jj), .val (.int pp), .val (.int 0), .unset, .unset, .unset, .unset, .unset, .unset, .unset, .unset, .unset, .unset, .unset, .unset, .unset, .unset, .unset, .unset]) rfl (pc' := 14) rfl ?_
    refine o_iload P (hb hby at_14) rfl (pc' := 16) rfl ?_
    refine o_iconst P (2 : Int32) (hb hby at_16) rfl (pc' := 17) rfl ?_
    refine o_iand P (hb hby at_17) (pc' := 18) rfl ?_
    refine o_if_eq P (hb hby at_18) (by decide) (pc' := 27) (by decide) (pcf := 21) rfl (fun ho => ?_) (fun ho => ?_)
    · refine o_getS P (ow hw 0 rfl) Via.refl hg.2.1 (hb hby at_27) (pc' := 30) rfl ?_
      clear P; intro T P
      refine o_astore P (hb hby at_30) rfl (L' := #[.val (.long vx), .second, .val (.long vy), .second, .val (.int fl), .val (.int ii), .val (.int jj), .val (.int pp), .val (.int 0), .val (.ref od), .unset, .unset, .unset, .unset, .unset, .unset, .unset, .unset, .unset, .unset, .unset, .unset, .unset, .unset, .unset]) rfl (pc' := 32) rfl ?_
      have hz_b1 := P.keep0.1
      refine o_new P [(kK, "keys", "[J", .null), (kK, "size", "I", (.int 0)), (kK, "selection", kSd, .null)] (ow hw 3 rfl) (ow hw 4 rfl) (ow hw 5 rfl) (OLd.cons (Or.inl (ow hw 14 rfl)) (ty := (.array .long)) (by decide) rfl (OLd.cons (Or.inl (ow hw 26 rfl)) (ty := .int) (by decide) rfl (OLd.cons (Or.inl (ow hw 28 rfl)) (ty := (.object kS)) (by decide) rfl OLd.nil))) (by decide +kernel) (hb hby at_32) (pc' := 35) rfl (by decide) (by decide) ?_
      clear P; intro T h1 b1 P K1 hb_b1 F_b1
      have sz_b1 := Nat.le_trans hz_b1 hb_b1
      clear hz_b1
      clear K1
      refine o_dup P (hb hby at_35) rfl (pc' := 36) rfl ?_
      have hn_2 := P.n0le; have hk_2 := P.keep0.1
      refine o_callI P (W := 1) (a := b1) rfl (ow hw 6 rfl) (ow hw 7 rfl) (ow hw 5 rfl) (ow hw 8 rfl) (by decide) (ct_e94 l Z a0 hw EL n0 b1  od oz hg h1 F_b1 ) (o_sfS (List.Mem.head _) o_sf0) (by rw [hml]; rfl) (by decide) (by decide) (argsL := []) (rest := [(.ref b1)]) (lenOf pd_2 rfl) rfl rfl (Nat.le_of_eq rfl) (hb hby at_36) (pc' := 39) rfl (by decide) (by decide) ?_
      clear P; intro T h3 v3 P K3 q3
      obtain ⟨n0_2, rfl, g_n0_2, Q_b1, Q_n0_2, -⟩ := q3
      have ne_b1_n0_2 := F_b1.nb g_n0_2
      have sz_n0_2 := Nat.le_trans hk_2 g_n0_2
      clear F_b1
      have F_b1 := Q_b1; clear Q_b1
      have A_n0_2 := Q_n0_2; clear Q_n0_2
      replace P := P.moreA A_n0_2 (fun q => by cases q) (Nat.le_trans hn_2 g_n0_2) sz_n0_2
      clear K3 hn_2 hk_2
      show OG p e below m _ T 39 _ [(.ref b1)]
      refine o_astore P (hb hby at_39) rfl (L' := #[.val (.long vx), .second, .val (.long vy), .second, .val (.int fl), .val (.int ii), .val (.int jj), .val (.int pp), .val (.int 0), .val (.ref od), .val (.ref b1), .unset, .unset, .unset, .unset, .unset, .unset, .unset, .unset, .unset, .unset, .unset, .unset, .unset, .unset]) rfl (pc' := 41) rfl ?_
      have hz_b4 := P.keep0.1
      refine o_new P [(kK, "keys", "[J", .null), (kK, "size", "I", (.int 0)), (kK, "selection", kSd, .null)] (ow hw 3 rfl) (ow hw 4 rfl) (ow hw 5 rfl) (OLd.cons (Or.inl (ow hw 14 rfl)) (ty := (.array .long)) (by decide) rfl (OLd.cons (Or.inl (ow hw 26 rfl)) (ty := .int) (by decide) rfl (OLd.cons (Or.inl (ow hw 28 rfl)) (ty := (.object kS)) (by decide) rfl OLd.nil))) (by decide +kernel) (hb hby at_41) (pc' := 44) rfl (by decide) (by decide) ?_
      clear P; intro T h4 b4 P K4 hb_b4 F_b4
      have sz_b4 := Nat.le_trans hz_b4 hb_b4
      clear hz_b4
      have ne_b1_b4 := F_b1.nb hb_b4
      have ne_n0_2_b4 := A_n0_2.nb hb_b4
      replace F_b1 := F_b1.keep K4 nin0
      replace A_n0_2 := A_n0_2.keep K4 nin0
      clear K4
      refine o_dup P (hb hby at_44) rfl (pc' := 45) rfl ?_
      have hn_5 := P.n0le; have hk_5 := P.keep0.1
      refine o_callI P (W := 1) (a := b4) rfl (ow hw 6 rfl) (ow hw 7 rfl) (ow hw 5 rfl) (ow hw 8 rfl) (by decide) (ct_e94 l Z a0 hw EL n0 b4  od oz hg h4 F_b4 ) (o_sfS (List.Mem.head _) o_sf0) (by rw [hml]; rfl) (by decide) (by decide) (argsL := []) (rest := [(.ref b4)]) (lenOf pd_2 rfl) rfl rfl (Nat.le_of_eq rfl) (hb hby at_45) (pc' := 48) rfl (by decide) (by decide) ?_
      clear P; intro T h6 v6 P K6 q6
      obtain ⟨n0_5, rfl, g_n0_5, Q_b4, Q_n0_5, -⟩ := q6
      have ne_b1_n0_5 := F_b1.nb g_n0_5
      have ne_b4_n0_5 := F_b4.nb g_n0_5
      have ne_n0_2_n0_5 := A_n0_2.nb g_n0_5
      have sz_n0_5 := Nat.le_trans hk_5 g_n0_5
      replace F_b1 := F_b1.keep K6 (ninS ne_b1_b4 nin0)
      replace A_n0_2 := A_n0_2.keep K6 (ninS ne_n0_2_b4 nin0)
      clear F_b4
      have F_b4 := Q_b4; clear Q_b4
      have A_n0_5 := Q_n0_5; clear Q_n0_5
      replace P := P.moreA A_n0_5 (fun q => by cases q) (Nat.le_trans hn_5 g_n0_5) sz_n0_5
      clear K6 hn_5 hk_5
      show OG p e below m _ T 48 _ [(.ref b4)]
      refine o_astore P (hb hby at_48) rfl (L' := #[.val (.long vx), .second, .val (.long vy), .second, .val (.int fl), .val (.int ii), .val (.int jj), .val (.int pp), .val (.int 0), .val (.ref od), .val (.ref b1), .val (.ref b4), .unset, .unset, .unset, .unset, .unset, .unset, .unset, .unset, .unset, .unset, .unset, .unset, .unset]) rfl (pc' := 50) rfl ?_
      refine o_aload P (hb hby at_50) rfl rfl (pc' := 52) rfl ?_
      refine o_lloadN P (hb hby at_52) rfl (pc' := 53) rfl ?_
      have hn_7 := P.n0le; have hk_7 := P.keep0.1
      refine o_callV P (W := 0) (a := b1) (ow hw 15 rfl) (ow hw 16 rfl) (o_nfSl (ow hw 18 rfl)) (ow hw 18 rfl) (ow hw 17 rfl) (ow hw 5 rfl) (ow hw 19 rfl) (by decide) F_b1.exa (ct_e98 l Z a0 hw EL n0 b1 n0_2 vx od oz hg h6 F_b1 A_n0_2 ne_b1_n0_2) (o_sfS (List.Mem.tail _ (List.Mem.tail _ (List.Mem.tail _ (List.Mem.head _)))) (o_sfS (List.Mem.tail _ (List.Mem.tail _ (List.Mem.head _))) o_sf0)) (by rw [hml]; rfl) (by decide) (by decide) (argsL := [(.long vx)]) (rest := []) (lenOf pd_20 rfl) rfl rfl (Nat.le_of_eq rfl) (hb hby at_53) (pc' := 56) rfl (by decide) (by decide) ?_
      clear P; intro T h8 v8 P K8 q8
      obtain ⟨rfl, Q_b1, Q_n0_2, -⟩ := q8
      replace F_b4 := F_b4.keep K8 (ninS (Ne.symm ne_b1_b4) (ninS (Ne.symm ne_n0_2_b4) nin0))
      replace A_n0_5 := A_n0_5.keep K8 (ninS (Ne.symm ne_b1_n0_5) (ninS (Ne.symm ne_n0_2_n0_5) nin0))
      clear F_b1
      have F_b1 := Q_b1; clear Q_b1
      clear A_n0_2
      have A_n0_2 := Q_n0_2; clear Q_n0_2
      clear K8 hn_7 hk_7
      show OG p e below m _ T 56 _ []
      refine o_iload P (hb hby at_56) rfl (pc' := 58) rfl ?_
      refine o_if_ne P (hb hby at_58) (by decide) (pc' := 67) (by decide) (pcf := 61) rfl (fun q => absurd (by decide) q) (fun _ => ?_)
      refine o_aload P (hb hby at_61) rfl rfl (pc' := 63) rfl ?_
      refine o_lloadN P (hb hby at_63) rfl (pc' := 64) rfl ?_
      have hn_9 := P.n0le; have hk_9 := P.keep0.1
      refine o_callV P (W := 0) (a := b4) (ow hw 15 rfl) (ow hw 16 rfl) (o_nfSl (ow hw 18 rfl)) (ow hw 18 rfl) (ow hw 17 rfl) (ow hw 5 rfl) (ow hw 19 rfl) (by decide) F_b4.exa (ct_e98 l Z a0 hw EL n0 b4 n0_5 vy od oz hg h8 F_b4 A_n0_5 ne_b4_n0_5) (o_sfS (List.Mem.tail _ (List.Mem.head _)) (o_sfS (List.Mem.head _) o_sf0)) (by rw [hml]; rfl) (by decide) (by decide) (argsL := [(.long vy)]) (rest := []) (lenOf pd_20 rfl) rfl rfl (Nat.le_of_eq rfl) (hb hby at_64) (pc' := 67) rfl (by decide) (by decide) ?_
      clear P; intro T h10 v10 P K10 q10
      obtain ⟨rfl, Q_b4, Q_n0_5, -⟩ := q10
      replace F_b1 := F_b1.keep K10 (ninS ne_b1_b4 (ninS ne_b1_n0_5 nin0))
      replace A_n0_2 := A_n0_2.keep K10 (ninS ne_n0_2_b4 (ninS ne_n0_2_n0_5 nin0))
      clear F_b4
      have F_b4 := Q_b4; clear Q_b4
      clear A_n0_5
      have A_n0_5 := Q_n0_5; clear Q_n0_5
      clear K10 hn_9 hk_9
      show OG p e below m _ T 67 _ []
      refine o_aload P (hb hby at_67) rfl rfl (pc' := 69) rfl ?_
      refine o_iconst P (1 : Int32) (hb hby at_69) rfl (pc' := 70) rfl ?_
      refine o_aload P (hb hby at_70) rfl rfl (pc' := 72) rfl ?_
      have hn_11 := P.n0le; have hk_11 := P.keep0.1
      refine o_callV P (W := 0) (a := b1) (ow hw 29 rfl) (ow hw 30 rfl) (o_nfSl (ow hw 32 rfl)) (ow hw 32 rfl) (ow hw 31 rfl) (ow hw 5 rfl) (ow hw 33 rfl) (by decide) F_b1.exa (ct_e108 l Z a0 hw EL n0 b1 n0_2 vx od oz hg h10 F_b1 A_n0_2 ne_b1_n0_2) (o_sfS (List.Mem.tail _ (List.Mem.tail _ (List.Mem.tail _ (List.Mem.head _)))) o_sf0) (by rw [hml]; rfl) (by decide) (by decide) (argsL := [(.int 1), (.ref od)]) (rest := []) (lenOf pd_19 rfl) rfl rfl (Nat.le_of_eq rfl) (hb hby at_72) (pc' := 75) rfl (by decide) (by decide) ?_
      clear P; intro T h12 v12 P K12 q12
      obtain ⟨n0_11, n1_11, n2_11, rfl, g_n0_11, g_n1_11, g_n2_11, ne_n0_11_n1_11, ne_n0_11_n2_11, ne_n1_11_n2_11, Q_b1, Q_n0_11, Q_n1_11, Q_n2_11, -⟩ := q12
      have ne_b1_n0_11 := F_b1.nb g_n0_11
      have ne_b4_n0_11 := F_b4.nb g_n0_11
      have ne_n0_2_n0_11 := A_n0_2.nb g_n0_11
      have ne_n0_5_n0_11 := A_n0_5.nb g_n0_11
      have sz_n0_11 := Nat.le_trans hk_11 g_n0_11
      have ne_b1_n1_11 := F_b1.nb g_n1_11
      have ne_b4_n1_11 := F_b4.nb g_n1_11
      have ne_n0_2_n1_11 := A_n0_2.nb g_n1_11
      have ne_n0_5_n1_11 := A_n0_5.nb g_n1_11
      have sz_n1_11 := Nat.le_trans hk_11 g_n1_11
      have ne_b1_n2_11 := F_b1.nb g_n2_11
      have ne_b4_n2_11 := F_b4.nb g_n2_11
      have ne_n0_2_n2_11 := A_n0_2.nb g_n2_11
      have ne_n0_5_n2_11 := A_n0_5.nb g_n2_11
      have sz_n2_11 := Nat.le_trans hk_11 g_n2_11
      replace F_b4 := F_b4.keep K12 (ninS (Ne.symm ne_b1_b4) nin0)
      replace A_n0_2 := A_n0_2.keep K12 (ninS (Ne.symm ne_b1_n0_2) nin0)
      replace A_n0_5 := A_n0_5.keep K12 (ninS (Ne.symm ne_b1_n0_5) nin0)
      clear F_b1
      have F_b1 := Q_b1; clear Q_b1
      have F_n0_11 := Q_n0_11; clear Q_n0_11
      have F_n1_11 := Q_n1_11; clear Q_n1_11
      have A_n2_11 := Q_n2_11; clear Q_n2_11
      replace P := P.moreO F_n0_11.exa (by decide) (by decide) (Nat.le_trans hn_11 g_n0_11) sz_n0_11
      replace P := P.moreO F_n1_11.exa (by decide) (by decide) (Nat.le_trans hn_11 g_n1_11) sz_n1_11
      replace P := P.moreA A_n2_11 (fun q => by cases q) (Nat.le_trans hn_11 g_n2_11) sz_n2_11
      clear K12 hn_11 hk_11
      show OG p e below m _ T 75 _ [(.long vx)]
      refine o_lstore P (hb hby at_75) (L' := #[.val (.long vx), .second, .val (.long vy), .second, .val (.int fl), .val (.int ii), .val (.int jj), .val (.int pp), .val (.int 0), .val (.ref od), .val (.ref b1), .val (.ref b4), .val (.long vx), .second, .unset, .unset, .unset, .unset, .unset, .unset, .unset, .unset, .unset, .unset, .unset]) rfl (pc' := 77) rfl ?_
      refine o_aload P (hb hby at_77) rfl rfl (pc' := 79) rfl ?_
      refine o_aload P (hb hby at_79) rfl rfl (pc' := 81) rfl ?_
      have hn_13 := P.n0le; have hk_13 := P.keep0.1
      refine o_callV P (W := 0) (a := b1) (ow hw 102 rfl) (ow hw 103 rfl) (o_nfSl (ow hw 105 rfl)) (ow hw 105 rfl) (ow hw 104 rfl) (ow hw 5 rfl) (ow hw 106 rfl) (by decide) F_b1.exa (ct_e111 l Z a0 hw EL n0 b1 b4 n0_2 n0_11 n0_5 n1_11 n2_11 vx vy od oz hg h12 F_b1 F_b4 A_n0_2 F_n0_11 A_n0_5 F_n1_11 A_n2_11 ne_b1_b4 ne_b1_n0_2 ne_b1_n0_11 ne_b1_n0_5 ne_b1_n1_11 ne_b1_n2_11 (Ne.symm ne_n0_2_b4) ne_b4_n0_11 ne_b4_n0_5 ne_b4_n1_11 ne_b4_n2_11 ne_n0_2_n0_11 ne_n0_2_n0_5 ne_n0_2_n1_11 ne_n0_2_n2_11 (Ne.symm ne_n0_5_n0_11) ne_n0_11_n1_11 ne_n0_11_n2_11 ne_n0_5_n1_11 ne_n0_5_n2_11 ne_n1_11_n2_11) (o_sfS (List.Mem.tail _ (List.Mem.tail _ (List.Mem.tail _ (List.Mem.tail _ (List.Mem.tail _ (List.Mem.tail _ (List.Mem.head _))))))) (o_sfS (List.Mem.tail _ (List.Mem.tail _ (List.Mem.tail _ (List.Mem.tail _ (List.Mem.tail _ (List.Mem.head _)))))) o_sf0)) (by rw [hml]; rfl) (by decide) (by decide) (argsL := [(.ref b4)]) (rest := []) (lenOf pd_21 rfl) rfl rfl (Nat.le_of_eq rfl) (hb hby at_81) (pc' := 84) rfl (by decide) (by decide) ?_
      clear P; intro T h14 v14 P K14 q14
      obtain ⟨rfl, Q_b1, Q_n0_2, -⟩ := q14
      replace F_b4 := F_b4.keep K14 (ninS (Ne.symm ne_b1_b4) (ninS (Ne.symm ne_n0_2_b4) nin0))
      replace F_n0_11 := F_n0_11.keep K14 (ninS (Ne.symm ne_b1_n0_11) (ninS (Ne.symm ne_n0_2_n0_11) nin0))
      replace F_n1_11 := F_n1_11.keep K14 (ninS (Ne.symm ne_b1_n1_11) (ninS (Ne.symm ne_n0_2_n1_11) nin0))
      replace A_n0_5 := A_n0_5.keep K14 (ninS (Ne.symm ne_b1_n0_5) (ninS (Ne.symm ne_n0_2_n0_5) nin0))
      replace A_n2_11 := A_n2_11.keep K14 (ninS (Ne.symm ne_b1_n2_11) (ninS (Ne.symm ne_n0_2_n2_11) nin0))
      clear F_b1
      have F_b1 := Q_b1; clear Q_b1
      clear A_n0_2
      have A_n0_2 := Q_n0_2; clear Q_n0_2
      clear K14 hn_13 hk_13
      show OG p e below m _ T 84 _ []
      refine o_aload P (hb hby at_84) rfl rfl (pc' := 86) rfl ?_
      refine o_aload P (hb hby at_86) rfl rfl (pc' := 88) rfl ?_
      have hn_15 := P.n0le; have hk_15 := P.keep0.1
      refine o_callV P (W := 0) (a := b4) (ow hw 102 rfl) (ow hw 103 rfl) (o_nfSl (ow hw 105 rfl)) (ow hw 105 rfl) (ow hw 104 rfl) (ow hw 5 rfl) (ow hw 106 rfl) (by decide) F_b4.exa (ct_e113 l Z a0 hw EL n0 b4 b1 n0_5 n0_2 vy vx od oz hg h14 F_b4 F_b1 A_n0_5 A_n0_2 (Ne.symm ne_b1_b4) ne_b4_n0_5 (Ne.symm ne_n0_2_b4) ne_b1_n0_5 ne_b1_n0_2 (Ne.symm ne_n0_2_n0_5)) (o_sfS (List.Mem.tail _ (List.Mem.tail _ (List.Mem.tail _ (List.Mem.tail _ (List.Mem.head _))))) (o_sfS (List.Mem.tail _ (List.Mem.tail _ (List.Mem.tail _ (List.Mem.head _)))) o_sf0)) (by rw [hml]; rfl) (by decide) (by decide) (argsL := [(.ref b1)]) (rest := []) (lenOf pd_21 rfl) rfl rfl (Nat.le_of_eq rfl) (hb hby at_88) (pc' := 91) rfl (by decide) (by decide) ?_
      clear P; intro T h16 v16 P K16 q16
      obtain ⟨rfl, Q_b4, Q_n0_5, -⟩ := q16
      replace F_b1 := F_b1.keep K16 (ninS ne_b1_b4 (ninS ne_b1_n0_5 nin0))
      replace F_n0_11 := F_n0_11.keep K16 (ninS (Ne.symm ne_b4_n0_11) (ninS (Ne.symm ne_n0_5_n0_11) nin0))
      replace F_n1_11 := F_n1_11.keep K16 (ninS (Ne.symm ne_b4_n1_11) (ninS (Ne.symm ne_n0_5_n1_11) nin0))
      replace A_n0_2 := A_n0_2.keep K16 (ninS ne_n0_2_b4 (ninS ne_n0_2_n0_5 nin0))
      replace A_n2_11 := A_n2_11.keep K16 (ninS (Ne.symm ne_b4_n2_11) (ninS (Ne.symm ne_n0_5_n2_11) nin0))
      clear F_b4
      have F_b4 := Q_b4; clear Q_b4
      clear A_n0_5
      have A_n0_5 := Q_n0_5; clear Q_n0_5
      clear K16 hn_15 hk_15
      show OG p e below m _ T 91 _ []
      refine o_aload P (hb hby at_91) rfl rfl (pc' := 93) rfl ?_
      refine o_aload P (hb hby at_93) rfl rfl (pc' := 95) rfl ?_
      have hn_17 := P.n0le; have hk_17 := P.keep0.1
      refine o_callV P (W := 0) (a := b1) (ow hw 102 rfl) (ow hw 103 rfl) (o_nfSl (ow hw 105 rfl)) (ow hw 105 rfl) (ow hw 104 rfl) (ow hw 5 rfl) (ow hw 106 rfl) (by decide) F_b1.exa (ct_e115 l Z a0 hw EL n0 b1 b4 n0_2 n0_5 vx vy od oz hg h16 F_b1 F_b4 A_n0_2 A_n0_5 ne_b1_b4 ne_b1_n0_2 ne_b1_n0_5 (Ne.symm ne_n0_2_b4) ne_b4_n0_5 ne_n0_2_n0_5) (o_sfS (List.Mem.tail _ (List.Mem.tail _ (List.Mem.tail _ (List.Mem.tail _ (List.Mem.tail _ (List.Mem.tail _ (List.Mem.head _))))))) (o_sfS (List.Mem.tail _ (List.Mem.tail _ (List.Mem.tail _ (List.Mem.tail _ (List.Mem.tail _ (List.Mem.head _)))))) o_sf0)) (by rw [hml]; rfl) (by decide) (by decide) (argsL := [(.ref b4)]) (rest := []) (lenOf pd_21 rfl) rfl rfl (Nat.le_of_eq rfl) (hb hby at_95) (pc' := 98) rfl (by decide) (by decide) ?_
      clear P; intro T h18 v18 P K18 q18
      obtain ⟨rfl, Q_b1, Q_n0_2, -⟩ := q18
      replace F_b4 := F_b4.keep K18 (ninS (Ne.symm ne_b1_b4) (ninS (Ne.symm ne_n0_2_b4) nin0))
      replace F_n0_11 := F_n0_11.keep K18 (ninS (Ne.symm ne_b1_n0_11) (ninS (Ne.symm ne_n0_2_n0_11) nin0))
      replace F_n1_11 := F_n1_11.keep K18 (ninS (Ne.symm ne_b1_n1_11) (ninS (Ne.symm ne_n0_2_n1_11) nin0))
      replace A_n0_5 := A_n0_5.keep K18 (ninS (Ne.symm ne_b1_n0_5) (ninS (Ne.symm ne_n0_2_n0_5) nin0))
      replace A_n2_11 := A_n2_11.keep K18 (ninS (Ne.symm ne_b1_n2_11) (ninS (Ne.symm ne_n0_2_n2_11) nin0))
      clear F_b1
      have F_b1 := Q_b1; clear Q_b1
      clear A_n0_2
      have A_n0_2 := Q_n0_2; clear Q_n0_2
      clear K18 hn_17 hk_17
      show OG p e below m _ T 98 _ []
      refine o_aload P (hb hby at_98) rfl rfl (pc' := 100) rfl ?_
      refine o_aload P (hb hby at_100) rfl rfl (pc' := 102) rfl ?_
      have hn_19 := P.n0le; have hk_19 := P.keep0.1
      refine o_callV P (W := 0) (a := b4) (ow hw 102 rfl) (ow hw 103 rfl) (o_nfSl (ow hw 105 rfl)) (ow hw 105 rfl) (ow hw 104 rfl) (ow hw 5 rfl) (ow hw 106 rfl) (by decide) F_b4.exa (ct_e117 l Z a0 hw EL n0 b4 b1 n0_5 n0_2 vy vx od oz hg h18 F_b4 F_b1 A_n0_5 A_n0_2 (Ne.symm ne_b1_b4) ne_b4_n0_5 (Ne.symm ne_n0_2_b4) ne_b1_n0_5 ne_b1_n0_2 (Ne.symm ne_n0_2_n0_5)) (o_sfS (List.Mem.tail _ (List.Mem.tail _ (List.Mem.tail _ (List.Mem.tail _ (List.Mem.head _))))) (o_sfS (List.Mem.tail _ (List.Mem.tail _ (List.Mem.tail _ (List.Mem.head _)))) o_sf0)) (by rw [hml]; rfl) (by decide) (by decide) (argsL := [(.ref b1)]) (rest := []) (lenOf pd_21 rfl) rfl rfl (Nat.le_of_eq rfl) (hb hby at_102) (pc' := 105) rfl (by decide) (by decide) ?_
      clear P; intro T h20 v20 P K20 q20
      obtain ⟨rfl, Q_b4, Q_n0_5, -⟩ := q20
      replace F_b1 := F_b1.keep K20 (ninS ne_b1_b4 (ninS ne_b1_n0_5 nin0))
      replace F_n0_11 := F_n0_11.keep K20 (ninS (Ne.symm ne_b4_n0_11) (ninS (Ne.symm ne_n0_5_n0_11) nin0))
      replace F_n1_11 := F_n1_11.keep K20 (ninS (Ne.symm ne_b4_n1_11) (ninS (Ne.symm ne_n0_5_n1_11) nin0))
      replace A_n0_2 := A_n0_2.keep K20 (ninS ne_n0_2_b4 (ninS ne_n0_2_n0_5 nin0))
      replace A_n2_11 := A_n2_11.keep K20 (ninS (Ne.symm ne_b4_n2_11) (ninS (Ne.symm ne_n0_5_n2_11) nin0))
      clear F_b4
      have F_b4 := Q_b4; clear Q_b4
      clear A_n0_5
      have A_n0_5 := Q_n0_5; clear Q_n0_5
      clear K20 hn_19 hk_19
      show OG p e below m _ T 105 _ []
      refine o_aload P (hb hby at_105) rfl rfl (pc' := 107) rfl ?_
      refine o_aload P (hb hby at_107) rfl rfl (pc' := 109) rfl ?_
      have hn_21 := P.n0le; have hk_21 := P.keep0.1
      refine o_callV P (W := 0) (a := b1) (ow hw 102 rfl) (ow hw 103 rfl) (o_nfSl (ow hw 105 rfl)) (ow hw 105 rfl) (ow hw 104 rfl) (ow hw 5 rfl) (ow hw 106 rfl) (by decide) F_b1.exa (ct_e119 l Z a0 hw EL n0 b1 b4 n0_2 n0_5 vx vy od oz hg h20 F_b1 F_b4 A_n0_2 A_n0_5 ne_b1_b4 ne_b1_n0_2 ne_b1_n0_5 (Ne.symm ne_n0_2_b4) ne_b4_n0_5 ne_n0_2_n0_5) (o_sfS (List.Mem.tail _ (List.Mem.tail _ (List.Mem.tail _ (List.Mem.tail _ (List.Mem.tail _ (List.Mem.tail _ (List.Mem.head _))))))) (o_sfS (List.Mem.tail _ (List.Mem.tail _ (List.Mem.tail _ (List.Mem.tail _ (List.Mem.tail _ (List.Mem.head _)))))) o_sf0)) (by rw [hml]; rfl) (by decide) (by decide) (argsL := [(.ref b4)]) (rest := []) (lenOf pd_21 rfl) rfl rfl (Nat.le_of_eq rfl) (hb hby at_109) (pc' := 112) rfl (by decide) (by decide) ?_
      clear P; intro T h22 v22 P K22 q22
      obtain ⟨rfl, Q_b1, Q_n0_2, -⟩ := q22
      replace F_b4 := F_b4.keep K22 (ninS (Ne.symm ne_b1_b4) (ninS (Ne.symm ne_n0_2_b4) nin0))
      replace F_n0_11 := F_n0_11.keep K22 (ninS (Ne.symm ne_b1_n0_11) (ninS (Ne.symm ne_n0_2_n0_11) nin0))
      replace F_n1_11 := F_n1_11.keep K22 (ninS (Ne.symm ne_b1_n1_11) (ninS (Ne.symm ne_n0_2_n1_11) nin0))
      replace A_n0_5 := A_n0_5.keep K22 (ninS (Ne.symm ne_b1_n0_5) (ninS (Ne.symm ne_n0_2_n0_5) nin0))
      replace A_n2_11 := A_n2_11.keep K22 (ninS (Ne.symm ne_b1_n2_11) (ninS (Ne.symm ne_n0_2_n2_11) nin0))
      clear F_b1
      have F_b1 := Q_b1; clear Q_b1
      clear A_n0_2
      have A_n0_2 := Q_n0_2; clear Q_n0_2
      clear K22 hn_21 hk_21
      show OG p e below m _ T 112 _ []
      refine o_aload P (hb hby at_112) rfl rfl (pc' := 114) rfl ?_
      refine o_aload P (hb hby at_114) rfl rfl (pc' := 116) rfl ?_
      have hn_23 := P.n0le; have hk_23 := P.keep0.1
      refine o_callV P (W := 0) (a := b4) (ow hw 102 rfl) (ow hw 103 rfl) (o_nfSl (ow hw 105 rfl)) (ow hw 105 rfl) (ow hw 104 rfl) (ow hw 5 rfl) (ow hw 106 rfl) (by decide) F_b4.exa (ct_e127 l Z a0 hw EL n0 b4 b1 n0_5 n0_2 vy vx od oz hg h22 F_b4 F_b1 A_n0_5 A_n0_2 (Ne.symm ne_b1_b4) ne_b4_n0_5 (Ne.symm ne_n0_2_b4) ne_b1_n0_5 ne_b1_n0_2 (Ne.symm ne_n0_2_n0_5)) (o_sfS (List.Mem.tail _ (List.Mem.tail _ (List.Mem.tail _ (List.Mem.tail _ (List.Mem.head _))))) o_sf0) (by rw [hml]; rfl) (by decide) (by decide) (argsL := [(.ref b1)]) (rest := []) (lenOf pd_21 rfl) rfl rfl (Nat.le_of_eq rfl) (hb hby at_116) (pc' := 119) rfl (by decide) (by decide) ?_
      clear P; intro T h24 v24 P K24 q24
      obtain ⟨n0_23, rfl, g_n0_23, Q_b4, Q_n0_23, -⟩ := q24
      have ne_b1_n0_23 := F_b1.nb g_n0_23
      have ne_b4_n0_23 := F_b4.nb g_n0_23
      have ne_n0_11_n0_23 := F_n0_11.nb g_n0_23
      have ne_n1_11_n0_23 := F_n1_11.nb g_n0_23
      have ne_n0_2_n0_23 := A_n0_2.nb g_n0_23
      have ne_n0_5_n0_23 := A_n0_5.nb g_n0_23
      have ne_n2_11_n0_23 := A_n2_11.nb g_n0_23
      have sz_n0_23 := Nat.le_trans hk_23 g_n0_23
      replace F_b1 := F_b1.keep K24 (ninS ne_b1_b4 nin0)
      replace F_n0_11 := F_n0_11.keep K24 (ninS (Ne.symm ne_b4_n0_11) nin0)
      replace F_n1_11 := F_n1_11.keep K24 (ninS (Ne.symm ne_b4_n1_11) nin0)
      replace A_n0_2 := A_n0_2.keep K24 (ninS ne_n0_2_b4 nin0)
      replace A_n0_5 := A_n0_5.keep K24 (ninS (Ne.symm ne_b4_n0_5) nin0)
      replace A_n2_11 := A_n2_11.keep K24 (ninS (Ne.symm ne_b4_n2_11) nin0)
      clear F_b4
      have F_b4 := Q_b4; clear Q_b4
      have A_n0_23 := Q_n0_23; clear Q_n0_23
      replace P := P.moreA A_n0_23 (fun q => by cases q) (Nat.le_trans hn_23 g_n0_23) sz_n0_23
      clear K24 hn_23 hk_23
      show OG p e below m _ T 119 _ []
      exact law119_13od l Z a0 hw EL hby hml hret vx vy fl ii jj pp od oz hg cv hcs hcv fv hfv hfr hm37 hm39 hm41 hm43 b1 n0_2 b4 n0_23 F_b1 A_n0_2 F_b4 A_n0_23 ne_b1_n0_2 ne_b4_n0_23 (List.Mem.tail _ (List.Mem.tail _ (List.Mem.tail _ (List.Mem.tail _ (List.Mem.tail _ (List.Mem.tail _ (List.Mem.tail _ (List.Mem.head _)))))))) (List.Mem.tail _ (List.Mem.tail _ (List.Mem.tail _ (List.Mem.tail _ (List.Mem.tail _ (List.Mem.tail _ (List.Mem.head _))))))) (P.mono (by decide) (by decide))
    · refine o_getS P (ow hw 233 rfl) Via.refl hg.2.2.1 (hb hby at_21) (pc' := 24) rfl ?_
      clear P; intro T P
      refine o_goto P (hb hby at_24) (by decide) (pc' := 30) (by decide) ?_
      refine o_astore P (hb hby at_30) rfl (L' := #[.val (.long vx), .second, .val (.long vy), .second, .val (.int fl), .val (.int ii), .val (.int jj), .val (.int pp), .val (.int 0), .val (.ref oz), .unset, .unset, .unset, .unset, .unset, .unset, .unset, .unset, .unset, .unset, .unset, .unset, .unset, .unset, .unset]) rfl (pc' := 32) rfl ?_
      have hz_b1 := P.keep0.1
      refine o_new P [(kK, "keys", "[J", .null), (kK, "size", "I", (.int 0)), (kK, "selection", kSd, .null)] (ow hw 3 rfl) (ow hw 4 rfl) (ow hw 5 rfl) (OLd.cons (Or.inl (ow hw 14 rfl)) (ty := (.array .long)) (by decide) rfl (OLd.cons (Or.inl (ow hw 26 rfl)) (ty := .int) (by decide) rfl (OLd.cons (Or.inl (ow hw 28 rfl)) (ty := (.object kS)) (by decide) rfl OLd.nil))) (by decide +kernel) (hb hby at_32) (pc' := 35) rfl (by decide) (by decide) ?_
      clear P; intro T h1 b1 P K1 hb_b1 F_b1
      have sz_b1 := Nat.le_trans hz_b1 hb_b1
      clear hz_b1
      clear K1
      refine o_dup P (hb hby at_35) rfl (pc' := 36) rfl ?_
      have hn_2 := P.n0le; have hk_2 := P.keep0.1
      refine o_callI P (W := 1) (a := b1) rfl (ow hw 6 rfl) (ow hw 7 rfl) (ow hw 5 rfl) (ow hw 8 rfl) (by decide) (ct_e94 l Z a0 hw EL n0 b1  od oz hg h1 F_b1 ) (o_sfS (List.Mem.head _) o_sf0) (by rw [hml]; rfl) (by decide) (by decide) (argsL := []) (rest := [(.ref b1)]) (lenOf pd_2 rfl) rfl rfl (Nat.le_of_eq rfl) (hb hby at_36) (pc' := 39) rfl (by decide) (by decide) ?_
      clear P; intro T h3 v3 P K3 q3
      obtain ⟨n0_2, rfl, g_n0_2, Q_b1, Q_n0_2, -⟩ := q3
      have ne_b1_n0_2 := F_b1.nb g_n0_2
      have sz_n0_2 := Nat.le_trans hk_2 g_n0_2
      clear F_b1
      have F_b1 := Q_b1; clear Q_b1
      have A_n0_2 := Q_n0_2; clear Q_n0_2
      replace P := P.moreA A_n0_2 (fun q => by cases q) (Nat.le_trans hn_2 g_n0_2) sz_n0_2
      clear K3 hn_2 hk_2
      show OG p e below m _ T 39 _ [(.ref b1)]
      refine o_astore P (hb hby at_39) rfl (L' := #[.val (.long vx), .second, .val (.long vy), .second, .val (.int fl), .val (.int ii), .val (.int jj), .val (.int pp), .val (.int 0), .val (.ref oz), .val (.ref b1), .unset, .unset, .unset, .unset, .unset, .unset, .unset, .unset, .unset, .unset, .unset, .unset, .unset, .unset]) rfl (pc' := 41) rfl ?_
      have hz_b4 := P.keep0.1
      refine o_new P [(kK, "keys", "[J", .null), (kK, "size", "I", (.int 0)), (kK, "selection", kSd, .null)] (ow hw 3 rfl) (ow hw 4 rfl) (ow hw 5 rfl) (OLd.cons (Or.inl (ow hw 14 rfl)) (ty := (.array .long)) (by decide) rfl (OLd.cons (Or.inl (ow hw 26 rfl)) (ty := .int) (by decide) rfl (OLd.cons (Or.inl (ow hw 28 rfl)) (ty := (.object kS)) (by decide) rfl OLd.nil))) (by decide +kernel) (hb hby at_41) (pc' := 44) rfl (by decide) (by decide) ?_
      clear P; intro T h4 b4 P K4 hb_b4 F_b4
      have sz_b4 := Nat.le_trans hz_b4 hb_b4
      clear hz_b4
      have ne_b1_b4 := F_b1.nb hb_b4
      have ne_n0_2_b4 := A_n0_2.nb hb_b4
      replace F_b1 := F_b1.keep K4 nin0
      replace A_n0_2 := A_n0_2.keep K4 nin0
      clear K4
      refine o_dup P (hb hby at_44) rfl (pc' := 45) rfl ?_
      have hn_5 := P.n0le; have hk_5 := P.keep0.1
      refine o_callI P (W := 1) (a := b4) rfl (ow hw 6 rfl) (ow hw 7 rfl) (ow hw 5 rfl) (ow hw 8 rfl) (by decide) (ct_e94 l Z a0 hw EL n0 b4  od oz hg h4 F_b4 ) (o_sfS (List.Mem.head _) o_sf0) (by rw [hml]; rfl) (by decide) (by decide) (argsL := []) (rest := [(.ref b4)]) (lenOf pd_2 rfl) rfl rfl (Nat.le_of_eq rfl) (hb hby at_45) (pc' := 48) rfl (by decide) (by decide) ?_
      clear P; intro T h6 v6 P K6 q6
      obtain ⟨n0_5, rfl, g_n0_5, Q_b4, Q_n0_5, -⟩ := q6
      have ne_b1_n0_5 := F_b1.nb g_n0_5
      have ne_b4_n0_5 := F_b4.nb g_n0_5
      have ne_n0_2_n0_5 := A_n0_2.nb g_n0_5
      have sz_n0_5 := Nat.le_trans hk_5 g_n0_5
      replace F_b1 := F_b1.keep K6 (ninS ne_b1_b4 nin0)
      replace A_n0_2 := A_n0_2.keep K6 (ninS ne_n0_2_b4 nin0)
      clear F_b4
      have F_b4 := Q_b4; clear Q_b4
      have A_n0_5 := Q_n0_5; clear Q_n0_5
      replace P := P.moreA A_n0_5 (fun q => by cases q) (Nat.le_trans hn_5 g_n0_5) sz_n0_5
      clear K6 hn_5 hk_5
      show OG p e below m _ T 48 _ [(.ref b4)]
      refine o_astore P (hb hby at_48) rfl (L' := #[.val (.long vx), .second, .val (.long vy), .second, .val (.int fl), .val (.int ii), .val (.int jj), .val (.int pp), .val (.int 0), .val (.ref oz), .val (.ref b1), .val (.ref b4), .unset, .unset, .unset, .unset, .unset, .unset, .unset, .unset, .unset, .unset, .unset, .unset, .unset]) rfl (pc' := 50) rfl ?_
      refine o_aload P (hb hby at_50) rfl rfl (pc' := 52) rfl ?_
      refine o_lloadN P (hb hby at_52) rfl (pc' := 53) rfl ?_
      have hn_7 := P.n0le; have hk_7 := P.keep0.1
      refine o_callV P (W := 0) (a := b1) (ow hw 15 rfl) (ow hw 16 rfl) (o_nfSl (ow hw 18 rfl)) (ow hw 18 rfl) (ow hw 17 rfl) (ow hw 5 rfl) (ow hw 19 rfl) (by decide) F_b1.exa (ct_e98 l Z a0 hw EL n0 b1 n0_2 vx od oz hg h6 F_b1 A_n0_2 ne_b1_n0_2) (o_sfS (List.Mem.tail _ (List.Mem.tail _ (List.Mem.tail _ (List.Mem.head _)))) (o_sfS (List.Mem.tail _ (List.Mem.tail _ (List.Mem.head _))) o_sf0)) (by rw [hml]; rfl) (by decide) (by decide) (argsL := [(.long vx)]) (rest := []) (lenOf pd_20 rfl) rfl rfl (Nat.le_of_eq rfl) (hb hby at_53) (pc' := 56) rfl (by decide) (by decide) ?_
      clear P; intro T h8 v8 P K8 q8
      obtain ⟨rfl, Q_b1, Q_n0_2, -⟩ := q8
      replace F_b4 := F_b4.keep K8 (ninS (Ne.symm ne_b1_b4) (ninS (Ne.symm ne_n0_2_b4) nin0))
      replace A_n0_5 := A_n0_5.keep K8 (ninS (Ne.symm ne_b1_n0_5) (ninS (Ne.symm ne_n0_2_n0_5) nin0))
      clear F_b1
      have F_b1 := Q_b1; clear Q_b1
      clear A_n0_2
      have A_n0_2 := Q_n0_2; clear Q_n0_2
      clear K8 hn_7 hk_7
      show OG p e below m _ T 56 _ []
      refine o_iload P (hb hby at_56) rfl (pc' := 58) rfl ?_
      refine o_if_ne P (hb hby at_58) (by decide) (pc' := 67) (by decide) (pcf := 61) rfl (fun q => absurd (by decide) q) (fun _ => ?_)
      refine o_aload P (hb hby at_61) rfl rfl (pc' := 63) rfl ?_
      refine o_lloadN P (hb hby at_63) rfl (pc' := 64) rfl ?_
      have hn_9 := P.n0le; have hk_9 := P.keep0.1
      refine o_callV P (W := 0) (a := b4) (ow hw 15 rfl) (ow hw 16 rfl) (o_nfSl (ow hw 18 rfl)) (ow hw 18 rfl) (ow hw 17 rfl) (ow hw 5 rfl) (ow hw 19 rfl) (by decide) F_b4.exa (ct_e98 l Z a0 hw EL n0 b4 n0_5 vy od oz hg h8 F_b4 A_n0_5 ne_b4_n0_5) (o_sfS (List.Mem.tail _ (List.Mem.head _)) (o_sfS (List.Mem.head _) o_sf0)) (by rw [hml]; rfl) (by decide) (by decide) (argsL := [(.long vy)]) (rest := []) (lenOf pd_20 rfl) rfl rfl (Nat.le_of_eq rfl) (hb hby at_64) (pc' := 67) rfl (by decide) (by decide) ?_
      clear P; intro T h10 v10 P K10 q10
      obtain ⟨rfl, Q_b4, Q_n0_5, -⟩ := q10
      replace F_b1 := F_b1.keep K10 (ninS ne_b1_b4 (ninS ne_b1_n0_5 nin0))
      replace A_n0_2 := A_n0_2.keep K10 (ninS ne_n0_2_b4 (ninS ne_n0_2_n0_5 nin0))
      clear F_b4
      have F_b4 := Q_b4; clear Q_b4
      clear A_n0_5
      have A_n0_5 := Q_n0_5; clear Q_n0_5
      clear K10 hn_9 hk_9
      show OG p e below m _ T 67 _ []
      refine o_aload P (hb hby at_67) rfl rfl (pc' := 69) rfl ?_
      refine o_iconst P (1 : Int32) (hb hby at_69) rfl (pc' := 70) rfl ?_
      refine o_aload P (hb hby at_70) rfl rfl (pc' := 72) rfl ?_
      have hn_11 := P.n0le; have hk_11 := P.keep0.1
      refine o_callV P (W := 0) (a := b1) (ow hw 29 rfl) (ow hw 30 rfl) (o_nfSl (ow hw 32 rfl)) (ow hw 32 rfl) (ow hw 31 rfl) (ow hw 5 rfl) (ow hw 33 rfl) (by decide) F_b1.exa (ct_e128 l Z a0 hw EL n0 b1 n0_2 vx od oz hg h10 F_b1 A_n0_2 ne_b1_n0_2) (o_sfS (List.Mem.tail _ (List.Mem.tail _ (List.Mem.tail _ (List.Mem.head _)))) o_sf0) (by rw [hml]; rfl) (by decide) (by decide) (argsL := [(.int 1), (.ref oz)]) (rest := []) (lenOf pd_19 rfl) rfl rfl (Nat.le_of_eq rfl) (hb hby at_72) (pc' := 75) rfl (by decide) (by decide) ?_
      clear P; intro T h12 v12 P K12 q12
      obtain ⟨n0_11, n1_11, n2_11, rfl, g_n0_11, g_n1_11, g_n2_11, ne_n0_11_n1_11, ne_n0_11_n2_11, ne_n1_11_n2_11, Q_b1, Q_n0_11, Q_n1_11, Q_n2_11, -⟩ := q12
      have ne_b1_n0_11 := F_b1.nb g_n0_11
      have ne_b4_n0_11 := F_b4.nb g_n0_11
      have ne_n0_2_n0_11 := A_n0_2.nb g_n0_11
      have ne_n0_5_n0_11 := A_n0_5.nb g_n0_11
      have sz_n0_11 := Nat.le_trans hk_11 g_n0_11
      have ne_b1_n1_11 := F_b1.nb g_n1_11
      have ne_b4_n1_11 := F_b4.nb g_n1_11
      have ne_n0_2_n1_11 := A_n0_2.nb g_n1_11
      have ne_n0_5_n1_11 := A_n0_5.nb g_n1_11
      have sz_n1_11 := Nat.le_trans hk_11 g_n1_11
      have ne_b1_n2_11 := F_b1.nb g_n2_11
      have ne_b4_n2_11 := F_b4.nb g_n2_11
      have ne_n0_2_n2_11 := A_n0_2.nb g_n2_11
      have ne_n0_5_n2_11 := A_n0_5.nb g_n2_11
      have sz_n2_11 := Nat.le_trans hk_11 g_n2_11
      replace F_b4 := F_b4.keep K12 (ninS (Ne.symm ne_b1_b4) nin0)
      replace A_n0_2 := A_n0_2.keep K12 (ninS (Ne.symm ne_b1_n0_2) nin0)
      replace A_n0_5 := A_n0_5.keep K12 (ninS (Ne.symm ne_b1_n0_5) nin0)
      clear F_b1
      have F_b1 := Q_b1; clear Q_b1
      have F_n0_11 := Q_n0_11; clear Q_n0_11
      have F_n1_11 := Q_n1_11; clear Q_n1_11
      have A_n2_11 := Q_n2_11; clear Q_n2_11
      replace P := P.moreO F_n0_11.exa (by decide) (by decide) (Nat.le_trans hn_11 g_n0_11) sz_n0_11
      replace P := P.moreO F_n1_11.exa (by decide) (by decide) (Nat.le_trans hn_11 g_n1_11) sz_n1_11
      replace P := P.moreA A_n2_11 (fun q => by cases q) (Nat.le_trans hn_11 g_n2_11) sz_n2_11
      clear K12 hn_11 hk_11
      show OG p e below m _ T 75 _ [(.long vx)]
      refine o_lstore P (hb hby at_75) (L' := #[.val (.long vx), .second, .val (.long vy), .second, .val (.int fl), .val (.int ii), .val (.int jj), .val (.int pp), .val (.int 0), .val (.ref oz), .val (.ref b1), .val (.ref b4), .val (.long vx), .second, .unset, .unset, .unset, .unset, .unset, .unset, .unset, .unset, .unset, .unset, .unset]) rfl (pc' := 77) rfl ?_
      refine o_aload P (hb hby at_77) rfl rfl (pc' := 79) rfl ?_
      refine o_aload P (hb hby at_79) rfl rfl (pc' := 81) rfl ?_
      have hn_13 := P.n0le; have hk_13 := P.keep0.1
      refine o_callV P (W := 0) (a := b1) (ow hw 102 rfl) (ow hw 103 rfl) (o_nfSl (ow hw 105 rfl)) (ow hw 105 rfl) (ow hw 104 rfl) (ow hw 5 rfl) (ow hw 106 rfl) (by decide) F_b1.exa (ct_e111 l Z a0 hw EL n0 b1 b4 n0_2 n0_11 n0_5 n1_11 n2_11 vx vy od oz hg h12 F_b1 F_b4 A_n0_2 F_n0_11 A_n0_5 F_n1_11 A_n2_11 ne_b1_b4 ne_b1_n0_2 ne_b1_n0_11 ne_b1_n0_5 ne_b1_n1_11 ne_b1_n2_11 (Ne.symm ne_n0_2_b4) ne_b4_n0_11 ne_b4_n0_5 ne_b4_n1_11 ne_b4_n2_11 ne_n0_2_n0_11 ne_n0_2_n0_5 ne_n0_2_n1_11 ne_n0_2_n2_11 (Ne.symm ne_n0_5_n0_11) ne_n0_11_n1_11 ne_n0_11_n2_11 ne_n0_5_n1_11 ne_n0_5_n2_11 ne_n1_11_n2_11) (o_sfS (List.Mem.tail _ (List.Mem.tail _ (List.Mem.tail _ (List.Mem.tail _ (List.Mem.tail _ (List.Mem.tail _ (List.Mem.head _))))))) (o_sfS (List.Mem.tail _ (List.Mem.tail _ (List.Mem.tail _ (List.Mem.tail _ (List.Mem.tail _ (List.Mem.head _)))))) o_sf0)) (by rw [hml]; rfl) (by decide) (by decide) (argsL := [(.ref b4)]) (rest := []) (lenOf pd_21 rfl) rfl rfl (Nat.le_of_eq rfl) (hb hby at_81) (pc' := 84) rfl (by decide) (by decide) ?_
      clear P; intro T h14 v14 P K14 q14
      obtain ⟨rfl, Q_b1, Q_n0_2, -⟩ := q14
      replace F_b4 := F_b4.keep K14 (ninS (Ne.symm ne_b1_b4) (ninS (Ne.symm ne_n0_2_b4) nin0))
      replace F_n0_11 := F_n0_11.keep K14 (ninS (Ne.symm ne_b1_n0_11) (ninS (Ne.symm ne_n0_2_n0_11) nin0))
      replace F_n1_11 := F_n1_11.keep K14 (ninS (Ne.symm ne_b1_n1_11) (ninS (Ne.symm ne_n0_2_n1_11) nin0))
      replace A_n0_5 := A_n0_5.keep K14 (ninS (Ne.symm ne_b1_n0_5) (ninS (Ne.symm ne_n0_2_n0_5) nin0))
      replace A_n2_11 := A_n2_11.keep K14 (ninS (Ne.symm ne_b1_n2_11) (ninS (Ne.symm ne_n0_2_n2_11) nin0))
      clear F_b1
      have F_b1 := Q_b1; clear Q_b1
      clear A_n0_2
      have A_n0_2 := Q_n0_2; clear Q_n0_2
      clear K14 hn_13 hk_13
      show OG p e below m _ T 84 _ []
      refine o_aload P (hb hby at_84) rfl rfl (pc' := 86) rfl ?_
      refine o_aload P (hb hby at_86) rfl rfl (pc' := 88) rfl ?_
      have hn_15 := P.n0le; have hk_15 := P.keep0.1
      refine o_callV P (W := 0) (a := b4) (ow hw 102 rfl) (ow hw 103 rfl) (o_nfSl (ow hw 105 rfl)) (ow hw 105 rfl) (ow hw 104 rfl) (ow hw 5 rfl) (ow hw 106 rfl) (by decide) F_b4.exa (ct_e113 l Z a0 hw EL n0 b4 b1 n0_5 n0_2 vy vx od oz hg h14 F_b4 F_b1 A_n0_5 A_n0_2 (Ne.symm ne_b1_b4) ne_b4_n0_5 (Ne.symm ne_n0_2_b4) ne_b1_n0_5 ne_b1_n0_2 (Ne.symm ne_n0_2_n0_5)) (o_sfS (List.Mem.tail _ (List.Mem.tail _ (List.Mem.tail _ (List.Mem.tail _ (List.Mem.head _))))) (o_sfS (List.Mem.tail _ (List.Mem.tail _ (List.Mem.tail _ (List.Mem.head _)))) o_sf0)) (by rw [hml]; rfl) (by decide) (by decide) (argsL := [(.ref b1)]) (rest := []) (lenOf pd_21 rfl) rfl rfl (Nat.le_of_eq rfl) (hb hby at_88) (pc' := 91) rfl (by decide) (by decide) ?_
      clear P; intro T h16 v16 P K16 q16
      obtain ⟨rfl, Q_b4, Q_n0_5, -⟩ := q16
      replace F_b1 := F_b1.keep K16 (ninS ne_b1_b4 (ninS ne_b1_n0_5 nin0))
      replace F_n0_11 := F_n0_11.keep K16 (ninS (Ne.symm ne_b4_n0_11) (ninS (Ne.symm ne_n0_5_n0_11) nin0))
      replace F_n1_11 := F_n1_11.keep K16 (ninS (Ne.symm ne_b4_n1_11) (ninS (Ne.symm ne_n0_5_n1_11) nin0))
      replace A_n0_2 := A_n0_2.keep K16 (ninS ne_n0_2_b4 (ninS ne_n0_2_n0_5 nin0))
      replace A_n2_11 := A_n2_11.keep K16 (ninS (Ne.symm ne_b4_n2_11) (ninS (Ne.symm ne_n0_5_n2_11) nin0))
      clear F_b4
      have F_b4 := Q_b4; clear Q_b4
      clear A_n0_5
      have A_n0_5 := Q_n0_5; clear Q_n0_5
      clear K16 hn_15 hk_15
      show OG p e below m _ T 91 _ []
      refine o_aload P (hb hby at_91) rfl rfl (pc' := 93) rfl ?_
      refine o_aload P (hb hby at_93) rfl rfl (pc' := 95) rfl ?_
      have hn_17 := P.n0le; have hk_17 := P.keep0.1
      refine o_callV P (W := 0) (a := b1) (ow hw 102 rfl) (ow hw 103 rfl) (o_nfSl (ow hw 105 rfl)) (ow hw 105 rfl) (ow hw 104 rfl) (ow hw 5 rfl) (ow hw 106 rfl) (by decide) F_b1.exa (ct_e115 l Z a0 hw EL n0 b1 b4 n0_2 n0_5 vx vy od oz hg h16 F_b1 F_b4 A_n0_2 A_n0_5 ne_b1_b4 ne_b1_n0_2 ne_b1_n0_5 (Ne.symm ne_n0_2_b4) ne_b4_n0_5 ne_n0_2_n0_5) (o_sfS (List.Mem.tail _ (List.Mem.tail _ (List.Mem.tail _ (List.Mem.tail _ (List.Mem.tail _ (List.Mem.tail _ (List.Mem.head _))))))) (o_sfS (List.Mem.tail _ (List.Mem.tail _ (List.Mem.tail _ (List.Mem.tail _ (List.Mem.tail _ (List.Mem.head _)))))) o_sf0)) (by rw [hml]; rfl) (by decide) (by decide) (argsL := [(.ref b4)]) (rest := []) (lenOf pd_21 rfl) rfl rfl (Nat.le_of_eq rfl) (hb hby at_95) (pc' := 98) rfl (by decide) (by decide) ?_
      clear P; intro T h18 v18 P K18 q18
      obtain ⟨rfl, Q_b1, Q_n0_2, -⟩ := q18
      replace F_b4 := F_b4.keep K18 (ninS (Ne.symm ne_b1_b4) (ninS (Ne.symm ne_n0_2_b4) nin0))
      replace F_n0_11 := F_n0_11.keep K18 (ninS (Ne.symm ne_b1_n0_11) (ninS (Ne.symm ne_n0_2_n0_11) nin0))
      replace F_n1_11 := F_n1_11.keep K18 (ninS (Ne.symm ne_b1_n1_11) (ninS (Ne.symm ne_n0_2_n1_11) nin0))
      replace A_n0_5 := A_n0_5.keep K18 (ninS (Ne.symm ne_b1_n0_5) (ninS (Ne.symm ne_n0_2_n0_5) nin0))
      replace A_n2_11 := A_n2_11.keep K18 (ninS (Ne.symm ne_b1_n2_11) (ninS (Ne.symm ne_n0_2_n2_11) nin0))
      clear F_b1
      have F_b1 := Q_b1; clear Q_b1
      clear A_n0_2
      have A_n0_2 := Q_n0_2; clear Q_n0_2
      clear K18 hn_17 hk_17
      show OG p e below m _ T 98 _ []
      refine o_aload P (hb hby at_98) rfl rfl (pc' := 100) rfl ?_
      refine o_aload P (hb hby at_100) rfl rfl (pc' := 102) rfl ?_
      have hn_19 := P.n0le; have hk_19 := P.keep0.1
      refine o_callV P (W := 0) (a := b4) (ow hw 102 rfl) (ow hw 103 rfl) (o_nfSl (ow hw 105 rfl)) (ow hw 105 rfl) (ow hw 104 rfl) (ow hw 5 rfl) (ow hw 106 rfl) (by decide) F_b4.exa (ct_e117 l Z a0 hw EL n0 b4 b1 n0_5 n0_2 vy vx od oz hg h18 F_b4 F_b1 A_n0_5 A_n0_2 (Ne.symm ne_b1_b4) ne_b4_n0_5 (Ne.symm ne_n0_2_b4) ne_b1_n0_5 ne_b1_n0_2 (Ne.symm ne_n0_2_n0_5)) (o_sfS (List.Mem.tail _ (List.Mem.tail _ (List.Mem.tail _ (List.Mem.tail _ (List.Mem.head _))))) (o_sfS (List.Mem.tail _ (List.Mem.tail _ (List.Mem.tail _ (List.Mem.head _)))) o_sf0)) (by rw [hml]; rfl) (by decide) (by decide) (argsL := [(.ref b1)]) (rest := []) (lenOf pd_21 rfl) rfl rfl (Nat.le_of_eq rfl) (hb hby at_102) (pc' := 105) rfl (by decide) (by decide) ?_
      clear P; intro T h20 v20 P K20 q20
      obtain ⟨rfl, Q_b4, Q_n0_5, -⟩ := q20
      replace F_b1 := F_b1.keep K20 (ninS ne_b1_b4 (ninS ne_b1_n0_5 nin0))
      replace F_n0_11 := F_n0_11.keep K20 (ninS (Ne.symm ne_b4_n0_11) (ninS (Ne.symm ne_n0_5_n0_11) nin0))
      replace F_n1_11 := F_n1_11.keep K20 (ninS (Ne.symm ne_b4_n1_11) (ninS (Ne.symm ne_n0_5_n1_11) nin0))
      replace A_n0_2 := A_n0_2.keep K20 (ninS ne_n0_2_b4 (ninS ne_n0_2_n0_5 nin0))
      replace A_n2_11 := A_n2_11.keep K20 (ninS (Ne.symm ne_b4_n2_11) (ninS (Ne.symm ne_n0_5_n2_11) nin0))
      clear F_b4
      have F_b4 := Q_b4; clear Q_b4
      clear A_n0_5
      have A_n0_5 := Q_n0_5; clear Q_n0_5
      clear K20 hn_19 hk_19
      show OG p e below m _ T 105 _ []
      refine o_aload P (hb hby at_105) rfl rfl (pc' := 107) rfl ?_
      refine o_aload P (hb hby at_107) rfl rfl (pc' := 109) rfl ?_
      have hn_21 := P.n0le; have hk_21 := P.keep0.1
      refine o_callV P (W := 0) (a := b1) (ow hw 102 rfl) (ow hw 103 rfl) (o_nfSl (ow hw 105 rfl)) (ow hw 105 rfl) (ow hw 104 rfl) (ow hw 5 rfl) (ow hw 106 rfl) (by decide) F_b1.exa (ct_e119 l Z a0 hw EL n0 b1 b4 n0_2 n0_5 vx vy od oz hg h20 F_b1 F_b4 A_n0_2 A_n0_5 ne_b1_b4 ne_b1_n0_2 ne_b1_n0_5 (Ne.symm ne_n0_2_b4) ne_b4_n0_5 ne_n0_2_n0_5) (o_sfS (List.Mem.tail _ (List.Mem.tail _ (List.Mem.tail _ (List.Mem.tail _ (List.Mem.tail _ (List.Mem.tail _ (List.Mem.head _))))))) (o_sfS (List.Mem.tail _ (List.Mem.tail _ (List.Mem.tail _ (List.Mem.tail _ (List.Mem.tail _ (List.Mem.head _)))))) o_sf0)) (by rw [hml]; rfl) (by decide) (by decide) (argsL := [(.ref b4)]) (rest := []) (lenOf pd_21 rfl) rfl rfl (Nat.le_of_eq rfl) (hb hby at_109) (pc' := 112) rfl (by decide) (by decide) ?_
      clear P; intro T h22 v22 P K22 q22
      obtain ⟨rfl, Q_b1, Q_n0_2, -⟩ := q22
      replace F_b4 := F_b4.keep K22 (ninS (Ne.symm ne_b1_b4) (ninS (Ne.symm ne_n0_2_b4) nin0))
      replace F_n0_11 := F_n0_11.keep K22 (ninS (Ne.symm ne_b1_n0_11) (ninS (Ne.symm ne_n0_2_n0_11) nin0))
      replace F_n1_11 := F_n1_11.keep K22 (ninS (Ne.symm ne_b1_n1_11) (ninS (Ne.symm ne_n0_2_n1_11) nin0))
      replace A_n0_5 := A_n0_5.keep K22 (ninS (Ne.symm ne_b1_n0_5) (ninS (Ne.symm ne_n0_2_n0_5) nin0))
      replace A_n2_11 := A_n2_11.keep K22 (ninS (Ne.symm ne_b1_n2_11) (ninS (Ne.symm ne_n0_2_n2_11) nin0))
      clear F_b1
      have F_b1 := Q_b1; clear Q_b1
      clear A_n0_2
      have A_n0_2 := Q_n0_2; clear Q_n0_2
      clear K22 hn_21 hk_21
      show OG p e below m _ T 112 _ []
      refine o_aload P (hb hby at_112) rfl rfl (pc' := 114) rfl ?_
      refine o_aload P (hb hby at_114) rfl rfl (pc' := 116) rfl ?_
      have hn_23 := P.n0le; have hk_23 := P.keep0.1
      refine o_callV P (W := 0) (a := b4) (ow hw 102 rfl) (ow hw 103 rfl) (o_nfSl (ow hw 105 rfl)) (ow hw 105 rfl) (ow hw 104 rfl) (ow hw 5 rfl) (ow hw 106 rfl) (by decide) F_b4.exa (ct_e127 l Z a0 hw EL n0 b4 b1 n0_5 n0_2 vy vx od oz hg h22 F_b4 F_b1 A_n0_5 A_n0_2 (Ne.symm ne_b1_b4) ne_b4_n0_5 (Ne.symm ne_n0_2_b4) ne_b1_n0_5 ne_b1_n0_2 (Ne.symm ne_n0_2_n0_5)) (o_sfS (List.Mem.tail _ (List.Mem.tail _ (List.Mem.tail _ (List.Mem.tail _ (List.Mem.head _))))) o_sf0) (by rw [hml]; rfl) (by decide) (by decide) (argsL := [(.ref b1)]) (rest := []) (lenOf pd_21 rfl) rfl rfl (Nat.le_of_eq rfl) (hb hby at_116) (pc' := 119) rfl (by decide) (by decide) ?_
      clear P; intro T h24 v24 P K24 q24
      obtain ⟨n0_23, rfl, g_n0_23, Q_b4, Q_n0_23, -⟩ := q24
      have ne_b1_n0_23 := F_b1.nb g_n0_23
      have ne_b4_n0_23 := F_b4.nb g_n0_23
      have ne_n0_11_n0_23 := F_n0_11.nb g_n0_23
      have ne_n1_11_n0_23 := F_n1_11.nb g_n0_23
      have ne_n0_2_n0_23 := A_n0_2.nb g_n0_23
      have ne_n0_5_n0_23 := A_n0_5.nb g_n0_23
      have ne_n2_11_n0_23 := A_n2_11.nb g_n0_23
      have sz_n0_23 := Nat.le_trans hk_23 g_n0_23
      replace F_b1 := F_b1.keep K24 (ninS ne_b1_b4 nin0)
      replace F_n0_11 := F_n0_11.keep K24 (ninS (Ne.symm ne_b4_n0_11) nin0)
      replace F_n1_11 := F_n1_11.keep K24 (ninS (Ne.symm ne_b4_n1_11) nin0)
      replace A_n0_2 := A_n0_2.keep K24 (ninS ne_n0_2_b4 nin0)
      replace A_n0_5 := A_n0_5.keep K24 (ninS (Ne.symm ne_b4_n0_5) nin0)
      replace A_n2_11 := A_n2_11.keep K24 (ninS (Ne.symm ne_b4_n2_11) nin0)
      clear F_b4
      have F_b4 := Q_b4; clear Q_b4
      have A_n0_23 := Q_n0_23; clear Q_n0_23
      replace P := P.moreA A_n0_23 (fun q => by cases q) (Nat.le_trans hn_23 g_n0_23) sz_n0_23
      clear K24 hn_23 hk_23
      show OG p e below m _ T 119 _ []
      exact law119_13oz l Z a0 hw EL hby hml hret vx vy fl ii jj pp od oz hg cv hcs hcv fv hfv hfr hm37 hm39 hm41 hm43 b1 n0_2 b4 n0_23 F_b1 A_n0_2 F_b4 A_n0_23 ne_b1_n0_2 ne_b4_n0_23 (List.Mem.tail _ (List.Mem.tail _ (List.Mem.tail _ (List.Mem.tail _ (List.Mem.tail _ (List.Mem.tail _ (List.Mem.tail _ (List.Mem.head _)))))))) (List.Mem.tail _ (List.Mem.tail _ (List.Mem.tail _ (List.Mem.tail _ (List.Mem.tail _ (List.Mem.tail _ (List.Mem.head _))))))) (P.mono (by decide) (by decide))
  · refine o_iconst P (1 : Int32) (hb hby at_7) rfl (pc' := 8) rfl ?_
    refine o_goto P (hb hby at_8) (by decide) (pc' := 12) (by decide) ?_
    refine o_istore P (hb hby at_12) (L' := #[.val (.long vx), .second, .val (.long vy), .second, .val (.int fl), .val (.int ii), .val (.int jj), .val (.int pp), .val (.int 1), .unset, .unset, .unset, .unset, .unset, .unset, .unset, .unset, .unset, .unset, .unset, .unset, .unset, .unset, .unset, .unset]) rfl (pc' := 14) rfl ?_
    refine o_iload P (hb hby at_14) rfl (pc' := 16) rfl ?_
    refine o_iconst P (2 : Int32) (hb hby at_16) rfl (pc' := 17) rfl ?_
    refine o_iand P (hb hby at_17) (pc' := 18) rfl ?_
    refine o_if_eq P (hb hby at_18) (by decide) (pc' := 27) (by decide) (pcf := 21) rfl (fun ho => ?_) (fun ho => ?_)
    · refine o_getS P (ow hw 0 rfl) Via.refl hg.2.1 (hb hby at_27) (pc' := 30) rfl ?_
      clear P; intro T P
      refine o_astore P (hb hby at_30) rfl (L' := #[.val (.long vx), .second, .val (.long vy), .second, .val (.int fl), .val (.int ii), .val (.int jj), .val (.int pp), .val (.int 1), .val (.ref od), .unset, .unset, .unset, .unset, .unset, .unset, .unset, .unset, .unset, .unset, .unset, .unset, .unset, .unset, .unset]) rfl (pc' := 32) rfl ?_
      have hz_b1 := P.keep0.1
      refine o_new P [(kK, "keys", "[J", .null), (kK, "size", "I", (.int 0)), (kK, "selection", kSd, .null)] (ow hw 3 rfl) (ow hw 4 rfl) (ow hw 5 rfl) (OLd.cons (Or.inl (ow hw 14 rfl)) (ty := (.array .long)) (by decide) rfl (OLd.cons (Or.inl (ow hw 26 rfl)) (ty := .int) (by decide) rfl (OLd.cons (Or.inl (ow hw 28 rfl)) (ty := (.object kS)) (by decide) rfl OLd.nil))) (by decide +kernel) (hb hby at_32) (pc' := 35) rfl (by decide) (by decide) ?_
      clear P; intro T h1 b1 P K1 hb_b1 F_b1
      have sz_b1 := Nat.le_trans hz_b1 hb_b1
      clear hz_b1
      clear K1
      refine o_dup P (hb hby at_35) rfl (pc' := 36) rfl ?_
      have hn_2 := P.n0le; have hk_2 := P.keep0.1
      refine o_callI P (W := 1) (a := b1) rfl (ow hw 6 rfl) (ow hw 7 rfl) (ow hw 5 rfl) (ow hw 8 rfl) (by decide) (ct_e94 l Z a0 hw EL n0 b1  od oz hg h1 F_b1 ) (o_sfS (List.Mem.head _) o_sf0) (by rw [hml]; rfl) (by decide) (by decide) (argsL := []) (rest := [(.ref b1)]) (lenOf pd_2 rfl) rfl rfl (Nat.le_of_eq rfl) (hb hby at_36) (pc' := 39) rfl (by decide) (by decide) ?_
      clear P; intro T h3 v3 P K3 q3
      obtain ⟨n0_2, rfl, g_n0_2, Q_b1, Q_n0_2, -⟩ := q3
      have ne_b1_n0_2 := F_b1.nb g_n0_2
      have sz_n0_2 := Nat.le_trans hk_2 g_n0_2
      clear F_b1
      have F_b1 := Q_b1; clear Q_b1
      have A_n0_2 := Q_n0_2; clear Q_n0_2
      replace P := P.moreA A_n0_2 (fun q => by cases q) (Nat.le_trans hn_2 g_n0_2) sz_n0_2
      clear K3 hn_2 hk_2
      show OG p e below m _ T 39 _ [(.ref b1)]
      refine o_astore P (hb hby at_39) rfl (L' := #[.val (.long vx), .second, .val (.long vy), .second, .val (.int fl), .val (.int ii), .val (.int jj), .val (.int pp), .val (.int 1), .val (.ref od), .val (.ref b1), .unset, .unset, .unset, .unset, .unset, .unset, .unset, .unset, .unset, .unset, .unset, .unset, .unset, .unset]) rfl (pc' := 41) rfl ?_
      have hz_b4 := P.keep0.1
      refine o_new P [(kK, "keys", "[J", .null), (kK, "size", "I", (.int 0)), (kK, "selection", kSd, .null)] (ow hw 3 rfl) (ow hw 4 rfl) (ow hw 5 rfl) (OLd.cons (Or.inl (ow hw 14 rfl)) (ty := (.array .long)) (by decide) rfl (OLd.cons (Or.inl (ow hw 26 rfl)) (ty := .int) (by decide) rfl (OLd.cons (Or.inl (ow hw 28 rfl)) (ty := (.object kS)) (by decide) rfl OLd.nil))) (by decide +kernel) (hb hby at_41) (pc' := 44) rfl (by decide) (by decide) ?_
      clear P; intro T h4 b4 P K4 hb_b4 F_b4
      have sz_b4 := Nat.le_trans hz_b4 hb_b4
      clear hz_b4
      have ne_b1_b4 := F_b1.nb hb_b4
      have ne_n0_2_b4 := A_n0_2.nb hb_b4
      replace F_b1 := F_b1.keep K4 nin0
      replace A_n0_2 := A_n0_2.keep K4 nin0
      clear K4
      refine o_dup P (hb hby at_44) rfl (pc' := 45) rfl ?_
      have hn_5 := P.n0le; have hk_5 := P.keep0.1
      refine o_callI P (W := 1) (a := b4) rfl (ow hw 6 rfl) (ow hw 7 rfl) (ow hw 5 rfl) (ow hw 8 rfl) (by decide) (ct_e94 l Z a0 hw EL n0 b4  od oz hg h4 F_b4 ) (o_sfS (List.Mem.head _) o_sf0) (by rw [hml]; rfl) (by decide) (by decide) (argsL := []) (rest := [(.ref b4)]) (lenOf pd_2 rfl) rfl rfl (Nat.le_of_eq rfl) (hb hby at_45) (pc' := 48) rfl (by decide) (by decide) ?_
      clear P; intro T h6 v6 P K6 q6
      obtain ⟨n0_5, rfl, g_n0_5, Q_b4, Q_n0_5, -⟩ := q6
      have ne_b1_n0_5 := F_b1.nb g_n0_5
      have ne_b4_n0_5 := F_b4.nb g_n0_5
      have ne_n0_2_n0_5 := A_n0_2.nb g_n0_5
      have sz_n0_5 := Nat.le_trans hk_5 g_n0_5
      replace F_b1 := F_b1.keep K6 (ninS ne_b1_b4 nin0)
      replace A_n0_2 := A_n0_2.keep K6 (ninS ne_n0_2_b4 nin0)
      clear F_b4
      have F_b4 := Q_b4; clear Q_b4
      have A_n0_5 := Q_n0_5; clear Q_n0_5
      replace P := P.moreA A_n0_5 (fun q => by cases q) (Nat.le_trans hn_5 g_n0_5) sz_n0_5
      clear K6 hn_5 hk_5
      show OG p e below m _ T 48 _ [(.ref b4)]
      refine o_astore P (hb hby at_48) rfl (L' := #[.val (.long vx), .second, .val (.long vy), .second, .val (.int fl), .val (.int ii), .val (.int jj), .val (.int pp), .val (.int 1), .val (.ref od), .val (.ref b1), .val (.ref b4), .unset, .unset, .unset, .unset, .unset, .unset, .unset, .unset, .unset, .unset, .unset, .unset, .unset]) rfl (pc' := 50) rfl ?_
      refine o_aload P (hb hby at_50) rfl rfl (pc' := 52) rfl ?_
      refine o_lloadN P (hb hby at_52) rfl (pc' := 53) rfl ?_
      have hn_7 := P.n0le; have hk_7 := P.keep0.1
      refine o_callV P (W := 0) (a := b1) (ow hw 15 rfl) (ow hw 16 rfl) (o_nfSl (ow hw 18 rfl)) (ow hw 18 rfl) (ow hw 17 rfl) (ow hw 5 rfl) (ow hw 19 rfl) (by decide) F_b1.exa (ct_e98 l Z a0 hw EL n0 b1 n0_2 vx od oz hg h6 F_b1 A_n0_2 ne_b1_n0_2) (o_sfS (List.Mem.tail _ (List.Mem.tail _ (List.Mem.tail _ (List.Mem.head _)))) (o_sfS (List.Mem.tail _ (List.Mem.tail _ (List.Mem.head _))) o_sf0)) (by rw [hml]; rfl) (by decide) (by decide) (argsL := [(.long vx)]) (rest := []) (lenOf pd_20 rfl) rfl rfl (Nat.le_of_eq rfl) (hb hby at_53) (pc' := 56) rfl (by decide) (by decide) ?_
      clear P; intro T h8 v8 P K8 q8
      obtain ⟨rfl, Q_b1, Q_n0_2, -⟩ := q8
      replace F_b4 := F_b4.keep K8 (ninS (Ne.symm ne_b1_b4) (ninS (Ne.symm ne_n0_2_b4) nin0))
      replace A_n0_5 := A_n0_5.keep K8 (ninS (Ne.symm ne_b1_n0_5) (ninS (Ne.symm ne_n0_2_n0_5) nin0))
      clear F_b1
      have F_b1 := Q_b1; clear Q_b1
      clear A_n0_2
      have A_n0_2 := Q_n0_2; clear Q_n0_2
      clear K8 hn_7 hk_7
      show OG p e below m _ T 56 _ []
      refine o_iload P (hb hby at_56) rfl (pc' := 58) rfl ?_
      refine o_if_ne P (hb hby at_58) (by decide) (pc' := 67) (by decide) (pcf := 61) rfl (fun _ => ?_) (fun q => absurd q (by decide))
      refine o_aload P (hb hby at_67) rfl rfl (pc' := 69) rfl ?_
      refine o_iconst P (1 : Int32) (hb hby at_69) rfl (pc' := 70) rfl ?_
      refine o_aload P (hb hby at_70) rfl rfl (pc' := 72) rfl ?_
      have hn_9 := P.n0le; have hk_9 := P.keep0.1
      refine o_callV P (W := 0) (a := b1) (ow hw 29 rfl) (ow hw 30 rfl) (o_nfSl (ow hw 32 rfl)) (ow hw 32 rfl) (ow hw 31 rfl) (ow hw 5 rfl) (ow hw 33 rfl) (by decide) F_b1.exa (ct_e108 l Z a0 hw EL n0 b1 n0_2 vx od oz hg h8 F_b1 A_n0_2 ne_b1_n0_2) (o_sfS (List.Mem.tail _ (List.Mem.tail _ (List.Mem.tail _ (List.Mem.head _)))) o_sf0) (by rw [hml]; rfl) (by decide) (by decide) (argsL := [(.int 1), (.ref od)]) (rest := []) (lenOf pd_19 rfl) rfl rfl (Nat.le_of_eq rfl) (hb hby at_72) (pc' := 75) rfl (by decide) (by decide) ?_
      clear P; intro T h10 v10 P K10 q10
      obtain ⟨n0_9, n1_9, n2_9, rfl, g_n0_9, g_n1_9, g_n2_9, ne_n0_9_n1_9, ne_n0_9_n2_9, ne_n1_9_n2_9, Q_b1, Q_n0_9, Q_n1_9, Q_n2_9, -⟩ := q10
      have ne_b1_n0_9 := F_b1.nb g_n0_9
      have ne_b4_n0_9 := F_b4.nb g_n0_9
      have ne_n0_2_n0_9 := A_n0_2.nb g_n0_9
      have ne_n0_5_n0_9 := A_n0_5.nb g_n0_9
      have sz_n0_9 := Nat.le_trans hk_9 g_n0_9
      have ne_b1_n1_9 := F_b1.nb g_n1_9
      have ne_b4_n1_9 := F_b4.nb g_n1_9
      have ne_n0_2_n1_9 := A_n0_2.nb g_n1_9
      have ne_n0_5_n1_9 := A_n0_5.nb g_n1_9
      have sz_n1_9 := Nat.le_trans hk_9 g_n1_9
      have ne_b1_n2_9 := F_b1.nb g_n2_9
      have ne_b4_n2_9 := F_b4.nb g_n2_9
      have ne_n0_2_n2_9 := A_n0_2.nb g_n2_9
      have ne_n0_5_n2_9 := A_n0_5.nb g_n2_9
      have sz_n2_9 := Nat.le_trans hk_9 g_n2_9
      replace F_b4 := F_b4.keep K10 (ninS (Ne.symm ne_b1_b4) nin0)
      replace A_n0_2 := A_n0_2.keep K10 (ninS (Ne.symm ne_b1_n0_2) nin0)
      replace A_n0_5 := A_n0_5.keep K10 (ninS (Ne.symm ne_b1_n0_5) nin0)
      clear F_b1
      have F_b1 := Q_b1; clear Q_b1
      have F_n0_9 := Q_n0_9; clear Q_n0_9
      have F_n1_9 := Q_n1_9; clear Q_n1_9
      have A_n2_9 := Q_n2_9; clear Q_n2_9
      replace P := P.moreO F_n0_9.exa (by decide) (by decide) (Nat.le_trans hn_9 g_n0_9) sz_n0_9
      replace P := P.moreO F_n1_9.exa (by decide) (by decide) (Nat.le_trans hn_9 g_n1_9) sz_n1_9
      replace P := P.moreA A_n2_9 (fun q => by cases q) (Nat.le_trans hn_9 g_n2_9) sz_n2_9
      clear K10 hn_9 hk_9
      show OG p e below m _ T 75 _ [(.long vx)]
      refine o_lstore P (hb hby at_75) (L' := #[.val (.long vx), .second, .val (.long vy), .second, .val (.int fl), .val (.int ii), .val (.int jj), .val (.int pp), .val (.int 1), .val (.ref od), .val (.ref b1), .val (.ref b4), .val (.long vx), .second, .unset, .unset, .unset, .unset, .unset, .unset, .unset, .unset, .unset, .unset, .unset]) rfl (pc' := 77) rfl ?_
      refine o_aload P (hb hby at_77) rfl rfl (pc' := 79) rfl ?_
      refine o_aload P (hb hby at_79) rfl rfl (pc' := 81) rfl ?_
      refine o_callV P (W := 0) (a := b1) (ow hw 102 rfl) (ow hw 103 rfl) (o_nfSl (ow hw 105 rfl)) (ow hw 105 rfl) (ow hw 104 rfl) (ow hw 5 rfl) (ow hw 106 rfl) (by decide) F_b1.exa (ct_e129 l Z a0 hw EL n0 b1 b4 n0_2 n0_9 n0_5 n1_9 n2_9 vx od oz hg h10 F_b1 F_b4 A_n0_2 F_n0_9 A_n0_5 F_n1_9 A_n2_9 ne_b1_b4 ne_b1_n0_2 ne_b1_n0_9 ne_b1_n0_5 ne_b1_n1_9 ne_b1_n2_9 (Ne.symm ne_n0_2_b4) ne_b4_n0_9 ne_b4_n0_5 ne_b4_n1_9 ne_b4_n2_9 ne_n0_2_n0_9 ne_n0_2_n0_5 ne_n0_2_n1_9 ne_n0_2_n2_9 (Ne.symm ne_n0_5_n0_9) ne_n0_9_n1_9 ne_n0_9_n2_9 ne_n0_5_n1_9 ne_n0_5_n2_9 ne_n1_9_n2_9) o_sf0 (by rw [hml]; rfl) (by decide) (by decide) (argsL := [(.ref b4)]) (rest := []) (lenOf pd_21 rfl) rfl rfl (Nat.le_of_eq rfl) (hb hby at_81) (pc' := 84) rfl (by decide) (by decide) ?_
      clear P; intro T h12 v12 P K12 q12
      obtain ⟨rfl, rfl⟩ := q12; clear K12
      show OG p e below m _ T 84 _ []
      refine o_aload P (hb hby at_84) rfl rfl (pc' := 86) rfl ?_
      refine o_aload P (hb hby at_86) rfl rfl (pc' := 88) rfl ?_
      have hn_13 := P.n0le; have hk_13 := P.keep0.1
      refine o_callV P (W := 0) (a := b4) (ow hw 102 rfl) (ow hw 103 rfl) (o_nfSl (ow hw 105 rfl)) (ow hw 105 rfl) (ow hw 104 rfl) (ow hw 5 rfl) (ow hw 106 rfl) (by decide) F_b4.exa (ct_e130 l Z a0 hw EL n0 b4 b1 n0_5 n0_2 n0_9 n1_9 n2_9 vx od oz hg h12 F_b4 F_b1 A_n0_5 A_n0_2 F_n0_9 F_n1_9 A_n2_9 (Ne.symm ne_b1_b4) ne_b4_n0_5 (Ne.symm ne_n0_2_b4) ne_b4_n0_9 ne_b4_n1_9 ne_b4_n2_9 ne_b1_n0_5 ne_b1_n0_2 ne_b1_n0_9 ne_b1_n1_9 ne_b1_n2_9 (Ne.symm ne_n0_2_n0_5) ne_n0_5_n0_9 ne_n0_5_n1_9 ne_n0_5_n2_9 ne_n0_2_n0_9 ne_n0_2_n1_9 ne_n0_2_n2_9 ne_n0_9_n1_9 ne_n0_9_n2_9 ne_n1_9_n2_9) (o_sfS (List.Mem.tail _ (List.Mem.tail _ (List.Mem.tail _ (List.Mem.tail _ (List.Mem.head _))))) (o_sfS (List.Mem.tail _ (List.Mem.tail _ (List.Mem.tail _ (List.Mem.head _)))) o_sf0)) (by rw [hml]; rfl) (by decide) (by decide) (argsL := [(.ref b1)]) (rest := []) (lenOf pd_21 rfl) rfl rfl (Nat.le_of_eq rfl) (hb hby at_88) (pc' := 91) rfl (by decide) (by decide) ?_
      clear P; intro T h14 v14 P K14 q14
      obtain ⟨rfl, Q_b4, Q_n0_5, -⟩ := q14
      replace F_b1 := F_b1.keep K14 (ninS ne_b1_b4 (ninS ne_b1_n0_5 nin0))
      replace F_n0_9 := F_n0_9.keep K14 (ninS (Ne.symm ne_b4_n0_9) (ninS (Ne.symm ne_n0_5_n0_9) nin0))
      replace F_n1_9 := F_n1_9.keep K14 (ninS (Ne.symm ne_b4_n1_9) (ninS (Ne.symm ne_n0_5_n1_9) nin0))
      replace A_n0_2 := A_n0_2.keep K14 (ninS ne_n0_2_b4 (ninS ne_n0_2_n0_5 nin0))
      replace A_n2_9 := A_n2_9.keep K14 (ninS (Ne.symm ne_b4_n2_9) (ninS (Ne.symm ne_n0_5_n2_9) nin0))
      clear F_b4
      have F_b4 := Q_b4; clear Q_b4
      clear A_n0_5
      have A_n0_5 := Q_n0_5; clear Q_n0_5
      clear K14 hn_13 hk_13
      show OG p e below m _ T 91 _ []
      refine o_aload P (hb hby at_91) rfl rfl (pc' := 93) rfl ?_
      refine o_aload P (hb hby at_93) rfl rfl (pc' := 95) rfl ?_
      have hn_15 := P.n0le; have hk_15 := P.keep0.1
      refine o_callV P (W := 0) (a := b1) (ow hw 102 rfl) (ow hw 103 rfl) (o_nfSl (ow hw 105 rfl)) (ow hw 105 rfl) (ow hw 104 rfl) (ow hw 5 rfl) (ow hw 106 rfl) (by decide) F_b1.exa (ct_e131 l Z a0 hw EL n0 b1 b4 n0_2 n0_9 n0_5 n1_9 n2_9 vx od oz hg h14 F_b1 F_b4 A_n0_2 F_n0_9 A_n0_5 F_n1_9 A_n2_9 ne_b1_b4 ne_b1_n0_2 ne_b1_n0_9 ne_b1_n0_5 ne_b1_n1_9 ne_b1_n2_9 (Ne.symm ne_n0_2_b4) ne_b4_n0_9 ne_b4_n0_5 ne_b4_n1_9 ne_b4_n2_9 ne_n0_2_n0_9 ne_n0_2_n0_5 ne_n0_2_n1_9 ne_n0_2_n2_9 (Ne.symm ne_n0_5_n0_9) ne_n0_9_n1_9 ne_n0_9_n2_9 ne_n0_5_n1_9 ne_n0_5_n2_9 ne_n1_9_n2_9) (o_sfS (List.Mem.tail _ (List.Mem.tail _ (List.Mem.tail _ (List.Mem.tail _ (List.Mem.tail _ (List.Mem.tail _ (List.Mem.head _))))))) (o_sfS (List.Mem.tail _ (List.Mem.tail _ (List.Mem.tail _ (List.Mem.tail _ (List.Mem.tail _ (List.Mem.head _)))))) o_sf0)) (by rw [hml]; rfl) (by decide) (by decide) (argsL := [(.ref b4)]) (rest := []) (lenOf pd_21 rfl) rfl rfl (Nat.le_of_eq rfl) (hb hby at_95) (pc' := 98) rfl (by decide) (by decide) ?_
      clear P; intro T h16 v16 P K16 q16
      obtain ⟨rfl, Q_b1, Q_n0_2, -⟩ := q16
      replace F_b4 := F_b4.keep K16 (ninS (Ne.symm ne_b1_b4) (ninS (Ne.symm ne_n0_2_b4) nin0))
      replace F_n0_9 := F_n0_9.keep K16 (ninS (Ne.symm ne_b1_n0_9) (ninS (Ne.symm ne_n0_2_n0_9) nin0))
      replace F_n1_9 := F_n1_9.keep K16 (ninS (Ne.symm ne_b1_n1_9) (ninS (Ne.symm ne_n0_2_n1_9) nin0))
      replace A_n0_5 := A_n0_5.keep K16 (ninS (Ne.symm ne_b1_n0_5) (ninS (Ne.symm ne_n0_2_n0_5) nin0))
      replace A_n2_9 := A_n2_9.keep K16 (ninS (Ne.symm ne_b1_n2_9) (ninS (Ne.symm ne_n0_2_n2_9) nin0))
      clear F_b1
      have F_b1 := Q_b1; clear Q_b1
      clear A_n0_2
      have A_n0_2 := Q_n0_2; clear Q_n0_2
      clear K16 hn_15 hk_15
      show OG p e below m _ T 98 _ []
      refine o_aload P (hb hby at_98) rfl rfl (pc' := 100) rfl ?_
      refine o_aload P (hb hby at_100) rfl rfl (pc' := 102) rfl ?_
      have hn_17 := P.n0le; have hk_17 := P.keep0.1
      refine o_callV P (W := 0) (a := b4) (ow hw 102 rfl) (ow hw 103 rfl) (o_nfSl (ow hw 105 rfl)) (ow hw 105 rfl) (ow hw 104 rfl) (ow hw 5 rfl) (ow hw 106 rfl) (by decide) F_b4.exa (ct_e132 l Z a0 hw EL n0 b4 b1 n0_5 n0_2 vx od oz hg h16 F_b4 F_b1 A_n0_5 A_n0_2 (Ne.symm ne_b1_b4) ne_b4_n0_5 (Ne.symm ne_n0_2_b4) ne_b1_n0_5 ne_b1_n0_2 (Ne.symm ne_n0_2_n0_5)) (o_sfS (List.Mem.tail _ (List.Mem.tail _ (List.Mem.tail _ (List.Mem.tail _ (List.Mem.head _))))) (o_sfS (List.Mem.tail _ (List.Mem.tail _ (List.Mem.tail _ (List.Mem.head _)))) o_sf0)) (by rw [hml]; rfl) (by decide) (by decide) (argsL := [(.ref b1)]) (rest := []) (lenOf pd_21 rfl) rfl rfl (Nat.le_of_eq rfl) (hb hby at_102) (pc' := 105) rfl (by decide) (by decide) ?_
      clear P; intro T h18 v18 P K18 q18
      obtain ⟨rfl, Q_b4, Q_n0_5, -⟩ := q18
      replace F_b1 := F_b1.keep K18 (ninS ne_b1_b4 (ninS ne_b1_n0_5 nin0))
      replace F_n0_9 := F_n0_9.keep K18 (ninS (Ne.symm ne_b4_n0_9) (ninS (Ne.symm ne_n0_5_n0_9) nin0))
      replace F_n1_9 := F_n1_9.keep K18 (ninS (Ne.symm ne_b4_n1_9) (ninS (Ne.symm ne_n0_5_n1_9) nin0))
      replace A_n0_2 := A_n0_2.keep K18 (ninS ne_n0_2_b4 (ninS ne_n0_2_n0_5 nin0))
      replace A_n2_9 := A_n2_9.keep K18 (ninS (Ne.symm ne_b4_n2_9) (ninS (Ne.symm ne_n0_5_n2_9) nin0))
      clear F_b4
      have F_b4 := Q_b4; clear Q_b4
      clear A_n0_5
      have A_n0_5 := Q_n0_5; clear Q_n0_5
      clear K18 hn_17 hk_17
      show OG p e below m _ T 105 _ []
      refine o_aload P (hb hby at_105) rfl rfl (pc' := 107) rfl ?_
      refine o_aload P (hb hby at_107) rfl rfl (pc' := 109) rfl ?_
      have hn_19 := P.n0le; have hk_19 := P.keep0.1
      refine o_callV P (W := 0) (a := b1) (ow hw 102 rfl) (ow hw 103 rfl) (o_nfSl (ow hw 105 rfl)) (ow hw 105 rfl) (ow hw 104 rfl) (ow hw 5 rfl) (ow hw 106 rfl) (by decide) F_b1.exa (ct_e134 l Z a0 hw EL n0 b1 b4 n0_2 n0_5 vx od oz hg h18 F_b1 F_b4 A_n0_2 A_n0_5 ne_b1_b4 ne_b1_n0_2 ne_b1_n0_5 (Ne.symm ne_n0_2_b4) ne_b4_n0_5 ne_n0_2_n0_5) (o_sfS (List.Mem.tail _ (List.Mem.tail _ (List.Mem.tail _ (List.Mem.tail _ (List.Mem.tail _ (List.Mem.tail _ (List.Mem.head _))))))) (o_sfS (List.Mem.tail _ (List.Mem.tail _ (List.Mem.tail _ (List.Mem.tail _ (List.Mem.tail _ (List.Mem.head _)))))) o_sf0)) (by rw [hml]; rfl) (by decide) (by decide) (argsL := [(.ref b4)]) (rest := []) (lenOf pd_21 rfl) rfl rfl (Nat.le_of_eq rfl) (hb hby at_109) (pc' := 112) rfl (by decide) (by decide) ?_
      clear P; intro T h20 v20 P K20 q20
      obtain ⟨rfl, Q_b1, Q_n0_2, -⟩ := q20
      replace F_b4 := F_b4.keep K20 (ninS (Ne.symm ne_b1_b4) (ninS (Ne.symm ne_n0_2_b4) nin0))
      replace F_n0_9 := F_n0_9.keep K20 (ninS (Ne.symm ne_b1_n0_9) (ninS (Ne.symm ne_n0_2_n0_9) nin0))
      replace F_n1_9 := F_n1_9.keep K20 (ninS (Ne.symm ne_b1_n1_9) (ninS (Ne.symm ne_n0_2_n1_9) nin0))
      replace A_n0_5 := A_n0_5.keep K20 (ninS (Ne.symm ne_b1_n0_5) (ninS (Ne.symm ne_n0_2_n0_5) nin0))
      replace A_n2_9 := A_n2_9.keep K20 (ninS (Ne.symm ne_b1_n2_9) (ninS (Ne.symm ne_n0_2_n2_9) nin0))
      clear F_b1
      have F_b1 := Q_b1; clear Q_b1
      clear A_n0_2
      have A_n0_2 := Q_n0_2; clear Q_n0_2
      clear K20 hn_19 hk_19
      show OG p e below m _ T 112 _ []
      refine o_aload P (hb hby at_112) rfl rfl (pc' := 114) rfl ?_
      refine o_aload P (hb hby at_114) rfl rfl (pc' := 116) rfl ?_
      have hn_21 := P.n0le; have hk_21 := P.keep0.1
      refine o_callV P (W := 0) (a := b4) (ow hw 102 rfl) (ow hw 103 rfl) (o_nfSl (ow hw 105 rfl)) (ow hw 105 rfl) (ow hw 104 rfl) (ow hw 5 rfl) (ow hw 106 rfl) (by decide) F_b4.exa (ct_e136 l Z a0 hw EL n0 b4 b1 n0_5 n0_2 vx od oz hg h20 F_b4 F_b1 A_n0_5 A_n0_2 (Ne.symm ne_b1_b4) ne_b4_n0_5 (Ne.symm ne_n0_2_b4) ne_b1_n0_5 ne_b1_n0_2 (Ne.symm ne_n0_2_n0_5)) (o_sfS (List.Mem.tail _ (List.Mem.tail _ (List.Mem.tail _ (List.Mem.tail _ (List.Mem.head _))))) (o_sfS (List.Mem.tail _ (List.Mem.tail _ (List.Mem.tail _ (List.Mem.head _)))) o_sf0)) (by rw [hml]; rfl) (by decide) (by decide) (argsL := [(.ref b1)]) (rest := []) (lenOf pd_21 rfl) rfl rfl (Nat.le_of_eq rfl) (hb hby at_116) (pc' := 119) rfl (by decide) (by decide) ?_
      clear P; intro T h22 v22 P K22 q22
      obtain ⟨rfl, Q_b4, Q_n0_5, -⟩ := q22
      replace F_b1 := F_b1.keep K22 (ninS ne_b1_b4 (ninS ne_b1_n0_5 nin0))
      replace F_n0_9 := F_n0_9.keep K22 (ninS (Ne.symm ne_b4_n0_9) (ninS (Ne.symm ne_n0_5_n0_9) nin0))
      replace F_n1_9 := F_n1_9.keep K22 (ninS (Ne.symm ne_b4_n1_9) (ninS (Ne.symm ne_n0_5_n1_9) nin0))
      replace A_n0_2 := A_n0_2.keep K22 (ninS ne_n0_2_b4 (ninS ne_n0_2_n0_5 nin0))
      replace A_n2_9 := A_n2_9.keep K22 (ninS (Ne.symm ne_b4_n2_9) (ninS (Ne.symm ne_n0_5_n2_9) nin0))
      clear F_b4
      have F_b4 := Q_b4; clear Q_b4
      clear A_n0_5
      have A_n0_5 := Q_n0_5; clear Q_n0_5
      clear K22 hn_21 hk_21
      show OG p e below m _ T 119 _ []
      exact law119_5od l Z a0 hw EL hby hml hret vx vy fl ii jj pp od oz hg cv hcs hcv fv hfv hfr hm37 hm39 hm41 hm43 b1 n0_2 b4 n0_5 F_b1 A_n0_2 F_b4 A_n0_5 ne_b1_n0_2 ne_b4_n0_5 (List.Mem.tail _ (List.Mem.tail _ (List.Mem.tail _ (List.Mem.tail _ (List.Mem.tail _ (List.Mem.tail _ (List.Mem.head _))))))) (List.Mem.tail _ (List.Mem.tail _ (List.Mem.tail _ (List.Mem.tail _ (List.Mem.tail _ (List.Mem.head _)))))) (P.mono (by decide) (by decide))
    · refine o_getS P (ow hw 233 rfl) Via.refl hg.2.2.1 (hb hby at_21) (pc' := 24) rfl ?_
      clear P; intro T P
      refine o_goto P (hb hby at_24) (by decide) (pc' := 30) (by decide) ?_
      refine o_astore P (hb hby at_30) rfl (L' := #[.val (.long vx), .second, .val (.long vy), .second, .val (.int fl), .val (.int ii), .val (.int jj), .val (.int pp), .val (.int 1), .val (.ref oz), .unset, .unset, .unset, .unset, .unset, .unset, .unset, .unset, .unset, .unset, .unset, .unset, .unset, .unset, .unset]) rfl (pc' := 32) rfl ?_
      have hz_b1 := P.keep0.1
      refine o_new P [(kK, "keys", "[J", .null), (kK, "size", "I", (.int 0)), (kK, "selection", kSd, .null)] (ow hw 3 rfl) (ow hw 4 rfl) (ow hw 5 rfl) (OLd.cons (Or.inl (ow hw 14 rfl)) (ty := (.array .long)) (by decide) rfl (OLd.cons (Or.inl (ow hw 26 rfl)) (ty := .int) (by decide) rfl (OLd.cons (Or.inl (ow hw 28 rfl)) (ty := (.object kS)) (by decide) rfl OLd.nil))) (by decide +kernel) (hb hby at_32) (pc' := 35) rfl (by decide) (by decide) ?_
      clear P; intro T h1 b1 P K1 hb_b1 F_b1
      have sz_b1 := Nat.le_trans hz_b1 hb_b1
      clear hz_b1
      clear K1
      refine o_dup P (hb hby at_35) rfl (pc' := 36) rfl ?_
      have hn_2 := P.n0le; have hk_2 := P.keep0.1
      refine o_callI P (W := 1) (a := b1) rfl (ow hw 6 rfl) (ow hw 7 rfl) (ow hw 5 rfl) (ow hw 8 rfl) (by decide) (ct_e94 l Z a0 hw EL n0 b1  od oz hg h1 F_b1 ) (o_sfS (List.Mem.head _) o_sf0) (by rw [hml]; rfl) (by decide) (by decide) (argsL := []) (rest := [(.ref b1)]) (lenOf pd_2 rfl) rfl rfl (Nat.le_of_eq rfl) (hb hby at_36) (pc' := 39) rfl (by decide) (by decide) ?_
      clear P; intro T h3 v3 P K3 q3
      obtain ⟨n0_2, rfl, g_n0_2, Q_b1, Q_n0_2, -⟩ := q3
      have ne_b1_n0_2 := F_b1.nb g_n0_2
      have sz_n0_2 := Nat.le_trans hk_2 g_n0_2
      clear F_b1
      have F_b1 := Q_b1; clear Q_b1
      have A_n0_2 := Q_n0_2; clear Q_n0_2
      replace P := P.moreA A_n0_2 (fun q => by cases q) (Nat.le_trans hn_2 g_n0_2) sz_n0_2
      clear K3 hn_2 hk_2
      show OG p e below m _ T 39 _ [(.ref b1)]
      refine o_astore P (hb hby at_39) rfl (L' := #[.val (.long vx), .second, .val (.long vy), .second, .val (.int fl), .val (.int ii), .val (.int jj), .val (.int pp), .val (.int 1), .val (.ref oz), .val (.ref b1), .unset, .unset, .unset, .unset, .unset, .unset, .unset, .unset, .unset, .unset, .unset, .unset, .unset, .unset]) rfl (pc' := 41) rfl ?_
      have hz_b4 := P.keep0.1
      refine o_new P [(kK, "keys", "[J", .null), (kK, "size", "I", (.int 0)), (kK, "selection", kSd, .null)] (ow hw 3 rfl) (ow hw 4 rfl) (ow hw 5 rfl) (OLd.cons (Or.inl (ow hw 14 rfl)) (ty := (.array .long)) (by decide) rfl (OLd.cons (Or.inl (ow hw 26 rfl)) (ty := .int) (by decide) rfl (OLd.cons (Or.inl (ow hw 28 rfl)) (ty := (.object kS)) (by decide) rfl OLd.nil))) (by decide +kernel) (hb hby at_41) (pc' := 44) rfl (by decide) (by decide) ?_
      clear P; intro T h4 b4 P K4 hb_b4 F_b4
      have sz_b4 := Nat.le_trans hz_b4 hb_b4
      clear hz_b4
      have ne_b1_b4 := F_b1.nb hb_b4
      have ne_n0_2_b4 := A_n0_2.nb hb_b4
      replace F_b1 := F_b1.keep K4 nin0
      replace A_n0_2 := A_n0_2.keep K4 nin0
      clear K4
      refine o_dup P (hb hby at_44) rfl (pc' := 45) rfl ?_
      have hn_5 := P.n0le; have hk_5 := P.keep0.1
      refine o_callI P (W := 1) (a := b4) rfl (ow hw 6 rfl) (ow hw 7 rfl) (ow hw 5 rfl) (ow hw 8 rfl) (by decide) (ct_e94 l Z a0 hw EL n0 b4  od oz hg h4 F_b4 ) (o_sfS (List.Mem.head _) o_sf0) (by rw [hml]; rfl) (by decide) (by decide) (argsL := []) (rest := [(.ref b4)]) (lenOf pd_2 rfl) rfl rfl (Nat.le_of_eq rfl) (hb hby at_45) (pc' := 48) rfl (by decide) (by decide) ?_
      clear P; intro T h6 v6 P K6 q6
      obtain ⟨n0_5, rfl, g_n0_5, Q_b4, Q_n0_5, -⟩ := q6
      have ne_b1_n0_5 := F_b1.nb g_n0_5
      have ne_b4_n0_5 := F_b4.nb g_n0_5
      have ne_n0_2_n0_5 := A_n0_2.nb g_n0_5
      have sz_n0_5 := Nat.le_trans hk_5 g_n0_5
      replace F_b1 := F_b1.keep K6 (ninS ne_b1_b4 nin0)
      replace A_n0_2 := A_n0_2.keep K6 (ninS ne_n0_2_b4 nin0)
      clear F_b4
      have F_b4 := Q_b4; clear Q_b4
      have A_n0_5 := Q_n0_5; clear Q_n0_5
      replace P := P.moreA A_n0_5 (fun q => by cases q) (Nat.le_trans hn_5 g_n0_5) sz_n0_5
      clear K6 hn_5 hk_5
      show OG p e below m _ T 48 _ [(.ref b4)]
      refine o_astore P (hb hby at_48) rfl (L' := #[.val (.long vx), .second, .val (.long vy), .second, .val (.int fl), .val (.int ii), .val (.int jj), .val (.int pp), .val (.int 1), .val (.ref oz), .val (.ref b1), .val (.ref b4), .unset, .unset, .unset, .unset, .unset, .unset, .unset, .unset, .unset, .unset, .unset, .unset, .unset]) rfl (pc' := 50) rfl ?_
      refine o_aload P (hb hby at_50) rfl rfl (pc' := 52) rfl ?_
      refine o_lloadN P (hb hby at_52) rfl (pc' := 53) rfl ?_
      have hn_7 := P.n0le; have hk_7 := P.keep0.1
      refine o_callV P (W := 0) (a := b1) (ow hw 15 rfl) (ow hw 16 rfl) (o_nfSl (ow hw 18 rfl)) (ow hw 18 rfl) (ow hw 17 rfl) (ow hw 5 rfl) (ow hw 19 rfl) (by decide) F_b1.exa (ct_e98 l Z a0 hw EL n0 b1 n0_2 vx od oz hg h6 F_b1 A_n0_2 ne_b1_n0_2) (o_sfS (List.Mem.tail _ (List.Mem.tail _ (List.Mem.tail _ (List.Mem.head _)))) (o_sfS (List.Mem.tail _ (List.Mem.tail _ (List.Mem.head _))) o_sf0)) (by rw [hml]; rfl) (by decide) (by decide) (argsL := [(.long vx)]) (rest := []) (lenOf pd_20 rfl) rfl rfl (Nat.le_of_eq rfl) (hb hby at_53) (pc' := 56) rfl (by decide) (by decide) ?_
      clear P; intro T h8 v8 P K8 q8
      obtain ⟨rfl, Q_b1, Q_n0_2, -⟩ := q8
      replace F_b4 := F_b4.keep K8 (ninS (Ne.symm ne_b1_b4) (ninS (Ne.symm ne_n0_2_b4) nin0))
      replace A_n0_5 := A_n0_5.keep K8 (ninS (Ne.symm ne_b1_n0_5) (ninS (Ne.symm ne_n0_2_n0_5) nin0))
      clear F_b1
      have F_b1 := Q_b1; clear Q_b1
      clear A_n0_2
      have A_n0_2 := Q_n0_2; clear Q_n0_2
      clear K8 hn_7 hk_7
      show OG p e below m _ T 56 _ []
      refine o_iload P (hb hby at_56) rfl (pc' := 58) rfl ?_
      refine o_if_ne P (hb hby at_58) (by decide) (pc' := 67) (by decide) (pcf := 61) rfl (fun _ => ?_) (fun q => absurd q (by decide))
      refine o_aload P (hb hby at_67) rfl rfl (pc' := 69) rfl ?_
      refine o_iconst P (1 : Int32) (hb hby at_69) rfl (pc' := 70) rfl ?_
      refine o_aload P (hb hby at_70) rfl rfl (pc' := 72) rfl ?_
      have hn_9 := P.n0le; have hk_9 := P.keep0.1
      refine o_callV P (W := 0) (a := b1) (ow hw 29 rfl) (ow hw 30 rfl) (o_nfSl (ow hw 32 rfl)) (ow hw 32 rfl) (ow hw 31 rfl) (ow hw 5 rfl) (ow hw 33 rfl) (by decide) F_b1.exa (ct_e128 l Z a0 hw EL n0 b1 n0_2 vx od oz hg h8 F_b1 A_n0_2 ne_b1_n0_2) (o_sfS (List.Mem.tail _ (List.Mem.tail _ (List.Mem.tail _ (List.Mem.head _)))) o_sf0) (by rw [hml]; rfl) (by decide) (by decide) (argsL := [(.int 1), (.ref oz)]) (rest := []) (lenOf pd_19 rfl) rfl rfl (Nat.le_of_eq rfl) (hb hby at_72) (pc' := 75) rfl (by decide) (by decide) ?_
      clear P; intro T h10 v10 P K10 q10
      obtain ⟨n0_9, n1_9, n2_9, rfl, g_n0_9, g_n1_9, g_n2_9, ne_n0_9_n1_9, ne_n0_9_n2_9, ne_n1_9_n2_9, Q_b1, Q_n0_9, Q_n1_9, Q_n2_9, -⟩ := q10
      have ne_b1_n0_9 := F_b1.nb g_n0_9
      have ne_b4_n0_9 := F_b4.nb g_n0_9
      have ne_n0_2_n0_9 := A_n0_2.nb g_n0_9
      have ne_n0_5_n0_9 := A_n0_5.nb g_n0_9
      have sz_n0_9 := Nat.le_trans hk_9 g_n0_9
      have ne_b1_n1_9 := F_b1.nb g_n1_9
      have ne_b4_n1_9 := F_b4.nb g_n1_9
      have ne_n0_2_n1_9 := A_n0_2.nb g_n1_9
      have ne_n0_5_n1_9 := A_n0_5.nb g_n1_9
      have sz_n1_9 := Nat.le_trans hk_9 g_n1_9
      have ne_b1_n2_9 := F_b1.nb g_n2_9
      have ne_b4_n2_9 := F_b4.nb g_n2_9
      have ne_n0_2_n2_9 := A_n0_2.nb g_n2_9
      have ne_n0_5_n2_9 := A_n0_5.nb g_n2_9
      have sz_n2_9 := Nat.le_trans hk_9 g_n2_9
      replace F_b4 := F_b4.keep K10 (ninS (Ne.symm ne_b1_b4) nin0)
      replace A_n0_2 := A_n0_2.keep K10 (ninS (Ne.symm ne_b1_n0_2) nin0)
      replace A_n0_5 := A_n0_5.keep K10 (ninS (Ne.symm ne_b1_n0_5) nin0)
      clear F_b1
      have F_b1 := Q_b1; clear Q_b1
      have F_n0_9 := Q_n0_9; clear Q_n0_9
      have F_n1_9 := Q_n1_9; clear Q_n1_9
      have A_n2_9 := Q_n2_9; clear Q_n2_9
      replace P := P.moreO F_n0_9.exa (by decide) (by decide) (Nat.le_trans hn_9 g_n0_9) sz_n0_9
      replace P := P.moreO F_n1_9.exa (by decide) (by decide) (Nat.le_trans hn_9 g_n1_9) sz_n1_9
      replace P := P.moreA A_n2_9 (fun q => by cases q) (Nat.le_trans hn_9 g_n2_9) sz_n2_9
      clear K10 hn_9 hk_9
      show OG p e below m _ T 75 _ [(.long vx)]
      refine o_lstore P (hb hby at_75) (L' := #[.val (.long vx), .second, .val (.long vy), .second, .val (.int fl), .val (.int ii), .val (.int jj), .val (.int pp), .val (.int 1), .val (.ref oz), .val (.ref b1), .val (.ref b4), .val (.long vx), .second, .unset, .unset, .unset, .unset, .unset, .unset, .unset, .unset, .unset, .unset, .unset]) rfl (pc' := 77) rfl ?_
      refine o_aload P (hb hby at_77) rfl rfl (pc' := 79) rfl ?_
      refine o_aload P (hb hby at_79) rfl rfl (pc' := 81) rfl ?_
      refine o_callV P (W := 0) (a := b1) (ow hw 102 rfl) (ow hw 103 rfl) (o_nfSl (ow hw 105 rfl)) (ow hw 105 rfl) (ow hw 104 rfl) (ow hw 5 rfl) (ow hw 106 rfl) (by decide) F_b1.exa (ct_e129 l Z a0 hw EL n0 b1 b4 n0_2 n0_9 n0_5 n1_9 n2_9 vx od oz hg h10 F_b1 F_b4 A_n0_2 F_n0_9 A_n0_5 F_n1_9 A_n2_9 ne_b1_b4 ne_b1_n0_2 ne_b1_n0_9 ne_b1_n0_5 ne_b1_n1_9 ne_b1_n2_9 (Ne.symm ne_n0_2_b4) ne_b4_n0_9 ne_b4_n0_5 ne_b4_n1_9 ne_b4_n2_9 ne_n0_2_n0_9 ne_n0_2_n0_5 ne_n0_2_n1_9 ne_n0_2_n2_9 (Ne.symm ne_n0_5_n0_9) ne_n0_9_n1_9 ne_n0_9_n2_9 ne_n0_5_n1_9 ne_n0_5_n2_9 ne_n1_9_n2_9) o_sf0 (by rw [hml]; rfl) (by decide) (by decide) (argsL := [(.ref b4)]) (rest := []) (lenOf pd_21 rfl) rfl rfl (Nat.le_of_eq rfl) (hb hby at_81) (pc' := 84) rfl (by decide) (by decide) ?_
      clear P; intro T h12 v12 P K12 q12
      obtain ⟨rfl, rfl⟩ := q12; clear K12
      show OG p e below m _ T 84 _ []
      refine o_aload P (hb hby at_84) rfl rfl (pc' := 86) rfl ?_
      refine o_aload P (hb hby at_86) rfl rfl (pc' := 88) rfl ?_
      have hn_13 := P.n0le; have hk_13 := P.keep0.1
      refine o_callV P (W := 0) (a := b4) (ow hw 102 rfl) (ow hw 103 rfl) (o_nfSl (ow hw 105 rfl)) (ow hw 105 rfl) (ow hw 104 rfl) (ow hw 5 rfl) (ow hw 106 rfl) (by decide) F_b4.exa (ct_e130 l Z a0 hw EL n0 b4 b1 n0_5 n0_2 n0_9 n1_9 n2_9 vx od oz hg h12 F_b4 F_b1 A_n0_5 A_n0_2 F_n0_9 F_n1_9 A_n2_9 (Ne.symm ne_b1_b4) ne_b4_n0_5 (Ne.symm ne_n0_2_b4) ne_b4_n0_9 ne_b4_n1_9 ne_b4_n2_9 ne_b1_n0_5 ne_b1_n0_2 ne_b1_n0_9 ne_b1_n1_9 ne_b1_n2_9 (Ne.symm ne_n0_2_n0_5) ne_n0_5_n0_9 ne_n0_5_n1_9 ne_n0_5_n2_9 ne_n0_2_n0_9 ne_n0_2_n1_9 ne_n0_2_n2_9 ne_n0_9_n1_9 ne_n0_9_n2_9 ne_n1_9_n2_9) (o_sfS (List.Mem.tail _ (List.Mem.tail _ (List.Mem.tail _ (List.Mem.tail _ (List.Mem.head _))))) (o_sfS (List.Mem.tail _ (List.Mem.tail _ (List.Mem.tail _ (List.Mem.head _)))) o_sf0)) (by rw [hml]; rfl) (by decide) (by decide) (argsL := [(.ref b1)]) (rest := []) (lenOf pd_21 rfl) rfl rfl (Nat.le_of_eq rfl) (hb hby at_88) (pc' := 91) rfl (by decide) (by decide) ?_
      clear P; intro T h14 v14 P K14 q14
      obtain ⟨rfl, Q_b4, Q_n0_5, -⟩ := q14
      replace F_b1 := F_b1.keep K14 (ninS ne_b1_b4 (ninS ne_b1_n0_5 nin0))
      replace F_n0_9 := F_n0_9.keep K14 (ninS (Ne.symm ne_b4_n0_9) (ninS (Ne.symm ne_n0_5_n0_9) nin0))
      replace F_n1_9 := F_n1_9.keep K14 (ninS (Ne.symm ne_b4_n1_9) (ninS (Ne.symm ne_n0_5_n1_9) nin0))
      replace A_n0_2 := A_n0_2.keep K14 (ninS ne_n0_2_b4 (ninS ne_n0_2_n0_5 nin0))
      replace A_n2_9 := A_n2_9.keep K14 (ninS (Ne.symm ne_b4_n2_9) (ninS (Ne.symm ne_n0_5_n2_9) nin0))
      clear F_b4
      have F_b4 := Q_b4; clear Q_b4
      clear A_n0_5
      have A_n0_5 := Q_n0_5; clear Q_n0_5
      clear K14 hn_13 hk_13
      show OG p e below m _ T 91 _ []
      refine o_aload P (hb hby at_91) rfl rfl (pc' := 93) rfl ?_
      refine o_aload P (hb hby at_93) rfl rfl (pc' := 95) rfl ?_
      have hn_15 := P.n0le; have hk_15 := P.keep0.1
      refine o_callV P (W := 0) (a := b1) (ow hw 102 rfl) (ow hw 103 rfl) (o_nfSl (ow hw 105 rfl)) (ow hw 105 rfl) (ow hw 104 rfl) (ow hw 5 rfl) (ow hw 106 rfl) (by decide) F_b1.exa (ct_e131 l Z a0 hw EL n0 b1 b4 n0_2 n0_9 n0_5 n1_9 n2_9 vx od oz hg h14 F_b1 F_b4 A_n0_2 F_n0_9 A_n0_5 F_n1_9 A_n2_9 ne_b1_b4 ne_b1_n0_2 ne_b1_n0_9 ne_b1_n0_5 ne_b1_n1_9 ne_b1_n2_9 (Ne.symm ne_n0_2_b4) ne_b4_n0_9 ne_b4_n0_5 ne_b4_n1_9 ne_b4_n2_9 ne_n0_2_n0_9 ne_n0_2_n0_5 ne_n0_2_n1_9 ne_n0_2_n2_9 (Ne.symm ne_n0_5_n0_9) ne_n0_9_n1_9 ne_n0_9_n2_9 ne_n0_5_n1_9 ne_n0_5_n2_9 ne_n1_9_n2_9) (o_sfS (List.Mem.tail _ (List.Mem.tail _ (List.Mem.tail _ (List.Mem.tail _ (List.Mem.tail _ (List.Mem.tail _ (List.Mem.head _))))))) (o_sfS (List.Mem.tail _ (List.Mem.tail _ (List.Mem.tail _ (List.Mem.tail _ (List.Mem.tail _ (List.Mem.head _)))))) o_sf0)) (by rw [hml]; rfl) (by decide) (by decide) (argsL := [(.ref b4)]) (rest := []) (lenOf pd_21 rfl) rfl rfl (Nat.le_of_eq rfl) (hb hby at_95) (pc' := 98) rfl (by decide) (by decide) ?_
      clear P; intro T h16 v16 P K16 q16
      obtain ⟨rfl, Q_b1, Q_n0_2, -⟩ := q16
      replace F_b4 := F_b4.keep K16 (ninS (Ne.symm ne_b1_b4) (ninS (Ne.symm ne_n0_2_b4) nin0))
      replace F_n0_9 := F_n0_9.keep K16 (ninS (Ne.symm ne_b1_n0_9) (ninS (Ne.symm ne_n0_2_n0_9) nin0))
      replace F_n1_9 := F_n1_9.keep K16 (ninS (Ne.symm ne_b1_n1_9) (ninS (Ne.symm ne_n0_2_n1_9) nin0))
      replace A_n0_5 := A_n0_5.keep K16 (ninS (Ne.symm ne_b1_n0_5) (ninS (Ne.symm ne_n0_2_n0_5) nin0))
      replace A_n2_9 := A_n2_9.keep K16 (ninS (Ne.symm ne_b1_n2_9) (ninS (Ne.symm ne_n0_2_n2_9) nin0))
      clear F_b1
      have F_b1 := Q_b1; clear Q_b1
      clear A_n0_2
      have A_n0_2 := Q_n0_2; clear Q_n0_2
      clear K16 hn_15 hk_15
      show OG p e below m _ T 98 _ []
      refine o_aload P (hb hby at_98) rfl rfl (pc' := 100) rfl ?_
      refine o_aload P (hb hby at_100) rfl rfl (pc' := 102) rfl ?_
      have hn_17 := P.n0le; have hk_17 := P.keep0.1
      refine o_callV P (W := 0) (a := b4) (ow hw 102 rfl) (ow hw 103 rfl) (o_nfSl (ow hw 105 rfl)) (ow hw 105 rfl) (ow hw 104 rfl) (ow hw 5 rfl) (ow hw 106 rfl) (by decide) F_b4.exa (ct_e132 l Z a0 hw EL n0 b4 b1 n0_5 n0_2 vx od oz hg h16 F_b4 F_b1 A_n0_5 A_n0_2 (Ne.symm ne_b1_b4) ne_b4_n0_5 (Ne.symm ne_n0_2_b4) ne_b1_n0_5 ne_b1_n0_2 (Ne.symm ne_n0_2_n0_5)) (o_sfS (List.Mem.tail _ (List.Mem.tail _ (List.Mem.tail _ (List.Mem.tail _ (List.Mem.head _))))) (o_sfS (List.Mem.tail _ (List.Mem.tail _ (List.Mem.tail _ (List.Mem.head _)))) o_sf0)) (by rw [hml]; rfl) (by decide) (by decide) (argsL := [(.ref b1)]) (rest := []) (lenOf pd_21 rfl) rfl rfl (Nat.le_of_eq rfl) (hb hby at_102) (pc' := 105) rfl (by decide) (by decide) ?_
      clear P; intro T h18 v18 P K18 q18
      obtain ⟨rfl, Q_b4, Q_n0_5, -⟩ := q18
      replace F_b1 := F_b1.keep K18 (ninS ne_b1_b4 (ninS ne_b1_n0_5 nin0))
      replace F_n0_9 := F_n0_9.keep K18 (ninS (Ne.symm ne_b4_n0_9) (ninS (Ne.symm ne_n0_5_n0_9) nin0))
      replace F_n1_9 := F_n1_9.keep K18 (ninS (Ne.symm ne_b4_n1_9) (ninS (Ne.symm ne_n0_5_n1_9) nin0))
      replace A_n0_2 := A_n0_2.keep K18 (ninS ne_n0_2_b4 (ninS ne_n0_2_n0_5 nin0))
      replace A_n2_9 := A_n2_9.keep K18 (ninS (Ne.symm ne_b4_n2_9) (ninS (Ne.symm ne_n0_5_n2_9) nin0))
      clear F_b4
      have F_b4 := Q_b4; clear Q_b4
      clear A_n0_5
      have A_n0_5 := Q_n0_5; clear Q_n0_5
      clear K18 hn_17 hk_17
      show OG p e below m _ T 105 _ []
      refine o_aload P (hb hby at_105) rfl rfl (pc' := 107) rfl ?_
      refine o_aload P (hb hby at_107) rfl rfl (pc' := 109) rfl ?_
      have hn_19 := P.n0le; have hk_19 := P.keep0.1
      refine o_callV P (W := 0) (a := b1) (ow hw 102 rfl) (ow hw 103 rfl) (o_nfSl (ow hw 105 rfl)) (ow hw 105 rfl) (ow hw 104 rfl) (ow hw 5 rfl) (ow hw 106 rfl) (by decide) F_b1.exa (ct_e134 l Z a0 hw EL n0 b1 b4 n0_2 n0_5 vx od oz hg h18 F_b1 F_b4 A_n0_2 A_n0_5 ne_b1_b4 ne_b1_n0_2 ne_b1_n0_5 (Ne.symm ne_n0_2_b4) ne_b4_n0_5 ne_n0_2_n0_5) (o_sfS (List.Mem.tail _ (List.Mem.tail _ (List.Mem.tail _ (List.Mem.tail _ (List.Mem.tail _ (List.Mem.tail _ (List.Mem.head _))))))) (o_sfS (List.Mem.tail _ (List.Mem.tail _ (List.Mem.tail _ (List.Mem.tail _ (List.Mem.tail _ (List.Mem.head _)))))) o_sf0)) (by rw [hml]; rfl) (by decide) (by decide) (argsL := [(.ref b4)]) (rest := []) (lenOf pd_21 rfl) rfl rfl (Nat.le_of_eq rfl) (hb hby at_109) (pc' := 112) rfl (by decide) (by decide) ?_
      clear P; intro T h20 v20 P K20 q20
      obtain ⟨rfl, Q_b1, Q_n0_2, -⟩ := q20
      replace F_b4 := F_b4.keep K20 (ninS (Ne.symm ne_b1_b4) (ninS (Ne.symm ne_n0_2_b4) nin0))
      replace F_n0_9 := F_n0_9.keep K20 (ninS (Ne.symm ne_b1_n0_9) (ninS (Ne.symm ne_n0_2_n0_9) nin0))
      replace F_n1_9 := F_n1_9.keep K20 (ninS (Ne.symm ne_b1_n1_9) (ninS (Ne.symm ne_n0_2_n1_9) nin0))
      replace A_n0_5 := A_n0_5.keep K20 (ninS (Ne.symm ne_b1_n0_5) (ninS (Ne.symm ne_n0_2_n0_5) nin0))
      replace A_n2_9 := A_n2_9.keep K20 (ninS (Ne.symm ne_b1_n2_9) (ninS (Ne.symm ne_n0_2_n2_9) nin0))
      clear F_b1
      have F_b1 := Q_b1; clear Q_b1
      clear A_n0_2
      have A_n0_2 := Q_n0_2; clear Q_n0_2
      clear K20 hn_19 hk_19
      show OG p e below m _ T 112 _ []
      refine o_aload P (hb hby at_112) rfl rfl (pc' := 114) rfl ?_
      refine o_aload P (hb hby at_114) rfl rfl (pc' := 116) rfl ?_
      have hn_21 := P.n0le; have hk_21 := P.keep0.1
      refine o_callV P (W := 0) (a := b4) (ow hw 102 rfl) (ow hw 103 rfl) (o_nfSl (ow hw 105 rfl)) (ow hw 105 rfl) (ow hw 104 rfl) (ow hw 5 rfl) (ow hw 106 rfl) (by decide) F_b4.exa (ct_e136 l Z a0 hw EL n0 b4 b1 n0_5 n0_2 vx od oz hg h20 F_b4 F_b1 A_n0_5 A_n0_2 (Ne.symm ne_b1_b4) ne_b4_n0_5 (Ne.symm ne_n0_2_b4) ne_b1_n0_5 ne_b1_n0_2 (Ne.symm ne_n0_2_n0_5)) (o_sfS (List.Mem.tail _ (List.Mem.tail _ (List.Mem.tail _ (List.Mem.tail _ (List.Mem.head _))))) (o_sfS (List.Mem.tail _ (List.Mem.tail _ (List.Mem.tail _ (List.Mem.head _)))) o_sf0)) (by rw [hml]; rfl) (by decide) (by decide) (argsL := [(.ref b1)]) (rest := []) (lenOf pd_21 rfl) rfl rfl (Nat.le_of_eq rfl) (hb hby at_116) (pc' := 119) rfl (by decide) (by decide) ?_
      clear P; intro T h22 v22 P K22 q22
      obtain ⟨rfl, Q_b4, Q_n0_5, -⟩ := q22
      replace F_b1 := F_b1.keep K22 (ninS ne_b1_b4 (ninS ne_b1_n0_5 nin0))
      replace F_n0_9 := F_n0_9.keep K22 (ninS (Ne.symm ne_b4_n0_9) (ninS (Ne.symm ne_n0_5_n0_9) nin0))
      replace F_n1_9 := F_n1_9.keep K22 (ninS (Ne.symm ne_b4_n1_9) (ninS (Ne.symm ne_n0_5_n1_9) nin0))
      replace A_n0_2 := A_n0_2.keep K22 (ninS ne_n0_2_b4 (ninS ne_n0_2_n0_5 nin0))
      replace A_n2_9 := A_n2_9.keep K22 (ninS (Ne.symm ne_b4_n2_9) (ninS (Ne.symm ne_n0_5_n2_9) nin0))
      clear F_b4
      have F_b4 := Q_b4; clear Q_b4
      clear A_n0_5
      have A_n0_5 := Q_n0_5; clear Q_n0_5
      clear K22 hn_21 hk_21
      show OG p e below m _ T 119 _ []
      exact law119_5oz l Z a0 hw EL hby hml hret vx vy fl ii jj pp od oz hg cv hcs hcv fv hfv hfr hm37 hm39 hm41 hm43 b1 n0_2 b4 n0_5 F_b1 A_n0_2 F_b4 A_n0_5 ne_b1_n0_2 ne_b4_n0_5 (List.Mem.tail _ (List.Mem.tail _ (List.Mem.tail _ (List.Mem.tail _ (List.Mem.tail _ (List.Mem.tail _ (List.Mem.head _))))))) (List.Mem.tail _ (List.Mem.tail _ (List.Mem.tail _ (List.Mem.tail _ (List.Mem.tail _ (List.Mem.head _)))))) (P.mono (by decide) (by decide))
theorem comes_1 {Post : Tables → Env → Array Value → State → Outcome → State → Prop} (hpost : ∀ tb e args s v u, (limb_1_1.after args s (.returned v) u = true ∧ limb_1_2.after args s (.returned v) u = true ∧ True) → ReturnedEndW s (.returned v) u (Jvm.fieldLocs frame_1_writes args s ++ Jvm.arrayLocs frame_1_arrays args s ++ Jvm.staticLocs frame_1_statics s) 40 4352 → Post tb e args s (.returned v) u) :
    ArmFor flags0 classFile x code maxLocals ret World_1 tables_1 room_1 Calls_1 rest_1 Pre_1 Post := by
  intro l hfl _ _ p e ha hc hk s m args below hf hA hF happ hP
  obtain ⟨hcalls, hrest, hpre⟩ := hP
  obtain ⟨-, -, -, hnamed, -, -, -, hat⟩ := (Spec.applies_iff hf).mp happ
  obtain ⟨hg, hn⟩ := and_e (Cond.before_iff.mp (show (Jvm.Cond.and given_1 narrow_1).before args s = true from hpre))
  obtain ⟨g0, hg⟩ := and_e hg
  obtain ⟨gv0, hg⟩ := and_e hg
  obtain ⟨gv1, hg⟩ := and_e hg
  obtain ⟨gv2, hg⟩ := and_e hg
  obtain ⟨gv3, hg⟩ := and_e hg
  obtain ⟨gv4, hg⟩ := and_e hg
  have gv5 := hg
  obtain ⟨w0, w1, w2, w3, w4, w5, rfl⟩ : ∃ w0 w1 w2 w3 w4 w5 : Value, args = #[w0, w1, w2, w3, w4, w5] := by
    have hs : args.size = 6 := by simpa [Cond.value, given_1] using g0
    obtain ⟨L⟩ := args
    match L, hs with
    | [w0, w1, w2, w3, w4, w5], _ => exact ⟨w0, w1, w2, w3, w4, w5, rfl⟩
  have hw := fun d (hd : d ∈ tables_1) => atoms_spec (ws := Jvm.Cond.code x code maxLocals ret :: tables_1) hat d (List.mem_cons_of_mem _ hd)
  have hfit : Fit s := fun {y c} hc i hi => by
    obtain ⟨ha, rfl⟩ := Array.getElem?_eq_some_iff.mp hc
    have q := List.all_eq_true.mp ((Array.all_eq_true_iff_forall_mem.mp hF) _ (Array.getElem_mem ha)) i (List.mem_range.mpr hi)
    simpa [Array.getElem?_eq_getElem hi] using q
  obtain ⟨hsets, hown0⟩ := atoms_of _ (rest_1_c_eq ▸ (show rest_1_c.before _ s = true from hrest))
  obtain ⟨i0, ei0⟩ := isL_v gv0
  obtain rfl : w0 = (.long i0) := Option.some.inj ei0
  obtain ⟨i1, ei1⟩ := isL_v gv1
  obtain rfl : w1 = (.long i1) := Option.some.inj ei1
  obtain ⟨i2, ei2⟩ := is_v gv2
  obtain rfl : w2 = (.int i2) := Option.some.inj ei2
  obtain ⟨i3, ei3⟩ := is_v gv3
  obtain rfl : w3 = (.int i3) := Option.some.inj ei3
  obtain ⟨i4, ei4⟩ := is_v gv4
  obtain rfl : w4 = (.int i4) := Option.some.inj ei4
  obtain ⟨i5, ei5⟩ := is_v gv5
  obtain rfl : w5 = (.int i5) := Option.some.inj ei5
  have hEW : EW s #[.long i0, .long i1, .int i2, .int i3, .int i4, .int i5] [(kW, 37), (kW, 39), (kW, 41), (kW, 43)] := (EW.cons (ow hw 235 rfl) (by simp) (EW.cons (ow hw 124 rfl) (by simp) (EW.cons (ow hw 236 rfl) (by simp) (EW.cons (ow hw 132 rfl) (by simp) EW.nil))))
  have n3 := not_v (Cond.before_iff.mp (hsets _ (List.mem_of_getElem? (i := 5) rfl)))
  obtain ⟨cv, e6⟩ := is_v (Cond.before_iff.mp (hsets _ (List.mem_of_getElem? (i := 4) rfl)))
  have hcs : Sta s s.heap "java/lang/String" "COMPACT_STRINGS" "Z" (.int cv) := Sta.start e6 (Or.inl (hsets _ (List.mem_of_getElem? (i := 3) rfl)))
  have hcv : ¬ (cv = (0 : Int32)) := gotF (Cond.eq_ints e6 (Term.int_eval (0))) n3
  have hCH : CHv s [(kW, 37), (kW, 39), (kW, 41), (kW, 43)] s.vm s.heap := CHv.start hEW (fun p hp => hcalls.1 p hp) (hsets _ (List.mem_of_getElem? (i := 5) rfl)) (ow hw 127 rfl) (ow hw 126 rfl)
  obtain ⟨fv, efv, hfr⟩ := isR_v (Cond.before_iff.mp (hsets _ (List.mem_of_getElem? (i := 11) rfl)))
  have hfv : Sta s s.heap "jdk/internal/util/Preconditions" "SIOOBE_FORMATTER" "Ljava/util/function/BiFunction;" fv := Sta.start efv (Or.inl (hsets _ (List.mem_of_getElem? (i := 10) rfl)))
  have had : Sta s s.heap kB "$assertionsDisabled" "Z" (.int 1) := Sta.start (eqv_i (Term.int_eval 1) (Cond.before_iff.mp (hsets _ (List.mem_of_getElem? (i := 2) rfl)))) (Or.inl (hsets _ (List.mem_of_getElem? (i := 1) rfl)))
  obtain ⟨hn1, hn⟩ := and_e hn
  obtain ⟨hn2, hn⟩ := and_e hn
  obtain ⟨hn3, hn4⟩ := and_e hn
  obtain ⟨od, eod⟩ := exa_v hn1
  obtain ⟨oz, eoz⟩ := exa_v hn2
  have hod : Sta s s.heap kO "ASCENDING" kOd (.ref od) := Sta.start eod (Or.inr ⟨(ow hw 1 rfl), (ow hw 2 rfl)⟩)
  have hoz : Sta s s.heap kO "DESCENDING" kOd (.ref oz) := Sta.start eoz (Or.inr ⟨(ow hw 1 rfl), (ow hw 234 rfl)⟩)
  have ne_oz_od : oz ≠ od := Fld.ne (o_fint eoz hn3) (o_fint eod hn4) (by decide)
  have hg : OGp s od oz := ⟨had, hod, hoz, ne_oz_od⟩
  have hm37 : (kW, 37) ∈ [(kW, 37), (kW, 39), (kW, 41), (kW, 43)] := by simp
  have hm39 : (kW, 39) ∈ [(kW, 37), (kW, 39), (kW, 41), (kW, 43)] := by simp
  have hm41 : (kW, 41) ∈ [(kW, 37), (kW, 39), (kW, 41), (kW, 43)] := by simp
  have hm43 : (kW, 43) ∈ [(kW, 37), (kW, 39), (kW, 41), (kW, 43)] := by simp
  obtain ⟨n, o, h1, h2, h3, v, L, rfl, ⟨rfl, K, N⟩, hC, hH, hq⟩ := rm0 l s _ hw [(kW, 37), (kW, 39), (kW, 41), (kW, 43)] s.heap.size i0 i1 i2 i3 i4 i5 od oz hg cv hcs hcv fv hfv hfr hm37 hm39 hm41 hm43 s.heap (Old.start s) hEW (fun _ q => nomatch q) p e ha hc hk s m _ below hf ((Spec.applies_iff_loose hf).mp happ).1 ⟨rfl, State.Warmed39.refl s, rfl, hCH, fun _ q => nomatch q⟩ trivial
  refine ⟨n, _, h1, h2, h3, hpost _ _ _ _ _ _ ⟨Cond.after_iff.mpr rfl, Cond.after_iff.mpr (eq_i res_at (Term.int_eval (1)) rfl), trivial⟩ ⟨hq.1, hq.2.1, hq.2.2.1, (hq.2.2.2.sift fun y hy => Or.inr (N y hy)).mono (by decide) (by decide)⟩⟩
theorem main_1_1 : Claimed_1_1 := comes_1 fun _ _ _ _ _ _ h hF => ⟨h.1, hF⟩
theorem main_1_2 : Claimed_1_2 := comes_1 fun _ _ _ _ _ _ h hF => ⟨h.2.1, hF⟩
end Jvm.Pilot.@@N@@
namespace Jvm.Pilot.@@N@@
open Jvm Jvm.ClassFile Sem Op Lib Jvm.Free Jvm.Stand Jvm.Pilot.@@N@@.Jvm.D
/-! MADE BY PROGRAM (witnessworld.py) out of the Statement's table words and the real class files: 30 classes; the members and pool entries that the words name. The judged class is class 1, her method 2. -/
namespace start1
open Jvm.ClassFile
def u (s : String) : CpInfo := .utf8 (stringToUtf16 s)
/-- a pool by its gaps: so many unusable entries, then the entry; so many at the end -/
def gap : Nat → List CpInfo → List CpInfo
  | 0, r => r
  | n + 1, r => .unusable :: gap n r
def poolList (es : List (Nat × CpInfo)) (last : Nat) : List CpInfo := es.foldr (fun e r => gap e.1 (e.2 :: r)) (gap last [])
def pool (es : List (Nat × CpInfo)) (last : Nat) : Array CpInfo := ⟨poolList es last⟩
def fileOf (pool : Array CpInfo) (this : Nat) (attrs : Array Attribute := #[]) (ms : Array MethodInfo := #[]) (fl : Nat := 33) (sup : Nat := 0) (ifs : Array Nat := #[]) (fds : Array FieldInfo := #[]) : ClassFile where
  minorVersion := 0
  majorVersion := 65
  constantPool := pool
  accessFlags := fl
  thisClass := this
  superClass := sup
  interfaces := ifs
  fields := fds
  methods := ms
  attributes := attrs
def plain (name : String) (sup : Option ClassId) : Class where
  name := name
  kind := .ordinary
  loader := none
  accessFlags := 33
  super := sup
  interfaces := #[]
  cf := none
  fields := #[]
  methods := #[]
  instanceTypes := #[]
  staticTypes := #[]
  resolved := #[]
  callSites := []
  init := .initialized
  statics := none
  mirror := none

def pool0 : Array CpInfo := pool [(5, u "<init>"), (0, u "()V"), (1, .class_ 10), (1, u "java/lang/Object")] 113

def k0c0 : Code := { maxStack := 0, maxLocals := 1, code := object_method_1_code, exceptionTable := #[], attributes := #[] }
def k0m0 : Method := { name := "<init>", desc := "()V", sig := { parameters := [], returnType := none }, accessFlags := 1, code := some k0c0 }
/-- java/lang/Object -/
def k0 : Class := { plain "java/lang/Object" none with
  accessFlags := 33
  interfaces := #[]
  cf := some (fileOf pool0 8 #[] #[{ accessFlags := 1, nameIndex := 5, descriptorIndex := 6, attributes := #[] }] 33 0 #[] #[])
  fields := #[]
  methods := #[k0m0]
  instanceTypes := #[]
  staticTypes := #[]
  resolved := Array.replicate 124 none
  statics := none }

def pool1 : Array CpInfo := pool [(2, .class_ 4), (0, .nameAndType 5 6), (0, u "java/lang/Object"), (0, u "<init>"), (0, u "()V"), (0, .methodref 8 9), (0, .class_ 10), (0, .nameAndType 11 12), (0, u "java/lang/String"), (0, u "charAt"), (0, u "(I)C"), (0, .fieldref 14 15), (0, .class_ 16), (0, .nameAndType 17 18), (0, u "com/example/centile/centile/function/Order"), (0, u "DESCENDING"), (0, u "Lcom/example/centile/centile/function/Order;"), (0, .fieldref 14 20), (0, .nameAndType 21 18), (0, u "ASCENDING"), (0, .class_ 23), (0, u "com/example/centile/centile/function/Keys"), (0, .methodref 22 3), (0, .methodref 22 26), (0, .nameAndType 27 28), (0, u "add"), (0, u "(J)V"), (0, .methodref 22 30), (0, .nameAndType 31 32), (0, u "at"), (0, u "(ILcom/example/centile/centile/function/Order;)J"), (0, .methodref 22 34), (0, .nameAndType 35 36), (0, u "addAll"), (0, u "(Lcom/example/centile/centile/function/Keys;)V"), (0, .string 38), (0, u "xxxxx"), (0, .string 40), (0, u "xyyxyyxyxyyxy"), (0, .string 42), (0, u "xxxxxxxx"), (0, .string 44), (0, u "yxyxyyxyxyyxyyxyxyyxy"), (0, .methodref 8 46), (0, .nameAndType 47 48), (0, u "length"), (0, u "()I"), (0, .methodref 22 50), (0, .nameAndType 51 48), (0, u "size"), (0, .integer 2147483647), (0, .methodref 22 54), (0, .nameAndType 55 56), (0, u "get"), (0, u "(I)J"), (0, .methodref 58 59), (0, .class_ 60), (0, .nameAndType 61 62), (0, u "com/example/centile/centile/function/KeysAddAllPinLaw"), (0, u "pick"), (0, u "(Ljava/lang/String;IJJ)J"), (3, u "law"), (0, u "(JJIIII)Z")] 2

def k1m0 : Method := { name := "<init>", desc := "()V", sig := { parameters := [], returnType := none }, accessFlags := 1, code := none }
def k1c1 : Code := { maxStack := 2, maxLocals := 6, code := method_2_code, exceptionTable := #[], attributes := #[] }
def k1m1 : Method := { name := "pick", desc := "(Ljava/lang/String;IJJ)J", sig := { parameters := [(.object "java/lang/String"), .int, .long, .long], returnType := some .long }, accessFlags := 10, code := some k1c1 }
def k1c2 : Code := { maxStack := 8, maxLocals := 25, code := code, exceptionTable := #[], attributes := #[] }
def k1m2 : Method := { name := "law", desc := "(JJIIII)Z", sig := { parameters := [.long, .long, .int, .int, .int, .int], returnType := some .boolean }, accessFlags := 9, code := some k1c2 }
/-- com/example/centile/centile/function/KeysAddAllPinLaw -/
def k1 : Class := { plain "com/example/centile/centile/function/KeysAddAllPinLaw" (some 0) with
  accessFlags := 49
  interfaces := #[]
  cf := some (fileOf pool1 58 #[] #[{ accessFlags := 1, nameIndex := 5, descriptorIndex := 6, attributes := #[] }, { accessFlags := 10, nameIndex := 61, descriptorIndex := 62, attributes := #[] }, { accessFlags := 9, nameIndex := 66, descriptorIndex := 67, attributes := #[] }] 49 2 #[] #[])
  fields := #[]
  methods := #[k1m0, k1m1, k1m2]
  instanceTypes := #[]
  staticTypes := #[]
  resolved := Array.replicate 70 none
  statics := none }

def pool2 : Array CpInfo := pool [(1, .class_ 2), (0, u "java/lang/constant/Constable"), (0, .class_ 4), (0, u "java/lang/Object")] 6

/-- java/lang/constant/Constable -/
def k2 : Class := { plain "java/lang/constant/Constable" (some 0) with
  accessFlags := 1537
  interfaces := #[]
  cf := some (fileOf pool2 1 #[] #[] 1537 3 #[] #[])
  fields := #[]
  methods := #[]
  instanceTypes := #[]
  staticTypes := #[]
  resolved := Array.replicate 11 none
  statics := none }

def pool3 : Array CpInfo := pool [(1, .class_ 2), (0, u "java/lang/Comparable"), (0, .class_ 4), (0, u "java/lang/Object")] 7

/-- java/lang/Comparable -/
def k3 : Class := { plain "java/lang/Comparable" (some 0) with
  accessFlags := 1537
  interfaces := #[]
  cf := some (fileOf pool3 1 #[] #[] 1537 3 #[] #[])
  fields := #[]
  methods := #[]
  instanceTypes := #[]
  staticTypes := #[]
  resolved := Array.replicate 12 none
  statics := none }

def pool4 : Array CpInfo := pool [(1, .class_ 2), (0, u "java/io/Serializable"), (0, .class_ 4), (0, u "java/lang/Object")] 2

/-- java/io/Serializable -/
def k4 : Class := { plain "java/io/Serializable" (some 0) with
  accessFlags := 1537
  interfaces := #[]
  cf := some (fileOf pool4 1 #[] #[] 1537 3 #[] #[])
  fields := #[]
  methods := #[]
  instanceTypes := #[]
  staticTypes := #[]
  resolved := Array.replicate 7 none
  statics := none }

def pool5 : Array CpInfo := pool [(2, .class_ 4), (1, u "java/lang/Enum"), (0, u "name"), (0, u "Ljava/lang/String;"), (2, u "ordinal"), (0, u "I"), (1, .class_ 14), (1, u "java/lang/Object"), (4, u "hash"), (86, .class_ 108), (1, u "java/lang/Enum$EnumDesc"), (2, .class_ 112), (0, u "java/lang/constant/Constable"), (0, .class_ 114), (0, u "java/lang/Comparable"), (0, .class_ 116), (0, u "java/io/Serializable")] 87

/-- java/lang/Enum -/
def k5 : Class := { plain "java/lang/Enum" (some 0) with
  accessFlags := 1057
  interfaces := #[2, 3, 4]
  cf := some (fileOf pool5 2 #[.nestMembers #[106]] #[] 1057 12 #[111, 113, 115] #[{ accessFlags := 18, nameIndex := 5, descriptorIndex := 6, attributes := #[] }, { accessFlags := 18, nameIndex := 9, descriptorIndex := 10, attributes := #[] }, { accessFlags := 2, nameIndex := 19, descriptorIndex := 10, attributes := #[] }])
  fields := #[{ name := "name", type := (.object "java/lang/String"), accessFlags := 18, slot := 0, constantValue := 0 }, { name := "ordinal", type := .int, accessFlags := 18, slot := 1, constantValue := 0 }, { name := "hash", type := .int, accessFlags := 2, slot := 2, constantValue := 0 }]
  methods := #[]
  instanceTypes := #[(.object "java/lang/String"), .int, .int]
  staticTypes := #[]
  resolved := Array.replicate 204 none
  statics := none }

def pool6 : Array CpInfo := pool [(1, .class_ 2), (0, u "com/example/centile/centile/function/Order"), (2, u "ASCENDING"), (0, u "Lcom/example/centile/centile/function/Order;"), (2, u "DESCENDING"), (2, u "$VALUES"), (0, u "[Lcom/example/centile/centile/function/Order;"), (6, .class_ 22), (1, u "java/lang/Enum")] 24

/-- com/example/centile/centile/function/Order -/
def k6 : Class := { plain "com/example/centile/centile/function/Order" (some 5) with
  accessFlags := 16433
  interfaces := #[]
  cf := some (fileOf pool6 1 #[] #[] 16433 20 #[] #[{ accessFlags := 16409, nameIndex := 5, descriptorIndex := 6, attributes := #[] }, { accessFlags := 16409, nameIndex := 9, descriptorIndex := 6, attributes := #[] }, { accessFlags := 4122, nameIndex := 12, descriptorIndex := 13, attributes := #[] }])
  fields := #[{ name := "ASCENDING", type := (.object "com/example/centile/centile/function/Order"), accessFlags := 16409, slot := 0, constantValue := 0 }, { name := "DESCENDING", type := (.object "com/example/centile/centile/function/Order"), accessFlags := 16409, slot := 1, constantValue := 0 }, { name := "$VALUES", type := (.array (.object "com/example/centile/centile/function/Order")), accessFlags := 4122, slot := 2, constantValue := 0 }]
  methods := #[]
  instanceTypes := #[(.object "java/lang/String"), .int, .int]
  staticTypes := #[(.object "com/example/centile/centile/function/Order"), (.object "com/example/centile/centile/function/Order"), (.array (.object "com/example/centile/centile/function/Order"))]
  resolved := Array.replicate 47 none
  statics := some 0 }

def pool7 : Array CpInfo := pool [(3, .methodref 4 5), (0, .class_ 6), (0, .nameAndType 7 8), (0, u "java/lang/Object"), (0, u "<init>"), (0, u "()V"), (0, .fieldref 10 11), (0, .class_ 12), (0, .nameAndType 13 14), (0, u "com/example/centile/centile/function/Keys"), (0, u "keys"), (0, u "[J"), (0, .fieldref 10 16), (0, .nameAndType 17 18), (0, u "size"), (0, u "I"), (0, .methodref 10 20), (0, .nameAndType 21 22), (0, u "ensureRoom"), (0, u "(I)V"), (0, .fieldref 10 24), (0, .nameAndType 25 26), (0, u "selection"), (0, u "Lcom/example/centile/centile/function/Selection;"), (0, .methodref 28 29), (0, .class_ 30), (0, .nameAndType 31 32), (0, u "java/lang/System"), (0, u "arraycopy"), (0, u "(Ljava/lang/Object;ILjava/lang/Object;II)V"), (0, .class_ 34), (0, u "com/example/centile/centile/function/Selection"), (0, .methodref 33 36), (0, .nameAndType 7 37), (0, u "([JI)V"), (0, .fieldref 39 40), (0, .class_ 41), (0, .nameAndType 42 43), (0, u "com/example/centile/centile/function/Order"), (0, u "ASCENDING"), (0, u "Lcom/example/centile/centile/function/Order;"), (0, .methodref 33 45), (0, .nameAndType 46 47), (0, u "valueAt"), (0, u "(I)J"), (0, .integer 2147483639), (7, .integer 1073741819), (0, .methodref 58 59), (0, .class_ 60), (0, .nameAndType 61 62), (0, u "java/lang/Math"), (0, u "max"), (0, u "(II)I"), (0, .methodref 64 65), (0, .class_ 66), (0, .nameAndType 67 68), (0, u "java/util/Arrays"), (0, u "copyOf"), (0, u "([JI)[J"), (0, u "MAX_KEYS"), (3, u "()I"), (0, u "get"), (0, u "add"), (0, u "(J)V"), (0, u "addAll"), (0, u "(Lcom/example/centile/centile/function/Keys;)V"), (1, u "at"), (0, u "(ILcom/example/centile/centile/function/Order;)J")] 2

def k7c0 : Code := { maxStack := 2, maxLocals := 1, code := prog_11_method_1_code, exceptionTable := #[], attributes := #[] }
def k7m0 : Method := { name := "<init>", desc := "()V", sig := { parameters := [], returnType := none }, accessFlags := 0, code := some k7c0 }
def k7c1 : Code := { maxStack := 1, maxLocals := 1, code := prog_11_method_2_code, exceptionTable := #[], attributes := #[] }
def k7m1 : Method := { name := "size", desc := "()I", sig := { parameters := [], returnType := some .int }, accessFlags := 0, code := some k7c1 }
def k7c2 : Code := { maxStack := 2, maxLocals := 2, code := prog_11_method_3_code, exceptionTable := #[], attributes := #[] }
def k7m2 : Method := { name := "get", desc := "(I)J", sig := { parameters := [.int], returnType := some .long }, accessFlags := 0, code := some k7c2 }
def k7c3 : Code := { maxStack := 5, maxLocals := 3, code := prog_11_method_4_code, exceptionTable := #[], attributes := #[] }
def k7m3 : Method := { name := "add", desc := "(J)V", sig := { parameters := [.long], returnType := none }, accessFlags := 0, code := some k7c3 }
def k7c4 : Code := { maxStack := 5, maxLocals := 3, code := prog_11_method_5_code, exceptionTable := #[], attributes := #[] }
def k7m4 : Method := { name := "addAll", desc := "(Lcom/example/centile/centile/function/Keys;)V", sig := { parameters := [(.object "com/example/centile/centile/function/Keys")], returnType := none }, accessFlags := 0, code := some k7c4 }
def k7c5 : Code := { maxStack := 5, maxLocals := 4, code := prog_11_method_6_code, exceptionTable := #[], attributes := #[] }
def k7m5 : Method := { name := "at", desc := "(ILcom/example/centile/centile/function/Order;)J", sig := { parameters := [.int, (.object "com/example/centile/centile/function/Order")], returnType := some .long }, accessFlags := 0, code := some k7c5 }
def k7c6 : Code := { maxStack := 4, maxLocals := 4, code := prog_11_method_7_code, exceptionTable := #[], attributes := #[] }
def k7m6 : Method := { name := "ensureRoom", desc := "(I)V", sig := { parameters := [.int], returnType := none }, accessFlags := 2, code := some k7c6 }
/-- com/example/centile/centile/function/Keys -/
def k7 : Class := { plain "com/example/centile/centile/function/Keys" (some 0) with
  accessFlags := 48
  interfaces := #[]
  cf := some (fileOf pool7 10 #[] #[{ accessFlags := 0, nameIndex := 7, descriptorIndex := 8, attributes := #[] }, { accessFlags := 0, nameIndex := 17, descriptorIndex := 73, attributes := #[] }, { accessFlags := 0, nameIndex := 74, descriptorIndex := 47, attributes := #[] }, { accessFlags := 0, nameIndex := 75, descriptorIndex := 76, attributes := #[] }, { accessFlags := 0, nameIndex := 77, descriptorIndex := 78, attributes := #[] }, { accessFlags := 0, nameIndex := 80, descriptorIndex := 81, attributes := #[] }, { accessFlags := 2, nameIndex := 21, descriptorIndex := 22, attributes := #[] }] 48 4 #[] #[{ accessFlags := 26, nameIndex := 69, descriptorIndex := 18, attributes := #[] }, { accessFlags := 2, nameIndex := 13, descriptorIndex := 14, attributes := #[] }, { accessFlags := 2, nameIndex := 17, descriptorIndex := 18, attributes := #[] }, { accessFlags := 2, nameIndex := 25, descriptorIndex := 26, attributes := #[] }])
  fields := #[{ name := "MAX_KEYS", type := .int, accessFlags := 26, slot := 0, constantValue := 0 }, { name := "keys", type := (.array .long), accessFlags := 2, slot := 0, constantValue := 0 }, { name := "size", type := .int, accessFlags := 2, slot := 1, constantValue := 0 }, { name := "selection", type := (.object "com/example/centile/centile/function/Selection"), accessFlags := 2, slot := 2, constantValue := 0 }]
  methods := #[k7m0, k7m1, k7m2, k7m3, k7m4, k7m5, k7m6]
  instanceTypes := #[(.array .long), .int, (.object "com/example/centile/centile/function/Selection")]
  staticTypes := #[.int]
  resolved := Array.replicate 84 none
  statics := none }

def pool8 : Array CpInfo := pool [(1, .methodref 2 3), (0, .class_ 4), (0, .nameAndType 5 6), (0, u "java/lang/Object"), (0, u "<init>"), (0, u "()V"), (0, .fieldref 8 9), (0, .class_ 10), (0, .nameAndType 11 12), (0, u "com/example/centile/centile/function/Selection"), (0, u "values"), (0, u "[J"), (0, .class_ 14), (0, u "java/util/BitSet"), (0, .methodref 13 16), (0, .nameAndType 5 17), (0, u "(I)V"), (0, .fieldref 8 19), (0, .nameAndType 20 21), (0, u "cuts"), (0, u "Ljava/util/BitSet;"), (0, .methodref 13 23), (0, .nameAndType 24 17), (0, u "set"), (0, .methodref 8 26), (0, .nameAndType 27 17), (0, u "settle"), (0, .methodref 13 29), (0, .nameAndType 30 31), (0, u "get"), (0, u "(I)Z"), (0, .methodref 13 33), (0, .nameAndType 34 35), (0, u "previousSetBit"), (0, u "(I)I"), (0, .methodref 13 37), (0, .nameAndType 38 35), (0, u "nextSetBit"), (15, .methodref 13 55), (0, .nameAndType 24 56), (0, u "(II)V"), (0, .methodref 58 59), (0, .class_ 60), (0, .nameAndType 61 62), (0, u "java/util/Arrays"), (0, u "sort"), (0, u "([JII)V"), (26, u "SORT_LENGTH"), (0, u "I"), (2, u "MAX_SAMPLE"), (1, u "PIVOT_MARGIN"), (0, u "D"), (0, u "MAX_POOR_PARTITIONS"), (1, u "([JI)V"), (2, u "valueAt"), (0, u "(I)J")] 4

def k8c0 : Code := { maxStack := 5, maxLocals := 3, code := prog_15_method_1_code, exceptionTable := #[], attributes := #[] }
def k8m0 : Method := { name := "<init>", desc := "([JI)V", sig := { parameters := [(.array .long), .int], returnType := none }, accessFlags := 0, code := some k8c0 }
def k8c1 : Code := { maxStack := 2, maxLocals := 2, code := prog_15_method_2_code, exceptionTable := #[], attributes := #[] }
def k8m1 : Method := { name := "valueAt", desc := "(I)J", sig := { parameters := [.int], returnType := some .long }, accessFlags := 0, code := some k8c1 }
def k8c2 : Code := { maxStack := 5, maxLocals := 12, code := prog_15_method_3_code, exceptionTable := #[], attributes := #[] }
def k8m2 : Method := { name := "settle", desc := "(I)V", sig := { parameters := [.int], returnType := none }, accessFlags := 2, code := some k8c2 }
/-- com/example/centile/centile/function/Selection -/
def k8 : Class := { plain "com/example/centile/centile/function/Selection" (some 0) with
  accessFlags := 48
  interfaces := #[]
  cf := some (fileOf pool8 8 #[] #[{ accessFlags := 0, nameIndex := 5, descriptorIndex := 99, attributes := #[] }, { accessFlags := 0, nameIndex := 102, descriptorIndex := 103, attributes := #[] }, { accessFlags := 2, nameIndex := 27, descriptorIndex := 17, attributes := #[] }] 48 2 #[] #[{ accessFlags := 26, nameIndex := 89, descriptorIndex := 90, attributes := #[] }, { accessFlags := 26, nameIndex := 93, descriptorIndex := 90, attributes := #[] }, { accessFlags := 26, nameIndex := 95, descriptorIndex := 96, attributes := #[] }, { accessFlags := 26, nameIndex := 97, descriptorIndex := 90, attributes := #[] }, { accessFlags := 18, nameIndex := 11, descriptorIndex := 12, attributes := #[] }, { accessFlags := 18, nameIndex := 20, descriptorIndex := 21, attributes := #[] }])
  fields := #[{ name := "SORT_LENGTH", type := .int, accessFlags := 26, slot := 0, constantValue := 0 }, { name := "MAX_SAMPLE", type := .int, accessFlags := 26, slot := 1, constantValue := 0 }, { name := "PIVOT_MARGIN", type := .double, accessFlags := 26, slot := 2, constantValue := 0 }, { name := "MAX_POOR_PARTITIONS", type := .int, accessFlags := 26, slot := 3, constantValue := 0 }, { name := "values", type := (.array .long), accessFlags := 18, slot := 0, constantValue := 0 }, { name := "cuts", type := (.object "java/util/BitSet"), accessFlags := 18, slot := 1, constantValue := 0 }]
  methods := #[k8m0, k8m1, k8m2]
  instanceTypes := #[(.array .long), (.object "java/util/BitSet")]
  staticTypes := #[.int, .int, .double, .int]
  resolved := Array.replicate 108 none
  statics := none }

def pool9 : Array CpInfo := pool [(1, .class_ 2), (0, u "java/lang/Cloneable"), (0, .class_ 4), (0, u "java/lang/Object")] 2

/-- java/lang/Cloneable -/
def k9 : Class := { plain "java/lang/Cloneable" (some 0) with
  accessFlags := 1537
  interfaces := #[]
  cf := some (fileOf pool9 1 #[] #[] 1537 3 #[] #[])
  fields := #[]
  methods := #[]
  instanceTypes := #[]
  staticTypes := #[]
  resolved := Array.replicate 7 none
  statics := none }

def pool10 : Array CpInfo := pool [(1, .class_ 2), (0, u "java/util/BitSet"), (0, .fieldref 1 4), (0, .nameAndType 5 6), (0, u "$assertionsDisabled"), (0, u "Z"), (0, .fieldref 1 8), (0, .nameAndType 9 10), (0, u "wordsInUse"), (0, u "I"), (0, .fieldref 1 12), (0, .nameAndType 13 14), (0, u "words"), (0, u "[J"), (3, .nameAndType 19 20), (0, u "<init>"), (0, u "()V"), (0, .methodref 22 18), (0, .class_ 23), (0, u "java/lang/Object"), (0, .fieldref 1 25), (0, .nameAndType 26 6), (0, u "sizeIsSticky"), (0, .methodref 1 28), (0, .nameAndType 29 30), (0, u "initWords"), (0, u "(I)V"), (21, .methodref 1 53), (0, .nameAndType 54 55), (0, u "wordIndex"), (0, u "(I)I"), (0, .methodref 1 57), (0, .nameAndType 58 20), (0, u "checkInvariants"), (21, u "get"), (58, .methodref 1 140), (0, .nameAndType 141 30), (0, u "ensureCapacity"), (13, .methodref 1 156), (0, .nameAndType 157 30), (0, u "expandTo"), (3, .methodref 1 162), (0, .nameAndType 163 164), (0, u "checkRange"), (0, u "(II)V"), (0, .long 18446744073709551615), (3, u "set"), (12, .methodref 183 184), (0, .class_ 185), (0, .nameAndType 186 187), (0, u "java/lang/Long"), (0, u "numberOfTrailingZeros"), (0, u "(J)I"), (2, .methodref 183 191), (0, .nameAndType 192 187), (0, u "numberOfLeadingZeros"), (70, u "nextSetBit"), (5, .class_ 270), (0, u "java/util/BitSet$1BitSetSpliterator"), (22, u "serialPersistentFields"), (0, u "[Ljava/io/ObjectStreamField;"), (0, .class_ 296), (0, u "java/lang/Cloneable"), (0, .class_ 298), (0, u "java/io/Serializable"), (0, u "ADDRESS_BITS_PER_WORD"), (2, u "BITS_PER_WORD"), (1, u "BIT_INDEX_MASK"), (1, u "WORD_MASK"), (0, u "J"), (0, u "serialVersionUID"), (42, u "(I)Z"), (7, u "previousSetBit")] 57

def k10c0 : Code := { maxStack := 2, maxLocals := 1, code := jdk_92_method_1_code, exceptionTable := #[], attributes := #[] }
def k10m0 : Method := { name := "wordIndex", desc := "(I)I", sig := { parameters := [.int], returnType := some .int }, accessFlags := 10, code := some k10c0 }
def k10c1 : Code := { maxStack := 4, maxLocals := 1, code := jdk_92_method_2_code, exceptionTable := #[], attributes := #[] }
def k10m1 : Method := { name := "checkInvariants", desc := "()V", sig := { parameters := [], returnType := none }, accessFlags := 2, code := some k10c1 }
def k10m2 : Method := { name := "<init>", desc := "()V", sig := { parameters := [], returnType := none }, accessFlags := 1, code := none }
def k10c3 : Code := { maxStack := 4, maxLocals := 2, code := jdk_92_method_5_code, exceptionTable := #[], attributes := #[] }
def k10m3 : Method := { name := "<init>", desc := "(I)V", sig := { parameters := [.int], returnType := none }, accessFlags := 1, code := some k10c3 }
def k10c4 : Code := { maxStack := 3, maxLocals := 2, code := jdk_92_method_6_code, exceptionTable := #[], attributes := #[] }
def k10m4 : Method := { name := "initWords", desc := "(I)V", sig := { parameters := [.int], returnType := none }, accessFlags := 2, code := some k10c4 }
def k10c5 : Code := { maxStack := 3, maxLocals := 3, code := jdk_92_method_14_code, exceptionTable := #[], attributes := #[] }
def k10m5 : Method := { name := "ensureCapacity", desc := "(I)V", sig := { parameters := [.int], returnType := none }, accessFlags := 2, code := some k10c5 }
def k10c6 : Code := { maxStack := 2, maxLocals := 3, code := jdk_92_method_15_code, exceptionTable := #[], attributes := #[] }
def k10m6 : Method := { name := "expandTo", desc := "(I)V", sig := { parameters := [.int], returnType := none }, accessFlags := 2, code := some k10c6 }
def k10c7 : Code := { maxStack := 4, maxLocals := 2, code := jdk_92_method_16_code, exceptionTable := #[], attributes := #[] }
def k10m7 : Method := { name := "checkRange", desc := "(II)V", sig := { parameters := [.int, .int], returnType := none }, accessFlags := 10, code := some k10c7 }
def k10c8 : Code := { maxStack := 7, maxLocals := 3, code := jdk_92_method_19_code, exceptionTable := #[], attributes := #[] }
def k10m8 : Method := { name := "set", desc := "(I)V", sig := { parameters := [.int], returnType := none }, accessFlags := 1, code := some k10c8 }
def k10c9 : Code := { maxStack := 8, maxLocals := 10, code := jdk_92_method_21_code, exceptionTable := #[], attributes := #[] }
def k10m9 : Method := { name := "set", desc := "(II)V", sig := { parameters := [.int, .int], returnType := none }, accessFlags := 1, code := some k10c9 }
def k10c10 : Code := { maxStack := 5, maxLocals := 3, code := jdk_92_method_26_code, exceptionTable := #[], attributes := #[] }
def k10m10 : Method := { name := "get", desc := "(I)Z", sig := { parameters := [.int], returnType := some .boolean }, accessFlags := 1, code := some k10c10 }
def k10c11 : Code := { maxStack := 5, maxLocals := 5, code := jdk_92_method_28_code, exceptionTable := #[], attributes := #[] }
def k10m11 : Method := { name := "nextSetBit", desc := "(I)I", sig := { parameters := [.int], returnType := some .int }, accessFlags := 1, code := some k10c11 }
def k10c12 : Code := { maxStack := 6, maxLocals := 5, code := jdk_92_method_30_code, exceptionTable := #[], attributes := #[] }
def k10m12 : Method := { name := "previousSetBit", desc := "(I)I", sig := { parameters := [.int], returnType := some .int }, accessFlags := 1, code := some k10c12 }
/-- java/util/BitSet -/
def k10 : Class := { plain "java/util/BitSet" (some 0) with
  accessFlags := 33
  interfaces := #[9, 4]
  cf := some (fileOf pool10 1 #[.nestMembers #[269]] #[{ accessFlags := 10, nameIndex := 54, descriptorIndex := 55, attributes := #[] }, { accessFlags := 2, nameIndex := 58, descriptorIndex := 20, attributes := #[] }, { accessFlags := 1, nameIndex := 19, descriptorIndex := 20, attributes := #[] }, { accessFlags := 1, nameIndex := 19, descriptorIndex := 30, attributes := #[] }, { accessFlags := 2, nameIndex := 29, descriptorIndex := 30, attributes := #[] }, { accessFlags := 2, nameIndex := 141, descriptorIndex := 30, attributes := #[] }, { accessFlags := 2, nameIndex := 157, descriptorIndex := 30, attributes := #[] }, { accessFlags := 10, nameIndex := 163, descriptorIndex := 164, attributes := #[] }, { accessFlags := 1, nameIndex := 169, descriptorIndex := 30, attributes := #[] }, { accessFlags := 1, nameIndex := 169, descriptorIndex := 164, attributes := #[] }, { accessFlags := 1, nameIndex := 80, descriptorIndex := 351, attributes := #[] }, { accessFlags := 1, nameIndex := 263, descriptorIndex := 55, attributes := #[] }, { accessFlags := 1, nameIndex := 359, descriptorIndex := 55, attributes := #[] }] 33 22 #[295, 297] #[{ accessFlags := 26, nameIndex := 299, descriptorIndex := 10, attributes := #[] }, { accessFlags := 26, nameIndex := 302, descriptorIndex := 10, attributes := #[] }, { accessFlags := 26, nameIndex := 304, descriptorIndex := 10, attributes := #[] }, { accessFlags := 26, nameIndex := 306, descriptorIndex := 307, attributes := #[] }, { accessFlags := 26, nameIndex := 293, descriptorIndex := 294, attributes := #[] }, { accessFlags := 2, nameIndex := 13, descriptorIndex := 14, attributes := #[] }, { accessFlags := 130, nameIndex := 9, descriptorIndex := 10, attributes := #[] }, { accessFlags := 130, nameIndex := 26, descriptorIndex := 6, attributes := #[] }, { accessFlags := 26, nameIndex := 308, descriptorIndex := 307, attributes := #[] }, { accessFlags := 4120, nameIndex := 5, descriptorIndex := 6, attributes := #[] }])
  fields := #[{ name := "ADDRESS_BITS_PER_WORD", type := .int, accessFlags := 26, slot := 0, constantValue := 0 }, { name := "BITS_PER_WORD", type := .int, accessFlags := 26, slot := 1, constantValue := 0 }, { name := "BIT_INDEX_MASK", type := .int, accessFlags := 26, slot := 2, constantValue := 0 }, { name := "WORD_MASK", type := .long, accessFlags := 26, slot := 3, constantValue := 0 }, { name := "serialPersistentFields", type := (.array (.object "java/io/ObjectStreamField")), accessFlags := 26, slot := 4, constantValue := 0 }, { name := "words", type := (.array .long), accessFlags := 2, slot := 0, constantValue := 0 }, { name := "wordsInUse", type := .int, accessFlags := 130, slot := 1, constantValue := 0 }, { name := "sizeIsSticky", type := .boolean, accessFlags := 130, slot := 2, constantValue := 0 }, { name := "serialVersionUID", type := .long, accessFlags := 26, slot := 5, constantValue := 0 }, { name := "$assertionsDisabled", type := .boolean, accessFlags := 4120, slot := 6, constantValue := 0 }]
  methods := #[k10m0, k10m1, k10m2, k10m3, k10m4, k10m5, k10m6, k10m7, k10m8, k10m9, k10m10, k10m11, k10m12]
  instanceTypes := #[(.array .long), .int, .boolean]
  staticTypes := #[.int, .int, .int, .long, (.array (.object "java/io/ObjectStreamField")), .long, .boolean]
  resolved := Array.replicate 417 none
  statics := some 1 }

def pool11 : Array CpInfo := pool [(2, .class_ 4), (1, u "java/lang/Object"), (0, u "<init>"), (0, u "()V"), (1, .class_ 10), (1, u "java/lang/System"), (0, u "allowSecurityManager"), (0, u "I"), (16, u "cons"), (0, u "Ljava/io/Console;"), (77, .class_ 110), (1, u "java/lang/System$CallersHolder"), (43, u "initialErrStream"), (0, u "Ljava/io/PrintStream;"), (19, u "security"), (0, u "Ljava/lang/SecurityManager;"), (31, .class_ 209), (0, u "java/lang/System$1"), (7, u "props"), (0, u "Ljava/util/Properties;"), (2, u "lineSeparator"), (0, u "Ljava/lang/String;"), (96, .class_ 321), (1, u "java/lang/System$LoggerFinder"), (5, .class_ 328), (0, u "java/lang/System$Logger"), (67, u "err"), (2, u "out"), (91, u "notSupportedJnuEncoding"), (15, u "in"), (17, u "initialIn"), (0, u "Ljava/io/InputStream;"), (35, u "bootLayer"), (0, u "Ljava/lang/ModuleLayer;"), (99, .class_ 664), (0, u "java/lang/System$2"), (9, u "NEVER"), (2, u "MAYBE"), (49, u "arraycopy"), (0, u "(Ljava/lang/Object;ILjava/lang/Object;II)V"), (72, .class_ 802), (0, u "java/lang/System$Logger$Level")] 31

def k11m0 : Method := { name := "<init>", desc := "()V", sig := { parameters := [], returnType := none }, accessFlags := 2, code := none }
def k11m1 : Method := { name := "arraycopy", desc := "(Ljava/lang/Object;ILjava/lang/Object;II)V", sig := { parameters := [(.object "java/lang/Object"), .int, (.object "java/lang/Object"), .int, .int], returnType := none }, accessFlags := 265, code := none }
/-- java/lang/System -/
def k11 : Class := { plain "java/lang/System" (some 0) with
  accessFlags := 49
  interfaces := #[]
  cf := some (fileOf pool11 8 #[.nestMembers #[319, 327, 801, 108, 663, 208]] #[{ accessFlags := 2, nameIndex := 5, descriptorIndex := 6, attributes := #[] }, { accessFlags := 265, nameIndex := 727, descriptorIndex := 728, attributes := #[] }] 49 2 #[] #[{ accessFlags := 25, nameIndex := 507, descriptorIndex := 526, attributes := #[] }, { accessFlags := 25, nameIndex := 399, descriptorIndex := 155, attributes := #[] }, { accessFlags := 25, nameIndex := 396, descriptorIndex := 155, attributes := #[] }, { accessFlags := 10, nameIndex := 525, descriptorIndex := 526, attributes := #[] }, { accessFlags := 26, nameIndex := 674, descriptorIndex := 12, attributes := #[] }, { accessFlags := 26, nameIndex := 677, descriptorIndex := 12, attributes := #[] }, { accessFlags := 10, nameIndex := 11, descriptorIndex := 12, attributes := #[] }, { accessFlags := 74, nameIndex := 175, descriptorIndex := 176, attributes := #[] }, { accessFlags := 10, nameIndex := 491, descriptorIndex := 222, attributes := #[] }, { accessFlags := 74, nameIndex := 29, descriptorIndex := 30, attributes := #[] }, { accessFlags := 74, nameIndex := 154, descriptorIndex := 155, attributes := #[] }, { accessFlags := 10, nameIndex := 217, descriptorIndex := 218, attributes := #[] }, { accessFlags := 10, nameIndex := 221, descriptorIndex := 222, attributes := #[] }, { accessFlags := 8, nameIndex := 562, descriptorIndex := 563, attributes := #[] }])
  fields := #[{ name := "in", type := (.object "java/io/InputStream"), accessFlags := 25, slot := 0, constantValue := 0 }, { name := "out", type := (.object "java/io/PrintStream"), accessFlags := 25, slot := 1, constantValue := 0 }, { name := "err", type := (.object "java/io/PrintStream"), accessFlags := 25, slot := 2, constantValue := 0 }, { name := "initialIn", type := (.object "java/io/InputStream"), accessFlags := 10, slot := 3, constantValue := 0 }, { name := "NEVER", type := .int, accessFlags := 26, slot := 4, constantValue := 0 }, { name := "MAYBE", type := .int, accessFlags := 26, slot := 5, constantValue := 0 }, { name := "allowSecurityManager", type := .int, accessFlags := 10, slot := 6, constantValue := 0 }, { name := "security", type := (.object "java/lang/SecurityManager"), accessFlags := 74, slot := 7, constantValue := 0 }, { name := "notSupportedJnuEncoding", type := (.object "java/lang/String"), accessFlags := 10, slot := 8, constantValue := 0 }, { name := "cons", type := (.object "java/io/Console"), accessFlags := 74, slot := 9, constantValue := 0 }, { name := "initialErrStream", type := (.object "java/io/PrintStream"), accessFlags := 74, slot := 10, constantValue := 0 }, { name := "props", type := (.object "java/util/Properties"), accessFlags := 10, slot := 11, constantValue := 0 }, { name := "lineSeparator", type := (.object "java/lang/String"), accessFlags := 10, slot := 12, constantValue := 0 }, { name := "bootLayer", type := (.object "java/lang/ModuleLayer"), accessFlags := 8, slot := 13, constantValue := 0 }]
  methods := #[k11m0, k11m1]
  instanceTypes := #[]
  staticTypes := #[(.object "java/io/InputStream"), (.object "java/io/PrintStream"), (.object "java/io/PrintStream"), (.object "java/io/InputStream"), .int, .int, .int, (.object "java/lang/SecurityManager"), (.object "java/lang/String"), (.object "java/io/Console"), (.object "java/io/PrintStream"), (.object "java/util/Properties"), (.object "java/lang/String"), (.object "java/lang/ModuleLayer")]
  resolved := Array.replicate 834 none
  statics := none }

def pool12 : Array CpInfo := pool [(1, .class_ 2), (0, u "java/lang/Math"), (1, .class_ 6), (1, u "java/lang/Object"), (0, u "<init>"), (0, u "()V"), (89, .class_ 100), (1, u "java/lang/Math$RandomNumberGeneratorHolder"), (71, u "negativeZeroFloatBits"), (0, u "J"), (2, u "negativeZeroDoubleBits"), (21, u "max"), (2, u "min"), (43, u "$assertionsDisabled"), (0, u "Z"), (88, u "(II)I"), (2, u "twoToTheDoubleScaleDown"), (0, u "D"), (4, u "twoToTheDoubleScaleUp"), (9, u "E"), (3, u "PI"), (2, u "TAU"), (2, u "DEGREES_TO_RADIANS"), (0, u "RADIANS_TO_DEGREES")] 94

def k12m0 : Method := { name := "<init>", desc := "()V", sig := { parameters := [], returnType := none }, accessFlags := 2, code := none }
def k12c1 : Code := { maxStack := 2, maxLocals := 2, code := jdk_29_method_65_code, exceptionTable := #[], attributes := #[] }
def k12m1 : Method := { name := "max", desc := "(II)I", sig := { parameters := [.int, .int], returnType := some .int }, accessFlags := 9, code := some k12c1 }
def k12c2 : Code := { maxStack := 2, maxLocals := 2, code := jdk_29_method_69_code, exceptionTable := #[], attributes := #[] }
def k12m2 : Method := { name := "min", desc := "(II)I", sig := { parameters := [.int, .int], returnType := some .int }, accessFlags := 9, code := some k12c2 }
/-- java/lang/Math -/
def k12 : Class := { plain "java/lang/Math" (some 0) with
  accessFlags := 49
  interfaces := #[]
  cf := some (fileOf pool12 1 #[.nestMembers #[98]] #[{ accessFlags := 2, nameIndex := 7, descriptorIndex := 8, attributes := #[] }, { accessFlags := 9, nameIndex := 198, descriptorIndex := 335, attributes := #[] }, { accessFlags := 9, nameIndex := 201, descriptorIndex := 335, attributes := #[] }] 49 4 #[] #[{ accessFlags := 25, nameIndex := 354, descriptorIndex := 339, attributes := #[] }, { accessFlags := 25, nameIndex := 358, descriptorIndex := 339, attributes := #[] }, { accessFlags := 25, nameIndex := 361, descriptorIndex := 339, attributes := #[] }, { accessFlags := 26, nameIndex := 364, descriptorIndex := 339, attributes := #[] }, { accessFlags := 26, nameIndex := 365, descriptorIndex := 339, attributes := #[] }, { accessFlags := 26, nameIndex := 172, descriptorIndex := 173, attributes := #[] }, { accessFlags := 26, nameIndex := 176, descriptorIndex := 173, attributes := #[] }, { accessFlags := 8, nameIndex := 344, descriptorIndex := 339, attributes := #[] }, { accessFlags := 8, nameIndex := 338, descriptorIndex := 339, attributes := #[] }, { accessFlags := 4120, nameIndex := 245, descriptorIndex := 246, attributes := #[] }])
  fields := #[{ name := "E", type := .double, accessFlags := 25, slot := 0, constantValue := 0 }, { name := "PI", type := .double, accessFlags := 25, slot := 1, constantValue := 0 }, { name := "TAU", type := .double, accessFlags := 25, slot := 2, constantValue := 0 }, { name := "DEGREES_TO_RADIANS", type := .double, accessFlags := 26, slot := 3, constantValue := 0 }, { name := "RADIANS_TO_DEGREES", type := .double, accessFlags := 26, slot := 4, constantValue := 0 }, { name := "negativeZeroFloatBits", type := .long, accessFlags := 26, slot := 5, constantValue := 0 }, { name := "negativeZeroDoubleBits", type := .long, accessFlags := 26, slot := 6, constantValue := 0 }, { name := "twoToTheDoubleScaleUp", type := .double, accessFlags := 8, slot := 7, constantValue := 0 }, { name := "twoToTheDoubleScaleDown", type := .double, accessFlags := 8, slot := 8, constantValue := 0 }, { name := "$assertionsDisabled", type := .boolean, accessFlags := 4120, slot := 9, constantValue := 0 }]
  methods := #[k12m0, k12m1, k12m2]
  instanceTypes := #[]
  staticTypes := #[.double, .double, .double, .double, .double, .long, .long, .double, .double, .boolean]
  resolved := Array.replicate 460 none
  statics := none }

def pool13 : Array CpInfo := pool [(2, .class_ 4), (1, u "java/lang/Object"), (0, u "<init>"), (0, u "()V"), (1, .class_ 10), (1, u "java/util/DualPivotQuicksort"), (0, u "sort"), (1, .methodref 14 15), (0, .class_ 16), (0, .nameAndType 17 18), (0, u "java/util/Arrays"), (0, u "rangeCheck"), (0, u "(III)V"), (0, .methodref 8 20), (0, .nameAndType 11 21), (0, u "([JIII)V"), (52, .class_ 76), (1, u "java/util/Arrays$NaturalOrder"), (36, .class_ 115), (1, u "java/util/Arrays$LegacyMergeSort"), (1, u "Z"), (32, .methodref 151 152), (0, .class_ 153), (0, .nameAndType 154 155), (0, u "java/lang/System"), (0, u "arraycopy"), (0, u "(Ljava/lang/Object;ILjava/lang/Object;II)V"), (146, u "copyOf"), (1, .methodref 305 306), (0, .class_ 307), (0, .nameAndType 308 309), (0, u "java/lang/Math"), (0, u "min"), (0, u "(II)I"), (65, .class_ 376), (0, u "java/util/Arrays$ArrayList"), (68, u "$assertionsDisabled"), (269, u "MIN_ARRAY_SORT_GRAN"), (0, u "I"), (2, u "INSERTIONSORT_THRESHOLD"), (12, u "([JII)V"), (139, u "([JI)[J"), (102, .class_ 976), (0, u "java/util/Arrays$ArrayItr")] 52

def k13m0 : Method := { name := "<init>", desc := "()V", sig := { parameters := [], returnType := none }, accessFlags := 2, code := none }
def k13c1 : Code := { maxStack := 4, maxLocals := 3, code := jdk_65_method_5_code, exceptionTable := #[], attributes := #[] }
def k13m1 : Method := { name := "sort", desc := "([JII)V", sig := { parameters := [(.array .long), .int, .int], returnType := none }, accessFlags := 9, code := some k13c1 }
def k13c2 : Code := { maxStack := 4, maxLocals := 3, code := jdk_65_method_30_code, exceptionTable := #[], attributes := #[] }
def k13m2 : Method := { name := "rangeCheck", desc := "(III)V", sig := { parameters := [.int, .int, .int], returnType := none }, accessFlags := 8, code := some k13c2 }
def k13c3 : Code := { maxStack := 6, maxLocals := 3, code := jdk_65_method_124_code, exceptionTable := #[], attributes := #[] }
def k13m3 : Method := { name := "copyOf", desc := "([JI)[J", sig := { parameters := [(.array .long), .int], returnType := some (.array .long) }, accessFlags := 9, code := some k13c3 }
/-- java/util/Arrays -/
def k13 : Class := { plain "java/util/Arrays" (some 0) with
  accessFlags := 49
  interfaces := #[]
  cf := some (fileOf pool13 14 #[.nestMembers #[975, 375, 113, 74]] #[{ accessFlags := 2, nameIndex := 5, descriptorIndex := 6, attributes := #[] }, { accessFlags := 9, nameIndex := 11, descriptorIndex := 732, attributes := #[] }, { accessFlags := 8, nameIndex := 17, descriptorIndex := 18, attributes := #[] }, { accessFlags := 9, nameIndex := 302, descriptorIndex := 872, attributes := #[] }] 49 2 #[] #[{ accessFlags := 26, nameIndex := 715, descriptorIndex := 716, attributes := #[] }, { accessFlags := 26, nameIndex := 719, descriptorIndex := 716, attributes := #[] }, { accessFlags := 4120, nameIndex := 445, descriptorIndex := 117, attributes := #[] }])
  fields := #[{ name := "MIN_ARRAY_SORT_GRAN", type := .int, accessFlags := 26, slot := 0, constantValue := 0 }, { name := "INSERTIONSORT_THRESHOLD", type := .int, accessFlags := 26, slot := 1, constantValue := 0 }, { name := "$assertionsDisabled", type := .boolean, accessFlags := 4120, slot := 2, constantValue := 0 }]
  methods := #[k13m0, k13m1, k13m2, k13m3]
  instanceTypes := #[]
  staticTypes := #[.int, .int, .boolean]
  resolved := Array.replicate 1029 none
  statics := none }

def pool14 : Array CpInfo := pool [(2, .class_ 4), (1, u "java/lang/CharSequence"), (42, .class_ 48), (0, u "java/lang/CharSequence$1CodePointIterator"), (10, .class_ 60), (0, u "java/lang/CharSequence$1CharIterator"), (5, .class_ 67), (0, u "java/lang/Object")] 63

/-- java/lang/CharSequence -/
def k14 : Class := { plain "java/lang/CharSequence" (some 0) with
  accessFlags := 1537
  interfaces := #[]
  cf := some (fileOf pool14 2 #[.nestMembers #[47, 59]] #[] 1537 66 #[] #[])
  fields := #[]
  methods := #[]
  instanceTypes := #[]
  staticTypes := #[]
  resolved := Array.replicate 131 none
  statics := none }

def pool15 : Array CpInfo := pool [(1, .class_ 2), (0, u "java/lang/constant/ConstantDesc"), (0, .class_ 4), (0, u "java/lang/Object")] 32

/-- java/lang/constant/ConstantDesc -/
def k15 : Class := { plain "java/lang/constant/ConstantDesc" (some 0) with
  accessFlags := 1537
  interfaces := #[]
  cf := some (fileOf pool15 1 #[] #[] 1537 3 #[] #[])
  fields := #[]
  methods := #[]
  instanceTypes := #[]
  staticTypes := #[]
  resolved := Array.replicate 37 none
  statics := none }

def pool16 : Array CpInfo := pool [(2, .class_ 4), (1, u "java/lang/Object"), (0, u "<init>"), (0, u "()V"), (2, .fieldref 10 11), (0, .class_ 12), (0, .nameAndType 13 14), (0, u "java/lang/String"), (0, u "value"), (0, u "[B"), (0, .fieldref 10 16), (0, .nameAndType 17 18), (0, u "coder"), (0, u "B"), (2, u "hash"), (0, u "I"), (2, u "hashIsZero"), (0, u "Z"), (11, .fieldref 10 39), (0, .nameAndType 40 26), (0, u "COMPACT_STRINGS"), (66, .class_ 109), (1, u "java/lang/StringLatin1"), (32, u "()Z"), (191, u "()I"), (0, .methodref 10 336), (0, .nameAndType 17 337), (0, u "()B"), (25, u "([BI)C"), (27, u "(II)V"), (35, u "(I)C"), (64, .methodref 10 493), (0, .nameAndType 494 142), (0, u "isLatin1"), (0, .methodref 107 496), (0, .nameAndType 497 363), (0, u "charAt"), (3, u "checkIndex"), (5, u "length"), (67, .class_ 576), (0, u "java/lang/CharSequence"), (22, u "CASE_INSENSITIVE_ORDER"), (0, u "Ljava/util/Comparator;"), (452, .fieldref 1054 1055), (0, .class_ 1056), (0, .nameAndType 1057 1058), (0, u "jdk/internal/util/Preconditions"), (0, u "SIOOBE_FORMATTER"), (0, u "Ljava/util/function/BiFunction;"), (0, .methodref 1054 1060), (0, .nameAndType 501 1061), (0, u "(IILjava/util/function/BiFunction;)I"), (39, u "serialPersistentFields"), (0, u "[Ljava/io/ObjectStreamField;"), (0, .class_ 1104), (0, u "java/lang/String$CaseInsensitiveComparator"), (1, .class_ 1107), (0, u "java/io/Serializable"), (0, .class_ 1109), (0, u "java/lang/Comparable"), (0, .class_ 1111), (0, u "java/lang/constant/Constable"), (0, .class_ 1113), (0, u "java/lang/constant/ConstantDesc"), (2, u "serialVersionUID"), (0, u "J"), (3, u "REPL"), (0, u "C"), (2, u "LATIN1"), (1, u "UTF16")] 323

def k16m0 : Method := { name := "<init>", desc := "()V", sig := { parameters := [], returnType := none }, accessFlags := 1, code := none }
def k16c1 : Code := { maxStack := 2, maxLocals := 1, code := jdk_42_method_54_code, exceptionTable := #[], attributes := #[] }
def k16m1 : Method := { name := "length", desc := "()I", sig := { parameters := [], returnType := some .int }, accessFlags := 1, code := some k16c1 }
def k16c2 : Code := { maxStack := 2, maxLocals := 2, code := jdk_42_method_56_code, exceptionTable := #[], attributes := #[] }
def k16m2 : Method := { name := "charAt", desc := "(I)C", sig := { parameters := [.int], returnType := some .char }, accessFlags := 1, code := some k16c2 }
def k16c3 : Code := { maxStack := 1, maxLocals := 1, code := jdk_42_method_152_code, exceptionTable := #[], attributes := #[] }
def k16m3 : Method := { name := "coder", desc := "()B", sig := { parameters := [], returnType := some .byte }, accessFlags := 0, code := some k16c3 }
def k16c4 : Code := { maxStack := 1, maxLocals := 1, code := jdk_42_method_154_code, exceptionTable := #[], attributes := #[] }
def k16m4 : Method := { name := "isLatin1", desc := "()Z", sig := { parameters := [], returnType := some .boolean }, accessFlags := 0, code := some k16c4 }
def k16c5 : Code := { maxStack := 3, maxLocals := 2, code := jdk_42_method_155_code, exceptionTable := #[], attributes := #[] }
def k16m5 : Method := { name := "checkIndex", desc := "(II)V", sig := { parameters := [.int, .int], returnType := none }, accessFlags := 8, code := some k16c5 }
/-- java/lang/String -/
def k16 : Class := { plain "java/lang/String" (some 0) with
  accessFlags := 49
  interfaces := #[4, 3, 14, 2, 15]
  cf := some (fileOf pool16 10 #[.nestMembers #[1103]] #[{ accessFlags := 1, nameIndex := 5, descriptorIndex := 6, attributes := #[] }, { accessFlags := 1, nameIndex := 507, descriptorIndex := 334, attributes := #[] }, { accessFlags := 1, nameIndex := 497, descriptorIndex := 427, attributes := #[] }, { accessFlags := 0, nameIndex := 17, descriptorIndex := 337, attributes := #[] }, { accessFlags := 0, nameIndex := 494, descriptorIndex := 142, attributes := #[] }, { accessFlags := 8, nameIndex := 501, descriptorIndex := 391, attributes := #[] }] 49 2 #[1106, 1108, 575, 1110, 1112] #[{ accessFlags := 18, nameIndex := 13, descriptorIndex := 14, attributes := #[] }, { accessFlags := 18, nameIndex := 17, descriptorIndex := 18, attributes := #[] }, { accessFlags := 2, nameIndex := 21, descriptorIndex := 22, attributes := #[] }, { accessFlags := 2, nameIndex := 25, descriptorIndex := 26, attributes := #[] }, { accessFlags := 26, nameIndex := 1116, descriptorIndex := 1117, attributes := #[] }, { accessFlags := 24, nameIndex := 40, descriptorIndex := 26, attributes := #[] }, { accessFlags := 26, nameIndex := 1101, descriptorIndex := 1102, attributes := #[] }, { accessFlags := 26, nameIndex := 1121, descriptorIndex := 1122, attributes := #[] }, { accessFlags := 25, nameIndex := 599, descriptorIndex := 600, attributes := #[] }, { accessFlags := 24, nameIndex := 1125, descriptorIndex := 18, attributes := #[] }, { accessFlags := 24, nameIndex := 1127, descriptorIndex := 18, attributes := #[] }])
  fields := #[{ name := "value", type := (.array .byte), accessFlags := 18, slot := 0, constantValue := 0 }, { name := "coder", type := .byte, accessFlags := 18, slot := 1, constantValue := 0 }, { name := "hash", type := .int, accessFlags := 2, slot := 2, constantValue := 0 }, { name := "hashIsZero", type := .boolean, accessFlags := 2, slot := 3, constantValue := 0 }, { name := "serialVersionUID", type := .long, accessFlags := 26, slot := 0, constantValue := 0 }, { name := "COMPACT_STRINGS", type := .boolean, accessFlags := 24, slot := 1, constantValue := 0 }, { name := "serialPersistentFields", type := (.array (.object "java/io/ObjectStreamField")), accessFlags := 26, slot := 2, constantValue := 0 }, { name := "REPL", type := .char, accessFlags := 26, slot := 3, constantValue := 0 }, { name := "CASE_INSENSITIVE_ORDER", type := (.object "java/util/Comparator"), accessFlags := 25, slot := 4, constantValue := 0 }, { name := "LATIN1", type := .byte, accessFlags := 24, slot := 5, constantValue := 0 }, { name := "UTF16", type := .byte, accessFlags := 24, slot := 6, constantValue := 0 }]
  methods := #[k16m0, k16m1, k16m2, k16m3, k16m4, k16m5]
  instanceTypes := #[(.array .byte), .byte, .int, .boolean]
  staticTypes := #[.long, .boolean, (.array (.object "java/io/ObjectStreamField")), .char, (.object "java/util/Comparator"), .byte, .byte]
  resolved := Array.replicate 1451 none
  statics := some 2 }

def pool17 : Array CpInfo := pool [(1, .class_ 2), (0, u "java/lang/String"), (1, .class_ 6), (1, u "java/lang/Object"), (0, u "<init>"), (0, u "()V"), (0, .methodref 1 10), (0, .nameAndType 11 12), (0, u "checkIndex"), (0, u "(II)V"), (1, .class_ 16), (1, u "java/lang/StringLatin1"), (36, u "([BI)C"), (67, u "$assertionsDisabled"), (0, u "Z"), (98, .class_ 223), (1, u "java/lang/StringLatin1$LinesSpliterator"), (28, u "charAt"), (137, .class_ 391), (0, u "java/lang/StringLatin1$CharsSpliterator")] 3

def k17m0 : Method := { name := "<init>", desc := "()V", sig := { parameters := [], returnType := none }, accessFlags := 0, code := none }
def k17c1 : Code := { maxStack := 2, maxLocals := 2, code := jdk_43_method_2_code, exceptionTable := #[], attributes := #[] }
def k17m1 : Method := { name := "charAt", desc := "([BI)C", sig := { parameters := [(.array .byte), .int], returnType := some .char }, accessFlags := 9, code := some k17c1 }
/-- java/lang/StringLatin1 -/
def k17 : Class := { plain "java/lang/StringLatin1" (some 0) with
  accessFlags := 48
  interfaces := #[]
  cf := some (fileOf pool17 14 #[.nestMembers #[390, 221]] #[{ accessFlags := 0, nameIndex := 7, descriptorIndex := 8, attributes := #[] }, { accessFlags := 9, nameIndex := 252, descriptorIndex := 53, attributes := #[] }] 48 4 #[] #[{ accessFlags := 4120, nameIndex := 121, descriptorIndex := 122, attributes := #[] }])
  fields := #[{ name := "$assertionsDisabled", type := .boolean, accessFlags := 4120, slot := 0, constantValue := 0 }]
  methods := #[k17m0, k17m1]
  instanceTypes := #[]
  staticTypes := #[.boolean]
  resolved := Array.replicate 395 none
  statics := none }

def pool18 : Array CpInfo := pool [(2, .class_ 4), (1, u "java/lang/Object"), (0, u "<init>"), (0, u "()V"), (17, .class_ 26), (1, u "jdk/internal/util/Preconditions"), (6, u "checkIndex"), (21, .class_ 56), (0, u "jdk/internal/util/Preconditions$4"), (57, .class_ 115), (0, u "jdk/internal/util/Preconditions$1"), (7, u "SIOOBE_FORMATTER"), (0, u "Ljava/util/function/BiFunction;"), (0, .class_ 126), (0, u "jdk/internal/util/Preconditions$2"), (3, u "AIOOBE_FORMATTER"), (0, .class_ 132), (0, u "jdk/internal/util/Preconditions$3"), (3, u "IOOBE_FORMATTER"), (41, u "(IILjava/util/function/BiFunction;)I")] 15

def k18m0 : Method := { name := "<init>", desc := "()V", sig := { parameters := [], returnType := none }, accessFlags := 1, code := none }
def k18c1 : Code := { maxStack := 3, maxLocals := 3, code := jdk_41_method_11_code, exceptionTable := #[], attributes := #[] }
def k18m1 : Method := { name := "checkIndex", desc := "(IILjava/util/function/BiFunction;)I", sig := { parameters := [.int, .int, (.object "java/util/function/BiFunction")], returnType := some .int }, accessFlags := 9, code := some k18c1 }
/-- jdk/internal/util/Preconditions -/
def k18 : Class := { plain "jdk/internal/util/Preconditions" (some 0) with
  accessFlags := 33
  interfaces := #[]
  cf := some (fileOf pool18 24 #[.nestMembers #[55, 131, 125, 114]] #[{ accessFlags := 1, nameIndex := 5, descriptorIndex := 6, attributes := #[] }, { accessFlags := 9, nameIndex := 33, descriptorIndex := 178, attributes := #[] }] 33 2 #[] #[{ accessFlags := 25, nameIndex := 123, descriptorIndex := 124, attributes := #[] }, { accessFlags := 25, nameIndex := 130, descriptorIndex := 124, attributes := #[] }, { accessFlags := 25, nameIndex := 136, descriptorIndex := 124, attributes := #[] }])
  fields := #[{ name := "SIOOBE_FORMATTER", type := (.object "java/util/function/BiFunction"), accessFlags := 25, slot := 0, constantValue := 0 }, { name := "AIOOBE_FORMATTER", type := (.object "java/util/function/BiFunction"), accessFlags := 25, slot := 1, constantValue := 0 }, { name := "IOOBE_FORMATTER", type := (.object "java/util/function/BiFunction"), accessFlags := 25, slot := 2, constantValue := 0 }]
  methods := #[k18m0, k18m1]
  instanceTypes := #[]
  staticTypes := #[(.object "java/util/function/BiFunction"), (.object "java/util/function/BiFunction"), (.object "java/util/function/BiFunction")]
  resolved := Array.replicate 194 none
  statics := some 3 }

def pool19 : Array CpInfo := pool [(2, .class_ 4), (1, u "java/lang/Object"), (0, u "<init>"), (0, u "()V"), (1, .class_ 10), (1, u "java/lang/Number"), (2, .class_ 14), (0, u "java/io/Serializable"), (0, u "serialVersionUID"), (0, u "J")] 20

def k19m0 : Method := { name := "<init>", desc := "()V", sig := { parameters := [], returnType := none }, accessFlags := 1, code := none }
/-- java/lang/Number -/
def k19 : Class := { plain "java/lang/Number" (some 0) with
  accessFlags := 1057
  interfaces := #[4]
  cf := some (fileOf pool19 8 #[] #[{ accessFlags := 1, nameIndex := 5, descriptorIndex := 6, attributes := #[] }] 1057 2 #[13] #[{ accessFlags := 26, nameIndex := 15, descriptorIndex := 16, attributes := #[] }])
  fields := #[{ name := "serialVersionUID", type := .long, accessFlags := 26, slot := 0, constantValue := 0 }]
  methods := #[k19m0]
  instanceTypes := #[]
  staticTypes := #[.long]
  resolved := Array.replicate 37 none
  statics := none }

def pool20 : Array CpInfo := pool [(1, .class_ 2), (0, u "java/lang/Long"), (15, .class_ 20), (1, u "java/lang/Integer"), (79, u "numberOfLeadingZeros"), (0, u "(J)I"), (133, .class_ 237), (1, u "java/lang/Long$LongCache"), (33, .class_ 272), (0, u "java/lang/Number"), (2, u "value"), (0, u "J"), (31, .methodref 18 309), (0, .nameAndType 100 310), (0, u "(I)I"), (0, .methodref 18 312), (0, .nameAndType 313 310), (0, u "numberOfTrailingZeros"), (47, u "TYPE"), (0, u "Ljava/lang/Class;"), (0, .class_ 364), (0, u "java/lang/Comparable"), (0, .class_ 366), (0, u "java/lang/constant/Constable"), (0, .class_ 368), (0, u "java/lang/constant/ConstantDesc"), (0, u "MIN_VALUE"), (1, u "MAX_VALUE"), (4, u "SIZE"), (0, u "I"), (1, u "BYTES"), (1, u "serialVersionUID")] 142

def k20c0 : Code := { maxStack := 3, maxLocals := 3, code := jdk_35_method_48_code, exceptionTable := #[], attributes := #[] }
def k20m0 : Method := { name := "numberOfLeadingZeros", desc := "(J)I", sig := { parameters := [.long], returnType := some .int }, accessFlags := 9, code := some k20c0 }
def k20c1 : Code := { maxStack := 4, maxLocals := 3, code := jdk_35_method_49_code, exceptionTable := #[], attributes := #[] }
def k20m1 : Method := { name := "numberOfTrailingZeros", desc := "(J)I", sig := { parameters := [.long], returnType := some .int }, accessFlags := 9, code := some k20c1 }
/-- java/lang/Long -/
def k20 : Class := { plain "java/lang/Long" (some 19) with
  accessFlags := 49
  interfaces := #[3, 2, 15]
  cf := some (fileOf pool20 1 #[.nestMembers #[235]] #[{ accessFlags := 9, nameIndex := 100, descriptorIndex := 101, attributes := #[] }, { accessFlags := 9, nameIndex := 313, descriptorIndex := 101, attributes := #[] }] 49 271 #[363, 365, 367] #[{ accessFlags := 25, nameIndex := 369, descriptorIndex := 276, attributes := #[] }, { accessFlags := 25, nameIndex := 371, descriptorIndex := 276, attributes := #[] }, { accessFlags := 25, nameIndex := 361, descriptorIndex := 362, attributes := #[] }, { accessFlags := 18, nameIndex := 275, descriptorIndex := 276, attributes := #[] }, { accessFlags := 25, nameIndex := 376, descriptorIndex := 377, attributes := #[] }, { accessFlags := 25, nameIndex := 379, descriptorIndex := 377, attributes := #[] }, { accessFlags := 26, nameIndex := 381, descriptorIndex := 276, attributes := #[] }])
  fields := #[{ name := "MIN_VALUE", type := .long, accessFlags := 25, slot := 0, constantValue := 0 }, { name := "MAX_VALUE", type := .long, accessFlags := 25, slot := 1, constantValue := 0 }, { name := "TYPE", type := (.object "java/lang/Class"), accessFlags := 25, slot := 2, constantValue := 0 }, { name := "value", type := .long, accessFlags := 18, slot := 0, constantValue := 0 }, { name := "SIZE", type := .int, accessFlags := 25, slot := 3, constantValue := 0 }, { name := "BYTES", type := .int, accessFlags := 25, slot := 4, constantValue := 0 }, { name := "serialVersionUID", type := .long, accessFlags := 26, slot := 5, constantValue := 0 }]
  methods := #[k20m0, k20m1]
  instanceTypes := #[.long]
  staticTypes := #[.long, .long, (.object "java/lang/Class"), .int, .int, .long]
  resolved := Array.replicate 524 none
  statics := none }

def pool21 : Array CpInfo := pool [(1, .class_ 2), (0, u "java/lang/Integer"), (16, u "digits"), (0, u "[C"), (32, u "numberOfLeadingZeros"), (0, u "(I)I"), (30, u "DigitOnes"), (0, u "[B"), (2, u "DigitTens"), (99, .class_ 190), (0, u "java/lang/Integer$IntegerCache"), (3, u "I"), (8, .class_ 204), (0, u "java/lang/Number"), (2, u "value"), (56, .integer 65536), (37, u "TYPE"), (0, u "Ljava/lang/Class;"), (0, .class_ 305), (0, u "java/lang/Comparable"), (0, .class_ 307), (0, u "java/lang/constant/Constable"), (0, .class_ 309), (0, u "java/lang/constant/ConstantDesc"), (0, u "MIN_VALUE"), (1, u "MAX_VALUE"), (3, u "SIZE"), (1, u "BYTES"), (1, u "serialVersionUID"), (0, u "J"), (84, u "numberOfTrailingZeros")] 46

def k21c0 : Code := { maxStack := 3, maxLocals := 2, code := jdk_33_method_47_code, exceptionTable := #[], attributes := #[] }
def k21m0 : Method := { name := "numberOfLeadingZeros", desc := "(I)I", sig := { parameters := [.int], returnType := some .int }, accessFlags := 9, code := some k21c0 }
def k21c1 : Code := { maxStack := 3, maxLocals := 2, code := jdk_33_method_48_code, exceptionTable := #[], attributes := #[] }
def k21m1 : Method := { name := "numberOfTrailingZeros", desc := "(I)I", sig := { parameters := [.int], returnType := some .int }, accessFlags := 9, code := some k21c1 }
/-- java/lang/Integer -/
def k21 : Class := { plain "java/lang/Integer" (some 19) with
  accessFlags := 49
  interfaces := #[3, 2, 15]
  cf := some (fileOf pool21 1 #[.nestMembers #[189]] #[{ accessFlags := 9, nameIndex := 53, descriptorIndex := 54, attributes := #[] }, { accessFlags := 9, nameIndex := 406, descriptorIndex := 54, attributes := #[] }] 49 203 #[304, 306, 308] #[{ accessFlags := 25, nameIndex := 310, descriptorIndex := 194, attributes := #[] }, { accessFlags := 25, nameIndex := 312, descriptorIndex := 194, attributes := #[] }, { accessFlags := 25, nameIndex := 302, descriptorIndex := 303, attributes := #[] }, { accessFlags := 24, nameIndex := 19, descriptorIndex := 20, attributes := #[] }, { accessFlags := 24, nameIndex := 89, descriptorIndex := 86, attributes := #[] }, { accessFlags := 24, nameIndex := 85, descriptorIndex := 86, attributes := #[] }, { accessFlags := 18, nameIndex := 207, descriptorIndex := 194, attributes := #[] }, { accessFlags := 25, nameIndex := 316, descriptorIndex := 194, attributes := #[] }, { accessFlags := 25, nameIndex := 318, descriptorIndex := 194, attributes := #[] }, { accessFlags := 26, nameIndex := 320, descriptorIndex := 321, attributes := #[] }])
  fields := #[{ name := "MIN_VALUE", type := .int, accessFlags := 25, slot := 0, constantValue := 0 }, { name := "MAX_VALUE", type := .int, accessFlags := 25, slot := 1, constantValue := 0 }, { name := "TYPE", type := (.object "java/lang/Class"), accessFlags := 25, slot := 2, constantValue := 0 }, { name := "digits", type := (.array .char), accessFlags := 24, slot := 3, constantValue := 0 }, { name := "DigitTens", type := (.array .byte), accessFlags := 24, slot := 4, constantValue := 0 }, { name := "DigitOnes", type := (.array .byte), accessFlags := 24, slot := 5, constantValue := 0 }, { name := "value", type := .int, accessFlags := 18, slot := 0, constantValue := 0 }, { name := "SIZE", type := .int, accessFlags := 25, slot := 6, constantValue := 0 }, { name := "BYTES", type := .int, accessFlags := 25, slot := 7, constantValue := 0 }, { name := "serialVersionUID", type := .long, accessFlags := 26, slot := 8, constantValue := 0 }]
  methods := #[k21m0, k21m1]
  instanceTypes := #[.int]
  staticTypes := #[.int, .int, (.object "java/lang/Class"), (.array .char), (.array .byte), (.array .byte), .int, .int, .long]
  resolved := Array.replicate 453 none
  statics := none }

def pool22 : Array CpInfo := pool [(1, .class_ 2), (0, u "java/util/DualPivotQuicksort"), (5, .class_ 10), (1, u "java/lang/Object"), (0, u "<init>"), (0, u "()V"), (4, .class_ 18), (0, u "java/util/DualPivotQuicksort$Sorter"), (9, u "sort"), (7, u "insertionSort"), (31, u "I"), (4, .class_ 74), (0, u "java/util/DualPivotQuicksort$RunMerger"), (10, .class_ 86), (0, u "java/util/DualPivotQuicksort$Merger"), (12, .methodref 1 100), (0, .nameAndType 28 101), (0, u "(Ljava/util/DualPivotQuicksort$Sorter;[JIII)V"), (2, u "([JIII)V"), (0, .methodref 1 106), (0, .nameAndType 36 107), (0, u "([JII)V"), (106, u "MAX_MIXED_INSERTION_SORT_SIZE"), (2, u "MAX_INSERTION_SORT_SIZE"), (1, u "MIN_PARALLEL_SORT_SIZE"), (1, u "MIN_TRY_MERGE_SIZE"), (0, u "MIN_FIRST_RUN_SIZE"), (1, u "MIN_FIRST_RUNS_FACTOR"), (1, u "MAX_RUN_CAPACITY"), (1, u "MIN_RUN_COUNT"), (1, u "MIN_PARALLEL_MERGE_PARTS_SIZE"), (0, u "MIN_BYTE_COUNTING_SORT_SIZE"), (1, u "MIN_SHORT_OR_CHAR_COUNTING_SORT_SIZE"), (1, u "DELTA"), (1, u "MAX_RECURSION_DEPTH"), (1, u "NUM_BYTE_VALUES"), (1, u "MAX_BYTE_INDEX"), (0, u "NUM_CHAR_VALUES"), (0, u "NUM_SHORT_VALUES"), (0, u "MAX_SHORT_INDEX")] 86

def k22m0 : Method := { name := "<init>", desc := "()V", sig := { parameters := [], returnType := none }, accessFlags := 2, code := none }
def k22c1 : Code := { maxStack := 9, maxLocals := 7, code := jdk_2529_method_12_code, exceptionTable := #[], attributes := #[] }
def k22m1 : Method := { name := "sort", desc := "([JIII)V", sig := { parameters := [(.array .long), .int, .int, .int], returnType := none }, accessFlags := 8, code := some k22c1 }
def k22c2 : Code := { maxStack := 6, maxLocals := 25, code := jdk_2529_method_13_code, exceptionTable := #[], attributes := #[] }
def k22m2 : Method := { name := "sort", desc := "(Ljava/util/DualPivotQuicksort$Sorter;[JIII)V", sig := { parameters := [(.object "java/util/DualPivotQuicksort$Sorter"), (.array .long), .int, .int, .int], returnType := none }, accessFlags := 8, code := some k22c2 }
def k22c3 : Code := { maxStack := 5, maxLocals := 7, code := jdk_2529_method_15_code, exceptionTable := #[], attributes := #[] }
def k22m3 : Method := { name := "insertionSort", desc := "([JII)V", sig := { parameters := [(.array .long), .int, .int], returnType := none }, accessFlags := 10, code := some k22c3 }
/-- java/util/DualPivotQuicksort -/
def k22 : Class := { plain "java/util/DualPivotQuicksort" (some 0) with
  accessFlags := 48
  interfaces := #[]
  cf := some (fileOf pool22 1 #[.nestMembers #[73, 85, 17]] #[{ accessFlags := 2, nameIndex := 11, descriptorIndex := 12, attributes := #[] }, { accessFlags := 8, nameIndex := 28, descriptorIndex := 104, attributes := #[] }, { accessFlags := 8, nameIndex := 28, descriptorIndex := 101, attributes := #[] }, { accessFlags := 10, nameIndex := 36, descriptorIndex := 107, attributes := #[] }] 48 8 #[] #[{ accessFlags := 26, nameIndex := 214, descriptorIndex := 68, attributes := #[] }, { accessFlags := 26, nameIndex := 217, descriptorIndex := 68, attributes := #[] }, { accessFlags := 26, nameIndex := 219, descriptorIndex := 68, attributes := #[] }, { accessFlags := 26, nameIndex := 221, descriptorIndex := 68, attributes := #[] }, { accessFlags := 26, nameIndex := 222, descriptorIndex := 68, attributes := #[] }, { accessFlags := 26, nameIndex := 224, descriptorIndex := 68, attributes := #[] }, { accessFlags := 26, nameIndex := 226, descriptorIndex := 68, attributes := #[] }, { accessFlags := 26, nameIndex := 228, descriptorIndex := 68, attributes := #[] }, { accessFlags := 26, nameIndex := 230, descriptorIndex := 68, attributes := #[] }, { accessFlags := 26, nameIndex := 231, descriptorIndex := 68, attributes := #[] }, { accessFlags := 26, nameIndex := 233, descriptorIndex := 68, attributes := #[] }, { accessFlags := 26, nameIndex := 235, descriptorIndex := 68, attributes := #[] }, { accessFlags := 26, nameIndex := 237, descriptorIndex := 68, attributes := #[] }, { accessFlags := 26, nameIndex := 239, descriptorIndex := 68, attributes := #[] }, { accessFlags := 26, nameIndex := 241, descriptorIndex := 68, attributes := #[] }, { accessFlags := 26, nameIndex := 242, descriptorIndex := 68, attributes := #[] }, { accessFlags := 26, nameIndex := 243, descriptorIndex := 68, attributes := #[] }, { accessFlags := 26, nameIndex := 244, descriptorIndex := 68, attributes := #[] }])
  fields := #[{ name := "MAX_MIXED_INSERTION_SORT_SIZE", type := .int, accessFlags := 26, slot := 0, constantValue := 0 }, { name := "MAX_INSERTION_SORT_SIZE", type := .int, accessFlags := 26, slot := 1, constantValue := 0 }, { name := "MIN_PARALLEL_SORT_SIZE", type := .int, accessFlags := 26, slot := 2, constantValue := 0 }, { name := "MIN_TRY_MERGE_SIZE", type := .int, accessFlags := 26, slot := 3, constantValue := 0 }, { name := "MIN_FIRST_RUN_SIZE", type := .int, accessFlags := 26, slot := 4, constantValue := 0 }, { name := "MIN_FIRST_RUNS_FACTOR", type := .int, accessFlags := 26, slot := 5, constantValue := 0 }, { name := "MAX_RUN_CAPACITY", type := .int, accessFlags := 26, slot := 6, constantValue := 0 }, { name := "MIN_RUN_COUNT", type := .int, accessFlags := 26, slot := 7, constantValue := 0 }, { name := "MIN_PARALLEL_MERGE_PARTS_SIZE", type := .int, accessFlags := 26, slot := 8, constantValue := 0 }, { name := "MIN_BYTE_COUNTING_SORT_SIZE", type := .int, accessFlags := 26, slot := 9, constantValue := 0 }, { name := "MIN_SHORT_OR_CHAR_COUNTING_SORT_SIZE", type := .int, accessFlags := 26, slot := 10, constantValue := 0 }, { name := "DELTA", type := .int, accessFlags := 26, slot := 11, constantValue := 0 }, { name := "MAX_RECURSION_DEPTH", type := .int, accessFlags := 26, slot := 12, constantValue := 0 }, { name := "NUM_BYTE_VALUES", type := .int, accessFlags := 26, slot := 13, constantValue := 0 }, { name := "MAX_BYTE_INDEX", type := .int, accessFlags := 26, slot := 14, constantValue := 0 }, { name := "NUM_CHAR_VALUES", type := .int, accessFlags := 26, slot := 15, constantValue := 0 }, { name := "NUM_SHORT_VALUES", type := .int, accessFlags := 26, slot := 16, constantValue := 0 }, { name := "MAX_SHORT_INDEX", type := .int, accessFlags := 26, slot := 17, constantValue := 0 }]
  methods := #[k22m0, k22m1, k22m2, k22m3]
  instanceTypes := #[]
  staticTypes := #[.int, .int, .int, .int, .int, .int, .int, .int, .int, .int, .int, .int, .int, .int, .int, .int, .int, .int]
  resolved := Array.replicate 331 none
  statics := none }

def pool23 : Array CpInfo := pool [(9, u "<init>"), (6, .class_ 18), (1, u "java/lang/Object"), (0, u "()V"), (1, .class_ 23), (1, u "jdk/internal/util/ArraysSupport"), (0, u "LOG2_ARRAY_LONG_INDEX_SCALE"), (0, u "I"), (2, u "U"), (0, u "Ljdk/internal/misc/Unsafe;"), (8, u "BIG_ENDIAN"), (0, u "Z"), (8, u "LOG2_BYTE_BIT_SIZE"), (4, u "LOG2_ARRAY_INT_INDEX_SCALE"), (54, u "JLA"), (0, u "Ljdk/internal/access/JavaLangAccess;"), (11, u "LOG2_ARRAY_BOOLEAN_INDEX_SCALE"), (9, u "LOG2_ARRAY_BYTE_INDEX_SCALE"), (5, u "LOG2_ARRAY_CHAR_INDEX_SCALE"), (5, u "LOG2_ARRAY_SHORT_INDEX_SCALE"), (18, u "LOG2_ARRAY_FLOAT_INDEX_SCALE"), (24, u "LOG2_ARRAY_DOUBLE_INDEX_SCALE"), (89, u "T_BOOLEAN"), (2, u "T_CHAR"), (1, u "T_FLOAT"), (1, u "T_DOUBLE"), (1, u "T_BYTE"), (1, u "T_SHORT"), (1, u "T_INT"), (1, u "T_LONG"), (1, u "SOFT_MAX_ARRAY_LENGTH")] 83

def k23m0 : Method := { name := "<init>", desc := "()V", sig := { parameters := [], returnType := none }, accessFlags := 2, code := none }
/-- jdk/internal/util/ArraysSupport -/
def k23 : Class := { plain "jdk/internal/util/ArraysSupport" (some 0) with
  accessFlags := 33
  interfaces := #[]
  cf := some (fileOf pool23 21 #[] #[{ accessFlags := 2, nameIndex := 9, descriptorIndex := 19, attributes := #[] }] 33 16 #[] #[{ accessFlags := 24, nameIndex := 28, descriptorIndex := 29, attributes := #[] }, { accessFlags := 26, nameIndex := 38, descriptorIndex := 39, attributes := #[] }, { accessFlags := 25, nameIndex := 121, descriptorIndex := 25, attributes := #[] }, { accessFlags := 25, nameIndex := 131, descriptorIndex := 25, attributes := #[] }, { accessFlags := 25, nameIndex := 137, descriptorIndex := 25, attributes := #[] }, { accessFlags := 25, nameIndex := 143, descriptorIndex := 25, attributes := #[] }, { accessFlags := 25, nameIndex := 53, descriptorIndex := 25, attributes := #[] }, { accessFlags := 25, nameIndex := 24, descriptorIndex := 25, attributes := #[] }, { accessFlags := 25, nameIndex := 162, descriptorIndex := 25, attributes := #[] }, { accessFlags := 25, nameIndex := 187, descriptorIndex := 25, attributes := #[] }, { accessFlags := 26, nameIndex := 48, descriptorIndex := 25, attributes := #[] }, { accessFlags := 25, nameIndex := 277, descriptorIndex := 25, attributes := #[] }, { accessFlags := 25, nameIndex := 280, descriptorIndex := 25, attributes := #[] }, { accessFlags := 25, nameIndex := 282, descriptorIndex := 25, attributes := #[] }, { accessFlags := 25, nameIndex := 284, descriptorIndex := 25, attributes := #[] }, { accessFlags := 25, nameIndex := 286, descriptorIndex := 25, attributes := #[] }, { accessFlags := 25, nameIndex := 288, descriptorIndex := 25, attributes := #[] }, { accessFlags := 25, nameIndex := 290, descriptorIndex := 25, attributes := #[] }, { accessFlags := 25, nameIndex := 292, descriptorIndex := 25, attributes := #[] }, { accessFlags := 26, nameIndex := 108, descriptorIndex := 109, attributes := #[] }, { accessFlags := 25, nameIndex := 294, descriptorIndex := 25, attributes := #[] }])
  fields := #[{ name := "U", type := (.object "jdk/internal/misc/Unsafe"), accessFlags := 24, slot := 0, constantValue := 0 }, { name := "BIG_ENDIAN", type := .boolean, accessFlags := 26, slot := 1, constantValue := 0 }, { name := "LOG2_ARRAY_BOOLEAN_INDEX_SCALE", type := .int, accessFlags := 25, slot := 2, constantValue := 0 }, { name := "LOG2_ARRAY_BYTE_INDEX_SCALE", type := .int, accessFlags := 25, slot := 3, constantValue := 0 }, { name := "LOG2_ARRAY_CHAR_INDEX_SCALE", type := .int, accessFlags := 25, slot := 4, constantValue := 0 }, { name := "LOG2_ARRAY_SHORT_INDEX_SCALE", type := .int, accessFlags := 25, slot := 5, constantValue := 0 }, { name := "LOG2_ARRAY_INT_INDEX_SCALE", type := .int, accessFlags := 25, slot := 6, constantValue := 0 }, { name := "LOG2_ARRAY_LONG_INDEX_SCALE", type := .int, accessFlags := 25, slot := 7, constantValue := 0 }, { name := "LOG2_ARRAY_FLOAT_INDEX_SCALE", type := .int, accessFlags := 25, slot := 8, constantValue := 0 }, { name := "LOG2_ARRAY_DOUBLE_INDEX_SCALE", type := .int, accessFlags := 25, slot := 9, constantValue := 0 }, { name := "LOG2_BYTE_BIT_SIZE", type := .int, accessFlags := 26, slot := 10, constantValue := 0 }, { name := "T_BOOLEAN", type := .int, accessFlags := 25, slot := 11, constantValue := 0 }, { name := "T_CHAR", type := .int, accessFlags := 25, slot := 12, constantValue := 0 }, { name := "T_FLOAT", type := .int, accessFlags := 25, slot := 13, constantValue := 0 }, { name := "T_DOUBLE", type := .int, accessFlags := 25, slot := 14, constantValue := 0 }, { name := "T_BYTE", type := .int, accessFlags := 25, slot := 15, constantValue := 0 }, { name := "T_SHORT", type := .int, accessFlags := 25, slot := 16, constantValue := 0 }, { name := "T_INT", type := .int, accessFlags := 25, slot := 17, constantValue := 0 }, { name := "T_LONG", type := .int, accessFlags := 25, slot := 18, constantValue := 0 }, { name := "JLA", type := (.object "jdk/internal/access/JavaLangAccess"), accessFlags := 26, slot := 19, constantValue := 0 }, { name := "SOFT_MAX_ARRAY_LENGTH", type := .int, accessFlags := 25, slot := 20, constantValue := 0 }]
  methods := #[k23m0]
  instanceTypes := #[]
  staticTypes := #[(.object "jdk/internal/misc/Unsafe"), .boolean, .int, .int, .int, .int, .int, .int, .int, .int, .int, .int, .int, .int, .int, .int, .int, .int, .int, (.object "jdk/internal/access/JavaLangAccess"), .int]
  resolved := Array.replicate 378 none
  statics := none }

/-- the primitive byte -/
def k24 : Class := { plain "byte" none with kind := .primitive 'B', accessFlags := 0x411 }
/-- [B -/
def k25 : Class := { plain "[B" (some 0) with kind := .array 24 .byte, interfaces := #[9, 4], accessFlags := 1041 }

/-- the primitive int -/
def k26 : Class := { plain "int" none with kind := .primitive 'I', accessFlags := 0x411 }
/-- [I -/
def k27 : Class := { plain "[I" (some 0) with kind := .array 26 .int, interfaces := #[9, 4], accessFlags := 1041 }

/-- the primitive long -/
def k28 : Class := { plain "long" none with kind := .primitive 'J', accessFlags := 0x411 }
/-- [J -/
def k29 : Class := { plain "[J" (some 0) with kind := .array 28 .long, interfaces := #[9, 4], accessFlags := 1041 }

def heap : Heap := #[{ cls := 6, slots := #[.ref 4, .ref 5, .null], vm := .statics 6 },
  { cls := 10, slots := #[.int 0, .int 0, .int 0, .long 0, .null, .long 0, .int 1], vm := .statics 10 },
  { cls := 16, slots := #[.long 0, .int 1, .null, .int 0, .null, .int 0, .int 0], vm := .statics 16 },
  { cls := 18, slots := #[.null, .null, .null], vm := .statics 18 },
  { cls := 6, slots := #[.null, .int 0, .int 0], vm := .none },
  { cls := 6, slots := #[.null, .int 1, .int 0], vm := .none }]
def classes : Array Class := #[k0, k1, k2, k3, k4, k5, k6, k7, k8, k9, k10, k11, k12, k13, k14, k15, k16, k17, k18, k19, k20, k21, k22, k23, k24, k25, k26, k27, k28, k29]
def interned : List (Array UInt16 × Addr) := []
def slotsUsed : Nat := 26
def theMethod : MethodId := ⟨1, 2⟩
def args0 : Array Value := #[.long 5, .long 6, .int 5, .int 5, .int 5, .int 5]
def aboutOver (below : List Frame) : State where
  vm := { classes := classes, interned := interned.toArray }
  heap := heap
  slotsUsed := slotsUsed
  threads := #[{ frames := .invoking theMethod args0 :: below }]
def below0 : List Frame := [.native { method := ⟨0, 0⟩, args := #[] }]
def about1 : State := aboutOver below0
def p0 : Program := .bare "" "" ""
def e0 : Env := launch0.env 0 0 0
theorem w_frames : about1.frames = Frame.invoking theMethod args0 :: below0 := rfl
set_option maxRecDepth 65536 in
theorem w_args : argsFit about1.vm theMethod args0 = true := by decide +kernel
set_option maxRecDepth 65536 in
theorem w_heap : heapFits about1 = true := by decide +kernel
set_option maxRecDepth 65536 in
theorem w_runnable : about1.curStatus? = some .runnable := by decide +kernel
set_option maxRecDepth 65536 in
theorem w_alone : about1.alone = true := by decide +kernel
set_option maxRecDepth 65536 in
theorem w_named : about1.methodNamed? x = some theMethod := by decide +kernel
set_option maxRecDepth 65536 in
theorem w_hears : about1.hears theMethod below0 = true := by decide +kernel
set_option maxRecDepth 65536 in
theorem w_ripe : about1.ripe theMethod args0 below0 = true := by decide +kernel
theorem w_running : about1.status = .running := rfl
set_option maxRecDepth 65536 in
theorem w_room : about1.hasRoom e0.platform room_1 = true :=
  launch0.hasRoom_least _ room_1 (by decide +kernel) (by decide +kernel) (by decide +kernel) (by decide +kernel) (by decide +kernel) (by decide +kernel)
theorem allAtoms_all (ts : List Jvm.Cond) (a : Array Jvm.Value) (st : Jvm.State) : (allAtoms ts).before a st = ts.all (fun c => c.before a st) := by
  induction ts with
  | nil => rfl
  | cons c t ih =>
    show (Jvm.Cond.and c (allAtoms t)).before a st = _
    rw [Jvm.Cond.before_and, ih, List.all_cons]
def words1 : List Jvm.Cond := Jvm.Cond.code x code maxLocals ret :: tables_1
/-- a 'code' word, met by the world's own term for the bytes: nothing is compared byte by byte -/
theorem code_word {y : MethodName} {bytes : ByteArray} {mx : Nat} {rt : Option FieldType} {a : Array Value} {s : State} {m : MethodId} {meth : Method} {c : Code} (h1 : s.methodNamed? y = some m) (h2 : s.vm.method? m = some meth) (h3 : meth.code = some c) (h4 : c.code = bytes)
    (h5 : (c.maxLocals == mx && c.exceptionTable.isEmpty && decide (c.maxStack ≤ mostOperands) && decide (meth.sig.returnType = rt) && !meth.locks && decide (parseMethodDescriptor y.desc = some meth.sig)) = true) : (Jvm.Cond.code y bytes mx rt).before a s = true := by
  simp only [Bool.and_eq_true, beq_iff_eq, Bool.not_eq_true', decide_eq_true_eq] at h5
  obtain ⟨⟨⟨⟨⟨g1, g2⟩, g3⟩, g4⟩, g5⟩, g6⟩ := h5
  simp [Cond.before, Cond.holds, Cond.value, h1, h2, h3, h4, g1, g2, g3, g4, g5, g6]
def isCode : Jvm.Cond → Bool
  | .code _ _ _ _ => true
  | _ => false
theorem all_split {L : List Jvm.Cond} {P : Jvm.Cond → Bool} (h1 : L.all (fun c => isCode c || P c) = true) (h2 : ∀ c ∈ L.filter isCode, P c = true) : L.all P = true := by
  refine List.all_eq_true.mpr fun c hc => ?_
  have h := List.all_eq_true.mp h1 c hc
  rcases Bool.eq_false_or_eq_true (isCode c) with hi | hi
  · exact h2 c (List.mem_filter.mpr ⟨hc, hi⟩)
  · simpa [hi] using h
set_option maxRecDepth 65536 in
theorem w_c0 : (Jvm.Cond.code x code maxLocals ret).before args0 about1 = true := code_word (m := ⟨1, 2⟩) (meth := k1m2) (c := k1c2) (by decide +kernel) rfl rfl rfl (by decide +kernel)
set_option maxRecDepth 65536 in
theorem w_c1 : (Jvm.Cond.code ({ cls := "com/example/centile/centile/function/Keys", name := "<init>", desc := "()V" } : Jvm.MethodName) prog_11_method_1_code (1 : Nat) (Option.none : Option Jvm.ClassFile.FieldType)).before args0 about1 = true := code_word (m := ⟨7, 0⟩) (meth := k7m0) (c := k7c0) (by decide +kernel) rfl rfl rfl (by decide +kernel)
set_option maxRecDepth 65536 in
theorem w_c2 : (Jvm.Cond.code ({ cls := "java/lang/Object", name := "<init>", desc := "()V" } : Jvm.MethodName) object_method_1_code (1 : Nat) (Option.none : Option Jvm.ClassFile.FieldType)).before args0 about1 = true := code_word (m := ⟨0, 0⟩) (meth := k0m0) (c := k0c0) (by decide +kernel) rfl rfl rfl (by decide +kernel)
set_option maxRecDepth 65536 in
theorem w_c3 : (Jvm.Cond.code ({ cls := "com/example/centile/centile/function/Keys", name := "add", desc := "(J)V" } : Jvm.MethodName) prog_11_method_4_code (3 : Nat) (Option.none : Option Jvm.ClassFile.FieldType)).before args0 about1 = true := code_word (m := ⟨7, 3⟩) (meth := k7m3) (c := k7c3) (by decide +kernel) rfl rfl rfl (by decide +kernel)
set_option maxRecDepth 65536 in
theorem w_c4 : (Jvm.Cond.code ({ cls := "com/example/centile/centile/function/Keys", name := "ensureRoom", desc := "(I)V" } : Jvm.MethodName) prog_11_method_7_code (4 : Nat) (Option.none : Option Jvm.ClassFile.FieldType)).before args0 about1 = true := code_word (m := ⟨7, 6⟩) (meth := k7m6) (c := k7c6) (by decide +kernel) rfl rfl rfl (by decide +kernel)
set_option maxRecDepth 65536 in
theorem w_c5 : (Jvm.Cond.code ({ cls := "com/example/centile/centile/function/Keys", name := "at", desc := "(ILcom/example/centile/centile/function/Order;)J" } : Jvm.MethodName) prog_11_method_6_code (4 : Nat) (Option.some Jvm.ClassFile.FieldType.long)).before args0 about1 = true := code_word (m := ⟨7, 5⟩) (meth := k7m5) (c := k7c5) (by decide +kernel) rfl rfl rfl (by decide +kernel)
set_option maxRecDepth 65536 in
theorem w_c6 : (Jvm.Cond.code ({ cls := "com/example/centile/centile/function/Selection", name := "<init>", desc := "([JI)V" } : Jvm.MethodName) prog_15_method_1_code (3 : Nat) (Option.none : Option Jvm.ClassFile.FieldType)).before args0 about1 = true := code_word (m := ⟨8, 0⟩) (meth := k8m0) (c := k8c0) (by decide +kernel) rfl rfl rfl (by decide +kernel)
set_option maxRecDepth 65536 in
theorem w_c7 : (Jvm.Cond.code ({ cls := "java/util/BitSet", name := "<init>", desc := "(I)V" } : Jvm.MethodName) jdk_92_method_5_code (2 : Nat) (Option.none : Option Jvm.ClassFile.FieldType)).before args0 about1 = true := code_word (m := ⟨10, 3⟩) (meth := k10m3) (c := k10c3) (by decide +kernel) rfl rfl rfl (by decide +kernel)
set_option maxRecDepth 65536 in
theorem w_c8 : (Jvm.Cond.code ({ cls := "java/util/BitSet", name := "initWords", desc := "(I)V" } : Jvm.MethodName) jdk_92_method_6_code (2 : Nat) (Option.none : Option Jvm.ClassFile.FieldType)).before args0 about1 = true := code_word (m := ⟨10, 4⟩) (meth := k10m4) (c := k10c4) (by decide +kernel) rfl rfl rfl (by decide +kernel)
set_option maxRecDepth 65536 in
theorem w_c9 : (Jvm.Cond.code ({ cls := "java/util/BitSet", name := "wordIndex", desc := "(I)I" } : Jvm.MethodName) jdk_92_method_1_code (1 : Nat) (Option.some Jvm.ClassFile.FieldType.int)).before args0 about1 = true := code_word (m := ⟨10, 0⟩) (meth := k10m0) (c := k10c0) (by decide +kernel) rfl rfl rfl (by decide +kernel)
set_option maxRecDepth 65536 in
theorem w_c10 : (Jvm.Cond.code ({ cls := "java/util/BitSet", name := "set", desc := "(I)V" } : Jvm.MethodName) jdk_92_method_19_code (3 : Nat) (Option.none : Option Jvm.ClassFile.FieldType)).before args0 about1 = true := code_word (m := ⟨10, 8⟩) (meth := k10m8) (c := k10c8) (by decide +kernel) rfl rfl rfl (by decide +kernel)
set_option maxRecDepth 65536 in
theorem w_c11 : (Jvm.Cond.code ({ cls := "java/util/BitSet", name := "expandTo", desc := "(I)V" } : Jvm.MethodName) jdk_92_method_15_code (3 : Nat) (Option.none : Option Jvm.ClassFile.FieldType)).before args0 about1 = true := code_word (m := ⟨10, 6⟩) (meth := k10m6) (c := k10c6) (by decide +kernel) rfl rfl rfl (by decide +kernel)
set_option maxRecDepth 65536 in
theorem w_c12 : (Jvm.Cond.code ({ cls := "java/util/BitSet", name := "ensureCapacity", desc := "(I)V" } : Jvm.MethodName) jdk_92_method_14_code (3 : Nat) (Option.none : Option Jvm.ClassFile.FieldType)).before args0 about1 = true := code_word (m := ⟨10, 5⟩) (meth := k10m5) (c := k10c5) (by decide +kernel) rfl rfl rfl (by decide +kernel)
set_option maxRecDepth 65536 in
theorem w_c13 : (Jvm.Cond.code ({ cls := "java/util/BitSet", name := "checkInvariants", desc := "()V" } : Jvm.MethodName) jdk_92_method_2_code (1 : Nat) (Option.none : Option Jvm.ClassFile.FieldType)).before args0 about1 = true := code_word (m := ⟨10, 1⟩) (meth := k10m1) (c := k10c1) (by decide +kernel) rfl rfl rfl (by decide +kernel)
set_option maxRecDepth 65536 in
theorem w_c14 : (Jvm.Cond.code ({ cls := "com/example/centile/centile/function/Selection", name := "valueAt", desc := "(I)J" } : Jvm.MethodName) prog_15_method_2_code (2 : Nat) (Option.some Jvm.ClassFile.FieldType.long)).before args0 about1 = true := code_word (m := ⟨8, 1⟩) (meth := k8m1) (c := k8c1) (by decide +kernel) rfl rfl rfl (by decide +kernel)
set_option maxRecDepth 65536 in
theorem w_c15 : (Jvm.Cond.code ({ cls := "com/example/centile/centile/function/Selection", name := "settle", desc := "(I)V" } : Jvm.MethodName) prog_15_method_3_code (12 : Nat) (Option.none : Option Jvm.ClassFile.FieldType)).before args0 about1 = true := code_word (m := ⟨8, 2⟩) (meth := k8m2) (c := k8c2) (by decide +kernel) rfl rfl rfl (by decide +kernel)
set_option maxRecDepth 65536 in
theorem w_c16 : (Jvm.Cond.code ({ cls := "java/util/BitSet", name := "get", desc := "(I)Z" } : Jvm.MethodName) jdk_92_method_26_code (3 : Nat) (Option.some Jvm.ClassFile.FieldType.boolean)).before args0 about1 = true := code_word (m := ⟨10, 10⟩) (meth := k10m10) (c := k10c10) (by decide +kernel) rfl rfl rfl (by decide +kernel)
set_option maxRecDepth 65536 in
theorem w_c17 : (Jvm.Cond.code ({ cls := "com/example/centile/centile/function/Keys", name := "addAll", desc := "(Lcom/example/centile/centile/function/Keys;)V" } : Jvm.MethodName) prog_11_method_5_code (3 : Nat) (Option.none : Option Jvm.ClassFile.FieldType)).before args0 about1 = true := code_word (m := ⟨7, 4⟩) (meth := k7m4) (c := k7c4) (by decide +kernel) rfl rfl rfl (by decide +kernel)
set_option maxRecDepth 65536 in
theorem w_c18 : (Jvm.Cond.code ({ cls := "java/lang/Math", name := "max", desc := "(II)I" } : Jvm.MethodName) jdk_29_method_65_code (2 : Nat) (Option.some Jvm.ClassFile.FieldType.int)).before args0 about1 = true := code_word (m := ⟨12, 1⟩) (meth := k12m1) (c := k12c1) (by decide +kernel) rfl rfl rfl (by decide +kernel)
set_option maxRecDepth 65536 in
theorem w_c19 : (Jvm.Cond.code ({ cls := "java/util/Arrays", name := "copyOf", desc := "([JI)[J" } : Jvm.MethodName) jdk_65_method_124_code (3 : Nat) (Option.some (Jvm.ClassFile.FieldType.array Jvm.ClassFile.FieldType.long))).before args0 about1 = true := code_word (m := ⟨13, 3⟩) (meth := k13m3) (c := k13c3) (by decide +kernel) rfl rfl rfl (by decide +kernel)
set_option maxRecDepth 65536 in
theorem w_c20 : (Jvm.Cond.code ({ cls := "java/lang/Math", name := "min", desc := "(II)I" } : Jvm.MethodName) jdk_29_method_69_code (2 : Nat) (Option.some Jvm.ClassFile.FieldType.int)).before args0 about1 = true := code_word (m := ⟨12, 2⟩) (meth := k12m2) (c := k12c2) (by decide +kernel) rfl rfl rfl (by decide +kernel)
set_option maxRecDepth 65536 in
theorem w_c21 : (Jvm.Cond.code ({ cls := "java/lang/String", name := "length", desc := "()I" } : Jvm.MethodName) jdk_42_method_54_code (1 : Nat) (Option.some Jvm.ClassFile.FieldType.int)).before args0 about1 = true := code_word (m := ⟨16, 1⟩) (meth := k16m1) (c := k16c1) (by decide +kernel) rfl rfl rfl (by decide +kernel)
set_option maxRecDepth 65536 in
theorem w_c22 : (Jvm.Cond.code ({ cls := "java/lang/String", name := "coder", desc := "()B" } : Jvm.MethodName) jdk_42_method_152_code (1 : Nat) (Option.some Jvm.ClassFile.FieldType.byte)).before args0 about1 = true := code_word (m := ⟨16, 3⟩) (meth := k16m3) (c := k16c3) (by decide +kernel) rfl rfl rfl (by decide +kernel)
set_option maxRecDepth 65536 in
theorem w_c23 : (Jvm.Cond.code ({ cls := "com/example/centile/centile/function/Keys", name := "size", desc := "()I" } : Jvm.MethodName) prog_11_method_2_code (1 : Nat) (Option.some Jvm.ClassFile.FieldType.int)).before args0 about1 = true := code_word (m := ⟨7, 1⟩) (meth := k7m1) (c := k7c1) (by decide +kernel) rfl rfl rfl (by decide +kernel)
set_option maxRecDepth 65536 in
theorem w_c24 : (Jvm.Cond.code ({ cls := "com/example/centile/centile/function/Keys", name := "get", desc := "(I)J" } : Jvm.MethodName) prog_11_method_3_code (2 : Nat) (Option.some Jvm.ClassFile.FieldType.long)).before args0 about1 = true := code_word (m := ⟨7, 2⟩) (meth := k7m2) (c := k7c2) (by decide +kernel) rfl rfl rfl (by decide +kernel)
set_option maxRecDepth 65536 in
theorem w_c25 : (Jvm.Cond.code ({ cls := "com/example/centile/centile/function/KeysAddAllPinLaw", name := "pick", desc := "(Ljava/lang/String;IJJ)J" } : Jvm.MethodName) method_2_code (6 : Nat) (Option.some Jvm.ClassFile.FieldType.long)).before args0 about1 = true := code_word (m := ⟨1, 1⟩) (meth := k1m1) (c := k1c1) (by decide +kernel) rfl rfl rfl (by decide +kernel)
set_option maxRecDepth 65536 in
theorem w_c26 : (Jvm.Cond.code ({ cls := "java/lang/String", name := "charAt", desc := "(I)C" } : Jvm.MethodName) jdk_42_method_56_code (2 : Nat) (Option.some Jvm.ClassFile.FieldType.char)).before args0 about1 = true := code_word (m := ⟨16, 2⟩) (meth := k16m2) (c := k16c2) (by decide +kernel) rfl rfl rfl (by decide +kernel)
set_option maxRecDepth 65536 in
theorem w_c27 : (Jvm.Cond.code ({ cls := "java/lang/String", name := "isLatin1", desc := "()Z" } : Jvm.MethodName) jdk_42_method_154_code (1 : Nat) (Option.some Jvm.ClassFile.FieldType.boolean)).before args0 about1 = true := code_word (m := ⟨16, 4⟩) (meth := k16m4) (c := k16c4) (by decide +kernel) rfl rfl rfl (by decide +kernel)
set_option maxRecDepth 65536 in
theorem w_c28 : (Jvm.Cond.code ({ cls := "java/lang/StringLatin1", name := "charAt", desc := "([BI)C" } : Jvm.MethodName) jdk_43_method_2_code (2 : Nat) (Option.some Jvm.ClassFile.FieldType.char)).before args0 about1 = true := code_word (m := ⟨17, 1⟩) (meth := k17m1) (c := k17c1) (by decide +kernel) rfl rfl rfl (by decide +kernel)
set_option maxRecDepth 65536 in
theorem w_c29 : (Jvm.Cond.code ({ cls := "java/lang/String", name := "checkIndex", desc := "(II)V" } : Jvm.MethodName) jdk_42_method_155_code (2 : Nat) (Option.none : Option Jvm.ClassFile.FieldType)).before args0 about1 = true := code_word (m := ⟨16, 5⟩) (meth := k16m5) (c := k16c5) (by decide +kernel) rfl rfl rfl (by decide +kernel)
set_option maxRecDepth 65536 in
theorem w_c30 : (Jvm.Cond.code ({ cls := "jdk/internal/util/Preconditions", name := "checkIndex", desc := "(IILjava/util/function/BiFunction;)I" } : Jvm.MethodName) jdk_41_method_11_code (3 : Nat) (Option.some Jvm.ClassFile.FieldType.int)).before args0 about1 = true := code_word (m := ⟨18, 1⟩) (meth := k18m1) (c := k18c1) (by decide +kernel) rfl rfl rfl (by decide +kernel)
set_option maxRecDepth 65536 in
theorem w_c31 : (Jvm.Cond.code ({ cls := "java/util/BitSet", name := "previousSetBit", desc := "(I)I" } : Jvm.MethodName) jdk_92_method_30_code (5 : Nat) (Option.some Jvm.ClassFile.FieldType.int)).before args0 about1 = true := code_word (m := ⟨10, 12⟩) (meth := k10m12) (c := k10c12) (by decide +kernel) rfl rfl rfl (by decide +kernel)
set_option maxRecDepth 65536 in
theorem w_c32 : (Jvm.Cond.code ({ cls := "java/lang/Long", name := "numberOfLeadingZeros", desc := "(J)I" } : Jvm.MethodName) jdk_35_method_48_code (3 : Nat) (Option.some Jvm.ClassFile.FieldType.int)).before args0 about1 = true := code_word (m := ⟨20, 0⟩) (meth := k20m0) (c := k20c0) (by decide +kernel) rfl rfl rfl (by decide +kernel)
set_option maxRecDepth 65536 in
theorem w_c33 : (Jvm.Cond.code ({ cls := "java/lang/Integer", name := "numberOfLeadingZeros", desc := "(I)I" } : Jvm.MethodName) jdk_33_method_47_code (2 : Nat) (Option.some Jvm.ClassFile.FieldType.int)).before args0 about1 = true := code_word (m := ⟨21, 0⟩) (meth := k21m0) (c := k21c0) (by decide +kernel) rfl rfl rfl (by decide +kernel)
set_option maxRecDepth 65536 in
theorem w_c34 : (Jvm.Cond.code ({ cls := "java/util/BitSet", name := "nextSetBit", desc := "(I)I" } : Jvm.MethodName) jdk_92_method_28_code (5 : Nat) (Option.some Jvm.ClassFile.FieldType.int)).before args0 about1 = true := code_word (m := ⟨10, 11⟩) (meth := k10m11) (c := k10c11) (by decide +kernel) rfl rfl rfl (by decide +kernel)
set_option maxRecDepth 65536 in
theorem w_c35 : (Jvm.Cond.code ({ cls := "java/lang/Long", name := "numberOfTrailingZeros", desc := "(J)I" } : Jvm.MethodName) jdk_35_method_49_code (3 : Nat) (Option.some Jvm.ClassFile.FieldType.int)).before args0 about1 = true := code_word (m := ⟨20, 1⟩) (meth := k20m1) (c := k20c1) (by decide +kernel) rfl rfl rfl (by decide +kernel)
set_option maxRecDepth 65536 in
theorem w_c36 : (Jvm.Cond.code ({ cls := "java/lang/Integer", name := "numberOfTrailingZeros", desc := "(I)I" } : Jvm.MethodName) jdk_33_method_48_code (2 : Nat) (Option.some Jvm.ClassFile.FieldType.int)).before args0 about1 = true := code_word (m := ⟨21, 1⟩) (meth := k21m1) (c := k21c1) (by decide +kernel) rfl rfl rfl (by decide +kernel)
set_option maxRecDepth 65536 in
theorem w_c37 : (Jvm.Cond.code ({ cls := "java/util/Arrays", name := "sort", desc := "([JII)V" } : Jvm.MethodName) jdk_65_method_5_code (3 : Nat) (Option.none : Option Jvm.ClassFile.FieldType)).before args0 about1 = true := code_word (m := ⟨13, 1⟩) (meth := k13m1) (c := k13c1) (by decide +kernel) rfl rfl rfl (by decide +kernel)
set_option maxRecDepth 65536 in
theorem w_c38 : (Jvm.Cond.code ({ cls := "java/util/Arrays", name := "rangeCheck", desc := "(III)V" } : Jvm.MethodName) jdk_65_method_30_code (3 : Nat) (Option.none : Option Jvm.ClassFile.FieldType)).before args0 about1 = true := code_word (m := ⟨13, 2⟩) (meth := k13m2) (c := k13c2) (by decide +kernel) rfl rfl rfl (by decide +kernel)
set_option maxRecDepth 65536 in
theorem w_c39 : (Jvm.Cond.code ({ cls := "java/util/DualPivotQuicksort", name := "sort", desc := "([JIII)V" } : Jvm.MethodName) jdk_2529_method_12_code (7 : Nat) (Option.none : Option Jvm.ClassFile.FieldType)).before args0 about1 = true := code_word (m := ⟨22, 1⟩) (meth := k22m1) (c := k22c1) (by decide +kernel) rfl rfl rfl (by decide +kernel)
set_option maxRecDepth 65536 in
theorem w_c40 : (Jvm.Cond.code ({ cls := "java/util/DualPivotQuicksort", name := "sort", desc := "(Ljava/util/DualPivotQuicksort$Sorter;[JIII)V" } : Jvm.MethodName) jdk_2529_method_13_code (25 : Nat) (Option.none : Option Jvm.ClassFile.FieldType)).before args0 about1 = true := code_word (m := ⟨22, 2⟩) (meth := k22m2) (c := k22c2) (by decide +kernel) rfl rfl rfl (by decide +kernel)
set_option maxRecDepth 65536 in
theorem w_c41 : (Jvm.Cond.code ({ cls := "java/util/DualPivotQuicksort", name := "insertionSort", desc := "([JII)V" } : Jvm.MethodName) jdk_2529_method_15_code (7 : Nat) (Option.none : Option Jvm.ClassFile.FieldType)).before args0 about1 = true := code_word (m := ⟨22, 3⟩) (meth := k22m3) (c := k22c3) (by decide +kernel) rfl rfl rfl (by decide +kernel)
set_option maxRecDepth 65536 in
theorem w_c42 : (Jvm.Cond.code ({ cls := "java/util/BitSet", name := "set", desc := "(II)V" } : Jvm.MethodName) jdk_92_method_21_code (10 : Nat) (Option.none : Option Jvm.ClassFile.FieldType)).before args0 about1 = true := code_word (m := ⟨10, 9⟩) (meth := k10m9) (c := k10c9) (by decide +kernel) rfl rfl rfl (by decide +kernel)
set_option maxRecDepth 65536 in
theorem w_c43 : (Jvm.Cond.code ({ cls := "java/util/BitSet", name := "checkRange", desc := "(II)V" } : Jvm.MethodName) jdk_92_method_16_code (2 : Nat) (Option.none : Option Jvm.ClassFile.FieldType)).before args0 about1 = true := code_word (m := ⟨10, 7⟩) (meth := k10m7) (c := k10c7) (by decide +kernel) rfl rfl rfl (by decide +kernel)
def codes1 : List Jvm.Cond := [Jvm.Cond.code x code maxLocals ret, Jvm.Cond.code ({ cls := "com/example/centile/centile/function/Keys", name := "<init>", desc := "()V" } : Jvm.MethodName) prog_11_method_1_code (1 : Nat) (Option.none : Option Jvm.ClassFile.FieldType), Jvm.Cond.code ({ cls := "java/lang/Object", name := "<init>", desc := "()V" } : Jvm.MethodName) object_method_1_code (1 : Nat) (Option.none : Option Jvm.ClassFile.FieldType), Jvm.Cond.code ({ cls := "com/example/centile/centile/function/Keys", name := "add", desc := "(J)V" } : Jvm.MethodName) prog_11_method_4_code (3 : Nat) (Option.none : Option Jvm.ClassFile.FieldType), Jvm.Cond.code ({ cls := "com/example/centile/centile/function/Keys", name := "ensureRoom", desc := "(I)V" } : Jvm.MethodName) prog_11_method_7_code (4 : Nat) (Option.none : Option Jvm.ClassFile.FieldType), Jvm.Cond.code ({ cls := "com/example/centile/centile/function/Keys", name := "at", desc := "(ILcom/example/centile/centile/function/Order;)J" } : Jvm.MethodName) prog_11_method_6_code (4 : Nat) (Option.some Jvm.ClassFile.FieldType.long), Jvm.Cond.code ({ cls := "com/example/centile/centile/function/Selection", name := "<init>", desc := "([JI)V" } : Jvm.MethodName) prog_15_method_1_code (3 : Nat) (Option.none : Option Jvm.ClassFile.FieldType), Jvm.Cond.code ({ cls := "java/util/BitSet", name := "<init>", desc := "(I)V" } : Jvm.MethodName) jdk_92_method_5_code (2 : Nat) (Option.none : Option Jvm.ClassFile.FieldType), Jvm.Cond.code ({ cls := "java/util/BitSet", name := "initWords", desc := "(I)V" } : Jvm.MethodName) jdk_92_method_6_code (2 : Nat) (Option.none : Option Jvm.ClassFile.FieldType), Jvm.Cond.code ({ cls := "java/util/BitSet", name := "wordIndex", desc := "(I)I" } : Jvm.MethodName) jdk_92_method_1_code (1 : Nat) (Option.some Jvm.ClassFile.FieldType.int), Jvm.Cond.code ({ cls := "java/util/BitSet", name := "set", desc := "(I)V" } : Jvm.MethodName) jdk_92_method_19_code (3 : Nat) (Option.none : Option Jvm.ClassFile.FieldType), Jvm.Cond.code ({ cls := "java/util/BitSet", name := "expandTo", desc := "(I)V" } : Jvm.MethodName) jdk_92_method_15_code (3 : Nat) (Option.none : Option Jvm.ClassFile.FieldType), Jvm.Cond.code ({ cls := "java/util/BitSet", name := "ensureCapacity", desc := "(I)V" } : Jvm.MethodName) jdk_92_method_14_code (3 : Nat) (Option.none : Option Jvm.ClassFile.FieldType), Jvm.Cond.code ({ cls := "java/util/BitSet", name := "checkInvariants", desc := "()V" } : Jvm.MethodName) jdk_92_method_2_code (1 : Nat) (Option.none : Option Jvm.ClassFile.FieldType), Jvm.Cond.code ({ cls := "com/example/centile/centile/function/Selection", name := "valueAt", desc := "(I)J" } : Jvm.MethodName) prog_15_method_2_code (2 : Nat) (Option.some Jvm.ClassFile.FieldType.long), Jvm.Cond.code ({ cls := "com/example/centile/centile/function/Selection", name := "settle", desc := "(I)V" } : Jvm.MethodName) prog_15_method_3_code (12 : Nat) (Option.none : Option Jvm.ClassFile.FieldType), Jvm.Cond.code ({ cls := "java/util/BitSet", name := "get", desc := "(I)Z" } : Jvm.MethodName) jdk_92_method_26_code (3 : Nat) (Option.some Jvm.ClassFile.FieldType.boolean), Jvm.Cond.code ({ cls := "com/example/centile/centile/function/Keys", name := "addAll", desc := "(Lcom/example/centile/centile/function/Keys;)V" } : Jvm.MethodName) prog_11_method_5_code (3 : Nat) (Option.none : Option Jvm.ClassFile.FieldType), Jvm.Cond.code ({ cls := "java/lang/Math", name := "max", desc := "(II)I" } : Jvm.MethodName) jdk_29_method_65_code (2 : Nat) (Option.some Jvm.ClassFile.FieldType.int), Jvm.Cond.code ({ cls := "java/util/Arrays", name := "copyOf", desc := "([JI)[J" } : Jvm.MethodName) jdk_65_method_124_code (3 : Nat) (Option.some (Jvm.ClassFile.FieldType.array Jvm.ClassFile.FieldType.long)), Jvm.Cond.code ({ cls := "java/lang/Math", name := "min", desc := "(II)I" } : Jvm.MethodName) jdk_29_method_69_code (2 : Nat) (Option.some Jvm.ClassFile.FieldType.int), Jvm.Cond.code ({ cls := "java/lang/String", name := "length", desc := "()I" } : Jvm.MethodName) jdk_42_method_54_code (1 : Nat) (Option.some Jvm.ClassFile.FieldType.int), Jvm.Cond.code ({ cls := "java/lang/String", name := "coder", desc := "()B" } : Jvm.MethodName) jdk_42_method_152_code (1 : Nat) (Option.some Jvm.ClassFile.FieldType.byte), Jvm.Cond.code ({ cls := "com/example/centile/centile/function/Keys", name := "size", desc := "()I" } : Jvm.MethodName) prog_11_method_2_code (1 : Nat) (Option.some Jvm.ClassFile.FieldType.int), Jvm.Cond.code ({ cls := "com/example/centile/centile/function/Keys", name := "get", desc := "(I)J" } : Jvm.MethodName) prog_11_method_3_code (2 : Nat) (Option.some Jvm.ClassFile.FieldType.long), Jvm.Cond.code ({ cls := "com/example/centile/centile/function/KeysAddAllPinLaw", name := "pick", desc := "(Ljava/lang/String;IJJ)J" } : Jvm.MethodName) method_2_code (6 : Nat) (Option.some Jvm.ClassFile.FieldType.long), Jvm.Cond.code ({ cls := "java/lang/String", name := "charAt", desc := "(I)C" } : Jvm.MethodName) jdk_42_method_56_code (2 : Nat) (Option.some Jvm.ClassFile.FieldType.char), Jvm.Cond.code ({ cls := "java/lang/String", name := "isLatin1", desc := "()Z" } : Jvm.MethodName) jdk_42_method_154_code (1 : Nat) (Option.some Jvm.ClassFile.FieldType.boolean), Jvm.Cond.code ({ cls := "java/lang/StringLatin1", name := "charAt", desc := "([BI)C" } : Jvm.MethodName) jdk_43_method_2_code (2 : Nat) (Option.some Jvm.ClassFile.FieldType.char), Jvm.Cond.code ({ cls := "java/lang/String", name := "checkIndex", desc := "(II)V" } : Jvm.MethodName) jdk_42_method_155_code (2 : Nat) (Option.none : Option Jvm.ClassFile.FieldType), Jvm.Cond.code ({ cls := "jdk/internal/util/Preconditions", name := "checkIndex", desc := "(IILjava/util/function/BiFunction;)I" } : Jvm.MethodName) jdk_41_method_11_code (3 : Nat) (Option.some Jvm.ClassFile.FieldType.int), Jvm.Cond.code ({ cls := "java/util/BitSet", name := "previousSetBit", desc := "(I)I" } : Jvm.MethodName) jdk_92_method_30_code (5 : Nat) (Option.some Jvm.ClassFile.FieldType.int), Jvm.Cond.code ({ cls := "java/lang/Long", name := "numberOfLeadingZeros", desc := "(J)I" } : Jvm.MethodName) jdk_35_method_48_code (3 : Nat) (Option.some Jvm.ClassFile.FieldType.int), Jvm.Cond.code ({ cls := "java/lang/Integer", name := "numberOfLeadingZeros", desc := "(I)I" } : Jvm.MethodName) jdk_33_method_47_code (2 : Nat) (Option.some Jvm.ClassFile.FieldType.int), Jvm.Cond.code ({ cls := "java/util/BitSet", name := "nextSetBit", desc := "(I)I" } : Jvm.MethodName) jdk_92_method_28_code (5 : Nat) (Option.some Jvm.ClassFile.FieldType.int), Jvm.Cond.code ({ cls := "java/lang/Long", name := "numberOfTrailingZeros", desc := "(J)I" } : Jvm.MethodName) jdk_35_method_49_code (3 : Nat) (Option.some Jvm.ClassFile.FieldType.int), Jvm.Cond.code ({ cls := "java/lang/Integer", name := "numberOfTrailingZeros", desc := "(I)I" } : Jvm.MethodName) jdk_33_method_48_code (2 : Nat) (Option.some Jvm.ClassFile.FieldType.int), Jvm.Cond.code ({ cls := "java/util/Arrays", name := "sort", desc := "([JII)V" } : Jvm.MethodName) jdk_65_method_5_code (3 : Nat) (Option.none : Option Jvm.ClassFile.FieldType), Jvm.Cond.code ({ cls := "java/util/Arrays", name := "rangeCheck", desc := "(III)V" } : Jvm.MethodName) jdk_65_method_30_code (3 : Nat) (Option.none : Option Jvm.ClassFile.FieldType), Jvm.Cond.code ({ cls := "java/util/DualPivotQuicksort", name := "sort", desc := "([JIII)V" } : Jvm.MethodName) jdk_2529_method_12_code (7 : Nat) (Option.none : Option Jvm.ClassFile.FieldType), Jvm.Cond.code ({ cls := "java/util/DualPivotQuicksort", name := "sort", desc := "(Ljava/util/DualPivotQuicksort$Sorter;[JIII)V" } : Jvm.MethodName) jdk_2529_method_13_code (25 : Nat) (Option.none : Option Jvm.ClassFile.FieldType), Jvm.Cond.code ({ cls := "java/util/DualPivotQuicksort", name := "insertionSort", desc := "([JII)V" } : Jvm.MethodName) jdk_2529_method_15_code (7 : Nat) (Option.none : Option Jvm.ClassFile.FieldType), Jvm.Cond.code ({ cls := "java/util/BitSet", name := "set", desc := "(II)V" } : Jvm.MethodName) jdk_92_method_21_code (10 : Nat) (Option.none : Option Jvm.ClassFile.FieldType), Jvm.Cond.code ({ cls := "java/util/BitSet", name := "checkRange", desc := "(II)V" } : Jvm.MethodName) jdk_92_method_16_code (2 : Nat) (Option.none : Option Jvm.ClassFile.FieldType)]
set_option maxRecDepth 65536 in
theorem codes_eq : words1.filter isCode = codes1 := rfl
theorem w_codes : ∀ c ∈ words1.filter isCode, c.before args0 about1 = true := by
  rw [codes_eq]
  intro c hc
  simp only [codes1, List.mem_cons, List.not_mem_nil, or_false] at hc
  rcases hc with rfl | rfl | rfl | rfl | rfl | rfl | rfl | rfl | rfl | rfl | rfl | rfl | rfl | rfl | rfl | rfl | rfl | rfl | rfl | rfl | rfl | rfl | rfl | rfl | rfl | rfl | rfl | rfl | rfl | rfl | rfl | rfl | rfl | rfl | rfl | rfl | rfl | rfl | rfl | rfl | rfl | rfl | rfl | rfl
  · exact w_c0
  · exact w_c1
  · exact w_c2
  · exact w_c3
  · exact w_c4
  · exact w_c5
  · exact w_c6
  · exact w_c7
  · exact w_c8
  · exact w_c9
  · exact w_c10
  · exact w_c11
  · exact w_c12
  · exact w_c13
  · exact w_c14
  · exact w_c15
  · exact w_c16
  · exact w_c17
  · exact w_c18
  · exact w_c19
  · exact w_c20
  · exact w_c21
  · exact w_c22
  · exact w_c23
  · exact w_c24
  · exact w_c25
  · exact w_c26
  · exact w_c27
  · exact w_c28
  · exact w_c29
  · exact w_c30
  · exact w_c31
  · exact w_c32
  · exact w_c33
  · exact w_c34
  · exact w_c35
  · exact w_c36
  · exact w_c37
  · exact w_c38
  · exact w_c39
  · exact w_c40
  · exact w_c41
  · exact w_c42
  · exact w_c43
set_option maxRecDepth 65536 in
theorem w_t1 : (words1.take 24).all (fun c => isCode c || c.before args0 about1) = true := by decide +kernel
set_option maxRecDepth 65536 in
theorem w_t2 : ((words1.drop 24).take 24).all (fun c => isCode c || c.before args0 about1) = true := by decide +kernel
set_option maxRecDepth 65536 in
theorem w_t3 : (((words1.drop 24).drop 24).take 24).all (fun c => isCode c || c.before args0 about1) = true := by decide +kernel
set_option maxRecDepth 65536 in
theorem w_t4 : ((((words1.drop 24).drop 24).drop 24).take 24).all (fun c => isCode c || c.before args0 about1) = true := by decide +kernel
set_option maxRecDepth 65536 in
theorem w_t5 : (((((words1.drop 24).drop 24).drop 24).drop 24).take 24).all (fun c => isCode c || c.before args0 about1) = true := by decide +kernel
set_option maxRecDepth 65536 in
theorem w_t6 : ((((((words1.drop 24).drop 24).drop 24).drop 24).drop 24).take 24).all (fun c => isCode c || c.before args0 about1) = true := by decide +kernel
set_option maxRecDepth 65536 in
theorem w_t7 : (((((((words1.drop 24).drop 24).drop 24).drop 24).drop 24).drop 24).take 24).all (fun c => isCode c || c.before args0 about1) = true := by decide +kernel
set_option maxRecDepth 65536 in
theorem w_t8 : ((((((((words1.drop 24).drop 24).drop 24).drop 24).drop 24).drop 24).drop 24).take 24).all (fun c => isCode c || c.before args0 about1) = true := by decide +kernel
set_option maxRecDepth 65536 in
theorem w_t9 : (((((((((words1.drop 24).drop 24).drop 24).drop 24).drop 24).drop 24).drop 24).drop 24).take 24).all (fun c => isCode c || c.before args0 about1) = true := by decide +kernel
set_option maxRecDepth 65536 in
theorem w_t10 : (((((((((words1.drop 24).drop 24).drop 24).drop 24).drop 24).drop 24).drop 24).drop 24).drop 24).all (fun c => isCode c || c.before args0 about1) = true := by decide +kernel
theorem w_tables : (allAtoms (Jvm.Cond.code x code maxLocals ret :: tables_1)).before args0 about1 = true := by
  rw [allAtoms_all]
  show words1.all (fun c => c.before args0 about1) = true
  refine all_split ?_ w_codes
  rw [← List.take_append_drop 24 words1, List.all_append, w_t1, ← List.take_append_drop 24 (words1.drop 24), List.all_append, w_t2, ← List.take_append_drop 24 ((words1.drop 24).drop 24), List.all_append, w_t3, ← List.take_append_drop 24 (((words1.drop 24).drop 24).drop 24), List.all_append, w_t4, ← List.take_append_drop 24 ((((words1.drop 24).drop 24).drop 24).drop 24), List.all_append, w_t5, ← List.take_append_drop 24 (((((words1.drop 24).drop 24).drop 24).drop 24).drop 24), List.all_append, w_t6, ← List.take_append_drop 24 ((((((words1.drop 24).drop 24).drop 24).drop 24).drop 24).drop 24), List.all_append, w_t7, ← List.take_append_drop 24 (((((((words1.drop 24).drop 24).drop 24).drop 24).drop 24).drop 24).drop 24), List.all_append, w_t8, ← List.take_append_drop 24 ((((((((words1.drop 24).drop 24).drop 24).drop 24).drop 24).drop 24).drop 24).drop 24), List.all_append, w_t9, w_t10]
  rfl
set_option maxRecDepth 65536 in
theorem w_rest : rest_1_c.before args0 about1 = true := by decide +kernel
set_option maxRecDepth 65536 in
theorem w_case : (Jvm.Cond.and given_1 narrow_1).before args0 about1 = true := by decide +kernel
set_option maxRecDepth 65536 in
theorem w_consts : constsHeld consts_1 about1 := Jvm.Lit.constsHeldB_iff.mp (by decide +kernel)
theorem w_applies : (headSpec (Jvm.Cond.code x code maxLocals ret :: tables_1) room_1).applies x e0.platform about1 = true :=
  (Spec.applies_iff w_frames).mpr ⟨w_running, w_runnable, w_alone, w_named, w_hears, w_ripe, w_room, w_tables⟩
theorem atStart : AtStart classFile x code maxLocals ret World_1 tables_1 room_1 Calls_1 rest_1 Pre_1 launch0 p0 e0 about1 theMethod args0 below0 :=
  ⟨lists_1, trivial, launch0.admits_env _ _ _, launch0.least_env, fairChoices_fair.cas, fairChoices_fair.clock, w_frames, w_args, w_heap, w_applies, ⟨w_consts, trivial⟩, w_rest, w_case⟩
end start1
theorem witness_1 : WitnessClaimed_1 := ⟨start1.p0, start1.e0, start1.about1, start1.theMethod, start1.args0, start1.below0, start1.atStart⟩
end Jvm.Pilot.@@N@@
